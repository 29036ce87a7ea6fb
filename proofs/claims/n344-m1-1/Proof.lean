import JvmDerived
import JvmDerived.Pilot.@@N@@Statement
import JvmDerived.Pilot.@@N@@Code
set_option linter.unusedVariables false
set_option linter.unusedSimpArgs false
namespace Jvm.RoadKit
open Sem ClassFile Op Lib Jvm.Stand Jvm.Free Jvm.LawKit
section New
variable {p : Program} {l : Launch} {e : Env} {R : Room} {s : State} {m : MethodId} {args : Array Value} {below : List Frame} {meth : Method} {c : Code} {T : State} {locs : List Loc} {cells slots : Nat}
theorem retI (X : Stand p l e R s m args below meth c T locs cells slots) (hx : p.tables.exec = Jvm.exec) {pc : Nat} {Ls : Array Slot} {z : Int32} {rest : List Value} (hret : meth.sig.returnType = some .int) (hd : decode c.code pc = .ok (.ireturn, 1)) {fs : List Frame}
    (hl : ∀ (f : JFrame) (acts : List Action), f.method = m → f.locked = none → f.entered = [] → (doReturn e (T.setTop f) acts (some (.int z))).1 = T.setFrames fs) : Steps p.tables e below (T.setTop (mkF m pc Ls (.int z :: rest))) (T.setFrames fs) := by
  have hm' : T.vm.method? m = some meth := X.method'
  have hn : narrow .int (.int z) = .int z := rfl
  show Steps p.tables e below (T.setTop { method := m, pc := pc, locals := Ls, stack := _ :: rest, locked := none }) _
  jvm_step X.here [X.here.top, hx, hd, hm', hret, hn]
  first | (intro acts; rw [hl _ acts rfl rfl rfl]) | rw [hl _ _ rfl rfl rfl]
  exact Steps.refl _
theorem Arr.at_ {Z : State} {h : Heap} {a : Addr} {cl : Cell} {ty : FieldType} (A : Arr Z h a cl ty) {U : State} (q : U.heap = h) : U.heap[a]? = some cl := by rw [q]; exact A.1
end New
end Jvm.RoadKit
/- laws to paste: Road.backV, Road.eqW (cut by pick.py; bodies as the Statement names them) -/
namespace Jvm.Pilot.@@N@@
namespace StrChars
open Jvm Sem ClassFile Op Lib Jvm.Stand Jvm.Free.XT Jvm.Free.ALB Jvm.Free.JM Jvm.Free
open Jvm.Lib.Cold (StaticIs)
/-- a char array whose places are chars -/
def Ch (a : Addr) (A : Cell) (U : State) : Prop := Arr .char a A U ∧ Typed .char A
theorem Ch.mv {a : Addr} {A : Cell} {U U' : State} (h : Ch a A U) (hal : U.vm.Alike U'.vm) (hh : U'.heap = U.heap) : Ch a A U' := ⟨h.1.mv hal hh, h.2⟩
theorem Ch.keep {a : Addr} {A : Cell} {U U' : State} (h : Ch a A U) (hal : U.vm.Alike U'.vm) (hk : U'.heap[a]? = some A) : Ch a A U' := ⟨h.1.keep hal hk, h.2⟩
/-- what place i of a char[]'s cell holds -/
def cv (A : Cell) (i : Nat) : Int32 := match A.slots[i]? with | some (.int x) => x | _ => 0
theorem Ch.get {a : Addr} {A : Cell} {U : State} (h : Ch a A U) {i : Nat} (hi : i < A.slots.size) : A.slots[i]? = some (.int (cv A i)) := by
  have e := Array.getElem?_eq_getElem hi
  have f := h.2 i _ e
  unfold cv; rw [e]
  generalize A.slots[i] = v at f
  cases v <;> simp [fits] at f ⊢
/-- the byte that i2b leaves of a char -/
def lo8 (x : Int32) : Int32 := x.toInt8.toInt32
theorem fits_lo8 (y : Int32) : fits .byte (.int (lo8 y)) = true := by
  have h1 := y.toInt8.le_toInt
  have h2 := y.toInt8.toInt_lt
  simp only [lo8, fits, Bool.and_eq_true, decide_eq_true_eq, Int32.le_iff_toInt_le, Int8.toInt_toInt32, show (-128 : Int32).toInt = -128 from by decide, show (127 : Int32).toInt = 127 from by decide]
  omega
/-- A' is A but that each place j of lo .. hi - 1 holds f j -/
def Laid (A A' : Cell) (lo hi : Nat) (f : Nat → Value) : Prop := A'.cls = A.cls ∧ A'.vm = A.vm ∧ A'.slots.size = A.slots.size ∧ ∀ i, A'.slots[i]? = if lo ≤ i ∧ i < hi then some (f i) else A.slots[i]?
theorem Laid.zero (A : Cell) (lo : Nat) (f : Nat → Value) : Laid A A lo (lo + 0) f := ⟨rfl, rfl, rfl, fun i => by rw [if_neg (by omega)]⟩
theorem Laid.step {A Ak : Cell} {lo k : Nat} {f : Nat → Value} {v : Value} (h : Laid A Ak lo k f) (hlo : lo ≤ k) (hk : k < Ak.slots.size) (hv : v = f k) : Laid A (Ak.setSlot k v) lo (k + 1) f := by
  refine ⟨h.1, h.2.1, by simpa [Cell.setSlot] using h.2.2.1, fun i => ?_⟩
  by_cases e : k = i
  · subst e; rw [Cell.slots_setSlot_self v hk, if_pos (by omega), hv]
  · rw [Cell.slots_setSlot_ne v e, h.2.2.2 i]
    by_cases q : lo ≤ i ∧ i < k
    · rw [if_pos q, if_pos (by omega)]
    · rw [if_neg q, if_neg (by omega)]
def U16 : String := "java/lang/StringUTF16"
namespace Cmp5
def yN : MethodName := ⟨"java/lang/StringUTF16", "compress", "([CI[BII)I"⟩
abbrev yB : ByteArray := jdk_52_method_21_code
theorem d0 : decode yB 0 = .ok (.iconst 0, 1) := by decide +kernel
theorem d1 : decode yB 1 = .ok (.istore 5, 2) := by decide +kernel
theorem d3 : decode yB 3 = .ok (.iload 5, 2) := by decide +kernel
theorem d5 : decode yB 5 = .ok (.iload 4, 2) := by decide +kernel
theorem d7 : decode yB 7 = .ok (.if_icmp (.ge) 37, 3) := by decide +kernel
theorem d10 : decode yB 10 = .ok (.aload_n 0, 1) := by decide +kernel
theorem d11 : decode yB 11 = .ok (.iload_n 1, 1) := by decide +kernel
theorem d12 : decode yB 12 = .ok (.caload, 1) := by decide +kernel
theorem d13 : decode yB 13 = .ok (.istore 6, 2) := by decide +kernel
theorem d15 : decode yB 15 = .ok (.iload 6, 2) := by decide +kernel
theorem d17 : decode yB 17 = .ok (.sipush 255, 3) := by decide +kernel
theorem d20 : decode yB 20 = .ok (.if_icmp (.le) 6, 3) := by decide +kernel
theorem d26 : decode yB 26 = .ok (.aload_n 2, 1) := by decide +kernel
theorem d27 : decode yB 27 = .ok (.iload_n 3, 1) := by decide +kernel
theorem d28 : decode yB 28 = .ok (.iload 6, 2) := by decide +kernel
theorem d30 : decode yB 30 = .ok (.i2b, 1) := by decide +kernel
theorem d31 : decode yB 31 = .ok (.bastore, 1) := by decide +kernel
theorem d32 : decode yB 32 = .ok (.iinc 1 1, 3) := by decide +kernel
theorem d35 : decode yB 35 = .ok (.iinc 3 1, 3) := by decide +kernel
theorem d38 : decode yB 38 = .ok (.iinc 5 1, 3) := by decide +kernel
theorem d41 : decode yB 41 = .ok (.goto (-38), 3) := by decide +kernel
theorem d44 : decode yB 44 = .ok (.iload 4, 2) := by decide +kernel
theorem d46 : decode yB 46 = .ok (.ireturn, 1) := by decide +kernel
def site : List Cond := []
def tab : Cond := tabOf yN yB 7 (some .int) site
def P (b : Addr) (A : Cell) (d : Addr) (B : Cell) (o q len : Nat) (args : Array Value) (s : State) : Prop := args = #[.ref b, .int (Int32.ofNat o), .ref d, .int (Int32.ofNat q), .int (Int32.ofNat len)] ∧ Ch b A s ∧ Arr .byte d B s ∧ b ≠ d ∧ o + len ≤ A.slots.size ∧ q + len ≤ B.slots.size ∧ ∀ i, i < len → ¬ 255 < cv A (o + i)
def E (b : Addr) (A : Cell) (d : Addr) (B : Cell) (o q len : Nat) (r : Option Value) (s u : State) : Prop := r = some (.int (Int32.ofNat len)) ∧ ∃ B', Put d B' s u ∧ Laid B B' q (q + len) (fun j => Value.int (lo8 (cv A (o + (j - q)))))
/-- no char of the range above 255: len; the places written hold each char's low byte -/
theorem law (l : Launch) (b : Addr) (A : Cell) (d : Addr) (B : Cell) (o q len : Nat) : Law l yN 5 5 0 0 yB 7 (some .int) site (P b A d B o q len) (E b A d B o q len) (copyLocs d q len) 0 0 := by
  refine Law.of_walk (plainFor_of_name (by decide +kernel)) (by decide +kernel) (by decide +kernel) (by decide) (fun _ _ h => by rw [h.1]; rfl) (fun _ U U' hal hh h => ⟨h.1, h.2.1.mv hal hh, h.2.2.1.mv hal hh, h.2.2.2⟩) (fun r U U' V V' h1 hal h2 h => ⟨h.1, h.2.elim fun B' q => ⟨B', q.1.mv h1 h2, q.2⟩⟩) ?_
  intro p e s m args below meth c s₁ X0 hexec hbytes hml hret hlk hnm hown hh0 W hP
  obtain ⟨rfl, hA, hB, hne, l1, l2, hp⟩ := hP
  have c1 : Steps p.tables e below (s₁.setTop (entryFrame m #[.ref b, .int (Int32.ofNat o), .ref d, .int (Int32.ofNat q), .int (Int32.ofNat len)] 7)) (s₁.setTop (mkF m 0 #[.val (.ref b), .val (.int (Int32.ofNat o)), .val (.ref d), .val (.int (Int32.ofNat q)), .val (.int (Int32.ofNat len)), .unset, .unset] [])) := entry rfl
  have hA0 := hA.1.mv X0.warmed.alike hh0
  have hB0 := hB.mv X0.warmed.alike hh0
  have a31 := hA.1.2.2.2
  have c2 : Steps p.tables e below (s₁.setTop (entryFrame m #[.ref b, .int (Int32.ofNat o), .ref d, .int (Int32.ofNat q), .int (Int32.ofNat len)] 7)) (s₁.setTop (mkF m 3 #[.val (.ref b), .val (.int (Int32.ofNat o)), .val (.ref d), .val (.int (Int32.ofNat q)), .val (.int (Int32.ofNat len)), .val (.int 0), .unset] [])) := c1.trans (by
    refine iconstV X0.here hexec rfl 0 (hb hbytes d0) (by decide) ?_
    refine XS.istore X0.here hexec rfl (hb hbytes d1) rfl rfl ?_
    exact Steps.refl _)
  have loop : ∀ (r i : Nat), i + r = len → ∀ (z : Slot), (z = .unset ∨ ∃ w, z = .val w ∧ w.category = 1) → ∀ (Tl : State) (Bk : Cell), Stand p l e { frames := 0, locals := 0, cells := 0, slots := 0 } s m #[.ref b, .int (Int32.ofNat o), .ref d, .int (Int32.ofNat q), .int (Int32.ofNat len)] below meth c Tl ([] ++ copyLocs d q i) 0 0 → Put d Bk s₁ Tl → Laid B Bk q (q + i) (fun j => Value.int (lo8 (cv A (o + (j - q))))) →
      Steps p.tables e below (s₁.setTop (entryFrame m #[.ref b, .int (Int32.ofNat o), .ref d, .int (Int32.ofNat q), .int (Int32.ofNat len)] 7)) (Tl.setTop (mkF m 3 #[.val (.ref b), .val (.int (Int32.ofNat (o + i))), .val (.ref d), .val (.int (Int32.ofNat (q + i))), .val (.int (Int32.ofNat len)), .val (.int (Int32.ofNat i)), z] [])) → ∃ (T' : State) (B' : Cell) (z' : Slot), Stand p l e { frames := 0, locals := 0, cells := 0, slots := 0 } s m #[.ref b, .int (Int32.ofNat o), .ref d, .int (Int32.ofNat q), .int (Int32.ofNat len)] below meth c T' ([] ++ copyLocs d q len) 0 0 ∧ Put d B' s₁ T' ∧ Laid B B' q (q + len) (fun j => Value.int (lo8 (cv A (o + (j - q))))) ∧
      Steps p.tables e below (s₁.setTop (entryFrame m #[.ref b, .int (Int32.ofNat o), .ref d, .int (Int32.ofNat q), .int (Int32.ofNat len)] 7)) (T'.setTop (mkF m 3 #[.val (.ref b), .val (.int (Int32.ofNat (o + len))), .val (.ref d), .val (.int (Int32.ofNat (q + len))), .val (.int (Int32.ofNat len)), .val (.int (Int32.ofNat len)), z'] [])) := by
    intro r
    induction r with
    | zero =>
      intro i hi z hz Tl Bk Xl pl fl cl
      have hil : i = len := by omega
      rw [hil] at Xl fl cl
      exact ⟨Tl, Bk, z, Xl, pl, fl, cl⟩
    | succ r ih =>
      intro i hi z hz Tl Bk Xl pl fl cl
      have all := X0.warmed.alike.symm.trans Xl.warmed.alike
      have hAl := hA0.keep all (pl.other hne hA0.1)
      have hBk := hB0.like all pl.1 fl.1 fl.2.1 fl.2.2.1
      have hlt : q + i < Bk.slots.size := by rw [fl.2.2.1]; omega
      have c3 : Steps p.tables e below (s₁.setTop (entryFrame m #[.ref b, .int (Int32.ofNat o), .ref d, .int (Int32.ofNat q), .int (Int32.ofNat len)] 7)) (Tl.setTop (mkF m 12 #[.val (.ref b), .val (.int (Int32.ofNat (o + i))), .val (.ref d), .val (.int (Int32.ofNat (q + i))), .val (.int (Int32.ofNat len)), .val (.int (Int32.ofNat i)), z] [.int (Int32.ofNat (o + i)), .ref b])) := cl.trans (by
        refine XS.iload Xl.here hexec rfl (hb hbytes d3) rfl ?_
        refine XS.iload Xl.here hexec rfl (hb hbytes d5) rfl ?_
        refine XS.icmpNo Xl.here hexec rfl (hb hbytes d7) rfl (ii_ge_f (lt32 (by omega) (by omega))) ?_
        refine XS.aloadN Xl.here hexec rfl (hb hbytes d10) rfl rfl ?_
        refine XS.iloadN Xl.here hexec rfl (hb hbytes d11) rfl ?_
        exact Steps.refl _)
      have c4 : Steps p.tables e below (s₁.setTop (entryFrame m #[.ref b, .int (Int32.ofNat o), .ref d, .int (Int32.ofNat q), .int (Int32.ofNat len)] 7)) (Tl.setTop (mkF m 13 #[.val (.ref b), .val (.int (Int32.ofNat (o + i))), .val (.ref d), .val (.int (Int32.ofNat (q + i))), .val (.int (Int32.ofNat len)), .val (.int (Int32.ofNat i)), z] [.int (cv A (o + i))])) := c3.trans (by
        refine Xl.aget hexec hAl rfl (hA.get (i := o + i) (by omega)) rfl rfl (hb hbytes d12) ?_
        exact Steps.refl _)
      have c5 : Steps p.tables e below (s₁.setTop (entryFrame m #[.ref b, .int (Int32.ofNat o), .ref d, .int (Int32.ofNat q), .int (Int32.ofNat len)] 7)) (Tl.setTop (mkF m 15 #[.val (.ref b), .val (.int (Int32.ofNat (o + i))), .val (.ref d), .val (.int (Int32.ofNat (q + i))), .val (.int (Int32.ofNat len)), .val (.int (Int32.ofNat i)), .val (.int (cv A (o + i)))] [])) := c4.trans (by
        refine XS.istoreS Xl.here hexec rfl (hb hbytes d13) rfl rfl hz ?_
        exact Steps.refl _)
      have c6 : Steps p.tables e below (s₁.setTop (entryFrame m #[.ref b, .int (Int32.ofNat o), .ref d, .int (Int32.ofNat q), .int (Int32.ofNat len)] 7)) (Tl.setTop (mkF m 31 #[.val (.ref b), .val (.int (Int32.ofNat (o + i))), .val (.ref d), .val (.int (Int32.ofNat (q + i))), .val (.int (Int32.ofNat len)), .val (.int (Int32.ofNat i)), .val (.int (cv A (o + i)))] [.int (lo8 (cv A (o + i))), .int (Int32.ofNat (q + i)), .ref d])) := c5.trans (by
        refine XS.iload Xl.here hexec rfl (hb hbytes d15) rfl ?_
        refine sipushV Xl.here hexec rfl 255 (hb hbytes d17) (by decide) ?_
        refine XS.icmpYes Xl.here hexec rfl (pc0 := 20) rfl (hb hbytes d20) rfl (ii_le_t (hp i (by omega))) (by decide) rfl ?_
        refine XS.aloadN Xl.here hexec rfl (hb hbytes d26) rfl rfl ?_
        refine XS.iloadN Xl.here hexec rfl (hb hbytes d27) rfl ?_
        refine XS.iload Xl.here hexec rfl (hb hbytes d28) rfl ?_
        refine i2b Xl.here hexec rfl (hb hbytes d30) rfl ?_
        exact Steps.refl _)
      obtain ⟨T7, X7, p7, st7⟩ := Xl.aput hexec hBk rfl hlt rfl (fits_lo8 (cv A (o + i))) (g := (mkF m 31 #[.val (.ref b), .val (.int (Int32.ofNat (o + i))), .val (.ref d), .val (.int (Int32.ofNat (q + i))), .val (.int (Int32.ofNat len)), .val (.int (Int32.ofNat i)), .val (.int (cv A (o + i)))] [.int (lo8 (cv A (o + i))), .int (Int32.ofNat (q + i)), .ref d])) rfl (rest := []) rfl (hb hbytes d31)
      have c8 : Steps p.tables e below (s₁.setTop (entryFrame m #[.ref b, .int (Int32.ofNat o), .ref d, .int (Int32.ofNat q), .int (Int32.ofNat len)] 7)) (T7.setTop (mkF m 32 #[.val (.ref b), .val (.int (Int32.ofNat (o + i))), .val (.ref d), .val (.int (Int32.ofNat (q + i))), .val (.int (Int32.ofNat len)), .val (.int (Int32.ofNat i)), .val (.int (cv A (o + i)))] [])) := c6.trans (st7 _ (Steps.refl _))
      have c9 : Steps p.tables e below (s₁.setTop (entryFrame m #[.ref b, .int (Int32.ofNat o), .ref d, .int (Int32.ofNat q), .int (Int32.ofNat len)] 7)) (T7.setTop (mkF m 3 #[.val (.ref b), .val (.int (Int32.ofNat (o + i) + 1)), .val (.ref d), .val (.int (Int32.ofNat (q + i) + 1)), .val (.int (Int32.ofNat len)), .val (.int (Int32.ofNat i + 1)), .val (.int (cv A (o + i)))] [])) := c8.trans (by
        refine iincV X7.here hexec rfl 1 (hb hbytes d32) (by decide) rfl rfl ?_
        refine iincV X7.here hexec rfl 1 (hb hbytes d35) (by decide) rfl rfl ?_
        refine iincV X7.here hexec rfl 1 (hb hbytes d38) (by decide) rfl rfl ?_
        refine XS.goto X7.here hexec rfl (pc0 := 41) rfl (hb hbytes d41) (by decide) rfl ?_
        exact Steps.refl _)
      have c10 : Steps p.tables e below (s₁.setTop (entryFrame m #[.ref b, .int (Int32.ofNat o), .ref d, .int (Int32.ofNat q), .int (Int32.ofNat len)] 7)) (T7.setTop (mkF m 3 #[.val (.ref b), .val (.int (Int32.ofNat (o + (i + 1)))), .val (.ref d), .val (.int (Int32.ofNat (q + (i + 1)))), .val (.int (Int32.ofNat len)), .val (.int (Int32.ofNat (i + 1))), .val (.int (cv A (o + i)))] [])) := by
        have := c9
        rw [succ32, succ32, succ32] at this
        exact this
      exact ih (i + 1) (by omega) _ (Or.inr ⟨_, rfl, rfl⟩) T7 _ (by rw [copyLocs_step, ← List.append_assoc]; exact X7) (pl.trans p7) (fl.step (by omega) hlt (by simp)) c10
  obtain ⟨T9, B9, z9, X9, p9, f9, g9⟩ := loop len 0 (by omega) .unset (Or.inl rfl) s₁ B (by simpa [copyLocs] using X0) ⟨hB0.1, fun _ _ => rfl, rfl⟩ (Laid.zero _ _ _) c2
  have c11 : Steps p.tables e below (s₁.setTop (entryFrame m #[.ref b, .int (Int32.ofNat o), .ref d, .int (Int32.ofNat q), .int (Int32.ofNat len)] 7)) (T9.setTop (mkF m 46 #[.val (.ref b), .val (.int (Int32.ofNat (o + len))), .val (.ref d), .val (.int (Int32.ofNat (q + len))), .val (.int (Int32.ofNat len)), .val (.int (Int32.ofNat len)), z9] [.int (Int32.ofNat len)])) := g9.trans (by
    refine XS.iload X9.here hexec rfl (hb hbytes d3) rfl ?_
    refine XS.iload X9.here hexec rfl (hb hbytes d5) rfl ?_
    refine XS.icmpYes X9.here hexec rfl (pc0 := 7) rfl (hb hbytes d7) rfl (ii_ge_t (nlt32 (by omega) (Nat.le_refl _))) (by decide) rfl ?_
    refine XS.iload X9.here hexec rfl (hb hbytes d44) rfl ?_
    exact Steps.refl _)
  exact ⟨T9, some (.int (Int32.ofNat len)), _, _, _, X9, by simp, rfl, rfl, (fun h => by cases h), ⟨rfl, B9, p9.from hh0, f9⟩, fun fs hl => c11.trans (X9.ireturnOut hexec hret rfl (Or.inl rfl) (hb hbytes d46) hl)⟩
end Cmp5
namespace Cmp3
def yN : MethodName := ⟨"java/lang/StringUTF16", "compress", "([CII)[B"⟩
abbrev yB : ByteArray := jdk_52_method_16_code
theorem d0 : decode yB 0 = .ok (.iload_n 2, 1) := by decide +kernel
theorem d1 : decode yB 1 = .ok (.newarray .byte, 2) := by decide +kernel
theorem d3 : decode yB 3 = .ok (.astore_n 3, 1) := by decide +kernel
theorem d4 : decode yB 4 = .ok (.aload_n 0, 1) := by decide +kernel
theorem d5 : decode yB 5 = .ok (.iload_n 1, 1) := by decide +kernel
theorem d6 : decode yB 6 = .ok (.aload_n 3, 1) := by decide +kernel
theorem d7 : decode yB 7 = .ok (.iconst 0, 1) := by decide +kernel
theorem d8 : decode yB 8 = .ok (.iload_n 2, 1) := by decide +kernel
theorem d9 : decode yB 9 = .ok (.invokestatic 115, 3) := by decide +kernel
theorem d12 : decode yB 12 = .ok (.istore 4, 2) := by decide +kernel
theorem d14 : decode yB 14 = .ok (.iload 4, 2) := by decide +kernel
theorem d16 : decode yB 16 = .ok (.iload_n 2, 1) := by decide +kernel
theorem d17 : decode yB 17 = .ok (.if_icmp (.eq) 40, 3) := by decide +kernel
theorem d57 : decode yB 57 = .ok (.aload_n 3, 1) := by decide +kernel
theorem d58 : decode yB 58 = .ok (.areturn, 1) := by decide +kernel
def site : List Cond := [.arrayClass .byte, Cmp5.tab] ++ staticW U16 115 Cmp5.yN
def tab : Cond := tabOf yN yB 6 (some (.array .byte)) site
def P (b : Addr) (A : Cell) (o len : Nat) (args : Array Value) (s : State) : Prop := args = #[.ref b, .int (Int32.ofNat o), .int (Int32.ofNat len)] ∧ Ch b A s ∧ o + len ≤ A.slots.size ∧ len ≤ 536870912 ∧ ∀ i, i < len → ¬ 255 < cv A (o + i)
def E (b : Addr) (A : Cell) (o len : Nat) (r : Option Value) (s u : State) : Prop := NewArr .byte "[B" len (fun j => .int (lo8 (cv A (o + j)))) r s u ∧ u.heap.size = s.heap.size + 1
/-- no char of the range above 255: a new byte[] of their low bytes -/
theorem law (l : Launch) (b : Addr) (A : Cell) (o len : Nat) : Law l yN 3 3 1 18 yB 6 (some (.array .byte)) site (P b A o len) (E b A o len) [] 1 len := by
  refine Law.of_walk (plainFor_of_name (by decide +kernel)) (by decide +kernel) (by decide +kernel) (by decide) (fun _ _ h => by rw [h.1]; rfl) (fun _ U U' hal hh h => ⟨h.1, h.2.1.mv hal hh, h.2.2⟩) (fun r U U' V V' h1 hal h2 h => ⟨NewArr.mv r U U' V V' h1 hal h2 h.1, by rw [h1, h2]; exact h.2⟩) ?_
  intro p e s m args below meth c s₁ X0 hexec hbytes hml hret hlk hnm hown hh0 W hP
  obtain ⟨rfl, hA, l1, l2, hp⟩ := hP
  have a31 := hA.1.2.2.2
  have c1 : Steps p.tables e below (s₁.setTop (entryFrame m #[.ref b, .int (Int32.ofNat o), .int (Int32.ofNat len)] 6)) (s₁.setTop (mkF m 0 #[.val (.ref b), .val (.int (Int32.ofNat o)), .val (.int (Int32.ofNat len)), .unset, .unset, .unset] [])) := entry rfl
  have c2 : Steps p.tables e below (s₁.setTop (entryFrame m #[.ref b, .int (Int32.ofNat o), .int (Int32.ofNat len)] 6)) (s₁.setTop (mkF m 1 #[.val (.ref b), .val (.int (Int32.ofNat o)), .val (.int (Int32.ofNat len)), .unset, .unset, .unset] [.int (Int32.ofNat len)])) := c1.trans (by
    refine XS.iloadN X0.here hexec rfl (hb hbytes d0) rfl ?_
    exact Steps.refl _)
  obtain ⟨T3, B3, X3, ba3, bs3, bv3, bh3, bf3, st3⟩ := X0.anew hexec (atype := .byte) (wk W (.arrayClass .byte)) rfl (by show len * 1 ≤ _; omega) (by omega) (g := (mkF m 1 #[.val (.ref b), .val (.int (Int32.ofNat o)), .val (.int (Int32.ofNat len)), .unset, .unset, .unset] [.int (Int32.ofNat len)])) rfl (hb hbytes d1) (rest := []) rfl (Nat.le_refl _) (by show 0 + len ≤ len; omega)
  rw [hh0] at ba3 st3
  have kp3 : XT.Kept s T3 := (XT.Kept.of_eq hh0).push bh3
  have hA3 := hA.keep X3.warmed.alike (kp3 _ _ hA.1.1)
  have hne : b ≠ s.heap.size := hA.1.ne
  have c4 : Steps p.tables e below (s₁.setTop (entryFrame m #[.ref b, .int (Int32.ofNat o), .int (Int32.ofNat len)] 6)) (T3.setTop (mkF m 3 #[.val (.ref b), .val (.int (Int32.ofNat o)), .val (.int (Int32.ofNat len)), .unset, .unset, .unset] [.ref s.heap.size])) := c2.trans (st3 _ (Steps.refl _))
  have c5 : Steps p.tables e below (s₁.setTop (entryFrame m #[.ref b, .int (Int32.ofNat o), .int (Int32.ofNat len)] 6)) (T3.setTop (mkF m 9 #[.val (.ref b), .val (.int (Int32.ofNat o)), .val (.int (Int32.ofNat len)), .val (.ref s.heap.size), .unset, .unset] [.int (Int32.ofNat len), .int 0, .ref s.heap.size, .int (Int32.ofNat o), .ref b])) := c4.trans (by
    refine XS.astoreN X3.here hexec rfl (hb hbytes d3) rfl rfl rfl ?_
    refine XS.aloadN X3.here hexec rfl (hb hbytes d4) rfl rfl ?_
    refine XS.iloadN X3.here hexec rfl (hb hbytes d5) rfl ?_
    refine XS.aloadN X3.here hexec rfl (hb hbytes d6) rfl rfl ?_
    refine iconstV X3.here hexec rfl 0 (hb hbytes d7) (by decide) ?_
    refine XS.iloadN X3.here hexec rfl (hb hbytes d8) rfl ?_
    exact Steps.refl _)
  obtain ⟨v6, T6, X6, E6, g6⟩ := X3.callS hexec (Cmp5.law l b A s.heap.size B3 o 0 len) hown (wks W (staticW U16 115 Cmp5.yN)) (wk W Cmp5.tab) (W := 0) (Nat.le_of_ble_eq_true rfl) (Nat.le_of_ble_eq_true rfl) (Nat.le_refl _) (by show 0 + len + 0 ≤ len; omega) (g := (mkF m 9 #[.val (.ref b), .val (.int (Int32.ofNat o)), .val (.int (Int32.ofNat len)), .val (.ref s.heap.size), .unset, .unset] [.int (Int32.ofNat len), .int (Int32.ofNat 0), .ref s.heap.size, .int (Int32.ofNat o), .ref b])) rfl (by rw [hml]; rfl) c5 (argsL := [.ref b, .int (Int32.ofNat o), .ref s.heap.size, .int (Int32.ofNat 0), .int (Int32.ofNat len)]) (rest := []) rfl rfl (by show 2 * 0 + 0 ≤ _; decide) (hb hbytes d9) (⟨rfl, hA3, ba3, hne, l1, by rw [bs3]; simp, hp⟩)
  obtain ⟨rfl, B6, p6, f6⟩ := E6
  have c7 : Steps p.tables e below (s₁.setTop (entryFrame m #[.ref b, .int (Int32.ofNat o), .int (Int32.ofNat len)] 6)) (T6.setTop (mkF m 12 #[.val (.ref b), .val (.int (Int32.ofNat o)), .val (.int (Int32.ofNat len)), .val (.ref s.heap.size), .unset, .unset] [.int (Int32.ofNat len)])) := g6
  have c8 : Steps p.tables e below (s₁.setTop (entryFrame m #[.ref b, .int (Int32.ofNat o), .int (Int32.ofNat len)] 6)) (T6.setTop (mkF m 58 #[.val (.ref b), .val (.int (Int32.ofNat o)), .val (.int (Int32.ofNat len)), .val (.ref s.heap.size), .val (.int (Int32.ofNat len)), .unset] [.ref s.heap.size])) := c7.trans (by
    refine XS.istore X6.here hexec rfl (hb hbytes d12) rfl rfl ?_
    refine XS.iload X6.here hexec rfl (hb hbytes d14) rfl ?_
    refine XS.iloadN X6.here hexec rfl (hb hbytes d16) rfl ?_
    refine XS.icmpYes X6.here hexec rfl (pc0 := 17) rfl (hb hbytes d17) rfl (ii_eq_t rfl) (by decide) rfl ?_
    refine XS.aloadN X6.here hexec rfl (hb hbytes d57) rfl rfl ?_
    exact Steps.refl _)
  have X8 := X6.wide (L' := []) (cells' := 1) (slots' := len) (fun x hx hlt => by
    simp only [List.nil_append, copyLocs, List.mem_map, List.mem_range] at hx
    obtain ⟨i, -, rfl⟩ := hx
    exact absurd hlt (Nat.lt_irrefl _)) (Nat.le_refl _) (by omega)
  exact ⟨T6, some (.ref s.heap.size), _, _, _, X8, rfl, rfl, rfl, (fun h => by cases h), ⟨⟨rfl, B6, ba3.like (X3.warmed.alike.symm.trans X6.warmed.alike) p6.1 f6.1 f6.2.1 f6.2.2.1, f6.2.1.trans bv3, by rw [X6.warmed.alike.findClass, f6.1]; exact bf3, by rw [f6.2.2.1, bs3]; simp, fun j hj => by rw [f6.2.2.2 j, if_pos (by omega)]; rfl, kp3.put p6 (Nat.le_refl _)⟩, by rw [p6.2.2, bh3, hh0]; simp⟩, fun fs hl => c8.trans (X8.areturnOut hexec rfl hret rfl (hb hbytes d58) hl)⟩
end Cmp3
namespace CodL
def yN : MethodName := ⟨"java/lang/StringUTF16", "coderFromArrayLen", "([BI)B"⟩
abbrev yB : ByteArray := jdk_52_method_15_code
theorem d0 : decode yB 0 = .ok (.iload_n 1, 1) := by decide +kernel
theorem d1 : decode yB 1 = .ok (.aload_n 0, 1) := by decide +kernel
theorem d2 : decode yB 2 = .ok (.arraylength, 1) := by decide +kernel
theorem d3 : decode yB 3 = .ok (.isub, 1) := by decide +kernel
theorem d4 : decode yB 4 = .ok (.bipush 31, 2) := by decide +kernel
theorem d6 : decode yB 6 = .ok (.iushr, 1) := by decide +kernel
theorem d7 : decode yB 7 = .ok (.i2b, 1) := by decide +kernel
theorem d8 : decode yB 8 = .ok (.ireturn, 1) := by decide +kernel
def site : List Cond := []
def tab : Cond := tabOf yN yB 2 (some .byte) site
def P (d : Addr) (B : Cell) (args : Array Value) (s : State) : Prop := args = #[.ref d, .int (Int32.ofNat B.slots.size)] ∧ Arr .byte d B s
def E (r : Option Value) (s u : State) : Prop := XT.PureE (some (.int 0)) r s u
/-- an array as long as the number of chars: LATIN1 -/
theorem law (l : Launch) (d : Addr) (B : Cell) : Law l yN 2 2 0 0 yB 2 (some .byte) site (P d B) E [] 0 0 := by
  refine Law.of_walk (plainFor_of_name (by decide +kernel)) (by decide +kernel) (by decide +kernel) (by decide) (fun _ _ h => by rw [h.1]; rfl) (fun _ U U' hal hh h => ⟨h.1, h.2.mv hal hh⟩) (fun r U U' V V' h1 hal h2 h => XT.PureE.mv r U U' V V' h1 hal h2 h) ?_
  intro p e s m args below meth c s₁ X0 hexec hbytes hml hret hlk hnm hown hh0 W hP
  obtain ⟨rfl, hB⟩ := hP
  have hB0 := hB.mv X0.warmed.alike hh0
  have c1 : Steps p.tables e below (s₁.setTop (entryFrame m #[.ref d, .int (Int32.ofNat B.slots.size)] 2)) (s₁.setTop (mkF m 0 #[.val (.ref d), .val (.int (Int32.ofNat B.slots.size))] [])) := entry rfl
  have c2 : Steps p.tables e below (s₁.setTop (entryFrame m #[.ref d, .int (Int32.ofNat B.slots.size)] 2)) (s₁.setTop (mkF m 2 #[.val (.ref d), .val (.int (Int32.ofNat B.slots.size))] [.ref d, .int (Int32.ofNat B.slots.size)])) := c1.trans (by
    refine XS.iloadN X0.here hexec rfl (hb hbytes d0) rfl ?_
    refine XS.aloadN X0.here hexec rfl (hb hbytes d1) rfl rfl ?_
    exact Steps.refl _)
  have c3 : Steps p.tables e below (s₁.setTop (entryFrame m #[.ref d, .int (Int32.ofNat B.slots.size)] 2)) (s₁.setTop (mkF m 8 #[.val (.ref d), .val (.int (Int32.ofNat B.slots.size))] [.int (lo8 (ushr (Int32.ofNat B.slots.size - Int32.ofNat B.slots.size) 31))])) := c2.trans (by
    refine X0.alen hexec hB0 rfl rfl (hb hbytes d2) ?_
    refine XS.isub X0.here hexec rfl (hb hbytes d3) rfl ?_
    refine bipushV X0.here hexec rfl 31 (hb hbytes d4) (by decide) ?_
    refine iushr X0.here hexec rfl (hb hbytes d6) rfl ?_
    refine i2b X0.here hexec rfl (hb hbytes d7) rfl ?_
    exact Steps.refl _)
  have e0 : lo8 (ushr (Int32.ofNat B.slots.size - Int32.ofNat B.slots.size) 31) = 0 := by rw [Int32.sub_self]; decide
  rw [e0] at c3
  exact ⟨s₁, some (.int 0), _, _, _, X0, rfl, rfl, rfl, (fun h => by cases h), ⟨rfl, hh0⟩, fun fs hl => c3.trans (X0.ireturnOut hexec hret rfl (Or.inr (Or.inr (Or.inl rfl))) (hb hbytes d8) hl)⟩
end CodL
/-- the String at a is Latin-1 over a new byte[] (the heap's one new cell): the low bytes of the len chars of A from o on; every cell but a is kept -/
def Got (a : Addr) (D : Cell) (fV fC : Field) (A : Cell) (o len : Nat) (r : Option Value) (s u : State) : Prop := r = none ∧ ∃ D' V : Cell, Blank "java/lang/String" a D' u ∧ Same D D' [fV.slot, fC.slot] ∧ D'.slots[fV.slot]? = some (.ref s.heap.size) ∧ D'.slots[fC.slot]? = some (.int 0) ∧ Arr .byte s.heap.size V u ∧ V.vm = .none ∧ u.vm.findClass "[B" = some V.cls ∧ V.slots.size = len ∧ (∀ j, j < len → V.slots[j]? = some (.int (lo8 (cv A (o + j))))) ∧ (∀ (y : Addr) (c : Cell), y ≠ a → s.heap[y]? = some c → u.heap[y]? = some c) ∧ u.heap.size = s.heap.size + 1
theorem Got.mv {a : Addr} {D A : Cell} {fV fC : Field} {o len : Nat} : ∀ r (U U' V V' : State), U'.heap = U.heap → V.vm.Alike V'.vm → V'.heap = V.heap → Got a D fV fC A o len r U V → Got a D fV fC A o len r U' V' :=
  fun r U U' V V' h1 hal h2 ⟨e0, D', X, a1, a2, a3, a4, a5, a6, a7, a8, a9, a10, a11⟩ => ⟨e0, D', X, a1.mv hal h2, a2, by rw [h1]; exact a3, a4, by rw [h1]; exact a5.mv hal h2, a6, by rw [hal.findClass]; exact a7, a8, a9, by rw [h1, h2]; exact a10, by rw [h1, h2]; exact a11⟩
namespace New4
def yN : MethodName := ⟨"java/lang/String", "<init>", "([CIILjava/lang/Void;)V"⟩
abbrev yB : ByteArray := jdk_42_method_149_code
theorem d0 : decode yB 0 = .ok (.aload_n 0, 1) := by decide +kernel
theorem d1 : decode yB 1 = .ok (.invokespecial 1, 3) := by decide +kernel
theorem d4 : decode yB 4 = .ok (.iload_n 3, 1) := by decide +kernel
theorem d5 : decode yB 5 = .ok (.ifCond (.ne) 22, 3) := by decide +kernel
theorem d27 : decode yB 27 = .ok (.getstatic 38, 3) := by decide +kernel
theorem d30 : decode yB 30 = .ok (.ifCond (.eq) 28, 3) := by decide +kernel
theorem d33 : decode yB 33 = .ok (.aload_n 1, 1) := by decide +kernel
theorem d34 : decode yB 34 = .ok (.iload_n 2, 1) := by decide +kernel
theorem d35 : decode yB 35 = .ok (.iload_n 3, 1) := by decide +kernel
theorem d36 : decode yB 36 = .ok (.invokestatic 177, 3) := by decide +kernel
theorem d39 : decode yB 39 = .ok (.astore 5, 2) := by decide +kernel
theorem d41 : decode yB 41 = .ok (.aload_n 0, 1) := by decide +kernel
theorem d42 : decode yB 42 = .ok (.aload 5, 2) := by decide +kernel
theorem d44 : decode yB 44 = .ok (.iload_n 3, 1) := by decide +kernel
theorem d45 : decode yB 45 = .ok (.invokestatic 47, 3) := by decide +kernel
theorem d48 : decode yB 48 = .ok (.putfield 15, 3) := by decide +kernel
theorem d51 : decode yB 51 = .ok (.aload_n 0, 1) := by decide +kernel
theorem d52 : decode yB 52 = .ok (.aload 5, 2) := by decide +kernel
theorem d54 : decode yB 54 = .ok (.putfield 9, 3) := by decide +kernel
theorem d57 : decode yB 57 = .ok (.return_, 1) := by decide +kernel
def site : List Cond := [.fieldLink "java/lang/String" 38 "java/lang/String" "COMPACT_STRINGS" "Z", Cmp3.tab, CodL.tab, .laysFinal "java/lang/String" "java/lang/String" "value" "[B", .fieldLink "java/lang/String" 9 "java/lang/String" "value" "[B", .laysFinal "java/lang/String" "java/lang/String" "coder" "B", .fieldLink "java/lang/String" 15 "java/lang/String" "coder" "B"] ++ objW "java/lang/String" 1 ++ staticW "java/lang/String" 177 Cmp3.yN ++ staticW "java/lang/String" 47 CodL.yN
def tab : Cond := tabOf yN yB 6 none site
def P (a : Addr) (D : Cell) (fV fC : Field) (b : Addr) (A : Cell) (z : Int32) (o len : Nat) (args : Array Value) (s : State) : Prop := args = #[.ref a, .ref b, .int (Int32.ofNat o), .int (Int32.ofNat len), .null] ∧ Blank "java/lang/String" a D s ∧ Found "java/lang/String" "value" "[B" fV s ∧ Found "java/lang/String" "coder" "B" fC s ∧ Ch b A s ∧ StaticIs s "java/lang/String" "COMPACT_STRINGS" "Z" (.int z) ∧ ¬ z = 0 ∧ 0 < len ∧ o + len ≤ A.slots.size ∧ len ≤ 536870912 ∧ ∀ i, i < len → ¬ 255 < cv A (o + i)
def E (a : Addr) (D : Cell) (fV fC : Field) (A : Cell) (o len : Nat) (r : Option Value) (s u : State) : Prop := Got a D fV fC A o len r s u
/-- len > 0, no char of the range above 255: a Latin-1 String of their low bytes -/
theorem law (l : Launch) (a : Addr) (D : Cell) (fV fC : Field) (b : Addr) (A : Cell) (z : Int32) (o len : Nat) : Law l yN 5 4 2 35 yB 6 none site (P a D fV fC b A z o len) (E a D fV fC A o len) [⟨a, fC.slot⟩, ⟨a, fV.slot⟩] 1 len := by
  refine Law.of_walk (plainFor_of_name (by decide +kernel)) (by decide +kernel) (by decide +kernel) (by decide) (fun _ _ h => by rw [h.1]; rfl) (fun _ U U' hal hh h => ⟨h.1, h.2.1.mv hal hh, h.2.2.1.al hal, h.2.2.2.1.al hal, h.2.2.2.2.1.mv hal hh, h.2.2.2.2.2.1.there hal hh, h.2.2.2.2.2.2⟩) (fun r U U' V V' h1 hal h2 h => Got.mv r U U' V V' h1 hal h2 h) ?_
  intro p e s m args below meth c s₁ X0 hexec hbytes hml hret hlk hnm hown hh0 W hP
  obtain ⟨rfl, hB, f1, f2, hA, s1, hz, l0, l1, l2, hp⟩ := hP
  have a31 := hA.1.2.2.2
  have c1 : Steps p.tables e below (s₁.setTop (entryFrame m #[.ref a, .ref b, .int (Int32.ofNat o), .int (Int32.ofNat len), .null] 6)) (s₁.setTop (mkF m 0 #[.val (.ref a), .val (.ref b), .val (.int (Int32.ofNat o)), .val (.int (Int32.ofNat len)), .val .null, .unset] [])) := entry rfl
  have c2 : Steps p.tables e below (s₁.setTop (entryFrame m #[.ref a, .ref b, .int (Int32.ofNat o), .int (Int32.ofNat len), .null] 6)) (s₁.setTop (mkF m 1 #[.val (.ref a), .val (.ref b), .val (.int (Int32.ofNat o)), .val (.int (Int32.ofNat len)), .val .null, .unset] [.ref a])) := c1.trans (by
    refine XS.aloadN X0.here hexec rfl (hb hbytes d0) rfl rfl ?_
    exact Steps.refl _)
  obtain ⟨T3, X3, q3, st3⟩ := X0.oinit hexec hown (wks W (objW "java/lang/String" 1)) (g := (mkF m 1 #[.val (.ref a), .val (.ref b), .val (.int (Int32.ofNat o)), .val (.int (Int32.ofNat len)), .val .null, .unset] [.ref a])) rfl (by rw [hml]; rfl) (rest := []) rfl (hb hbytes d1) (W := 0) (by show 2 * 0 + 0 ≤ _; decide) (Nat.le_of_ble_eq_true rfl) (Nat.le_of_ble_eq_true rfl)
  have hh3 := q3.trans hh0
  have c4 : Steps p.tables e below (s₁.setTop (entryFrame m #[.ref a, .ref b, .int (Int32.ofNat o), .int (Int32.ofNat len), .null] 6)) (T3.setTop (mkF m 27 #[.val (.ref a), .val (.ref b), .val (.int (Int32.ofNat o)), .val (.int (Int32.ofNat len)), .val .null, .unset] [])) := (c2.trans (st3 _ (Steps.refl _))).trans (by
    refine XS.iloadN X3.here hexec rfl (hb hbytes d4) rfl ?_
    refine XS.ifYes X3.here hexec rfl (pc0 := 5) rfl (hb hbytes d5) rfl (i0_ne_t (nz32 (by omega) l0)) (by decide) rfl ?_
    exact Steps.refl _)
  obtain ⟨T5, X5, q5, st5⟩ := X3.sget hexec hown (wk W (.fieldLink "java/lang/String" 38 "java/lang/String" "COMPACT_STRINGS" "Z")) s1 (fun _ _ h => by rw [hh3]; exact h) (g := (mkF m 27 #[.val (.ref a), .val (.ref b), .val (.int (Int32.ofNat o)), .val (.int (Int32.ofNat len)), .val .null, .unset] [])) rfl (hb hbytes d27)
  have hh5 := q5.trans hh3
  have c6 : Steps p.tables e below (s₁.setTop (entryFrame m #[.ref a, .ref b, .int (Int32.ofNat o), .int (Int32.ofNat len), .null] 6)) (T5.setTop (mkF m 30 #[.val (.ref a), .val (.ref b), .val (.int (Int32.ofNat o)), .val (.int (Int32.ofNat len)), .val .null, .unset] [.int z])) := c4.trans (st5 _ (Steps.refl _))
  have c7 : Steps p.tables e below (s₁.setTop (entryFrame m #[.ref a, .ref b, .int (Int32.ofNat o), .int (Int32.ofNat len), .null] 6)) (T5.setTop (mkF m 36 #[.val (.ref a), .val (.ref b), .val (.int (Int32.ofNat o)), .val (.int (Int32.ofNat len)), .val .null, .unset] [.int (Int32.ofNat len), .int (Int32.ofNat o), .ref b])) := c6.trans (by
    refine XS.ifNo X5.here hexec rfl (hb hbytes d30) rfl (i0_eq_f hz) ?_
    refine XS.aloadN X5.here hexec rfl (hb hbytes d33) rfl rfl ?_
    refine XS.iloadN X5.here hexec rfl (hb hbytes d34) rfl ?_
    refine XS.iloadN X5.here hexec rfl (hb hbytes d35) rfl ?_
    exact Steps.refl _)
  obtain ⟨v8, T8, X8, E8, g8⟩ := X5.callS hexec (Cmp3.law l b A o len) hown (wks W (staticW "java/lang/String" 177 Cmp3.yN)) (wk W Cmp3.tab) (W := 0) (Nat.le_of_ble_eq_true rfl) (Nat.le_of_ble_eq_true rfl) (Nat.le_refl _) (by show 0 + len ≤ len; omega) (g := (mkF m 36 #[.val (.ref a), .val (.ref b), .val (.int (Int32.ofNat o)), .val (.int (Int32.ofNat len)), .val .null, .unset] [.int (Int32.ofNat len), .int (Int32.ofNat o), .ref b])) rfl (by rw [hml]; rfl) c7 (argsL := [.ref b, .int (Int32.ofNat o), .int (Int32.ofNat len)]) (rest := []) rfl rfl (by show 2 * 0 + 0 ≤ _; decide) (hb hbytes d36) (⟨rfl, hA.mv X5.warmed.alike hh5, l1, l2, hp⟩)
  obtain ⟨e8, z8⟩ := E8
  obtain ⟨rfl, N, n1, n2, n3, n4, n5, n6⟩ := NewArr.mv _ T5 s _ _ hh5.symm (Vm.Alike.refl _) rfl e8
  rw [hh5] at z8
  have hB1 := hB.keep X8.warmed.alike (n6 _ _ hB.1)
  have hne : s.heap.size ≠ a := (Nat.ne_of_lt (Array.getElem?_eq_some_iff.mp hB.1).1).symm
  have c9 : Steps p.tables e below (s₁.setTop (entryFrame m #[.ref a, .ref b, .int (Int32.ofNat o), .int (Int32.ofNat len), .null] 6)) (T8.setTop (mkF m 39 #[.val (.ref a), .val (.ref b), .val (.int (Int32.ofNat o)), .val (.int (Int32.ofNat len)), .val .null, .unset] [.ref s.heap.size])) := g8
  have c10 : Steps p.tables e below (s₁.setTop (entryFrame m #[.ref a, .ref b, .int (Int32.ofNat o), .int (Int32.ofNat len), .null] 6)) (T8.setTop (mkF m 45 #[.val (.ref a), .val (.ref b), .val (.int (Int32.ofNat o)), .val (.int (Int32.ofNat len)), .val .null, .val (.ref s.heap.size)] [.int (Int32.ofNat N.slots.size), .ref s.heap.size, .ref a])) := by
    have hc : Steps p.tables e below (s₁.setTop (entryFrame m #[.ref a, .ref b, .int (Int32.ofNat o), .int (Int32.ofNat len), .null] 6)) (T8.setTop (mkF m 45 #[.val (.ref a), .val (.ref b), .val (.int (Int32.ofNat o)), .val (.int (Int32.ofNat len)), .val .null, .val (.ref s.heap.size)] [.int (Int32.ofNat len), .ref s.heap.size, .ref a])) := c9.trans (by
      refine XS.astore X8.here hexec rfl (hb hbytes d39) rfl rfl rfl ?_
      refine XS.aloadN X8.here hexec rfl (hb hbytes d41) rfl rfl ?_
      refine XS.aload X8.here hexec rfl (hb hbytes d42) rfl rfl ?_
      refine XS.iloadN X8.here hexec rfl (hb hbytes d44) rfl ?_
      exact Steps.refl _)
    rw [n4]; exact hc
  obtain ⟨v11, T11, X11, E11, g11⟩ := X8.callS hexec (CodL.law l s.heap.size N) hown (wks W (staticW "java/lang/String" 47 CodL.yN)) (wk W CodL.tab) (W := 1) (Nat.le_of_ble_eq_true rfl) (Nat.le_of_ble_eq_true rfl) (Nat.le_refl _) (by show 0 + len + 0 ≤ len; omega) (g := (mkF m 45 #[.val (.ref a), .val (.ref b), .val (.int (Int32.ofNat o)), .val (.int (Int32.ofNat len)), .val .null, .val (.ref s.heap.size)] [.int (Int32.ofNat N.slots.size), .ref s.heap.size, .ref a])) rfl (by rw [hml]; rfl) c10 (argsL := [.ref s.heap.size, .int (Int32.ofNat N.slots.size)]) (rest := [.ref a]) rfl rfl (by show 2 * 0 + (1 + 0) ≤ _; decide) (hb hbytes d45) (⟨rfl, n1⟩)
  obtain ⟨rfl, q11⟩ := E11
  have hB11 := hB1.mv (X8.warmed.alike.symm.trans X11.warmed.alike) q11
  have c12 : Steps p.tables e below (s₁.setTop (entryFrame m #[.ref a, .ref b, .int (Int32.ofNat o), .int (Int32.ofNat len), .null] 6)) (T11.setTop (mkF m 48 #[.val (.ref a), .val (.ref b), .val (.int (Int32.ofNat o)), .val (.int (Int32.ofNat len)), .val .null, .val (.ref s.heap.size)] [.int 0, .ref a])) := g11
  obtain ⟨T13, X13, p13, bl13, sl13, st13⟩ := X11.finit hexec hown (wk W (.fieldLink "java/lang/String" 15 "java/lang/String" "coder" "B")) (Or.inr ⟨_, (wk W (.laysFinal "java/lang/String" "java/lang/String" "coder" "B"))⟩) (Or.inl ⟨rfl, hnm⟩) f2 (Or.inl rfl) hB11 (t := .byte) (by decide +kernel) rfl (g := (mkF m 48 #[.val (.ref a), .val (.ref b), .val (.int (Int32.ofNat o)), .val (.int (Int32.ofNat len)), .val .null, .val (.ref s.heap.size)] [.int 0, .ref a])) rfl (rest := []) rfl (hb hbytes d48)
  have c14 : Steps p.tables e below (s₁.setTop (entryFrame m #[.ref a, .ref b, .int (Int32.ofNat o), .int (Int32.ofNat len), .null] 6)) (T13.setTop (mkF m 54 #[.val (.ref a), .val (.ref b), .val (.int (Int32.ofNat o)), .val (.int (Int32.ofNat len)), .val .null, .val (.ref s.heap.size)] [.ref s.heap.size, .ref a])) := (c12.trans (st13 _ (Steps.refl _))).trans (by
    refine XS.aloadN X13.here hexec rfl (hb hbytes d51) rfl rfl ?_
    refine XS.aload X13.here hexec rfl (hb hbytes d52) rfl rfl ?_
    exact Steps.refl _)
  obtain ⟨T15, X15, p15, bl15, sl15, st15⟩ := X13.finit hexec hown (wk W (.fieldLink "java/lang/String" 9 "java/lang/String" "value" "[B")) (Or.inr ⟨_, (wk W (.laysFinal "java/lang/String" "java/lang/String" "value" "[B"))⟩) (Or.inl ⟨rfl, hnm⟩) f1 (Or.inl rfl) bl13 (t := (.array .byte)) (by decide +kernel) rfl (g := (mkF m 54 #[.val (.ref a), .val (.ref b), .val (.int (Int32.ofNat o)), .val (.int (Int32.ofNat len)), .val .null, .val (.ref s.heap.size)] [.ref s.heap.size, .ref a])) rfl (rest := []) rfl (hb hbytes d54)
  have c16 : Steps p.tables e below (s₁.setTop (entryFrame m #[.ref a, .ref b, .int (Int32.ofNat o), .int (Int32.ofNat len), .null] 6)) (T15.setTop (mkF m 57 #[.val (.ref a), .val (.ref b), .val (.int (Int32.ofNat o)), .val (.int (Int32.ofNat len)), .val .null, .val (.ref s.heap.size)] [])) := c14.trans (st15 _ (Steps.refl _))
  have ap := apart (Or.inr ⟨_, (wk W (.laysFinal "java/lang/String" "java/lang/String" "value" "[B"))⟩) (Or.inr ⟨_, (wk W (.laysFinal "java/lang/String" "java/lang/String" "coder" "B"))⟩) f1 f2 (t₁ := .array .byte) (t₂ := .byte) (by decide +kernel) (by decide +kernel) (by decide)
  have al := X8.warmed.alike.symm.trans X15.warmed.alike
  have n7 : T11.heap[s.heap.size]? = some N := by rw [q11]; exact n1.1
  exact ⟨T15, none, _, _, _, X15, by simp, rfl, by omega, (fun _ => rfl), ⟨rfl, _, N, bl15, ((Same.refl D _).set _ (by simp)).set _ (by simp), sl15, (Cell.slots_setSlot_ne _ ap).trans sl13, n1.keep al (p15.other hne (p13.other hne n7)), n2, by rw [al.findClass]; exact n3, n4, n5, fun y c h1 h2 => p15.other h1 (p13.other h1 (by rw [q11]; exact n6 y c h2)), by rw [p15.2.2, p13.2.2, q11]; exact z8⟩, fun fs hl => c16.trans (X15.returnOut hexec hret (hb hbytes d57) hl)⟩
end New4
namespace New1
def yN : MethodName := ⟨"java/lang/String", "<init>", "([C)V"⟩
abbrev yB : ByteArray := jdk_42_method_3_code
theorem d0 : decode yB 0 = .ok (.aload_n 0, 1) := by decide +kernel
theorem d1 : decode yB 1 = .ok (.aload_n 1, 1) := by decide +kernel
theorem d2 : decode yB 2 = .ok (.iconst 0, 1) := by decide +kernel
theorem d3 : decode yB 3 = .ok (.aload_n 1, 1) := by decide +kernel
theorem d4 : decode yB 4 = .ok (.arraylength, 1) := by decide +kernel
theorem d5 : decode yB 5 = .ok (.aconst_null, 1) := by decide +kernel
theorem d6 : decode yB 6 = .ok (.invokespecial 27, 3) := by decide +kernel
theorem d9 : decode yB 9 = .ok (.return_, 1) := by decide +kernel
def site : List Cond := [New4.tab] ++ initW "java/lang/String" 27 New4.yN
def tab : Cond := tabOf yN yB 2 none site
def P (a : Addr) (D : Cell) (fV fC : Field) (b : Addr) (A : Cell) (z : Int32) (args : Array Value) (s : State) : Prop := args = #[.ref a, .ref b] ∧ Blank "java/lang/String" a D s ∧ Found "java/lang/String" "value" "[B" fV s ∧ Found "java/lang/String" "coder" "B" fC s ∧ Ch b A s ∧ StaticIs s "java/lang/String" "COMPACT_STRINGS" "Z" (.int z) ∧ ¬ z = 0 ∧ 0 < A.slots.size ∧ A.slots.size ≤ 536870912 ∧ ∀ i, i < A.slots.size → ¬ 255 < cv A i
def E (a : Addr) (D : Cell) (fV fC : Field) (A : Cell) (r : Option Value) (s u : State) : Prop := Got a D fV fC A 0 A.slots.size r s u
/-- new String(chars), not empty, no char above 255: a Latin-1 String of their low bytes -/
theorem law (l : Launch) (a : Addr) (D : Cell) (fV fC : Field) (b : Addr) (A : Cell) (z : Int32) : Law l yN 2 1 3 52 yB 2 none site (P a D fV fC b A z) (E a D fV fC A) [⟨a, fC.slot⟩, ⟨a, fV.slot⟩] 1 A.slots.size := by
  refine Law.of_walk (plainFor_of_name (by decide +kernel)) (by decide +kernel) (by decide +kernel) (by decide) (fun _ _ h => by rw [h.1]; rfl) (fun _ U U' hal hh h => ⟨h.1, h.2.1.mv hal hh, h.2.2.1.al hal, h.2.2.2.1.al hal, h.2.2.2.2.1.mv hal hh, h.2.2.2.2.2.1.there hal hh, h.2.2.2.2.2.2⟩) (fun r U U' V V' h1 hal h2 h => Got.mv r U U' V V' h1 hal h2 h) ?_
  intro p e s m args below meth c s₁ X0 hexec hbytes hml hret hlk hnm hown hh0 W hP
  obtain ⟨rfl, hB, f1, f2, hA, s1, hz, l0, l2, hp⟩ := hP
  have c1 : Steps p.tables e below (s₁.setTop (entryFrame m #[.ref a, .ref b] 2)) (s₁.setTop (mkF m 0 #[.val (.ref a), .val (.ref b)] [])) := entry rfl
  have c2 : Steps p.tables e below (s₁.setTop (entryFrame m #[.ref a, .ref b] 2)) (s₁.setTop (mkF m 6 #[.val (.ref a), .val (.ref b)] [.null, .int (Int32.ofNat A.slots.size), .int 0, .ref b, .ref a])) := c1.trans (by
    refine XS.aloadN X0.here hexec rfl (hb hbytes d0) rfl rfl ?_
    refine XS.aloadN X0.here hexec rfl (hb hbytes d1) rfl rfl ?_
    refine iconstV X0.here hexec rfl 0 (hb hbytes d2) (by decide) ?_
    refine XS.aloadN X0.here hexec rfl (hb hbytes d3) rfl rfl ?_
    refine X0.alen hexec (hA.1.mv X0.warmed.alike hh0) rfl rfl (hb hbytes d4) ?_
    refine XS.aconstNull X0.here hexec rfl (hb hbytes d5) ?_
    exact Steps.refl _)
  obtain ⟨v3, T3, X3, E3, g3⟩ := X0.callN hexec (New4.law l a D fV fC b A z 0 A.slots.size) rfl hown (wks W (initW "java/lang/String" 27 New4.yN)) (W New4.tab (by simp only [site, List.mem_cons, List.mem_append, true_or, or_true])) (W := 0) (Nat.le_of_ble_eq_true rfl) (Nat.le_of_ble_eq_true rfl) (Nat.le_refl _) (by show 0 + A.slots.size ≤ A.slots.size; omega) (g := (mkF m 6 #[.val (.ref a), .val (.ref b)] [.null, .int (Int32.ofNat A.slots.size), .int (Int32.ofNat 0), .ref b, .ref a])) rfl (by rw [hml]; rfl) c2 (argsL := [.ref b, .int (Int32.ofNat 0), .int (Int32.ofNat A.slots.size), .null]) (rest := []) rfl rfl (by show 2 * 0 + 0 ≤ _; decide) (hb hbytes d6) (⟨rfl, hB.mv X0.warmed.alike hh0, f1.al X0.warmed.alike, f2.al X0.warmed.alike, hA.mv X0.warmed.alike hh0, s1.there X0.warmed.alike hh0, hz, l0, by omega, l2, fun i hi => by rw [Nat.zero_add]; exact hp i hi⟩)
  have e0 := Got.mv _ s₁ s _ _ hh0.symm (Vm.Alike.refl _) rfl E3
  obtain rfl := e0.1
  have c4 : Steps p.tables e below (s₁.setTop (entryFrame m #[.ref a, .ref b] 2)) (T3.setTop (mkF m 9 #[.val (.ref a), .val (.ref b)] [])) := g3
  exact ⟨T3, none, _, _, _, X3, by simp, rfl, by omega, (fun _ => rfl), e0, fun fs hl => c4.trans (X3.returnOut hexec hret (hb hbytes d9) hl)⟩
theorem pays {l : Launch} {R : Room} {p : Program} {e : Env} {below : List Frame} {s : State} {sargs : Array Value} {len W : Nat} (a : Addr) (D : Cell) (fV fC : Field) (b : Addr) (A : Cell) (z : Int32) (htab : tab.before sargs s = true) (hfr : 4 ≤ R.frames) (hlo : W + 65 ≤ R.locals) :
    Back l R p e below s sargs yN len W (fun A₁ a₁ => A₁.cells + 1 ≤ R.cells ∧ A₁.slots + A.slots.size ≤ R.slots ∧ P a D fV fC b A z a₁ A₁.U) (fun A₁ _ v₁ B₁ => E a D fV fC A v₁ A₁.U B₁.U ∧ B₁.locs = A₁.locs ++ [⟨a, fC.slot⟩, ⟨a, fV.slot⟩] ∧ B₁.cells = A₁.cells + 1 ∧ B₁.slots = A₁.slots + A.slots.size) :=
  (law l a D fV fC b A z).pays htab hfr (by omega)
end New1
/-- the byte, read back as charAt reads it, is the char -/
theorem lo8_mask {x : Int32} (h0 : ¬ x < 0) (h1 : ¬ 255 < x) : lo8 x &&& 255 = x := by
  have t : ∀ k : Fin 256, lo8 (Int32.ofNat k.val) &&& 255 = Int32.ofNat k.val := by decide +kernel
  rw [Int32.lt_iff_toInt_lt] at h0 h1
  have e0 : (0 : Int32).toInt = 0 := rfl
  have e1 : (255 : Int32).toInt = 255 := rfl
  obtain ⟨k, hk⟩ : ∃ k : Nat, x.toInt = k := ⟨x.toInt.toNat, by omega⟩
  have hx : x = Int32.ofNat k := Int32.toInt_inj.mp (by rw [hk, Int32.toInt_ofNat_small (by omega)])
  rw [hx]
  exact t ⟨k, by omega⟩
end StrChars
namespace StrChars.Road
open Jvm Sem ClassFile Op Lib Jvm.Stand Jvm.Free Jvm.Free.XT
open Jvm.Lib.Cold (StaticIs)
abbrev ST : String := "java/lang/String"
/-- every table word that New1's law asks, flat -/
abbrev words : List Jvm.Cond := [.code New1.yN New1.yB 2 none, .initialized ST, .methodLink ST 27 New4.yN, .instanceMethod New4.yN,
  .code New4.yN New4.yB 6 none, .fieldLink ST 38 ST "COMPACT_STRINGS" "Z", .laysFinal ST ST "value" "[B", .fieldLink ST 9 ST "value" "[B", .laysFinal ST ST "coder" "B", .fieldLink ST 15 ST "coder" "B",
  .methodLink ST 1 Lib.objectInit, .instanceMethod Lib.objectInit, .code Lib.objectInit ⟨#[0xb1]⟩ 1 none, .methodLink ST 177 Cmp3.yN, .static Cmp3.yN, .methodLink ST 47 CodL.yN, .static CodL.yN,
  .code Cmp3.yN Cmp3.yB 6 (some (.array .byte)), .initialized U16, .arrayClass .byte, .methodLink U16 115 Cmp5.yN, .static Cmp5.yN, .code Cmp5.yN Cmp5.yB 7 (some .int), .code CodL.yN CodL.yB 2 (some .byte)]
theorem tab_of {a : Array Value} {s : State} (h : ∀ w ∈ words, w.before a s = true) : New1.tab.before a s = true := by
  have h5 : Cmp5.tab.before a s = true := unparts (wk h (.code Cmp5.yN Cmp5.yB 7 (some .int))) (wks h (.initialized Cmp5.yN.cls :: Cmp5.site))
  have hc : CodL.tab.before a s = true := unparts (wk h (.code CodL.yN CodL.yB 2 (some .byte))) (wks h (.initialized CodL.yN.cls :: CodL.site))
  have q5 : ∀ w ∈ Cmp5.tab :: words, w.before a s = true := fun w hw => (List.mem_cons.mp hw).elim (fun e => e ▸ h5) (h w)
  have h3 : Cmp3.tab.before a s = true := unparts (wk q5 (.code Cmp3.yN Cmp3.yB 6 (some (.array .byte)))) (wks q5 (.initialized Cmp3.yN.cls :: Cmp3.site))
  have q3 : ∀ w ∈ Cmp3.tab :: CodL.tab :: words, w.before a s = true := fun w hw => (List.mem_cons.mp hw).elim (fun e => e ▸ h3) fun hw => (List.mem_cons.mp hw).elim (fun e => e ▸ hc) (h w)
  have h4 : New4.tab.before a s = true := unparts (wk q3 (.code New4.yN New4.yB 6 none)) (wks q3 (.initialized New4.yN.cls :: New4.site))
  have q4 : ∀ w ∈ New4.tab :: words, w.before a s = true := fun w hw => (List.mem_cons.mp hw).elim (fun e => e ▸ h4) (h w)
  exact unparts (wk q4 (.code New1.yN New1.yB 2 none)) (wks q4 (.initialized New1.yN.cls :: New1.site))
/-- the words ride from the start Z to the walk's own state -/
theorem moved {Z s : State} {a0 args : Array Value} (hZ : Z.Warmed39 s.vm) (hw : ∀ d ∈ words, d.before a0 Z = true) : ∀ d ∈ words, d.before args s = true := fun d hd => by
  have q := hw d hd
  have t : ∀ d ∈ words, d = .arrayClass .byte ∨ (d.onTables && d.keepsFace) = true := by decide +kernel
  rcases t d hd with rfl | t
  · exact RoadKit.mvA hZ q
  · exact RoadKit.mv hZ q t
/-- WHAT COMES BACK, over the tables of the start Z: h the heap at the call, h' behind it -/
def Q (Z : State) (x : Addr) (A : Cell) (h : Heap) (v : Option Value) (h' : Heap) (L : List Loc) : Prop := v = none ∧ (∀ y ∈ L, y.base = x) ∧ RoadKit.Keep h h' [x] ∧ h'.size = h.size + 1 ∧ RoadKit.Exa Z h' x ST ∧ RoadKit.Fld Z h' x ST "value" "[B" (.ref h.size) ∧ RoadKit.Fld Z h' x ST "coder" "B" (.int 0) ∧
  (∃ V : Cell, RoadKit.Arr Z h' h.size V .byte ∧ V.vm = .none ∧ Z.vm.findClass "[B" = some V.cls ∧ V.slots.size = A.slots.size ∧ ∀ j, j < A.slots.size → V.slots[j]? = some (.int (lo8 (cv A j)))) ∧
  ∀ (O n d : String) (w : Value), RoadKit.Fld Z h x O n d w → RoadKit.slotOf Z O n d ≠ RoadKit.slotOf Z ST "value" "[B" → RoadKit.slotOf Z O n d ≠ RoadKit.slotOf Z ST "coder" "B" → RoadKit.Fld Z h' x O n d w
/-- **new String(chars) AT A CALL, IN THE ROAD'S FORM**: for specialBack behind newO: x the fresh String, b the char[] with the cell A -/
theorem back {p : Program} {l : Launch} {e : Env} {R : Room} {s : State} {args : Array Value} {below : List Frame} {len W : Nat} {Z : State} {a0 : Array Value} {h : Heap} (hZ : Z.Warmed39 s.vm) (hw : ∀ d ∈ words, d.before a0 Z = true) {kI : Nat} (wi : (Jvm.Cond.instantiable ST kI).before a0 Z = true)
    {x b : Addr} {A : Cell} {z : Int32} {v0 c0 : Value} (E : RoadKit.Exa Z h x ST) (V : RoadKit.Fld Z h x ST "value" "[B" v0) (C : RoadKit.Fld Z h x ST "coder" "B" c0) (K : RoadKit.Arr Z h b A .char) (hty : Typed .char A) (S : RoadKit.Sta Z h ST "COMPACT_STRINGS" "Z" (.int z)) (hz : ¬ z = 0)
    (l0 : 0 < A.slots.size) (l2 : A.slots.size ≤ 536870912) (hp : ∀ i, i < A.slots.size → ¬ 255 < cv A i) (hfr : 4 ≤ R.frames) (hlo : W + 65 ≤ R.locals) :
    Back l R p e below s args New1.yN len W (fun P a => a = #[.ref x, .ref b] ∧ P.U.heap = h ∧ P.cells + 1 ≤ R.cells ∧ P.slots + A.slots.size ≤ R.slots)
      (fun P _ v B => ∃ L, Q Z x A h v B.U.heap L ∧ B.locs = P.locs ++ L ∧ B.cells = P.cells + 1 ∧ B.slots = P.slots + A.slots.size) := by
  intro m meth c P g ig mk a X hg hsize hdg hW hn hp'
  obtain ⟨rfl, rfl, r1, r2⟩ := hp'
  have al : Z.vm.Alike P.U.vm := hZ.alike.trans X.warmed.alike
  obtain ⟨D, cfV, kV, iV, fV, hD, gV, stV, knV, obV, asV, slV⟩ := id V
  obtain ⟨D', cfC, kC, iC, fC, hD', gC, stC, -, -, asC, slC⟩ := id C
  cases hD.symm.trans hD'
  obtain ⟨D2, kD, e1, e2, e3, e4, e5⟩ := id E
  cases hD.symm.trans e1
  obtain ⟨c2, k2, i1, i2, i3, -⟩ := Cond.instantiable_spec wi
  cases e2.symm.trans i1
  cases e3.symm.trans i2
  obtain ⟨kU, u1, u2⟩ := al.2.2 _ _ e3
  have hB : Blank ST x D P.U := ⟨hD, ⟨knV, fun q hq => by rw [hq] at obV; cases obV⟩, by rw [al.findClass]; exact e2, kU, u1, by rw [u2]; exact i3, by rw [u2]; exact e5 i3⟩
  have F1 : Found ST "value" "[B" fV P.U := ⟨SBG.found_only al ⟨cfV, kV, iV, gV⟩, stV⟩
  have F2 : Found ST "coder" "B" fC P.U := ⟨SBG.found_only al ⟨cfC, kC, iC, gC⟩, stC⟩
  have hA : Ch b A P.U := ⟨⟨K.1, State.isArrayOf_alike al K.2.1, K.2.2, by omega⟩, hty⟩
  have hS : StaticIs P.U ST "COMPACT_STRINGS" "Z" (.int z) := by
    obtain ⟨cfS, iS, kS, fS, st, cS, t1, t2, t3, t4, t5, t6, t7⟩ := S
    exact StaticIs.there (s := { Z with heap := P.U.heap }) ⟨cfS, iS, kS, fS, st, cS, t1, t2, t3, t4, t5, (fun q => by rw [q] at t6; cases t6), t7⟩ al rfl
  obtain ⟨v, B, X', ⟨⟨hv, E', V', q1, q2, q3, q4, q5, q6, q7, q8, q9, q10, q11⟩, hl, hc, hs⟩, st⟩ := New1.pays x D fV fC b A z (tab_of (moved hZ hw)) hfr hlo m meth c P g ig mk _ X hg hsize hdg hW hn ⟨r1, r2, rfl, hB, F1, F2, hA, hS, hz, l0, l2, hp⟩
  have al' : Z.vm.Alike B.U.vm := hZ.alike.trans X'.warmed.alike
  have hsz : E'.slots.size = D.slots.size := by
    obtain ⟨-, -, -, kB, w1, w2, w3⟩ := q1
    obtain ⟨kB', y1, y2⟩ := al'.2.2 _ _ e3
    rw [q2.2.1] at w1
    cases w1.symm.trans y1
    rw [w3, e5 i3, y2]
  refine ⟨v, B, X', ⟨_, ⟨hv, ?_, ⟨by omega, fun y cy hy hn' => q10 y cy (by simpa using hn') hy, fun y cy hy => ?_⟩, q11, ⟨E', _, q1.1, by rw [q2.2.1]; exact e2, by rw [q2.2.1]; exact e3, by rw [q2.1]; exact obV, fun _ => by rw [hsz]; exact e5 i3⟩,
    ⟨E', cfV, kV, iV, fV, q1.1, gV, stV, by rw [q2.1]; exact knV, by rw [q2.1]; exact obV, by rw [q2.2.1]; exact asV, q3⟩, ⟨E', cfC, kC, iC, fC, q1.1, gC, stC, by rw [q2.1]; exact knV, by rw [q2.1]; exact obV, by rw [q2.2.1]; exact asC, q4⟩,
    ⟨V', ⟨q5.1, State.isArrayOf_alike al'.symm q5.2.1, q5.2.2.1⟩, q6, by rw [← al'.findClass]; exact q7, q8, fun j hj => by have := q9 j hj; rwa [Nat.zero_add] at this⟩, fun O n d w F n1 n2 => ?_⟩, hl, hc, hs⟩, st⟩
  · intro y hy
    simp only [List.mem_cons, List.not_mem_nil, or_false] at hy
    rcases hy with rfl | rfl <;> rfl
  · by_cases q : y = x
    · subst q
      cases hD.symm.trans hy
      exact ⟨E', q1.1, q2.2.1, q2.1, hsz⟩
    · exact ⟨cy, q10 y cy q hy, rfl, rfl, rfl⟩
  · obtain ⟨D3, cf, k, i, f, g1, g2, g3, g4, g5, g6, g7⟩ := F
    cases hD.symm.trans g1
    simp only [RoadKit.slotOf, g2, gV, gC, Option.map_some, Option.getD_some] at n1 n2
    exact ⟨E', cf, k, i, f, q1.1, g2, g3, by rw [q2.1]; exact g4, by rw [q2.1]; exact g5, by rw [q2.2.1]; exact g6, by rw [q2.2.2 f.slot (by simp [n1, n2])]; exact g7⟩
end StrChars.Road
namespace StrChars.Road
open Jvm Sem ClassFile Op Lib Jvm.Stand Jvm.Free Jvm.Free.XT
/-- WHAT COMES BACK, the byte[] as a list of values -/
def QA (Z : State) (x : Addr) (zn : Int32) (cs : List Int32) (h : Heap) (v : Option Value) (h' : Heap) (L : List Loc) : Prop := v = none ∧ (∀ y ∈ L, y.base = x) ∧ RoadKit.Keep h h' [x] ∧ h'.size = h.size + 1 ∧ RoadKit.Exa Z h' x ST ∧ RoadKit.Fld Z h' x ST "value" "[B" (.ref h.size) ∧ RoadKit.Fld Z h' x ST "coder" "B" (.int 0) ∧
  (∃ kb, Z.vm.findClass "[B" = some kb ∧ RoadKit.Arv Z h' h.size kb .byte zn (cs.map fun c => .int (lo8 c)) (.int 0)) ∧
  ∀ (O n d : String) (w : Value), RoadKit.Fld Z h x O n d w → RoadKit.slotOf Z O n d ≠ RoadKit.slotOf Z ST "value" "[B" → RoadKit.slotOf Z O n d ≠ RoadKit.slotOf Z ST "coder" "B" → RoadKit.Fld Z h' x O n d w
/-- **new String(chars) AT A CALL, THE ARRAYS AS LISTS**: the char[] at b holds cs, not empty, no char above 255 -/
theorem backArv {p : Program} {l : Launch} {e : Env} {R : Room} {s : State} {args : Array Value} {below : List Frame} {len W : Nat} {Z : State} {a0 : Array Value} {h : Heap} (hZ : Z.Warmed39 s.vm) (hw : ∀ d ∈ words, d.before a0 Z = true) {kI : Nat} (wi : (Jvm.Cond.instantiable ST kI).before a0 Z = true)
    {x b : Addr} {k : ClassId} {zn z : Int32} {cs : List Int32} {dv v0 c0 : Value} (E : RoadKit.Exa Z h x ST) (V : RoadKit.Fld Z h x ST "value" "[B" v0) (C : RoadKit.Fld Z h x ST "coder" "B" c0) (K : RoadKit.Arv Z h b k .char zn (cs.map Value.int) dv) (S : RoadKit.Sta Z h ST "COMPACT_STRINGS" "Z" (.int z)) (hz : ¬ z = 0)
    (hlen : zn.toNatClampNeg = cs.length) (h0 : 0 < cs.length) (hbig : cs.length ≤ 536870912) (hall : ∀ c ∈ cs, ¬ 255 < c) (hfr : 4 ≤ R.frames) (hlo : W + 65 ≤ R.locals) :
    Back l R p e below s args New1.yN len W (fun P a => a = #[.ref x, .ref b] ∧ P.U.heap = h ∧ P.cells + 1 ≤ R.cells ∧ P.slots + cs.length ≤ R.slots)
      (fun P _ v B => ∃ L, QA Z x zn cs h v B.U.heap L ∧ B.locs = P.locs ++ L ∧ B.cells = P.cells + 1 ∧ B.slots = P.slots + cs.length) := by
  obtain ⟨A, K1, K2, K3, K4, K5, K6⟩ := K
  have e : A.slots.size = cs.length := K3.trans hlen
  have hat : ∀ (i : Nat) (hi : i < cs.length), A.slots[i]? = some (.int cs[i]) := fun i hi => by rw [K5 i (by omega)]; simp [List.getD_eq_getElem?_getD, hi]
  have hcv : ∀ (i : Nat) (hi : i < cs.length), cv A i = cs[i] := fun i hi => by unfold cv; rw [hat i hi]
  have hty : Typed .char A := fun i v hv => by
    have hi : i < A.slots.size := (Array.getElem?_eq_some_iff.mp hv).1
    have q := K5 i hi
    rw [hv] at q
    rw [Option.some.inj q]
    exact K6 i hi
  refine Back.mono (back hZ hw wi E V C K1 hty S hz (by omega) (by omega) (fun i hi => by rw [hcv i (by omega)]; exact hall _ (List.getElem_mem _)) hfr hlo) (fun P a hp => ⟨hp.1, hp.2.1, hp.2.2.1, by rw [e]; exact hp.2.2.2⟩) (fun P a v B hp hq => ?_)
  obtain ⟨L, ⟨q1, q2, q3, q4, q5, q6, q7, ⟨V', v1, v2, v3, v4, v5⟩, q9⟩, hl, hc, hs⟩ := hq
  refine ⟨L, ⟨q1, q2, q3, q4, q5, q6, q7, ⟨V'.cls, v3, V', v1, rfl, by rw [v4, e, hlen], K4, fun i hi => ?_, fun i hi => ?_⟩, q9⟩, hl, hc, by rw [hs, e]⟩
  · have hi' : i < cs.length := by omega
    rw [v5 i (by omega), hcv i hi']; simp [List.getD_eq_getElem?_getD, hi']
  · have hi' : i < cs.length := by omega
    simp only [List.getD_eq_getElem?_getD, List.getElem?_map, List.getElem?_eq_getElem hi', Option.map_some, Option.getD_some]
    exact fits_lo8 _
end StrChars.Road
namespace StrChars.Road
open Jvm Sem ClassFile Op Lib Jvm.Stand Jvm.Free Jvm.Free.XT
/-- WHAT COMES BACK, in the writer's own shape -/
def QV (Z : State) (x : Addr) (N : Int32) (bs : List Int32) (h : Heap) (n0 : Nat) (v : Option Value) (h' : Heap) (L : List Loc) : Prop := v = none ∧ RoadKit.Fr n0 L ∧ RoadKit.Keep h h' [x] ∧ RoadKit.Exa Z h' x ST ∧ RoadKit.Fld Z h' x ST "coder" "B" (.int 0) ∧
  ∃ (t : Addr) (kb : ClassId), n0 ≤ t ∧ h.size ≤ t ∧ ¬ t = x ∧ RoadKit.Fld Z h' x ST "value" "[B" (.ref t) ∧ RoadKit.Arv Z h' t kb .byte N (bs.map Value.int) (.int 0)
/-- **new String(chars) AT A CALL, FOR THE WRITER**: a char[] of n known ints, each 0 to 255 -/
theorem backV {p : Program} {l : Launch} {e : Env} {R : Room} {s : State} {args : Array Value} {below : List Frame} {len W : Nat} {Z : State} {a0 : Array Value} {h : Heap} (hZ : Z.Warmed39 s.vm) (hw : ∀ d ∈ words, d.before a0 Z = true) {kI : Nat} (wi : (Jvm.Cond.instantiable ST kI).before a0 Z = true)
    {x b : Addr} {kC : ClassId} {cs bs : List Int32} {d v0 c0 : Value} {z N : Int32} {n n0 : Nat} (hx0 : n0 ≤ x) (hh0 : n0 ≤ h.size) (E : RoadKit.Exa Z h x ST) (V : RoadKit.Fld Z h x ST "value" "[B" v0) (C : RoadKit.Fld Z h x ST "coder" "B" c0) (K : RoadKit.Arv Z h b kC .char N (cs.map Value.int) d) (S : RoadKit.Sta Z h ST "COMPACT_STRINGS" "Z" (.int z)) (hz : ¬ z = 0)
    (hn : cs.length = n) (hN : N = Int32.ofNat n) (l0 : 0 < n) (l2 : n ≤ 4000) (hp : ∀ c ∈ cs, ¬ c < 0 ∧ ¬ (255 : Int32) < c) (hb : bs = cs.map (fun c => c.toInt8.toInt32)) (hfr : 4 ≤ R.frames) (hlo : W + 65 ≤ R.locals) :
    Back l R p e below s args (⟨"java/lang/String", "<init>", "([C)V"⟩ : MethodName) len W (fun P a => a = #[.ref x, .ref b] ∧ P.U.heap = h ∧ P.cells + 1 ≤ R.cells ∧ P.slots + n ≤ R.slots)
      (fun P _ v B => ∃ L, QV Z x N bs h n0 v B.U.heap L ∧ B.locs = P.locs ++ L ∧ B.cells = P.cells + 1 ∧ B.slots = P.slots + n) := by
  subst hn hN hb
  refine Back.mono (backArv hZ hw wi E V C K S hz (n32 (by omega)) l0 (by omega) (fun c hc => (hp c hc).2) hfr hlo) (fun P a hp => hp) (fun P a v B hp hq => ?_)
  obtain ⟨L, ⟨q1, q2, q3, q4, q5, q6, q7, ⟨kb, v1, v2⟩, q9⟩, hl, hc, hs⟩ := hq
  exact ⟨L, ⟨q1, fun y hy => by rw [q2 y hy]; exact hx0, q3, q5, q7, h.size, kb, hh0, Nat.le_refl _, Nat.ne_of_gt E.lt, q6, by rw [List.map_map]; exact v2⟩, hl, hc, hs⟩
end StrChars.Road
namespace StrChars
open Jvm Sem ClassFile Op Lib Jvm.Stand Jvm.Free.XT Jvm.Free.ALB Jvm.Free.JM Jvm.Free
open Jvm.Lib.Cold (StaticIs)
def hi8 (x : Int32) : Int32 := lo8 (x >>> ((8 : Int32) &&& 31))
/-- what StringUTF16.getChar makes of two bytes -/
def pairCh (u v : Int32) : Int32 := (((u &&& 255) <<< ((0 : Int32) &&& 31)) ||| ((v &&& 255) <<< ((8 : Int32) &&& 31))).toUInt32.toUInt16.toUInt32.toInt32
theorem lo8_and (x : Int32) : (lo8 x &&& 255).toBitVec.toNat = x.toBitVec.toNat % 256 := by
  have h : (lo8 x).toBitVec = (x.toBitVec.signExtend 8).signExtend 32 := by rw [lo8, Int8.toBitVec_toInt32, Int32.toBitVec_toInt8]
  rw [Int32.toBitVec_and, BitVec.toNat_and, h]
  have e : ((x.toBitVec.signExtend 8).signExtend 32).toNat % 256 = x.toBitVec.toNat % 256 := by
    rw [BitVec.toNat_signExtend]
    have hlt := x.toBitVec.isLt
    simp only [BitVec.toNat_setWidth, BitVec.toNat_signExtend]
    split <;> split <;> omega
  rw [← e]
  exact Nat.and_two_pow_sub_one_eq_mod _ 8
theorem pair_says {c : Int32} (h0 : ¬ c < 0) (h1 : ¬ 65535 < c) : pairCh (lo8 c) (hi8 c) = c := by
  rw [Int32.lt_iff_toInt_lt] at h0 h1
  have e0 : (0 : Int32).toInt = 0 := rfl
  have e1 : (65535 : Int32).toInt = 65535 := rfl
  have hc : c.toInt = c.toBitVec.toNat := by
    have := c.toBitVec.isLt
    have e : c.toInt = c.toBitVec.toInt := rfl
    rw [e] at h0 h1
    rw [e]
    rw [BitVec.toInt_eq_toNat_cond] at h0 h1 ⊢
    split at h0 <;> split <;> omega
  have hn : c.toBitVec.toNat < 65536 := by omega
  have a1 := lo8_and c
  have a2 : (hi8 c &&& 255).toBitVec.toNat = c.toBitVec.toNat / 256 := by
    rw [hi8, lo8_and]
    have e : ((8 : Int32) &&& 31) = 8 := by decide
    rw [e, Int32.toBitVec_shiftRight]
    have e2 : ((8 : Int32).toBitVec.smod 32) = 8#32 := by decide
    rw [e2, BitVec.sshiftRight_eq', BitVec.toNat_sshiftRight_of_msb_false (by rw [BitVec.msb_eq_false_iff_two_mul_lt]; omega)]
    show c.toBitVec.toNat >>> 8 % 256 = _
    rw [Nat.shiftRight_eq_div_pow]
    omega
  unfold pairCh
  apply Int32.toBitVec_inj.mp
  apply BitVec.eq_of_toNat_eq
  have f0 : ((0 : Int32) &&& 31) = 0 := by decide
  have f8 : ((8 : Int32) &&& 31) = 8 := by decide
  rw [f0, f8]
  have g : (((lo8 c &&& 255) <<< (0 : Int32)) ||| ((hi8 c &&& 255) <<< (8 : Int32))).toBitVec.toNat = c.toBitVec.toNat := by
    rw [Int32.toBitVec_or, Int32.toBitVec_shiftLeft, Int32.toBitVec_shiftLeft]
    have s0 : ((0 : Int32).toBitVec.smod 32) = 0#32 := by decide
    have s8 : ((8 : Int32).toBitVec.smod 32) = 8#32 := by decide
    rw [s0, s8, BitVec.toNat_or]
    simp only [BitVec.shiftLeft_eq', BitVec.toNat_shiftLeft, a1, a2]
    show (c.toBitVec.toNat % 256) <<< 0 % 2 ^ 32 ||| (c.toBitVec.toNat / 256) <<< 8 % 2 ^ 32 = _
    rw [Nat.shiftLeft_zero, Nat.mod_eq_of_lt (show c.toBitVec.toNat % 256 < 2 ^ 32 by omega), Nat.mod_eq_of_lt (show (c.toBitVec.toNat / 256) <<< 8 < 2 ^ 32 by rw [Nat.shiftLeft_eq]; omega), Nat.or_comm, ← Nat.shiftLeft_add_eq_or_of_lt (by omega), Nat.shiftLeft_eq]
    omega
  show BitVec.toNat (((((lo8 c &&& 255) <<< (0 : Int32)) ||| ((hi8 c &&& 255) <<< (8 : Int32))).toBitVec.setWidth 16).setWidth 32) = _
  rw [BitVec.toNat_setWidth, BitVec.toNat_setWidth, g]
  omega
end StrChars
namespace StrChars
open Jvm Sem ClassFile Op Lib Jvm.Stand Jvm.Free.XT Jvm.Free.ALB Jvm.Free.JM Jvm.Free
open Jvm.Lib.Cold (StaticIs)
/-- the array's cell V codes the n chars f 0 .. f (n - 1) by the coder cd, as the JDK does: coder 1 just where some char is above 255 -/
def Cod (cd : Int32) (n : Nat) (f : Nat → Int32) (V : Cell) : Prop := (cd = 0 ∧ V.slots.size = n ∧ ∀ j, j < n → V.slots[j]? = some (.int (lo8 (f j))) ∧ ¬ 255 < f j) ∨ (cd = 1 ∧ V.slots.size = 2 * n ∧ (∀ j, j < n → V.slots[2 * j]? = some (.int (lo8 (f j))) ∧ V.slots[2 * j + 1]? = some (.int (hi8 (f j)))) ∧ ∃ j, j < n ∧ 255 < f j)
/-- **x is a String of the n chars f 0 .. f (n - 1)**, Latin-1 or UTF-16; its array at t has the cell V -/
def Txt (x t : Addr) (V : Cell) (cd : Int32) (n : Nat) (f : Nat → Int32) (U : State) : Prop := Exact "java/lang/String" x U ∧ Has x "java/lang/String" "value" "[B" (.ref t) U ∧ Has x "java/lang/String" "coder" "B" (.int cd) U ∧ XT.Arr .byte t V U ∧ Cod cd n f V ∧ ∀ j, j < n → ¬ f j < 0 ∧ ¬ 65535 < f j
theorem Txt.mv {x t : Addr} {V : Cell} {cd : Int32} {n : Nat} {f : Nat → Int32} {U U' : State} (h : Txt x t V cd n f U) (hal : U.vm.Alike U'.vm) (hh : U'.heap = U.heap) : Txt x t V cd n f U' := ⟨h.1.mv hal hh, h.2.1.mv hal hh, h.2.2.1.mv hal hh, h.2.2.2.1.mv hal hh, h.2.2.2.2⟩
end StrChars
namespace StrChars.Road
open Jvm Sem ClassFile Op Lib Jvm.Stand Jvm.Free Jvm.Free.XT
open Jvm.Lib.Cold (StaticIs)
theorem consq {a : Array Value} {s : State} {c : Jvm.Cond} {L : List Jvm.Cond} (h0 : c.before a s = true) (h : ∀ w ∈ L, w.before a s = true) : ∀ w ∈ c :: L, w.before a s = true := fun w hw => (List.mem_cons.mp hw).elim (fun e => e ▸ h0) (h w)
/-- the bytes of the chars cs, low before high -/
def wideBytes : List Int32 → List Value
  | [] => []
  | c :: cs => .int (lo8 c) :: .int (hi8 c) :: wideBytes cs
theorem wide_lo (d : Value) : ∀ (cs : List Int32) (j : Nat), j < cs.length → (wideBytes cs).getD (2 * j) d = .int (lo8 (cs.getD j 0))
  | [], j, h => absurd h (Nat.not_lt_zero j)
  | c :: cs, 0, _ => rfl
  | c :: cs, j + 1, h => by
    have q := wide_lo d cs j (by simpa using h)
    rw [show 2 * (j + 1) = 2 * j + 1 + 1 from by omega]
    simpa [wideBytes] using q
theorem wide_hi (d : Value) : ∀ (cs : List Int32) (j : Nat), j < cs.length → (wideBytes cs).getD (2 * j + 1) d = .int (hi8 (cs.getD j 0))
  | [], j, h => absurd h (Nat.not_lt_zero j)
  | c :: cs, 0, _ => rfl
  | c :: cs, j + 1, h => by
    have q := wide_hi d cs j (by simpa using h)
    rw [show 2 * (j + 1) + 1 = 2 * j + 1 + 1 + 1 from by omega]
    simpa [wideBytes] using q
theorem low_at (d : Value) (cs : List Int32) (j : Nat) (h : j < cs.length) : (cs.map fun c => Value.int (lo8 c)).getD j d = .int (lo8 (cs.getD j 0)) := by
  simp [List.getD_eq_getElem?_getD, h]
/-- an array of N2 bytes vs codes the chars cs by the coder cd -/
def CodA (cs : List Int32) (cd N2 : Int32) (vs : List Value) : Prop := (cd = 0 ∧ N2 = Int32.ofNat cs.length ∧ vs = (cs.map fun c => Value.int (lo8 c)) ∧ ∀ c ∈ cs, ¬ 255 < c) ∨ (cd = 1 ∧ N2 = Int32.ofNat (2 * cs.length) ∧ vs = wideBytes cs ∧ ∃ c ∈ cs, 255 < c)
theorem CodA.cod {cs : List Int32} {cd N2 : Int32} {vs : List Value} {V : Cell} (h : CodA cs cd N2 vs) (hn : 2 * cs.length < 2 ^ 31) (hs : V.slots.size = N2.toNatClampNeg) (hv : RoadKit.Has V vs (.int 0)) : Cod cd cs.length (fun j => cs.getD j 0) V := by
  rcases h with ⟨rfl, rfl, rfl, h⟩ | ⟨rfl, rfl, rfl, c, hc, hw⟩
  · rw [n32 (by omega)] at hs
    exact Or.inl ⟨rfl, hs, fun j hj => ⟨by rw [hv j (by omega), low_at _ _ _ hj], by
      have e : cs.getD j 0 = cs[j] := by simp [List.getD_eq_getElem?_getD, hj]
      show ¬ 255 < cs.getD j 0
      rw [e]; exact h _ (List.getElem_mem _)⟩⟩
  · rw [n32 (by omega)] at hs
    obtain ⟨j, hj, rfl⟩ := List.getElem_of_mem hc
    exact Or.inr ⟨rfl, hs, fun j hj => ⟨by rw [hv _ (by omega), wide_lo _ _ _ hj], by rw [hv _ (by omega), wide_hi _ _ _ hj]⟩, j, hj, by
      have e : cs.getD j 0 = cs[j] := by simp [List.getD_eq_getElem?_getD, hj]
      show 255 < cs.getD j 0
      rw [e]; exact hw⟩
/-- an object of exactly java/lang/String, its two fields found: as the laws ask it -/
theorem strObj {Z U : State} {a0 : Array Value} {kI : Nat} (wi : (Jvm.Cond.instantiable ST kI).before a0 Z = true) (al : Z.vm.Alike U.vm) {x : Addr} {v0 c0 : Value} (E : RoadKit.Exa Z U.heap x ST) (V : RoadKit.Fld Z U.heap x ST "value" "[B" v0) (C : RoadKit.Fld Z U.heap x ST "coder" "B" c0) :
    ∃ (D : Cell) (fV fC : Field), Blank ST x D U ∧ Found ST "value" "[B" fV U ∧ Found ST "coder" "B" fC U ∧ D.slots[fV.slot]? = some v0 ∧ D.slots[fC.slot]? = some c0 ∧ RoadKit.slotOf Z ST "value" "[B" = fV.slot ∧ RoadKit.slotOf Z ST "coder" "B" = fC.slot := by
  obtain ⟨D, cfV, kV, iV, fV, hD, gV, stV, knV, obV, asV, slV⟩ := V
  obtain ⟨D', cfC, kC, iC, fC, hD', gC, stC, -, -, asC, slC⟩ := C
  cases hD.symm.trans hD'
  obtain ⟨D2, kD, e1, e2, e3, e4, e5⟩ := E
  cases hD.symm.trans e1
  obtain ⟨c2, k2, i1, i2, i3, -⟩ := Cond.instantiable_spec wi
  cases e2.symm.trans i1
  cases e3.symm.trans i2
  obtain ⟨kU, u1, u2⟩ := al.2.2 _ _ e3
  exact ⟨D, fV, fC, ⟨hD, ⟨knV, fun q hq => by rw [hq] at obV; cases obV⟩, by rw [al.findClass]; exact e2, kU, u1, by rw [u2]; exact i3, by rw [u2]; exact e5 i3⟩, ⟨SBG.found_only al ⟨cfV, kV, iV, gV⟩, stV⟩, ⟨SBG.found_only al ⟨cfC, kC, iC, gC⟩, stC⟩, slV, slC, by simp [RoadKit.slotOf, gV], by simp [RoadKit.slotOf, gC]⟩
theorem sta_is {Z U : State} (al : Z.vm.Alike U.vm) {C n d : String} {v : Value} (S : RoadKit.Sta Z U.heap C n d v) : StaticIs U C n d v := by
  obtain ⟨cfS, iS, kS, fS, st, cS, t1, t2, t3, t4, t5, t6, t7⟩ := S
  exact StaticIs.there (s := { Z with heap := U.heap }) ⟨cfS, iS, kS, fS, st, cS, t1, t2, t3, t4, t5, (fun q => by rw [q] at t6; cases t6), t7⟩ al rfl
end StrChars.Road
namespace StrChars
open Jvm Sem ClassFile Op Lib Jvm.Stand Jvm.Free.XT Jvm.Free.ALB Jvm.Free.JM Jvm.Free
open Jvm.Lib.Cold (StaticIs)
/-- what place i of a byte[]'s cell holds -/
def yv (A : Cell) (i : Nat) : Int32 := match A.slots[i]? with | some (.int x) => x | _ => 0
theorem yv_get {a : Addr} {A : Cell} {U : State} (h : XT.Arr .byte a A U) (ht : Typed .byte A) {i : Nat} (hi : i < A.slots.size) : A.slots[i]? = some (.int (yv A i)) := by
  have e := Array.getElem?_eq_getElem hi
  have f := ht i _ e
  unfold yv; rw [e]
  generalize A.slots[i] = v at f
  cases v <;> simp [fits] at f ⊢
/-- the two arrays are equal, place for place -/
def EqC (A B : Cell) : Prop := A.slots.size = B.slots.size ∧ ∀ i, i < A.slots.size → yv A i = yv B i
/-- a boolean that says whether p -/
def Says01 (q : Prop) (r : Option Value) (s u : State) : Prop := ∃ v : Int32, r = some (.int v) ∧ u.heap = s.heap ∧ ((v = 1 ∧ q) ∨ (v = 0 ∧ ¬ q))
theorem Says01.mv {q : Prop} : ∀ r (U U' V V' : State), U'.heap = U.heap → V.vm.Alike V'.vm → V'.heap = V.heap → Says01 q r U V → Says01 q r U' V' :=
  fun r U U' V V' h1 _ h2 ⟨v, a, b, c⟩ => ⟨v, a, by rw [h1, h2]; exact b, c⟩
namespace LEq
def yN : MethodName := ⟨"java/lang/StringLatin1", "equals", "([B[B)Z"⟩
abbrev yB : ByteArray := jdk_43_method_13_code
theorem d0 : decode yB 0 = .ok (.aload_n 0, 1) := by decide +kernel
theorem d1 : decode yB 1 = .ok (.arraylength, 1) := by decide +kernel
theorem d2 : decode yB 2 = .ok (.aload_n 1, 1) := by decide +kernel
theorem d3 : decode yB 3 = .ok (.arraylength, 1) := by decide +kernel
theorem d4 : decode yB 4 = .ok (.if_icmp (.ne) 30, 3) := by decide +kernel
theorem d7 : decode yB 7 = .ok (.iconst 0, 1) := by decide +kernel
theorem d8 : decode yB 8 = .ok (.istore_n 2, 1) := by decide +kernel
theorem d9 : decode yB 9 = .ok (.iload_n 2, 1) := by decide +kernel
theorem d10 : decode yB 10 = .ok (.aload_n 0, 1) := by decide +kernel
theorem d11 : decode yB 11 = .ok (.arraylength, 1) := by decide +kernel
theorem d12 : decode yB 12 = .ok (.if_icmp (.ge) 20, 3) := by decide +kernel
theorem d15 : decode yB 15 = .ok (.aload_n 0, 1) := by decide +kernel
theorem d16 : decode yB 16 = .ok (.iload_n 2, 1) := by decide +kernel
theorem d17 : decode yB 17 = .ok (.baload, 1) := by decide +kernel
theorem d18 : decode yB 18 = .ok (.aload_n 1, 1) := by decide +kernel
theorem d19 : decode yB 19 = .ok (.iload_n 2, 1) := by decide +kernel
theorem d20 : decode yB 20 = .ok (.baload, 1) := by decide +kernel
theorem d21 : decode yB 21 = .ok (.if_icmp (.eq) 5, 3) := by decide +kernel
theorem d24 : decode yB 24 = .ok (.iconst 0, 1) := by decide +kernel
theorem d25 : decode yB 25 = .ok (.ireturn, 1) := by decide +kernel
theorem d26 : decode yB 26 = .ok (.iinc 2 1, 3) := by decide +kernel
theorem d29 : decode yB 29 = .ok (.goto (-20), 3) := by decide +kernel
theorem d32 : decode yB 32 = .ok (.iconst 1, 1) := by decide +kernel
theorem d33 : decode yB 33 = .ok (.ireturn, 1) := by decide +kernel
theorem d34 : decode yB 34 = .ok (.iconst 0, 1) := by decide +kernel
theorem d35 : decode yB 35 = .ok (.ireturn, 1) := by decide +kernel
def site : List Cond := []
def tab : Cond := tabOf yN yB 3 (some .boolean) site
def P (a : Addr) (A : Cell) (b : Addr) (B : Cell) (args : Array Value) (s : State) : Prop := args = #[.ref a, .ref b] ∧ XT.Arr .byte a A s ∧ Typed .byte A ∧ XT.Arr .byte b B s ∧ Typed .byte B
/-- whether two byte[] are equal, place for place -/
theorem law (l : Launch) (a : Addr) (A : Cell) (b : Addr) (B : Cell) : Law l yN 2 2 0 0 yB 3 (some .boolean) site (P a A b B) (Says01 (EqC A B)) [] 0 0 := by
  refine Law.of_walk (plainFor_of_name (by decide +kernel)) (by decide +kernel) (by decide +kernel) (by decide) (fun _ _ h => by rw [h.1]; rfl) (fun _ U U' hal hh h => ⟨h.1, h.2.1.mv hal hh, h.2.2.1, h.2.2.2.1.mv hal hh, h.2.2.2.2⟩) (fun r U U' V V' h1 hal h2 h => Says01.mv r U U' V V' h1 hal h2 h) ?_
  intro p e s m args below meth c s₁ X0 hexec hbytes hml hret hlk hnm hown hh0 W hP
  obtain ⟨rfl, hA, tA, hB, tB⟩ := hP
  have a31 := hA.2.2.2
  have b31 := hB.2.2.2
  have hA0 := hA.mv X0.warmed.alike hh0
  have hB0 := hB.mv X0.warmed.alike hh0
  have c1 : Steps p.tables e below (s₁.setTop (entryFrame m #[.ref a, .ref b] 3)) (s₁.setTop (mkF m 0 #[.val (.ref a), .val (.ref b), .unset] [])) := entry rfl
  have c2 : Steps p.tables e below (s₁.setTop (entryFrame m #[.ref a, .ref b] 3)) (s₁.setTop (mkF m 4 #[.val (.ref a), .val (.ref b), .unset] [.int (Int32.ofNat B.slots.size), .int (Int32.ofNat A.slots.size)])) := c1.trans (by
    refine XS.aloadN X0.here hexec rfl (hb hbytes d0) rfl rfl ?_
    refine X0.alen hexec hA0 rfl rfl (hb hbytes d1) ?_
    refine XS.aloadN X0.here hexec rfl (hb hbytes d2) rfl rfl ?_
    refine X0.alen hexec hB0 rfl rfl (hb hbytes d3) ?_
    exact Steps.refl _)
  by_cases hs : A.slots.size = B.slots.size
  · have c3 : Steps p.tables e below (s₁.setTop (entryFrame m #[.ref a, .ref b] 3)) (s₁.setTop (mkF m 9 #[.val (.ref a), .val (.ref b), .val (.int 0)] [])) := c2.trans (by
      refine XS.icmpNo X0.here hexec rfl (hb hbytes d4) rfl (ii_ne_f (by rw [hs])) ?_
      refine iconstV X0.here hexec rfl 0 (hb hbytes d7) (by decide) ?_
      refine XS.istoreN X0.here hexec rfl (hb hbytes d8) rfl rfl ?_
      exact Steps.refl _)
    have loop : ∀ (r i : Nat), i + r = A.slots.size → (∀ j, j < i → yv A j = yv B j) → Steps p.tables e below (s₁.setTop (entryFrame m #[.ref a, .ref b] 3)) (s₁.setTop (mkF m 9 #[.val (.ref a), .val (.ref b), .val (.int (Int32.ofNat i))] [])) → ∃ (pc : Nat) (Ls : Array Slot) (v : Int32), (pc = 25 ∨ pc = 33) ∧ ((v = 1 ∧ EqC A B) ∨ (v = 0 ∧ ¬ EqC A B)) ∧ Steps p.tables e below (s₁.setTop (entryFrame m #[.ref a, .ref b] 3)) (s₁.setTop (mkF m pc Ls [.int v])) := by
      intro r
      induction r with
      | zero =>
        intro i hi he cl
        exact ⟨33, _, 1, Or.inr rfl, Or.inl ⟨rfl, hs, fun j hj => he j (by omega)⟩, cl.trans (by
          refine XS.iloadN X0.here hexec rfl (hb hbytes d9) rfl ?_
          refine XS.aloadN X0.here hexec rfl (hb hbytes d10) rfl rfl ?_
          refine X0.alen hexec hA0 rfl rfl (hb hbytes d11) ?_
          refine XS.icmpYes X0.here hexec rfl (pc0 := 12) rfl (hb hbytes d12) rfl (ii_ge_t (nlt32 (by omega) (by omega))) (by decide) rfl ?_
          refine iconstV X0.here hexec rfl 1 (hb hbytes d32) (by decide) ?_
          exact Steps.refl _)⟩
      | succ r ih =>
        intro i hi he cl
        have c4 : Steps p.tables e below (s₁.setTop (entryFrame m #[.ref a, .ref b] 3)) (s₁.setTop (mkF m 21 #[.val (.ref a), .val (.ref b), .val (.int (Int32.ofNat i))] [.int (yv B i), .int (yv A i)])) := cl.trans (by
          refine XS.iloadN X0.here hexec rfl (hb hbytes d9) rfl ?_
          refine XS.aloadN X0.here hexec rfl (hb hbytes d10) rfl rfl ?_
          refine X0.alen hexec hA0 rfl rfl (hb hbytes d11) ?_
          refine XS.icmpNo X0.here hexec rfl (hb hbytes d12) rfl (ii_ge_f (lt32 (by omega) (by omega))) ?_
          refine XS.aloadN X0.here hexec rfl (hb hbytes d15) rfl rfl ?_
          refine XS.iloadN X0.here hexec rfl (hb hbytes d16) rfl ?_
          refine X0.aget hexec hA0 rfl (yv_get hA tA (i := i) (by omega)) rfl rfl (hb hbytes d17) ?_
          refine XS.aloadN X0.here hexec rfl (hb hbytes d18) rfl rfl ?_
          refine XS.iloadN X0.here hexec rfl (hb hbytes d19) rfl ?_
          refine X0.aget hexec hB0 rfl (yv_get hB tB (i := i) (by omega)) rfl rfl (hb hbytes d20) ?_
          exact Steps.refl _)
        by_cases hv : yv A i = yv B i
        · have c5 : Steps p.tables e below (s₁.setTop (entryFrame m #[.ref a, .ref b] 3)) (s₁.setTop (mkF m 9 #[.val (.ref a), .val (.ref b), .val (.int (Int32.ofNat i + 1))] [])) := c4.trans (by
            refine XS.icmpYes X0.here hexec rfl (pc0 := 21) rfl (hb hbytes d21) rfl (ii_eq_t hv) (by decide) rfl ?_
            refine iincV X0.here hexec rfl 1 (hb hbytes d26) (by decide) rfl rfl ?_
            refine XS.goto X0.here hexec rfl (pc0 := 29) rfl (hb hbytes d29) (by decide) rfl ?_
            exact Steps.refl _)
          rw [succ32] at c5
          exact ih (i + 1) (by omega) (fun j hj => by
            by_cases e : j = i
            · rw [e]; exact hv
            · exact he j (by omega)) c5
        · exact ⟨25, _, 0, Or.inl rfl, Or.inr ⟨rfl, fun q => hv (q.2 i (by omega))⟩, c4.trans (by
            refine XS.icmpNo X0.here hexec rfl (hb hbytes d21) rfl (ii_eq_f hv) ?_
            refine iconstV X0.here hexec rfl 0 (hb hbytes d24) (by decide) ?_
            exact Steps.refl _)⟩
    obtain ⟨pc, Ls, v, hpc, hv, cz⟩ := loop A.slots.size 0 (by omega) (fun j hj => absurd hj (Nat.not_lt_zero j)) c3
    have nv : narrow .boolean (.int v) = .int v := by rcases hv with ⟨rfl, -⟩ | ⟨rfl, -⟩ <;> rfl
    rcases hpc with rfl | rfl
    · exact ⟨s₁, some (.int v), _, _, _, X0, rfl, rfl, rfl, (fun h => by cases h), ⟨v, rfl, hh0, hv⟩, fun fs hl => cz.trans (X0.ireturnOut hexec hret nv (Or.inr (Or.inl rfl)) (hb hbytes d25) hl)⟩
    · exact ⟨s₁, some (.int v), _, _, _, X0, rfl, rfl, rfl, (fun h => by cases h), ⟨v, rfl, hh0, hv⟩, fun fs hl => cz.trans (X0.ireturnOut hexec hret nv (Or.inr (Or.inl rfl)) (hb hbytes d33) hl)⟩
  · have c3 : Steps p.tables e below (s₁.setTop (entryFrame m #[.ref a, .ref b] 3)) (s₁.setTop (mkF m 35 #[.val (.ref a), .val (.ref b), .unset] [.int 0])) := c2.trans (by
      refine XS.icmpYes X0.here hexec rfl (pc0 := 4) rfl (hb hbytes d4) rfl (ii_ne_t (ne32 a31 b31 hs)) (by decide) rfl ?_
      refine iconstV X0.here hexec rfl 0 (hb hbytes d34) (by decide) ?_
      exact Steps.refl _)
    exact ⟨s₁, some (.int 0), _, _, _, X0, rfl, rfl, rfl, (fun h => by cases h), ⟨0, rfl, hh0, Or.inr ⟨rfl, fun q => hs q.1⟩⟩, fun fs hl => c3.trans (X0.ireturnOut hexec hret rfl (Or.inr (Or.inl rfl)) (hb hbytes d35) hl)⟩
end LEq
theorem Cod.ty {cd : Int32} {n : Nat} {f : Nat → Int32} {V : Cell} (h : Cod cd n f V) : Typed .byte V := fun i v hv => by
  have hi : i < V.slots.size := (Array.getElem?_eq_some_iff.mp hv).1
  rcases h with ⟨-, k1, k2⟩ | ⟨-, k1, k2, -⟩
  · rw [(k2 i (by omega)).1] at hv; cases hv; exact fits_lo8 _
  · rcases Nat.mod_two_eq_zero_or_one i with e | e
    · obtain ⟨j, rfl⟩ : ∃ j, i = 2 * j := ⟨i / 2, by omega⟩
      rw [(k2 j (by omega)).1] at hv; cases hv; exact fits_lo8 _
    · obtain ⟨j, rfl⟩ : ∃ j, i = 2 * j + 1 := ⟨i / 2, by omega⟩
      rw [(k2 j (by omega)).2] at hv; cases hv; exact fits_lo8 _
/-- the same text -/
def SameT (n : Nat) (f : Nat → Int32) (k : Nat) (g : Nat → Int32) : Prop := n = k ∧ ∀ j, j < n → f j = g j
theorem lo8_inj {x y : Int32} (h0 : ¬ x < 0) (h1 : ¬ 255 < x) (k0 : ¬ y < 0) (k1 : ¬ 255 < y) (h : lo8 x = lo8 y) : x = y := by
  rw [← lo8_mask h0 h1, ← lo8_mask k0 k1, h]
/-- arrays coded by one coder are equal just where the texts are -/
theorem Cod.eqv {cd : Int32} {n k : Nat} {f g : Nat → Int32} {V V' : Cell} (h : Cod cd n f V) (h' : Cod cd k g V') (hf : ∀ j, j < n → ¬ f j < 0 ∧ ¬ 65535 < f j) (hg : ∀ j, j < k → ¬ g j < 0 ∧ ¬ 65535 < g j) : EqC V V' ↔ SameT n f k g := by
  have yvv : ∀ {W : Cell} {i : Nat} {x : Int32}, W.slots[i]? = some (.int x) → yv W i = x := fun q => by unfold yv; rw [q]
  rcases h with ⟨rfl, k1, k2⟩ | ⟨rfl, k1, k2, -⟩
  · rcases h' with ⟨-, m1, m2⟩ | ⟨e, -⟩
    · constructor
      · rintro ⟨e1, e2⟩
        refine ⟨by omega, fun j hj => ?_⟩
        have q := e2 j (by omega)
        rw [yvv (k2 j hj).1, yvv (m2 j (by omega)).1] at q
        exact lo8_inj (hf j hj).1 (k2 j hj).2 (hg j (by omega)).1 (m2 j (by omega)).2 q
      · rintro ⟨rfl, e2⟩
        refine ⟨by omega, fun j hj => ?_⟩
        rw [yvv (k2 j (by omega)).1, yvv (m2 j (by omega)).1, e2 j (by omega)]
    · exact absurd e (by decide)
  · rcases h' with ⟨e, -⟩ | ⟨-, m1, m2, -⟩
    · exact absurd e (by decide)
    · constructor
      · rintro ⟨e1, e2⟩
        refine ⟨by omega, fun j hj => ?_⟩
        have q1 := e2 (2 * j) (by omega)
        have q2 := e2 (2 * j + 1) (by omega)
        rw [yvv (k2 j hj).1, yvv (m2 j (by omega)).1] at q1
        rw [yvv (k2 j hj).2, yvv (m2 j (by omega)).2] at q2
        rw [← pair_says (hf j hj).1 (hf j hj).2, ← pair_says (hg j (by omega)).1 (hg j (by omega)).2, q1, q2]
      · rintro ⟨rfl, e2⟩
        refine ⟨by omega, fun i hi => ?_⟩
        rcases Nat.mod_two_eq_zero_or_one i with e | e
        · obtain ⟨j, rfl⟩ : ∃ j, i = 2 * j := ⟨i / 2, by omega⟩
          rw [yvv (k2 j (by omega)).1, yvv (m2 j (by omega)).1, e2 j (by omega)]
        · obtain ⟨j, rfl⟩ : ∃ j, i = 2 * j + 1 := ⟨i / 2, by omega⟩
          rw [yvv (k2 j (by omega)).2, yvv (m2 j (by omega)).2, e2 j (by omega)]
/-- two codings differ: so do the texts -/
theorem Cod.dif {cd cd' : Int32} {n k : Nat} {f g : Nat → Int32} {V V' : Cell} (h : Cod cd n f V) (h' : Cod cd' k g V') (hne : ¬ cd = cd') : ¬ SameT n f k g := by
  rintro ⟨rfl, e⟩
  rcases h with ⟨rfl, -, k2⟩ | ⟨rfl, -, -, j, hj, hw⟩
  · rcases h' with ⟨rfl, -⟩ | ⟨-, -, -, j, hj, hw⟩
    · exact hne rfl
    · exact (k2 j hj).2 (by rw [e j hj]; exact hw)
  · rcases h' with ⟨-, -, m2⟩ | ⟨rfl, -⟩
    · exact (m2 j hj).2 (by rw [← e j hj]; exact hw)
    · exact hne rfl
/-- an object of exactly C is an instance of C -/
theorem cinst {p : Program} {l : Launch} {e : Env} {R : Room} {s : State} {m : MethodId} {args : Array Value} {below : List Frame} {meth : Method} {c : Code} {T : State} {locs : List Loc} {cells slots : Nat} (X : Stand p l e R s m args below meth c T locs cells slots) (hexec : p.tables.exec = Jvm.exec) {own C : String} {index : Nat} (hown : s.vm.findClass own = some m.cls) (hlink : (Cond.classLink own index C).before args s = true) {a : Addr} (hE : Exact C a T)
    {g : JFrame} (hg : g.method = m) {rest : List Value} (hstack : g.stack = .ref a :: rest) (hdg : decode c.code g.pc = .ok (.instanceof index, 3)) :
    ∃ T', Stand p l e R s m args below meth c T' locs cells slots ∧ T'.heap = T.heap ∧ ∀ target, Steps p.tables e below (T'.setTop { g with pc := g.pc + 3, stack := .int 1 :: rest }) target → Steps p.tables e below (T.setTop g) target := by
  obtain ⟨cB, h1, D, h2, h3, h4⟩ := hE
  have h1' : s.vm.findClass C = some cB := by rw [← X.warmed.alike.findClass]; exact h1
  obtain ⟨vm', X', st⟩ := X.instanceofYes hexec hown hlink h2 h4 h1' (by rw [h3]; exact Jvm.Free.SB.assignable_self _ _) hg hstack hdg
  exact ⟨_, X', rfl, st⟩
theorem cself {p : Program} {l : Launch} {e : Env} {R : Room} {s : State} {m : MethodId} {args : Array Value} {below : List Frame} {meth : Method} {c : Code} {T : State} {locs : List Loc} {cells slots : Nat} (X : Stand p l e R s m args below meth c T locs cells slots) (hexec : p.tables.exec = Jvm.exec) {own C : String} {index : Nat} (hown : s.vm.findClass own = some m.cls) (hlink : (Cond.classLink own index C).before args s = true) {a : Addr} (hE : Exact C a T)
    {g : JFrame} (hg : g.method = m) {rest : List Value} (hstack : g.stack = .ref a :: rest) (hdg : decode c.code g.pc = .ok (.checkcast index, 3)) :
    ∃ T', Stand p l e R s m args below meth c T' locs cells slots ∧ T'.heap = T.heap ∧ ∀ target, Steps p.tables e below (T'.setTop { g with pc := g.pc + 3, stack := .ref a :: rest }) target → Steps p.tables e below (T.setTop g) target := by
  obtain ⟨cB, h1, D, h2, h3, h4⟩ := hE
  have h1' : s.vm.findClass C = some cB := by rw [← X.warmed.alike.findClass]; exact h1
  obtain ⟨vm', X', st⟩ := X.checkcastYes hexec hown hlink h2 h4 h1' (by rw [h3]; exact Jvm.Free.SB.assignable_self _ _) hg hstack hdg
  exact ⟨_, X', rfl, fun t h => st t (by rw [← hstack] at h; exact h)⟩
namespace SEq
def yN : MethodName := ⟨"java/lang/String", "equals", "(Ljava/lang/Object;)Z"⟩
abbrev yB : ByteArray := jdk_42_method_66_code
theorem d0 : decode yB 0 = .ok (.aload_n 0, 1) := by decide +kernel
theorem d1 : decode yB 1 = .ok (.aload_n 1, 1) := by decide +kernel
theorem d2 : decode yB 2 = .ok (.if_acmp (.ne) 5, 3) := by decide +kernel
theorem d5 : decode yB 5 = .ok (.iconst 1, 1) := by decide +kernel
theorem d6 : decode yB 6 = .ok (.ireturn, 1) := by decide +kernel
theorem d7 : decode yB 7 = .ok (.aload_n 1, 1) := by decide +kernel
theorem d8 : decode yB 8 = .ok (.instanceof 10, 3) := by decide +kernel
theorem d11 : decode yB 11 = .ok (.ifCond (.eq) 43, 3) := by decide +kernel
theorem d14 : decode yB 14 = .ok (.aload_n 1, 1) := by decide +kernel
theorem d15 : decode yB 15 = .ok (.checkcast 10, 3) := by decide +kernel
theorem d18 : decode yB 18 = .ok (.astore_n 2, 1) := by decide +kernel
theorem d19 : decode yB 19 = .ok (.getstatic 38, 3) := by decide +kernel
theorem d22 : decode yB 22 = .ok (.ifCond (.eq) 14, 3) := by decide +kernel
theorem d25 : decode yB 25 = .ok (.aload_n 0, 1) := by decide +kernel
theorem d26 : decode yB 26 = .ok (.getfield 15, 3) := by decide +kernel
theorem d29 : decode yB 29 = .ok (.aload_n 2, 1) := by decide +kernel
theorem d30 : decode yB 30 = .ok (.getfield 15, 3) := by decide +kernel
theorem d33 : decode yB 33 = .ok (.if_icmp (.ne) 21, 3) := by decide +kernel
theorem d36 : decode yB 36 = .ok (.aload_n 0, 1) := by decide +kernel
theorem d37 : decode yB 37 = .ok (.getfield 9, 3) := by decide +kernel
theorem d40 : decode yB 40 = .ok (.aload_n 2, 1) := by decide +kernel
theorem d41 : decode yB 41 = .ok (.getfield 9, 3) := by decide +kernel
theorem d44 : decode yB 44 = .ok (.invokestatic 541, 3) := by decide +kernel
theorem d47 : decode yB 47 = .ok (.ifCond (.eq) 7, 3) := by decide +kernel
theorem d50 : decode yB 50 = .ok (.iconst 1, 1) := by decide +kernel
theorem d51 : decode yB 51 = .ok (.goto 4, 3) := by decide +kernel
theorem d54 : decode yB 54 = .ok (.iconst 0, 1) := by decide +kernel
theorem d55 : decode yB 55 = .ok (.ireturn, 1) := by decide +kernel
def site : List Cond := [.classLink "java/lang/String" 10 "java/lang/String", .fieldLink "java/lang/String" 38 "java/lang/String" "COMPACT_STRINGS" "Z", .fieldLink "java/lang/String" 15 "java/lang/String" "coder" "B", .fieldLink "java/lang/String" 9 "java/lang/String" "value" "[B", LEq.tab] ++ staticW "java/lang/String" 541 LEq.yN
def tab : Cond := tabOf yN yB 3 (some .boolean) site
def P (x t : Addr) (V : Cell) (cd : Int32) (n : Nat) (f : Nat → Int32) (y t' : Addr) (V' : Cell) (cd' : Int32) (k : Nat) (g : Nat → Int32) (z : Int32) (args : Array Value) (s : State) : Prop := args = #[.ref x, .ref y] ∧ Txt x t V cd n f s ∧ Txt y t' V' cd' k g s ∧ StaticIs s "java/lang/String" "COMPACT_STRINGS" "Z" (.int z) ∧ ¬ z = 0
/-- equals(Object) of two Strings: whether the texts are the same -/
theorem law (l : Launch) (x t : Addr) (V : Cell) (cd : Int32) (n : Nat) (f : Nat → Int32) (y t' : Addr) (V' : Cell) (cd' : Int32) (k : Nat) (g : Nat → Int32) (z : Int32) : Law l yN 2 1 1 14 yB 3 (some .boolean) site (P x t V cd n f y t' V' cd' k g z) (Says01 (SameT n f k g)) [] 0 0 := by
  refine Law.of_walk (plainFor_of_name (by decide +kernel)) (by decide +kernel) (by decide +kernel) (by decide) (fun _ _ h => by rw [h.1]; rfl) (fun _ U U' hal hh h => ⟨h.1, h.2.1.mv hal hh, h.2.2.1.mv hal hh, h.2.2.2.1.there hal hh, h.2.2.2.2⟩) (fun r U U' V V' h1 hal h2 h => Says01.mv r U U' V V' h1 hal h2 h) ?_
  intro p e s m args below meth c s₁ X0 hexec hbytes hml hret hlk hnm hown hh0 W hP
  obtain ⟨rfl, hx, hy, s1, hz⟩ := hP
  have c1 : Steps p.tables e below (s₁.setTop (entryFrame m #[.ref x, .ref y] 3)) (s₁.setTop (mkF m 2 #[.val (.ref x), .val (.ref y), .unset] [.ref y, .ref x])) := Steps.trans (entry rfl) (by
    show Steps p.tables e below (s₁.setTop (mkF m 0 #[.val (.ref x), .val (.ref y), .unset] [])) _
    refine XS.aloadN X0.here hexec rfl (hb hbytes d0) rfl rfl ?_
    refine XS.aloadN X0.here hexec rfl (hb hbytes d1) rfl rfl ?_
    exact Steps.refl _)
  by_cases hxy : x = y
  · have c2 : Steps p.tables e below (s₁.setTop (entryFrame m #[.ref x, .ref y] 3)) (s₁.setTop (mkF m 6 #[.val (.ref x), .val (.ref y), .unset] [.int 1])) := c1.trans (by
      refine acmpNo X0.here hexec rfl (hb hbytes d2) rfl rfl rfl (by simp [acmp, hxy]) ?_
      refine iconstV X0.here hexec rfl 1 (hb hbytes d5) (by decide) ?_
      exact Steps.refl _)
    subst hxy
    have ec : cd = cd' := by
      obtain ⟨D, fd, a1, a2, a3⟩ := hx.2.2.1
      obtain ⟨D', fd', b1, b2, b3⟩ := hy.2.2.1
      cases a1.symm.trans b1
      obtain ⟨q1, q2, q3, q4⟩ := a2.1
      obtain ⟨r1, r2, r3, r4⟩ := b2.1
      cases q4.symm.trans r4
      cases a3.symm.trans b3; rfl
    have et : t = t' := by
      obtain ⟨D, fd, a1, a2, a3⟩ := hx.2.1
      obtain ⟨D', fd', b1, b2, b3⟩ := hy.2.1
      cases a1.symm.trans b1
      obtain ⟨q1, q2, q3, q4⟩ := a2.1
      obtain ⟨r1, r2, r3, r4⟩ := b2.1
      cases q4.symm.trans r4
      cases a3.symm.trans b3; rfl
    subst ec et
    have ev : V = V' := by cases hx.2.2.2.1.1.symm.trans hy.2.2.2.1.1; rfl
    subst ev
    have hs : SameT n f k g := (Cod.eqv hx.2.2.2.2.1 hy.2.2.2.2.1 hx.2.2.2.2.2 hy.2.2.2.2.2).mp ⟨rfl, fun _ _ => rfl⟩
    exact ⟨s₁, some (.int 1), _, _, _, X0, rfl, rfl, rfl, (fun h => by cases h), ⟨1, rfl, hh0, Or.inl ⟨rfl, hs⟩⟩, fun fs hl => c2.trans (X0.ireturnOut hexec hret rfl (Or.inr (Or.inl rfl)) (hb hbytes d6) hl)⟩
  · have c2 : Steps p.tables e below (s₁.setTop (entryFrame m #[.ref x, .ref y] 3)) (s₁.setTop (mkF m 8 #[.val (.ref x), .val (.ref y), .unset] [.ref y])) := c1.trans (by
      refine acmpYes X0.here hexec rfl (pc0 := 2) rfl (hb hbytes d2) rfl rfl rfl (by simp [acmp, hxy]) (by decide) rfl ?_
      refine XS.aloadN X0.here hexec rfl (hb hbytes d7) rfl rfl ?_
      exact Steps.refl _)
    obtain ⟨T3, X3, q3, st3⟩ := cinst X0 hexec hown (wk W (.classLink "java/lang/String" 10 "java/lang/String")) (hy.mv X0.warmed.alike hh0).1 (g := (mkF m 8 #[.val (.ref x), .val (.ref y), .unset] [.ref y])) rfl (rest := []) rfl (hb hbytes d8)
    have hh3 := q3.trans hh0
    have c4 : Steps p.tables e below (s₁.setTop (entryFrame m #[.ref x, .ref y] 3)) (T3.setTop (mkF m 15 #[.val (.ref x), .val (.ref y), .unset] [.ref y])) := (c2.trans (st3 _ (Steps.refl _))).trans (by
      refine XS.ifNo X3.here hexec rfl (hb hbytes d11) rfl (i0_eq_f (by decide)) ?_
      refine XS.aloadN X3.here hexec rfl (hb hbytes d14) rfl rfl ?_
      exact Steps.refl _)
    obtain ⟨T5, X5, q5, st5⟩ := cself X3 hexec hown (wk W (.classLink "java/lang/String" 10 "java/lang/String")) (hy.mv X3.warmed.alike hh3).1 (g := (mkF m 15 #[.val (.ref x), .val (.ref y), .unset] [.ref y])) rfl (rest := []) rfl (hb hbytes d15)
    have hh5 := q5.trans hh3
    have c6 : Steps p.tables e below (s₁.setTop (entryFrame m #[.ref x, .ref y] 3)) (T5.setTop (mkF m 19 #[.val (.ref x), .val (.ref y), .val (.ref y)] [])) := (c4.trans (st5 _ (Steps.refl _))).trans (by
      refine XS.astoreN X5.here hexec rfl (hb hbytes d18) rfl rfl rfl ?_
      exact Steps.refl _)
    obtain ⟨T7, X7, q7, st7⟩ := X5.sget hexec hown (wk W (.fieldLink "java/lang/String" 38 "java/lang/String" "COMPACT_STRINGS" "Z")) s1 (fun _ _ h => by rw [hh5]; exact h) (g := (mkF m 19 #[.val (.ref x), .val (.ref y), .val (.ref y)] [])) rfl (hb hbytes d19)
    have hh7 := q7.trans hh5
    have c8 : Steps p.tables e below (s₁.setTop (entryFrame m #[.ref x, .ref y] 3)) (T7.setTop (mkF m 26 #[.val (.ref x), .val (.ref y), .val (.ref y)] [.ref x])) := (c6.trans (st7 _ (Steps.refl _))).trans (by
      refine XS.ifNo X7.here hexec rfl (hb hbytes d22) rfl (i0_eq_f hz) ?_
      refine XS.aloadN X7.here hexec rfl (hb hbytes d25) rfl rfl ?_
      exact Steps.refl _)
    obtain ⟨T9, X9, q9, st9⟩ := X7.hget hexec hown (wk W (.fieldLink "java/lang/String" 15 "java/lang/String" "coder" "B")) (hx.mv X7.warmed.alike hh7).2.2.1 (g := (mkF m 26 #[.val (.ref x), .val (.ref y), .val (.ref y)] [.ref x])) rfl (rest := []) rfl (hb hbytes d26)
    have hh9 := q9.trans hh7
    have c10 : Steps p.tables e below (s₁.setTop (entryFrame m #[.ref x, .ref y] 3)) (T9.setTop (mkF m 30 #[.val (.ref x), .val (.ref y), .val (.ref y)] [.ref y, .int cd])) := (c8.trans (st9 _ (Steps.refl _))).trans (by
      refine XS.aloadN X9.here hexec rfl (hb hbytes d29) rfl rfl ?_
      exact Steps.refl _)
    obtain ⟨T11, X11, q11, st11⟩ := X9.hget hexec hown (wk W (.fieldLink "java/lang/String" 15 "java/lang/String" "coder" "B")) (hy.mv X9.warmed.alike hh9).2.2.1 (g := (mkF m 30 #[.val (.ref x), .val (.ref y), .val (.ref y)] [.ref y, .int cd])) rfl (rest := [.int cd]) rfl (hb hbytes d30)
    have hh11 := q11.trans hh9
    have c12 : Steps p.tables e below (s₁.setTop (entryFrame m #[.ref x, .ref y] 3)) (T11.setTop (mkF m 33 #[.val (.ref x), .val (.ref y), .val (.ref y)] [.int cd', .int cd])) := c10.trans (st11 _ (Steps.refl _))
    by_cases hcd : cd = cd'
    · subst hcd
      have c13 : Steps p.tables e below (s₁.setTop (entryFrame m #[.ref x, .ref y] 3)) (T11.setTop (mkF m 37 #[.val (.ref x), .val (.ref y), .val (.ref y)] [.ref x])) := c12.trans (by
        refine XS.icmpNo X11.here hexec rfl (hb hbytes d33) rfl (ii_ne_f rfl) ?_
        refine XS.aloadN X11.here hexec rfl (hb hbytes d36) rfl rfl ?_
        exact Steps.refl _)
      obtain ⟨T14, X14, q14, st14⟩ := X11.hget hexec hown (wk W (.fieldLink "java/lang/String" 9 "java/lang/String" "value" "[B")) (hx.mv X11.warmed.alike hh11).2.1 (g := (mkF m 37 #[.val (.ref x), .val (.ref y), .val (.ref y)] [.ref x])) rfl (rest := []) rfl (hb hbytes d37)
      have hh14 := q14.trans hh11
      have c15 : Steps p.tables e below (s₁.setTop (entryFrame m #[.ref x, .ref y] 3)) (T14.setTop (mkF m 41 #[.val (.ref x), .val (.ref y), .val (.ref y)] [.ref y, .ref t])) := (c13.trans (st14 _ (Steps.refl _))).trans (by
        refine XS.aloadN X14.here hexec rfl (hb hbytes d40) rfl rfl ?_
        exact Steps.refl _)
      obtain ⟨T16, X16, q16, st16⟩ := X14.hget hexec hown (wk W (.fieldLink "java/lang/String" 9 "java/lang/String" "value" "[B")) (hy.mv X14.warmed.alike hh14).2.1 (g := (mkF m 41 #[.val (.ref x), .val (.ref y), .val (.ref y)] [.ref y, .ref t])) rfl (rest := [.ref t]) rfl (hb hbytes d41)
      have hh16 := q16.trans hh14
      have c17 : Steps p.tables e below (s₁.setTop (entryFrame m #[.ref x, .ref y] 3)) (T16.setTop (mkF m 44 #[.val (.ref x), .val (.ref y), .val (.ref y)] [.ref t', .ref t])) := c15.trans (st16 _ (Steps.refl _))
      obtain ⟨v18, T18, X18, E18, g18⟩ := X16.callS hexec (LEq.law l t V t' V') hown (wks W (staticW "java/lang/String" 541 LEq.yN)) (wk W LEq.tab) (W := 0) (Nat.le_of_ble_eq_true rfl) (Nat.le_of_ble_eq_true rfl) (Nat.le_refl _) (Nat.le_refl _) (g := (mkF m 44 #[.val (.ref x), .val (.ref y), .val (.ref y)] [.ref t', .ref t])) rfl (by rw [hml]; rfl) c17 (argsL := [.ref t, .ref t']) (rest := []) rfl rfl (by show 2 * 0 + 0 ≤ _; decide) (hb hbytes d44) (⟨rfl, hx.2.2.2.1.mv X16.warmed.alike hh16, hx.2.2.2.2.1.ty, hy.2.2.2.1.mv X16.warmed.alike hh16, hy.2.2.2.2.1.ty⟩)
      obtain ⟨v, rfl, q18, hv⟩ := E18
      have iff := Cod.eqv hx.2.2.2.2.1 hy.2.2.2.2.1 hx.2.2.2.2.2 hy.2.2.2.2.2
      rcases hv with ⟨rfl, he⟩ | ⟨rfl, he⟩
      · have c19 : Steps p.tables e below (s₁.setTop (entryFrame m #[.ref x, .ref y] 3)) (T18.setTop (mkF m 55 #[.val (.ref x), .val (.ref y), .val (.ref y)] [.int 1])) := Steps.trans g18 (by
          refine XS.ifNo X18.here hexec rfl (hb hbytes d47) rfl (i0_eq_f (by decide)) ?_
          refine iconstV X18.here hexec rfl 1 (hb hbytes d50) (by decide) ?_
          refine XS.goto X18.here hexec rfl (pc0 := 51) rfl (hb hbytes d51) (by decide) rfl ?_
          exact Steps.refl _)
        exact ⟨T18, some (.int 1), _, _, _, X18, rfl, rfl, rfl, (fun h => by cases h), ⟨1, rfl, q18.trans hh16, Or.inl ⟨rfl, iff.mp he⟩⟩, fun fs hl => c19.trans (X18.ireturnOut hexec hret rfl (Or.inr (Or.inl rfl)) (hb hbytes d55) hl)⟩
      · have c19 : Steps p.tables e below (s₁.setTop (entryFrame m #[.ref x, .ref y] 3)) (T18.setTop (mkF m 55 #[.val (.ref x), .val (.ref y), .val (.ref y)] [.int 0])) := Steps.trans g18 (by
          refine XS.ifYes X18.here hexec rfl (pc0 := 47) rfl (hb hbytes d47) rfl (i0_eq_t rfl) (by decide) rfl ?_
          refine iconstV X18.here hexec rfl 0 (hb hbytes d54) (by decide) ?_
          exact Steps.refl _)
        exact ⟨T18, some (.int 0), _, _, _, X18, rfl, rfl, rfl, (fun h => by cases h), ⟨0, rfl, q18.trans hh16, Or.inr ⟨rfl, fun q => he (iff.mpr q)⟩⟩, fun fs hl => c19.trans (X18.ireturnOut hexec hret rfl (Or.inr (Or.inl rfl)) (hb hbytes d55) hl)⟩
    · have c13 : Steps p.tables e below (s₁.setTop (entryFrame m #[.ref x, .ref y] 3)) (T11.setTop (mkF m 55 #[.val (.ref x), .val (.ref y), .val (.ref y)] [.int 0])) := c12.trans (by
        refine XS.icmpYes X11.here hexec rfl (pc0 := 33) rfl (hb hbytes d33) rfl (ii_ne_t hcd) (by decide) rfl ?_
        refine iconstV X11.here hexec rfl 0 (hb hbytes d54) (by decide) ?_
        exact Steps.refl _)
      exact ⟨T11, some (.int 0), _, _, _, X11, rfl, rfl, rfl, (fun h => by cases h), ⟨0, rfl, hh11, Or.inr ⟨rfl, Cod.dif hx.2.2.2.2.1 hy.2.2.2.2.1 hcd⟩⟩, fun fs hl => c13.trans (X11.ireturnOut hexec hret rfl (Or.inr (Or.inl rfl)) (hb hbytes d55) hl)⟩
theorem pays {l : Launch} {R : Room} {p : Program} {e : Env} {below : List Frame} {s : State} {sargs : Array Value} {len W : Nat} (x t : Addr) (V : Cell) (cd : Int32) (n : Nat) (f : Nat → Int32) (y t' : Addr) (V' : Cell) (cd' : Int32) (k : Nat) (g : Nat → Int32) (z : Int32) (htab : tab.before sargs s = true) (hfr : 2 ≤ R.frames) (hlo : W + 28 ≤ R.locals) :
    Back l R p e below s sargs yN len W (fun A₁ a₁ => A₁.cells + 0 ≤ R.cells ∧ A₁.slots + 0 ≤ R.slots ∧ P x t V cd n f y t' V' cd' k g z a₁ A₁.U) (fun A₁ _ v₁ B₁ => Says01 (SameT n f k g) v₁ A₁.U B₁.U ∧ B₁.locs = A₁.locs ++ [] ∧ B₁.cells = A₁.cells + 0 ∧ B₁.slots = A₁.slots + 0) :=
  (law l x t V cd n f y t' V' cd' k g z).pays htab hfr (by omega)
end SEq
end StrChars
namespace StrChars.Road
open Jvm Sem ClassFile Op Lib Jvm.Stand Jvm.Free Jvm.Free.XT
open Jvm.Lib.Cold (StaticIs)
/-- the words of String.equals(Object) -/
abbrev wordsEq : List Jvm.Cond := [.code SEq.yN SEq.yB 3 (some .boolean), .initialized ST, .classLink ST 10 ST, .fieldLink ST 38 ST "COMPACT_STRINGS" "Z", .fieldLink ST 15 ST "coder" "B", .fieldLink ST 9 ST "value" "[B", .methodLink ST 541 LEq.yN, .static LEq.yN, .code LEq.yN LEq.yB 3 (some .boolean), .initialized "java/lang/StringLatin1"]
theorem tabEq_of {a : Array Value} {s : State} (h : ∀ w ∈ wordsEq, w.before a s = true) : SEq.tab.before a s = true := by
  have hl : LEq.tab.before a s = true := unparts (wk h (.code LEq.yN LEq.yB 3 (some .boolean))) (wks h (.initialized LEq.yN.cls :: LEq.site))
  have q := consq hl h
  exact unparts (wk q (.code SEq.yN SEq.yB 3 (some .boolean))) (wks q (.initialized SEq.yN.cls :: SEq.site))
theorem movedEq {Z s : State} {a0 args : Array Value} (hZ : Z.Warmed39 s.vm) (hw : ∀ d ∈ wordsEq, d.before a0 Z = true) : ∀ d ∈ wordsEq, d.before args s = true := fun d hd => by
  have t : ∀ d ∈ wordsEq, (d.onTables && d.keepsFace) = true := by decide +kernel
  exact RoadKit.mv hZ (hw d hd) (t d hd)
/-- the road's facts of a String, as the laws ask it -/
theorem txt_of {Z U : State} {a0 : Array Value} {kI : Nat} (wi : (Jvm.Cond.instantiable ST kI).before a0 Z = true) (al : Z.vm.Alike U.vm) {x t : Addr} {kb : ClassId} {cs : List Int32} {cd N2 : Int32} {vs : List Value} (E : RoadKit.Exa Z U.heap x ST) (V : RoadKit.Fld Z U.heap x ST "value" "[B" (.ref t)) (C : RoadKit.Fld Z U.heap x ST "coder" "B" (.int cd)) (K : RoadKit.Arv Z U.heap t kb .byte N2 vs (.int 0)) (hc : CodA cs cd N2 vs) (hb : ∀ c ∈ cs, ¬ c < 0 ∧ ¬ (65535 : Int32) < c) (l2 : cs.length ≤ 4000) :
    ∃ A, Txt x t A cd cs.length (fun j => cs.getD j 0) U := by
  obtain ⟨A, K1, K2, K3, K4, K5, K6⟩ := K
  have hcod := hc.cod (by omega) K3 K5
  obtain ⟨D, fV, fC, hB, F1, F2, g1, g2, -, -⟩ := strObj wi al E V C
  exact ⟨A, ⟨_, hB.2.2.1, D, hB.1, rfl, by cases q : D.vm <;> first | rfl | exact absurd q (hB.2.1.2 _)⟩, Has.of hB F1 g1, Has.of hB F2 g2, ⟨K1.1, State.isArrayOf_alike al K1.2.1, K1.2.2, by rcases hcod with ⟨-, q, -⟩ | ⟨-, q, -⟩ <;> omega⟩, hcod, fun j hj => by
    have e : cs.getD j 0 = cs[j] := by simp [List.getD_eq_getElem?_getD, hj]
    show ¬ cs.getD j 0 < 0 ∧ ¬ 65535 < cs.getD j 0
    rw [e]; exact hb _ (List.getElem_mem _)⟩
theorem same_list (cs ds : List Int32) : SameT cs.length (fun j => cs.getD j 0) ds.length (fun j => ds.getD j 0) ↔ cs = ds := by
  constructor
  · rintro ⟨e, q⟩
    refine List.ext_getElem e fun j h1 h2 => ?_
    have := q j h1
    simpa [List.getD_eq_getElem?_getD, h1, h2] using this
  · rintro rfl
    exact ⟨rfl, fun _ _ => rfl⟩
/-- **equals(Object) OF TWO SUCH STRINGS**: 1 just where the chars are the same -/
theorem eqW {p : Program} {l : Launch} {e : Env} {R : Room} {s : State} {args : Array Value} {below : List Frame} {len W : Nat} {Z : State} {a0 : Array Value} {h : Heap} (hZ : Z.Warmed39 s.vm) (hw : ∀ d ∈ wordsEq, d.before a0 Z = true) {kI : Nat} (wi : (Jvm.Cond.instantiable ST kI).before a0 Z = true)
    {x t : Addr} {kb : ClassId} {cs : List Int32} {cd N2 : Int32} {vs : List Value} (E : RoadKit.Exa Z h x ST) (V : RoadKit.Fld Z h x ST "value" "[B" (.ref t)) (C : RoadKit.Fld Z h x ST "coder" "B" (.int cd)) (K : RoadKit.Arv Z h t kb .byte N2 vs (.int 0)) (hc : CodA cs cd N2 vs) (hb : ∀ c ∈ cs, ¬ c < 0 ∧ ¬ (65535 : Int32) < c) (l2 : cs.length ≤ 4000)
    {y t' : Addr} {kb' : ClassId} {ds : List Int32} {cd' N2' : Int32} {vs' : List Value} (E' : RoadKit.Exa Z h y ST) (V' : RoadKit.Fld Z h y ST "value" "[B" (.ref t')) (C' : RoadKit.Fld Z h y ST "coder" "B" (.int cd')) (K' : RoadKit.Arv Z h t' kb' .byte N2' vs' (.int 0)) (hc' : CodA ds cd' N2' vs') (hb' : ∀ c ∈ ds, ¬ c < 0 ∧ ¬ (65535 : Int32) < c) (l2' : ds.length ≤ 4000)
    {z : Int32} (S : RoadKit.Sta Z h ST "COMPACT_STRINGS" "Z" (.int z)) (hz : ¬ z = 0) (hfr : 2 ≤ R.frames) (hlo : W + 28 ≤ R.locals) :
    Back l R p e below s args (⟨"java/lang/String", "equals", "(Ljava/lang/Object;)Z"⟩ : MethodName) len W (fun P a => a = #[.ref x, .ref y] ∧ P.U.heap = h ∧ P.cells + 0 ≤ R.cells ∧ P.slots + 0 ≤ R.slots)
      (fun P _ v B => ∃ L, (((v = some (.int 1) ∧ cs = ds) ∨ (v = some (.int 0) ∧ ¬ cs = ds)) ∧ L = [] ∧ B.U.heap = h) ∧ B.locs = P.locs ++ L ∧ B.cells = P.cells + 0 ∧ B.slots = P.slots + 0) := by
  intro m meth c P g ig mk a X hg hsize hdg hW hn hp'
  obtain ⟨rfl, rfl, r1, r2⟩ := hp'
  have al : Z.vm.Alike P.U.vm := hZ.alike.trans X.warmed.alike
  obtain ⟨A, hx⟩ := txt_of wi al E V C K hc hb l2
  obtain ⟨A', hy⟩ := txt_of wi al E' V' C' K' hc' hb' l2'
  obtain ⟨v, B, X', ⟨⟨w, hv, hh, hq⟩, hl, hk, hs⟩, st⟩ := SEq.pays x t A cd cs.length (fun j => cs.getD j 0) y t' A' cd' ds.length (fun j => ds.getD j 0) z (tabEq_of (movedEq hZ hw)) hfr hlo m meth c P g ig mk _ X hg hsize hdg hW hn ⟨r1, r2, rfl, hx, hy, sta_is al S, hz⟩
  refine ⟨v, B, X', ⟨[], ⟨?_, rfl, hh⟩, hl, hk, hs⟩, st⟩
  rcases hq with ⟨rfl, q⟩ | ⟨rfl, q⟩
  · exact Or.inl ⟨hv, (same_list cs ds).mp q⟩
  · exact Or.inr ⟨hv, fun e => q ((same_list cs ds).mpr e)⟩
end StrChars.Road
end Jvm.Pilot.@@N@@
namespace Jvm.Pilot.@@N@@
open Jvm Jvm.ClassFile Sem Op Lib Jvm.Free Jvm.Stand Jvm.LawKit Jvm.RoadKit Bundle Jvm.Pilot.@@N@@.Jvm.D
theorem own_eqI {args : Array Value} {first s : State} {o : Option Outcome} {idx : List Nat} {t : Term} {n : Int32} (h : (Jvm.Cond.eq t (.int n)).value args first o s idx = some true) : t.eval args first o idx s = some (.int n) := by
  cases ht : t.eval args first o idx s with
  | none => simp [Jvm.Cond.value, Term.eval, ht] at h
  | some x => cases x <;> simp [Jvm.Cond.value, Term.eval, ht] at h ⊢; exact h
theorem own_eqL {args : Array Value} {first s : State} {o : Option Outcome} {idx : List Nat} {t : Term} {n : Int64} (h : (Jvm.Cond.eq t (.long n)).value args first o s idx = some true) : t.eval args first o idx s = some (.long n) := by
  cases ht : t.eval args first o idx s with
  | none => simp [Jvm.Cond.value, Term.eval, ht] at h
  | some x => cases x <;> simp [Jvm.Cond.value, Term.eval, ht] at h ⊢; exact h
theorem own_fld {args : Array Value} {Z : State} {t : Term} {a : Addr} {C n d : String} {v : Value} (ht : t.eval args Z none [] Z = some (.ref a)) (h : (Term.field t C n d).eval args Z none [] Z = some v) : Fld Z Z.heap a C n d v := Fld.start ((fld_at ht).symm.trans h)
theorem own_exa {args : Array Value} {Z : State} {t : Term} {C : String} (h : (Jvm.Cond.exactly t C).value args Z none Z [] = some true) : ∃ a, t.eval args Z none [] Z = some (.ref a) ∧ Exa Z Z.heap a C := by
  obtain ⟨a, e⟩ := exa_v h
  exact ⟨a, e, Exa.start e h⟩
def ArZ (Z : State) (h : Heap) (a : Addr) (ty : FieldType) (n : Int32) : Prop := ∃ c : Cell, Arr Z h a c ty ∧ c.slots.size = n.toNatClampNeg ∧ ¬ n < 0 ∧ True
theorem ArZ.lt {Z : State} {h : Heap} {a : Addr} {ty : FieldType} {n : Int32} (F : ArZ Z h a ty n) : a < h.size := by obtain ⟨c, A, -⟩ := F; exact A.lt
theorem ArZ.ext {Z : State} {h h' : Heap} {a : Addr} {ty : FieldType} {n : Int32} (F : ArZ Z h a ty n) (E : Ext h h') : ArZ Z h' a ty n := by obtain ⟨c, A, r⟩ := F; exact ⟨c, A.ext E, r⟩
theorem ArZ.other {Z : State} {h h' : Heap} {a b : Addr} {ty : FieldType} {n : Int32} {sl : Nat} {v : Value} (F : ArZ Z h b ty n) (W : Wr h h' a sl v) (q : b ≠ a) : ArZ Z h' b ty n := by obtain ⟨c, A, r⟩ := F; exact ⟨c, A.other W q, r⟩
theorem ArZ.keep {Z : State} {h h' : Heap} {a : Addr} {ty : FieldType} {n : Int32} {ws : List Addr} (F : ArZ Z h a ty n) (K : Keep h h' ws) (q : a ∉ ws) : ArZ Z h' a ty n := by obtain ⟨c, A, r⟩ := F; exact ⟨c, ⟨K.2.1 a c A.1 q, A.2⟩, r⟩
theorem ArZ.of {Z : State} {h : Heap} {a : Addr} {k : ClassId} {ty : FieldType} {n : Int32} {vs : List Value} {dv : Value} (F : Arv Z h a k ty n vs dv) : ArZ Z h a ty n := by obtain ⟨c, A, -, r1, r2, -⟩ := F; exact ⟨c, A, r1, r2, trivial⟩
theorem ArZ.set {Z : State} {h h' : Heap} {a : Addr} {c : Cell} {ty : FieldType} {n : Int32} {sl : Nat} {v : Value} (A : Arr Z h a c ty) (S : c.slots.size = n.toNatClampNeg) (N : ¬ n < 0) (W : Wr h h' a sl v) : ArZ Z h' a ty n := ⟨_, A.same W, by simp [Cell.setSlot, S], N, trivial⟩
def own_EL : List (String × Nat) := [("com/example/tsutsumi/tsutsumi/service/SchemaElements", 35), ("com/example/tsutsumi/tsutsumi/service/SchemaElements", 68), ("com/example/tsutsumi/tsutsumi/service/SchemaElements", 70), ("com/example/tsutsumi/tsutsumi/service/SchemaElements", 72)]
theorem own_EW {Z : State} {a0 : Array Value} (hw : ∀ d ∈ tables_1, d.before a0 Z = true) : EW Z a0 own_EL := (EW.cons (hw _ (List.mem_of_getElem? (i := 40) rfl)) (by decide) (EW.cons (hw _ (List.mem_of_getElem? (i := 53) rfl)) (by decide) (EW.cons (hw _ (List.mem_of_getElem? (i := 54) rfl)) (by decide) (EW.cons (hw _ (List.mem_of_getElem? (i := 55) rfl)) (by decide) EW.nil))))
theorem own_wS {Z : State} {a0 : Array Value} (hw : ∀ d ∈ tables_1, d.before a0 Z = true) : ∀ d ∈ Bundle.stringAtoms, d.before a0 Z = true := by
  intro d hd
  simp only [Bundle.stringAtoms, List.mem_cons, List.not_mem_nil, or_false] at hd
  rcases hd with rfl | rfl | rfl | rfl | rfl | rfl | rfl
  · exact (hw _ (List.mem_of_getElem? (i := 9) rfl))
  · exact (hw _ (List.mem_of_getElem? (i := 8) rfl))
  · exact (hw _ (List.mem_of_getElem? (i := 25) rfl))
  · exact (hw _ (List.mem_of_getElem? (i := 35) rfl))
  · exact (hw _ (List.mem_of_getElem? (i := 33) rfl))
  · exact (hw _ (List.mem_of_getElem? (i := 41) rfl))
  · exact (hw _ (List.mem_of_getElem? (i := 42) rfl))
theorem own_hk {U : State} {h : Heap} (e : U.heap = h) {k : Nat} (q : k ≤ h.size) : k ≤ U.heap.size := by rw [e]; exact q
theorem own_cat {v : Value} (h : v.isRef = true) : v.category = 1 := by rcases ref_cases h with rfl | ⟨a, rfl⟩ <;> rfl
theorem own_nar {v : Value} {C : String} (h : v.isRef = true) : narrow (.object C) v = v := by rcases ref_cases h with rfl | ⟨a, rfl⟩ <;> rfl
theorem own_fit {v : Value} {C : String} (h : v.isRef = true) : fits (.object C) v = true := by rcases ref_cases h with rfl | ⟨a, rfl⟩ <;> rfl
theorem own_rw_mono {s t : State} {o : Outcome} {L : List Loc} {k n k' n' : Nat} (h : ReturnedEndW s o t L k n) (hk : k ≤ k') (hn : n ≤ n') : ReturnedEndW s o t L k' n' := ⟨h.1, h.2.1, h.2.2.1, h.2.2.2.mono hk hn⟩
theorem own_safe_arv {Z : State} {EL : List (String × Nat)} {vm : Vm} {h : Heap} {x : Addr} {k : ClassId} {ty : FieldType} {z : Int32} {vs : List Value} {dv : Value} (hal : Z.vm.Alike vm) (F : Arv Z h x k ty z vs dv) (ht : ty ≠ .byte) : Safe Z EL vm h x := by
  obtain ⟨c, A, -⟩ := F
  exact Safe.arr hal A ht
theorem own_backSH {l : Launch} {R : Room} {p : Program} {e : Env} {below : List Frame} {s : State} {args : Array Value} {Z : State} {a0 : Array Value} {EL : List (String × Nat)} {h : Heap} {vm0 : Vm} {y : MethodName} {bytes : ByteArray} {maxL : Nat} {ret : Option FieldType} {rm : Room} {len W : Nat} {as' : Array Value} {sf : List Addr} {Q : Option Value → Heap → List Loc → Prop}
    (hM : MetFree l y (head1 [Jvm.Cond.code y bytes maxL ret] rm) (fun zA zU => zA = as' ∧ Z.Warmed39 zU.vm ∧ zU.heap = h ∧ CHv Z EL zU.vm h ∧ ∀ x ∈ sf, Safe Z EL zU.vm h x) (fun _ _ _ _ _ => True) (fun _ zU zo zU' => ∃ zv zL, zo = .returned zv ∧ Q zv zU'.heap zL ∧ CHr Z EL zU.vm zU.heap zU'.vm zU'.heap ∧ ReturnedEndW zU zo zU' zL rm.cells rm.slots))
    (hZ : Z.Warmed39 vm0) (wc : (Jvm.Cond.code y bytes maxL ret).before a0 Z = true) (wz : (Jvm.Cond.initialized y.cls).before a0 Z = true) (hf : rm.frames + 1 ≤ R.frames) (hl : W + (maxL + 11) + rm.locals ≤ R.locals) (hEL : EW Z a0 EL) (H : CHv Z EL vm0 h) (hsf : ∀ x ∈ sf, x < h.size ∧ Safe Z EL vm0 h x) :
    BackS l R p e below (s.setVm vm0) args y len W (fun A a => a = as' ∧ A.U.heap = h ∧ A.cells + rm.cells ≤ R.cells ∧ A.slots + rm.slots ≤ R.slots)
      (fun A _ v B => ∃ L, Q v B.U.heap L ∧ B.locs = A.locs ++ L ∧ B.cells = A.cells + rm.cells ∧ B.slots = A.slots + rm.slots ∧ CHr Z EL vm0 h B.U.vm B.U.heap) :=
  BackS.of_freeW (bytes := bytes) (maxL := maxL) (ret := ret) (E := fun _ first o t L k n => k = rm.cells ∧ n = rm.slots ∧ (∃ v, o = .returned v ∧ Q v t.heap L) ∧ CHr Z EL first.vm first.heap t.vm t.heap) hM hf hl
    (fun m meth c A a Y hp => have hU : Z.Warmed39 A.U.vm := wtrans (s := s.setVm vm0) hZ Y.warmed
      ⟨by show (Jvm.Cond.and _ .tt).before a A.U = true; rw [Cond.before_and, mv hU wc]; rfl, mv hU wc, mv hU wz, hp.2.2.1, hp.2.2.2⟩)
    (fun m meth c A a g mk Y hp => ⟨hp.1, wtrans (s := s.setVm vm0) hZ Y.warmed, hp.2.1, (CHv.at Y hZ hEL H).1, fun x hx => (CHv.at Y hZ hEL H).safe (hsf x hx).1 (hsf x hx).2⟩) (fun _ _ _ _ _ _ _ _ _ => trivial)
    (fun _ _ _ _ ⟨v, L, h1, h2, h3, h4⟩ => ⟨L, _, _, h4, rfl, rfl, ⟨v, h1, h2⟩, h3⟩)
    (fun m meth c A a g mk v t L k n Y hp _ _ ⟨e1, e2, ⟨v', e3, e4⟩, e5⟩ => by
      cases e3; subst e1 e2
      refine ⟨L, e4, rfl, rfl, rfl, (CHv.at Y hZ hEL H).trans ?_⟩
      rw [← hp.2.1]; exact e5)
theorem own_and255 (x : Int32) : 0 ≤ (x &&& (255 : Int32)).toInt ∧ (x &&& (255 : Int32)).toInt ≤ 255 := by
  have h : (x &&& (255 : Int32)).toBitVec.toNat ≤ 255 := by rw [Int32.toBitVec_and, BitVec.toNat_and]; exact Nat.and_le_right
  have e : (x &&& (255 : Int32)).toInt = (x &&& (255 : Int32)).toBitVec.toInt := rfl
  rw [e, BitVec.toInt_eq_toNat_cond]; split <;> omega
theorem own_i2c {x : Int32} (h0 : 0 ≤ x.toInt) (h1 : x.toInt ≤ 65535) : x.toUInt32.toUInt16.toUInt32.toInt32 = x := by
  apply Int32.toBitVec_inj.mp
  have e : x.toInt = x.toBitVec.toInt := rfl
  rw [e, BitVec.toInt_eq_toNat_cond] at h0 h1
  have hb : x.toBitVec.toNat < 65536 := by have := x.toBitVec.isLt; split at h0 <;> omega
  show BitVec.setWidth 32 (BitVec.setWidth 16 x.toBitVec) = x.toBitVec
  apply BitVec.eq_of_toNat_eq
  simp only [BitVec.toNat_setWidth]; omega
theorem own_c1 (x : Int32) : ((x &&& (255 : Int32)).toUInt32.toUInt16.toUInt32.toInt32) = (x &&& (255 : Int32)) := own_i2c (own_and255 x).1 (by have := (own_and255 x).2; omega)
theorem own_q1 (x : Int32) : ¬ ((255 : Int32) < ((x &&& (255 : Int32)).toUInt32.toUInt16.toUInt32.toInt32)) := by
  rw [own_c1, Int32.lt_iff_toInt_lt]; have := (own_and255 x).2; have e : (255 : Int32).toInt = 255 := rfl; omega
theorem own_q2 (x : Int32) : ¬ ((255 : Int32) < (((x &&& (255 : Int32)).toUInt32.toUInt16.toUInt32.toInt32).toUInt32.toUInt16.toUInt32.toInt32)) := by
  rw [own_c1]; exact own_q1 x
def own_U0 : List Int32 := [104, 116, 116, 112, 58, 47, 47, 119, 119, 119, 46, 119, 51, 46, 111, 114, 103, 47, 50, 48, 48, 49, 47, 88, 77, 76, 83, 99, 104, 101, 109, 97]
def own_U1 : List Int32 := [104, 116, 116, 112, 58, 47, 47, 119, 119, 119, 46, 119, 51, 46, 111, 114, 103, 47, 50, 48, 48, 48, 47, 49, 48, 47, 88, 77, 76, 83, 99, 104, 101, 109, 97]
def own_U2 : List Int32 := [104, 116, 116, 112, 58, 47, 47, 119, 119, 119, 46, 119, 51, 46, 111, 114, 103, 47, 49, 57, 57, 57, 47, 88, 77, 76, 83, 99, 104, 101, 109, 97]
def own_U3 : List Int32 := [104, 116, 116, 112, 58, 47, 47, 115, 99, 104, 101, 109, 97, 115, 46, 120, 109, 108, 115, 111, 97, 112, 46, 111, 114, 103, 47, 115, 111, 97, 112, 47, 101, 110, 99, 111, 100, 105, 110, 103, 47]
def own_U4 : List Int32 := [104, 116, 116, 112, 58, 47, 47, 119, 119, 119, 46, 119, 51, 46, 111, 114, 103, 47, 50, 48, 48, 49, 47, 88, 77, 76, 83, 99, 104, 101, 109, 97, 45, 105, 110, 115, 116, 97, 110, 99, 101]
def own_U5 : List Int32 := [104, 116, 116, 112, 58, 47, 47, 115, 99, 104, 101, 109, 97, 115, 46, 120, 109, 108, 115, 111, 97, 112, 46, 111, 114, 103, 47, 115, 111, 97, 112, 47, 101, 110, 118, 101, 108, 111, 112, 101, 47]
def own_U6 : List Int32 := [104, 116, 116, 112, 58, 47, 47, 115, 99, 104, 101, 109, 97, 115, 46, 120, 109, 108, 115, 111, 97, 112, 46, 111, 114, 103, 47, 115, 111, 97, 112, 47, 101, 110, 99, 111, 100, 105, 110, 103]
def own_U7 : List Int32 := [104, 116, 116, 112, 58, 47, 47, 119, 119, 119, 46, 119, 51, 46, 111, 114, 103, 47, 50, 48, 48, 49, 47, 88, 77, 76, 83, 99, 104, 101, 109]
def own_U (k : Int32) : List Int32 := if k = (0 : Int32) then own_U0 else if k = (1 : Int32) then own_U1 else if k = (2 : Int32) then own_U2 else if k = (3 : Int32) then own_U3 else if k = (4 : Int32) then own_U4 else if k = (5 : Int32) then own_U5 else if k = (6 : Int32) then own_U6 else own_U7
theorem own_U_all {P : List Int32 → Prop} (h0 : P own_U0) (h1 : P own_U1) (h2 : P own_U2) (h3 : P own_U3) (h4 : P own_U4) (h5 : P own_U5) (h6 : P own_U6) (h7 : P own_U7) (k : Int32) : P (own_U k) := by
  unfold own_U
  repeat' split
  all_goals assumption
theorem own_U_len (k : Int32) : 0 < (own_U k).length ∧ (own_U k).length ≤ 41 := own_U_all (P := fun u => 0 < u.length ∧ u.length ≤ 41) (by decide +kernel) (by decide +kernel) (by decide +kernel) (by decide +kernel) (by decide +kernel) (by decide +kernel) (by decide +kernel) (by decide +kernel) k
theorem own_U_ch (k : Int32) : ∀ c ∈ own_U k, ¬ c < 0 ∧ ¬ (255 : Int32) < c := own_U_all (P := fun u => ∀ c ∈ u, ¬ c < 0 ∧ ¬ (255 : Int32) < c) (by decide +kernel) (by decide +kernel) (by decide +kernel) (by decide +kernel) (by decide +kernel) (by decide +kernel) (by decide +kernel) (by decide +kernel) k
def own_bi (cs : List Int32) : Int32 := if cs = own_U0 then 1 else if cs = own_U1 then 1 else if cs = own_U2 then 1 else if cs = own_U3 then 1 else 0
theorem own_bi0 {cs : List Int32} (h0 : ¬ cs = own_U0) (h1 : ¬ cs = own_U1) (h2 : ¬ cs = own_U2) (h3 : ¬ cs = own_U3) : own_bi cs = 0 := by unfold own_bi; rw [if_neg h0, if_neg h1, if_neg h2, if_neg h3]
def own_far (u w : List Int32) : Bool := u.length != w.length || (List.range u.length).any fun i => u.getD i 0 != w.getD i 0 && (List.range u.length).any fun j => i != j && u.getD j 0 != w.getD j 0
theorem own_getD_set_ne {u : List Int32} {p i : Nat} {c : Int32} (h : p ≠ i) : (u.set p c).getD i 0 = u.getD i 0 := by simp only [List.getD_eq_getElem?_getD]; rw [List.getElem?_set_ne h]
theorem own_far_set {u w : List Int32} (h : own_far u w = true) (p : Nat) (c : Int32) : ¬ u.set p c = w := by
  intro e
  unfold own_far at h
  rw [Bool.or_eq_true] at h
  rcases h with h | h
  · have : u.length = w.length := by rw [← e, List.length_set]
    simp [this] at h
  · obtain ⟨i, -, hi⟩ := List.any_eq_true.mp h
    obtain ⟨hi1, hi2⟩ := Bool.and_eq_true _ _ ▸ hi
    obtain ⟨j, -, hj⟩ := List.any_eq_true.mp hi2
    obtain ⟨hj1, hj2⟩ := Bool.and_eq_true _ _ ▸ hj
    have hi1 : u.getD i 0 ≠ w.getD i 0 := by simpa using hi1
    have hj1 : i ≠ j := by simpa using hj1
    have hj2 : u.getD j 0 ≠ w.getD j 0 := by simpa using hj2
    by_cases q : p = i
    · exact hj2 (by rw [← e, own_getD_set_ne (by omega)])
    · exact hi1 (by rw [← e, own_getD_set_ne q])
theorem own_self_set {u : List Int32} {p : Nat} {c : Int32} (hp : p < u.length) (hc : ¬ u.getD p 0 = c) : ¬ u.set p c = u := by
  intro e
  apply hc
  have : (u.set p c).getD p 0 = c := by simp [List.getD_eq_getElem?_getD, hp]
  rw [e] at this; exact this
theorem own_same_set {u : List Int32} {p : Nat} {c : Int32} (hp : p < u.length) (hc : u.getD p 0 = c) : u.set p c = u := by
  subst hc
  apply List.ext_getElem (by simp)
  intro i h1 h2
  by_cases q : p = i
  · subst q; simp [List.getD_eq_getElem?_getD, hp]
  · rw [List.getElem_set_ne q]
theorem own_bi_set (k : Int32) (p : Nat) (c : Int32) (hp : p < (own_U k).length) (hc : ¬ (own_U k).getD p 0 = c) : own_bi ((own_U k).set p c) = 0 := by
  have key : ∀ w, (w = own_U0 ∨ w = own_U1 ∨ w = own_U2 ∨ w = own_U3) → ∀ u, (u = w ∨ own_far u w = true) → p < u.length → ¬ u.getD p 0 = c → ¬ u.set p c = w := by
    intro w _ u hu h1 h2
    rcases hu with rfl | hu
    · exact own_self_set h1 h2
    · exact own_far_set hu p c
  have all : ∀ w, (w = own_U0 ∨ w = own_U1 ∨ w = own_U2 ∨ w = own_U3) → (own_U k = w ∨ own_far (own_U k) w = true) := by
    intro w hw
    rcases hw with rfl | rfl | rfl | rfl <;> exact own_U_all (P := fun u => u = _ ∨ own_far u _ = true) (by decide +kernel) (by decide +kernel) (by decide +kernel) (by decide +kernel) (by decide +kernel) (by decide +kernel) (by decide +kernel) (by decide +kernel) k
  have go : ∀ w, (w = own_U0 ∨ w = own_U1 ∨ w = own_U2 ∨ w = own_U3) → ¬ (own_U k).set p c = w := fun w hw => key w hw _ (all w hw) hp hc
  exact own_bi0 (go _ (by simp)) (go _ (by simp)) (go _ (by simp)) (go _ (by simp))
theorem own_k7 (x : Int32) : (x &&& (7 : Int32)) = 0 ∨ (x &&& (7 : Int32)) = 1 ∨ (x &&& (7 : Int32)) = 2 ∨ (x &&& (7 : Int32)) = 3 ∨ (x &&& (7 : Int32)) = 4 ∨ (x &&& (7 : Int32)) = 5 ∨ (x &&& (7 : Int32)) = 6 ∨ (x &&& (7 : Int32)) = 7 := by
  have h : (x &&& (7 : Int32)).toBitVec.toNat ≤ 7 := by rw [Int32.toBitVec_and, BitVec.toNat_and]; exact Nat.and_le_right
  generalize (x &&& (7 : Int32)) = y at h ⊢
  have e : ∀ n : Nat, n < 8 → y.toBitVec.toNat = n → y = Int32.ofNat n := by
    intro n hn q
    apply Int32.toBitVec_inj.mp
    apply BitVec.eq_of_toNat_eq
    rw [q]; show n = (BitVec.ofNat 32 n).toNat; rw [BitVec.toNat_ofNat]; omega
  generalize hn : y.toBitVec.toNat = n at h
  have := e n (by omega) hn
  subst this
  rcases n with _ | _ | _ | _ | _ | _ | _ | _ | n
  · exact Or.inl rfl
  · exact Or.inr (Or.inl rfl)
  · exact Or.inr (Or.inr (Or.inl rfl))
  · exact Or.inr (Or.inr (Or.inr (Or.inl rfl)))
  · exact Or.inr (Or.inr (Or.inr (Or.inr (Or.inl rfl))))
  · exact Or.inr (Or.inr (Or.inr (Or.inr (Or.inr (Or.inl rfl)))))
  · exact Or.inr (Or.inr (Or.inr (Or.inr (Or.inr (Or.inr (Or.inl rfl))))))
  · exact Or.inr (Or.inr (Or.inr (Or.inr (Or.inr (Or.inr (Or.inr rfl))))))
  · omega
theorem own_bi_lt (x : Int32) (h : (x &&& (7 : Int32)) < (4 : Int32)) : own_bi (own_U (x &&& (7 : Int32))) = 1 := by
  rcases own_k7 x with q | q | q | q | q | q | q | q <;> rw [q] at h ⊢ <;> first | decide +kernel | exact absurd h (by decide)
theorem own_bi_ge (x : Int32) (h : ¬ ((x &&& (7 : Int32)) < (4 : Int32))) : own_bi (own_U (x &&& (7 : Int32))) = 0 := by
  rcases own_k7 x with q | q | q | q | q | q | q | q <;> rw [q] at h ⊢ <;> first | decide +kernel | exact absurd (by decide) h
theorem own_ofNat_toInt {n : Nat} (h : n ≤ 41) : (Int32.ofNat n).toInt = n := Int32.toInt_ofNat_small (by omega)
theorem own_rem (x : Int32) {n : Nat} (h0 : 0 < n) (h1 : n ≤ 41) : ¬ ((x &&& (2147483647 : Int32)) % Int32.ofNat n) < 0 ∧ ((x &&& (2147483647 : Int32)) % Int32.ofNat n) < Int32.ofNat n := by
  have hb : (x &&& (2147483647 : Int32)).toBitVec.toNat ≤ 2147483647 := by rw [Int32.toBitVec_and, BitVec.toNat_and]; exact Nat.and_le_right
  have h : 0 ≤ (x &&& (2147483647 : Int32)).toInt := by
    have e : (x &&& (2147483647 : Int32)).toInt = (x &&& (2147483647 : Int32)).toBitVec.toInt := rfl
    rw [e, BitVec.toInt_eq_toNat_cond]; split <;> omega
  generalize (x &&& (2147483647 : Int32)) = y at h
  have e0 : (0 : Int32).toInt = 0 := rfl
  rw [Int32.lt_iff_toInt_lt, Int32.lt_iff_toInt_lt, Int32.toInt_mod, own_ofNat_toInt h1, e0]
  have a1 := Int.tmod_nonneg (a := y.toInt) (n : Int) h
  have a2 := Int.tmod_lt_of_pos y.toInt (b := (n : Int)) (by omega)
  omega
theorem own_pn {p : Int32} {n : Nat} (h1 : n ≤ 41) (h : ¬ p < 0 ∧ p < Int32.ofNat n) : p.toNatClampNeg < n ∧ Int32.ofNat p.toNatClampNeg = p := by
  have e0 : (0 : Int32).toInt = 0 := rfl
  rw [Int32.lt_iff_toInt_lt, Int32.lt_iff_toInt_lt, own_ofNat_toInt h1, e0] at h
  have e1 : p.toNatClampNeg = p.toInt.toNat := rfl
  refine ⟨by omega, ?_⟩
  apply Int32.toInt_inj.mp
  rw [Int32.toInt_ofNat_small (by omega)]; omega
theorem own_cc_bd (x : Int32) : 0 ≤ (x.toUInt32.toUInt16.toUInt32.toInt32).toInt ∧ (x.toUInt32.toUInt16.toUInt32.toInt32).toInt ≤ 65535 := by
  have h : (x.toUInt32.toUInt16.toUInt32.toInt32).toBitVec.toNat < 65536 := by
    show (BitVec.setWidth 32 (BitVec.setWidth 16 x.toBitVec)).toNat < 65536
    simp only [BitVec.toNat_setWidth]; omega
  have e : (x.toUInt32.toUInt16.toUInt32.toInt32).toInt = (x.toUInt32.toUInt16.toUInt32.toInt32).toBitVec.toInt := rfl
  rw [e, BitVec.toInt_eq_toNat_cond]; split <;> omega
theorem own_cc_i2c (x : Int32) : (x.toUInt32.toUInt16.toUInt32.toInt32).toUInt32.toUInt16.toUInt32.toInt32 = x.toUInt32.toUInt16.toUInt32.toInt32 := own_i2c (own_cc_bd x).1 (own_cc_bd x).2
theorem own_cc_lt (x : Int32) : ¬ (x.toUInt32.toUInt16.toUInt32.toInt32) < 0 ∧ ¬ (65535 : Int32) < (x.toUInt32.toUInt16.toUInt32.toInt32) := by
  have h := own_cc_bd x
  have e0 : (0 : Int32).toInt = 0 := rfl
  have e1 : (65535 : Int32).toInt = 65535 := rfl
  rw [Int32.lt_iff_toInt_lt, Int32.lt_iff_toInt_lt, e0, e1]; omega
theorem own_le255 {c : Int32} (h : ¬ (255 : Int32) < c) : ¬ (65535 : Int32) < c := by
  have e0 : (255 : Int32).toInt = 255 := rfl
  have e1 : (65535 : Int32).toInt = 65535 := rfl
  rw [Int32.lt_iff_toInt_lt, e0] at h
  rw [Int32.lt_iff_toInt_lt, e1]; omega
theorem own_shl1 {n : Nat} (h : n ≤ 41) : (Int32.ofNat n) <<< ((1 : Int32) &&& 31) = Int32.ofNat (2 * n) := by
  have : ∀ n, n < 42 → (Int32.ofNat n) <<< ((1 : Int32) &&& 31) = Int32.ofNat (2 * n) := by decide +kernel
  exact this n (by omega)
theorem own_cod1 {n : Nat} (h0 : 0 < n) (h : n ≤ 41) : (((Int32.ofNat n - Int32.ofNat (2 * n)).toUInt32 >>> ((31 : Int32) &&& 31).toUInt32).toInt32).toInt8.toInt32 = 1 := by
  have : ∀ n, n < 42 → 0 < n → (((Int32.ofNat n - Int32.ofNat (2 * n)).toUInt32 >>> ((31 : Int32) &&& 31).toUInt32).toInt32).toInt8.toInt32 = 1 := by decide +kernel
  exact this n (by omega) h0
theorem own_gd {cs : List Int32} {i : Nat} (h : i < cs.length) (hl : cs.length ≤ 41) : (cs.map Value.int).getD (Int32.ofNat i).toNatClampNeg (.int (0 : Int32)) = .int (cs.getD i 0) := by
  rw [Int32.toNatClampNeg_ofNat_of_lt (by omega)]
  simp [List.getD_eq_getElem?_getD, h]
theorem own_gdp {cs : List Int32} {p : Int32} (h : p.toNatClampNeg < cs.length) : (cs.map Value.int).getD p.toNatClampNeg (.int (0 : Int32)) = .int (cs.getD p.toNatClampNeg 0) := by
  simp [List.getD_eq_getElem?_getD, h]
theorem own_bnd {i n : Nat} (hi : i < n) (hn : n ≤ 41) : ¬ (Int32.ofNat i) < 0 ∧ (Int32.ofNat i) < Int32.ofNat n := by
  have e0 : (0 : Int32).toInt = 0 := rfl
  rw [Int32.lt_iff_toInt_lt, Int32.lt_iff_toInt_lt, own_ofNat_toInt hn, own_ofNat_toInt (by omega : i ≤ 41), e0]; omega
theorem own_bnd2 {i n : Nat} (hi : i < n) (hn : n ≤ 82) : ¬ (Int32.ofNat i) < 0 ∧ (Int32.ofNat i) < Int32.ofNat n := by
  have e0 : (0 : Int32).toInt = 0 := rfl
  rw [Int32.lt_iff_toInt_lt, Int32.lt_iff_toInt_lt, Int32.toInt_ofNat_small (by omega), Int32.toInt_ofNat_small (by omega), e0]; omega
theorem own_set_ch {u : List Int32} {p : Nat} {c : Int32} {P : Int32 → Prop} (h : ∀ x ∈ u, P x) (hc : P c) : ∀ x ∈ u.set p c, P x := fun x hx => (List.mem_or_eq_of_mem_set hx).elim (h x) fun e => e ▸ hc
theorem own_set_at {u : List Int32} {p : Nat} {c : Int32} (h : p < u.length) : (u.set p c).getD p 0 = c := by simp [List.getD_eq_getElem?_getD, h]
theorem own_getD_mem {u : List Int32} {i : Nat} (h : i < u.length) : u.getD i 0 ∈ u := by
  have : u.getD i 0 = u[i] := by simp [List.getD_eq_getElem?_getD, h]
  rw [this]; exact List.getElem_mem _
theorem own_set_lo {u : List Int32} {p i : Nat} {c : Int32} (hu : ∀ x ∈ u, ¬ x < 0 ∧ ¬ (255 : Int32) < x) (h : i < p) (hp : p < u.length) : ¬ ((255 : Int32) < (u.set p c).getD i 0) := by
  rw [own_getD_set_ne (by omega)]; exact (hu _ (own_getD_mem (by omega))).2
def ArP (Z : State) (h : Heap) (b : Addr) (n : Int32) (cs : List Int32) (i : Nat) : Prop := ∃ c : Cell, Arr Z h b c .byte ∧ c.slots.size = n.toNatClampNeg ∧ ¬ n < 0 ∧ ∀ j, j < i → c.slots[2 * j]? = some (.int (StrChars.lo8 (cs.getD j 0))) ∧ c.slots[2 * j + 1]? = some (.int (StrChars.hi8 (cs.getD j 0)))
theorem ArP.lt {Z : State} {h : Heap} {b : Addr} {n : Int32} {cs : List Int32} {i : Nat} (F : ArP Z h b n cs i) : b < h.size := by obtain ⟨c, A, -⟩ := F; exact A.lt
theorem ArP.ext {Z : State} {h h' : Heap} {b : Addr} {n : Int32} {cs : List Int32} {i : Nat} (F : ArP Z h b n cs i) (E : Ext h h') : ArP Z h' b n cs i := by obtain ⟨c, A, r⟩ := F; exact ⟨c, A.ext E, r⟩
theorem ArP.keep {Z : State} {h h' : Heap} {b : Addr} {n : Int32} {cs : List Int32} {i : Nat} {ws : List Addr} (F : ArP Z h b n cs i) (K : Keep h h' ws) (q : b ∉ ws) : ArP Z h' b n cs i := by obtain ⟨c, A, r⟩ := F; exact ⟨c, ⟨K.2.1 b c A.1 q, A.2⟩, r⟩
theorem ArP.z {Z : State} {h : Heap} {b : Addr} {n : Int32} {cs : List Int32} {i : Nat} (F : ArP Z h b n cs i) : ArZ Z h b .byte n := by obtain ⟨c, A, r1, r2, -⟩ := F; exact ⟨c, A, r1, r2, trivial⟩
theorem ArP.new {Z : State} {h : Heap} {b : Addr} {k : ClassId} {n : Int32} (cs : List Int32) (A : Arr Z h b (newA k .byte n) .byte) (q : ¬ n < 0) : ArP Z h b n cs 0 := ⟨_, A, sz_new _ _ _, q, fun j hj => absurd hj (Nat.not_lt_zero _)⟩
theorem own_succ (k : Nat) : (Int32.ofNat k + 1 : Int32) = Int32.ofNat (k + 1) := by rw [Int32.ofNat_add]; rfl
theorem own_nn {n : Nat} (h : n ≤ 82) : ¬ Int32.ofNat n < 0 := by
  have e0 : (0 : Int32).toInt = 0 := rfl
  rw [Int32.lt_iff_toInt_lt, Int32.toInt_ofNat_small (by omega), e0]; omega
theorem own_cap {n k : Nat} (h : n ≤ k) (hk : k ≤ 82) : (Int32.ofNat n).toNatClampNeg ≤ k := by rw [Int32.toNatClampNeg_ofNat_of_lt (by omega)]; exact h
theorem own_lo (x : Int32) : nar .byte ((x >>> ((0 : Int32) &&& 31)).toInt8.toInt32) = StrChars.lo8 x := by
  have e : (x >>> ((0 : Int32) &&& 31)) = x := by simp
  rw [e]; show ((x.toInt8.toInt32).toInt8).toInt32 = x.toInt8.toInt32; simp
theorem own_hi (x : Int32) : nar .byte ((x >>> ((8 : Int32) &&& 31)).toInt8.toInt32) = StrChars.hi8 x := by
  show (((x >>> ((8 : Int32) &&& 31)).toInt8.toInt32).toInt8).toInt32 = (x >>> ((8 : Int32) &&& 31)).toInt8.toInt32; simp
theorem ArP.put {Z : State} {h h1 h2 : Heap} {b : Addr} {n : Int32} {cs : List Int32} {i : Nat} {x1 x2 : Int32} (F : ArP Z h b n cs i) (W1 : Wr h h1 b (Int32.ofNat (2 * i)).toNatClampNeg (.int x1)) (W2 : Wr h1 h2 b (Int32.ofNat (2 * i + 1)).toNatClampNeg (.int x2)) (hi : i < 41) (hn : 2 * i + 1 < n.toNatClampNeg) (e1 : x1 = StrChars.lo8 (cs.getD i 0)) (e2 : x2 = StrChars.hi8 (cs.getD i 0)) : ArP Z h2 b n cs (i + 1) := by
  obtain ⟨c, A, S, N, G⟩ := F
  rw [Int32.toNatClampNeg_ofNat_of_lt (by omega)] at W1 W2
  subst e1 e2
  refine ⟨_, (A.same W1).same W2, by simp [Cell.setSlot, S], N, fun j hj => ?_⟩
  have hs : 2 * i + 1 < c.slots.size := by rw [S]; exact hn
  simp only [Cell.setSlot, Array.getElem?_setIfInBounds, Array.size_setIfInBounds]
  by_cases q : j = i
  · subst q
    constructor
    · rw [if_neg (by omega), if_pos rfl, if_pos (by omega)]
    · rw [if_pos rfl, if_pos (by omega)]
  · have := G j (by omega)
    constructor
    · rw [if_neg (by omega), if_neg (by omega)]; exact this.1
    · rw [if_neg (by omega), if_neg (by omega)]; exact this.2
theorem ArP.at1 {Z : State} {c : Cell} {cs : List Int32} {i j : Nat} (G : ∀ j, j < i → c.slots[2 * j]? = some (.int (StrChars.lo8 (cs.getD j 0))) ∧ c.slots[2 * j + 1]? = some (.int (StrChars.hi8 (cs.getD j 0)))) (hj : j < i) (hk : j < 41) : c.slots[(Int32.ofNat (2 * j)).toNatClampNeg]? = some (.int (StrChars.lo8 (cs.getD j 0))) := by rw [Int32.toNatClampNeg_ofNat_of_lt (by omega)]; exact (G j hj).1
theorem ArP.at2 {Z : State} {c : Cell} {cs : List Int32} {i j : Nat} (G : ∀ j, j < i → c.slots[2 * j]? = some (.int (StrChars.lo8 (cs.getD j 0))) ∧ c.slots[2 * j + 1]? = some (.int (StrChars.hi8 (cs.getD j 0)))) (hj : j < i) (hk : j < 41) : c.slots[(Int32.ofNat (2 * j + 1)).toNatClampNeg]? = some (.int (StrChars.hi8 (cs.getD j 0))) := by rw [Int32.toNatClampNeg_ofNat_of_lt (by omega)]; exact (G j hj).2
theorem own_nec {i n : Nat} (hi : i < n) (hn : n ≤ 41) : ¬ (Int32.ofNat i = Int32.ofNat n) := fun q => by
  have := congrArg Int32.toInt q
  rw [own_ofNat_toInt hn, own_ofNat_toInt (by omega : i ≤ 41)] at this; omega
theorem own_big {n : Nat} (h : n ≤ 41) : Int32.ofNat n < (1073741823 : Int32) := by
  have : ∀ n, n < 42 → Int32.ofNat n < (1073741823 : Int32) := by decide +kernel
  exact this n (by omega)
theorem own_narc {x : Int32} (h0 : ¬ x < 0) (h1 : ¬ (65535 : Int32) < x) : nar .char x = x := by
  have e0 : (0 : Int32).toInt = 0 := rfl
  have e1 : (65535 : Int32).toInt = 65535 := rfl
  rw [Int32.lt_iff_toInt_lt, e0] at h0
  rw [Int32.lt_iff_toInt_lt, e1] at h1
  exact own_i2c (by omega) (by omega)
theorem own_nz {i n : Nat} (hi : i < n) (hn : n ≤ 41) : ¬ (Int32.ofNat n = (0 : Int32)) := fun q => by
  have := congrArg Int32.toInt q
  have e0 : (0 : Int32).toInt = 0 := rfl
  rw [own_ofNat_toInt hn, e0] at this; omega
theorem own_self {n : Nat} : ¬ (Int32.ofNat n < Int32.ofNat n) := by rw [Int32.lt_iff_toInt_lt]; omega
def Q_cpP (Z : State) (a : Addr) (b : Addr) (ka : ClassId) (cs : List Int32) (j0 : Nat) (h0 : Heap) (n0 : Nat) (v : Option Value) (h : Heap) (L : List Loc) : Prop := v = some (.int (Int32.ofNat j0)) ∧ Fr n0 L ∧ Keep h0 h [b]
theorem d1_3 : decode jdk_52_method_21_code 3 = .ok (.iload 5, 2) := by decide +kernel
theorem d1_5 : decode jdk_52_method_21_code 5 = .ok (.iload 4, 2) := by decide +kernel
theorem d1_7 : decode jdk_52_method_21_code 7 = .ok (.if_icmp .ge 37, 3) := by decide +kernel
theorem d1_10 : decode jdk_52_method_21_code 10 = .ok (.aload_n 0, 1) := by decide +kernel
theorem d1_11 : decode jdk_52_method_21_code 11 = .ok (.iload_n 1, 1) := by decide +kernel
theorem d1_12 : decode jdk_52_method_21_code 12 = .ok (.caload, 1) := by decide +kernel
theorem d1_13 : decode jdk_52_method_21_code 13 = .ok (.istore 6, 2) := by decide +kernel
theorem d1_15 : decode jdk_52_method_21_code 15 = .ok (.iload 6, 2) := by decide +kernel
theorem d1_17 : decode jdk_52_method_21_code 17 = .ok (.sipush 255, 3) := by decide +kernel
theorem d1_20 : decode jdk_52_method_21_code 20 = .ok (.if_icmp .le 6, 3) := by decide +kernel
theorem d1_26 : decode jdk_52_method_21_code 26 = .ok (.aload_n 2, 1) := by decide +kernel
theorem d1_27 : decode jdk_52_method_21_code 27 = .ok (.iload_n 3, 1) := by decide +kernel
theorem d1_28 : decode jdk_52_method_21_code 28 = .ok (.iload 6, 2) := by decide +kernel
theorem d1_30 : decode jdk_52_method_21_code 30 = .ok (.i2b, 1) := by decide +kernel
theorem d1_31 : decode jdk_52_method_21_code 31 = .ok (.bastore, 1) := by decide +kernel
theorem d1_32 : decode jdk_52_method_21_code 32 = .ok (.iinc 1 1, 3) := by decide +kernel
theorem d1_35 : decode jdk_52_method_21_code 35 = .ok (.iinc 3 1, 3) := by decide +kernel
theorem d1_38 : decode jdk_52_method_21_code 38 = .ok (.iinc 5 1, 3) := by decide +kernel
theorem d1_41 : decode jdk_52_method_21_code 41 = .ok (.goto (-38), 3) := by decide +kernel
set_option maxRecDepth 65536 in
set_option maxHeartbeats 40000000 in
theorem cp_it {p : Program} {l : Launch} {e : Env} {s : State} {m : MethodId} {below : List Frame} {meth : Method} {c : Code} {T0 : State} {locs : List Loc} {Z : State} {a0 : Array Value} {h0 : Heap} {n0 : Nat} (hw : ∀ d ∈ tables_1, d.before a0 Z = true) (a b : Addr) (ka : ClassId) (cs : List Int32) (i : Nat) (z : Slot) (X0 : Stand p l e ({ frames := 0, cells := 0, slots := 0, locals := 0 } : Room) s m #[(.ref a), (.int (0 : Int32)), (.ref b), (.int (0 : Int32)), (.int (Int32.ofNat cs.length))] below meth c T0 locs 0 0) (hx : p.tables.exec = Jvm.exec) (hZ : Z.Warmed39 s.vm) (hby : c.code = jdk_52_method_21_code) (hml : c.maxLocals = 7) (hown : s.vm.findClass "java/lang/StringUTF16" = some m.cls) (e0 : T0.heap = h0) (N0 : Fr n0 locs) (Z0 : n0 ≤ h0.size) (F1 : Arv Z h0 a ka .char (Int32.ofNat cs.length) (cs.map Value.int) (.int (0 : Int32))) (F2 : ArZ Z h0 b .byte (Int32.ofNat cs.length)) (g_b : n0 ≤ b) (ne_a_b : a ≠ b) (hz : z = .unset ∨ ∃ w, z = .val w ∧ w.category = 1) (hl : cs.length ≤ 41) (hi : i < cs.length) (hc : ¬ ((255 : Int32) < cs.getD i 0)) :
    ∃ (T' : State) (h' : Heap) (L' : List Loc), Stand p l e ({ frames := 0, cells := 0, slots := 0, locals := 0 } : Room) s m #[(.ref a), (.int (0 : Int32)), (.ref b), (.int (0 : Int32)), (.int (Int32.ofNat cs.length))] below meth c T' L' 0 0 ∧ T'.heap = h' ∧ Fr n0 L' ∧ Keep h0 h' [b] ∧ Arv Z h' a ka .char (Int32.ofNat cs.length) (cs.map Value.int) (.int (0 : Int32)) ∧ ArZ Z h' b .byte (Int32.ofNat cs.length) ∧ ∀ target, Steps p.tables e below (T'.setTop (mkF m 3 #[.val (.ref a), .val (.int ((Int32.ofNat i) + (1 : Int32))), .val (.ref b), .val (.int ((Int32.ofNat i) + (1 : Int32))), .val (.int (Int32.ofNat cs.length)), .val (.int ((Int32.ofNat i) + (1 : Int32))), .val (.int (cs.getD i 0))] [])) target → Steps p.tables e below (T0.setTop (mkF m 3 #[.val (.ref a), .val (.int (Int32.ofNat i)), .val (.ref b), .val (.int (Int32.ofNat i)), .val (.int (Int32.ofNat cs.length)), .val (.int (Int32.ofNat i)), z] [])) target := by
  obtain ⟨cl1, Ar1, q1, Sz1, Ng1, Hs1, Gs1⟩ := (id F1)
  have hin1 : ¬ ((Int32.ofNat i) < 0 ∨ cl1.slots.size ≤ ((Int32.ofNat i)).toNatClampNeg) := inb_of Sz1 (own_bnd hi hl)
  have hat1 : cl1.slots[((Int32.ofNat i)).toNatClampNeg]? = some (.int (cs.getD i 0)) := Has.at Hs1 hin1 (own_gd hi hl)
  obtain ⟨cl2, Ar2, Sz2, Ng2, Gs2⟩ := (id F2)
  have hin2 : ¬ ((Int32.ofNat i) < 0 ∨ cl2.slots.size ≤ ((Int32.ofNat i)).toNatClampNeg) := inb_of Sz2 (own_bnd hi hl)
  obtain ⟨T2, h2, X2, e2, W2, st2⟩ := stB X0 hx hZ e0 Ar2 (j := (Int32.ofNat i)) hin2 (g := (mkF m 31 #[.val (.ref a), .val (.int (Int32.ofNat i)), .val (.ref b), .val (.int (Int32.ofNat i)), .val (.int (Int32.ofNat cs.length)), .val (.int (Int32.ofNat i)), .val (.int (cs.getD i 0))] [(.int ((cs.getD i 0).toInt8.toInt32)), (.int (Int32.ofNat i)), (.ref b)])) rfl rfl (hb hby d1_31)
  have V2 : ArZ Z h2 b .byte (Int32.ofNat cs.length) := ArZ.set Ar2 Sz2 Ng2 W2
  have K2 : Keep h0 h2 [b] := (Keep.refl h0 [b]).wr W2 (Or.inl (List.mem_of_getElem? (i := 0) rfl))
  have N2 := Fr.snoc X2 N0 g_b
  refine ⟨T2, _, _, X2, e2, N2, K2, (F1.other W2 ne_a_b), V2, fun target kt => ?_⟩
  show Steps p.tables e below (T0.setTop (mkF m 3 #[.val (.ref a), .val (.int (Int32.ofNat i)), .val (.ref b), .val (.int (Int32.ofNat i)), .val (.int (Int32.ofNat cs.length)), .val (.int (Int32.ofNat i)), z] [])) _
  refine XS.iload X0.here hx rfl (hb hby d1_3) rfl ?_
  show Steps p.tables e below (T0.setTop (mkF m 5 #[.val (.ref a), .val (.int (Int32.ofNat i)), .val (.ref b), .val (.int (Int32.ofNat i)), .val (.int (Int32.ofNat cs.length)), .val (.int (Int32.ofNat i)), z] [(.int (Int32.ofNat i))])) _
  refine XS.iload X0.here hx rfl (hb hby d1_5) rfl ?_
  show Steps p.tables e below (T0.setTop (mkF m 7 #[.val (.ref a), .val (.int (Int32.ofNat i)), .val (.ref b), .val (.int (Int32.ofNat i)), .val (.int (Int32.ofNat cs.length)), .val (.int (Int32.ofNat i)), z] [(.int (Int32.ofNat cs.length)), (.int (Int32.ofNat i))])) _
  refine XS.icmpNo X0.here hx rfl (hb hby d1_7) rfl (tlt (own_bnd hi hl |>.2 : (Int32.ofNat i) < (Int32.ofNat cs.length))).2.1 ?_
  show Steps p.tables e below (T0.setTop (mkF m 10 #[.val (.ref a), .val (.int (Int32.ofNat i)), .val (.ref b), .val (.int (Int32.ofNat i)), .val (.int (Int32.ofNat cs.length)), .val (.int (Int32.ofNat i)), z] [])) _
  refine XS.aloadN X0.here hx rfl (hb hby d1_10) rfl rfl ?_
  show Steps p.tables e below (T0.setTop (mkF m 11 #[.val (.ref a), .val (.int (Int32.ofNat i)), .val (.ref b), .val (.int (Int32.ofNat i)), .val (.int (Int32.ofNat cs.length)), .val (.int (Int32.ofNat i)), z] [(.ref a)])) _
  refine XS.iloadN X0.here hx rfl (hb hby d1_11) rfl ?_
  show Steps p.tables e below (T0.setTop (mkF m 12 #[.val (.ref a), .val (.int (Int32.ofNat i)), .val (.ref b), .val (.int (Int32.ofNat i)), .val (.int (Int32.ofNat cs.length)), .val (.int (Int32.ofNat i)), z] [(.int (Int32.ofNat i)), (.ref a)])) _
  refine X0.caload hx (j := (Int32.ofNat i)) (v := (.int (cs.getD i 0))) (Ar1.at_ e0) (State.isArrayOf_alike hZ.alike Ar1.2.1) Ar1.2.2 hin1 hat1 (g := (mkF m 12 #[.val (.ref a), .val (.int (Int32.ofNat i)), .val (.ref b), .val (.int (Int32.ofNat i)), .val (.int (Int32.ofNat cs.length)), .val (.int (Int32.ofNat i)), z] [(.int (Int32.ofNat i)), (.ref a)])) rfl rfl (hb hby d1_12) _ ?_
  show Steps p.tables e below (T0.setTop (mkF m 13 #[.val (.ref a), .val (.int (Int32.ofNat i)), .val (.ref b), .val (.int (Int32.ofNat i)), .val (.int (Int32.ofNat cs.length)), .val (.int (Int32.ofNat i)), z] [(.int (cs.getD i 0))])) _
  refine XS.istoreS X0.here hx rfl (hb hby d1_13) rfl rfl hz ?_
  show Steps p.tables e below (T0.setTop (mkF m 15 #[.val (.ref a), .val (.int (Int32.ofNat i)), .val (.ref b), .val (.int (Int32.ofNat i)), .val (.int (Int32.ofNat cs.length)), .val (.int (Int32.ofNat i)), .val (.int (cs.getD i 0))] [])) _
  refine XS.iload X0.here hx rfl (hb hby d1_15) rfl ?_
  show Steps p.tables e below (T0.setTop (mkF m 17 #[.val (.ref a), .val (.int (Int32.ofNat i)), .val (.ref b), .val (.int (Int32.ofNat i)), .val (.int (Int32.ofNat cs.length)), .val (.int (Int32.ofNat i)), .val (.int (cs.getD i 0))] [(.int (cs.getD i 0))])) _
  refine XS.sipush X0.here hx rfl (hb hby d1_17) ?_
  show Steps p.tables e below (T0.setTop (mkF m 20 #[.val (.ref a), .val (.int (Int32.ofNat i)), .val (.ref b), .val (.int (Int32.ofNat i)), .val (.int (Int32.ofNat cs.length)), .val (.int (Int32.ofNat i)), .val (.int (cs.getD i 0))] [(.int (255 : Int32)), (.int (cs.getD i 0))])) _
  refine XS.icmpYes X0.here hx rfl (pc0 := 20) (pc' := 26) rfl (hb hby d1_20) rfl (flt (hc : ¬ ((255 : Int32) < (cs.getD i 0)))).2.2.2 (by decide) (by decide) ?_
  show Steps p.tables e below (T0.setTop (mkF m 26 #[.val (.ref a), .val (.int (Int32.ofNat i)), .val (.ref b), .val (.int (Int32.ofNat i)), .val (.int (Int32.ofNat cs.length)), .val (.int (Int32.ofNat i)), .val (.int (cs.getD i 0))] [])) _
  refine XS.aloadN X0.here hx rfl (hb hby d1_26) rfl rfl ?_
  show Steps p.tables e below (T0.setTop (mkF m 27 #[.val (.ref a), .val (.int (Int32.ofNat i)), .val (.ref b), .val (.int (Int32.ofNat i)), .val (.int (Int32.ofNat cs.length)), .val (.int (Int32.ofNat i)), .val (.int (cs.getD i 0))] [(.ref b)])) _
  refine XS.iloadN X0.here hx rfl (hb hby d1_27) rfl ?_
  show Steps p.tables e below (T0.setTop (mkF m 28 #[.val (.ref a), .val (.int (Int32.ofNat i)), .val (.ref b), .val (.int (Int32.ofNat i)), .val (.int (Int32.ofNat cs.length)), .val (.int (Int32.ofNat i)), .val (.int (cs.getD i 0))] [(.int (Int32.ofNat i)), (.ref b)])) _
  refine XS.iload X0.here hx rfl (hb hby d1_28) rfl ?_
  show Steps p.tables e below (T0.setTop (mkF m 30 #[.val (.ref a), .val (.int (Int32.ofNat i)), .val (.ref b), .val (.int (Int32.ofNat i)), .val (.int (Int32.ofNat cs.length)), .val (.int (Int32.ofNat i)), .val (.int (cs.getD i 0))] [(.int (cs.getD i 0)), (.int (Int32.ofNat i)), (.ref b)])) _
  refine XS.i2b X0.here hx rfl (hb hby d1_30) rfl ?_
  show Steps p.tables e below (T0.setTop (mkF m 31 #[.val (.ref a), .val (.int (Int32.ofNat i)), .val (.ref b), .val (.int (Int32.ofNat i)), .val (.int (Int32.ofNat cs.length)), .val (.int (Int32.ofNat i)), .val (.int (cs.getD i 0))] [(.int ((cs.getD i 0).toInt8.toInt32)), (.int (Int32.ofNat i)), (.ref b)])) _
  refine st2 _ ?_
  show Steps p.tables e below (T2.setTop (mkF m 32 #[.val (.ref a), .val (.int (Int32.ofNat i)), .val (.ref b), .val (.int (Int32.ofNat i)), .val (.int (Int32.ofNat cs.length)), .val (.int (Int32.ofNat i)), .val (.int (cs.getD i 0))] [])) _
  refine XS.iinc X2.here hx rfl (hb hby d1_32) rfl (l' := #[.val (.ref a), .val (.int ((Int32.ofNat i) + (1 : Int32))), .val (.ref b), .val (.int (Int32.ofNat i)), .val (.int (Int32.ofNat cs.length)), .val (.int (Int32.ofNat i)), .val (.int (cs.getD i 0))]) rfl ?_
  show Steps p.tables e below (T2.setTop (mkF m 35 #[.val (.ref a), .val (.int ((Int32.ofNat i) + (1 : Int32))), .val (.ref b), .val (.int (Int32.ofNat i)), .val (.int (Int32.ofNat cs.length)), .val (.int (Int32.ofNat i)), .val (.int (cs.getD i 0))] [])) _
  refine XS.iinc X2.here hx rfl (hb hby d1_35) rfl (l' := #[.val (.ref a), .val (.int ((Int32.ofNat i) + (1 : Int32))), .val (.ref b), .val (.int ((Int32.ofNat i) + (1 : Int32))), .val (.int (Int32.ofNat cs.length)), .val (.int (Int32.ofNat i)), .val (.int (cs.getD i 0))]) rfl ?_
  show Steps p.tables e below (T2.setTop (mkF m 38 #[.val (.ref a), .val (.int ((Int32.ofNat i) + (1 : Int32))), .val (.ref b), .val (.int ((Int32.ofNat i) + (1 : Int32))), .val (.int (Int32.ofNat cs.length)), .val (.int (Int32.ofNat i)), .val (.int (cs.getD i 0))] [])) _
  refine XS.iinc X2.here hx rfl (hb hby d1_38) rfl (l' := #[.val (.ref a), .val (.int ((Int32.ofNat i) + (1 : Int32))), .val (.ref b), .val (.int ((Int32.ofNat i) + (1 : Int32))), .val (.int (Int32.ofNat cs.length)), .val (.int ((Int32.ofNat i) + (1 : Int32))), .val (.int (cs.getD i 0))]) rfl ?_
  show Steps p.tables e below (T2.setTop (mkF m 41 #[.val (.ref a), .val (.int ((Int32.ofNat i) + (1 : Int32))), .val (.ref b), .val (.int ((Int32.ofNat i) + (1 : Int32))), .val (.int (Int32.ofNat cs.length)), .val (.int ((Int32.ofNat i) + (1 : Int32))), .val (.int (cs.getD i 0))] [])) _
  refine XS.goto X2.here hx rfl (pc0 := 41) (pc' := 3) rfl (hb hby d1_41) (by decide) (by decide) ?_
  show Steps p.tables e below (T2.setTop (mkF m 3 #[.val (.ref a), .val (.int ((Int32.ofNat i) + (1 : Int32))), .val (.ref b), .val (.int ((Int32.ofNat i) + (1 : Int32))), .val (.int (Int32.ofNat cs.length)), .val (.int ((Int32.ofNat i) + (1 : Int32))), .val (.int (cs.getD i 0))] [])) _
  exact kt
theorem cp_loop {p : Program} {l : Launch} {e : Env} {s : State} {m : MethodId} {below : List Frame} {meth : Method} {c : Code} {Z : State} {a0 : Array Value} {n0 : Nat} (hw : ∀ d ∈ tables_1, d.before a0 Z = true) (a b : Addr) (ka : ClassId) (cs : List Int32) (j0 : Nat) (hx : p.tables.exec = Jvm.exec) (hZ : Z.Warmed39 s.vm) (hby : c.code = jdk_52_method_21_code) (hml : c.maxLocals = 7) (hown : s.vm.findClass "java/lang/StringUTF16" = some m.cls) (g_b : n0 ≤ b) (ne_a_b : a ≠ b) (hl : cs.length ≤ 41) (hj : j0 < cs.length) (hlo : ∀ i, i < j0 → ¬ ((255 : Int32) < cs.getD i 0)) :
    ∀ (r i : Nat), i + r = j0 → ∀ (z : Slot), (z = .unset ∨ ∃ w, z = .val w ∧ w.category = 1) → ∀ (T0 : State) (locs : List Loc) (h0 : Heap), Stand p l e ({ frames := 0, cells := 0, slots := 0, locals := 0 } : Room) s m #[(.ref a), (.int (0 : Int32)), (.ref b), (.int (0 : Int32)), (.int (Int32.ofNat cs.length))] below meth c T0 locs 0 0 → T0.heap = h0 → Fr n0 locs → n0 ≤ h0.size → Arv Z h0 a ka .char (Int32.ofNat cs.length) (cs.map Value.int) (.int (0 : Int32)) → ArZ Z h0 b .byte (Int32.ofNat cs.length) →
      ∃ (T' : State) (h' : Heap) (L' : List Loc) (z' : Slot), Stand p l e ({ frames := 0, cells := 0, slots := 0, locals := 0 } : Room) s m #[(.ref a), (.int (0 : Int32)), (.ref b), (.int (0 : Int32)), (.int (Int32.ofNat cs.length))] below meth c T' L' 0 0 ∧ T'.heap = h' ∧ Fr n0 L' ∧ Keep h0 h' [b] ∧ (z' = .unset ∨ ∃ w, z' = .val w ∧ w.category = 1) ∧ Arv Z h' a ka .char (Int32.ofNat cs.length) (cs.map Value.int) (.int (0 : Int32)) ∧ ArZ Z h' b .byte (Int32.ofNat cs.length) ∧ ∀ target, Steps p.tables e below (T'.setTop (mkF m 3 #[.val (.ref a), .val (.int (Int32.ofNat j0)), .val (.ref b), .val (.int (Int32.ofNat j0)), .val (.int (Int32.ofNat cs.length)), .val (.int (Int32.ofNat j0)), z'] [])) target → Steps p.tables e below (T0.setTop (mkF m 3 #[.val (.ref a), .val (.int (Int32.ofNat i)), .val (.ref b), .val (.int (Int32.ofNat i)), .val (.int (Int32.ofNat cs.length)), .val (.int (Int32.ofNat i)), z] [])) target := by
  intro r
  induction r with
  | zero =>
    intro i hi z hz T0 locs h0 X e0 N Z0 F1 F2
    obtain rfl : i = j0 := by omega
    exact ⟨T0, h0, locs, z, X, e0, N, Keep.refl _ _, hz, F1, F2, fun t k => k⟩
  | succ r ih =>
    intro i hi z hz T0 locs h0 X e0 N Z0 F1 F2
    obtain ⟨T1, h1, L1, X1, e1, N1, K1, Fa, Fb, st⟩ := cp_it hw a b ka cs i z X hx hZ hby hml hown e0 N Z0 F1 F2 g_b ne_a_b hz hl (by omega) (hlo i (by omega))
    obtain ⟨T2, h2, L2, z2, X2, e2, N2, K2, hz2, Fc, Fd, st2⟩ := ih (i + 1) (by omega) (.val (.int (cs.getD i 0))) (Or.inr ⟨_, rfl, rfl⟩) T1 L1 h1 X1 e1 N1 (Nat.le_trans Z0 K1.1) Fa Fb
    refine ⟨T2, h2, L2, z2, X2, e2, N2, K1.trans K2 (fun x hx => Or.inl hx), hz2, Fc, Fd, fun t k => st t ?_⟩
    have q := st2 t k
    rw [← own_succ] at q
    exact q
theorem d1_0 : decode jdk_52_method_21_code 0 = .ok (.iconst 0, 1) := by decide +kernel
theorem d1_1 : decode jdk_52_method_21_code 1 = .ok (.istore 5, 2) := by decide +kernel
theorem d1_23 : decode jdk_52_method_21_code 23 = .ok (.iload 5, 2) := by decide +kernel
theorem d1_25 : decode jdk_52_method_21_code 25 = .ok (.ireturn, 1) := by decide +kernel
theorem pn_2 : plainName "java/lang/StringUTF16" = true := by first | (simp [plainName, overriddenIn]; done) | decide +kernel
theorem ef_1_RIRII (m : MethodId) (x0 : Addr) (x1 : Int32) (x2 : Addr) (x3 : Int32) (x4 : Int32) : entryFrame m #[(.ref x0), (.int x1), (.ref x2), (.int x3), (.int x4)] 7 = mkF m 0 #[.val (.ref x0), .val (.int x1), .val (.ref x2), .val (.int x3), .val (.int x4), .unset, .unset] [] := by first | (simp [entryFrame, mkF, argsToLocals, Value.category]; done) | rfl
set_option maxRecDepth 65536 in
set_option maxHeartbeats 40000000 in
theorem cpP (l : Launch) (Z : State) (a0 : Array Value) (hw : ∀ d ∈ tables_1, d.before a0 Z = true) (ws : List Jvm.Cond) (a : Addr) (b : Addr) (ka : ClassId) (cs : List Int32) (j0 : Nat) (h0 : Heap) (n0 : Nat) (Z0 : n0 ≤ h0.size) (P0 : Arv Z h0 a ka .char (Int32.ofNat cs.length) (cs.map Value.int) (.int (0 : Int32))) (P1 : ArZ Z h0 b .byte (Int32.ofNat cs.length)) (g_b : n0 ≤ b) (ne_a_b : a ≠ b) (hl : cs.length ≤ 41) (hj : j0 < cs.length) (hlo : ∀ i, i < j0 → ¬ ((255 : Int32) < cs.getD i 0)) (hhi : (255 : Int32) < cs.getD j0 0) :
    MetFree l (⟨"java/lang/StringUTF16", "compress", "([CI[BII)I"⟩ : MethodName) (head1 (Jvm.Cond.code (⟨"java/lang/StringUTF16", "compress", "([CI[BII)I"⟩ : MethodName) jdk_52_method_21_code 7 (some .int) :: ws) ({ frames := 0, cells := 0, slots := 0, locals := 0 } : Room)) (fun zA zU => zA = #[(.ref a), (.int (0 : Int32)), (.ref b), (.int (0 : Int32)), (.int (Int32.ofNat cs.length))] ∧ Z.Warmed39 zU.vm ∧ zU.heap = h0) (fun _ _ _ _ _ => True) (fun _ zU zo zU' => ∃ zv zL, zo = .returned zv ∧ Q_cpP Z a b ka cs j0 h0 n0 zv zU'.heap zL ∧ FrameEnd zU zo zU' zL ({ frames := 0, cells := 0, slots := 0, locals := 0 } : Room).cells ({ frames := 0, cells := 0, slots := 0, locals := 0 } : Room).slots) := by
  refine MetFree.of_bodySF (plainFor_of_name pn_2) hisR ?_
  intro p e s m args below meth c s₁ Bd hml0 hP hK
  obtain ⟨rfl, hZ, hh⟩ := hP
  have hx := Bd.exec
  have hby := Bd.bytes
  have hml : c.maxLocals = 7 := hml0
  have hown : s.vm.findClass "java/lang/StringUTF16" = some m.cls := findClass_of_methodNamed Bd.named
  have hnm := (name_of_methodNamed Bd.named Bd.method).1
  have X0 : Stand p l e ({ frames := 0, cells := 0, slots := 0, locals := 0 } : Room) s m #[(.ref a), (.int (0 : Int32)), (.ref b), (.int (0 : Int32)), (.int (Int32.ofNat cs.length))] below meth c s₁ [] 0 0 := Stand.of_body Bd
  have e0 : s₁.heap = h0 := by rw [← hh, Bd.state]; rfl
  have N0 := Fr.nil n0
  have pre0 : ∀ zt, Steps p.tables e below (s₁.setTop (mkF m 0 #[.val (.ref a), .val (.int (0 : Int32)), .val (.ref b), .val (.int (0 : Int32)), .val (.int (Int32.ofNat cs.length)), .unset, .unset] [])) zt → Steps p.tables e below (s₁.setTop (entryFrame m #[(.ref a), (.int (0 : Int32)), (.ref b), (.int (0 : Int32)), (.int (Int32.ofNat cs.length))] 7)) zt := fun zt zk => castTop (ef_1_RIRII m a (0 : Int32) b (0 : Int32) (Int32.ofNat cs.length)) zk
  obtain ⟨T1, h1, L1, z, X1, e1, N1, kh1, hz, Fa1, Fb1, st1⟩ := cp_loop hw a b ka cs j0 hx hZ hby hml hown g_b ne_a_b hl hj hlo j0 0 (by omega) .unset (Or.inl rfl) _ _ _ X0 e0 N0 Z0 P0 P1
  have K1 : Keep h0 h1 [b] := (Keep.refl h0 [b]).trans kh1 (fun x hx => Or.inl hx)
  obtain ⟨cl2, Ar2, q2, Sz2, Ng2, Hs2, Gs2⟩ := (id Fa1)
  have hin2 : ¬ ((Int32.ofNat j0) < 0 ∨ cl2.slots.size ≤ ((Int32.ofNat j0)).toNatClampNeg) := inb_of Sz2 (own_bnd hj hl)
  have hat2 : cl2.slots[((Int32.ofNat j0)).toNatClampNeg]? = some (.int (cs.getD j0 0)) := Has.at Hs2 hin2 (own_gd hj hl)
  obtain ⟨fs, hr, hrun, hended, hW, hsame⟩ := X1.leave (v := some (.int (Int32.ofNat j0))) (fun h => by rw [Bd.returns] at h; cases h)
  refine ⟨_, _, pre0 _ ?_, hrun, hended, _, _, rfl, ?_, ⟨_, rfl⟩, hW, hsame.mono (by decide) (by decide)⟩
  · show Steps p.tables e below (s₁.setTop (mkF m 0 #[.val (.ref a), .val (.int (0 : Int32)), .val (.ref b), .val (.int (0 : Int32)), .val (.int (Int32.ofNat cs.length)), .unset, .unset] [])) _
    refine XS.iconst X0.here hx rfl (hb hby d1_0) ?_
    show Steps p.tables e below (s₁.setTop (mkF m 1 #[.val (.ref a), .val (.int (0 : Int32)), .val (.ref b), .val (.int (0 : Int32)), .val (.int (Int32.ofNat cs.length)), .unset, .unset] [(.int (0 : Int32))])) _
    refine XS.istore X0.here hx rfl (hb hby d1_1) rfl (l' := #[.val (.ref a), .val (.int (0 : Int32)), .val (.ref b), .val (.int (0 : Int32)), .val (.int (Int32.ofNat cs.length)), .val (.int (0 : Int32)), .unset]) rfl ?_
    show Steps p.tables e below (s₁.setTop (mkF m 3 #[.val (.ref a), .val (.int (0 : Int32)), .val (.ref b), .val (.int (0 : Int32)), .val (.int (Int32.ofNat cs.length)), .val (.int (0 : Int32)), .unset] [])) _
    refine st1 _ ?_
    show Steps p.tables e below (T1.setTop (mkF m 3 #[.val (.ref a), .val (.int (Int32.ofNat j0)), .val (.ref b), .val (.int (Int32.ofNat j0)), .val (.int (Int32.ofNat cs.length)), .val (.int (Int32.ofNat j0)), z] [])) _
    refine XS.iload X1.here hx rfl (hb hby d1_3) rfl ?_
    show Steps p.tables e below (T1.setTop (mkF m 5 #[.val (.ref a), .val (.int (Int32.ofNat j0)), .val (.ref b), .val (.int (Int32.ofNat j0)), .val (.int (Int32.ofNat cs.length)), .val (.int (Int32.ofNat j0)), z] [(.int (Int32.ofNat j0))])) _
    refine XS.iload X1.here hx rfl (hb hby d1_5) rfl ?_
    show Steps p.tables e below (T1.setTop (mkF m 7 #[.val (.ref a), .val (.int (Int32.ofNat j0)), .val (.ref b), .val (.int (Int32.ofNat j0)), .val (.int (Int32.ofNat cs.length)), .val (.int (Int32.ofNat j0)), z] [(.int (Int32.ofNat cs.length)), (.int (Int32.ofNat j0))])) _
    refine XS.icmpNo X1.here hx rfl (hb hby d1_7) rfl (tlt (own_bnd hj hl |>.2 : (Int32.ofNat j0) < (Int32.ofNat cs.length))).2.1 ?_
    show Steps p.tables e below (T1.setTop (mkF m 10 #[.val (.ref a), .val (.int (Int32.ofNat j0)), .val (.ref b), .val (.int (Int32.ofNat j0)), .val (.int (Int32.ofNat cs.length)), .val (.int (Int32.ofNat j0)), z] [])) _
    refine XS.aloadN X1.here hx rfl (hb hby d1_10) rfl rfl ?_
    show Steps p.tables e below (T1.setTop (mkF m 11 #[.val (.ref a), .val (.int (Int32.ofNat j0)), .val (.ref b), .val (.int (Int32.ofNat j0)), .val (.int (Int32.ofNat cs.length)), .val (.int (Int32.ofNat j0)), z] [(.ref a)])) _
    refine XS.iloadN X1.here hx rfl (hb hby d1_11) rfl ?_
    show Steps p.tables e below (T1.setTop (mkF m 12 #[.val (.ref a), .val (.int (Int32.ofNat j0)), .val (.ref b), .val (.int (Int32.ofNat j0)), .val (.int (Int32.ofNat cs.length)), .val (.int (Int32.ofNat j0)), z] [(.int (Int32.ofNat j0)), (.ref a)])) _
    refine X1.caload hx (j := (Int32.ofNat j0)) (v := (.int (cs.getD j0 0))) (Ar2.at_ e1) (State.isArrayOf_alike hZ.alike Ar2.2.1) Ar2.2.2 hin2 hat2 (g := (mkF m 12 #[.val (.ref a), .val (.int (Int32.ofNat j0)), .val (.ref b), .val (.int (Int32.ofNat j0)), .val (.int (Int32.ofNat cs.length)), .val (.int (Int32.ofNat j0)), z] [(.int (Int32.ofNat j0)), (.ref a)])) rfl rfl (hb hby d1_12) _ ?_
    show Steps p.tables e below (T1.setTop (mkF m 13 #[.val (.ref a), .val (.int (Int32.ofNat j0)), .val (.ref b), .val (.int (Int32.ofNat j0)), .val (.int (Int32.ofNat cs.length)), .val (.int (Int32.ofNat j0)), z] [(.int (cs.getD j0 0))])) _
    refine XS.istoreS X1.here hx rfl (hb hby d1_13) rfl rfl hz ?_
    show Steps p.tables e below (T1.setTop (mkF m 15 #[.val (.ref a), .val (.int (Int32.ofNat j0)), .val (.ref b), .val (.int (Int32.ofNat j0)), .val (.int (Int32.ofNat cs.length)), .val (.int (Int32.ofNat j0)), .val (.int (cs.getD j0 0))] [])) _
    refine XS.iload X1.here hx rfl (hb hby d1_15) rfl ?_
    show Steps p.tables e below (T1.setTop (mkF m 17 #[.val (.ref a), .val (.int (Int32.ofNat j0)), .val (.ref b), .val (.int (Int32.ofNat j0)), .val (.int (Int32.ofNat cs.length)), .val (.int (Int32.ofNat j0)), .val (.int (cs.getD j0 0))] [(.int (cs.getD j0 0))])) _
    refine XS.sipush X1.here hx rfl (hb hby d1_17) ?_
    show Steps p.tables e below (T1.setTop (mkF m 20 #[.val (.ref a), .val (.int (Int32.ofNat j0)), .val (.ref b), .val (.int (Int32.ofNat j0)), .val (.int (Int32.ofNat cs.length)), .val (.int (Int32.ofNat j0)), .val (.int (cs.getD j0 0))] [(.int (255 : Int32)), (.int (cs.getD j0 0))])) _
    refine XS.icmpNo X1.here hx rfl (hb hby d1_20) rfl (tlt (hhi : (255 : Int32) < (cs.getD j0 0))).2.2.2 ?_
    show Steps p.tables e below (T1.setTop (mkF m 23 #[.val (.ref a), .val (.int (Int32.ofNat j0)), .val (.ref b), .val (.int (Int32.ofNat j0)), .val (.int (Int32.ofNat cs.length)), .val (.int (Int32.ofNat j0)), .val (.int (cs.getD j0 0))] [])) _
    refine XS.iload X1.here hx rfl (hb hby d1_23) rfl ?_
    show Steps p.tables e below (T1.setTop (mkF m 25 #[.val (.ref a), .val (.int (Int32.ofNat j0)), .val (.ref b), .val (.int (Int32.ofNat j0)), .val (.int (Int32.ofNat cs.length)), .val (.int (Int32.ofNat j0)), .val (.int (cs.getD j0 0))] [(.int (Int32.ofNat j0))])) _
    exact retI X1 hx Bd.returns (hb hby d1_25) hr
  · show Q_cpP Z a b ka cs j0 h0 n0 _ T1.heap _
    rw [e1]
    exact ⟨rfl, N1, K1⟩
def Q_nBL (Z : State) (cs : List Int32) (h0 : Heap) (n0 : Nat) (v : Option Value) (h : Heap) (L : List Loc) : Prop := v = some (.int (Int32.ofNat (2 * cs.length))) ∧ Fr n0 L ∧ h = h0
theorem d3_0 : decode jdk_52_method_3_code 0 = .ok (.iload_n 0, 1) := by decide +kernel
theorem d3_1 : decode jdk_52_method_3_code 1 = .ok (.ifCond .ge 11, 3) := by decide +kernel
theorem d3_12 : decode jdk_52_method_3_code 12 = .ok (.iload_n 0, 1) := by decide +kernel
theorem d3_13 : decode jdk_52_method_3_code 13 = .ok (.ldc 20, 2) := by decide +kernel
theorem d3_15 : decode jdk_52_method_3_code 15 = .ok (.if_icmp .lt 40, 3) := by decide +kernel
theorem d3_55 : decode jdk_52_method_3_code 55 = .ok (.iload_n 0, 1) := by decide +kernel
theorem d3_56 : decode jdk_52_method_3_code 56 = .ok (.iconst 1, 1) := by decide +kernel
theorem d3_57 : decode jdk_52_method_3_code 57 = .ok (.ishl, 1) := by decide +kernel
theorem d3_58 : decode jdk_52_method_3_code 58 = .ok (.ireturn, 1) := by decide +kernel
theorem ef_3_I (m : MethodId) (x0 : Int32) : entryFrame m #[(.int x0)] 1 = mkF m 0 #[.val (.int x0)] [] := by first | (simp [entryFrame, mkF, argsToLocals, Value.category]; done) | rfl
set_option maxRecDepth 65536 in
set_option maxHeartbeats 40000000 in
theorem nBL (l : Launch) (Z : State) (a0 : Array Value) (hw : ∀ d ∈ tables_1, d.before a0 Z = true) (ws : List Jvm.Cond) (cs : List Int32) (h0 : Heap) (n0 : Nat) (Z0 : n0 ≤ h0.size) (hl : cs.length ≤ 41) :
    MetFree l (⟨"java/lang/StringUTF16", "newBytesLength", "(I)I"⟩ : MethodName) (head1 (Jvm.Cond.code (⟨"java/lang/StringUTF16", "newBytesLength", "(I)I"⟩ : MethodName) jdk_52_method_3_code 1 (some .int) :: ws) ({ frames := 0, cells := 0, slots := 0, locals := 0 } : Room)) (fun zA zU => zA = #[(.int (Int32.ofNat cs.length))] ∧ Z.Warmed39 zU.vm ∧ zU.heap = h0) (fun _ _ _ _ _ => True) (fun _ zU zo zU' => ∃ zv zL, zo = .returned zv ∧ Q_nBL Z cs h0 n0 zv zU'.heap zL ∧ FrameEnd zU zo zU' zL ({ frames := 0, cells := 0, slots := 0, locals := 0 } : Room).cells ({ frames := 0, cells := 0, slots := 0, locals := 0 } : Room).slots) := by
  refine MetFree.of_bodySF (plainFor_of_name pn_2) hisR ?_
  intro p e s m args below meth c s₁ Bd hml0 hP hK
  obtain ⟨rfl, hZ, hh⟩ := hP
  have hx := Bd.exec
  have hby := Bd.bytes
  have hml : c.maxLocals = 1 := hml0
  have hown : s.vm.findClass "java/lang/StringUTF16" = some m.cls := findClass_of_methodNamed Bd.named
  have hnm := (name_of_methodNamed Bd.named Bd.method).1
  have X0 : Stand p l e ({ frames := 0, cells := 0, slots := 0, locals := 0 } : Room) s m #[(.int (Int32.ofNat cs.length))] below meth c s₁ [] 0 0 := Stand.of_body Bd
  have e0 : s₁.heap = h0 := by rw [← hh, Bd.state]; rfl
  have N0 := Fr.nil n0
  have pre0 : ∀ zt, Steps p.tables e below (s₁.setTop (mkF m 0 #[.val (.int (Int32.ofNat cs.length))] [])) zt → Steps p.tables e below (s₁.setTop (entryFrame m #[(.int (Int32.ofNat cs.length))] 1)) zt := fun zt zk => castTop (ef_3_I m (Int32.ofNat cs.length)) zk
  obtain ⟨fs, hr, hrun, hended, hW, hsame⟩ := X0.leave (v := some (.int (Int32.ofNat (2 * cs.length)))) (fun h => by rw [Bd.returns] at h; cases h)
  refine ⟨_, _, pre0 _ ?_, hrun, hended, _, _, rfl, ?_, ⟨_, rfl⟩, hW, hsame.mono (by decide) (by decide)⟩
  · show Steps p.tables e below (s₁.setTop (mkF m 0 #[.val (.int (Int32.ofNat cs.length))] [])) _
    refine XS.iloadN X0.here hx rfl (hb hby d3_0) rfl ?_
    show Steps p.tables e below (s₁.setTop (mkF m 1 #[.val (.int (Int32.ofNat cs.length))] [(.int (Int32.ofNat cs.length))])) _
    refine XS.ifYes X0.here hx rfl (pc0 := 1) (pc' := 12) rfl (hb hby d3_1) rfl ((if0 _ _).trans (flt (own_nn (Nat.le_trans hl (by decide)) : ¬ ((Int32.ofNat cs.length) < (0 : Int32)))).2.1) (by decide) (by decide) ?_
    show Steps p.tables e below (s₁.setTop (mkF m 12 #[.val (.int (Int32.ofNat cs.length))] [])) _
    refine XS.iloadN X0.here hx rfl (hb hby d3_12) rfl ?_
    show Steps p.tables e below (s₁.setTop (mkF m 13 #[.val (.int (Int32.ofNat cs.length))] [(.int (Int32.ofNat cs.length))])) _
    refine X0.ldcInt hx hown (mvT hZ (hw _ (List.mem_of_getElem? (i := 65) rfl))) (g := (mkF m 13 #[.val (.int (Int32.ofNat cs.length))] [(.int (Int32.ofNat cs.length))])) rfl (hb hby d3_13) _ ?_
    show Steps p.tables e below (s₁.setTop (mkF m 15 #[.val (.int (Int32.ofNat cs.length))] [(.int (1073741823 : Int32)), (.int (Int32.ofNat cs.length))])) _
    refine XS.icmpYes X0.here hx rfl (pc0 := 15) (pc' := 55) rfl (hb hby d3_15) rfl (tlt (own_big hl : (Int32.ofNat cs.length) < (1073741823 : Int32))).1 (by decide) (by decide) ?_
    show Steps p.tables e below (s₁.setTop (mkF m 55 #[.val (.int (Int32.ofNat cs.length))] [])) _
    refine XS.iloadN X0.here hx rfl (hb hby d3_55) rfl ?_
    show Steps p.tables e below (s₁.setTop (mkF m 56 #[.val (.int (Int32.ofNat cs.length))] [(.int (Int32.ofNat cs.length))])) _
    refine XS.iconst X0.here hx rfl (hb hby d3_56) ?_
    show Steps p.tables e below (s₁.setTop (mkF m 57 #[.val (.int (Int32.ofNat cs.length))] [(.int (1 : Int32)), (.int (Int32.ofNat cs.length))])) _
    refine XS.ishl X0.here hx rfl (hb hby d3_57) rfl ?_
    show Steps p.tables e below (s₁.setTop (mkF m 58 #[.val (.int (Int32.ofNat cs.length))] [(.int ((Int32.ofNat cs.length) <<< ((1 : Int32) &&& 31)))])) _
    refine castTop (congrArg (fun z_ => (mkF m 58 #[.val (.int (Int32.ofNat cs.length))] [(.int z_)])) (own_shl1 hl : ((Int32.ofNat cs.length) <<< ((1 : Int32) &&& 31)) = (Int32.ofNat (2 * cs.length)))) ?_
    show Steps p.tables e below (s₁.setTop (mkF m 58 #[.val (.int (Int32.ofNat cs.length))] [(.int (Int32.ofNat (2 * cs.length)))])) _
    exact retI X0 hx Bd.returns (hb hby d3_58) hr
  · show Q_nBL Z cs h0 n0 _ s₁.heap _
    rw [e0]
    exact ⟨rfl, N0, rfl⟩
def Q_nBF (Z : State) (cs : List Int32) (h0 : Heap) (n0 : Nat) (v : Option Value) (h : Heap) (L : List Loc) : Prop := ∃ r : Addr, v = some (.ref r) ∧ Fr n0 L ∧ Keep h0 h [] ∧ h0.size ≤ r ∧ ArP Z h r (Int32.ofNat (2 * cs.length)) cs 0
theorem d4_0 : decode jdk_52_method_2_code 0 = .ok (.iload_n 0, 1) := by decide +kernel
theorem d4_1 : decode jdk_52_method_2_code 1 = .ok (.invokestatic 11, 3) := by decide +kernel
theorem pd_0 : parseMethodDescriptor "(I)I" = some ⟨[.int], some .int⟩ := by decide +kernel
theorem d4_4 : decode jdk_52_method_2_code 4 = .ok (.newarray .byte, 2) := by decide +kernel
theorem d4_6 : decode jdk_52_method_2_code 6 = .ok (.areturn, 1) := by decide +kernel
theorem ef_4_I (m : MethodId) (x0 : Int32) : entryFrame m #[(.int x0)] 1 = mkF m 0 #[.val (.int x0)] [] := by first | (simp [entryFrame, mkF, argsToLocals, Value.category]; done) | rfl
set_option maxRecDepth 65536 in
set_option maxHeartbeats 40000000 in
theorem nBF (l : Launch) (Z : State) (a0 : Array Value) (hw : ∀ d ∈ tables_1, d.before a0 Z = true) (ws : List Jvm.Cond) (cs : List Int32) (h0 : Heap) (n0 : Nat) (Z0 : n0 ≤ h0.size) (hl : cs.length ≤ 41) :
    MetFree l (⟨"java/lang/StringUTF16", "newBytesFor", "(I)[B"⟩ : MethodName) (head1 (Jvm.Cond.code (⟨"java/lang/StringUTF16", "newBytesFor", "(I)[B"⟩ : MethodName) jdk_52_method_2_code 1 (some (.array .byte)) :: ws) ({ frames := 1, cells := 1, slots := 82, locals := 12 } : Room)) (fun zA zU => zA = #[(.int (Int32.ofNat cs.length))] ∧ Z.Warmed39 zU.vm ∧ zU.heap = h0) (fun _ _ _ _ _ => True) (fun _ zU zo zU' => ∃ zv zL, zo = .returned zv ∧ Q_nBF Z cs h0 n0 zv zU'.heap zL ∧ FrameEnd zU zo zU' zL ({ frames := 1, cells := 1, slots := 82, locals := 12 } : Room).cells ({ frames := 1, cells := 1, slots := 82, locals := 12 } : Room).slots) := by
  refine MetFree.of_bodySF (plainFor_of_name pn_2) hisR ?_
  intro p e s m args below meth c s₁ Bd hml0 hP hK
  obtain ⟨rfl, hZ, hh⟩ := hP
  have hx := Bd.exec
  have hby := Bd.bytes
  have hml : c.maxLocals = 1 := hml0
  have hown : s.vm.findClass "java/lang/StringUTF16" = some m.cls := findClass_of_methodNamed Bd.named
  have hnm := (name_of_methodNamed Bd.named Bd.method).1
  have X0 : Stand p l e ({ frames := 1, cells := 1, slots := 82, locals := 12 } : Room) s m #[(.int (Int32.ofNat cs.length))] below meth c s₁ [] 0 0 := Stand.of_body Bd
  have e0 : s₁.heap = h0 := by rw [← hh, Bd.state]; rfl
  have N0 := Fr.nil n0
  have pre0 : ∀ zt, Steps p.tables e below (s₁.setTop (mkF m 0 #[.val (.int (Int32.ofNat cs.length))] [])) zt → Steps p.tables e below (s₁.setTop (entryFrame m #[(.int (Int32.ofNat cs.length))] 1)) zt := fun zt zk => castTop (ef_4_I m (Int32.ofNat cs.length)) zk
  obtain ⟨_, _, ⟨T1, L1, k1, n1⟩, -, X1, ⟨Lc1, hQ1, l1, y1, z1⟩, st1⟩ := Jvm.LawKit.callS X0 hx (y := (⟨"java/lang/StringUTF16", "newBytesLength", "(I)I"⟩ : MethodName)) hown (mvT hZ (hw _ (List.mem_of_getElem? (i := 62) rfl))) (mvT hZ (hw _ (List.mem_of_getElem? (i := 63) rfl))) (mvT hZ (hw _ (List.mem_of_getElem? (i := 23) rfl))) (mvT hZ (hw _ (List.mem_of_getElem? (i := 64) rfl))) (by decide) (backOf (W := 0) (nBL l Z a0 hw [] cs h0 n0 (Nat.le_trans Z0 (Keep.refl h0 []).1) hl) hZ (hw _ (List.mem_of_getElem? (i := 64) rfl)) (hw _ (List.mem_of_getElem? (i := 23) rfl)) (by decide) (by decide)) (g := (mkF m 1 #[.val (.int (Int32.ofNat cs.length))] [(.int (Int32.ofNat cs.length))])) rfl (by rw [hml]; rfl) (argsL := [(.int (Int32.ofNat cs.length))]) (rest := []) (lenOf pd_0 rfl) rfl (by show 2 * 0 + _ ≤ _; exact Nat.le_of_eq rfl) (hb hby d4_1) (fun _ _ => ⟨rfl, e0, (by decide : 0 + 0 ≤ _), (by decide : 0 + 0 ≤ _)⟩)
  dsimp only [Pt.U, Pt.locs, Pt.cells, Pt.slots] at X1 l1 y1 z1 st1 hQ1
  subst l1 y1 z1
  obtain ⟨rfl, Nq1, kh1⟩ := hQ1
  have N1 := Fr.app N0 Nq1
  obtain ⟨T2, h2, k2, X2, e2, E2, A2, st2⟩ := newP X1 hx hZ (hw _ (List.mem_of_getElem? (i := 25) rfl)) kh1 (g := (mkF m 4 #[.val (.int (Int32.ofNat cs.length))] [(.int (Int32.ofNat (2 * cs.length)))])) rfl (hb hby d4_4) rfl (own_nn (by omega)) (cap := 82) (own_cap (by omega) (by decide)) (by decide) (by decide) (by decide)
  obtain ⟨b2, gz2⟩ : ∃ z, z = h0.size := ⟨_, rfl⟩
  rw [← gz2] at A2 st2
  have sz_b2 : h0.size ≤ b2 := Nat.le_trans (Keep.refl h0 []).1 (Nat.le_of_eq gz2.symm)
  have g_b2 : n0 ≤ b2 := Nat.le_trans Z0 sz_b2
  have K2 : Keep h0 h2 [] := (Keep.refl h0 []).ext E2
  have V2 : ArP Z h2 b2 (Int32.ofNat (2 * cs.length)) cs 0 := ArP.new cs A2 (own_nn (by omega))
  obtain ⟨fs, hr, hrun, hended, hW, hsame⟩ := X2.leave (v := some (.ref b2)) (fun h => by rw [Bd.returns] at h; cases h)
  refine ⟨_, _, pre0 _ ?_, hrun, hended, _, _, rfl, ?_, ⟨_, rfl⟩, hW, hsame.mono (by decide) (by decide)⟩
  · show Steps p.tables e below (s₁.setTop (mkF m 0 #[.val (.int (Int32.ofNat cs.length))] [])) _
    refine XS.iloadN X0.here hx rfl (hb hby d4_0) rfl ?_
    show Steps p.tables e below (s₁.setTop (mkF m 1 #[.val (.int (Int32.ofNat cs.length))] [(.int (Int32.ofNat cs.length))])) _
    refine st1 _ ?_
    show Steps p.tables e below (T1.setTop (mkF m 4 #[.val (.int (Int32.ofNat cs.length))] [(.int (Int32.ofNat (2 * cs.length)))])) _
    refine st2 _ ?_
    show Steps p.tables e below (T2.setTop (mkF m 6 #[.val (.int (Int32.ofNat cs.length))] [(.ref b2)])) _
    jvm_step X2.here [X2.here.top, hx, (hb hby d4_6), X2.method', Bd.returns, Value.isRef, FieldType.isReference]
    first | (intro acts; rw [hr _ acts rfl rfl rfl]) | rw [hr _ _ rfl rfl rfl]
    exact Steps.refl _
  · show Q_nBF Z cs h0 n0 _ T2.heap _
    rw [e2]
    exact ⟨b2, rfl, N1, K2, sz_b2, V2⟩
def Q_pch (Z : State) (b : Addr) (cs : List Int32) (i : Nat) (ch : Int32) (h0 : Heap) (n0 : Nat) (v : Option Value) (h : Heap) (L : List Loc) : Prop := v = none ∧ Fr n0 L ∧ Keep h0 h [b] ∧ ArP Z h b (Int32.ofNat (2 * cs.length)) cs (i + 1)
theorem d5_0 : decode jdk_52_method_4_code 0 = .ok (.getstatic 44, 3) := by decide +kernel
theorem d5_3 : decode jdk_52_method_4_code 3 = .ok (.ifCond .ne 25, 3) := by decide +kernel
theorem d5_28 : decode jdk_52_method_4_code 28 = .ok (.iload_n 1, 1) := by decide +kernel
theorem d5_29 : decode jdk_52_method_4_code 29 = .ok (.iconst 1, 1) := by decide +kernel
theorem d5_30 : decode jdk_52_method_4_code 30 = .ok (.ishl, 1) := by decide +kernel
theorem d5_31 : decode jdk_52_method_4_code 31 = .ok (.istore_n 1, 1) := by decide +kernel
theorem d5_32 : decode jdk_52_method_4_code 32 = .ok (.aload_n 0, 1) := by decide +kernel
theorem d5_33 : decode jdk_52_method_4_code 33 = .ok (.iload_n 1, 1) := by decide +kernel
theorem d5_34 : decode jdk_52_method_4_code 34 = .ok (.iinc 1 1, 3) := by decide +kernel
theorem d5_37 : decode jdk_52_method_4_code 37 = .ok (.iload_n 2, 1) := by decide +kernel
theorem d5_38 : decode jdk_52_method_4_code 38 = .ok (.getstatic 59, 3) := by decide +kernel
theorem d5_41 : decode jdk_52_method_4_code 41 = .ok (.ishr, 1) := by decide +kernel
theorem d5_42 : decode jdk_52_method_4_code 42 = .ok (.i2b, 1) := by decide +kernel
theorem d5_43 : decode jdk_52_method_4_code 43 = .ok (.bastore, 1) := by decide +kernel
theorem d5_44 : decode jdk_52_method_4_code 44 = .ok (.aload_n 0, 1) := by decide +kernel
theorem d5_45 : decode jdk_52_method_4_code 45 = .ok (.iload_n 1, 1) := by decide +kernel
theorem d5_46 : decode jdk_52_method_4_code 46 = .ok (.iload_n 2, 1) := by decide +kernel
theorem d5_47 : decode jdk_52_method_4_code 47 = .ok (.getstatic 63, 3) := by decide +kernel
theorem d5_50 : decode jdk_52_method_4_code 50 = .ok (.ishr, 1) := by decide +kernel
theorem d5_51 : decode jdk_52_method_4_code 51 = .ok (.i2b, 1) := by decide +kernel
theorem d5_52 : decode jdk_52_method_4_code 52 = .ok (.bastore, 1) := by decide +kernel
theorem d5_53 : decode jdk_52_method_4_code 53 = .ok (.return_, 1) := by decide +kernel
theorem ef_5_RII (m : MethodId) (x0 : Addr) (x1 : Int32) (x2 : Int32) : entryFrame m #[(.ref x0), (.int x1), (.int x2)] 3 = mkF m 0 #[.val (.ref x0), .val (.int x1), .val (.int x2)] [] := by first | (simp [entryFrame, mkF, argsToLocals, Value.category]; done) | rfl
set_option maxRecDepth 65536 in
set_option maxHeartbeats 40000000 in
theorem pch (l : Launch) (Z : State) (a0 : Array Value) (hw : ∀ d ∈ tables_1, d.before a0 Z = true) (ws : List Jvm.Cond) (b : Addr) (cs : List Int32) (i : Nat) (ch : Int32) (h0 : Heap) (n0 : Nat) (O0 : Old Z n0 h0) (G0 : Sta Z Z.heap "java/lang/StringUTF16" "$assertionsDisabled" "Z" (.int (1 : Int32))) (G1 : Sta Z Z.heap "java/lang/StringUTF16" "HI_BYTE_SHIFT" "I" (.int (0 : Int32))) (G2 : Sta Z Z.heap "java/lang/StringUTF16" "LO_BYTE_SHIFT" "I" (.int (8 : Int32))) (P0 : ArP Z h0 b (Int32.ofNat (2 * cs.length)) cs i) (g_b : n0 ≤ b) (hl : cs.length ≤ 41) (hi : i < cs.length) (hch : ch = cs.getD i 0) :
    MetFree l (⟨"java/lang/StringUTF16", "putChar", "([BII)V"⟩ : MethodName) (head1 (Jvm.Cond.code (⟨"java/lang/StringUTF16", "putChar", "([BII)V"⟩ : MethodName) jdk_52_method_4_code 3 none :: ws) ({ frames := 0, cells := 0, slots := 0, locals := 0 } : Room)) (fun zA zU => zA = #[(.ref b), (.int (Int32.ofNat i)), (.int ch)] ∧ Z.Warmed39 zU.vm ∧ zU.heap = h0) (fun _ _ _ _ _ => True) (fun _ zU zo zU' => ∃ zv zL, zo = .returned zv ∧ Q_pch Z b cs i ch h0 n0 zv zU'.heap zL ∧ FrameEnd zU zo zU' zL ({ frames := 0, cells := 0, slots := 0, locals := 0 } : Room).cells ({ frames := 0, cells := 0, slots := 0, locals := 0 } : Room).slots) := by
  refine MetFree.of_bodySF (plainFor_of_name pn_2) hisR ?_
  intro p e s m args below meth c s₁ Bd hml0 hP hK
  obtain ⟨rfl, hZ, hh⟩ := hP
  have hx := Bd.exec
  have hby := Bd.bytes
  have hml : c.maxLocals = 3 := hml0
  have hown : s.vm.findClass "java/lang/StringUTF16" = some m.cls := findClass_of_methodNamed Bd.named
  have hnm := (name_of_methodNamed Bd.named Bd.method).1
  have X0 : Stand p l e ({ frames := 0, cells := 0, slots := 0, locals := 0 } : Room) s m #[(.ref b), (.int (Int32.ofNat i)), (.int ch)] below meth c s₁ [] 0 0 := Stand.of_body Bd
  have e0 : s₁.heap = h0 := by rw [← hh, Bd.state]; rfl
  have N0 := Fr.nil n0
  have Z0 : n0 ≤ h0.size := O0.1 ▸ O0.2.1
  have pre0 : ∀ zt, Steps p.tables e below (s₁.setTop (mkF m 0 #[.val (.ref b), .val (.int (Int32.ofNat i)), .val (.int ch)] [])) zt → Steps p.tables e below (s₁.setTop (entryFrame m #[(.ref b), (.int (Int32.ofNat i)), (.int ch)] 3)) zt := fun zt zk => castTop (ef_5_RII m b (Int32.ofNat i) ch) zk
  have PZ := P0.z
  obtain ⟨T1, X1, e1, st1⟩ := getS2 X0 hx hZ hown (host := "") (Or.inl (hw _ (List.mem_of_getElem? (i := 69) rfl))) Via.refl e0 (G0.ext O0.2) (g := (mkF m 0 #[.val (.ref b), .val (.int (Int32.ofNat i)), .val (.int ch)] [])) rfl (hb hby d5_0)
  obtain ⟨T2, X2, e2, st2⟩ := getS2 X1 hx hZ hown (host := "") (Or.inl (hw _ (List.mem_of_getElem? (i := 70) rfl))) Via.refl e1 (G1.ext O0.2) (g := (mkF m 38 #[.val (.ref b), .val (.int ((Int32.ofNat (2 * i)) + (1 : Int32))), .val (.int ch)] [(.int ch), (.int (Int32.ofNat (2 * i))), (.ref b)])) rfl (hb hby d5_38)
  obtain ⟨cl3, Ar3, Sz3, Ng3, Gs3⟩ := (id PZ)
  have hin3 : ¬ ((Int32.ofNat (2 * i)) < 0 ∨ cl3.slots.size ≤ ((Int32.ofNat (2 * i))).toNatClampNeg) := inb_of Sz3 (own_bnd2 (by omega) (by omega))
  obtain ⟨T3, h3, X3, e3, W3, st3⟩ := stB X2 hx hZ e2 Ar3 (j := (Int32.ofNat (2 * i))) hin3 (g := (mkF m 43 #[.val (.ref b), .val (.int ((Int32.ofNat (2 * i)) + (1 : Int32))), .val (.int ch)] [(.int ((ch >>> ((0 : Int32) &&& 31)).toInt8.toInt32)), (.int (Int32.ofNat (2 * i))), (.ref b)])) rfl rfl (hb hby d5_43)
  have V3 : ArZ Z h3 b .byte (Int32.ofNat (2 * cs.length)) := ArZ.set Ar3 Sz3 Ng3 W3
  have O3 := O0.wr W3 g_b
  have K3 : Keep h0 h3 [b] := (Keep.refl h0 [b]).wr W3 (Or.inl (List.mem_of_getElem? (i := 0) rfl))
  have N3 := Fr.snoc X3 N0 g_b
  obtain ⟨T4, X4, e4, st4⟩ := getS2 X3 hx hZ hown (host := "") (Or.inl (hw _ (List.mem_of_getElem? (i := 71) rfl))) Via.refl e3 (G2.ext O3.2) (g := (mkF m 47 #[.val (.ref b), .val (.int ((Int32.ofNat (2 * i)) + (1 : Int32))), .val (.int ch)] [(.int ch), (.int (Int32.ofNat (2 * i + 1))), (.ref b)])) rfl (hb hby d5_47)
  obtain ⟨cl5, Ar5, Sz5, Ng5, Gs5⟩ := (id V3)
  have hin5 : ¬ ((Int32.ofNat (2 * i + 1)) < 0 ∨ cl5.slots.size ≤ ((Int32.ofNat (2 * i + 1))).toNatClampNeg) := inb_of Sz5 (own_bnd2 (by omega) (by omega))
  obtain ⟨T5, h5, X5, e5, W5, st5⟩ := stB X4 hx hZ e4 Ar5 (j := (Int32.ofNat (2 * i + 1))) hin5 (g := (mkF m 52 #[.val (.ref b), .val (.int ((Int32.ofNat (2 * i)) + (1 : Int32))), .val (.int ch)] [(.int ((ch >>> ((8 : Int32) &&& 31)).toInt8.toInt32)), (.int (Int32.ofNat (2 * i + 1))), (.ref b)])) rfl rfl (hb hby d5_52)
  have V5 : ArZ Z h5 b .byte (Int32.ofNat (2 * cs.length)) := ArZ.set Ar5 Sz5 Ng5 W5
  have O5 := O3.wr W5 g_b
  have K5 : Keep h0 h5 [b] := K3.wr W5 (Or.inl (List.mem_of_getElem? (i := 0) rfl))
  have N5 := Fr.snoc X5 N3 g_b
  have PE : ArP Z h5 b (Int32.ofNat (2 * cs.length)) cs (i + 1) := ArP.put P0 W3 W5 (by omega) (by rw [Int32.toNatClampNeg_ofNat_of_lt (by omega)]; omega) (by rw [own_lo, hch]) (by rw [own_hi, hch])
  obtain ⟨fs, hr, hrun, hended, hW, hsame⟩ := X5.leave (v := none) (fun _ => rfl)
  refine ⟨_, _, pre0 _ ?_, hrun, hended, _, _, rfl, ?_, ⟨_, rfl⟩, hW, hsame.mono (by decide) (by decide)⟩
  · show Steps p.tables e below (s₁.setTop (mkF m 0 #[.val (.ref b), .val (.int (Int32.ofNat i)), .val (.int ch)] [])) _
    refine st1 _ ?_
    show Steps p.tables e below (T1.setTop (mkF m 3 #[.val (.ref b), .val (.int (Int32.ofNat i)), .val (.int ch)] [(.int (1 : Int32))])) _
    refine XS.ifYes X1.here hx rfl (pc0 := 3) (pc' := 28) rfl (hb hby d5_3) rfl ((if0 _ _).trans (feq (by decide : ¬ ((1 : Int32) = (0 : Int32)))).2) (by decide) (by decide) ?_
    show Steps p.tables e below (T1.setTop (mkF m 28 #[.val (.ref b), .val (.int (Int32.ofNat i)), .val (.int ch)] [])) _
    refine XS.iloadN X1.here hx rfl (hb hby d5_28) rfl ?_
    show Steps p.tables e below (T1.setTop (mkF m 29 #[.val (.ref b), .val (.int (Int32.ofNat i)), .val (.int ch)] [(.int (Int32.ofNat i))])) _
    refine XS.iconst X1.here hx rfl (hb hby d5_29) ?_
    show Steps p.tables e below (T1.setTop (mkF m 30 #[.val (.ref b), .val (.int (Int32.ofNat i)), .val (.int ch)] [(.int (1 : Int32)), (.int (Int32.ofNat i))])) _
    refine XS.ishl X1.here hx rfl (hb hby d5_30) rfl ?_
    show Steps p.tables e below (T1.setTop (mkF m 31 #[.val (.ref b), .val (.int (Int32.ofNat i)), .val (.int ch)] [(.int ((Int32.ofNat i) <<< ((1 : Int32) &&& 31)))])) _
    refine castTop (congrArg (fun z_ => (mkF m 31 #[.val (.ref b), .val (.int (Int32.ofNat i)), .val (.int ch)] [(.int z_)])) (own_shl1 (by omega) : ((Int32.ofNat i) <<< ((1 : Int32) &&& 31)) = (Int32.ofNat (2 * i)))) ?_
    show Steps p.tables e below (T1.setTop (mkF m 31 #[.val (.ref b), .val (.int (Int32.ofNat i)), .val (.int ch)] [(.int (Int32.ofNat (2 * i)))])) _
    refine XS.istoreN X1.here hx rfl (hb hby d5_31) rfl (l' := #[.val (.ref b), .val (.int (Int32.ofNat (2 * i))), .val (.int ch)]) rfl ?_
    show Steps p.tables e below (T1.setTop (mkF m 32 #[.val (.ref b), .val (.int (Int32.ofNat (2 * i))), .val (.int ch)] [])) _
    refine XS.aloadN X1.here hx rfl (hb hby d5_32) rfl rfl ?_
    show Steps p.tables e below (T1.setTop (mkF m 33 #[.val (.ref b), .val (.int (Int32.ofNat (2 * i))), .val (.int ch)] [(.ref b)])) _
    refine XS.iloadN X1.here hx rfl (hb hby d5_33) rfl ?_
    show Steps p.tables e below (T1.setTop (mkF m 34 #[.val (.ref b), .val (.int (Int32.ofNat (2 * i))), .val (.int ch)] [(.int (Int32.ofNat (2 * i))), (.ref b)])) _
    refine XS.iinc X1.here hx rfl (hb hby d5_34) rfl (l' := #[.val (.ref b), .val (.int ((Int32.ofNat (2 * i)) + (1 : Int32))), .val (.int ch)]) rfl ?_
    show Steps p.tables e below (T1.setTop (mkF m 37 #[.val (.ref b), .val (.int ((Int32.ofNat (2 * i)) + (1 : Int32))), .val (.int ch)] [(.int (Int32.ofNat (2 * i))), (.ref b)])) _
    refine XS.iloadN X1.here hx rfl (hb hby d5_37) rfl ?_
    show Steps p.tables e below (T1.setTop (mkF m 38 #[.val (.ref b), .val (.int ((Int32.ofNat (2 * i)) + (1 : Int32))), .val (.int ch)] [(.int ch), (.int (Int32.ofNat (2 * i))), (.ref b)])) _
    refine st2 _ ?_
    show Steps p.tables e below (T2.setTop (mkF m 41 #[.val (.ref b), .val (.int ((Int32.ofNat (2 * i)) + (1 : Int32))), .val (.int ch)] [(.int (0 : Int32)), (.int ch), (.int (Int32.ofNat (2 * i))), (.ref b)])) _
    refine XS.ishr X2.here hx rfl (hb hby d5_41) rfl ?_
    show Steps p.tables e below (T2.setTop (mkF m 42 #[.val (.ref b), .val (.int ((Int32.ofNat (2 * i)) + (1 : Int32))), .val (.int ch)] [(.int (ch >>> ((0 : Int32) &&& 31))), (.int (Int32.ofNat (2 * i))), (.ref b)])) _
    refine XS.i2b X2.here hx rfl (hb hby d5_42) rfl ?_
    show Steps p.tables e below (T2.setTop (mkF m 43 #[.val (.ref b), .val (.int ((Int32.ofNat (2 * i)) + (1 : Int32))), .val (.int ch)] [(.int ((ch >>> ((0 : Int32) &&& 31)).toInt8.toInt32)), (.int (Int32.ofNat (2 * i))), (.ref b)])) _
    refine st3 _ ?_
    show Steps p.tables e below (T3.setTop (mkF m 44 #[.val (.ref b), .val (.int ((Int32.ofNat (2 * i)) + (1 : Int32))), .val (.int ch)] [])) _
    refine XS.aloadN X3.here hx rfl (hb hby d5_44) rfl rfl ?_
    show Steps p.tables e below (T3.setTop (mkF m 45 #[.val (.ref b), .val (.int ((Int32.ofNat (2 * i)) + (1 : Int32))), .val (.int ch)] [(.ref b)])) _
    refine XS.iloadN X3.here hx rfl (hb hby d5_45) rfl ?_
    show Steps p.tables e below (T3.setTop (mkF m 46 #[.val (.ref b), .val (.int ((Int32.ofNat (2 * i)) + (1 : Int32))), .val (.int ch)] [(.int ((Int32.ofNat (2 * i)) + (1 : Int32))), (.ref b)])) _
    refine castTop (congrArg (fun z_ => (mkF m 46 #[.val (.ref b), .val (.int ((Int32.ofNat (2 * i)) + (1 : Int32))), .val (.int ch)] [(.int z_), (.ref b)])) (own_succ _ : ((Int32.ofNat (2 * i)) + (1 : Int32)) = (Int32.ofNat (2 * i + 1)))) ?_
    show Steps p.tables e below (T3.setTop (mkF m 46 #[.val (.ref b), .val (.int ((Int32.ofNat (2 * i)) + (1 : Int32))), .val (.int ch)] [(.int (Int32.ofNat (2 * i + 1))), (.ref b)])) _
    refine XS.iloadN X3.here hx rfl (hb hby d5_46) rfl ?_
    show Steps p.tables e below (T3.setTop (mkF m 47 #[.val (.ref b), .val (.int ((Int32.ofNat (2 * i)) + (1 : Int32))), .val (.int ch)] [(.int ch), (.int (Int32.ofNat (2 * i + 1))), (.ref b)])) _
    refine st4 _ ?_
    show Steps p.tables e below (T4.setTop (mkF m 50 #[.val (.ref b), .val (.int ((Int32.ofNat (2 * i)) + (1 : Int32))), .val (.int ch)] [(.int (8 : Int32)), (.int ch), (.int (Int32.ofNat (2 * i + 1))), (.ref b)])) _
    refine XS.ishr X4.here hx rfl (hb hby d5_50) rfl ?_
    show Steps p.tables e below (T4.setTop (mkF m 51 #[.val (.ref b), .val (.int ((Int32.ofNat (2 * i)) + (1 : Int32))), .val (.int ch)] [(.int (ch >>> ((8 : Int32) &&& 31))), (.int (Int32.ofNat (2 * i + 1))), (.ref b)])) _
    refine XS.i2b X4.here hx rfl (hb hby d5_51) rfl ?_
    show Steps p.tables e below (T4.setTop (mkF m 52 #[.val (.ref b), .val (.int ((Int32.ofNat (2 * i)) + (1 : Int32))), .val (.int ch)] [(.int ((ch >>> ((8 : Int32) &&& 31)).toInt8.toInt32)), (.int (Int32.ofNat (2 * i + 1))), (.ref b)])) _
    refine st5 _ ?_
    show Steps p.tables e below (T5.setTop (mkF m 53 #[.val (.ref b), .val (.int ((Int32.ofNat (2 * i)) + (1 : Int32))), .val (.int ch)] [])) _
    exact X5.returnOut hx Bd.returns (hb hby d5_53) hr
  · show Q_pch Z b cs i ch h0 n0 _ T5.heap _
    rw [e5]
    exact ⟨rfl, N5, K5, PE⟩
def Q_gch (Z : State) (b : Addr) (cs : List Int32) (j0 : Nat) (h0 : Heap) (n0 : Nat) (v : Option Value) (h : Heap) (L : List Loc) : Prop := v = some (.int (nar .char (cs.getD j0 0))) ∧ Fr n0 L ∧ h = h0
theorem d6_0 : decode jdk_52_method_5_code 0 = .ok (.getstatic 44, 3) := by decide +kernel
theorem d6_3 : decode jdk_52_method_5_code 3 = .ok (.ifCond .ne 25, 3) := by decide +kernel
theorem d6_28 : decode jdk_52_method_5_code 28 = .ok (.iload_n 1, 1) := by decide +kernel
theorem d6_29 : decode jdk_52_method_5_code 29 = .ok (.iconst 1, 1) := by decide +kernel
theorem d6_30 : decode jdk_52_method_5_code 30 = .ok (.ishl, 1) := by decide +kernel
theorem d6_31 : decode jdk_52_method_5_code 31 = .ok (.istore_n 1, 1) := by decide +kernel
theorem d6_32 : decode jdk_52_method_5_code 32 = .ok (.aload_n 0, 1) := by decide +kernel
theorem d6_33 : decode jdk_52_method_5_code 33 = .ok (.iload_n 1, 1) := by decide +kernel
theorem d6_34 : decode jdk_52_method_5_code 34 = .ok (.iinc 1 1, 3) := by decide +kernel
theorem d6_37 : decode jdk_52_method_5_code 37 = .ok (.baload, 1) := by decide +kernel
theorem d6_38 : decode jdk_52_method_5_code 38 = .ok (.sipush 255, 3) := by decide +kernel
theorem d6_41 : decode jdk_52_method_5_code 41 = .ok (.iand, 1) := by decide +kernel
theorem d6_42 : decode jdk_52_method_5_code 42 = .ok (.getstatic 59, 3) := by decide +kernel
theorem d6_45 : decode jdk_52_method_5_code 45 = .ok (.ishl, 1) := by decide +kernel
theorem d6_46 : decode jdk_52_method_5_code 46 = .ok (.aload_n 0, 1) := by decide +kernel
theorem d6_47 : decode jdk_52_method_5_code 47 = .ok (.iload_n 1, 1) := by decide +kernel
theorem d6_48 : decode jdk_52_method_5_code 48 = .ok (.baload, 1) := by decide +kernel
theorem d6_49 : decode jdk_52_method_5_code 49 = .ok (.sipush 255, 3) := by decide +kernel
theorem d6_52 : decode jdk_52_method_5_code 52 = .ok (.iand, 1) := by decide +kernel
theorem d6_53 : decode jdk_52_method_5_code 53 = .ok (.getstatic 63, 3) := by decide +kernel
theorem d6_56 : decode jdk_52_method_5_code 56 = .ok (.ishl, 1) := by decide +kernel
theorem d6_57 : decode jdk_52_method_5_code 57 = .ok (.ior, 1) := by decide +kernel
theorem d6_58 : decode jdk_52_method_5_code 58 = .ok (.i2c, 1) := by decide +kernel
theorem d6_59 : decode jdk_52_method_5_code 59 = .ok (.ireturn, 1) := by decide +kernel
theorem ef_6_RI (m : MethodId) (x0 : Addr) (x1 : Int32) : entryFrame m #[(.ref x0), (.int x1)] 2 = mkF m 0 #[.val (.ref x0), .val (.int x1)] [] := by first | (simp [entryFrame, mkF, argsToLocals, Value.category]; done) | rfl
set_option maxRecDepth 65536 in
set_option maxHeartbeats 40000000 in
theorem gch (l : Launch) (Z : State) (a0 : Array Value) (hw : ∀ d ∈ tables_1, d.before a0 Z = true) (ws : List Jvm.Cond) (b : Addr) (cs : List Int32) (j0 : Nat) (h0 : Heap) (n0 : Nat) (O0 : Old Z n0 h0) (G0 : Sta Z Z.heap "java/lang/StringUTF16" "$assertionsDisabled" "Z" (.int (1 : Int32))) (G1 : Sta Z Z.heap "java/lang/StringUTF16" "HI_BYTE_SHIFT" "I" (.int (0 : Int32))) (G2 : Sta Z Z.heap "java/lang/StringUTF16" "LO_BYTE_SHIFT" "I" (.int (8 : Int32))) (P0 : ArP Z h0 b (Int32.ofNat (2 * cs.length)) cs cs.length) (hl : cs.length ≤ 41) (hj : j0 < cs.length) (hch : ∀ c ∈ cs, ¬ c < 0 ∧ ¬ (65535 : Int32) < c) :
    MetFree l (⟨"java/lang/StringUTF16", "getChar", "([BI)C"⟩ : MethodName) (head1 (Jvm.Cond.code (⟨"java/lang/StringUTF16", "getChar", "([BI)C"⟩ : MethodName) jdk_52_method_5_code 2 (some .char) :: ws) ({ frames := 0, cells := 0, slots := 0, locals := 0 } : Room)) (fun zA zU => zA = #[(.ref b), (.int (Int32.ofNat j0))] ∧ Z.Warmed39 zU.vm ∧ zU.heap = h0) (fun _ _ _ _ _ => True) (fun _ zU zo zU' => ∃ zv zL, zo = .returned zv ∧ Q_gch Z b cs j0 h0 n0 zv zU'.heap zL ∧ FrameEnd zU zo zU' zL ({ frames := 0, cells := 0, slots := 0, locals := 0 } : Room).cells ({ frames := 0, cells := 0, slots := 0, locals := 0 } : Room).slots) := by
  refine MetFree.of_bodySF (plainFor_of_name pn_2) hisR ?_
  intro p e s m args below meth c s₁ Bd hml0 hP hK
  obtain ⟨rfl, hZ, hh⟩ := hP
  have hx := Bd.exec
  have hby := Bd.bytes
  have hml : c.maxLocals = 2 := hml0
  have hown : s.vm.findClass "java/lang/StringUTF16" = some m.cls := findClass_of_methodNamed Bd.named
  have hnm := (name_of_methodNamed Bd.named Bd.method).1
  have X0 : Stand p l e ({ frames := 0, cells := 0, slots := 0, locals := 0 } : Room) s m #[(.ref b), (.int (Int32.ofNat j0))] below meth c s₁ [] 0 0 := Stand.of_body Bd
  have e0 : s₁.heap = h0 := by rw [← hh, Bd.state]; rfl
  have N0 := Fr.nil n0
  have Z0 : n0 ≤ h0.size := O0.1 ▸ O0.2.1
  have pre0 : ∀ zt, Steps p.tables e below (s₁.setTop (mkF m 0 #[.val (.ref b), .val (.int (Int32.ofNat j0))] [])) zt → Steps p.tables e below (s₁.setTop (entryFrame m #[(.ref b), (.int (Int32.ofNat j0))] 2)) zt := fun zt zk => castTop (ef_6_RI m b (Int32.ofNat j0)) zk
  obtain ⟨T1, X1, e1, st1⟩ := getS2 X0 hx hZ hown (host := "") (Or.inl (hw _ (List.mem_of_getElem? (i := 69) rfl))) Via.refl e0 (G0.ext O0.2) (g := (mkF m 0 #[.val (.ref b), .val (.int (Int32.ofNat j0))] [])) rfl (hb hby d6_0)
  obtain ⟨cl2, Ar2, Sz2, Ng2, Gs2⟩ := (id P0)
  have hin2 : ¬ ((Int32.ofNat (2 * j0)) < 0 ∨ cl2.slots.size ≤ ((Int32.ofNat (2 * j0))).toNatClampNeg) := inb_of Sz2 (own_bnd2 (by omega) (by omega))
  have hat2 : cl2.slots[((Int32.ofNat (2 * j0))).toNatClampNeg]? = some (.int (StrChars.lo8 (cs.getD j0 0))) := ArP.at1 (Z := Z) Gs2 hj (by omega)
  obtain ⟨T3, X3, e3, st3⟩ := getS2 X1 hx hZ hown (host := "") (Or.inl (hw _ (List.mem_of_getElem? (i := 70) rfl))) Via.refl e1 (G1.ext O0.2) (g := (mkF m 42 #[.val (.ref b), .val (.int ((Int32.ofNat (2 * j0)) + (1 : Int32)))] [(.int ((StrChars.lo8 (cs.getD j0 0)) &&& (255 : Int32)))])) rfl (hb hby d6_42)
  obtain ⟨cl4, Ar4, Sz4, Ng4, Gs4⟩ := (id P0)
  have hin4 : ¬ ((Int32.ofNat (2 * j0 + 1)) < 0 ∨ cl4.slots.size ≤ ((Int32.ofNat (2 * j0 + 1))).toNatClampNeg) := inb_of Sz4 (own_bnd2 (by omega) (by omega))
  have hat4 : cl4.slots[((Int32.ofNat (2 * j0 + 1))).toNatClampNeg]? = some (.int (StrChars.hi8 (cs.getD j0 0))) := ArP.at2 (Z := Z) Gs4 hj (by omega)
  obtain ⟨T5, X5, e5, st5⟩ := getS2 X3 hx hZ hown (host := "") (Or.inl (hw _ (List.mem_of_getElem? (i := 71) rfl))) Via.refl e3 (G2.ext O0.2) (g := (mkF m 53 #[.val (.ref b), .val (.int ((Int32.ofNat (2 * j0)) + (1 : Int32)))] [(.int ((StrChars.hi8 (cs.getD j0 0)) &&& (255 : Int32))), (.int (((StrChars.lo8 (cs.getD j0 0)) &&& (255 : Int32)) <<< ((0 : Int32) &&& 31)))])) rfl (hb hby d6_53)
  obtain ⟨fs, hr, hrun, hended, hW, hsame⟩ := X5.leave (v := some (.int (nar .char (cs.getD j0 0)))) (fun h => by rw [Bd.returns] at h; cases h)
  refine ⟨_, _, pre0 _ ?_, hrun, hended, _, _, rfl, ?_, ⟨_, rfl⟩, hW, hsame.mono (by decide) (by decide)⟩
  · show Steps p.tables e below (s₁.setTop (mkF m 0 #[.val (.ref b), .val (.int (Int32.ofNat j0))] [])) _
    refine st1 _ ?_
    show Steps p.tables e below (T1.setTop (mkF m 3 #[.val (.ref b), .val (.int (Int32.ofNat j0))] [(.int (1 : Int32))])) _
    refine XS.ifYes X1.here hx rfl (pc0 := 3) (pc' := 28) rfl (hb hby d6_3) rfl ((if0 _ _).trans (feq (by decide : ¬ ((1 : Int32) = (0 : Int32)))).2) (by decide) (by decide) ?_
    show Steps p.tables e below (T1.setTop (mkF m 28 #[.val (.ref b), .val (.int (Int32.ofNat j0))] [])) _
    refine XS.iloadN X1.here hx rfl (hb hby d6_28) rfl ?_
    show Steps p.tables e below (T1.setTop (mkF m 29 #[.val (.ref b), .val (.int (Int32.ofNat j0))] [(.int (Int32.ofNat j0))])) _
    refine XS.iconst X1.here hx rfl (hb hby d6_29) ?_
    show Steps p.tables e below (T1.setTop (mkF m 30 #[.val (.ref b), .val (.int (Int32.ofNat j0))] [(.int (1 : Int32)), (.int (Int32.ofNat j0))])) _
    refine XS.ishl X1.here hx rfl (hb hby d6_30) rfl ?_
    show Steps p.tables e below (T1.setTop (mkF m 31 #[.val (.ref b), .val (.int (Int32.ofNat j0))] [(.int ((Int32.ofNat j0) <<< ((1 : Int32) &&& 31)))])) _
    refine castTop (congrArg (fun z_ => (mkF m 31 #[.val (.ref b), .val (.int (Int32.ofNat j0))] [(.int z_)])) (own_shl1 (by omega) : ((Int32.ofNat j0) <<< ((1 : Int32) &&& 31)) = (Int32.ofNat (2 * j0)))) ?_
    show Steps p.tables e below (T1.setTop (mkF m 31 #[.val (.ref b), .val (.int (Int32.ofNat j0))] [(.int (Int32.ofNat (2 * j0)))])) _
    refine XS.istoreN X1.here hx rfl (hb hby d6_31) rfl (l' := #[.val (.ref b), .val (.int (Int32.ofNat (2 * j0)))]) rfl ?_
    show Steps p.tables e below (T1.setTop (mkF m 32 #[.val (.ref b), .val (.int (Int32.ofNat (2 * j0)))] [])) _
    refine XS.aloadN X1.here hx rfl (hb hby d6_32) rfl rfl ?_
    show Steps p.tables e below (T1.setTop (mkF m 33 #[.val (.ref b), .val (.int (Int32.ofNat (2 * j0)))] [(.ref b)])) _
    refine XS.iloadN X1.here hx rfl (hb hby d6_33) rfl ?_
    show Steps p.tables e below (T1.setTop (mkF m 34 #[.val (.ref b), .val (.int (Int32.ofNat (2 * j0)))] [(.int (Int32.ofNat (2 * j0))), (.ref b)])) _
    refine XS.iinc X1.here hx rfl (hb hby d6_34) rfl (l' := #[.val (.ref b), .val (.int ((Int32.ofNat (2 * j0)) + (1 : Int32)))]) rfl ?_
    show Steps p.tables e below (T1.setTop (mkF m 37 #[.val (.ref b), .val (.int ((Int32.ofNat (2 * j0)) + (1 : Int32)))] [(.int (Int32.ofNat (2 * j0))), (.ref b)])) _
    refine X1.baloadBytes hx (j := (Int32.ofNat (2 * j0))) (v := (.int (StrChars.lo8 (cs.getD j0 0)))) (Ar2.at_ e1) (State.isArrayOf_alike hZ.alike Ar2.2.1) Ar2.2.2 hin2 hat2 (g := (mkF m 37 #[.val (.ref b), .val (.int ((Int32.ofNat (2 * j0)) + (1 : Int32)))] [(.int (Int32.ofNat (2 * j0))), (.ref b)])) rfl rfl (hb hby d6_37) _ ?_
    show Steps p.tables e below (T1.setTop (mkF m 38 #[.val (.ref b), .val (.int ((Int32.ofNat (2 * j0)) + (1 : Int32)))] [(.int (StrChars.lo8 (cs.getD j0 0)))])) _
    refine XS.sipush X1.here hx rfl (hb hby d6_38) ?_
    show Steps p.tables e below (T1.setTop (mkF m 41 #[.val (.ref b), .val (.int ((Int32.ofNat (2 * j0)) + (1 : Int32)))] [(.int (255 : Int32)), (.int (StrChars.lo8 (cs.getD j0 0)))])) _
    refine XS.iand X1.here hx rfl (hb hby d6_41) rfl ?_
    show Steps p.tables e below (T1.setTop (mkF m 42 #[.val (.ref b), .val (.int ((Int32.ofNat (2 * j0)) + (1 : Int32)))] [(.int ((StrChars.lo8 (cs.getD j0 0)) &&& (255 : Int32)))])) _
    refine st3 _ ?_
    show Steps p.tables e below (T3.setTop (mkF m 45 #[.val (.ref b), .val (.int ((Int32.ofNat (2 * j0)) + (1 : Int32)))] [(.int (0 : Int32)), (.int ((StrChars.lo8 (cs.getD j0 0)) &&& (255 : Int32)))])) _
    refine XS.ishl X3.here hx rfl (hb hby d6_45) rfl ?_
    show Steps p.tables e below (T3.setTop (mkF m 46 #[.val (.ref b), .val (.int ((Int32.ofNat (2 * j0)) + (1 : Int32)))] [(.int (((StrChars.lo8 (cs.getD j0 0)) &&& (255 : Int32)) <<< ((0 : Int32) &&& 31)))])) _
    refine XS.aloadN X3.here hx rfl (hb hby d6_46) rfl rfl ?_
    show Steps p.tables e below (T3.setTop (mkF m 47 #[.val (.ref b), .val (.int ((Int32.ofNat (2 * j0)) + (1 : Int32)))] [(.ref b), (.int (((StrChars.lo8 (cs.getD j0 0)) &&& (255 : Int32)) <<< ((0 : Int32) &&& 31)))])) _
    refine XS.iloadN X3.here hx rfl (hb hby d6_47) rfl ?_
    show Steps p.tables e below (T3.setTop (mkF m 48 #[.val (.ref b), .val (.int ((Int32.ofNat (2 * j0)) + (1 : Int32)))] [(.int ((Int32.ofNat (2 * j0)) + (1 : Int32))), (.ref b), (.int (((StrChars.lo8 (cs.getD j0 0)) &&& (255 : Int32)) <<< ((0 : Int32) &&& 31)))])) _
    refine castTop (congrArg (fun z_ => (mkF m 48 #[.val (.ref b), .val (.int ((Int32.ofNat (2 * j0)) + (1 : Int32)))] [(.int z_), (.ref b), (.int (((StrChars.lo8 (cs.getD j0 0)) &&& (255 : Int32)) <<< ((0 : Int32) &&& 31)))])) (own_succ _ : ((Int32.ofNat (2 * j0)) + (1 : Int32)) = (Int32.ofNat (2 * j0 + 1)))) ?_
    show Steps p.tables e below (T3.setTop (mkF m 48 #[.val (.ref b), .val (.int ((Int32.ofNat (2 * j0)) + (1 : Int32)))] [(.int (Int32.ofNat (2 * j0 + 1))), (.ref b), (.int (((StrChars.lo8 (cs.getD j0 0)) &&& (255 : Int32)) <<< ((0 : Int32) &&& 31)))])) _
    refine X3.baloadBytes hx (j := (Int32.ofNat (2 * j0 + 1))) (v := (.int (StrChars.hi8 (cs.getD j0 0)))) (Ar4.at_ e3) (State.isArrayOf_alike hZ.alike Ar4.2.1) Ar4.2.2 hin4 hat4 (g := (mkF m 48 #[.val (.ref b), .val (.int ((Int32.ofNat (2 * j0)) + (1 : Int32)))] [(.int (Int32.ofNat (2 * j0 + 1))), (.ref b), (.int (((StrChars.lo8 (cs.getD j0 0)) &&& (255 : Int32)) <<< ((0 : Int32) &&& 31)))])) rfl rfl (hb hby d6_48) _ ?_
    show Steps p.tables e below (T3.setTop (mkF m 49 #[.val (.ref b), .val (.int ((Int32.ofNat (2 * j0)) + (1 : Int32)))] [(.int (StrChars.hi8 (cs.getD j0 0))), (.int (((StrChars.lo8 (cs.getD j0 0)) &&& (255 : Int32)) <<< ((0 : Int32) &&& 31)))])) _
    refine XS.sipush X3.here hx rfl (hb hby d6_49) ?_
    show Steps p.tables e below (T3.setTop (mkF m 52 #[.val (.ref b), .val (.int ((Int32.ofNat (2 * j0)) + (1 : Int32)))] [(.int (255 : Int32)), (.int (StrChars.hi8 (cs.getD j0 0))), (.int (((StrChars.lo8 (cs.getD j0 0)) &&& (255 : Int32)) <<< ((0 : Int32) &&& 31)))])) _
    refine XS.iand X3.here hx rfl (hb hby d6_52) rfl ?_
    show Steps p.tables e below (T3.setTop (mkF m 53 #[.val (.ref b), .val (.int ((Int32.ofNat (2 * j0)) + (1 : Int32)))] [(.int ((StrChars.hi8 (cs.getD j0 0)) &&& (255 : Int32))), (.int (((StrChars.lo8 (cs.getD j0 0)) &&& (255 : Int32)) <<< ((0 : Int32) &&& 31)))])) _
    refine st5 _ ?_
    show Steps p.tables e below (T5.setTop (mkF m 56 #[.val (.ref b), .val (.int ((Int32.ofNat (2 * j0)) + (1 : Int32)))] [(.int (8 : Int32)), (.int ((StrChars.hi8 (cs.getD j0 0)) &&& (255 : Int32))), (.int (((StrChars.lo8 (cs.getD j0 0)) &&& (255 : Int32)) <<< ((0 : Int32) &&& 31)))])) _
    refine XS.ishl X5.here hx rfl (hb hby d6_56) rfl ?_
    show Steps p.tables e below (T5.setTop (mkF m 57 #[.val (.ref b), .val (.int ((Int32.ofNat (2 * j0)) + (1 : Int32)))] [(.int (((StrChars.hi8 (cs.getD j0 0)) &&& (255 : Int32)) <<< ((8 : Int32) &&& 31))), (.int (((StrChars.lo8 (cs.getD j0 0)) &&& (255 : Int32)) <<< ((0 : Int32) &&& 31)))])) _
    refine XS.ior X5.here hx rfl (hb hby d6_57) rfl ?_
    show Steps p.tables e below (T5.setTop (mkF m 58 #[.val (.ref b), .val (.int ((Int32.ofNat (2 * j0)) + (1 : Int32)))] [(.int ((((StrChars.lo8 (cs.getD j0 0)) &&& (255 : Int32)) <<< ((0 : Int32) &&& 31)) ||| (((StrChars.hi8 (cs.getD j0 0)) &&& (255 : Int32)) <<< ((8 : Int32) &&& 31))))])) _
    refine XS.i2c X5.here hx rfl (hb hby d6_58) rfl ?_
    show Steps p.tables e below (T5.setTop (mkF m 59 #[.val (.ref b), .val (.int ((Int32.ofNat (2 * j0)) + (1 : Int32)))] [(.int (((((StrChars.lo8 (cs.getD j0 0)) &&& (255 : Int32)) <<< ((0 : Int32) &&& 31)) ||| (((StrChars.hi8 (cs.getD j0 0)) &&& (255 : Int32)) <<< ((8 : Int32) &&& 31))).toUInt32.toUInt16.toUInt32.toInt32))])) _
    refine castTop (congrArg (fun z_ => (mkF m 59 #[.val (.ref b), .val (.int ((Int32.ofNat (2 * j0)) + (1 : Int32)))] [(.int z_)])) (StrChars.pair_says (hch _ (own_getD_mem hj)).1 (hch _ (own_getD_mem hj)).2 : (((((StrChars.lo8 (cs.getD j0 0)) &&& (255 : Int32)) <<< ((0 : Int32) &&& 31)) ||| (((StrChars.hi8 (cs.getD j0 0)) &&& (255 : Int32)) <<< ((8 : Int32) &&& 31))).toUInt32.toUInt16.toUInt32.toInt32) = (cs.getD j0 0))) ?_
    show Steps p.tables e below (T5.setTop (mkF m 59 #[.val (.ref b), .val (.int ((Int32.ofNat (2 * j0)) + (1 : Int32)))] [(.int (cs.getD j0 0))])) _
    exact retN X5 hx (t := .char) Bd.returns (by simp) (hb hby d6_59) hr
  · show Q_gch Z b cs j0 h0 n0 _ T5.heap _
    rw [e5]
    exact ⟨rfl, N0, rfl⟩
def Q_tBs (Z : State) (a : Addr) (ka : ClassId) (cs : List Int32) (h0 : Heap) (n0 : Nat) (v : Option Value) (h : Heap) (L : List Loc) : Prop := ∃ r : Addr, v = some (.ref r) ∧ Fr n0 L ∧ Keep h0 h [] ∧ h0.size ≤ r ∧ ArP Z h r (Int32.ofNat (2 * cs.length)) cs cs.length
theorem d7_8 : decode jdk_52_method_14_code 8 = .ok (.iload 4, 2) := by decide +kernel
theorem d7_10 : decode jdk_52_method_14_code 10 = .ok (.iload_n 2, 1) := by decide +kernel
theorem d7_11 : decode jdk_52_method_14_code 11 = .ok (.if_icmp .ge 21, 3) := by decide +kernel
theorem d7_14 : decode jdk_52_method_14_code 14 = .ok (.aload_n 3, 1) := by decide +kernel
theorem d7_15 : decode jdk_52_method_14_code 15 = .ok (.iload 4, 2) := by decide +kernel
theorem d7_17 : decode jdk_52_method_14_code 17 = .ok (.aload_n 0, 1) := by decide +kernel
theorem d7_18 : decode jdk_52_method_14_code 18 = .ok (.iload_n 1, 1) := by decide +kernel
theorem d7_19 : decode jdk_52_method_14_code 19 = .ok (.caload, 1) := by decide +kernel
theorem d7_20 : decode jdk_52_method_14_code 20 = .ok (.invokestatic 111, 3) := by decide +kernel
theorem pd_1 : parseMethodDescriptor "([BII)V" = some ⟨[(.array .byte), .int, .int], none⟩ := by decide +kernel
theorem d7_23 : decode jdk_52_method_14_code 23 = .ok (.iinc 1 1, 3) := by decide +kernel
theorem d7_26 : decode jdk_52_method_14_code 26 = .ok (.iinc 4 1, 3) := by decide +kernel
theorem d7_29 : decode jdk_52_method_14_code 29 = .ok (.goto (-21), 3) := by decide +kernel
set_option maxRecDepth 65536 in
set_option maxHeartbeats 40000000 in
theorem tb_it {p : Program} {l : Launch} {e : Env} {s : State} {m : MethodId} {below : List Frame} {meth : Method} {c : Code} {T0 : State} {locs : List Loc} {Z : State} {a0 : Array Value} {h0 : Heap} {n0 : Nat} (hw : ∀ d ∈ tables_1, d.before a0 Z = true) (a b : Addr) (ka : ClassId) (cs : List Int32) (i : Nat) (X0 : Stand p l e ({ frames := 2, cells := 1, slots := 82, locals := 24 } : Room) s m #[(.ref a), (.int (0 : Int32)), (.int (Int32.ofNat cs.length))] below meth c T0 locs 1 82) (hx : p.tables.exec = Jvm.exec) (hZ : Z.Warmed39 s.vm) (hby : c.code = jdk_52_method_14_code) (hml : c.maxLocals = 5) (hown : s.vm.findClass "java/lang/StringUTF16" = some m.cls) (e0 : T0.heap = h0) (N0 : Fr n0 locs) (Z0 : n0 ≤ h0.size) (O0 : Old Z n0 h0) (G0 : Sta Z Z.heap "java/lang/StringUTF16" "$assertionsDisabled" "Z" (.int (1 : Int32))) (G1 : Sta Z Z.heap "java/lang/StringUTF16" "HI_BYTE_SHIFT" "I" (.int (0 : Int32))) (G2 : Sta Z Z.heap "java/lang/StringUTF16" "LO_BYTE_SHIFT" "I" (.int (8 : Int32))) (F1 : Arv Z h0 a ka .char (Int32.ofNat cs.length) (cs.map Value.int) (.int (0 : Int32))) (F2 : ArP Z h0 b (Int32.ofNat (2 * cs.length)) cs i) (g_b : n0 ≤ b) (ne_a_b : a ≠ b) (hl : cs.length ≤ 41) (hi : i < cs.length) :
    ∃ (T' : State) (h' : Heap) (L' : List Loc), Stand p l e ({ frames := 2, cells := 1, slots := 82, locals := 24 } : Room) s m #[(.ref a), (.int (0 : Int32)), (.int (Int32.ofNat cs.length))] below meth c T' L' 1 82 ∧ T'.heap = h' ∧ Fr n0 L' ∧ Keep h0 h' [b] ∧ Arv Z h' a ka .char (Int32.ofNat cs.length) (cs.map Value.int) (.int (0 : Int32)) ∧ ArP Z h' b (Int32.ofNat (2 * cs.length)) cs (i + 1) ∧ ∀ target, Steps p.tables e below (T'.setTop (mkF m 8 #[.val (.ref a), .val (.int ((Int32.ofNat i) + (1 : Int32))), .val (.int (Int32.ofNat cs.length)), .val (.ref b), .val (.int ((Int32.ofNat i) + (1 : Int32)))] [])) target → Steps p.tables e below (T0.setTop (mkF m 8 #[.val (.ref a), .val (.int (Int32.ofNat i)), .val (.int (Int32.ofNat cs.length)), .val (.ref b), .val (.int (Int32.ofNat i))] [])) target := by
  obtain ⟨cl1, Ar1, q1, Sz1, Ng1, Hs1, Gs1⟩ := (id F1)
  have hin1 : ¬ ((Int32.ofNat i) < 0 ∨ cl1.slots.size ≤ ((Int32.ofNat i)).toNatClampNeg) := inb_of Sz1 (own_bnd hi hl)
  have hat1 : cl1.slots[((Int32.ofNat i)).toNatClampNeg]? = some (.int (cs.getD i 0)) := Has.at Hs1 hin1 (own_gd hi hl)
  obtain ⟨_, _, ⟨T2, L2, k2, n2⟩, -, X2, ⟨Lc2, hQ2, l2, y2, z2⟩, st2⟩ := Jvm.LawKit.callS X0 hx (y := (⟨"java/lang/StringUTF16", "putChar", "([BII)V"⟩ : MethodName)) hown (mvT hZ (hw _ (List.mem_of_getElem? (i := 66) rfl))) (mvT hZ (hw _ (List.mem_of_getElem? (i := 67) rfl))) (mvT hZ (hw _ (List.mem_of_getElem? (i := 23) rfl))) (mvT hZ (hw _ (List.mem_of_getElem? (i := 68) rfl))) (by decide) (backOf (W := 0) (pch l Z a0 hw [] b cs i (cs.getD i 0) h0 n0 O0 G0 G1 G2 F2 g_b hl hi rfl) hZ (hw _ (List.mem_of_getElem? (i := 68) rfl)) (hw _ (List.mem_of_getElem? (i := 23) rfl)) (by decide) (by decide)) (g := (mkF m 20 #[.val (.ref a), .val (.int (Int32.ofNat i)), .val (.int (Int32.ofNat cs.length)), .val (.ref b), .val (.int (Int32.ofNat i))] [(.int (cs.getD i 0)), (.int (Int32.ofNat i)), (.ref b)])) rfl (by rw [hml]; rfl) (argsL := [(.ref b), (.int (Int32.ofNat i)), (.int (cs.getD i 0))]) (rest := []) (lenOf pd_1 rfl) rfl (by show 2 * 0 + _ ≤ _; exact Nat.le_of_eq rfl) (hb hby d7_20) (fun _ _ => ⟨rfl, e0, (by decide : 1 + 0 ≤ _), (by decide : 82 + 0 ≤ _)⟩)
  dsimp only [Pt.U, Pt.locs, Pt.cells, Pt.slots] at X2 l2 y2 z2 st2 hQ2
  subst l2 y2 z2
  obtain ⟨rfl, Nq2, kh2, Po2_0⟩ := hQ2
  have N2 := Fr.app N0 Nq2
  have O2 := O0.keep kh2 (allS g_b all0)
  have K2 : Keep h0 T2.heap [b] := (Keep.refl h0 [b]).trans kh2 (allS (Or.inl (List.mem_of_getElem? (i := 0) rfl)) all0)
  refine ⟨T2, _, _, X2, rfl, N2, K2, (F1.keep kh2 (ninS ne_a_b nin0)), Po2_0, fun target kt => ?_⟩
  show Steps p.tables e below (T0.setTop (mkF m 8 #[.val (.ref a), .val (.int (Int32.ofNat i)), .val (.int (Int32.ofNat cs.length)), .val (.ref b), .val (.int (Int32.ofNat i))] [])) _
  refine XS.iload X0.here hx rfl (hb hby d7_8) rfl ?_
  show Steps p.tables e below (T0.setTop (mkF m 10 #[.val (.ref a), .val (.int (Int32.ofNat i)), .val (.int (Int32.ofNat cs.length)), .val (.ref b), .val (.int (Int32.ofNat i))] [(.int (Int32.ofNat i))])) _
  refine XS.iloadN X0.here hx rfl (hb hby d7_10) rfl ?_
  show Steps p.tables e below (T0.setTop (mkF m 11 #[.val (.ref a), .val (.int (Int32.ofNat i)), .val (.int (Int32.ofNat cs.length)), .val (.ref b), .val (.int (Int32.ofNat i))] [(.int (Int32.ofNat cs.length)), (.int (Int32.ofNat i))])) _
  refine XS.icmpNo X0.here hx rfl (hb hby d7_11) rfl (tlt (own_bnd hi hl |>.2 : (Int32.ofNat i) < (Int32.ofNat cs.length))).2.1 ?_
  show Steps p.tables e below (T0.setTop (mkF m 14 #[.val (.ref a), .val (.int (Int32.ofNat i)), .val (.int (Int32.ofNat cs.length)), .val (.ref b), .val (.int (Int32.ofNat i))] [])) _
  refine XS.aloadN X0.here hx rfl (hb hby d7_14) rfl rfl ?_
  show Steps p.tables e below (T0.setTop (mkF m 15 #[.val (.ref a), .val (.int (Int32.ofNat i)), .val (.int (Int32.ofNat cs.length)), .val (.ref b), .val (.int (Int32.ofNat i))] [(.ref b)])) _
  refine XS.iload X0.here hx rfl (hb hby d7_15) rfl ?_
  show Steps p.tables e below (T0.setTop (mkF m 17 #[.val (.ref a), .val (.int (Int32.ofNat i)), .val (.int (Int32.ofNat cs.length)), .val (.ref b), .val (.int (Int32.ofNat i))] [(.int (Int32.ofNat i)), (.ref b)])) _
  refine XS.aloadN X0.here hx rfl (hb hby d7_17) rfl rfl ?_
  show Steps p.tables e below (T0.setTop (mkF m 18 #[.val (.ref a), .val (.int (Int32.ofNat i)), .val (.int (Int32.ofNat cs.length)), .val (.ref b), .val (.int (Int32.ofNat i))] [(.ref a), (.int (Int32.ofNat i)), (.ref b)])) _
  refine XS.iloadN X0.here hx rfl (hb hby d7_18) rfl ?_
  show Steps p.tables e below (T0.setTop (mkF m 19 #[.val (.ref a), .val (.int (Int32.ofNat i)), .val (.int (Int32.ofNat cs.length)), .val (.ref b), .val (.int (Int32.ofNat i))] [(.int (Int32.ofNat i)), (.ref a), (.int (Int32.ofNat i)), (.ref b)])) _
  refine X0.caload hx (j := (Int32.ofNat i)) (v := (.int (cs.getD i 0))) (Ar1.at_ e0) (State.isArrayOf_alike hZ.alike Ar1.2.1) Ar1.2.2 hin1 hat1 (g := (mkF m 19 #[.val (.ref a), .val (.int (Int32.ofNat i)), .val (.int (Int32.ofNat cs.length)), .val (.ref b), .val (.int (Int32.ofNat i))] [(.int (Int32.ofNat i)), (.ref a), (.int (Int32.ofNat i)), (.ref b)])) rfl rfl (hb hby d7_19) _ ?_
  show Steps p.tables e below (T0.setTop (mkF m 20 #[.val (.ref a), .val (.int (Int32.ofNat i)), .val (.int (Int32.ofNat cs.length)), .val (.ref b), .val (.int (Int32.ofNat i))] [(.int (cs.getD i 0)), (.int (Int32.ofNat i)), (.ref b)])) _
  refine st2 _ ?_
  show Steps p.tables e below (T2.setTop (mkF m 23 #[.val (.ref a), .val (.int (Int32.ofNat i)), .val (.int (Int32.ofNat cs.length)), .val (.ref b), .val (.int (Int32.ofNat i))] [])) _
  refine XS.iinc X2.here hx rfl (hb hby d7_23) rfl (l' := #[.val (.ref a), .val (.int ((Int32.ofNat i) + (1 : Int32))), .val (.int (Int32.ofNat cs.length)), .val (.ref b), .val (.int (Int32.ofNat i))]) rfl ?_
  show Steps p.tables e below (T2.setTop (mkF m 26 #[.val (.ref a), .val (.int ((Int32.ofNat i) + (1 : Int32))), .val (.int (Int32.ofNat cs.length)), .val (.ref b), .val (.int (Int32.ofNat i))] [])) _
  refine XS.iinc X2.here hx rfl (hb hby d7_26) rfl (l' := #[.val (.ref a), .val (.int ((Int32.ofNat i) + (1 : Int32))), .val (.int (Int32.ofNat cs.length)), .val (.ref b), .val (.int ((Int32.ofNat i) + (1 : Int32)))]) rfl ?_
  show Steps p.tables e below (T2.setTop (mkF m 29 #[.val (.ref a), .val (.int ((Int32.ofNat i) + (1 : Int32))), .val (.int (Int32.ofNat cs.length)), .val (.ref b), .val (.int ((Int32.ofNat i) + (1 : Int32)))] [])) _
  refine XS.goto X2.here hx rfl (pc0 := 29) (pc' := 8) rfl (hb hby d7_29) (by decide) (by decide) ?_
  show Steps p.tables e below (T2.setTop (mkF m 8 #[.val (.ref a), .val (.int ((Int32.ofNat i) + (1 : Int32))), .val (.int (Int32.ofNat cs.length)), .val (.ref b), .val (.int ((Int32.ofNat i) + (1 : Int32)))] [])) _
  exact kt
theorem tb_loop {p : Program} {l : Launch} {e : Env} {s : State} {m : MethodId} {below : List Frame} {meth : Method} {c : Code} {Z : State} {a0 : Array Value} {n0 : Nat} (hw : ∀ d ∈ tables_1, d.before a0 Z = true) (a b : Addr) (ka : ClassId) (cs : List Int32) (hx : p.tables.exec = Jvm.exec) (hZ : Z.Warmed39 s.vm) (hby : c.code = jdk_52_method_14_code) (hml : c.maxLocals = 5) (hown : s.vm.findClass "java/lang/StringUTF16" = some m.cls) (g_b : n0 ≤ b) (ne_a_b : a ≠ b) (hl : cs.length ≤ 41) (G0 : Sta Z Z.heap "java/lang/StringUTF16" "$assertionsDisabled" "Z" (.int (1 : Int32))) (G1 : Sta Z Z.heap "java/lang/StringUTF16" "HI_BYTE_SHIFT" "I" (.int (0 : Int32))) (G2 : Sta Z Z.heap "java/lang/StringUTF16" "LO_BYTE_SHIFT" "I" (.int (8 : Int32))) :
    ∀ (r i : Nat), i + r = cs.length → ∀ (T0 : State) (locs : List Loc) (h0 : Heap), Stand p l e ({ frames := 2, cells := 1, slots := 82, locals := 24 } : Room) s m #[(.ref a), (.int (0 : Int32)), (.int (Int32.ofNat cs.length))] below meth c T0 locs 1 82 → T0.heap = h0 → Fr n0 locs → n0 ≤ h0.size → Old Z n0 h0 → Arv Z h0 a ka .char (Int32.ofNat cs.length) (cs.map Value.int) (.int (0 : Int32)) → ArP Z h0 b (Int32.ofNat (2 * cs.length)) cs i →
      ∃ (T' : State) (h' : Heap) (L' : List Loc), Stand p l e ({ frames := 2, cells := 1, slots := 82, locals := 24 } : Room) s m #[(.ref a), (.int (0 : Int32)), (.int (Int32.ofNat cs.length))] below meth c T' L' 1 82 ∧ T'.heap = h' ∧ Fr n0 L' ∧ Keep h0 h' [b] ∧ ArP Z h' b (Int32.ofNat (2 * cs.length)) cs cs.length ∧ ∀ target, Steps p.tables e below (T'.setTop (mkF m 8 #[.val (.ref a), .val (.int (Int32.ofNat cs.length)), .val (.int (Int32.ofNat cs.length)), .val (.ref b), .val (.int (Int32.ofNat cs.length))] [])) target → Steps p.tables e below (T0.setTop (mkF m 8 #[.val (.ref a), .val (.int (Int32.ofNat i)), .val (.int (Int32.ofNat cs.length)), .val (.ref b), .val (.int (Int32.ofNat i))] [])) target := by
  intro r
  induction r with
  | zero =>
    intro i hi T0 locs h0 X e0 N Z0 O0 F1 F2
    obtain rfl : i = cs.length := by omega
    exact ⟨T0, h0, locs, X, e0, N, Keep.refl _ _, F2, fun t k => k⟩
  | succ r ih =>
    intro i hi T0 locs h0 X e0 N Z0 O0 F1 F2
    obtain ⟨T1, h1, L1, X1, e1, N1, K1, Fa, Fb, st⟩ := tb_it hw a b ka cs i X hx hZ hby hml hown e0 N Z0 O0 G0 G1 G2 F1 F2 g_b ne_a_b hl (by omega)
    obtain ⟨T2, h2, L2, X2, e2, N2, K2, Fd, st2⟩ := ih (i + 1) (by omega) T1 L1 h1 X1 e1 N1 (Nat.le_trans Z0 K1.1) (O0.keep K1 (allS g_b all0)) Fa Fb
    refine ⟨T2, h2, L2, X2, e2, N2, K1.trans K2 (fun x hx => Or.inl hx), Fd, fun t k => st t ?_⟩
    have q := st2 t k
    rw [← own_succ] at q
    exact q
theorem d7_0 : decode jdk_52_method_14_code 0 = .ok (.iload_n 2, 1) := by decide +kernel
theorem d7_1 : decode jdk_52_method_14_code 1 = .ok (.invokestatic 107, 3) := by decide +kernel
theorem pd_2 : parseMethodDescriptor "(I)[B" = some ⟨[.int], some (.array .byte)⟩ := by decide +kernel
theorem d7_4 : decode jdk_52_method_14_code 4 = .ok (.astore_n 3, 1) := by decide +kernel
theorem d7_5 : decode jdk_52_method_14_code 5 = .ok (.iconst 0, 1) := by decide +kernel
theorem d7_6 : decode jdk_52_method_14_code 6 = .ok (.istore 4, 2) := by decide +kernel
theorem d7_32 : decode jdk_52_method_14_code 32 = .ok (.aload_n 3, 1) := by decide +kernel
theorem d7_33 : decode jdk_52_method_14_code 33 = .ok (.areturn, 1) := by decide +kernel
theorem ef_7_RII (m : MethodId) (x0 : Addr) (x1 : Int32) (x2 : Int32) : entryFrame m #[(.ref x0), (.int x1), (.int x2)] 5 = mkF m 0 #[.val (.ref x0), .val (.int x1), .val (.int x2), .unset, .unset] [] := by first | (simp [entryFrame, mkF, argsToLocals, Value.category]; done) | rfl
set_option maxRecDepth 65536 in
set_option maxHeartbeats 40000000 in
theorem tBs (l : Launch) (Z : State) (a0 : Array Value) (hw : ∀ d ∈ tables_1, d.before a0 Z = true) (ws : List Jvm.Cond) (a : Addr) (ka : ClassId) (cs : List Int32) (h0 : Heap) (n0 : Nat) (O0 : Old Z n0 h0) (G0 : Sta Z Z.heap "java/lang/StringUTF16" "$assertionsDisabled" "Z" (.int (1 : Int32))) (G1 : Sta Z Z.heap "java/lang/StringUTF16" "HI_BYTE_SHIFT" "I" (.int (0 : Int32))) (G2 : Sta Z Z.heap "java/lang/StringUTF16" "LO_BYTE_SHIFT" "I" (.int (8 : Int32))) (P0 : Arv Z h0 a ka .char (Int32.ofNat cs.length) (cs.map Value.int) (.int (0 : Int32))) (hl : cs.length ≤ 41) :
    MetFree l (⟨"java/lang/StringUTF16", "toBytes", "([CII)[B"⟩ : MethodName) (head1 (Jvm.Cond.code (⟨"java/lang/StringUTF16", "toBytes", "([CII)[B"⟩ : MethodName) jdk_52_method_14_code 5 (some (.array .byte)) :: ws) ({ frames := 2, cells := 1, slots := 82, locals := 24 } : Room)) (fun zA zU => zA = #[(.ref a), (.int (0 : Int32)), (.int (Int32.ofNat cs.length))] ∧ Z.Warmed39 zU.vm ∧ zU.heap = h0) (fun _ _ _ _ _ => True) (fun _ zU zo zU' => ∃ zv zL, zo = .returned zv ∧ Q_tBs Z a ka cs h0 n0 zv zU'.heap zL ∧ FrameEnd zU zo zU' zL ({ frames := 2, cells := 1, slots := 82, locals := 24 } : Room).cells ({ frames := 2, cells := 1, slots := 82, locals := 24 } : Room).slots) := by
  refine MetFree.of_bodySF (plainFor_of_name pn_2) hisR ?_
  intro p e s m args below meth c s₁ Bd hml0 hP hK
  obtain ⟨rfl, hZ, hh⟩ := hP
  have hx := Bd.exec
  have hby := Bd.bytes
  have hml : c.maxLocals = 5 := hml0
  have hown : s.vm.findClass "java/lang/StringUTF16" = some m.cls := findClass_of_methodNamed Bd.named
  have hnm := (name_of_methodNamed Bd.named Bd.method).1
  have X0 : Stand p l e ({ frames := 2, cells := 1, slots := 82, locals := 24 } : Room) s m #[(.ref a), (.int (0 : Int32)), (.int (Int32.ofNat cs.length))] below meth c s₁ [] 0 0 := Stand.of_body Bd
  have e0 : s₁.heap = h0 := by rw [← hh, Bd.state]; rfl
  have N0 := Fr.nil n0
  have Z0 : n0 ≤ h0.size := O0.1 ▸ O0.2.1
  have pre0 : ∀ zt, Steps p.tables e below (s₁.setTop (mkF m 0 #[.val (.ref a), .val (.int (0 : Int32)), .val (.int (Int32.ofNat cs.length)), .unset, .unset] [])) zt → Steps p.tables e below (s₁.setTop (entryFrame m #[(.ref a), (.int (0 : Int32)), (.int (Int32.ofNat cs.length))] 5)) zt := fun zt zk => castTop (ef_7_RII m a (0 : Int32) (Int32.ofNat cs.length)) zk
  obtain ⟨_, _, ⟨T1, L1, k1, n1⟩, -, X1, ⟨Lc1, hQ1, l1, y1, z1⟩, st1⟩ := Jvm.LawKit.callS X0 hx (y := (⟨"java/lang/StringUTF16", "newBytesFor", "(I)[B"⟩ : MethodName)) hown (mvT hZ (hw _ (List.mem_of_getElem? (i := 59) rfl))) (mvT hZ (hw _ (List.mem_of_getElem? (i := 60) rfl))) (mvT hZ (hw _ (List.mem_of_getElem? (i := 23) rfl))) (mvT hZ (hw _ (List.mem_of_getElem? (i := 61) rfl))) (by decide) (backOf (W := 0) (nBF l Z a0 hw [] cs h0 n0 (Nat.le_trans Z0 (Keep.refl h0 []).1) hl) hZ (hw _ (List.mem_of_getElem? (i := 61) rfl)) (hw _ (List.mem_of_getElem? (i := 23) rfl)) (by decide) (by decide)) (g := (mkF m 1 #[.val (.ref a), .val (.int (0 : Int32)), .val (.int (Int32.ofNat cs.length)), .unset, .unset] [(.int (Int32.ofNat cs.length))])) rfl (by rw [hml]; rfl) (argsL := [(.int (Int32.ofNat cs.length))]) (rest := []) (lenOf pd_2 rfl) rfl (by show 2 * 0 + _ ≤ _; exact Nat.le_of_eq rfl) (hb hby d7_1) (fun _ _ => ⟨rfl, e0, (by decide : 0 + 1 ≤ _), (by decide : 0 + 82 ≤ _)⟩)
  dsimp only [Pt.U, Pt.locs, Pt.cells, Pt.slots] at X1 l1 y1 z1 st1 hQ1
  subst l1 y1 z1
  obtain ⟨r_1, rfl, Nq1, kh1, fz_r_1, Po1_0⟩ := hQ1
  have N1 := Fr.app N0 Nq1
  have sz_r_1 : h0.size ≤ r_1 := Nat.le_trans (Keep.refl h0 []).1 fz_r_1
  have g_r_1 : n0 ≤ r_1 := Nat.le_trans Z0 sz_r_1
  have O1 := O0.keep kh1 all0
  have K1 : Keep h0 T1.heap [] := (Keep.refl h0 []).trans kh1 all0
  obtain ⟨T2, h2, L2, X2, e2, N2, kh2, Fb2, st2⟩ := tb_loop hw a r_1 ka cs hx hZ hby hml hown g_r_1 (Nat.ne_of_lt (Nat.lt_of_lt_of_le (P0).lt fz_r_1)) hl G0 G1 G2 cs.length 0 (by omega) _ _ _ X1 rfl N1 (Nat.le_trans Z0 K1.1) O1 (P0.keep kh1 nin0) Po1_0
  have O2 := O1.keep kh2 (allS g_r_1 all0)
  have K2 : Keep h0 h2 [] := K1.trans kh2 (allS (Or.inr sz_r_1) all0)
  obtain ⟨fs, hr, hrun, hended, hW, hsame⟩ := X2.leave (v := some (.ref r_1)) (fun h => by rw [Bd.returns] at h; cases h)
  refine ⟨_, _, pre0 _ ?_, hrun, hended, _, _, rfl, ?_, ⟨_, rfl⟩, hW, hsame.mono (by decide) (by decide)⟩
  · show Steps p.tables e below (s₁.setTop (mkF m 0 #[.val (.ref a), .val (.int (0 : Int32)), .val (.int (Int32.ofNat cs.length)), .unset, .unset] [])) _
    refine XS.iloadN X0.here hx rfl (hb hby d7_0) rfl ?_
    show Steps p.tables e below (s₁.setTop (mkF m 1 #[.val (.ref a), .val (.int (0 : Int32)), .val (.int (Int32.ofNat cs.length)), .unset, .unset] [(.int (Int32.ofNat cs.length))])) _
    refine st1 _ ?_
    show Steps p.tables e below (T1.setTop (mkF m 4 #[.val (.ref a), .val (.int (0 : Int32)), .val (.int (Int32.ofNat cs.length)), .unset, .unset] [(.ref r_1)])) _
    refine XS.astoreN X1.here hx rfl (hb hby d7_4) rfl rfl (l' := #[.val (.ref a), .val (.int (0 : Int32)), .val (.int (Int32.ofNat cs.length)), .val (.ref r_1), .unset]) rfl ?_
    show Steps p.tables e below (T1.setTop (mkF m 5 #[.val (.ref a), .val (.int (0 : Int32)), .val (.int (Int32.ofNat cs.length)), .val (.ref r_1), .unset] [])) _
    refine XS.iconst X1.here hx rfl (hb hby d7_5) ?_
    show Steps p.tables e below (T1.setTop (mkF m 6 #[.val (.ref a), .val (.int (0 : Int32)), .val (.int (Int32.ofNat cs.length)), .val (.ref r_1), .unset] [(.int (0 : Int32))])) _
    refine XS.istore X1.here hx rfl (hb hby d7_6) rfl (l' := #[.val (.ref a), .val (.int (0 : Int32)), .val (.int (Int32.ofNat cs.length)), .val (.ref r_1), .val (.int (0 : Int32))]) rfl ?_
    show Steps p.tables e below (T1.setTop (mkF m 8 #[.val (.ref a), .val (.int (0 : Int32)), .val (.int (Int32.ofNat cs.length)), .val (.ref r_1), .val (.int (0 : Int32))] [])) _
    refine st2 _ ?_
    show Steps p.tables e below (T2.setTop (mkF m 8 #[.val (.ref a), .val (.int (Int32.ofNat cs.length)), .val (.int (Int32.ofNat cs.length)), .val (.ref r_1), .val (.int (Int32.ofNat cs.length))] [])) _
    refine XS.iload X2.here hx rfl (hb hby d7_8) rfl ?_
    show Steps p.tables e below (T2.setTop (mkF m 10 #[.val (.ref a), .val (.int (Int32.ofNat cs.length)), .val (.int (Int32.ofNat cs.length)), .val (.ref r_1), .val (.int (Int32.ofNat cs.length))] [(.int (Int32.ofNat cs.length))])) _
    refine XS.iloadN X2.here hx rfl (hb hby d7_10) rfl ?_
    show Steps p.tables e below (T2.setTop (mkF m 11 #[.val (.ref a), .val (.int (Int32.ofNat cs.length)), .val (.int (Int32.ofNat cs.length)), .val (.ref r_1), .val (.int (Int32.ofNat cs.length))] [(.int (Int32.ofNat cs.length)), (.int (Int32.ofNat cs.length))])) _
    refine XS.icmpYes X2.here hx rfl (pc0 := 11) (pc' := 32) rfl (hb hby d7_11) rfl (flt (own_self : ¬ ((Int32.ofNat cs.length) < (Int32.ofNat cs.length)))).2.1 (by decide) (by decide) ?_
    show Steps p.tables e below (T2.setTop (mkF m 32 #[.val (.ref a), .val (.int (Int32.ofNat cs.length)), .val (.int (Int32.ofNat cs.length)), .val (.ref r_1), .val (.int (Int32.ofNat cs.length))] [])) _
    refine XS.aloadN X2.here hx rfl (hb hby d7_32) rfl rfl ?_
    show Steps p.tables e below (T2.setTop (mkF m 33 #[.val (.ref a), .val (.int (Int32.ofNat cs.length)), .val (.int (Int32.ofNat cs.length)), .val (.ref r_1), .val (.int (Int32.ofNat cs.length))] [(.ref r_1)])) _
    jvm_step X2.here [X2.here.top, hx, (hb hby d7_33), X2.method', Bd.returns, Value.isRef, FieldType.isReference]
    first | (intro acts; rw [hr _ acts rfl rfl rfl]) | rw [hr _ _ rfl rfl rfl]
    exact Steps.refl _
  · show Q_tBs Z a ka cs h0 n0 _ T2.heap _
    rw [e2]
    exact ⟨r_1, rfl, N2, K2, sz_r_1, Fb2⟩
def Q_cpU (Z : State) (a : Addr) (ka : ClassId) (cs : List Int32) (j0 : Nat) (h0 : Heap) (n0 : Nat) (v : Option Value) (h : Heap) (L : List Loc) : Prop := ∃ r : Addr, v = some (.ref r) ∧ Fr n0 L ∧ Keep h0 h [] ∧ h0.size ≤ r ∧ ArZ Z h r .byte (Int32.ofNat (2 * cs.length))
theorem d8_0 : decode jdk_52_method_16_code 0 = .ok (.iload_n 2, 1) := by decide +kernel
theorem d8_1 : decode jdk_52_method_16_code 1 = .ok (.newarray .byte, 2) := by decide +kernel
theorem d8_3 : decode jdk_52_method_16_code 3 = .ok (.astore_n 3, 1) := by decide +kernel
theorem d8_4 : decode jdk_52_method_16_code 4 = .ok (.aload_n 0, 1) := by decide +kernel
theorem d8_5 : decode jdk_52_method_16_code 5 = .ok (.iload_n 1, 1) := by decide +kernel
theorem d8_6 : decode jdk_52_method_16_code 6 = .ok (.aload_n 3, 1) := by decide +kernel
theorem d8_7 : decode jdk_52_method_16_code 7 = .ok (.iconst 0, 1) := by decide +kernel
theorem d8_8 : decode jdk_52_method_16_code 8 = .ok (.iload_n 2, 1) := by decide +kernel
theorem d8_9 : decode jdk_52_method_16_code 9 = .ok (.invokestatic 115, 3) := by decide +kernel
theorem pd_3 : parseMethodDescriptor "([CI[BII)I" = some ⟨[(.array .char), .int, (.array .byte), .int, .int], some .int⟩ := by decide +kernel
theorem d8_12 : decode jdk_52_method_16_code 12 = .ok (.istore 4, 2) := by decide +kernel
theorem d8_14 : decode jdk_52_method_16_code 14 = .ok (.iload 4, 2) := by decide +kernel
theorem d8_16 : decode jdk_52_method_16_code 16 = .ok (.iload_n 2, 1) := by decide +kernel
theorem d8_17 : decode jdk_52_method_16_code 17 = .ok (.if_icmp .eq 40, 3) := by decide +kernel
theorem d8_20 : decode jdk_52_method_16_code 20 = .ok (.aload_n 0, 1) := by decide +kernel
theorem d8_21 : decode jdk_52_method_16_code 21 = .ok (.iload_n 1, 1) := by decide +kernel
theorem d8_22 : decode jdk_52_method_16_code 22 = .ok (.iload_n 2, 1) := by decide +kernel
theorem d8_23 : decode jdk_52_method_16_code 23 = .ok (.invokestatic 119, 3) := by decide +kernel
theorem pd_4 : parseMethodDescriptor "([CII)[B" = some ⟨[(.array .char), .int, .int], some (.array .byte)⟩ := by decide +kernel
theorem d8_26 : decode jdk_52_method_16_code 26 = .ok (.astore 5, 2) := by decide +kernel
theorem d8_28 : decode jdk_52_method_16_code 28 = .ok (.aload 5, 2) := by decide +kernel
theorem d8_30 : decode jdk_52_method_16_code 30 = .ok (.iload 4, 2) := by decide +kernel
theorem d8_32 : decode jdk_52_method_16_code 32 = .ok (.invokestatic 71, 3) := by decide +kernel
theorem pd_5 : parseMethodDescriptor "([BI)C" = some ⟨[(.array .byte), .int], some .char⟩ := by decide +kernel
theorem d8_35 : decode jdk_52_method_16_code 35 = .ok (.sipush 255, 3) := by decide +kernel
theorem d8_38 : decode jdk_52_method_16_code 38 = .ok (.if_icmp .gt 16, 3) := by decide +kernel
theorem d8_54 : decode jdk_52_method_16_code 54 = .ok (.aload 5, 2) := by decide +kernel
theorem d8_56 : decode jdk_52_method_16_code 56 = .ok (.areturn, 1) := by decide +kernel
theorem ef_8_RII (m : MethodId) (x0 : Addr) (x1 : Int32) (x2 : Int32) : entryFrame m #[(.ref x0), (.int x1), (.int x2)] 6 = mkF m 0 #[.val (.ref x0), .val (.int x1), .val (.int x2), .unset, .unset, .unset] [] := by first | (simp [entryFrame, mkF, argsToLocals, Value.category]; done) | rfl
set_option maxRecDepth 65536 in
set_option maxHeartbeats 40000000 in
theorem cpU (l : Launch) (Z : State) (a0 : Array Value) (hw : ∀ d ∈ tables_1, d.before a0 Z = true) (ws : List Jvm.Cond) (a : Addr) (ka : ClassId) (cs : List Int32) (j0 : Nat) (h0 : Heap) (n0 : Nat) (O0 : Old Z n0 h0) (G0 : Sta Z Z.heap "java/lang/StringUTF16" "$assertionsDisabled" "Z" (.int (1 : Int32))) (G1 : Sta Z Z.heap "java/lang/StringUTF16" "HI_BYTE_SHIFT" "I" (.int (0 : Int32))) (G2 : Sta Z Z.heap "java/lang/StringUTF16" "LO_BYTE_SHIFT" "I" (.int (8 : Int32))) (P0 : Arv Z h0 a ka .char (Int32.ofNat cs.length) (cs.map Value.int) (.int (0 : Int32))) (hl : cs.length ≤ 41) (hj : j0 < cs.length) (hlo : ∀ i, i < j0 → ¬ ((255 : Int32) < cs.getD i 0)) (hhi : (255 : Int32) < cs.getD j0 0) (hch : ∀ c ∈ cs, ¬ c < 0 ∧ ¬ (65535 : Int32) < c) :
    MetFree l (⟨"java/lang/StringUTF16", "compress", "([CII)[B"⟩ : MethodName) (head1 (Jvm.Cond.code (⟨"java/lang/StringUTF16", "compress", "([CII)[B"⟩ : MethodName) jdk_52_method_16_code 6 (some (.array .byte)) :: ws) ({ frames := 3, cells := 2, slots := 123, locals := 40 } : Room)) (fun zA zU => zA = #[(.ref a), (.int (0 : Int32)), (.int (Int32.ofNat cs.length))] ∧ Z.Warmed39 zU.vm ∧ zU.heap = h0) (fun _ _ _ _ _ => True) (fun _ zU zo zU' => ∃ zv zL, zo = .returned zv ∧ Q_cpU Z a ka cs j0 h0 n0 zv zU'.heap zL ∧ FrameEnd zU zo zU' zL ({ frames := 3, cells := 2, slots := 123, locals := 40 } : Room).cells ({ frames := 3, cells := 2, slots := 123, locals := 40 } : Room).slots) := by
  refine MetFree.of_bodySF (plainFor_of_name pn_2) hisR ?_
  intro p e s m args below meth c s₁ Bd hml0 hP hK
  obtain ⟨rfl, hZ, hh⟩ := hP
  have hx := Bd.exec
  have hby := Bd.bytes
  have hml : c.maxLocals = 6 := hml0
  have hown : s.vm.findClass "java/lang/StringUTF16" = some m.cls := findClass_of_methodNamed Bd.named
  have hnm := (name_of_methodNamed Bd.named Bd.method).1
  have X0 : Stand p l e ({ frames := 3, cells := 2, slots := 123, locals := 40 } : Room) s m #[(.ref a), (.int (0 : Int32)), (.int (Int32.ofNat cs.length))] below meth c s₁ [] 0 0 := Stand.of_body Bd
  have e0 : s₁.heap = h0 := by rw [← hh, Bd.state]; rfl
  have N0 := Fr.nil n0
  have Z0 : n0 ≤ h0.size := O0.1 ▸ O0.2.1
  have pre0 : ∀ zt, Steps p.tables e below (s₁.setTop (mkF m 0 #[.val (.ref a), .val (.int (0 : Int32)), .val (.int (Int32.ofNat cs.length)), .unset, .unset, .unset] [])) zt → Steps p.tables e below (s₁.setTop (entryFrame m #[(.ref a), (.int (0 : Int32)), (.int (Int32.ofNat cs.length))] 6)) zt := fun zt zk => castTop (ef_8_RII m a (0 : Int32) (Int32.ofNat cs.length)) zk
  obtain ⟨T1, h1, k1, X1, e1, E1, A1, st1⟩ := newP X0 hx hZ (hw _ (List.mem_of_getElem? (i := 25) rfl)) e0 (g := (mkF m 1 #[.val (.ref a), .val (.int (0 : Int32)), .val (.int (Int32.ofNat cs.length)), .unset, .unset, .unset] [(.int (Int32.ofNat cs.length))])) rfl (hb hby d8_1) rfl (own_nn (by omega)) (cap := 41) (own_cap hl (by decide)) (by decide) (by decide) (by decide)
  obtain ⟨b1, gz1⟩ : ∃ z, z = h0.size := ⟨_, rfl⟩
  rw [← gz1] at A1 st1
  have sz_b1 : h0.size ≤ b1 := Nat.le_trans (Keep.refl h0 []).1 (Nat.le_of_eq gz1.symm)
  have g_b1 : n0 ≤ b1 := Nat.le_trans Z0 sz_b1
  have O1 := O0.ext E1
  have K1 : Keep h0 h1 [] := (Keep.refl h0 []).ext E1
  have V1 : ArZ Z h1 b1 .byte (Int32.ofNat cs.length) := ArZ.of (Arv.new A1 (own_nn (by omega)))
  obtain ⟨_, _, ⟨T2, L2, k2, n2⟩, -, X2, ⟨Lc2, hQ2, l2, y2, z2⟩, st2⟩ := Jvm.LawKit.callS X1 hx (y := (⟨"java/lang/StringUTF16", "compress", "([CI[BII)I"⟩ : MethodName)) hown (mvT hZ (hw _ (List.mem_of_getElem? (i := 26) rfl))) (mvT hZ (hw _ (List.mem_of_getElem? (i := 27) rfl))) (mvT hZ (hw _ (List.mem_of_getElem? (i := 23) rfl))) (mvT hZ (hw _ (List.mem_of_getElem? (i := 28) rfl))) (by decide) (backOf (W := 0) (cpP l Z a0 hw [] a b1 ka cs j0 h1 n0 (Nat.le_trans Z0 K1.1) (P0.ext E1) V1 g_b1 (Nat.ne_of_lt (Nat.lt_of_lt_of_le (P0).lt (Nat.le_of_eq gz1.symm))) hl hj hlo hhi) hZ (hw _ (List.mem_of_getElem? (i := 28) rfl)) (hw _ (List.mem_of_getElem? (i := 23) rfl)) (by decide) (by decide)) (g := (mkF m 9 #[.val (.ref a), .val (.int (0 : Int32)), .val (.int (Int32.ofNat cs.length)), .val (.ref b1), .unset, .unset] [(.int (Int32.ofNat cs.length)), (.int (0 : Int32)), (.ref b1), (.int (0 : Int32)), (.ref a)])) rfl (by rw [hml]; rfl) (argsL := [(.ref a), (.int (0 : Int32)), (.ref b1), (.int (0 : Int32)), (.int (Int32.ofNat cs.length))]) (rest := []) (lenOf pd_3 rfl) rfl (by show 2 * 0 + _ ≤ _; exact Nat.le_of_eq rfl) (hb hby d8_9) (fun _ _ => ⟨rfl, e1, (by decide : 1 + 0 ≤ _), (by decide : 41 + 0 ≤ _)⟩)
  dsimp only [Pt.U, Pt.locs, Pt.cells, Pt.slots] at X2 l2 y2 z2 st2 hQ2
  subst l2 y2 z2
  obtain ⟨rfl, Nq2, kh2⟩ := hQ2
  have N2 := Fr.app N0 Nq2
  have O2 := O1.keep kh2 (allS g_b1 all0)
  have K2 : Keep h0 T2.heap [] := K1.trans kh2 (allS (Or.inr sz_b1) all0)
  have c3 : Arv Z T2.heap a ka .char (Int32.ofNat cs.length) (cs.map Value.int) (.int (0 : Int32)) := ((P0.ext E1).keep kh2 (ninS (Nat.ne_of_lt (Nat.lt_of_lt_of_le (P0).lt (Nat.le_of_eq gz1.symm))) nin0))
  obtain ⟨_, _, ⟨T4, L4, k4, n4⟩, -, X4, ⟨Lc4, hQ4, l4, y4, z4⟩, st4⟩ := Jvm.LawKit.callS X2 hx (y := (⟨"java/lang/StringUTF16", "toBytes", "([CII)[B"⟩ : MethodName)) hown (mvT hZ (hw _ (List.mem_of_getElem? (i := 56) rfl))) (mvT hZ (hw _ (List.mem_of_getElem? (i := 57) rfl))) (mvT hZ (hw _ (List.mem_of_getElem? (i := 23) rfl))) (mvT hZ (hw _ (List.mem_of_getElem? (i := 58) rfl))) (by decide) (backOf (W := 0) (tBs l Z a0 hw [] a ka cs T2.heap n0 O2 G0 G1 G2 c3 hl) hZ (hw _ (List.mem_of_getElem? (i := 58) rfl)) (hw _ (List.mem_of_getElem? (i := 23) rfl)) (by decide) (by decide)) (g := (mkF m 23 #[.val (.ref a), .val (.int (0 : Int32)), .val (.int (Int32.ofNat cs.length)), .val (.ref b1), .val (.int (Int32.ofNat j0)), .unset] [(.int (Int32.ofNat cs.length)), (.int (0 : Int32)), (.ref a)])) rfl (by rw [hml]; rfl) (argsL := [(.ref a), (.int (0 : Int32)), (.int (Int32.ofNat cs.length))]) (rest := []) (lenOf pd_4 rfl) rfl (by show 2 * 0 + _ ≤ _; exact Nat.le_of_eq rfl) (hb hby d8_23) (fun _ _ => ⟨rfl, rfl, (by decide : 1 + 1 ≤ _), (by decide : 41 + 82 ≤ _)⟩)
  dsimp only [Pt.U, Pt.locs, Pt.cells, Pt.slots] at X4 l4 y4 z4 st4 hQ4
  subst l4 y4 z4
  obtain ⟨r_4, rfl, Nq4, kh4, fz_r_4, Po4_0⟩ := hQ4
  have N4 := Fr.app N2 Nq4
  have sz_r_4 : h0.size ≤ r_4 := Nat.le_trans K2.1 fz_r_4
  have g_r_4 : n0 ≤ r_4 := Nat.le_trans Z0 sz_r_4
  have O4 := O2.keep kh4 all0
  have K4 : Keep h0 T4.heap [] := K2.trans kh4 all0
  obtain ⟨_, _, ⟨T5, L5, k5, n5⟩, -, X5, ⟨Lc5, hQ5, l5, y5, z5⟩, st5⟩ := Jvm.LawKit.callS X4 hx (y := (⟨"java/lang/StringUTF16", "getChar", "([BI)C"⟩ : MethodName)) hown (mvT hZ (hw _ (List.mem_of_getElem? (i := 72) rfl))) (mvT hZ (hw _ (List.mem_of_getElem? (i := 73) rfl))) (mvT hZ (hw _ (List.mem_of_getElem? (i := 23) rfl))) (mvT hZ (hw _ (List.mem_of_getElem? (i := 74) rfl))) (by decide) (backOf (W := 0) (gch l Z a0 hw [] r_4 cs j0 T4.heap n0 O4 G0 G1 G2 Po4_0 hl hj hch) hZ (hw _ (List.mem_of_getElem? (i := 74) rfl)) (hw _ (List.mem_of_getElem? (i := 23) rfl)) (by decide) (by decide)) (g := (mkF m 32 #[.val (.ref a), .val (.int (0 : Int32)), .val (.int (Int32.ofNat cs.length)), .val (.ref b1), .val (.int (Int32.ofNat j0)), .val (.ref r_4)] [(.int (Int32.ofNat j0)), (.ref r_4)])) rfl (by rw [hml]; rfl) (argsL := [(.ref r_4), (.int (Int32.ofNat j0))]) (rest := []) (lenOf pd_5 rfl) rfl (by show 2 * 0 + _ ≤ _; exact Nat.le_of_eq rfl) (hb hby d8_32) (fun _ _ => ⟨rfl, rfl, (by decide : 2 + 0 ≤ _), (by decide : 123 + 0 ≤ _)⟩)
  dsimp only [Pt.U, Pt.locs, Pt.cells, Pt.slots] at X5 l5 y5 z5 st5 hQ5
  subst l5 y5 z5
  obtain ⟨rfl, Nq5, kh5⟩ := hQ5
  have N5 := Fr.app N4 Nq5
  have RZ := (Po4_0).z
  obtain ⟨fs, hr, hrun, hended, hW, hsame⟩ := X5.leave (v := some (.ref r_4)) (fun h => by rw [Bd.returns] at h; cases h)
  refine ⟨_, _, pre0 _ ?_, hrun, hended, _, _, rfl, ?_, ⟨_, rfl⟩, hW, hsame.mono (by decide) (by decide)⟩
  · show Steps p.tables e below (s₁.setTop (mkF m 0 #[.val (.ref a), .val (.int (0 : Int32)), .val (.int (Int32.ofNat cs.length)), .unset, .unset, .unset] [])) _
    refine XS.iloadN X0.here hx rfl (hb hby d8_0) rfl ?_
    show Steps p.tables e below (s₁.setTop (mkF m 1 #[.val (.ref a), .val (.int (0 : Int32)), .val (.int (Int32.ofNat cs.length)), .unset, .unset, .unset] [(.int (Int32.ofNat cs.length))])) _
    refine st1 _ ?_
    show Steps p.tables e below (T1.setTop (mkF m 3 #[.val (.ref a), .val (.int (0 : Int32)), .val (.int (Int32.ofNat cs.length)), .unset, .unset, .unset] [(.ref b1)])) _
    refine XS.astoreN X1.here hx rfl (hb hby d8_3) rfl rfl (l' := #[.val (.ref a), .val (.int (0 : Int32)), .val (.int (Int32.ofNat cs.length)), .val (.ref b1), .unset, .unset]) rfl ?_
    show Steps p.tables e below (T1.setTop (mkF m 4 #[.val (.ref a), .val (.int (0 : Int32)), .val (.int (Int32.ofNat cs.length)), .val (.ref b1), .unset, .unset] [])) _
    refine XS.aloadN X1.here hx rfl (hb hby d8_4) rfl rfl ?_
    show Steps p.tables e below (T1.setTop (mkF m 5 #[.val (.ref a), .val (.int (0 : Int32)), .val (.int (Int32.ofNat cs.length)), .val (.ref b1), .unset, .unset] [(.ref a)])) _
    refine XS.iloadN X1.here hx rfl (hb hby d8_5) rfl ?_
    show Steps p.tables e below (T1.setTop (mkF m 6 #[.val (.ref a), .val (.int (0 : Int32)), .val (.int (Int32.ofNat cs.length)), .val (.ref b1), .unset, .unset] [(.int (0 : Int32)), (.ref a)])) _
    refine XS.aloadN X1.here hx rfl (hb hby d8_6) rfl rfl ?_
    show Steps p.tables e below (T1.setTop (mkF m 7 #[.val (.ref a), .val (.int (0 : Int32)), .val (.int (Int32.ofNat cs.length)), .val (.ref b1), .unset, .unset] [(.ref b1), (.int (0 : Int32)), (.ref a)])) _
    refine XS.iconst X1.here hx rfl (hb hby d8_7) ?_
    show Steps p.tables e below (T1.setTop (mkF m 8 #[.val (.ref a), .val (.int (0 : Int32)), .val (.int (Int32.ofNat cs.length)), .val (.ref b1), .unset, .unset] [(.int (0 : Int32)), (.ref b1), (.int (0 : Int32)), (.ref a)])) _
    refine XS.iloadN X1.here hx rfl (hb hby d8_8) rfl ?_
    show Steps p.tables e below (T1.setTop (mkF m 9 #[.val (.ref a), .val (.int (0 : Int32)), .val (.int (Int32.ofNat cs.length)), .val (.ref b1), .unset, .unset] [(.int (Int32.ofNat cs.length)), (.int (0 : Int32)), (.ref b1), (.int (0 : Int32)), (.ref a)])) _
    refine st2 _ ?_
    show Steps p.tables e below (T2.setTop (mkF m 12 #[.val (.ref a), .val (.int (0 : Int32)), .val (.int (Int32.ofNat cs.length)), .val (.ref b1), .unset, .unset] [(.int (Int32.ofNat j0))])) _
    refine XS.istore X2.here hx rfl (hb hby d8_12) rfl (l' := #[.val (.ref a), .val (.int (0 : Int32)), .val (.int (Int32.ofNat cs.length)), .val (.ref b1), .val (.int (Int32.ofNat j0)), .unset]) rfl ?_
    show Steps p.tables e below (T2.setTop (mkF m 14 #[.val (.ref a), .val (.int (0 : Int32)), .val (.int (Int32.ofNat cs.length)), .val (.ref b1), .val (.int (Int32.ofNat j0)), .unset] [])) _
    refine XS.iload X2.here hx rfl (hb hby d8_14) rfl ?_
    show Steps p.tables e below (T2.setTop (mkF m 16 #[.val (.ref a), .val (.int (0 : Int32)), .val (.int (Int32.ofNat cs.length)), .val (.ref b1), .val (.int (Int32.ofNat j0)), .unset] [(.int (Int32.ofNat j0))])) _
    refine XS.iloadN X2.here hx rfl (hb hby d8_16) rfl ?_
    show Steps p.tables e below (T2.setTop (mkF m 17 #[.val (.ref a), .val (.int (0 : Int32)), .val (.int (Int32.ofNat cs.length)), .val (.ref b1), .val (.int (Int32.ofNat j0)), .unset] [(.int (Int32.ofNat cs.length)), (.int (Int32.ofNat j0))])) _
    refine XS.icmpNo X2.here hx rfl (hb hby d8_17) rfl (feq (own_nec hj hl : ¬ ((Int32.ofNat j0) = (Int32.ofNat cs.length)))).1 ?_
    show Steps p.tables e below (T2.setTop (mkF m 20 #[.val (.ref a), .val (.int (0 : Int32)), .val (.int (Int32.ofNat cs.length)), .val (.ref b1), .val (.int (Int32.ofNat j0)), .unset] [])) _
    refine XS.aloadN X2.here hx rfl (hb hby d8_20) rfl rfl ?_
    show Steps p.tables e below (T2.setTop (mkF m 21 #[.val (.ref a), .val (.int (0 : Int32)), .val (.int (Int32.ofNat cs.length)), .val (.ref b1), .val (.int (Int32.ofNat j0)), .unset] [(.ref a)])) _
    refine XS.iloadN X2.here hx rfl (hb hby d8_21) rfl ?_
    show Steps p.tables e below (T2.setTop (mkF m 22 #[.val (.ref a), .val (.int (0 : Int32)), .val (.int (Int32.ofNat cs.length)), .val (.ref b1), .val (.int (Int32.ofNat j0)), .unset] [(.int (0 : Int32)), (.ref a)])) _
    refine XS.iloadN X2.here hx rfl (hb hby d8_22) rfl ?_
    show Steps p.tables e below (T2.setTop (mkF m 23 #[.val (.ref a), .val (.int (0 : Int32)), .val (.int (Int32.ofNat cs.length)), .val (.ref b1), .val (.int (Int32.ofNat j0)), .unset] [(.int (Int32.ofNat cs.length)), (.int (0 : Int32)), (.ref a)])) _
    refine st4 _ ?_
    show Steps p.tables e below (T4.setTop (mkF m 26 #[.val (.ref a), .val (.int (0 : Int32)), .val (.int (Int32.ofNat cs.length)), .val (.ref b1), .val (.int (Int32.ofNat j0)), .unset] [(.ref r_4)])) _
    refine XS.astore X4.here hx rfl (hb hby d8_26) rfl rfl (l' := #[.val (.ref a), .val (.int (0 : Int32)), .val (.int (Int32.ofNat cs.length)), .val (.ref b1), .val (.int (Int32.ofNat j0)), .val (.ref r_4)]) rfl ?_
    show Steps p.tables e below (T4.setTop (mkF m 28 #[.val (.ref a), .val (.int (0 : Int32)), .val (.int (Int32.ofNat cs.length)), .val (.ref b1), .val (.int (Int32.ofNat j0)), .val (.ref r_4)] [])) _
    refine XS.aload X4.here hx rfl (hb hby d8_28) rfl rfl ?_
    show Steps p.tables e below (T4.setTop (mkF m 30 #[.val (.ref a), .val (.int (0 : Int32)), .val (.int (Int32.ofNat cs.length)), .val (.ref b1), .val (.int (Int32.ofNat j0)), .val (.ref r_4)] [(.ref r_4)])) _
    refine XS.iload X4.here hx rfl (hb hby d8_30) rfl ?_
    show Steps p.tables e below (T4.setTop (mkF m 32 #[.val (.ref a), .val (.int (0 : Int32)), .val (.int (Int32.ofNat cs.length)), .val (.ref b1), .val (.int (Int32.ofNat j0)), .val (.ref r_4)] [(.int (Int32.ofNat j0)), (.ref r_4)])) _
    refine st5 _ ?_
    show Steps p.tables e below (T5.setTop (mkF m 35 #[.val (.ref a), .val (.int (0 : Int32)), .val (.int (Int32.ofNat cs.length)), .val (.ref b1), .val (.int (Int32.ofNat j0)), .val (.ref r_4)] [(.int (nar .char (cs.getD j0 0)))])) _
    refine castTop (congrArg (fun z_ => (mkF m 35 #[.val (.ref a), .val (.int (0 : Int32)), .val (.int (Int32.ofNat cs.length)), .val (.ref b1), .val (.int (Int32.ofNat j0)), .val (.ref r_4)] [(.int z_)])) (own_narc (hch _ (own_getD_mem hj)).1 (hch _ (own_getD_mem hj)).2 : (nar .char (cs.getD j0 0)) = (cs.getD j0 0))) ?_
    show Steps p.tables e below (T5.setTop (mkF m 35 #[.val (.ref a), .val (.int (0 : Int32)), .val (.int (Int32.ofNat cs.length)), .val (.ref b1), .val (.int (Int32.ofNat j0)), .val (.ref r_4)] [(.int (cs.getD j0 0))])) _
    refine XS.sipush X5.here hx rfl (hb hby d8_35) ?_
    show Steps p.tables e below (T5.setTop (mkF m 38 #[.val (.ref a), .val (.int (0 : Int32)), .val (.int (Int32.ofNat cs.length)), .val (.ref b1), .val (.int (Int32.ofNat j0)), .val (.ref r_4)] [(.int (255 : Int32)), (.int (cs.getD j0 0))])) _
    refine XS.icmpYes X5.here hx rfl (pc0 := 38) (pc' := 54) rfl (hb hby d8_38) rfl (tlt (hhi : (255 : Int32) < (cs.getD j0 0))).2.2.1 (by decide) (by decide) ?_
    show Steps p.tables e below (T5.setTop (mkF m 54 #[.val (.ref a), .val (.int (0 : Int32)), .val (.int (Int32.ofNat cs.length)), .val (.ref b1), .val (.int (Int32.ofNat j0)), .val (.ref r_4)] [])) _
    refine XS.aload X5.here hx rfl (hb hby d8_54) rfl rfl ?_
    show Steps p.tables e below (T5.setTop (mkF m 56 #[.val (.ref a), .val (.int (0 : Int32)), .val (.int (Int32.ofNat cs.length)), .val (.ref b1), .val (.int (Int32.ofNat j0)), .val (.ref r_4)] [(.ref r_4)])) _
    jvm_step X5.here [X5.here.top, hx, (hb hby d8_56), X5.method', Bd.returns, Value.isRef, FieldType.isReference]
    first | (intro acts; rw [hr _ acts rfl rfl rfl]) | rw [hr _ _ rfl rfl rfl]
    exact Steps.refl _
  · show Q_cpU Z a ka cs j0 h0 n0 _ T5.heap _
    rw [kh5]
    exact ⟨r_4, rfl, N5, K4, sz_r_4, RZ⟩
def Q_cfU (Z : State) (b : Addr) (cs : List Int32) (h0 : Heap) (n0 : Nat) (v : Option Value) (h : Heap) (L : List Loc) : Prop := v = some (.int (1 : Int32)) ∧ Fr n0 L ∧ h = h0
theorem d9_0 : decode jdk_52_method_15_code 0 = .ok (.iload_n 1, 1) := by decide +kernel
theorem d9_1 : decode jdk_52_method_15_code 1 = .ok (.aload_n 0, 1) := by decide +kernel
theorem d9_2 : decode jdk_52_method_15_code 2 = .ok (.arraylength, 1) := by decide +kernel
theorem d9_3 : decode jdk_52_method_15_code 3 = .ok (.isub, 1) := by decide +kernel
theorem d9_4 : decode jdk_52_method_15_code 4 = .ok (.bipush 31, 2) := by decide +kernel
theorem d9_6 : decode jdk_52_method_15_code 6 = .ok (.iushr, 1) := by decide +kernel
theorem d9_7 : decode jdk_52_method_15_code 7 = .ok (.i2b, 1) := by decide +kernel
theorem d9_8 : decode jdk_52_method_15_code 8 = .ok (.ireturn, 1) := by decide +kernel
theorem ef_9_RI (m : MethodId) (x0 : Addr) (x1 : Int32) : entryFrame m #[(.ref x0), (.int x1)] 2 = mkF m 0 #[.val (.ref x0), .val (.int x1)] [] := by first | (simp [entryFrame, mkF, argsToLocals, Value.category]; done) | rfl
set_option maxRecDepth 65536 in
set_option maxHeartbeats 40000000 in
theorem cfU (l : Launch) (Z : State) (a0 : Array Value) (hw : ∀ d ∈ tables_1, d.before a0 Z = true) (ws : List Jvm.Cond) (b : Addr) (cs : List Int32) (h0 : Heap) (n0 : Nat) (Z0 : n0 ≤ h0.size) (P0 : ArZ Z h0 b .byte (Int32.ofNat (2 * cs.length))) (hl : cs.length ≤ 41) (h0l : 0 < cs.length) :
    MetFree l (⟨"java/lang/StringUTF16", "coderFromArrayLen", "([BI)B"⟩ : MethodName) (head1 (Jvm.Cond.code (⟨"java/lang/StringUTF16", "coderFromArrayLen", "([BI)B"⟩ : MethodName) jdk_52_method_15_code 2 (some .byte) :: ws) ({ frames := 0, cells := 0, slots := 0, locals := 0 } : Room)) (fun zA zU => zA = #[(.ref b), (.int (Int32.ofNat cs.length))] ∧ Z.Warmed39 zU.vm ∧ zU.heap = h0) (fun _ _ _ _ _ => True) (fun _ zU zo zU' => ∃ zv zL, zo = .returned zv ∧ Q_cfU Z b cs h0 n0 zv zU'.heap zL ∧ FrameEnd zU zo zU' zL ({ frames := 0, cells := 0, slots := 0, locals := 0 } : Room).cells ({ frames := 0, cells := 0, slots := 0, locals := 0 } : Room).slots) := by
  refine MetFree.of_bodySF (plainFor_of_name pn_2) hisR ?_
  intro p e s m args below meth c s₁ Bd hml0 hP hK
  obtain ⟨rfl, hZ, hh⟩ := hP
  have hx := Bd.exec
  have hby := Bd.bytes
  have hml : c.maxLocals = 2 := hml0
  have hown : s.vm.findClass "java/lang/StringUTF16" = some m.cls := findClass_of_methodNamed Bd.named
  have hnm := (name_of_methodNamed Bd.named Bd.method).1
  have X0 : Stand p l e ({ frames := 0, cells := 0, slots := 0, locals := 0 } : Room) s m #[(.ref b), (.int (Int32.ofNat cs.length))] below meth c s₁ [] 0 0 := Stand.of_body Bd
  have e0 : s₁.heap = h0 := by rw [← hh, Bd.state]; rfl
  have N0 := Fr.nil n0
  have pre0 : ∀ zt, Steps p.tables e below (s₁.setTop (mkF m 0 #[.val (.ref b), .val (.int (Int32.ofNat cs.length))] [])) zt → Steps p.tables e below (s₁.setTop (entryFrame m #[(.ref b), (.int (Int32.ofNat cs.length))] 2)) zt := fun zt zk => castTop (ef_9_RI m b (Int32.ofNat cs.length)) zk
  obtain ⟨cl1, Ar1, Sz1, Ng1, -⟩ := (id P0)
  obtain ⟨fs, hr, hrun, hended, hW, hsame⟩ := X0.leave (v := some (.int (1 : Int32))) (fun h => by rw [Bd.returns] at h; cases h)
  refine ⟨_, _, pre0 _ ?_, hrun, hended, _, _, rfl, ?_, ⟨_, rfl⟩, hW, hsame.mono (by decide) (by decide)⟩
  · show Steps p.tables e below (s₁.setTop (mkF m 0 #[.val (.ref b), .val (.int (Int32.ofNat cs.length))] [])) _
    refine XS.iloadN X0.here hx rfl (hb hby d9_0) rfl ?_
    show Steps p.tables e below (s₁.setTop (mkF m 1 #[.val (.ref b), .val (.int (Int32.ofNat cs.length))] [(.int (Int32.ofNat cs.length))])) _
    refine XS.aloadN X0.here hx rfl (hb hby d9_1) rfl rfl ?_
    show Steps p.tables e below (s₁.setTop (mkF m 2 #[.val (.ref b), .val (.int (Int32.ofNat cs.length))] [(.ref b), (.int (Int32.ofNat cs.length))])) _
    refine X0.arraylength hx (Ar1.at_ e0) (State.isArrayOf_alike hZ.alike Ar1.2.1) (g := (mkF m 2 #[.val (.ref b), .val (.int (Int32.ofNat cs.length))] [(.ref b), (.int (Int32.ofNat cs.length))])) rfl rfl (hb hby d9_2) _ ?_
    rw [len_of Sz1 Ng1]
    show Steps p.tables e below (s₁.setTop (mkF m 3 #[.val (.ref b), .val (.int (Int32.ofNat cs.length))] [(.int (Int32.ofNat (2 * cs.length))), (.int (Int32.ofNat cs.length))])) _
    refine XS.isub X0.here hx rfl (hb hby d9_3) rfl ?_
    show Steps p.tables e below (s₁.setTop (mkF m 4 #[.val (.ref b), .val (.int (Int32.ofNat cs.length))] [(.int ((Int32.ofNat cs.length) - (Int32.ofNat (2 * cs.length))))])) _
    refine XS.bipush X0.here hx rfl (hb hby d9_4) ?_
    show Steps p.tables e below (s₁.setTop (mkF m 6 #[.val (.ref b), .val (.int (Int32.ofNat cs.length))] [(.int (31 : Int32)), (.int ((Int32.ofNat cs.length) - (Int32.ofNat (2 * cs.length))))])) _
    refine XS.iushr X0.here hx rfl (hb hby d9_6) rfl ?_
    show Steps p.tables e below (s₁.setTop (mkF m 7 #[.val (.ref b), .val (.int (Int32.ofNat cs.length))] [(.int ((((Int32.ofNat cs.length) - (Int32.ofNat (2 * cs.length))).toUInt32 >>> ((31 : Int32) &&& 31).toUInt32).toInt32))])) _
    refine XS.i2b X0.here hx rfl (hb hby d9_7) rfl ?_
    show Steps p.tables e below (s₁.setTop (mkF m 8 #[.val (.ref b), .val (.int (Int32.ofNat cs.length))] [(.int (((((Int32.ofNat cs.length) - (Int32.ofNat (2 * cs.length))).toUInt32 >>> ((31 : Int32) &&& 31).toUInt32).toInt32).toInt8.toInt32))])) _
    refine castTop (congrArg (fun z_ => (mkF m 8 #[.val (.ref b), .val (.int (Int32.ofNat cs.length))] [(.int z_)])) (own_cod1 h0l hl : (((((Int32.ofNat cs.length) - (Int32.ofNat (2 * cs.length))).toUInt32 >>> ((31 : Int32) &&& 31).toUInt32).toInt32).toInt8.toInt32) = (1 : Int32))) ?_
    show Steps p.tables e below (s₁.setTop (mkF m 8 #[.val (.ref b), .val (.int (Int32.ofNat cs.length))] [(.int (1 : Int32))])) _
    exact retN X0 hx (t := .byte) Bd.returns (by simp) (hb hby d9_8) hr
  · show Q_cfU Z b cs h0 n0 _ s₁.heap _
    rw [e0]
    exact ⟨rfl, N0, rfl⟩
def Q_snU (Z : State) (a : Addr) (b : Addr) (ka : ClassId) (cs : List Int32) (j0 : Nat) (cz : Int32) (h0 : Heap) (n0 : Nat) (v : Option Value) (h : Heap) (L : List Loc) : Prop := v = none ∧ Fr n0 L ∧ Keep h0 h [a] ∧ Exa Z h a "java/lang/String" ∧ Fld Z h a "java/lang/String" "coder" "B" (.int (1 : Int32))
theorem d10_0 : decode jdk_42_method_149_code 0 = .ok (.aload_n 0, 1) := by decide +kernel
theorem d10_1 : decode jdk_42_method_149_code 1 = .ok (.invokespecial 1, 3) := by decide +kernel
theorem d10_4 : decode jdk_42_method_149_code 4 = .ok (.iload_n 3, 1) := by decide +kernel
theorem d10_5 : decode jdk_42_method_149_code 5 = .ok (.ifCond .ne 22, 3) := by decide +kernel
theorem d10_27 : decode jdk_42_method_149_code 27 = .ok (.getstatic 38, 3) := by decide +kernel
theorem d10_30 : decode jdk_42_method_149_code 30 = .ok (.ifCond .eq 28, 3) := by decide +kernel
theorem d10_33 : decode jdk_42_method_149_code 33 = .ok (.aload_n 1, 1) := by decide +kernel
theorem d10_34 : decode jdk_42_method_149_code 34 = .ok (.iload_n 2, 1) := by decide +kernel
theorem d10_35 : decode jdk_42_method_149_code 35 = .ok (.iload_n 3, 1) := by decide +kernel
theorem d10_36 : decode jdk_42_method_149_code 36 = .ok (.invokestatic 177, 3) := by decide +kernel
theorem d10_39 : decode jdk_42_method_149_code 39 = .ok (.astore 5, 2) := by decide +kernel
theorem d10_41 : decode jdk_42_method_149_code 41 = .ok (.aload_n 0, 1) := by decide +kernel
theorem d10_42 : decode jdk_42_method_149_code 42 = .ok (.aload 5, 2) := by decide +kernel
theorem d10_44 : decode jdk_42_method_149_code 44 = .ok (.iload_n 3, 1) := by decide +kernel
theorem d10_45 : decode jdk_42_method_149_code 45 = .ok (.invokestatic 47, 3) := by decide +kernel
theorem pd_6 : parseMethodDescriptor "([BI)B" = some ⟨[(.array .byte), .int], some .byte⟩ := by decide +kernel
theorem d10_48 : decode jdk_42_method_149_code 48 = .ok (.putfield 15, 3) := by decide +kernel
theorem d10_51 : decode jdk_42_method_149_code 51 = .ok (.aload_n 0, 1) := by decide +kernel
theorem d10_52 : decode jdk_42_method_149_code 52 = .ok (.aload 5, 2) := by decide +kernel
theorem d10_54 : decode jdk_42_method_149_code 54 = .ok (.putfield 9, 3) := by decide +kernel
theorem d10_57 : decode jdk_42_method_149_code 57 = .ok (.return_, 1) := by decide +kernel
theorem pn_11 : plainName "java/lang/String" = true := by first | (simp [plainName, overriddenIn]; done) | decide +kernel
theorem ef_10_RRIIn (m : MethodId) (x0 : Addr) (x1 : Addr) (x2 : Int32) (x3 : Int32) : entryFrame m #[(.ref x0), (.ref x1), (.int x2), (.int x3), .null] 6 = mkF m 0 #[.val (.ref x0), .val (.ref x1), .val (.int x2), .val (.int x3), .val .null, .unset] [] := by first | (simp [entryFrame, mkF, argsToLocals, Value.category]; done) | rfl
set_option maxRecDepth 65536 in
set_option maxHeartbeats 40000000 in
theorem snU (l : Launch) (Z : State) (a0 : Array Value) (hw : ∀ d ∈ tables_1, d.before a0 Z = true) (ws : List Jvm.Cond) (a : Addr) (b : Addr) (ka : ClassId) (cs : List Int32) (j0 : Nat) (cz : Int32) (h0 : Heap) (n0 : Nat) (O0 : Old Z n0 h0) (G0 : Sta Z Z.heap "java/lang/String" "COMPACT_STRINGS" "Z" (.int cz)) (G1 : Sta Z Z.heap "java/lang/StringUTF16" "$assertionsDisabled" "Z" (.int (1 : Int32))) (G2 : Sta Z Z.heap "java/lang/StringUTF16" "HI_BYTE_SHIFT" "I" (.int (0 : Int32))) (G3 : Sta Z Z.heap "java/lang/StringUTF16" "LO_BYTE_SHIFT" "I" (.int (8 : Int32))) (P0 : Exa Z h0 a "java/lang/String") (P1 : Fld Z h0 a "java/lang/String" "value" "[B" .null) (P2 : Fld Z h0 a "java/lang/String" "coder" "B" (.int (0 : Int32))) (P3 : Arv Z h0 b ka .char (Int32.ofNat cs.length) (cs.map Value.int) (.int (0 : Int32))) (g_a : n0 ≤ a) (hcs : ¬ (cz = (0 : Int32))) (hl : cs.length ≤ 41) (hj : j0 < cs.length) (hlo : ∀ i, i < j0 → ¬ ((255 : Int32) < cs.getD i 0)) (hhi : (255 : Int32) < cs.getD j0 0) (hch : ∀ c ∈ cs, ¬ c < 0 ∧ ¬ (65535 : Int32) < c) :
    MetFree l (⟨"java/lang/String", "<init>", "([CIILjava/lang/Void;)V"⟩ : MethodName) (head1 (Jvm.Cond.code (⟨"java/lang/String", "<init>", "([CIILjava/lang/Void;)V"⟩ : MethodName) jdk_42_method_149_code 6 none :: ws) ({ frames := 4, cells := 2, slots := 123, locals := 57 } : Room)) (fun zA zU => zA = #[(.ref a), (.ref b), (.int (0 : Int32)), (.int (Int32.ofNat cs.length)), .null] ∧ Z.Warmed39 zU.vm ∧ zU.heap = h0) (fun _ _ _ _ _ => True) (fun _ zU zo zU' => ∃ zv zL, zo = .returned zv ∧ Q_snU Z a b ka cs j0 cz h0 n0 zv zU'.heap zL ∧ FrameEnd zU zo zU' zL ({ frames := 4, cells := 2, slots := 123, locals := 57 } : Room).cells ({ frames := 4, cells := 2, slots := 123, locals := 57 } : Room).slots) := by
  refine MetFree.of_bodySF (plainFor_of_name pn_11) hisR ?_
  intro p e s m args below meth c s₁ Bd hml0 hP hK
  obtain ⟨rfl, hZ, hh⟩ := hP
  have hx := Bd.exec
  have hby := Bd.bytes
  have hml : c.maxLocals = 6 := hml0
  have hown : s.vm.findClass "java/lang/String" = some m.cls := findClass_of_methodNamed Bd.named
  have hnm := (name_of_methodNamed Bd.named Bd.method).1
  have X0 : Stand p l e ({ frames := 4, cells := 2, slots := 123, locals := 57 } : Room) s m #[(.ref a), (.ref b), (.int (0 : Int32)), (.int (Int32.ofNat cs.length)), .null] below meth c s₁ [] 0 0 := Stand.of_body Bd
  have e0 : s₁.heap = h0 := by rw [← hh, Bd.state]; rfl
  have N0 := Fr.nil n0
  have Z0 : n0 ≤ h0.size := O0.1 ▸ O0.2.1
  have pre0 : ∀ zt, Steps p.tables e below (s₁.setTop (mkF m 0 #[.val (.ref a), .val (.ref b), .val (.int (0 : Int32)), .val (.int (Int32.ofNat cs.length)), .val .null, .unset] [])) zt → Steps p.tables e below (s₁.setTop (entryFrame m #[(.ref a), (.ref b), (.int (0 : Int32)), (.int (Int32.ofNat cs.length)), .null] 6)) zt := fun zt zk => castTop (ef_10_RRIIn m a b (0 : Int32) (Int32.ofNat cs.length)) zk
  obtain ⟨T1, X1, e1, st1⟩ := initO X0 hx hZ hown (hw _ (List.mem_of_getElem? (i := 17) rfl)) (hw _ (List.mem_of_getElem? (i := 18) rfl)) (hw _ (List.mem_of_getElem? (i := 19) rfl)) e0 (g := (mkF m 1 #[.val (.ref a), .val (.ref b), .val (.int (0 : Int32)), .val (.int (Int32.ofNat cs.length)), .val .null, .unset] [(.ref a)])) rfl (by rw [hml]; rfl) rfl (hb hby d10_1) (by decide) (W := 0) (by show 2 * 0 + _ ≤ _; exact Nat.le_of_eq rfl) (by decide)
  obtain ⟨T2, X2, e2, st2⟩ := getS2 X1 hx hZ hown (host := "") (Or.inl (hw _ (List.mem_of_getElem? (i := 20) rfl))) Via.refl e1 (G0.ext O0.2) (g := (mkF m 27 #[.val (.ref a), .val (.ref b), .val (.int (0 : Int32)), .val (.int (Int32.ofNat cs.length)), .val .null, .unset] [])) rfl (hb hby d10_27)
  obtain ⟨_, _, ⟨T3, L3, k3, n3⟩, -, X3, ⟨Lc3, hQ3, l3, y3, z3⟩, st3⟩ := Jvm.LawKit.callS X2 hx (y := (⟨"java/lang/StringUTF16", "compress", "([CII)[B"⟩ : MethodName)) hown (mvT hZ (hw _ (List.mem_of_getElem? (i := 21) rfl))) (mvT hZ (hw _ (List.mem_of_getElem? (i := 22) rfl))) (mvT hZ (hw _ (List.mem_of_getElem? (i := 23) rfl))) (mvT hZ (hw _ (List.mem_of_getElem? (i := 24) rfl))) (by decide) (backOf (W := 0) (cpU l Z a0 hw [] b ka cs j0 h0 n0 O0 G1 G2 G3 P3 hl hj hlo hhi hch) hZ (hw _ (List.mem_of_getElem? (i := 24) rfl)) (hw _ (List.mem_of_getElem? (i := 23) rfl)) (by decide) (by decide)) (g := (mkF m 36 #[.val (.ref a), .val (.ref b), .val (.int (0 : Int32)), .val (.int (Int32.ofNat cs.length)), .val .null, .unset] [(.int (Int32.ofNat cs.length)), (.int (0 : Int32)), (.ref b)])) rfl (by rw [hml]; rfl) (argsL := [(.ref b), (.int (0 : Int32)), (.int (Int32.ofNat cs.length))]) (rest := []) (lenOf pd_4 rfl) rfl (by show 2 * 0 + _ ≤ _; exact Nat.le_of_eq rfl) (hb hby d10_36) (fun _ _ => ⟨rfl, e2, (by decide : 0 + 2 ≤ _), (by decide : 0 + 123 ≤ _)⟩)
  dsimp only [Pt.U, Pt.locs, Pt.cells, Pt.slots] at X3 l3 y3 z3 st3 hQ3
  subst l3 y3 z3
  obtain ⟨r_3, rfl, Nq3, kh3, fz_r_3, Po3_0⟩ := hQ3
  have N3 := Fr.app N0 Nq3
  have sz_r_3 : h0.size ≤ r_3 := Nat.le_trans (Keep.refl h0 [a]).1 fz_r_3
  have g_r_3 : n0 ≤ r_3 := Nat.le_trans Z0 sz_r_3
  have O3 := O0.keep kh3 all0
  have K3 : Keep h0 T3.heap [a] := (Keep.refl h0 [a]).trans kh3 all0
  obtain ⟨_, _, ⟨T4, L4, k4, n4⟩, -, X4, ⟨Lc4, hQ4, l4, y4, z4⟩, st4⟩ := Jvm.LawKit.callS X3 hx (y := (⟨"java/lang/StringUTF16", "coderFromArrayLen", "([BI)B"⟩ : MethodName)) hown (mvT hZ (hw _ (List.mem_of_getElem? (i := 29) rfl))) (mvT hZ (hw _ (List.mem_of_getElem? (i := 30) rfl))) (mvT hZ (hw _ (List.mem_of_getElem? (i := 23) rfl))) (mvT hZ (hw _ (List.mem_of_getElem? (i := 31) rfl))) (by decide) (backOf (W := 1) (cfU l Z a0 hw [] r_3 cs T3.heap n0 (Nat.le_trans Z0 K3.1) Po3_0 hl (Nat.lt_of_le_of_lt (Nat.zero_le _) hj)) hZ (hw _ (List.mem_of_getElem? (i := 31) rfl)) (hw _ (List.mem_of_getElem? (i := 23) rfl)) (by decide) (by decide)) (g := (mkF m 45 #[.val (.ref a), .val (.ref b), .val (.int (0 : Int32)), .val (.int (Int32.ofNat cs.length)), .val .null, .val (.ref r_3)] [(.int (Int32.ofNat cs.length)), (.ref r_3), (.ref a)])) rfl (by rw [hml]; rfl) (argsL := [(.ref r_3), (.int (Int32.ofNat cs.length))]) (rest := [(.ref a)]) (lenOf pd_6 rfl) rfl (by show 2 * 0 + _ ≤ _; exact Nat.le_of_eq rfl) (hb hby d10_45) (fun _ _ => ⟨rfl, rfl, (by decide : 2 + 0 ≤ _), (by decide : 123 + 0 ≤ _)⟩)
  dsimp only [Pt.U, Pt.locs, Pt.cells, Pt.slots] at X4 l4 y4 z4 st4 hQ4
  subst l4 y4 z4
  obtain ⟨rfl, Nq4, kh4⟩ := hQ4
  have N4 := Fr.app N3 Nq4
  obtain ⟨T5, h5, X5, e5, W5, st5⟩ := putFN X4 hx hZ hown (hw _ (List.mem_of_getElem? (i := 32) rfl)) Via.refl kh4 (P2.keep kh3 nin0) (P0.keep kh3) (Or.inr ⟨(hw _ (List.mem_of_getElem? (i := 33) rfl)), rfl, hnm⟩) (hw _ (List.mem_of_getElem? (i := 8) rfl)) (ty := .byte) (v' := (.int ((1 : Int32).toInt8.toInt32))) (by decide) rfl (fits_nar_byte _) (g := (mkF m 48 #[.val (.ref a), .val (.ref b), .val (.int (0 : Int32)), .val (.int (Int32.ofNat cs.length)), .val .null, .val (.ref r_3)] [(.int (1 : Int32)), (.ref a)])) rfl rfl (hb hby d10_48)
  have Fw5 := (P2.keep kh3 nin0).same W5
  have O5 := O3.wr W5 g_a
  have K5 : Keep h0 h5 [a] := K3.wr W5 (Or.inl (List.mem_of_getElem? (i := 0) rfl))
  have N5 := Fr.snoc X5 N4 g_a
  have c7 : Fld Z h5 a "java/lang/String" "value" "[B" .null := ((P1.keep kh3 nin0).other W5 (Or.inr (slot_ne (Or.inr (hw _ (List.mem_of_getElem? (i := 35) rfl))) (Or.inr (hw _ (List.mem_of_getElem? (i := 33) rfl))) (by decide) (t := (.array .byte)) (t' := .byte) (by decide) (by decide))))
  obtain ⟨T6, h6, X6, e6, W6, st6⟩ := putF X5 hx hZ hown (host := "") (Or.inl (hw _ (List.mem_of_getElem? (i := 34) rfl))) Via.refl e5 c7 ((P0.keep kh3).wr W5) (Or.inr ⟨(hw _ (List.mem_of_getElem? (i := 35) rfl)), rfl, hnm⟩) (hw _ (List.mem_of_getElem? (i := 8) rfl)) (ty := (.array .byte)) (by decide) rfl rfl (g := (mkF m 54 #[.val (.ref a), .val (.ref b), .val (.int (0 : Int32)), .val (.int (Int32.ofNat cs.length)), .val .null, .val (.ref r_3)] [(.ref r_3), (.ref a)])) rfl rfl (hb hby d10_54)
  have Fw6 := c7.same W6
  have O6 := O5.wr W6 g_a
  have K6 : Keep h0 h6 [a] := K5.wr W6 (Or.inl (List.mem_of_getElem? (i := 0) rfl))
  have N6 := Fr.snoc X6 N5 g_a
  have c8 : Fld Z h6 a "java/lang/String" "coder" "B" (.int (1 : Int32)) := (Fw5.other W6 (Or.inr (slot_ne (Or.inr (hw _ (List.mem_of_getElem? (i := 33) rfl))) (Or.inr (hw _ (List.mem_of_getElem? (i := 35) rfl))) (by decide) (t := .byte) (t' := (.array .byte)) (by decide) (by decide))))
  obtain ⟨fs, hr, hrun, hended, hW, hsame⟩ := X6.leave (v := none) (fun _ => rfl)
  refine ⟨_, _, pre0 _ ?_, hrun, hended, _, _, rfl, ?_, ⟨_, rfl⟩, hW, hsame.mono (by decide) (by decide)⟩
  · show Steps p.tables e below (s₁.setTop (mkF m 0 #[.val (.ref a), .val (.ref b), .val (.int (0 : Int32)), .val (.int (Int32.ofNat cs.length)), .val .null, .unset] [])) _
    refine XS.aloadN X0.here hx rfl (hb hby d10_0) rfl rfl ?_
    show Steps p.tables e below (s₁.setTop (mkF m 1 #[.val (.ref a), .val (.ref b), .val (.int (0 : Int32)), .val (.int (Int32.ofNat cs.length)), .val .null, .unset] [(.ref a)])) _
    refine st1 _ ?_
    show Steps p.tables e below (T1.setTop (mkF m 4 #[.val (.ref a), .val (.ref b), .val (.int (0 : Int32)), .val (.int (Int32.ofNat cs.length)), .val .null, .unset] [])) _
    refine XS.iloadN X1.here hx rfl (hb hby d10_4) rfl ?_
    show Steps p.tables e below (T1.setTop (mkF m 5 #[.val (.ref a), .val (.ref b), .val (.int (0 : Int32)), .val (.int (Int32.ofNat cs.length)), .val .null, .unset] [(.int (Int32.ofNat cs.length))])) _
    refine XS.ifYes X1.here hx rfl (pc0 := 5) (pc' := 27) rfl (hb hby d10_5) rfl ((if0 _ _).trans (feq (own_nz hj hl : ¬ ((Int32.ofNat cs.length) = (0 : Int32)))).2) (by decide) (by decide) ?_
    show Steps p.tables e below (T1.setTop (mkF m 27 #[.val (.ref a), .val (.ref b), .val (.int (0 : Int32)), .val (.int (Int32.ofNat cs.length)), .val .null, .unset] [])) _
    refine st2 _ ?_
    show Steps p.tables e below (T2.setTop (mkF m 30 #[.val (.ref a), .val (.ref b), .val (.int (0 : Int32)), .val (.int (Int32.ofNat cs.length)), .val .null, .unset] [(.int cz)])) _
    refine XS.ifNo X2.here hx rfl (hb hby d10_30) rfl ((if0 _ _).trans (feq (hcs : ¬ (cz = (0 : Int32)))).1) ?_
    show Steps p.tables e below (T2.setTop (mkF m 33 #[.val (.ref a), .val (.ref b), .val (.int (0 : Int32)), .val (.int (Int32.ofNat cs.length)), .val .null, .unset] [])) _
    refine XS.aloadN X2.here hx rfl (hb hby d10_33) rfl rfl ?_
    show Steps p.tables e below (T2.setTop (mkF m 34 #[.val (.ref a), .val (.ref b), .val (.int (0 : Int32)), .val (.int (Int32.ofNat cs.length)), .val .null, .unset] [(.ref b)])) _
    refine XS.iloadN X2.here hx rfl (hb hby d10_34) rfl ?_
    show Steps p.tables e below (T2.setTop (mkF m 35 #[.val (.ref a), .val (.ref b), .val (.int (0 : Int32)), .val (.int (Int32.ofNat cs.length)), .val .null, .unset] [(.int (0 : Int32)), (.ref b)])) _
    refine XS.iloadN X2.here hx rfl (hb hby d10_35) rfl ?_
    show Steps p.tables e below (T2.setTop (mkF m 36 #[.val (.ref a), .val (.ref b), .val (.int (0 : Int32)), .val (.int (Int32.ofNat cs.length)), .val .null, .unset] [(.int (Int32.ofNat cs.length)), (.int (0 : Int32)), (.ref b)])) _
    refine st3 _ ?_
    show Steps p.tables e below (T3.setTop (mkF m 39 #[.val (.ref a), .val (.ref b), .val (.int (0 : Int32)), .val (.int (Int32.ofNat cs.length)), .val .null, .unset] [(.ref r_3)])) _
    refine XS.astore X3.here hx rfl (hb hby d10_39) rfl rfl (l' := #[.val (.ref a), .val (.ref b), .val (.int (0 : Int32)), .val (.int (Int32.ofNat cs.length)), .val .null, .val (.ref r_3)]) rfl ?_
    show Steps p.tables e below (T3.setTop (mkF m 41 #[.val (.ref a), .val (.ref b), .val (.int (0 : Int32)), .val (.int (Int32.ofNat cs.length)), .val .null, .val (.ref r_3)] [])) _
    refine XS.aloadN X3.here hx rfl (hb hby d10_41) rfl rfl ?_
    show Steps p.tables e below (T3.setTop (mkF m 42 #[.val (.ref a), .val (.ref b), .val (.int (0 : Int32)), .val (.int (Int32.ofNat cs.length)), .val .null, .val (.ref r_3)] [(.ref a)])) _
    refine XS.aload X3.here hx rfl (hb hby d10_42) rfl rfl ?_
    show Steps p.tables e below (T3.setTop (mkF m 44 #[.val (.ref a), .val (.ref b), .val (.int (0 : Int32)), .val (.int (Int32.ofNat cs.length)), .val .null, .val (.ref r_3)] [(.ref r_3), (.ref a)])) _
    refine XS.iloadN X3.here hx rfl (hb hby d10_44) rfl ?_
    show Steps p.tables e below (T3.setTop (mkF m 45 #[.val (.ref a), .val (.ref b), .val (.int (0 : Int32)), .val (.int (Int32.ofNat cs.length)), .val .null, .val (.ref r_3)] [(.int (Int32.ofNat cs.length)), (.ref r_3), (.ref a)])) _
    refine st4 _ ?_
    show Steps p.tables e below (T4.setTop (mkF m 48 #[.val (.ref a), .val (.ref b), .val (.int (0 : Int32)), .val (.int (Int32.ofNat cs.length)), .val .null, .val (.ref r_3)] [(.int (1 : Int32)), (.ref a)])) _
    refine st5 _ ?_
    show Steps p.tables e below (T5.setTop (mkF m 51 #[.val (.ref a), .val (.ref b), .val (.int (0 : Int32)), .val (.int (Int32.ofNat cs.length)), .val .null, .val (.ref r_3)] [])) _
    refine XS.aloadN X5.here hx rfl (hb hby d10_51) rfl rfl ?_
    show Steps p.tables e below (T5.setTop (mkF m 52 #[.val (.ref a), .val (.ref b), .val (.int (0 : Int32)), .val (.int (Int32.ofNat cs.length)), .val .null, .val (.ref r_3)] [(.ref a)])) _
    refine XS.aload X5.here hx rfl (hb hby d10_52) rfl rfl ?_
    show Steps p.tables e below (T5.setTop (mkF m 54 #[.val (.ref a), .val (.ref b), .val (.int (0 : Int32)), .val (.int (Int32.ofNat cs.length)), .val .null, .val (.ref r_3)] [(.ref r_3), (.ref a)])) _
    refine st6 _ ?_
    show Steps p.tables e below (T6.setTop (mkF m 57 #[.val (.ref a), .val (.ref b), .val (.int (0 : Int32)), .val (.int (Int32.ofNat cs.length)), .val .null, .val (.ref r_3)] [])) _
    exact X6.returnOut hx Bd.returns (hb hby d10_57) hr
  · show Q_snU Z a b ka cs j0 cz h0 n0 _ T6.heap _
    rw [e6]
    exact ⟨rfl, N6, K6, (((P0.keep kh3).wr W5).wr W6), c8⟩
def Q_siU (Z : State) (a : Addr) (b : Addr) (ka : ClassId) (cs : List Int32) (j0 : Nat) (cz : Int32) (h0 : Heap) (n0 : Nat) (v : Option Value) (h : Heap) (L : List Loc) : Prop := v = none ∧ Fr n0 L ∧ Keep h0 h [a] ∧ Exa Z h a "java/lang/String" ∧ Fld Z h a "java/lang/String" "coder" "B" (.int (1 : Int32))
theorem d12_0 : decode jdk_42_method_3_code 0 = .ok (.aload_n 0, 1) := by decide +kernel
theorem d12_1 : decode jdk_42_method_3_code 1 = .ok (.aload_n 1, 1) := by decide +kernel
theorem d12_2 : decode jdk_42_method_3_code 2 = .ok (.iconst 0, 1) := by decide +kernel
theorem d12_3 : decode jdk_42_method_3_code 3 = .ok (.aload_n 1, 1) := by decide +kernel
theorem d12_4 : decode jdk_42_method_3_code 4 = .ok (.arraylength, 1) := by decide +kernel
theorem d12_5 : decode jdk_42_method_3_code 5 = .ok (.aconst_null, 1) := by decide +kernel
theorem d12_6 : decode jdk_42_method_3_code 6 = .ok (.invokespecial 27, 3) := by decide +kernel
theorem pd_7 : parseMethodDescriptor "([CIILjava/lang/Void;)V" = some ⟨[(.array .char), .int, .int, (.object "java/lang/Void")], none⟩ := by decide +kernel
theorem d12_9 : decode jdk_42_method_3_code 9 = .ok (.return_, 1) := by decide +kernel
theorem ef_12_RR (m : MethodId) (x0 : Addr) (x1 : Addr) : entryFrame m #[(.ref x0), (.ref x1)] 2 = mkF m 0 #[.val (.ref x0), .val (.ref x1)] [] := by first | (simp [entryFrame, mkF, argsToLocals, Value.category]; done) | rfl
set_option maxRecDepth 65536 in
set_option maxHeartbeats 40000000 in
theorem siU (l : Launch) (Z : State) (a0 : Array Value) (hw : ∀ d ∈ tables_1, d.before a0 Z = true) (ws : List Jvm.Cond) (a : Addr) (b : Addr) (ka : ClassId) (cs : List Int32) (j0 : Nat) (cz : Int32) (h0 : Heap) (n0 : Nat) (O0 : Old Z n0 h0) (G0 : Sta Z Z.heap "java/lang/String" "COMPACT_STRINGS" "Z" (.int cz)) (G1 : Sta Z Z.heap "java/lang/StringUTF16" "$assertionsDisabled" "Z" (.int (1 : Int32))) (G2 : Sta Z Z.heap "java/lang/StringUTF16" "HI_BYTE_SHIFT" "I" (.int (0 : Int32))) (G3 : Sta Z Z.heap "java/lang/StringUTF16" "LO_BYTE_SHIFT" "I" (.int (8 : Int32))) (P0 : Exa Z h0 a "java/lang/String") (P1 : Fld Z h0 a "java/lang/String" "value" "[B" .null) (P2 : Fld Z h0 a "java/lang/String" "coder" "B" (.int (0 : Int32))) (P3 : Arv Z h0 b ka .char (Int32.ofNat cs.length) (cs.map Value.int) (.int (0 : Int32))) (g_a : n0 ≤ a) (hcs : ¬ (cz = (0 : Int32))) (hl : cs.length ≤ 41) (hj : j0 < cs.length) (hlo : ∀ i, i < j0 → ¬ ((255 : Int32) < cs.getD i 0)) (hhi : (255 : Int32) < cs.getD j0 0) (hch : ∀ c ∈ cs, ¬ c < 0 ∧ ¬ (65535 : Int32) < c) :
    MetFree l (⟨"java/lang/String", "<init>", "([C)V"⟩ : MethodName) (head1 (Jvm.Cond.code (⟨"java/lang/String", "<init>", "([C)V"⟩ : MethodName) jdk_42_method_3_code 2 none :: ws) ({ frames := 5, cells := 2, slots := 123, locals := 74 } : Room)) (fun zA zU => zA = #[(.ref a), (.ref b)] ∧ Z.Warmed39 zU.vm ∧ zU.heap = h0) (fun _ _ _ _ _ => True) (fun _ zU zo zU' => ∃ zv zL, zo = .returned zv ∧ Q_siU Z a b ka cs j0 cz h0 n0 zv zU'.heap zL ∧ FrameEnd zU zo zU' zL ({ frames := 5, cells := 2, slots := 123, locals := 74 } : Room).cells ({ frames := 5, cells := 2, slots := 123, locals := 74 } : Room).slots) := by
  refine MetFree.of_bodySF (plainFor_of_name pn_11) hisR ?_
  intro p e s m args below meth c s₁ Bd hml0 hP hK
  obtain ⟨rfl, hZ, hh⟩ := hP
  have hx := Bd.exec
  have hby := Bd.bytes
  have hml : c.maxLocals = 2 := hml0
  have hown : s.vm.findClass "java/lang/String" = some m.cls := findClass_of_methodNamed Bd.named
  have hnm := (name_of_methodNamed Bd.named Bd.method).1
  have X0 : Stand p l e ({ frames := 5, cells := 2, slots := 123, locals := 74 } : Room) s m #[(.ref a), (.ref b)] below meth c s₁ [] 0 0 := Stand.of_body Bd
  have e0 : s₁.heap = h0 := by rw [← hh, Bd.state]; rfl
  have N0 := Fr.nil n0
  have Z0 : n0 ≤ h0.size := O0.1 ▸ O0.2.1
  have pre0 : ∀ zt, Steps p.tables e below (s₁.setTop (mkF m 0 #[.val (.ref a), .val (.ref b)] [])) zt → Steps p.tables e below (s₁.setTop (entryFrame m #[(.ref a), (.ref b)] 2)) zt := fun zt zk => castTop (ef_12_RR m a b) zk
  obtain ⟨cl1, Ar1, -, Sz1, Ng1, -⟩ := (id P3)
  obtain ⟨_, _, ⟨T2, L2, k2, n2⟩, -, X2, ⟨Lc2, hQ2, l2, y2, z2⟩, st2⟩ := X0.specialBack hx (y := (⟨"java/lang/String", "<init>", "([CIILjava/lang/Void;)V"⟩ : MethodName)) rfl hown (mvT hZ (hw _ (List.mem_of_getElem? (i := 13) rfl))) (mvT hZ (hw _ (List.mem_of_getElem? (i := 14) rfl))) (mvT hZ (hw _ (List.mem_of_getElem? (i := 16) rfl))) (by decide) (backOf (W := 0) (snU l Z a0 hw [] a b ka cs j0 cz h0 n0 O0 G0 G1 G2 G3 P0 P1 P2 P3 g_a hcs hl hj hlo hhi hch) hZ (hw _ (List.mem_of_getElem? (i := 16) rfl)) (hw _ (List.mem_of_getElem? (i := 9) rfl)) (by decide) (by decide)) (g := (mkF m 6 #[.val (.ref a), .val (.ref b)] [.null, (.int (Int32.ofNat cs.length)), (.int (0 : Int32)), (.ref b), (.ref a)])) rfl (by rw [hml]; rfl) (Steps.refl _) (a := a) (argsL := [(.ref b), (.int (0 : Int32)), (.int (Int32.ofNat cs.length)), .null]) (rest := []) (lenOf pd_7 rfl) rfl (by show 2 * 0 + _ ≤ _; exact Nat.le_of_eq rfl) (hb hby d12_6) (fun _ _ => ⟨rfl, e0, (by decide : 0 + 2 ≤ _), (by decide : 0 + 123 ≤ _)⟩)
  dsimp only [Pt.U, Pt.locs, Pt.cells, Pt.slots] at X2 l2 y2 z2 st2 hQ2
  subst l2 y2 z2
  obtain ⟨rfl, Nq2, kh2, Po2_0, Po2_1⟩ := hQ2
  have N2 := Fr.app N0 Nq2
  have O2 := O0.keep kh2 (allS g_a all0)
  have K2 : Keep h0 T2.heap [a] := (Keep.refl h0 [a]).trans kh2 (allS (Or.inl (List.mem_of_getElem? (i := 0) rfl)) all0)
  obtain ⟨fs, hr, hrun, hended, hW, hsame⟩ := X2.leave (v := none) (fun _ => rfl)
  refine ⟨_, _, pre0 _ ?_, hrun, hended, _, _, rfl, ?_, ⟨_, rfl⟩, hW, hsame.mono (by decide) (by decide)⟩
  · show Steps p.tables e below (s₁.setTop (mkF m 0 #[.val (.ref a), .val (.ref b)] [])) _
    refine XS.aloadN X0.here hx rfl (hb hby d12_0) rfl rfl ?_
    show Steps p.tables e below (s₁.setTop (mkF m 1 #[.val (.ref a), .val (.ref b)] [(.ref a)])) _
    refine XS.aloadN X0.here hx rfl (hb hby d12_1) rfl rfl ?_
    show Steps p.tables e below (s₁.setTop (mkF m 2 #[.val (.ref a), .val (.ref b)] [(.ref b), (.ref a)])) _
    refine XS.iconst X0.here hx rfl (hb hby d12_2) ?_
    show Steps p.tables e below (s₁.setTop (mkF m 3 #[.val (.ref a), .val (.ref b)] [(.int (0 : Int32)), (.ref b), (.ref a)])) _
    refine XS.aloadN X0.here hx rfl (hb hby d12_3) rfl rfl ?_
    show Steps p.tables e below (s₁.setTop (mkF m 4 #[.val (.ref a), .val (.ref b)] [(.ref b), (.int (0 : Int32)), (.ref b), (.ref a)])) _
    refine X0.arraylength hx (Ar1.at_ e0) (State.isArrayOf_alike hZ.alike Ar1.2.1) (g := (mkF m 4 #[.val (.ref a), .val (.ref b)] [(.ref b), (.int (0 : Int32)), (.ref b), (.ref a)])) rfl rfl (hb hby d12_4) _ ?_
    rw [len_of Sz1 Ng1]
    show Steps p.tables e below (s₁.setTop (mkF m 5 #[.val (.ref a), .val (.ref b)] [(.int (Int32.ofNat cs.length)), (.int (0 : Int32)), (.ref b), (.ref a)])) _
    refine XS.aconstNull X0.here hx rfl (hb hby d12_5) ?_
    show Steps p.tables e below (s₁.setTop (mkF m 6 #[.val (.ref a), .val (.ref b)] [.null, (.int (Int32.ofNat cs.length)), (.int (0 : Int32)), (.ref b), (.ref a)])) _
    refine st2.trans ?_
    show Steps p.tables e below (T2.setTop (mkF m 9 #[.val (.ref a), .val (.ref b)] [])) _
    exact X2.returnOut hx Bd.returns (hb hby d12_9) hr
  · show Q_siU Z a b ka cs j0 cz h0 n0 _ T2.heap _
    exact ⟨rfl, N2, K2, Po2_0, Po2_1⟩
def Q_eqU (Z : State) (a : Addr) (b : Addr) (cz : Int32) (h0 : Heap) (n0 : Nat) (v : Option Value) (h : Heap) (L : List Loc) : Prop := v = some (.int (0 : Int32)) ∧ Fr n0 L ∧ h = h0
theorem d13_0 : decode jdk_42_method_66_code 0 = .ok (.aload_n 0, 1) := by decide +kernel
theorem d13_1 : decode jdk_42_method_66_code 1 = .ok (.aload_n 1, 1) := by decide +kernel
theorem d13_2 : decode jdk_42_method_66_code 2 = .ok (.if_acmp .ne 5, 3) := by decide +kernel
theorem d13_7 : decode jdk_42_method_66_code 7 = .ok (.aload_n 1, 1) := by decide +kernel
theorem d13_8 : decode jdk_42_method_66_code 8 = .ok (.instanceof 10, 3) := by decide +kernel
theorem d13_11 : decode jdk_42_method_66_code 11 = .ok (.ifCond .eq 43, 3) := by decide +kernel
theorem d13_14 : decode jdk_42_method_66_code 14 = .ok (.aload_n 1, 1) := by decide +kernel
theorem d13_15 : decode jdk_42_method_66_code 15 = .ok (.checkcast 10, 3) := by decide +kernel
theorem d13_18 : decode jdk_42_method_66_code 18 = .ok (.astore_n 2, 1) := by decide +kernel
theorem d13_19 : decode jdk_42_method_66_code 19 = .ok (.getstatic 38, 3) := by decide +kernel
theorem d13_22 : decode jdk_42_method_66_code 22 = .ok (.ifCond .eq 14, 3) := by decide +kernel
theorem d13_25 : decode jdk_42_method_66_code 25 = .ok (.aload_n 0, 1) := by decide +kernel
theorem d13_26 : decode jdk_42_method_66_code 26 = .ok (.getfield 15, 3) := by decide +kernel
theorem d13_29 : decode jdk_42_method_66_code 29 = .ok (.aload_n 2, 1) := by decide +kernel
theorem d13_30 : decode jdk_42_method_66_code 30 = .ok (.getfield 15, 3) := by decide +kernel
theorem d13_33 : decode jdk_42_method_66_code 33 = .ok (.if_icmp .ne 21, 3) := by decide +kernel
theorem d13_54 : decode jdk_42_method_66_code 54 = .ok (.iconst 0, 1) := by decide +kernel
theorem d13_55 : decode jdk_42_method_66_code 55 = .ok (.ireturn, 1) := by decide +kernel
theorem ef_13_RR (m : MethodId) (x0 : Addr) (x1 : Addr) : entryFrame m #[(.ref x0), (.ref x1)] 3 = mkF m 0 #[.val (.ref x0), .val (.ref x1), .unset] [] := by first | (simp [entryFrame, mkF, argsToLocals, Value.category]; done) | rfl
set_option maxRecDepth 65536 in
set_option maxHeartbeats 40000000 in
theorem eqU (l : Launch) (Z : State) (a0 : Array Value) (hw : ∀ d ∈ tables_1, d.before a0 Z = true) (ws : List Jvm.Cond) (a : Addr) (b : Addr) (cz : Int32) (h0 : Heap) (n0 : Nat) (O0 : Old Z n0 h0) (G0 : Sta Z Z.heap "java/lang/String" "COMPACT_STRINGS" "Z" (.int cz)) (P0 : Exa Z h0 b "java/lang/String") (P1 : Fld Z h0 a "java/lang/String" "coder" "B" (.int (0 : Int32))) (P2 : Fld Z h0 b "java/lang/String" "coder" "B" (.int (1 : Int32))) (ne_a_b : a ≠ b) (hcs : ¬ (cz = (0 : Int32))) :
    MetFree l (⟨"java/lang/String", "equals", "(Ljava/lang/Object;)Z"⟩ : MethodName) (head1 (Jvm.Cond.code (⟨"java/lang/String", "equals", "(Ljava/lang/Object;)Z"⟩ : MethodName) jdk_42_method_66_code 3 (some .boolean) :: ws) ({ frames := 0, cells := 0, slots := 0, locals := 0 } : Room)) (fun zA zU => zA = #[(.ref a), (.ref b)] ∧ Z.Warmed39 zU.vm ∧ zU.heap = h0) (fun _ _ _ _ _ => True) (fun _ zU zo zU' => ∃ zv zL, zo = .returned zv ∧ Q_eqU Z a b cz h0 n0 zv zU'.heap zL ∧ FrameEnd zU zo zU' zL ({ frames := 0, cells := 0, slots := 0, locals := 0 } : Room).cells ({ frames := 0, cells := 0, slots := 0, locals := 0 } : Room).slots) := by
  refine MetFree.of_bodySF (plainFor_of_name pn_11) hisR ?_
  intro p e s m args below meth c s₁ Bd hml0 hP hK
  obtain ⟨rfl, hZ, hh⟩ := hP
  have hx := Bd.exec
  have hby := Bd.bytes
  have hml : c.maxLocals = 3 := hml0
  have hown : s.vm.findClass "java/lang/String" = some m.cls := findClass_of_methodNamed Bd.named
  have hnm := (name_of_methodNamed Bd.named Bd.method).1
  have X0 : Stand p l e ({ frames := 0, cells := 0, slots := 0, locals := 0 } : Room) s m #[(.ref a), (.ref b)] below meth c s₁ [] 0 0 := Stand.of_body Bd
  have e0 : s₁.heap = h0 := by rw [← hh, Bd.state]; rfl
  have N0 := Fr.nil n0
  have Z0 : n0 ≤ h0.size := O0.1 ▸ O0.2.1
  have pre0 : ∀ zt, Steps p.tables e below (s₁.setTop (mkF m 0 #[.val (.ref a), .val (.ref b), .unset] [])) zt → Steps p.tables e below (s₁.setTop (entryFrame m #[(.ref a), (.ref b)] 3)) zt := fun zt zk => castTop (ef_13_RR m a b) zk
  obtain ⟨T1, X1, e1, st1⟩ := instY X0 hx hZ hown (hw _ (List.mem_of_getElem? (i := 48) rfl)) e0 (Ins.self P0) (g := (mkF m 8 #[.val (.ref a), .val (.ref b), .unset] [(.ref b)])) rfl rfl (hb hby d13_8)
  obtain ⟨T2, X2, e2, st2⟩ := castY X1 hx hZ hown (hw _ (List.mem_of_getElem? (i := 48) rfl)) e1 (Ins.self P0) (g := (mkF m 15 #[.val (.ref a), .val (.ref b), .unset] [(.ref b)])) rfl rfl (hb hby d13_15)
  obtain ⟨T3, X3, e3, st3⟩ := getS2 X2 hx hZ hown (host := "") (Or.inl (hw _ (List.mem_of_getElem? (i := 20) rfl))) Via.refl e2 (G0.ext O0.2) (g := (mkF m 19 #[.val (.ref a), .val (.ref b), .val (.ref b)] [])) rfl (hb hby d13_19)
  obtain ⟨T4, X4, e4, st4⟩ := getF X3 hx hZ hown (host := "") (Or.inl (hw _ (List.mem_of_getElem? (i := 32) rfl))) Via.refl e3 P1 (g := (mkF m 26 #[.val (.ref a), .val (.ref b), .val (.ref b)] [(.ref a)])) rfl rfl (hb hby d13_26)
  obtain ⟨T5, X5, e5, st5⟩ := getF X4 hx hZ hown (host := "") (Or.inl (hw _ (List.mem_of_getElem? (i := 32) rfl))) Via.refl e4 P2 (g := (mkF m 30 #[.val (.ref a), .val (.ref b), .val (.ref b)] [(.ref b), (.int (0 : Int32))])) rfl rfl (hb hby d13_30)
  obtain ⟨fs, hr, hrun, hended, hW, hsame⟩ := X5.leave (v := some (.int (0 : Int32))) (fun h => by rw [Bd.returns] at h; cases h)
  refine ⟨_, _, pre0 _ ?_, hrun, hended, _, _, rfl, ?_, ⟨_, rfl⟩, hW, hsame.mono (by decide) (by decide)⟩
  · show Steps p.tables e below (s₁.setTop (mkF m 0 #[.val (.ref a), .val (.ref b), .unset] [])) _
    refine XS.aloadN X0.here hx rfl (hb hby d13_0) rfl rfl ?_
    show Steps p.tables e below (s₁.setTop (mkF m 1 #[.val (.ref a), .val (.ref b), .unset] [(.ref a)])) _
    refine XS.aloadN X0.here hx rfl (hb hby d13_1) rfl rfl ?_
    show Steps p.tables e below (s₁.setTop (mkF m 2 #[.val (.ref a), .val (.ref b), .unset] [(.ref b), (.ref a)])) _
    refine Jvm.RoadKit.acmp (g := (mkF m 2 #[.val (.ref a), .val (.ref b), .unset] [(.ref b), (.ref a)])) X0 hx rfl rfl rfl (pc0 := 2) (pc' := 7) (same := false) rfl (hb hby d13_2) rfl (decide_eq_false fun q => ne_a_b (Value.ref.inj q)) (by decide) (by decide) ?_
    show Steps p.tables e below (s₁.setTop (mkF m 7 #[.val (.ref a), .val (.ref b), .unset] [])) _
    refine XS.aloadN X0.here hx rfl (hb hby d13_7) rfl rfl ?_
    show Steps p.tables e below (s₁.setTop (mkF m 8 #[.val (.ref a), .val (.ref b), .unset] [(.ref b)])) _
    refine st1 _ ?_
    show Steps p.tables e below (T1.setTop (mkF m 11 #[.val (.ref a), .val (.ref b), .unset] [(.int (1 : Int32))])) _
    refine XS.ifNo X1.here hx rfl (hb hby d13_11) rfl ((if0 _ _).trans (feq (by decide : ¬ ((1 : Int32) = (0 : Int32)))).1) ?_
    show Steps p.tables e below (T1.setTop (mkF m 14 #[.val (.ref a), .val (.ref b), .unset] [])) _
    refine XS.aloadN X1.here hx rfl (hb hby d13_14) rfl rfl ?_
    show Steps p.tables e below (T1.setTop (mkF m 15 #[.val (.ref a), .val (.ref b), .unset] [(.ref b)])) _
    refine st2 _ ?_
    show Steps p.tables e below (T2.setTop (mkF m 18 #[.val (.ref a), .val (.ref b), .unset] [(.ref b)])) _
    refine XS.astoreN X2.here hx rfl (hb hby d13_18) rfl rfl (l' := #[.val (.ref a), .val (.ref b), .val (.ref b)]) rfl ?_
    show Steps p.tables e below (T2.setTop (mkF m 19 #[.val (.ref a), .val (.ref b), .val (.ref b)] [])) _
    refine st3 _ ?_
    show Steps p.tables e below (T3.setTop (mkF m 22 #[.val (.ref a), .val (.ref b), .val (.ref b)] [(.int cz)])) _
    refine XS.ifNo X3.here hx rfl (hb hby d13_22) rfl ((if0 _ _).trans (feq (hcs : ¬ (cz = (0 : Int32)))).1) ?_
    show Steps p.tables e below (T3.setTop (mkF m 25 #[.val (.ref a), .val (.ref b), .val (.ref b)] [])) _
    refine XS.aloadN X3.here hx rfl (hb hby d13_25) rfl rfl ?_
    show Steps p.tables e below (T3.setTop (mkF m 26 #[.val (.ref a), .val (.ref b), .val (.ref b)] [(.ref a)])) _
    refine st4 _ ?_
    show Steps p.tables e below (T4.setTop (mkF m 29 #[.val (.ref a), .val (.ref b), .val (.ref b)] [(.int (0 : Int32))])) _
    refine XS.aloadN X4.here hx rfl (hb hby d13_29) rfl rfl ?_
    show Steps p.tables e below (T4.setTop (mkF m 30 #[.val (.ref a), .val (.ref b), .val (.ref b)] [(.ref b), (.int (0 : Int32))])) _
    refine st5 _ ?_
    show Steps p.tables e below (T5.setTop (mkF m 33 #[.val (.ref a), .val (.ref b), .val (.ref b)] [(.int (1 : Int32)), (.int (0 : Int32))])) _
    refine XS.icmpYes X5.here hx rfl (pc0 := 33) (pc' := 54) rfl (hb hby d13_33) rfl (feq (by decide : ¬ ((0 : Int32) = (1 : Int32)))).2 (by decide) (by decide) ?_
    show Steps p.tables e below (T5.setTop (mkF m 54 #[.val (.ref a), .val (.ref b), .val (.ref b)] [])) _
    refine XS.iconst X5.here hx rfl (hb hby d13_54) ?_
    show Steps p.tables e below (T5.setTop (mkF m 55 #[.val (.ref a), .val (.ref b), .val (.ref b)] [(.int (0 : Int32))])) _
    exact retN X5 hx (t := .boolean) Bd.returns (by simp) (hb hby d13_55) hr
  · show Q_eqU Z a b cz h0 n0 _ T5.heap _
    rw [e5]
    exact ⟨rfl, N0, rfl⟩
def Q_siL (Z : State) (a : Addr) (b : Addr) (ka : ClassId) (cs : List Int32) (cz : Int32) (h0 : Heap) (n0 : Nat) (v : Option Value) (h : Heap) (L : List Loc) : Prop := ∃ t : Addr, ∃ kt : ClassId, v = none ∧ Fr n0 L ∧ Keep h0 h [a] ∧ h0.size ≤ t ∧ Exa Z h a "java/lang/String" ∧ Fld Z h a "java/lang/String" "coder" "B" (.int (0 : Int32)) ∧ Fld Z h a "java/lang/String" "value" "[B" (.ref t) ∧ Arv Z h t kt .byte (Int32.ofNat cs.length) ((cs.map fun c => c.toInt8.toInt32).map Value.int) (.int (0 : Int32))
theorem own_siB {p : Program} {l : Launch} {e : Env} {R : Room} {s : State} {args : Array Value} {below : List Frame} {len W : Nat} {Z : State} {a0 : Array Value} (hZ : Z.Warmed39 s.vm) (hw : ∀ d ∈ tables_1, d.before a0 Z = true) (hfr : 4 ≤ R.frames) (hlo : W + 65 ≤ R.locals) (a : Addr) (b : Addr) (ka : ClassId) (cs : List Int32) (cz : Int32) (h0 : Heap) (n0 : Nat) (O0 : Old Z n0 h0) (G0 : Sta Z Z.heap "java/lang/String" "COMPACT_STRINGS" "Z" (.int cz)) (P0 : Exa Z h0 a "java/lang/String") (P1 : Fld Z h0 a "java/lang/String" "value" "[B" .null) (P2 : Fld Z h0 a "java/lang/String" "coder" "B" (.int (0 : Int32))) (P3 : Arv Z h0 b ka .char (Int32.ofNat cs.length) (cs.map Value.int) (.int (0 : Int32))) (g_a : n0 ≤ a) (hcs : ¬ (cz = (0 : Int32))) (hl : cs.length ≤ 41) (h0l : 0 < cs.length) (hch : ∀ c ∈ cs, ¬ c < 0 ∧ ¬ (255 : Int32) < c) :
    Back l R p e below s args (⟨"java/lang/String", "<init>", "([C)V"⟩ : MethodName) len W (fun P v => v = #[.ref a, .ref b] ∧ P.U.heap = h0 ∧ P.cells + 1 ≤ R.cells ∧ P.slots + 41 ≤ R.slots)
      (fun P _ v B => ∃ L, Q_siL Z a b ka cs cz h0 n0 v B.U.heap L ∧ B.locs = P.locs ++ L ∧ B.cells = P.cells + 1 ∧ B.slots = P.slots + 41) := by
  have hws : ∀ d ∈ StrChars.Road.words, d.before a0 Z = true := fun d hd => hw d ((by decide +kernel : ∀ d ∈ StrChars.Road.words, d ∈ tables_1) d hd)
  have bk := StrChars.Road.backV (l := l) (R := R) (p := p) (e := e) (below := below) (args := args) (len := len) (W := W) hZ hws (kI := 4) (hw _ (List.mem_of_getElem? (i := 8) rfl)) (n := cs.length) g_a (O0.1 ▸ O0.2.1) P0 P1 P2 P3 (G0.ext O0.2) hcs rfl rfl h0l (by omega) hch rfl hfr hlo
  intro m meth c A g ig mk v X hg hsize hdg hW hn hp
  obtain ⟨r, B, X', ⟨L, ⟨q1, q2, q3, q4, q5, t, kb, t1, t2, t3, q6, q7⟩, hl1, hl2, hl3⟩, st⟩ := bk m meth c A g ig mk v X hg hsize hdg hW hn ⟨hp.1, hp.2.1, hp.2.2.1, Nat.le_trans (Nat.add_le_add_left hl _) hp.2.2.2⟩
  exact ⟨r, (B.1, B.2.1, B.2.2.1, A.slots + 41), X'.wide (fun x hx _ => hx) (Nat.le_refl _) (by show B.slots ≤ _; rw [hl3]; exact Nat.add_le_add_left hl _), ⟨L, ⟨t, kb, q1, q2, q3, t2, q4, q5, q6, q7⟩, hl1, hl2, rfl⟩, st⟩
def Q_eqL (Z : State) (a : Addr) (t : Addr) (ka : ClassId) (ds : List Int32) (b : Addr) (u : Addr) (kb : ClassId) (cs : List Int32) (cz : Int32) (h0 : Heap) (n0 : Nat) (v : Option Value) (h : Heap) (L : List Loc) : Prop := v = some (.int (if ds = cs then (1 : Int32) else (0 : Int32))) ∧ Fr n0 L ∧ h = h0
theorem own_coda {cs : List Int32} (h : ∀ c ∈ cs, ¬ c < 0 ∧ ¬ (255 : Int32) < c) : StrChars.Road.CodA cs 0 (Int32.ofNat cs.length) ((cs.map fun c => c.toInt8.toInt32).map Value.int) := Or.inl ⟨rfl, rfl, by rw [List.map_map]; rfl, fun c hc => (h c hc).2⟩
theorem own_eqB {p : Program} {l : Launch} {e : Env} {R : Room} {s : State} {args : Array Value} {below : List Frame} {len W : Nat} {Z : State} {a0 : Array Value} (hZ : Z.Warmed39 s.vm) (hw : ∀ d ∈ tables_1, d.before a0 Z = true) (hfr : 2 ≤ R.frames) (hlo : W + 28 ≤ R.locals) (a : Addr) (t : Addr) (ka : ClassId) (ds : List Int32) (b : Addr) (u : Addr) (kb : ClassId) (cs : List Int32) (cz : Int32) (h0 : Heap) (n0 : Nat) (O0 : Old Z n0 h0) (G0 : Sta Z Z.heap "java/lang/String" "COMPACT_STRINGS" "Z" (.int cz)) (P0 : Exa Z h0 a "java/lang/String") (P1 : Fld Z h0 a "java/lang/String" "value" "[B" (.ref t)) (P2 : Fld Z h0 a "java/lang/String" "coder" "B" (.int (0 : Int32))) (P3 : Arv Z h0 t ka .byte (Int32.ofNat ds.length) ((ds.map fun c => c.toInt8.toInt32).map Value.int) (.int (0 : Int32))) (P4 : Exa Z h0 b "java/lang/String") (P5 : Fld Z h0 b "java/lang/String" "value" "[B" (.ref u)) (P6 : Fld Z h0 b "java/lang/String" "coder" "B" (.int (0 : Int32))) (P7 : Arv Z h0 u kb .byte (Int32.ofNat cs.length) ((cs.map fun c => c.toInt8.toInt32).map Value.int) (.int (0 : Int32))) (hcs : ¬ (cz = (0 : Int32))) (hl : cs.length ≤ 41) (hld : ds.length ≤ 41) (hch : ∀ c ∈ cs, ¬ c < 0 ∧ ¬ (255 : Int32) < c) (hchd : ∀ c ∈ ds, ¬ c < 0 ∧ ¬ (255 : Int32) < c) :
    Back l R p e below s args (⟨"java/lang/String", "equals", "(Ljava/lang/Object;)Z"⟩ : MethodName) len W (fun P v => v = #[.ref a, .ref b] ∧ P.U.heap = h0 ∧ P.cells + 0 ≤ R.cells ∧ P.slots + 0 ≤ R.slots)
      (fun P _ v B => ∃ L, Q_eqL Z a t ka ds b u kb cs cz h0 n0 v B.U.heap L ∧ B.locs = P.locs ++ L ∧ B.cells = P.cells + 0 ∧ B.slots = P.slots + 0) := by
  have hws : ∀ d ∈ StrChars.Road.wordsEq, d.before a0 Z = true := fun d hd => hw d ((by decide +kernel : ∀ d ∈ StrChars.Road.wordsEq, d ∈ tables_1) d hd)
  refine Back.mono (StrChars.Road.eqW hZ hws (kI := 4) (hw _ (List.mem_of_getElem? (i := 8) rfl)) P0 P1 P2 P3 (own_coda hchd) (fun c hc => ⟨(hchd c hc).1, own_le255 (hchd c hc).2⟩) (by omega) P4 P5 P6 P7 (own_coda hch) (fun c hc => ⟨(hch c hc).1, own_le255 (hch c hc).2⟩) (by omega) (G0.ext O0.2) hcs hfr hlo) (fun P a hp => hp) (fun P a v B hp hq => ?_)
  obtain ⟨L, ⟨hv, rfl, hh⟩, r1, r2, r3⟩ := hq
  refine ⟨[], ⟨?_, Fr.nil n0, hh⟩, r1, r2, r3⟩
  rcases hv with ⟨rfl, q⟩ | ⟨rfl, q⟩
  · rw [if_pos q]
  · rw [if_neg q]
def Q_biL (Z : State) (b : Addr) (u : Addr) (kb : ClassId) (cs : List Int32) (cz : Int32) (h0 : Heap) (n0 : Nat) (v : Option Value) (h : Heap) (L : List Loc) : Prop := v = some (.int (own_bi cs)) ∧ Fr n0 L ∧ Keep h0 h []
theorem d14_0 : decode prog_109_method_5_code 0 = .ok (.ldc 35, 2) := by decide +kernel
theorem d14_2 : decode prog_109_method_5_code 2 = .ok (.aload_n 0, 1) := by decide +kernel
theorem d14_3 : decode prog_109_method_5_code 3 = .ok (.invokevirtual 15, 3) := by decide +kernel
theorem pd_8 : parseMethodDescriptor "(Ljava/lang/Object;)Z" = some ⟨[(.object "java/lang/Object")], some .boolean⟩ := by decide +kernel
theorem d14_6 : decode prog_109_method_5_code 6 = .ok (.ifCond .ne 30, 3) := by decide +kernel
theorem d14_36 : decode prog_109_method_5_code 36 = .ok (.iconst 1, 1) := by decide +kernel
theorem d14_37 : decode prog_109_method_5_code 37 = .ok (.goto 4, 3) := by decide +kernel
theorem d14_41 : decode prog_109_method_5_code 41 = .ok (.ireturn, 1) := by decide +kernel
theorem pn_15 : plainName "com/example/tsutsumi/tsutsumi/service/SchemaElements" = true := by first | (simp [plainName, overriddenIn]; done) | decide +kernel
theorem ef_14_R (m : MethodId) (x0 : Addr) : entryFrame m #[(.ref x0)] 1 = mkF m 0 #[.val (.ref x0)] [] := by first | (simp [entryFrame, mkF, argsToLocals, Value.category]; done) | rfl
set_option maxRecDepth 65536 in
set_option maxHeartbeats 40000000 in
theorem biL_0 (l : Launch) (Z : State) (a0 : Array Value) (hw : ∀ d ∈ tables_1, d.before a0 Z = true) (ws : List Jvm.Cond) (b : Addr) (u : Addr) (kb : ClassId) (cs : List Int32) (cz : Int32) (h0 : Heap) (n0 : Nat) (O0 : Old Z n0 h0) (G0 : Sta Z Z.heap "java/lang/String" "COMPACT_STRINGS" "Z" (.int cz)) (P0 : Exa Z h0 b "java/lang/String") (P1 : Fld Z h0 b "java/lang/String" "value" "[B" (.ref u)) (P2 : Fld Z h0 b "java/lang/String" "coder" "B" (.int (0 : Int32))) (P3 : Arv Z h0 u kb .byte (Int32.ofNat cs.length) ((cs.map fun c => c.toInt8.toInt32).map Value.int) (.int (0 : Int32))) (hcs : ¬ (cz = (0 : Int32))) (hl : cs.length ≤ 41) (hch : ∀ c ∈ cs, ¬ c < 0 ∧ ¬ (255 : Int32) < c) (he0 : own_U0 = cs) :
    MetFree l (⟨"com/example/tsutsumi/tsutsumi/service/SchemaElements", "isBuiltInNamespace", "(Ljava/lang/String;)Z"⟩ : MethodName) (head1 (Jvm.Cond.code (⟨"com/example/tsutsumi/tsutsumi/service/SchemaElements", "isBuiltInNamespace", "(Ljava/lang/String;)Z"⟩ : MethodName) prog_109_method_5_code 1 (some .boolean) :: ws) ({ frames := 2, cells := 8, slots := 576, locals := 30 } : Room)) (fun zA zU => zA = #[(.ref b)] ∧ Z.Warmed39 zU.vm ∧ zU.heap = h0 ∧ CHv Z own_EL zU.vm h0 ∧ ∀ x ∈ ([] : List Addr), Safe Z own_EL zU.vm h0 x) (fun _ _ _ _ _ => True) (fun _ zU zo zU' => ∃ zv zL, zo = .returned zv ∧ Q_biL Z b u kb cs cz h0 n0 zv zU'.heap zL ∧ CHr Z own_EL zU.vm zU.heap zU'.vm zU'.heap ∧ ReturnedEndW zU zo zU' zL ({ frames := 2, cells := 8, slots := 576, locals := 30 } : Room).cells ({ frames := 2, cells := 8, slots := 576, locals := 30 } : Room).slots) := by
  refine MetFree.of_bodySF (plainFor_of_name pn_15) hisR ?_
  intro p e s m args below meth c s₁ Bd hml0 hP hK
  obtain ⟨rfl, hZ, hh, HC, HS⟩ := hP
  have hx := Bd.exec
  have hby := Bd.bytes
  have hml : c.maxLocals = 1 := hml0
  have hown : s.vm.findClass "com/example/tsutsumi/tsutsumi/service/SchemaElements" = some m.cls := findClass_of_methodNamed Bd.named
  have hnm := (name_of_methodNamed Bd.named Bd.method).1
  have X0 : Stand p l e ({ frames := 2, cells := 8, slots := 576, locals := 30 } : Room) (s.setVm s.vm) m #[(.ref b)] below meth c s₁ [] 0 0 := Stand.of_body Bd
  have e0 : s₁.heap = h0 := by rw [← hh, Bd.state]; rfl
  have N0 := Fr.nil n0
  have Z0 : n0 ≤ h0.size := O0.1 ▸ O0.2.1
  have pre0 : ∀ zt, Steps p.tables e below (s₁.setTop (mkF m 0 #[.val (.ref b)] [])) zt → Steps p.tables e below (s₁.setTop (entryFrame m #[(.ref b)] 1)) zt := fun zt zk => castTop (ef_14_R m b) zk
  have hEL := own_EW hw
  have wS := own_wS hw
  have hS0 : s.Since s.vm 0 := (State.WarmedH.refl s).since 0
  have CR0 : CHr Z own_EL s.vm h0 s.vm h0 := CHr.refl HC
  have hZ0 := hZ
  have hown0 := hown
  obtain ⟨a1, T1, h1, k1, bb1, kb1, X1, e1, E1, hS1, hk1, hZ, hown, Ea1, Fc1, Fv1, Vb1, la1, lb1, CL1, Lt1, Ns1, st1⟩ := ldcCH (s := s) (vm0 := s.vm) X0 hx hZ hown (hw _ (List.mem_of_getElem? (i := 40) rfl)) wS e0 hS0 (Nat.zero_le _) hEL (List.mem_of_getElem? (i := 0) rfl) CR0.1 (vs := ((own_U0.map fun c => c.toInt8.toInt32).map Value.int)) (z := (Int32.ofNat own_U0.length)) ⟨by decide +kernel, by decide +kernel⟩ (by decide +kernel) (by decide +kernel) (g := (mkF m 0 #[.val (.ref b)] [])) rfl (hb hby d14_0) (n := 128) (by decide) (by decide) (by decide) (by decide)
  have hZ1 := hZ
  have hown1 := hown
  have O1 := O0.ext E1
  have K1 : Keep h0 h1 [] := (Keep.refl h0 []).ext E1
  have CR1 := CR0.trans CL1
  obtain ⟨cq2, kq2, q2a, q2b, q2c⟩ := isOf hZ e1 Ea1
  obtain ⟨_, _, ⟨T2, L2, k2, n2⟩, -, X2, ⟨Lc2, hQ2, l2, y2, z2⟩, st2⟩ := X1.virtualBack hx (y := (⟨"java/lang/String", "equals", "(Ljava/lang/Object;)Z"⟩ : MethodName)) (z := (⟨"java/lang/String", "equals", "(Ljava/lang/Object;)Z"⟩ : MethodName)) hown (mvT hZ (hw _ (List.mem_of_getElem? (i := 43) rfl))) (mvT hZ (hw _ (List.mem_of_getElem? (i := 44) rfl))) (notFace_of_selects (args := #[]) (mvT hZ (hw _ (List.mem_of_getElem? (i := 46) rfl)))) (mvT hZ (hw _ (List.mem_of_getElem? (i := 46) rfl))) (mvT hZ (hw _ (List.mem_of_getElem? (i := 45) rfl))) (by decide) (own_eqB (W := 0) hZ hw (by decide) (by decide) a1 bb1 kb1 own_U0 b u kb cs cz h1 n0 O1 G0 Ea1 Fv1 Fc1 Vb1 (P0.ext E1) (P1.ext E1) (P2.ext E1) (P3.ext E1) hcs hl (by decide +kernel) hch (by decide +kernel)) q2a q2c (g := (mkF m 3 #[.val (.ref b)] [(.ref b), (.ref a1)])) rfl (by rw [hml]; rfl) (Steps.refl _) (argsL := [(.ref b)]) (rest := []) (lenOf pd_8 rfl) rfl (by show 2 * 0 + _ ≤ _; exact Nat.le_of_eq rfl) (hb hby d14_3) (fun _ _ => ⟨rfl, e1, (by decide : 2 + 0 ≤ _), (by decide : 132 + 0 ≤ _)⟩)
  dsimp only [Pt.U, Pt.locs, Pt.cells, Pt.slots] at X2 l2 y2 z2 st2 hQ2
  subst l2 y2 z2
  obtain ⟨rfl, Nq2, kh2⟩ := hQ2
  have N2 := Fr.app N0 Nq2
  obtain ⟨fs, hr, hrun, hended, hRW⟩ := X2.leaveW (s := s) hS1 (own_hk kh2 hk1) (v := some (.int (1 : Int32))) (fun h => by rw [Bd.returns] at h; cases h)
  have CE := CR1.trans (CHv.at (s := s) (vm0 := T1.vm) X2 hZ hEL CR1.1)
  refine ⟨_, _, pre0 _ ?_, hrun, hended, _, _, rfl, ?_, ?_, own_rw_mono hRW (by decide) (by decide)⟩
  · show Steps p.tables e below (s₁.setTop (mkF m 0 #[.val (.ref b)] [])) _
    refine st1 _ ?_
    show Steps p.tables e below (T1.setTop (mkF m 2 #[.val (.ref b)] [(.ref a1)])) _
    refine XS.aloadN X1.here hx rfl (hb hby d14_2) rfl rfl ?_
    show Steps p.tables e below (T1.setTop (mkF m 3 #[.val (.ref b)] [(.ref b), (.ref a1)])) _
    refine st2.trans ?_
    show Steps p.tables e below (T2.setTop (mkF m 6 #[.val (.ref b)] [(.int (if own_U0 = cs then (1 : Int32) else (0 : Int32)))])) _
    refine castTop (congrArg (fun z_ => (mkF m 6 #[.val (.ref b)] [(.int z_)])) (if_pos he0 : (if own_U0 = cs then (1 : Int32) else (0 : Int32)) = (1 : Int32))) ?_
    show Steps p.tables e below (T2.setTop (mkF m 6 #[.val (.ref b)] [(.int (1 : Int32))])) _
    refine XS.ifYes X2.here hx rfl (pc0 := 6) (pc' := 36) rfl (hb hby d14_6) rfl ((if0 _ _).trans (feq (by decide : ¬ ((1 : Int32) = (0 : Int32)))).2) (by decide) (by decide) ?_
    show Steps p.tables e below (T2.setTop (mkF m 36 #[.val (.ref b)] [])) _
    refine XS.iconst X2.here hx rfl (hb hby d14_36) ?_
    show Steps p.tables e below (T2.setTop (mkF m 37 #[.val (.ref b)] [(.int (1 : Int32))])) _
    refine XS.goto X2.here hx rfl (pc0 := 37) (pc' := 41) rfl (hb hby d14_37) (by decide) (by decide) ?_
    show Steps p.tables e below (T2.setTop (mkF m 41 #[.val (.ref b)] [(.int (1 : Int32))])) _
    exact retN X2 hx (t := .boolean) Bd.returns (by simp) (hb hby d14_41) hr
  · show Q_biL Z b u kb cs cz h0 n0 _ T2.heap _
    rw [kh2]
    exact ⟨(by rw [show own_bi cs = 1 from by rw [← he0]; decide +kernel]), N2, K1⟩
  · show CHr Z own_EL s.vm s.heap T2.vm T2.heap
    rw [hh, kh2]; exact CE
theorem d14_9 : decode prog_109_method_5_code 9 = .ok (.ldc 68, 2) := by decide +kernel
theorem d14_11 : decode prog_109_method_5_code 11 = .ok (.aload_n 0, 1) := by decide +kernel
theorem d14_12 : decode prog_109_method_5_code 12 = .ok (.invokevirtual 15, 3) := by decide +kernel
theorem d14_15 : decode prog_109_method_5_code 15 = .ok (.ifCond .ne 21, 3) := by decide +kernel
set_option maxRecDepth 65536 in
set_option maxHeartbeats 40000000 in
theorem biL_1 (l : Launch) (Z : State) (a0 : Array Value) (hw : ∀ d ∈ tables_1, d.before a0 Z = true) (ws : List Jvm.Cond) (b : Addr) (u : Addr) (kb : ClassId) (cs : List Int32) (cz : Int32) (h0 : Heap) (n0 : Nat) (O0 : Old Z n0 h0) (G0 : Sta Z Z.heap "java/lang/String" "COMPACT_STRINGS" "Z" (.int cz)) (P0 : Exa Z h0 b "java/lang/String") (P1 : Fld Z h0 b "java/lang/String" "value" "[B" (.ref u)) (P2 : Fld Z h0 b "java/lang/String" "coder" "B" (.int (0 : Int32))) (P3 : Arv Z h0 u kb .byte (Int32.ofNat cs.length) ((cs.map fun c => c.toInt8.toInt32).map Value.int) (.int (0 : Int32))) (hcs : ¬ (cz = (0 : Int32))) (hl : cs.length ≤ 41) (hch : ∀ c ∈ cs, ¬ c < 0 ∧ ¬ (255 : Int32) < c) (he0 : ¬ (own_U0 = cs)) (he1 : own_U1 = cs) :
    MetFree l (⟨"com/example/tsutsumi/tsutsumi/service/SchemaElements", "isBuiltInNamespace", "(Ljava/lang/String;)Z"⟩ : MethodName) (head1 (Jvm.Cond.code (⟨"com/example/tsutsumi/tsutsumi/service/SchemaElements", "isBuiltInNamespace", "(Ljava/lang/String;)Z"⟩ : MethodName) prog_109_method_5_code 1 (some .boolean) :: ws) ({ frames := 2, cells := 8, slots := 576, locals := 30 } : Room)) (fun zA zU => zA = #[(.ref b)] ∧ Z.Warmed39 zU.vm ∧ zU.heap = h0 ∧ CHv Z own_EL zU.vm h0 ∧ ∀ x ∈ ([] : List Addr), Safe Z own_EL zU.vm h0 x) (fun _ _ _ _ _ => True) (fun _ zU zo zU' => ∃ zv zL, zo = .returned zv ∧ Q_biL Z b u kb cs cz h0 n0 zv zU'.heap zL ∧ CHr Z own_EL zU.vm zU.heap zU'.vm zU'.heap ∧ ReturnedEndW zU zo zU' zL ({ frames := 2, cells := 8, slots := 576, locals := 30 } : Room).cells ({ frames := 2, cells := 8, slots := 576, locals := 30 } : Room).slots) := by
  refine MetFree.of_bodySF (plainFor_of_name pn_15) hisR ?_
  intro p e s m args below meth c s₁ Bd hml0 hP hK
  obtain ⟨rfl, hZ, hh, HC, HS⟩ := hP
  have hx := Bd.exec
  have hby := Bd.bytes
  have hml : c.maxLocals = 1 := hml0
  have hown : s.vm.findClass "com/example/tsutsumi/tsutsumi/service/SchemaElements" = some m.cls := findClass_of_methodNamed Bd.named
  have hnm := (name_of_methodNamed Bd.named Bd.method).1
  have X0 : Stand p l e ({ frames := 2, cells := 8, slots := 576, locals := 30 } : Room) (s.setVm s.vm) m #[(.ref b)] below meth c s₁ [] 0 0 := Stand.of_body Bd
  have e0 : s₁.heap = h0 := by rw [← hh, Bd.state]; rfl
  have N0 := Fr.nil n0
  have Z0 : n0 ≤ h0.size := O0.1 ▸ O0.2.1
  have pre0 : ∀ zt, Steps p.tables e below (s₁.setTop (mkF m 0 #[.val (.ref b)] [])) zt → Steps p.tables e below (s₁.setTop (entryFrame m #[(.ref b)] 1)) zt := fun zt zk => castTop (ef_14_R m b) zk
  have hEL := own_EW hw
  have wS := own_wS hw
  have hS0 : s.Since s.vm 0 := (State.WarmedH.refl s).since 0
  have CR0 : CHr Z own_EL s.vm h0 s.vm h0 := CHr.refl HC
  have hZ0 := hZ
  have hown0 := hown
  obtain ⟨a1, T1, h1, k1, bb1, kb1, X1, e1, E1, hS1, hk1, hZ, hown, Ea1, Fc1, Fv1, Vb1, la1, lb1, CL1, Lt1, Ns1, st1⟩ := ldcCH (s := s) (vm0 := s.vm) X0 hx hZ hown (hw _ (List.mem_of_getElem? (i := 40) rfl)) wS e0 hS0 (Nat.zero_le _) hEL (List.mem_of_getElem? (i := 0) rfl) CR0.1 (vs := ((own_U0.map fun c => c.toInt8.toInt32).map Value.int)) (z := (Int32.ofNat own_U0.length)) ⟨by decide +kernel, by decide +kernel⟩ (by decide +kernel) (by decide +kernel) (g := (mkF m 0 #[.val (.ref b)] [])) rfl (hb hby d14_0) (n := 128) (by decide) (by decide) (by decide) (by decide)
  have hZ1 := hZ
  have hown1 := hown
  have O1 := O0.ext E1
  have K1 : Keep h0 h1 [] := (Keep.refl h0 []).ext E1
  have CR1 := CR0.trans CL1
  obtain ⟨cq2, kq2, q2a, q2b, q2c⟩ := isOf hZ e1 Ea1
  obtain ⟨_, _, ⟨T2, L2, k2, n2⟩, -, X2, ⟨Lc2, hQ2, l2, y2, z2⟩, st2⟩ := X1.virtualBack hx (y := (⟨"java/lang/String", "equals", "(Ljava/lang/Object;)Z"⟩ : MethodName)) (z := (⟨"java/lang/String", "equals", "(Ljava/lang/Object;)Z"⟩ : MethodName)) hown (mvT hZ (hw _ (List.mem_of_getElem? (i := 43) rfl))) (mvT hZ (hw _ (List.mem_of_getElem? (i := 44) rfl))) (notFace_of_selects (args := #[]) (mvT hZ (hw _ (List.mem_of_getElem? (i := 46) rfl)))) (mvT hZ (hw _ (List.mem_of_getElem? (i := 46) rfl))) (mvT hZ (hw _ (List.mem_of_getElem? (i := 45) rfl))) (by decide) (own_eqB (W := 0) hZ hw (by decide) (by decide) a1 bb1 kb1 own_U0 b u kb cs cz h1 n0 O1 G0 Ea1 Fv1 Fc1 Vb1 (P0.ext E1) (P1.ext E1) (P2.ext E1) (P3.ext E1) hcs hl (by decide +kernel) hch (by decide +kernel)) q2a q2c (g := (mkF m 3 #[.val (.ref b)] [(.ref b), (.ref a1)])) rfl (by rw [hml]; rfl) (Steps.refl _) (argsL := [(.ref b)]) (rest := []) (lenOf pd_8 rfl) rfl (by show 2 * 0 + _ ≤ _; exact Nat.le_of_eq rfl) (hb hby d14_3) (fun _ _ => ⟨rfl, e1, (by decide : 2 + 0 ≤ _), (by decide : 132 + 0 ≤ _)⟩)
  dsimp only [Pt.U, Pt.locs, Pt.cells, Pt.slots] at X2 l2 y2 z2 st2 hQ2
  subst l2 y2 z2
  obtain ⟨rfl, Nq2, kh2⟩ := hQ2
  have N2 := Fr.app N0 Nq2
  obtain ⟨a3, T3, h3, k3, bb3, kb3, X3, e3, E3, hS3, hk3, hZ, hown, Ea3, Fc3, Fv3, Vb3, la3, lb3, CL3, Lt3, Ns3, st3⟩ := ldcCH (s := s) (vm0 := T1.vm) X2 hx hZ hown (hw _ (List.mem_of_getElem? (i := 53) rfl)) wS kh2 hS1 hk1 hEL (List.mem_of_getElem? (i := 1) rfl) CR1.1 (vs := ((own_U1.map fun c => c.toInt8.toInt32).map Value.int)) (z := (Int32.ofNat own_U1.length)) ⟨by decide +kernel, by decide +kernel⟩ (by decide +kernel) (by decide +kernel) (g := (mkF m 9 #[.val (.ref b)] [])) rfl (hb hby d14_9) (n := 140) (by decide) (by decide) (by decide) (by decide)
  have hZ3 := hZ
  have hown3 := hown
  have O3 := O1.ext E3
  have K3 : Keep h0 h3 [] := K1.ext E3
  have CR3 := CR1.trans CL3
  obtain ⟨cq4, kq4, q4a, q4b, q4c⟩ := isOf hZ e3 Ea3
  obtain ⟨_, _, ⟨T4, L4, k4, n4⟩, -, X4, ⟨Lc4, hQ4, l4, y4, z4⟩, st4⟩ := X3.virtualBack hx (y := (⟨"java/lang/String", "equals", "(Ljava/lang/Object;)Z"⟩ : MethodName)) (z := (⟨"java/lang/String", "equals", "(Ljava/lang/Object;)Z"⟩ : MethodName)) hown (mvT hZ (hw _ (List.mem_of_getElem? (i := 43) rfl))) (mvT hZ (hw _ (List.mem_of_getElem? (i := 44) rfl))) (notFace_of_selects (args := #[]) (mvT hZ (hw _ (List.mem_of_getElem? (i := 46) rfl)))) (mvT hZ (hw _ (List.mem_of_getElem? (i := 46) rfl))) (mvT hZ (hw _ (List.mem_of_getElem? (i := 45) rfl))) (by decide) (own_eqB (W := 0) hZ hw (by decide) (by decide) a3 bb3 kb3 own_U1 b u kb cs cz h3 n0 O3 G0 Ea3 Fv3 Fc3 Vb3 ((P0.ext E1).ext E3) ((P1.ext E1).ext E3) ((P2.ext E1).ext E3) ((P3.ext E1).ext E3) hcs hl (by decide +kernel) hch (by decide +kernel)) q4a q4c (g := (mkF m 12 #[.val (.ref b)] [(.ref b), (.ref a3)])) rfl (by rw [hml]; rfl) (Steps.refl _) (argsL := [(.ref b)]) (rest := []) (lenOf pd_8 rfl) rfl (by show 2 * 0 + _ ≤ _; exact Nat.le_of_eq rfl) (hb hby d14_12) (fun _ _ => ⟨rfl, e3, (by decide : 4 + 0 ≤ _), (by decide : 276 + 0 ≤ _)⟩)
  dsimp only [Pt.U, Pt.locs, Pt.cells, Pt.slots] at X4 l4 y4 z4 st4 hQ4
  subst l4 y4 z4
  obtain ⟨rfl, Nq4, kh4⟩ := hQ4
  have N4 := Fr.app N2 Nq4
  obtain ⟨fs, hr, hrun, hended, hRW⟩ := X4.leaveW (s := s) hS3 (own_hk kh4 hk3) (v := some (.int (1 : Int32))) (fun h => by rw [Bd.returns] at h; cases h)
  have CE := CR3.trans (CHv.at (s := s) (vm0 := T3.vm) X4 hZ hEL CR3.1)
  refine ⟨_, _, pre0 _ ?_, hrun, hended, _, _, rfl, ?_, ?_, own_rw_mono hRW (by decide) (by decide)⟩
  · show Steps p.tables e below (s₁.setTop (mkF m 0 #[.val (.ref b)] [])) _
    refine st1 _ ?_
    show Steps p.tables e below (T1.setTop (mkF m 2 #[.val (.ref b)] [(.ref a1)])) _
    refine XS.aloadN X1.here hx rfl (hb hby d14_2) rfl rfl ?_
    show Steps p.tables e below (T1.setTop (mkF m 3 #[.val (.ref b)] [(.ref b), (.ref a1)])) _
    refine st2.trans ?_
    show Steps p.tables e below (T2.setTop (mkF m 6 #[.val (.ref b)] [(.int (if own_U0 = cs then (1 : Int32) else (0 : Int32)))])) _
    refine castTop (congrArg (fun z_ => (mkF m 6 #[.val (.ref b)] [(.int z_)])) (if_neg he0 : (if own_U0 = cs then (1 : Int32) else (0 : Int32)) = (0 : Int32))) ?_
    show Steps p.tables e below (T2.setTop (mkF m 6 #[.val (.ref b)] [(.int (0 : Int32))])) _
    refine XS.ifNo X2.here hx rfl (hb hby d14_6) rfl ((if0 _ _).trans (teq (by decide : (0 : Int32) = (0 : Int32))).2) ?_
    show Steps p.tables e below (T2.setTop (mkF m 9 #[.val (.ref b)] [])) _
    refine st3 _ ?_
    show Steps p.tables e below (T3.setTop (mkF m 11 #[.val (.ref b)] [(.ref a3)])) _
    refine XS.aloadN X3.here hx rfl (hb hby d14_11) rfl rfl ?_
    show Steps p.tables e below (T3.setTop (mkF m 12 #[.val (.ref b)] [(.ref b), (.ref a3)])) _
    refine st4.trans ?_
    show Steps p.tables e below (T4.setTop (mkF m 15 #[.val (.ref b)] [(.int (if own_U1 = cs then (1 : Int32) else (0 : Int32)))])) _
    refine castTop (congrArg (fun z_ => (mkF m 15 #[.val (.ref b)] [(.int z_)])) (if_pos he1 : (if own_U1 = cs then (1 : Int32) else (0 : Int32)) = (1 : Int32))) ?_
    show Steps p.tables e below (T4.setTop (mkF m 15 #[.val (.ref b)] [(.int (1 : Int32))])) _
    refine XS.ifYes X4.here hx rfl (pc0 := 15) (pc' := 36) rfl (hb hby d14_15) rfl ((if0 _ _).trans (feq (by decide : ¬ ((1 : Int32) = (0 : Int32)))).2) (by decide) (by decide) ?_
    show Steps p.tables e below (T4.setTop (mkF m 36 #[.val (.ref b)] [])) _
    refine XS.iconst X4.here hx rfl (hb hby d14_36) ?_
    show Steps p.tables e below (T4.setTop (mkF m 37 #[.val (.ref b)] [(.int (1 : Int32))])) _
    refine XS.goto X4.here hx rfl (pc0 := 37) (pc' := 41) rfl (hb hby d14_37) (by decide) (by decide) ?_
    show Steps p.tables e below (T4.setTop (mkF m 41 #[.val (.ref b)] [(.int (1 : Int32))])) _
    exact retN X4 hx (t := .boolean) Bd.returns (by simp) (hb hby d14_41) hr
  · show Q_biL Z b u kb cs cz h0 n0 _ T4.heap _
    rw [kh4]
    exact ⟨(by rw [show own_bi cs = 1 from by rw [← he1]; decide +kernel]), N4, K3⟩
  · show CHr Z own_EL s.vm s.heap T4.vm T4.heap
    rw [hh, kh4]; exact CE
theorem d14_18 : decode prog_109_method_5_code 18 = .ok (.ldc 70, 2) := by decide +kernel
theorem d14_20 : decode prog_109_method_5_code 20 = .ok (.aload_n 0, 1) := by decide +kernel
theorem d14_21 : decode prog_109_method_5_code 21 = .ok (.invokevirtual 15, 3) := by decide +kernel
theorem d14_24 : decode prog_109_method_5_code 24 = .ok (.ifCond .ne 12, 3) := by decide +kernel
set_option maxRecDepth 65536 in
set_option maxHeartbeats 40000000 in
theorem biL_2 (l : Launch) (Z : State) (a0 : Array Value) (hw : ∀ d ∈ tables_1, d.before a0 Z = true) (ws : List Jvm.Cond) (b : Addr) (u : Addr) (kb : ClassId) (cs : List Int32) (cz : Int32) (h0 : Heap) (n0 : Nat) (O0 : Old Z n0 h0) (G0 : Sta Z Z.heap "java/lang/String" "COMPACT_STRINGS" "Z" (.int cz)) (P0 : Exa Z h0 b "java/lang/String") (P1 : Fld Z h0 b "java/lang/String" "value" "[B" (.ref u)) (P2 : Fld Z h0 b "java/lang/String" "coder" "B" (.int (0 : Int32))) (P3 : Arv Z h0 u kb .byte (Int32.ofNat cs.length) ((cs.map fun c => c.toInt8.toInt32).map Value.int) (.int (0 : Int32))) (hcs : ¬ (cz = (0 : Int32))) (hl : cs.length ≤ 41) (hch : ∀ c ∈ cs, ¬ c < 0 ∧ ¬ (255 : Int32) < c) (he0 : ¬ (own_U0 = cs)) (he1 : ¬ (own_U1 = cs)) (he2 : own_U2 = cs) :
    MetFree l (⟨"com/example/tsutsumi/tsutsumi/service/SchemaElements", "isBuiltInNamespace", "(Ljava/lang/String;)Z"⟩ : MethodName) (head1 (Jvm.Cond.code (⟨"com/example/tsutsumi/tsutsumi/service/SchemaElements", "isBuiltInNamespace", "(Ljava/lang/String;)Z"⟩ : MethodName) prog_109_method_5_code 1 (some .boolean) :: ws) ({ frames := 2, cells := 8, slots := 576, locals := 30 } : Room)) (fun zA zU => zA = #[(.ref b)] ∧ Z.Warmed39 zU.vm ∧ zU.heap = h0 ∧ CHv Z own_EL zU.vm h0 ∧ ∀ x ∈ ([] : List Addr), Safe Z own_EL zU.vm h0 x) (fun _ _ _ _ _ => True) (fun _ zU zo zU' => ∃ zv zL, zo = .returned zv ∧ Q_biL Z b u kb cs cz h0 n0 zv zU'.heap zL ∧ CHr Z own_EL zU.vm zU.heap zU'.vm zU'.heap ∧ ReturnedEndW zU zo zU' zL ({ frames := 2, cells := 8, slots := 576, locals := 30 } : Room).cells ({ frames := 2, cells := 8, slots := 576, locals := 30 } : Room).slots) := by
  refine MetFree.of_bodySF (plainFor_of_name pn_15) hisR ?_
  intro p e s m args below meth c s₁ Bd hml0 hP hK
  obtain ⟨rfl, hZ, hh, HC, HS⟩ := hP
  have hx := Bd.exec
  have hby := Bd.bytes
  have hml : c.maxLocals = 1 := hml0
  have hown : s.vm.findClass "com/example/tsutsumi/tsutsumi/service/SchemaElements" = some m.cls := findClass_of_methodNamed Bd.named
  have hnm := (name_of_methodNamed Bd.named Bd.method).1
  have X0 : Stand p l e ({ frames := 2, cells := 8, slots := 576, locals := 30 } : Room) (s.setVm s.vm) m #[(.ref b)] below meth c s₁ [] 0 0 := Stand.of_body Bd
  have e0 : s₁.heap = h0 := by rw [← hh, Bd.state]; rfl
  have N0 := Fr.nil n0
  have Z0 : n0 ≤ h0.size := O0.1 ▸ O0.2.1
  have pre0 : ∀ zt, Steps p.tables e below (s₁.setTop (mkF m 0 #[.val (.ref b)] [])) zt → Steps p.tables e below (s₁.setTop (entryFrame m #[(.ref b)] 1)) zt := fun zt zk => castTop (ef_14_R m b) zk
  have hEL := own_EW hw
  have wS := own_wS hw
  have hS0 : s.Since s.vm 0 := (State.WarmedH.refl s).since 0
  have CR0 : CHr Z own_EL s.vm h0 s.vm h0 := CHr.refl HC
  have hZ0 := hZ
  have hown0 := hown
  obtain ⟨a1, T1, h1, k1, bb1, kb1, X1, e1, E1, hS1, hk1, hZ, hown, Ea1, Fc1, Fv1, Vb1, la1, lb1, CL1, Lt1, Ns1, st1⟩ := ldcCH (s := s) (vm0 := s.vm) X0 hx hZ hown (hw _ (List.mem_of_getElem? (i := 40) rfl)) wS e0 hS0 (Nat.zero_le _) hEL (List.mem_of_getElem? (i := 0) rfl) CR0.1 (vs := ((own_U0.map fun c => c.toInt8.toInt32).map Value.int)) (z := (Int32.ofNat own_U0.length)) ⟨by decide +kernel, by decide +kernel⟩ (by decide +kernel) (by decide +kernel) (g := (mkF m 0 #[.val (.ref b)] [])) rfl (hb hby d14_0) (n := 128) (by decide) (by decide) (by decide) (by decide)
  have hZ1 := hZ
  have hown1 := hown
  have O1 := O0.ext E1
  have K1 : Keep h0 h1 [] := (Keep.refl h0 []).ext E1
  have CR1 := CR0.trans CL1
  obtain ⟨cq2, kq2, q2a, q2b, q2c⟩ := isOf hZ e1 Ea1
  obtain ⟨_, _, ⟨T2, L2, k2, n2⟩, -, X2, ⟨Lc2, hQ2, l2, y2, z2⟩, st2⟩ := X1.virtualBack hx (y := (⟨"java/lang/String", "equals", "(Ljava/lang/Object;)Z"⟩ : MethodName)) (z := (⟨"java/lang/String", "equals", "(Ljava/lang/Object;)Z"⟩ : MethodName)) hown (mvT hZ (hw _ (List.mem_of_getElem? (i := 43) rfl))) (mvT hZ (hw _ (List.mem_of_getElem? (i := 44) rfl))) (notFace_of_selects (args := #[]) (mvT hZ (hw _ (List.mem_of_getElem? (i := 46) rfl)))) (mvT hZ (hw _ (List.mem_of_getElem? (i := 46) rfl))) (mvT hZ (hw _ (List.mem_of_getElem? (i := 45) rfl))) (by decide) (own_eqB (W := 0) hZ hw (by decide) (by decide) a1 bb1 kb1 own_U0 b u kb cs cz h1 n0 O1 G0 Ea1 Fv1 Fc1 Vb1 (P0.ext E1) (P1.ext E1) (P2.ext E1) (P3.ext E1) hcs hl (by decide +kernel) hch (by decide +kernel)) q2a q2c (g := (mkF m 3 #[.val (.ref b)] [(.ref b), (.ref a1)])) rfl (by rw [hml]; rfl) (Steps.refl _) (argsL := [(.ref b)]) (rest := []) (lenOf pd_8 rfl) rfl (by show 2 * 0 + _ ≤ _; exact Nat.le_of_eq rfl) (hb hby d14_3) (fun _ _ => ⟨rfl, e1, (by decide : 2 + 0 ≤ _), (by decide : 132 + 0 ≤ _)⟩)
  dsimp only [Pt.U, Pt.locs, Pt.cells, Pt.slots] at X2 l2 y2 z2 st2 hQ2
  subst l2 y2 z2
  obtain ⟨rfl, Nq2, kh2⟩ := hQ2
  have N2 := Fr.app N0 Nq2
  obtain ⟨a3, T3, h3, k3, bb3, kb3, X3, e3, E3, hS3, hk3, hZ, hown, Ea3, Fc3, Fv3, Vb3, la3, lb3, CL3, Lt3, Ns3, st3⟩ := ldcCH (s := s) (vm0 := T1.vm) X2 hx hZ hown (hw _ (List.mem_of_getElem? (i := 53) rfl)) wS kh2 hS1 hk1 hEL (List.mem_of_getElem? (i := 1) rfl) CR1.1 (vs := ((own_U1.map fun c => c.toInt8.toInt32).map Value.int)) (z := (Int32.ofNat own_U1.length)) ⟨by decide +kernel, by decide +kernel⟩ (by decide +kernel) (by decide +kernel) (g := (mkF m 9 #[.val (.ref b)] [])) rfl (hb hby d14_9) (n := 140) (by decide) (by decide) (by decide) (by decide)
  have hZ3 := hZ
  have hown3 := hown
  have O3 := O1.ext E3
  have K3 : Keep h0 h3 [] := K1.ext E3
  have CR3 := CR1.trans CL3
  obtain ⟨cq4, kq4, q4a, q4b, q4c⟩ := isOf hZ e3 Ea3
  obtain ⟨_, _, ⟨T4, L4, k4, n4⟩, -, X4, ⟨Lc4, hQ4, l4, y4, z4⟩, st4⟩ := X3.virtualBack hx (y := (⟨"java/lang/String", "equals", "(Ljava/lang/Object;)Z"⟩ : MethodName)) (z := (⟨"java/lang/String", "equals", "(Ljava/lang/Object;)Z"⟩ : MethodName)) hown (mvT hZ (hw _ (List.mem_of_getElem? (i := 43) rfl))) (mvT hZ (hw _ (List.mem_of_getElem? (i := 44) rfl))) (notFace_of_selects (args := #[]) (mvT hZ (hw _ (List.mem_of_getElem? (i := 46) rfl)))) (mvT hZ (hw _ (List.mem_of_getElem? (i := 46) rfl))) (mvT hZ (hw _ (List.mem_of_getElem? (i := 45) rfl))) (by decide) (own_eqB (W := 0) hZ hw (by decide) (by decide) a3 bb3 kb3 own_U1 b u kb cs cz h3 n0 O3 G0 Ea3 Fv3 Fc3 Vb3 ((P0.ext E1).ext E3) ((P1.ext E1).ext E3) ((P2.ext E1).ext E3) ((P3.ext E1).ext E3) hcs hl (by decide +kernel) hch (by decide +kernel)) q4a q4c (g := (mkF m 12 #[.val (.ref b)] [(.ref b), (.ref a3)])) rfl (by rw [hml]; rfl) (Steps.refl _) (argsL := [(.ref b)]) (rest := []) (lenOf pd_8 rfl) rfl (by show 2 * 0 + _ ≤ _; exact Nat.le_of_eq rfl) (hb hby d14_12) (fun _ _ => ⟨rfl, e3, (by decide : 4 + 0 ≤ _), (by decide : 276 + 0 ≤ _)⟩)
  dsimp only [Pt.U, Pt.locs, Pt.cells, Pt.slots] at X4 l4 y4 z4 st4 hQ4
  subst l4 y4 z4
  obtain ⟨rfl, Nq4, kh4⟩ := hQ4
  have N4 := Fr.app N2 Nq4
  obtain ⟨a5, T5, h5, k5, bb5, kb5, X5, e5, E5, hS5, hk5, hZ, hown, Ea5, Fc5, Fv5, Vb5, la5, lb5, CL5, Lt5, Ns5, st5⟩ := ldcCH (s := s) (vm0 := T3.vm) X4 hx hZ hown (hw _ (List.mem_of_getElem? (i := 54) rfl)) wS kh4 hS3 hk3 hEL (List.mem_of_getElem? (i := 2) rfl) CR3.1 (vs := ((own_U2.map fun c => c.toInt8.toInt32).map Value.int)) (z := (Int32.ofNat own_U2.length)) ⟨by decide +kernel, by decide +kernel⟩ (by decide +kernel) (by decide +kernel) (g := (mkF m 18 #[.val (.ref b)] [])) rfl (hb hby d14_18) (n := 128) (by decide) (by decide) (by decide) (by decide)
  have hZ5 := hZ
  have hown5 := hown
  have O5 := O3.ext E5
  have K5 : Keep h0 h5 [] := K3.ext E5
  have CR5 := CR3.trans CL5
  obtain ⟨cq6, kq6, q6a, q6b, q6c⟩ := isOf hZ e5 Ea5
  obtain ⟨_, _, ⟨T6, L6, k6, n6⟩, -, X6, ⟨Lc6, hQ6, l6, y6, z6⟩, st6⟩ := X5.virtualBack hx (y := (⟨"java/lang/String", "equals", "(Ljava/lang/Object;)Z"⟩ : MethodName)) (z := (⟨"java/lang/String", "equals", "(Ljava/lang/Object;)Z"⟩ : MethodName)) hown (mvT hZ (hw _ (List.mem_of_getElem? (i := 43) rfl))) (mvT hZ (hw _ (List.mem_of_getElem? (i := 44) rfl))) (notFace_of_selects (args := #[]) (mvT hZ (hw _ (List.mem_of_getElem? (i := 46) rfl)))) (mvT hZ (hw _ (List.mem_of_getElem? (i := 46) rfl))) (mvT hZ (hw _ (List.mem_of_getElem? (i := 45) rfl))) (by decide) (own_eqB (W := 0) hZ hw (by decide) (by decide) a5 bb5 kb5 own_U2 b u kb cs cz h5 n0 O5 G0 Ea5 Fv5 Fc5 Vb5 (((P0.ext E1).ext E3).ext E5) (((P1.ext E1).ext E3).ext E5) (((P2.ext E1).ext E3).ext E5) (((P3.ext E1).ext E3).ext E5) hcs hl (by decide +kernel) hch (by decide +kernel)) q6a q6c (g := (mkF m 21 #[.val (.ref b)] [(.ref b), (.ref a5)])) rfl (by rw [hml]; rfl) (Steps.refl _) (argsL := [(.ref b)]) (rest := []) (lenOf pd_8 rfl) rfl (by show 2 * 0 + _ ≤ _; exact Nat.le_of_eq rfl) (hb hby d14_21) (fun _ _ => ⟨rfl, e5, (by decide : 6 + 0 ≤ _), (by decide : 408 + 0 ≤ _)⟩)
  dsimp only [Pt.U, Pt.locs, Pt.cells, Pt.slots] at X6 l6 y6 z6 st6 hQ6
  subst l6 y6 z6
  obtain ⟨rfl, Nq6, kh6⟩ := hQ6
  have N6 := Fr.app N4 Nq6
  obtain ⟨fs, hr, hrun, hended, hRW⟩ := X6.leaveW (s := s) hS5 (own_hk kh6 hk5) (v := some (.int (1 : Int32))) (fun h => by rw [Bd.returns] at h; cases h)
  have CE := CR5.trans (CHv.at (s := s) (vm0 := T5.vm) X6 hZ hEL CR5.1)
  refine ⟨_, _, pre0 _ ?_, hrun, hended, _, _, rfl, ?_, ?_, own_rw_mono hRW (by decide) (by decide)⟩
  · show Steps p.tables e below (s₁.setTop (mkF m 0 #[.val (.ref b)] [])) _
    refine st1 _ ?_
    show Steps p.tables e below (T1.setTop (mkF m 2 #[.val (.ref b)] [(.ref a1)])) _
    refine XS.aloadN X1.here hx rfl (hb hby d14_2) rfl rfl ?_
    show Steps p.tables e below (T1.setTop (mkF m 3 #[.val (.ref b)] [(.ref b), (.ref a1)])) _
    refine st2.trans ?_
    show Steps p.tables e below (T2.setTop (mkF m 6 #[.val (.ref b)] [(.int (if own_U0 = cs then (1 : Int32) else (0 : Int32)))])) _
    refine castTop (congrArg (fun z_ => (mkF m 6 #[.val (.ref b)] [(.int z_)])) (if_neg he0 : (if own_U0 = cs then (1 : Int32) else (0 : Int32)) = (0 : Int32))) ?_
    show Steps p.tables e below (T2.setTop (mkF m 6 #[.val (.ref b)] [(.int (0 : Int32))])) _
    refine XS.ifNo X2.here hx rfl (hb hby d14_6) rfl ((if0 _ _).trans (teq (by decide : (0 : Int32) = (0 : Int32))).2) ?_
    show Steps p.tables e below (T2.setTop (mkF m 9 #[.val (.ref b)] [])) _
    refine st3 _ ?_
    show Steps p.tables e below (T3.setTop (mkF m 11 #[.val (.ref b)] [(.ref a3)])) _
    refine XS.aloadN X3.here hx rfl (hb hby d14_11) rfl rfl ?_
    show Steps p.tables e below (T3.setTop (mkF m 12 #[.val (.ref b)] [(.ref b), (.ref a3)])) _
    refine st4.trans ?_
    show Steps p.tables e below (T4.setTop (mkF m 15 #[.val (.ref b)] [(.int (if own_U1 = cs then (1 : Int32) else (0 : Int32)))])) _
    refine castTop (congrArg (fun z_ => (mkF m 15 #[.val (.ref b)] [(.int z_)])) (if_neg he1 : (if own_U1 = cs then (1 : Int32) else (0 : Int32)) = (0 : Int32))) ?_
    show Steps p.tables e below (T4.setTop (mkF m 15 #[.val (.ref b)] [(.int (0 : Int32))])) _
    refine XS.ifNo X4.here hx rfl (hb hby d14_15) rfl ((if0 _ _).trans (teq (by decide : (0 : Int32) = (0 : Int32))).2) ?_
    show Steps p.tables e below (T4.setTop (mkF m 18 #[.val (.ref b)] [])) _
    refine st5 _ ?_
    show Steps p.tables e below (T5.setTop (mkF m 20 #[.val (.ref b)] [(.ref a5)])) _
    refine XS.aloadN X5.here hx rfl (hb hby d14_20) rfl rfl ?_
    show Steps p.tables e below (T5.setTop (mkF m 21 #[.val (.ref b)] [(.ref b), (.ref a5)])) _
    refine st6.trans ?_
    show Steps p.tables e below (T6.setTop (mkF m 24 #[.val (.ref b)] [(.int (if own_U2 = cs then (1 : Int32) else (0 : Int32)))])) _
    refine castTop (congrArg (fun z_ => (mkF m 24 #[.val (.ref b)] [(.int z_)])) (if_pos he2 : (if own_U2 = cs then (1 : Int32) else (0 : Int32)) = (1 : Int32))) ?_
    show Steps p.tables e below (T6.setTop (mkF m 24 #[.val (.ref b)] [(.int (1 : Int32))])) _
    refine XS.ifYes X6.here hx rfl (pc0 := 24) (pc' := 36) rfl (hb hby d14_24) rfl ((if0 _ _).trans (feq (by decide : ¬ ((1 : Int32) = (0 : Int32)))).2) (by decide) (by decide) ?_
    show Steps p.tables e below (T6.setTop (mkF m 36 #[.val (.ref b)] [])) _
    refine XS.iconst X6.here hx rfl (hb hby d14_36) ?_
    show Steps p.tables e below (T6.setTop (mkF m 37 #[.val (.ref b)] [(.int (1 : Int32))])) _
    refine XS.goto X6.here hx rfl (pc0 := 37) (pc' := 41) rfl (hb hby d14_37) (by decide) (by decide) ?_
    show Steps p.tables e below (T6.setTop (mkF m 41 #[.val (.ref b)] [(.int (1 : Int32))])) _
    exact retN X6 hx (t := .boolean) Bd.returns (by simp) (hb hby d14_41) hr
  · show Q_biL Z b u kb cs cz h0 n0 _ T6.heap _
    rw [kh6]
    exact ⟨(by rw [show own_bi cs = 1 from by rw [← he2]; decide +kernel]), N6, K5⟩
  · show CHr Z own_EL s.vm s.heap T6.vm T6.heap
    rw [hh, kh6]; exact CE
theorem d14_27 : decode prog_109_method_5_code 27 = .ok (.ldc 72, 2) := by decide +kernel
theorem d14_29 : decode prog_109_method_5_code 29 = .ok (.aload_n 0, 1) := by decide +kernel
theorem d14_30 : decode prog_109_method_5_code 30 = .ok (.invokevirtual 15, 3) := by decide +kernel
theorem d14_33 : decode prog_109_method_5_code 33 = .ok (.ifCond .eq 7, 3) := by decide +kernel
set_option maxRecDepth 65536 in
set_option maxHeartbeats 40000000 in
theorem biL_3 (l : Launch) (Z : State) (a0 : Array Value) (hw : ∀ d ∈ tables_1, d.before a0 Z = true) (ws : List Jvm.Cond) (b : Addr) (u : Addr) (kb : ClassId) (cs : List Int32) (cz : Int32) (h0 : Heap) (n0 : Nat) (O0 : Old Z n0 h0) (G0 : Sta Z Z.heap "java/lang/String" "COMPACT_STRINGS" "Z" (.int cz)) (P0 : Exa Z h0 b "java/lang/String") (P1 : Fld Z h0 b "java/lang/String" "value" "[B" (.ref u)) (P2 : Fld Z h0 b "java/lang/String" "coder" "B" (.int (0 : Int32))) (P3 : Arv Z h0 u kb .byte (Int32.ofNat cs.length) ((cs.map fun c => c.toInt8.toInt32).map Value.int) (.int (0 : Int32))) (hcs : ¬ (cz = (0 : Int32))) (hl : cs.length ≤ 41) (hch : ∀ c ∈ cs, ¬ c < 0 ∧ ¬ (255 : Int32) < c) (he0 : ¬ (own_U0 = cs)) (he1 : ¬ (own_U1 = cs)) (he2 : ¬ (own_U2 = cs)) (he3 : own_U3 = cs) :
    MetFree l (⟨"com/example/tsutsumi/tsutsumi/service/SchemaElements", "isBuiltInNamespace", "(Ljava/lang/String;)Z"⟩ : MethodName) (head1 (Jvm.Cond.code (⟨"com/example/tsutsumi/tsutsumi/service/SchemaElements", "isBuiltInNamespace", "(Ljava/lang/String;)Z"⟩ : MethodName) prog_109_method_5_code 1 (some .boolean) :: ws) ({ frames := 2, cells := 8, slots := 576, locals := 30 } : Room)) (fun zA zU => zA = #[(.ref b)] ∧ Z.Warmed39 zU.vm ∧ zU.heap = h0 ∧ CHv Z own_EL zU.vm h0 ∧ ∀ x ∈ ([] : List Addr), Safe Z own_EL zU.vm h0 x) (fun _ _ _ _ _ => True) (fun _ zU zo zU' => ∃ zv zL, zo = .returned zv ∧ Q_biL Z b u kb cs cz h0 n0 zv zU'.heap zL ∧ CHr Z own_EL zU.vm zU.heap zU'.vm zU'.heap ∧ ReturnedEndW zU zo zU' zL ({ frames := 2, cells := 8, slots := 576, locals := 30 } : Room).cells ({ frames := 2, cells := 8, slots := 576, locals := 30 } : Room).slots) := by
  refine MetFree.of_bodySF (plainFor_of_name pn_15) hisR ?_
  intro p e s m args below meth c s₁ Bd hml0 hP hK
  obtain ⟨rfl, hZ, hh, HC, HS⟩ := hP
  have hx := Bd.exec
  have hby := Bd.bytes
  have hml : c.maxLocals = 1 := hml0
  have hown : s.vm.findClass "com/example/tsutsumi/tsutsumi/service/SchemaElements" = some m.cls := findClass_of_methodNamed Bd.named
  have hnm := (name_of_methodNamed Bd.named Bd.method).1
  have X0 : Stand p l e ({ frames := 2, cells := 8, slots := 576, locals := 30 } : Room) (s.setVm s.vm) m #[(.ref b)] below meth c s₁ [] 0 0 := Stand.of_body Bd
  have e0 : s₁.heap = h0 := by rw [← hh, Bd.state]; rfl
  have N0 := Fr.nil n0
  have Z0 : n0 ≤ h0.size := O0.1 ▸ O0.2.1
  have pre0 : ∀ zt, Steps p.tables e below (s₁.setTop (mkF m 0 #[.val (.ref b)] [])) zt → Steps p.tables e below (s₁.setTop (entryFrame m #[(.ref b)] 1)) zt := fun zt zk => castTop (ef_14_R m b) zk
  have hEL := own_EW hw
  have wS := own_wS hw
  have hS0 : s.Since s.vm 0 := (State.WarmedH.refl s).since 0
  have CR0 : CHr Z own_EL s.vm h0 s.vm h0 := CHr.refl HC
  have hZ0 := hZ
  have hown0 := hown
  obtain ⟨a1, T1, h1, k1, bb1, kb1, X1, e1, E1, hS1, hk1, hZ, hown, Ea1, Fc1, Fv1, Vb1, la1, lb1, CL1, Lt1, Ns1, st1⟩ := ldcCH (s := s) (vm0 := s.vm) X0 hx hZ hown (hw _ (List.mem_of_getElem? (i := 40) rfl)) wS e0 hS0 (Nat.zero_le _) hEL (List.mem_of_getElem? (i := 0) rfl) CR0.1 (vs := ((own_U0.map fun c => c.toInt8.toInt32).map Value.int)) (z := (Int32.ofNat own_U0.length)) ⟨by decide +kernel, by decide +kernel⟩ (by decide +kernel) (by decide +kernel) (g := (mkF m 0 #[.val (.ref b)] [])) rfl (hb hby d14_0) (n := 128) (by decide) (by decide) (by decide) (by decide)
  have hZ1 := hZ
  have hown1 := hown
  have O1 := O0.ext E1
  have K1 : Keep h0 h1 [] := (Keep.refl h0 []).ext E1
  have CR1 := CR0.trans CL1
  obtain ⟨cq2, kq2, q2a, q2b, q2c⟩ := isOf hZ e1 Ea1
  obtain ⟨_, _, ⟨T2, L2, k2, n2⟩, -, X2, ⟨Lc2, hQ2, l2, y2, z2⟩, st2⟩ := X1.virtualBack hx (y := (⟨"java/lang/String", "equals", "(Ljava/lang/Object;)Z"⟩ : MethodName)) (z := (⟨"java/lang/String", "equals", "(Ljava/lang/Object;)Z"⟩ : MethodName)) hown (mvT hZ (hw _ (List.mem_of_getElem? (i := 43) rfl))) (mvT hZ (hw _ (List.mem_of_getElem? (i := 44) rfl))) (notFace_of_selects (args := #[]) (mvT hZ (hw _ (List.mem_of_getElem? (i := 46) rfl)))) (mvT hZ (hw _ (List.mem_of_getElem? (i := 46) rfl))) (mvT hZ (hw _ (List.mem_of_getElem? (i := 45) rfl))) (by decide) (own_eqB (W := 0) hZ hw (by decide) (by decide) a1 bb1 kb1 own_U0 b u kb cs cz h1 n0 O1 G0 Ea1 Fv1 Fc1 Vb1 (P0.ext E1) (P1.ext E1) (P2.ext E1) (P3.ext E1) hcs hl (by decide +kernel) hch (by decide +kernel)) q2a q2c (g := (mkF m 3 #[.val (.ref b)] [(.ref b), (.ref a1)])) rfl (by rw [hml]; rfl) (Steps.refl _) (argsL := [(.ref b)]) (rest := []) (lenOf pd_8 rfl) rfl (by show 2 * 0 + _ ≤ _; exact Nat.le_of_eq rfl) (hb hby d14_3) (fun _ _ => ⟨rfl, e1, (by decide : 2 + 0 ≤ _), (by decide : 132 + 0 ≤ _)⟩)
  dsimp only [Pt.U, Pt.locs, Pt.cells, Pt.slots] at X2 l2 y2 z2 st2 hQ2
  subst l2 y2 z2
  obtain ⟨rfl, Nq2, kh2⟩ := hQ2
  have N2 := Fr.app N0 Nq2
  obtain ⟨a3, T3, h3, k3, bb3, kb3, X3, e3, E3, hS3, hk3, hZ, hown, Ea3, Fc3, Fv3, Vb3, la3, lb3, CL3, Lt3, Ns3, st3⟩ := ldcCH (s := s) (vm0 := T1.vm) X2 hx hZ hown (hw _ (List.mem_of_getElem? (i := 53) rfl)) wS kh2 hS1 hk1 hEL (List.mem_of_getElem? (i := 1) rfl) CR1.1 (vs := ((own_U1.map fun c => c.toInt8.toInt32).map Value.int)) (z := (Int32.ofNat own_U1.length)) ⟨by decide +kernel, by decide +kernel⟩ (by decide +kernel) (by decide +kernel) (g := (mkF m 9 #[.val (.ref b)] [])) rfl (hb hby d14_9) (n := 140) (by decide) (by decide) (by decide) (by decide)
  have hZ3 := hZ
  have hown3 := hown
  have O3 := O1.ext E3
  have K3 : Keep h0 h3 [] := K1.ext E3
  have CR3 := CR1.trans CL3
  obtain ⟨cq4, kq4, q4a, q4b, q4c⟩ := isOf hZ e3 Ea3
  obtain ⟨_, _, ⟨T4, L4, k4, n4⟩, -, X4, ⟨Lc4, hQ4, l4, y4, z4⟩, st4⟩ := X3.virtualBack hx (y := (⟨"java/lang/String", "equals", "(Ljava/lang/Object;)Z"⟩ : MethodName)) (z := (⟨"java/lang/String", "equals", "(Ljava/lang/Object;)Z"⟩ : MethodName)) hown (mvT hZ (hw _ (List.mem_of_getElem? (i := 43) rfl))) (mvT hZ (hw _ (List.mem_of_getElem? (i := 44) rfl))) (notFace_of_selects (args := #[]) (mvT hZ (hw _ (List.mem_of_getElem? (i := 46) rfl)))) (mvT hZ (hw _ (List.mem_of_getElem? (i := 46) rfl))) (mvT hZ (hw _ (List.mem_of_getElem? (i := 45) rfl))) (by decide) (own_eqB (W := 0) hZ hw (by decide) (by decide) a3 bb3 kb3 own_U1 b u kb cs cz h3 n0 O3 G0 Ea3 Fv3 Fc3 Vb3 ((P0.ext E1).ext E3) ((P1.ext E1).ext E3) ((P2.ext E1).ext E3) ((P3.ext E1).ext E3) hcs hl (by decide +kernel) hch (by decide +kernel)) q4a q4c (g := (mkF m 12 #[.val (.ref b)] [(.ref b), (.ref a3)])) rfl (by rw [hml]; rfl) (Steps.refl _) (argsL := [(.ref b)]) (rest := []) (lenOf pd_8 rfl) rfl (by show 2 * 0 + _ ≤ _; exact Nat.le_of_eq rfl) (hb hby d14_12) (fun _ _ => ⟨rfl, e3, (by decide : 4 + 0 ≤ _), (by decide : 276 + 0 ≤ _)⟩)
  dsimp only [Pt.U, Pt.locs, Pt.cells, Pt.slots] at X4 l4 y4 z4 st4 hQ4
  subst l4 y4 z4
  obtain ⟨rfl, Nq4, kh4⟩ := hQ4
  have N4 := Fr.app N2 Nq4
  obtain ⟨a5, T5, h5, k5, bb5, kb5, X5, e5, E5, hS5, hk5, hZ, hown, Ea5, Fc5, Fv5, Vb5, la5, lb5, CL5, Lt5, Ns5, st5⟩ := ldcCH (s := s) (vm0 := T3.vm) X4 hx hZ hown (hw _ (List.mem_of_getElem? (i := 54) rfl)) wS kh4 hS3 hk3 hEL (List.mem_of_getElem? (i := 2) rfl) CR3.1 (vs := ((own_U2.map fun c => c.toInt8.toInt32).map Value.int)) (z := (Int32.ofNat own_U2.length)) ⟨by decide +kernel, by decide +kernel⟩ (by decide +kernel) (by decide +kernel) (g := (mkF m 18 #[.val (.ref b)] [])) rfl (hb hby d14_18) (n := 128) (by decide) (by decide) (by decide) (by decide)
  have hZ5 := hZ
  have hown5 := hown
  have O5 := O3.ext E5
  have K5 : Keep h0 h5 [] := K3.ext E5
  have CR5 := CR3.trans CL5
  obtain ⟨cq6, kq6, q6a, q6b, q6c⟩ := isOf hZ e5 Ea5
  obtain ⟨_, _, ⟨T6, L6, k6, n6⟩, -, X6, ⟨Lc6, hQ6, l6, y6, z6⟩, st6⟩ := X5.virtualBack hx (y := (⟨"java/lang/String", "equals", "(Ljava/lang/Object;)Z"⟩ : MethodName)) (z := (⟨"java/lang/String", "equals", "(Ljava/lang/Object;)Z"⟩ : MethodName)) hown (mvT hZ (hw _ (List.mem_of_getElem? (i := 43) rfl))) (mvT hZ (hw _ (List.mem_of_getElem? (i := 44) rfl))) (notFace_of_selects (args := #[]) (mvT hZ (hw _ (List.mem_of_getElem? (i := 46) rfl)))) (mvT hZ (hw _ (List.mem_of_getElem? (i := 46) rfl))) (mvT hZ (hw _ (List.mem_of_getElem? (i := 45) rfl))) (by decide) (own_eqB (W := 0) hZ hw (by decide) (by decide) a5 bb5 kb5 own_U2 b u kb cs cz h5 n0 O5 G0 Ea5 Fv5 Fc5 Vb5 (((P0.ext E1).ext E3).ext E5) (((P1.ext E1).ext E3).ext E5) (((P2.ext E1).ext E3).ext E5) (((P3.ext E1).ext E3).ext E5) hcs hl (by decide +kernel) hch (by decide +kernel)) q6a q6c (g := (mkF m 21 #[.val (.ref b)] [(.ref b), (.ref a5)])) rfl (by rw [hml]; rfl) (Steps.refl _) (argsL := [(.ref b)]) (rest := []) (lenOf pd_8 rfl) rfl (by show 2 * 0 + _ ≤ _; exact Nat.le_of_eq rfl) (hb hby d14_21) (fun _ _ => ⟨rfl, e5, (by decide : 6 + 0 ≤ _), (by decide : 408 + 0 ≤ _)⟩)
  dsimp only [Pt.U, Pt.locs, Pt.cells, Pt.slots] at X6 l6 y6 z6 st6 hQ6
  subst l6 y6 z6
  obtain ⟨rfl, Nq6, kh6⟩ := hQ6
  have N6 := Fr.app N4 Nq6
  obtain ⟨a7, T7, h7, k7, bb7, kb7, X7, e7, E7, hS7, hk7, hZ, hown, Ea7, Fc7, Fv7, Vb7, la7, lb7, CL7, Lt7, Ns7, st7⟩ := ldcCH (s := s) (vm0 := T5.vm) X6 hx hZ hown (hw _ (List.mem_of_getElem? (i := 55) rfl)) wS kh6 hS5 hk5 hEL (List.mem_of_getElem? (i := 3) rfl) CR5.1 (vs := ((own_U3.map fun c => c.toInt8.toInt32).map Value.int)) (z := (Int32.ofNat own_U3.length)) ⟨by decide +kernel, by decide +kernel⟩ (by decide +kernel) (by decide +kernel) (g := (mkF m 27 #[.val (.ref b)] [])) rfl (hb hby d14_27) (n := 164) (by decide) (by decide) (by decide) (by decide)
  have hZ7 := hZ
  have hown7 := hown
  have O7 := O5.ext E7
  have K7 : Keep h0 h7 [] := K5.ext E7
  have CR7 := CR5.trans CL7
  obtain ⟨cq8, kq8, q8a, q8b, q8c⟩ := isOf hZ e7 Ea7
  obtain ⟨_, _, ⟨T8, L8, k8, n8⟩, -, X8, ⟨Lc8, hQ8, l8, y8, z8⟩, st8⟩ := X7.virtualBack hx (y := (⟨"java/lang/String", "equals", "(Ljava/lang/Object;)Z"⟩ : MethodName)) (z := (⟨"java/lang/String", "equals", "(Ljava/lang/Object;)Z"⟩ : MethodName)) hown (mvT hZ (hw _ (List.mem_of_getElem? (i := 43) rfl))) (mvT hZ (hw _ (List.mem_of_getElem? (i := 44) rfl))) (notFace_of_selects (args := #[]) (mvT hZ (hw _ (List.mem_of_getElem? (i := 46) rfl)))) (mvT hZ (hw _ (List.mem_of_getElem? (i := 46) rfl))) (mvT hZ (hw _ (List.mem_of_getElem? (i := 45) rfl))) (by decide) (own_eqB (W := 0) hZ hw (by decide) (by decide) a7 bb7 kb7 own_U3 b u kb cs cz h7 n0 O7 G0 Ea7 Fv7 Fc7 Vb7 ((((P0.ext E1).ext E3).ext E5).ext E7) ((((P1.ext E1).ext E3).ext E5).ext E7) ((((P2.ext E1).ext E3).ext E5).ext E7) ((((P3.ext E1).ext E3).ext E5).ext E7) hcs hl (by decide +kernel) hch (by decide +kernel)) q8a q8c (g := (mkF m 30 #[.val (.ref b)] [(.ref b), (.ref a7)])) rfl (by rw [hml]; rfl) (Steps.refl _) (argsL := [(.ref b)]) (rest := []) (lenOf pd_8 rfl) rfl (by show 2 * 0 + _ ≤ _; exact Nat.le_of_eq rfl) (hb hby d14_30) (fun _ _ => ⟨rfl, e7, (by decide : 8 + 0 ≤ _), (by decide : 576 + 0 ≤ _)⟩)
  dsimp only [Pt.U, Pt.locs, Pt.cells, Pt.slots] at X8 l8 y8 z8 st8 hQ8
  subst l8 y8 z8
  obtain ⟨rfl, Nq8, kh8⟩ := hQ8
  have N8 := Fr.app N6 Nq8
  obtain ⟨fs, hr, hrun, hended, hRW⟩ := X8.leaveW (s := s) hS7 (own_hk kh8 hk7) (v := some (.int (1 : Int32))) (fun h => by rw [Bd.returns] at h; cases h)
  have CE := CR7.trans (CHv.at (s := s) (vm0 := T7.vm) X8 hZ hEL CR7.1)
  refine ⟨_, _, pre0 _ ?_, hrun, hended, _, _, rfl, ?_, ?_, own_rw_mono hRW (by decide) (by decide)⟩
  · show Steps p.tables e below (s₁.setTop (mkF m 0 #[.val (.ref b)] [])) _
    refine st1 _ ?_
    show Steps p.tables e below (T1.setTop (mkF m 2 #[.val (.ref b)] [(.ref a1)])) _
    refine XS.aloadN X1.here hx rfl (hb hby d14_2) rfl rfl ?_
    show Steps p.tables e below (T1.setTop (mkF m 3 #[.val (.ref b)] [(.ref b), (.ref a1)])) _
    refine st2.trans ?_
    show Steps p.tables e below (T2.setTop (mkF m 6 #[.val (.ref b)] [(.int (if own_U0 = cs then (1 : Int32) else (0 : Int32)))])) _
    refine castTop (congrArg (fun z_ => (mkF m 6 #[.val (.ref b)] [(.int z_)])) (if_neg he0 : (if own_U0 = cs then (1 : Int32) else (0 : Int32)) = (0 : Int32))) ?_
    show Steps p.tables e below (T2.setTop (mkF m 6 #[.val (.ref b)] [(.int (0 : Int32))])) _
    refine XS.ifNo X2.here hx rfl (hb hby d14_6) rfl ((if0 _ _).trans (teq (by decide : (0 : Int32) = (0 : Int32))).2) ?_
    show Steps p.tables e below (T2.setTop (mkF m 9 #[.val (.ref b)] [])) _
    refine st3 _ ?_
    show Steps p.tables e below (T3.setTop (mkF m 11 #[.val (.ref b)] [(.ref a3)])) _
    refine XS.aloadN X3.here hx rfl (hb hby d14_11) rfl rfl ?_
    show Steps p.tables e below (T3.setTop (mkF m 12 #[.val (.ref b)] [(.ref b), (.ref a3)])) _
    refine st4.trans ?_
    show Steps p.tables e below (T4.setTop (mkF m 15 #[.val (.ref b)] [(.int (if own_U1 = cs then (1 : Int32) else (0 : Int32)))])) _
    refine castTop (congrArg (fun z_ => (mkF m 15 #[.val (.ref b)] [(.int z_)])) (if_neg he1 : (if own_U1 = cs then (1 : Int32) else (0 : Int32)) = (0 : Int32))) ?_
    show Steps p.tables e below (T4.setTop (mkF m 15 #[.val (.ref b)] [(.int (0 : Int32))])) _
    refine XS.ifNo X4.here hx rfl (hb hby d14_15) rfl ((if0 _ _).trans (teq (by decide : (0 : Int32) = (0 : Int32))).2) ?_
    show Steps p.tables e below (T4.setTop (mkF m 18 #[.val (.ref b)] [])) _
    refine st5 _ ?_
    show Steps p.tables e below (T5.setTop (mkF m 20 #[.val (.ref b)] [(.ref a5)])) _
    refine XS.aloadN X5.here hx rfl (hb hby d14_20) rfl rfl ?_
    show Steps p.tables e below (T5.setTop (mkF m 21 #[.val (.ref b)] [(.ref b), (.ref a5)])) _
    refine st6.trans ?_
    show Steps p.tables e below (T6.setTop (mkF m 24 #[.val (.ref b)] [(.int (if own_U2 = cs then (1 : Int32) else (0 : Int32)))])) _
    refine castTop (congrArg (fun z_ => (mkF m 24 #[.val (.ref b)] [(.int z_)])) (if_neg he2 : (if own_U2 = cs then (1 : Int32) else (0 : Int32)) = (0 : Int32))) ?_
    show Steps p.tables e below (T6.setTop (mkF m 24 #[.val (.ref b)] [(.int (0 : Int32))])) _
    refine XS.ifNo X6.here hx rfl (hb hby d14_24) rfl ((if0 _ _).trans (teq (by decide : (0 : Int32) = (0 : Int32))).2) ?_
    show Steps p.tables e below (T6.setTop (mkF m 27 #[.val (.ref b)] [])) _
    refine st7 _ ?_
    show Steps p.tables e below (T7.setTop (mkF m 29 #[.val (.ref b)] [(.ref a7)])) _
    refine XS.aloadN X7.here hx rfl (hb hby d14_29) rfl rfl ?_
    show Steps p.tables e below (T7.setTop (mkF m 30 #[.val (.ref b)] [(.ref b), (.ref a7)])) _
    refine st8.trans ?_
    show Steps p.tables e below (T8.setTop (mkF m 33 #[.val (.ref b)] [(.int (if own_U3 = cs then (1 : Int32) else (0 : Int32)))])) _
    refine castTop (congrArg (fun z_ => (mkF m 33 #[.val (.ref b)] [(.int z_)])) (if_pos he3 : (if own_U3 = cs then (1 : Int32) else (0 : Int32)) = (1 : Int32))) ?_
    show Steps p.tables e below (T8.setTop (mkF m 33 #[.val (.ref b)] [(.int (1 : Int32))])) _
    refine XS.ifNo X8.here hx rfl (hb hby d14_33) rfl ((if0 _ _).trans (feq (by decide : ¬ ((1 : Int32) = (0 : Int32)))).1) ?_
    show Steps p.tables e below (T8.setTop (mkF m 36 #[.val (.ref b)] [])) _
    refine XS.iconst X8.here hx rfl (hb hby d14_36) ?_
    show Steps p.tables e below (T8.setTop (mkF m 37 #[.val (.ref b)] [(.int (1 : Int32))])) _
    refine XS.goto X8.here hx rfl (pc0 := 37) (pc' := 41) rfl (hb hby d14_37) (by decide) (by decide) ?_
    show Steps p.tables e below (T8.setTop (mkF m 41 #[.val (.ref b)] [(.int (1 : Int32))])) _
    exact retN X8 hx (t := .boolean) Bd.returns (by simp) (hb hby d14_41) hr
  · show Q_biL Z b u kb cs cz h0 n0 _ T8.heap _
    rw [kh8]
    exact ⟨(by rw [show own_bi cs = 1 from by rw [← he3]; decide +kernel]), N8, K7⟩
  · show CHr Z own_EL s.vm s.heap T8.vm T8.heap
    rw [hh, kh8]; exact CE
theorem d14_40 : decode prog_109_method_5_code 40 = .ok (.iconst 0, 1) := by decide +kernel
set_option maxRecDepth 65536 in
set_option maxHeartbeats 40000000 in
theorem biL_4 (l : Launch) (Z : State) (a0 : Array Value) (hw : ∀ d ∈ tables_1, d.before a0 Z = true) (ws : List Jvm.Cond) (b : Addr) (u : Addr) (kb : ClassId) (cs : List Int32) (cz : Int32) (h0 : Heap) (n0 : Nat) (O0 : Old Z n0 h0) (G0 : Sta Z Z.heap "java/lang/String" "COMPACT_STRINGS" "Z" (.int cz)) (P0 : Exa Z h0 b "java/lang/String") (P1 : Fld Z h0 b "java/lang/String" "value" "[B" (.ref u)) (P2 : Fld Z h0 b "java/lang/String" "coder" "B" (.int (0 : Int32))) (P3 : Arv Z h0 u kb .byte (Int32.ofNat cs.length) ((cs.map fun c => c.toInt8.toInt32).map Value.int) (.int (0 : Int32))) (hcs : ¬ (cz = (0 : Int32))) (hl : cs.length ≤ 41) (hch : ∀ c ∈ cs, ¬ c < 0 ∧ ¬ (255 : Int32) < c) (he0 : ¬ (own_U0 = cs)) (he1 : ¬ (own_U1 = cs)) (he2 : ¬ (own_U2 = cs)) (he3 : ¬ (own_U3 = cs)) :
    MetFree l (⟨"com/example/tsutsumi/tsutsumi/service/SchemaElements", "isBuiltInNamespace", "(Ljava/lang/String;)Z"⟩ : MethodName) (head1 (Jvm.Cond.code (⟨"com/example/tsutsumi/tsutsumi/service/SchemaElements", "isBuiltInNamespace", "(Ljava/lang/String;)Z"⟩ : MethodName) prog_109_method_5_code 1 (some .boolean) :: ws) ({ frames := 2, cells := 8, slots := 576, locals := 30 } : Room)) (fun zA zU => zA = #[(.ref b)] ∧ Z.Warmed39 zU.vm ∧ zU.heap = h0 ∧ CHv Z own_EL zU.vm h0 ∧ ∀ x ∈ ([] : List Addr), Safe Z own_EL zU.vm h0 x) (fun _ _ _ _ _ => True) (fun _ zU zo zU' => ∃ zv zL, zo = .returned zv ∧ Q_biL Z b u kb cs cz h0 n0 zv zU'.heap zL ∧ CHr Z own_EL zU.vm zU.heap zU'.vm zU'.heap ∧ ReturnedEndW zU zo zU' zL ({ frames := 2, cells := 8, slots := 576, locals := 30 } : Room).cells ({ frames := 2, cells := 8, slots := 576, locals := 30 } : Room).slots) := by
  refine MetFree.of_bodySF (plainFor_of_name pn_15) hisR ?_
  intro p e s m args below meth c s₁ Bd hml0 hP hK
  obtain ⟨rfl, hZ, hh, HC, HS⟩ := hP
  have hx := Bd.exec
  have hby := Bd.bytes
  have hml : c.maxLocals = 1 := hml0
  have hown : s.vm.findClass "com/example/tsutsumi/tsutsumi/service/SchemaElements" = some m.cls := findClass_of_methodNamed Bd.named
  have hnm := (name_of_methodNamed Bd.named Bd.method).1
  have X0 : Stand p l e ({ frames := 2, cells := 8, slots := 576, locals := 30 } : Room) (s.setVm s.vm) m #[(.ref b)] below meth c s₁ [] 0 0 := Stand.of_body Bd
  have e0 : s₁.heap = h0 := by rw [← hh, Bd.state]; rfl
  have N0 := Fr.nil n0
  have Z0 : n0 ≤ h0.size := O0.1 ▸ O0.2.1
  have pre0 : ∀ zt, Steps p.tables e below (s₁.setTop (mkF m 0 #[.val (.ref b)] [])) zt → Steps p.tables e below (s₁.setTop (entryFrame m #[(.ref b)] 1)) zt := fun zt zk => castTop (ef_14_R m b) zk
  have hEL := own_EW hw
  have wS := own_wS hw
  have hS0 : s.Since s.vm 0 := (State.WarmedH.refl s).since 0
  have CR0 : CHr Z own_EL s.vm h0 s.vm h0 := CHr.refl HC
  have hZ0 := hZ
  have hown0 := hown
  obtain ⟨a1, T1, h1, k1, bb1, kb1, X1, e1, E1, hS1, hk1, hZ, hown, Ea1, Fc1, Fv1, Vb1, la1, lb1, CL1, Lt1, Ns1, st1⟩ := ldcCH (s := s) (vm0 := s.vm) X0 hx hZ hown (hw _ (List.mem_of_getElem? (i := 40) rfl)) wS e0 hS0 (Nat.zero_le _) hEL (List.mem_of_getElem? (i := 0) rfl) CR0.1 (vs := ((own_U0.map fun c => c.toInt8.toInt32).map Value.int)) (z := (Int32.ofNat own_U0.length)) ⟨by decide +kernel, by decide +kernel⟩ (by decide +kernel) (by decide +kernel) (g := (mkF m 0 #[.val (.ref b)] [])) rfl (hb hby d14_0) (n := 128) (by decide) (by decide) (by decide) (by decide)
  have hZ1 := hZ
  have hown1 := hown
  have O1 := O0.ext E1
  have K1 : Keep h0 h1 [] := (Keep.refl h0 []).ext E1
  have CR1 := CR0.trans CL1
  obtain ⟨cq2, kq2, q2a, q2b, q2c⟩ := isOf hZ e1 Ea1
  obtain ⟨_, _, ⟨T2, L2, k2, n2⟩, -, X2, ⟨Lc2, hQ2, l2, y2, z2⟩, st2⟩ := X1.virtualBack hx (y := (⟨"java/lang/String", "equals", "(Ljava/lang/Object;)Z"⟩ : MethodName)) (z := (⟨"java/lang/String", "equals", "(Ljava/lang/Object;)Z"⟩ : MethodName)) hown (mvT hZ (hw _ (List.mem_of_getElem? (i := 43) rfl))) (mvT hZ (hw _ (List.mem_of_getElem? (i := 44) rfl))) (notFace_of_selects (args := #[]) (mvT hZ (hw _ (List.mem_of_getElem? (i := 46) rfl)))) (mvT hZ (hw _ (List.mem_of_getElem? (i := 46) rfl))) (mvT hZ (hw _ (List.mem_of_getElem? (i := 45) rfl))) (by decide) (own_eqB (W := 0) hZ hw (by decide) (by decide) a1 bb1 kb1 own_U0 b u kb cs cz h1 n0 O1 G0 Ea1 Fv1 Fc1 Vb1 (P0.ext E1) (P1.ext E1) (P2.ext E1) (P3.ext E1) hcs hl (by decide +kernel) hch (by decide +kernel)) q2a q2c (g := (mkF m 3 #[.val (.ref b)] [(.ref b), (.ref a1)])) rfl (by rw [hml]; rfl) (Steps.refl _) (argsL := [(.ref b)]) (rest := []) (lenOf pd_8 rfl) rfl (by show 2 * 0 + _ ≤ _; exact Nat.le_of_eq rfl) (hb hby d14_3) (fun _ _ => ⟨rfl, e1, (by decide : 2 + 0 ≤ _), (by decide : 132 + 0 ≤ _)⟩)
  dsimp only [Pt.U, Pt.locs, Pt.cells, Pt.slots] at X2 l2 y2 z2 st2 hQ2
  subst l2 y2 z2
  obtain ⟨rfl, Nq2, kh2⟩ := hQ2
  have N2 := Fr.app N0 Nq2
  obtain ⟨a3, T3, h3, k3, bb3, kb3, X3, e3, E3, hS3, hk3, hZ, hown, Ea3, Fc3, Fv3, Vb3, la3, lb3, CL3, Lt3, Ns3, st3⟩ := ldcCH (s := s) (vm0 := T1.vm) X2 hx hZ hown (hw _ (List.mem_of_getElem? (i := 53) rfl)) wS kh2 hS1 hk1 hEL (List.mem_of_getElem? (i := 1) rfl) CR1.1 (vs := ((own_U1.map fun c => c.toInt8.toInt32).map Value.int)) (z := (Int32.ofNat own_U1.length)) ⟨by decide +kernel, by decide +kernel⟩ (by decide +kernel) (by decide +kernel) (g := (mkF m 9 #[.val (.ref b)] [])) rfl (hb hby d14_9) (n := 140) (by decide) (by decide) (by decide) (by decide)
  have hZ3 := hZ
  have hown3 := hown
  have O3 := O1.ext E3
  have K3 : Keep h0 h3 [] := K1.ext E3
  have CR3 := CR1.trans CL3
  obtain ⟨cq4, kq4, q4a, q4b, q4c⟩ := isOf hZ e3 Ea3
  obtain ⟨_, _, ⟨T4, L4, k4, n4⟩, -, X4, ⟨Lc4, hQ4, l4, y4, z4⟩, st4⟩ := X3.virtualBack hx (y := (⟨"java/lang/String", "equals", "(Ljava/lang/Object;)Z"⟩ : MethodName)) (z := (⟨"java/lang/String", "equals", "(Ljava/lang/Object;)Z"⟩ : MethodName)) hown (mvT hZ (hw _ (List.mem_of_getElem? (i := 43) rfl))) (mvT hZ (hw _ (List.mem_of_getElem? (i := 44) rfl))) (notFace_of_selects (args := #[]) (mvT hZ (hw _ (List.mem_of_getElem? (i := 46) rfl)))) (mvT hZ (hw _ (List.mem_of_getElem? (i := 46) rfl))) (mvT hZ (hw _ (List.mem_of_getElem? (i := 45) rfl))) (by decide) (own_eqB (W := 0) hZ hw (by decide) (by decide) a3 bb3 kb3 own_U1 b u kb cs cz h3 n0 O3 G0 Ea3 Fv3 Fc3 Vb3 ((P0.ext E1).ext E3) ((P1.ext E1).ext E3) ((P2.ext E1).ext E3) ((P3.ext E1).ext E3) hcs hl (by decide +kernel) hch (by decide +kernel)) q4a q4c (g := (mkF m 12 #[.val (.ref b)] [(.ref b), (.ref a3)])) rfl (by rw [hml]; rfl) (Steps.refl _) (argsL := [(.ref b)]) (rest := []) (lenOf pd_8 rfl) rfl (by show 2 * 0 + _ ≤ _; exact Nat.le_of_eq rfl) (hb hby d14_12) (fun _ _ => ⟨rfl, e3, (by decide : 4 + 0 ≤ _), (by decide : 276 + 0 ≤ _)⟩)
  dsimp only [Pt.U, Pt.locs, Pt.cells, Pt.slots] at X4 l4 y4 z4 st4 hQ4
  subst l4 y4 z4
  obtain ⟨rfl, Nq4, kh4⟩ := hQ4
  have N4 := Fr.app N2 Nq4
  obtain ⟨a5, T5, h5, k5, bb5, kb5, X5, e5, E5, hS5, hk5, hZ, hown, Ea5, Fc5, Fv5, Vb5, la5, lb5, CL5, Lt5, Ns5, st5⟩ := ldcCH (s := s) (vm0 := T3.vm) X4 hx hZ hown (hw _ (List.mem_of_getElem? (i := 54) rfl)) wS kh4 hS3 hk3 hEL (List.mem_of_getElem? (i := 2) rfl) CR3.1 (vs := ((own_U2.map fun c => c.toInt8.toInt32).map Value.int)) (z := (Int32.ofNat own_U2.length)) ⟨by decide +kernel, by decide +kernel⟩ (by decide +kernel) (by decide +kernel) (g := (mkF m 18 #[.val (.ref b)] [])) rfl (hb hby d14_18) (n := 128) (by decide) (by decide) (by decide) (by decide)
  have hZ5 := hZ
  have hown5 := hown
  have O5 := O3.ext E5
  have K5 : Keep h0 h5 [] := K3.ext E5
  have CR5 := CR3.trans CL5
  obtain ⟨cq6, kq6, q6a, q6b, q6c⟩ := isOf hZ e5 Ea5
  obtain ⟨_, _, ⟨T6, L6, k6, n6⟩, -, X6, ⟨Lc6, hQ6, l6, y6, z6⟩, st6⟩ := X5.virtualBack hx (y := (⟨"java/lang/String", "equals", "(Ljava/lang/Object;)Z"⟩ : MethodName)) (z := (⟨"java/lang/String", "equals", "(Ljava/lang/Object;)Z"⟩ : MethodName)) hown (mvT hZ (hw _ (List.mem_of_getElem? (i := 43) rfl))) (mvT hZ (hw _ (List.mem_of_getElem? (i := 44) rfl))) (notFace_of_selects (args := #[]) (mvT hZ (hw _ (List.mem_of_getElem? (i := 46) rfl)))) (mvT hZ (hw _ (List.mem_of_getElem? (i := 46) rfl))) (mvT hZ (hw _ (List.mem_of_getElem? (i := 45) rfl))) (by decide) (own_eqB (W := 0) hZ hw (by decide) (by decide) a5 bb5 kb5 own_U2 b u kb cs cz h5 n0 O5 G0 Ea5 Fv5 Fc5 Vb5 (((P0.ext E1).ext E3).ext E5) (((P1.ext E1).ext E3).ext E5) (((P2.ext E1).ext E3).ext E5) (((P3.ext E1).ext E3).ext E5) hcs hl (by decide +kernel) hch (by decide +kernel)) q6a q6c (g := (mkF m 21 #[.val (.ref b)] [(.ref b), (.ref a5)])) rfl (by rw [hml]; rfl) (Steps.refl _) (argsL := [(.ref b)]) (rest := []) (lenOf pd_8 rfl) rfl (by show 2 * 0 + _ ≤ _; exact Nat.le_of_eq rfl) (hb hby d14_21) (fun _ _ => ⟨rfl, e5, (by decide : 6 + 0 ≤ _), (by decide : 408 + 0 ≤ _)⟩)
  dsimp only [Pt.U, Pt.locs, Pt.cells, Pt.slots] at X6 l6 y6 z6 st6 hQ6
  subst l6 y6 z6
  obtain ⟨rfl, Nq6, kh6⟩ := hQ6
  have N6 := Fr.app N4 Nq6
  obtain ⟨a7, T7, h7, k7, bb7, kb7, X7, e7, E7, hS7, hk7, hZ, hown, Ea7, Fc7, Fv7, Vb7, la7, lb7, CL7, Lt7, Ns7, st7⟩ := ldcCH (s := s) (vm0 := T5.vm) X6 hx hZ hown (hw _ (List.mem_of_getElem? (i := 55) rfl)) wS kh6 hS5 hk5 hEL (List.mem_of_getElem? (i := 3) rfl) CR5.1 (vs := ((own_U3.map fun c => c.toInt8.toInt32).map Value.int)) (z := (Int32.ofNat own_U3.length)) ⟨by decide +kernel, by decide +kernel⟩ (by decide +kernel) (by decide +kernel) (g := (mkF m 27 #[.val (.ref b)] [])) rfl (hb hby d14_27) (n := 164) (by decide) (by decide) (by decide) (by decide)
  have hZ7 := hZ
  have hown7 := hown
  have O7 := O5.ext E7
  have K7 : Keep h0 h7 [] := K5.ext E7
  have CR7 := CR5.trans CL7
  obtain ⟨cq8, kq8, q8a, q8b, q8c⟩ := isOf hZ e7 Ea7
  obtain ⟨_, _, ⟨T8, L8, k8, n8⟩, -, X8, ⟨Lc8, hQ8, l8, y8, z8⟩, st8⟩ := X7.virtualBack hx (y := (⟨"java/lang/String", "equals", "(Ljava/lang/Object;)Z"⟩ : MethodName)) (z := (⟨"java/lang/String", "equals", "(Ljava/lang/Object;)Z"⟩ : MethodName)) hown (mvT hZ (hw _ (List.mem_of_getElem? (i := 43) rfl))) (mvT hZ (hw _ (List.mem_of_getElem? (i := 44) rfl))) (notFace_of_selects (args := #[]) (mvT hZ (hw _ (List.mem_of_getElem? (i := 46) rfl)))) (mvT hZ (hw _ (List.mem_of_getElem? (i := 46) rfl))) (mvT hZ (hw _ (List.mem_of_getElem? (i := 45) rfl))) (by decide) (own_eqB (W := 0) hZ hw (by decide) (by decide) a7 bb7 kb7 own_U3 b u kb cs cz h7 n0 O7 G0 Ea7 Fv7 Fc7 Vb7 ((((P0.ext E1).ext E3).ext E5).ext E7) ((((P1.ext E1).ext E3).ext E5).ext E7) ((((P2.ext E1).ext E3).ext E5).ext E7) ((((P3.ext E1).ext E3).ext E5).ext E7) hcs hl (by decide +kernel) hch (by decide +kernel)) q8a q8c (g := (mkF m 30 #[.val (.ref b)] [(.ref b), (.ref a7)])) rfl (by rw [hml]; rfl) (Steps.refl _) (argsL := [(.ref b)]) (rest := []) (lenOf pd_8 rfl) rfl (by show 2 * 0 + _ ≤ _; exact Nat.le_of_eq rfl) (hb hby d14_30) (fun _ _ => ⟨rfl, e7, (by decide : 8 + 0 ≤ _), (by decide : 576 + 0 ≤ _)⟩)
  dsimp only [Pt.U, Pt.locs, Pt.cells, Pt.slots] at X8 l8 y8 z8 st8 hQ8
  subst l8 y8 z8
  obtain ⟨rfl, Nq8, kh8⟩ := hQ8
  have N8 := Fr.app N6 Nq8
  obtain ⟨fs, hr, hrun, hended, hRW⟩ := X8.leaveW (s := s) hS7 (own_hk kh8 hk7) (v := some (.int (0 : Int32))) (fun h => by rw [Bd.returns] at h; cases h)
  have CE := CR7.trans (CHv.at (s := s) (vm0 := T7.vm) X8 hZ hEL CR7.1)
  refine ⟨_, _, pre0 _ ?_, hrun, hended, _, _, rfl, ?_, ?_, own_rw_mono hRW (by decide) (by decide)⟩
  · show Steps p.tables e below (s₁.setTop (mkF m 0 #[.val (.ref b)] [])) _
    refine st1 _ ?_
    show Steps p.tables e below (T1.setTop (mkF m 2 #[.val (.ref b)] [(.ref a1)])) _
    refine XS.aloadN X1.here hx rfl (hb hby d14_2) rfl rfl ?_
    show Steps p.tables e below (T1.setTop (mkF m 3 #[.val (.ref b)] [(.ref b), (.ref a1)])) _
    refine st2.trans ?_
    show Steps p.tables e below (T2.setTop (mkF m 6 #[.val (.ref b)] [(.int (if own_U0 = cs then (1 : Int32) else (0 : Int32)))])) _
    refine castTop (congrArg (fun z_ => (mkF m 6 #[.val (.ref b)] [(.int z_)])) (if_neg he0 : (if own_U0 = cs then (1 : Int32) else (0 : Int32)) = (0 : Int32))) ?_
    show Steps p.tables e below (T2.setTop (mkF m 6 #[.val (.ref b)] [(.int (0 : Int32))])) _
    refine XS.ifNo X2.here hx rfl (hb hby d14_6) rfl ((if0 _ _).trans (teq (by decide : (0 : Int32) = (0 : Int32))).2) ?_
    show Steps p.tables e below (T2.setTop (mkF m 9 #[.val (.ref b)] [])) _
    refine st3 _ ?_
    show Steps p.tables e below (T3.setTop (mkF m 11 #[.val (.ref b)] [(.ref a3)])) _
    refine XS.aloadN X3.here hx rfl (hb hby d14_11) rfl rfl ?_
    show Steps p.tables e below (T3.setTop (mkF m 12 #[.val (.ref b)] [(.ref b), (.ref a3)])) _
    refine st4.trans ?_
    show Steps p.tables e below (T4.setTop (mkF m 15 #[.val (.ref b)] [(.int (if own_U1 = cs then (1 : Int32) else (0 : Int32)))])) _
    refine castTop (congrArg (fun z_ => (mkF m 15 #[.val (.ref b)] [(.int z_)])) (if_neg he1 : (if own_U1 = cs then (1 : Int32) else (0 : Int32)) = (0 : Int32))) ?_
    show Steps p.tables e below (T4.setTop (mkF m 15 #[.val (.ref b)] [(.int (0 : Int32))])) _
    refine XS.ifNo X4.here hx rfl (hb hby d14_15) rfl ((if0 _ _).trans (teq (by decide : (0 : Int32) = (0 : Int32))).2) ?_
    show Steps p.tables e below (T4.setTop (mkF m 18 #[.val (.ref b)] [])) _
    refine st5 _ ?_
    show Steps p.tables e below (T5.setTop (mkF m 20 #[.val (.ref b)] [(.ref a5)])) _
    refine XS.aloadN X5.here hx rfl (hb hby d14_20) rfl rfl ?_
    show Steps p.tables e below (T5.setTop (mkF m 21 #[.val (.ref b)] [(.ref b), (.ref a5)])) _
    refine st6.trans ?_
    show Steps p.tables e below (T6.setTop (mkF m 24 #[.val (.ref b)] [(.int (if own_U2 = cs then (1 : Int32) else (0 : Int32)))])) _
    refine castTop (congrArg (fun z_ => (mkF m 24 #[.val (.ref b)] [(.int z_)])) (if_neg he2 : (if own_U2 = cs then (1 : Int32) else (0 : Int32)) = (0 : Int32))) ?_
    show Steps p.tables e below (T6.setTop (mkF m 24 #[.val (.ref b)] [(.int (0 : Int32))])) _
    refine XS.ifNo X6.here hx rfl (hb hby d14_24) rfl ((if0 _ _).trans (teq (by decide : (0 : Int32) = (0 : Int32))).2) ?_
    show Steps p.tables e below (T6.setTop (mkF m 27 #[.val (.ref b)] [])) _
    refine st7 _ ?_
    show Steps p.tables e below (T7.setTop (mkF m 29 #[.val (.ref b)] [(.ref a7)])) _
    refine XS.aloadN X7.here hx rfl (hb hby d14_29) rfl rfl ?_
    show Steps p.tables e below (T7.setTop (mkF m 30 #[.val (.ref b)] [(.ref b), (.ref a7)])) _
    refine st8.trans ?_
    show Steps p.tables e below (T8.setTop (mkF m 33 #[.val (.ref b)] [(.int (if own_U3 = cs then (1 : Int32) else (0 : Int32)))])) _
    refine castTop (congrArg (fun z_ => (mkF m 33 #[.val (.ref b)] [(.int z_)])) (if_neg he3 : (if own_U3 = cs then (1 : Int32) else (0 : Int32)) = (0 : Int32))) ?_
    show Steps p.tables e below (T8.setTop (mkF m 33 #[.val (.ref b)] [(.int (0 : Int32))])) _
    refine XS.ifYes X8.here hx rfl (pc0 := 33) (pc' := 40) rfl (hb hby d14_33) rfl ((if0 _ _).trans (teq (by decide : (0 : Int32) = (0 : Int32))).1) (by decide) (by decide) ?_
    show Steps p.tables e below (T8.setTop (mkF m 40 #[.val (.ref b)] [])) _
    refine XS.iconst X8.here hx rfl (hb hby d14_40) ?_
    show Steps p.tables e below (T8.setTop (mkF m 41 #[.val (.ref b)] [(.int (0 : Int32))])) _
    exact retN X8 hx (t := .boolean) Bd.returns (by simp) (hb hby d14_41) hr
  · show Q_biL Z b u kb cs cz h0 n0 _ T8.heap _
    rw [kh8]
    exact ⟨(by rw [own_bi0 (fun q => he0 q.symm) (fun q => he1 q.symm) (fun q => he2 q.symm) (fun q => he3 q.symm)]), N8, K7⟩
  · show CHr Z own_EL s.vm s.heap T8.vm T8.heap
    rw [hh, kh8]; exact CE
set_option maxRecDepth 65536 in
set_option maxHeartbeats 40000000 in
theorem biL (l : Launch) (Z : State) (a0 : Array Value) (hw : ∀ d ∈ tables_1, d.before a0 Z = true) (ws : List Jvm.Cond) (b : Addr) (u : Addr) (kb : ClassId) (cs : List Int32) (cz : Int32) (h0 : Heap) (n0 : Nat) (O0 : Old Z n0 h0) (G0 : Sta Z Z.heap "java/lang/String" "COMPACT_STRINGS" "Z" (.int cz)) (P0 : Exa Z h0 b "java/lang/String") (P1 : Fld Z h0 b "java/lang/String" "value" "[B" (.ref u)) (P2 : Fld Z h0 b "java/lang/String" "coder" "B" (.int (0 : Int32))) (P3 : Arv Z h0 u kb .byte (Int32.ofNat cs.length) ((cs.map fun c => c.toInt8.toInt32).map Value.int) (.int (0 : Int32))) (hcs : ¬ (cz = (0 : Int32))) (hl : cs.length ≤ 41) (hch : ∀ c ∈ cs, ¬ c < 0 ∧ ¬ (255 : Int32) < c) :
    MetFree l (⟨"com/example/tsutsumi/tsutsumi/service/SchemaElements", "isBuiltInNamespace", "(Ljava/lang/String;)Z"⟩ : MethodName) (head1 (Jvm.Cond.code (⟨"com/example/tsutsumi/tsutsumi/service/SchemaElements", "isBuiltInNamespace", "(Ljava/lang/String;)Z"⟩ : MethodName) prog_109_method_5_code 1 (some .boolean) :: ws) ({ frames := 2, cells := 8, slots := 576, locals := 30 } : Room)) (fun zA zU => zA = #[(.ref b)] ∧ Z.Warmed39 zU.vm ∧ zU.heap = h0 ∧ CHv Z own_EL zU.vm h0 ∧ ∀ x ∈ ([] : List Addr), Safe Z own_EL zU.vm h0 x) (fun _ _ _ _ _ => True) (fun _ zU zo zU' => ∃ zv zL, zo = .returned zv ∧ Q_biL Z b u kb cs cz h0 n0 zv zU'.heap zL ∧ CHr Z own_EL zU.vm zU.heap zU'.vm zU'.heap ∧ ReturnedEndW zU zo zU' zL ({ frames := 2, cells := 8, slots := 576, locals := 30 } : Room).cells ({ frames := 2, cells := 8, slots := 576, locals := 30 } : Room).slots) := by
  by_cases e0 : own_U0 = cs
  · exact biL_0 l Z a0 hw ws b u kb cs cz h0 n0 O0 G0 P0 P1 P2 P3 hcs hl hch e0
  · by_cases e1 : own_U1 = cs
    · exact biL_1 l Z a0 hw ws b u kb cs cz h0 n0 O0 G0 P0 P1 P2 P3 hcs hl hch e0 e1
    · by_cases e2 : own_U2 = cs
      · exact biL_2 l Z a0 hw ws b u kb cs cz h0 n0 O0 G0 P0 P1 P2 P3 hcs hl hch e0 e1 e2
      · by_cases e3 : own_U3 = cs
        · exact biL_3 l Z a0 hw ws b u kb cs cz h0 n0 O0 G0 P0 P1 P2 P3 hcs hl hch e0 e1 e2 e3
        · exact biL_4 l Z a0 hw ws b u kb cs cz h0 n0 O0 G0 P0 P1 P2 P3 hcs hl hch e0 e1 e2 e3
def Q_biU (Z : State) (b : Addr) (cz : Int32) (h0 : Heap) (n0 : Nat) (v : Option Value) (h : Heap) (L : List Loc) : Prop := v = some (.int (0 : Int32)) ∧ Fr n0 L ∧ Keep h0 h []
set_option maxRecDepth 65536 in
set_option maxHeartbeats 40000000 in
theorem biU (l : Launch) (Z : State) (a0 : Array Value) (hw : ∀ d ∈ tables_1, d.before a0 Z = true) (ws : List Jvm.Cond) (b : Addr) (cz : Int32) (h0 : Heap) (n0 : Nat) (O0 : Old Z n0 h0) (G0 : Sta Z Z.heap "java/lang/String" "COMPACT_STRINGS" "Z" (.int cz)) (P0 : Exa Z h0 b "java/lang/String") (P1 : Fld Z h0 b "java/lang/String" "coder" "B" (.int (1 : Int32))) (hcs : ¬ (cz = (0 : Int32))) :
    MetFree l (⟨"com/example/tsutsumi/tsutsumi/service/SchemaElements", "isBuiltInNamespace", "(Ljava/lang/String;)Z"⟩ : MethodName) (head1 (Jvm.Cond.code (⟨"com/example/tsutsumi/tsutsumi/service/SchemaElements", "isBuiltInNamespace", "(Ljava/lang/String;)Z"⟩ : MethodName) prog_109_method_5_code 1 (some .boolean) :: ws) ({ frames := 2, cells := 8, slots := 576, locals := 30 } : Room)) (fun zA zU => zA = #[(.ref b)] ∧ Z.Warmed39 zU.vm ∧ zU.heap = h0 ∧ CHv Z own_EL zU.vm h0 ∧ ∀ x ∈ ([b] : List Addr), Safe Z own_EL zU.vm h0 x) (fun _ _ _ _ _ => True) (fun _ zU zo zU' => ∃ zv zL, zo = .returned zv ∧ Q_biU Z b cz h0 n0 zv zU'.heap zL ∧ CHr Z own_EL zU.vm zU.heap zU'.vm zU'.heap ∧ ReturnedEndW zU zo zU' zL ({ frames := 2, cells := 8, slots := 576, locals := 30 } : Room).cells ({ frames := 2, cells := 8, slots := 576, locals := 30 } : Room).slots) := by
  refine MetFree.of_bodySF (plainFor_of_name pn_15) hisR ?_
  intro p e s m args below meth c s₁ Bd hml0 hP hK
  obtain ⟨rfl, hZ, hh, HC, HS⟩ := hP
  have hx := Bd.exec
  have hby := Bd.bytes
  have hml : c.maxLocals = 1 := hml0
  have hown : s.vm.findClass "com/example/tsutsumi/tsutsumi/service/SchemaElements" = some m.cls := findClass_of_methodNamed Bd.named
  have hnm := (name_of_methodNamed Bd.named Bd.method).1
  have X0 : Stand p l e ({ frames := 2, cells := 8, slots := 576, locals := 30 } : Room) (s.setVm s.vm) m #[(.ref b)] below meth c s₁ [] 0 0 := Stand.of_body Bd
  have e0 : s₁.heap = h0 := by rw [← hh, Bd.state]; rfl
  have N0 := Fr.nil n0
  have Z0 : n0 ≤ h0.size := O0.1 ▸ O0.2.1
  have pre0 : ∀ zt, Steps p.tables e below (s₁.setTop (mkF m 0 #[.val (.ref b)] [])) zt → Steps p.tables e below (s₁.setTop (entryFrame m #[(.ref b)] 1)) zt := fun zt zk => castTop (ef_14_R m b) zk
  have hEL := own_EW hw
  have wS := own_wS hw
  have hS0 : s.Since s.vm 0 := (State.WarmedH.refl s).since 0
  have CR0 : CHr Z own_EL s.vm h0 s.vm h0 := CHr.refl HC
  have hZ0 := hZ
  have hown0 := hown
  obtain ⟨a1, T1, h1, k1, bb1, kb1, X1, e1, E1, hS1, hk1, hZ, hown, Ea1, Fc1, Fv1, Vb1, la1, lb1, CL1, Lt1, Ns1, st1⟩ := ldcCH (s := s) (vm0 := s.vm) X0 hx hZ hown (hw _ (List.mem_of_getElem? (i := 40) rfl)) wS e0 hS0 (Nat.zero_le _) hEL (List.mem_of_getElem? (i := 0) rfl) CR0.1 (vs := ((own_U0.map fun c => c.toInt8.toInt32).map Value.int)) (z := (Int32.ofNat own_U0.length)) ⟨by decide +kernel, by decide +kernel⟩ (by decide +kernel) (by decide +kernel) (g := (mkF m 0 #[.val (.ref b)] [])) rfl (hb hby d14_0) (n := 128) (by decide) (by decide) (by decide) (by decide)
  have hZ1 := hZ
  have hown1 := hown
  have O1 := O0.ext E1
  have K1 : Keep h0 h1 [] := (Keep.refl h0 []).ext E1
  have CR1 := CR0.trans CL1
  have Sy1_b := CL1.safe (P0).lt (HS _ (List.mem_of_getElem? (i := 0) rfl))
  obtain ⟨cq2, kq2, q2a, q2b, q2c⟩ := isOf hZ e1 Ea1
  obtain ⟨_, _, ⟨T2, L2, k2, n2⟩, -, X2, ⟨Lc2, hQ2, l2, y2, z2⟩, st2⟩ := X1.virtualBack hx (y := (⟨"java/lang/String", "equals", "(Ljava/lang/Object;)Z"⟩ : MethodName)) (z := (⟨"java/lang/String", "equals", "(Ljava/lang/Object;)Z"⟩ : MethodName)) hown (mvT hZ (hw _ (List.mem_of_getElem? (i := 43) rfl))) (mvT hZ (hw _ (List.mem_of_getElem? (i := 44) rfl))) (notFace_of_selects (args := #[]) (mvT hZ (hw _ (List.mem_of_getElem? (i := 46) rfl)))) (mvT hZ (hw _ (List.mem_of_getElem? (i := 46) rfl))) (mvT hZ (hw _ (List.mem_of_getElem? (i := 45) rfl))) (by decide) (backOf (W := 0) (eqU l Z a0 hw [] a1 b cz h1 n0 O1 G0 (P0.ext E1) Fc1 (P1.ext E1) (Ne.symm (Ns1 _ Sy1_b).1) hcs) hZ (hw _ (List.mem_of_getElem? (i := 47) rfl)) (hw _ (List.mem_of_getElem? (i := 9) rfl)) (by decide) (by decide)) q2a q2c (g := (mkF m 3 #[.val (.ref b)] [(.ref b), (.ref a1)])) rfl (by rw [hml]; rfl) (Steps.refl _) (argsL := [(.ref b)]) (rest := []) (lenOf pd_8 rfl) rfl (by show 2 * 0 + _ ≤ _; exact Nat.le_of_eq rfl) (hb hby d14_3) (fun _ _ => ⟨rfl, e1, (by decide : 2 + 0 ≤ _), (by decide : 132 + 0 ≤ _)⟩)
  dsimp only [Pt.U, Pt.locs, Pt.cells, Pt.slots] at X2 l2 y2 z2 st2 hQ2
  subst l2 y2 z2
  obtain ⟨rfl, Nq2, kh2⟩ := hQ2
  have N2 := Fr.app N0 Nq2
  obtain ⟨a3, T3, h3, k3, bb3, kb3, X3, e3, E3, hS3, hk3, hZ, hown, Ea3, Fc3, Fv3, Vb3, la3, lb3, CL3, Lt3, Ns3, st3⟩ := ldcCH (s := s) (vm0 := T1.vm) X2 hx hZ hown (hw _ (List.mem_of_getElem? (i := 53) rfl)) wS kh2 hS1 hk1 hEL (List.mem_of_getElem? (i := 1) rfl) CR1.1 (vs := ((own_U1.map fun c => c.toInt8.toInt32).map Value.int)) (z := (Int32.ofNat own_U1.length)) ⟨by decide +kernel, by decide +kernel⟩ (by decide +kernel) (by decide +kernel) (g := (mkF m 9 #[.val (.ref b)] [])) rfl (hb hby d14_9) (n := 140) (by decide) (by decide) (by decide) (by decide)
  have hZ3 := hZ
  have hown3 := hown
  have O3 := O1.ext E3
  have K3 : Keep h0 h3 [] := K1.ext E3
  have CR3 := CR1.trans CL3
  have Sy3_b := CL3.safe ((P0.ext E1)).lt Sy1_b
  obtain ⟨cq4, kq4, q4a, q4b, q4c⟩ := isOf hZ e3 Ea3
  obtain ⟨_, _, ⟨T4, L4, k4, n4⟩, -, X4, ⟨Lc4, hQ4, l4, y4, z4⟩, st4⟩ := X3.virtualBack hx (y := (⟨"java/lang/String", "equals", "(Ljava/lang/Object;)Z"⟩ : MethodName)) (z := (⟨"java/lang/String", "equals", "(Ljava/lang/Object;)Z"⟩ : MethodName)) hown (mvT hZ (hw _ (List.mem_of_getElem? (i := 43) rfl))) (mvT hZ (hw _ (List.mem_of_getElem? (i := 44) rfl))) (notFace_of_selects (args := #[]) (mvT hZ (hw _ (List.mem_of_getElem? (i := 46) rfl)))) (mvT hZ (hw _ (List.mem_of_getElem? (i := 46) rfl))) (mvT hZ (hw _ (List.mem_of_getElem? (i := 45) rfl))) (by decide) (backOf (W := 0) (eqU l Z a0 hw [] a3 b cz h3 n0 O3 G0 ((P0.ext E1).ext E3) Fc3 ((P1.ext E1).ext E3) (Ne.symm (Ns3 _ Sy3_b).1) hcs) hZ (hw _ (List.mem_of_getElem? (i := 47) rfl)) (hw _ (List.mem_of_getElem? (i := 9) rfl)) (by decide) (by decide)) q4a q4c (g := (mkF m 12 #[.val (.ref b)] [(.ref b), (.ref a3)])) rfl (by rw [hml]; rfl) (Steps.refl _) (argsL := [(.ref b)]) (rest := []) (lenOf pd_8 rfl) rfl (by show 2 * 0 + _ ≤ _; exact Nat.le_of_eq rfl) (hb hby d14_12) (fun _ _ => ⟨rfl, e3, (by decide : 4 + 0 ≤ _), (by decide : 276 + 0 ≤ _)⟩)
  dsimp only [Pt.U, Pt.locs, Pt.cells, Pt.slots] at X4 l4 y4 z4 st4 hQ4
  subst l4 y4 z4
  obtain ⟨rfl, Nq4, kh4⟩ := hQ4
  have N4 := Fr.app N2 Nq4
  obtain ⟨a5, T5, h5, k5, bb5, kb5, X5, e5, E5, hS5, hk5, hZ, hown, Ea5, Fc5, Fv5, Vb5, la5, lb5, CL5, Lt5, Ns5, st5⟩ := ldcCH (s := s) (vm0 := T3.vm) X4 hx hZ hown (hw _ (List.mem_of_getElem? (i := 54) rfl)) wS kh4 hS3 hk3 hEL (List.mem_of_getElem? (i := 2) rfl) CR3.1 (vs := ((own_U2.map fun c => c.toInt8.toInt32).map Value.int)) (z := (Int32.ofNat own_U2.length)) ⟨by decide +kernel, by decide +kernel⟩ (by decide +kernel) (by decide +kernel) (g := (mkF m 18 #[.val (.ref b)] [])) rfl (hb hby d14_18) (n := 128) (by decide) (by decide) (by decide) (by decide)
  have hZ5 := hZ
  have hown5 := hown
  have O5 := O3.ext E5
  have K5 : Keep h0 h5 [] := K3.ext E5
  have CR5 := CR3.trans CL5
  have Sy5_b := CL5.safe (((P0.ext E1).ext E3)).lt Sy3_b
  obtain ⟨cq6, kq6, q6a, q6b, q6c⟩ := isOf hZ e5 Ea5
  obtain ⟨_, _, ⟨T6, L6, k6, n6⟩, -, X6, ⟨Lc6, hQ6, l6, y6, z6⟩, st6⟩ := X5.virtualBack hx (y := (⟨"java/lang/String", "equals", "(Ljava/lang/Object;)Z"⟩ : MethodName)) (z := (⟨"java/lang/String", "equals", "(Ljava/lang/Object;)Z"⟩ : MethodName)) hown (mvT hZ (hw _ (List.mem_of_getElem? (i := 43) rfl))) (mvT hZ (hw _ (List.mem_of_getElem? (i := 44) rfl))) (notFace_of_selects (args := #[]) (mvT hZ (hw _ (List.mem_of_getElem? (i := 46) rfl)))) (mvT hZ (hw _ (List.mem_of_getElem? (i := 46) rfl))) (mvT hZ (hw _ (List.mem_of_getElem? (i := 45) rfl))) (by decide) (backOf (W := 0) (eqU l Z a0 hw [] a5 b cz h5 n0 O5 G0 (((P0.ext E1).ext E3).ext E5) Fc5 (((P1.ext E1).ext E3).ext E5) (Ne.symm (Ns5 _ Sy5_b).1) hcs) hZ (hw _ (List.mem_of_getElem? (i := 47) rfl)) (hw _ (List.mem_of_getElem? (i := 9) rfl)) (by decide) (by decide)) q6a q6c (g := (mkF m 21 #[.val (.ref b)] [(.ref b), (.ref a5)])) rfl (by rw [hml]; rfl) (Steps.refl _) (argsL := [(.ref b)]) (rest := []) (lenOf pd_8 rfl) rfl (by show 2 * 0 + _ ≤ _; exact Nat.le_of_eq rfl) (hb hby d14_21) (fun _ _ => ⟨rfl, e5, (by decide : 6 + 0 ≤ _), (by decide : 408 + 0 ≤ _)⟩)
  dsimp only [Pt.U, Pt.locs, Pt.cells, Pt.slots] at X6 l6 y6 z6 st6 hQ6
  subst l6 y6 z6
  obtain ⟨rfl, Nq6, kh6⟩ := hQ6
  have N6 := Fr.app N4 Nq6
  obtain ⟨a7, T7, h7, k7, bb7, kb7, X7, e7, E7, hS7, hk7, hZ, hown, Ea7, Fc7, Fv7, Vb7, la7, lb7, CL7, Lt7, Ns7, st7⟩ := ldcCH (s := s) (vm0 := T5.vm) X6 hx hZ hown (hw _ (List.mem_of_getElem? (i := 55) rfl)) wS kh6 hS5 hk5 hEL (List.mem_of_getElem? (i := 3) rfl) CR5.1 (vs := ((own_U3.map fun c => c.toInt8.toInt32).map Value.int)) (z := (Int32.ofNat own_U3.length)) ⟨by decide +kernel, by decide +kernel⟩ (by decide +kernel) (by decide +kernel) (g := (mkF m 27 #[.val (.ref b)] [])) rfl (hb hby d14_27) (n := 164) (by decide) (by decide) (by decide) (by decide)
  have hZ7 := hZ
  have hown7 := hown
  have O7 := O5.ext E7
  have K7 : Keep h0 h7 [] := K5.ext E7
  have CR7 := CR5.trans CL7
  have Sy7_b := CL7.safe ((((P0.ext E1).ext E3).ext E5)).lt Sy5_b
  obtain ⟨cq8, kq8, q8a, q8b, q8c⟩ := isOf hZ e7 Ea7
  obtain ⟨_, _, ⟨T8, L8, k8, n8⟩, -, X8, ⟨Lc8, hQ8, l8, y8, z8⟩, st8⟩ := X7.virtualBack hx (y := (⟨"java/lang/String", "equals", "(Ljava/lang/Object;)Z"⟩ : MethodName)) (z := (⟨"java/lang/String", "equals", "(Ljava/lang/Object;)Z"⟩ : MethodName)) hown (mvT hZ (hw _ (List.mem_of_getElem? (i := 43) rfl))) (mvT hZ (hw _ (List.mem_of_getElem? (i := 44) rfl))) (notFace_of_selects (args := #[]) (mvT hZ (hw _ (List.mem_of_getElem? (i := 46) rfl)))) (mvT hZ (hw _ (List.mem_of_getElem? (i := 46) rfl))) (mvT hZ (hw _ (List.mem_of_getElem? (i := 45) rfl))) (by decide) (backOf (W := 0) (eqU l Z a0 hw [] a7 b cz h7 n0 O7 G0 ((((P0.ext E1).ext E3).ext E5).ext E7) Fc7 ((((P1.ext E1).ext E3).ext E5).ext E7) (Ne.symm (Ns7 _ Sy7_b).1) hcs) hZ (hw _ (List.mem_of_getElem? (i := 47) rfl)) (hw _ (List.mem_of_getElem? (i := 9) rfl)) (by decide) (by decide)) q8a q8c (g := (mkF m 30 #[.val (.ref b)] [(.ref b), (.ref a7)])) rfl (by rw [hml]; rfl) (Steps.refl _) (argsL := [(.ref b)]) (rest := []) (lenOf pd_8 rfl) rfl (by show 2 * 0 + _ ≤ _; exact Nat.le_of_eq rfl) (hb hby d14_30) (fun _ _ => ⟨rfl, e7, (by decide : 8 + 0 ≤ _), (by decide : 576 + 0 ≤ _)⟩)
  dsimp only [Pt.U, Pt.locs, Pt.cells, Pt.slots] at X8 l8 y8 z8 st8 hQ8
  subst l8 y8 z8
  obtain ⟨rfl, Nq8, kh8⟩ := hQ8
  have N8 := Fr.app N6 Nq8
  obtain ⟨fs, hr, hrun, hended, hRW⟩ := X8.leaveW (s := s) hS7 (own_hk kh8 hk7) (v := some (.int (0 : Int32))) (fun h => by rw [Bd.returns] at h; cases h)
  have CE := CR7.trans (CHv.at (s := s) (vm0 := T7.vm) X8 hZ hEL CR7.1)
  refine ⟨_, _, pre0 _ ?_, hrun, hended, _, _, rfl, ?_, ?_, own_rw_mono hRW (by decide) (by decide)⟩
  · show Steps p.tables e below (s₁.setTop (mkF m 0 #[.val (.ref b)] [])) _
    refine st1 _ ?_
    show Steps p.tables e below (T1.setTop (mkF m 2 #[.val (.ref b)] [(.ref a1)])) _
    refine XS.aloadN X1.here hx rfl (hb hby d14_2) rfl rfl ?_
    show Steps p.tables e below (T1.setTop (mkF m 3 #[.val (.ref b)] [(.ref b), (.ref a1)])) _
    refine st2.trans ?_
    show Steps p.tables e below (T2.setTop (mkF m 6 #[.val (.ref b)] [(.int (0 : Int32))])) _
    refine XS.ifNo X2.here hx rfl (hb hby d14_6) rfl ((if0 _ _).trans (teq (by decide : (0 : Int32) = (0 : Int32))).2) ?_
    show Steps p.tables e below (T2.setTop (mkF m 9 #[.val (.ref b)] [])) _
    refine st3 _ ?_
    show Steps p.tables e below (T3.setTop (mkF m 11 #[.val (.ref b)] [(.ref a3)])) _
    refine XS.aloadN X3.here hx rfl (hb hby d14_11) rfl rfl ?_
    show Steps p.tables e below (T3.setTop (mkF m 12 #[.val (.ref b)] [(.ref b), (.ref a3)])) _
    refine st4.trans ?_
    show Steps p.tables e below (T4.setTop (mkF m 15 #[.val (.ref b)] [(.int (0 : Int32))])) _
    refine XS.ifNo X4.here hx rfl (hb hby d14_15) rfl ((if0 _ _).trans (teq (by decide : (0 : Int32) = (0 : Int32))).2) ?_
    show Steps p.tables e below (T4.setTop (mkF m 18 #[.val (.ref b)] [])) _
    refine st5 _ ?_
    show Steps p.tables e below (T5.setTop (mkF m 20 #[.val (.ref b)] [(.ref a5)])) _
    refine XS.aloadN X5.here hx rfl (hb hby d14_20) rfl rfl ?_
    show Steps p.tables e below (T5.setTop (mkF m 21 #[.val (.ref b)] [(.ref b), (.ref a5)])) _
    refine st6.trans ?_
    show Steps p.tables e below (T6.setTop (mkF m 24 #[.val (.ref b)] [(.int (0 : Int32))])) _
    refine XS.ifNo X6.here hx rfl (hb hby d14_24) rfl ((if0 _ _).trans (teq (by decide : (0 : Int32) = (0 : Int32))).2) ?_
    show Steps p.tables e below (T6.setTop (mkF m 27 #[.val (.ref b)] [])) _
    refine st7 _ ?_
    show Steps p.tables e below (T7.setTop (mkF m 29 #[.val (.ref b)] [(.ref a7)])) _
    refine XS.aloadN X7.here hx rfl (hb hby d14_29) rfl rfl ?_
    show Steps p.tables e below (T7.setTop (mkF m 30 #[.val (.ref b)] [(.ref b), (.ref a7)])) _
    refine st8.trans ?_
    show Steps p.tables e below (T8.setTop (mkF m 33 #[.val (.ref b)] [(.int (0 : Int32))])) _
    refine XS.ifYes X8.here hx rfl (pc0 := 33) (pc' := 40) rfl (hb hby d14_33) rfl ((if0 _ _).trans (teq (by decide : (0 : Int32) = (0 : Int32))).1) (by decide) (by decide) ?_
    show Steps p.tables e below (T8.setTop (mkF m 40 #[.val (.ref b)] [])) _
    refine XS.iconst X8.here hx rfl (hb hby d14_40) ?_
    show Steps p.tables e below (T8.setTop (mkF m 41 #[.val (.ref b)] [(.int (0 : Int32))])) _
    exact retN X8 hx (t := .boolean) Bd.returns (by simp) (hb hby d14_41) hr
  · show Q_biU Z b cz h0 n0 _ T8.heap _
    rw [kh8]
    exact ⟨rfl, N8, K7⟩
  · show CHr Z own_EL s.vm s.heap T8.vm T8.heap
    rw [hh, kh8]; exact CE
def Q_uri (Z : State) (k : Int32) (h0 : Heap) (n0 : Nat) (v : Option Value) (h : Heap) (L : List Loc) : Prop := ∃ r : Addr, ∃ kr : ClassId, v = some (.ref r) ∧ Fr n0 L ∧ Keep h0 h [] ∧ h0.size ≤ r ∧ Arv Z h r kr .char (Int32.ofNat (own_U k).length) ((own_U k).map Value.int) (.int (0 : Int32))
def own_w (j : Nat) : Nat := if j < 6 then 1 else 2
def own_chk (cd : ByteArray) (pe : Nat) : List Int32 → Nat → Nat → Bool
  | [], pc, _ => decide (pc = pe)
  | x :: us, pc, j => decide (decode cd pc = .ok (.dup, 1)) && (decide ((own_w j = 1 ∧ decode cd (pc + 1) = .ok (.iconst (j : Int), 1)) ∨ (own_w j = 2 ∧ decode cd (pc + 1) = .ok (.bipush (j : Int), 2))) && (decide (decode cd (pc + 1 + own_w j) = .ok (.bipush x.toInt, 2)) && (decide (decode cd (pc + 1 + own_w j + 2) = .ok (.castore, 1)) && (decide (Int32.ofInt (j : Int) = Int32.ofNat j) && (decide ((Int8.ofInt (j : Int)).toInt32 = Int32.ofNat j) && (decide ((Int8.ofInt x.toInt).toInt32 = x) && (decide (nar .char x = x) && own_chk cd pe us (pc + 1 + own_w j + 2 + 1) (j + 1))))))))
theorem own_fill {p : Program} {l : Launch} {e : Env} {R : Room} {s : State} {m : MethodId} {args : Array Value} {below : List Frame} {meth : Method} {c : Code} {Z : State} {n0 : Nat} {cells slots : Nat} (hx : p.tables.exec = Jvm.exec) (hZ : Z.Warmed39 s.vm) {b : Addr} {k : ClassId} {n : Int32} {Ls : Array Slot} {pe : Nat} (g_b : n0 ≤ b) :
    ∀ (us done : List Int32) (pc : Nat) (T : State) (locs : List Loc) (h : Heap), done.length + us.length ≤ 41 → Int32.ofNat (done.length + us.length) = n → own_chk c.code pe us pc done.length = true → Stand p l e R s m args below meth c T locs cells slots → T.heap = h → Fr n0 locs → Arv Z h b k .char n (done.map Value.int) (.int (0 : Int32)) →
      ∃ (T' : State) (h' : Heap) (L' : List Loc), Stand p l e R s m args below meth c T' L' cells slots ∧ T'.heap = h' ∧ Fr n0 L' ∧ Keep h h' [b] ∧ Arv Z h' b k .char n ((done ++ us).map Value.int) (.int (0 : Int32)) ∧ ∀ target, Steps p.tables e below (T'.setTop (mkF m pe Ls [.ref b])) target → Steps p.tables e below (T.setTop (mkF m pc Ls [.ref b])) target := by
  intro us
  induction us with
  | nil =>
    intro done pc T locs h hl hn hc X e0 N V
    have hp : pc = pe := by simpa [own_chk] using hc
    subst hp
    exact ⟨T, h, locs, X, e0, N, Keep.refl _ _, by rw [List.append_nil]; exact V, fun t k => k⟩
  | cons x us ih =>
    intro done pc T locs h hl hn hc X e0 N V
    simp only [own_chk, Bool.and_eq_true, decide_eq_true_eq] at hc
    obtain ⟨c1, c2, c3, c4, c5, c6, c7, c8, c9⟩ := hc
    rw [List.length_cons] at hl hn
    have V1 := V.pad (pad_rep (done.map Value.int) (.int (0 : Int32)) 1)
    obtain ⟨cl, Ar, q, Sz, Ng, Hs, Gs⟩ := V1
    have hin := inb_of Sz (j := Int32.ofNat done.length) (by rw [← hn]; exact own_bnd (by omega) hl)
    obtain ⟨T1, h1, X1, e1, W1, st1⟩ := stC X hx hZ e0 Ar (j := Int32.ofNat done.length) (x := x) hin (g := mkF m (pc + 1 + own_w done.length + 2) Ls [.int x, .int (Int32.ofNat done.length), .ref b, .ref b]) rfl rfl c4
    have V2 := Arv.set Ar q Sz Ng Hs Gs (fits_nar_char x) W1 done.length (Int32.toNatClampNeg_ofNat_of_lt (by omega)) (by simp)
    have hset : (done.map Value.int ++ List.replicate 1 (Value.int (0 : Int32))).set done.length (.int (nar .char x)) = (done ++ [x]).map Value.int := by
      rw [c8, List.map_append, List.set_append_right _ _ (by simp)]; simp
    rw [hset] at V2
    obtain ⟨T2, h2, L2, X2, e2, N2, K2, V3, st2⟩ := ih (done ++ [x]) (pc + 1 + own_w done.length + 2 + 1) T1 _ h1 (by simp; omega) (by rw [← hn]; congr 1; simp; omega) (by rw [List.length_append]; exact c9) X1 e1 (Fr.snoc X1 N g_b) V2
    refine ⟨T2, h2, L2, X2, e2, N2, (Keep.of_wr W1).trans K2 (fun y hy => Or.inl hy), by rw [List.append_assoc] at V3; exact V3, fun target kt => ?_⟩
    have fin : Steps p.tables e below (T.setTop (mkF m (pc + 1 + own_w done.length) Ls [.int (Int32.ofNat done.length), .ref b, .ref b])) target := by
      refine Jvm.Free.XT.bipushV X.here hx rfl x c3 c7 ?_
      exact st1 _ (st2 _ kt)
    refine XS.dup X.here hx rfl c1 rfl rfl ?_
    rcases c2 with ⟨hw1, c2⟩ | ⟨hw1, c2⟩
    · rw [hw1] at fin; exact Jvm.Free.XT.iconstV X.here hx rfl (Int32.ofNat done.length) c2 c5 fin
    · rw [hw1] at fin; exact Jvm.Free.XT.bipushV X.here hx rfl (Int32.ofNat done.length) c2 c6 fin
theorem own_chk0 : own_chk method_2_code 194 own_U0 8 0 = true := by decide +kernel
theorem own_chk1 : own_chk method_2_code 408 own_U1 204 0 = true := by decide +kernel
theorem own_chk2 : own_chk method_2_code 604 own_U2 418 0 = true := by decide +kernel
theorem own_chk3 : own_chk method_2_code 854 own_U3 614 0 = true := by decide +kernel
theorem own_chk4 : own_chk method_2_code 1104 own_U4 864 0 = true := by decide +kernel
theorem own_chk5 : own_chk method_2_code 1354 own_U5 1114 0 = true := by decide +kernel
theorem own_chk6 : own_chk method_2_code 1599 own_U6 1365 0 = true := by decide +kernel
theorem own_chk7 : own_chk method_2_code 1784 own_U7 1604 0 = true := by decide +kernel
theorem d16_0 : decode method_2_code 0 = .ok (.iload_n 0, 1) := by decide +kernel
theorem d16_1 : decode method_2_code 1 = .ok (.ifCond .ne 194, 3) := by decide +kernel
theorem d16_4 : decode method_2_code 4 = .ok (.bipush 32, 2) := by decide +kernel
theorem d16_6 : decode method_2_code 6 = .ok (.newarray .char, 2) := by decide +kernel
theorem d16_8 : decode method_2_code 8 = .ok (.dup, 1) := by decide +kernel
theorem d16_194 : decode method_2_code 194 = .ok (.areturn, 1) := by decide +kernel
theorem pn_17 : plainName "com/example/tsutsumi/tsutsumi/service/SchemaElementsIsBuiltInNamespacePinLaw" = true := by first | (simp [plainName, overriddenIn]; done) | decide +kernel
theorem ef_16_I (m : MethodId) (x0 : Int32) : entryFrame m #[(.int x0)] 1 = mkF m 0 #[.val (.int x0)] [] := by first | (simp [entryFrame, mkF, argsToLocals, Value.category]; done) | rfl
set_option maxRecDepth 65536 in
set_option maxHeartbeats 40000000 in
theorem uri_0 (l : Launch) (Z : State) (a0 : Array Value) (hw : ∀ d ∈ tables_1, d.before a0 Z = true) (ws : List Jvm.Cond) (k : Int32) (h0 : Heap) (n0 : Nat) (Z0 : n0 ≤ h0.size) (hc1 : k = (0 : Int32)) :
    MetFree l (⟨"com/example/tsutsumi/tsutsumi/service/SchemaElementsIsBuiltInNamespacePinLaw", "uriChars", "(I)[C"⟩ : MethodName) (head1 (Jvm.Cond.code (⟨"com/example/tsutsumi/tsutsumi/service/SchemaElementsIsBuiltInNamespacePinLaw", "uriChars", "(I)[C"⟩ : MethodName) method_2_code 1 (some (.array .char)) :: ws) ({ frames := 0, cells := 1, slots := 41, locals := 0 } : Room)) (fun zA zU => zA = #[(.int k)] ∧ Z.Warmed39 zU.vm ∧ zU.heap = h0) (fun _ _ _ _ _ => True) (fun _ zU zo zU' => ∃ zv zL, zo = .returned zv ∧ Q_uri Z k h0 n0 zv zU'.heap zL ∧ FrameEnd zU zo zU' zL ({ frames := 0, cells := 1, slots := 41, locals := 0 } : Room).cells ({ frames := 0, cells := 1, slots := 41, locals := 0 } : Room).slots) := by
  refine MetFree.of_bodySF (plainFor_of_name pn_17) hisR ?_
  intro p e s m args below meth c s₁ Bd hml0 hP hK
  obtain ⟨rfl, hZ, hh⟩ := hP
  have hx := Bd.exec
  have hby := Bd.bytes
  have hml : c.maxLocals = 1 := hml0
  have hown : s.vm.findClass "com/example/tsutsumi/tsutsumi/service/SchemaElementsIsBuiltInNamespacePinLaw" = some m.cls := findClass_of_methodNamed Bd.named
  have hnm := (name_of_methodNamed Bd.named Bd.method).1
  have X0 : Stand p l e ({ frames := 0, cells := 1, slots := 41, locals := 0 } : Room) s m #[(.int k)] below meth c s₁ [] 0 0 := Stand.of_body Bd
  have e0 : s₁.heap = h0 := by rw [← hh, Bd.state]; rfl
  have N0 := Fr.nil n0
  have pre0 : ∀ zt, Steps p.tables e below (s₁.setTop (mkF m 0 #[.val (.int k)] [])) zt → Steps p.tables e below (s₁.setTop (entryFrame m #[(.int k)] 1)) zt := fun zt zk => castTop (ef_16_I m k) zk
  obtain ⟨T1, h1, k1, X1, e1, E1, A1, st1⟩ := newP X0 hx hZ (hw _ (List.mem_of_getElem? (i := 4) rfl)) e0 (g := (mkF m 6 #[.val (.int k)] [(.int (32 : Int32))])) rfl (hb hby d16_6) rfl (by decide) (cap := 32) (by decide) (by decide) (by decide) (by decide)
  obtain ⟨b1, gz1⟩ : ∃ z, z = h0.size := ⟨_, rfl⟩
  rw [← gz1] at A1 st1
  have sz_b1 : h0.size ≤ b1 := Nat.le_trans (Keep.refl h0 []).1 (Nat.le_of_eq gz1.symm)
  have g_b1 : n0 ≤ b1 := Nat.le_trans Z0 sz_b1
  have K1 : Keep h0 h1 [] := (Keep.refl h0 []).ext E1
  have V1 : Arv Z h1 b1 k1 .char (32 : Int32) [(.int (0 : Int32)), (.int (0 : Int32)), (.int (0 : Int32)), (.int (0 : Int32)), (.int (0 : Int32)), (.int (0 : Int32)), (.int (0 : Int32)), (.int (0 : Int32)), (.int (0 : Int32)), (.int (0 : Int32)), (.int (0 : Int32)), (.int (0 : Int32)), (.int (0 : Int32)), (.int (0 : Int32)), (.int (0 : Int32)), (.int (0 : Int32)), (.int (0 : Int32)), (.int (0 : Int32)), (.int (0 : Int32)), (.int (0 : Int32)), (.int (0 : Int32)), (.int (0 : Int32)), (.int (0 : Int32)), (.int (0 : Int32)), (.int (0 : Int32)), (.int (0 : Int32)), (.int (0 : Int32)), (.int (0 : Int32)), (.int (0 : Int32)), (.int (0 : Int32)), (.int (0 : Int32)), (.int (0 : Int32))] (.int (0 : Int32)) := (Arv.new A1 (by decide)).pad (pad_rep [] (.int (0 : Int32)) 32)
  have hU : own_U k = own_U0 := by rw [hc1]; rfl
  obtain ⟨T2, h2, L2, X2, e2, N2, kh2, V2, st2⟩ := own_fill (n := (32 : Int32)) (Ls := #[.val (.int k)]) (pe := 194) hx hZ g_b1 own_U0 [] 8 _ _ _ (by decide) (by decide) (by rw [hby]; exact own_chk0) X1 e1 N0 ((Arv.pad (vs' := []) V1 (fun i => ((pad_rep [] (.int (0 : Int32)) 32) i).symm)))
  have K2 : Keep h0 h2 [] := K1.trans kh2 (allS (Or.inr sz_b1) all0)
  have hn : Int32.ofNat own_U0.length = (32 : Int32) := by decide +kernel
  have VE : Arv Z h2 b1 k1 .char (Int32.ofNat (own_U k).length) ((own_U k).map Value.int) (.int (0 : Int32)) := by rw [hU, hn]; exact V2
  obtain ⟨fs, hr, hrun, hended, hW, hsame⟩ := X2.leave (v := some (.ref b1)) (fun h => by rw [Bd.returns] at h; cases h)
  refine ⟨_, _, pre0 _ ?_, hrun, hended, _, _, rfl, ?_, ⟨_, rfl⟩, hW, hsame.mono (by decide) (by decide)⟩
  · show Steps p.tables e below (s₁.setTop (mkF m 0 #[.val (.int k)] [])) _
    refine XS.iloadN X0.here hx rfl (hb hby d16_0) rfl ?_
    show Steps p.tables e below (s₁.setTop (mkF m 1 #[.val (.int k)] [(.int k)])) _
    refine XS.ifNo X0.here hx rfl (hb hby d16_1) rfl ((if0 _ _).trans (teq (hc1 : k = (0 : Int32))).2) ?_
    show Steps p.tables e below (s₁.setTop (mkF m 4 #[.val (.int k)] [])) _
    refine XS.bipush X0.here hx rfl (hb hby d16_4) ?_
    show Steps p.tables e below (s₁.setTop (mkF m 6 #[.val (.int k)] [(.int (32 : Int32))])) _
    refine st1 _ ?_
    show Steps p.tables e below (T1.setTop (mkF m 8 #[.val (.int k)] [(.ref b1)])) _
    refine st2 _ ?_
    show Steps p.tables e below (T2.setTop (mkF m 194 #[.val (.int k)] [(.ref b1)])) _
    jvm_step X2.here [X2.here.top, hx, (hb hby d16_194), X2.method', Bd.returns, Value.isRef, FieldType.isReference]
    first | (intro acts; rw [hr _ acts rfl rfl rfl]) | rw [hr _ _ rfl rfl rfl]
    exact Steps.refl _
  · show Q_uri Z k h0 n0 _ T2.heap _
    rw [e2]
    exact ⟨b1, k1, rfl, N2, K2, sz_b1, VE⟩
theorem d16_195 : decode method_2_code 195 = .ok (.iload_n 0, 1) := by decide +kernel
theorem d16_196 : decode method_2_code 196 = .ok (.iconst 1, 1) := by decide +kernel
theorem d16_197 : decode method_2_code 197 = .ok (.if_icmp .ne 212, 3) := by decide +kernel
theorem d16_200 : decode method_2_code 200 = .ok (.bipush 35, 2) := by decide +kernel
theorem d16_202 : decode method_2_code 202 = .ok (.newarray .char, 2) := by decide +kernel
theorem d16_204 : decode method_2_code 204 = .ok (.dup, 1) := by decide +kernel
theorem d16_408 : decode method_2_code 408 = .ok (.areturn, 1) := by decide +kernel
set_option maxRecDepth 65536 in
set_option maxHeartbeats 40000000 in
theorem uri_1 (l : Launch) (Z : State) (a0 : Array Value) (hw : ∀ d ∈ tables_1, d.before a0 Z = true) (ws : List Jvm.Cond) (k : Int32) (h0 : Heap) (n0 : Nat) (Z0 : n0 ≤ h0.size) (hc1 : ¬ (k = (0 : Int32))) (hc197 : k = (1 : Int32)) :
    MetFree l (⟨"com/example/tsutsumi/tsutsumi/service/SchemaElementsIsBuiltInNamespacePinLaw", "uriChars", "(I)[C"⟩ : MethodName) (head1 (Jvm.Cond.code (⟨"com/example/tsutsumi/tsutsumi/service/SchemaElementsIsBuiltInNamespacePinLaw", "uriChars", "(I)[C"⟩ : MethodName) method_2_code 1 (some (.array .char)) :: ws) ({ frames := 0, cells := 1, slots := 41, locals := 0 } : Room)) (fun zA zU => zA = #[(.int k)] ∧ Z.Warmed39 zU.vm ∧ zU.heap = h0) (fun _ _ _ _ _ => True) (fun _ zU zo zU' => ∃ zv zL, zo = .returned zv ∧ Q_uri Z k h0 n0 zv zU'.heap zL ∧ FrameEnd zU zo zU' zL ({ frames := 0, cells := 1, slots := 41, locals := 0 } : Room).cells ({ frames := 0, cells := 1, slots := 41, locals := 0 } : Room).slots) := by
  refine MetFree.of_bodySF (plainFor_of_name pn_17) hisR ?_
  intro p e s m args below meth c s₁ Bd hml0 hP hK
  obtain ⟨rfl, hZ, hh⟩ := hP
  have hx := Bd.exec
  have hby := Bd.bytes
  have hml : c.maxLocals = 1 := hml0
  have hown : s.vm.findClass "com/example/tsutsumi/tsutsumi/service/SchemaElementsIsBuiltInNamespacePinLaw" = some m.cls := findClass_of_methodNamed Bd.named
  have hnm := (name_of_methodNamed Bd.named Bd.method).1
  have X0 : Stand p l e ({ frames := 0, cells := 1, slots := 41, locals := 0 } : Room) s m #[(.int k)] below meth c s₁ [] 0 0 := Stand.of_body Bd
  have e0 : s₁.heap = h0 := by rw [← hh, Bd.state]; rfl
  have N0 := Fr.nil n0
  have pre0 : ∀ zt, Steps p.tables e below (s₁.setTop (mkF m 0 #[.val (.int k)] [])) zt → Steps p.tables e below (s₁.setTop (entryFrame m #[(.int k)] 1)) zt := fun zt zk => castTop (ef_16_I m k) zk
  obtain ⟨T1, h1, k1, X1, e1, E1, A1, st1⟩ := newP X0 hx hZ (hw _ (List.mem_of_getElem? (i := 4) rfl)) e0 (g := (mkF m 202 #[.val (.int k)] [(.int (35 : Int32))])) rfl (hb hby d16_202) rfl (by decide) (cap := 35) (by decide) (by decide) (by decide) (by decide)
  obtain ⟨b1, gz1⟩ : ∃ z, z = h0.size := ⟨_, rfl⟩
  rw [← gz1] at A1 st1
  have sz_b1 : h0.size ≤ b1 := Nat.le_trans (Keep.refl h0 []).1 (Nat.le_of_eq gz1.symm)
  have g_b1 : n0 ≤ b1 := Nat.le_trans Z0 sz_b1
  have K1 : Keep h0 h1 [] := (Keep.refl h0 []).ext E1
  have V1 : Arv Z h1 b1 k1 .char (35 : Int32) [(.int (0 : Int32)), (.int (0 : Int32)), (.int (0 : Int32)), (.int (0 : Int32)), (.int (0 : Int32)), (.int (0 : Int32)), (.int (0 : Int32)), (.int (0 : Int32)), (.int (0 : Int32)), (.int (0 : Int32)), (.int (0 : Int32)), (.int (0 : Int32)), (.int (0 : Int32)), (.int (0 : Int32)), (.int (0 : Int32)), (.int (0 : Int32)), (.int (0 : Int32)), (.int (0 : Int32)), (.int (0 : Int32)), (.int (0 : Int32)), (.int (0 : Int32)), (.int (0 : Int32)), (.int (0 : Int32)), (.int (0 : Int32)), (.int (0 : Int32)), (.int (0 : Int32)), (.int (0 : Int32)), (.int (0 : Int32)), (.int (0 : Int32)), (.int (0 : Int32)), (.int (0 : Int32)), (.int (0 : Int32)), (.int (0 : Int32)), (.int (0 : Int32)), (.int (0 : Int32))] (.int (0 : Int32)) := (Arv.new A1 (by decide)).pad (pad_rep [] (.int (0 : Int32)) 35)
  have hU : own_U k = own_U1 := by rw [hc197]; rfl
  obtain ⟨T2, h2, L2, X2, e2, N2, kh2, V2, st2⟩ := own_fill (n := (35 : Int32)) (Ls := #[.val (.int k)]) (pe := 408) hx hZ g_b1 own_U1 [] 204 _ _ _ (by decide) (by decide) (by rw [hby]; exact own_chk1) X1 e1 N0 ((Arv.pad (vs' := []) V1 (fun i => ((pad_rep [] (.int (0 : Int32)) 35) i).symm)))
  have K2 : Keep h0 h2 [] := K1.trans kh2 (allS (Or.inr sz_b1) all0)
  have hn : Int32.ofNat own_U1.length = (35 : Int32) := by decide +kernel
  have VE : Arv Z h2 b1 k1 .char (Int32.ofNat (own_U k).length) ((own_U k).map Value.int) (.int (0 : Int32)) := by rw [hU, hn]; exact V2
  obtain ⟨fs, hr, hrun, hended, hW, hsame⟩ := X2.leave (v := some (.ref b1)) (fun h => by rw [Bd.returns] at h; cases h)
  refine ⟨_, _, pre0 _ ?_, hrun, hended, _, _, rfl, ?_, ⟨_, rfl⟩, hW, hsame.mono (by decide) (by decide)⟩
  · show Steps p.tables e below (s₁.setTop (mkF m 0 #[.val (.int k)] [])) _
    refine XS.iloadN X0.here hx rfl (hb hby d16_0) rfl ?_
    show Steps p.tables e below (s₁.setTop (mkF m 1 #[.val (.int k)] [(.int k)])) _
    refine XS.ifYes X0.here hx rfl (pc0 := 1) (pc' := 195) rfl (hb hby d16_1) rfl ((if0 _ _).trans (feq (hc1 : ¬ (k = (0 : Int32)))).2) (by decide) (by decide) ?_
    show Steps p.tables e below (s₁.setTop (mkF m 195 #[.val (.int k)] [])) _
    refine XS.iloadN X0.here hx rfl (hb hby d16_195) rfl ?_
    show Steps p.tables e below (s₁.setTop (mkF m 196 #[.val (.int k)] [(.int k)])) _
    refine XS.iconst X0.here hx rfl (hb hby d16_196) ?_
    show Steps p.tables e below (s₁.setTop (mkF m 197 #[.val (.int k)] [(.int (1 : Int32)), (.int k)])) _
    refine XS.icmpNo X0.here hx rfl (hb hby d16_197) rfl (teq (hc197 : k = (1 : Int32))).2 ?_
    show Steps p.tables e below (s₁.setTop (mkF m 200 #[.val (.int k)] [])) _
    refine XS.bipush X0.here hx rfl (hb hby d16_200) ?_
    show Steps p.tables e below (s₁.setTop (mkF m 202 #[.val (.int k)] [(.int (35 : Int32))])) _
    refine st1 _ ?_
    show Steps p.tables e below (T1.setTop (mkF m 204 #[.val (.int k)] [(.ref b1)])) _
    refine st2 _ ?_
    show Steps p.tables e below (T2.setTop (mkF m 408 #[.val (.int k)] [(.ref b1)])) _
    jvm_step X2.here [X2.here.top, hx, (hb hby d16_408), X2.method', Bd.returns, Value.isRef, FieldType.isReference]
    first | (intro acts; rw [hr _ acts rfl rfl rfl]) | rw [hr _ _ rfl rfl rfl]
    exact Steps.refl _
  · show Q_uri Z k h0 n0 _ T2.heap _
    rw [e2]
    exact ⟨b1, k1, rfl, N2, K2, sz_b1, VE⟩
theorem d16_409 : decode method_2_code 409 = .ok (.iload_n 0, 1) := by decide +kernel
theorem d16_410 : decode method_2_code 410 = .ok (.iconst 2, 1) := by decide +kernel
theorem d16_411 : decode method_2_code 411 = .ok (.if_icmp .ne 194, 3) := by decide +kernel
theorem d16_414 : decode method_2_code 414 = .ok (.bipush 32, 2) := by decide +kernel
theorem d16_416 : decode method_2_code 416 = .ok (.newarray .char, 2) := by decide +kernel
theorem d16_418 : decode method_2_code 418 = .ok (.dup, 1) := by decide +kernel
theorem d16_604 : decode method_2_code 604 = .ok (.areturn, 1) := by decide +kernel
set_option maxRecDepth 65536 in
set_option maxHeartbeats 40000000 in
theorem uri_2 (l : Launch) (Z : State) (a0 : Array Value) (hw : ∀ d ∈ tables_1, d.before a0 Z = true) (ws : List Jvm.Cond) (k : Int32) (h0 : Heap) (n0 : Nat) (Z0 : n0 ≤ h0.size) (hc1 : ¬ (k = (0 : Int32))) (hc197 : ¬ (k = (1 : Int32))) (hc411 : k = (2 : Int32)) :
    MetFree l (⟨"com/example/tsutsumi/tsutsumi/service/SchemaElementsIsBuiltInNamespacePinLaw", "uriChars", "(I)[C"⟩ : MethodName) (head1 (Jvm.Cond.code (⟨"com/example/tsutsumi/tsutsumi/service/SchemaElementsIsBuiltInNamespacePinLaw", "uriChars", "(I)[C"⟩ : MethodName) method_2_code 1 (some (.array .char)) :: ws) ({ frames := 0, cells := 1, slots := 41, locals := 0 } : Room)) (fun zA zU => zA = #[(.int k)] ∧ Z.Warmed39 zU.vm ∧ zU.heap = h0) (fun _ _ _ _ _ => True) (fun _ zU zo zU' => ∃ zv zL, zo = .returned zv ∧ Q_uri Z k h0 n0 zv zU'.heap zL ∧ FrameEnd zU zo zU' zL ({ frames := 0, cells := 1, slots := 41, locals := 0 } : Room).cells ({ frames := 0, cells := 1, slots := 41, locals := 0 } : Room).slots) := by
  refine MetFree.of_bodySF (plainFor_of_name pn_17) hisR ?_
  intro p e s m args below meth c s₁ Bd hml0 hP hK
  obtain ⟨rfl, hZ, hh⟩ := hP
  have hx := Bd.exec
  have hby := Bd.bytes
  have hml : c.maxLocals = 1 := hml0
  have hown : s.vm.findClass "com/example/tsutsumi/tsutsumi/service/SchemaElementsIsBuiltInNamespacePinLaw" = some m.cls := findClass_of_methodNamed Bd.named
  have hnm := (name_of_methodNamed Bd.named Bd.method).1
  have X0 : Stand p l e ({ frames := 0, cells := 1, slots := 41, locals := 0 } : Room) s m #[(.int k)] below meth c s₁ [] 0 0 := Stand.of_body Bd
  have e0 : s₁.heap = h0 := by rw [← hh, Bd.state]; rfl
  have N0 := Fr.nil n0
  have pre0 : ∀ zt, Steps p.tables e below (s₁.setTop (mkF m 0 #[.val (.int k)] [])) zt → Steps p.tables e below (s₁.setTop (entryFrame m #[(.int k)] 1)) zt := fun zt zk => castTop (ef_16_I m k) zk
  obtain ⟨T1, h1, k1, X1, e1, E1, A1, st1⟩ := newP X0 hx hZ (hw _ (List.mem_of_getElem? (i := 4) rfl)) e0 (g := (mkF m 416 #[.val (.int k)] [(.int (32 : Int32))])) rfl (hb hby d16_416) rfl (by decide) (cap := 32) (by decide) (by decide) (by decide) (by decide)
  obtain ⟨b1, gz1⟩ : ∃ z, z = h0.size := ⟨_, rfl⟩
  rw [← gz1] at A1 st1
  have sz_b1 : h0.size ≤ b1 := Nat.le_trans (Keep.refl h0 []).1 (Nat.le_of_eq gz1.symm)
  have g_b1 : n0 ≤ b1 := Nat.le_trans Z0 sz_b1
  have K1 : Keep h0 h1 [] := (Keep.refl h0 []).ext E1
  have V1 : Arv Z h1 b1 k1 .char (32 : Int32) [(.int (0 : Int32)), (.int (0 : Int32)), (.int (0 : Int32)), (.int (0 : Int32)), (.int (0 : Int32)), (.int (0 : Int32)), (.int (0 : Int32)), (.int (0 : Int32)), (.int (0 : Int32)), (.int (0 : Int32)), (.int (0 : Int32)), (.int (0 : Int32)), (.int (0 : Int32)), (.int (0 : Int32)), (.int (0 : Int32)), (.int (0 : Int32)), (.int (0 : Int32)), (.int (0 : Int32)), (.int (0 : Int32)), (.int (0 : Int32)), (.int (0 : Int32)), (.int (0 : Int32)), (.int (0 : Int32)), (.int (0 : Int32)), (.int (0 : Int32)), (.int (0 : Int32)), (.int (0 : Int32)), (.int (0 : Int32)), (.int (0 : Int32)), (.int (0 : Int32)), (.int (0 : Int32)), (.int (0 : Int32))] (.int (0 : Int32)) := (Arv.new A1 (by decide)).pad (pad_rep [] (.int (0 : Int32)) 32)
  have hU : own_U k = own_U2 := by rw [hc411]; rfl
  obtain ⟨T2, h2, L2, X2, e2, N2, kh2, V2, st2⟩ := own_fill (n := (32 : Int32)) (Ls := #[.val (.int k)]) (pe := 604) hx hZ g_b1 own_U2 [] 418 _ _ _ (by decide) (by decide) (by rw [hby]; exact own_chk2) X1 e1 N0 ((Arv.pad (vs' := []) V1 (fun i => ((pad_rep [] (.int (0 : Int32)) 32) i).symm)))
  have K2 : Keep h0 h2 [] := K1.trans kh2 (allS (Or.inr sz_b1) all0)
  have hn : Int32.ofNat own_U2.length = (32 : Int32) := by decide +kernel
  have VE : Arv Z h2 b1 k1 .char (Int32.ofNat (own_U k).length) ((own_U k).map Value.int) (.int (0 : Int32)) := by rw [hU, hn]; exact V2
  obtain ⟨fs, hr, hrun, hended, hW, hsame⟩ := X2.leave (v := some (.ref b1)) (fun h => by rw [Bd.returns] at h; cases h)
  refine ⟨_, _, pre0 _ ?_, hrun, hended, _, _, rfl, ?_, ⟨_, rfl⟩, hW, hsame.mono (by decide) (by decide)⟩
  · show Steps p.tables e below (s₁.setTop (mkF m 0 #[.val (.int k)] [])) _
    refine XS.iloadN X0.here hx rfl (hb hby d16_0) rfl ?_
    show Steps p.tables e below (s₁.setTop (mkF m 1 #[.val (.int k)] [(.int k)])) _
    refine XS.ifYes X0.here hx rfl (pc0 := 1) (pc' := 195) rfl (hb hby d16_1) rfl ((if0 _ _).trans (feq (hc1 : ¬ (k = (0 : Int32)))).2) (by decide) (by decide) ?_
    show Steps p.tables e below (s₁.setTop (mkF m 195 #[.val (.int k)] [])) _
    refine XS.iloadN X0.here hx rfl (hb hby d16_195) rfl ?_
    show Steps p.tables e below (s₁.setTop (mkF m 196 #[.val (.int k)] [(.int k)])) _
    refine XS.iconst X0.here hx rfl (hb hby d16_196) ?_
    show Steps p.tables e below (s₁.setTop (mkF m 197 #[.val (.int k)] [(.int (1 : Int32)), (.int k)])) _
    refine XS.icmpYes X0.here hx rfl (pc0 := 197) (pc' := 409) rfl (hb hby d16_197) rfl (feq (hc197 : ¬ (k = (1 : Int32)))).2 (by decide) (by decide) ?_
    show Steps p.tables e below (s₁.setTop (mkF m 409 #[.val (.int k)] [])) _
    refine XS.iloadN X0.here hx rfl (hb hby d16_409) rfl ?_
    show Steps p.tables e below (s₁.setTop (mkF m 410 #[.val (.int k)] [(.int k)])) _
    refine XS.iconst X0.here hx rfl (hb hby d16_410) ?_
    show Steps p.tables e below (s₁.setTop (mkF m 411 #[.val (.int k)] [(.int (2 : Int32)), (.int k)])) _
    refine XS.icmpNo X0.here hx rfl (hb hby d16_411) rfl (teq (hc411 : k = (2 : Int32))).2 ?_
    show Steps p.tables e below (s₁.setTop (mkF m 414 #[.val (.int k)] [])) _
    refine XS.bipush X0.here hx rfl (hb hby d16_414) ?_
    show Steps p.tables e below (s₁.setTop (mkF m 416 #[.val (.int k)] [(.int (32 : Int32))])) _
    refine st1 _ ?_
    show Steps p.tables e below (T1.setTop (mkF m 418 #[.val (.int k)] [(.ref b1)])) _
    refine st2 _ ?_
    show Steps p.tables e below (T2.setTop (mkF m 604 #[.val (.int k)] [(.ref b1)])) _
    jvm_step X2.here [X2.here.top, hx, (hb hby d16_604), X2.method', Bd.returns, Value.isRef, FieldType.isReference]
    first | (intro acts; rw [hr _ acts rfl rfl rfl]) | rw [hr _ _ rfl rfl rfl]
    exact Steps.refl _
  · show Q_uri Z k h0 n0 _ T2.heap _
    rw [e2]
    exact ⟨b1, k1, rfl, N2, K2, sz_b1, VE⟩
theorem d16_605 : decode method_2_code 605 = .ok (.iload_n 0, 1) := by decide +kernel
theorem d16_606 : decode method_2_code 606 = .ok (.iconst 3, 1) := by decide +kernel
theorem d16_607 : decode method_2_code 607 = .ok (.if_icmp .ne 248, 3) := by decide +kernel
theorem d16_610 : decode method_2_code 610 = .ok (.bipush 41, 2) := by decide +kernel
theorem d16_612 : decode method_2_code 612 = .ok (.newarray .char, 2) := by decide +kernel
theorem d16_614 : decode method_2_code 614 = .ok (.dup, 1) := by decide +kernel
theorem d16_854 : decode method_2_code 854 = .ok (.areturn, 1) := by decide +kernel
set_option maxRecDepth 65536 in
set_option maxHeartbeats 40000000 in
theorem uri_3 (l : Launch) (Z : State) (a0 : Array Value) (hw : ∀ d ∈ tables_1, d.before a0 Z = true) (ws : List Jvm.Cond) (k : Int32) (h0 : Heap) (n0 : Nat) (Z0 : n0 ≤ h0.size) (hc1 : ¬ (k = (0 : Int32))) (hc197 : ¬ (k = (1 : Int32))) (hc411 : ¬ (k = (2 : Int32))) (hc607 : k = (3 : Int32)) :
    MetFree l (⟨"com/example/tsutsumi/tsutsumi/service/SchemaElementsIsBuiltInNamespacePinLaw", "uriChars", "(I)[C"⟩ : MethodName) (head1 (Jvm.Cond.code (⟨"com/example/tsutsumi/tsutsumi/service/SchemaElementsIsBuiltInNamespacePinLaw", "uriChars", "(I)[C"⟩ : MethodName) method_2_code 1 (some (.array .char)) :: ws) ({ frames := 0, cells := 1, slots := 41, locals := 0 } : Room)) (fun zA zU => zA = #[(.int k)] ∧ Z.Warmed39 zU.vm ∧ zU.heap = h0) (fun _ _ _ _ _ => True) (fun _ zU zo zU' => ∃ zv zL, zo = .returned zv ∧ Q_uri Z k h0 n0 zv zU'.heap zL ∧ FrameEnd zU zo zU' zL ({ frames := 0, cells := 1, slots := 41, locals := 0 } : Room).cells ({ frames := 0, cells := 1, slots := 41, locals := 0 } : Room).slots) := by
  refine MetFree.of_bodySF (plainFor_of_name pn_17) hisR ?_
  intro p e s m args below meth c s₁ Bd hml0 hP hK
  obtain ⟨rfl, hZ, hh⟩ := hP
  have hx := Bd.exec
  have hby := Bd.bytes
  have hml : c.maxLocals = 1 := hml0
  have hown : s.vm.findClass "com/example/tsutsumi/tsutsumi/service/SchemaElementsIsBuiltInNamespacePinLaw" = some m.cls := findClass_of_methodNamed Bd.named
  have hnm := (name_of_methodNamed Bd.named Bd.method).1
  have X0 : Stand p l e ({ frames := 0, cells := 1, slots := 41, locals := 0 } : Room) s m #[(.int k)] below meth c s₁ [] 0 0 := Stand.of_body Bd
  have e0 : s₁.heap = h0 := by rw [← hh, Bd.state]; rfl
  have N0 := Fr.nil n0
  have pre0 : ∀ zt, Steps p.tables e below (s₁.setTop (mkF m 0 #[.val (.int k)] [])) zt → Steps p.tables e below (s₁.setTop (entryFrame m #[(.int k)] 1)) zt := fun zt zk => castTop (ef_16_I m k) zk
  obtain ⟨T1, h1, k1, X1, e1, E1, A1, st1⟩ := newP X0 hx hZ (hw _ (List.mem_of_getElem? (i := 4) rfl)) e0 (g := (mkF m 612 #[.val (.int k)] [(.int (41 : Int32))])) rfl (hb hby d16_612) rfl (by decide) (cap := 41) (by decide) (by decide) (by decide) (by decide)
  obtain ⟨b1, gz1⟩ : ∃ z, z = h0.size := ⟨_, rfl⟩
  rw [← gz1] at A1 st1
  have sz_b1 : h0.size ≤ b1 := Nat.le_trans (Keep.refl h0 []).1 (Nat.le_of_eq gz1.symm)
  have g_b1 : n0 ≤ b1 := Nat.le_trans Z0 sz_b1
  have K1 : Keep h0 h1 [] := (Keep.refl h0 []).ext E1
  have V1 : Arv Z h1 b1 k1 .char (41 : Int32) [(.int (0 : Int32)), (.int (0 : Int32)), (.int (0 : Int32)), (.int (0 : Int32)), (.int (0 : Int32)), (.int (0 : Int32)), (.int (0 : Int32)), (.int (0 : Int32)), (.int (0 : Int32)), (.int (0 : Int32)), (.int (0 : Int32)), (.int (0 : Int32)), (.int (0 : Int32)), (.int (0 : Int32)), (.int (0 : Int32)), (.int (0 : Int32)), (.int (0 : Int32)), (.int (0 : Int32)), (.int (0 : Int32)), (.int (0 : Int32)), (.int (0 : Int32)), (.int (0 : Int32)), (.int (0 : Int32)), (.int (0 : Int32)), (.int (0 : Int32)), (.int (0 : Int32)), (.int (0 : Int32)), (.int (0 : Int32)), (.int (0 : Int32)), (.int (0 : Int32)), (.int (0 : Int32)), (.int (0 : Int32)), (.int (0 : Int32)), (.int (0 : Int32)), (.int (0 : Int32)), (.int (0 : Int32)), (.int (0 : Int32)), (.int (0 : Int32)), (.int (0 : Int32)), (.int (0 : Int32)), (.int (0 : Int32))] (.int (0 : Int32)) := (Arv.new A1 (by decide)).pad (pad_rep [] (.int (0 : Int32)) 41)
  have hU : own_U k = own_U3 := by rw [hc607]; rfl
  obtain ⟨T2, h2, L2, X2, e2, N2, kh2, V2, st2⟩ := own_fill (n := (41 : Int32)) (Ls := #[.val (.int k)]) (pe := 854) hx hZ g_b1 own_U3 [] 614 _ _ _ (by decide) (by decide) (by rw [hby]; exact own_chk3) X1 e1 N0 ((Arv.pad (vs' := []) V1 (fun i => ((pad_rep [] (.int (0 : Int32)) 41) i).symm)))
  have K2 : Keep h0 h2 [] := K1.trans kh2 (allS (Or.inr sz_b1) all0)
  have hn : Int32.ofNat own_U3.length = (41 : Int32) := by decide +kernel
  have VE : Arv Z h2 b1 k1 .char (Int32.ofNat (own_U k).length) ((own_U k).map Value.int) (.int (0 : Int32)) := by rw [hU, hn]; exact V2
  obtain ⟨fs, hr, hrun, hended, hW, hsame⟩ := X2.leave (v := some (.ref b1)) (fun h => by rw [Bd.returns] at h; cases h)
  refine ⟨_, _, pre0 _ ?_, hrun, hended, _, _, rfl, ?_, ⟨_, rfl⟩, hW, hsame.mono (by decide) (by decide)⟩
  · show Steps p.tables e below (s₁.setTop (mkF m 0 #[.val (.int k)] [])) _
    refine XS.iloadN X0.here hx rfl (hb hby d16_0) rfl ?_
    show Steps p.tables e below (s₁.setTop (mkF m 1 #[.val (.int k)] [(.int k)])) _
    refine XS.ifYes X0.here hx rfl (pc0 := 1) (pc' := 195) rfl (hb hby d16_1) rfl ((if0 _ _).trans (feq (hc1 : ¬ (k = (0 : Int32)))).2) (by decide) (by decide) ?_
    show Steps p.tables e below (s₁.setTop (mkF m 195 #[.val (.int k)] [])) _
    refine XS.iloadN X0.here hx rfl (hb hby d16_195) rfl ?_
    show Steps p.tables e below (s₁.setTop (mkF m 196 #[.val (.int k)] [(.int k)])) _
    refine XS.iconst X0.here hx rfl (hb hby d16_196) ?_
    show Steps p.tables e below (s₁.setTop (mkF m 197 #[.val (.int k)] [(.int (1 : Int32)), (.int k)])) _
    refine XS.icmpYes X0.here hx rfl (pc0 := 197) (pc' := 409) rfl (hb hby d16_197) rfl (feq (hc197 : ¬ (k = (1 : Int32)))).2 (by decide) (by decide) ?_
    show Steps p.tables e below (s₁.setTop (mkF m 409 #[.val (.int k)] [])) _
    refine XS.iloadN X0.here hx rfl (hb hby d16_409) rfl ?_
    show Steps p.tables e below (s₁.setTop (mkF m 410 #[.val (.int k)] [(.int k)])) _
    refine XS.iconst X0.here hx rfl (hb hby d16_410) ?_
    show Steps p.tables e below (s₁.setTop (mkF m 411 #[.val (.int k)] [(.int (2 : Int32)), (.int k)])) _
    refine XS.icmpYes X0.here hx rfl (pc0 := 411) (pc' := 605) rfl (hb hby d16_411) rfl (feq (hc411 : ¬ (k = (2 : Int32)))).2 (by decide) (by decide) ?_
    show Steps p.tables e below (s₁.setTop (mkF m 605 #[.val (.int k)] [])) _
    refine XS.iloadN X0.here hx rfl (hb hby d16_605) rfl ?_
    show Steps p.tables e below (s₁.setTop (mkF m 606 #[.val (.int k)] [(.int k)])) _
    refine XS.iconst X0.here hx rfl (hb hby d16_606) ?_
    show Steps p.tables e below (s₁.setTop (mkF m 607 #[.val (.int k)] [(.int (3 : Int32)), (.int k)])) _
    refine XS.icmpNo X0.here hx rfl (hb hby d16_607) rfl (teq (hc607 : k = (3 : Int32))).2 ?_
    show Steps p.tables e below (s₁.setTop (mkF m 610 #[.val (.int k)] [])) _
    refine XS.bipush X0.here hx rfl (hb hby d16_610) ?_
    show Steps p.tables e below (s₁.setTop (mkF m 612 #[.val (.int k)] [(.int (41 : Int32))])) _
    refine st1 _ ?_
    show Steps p.tables e below (T1.setTop (mkF m 614 #[.val (.int k)] [(.ref b1)])) _
    refine st2 _ ?_
    show Steps p.tables e below (T2.setTop (mkF m 854 #[.val (.int k)] [(.ref b1)])) _
    jvm_step X2.here [X2.here.top, hx, (hb hby d16_854), X2.method', Bd.returns, Value.isRef, FieldType.isReference]
    first | (intro acts; rw [hr _ acts rfl rfl rfl]) | rw [hr _ _ rfl rfl rfl]
    exact Steps.refl _
  · show Q_uri Z k h0 n0 _ T2.heap _
    rw [e2]
    exact ⟨b1, k1, rfl, N2, K2, sz_b1, VE⟩
theorem d16_855 : decode method_2_code 855 = .ok (.iload_n 0, 1) := by decide +kernel
theorem d16_856 : decode method_2_code 856 = .ok (.iconst 4, 1) := by decide +kernel
theorem d16_857 : decode method_2_code 857 = .ok (.if_icmp .ne 248, 3) := by decide +kernel
theorem d16_860 : decode method_2_code 860 = .ok (.bipush 41, 2) := by decide +kernel
theorem d16_862 : decode method_2_code 862 = .ok (.newarray .char, 2) := by decide +kernel
theorem d16_864 : decode method_2_code 864 = .ok (.dup, 1) := by decide +kernel
theorem d16_1104 : decode method_2_code 1104 = .ok (.areturn, 1) := by decide +kernel
set_option maxRecDepth 65536 in
set_option maxHeartbeats 40000000 in
theorem uri_4 (l : Launch) (Z : State) (a0 : Array Value) (hw : ∀ d ∈ tables_1, d.before a0 Z = true) (ws : List Jvm.Cond) (k : Int32) (h0 : Heap) (n0 : Nat) (Z0 : n0 ≤ h0.size) (hc1 : ¬ (k = (0 : Int32))) (hc197 : ¬ (k = (1 : Int32))) (hc411 : ¬ (k = (2 : Int32))) (hc607 : ¬ (k = (3 : Int32))) (hc857 : k = (4 : Int32)) :
    MetFree l (⟨"com/example/tsutsumi/tsutsumi/service/SchemaElementsIsBuiltInNamespacePinLaw", "uriChars", "(I)[C"⟩ : MethodName) (head1 (Jvm.Cond.code (⟨"com/example/tsutsumi/tsutsumi/service/SchemaElementsIsBuiltInNamespacePinLaw", "uriChars", "(I)[C"⟩ : MethodName) method_2_code 1 (some (.array .char)) :: ws) ({ frames := 0, cells := 1, slots := 41, locals := 0 } : Room)) (fun zA zU => zA = #[(.int k)] ∧ Z.Warmed39 zU.vm ∧ zU.heap = h0) (fun _ _ _ _ _ => True) (fun _ zU zo zU' => ∃ zv zL, zo = .returned zv ∧ Q_uri Z k h0 n0 zv zU'.heap zL ∧ FrameEnd zU zo zU' zL ({ frames := 0, cells := 1, slots := 41, locals := 0 } : Room).cells ({ frames := 0, cells := 1, slots := 41, locals := 0 } : Room).slots) := by
  refine MetFree.of_bodySF (plainFor_of_name pn_17) hisR ?_
  intro p e s m args below meth c s₁ Bd hml0 hP hK
  obtain ⟨rfl, hZ, hh⟩ := hP
  have hx := Bd.exec
  have hby := Bd.bytes
  have hml : c.maxLocals = 1 := hml0
  have hown : s.vm.findClass "com/example/tsutsumi/tsutsumi/service/SchemaElementsIsBuiltInNamespacePinLaw" = some m.cls := findClass_of_methodNamed Bd.named
  have hnm := (name_of_methodNamed Bd.named Bd.method).1
  have X0 : Stand p l e ({ frames := 0, cells := 1, slots := 41, locals := 0 } : Room) s m #[(.int k)] below meth c s₁ [] 0 0 := Stand.of_body Bd
  have e0 : s₁.heap = h0 := by rw [← hh, Bd.state]; rfl
  have N0 := Fr.nil n0
  have pre0 : ∀ zt, Steps p.tables e below (s₁.setTop (mkF m 0 #[.val (.int k)] [])) zt → Steps p.tables e below (s₁.setTop (entryFrame m #[(.int k)] 1)) zt := fun zt zk => castTop (ef_16_I m k) zk
  obtain ⟨T1, h1, k1, X1, e1, E1, A1, st1⟩ := newP X0 hx hZ (hw _ (List.mem_of_getElem? (i := 4) rfl)) e0 (g := (mkF m 862 #[.val (.int k)] [(.int (41 : Int32))])) rfl (hb hby d16_862) rfl (by decide) (cap := 41) (by decide) (by decide) (by decide) (by decide)
  obtain ⟨b1, gz1⟩ : ∃ z, z = h0.size := ⟨_, rfl⟩
  rw [← gz1] at A1 st1
  have sz_b1 : h0.size ≤ b1 := Nat.le_trans (Keep.refl h0 []).1 (Nat.le_of_eq gz1.symm)
  have g_b1 : n0 ≤ b1 := Nat.le_trans Z0 sz_b1
  have K1 : Keep h0 h1 [] := (Keep.refl h0 []).ext E1
  have V1 : Arv Z h1 b1 k1 .char (41 : Int32) [(.int (0 : Int32)), (.int (0 : Int32)), (.int (0 : Int32)), (.int (0 : Int32)), (.int (0 : Int32)), (.int (0 : Int32)), (.int (0 : Int32)), (.int (0 : Int32)), (.int (0 : Int32)), (.int (0 : Int32)), (.int (0 : Int32)), (.int (0 : Int32)), (.int (0 : Int32)), (.int (0 : Int32)), (.int (0 : Int32)), (.int (0 : Int32)), (.int (0 : Int32)), (.int (0 : Int32)), (.int (0 : Int32)), (.int (0 : Int32)), (.int (0 : Int32)), (.int (0 : Int32)), (.int (0 : Int32)), (.int (0 : Int32)), (.int (0 : Int32)), (.int (0 : Int32)), (.int (0 : Int32)), (.int (0 : Int32)), (.int (0 : Int32)), (.int (0 : Int32)), (.int (0 : Int32)), (.int (0 : Int32)), (.int (0 : Int32)), (.int (0 : Int32)), (.int (0 : Int32)), (.int (0 : Int32)), (.int (0 : Int32)), (.int (0 : Int32)), (.int (0 : Int32)), (.int (0 : Int32)), (.int (0 : Int32))] (.int (0 : Int32)) := (Arv.new A1 (by decide)).pad (pad_rep [] (.int (0 : Int32)) 41)
  have hU : own_U k = own_U4 := by rw [hc857]; rfl
  obtain ⟨T2, h2, L2, X2, e2, N2, kh2, V2, st2⟩ := own_fill (n := (41 : Int32)) (Ls := #[.val (.int k)]) (pe := 1104) hx hZ g_b1 own_U4 [] 864 _ _ _ (by decide) (by decide) (by rw [hby]; exact own_chk4) X1 e1 N0 ((Arv.pad (vs' := []) V1 (fun i => ((pad_rep [] (.int (0 : Int32)) 41) i).symm)))
  have K2 : Keep h0 h2 [] := K1.trans kh2 (allS (Or.inr sz_b1) all0)
  have hn : Int32.ofNat own_U4.length = (41 : Int32) := by decide +kernel
  have VE : Arv Z h2 b1 k1 .char (Int32.ofNat (own_U k).length) ((own_U k).map Value.int) (.int (0 : Int32)) := by rw [hU, hn]; exact V2
  obtain ⟨fs, hr, hrun, hended, hW, hsame⟩ := X2.leave (v := some (.ref b1)) (fun h => by rw [Bd.returns] at h; cases h)
  refine ⟨_, _, pre0 _ ?_, hrun, hended, _, _, rfl, ?_, ⟨_, rfl⟩, hW, hsame.mono (by decide) (by decide)⟩
  · show Steps p.tables e below (s₁.setTop (mkF m 0 #[.val (.int k)] [])) _
    refine XS.iloadN X0.here hx rfl (hb hby d16_0) rfl ?_
    show Steps p.tables e below (s₁.setTop (mkF m 1 #[.val (.int k)] [(.int k)])) _
    refine XS.ifYes X0.here hx rfl (pc0 := 1) (pc' := 195) rfl (hb hby d16_1) rfl ((if0 _ _).trans (feq (hc1 : ¬ (k = (0 : Int32)))).2) (by decide) (by decide) ?_
    show Steps p.tables e below (s₁.setTop (mkF m 195 #[.val (.int k)] [])) _
    refine XS.iloadN X0.here hx rfl (hb hby d16_195) rfl ?_
    show Steps p.tables e below (s₁.setTop (mkF m 196 #[.val (.int k)] [(.int k)])) _
    refine XS.iconst X0.here hx rfl (hb hby d16_196) ?_
    show Steps p.tables e below (s₁.setTop (mkF m 197 #[.val (.int k)] [(.int (1 : Int32)), (.int k)])) _
    refine XS.icmpYes X0.here hx rfl (pc0 := 197) (pc' := 409) rfl (hb hby d16_197) rfl (feq (hc197 : ¬ (k = (1 : Int32)))).2 (by decide) (by decide) ?_
    show Steps p.tables e below (s₁.setTop (mkF m 409 #[.val (.int k)] [])) _
    refine XS.iloadN X0.here hx rfl (hb hby d16_409) rfl ?_
    show Steps p.tables e below (s₁.setTop (mkF m 410 #[.val (.int k)] [(.int k)])) _
    refine XS.iconst X0.here hx rfl (hb hby d16_410) ?_
    show Steps p.tables e below (s₁.setTop (mkF m 411 #[.val (.int k)] [(.int (2 : Int32)), (.int k)])) _
    refine XS.icmpYes X0.here hx rfl (pc0 := 411) (pc' := 605) rfl (hb hby d16_411) rfl (feq (hc411 : ¬ (k = (2 : Int32)))).2 (by decide) (by decide) ?_
    show Steps p.tables e below (s₁.setTop (mkF m 605 #[.val (.int k)] [])) _
    refine XS.iloadN X0.here hx rfl (hb hby d16_605) rfl ?_
    show Steps p.tables e below (s₁.setTop (mkF m 606 #[.val (.int k)] [(.int k)])) _
    refine XS.iconst X0.here hx rfl (hb hby d16_606) ?_
    show Steps p.tables e below (s₁.setTop (mkF m 607 #[.val (.int k)] [(.int (3 : Int32)), (.int k)])) _
    refine XS.icmpYes X0.here hx rfl (pc0 := 607) (pc' := 855) rfl (hb hby d16_607) rfl (feq (hc607 : ¬ (k = (3 : Int32)))).2 (by decide) (by decide) ?_
    show Steps p.tables e below (s₁.setTop (mkF m 855 #[.val (.int k)] [])) _
    refine XS.iloadN X0.here hx rfl (hb hby d16_855) rfl ?_
    show Steps p.tables e below (s₁.setTop (mkF m 856 #[.val (.int k)] [(.int k)])) _
    refine XS.iconst X0.here hx rfl (hb hby d16_856) ?_
    show Steps p.tables e below (s₁.setTop (mkF m 857 #[.val (.int k)] [(.int (4 : Int32)), (.int k)])) _
    refine XS.icmpNo X0.here hx rfl (hb hby d16_857) rfl (teq (hc857 : k = (4 : Int32))).2 ?_
    show Steps p.tables e below (s₁.setTop (mkF m 860 #[.val (.int k)] [])) _
    refine XS.bipush X0.here hx rfl (hb hby d16_860) ?_
    show Steps p.tables e below (s₁.setTop (mkF m 862 #[.val (.int k)] [(.int (41 : Int32))])) _
    refine st1 _ ?_
    show Steps p.tables e below (T1.setTop (mkF m 864 #[.val (.int k)] [(.ref b1)])) _
    refine st2 _ ?_
    show Steps p.tables e below (T2.setTop (mkF m 1104 #[.val (.int k)] [(.ref b1)])) _
    jvm_step X2.here [X2.here.top, hx, (hb hby d16_1104), X2.method', Bd.returns, Value.isRef, FieldType.isReference]
    first | (intro acts; rw [hr _ acts rfl rfl rfl]) | rw [hr _ _ rfl rfl rfl]
    exact Steps.refl _
  · show Q_uri Z k h0 n0 _ T2.heap _
    rw [e2]
    exact ⟨b1, k1, rfl, N2, K2, sz_b1, VE⟩
theorem d16_1105 : decode method_2_code 1105 = .ok (.iload_n 0, 1) := by decide +kernel
theorem d16_1106 : decode method_2_code 1106 = .ok (.iconst 5, 1) := by decide +kernel
theorem d16_1107 : decode method_2_code 1107 = .ok (.if_icmp .ne 248, 3) := by decide +kernel
theorem d16_1110 : decode method_2_code 1110 = .ok (.bipush 41, 2) := by decide +kernel
theorem d16_1112 : decode method_2_code 1112 = .ok (.newarray .char, 2) := by decide +kernel
theorem d16_1114 : decode method_2_code 1114 = .ok (.dup, 1) := by decide +kernel
theorem d16_1354 : decode method_2_code 1354 = .ok (.areturn, 1) := by decide +kernel
set_option maxRecDepth 65536 in
set_option maxHeartbeats 40000000 in
theorem uri_5 (l : Launch) (Z : State) (a0 : Array Value) (hw : ∀ d ∈ tables_1, d.before a0 Z = true) (ws : List Jvm.Cond) (k : Int32) (h0 : Heap) (n0 : Nat) (Z0 : n0 ≤ h0.size) (hc1 : ¬ (k = (0 : Int32))) (hc197 : ¬ (k = (1 : Int32))) (hc411 : ¬ (k = (2 : Int32))) (hc607 : ¬ (k = (3 : Int32))) (hc857 : ¬ (k = (4 : Int32))) (hc1107 : k = (5 : Int32)) :
    MetFree l (⟨"com/example/tsutsumi/tsutsumi/service/SchemaElementsIsBuiltInNamespacePinLaw", "uriChars", "(I)[C"⟩ : MethodName) (head1 (Jvm.Cond.code (⟨"com/example/tsutsumi/tsutsumi/service/SchemaElementsIsBuiltInNamespacePinLaw", "uriChars", "(I)[C"⟩ : MethodName) method_2_code 1 (some (.array .char)) :: ws) ({ frames := 0, cells := 1, slots := 41, locals := 0 } : Room)) (fun zA zU => zA = #[(.int k)] ∧ Z.Warmed39 zU.vm ∧ zU.heap = h0) (fun _ _ _ _ _ => True) (fun _ zU zo zU' => ∃ zv zL, zo = .returned zv ∧ Q_uri Z k h0 n0 zv zU'.heap zL ∧ FrameEnd zU zo zU' zL ({ frames := 0, cells := 1, slots := 41, locals := 0 } : Room).cells ({ frames := 0, cells := 1, slots := 41, locals := 0 } : Room).slots) := by
  refine MetFree.of_bodySF (plainFor_of_name pn_17) hisR ?_
  intro p e s m args below meth c s₁ Bd hml0 hP hK
  obtain ⟨rfl, hZ, hh⟩ := hP
  have hx := Bd.exec
  have hby := Bd.bytes
  have hml : c.maxLocals = 1 := hml0
  have hown : s.vm.findClass "com/example/tsutsumi/tsutsumi/service/SchemaElementsIsBuiltInNamespacePinLaw" = some m.cls := findClass_of_methodNamed Bd.named
  have hnm := (name_of_methodNamed Bd.named Bd.method).1
  have X0 : Stand p l e ({ frames := 0, cells := 1, slots := 41, locals := 0 } : Room) s m #[(.int k)] below meth c s₁ [] 0 0 := Stand.of_body Bd
  have e0 : s₁.heap = h0 := by rw [← hh, Bd.state]; rfl
  have N0 := Fr.nil n0
  have pre0 : ∀ zt, Steps p.tables e below (s₁.setTop (mkF m 0 #[.val (.int k)] [])) zt → Steps p.tables e below (s₁.setTop (entryFrame m #[(.int k)] 1)) zt := fun zt zk => castTop (ef_16_I m k) zk
  obtain ⟨T1, h1, k1, X1, e1, E1, A1, st1⟩ := newP X0 hx hZ (hw _ (List.mem_of_getElem? (i := 4) rfl)) e0 (g := (mkF m 1112 #[.val (.int k)] [(.int (41 : Int32))])) rfl (hb hby d16_1112) rfl (by decide) (cap := 41) (by decide) (by decide) (by decide) (by decide)
  obtain ⟨b1, gz1⟩ : ∃ z, z = h0.size := ⟨_, rfl⟩
  rw [← gz1] at A1 st1
  have sz_b1 : h0.size ≤ b1 := Nat.le_trans (Keep.refl h0 []).1 (Nat.le_of_eq gz1.symm)
  have g_b1 : n0 ≤ b1 := Nat.le_trans Z0 sz_b1
  have K1 : Keep h0 h1 [] := (Keep.refl h0 []).ext E1
  have V1 : Arv Z h1 b1 k1 .char (41 : Int32) [(.int (0 : Int32)), (.int (0 : Int32)), (.int (0 : Int32)), (.int (0 : Int32)), (.int (0 : Int32)), (.int (0 : Int32)), (.int (0 : Int32)), (.int (0 : Int32)), (.int (0 : Int32)), (.int (0 : Int32)), (.int (0 : Int32)), (.int (0 : Int32)), (.int (0 : Int32)), (.int (0 : Int32)), (.int (0 : Int32)), (.int (0 : Int32)), (.int (0 : Int32)), (.int (0 : Int32)), (.int (0 : Int32)), (.int (0 : Int32)), (.int (0 : Int32)), (.int (0 : Int32)), (.int (0 : Int32)), (.int (0 : Int32)), (.int (0 : Int32)), (.int (0 : Int32)), (.int (0 : Int32)), (.int (0 : Int32)), (.int (0 : Int32)), (.int (0 : Int32)), (.int (0 : Int32)), (.int (0 : Int32)), (.int (0 : Int32)), (.int (0 : Int32)), (.int (0 : Int32)), (.int (0 : Int32)), (.int (0 : Int32)), (.int (0 : Int32)), (.int (0 : Int32)), (.int (0 : Int32)), (.int (0 : Int32))] (.int (0 : Int32)) := (Arv.new A1 (by decide)).pad (pad_rep [] (.int (0 : Int32)) 41)
  have hU : own_U k = own_U5 := by rw [hc1107]; rfl
  obtain ⟨T2, h2, L2, X2, e2, N2, kh2, V2, st2⟩ := own_fill (n := (41 : Int32)) (Ls := #[.val (.int k)]) (pe := 1354) hx hZ g_b1 own_U5 [] 1114 _ _ _ (by decide) (by decide) (by rw [hby]; exact own_chk5) X1 e1 N0 ((Arv.pad (vs' := []) V1 (fun i => ((pad_rep [] (.int (0 : Int32)) 41) i).symm)))
  have K2 : Keep h0 h2 [] := K1.trans kh2 (allS (Or.inr sz_b1) all0)
  have hn : Int32.ofNat own_U5.length = (41 : Int32) := by decide +kernel
  have VE : Arv Z h2 b1 k1 .char (Int32.ofNat (own_U k).length) ((own_U k).map Value.int) (.int (0 : Int32)) := by rw [hU, hn]; exact V2
  obtain ⟨fs, hr, hrun, hended, hW, hsame⟩ := X2.leave (v := some (.ref b1)) (fun h => by rw [Bd.returns] at h; cases h)
  refine ⟨_, _, pre0 _ ?_, hrun, hended, _, _, rfl, ?_, ⟨_, rfl⟩, hW, hsame.mono (by decide) (by decide)⟩
  · show Steps p.tables e below (s₁.setTop (mkF m 0 #[.val (.int k)] [])) _
    refine XS.iloadN X0.here hx rfl (hb hby d16_0) rfl ?_
    show Steps p.tables e below (s₁.setTop (mkF m 1 #[.val (.int k)] [(.int k)])) _
    refine XS.ifYes X0.here hx rfl (pc0 := 1) (pc' := 195) rfl (hb hby d16_1) rfl ((if0 _ _).trans (feq (hc1 : ¬ (k = (0 : Int32)))).2) (by decide) (by decide) ?_
    show Steps p.tables e below (s₁.setTop (mkF m 195 #[.val (.int k)] [])) _
    refine XS.iloadN X0.here hx rfl (hb hby d16_195) rfl ?_
    show Steps p.tables e below (s₁.setTop (mkF m 196 #[.val (.int k)] [(.int k)])) _
    refine XS.iconst X0.here hx rfl (hb hby d16_196) ?_
    show Steps p.tables e below (s₁.setTop (mkF m 197 #[.val (.int k)] [(.int (1 : Int32)), (.int k)])) _
    refine XS.icmpYes X0.here hx rfl (pc0 := 197) (pc' := 409) rfl (hb hby d16_197) rfl (feq (hc197 : ¬ (k = (1 : Int32)))).2 (by decide) (by decide) ?_
    show Steps p.tables e below (s₁.setTop (mkF m 409 #[.val (.int k)] [])) _
    refine XS.iloadN X0.here hx rfl (hb hby d16_409) rfl ?_
    show Steps p.tables e below (s₁.setTop (mkF m 410 #[.val (.int k)] [(.int k)])) _
    refine XS.iconst X0.here hx rfl (hb hby d16_410) ?_
    show Steps p.tables e below (s₁.setTop (mkF m 411 #[.val (.int k)] [(.int (2 : Int32)), (.int k)])) _
    refine XS.icmpYes X0.here hx rfl (pc0 := 411) (pc' := 605) rfl (hb hby d16_411) rfl (feq (hc411 : ¬ (k = (2 : Int32)))).2 (by decide) (by decide) ?_
    show Steps p.tables e below (s₁.setTop (mkF m 605 #[.val (.int k)] [])) _
    refine XS.iloadN X0.here hx rfl (hb hby d16_605) rfl ?_
    show Steps p.tables e below (s₁.setTop (mkF m 606 #[.val (.int k)] [(.int k)])) _
    refine XS.iconst X0.here hx rfl (hb hby d16_606) ?_
    show Steps p.tables e below (s₁.setTop (mkF m 607 #[.val (.int k)] [(.int (3 : Int32)), (.int k)])) _
    refine XS.icmpYes X0.here hx rfl (pc0 := 607) (pc' := 855) rfl (hb hby d16_607) rfl (feq (hc607 : ¬ (k = (3 : Int32)))).2 (by decide) (by decide) ?_
    show Steps p.tables e below (s₁.setTop (mkF m 855 #[.val (.int k)] [])) _
    refine XS.iloadN X0.here hx rfl (hb hby d16_855) rfl ?_
    show Steps p.tables e below (s₁.setTop (mkF m 856 #[.val (.int k)] [(.int k)])) _
    refine XS.iconst X0.here hx rfl (hb hby d16_856) ?_
    show Steps p.tables e below (s₁.setTop (mkF m 857 #[.val (.int k)] [(.int (4 : Int32)), (.int k)])) _
    refine XS.icmpYes X0.here hx rfl (pc0 := 857) (pc' := 1105) rfl (hb hby d16_857) rfl (feq (hc857 : ¬ (k = (4 : Int32)))).2 (by decide) (by decide) ?_
    show Steps p.tables e below (s₁.setTop (mkF m 1105 #[.val (.int k)] [])) _
    refine XS.iloadN X0.here hx rfl (hb hby d16_1105) rfl ?_
    show Steps p.tables e below (s₁.setTop (mkF m 1106 #[.val (.int k)] [(.int k)])) _
    refine XS.iconst X0.here hx rfl (hb hby d16_1106) ?_
    show Steps p.tables e below (s₁.setTop (mkF m 1107 #[.val (.int k)] [(.int (5 : Int32)), (.int k)])) _
    refine XS.icmpNo X0.here hx rfl (hb hby d16_1107) rfl (teq (hc1107 : k = (5 : Int32))).2 ?_
    show Steps p.tables e below (s₁.setTop (mkF m 1110 #[.val (.int k)] [])) _
    refine XS.bipush X0.here hx rfl (hb hby d16_1110) ?_
    show Steps p.tables e below (s₁.setTop (mkF m 1112 #[.val (.int k)] [(.int (41 : Int32))])) _
    refine st1 _ ?_
    show Steps p.tables e below (T1.setTop (mkF m 1114 #[.val (.int k)] [(.ref b1)])) _
    refine st2 _ ?_
    show Steps p.tables e below (T2.setTop (mkF m 1354 #[.val (.int k)] [(.ref b1)])) _
    jvm_step X2.here [X2.here.top, hx, (hb hby d16_1354), X2.method', Bd.returns, Value.isRef, FieldType.isReference]
    first | (intro acts; rw [hr _ acts rfl rfl rfl]) | rw [hr _ _ rfl rfl rfl]
    exact Steps.refl _
  · show Q_uri Z k h0 n0 _ T2.heap _
    rw [e2]
    exact ⟨b1, k1, rfl, N2, K2, sz_b1, VE⟩
theorem d16_1355 : decode method_2_code 1355 = .ok (.iload_n 0, 1) := by decide +kernel
theorem d16_1356 : decode method_2_code 1356 = .ok (.bipush 6, 2) := by decide +kernel
theorem d16_1358 : decode method_2_code 1358 = .ok (.if_icmp .ne 242, 3) := by decide +kernel
theorem d16_1361 : decode method_2_code 1361 = .ok (.bipush 40, 2) := by decide +kernel
theorem d16_1363 : decode method_2_code 1363 = .ok (.newarray .char, 2) := by decide +kernel
theorem d16_1365 : decode method_2_code 1365 = .ok (.dup, 1) := by decide +kernel
theorem d16_1599 : decode method_2_code 1599 = .ok (.areturn, 1) := by decide +kernel
set_option maxRecDepth 65536 in
set_option maxHeartbeats 40000000 in
theorem uri_6 (l : Launch) (Z : State) (a0 : Array Value) (hw : ∀ d ∈ tables_1, d.before a0 Z = true) (ws : List Jvm.Cond) (k : Int32) (h0 : Heap) (n0 : Nat) (Z0 : n0 ≤ h0.size) (hc1 : ¬ (k = (0 : Int32))) (hc197 : ¬ (k = (1 : Int32))) (hc411 : ¬ (k = (2 : Int32))) (hc607 : ¬ (k = (3 : Int32))) (hc857 : ¬ (k = (4 : Int32))) (hc1107 : ¬ (k = (5 : Int32))) (hc1358 : k = (6 : Int32)) :
    MetFree l (⟨"com/example/tsutsumi/tsutsumi/service/SchemaElementsIsBuiltInNamespacePinLaw", "uriChars", "(I)[C"⟩ : MethodName) (head1 (Jvm.Cond.code (⟨"com/example/tsutsumi/tsutsumi/service/SchemaElementsIsBuiltInNamespacePinLaw", "uriChars", "(I)[C"⟩ : MethodName) method_2_code 1 (some (.array .char)) :: ws) ({ frames := 0, cells := 1, slots := 41, locals := 0 } : Room)) (fun zA zU => zA = #[(.int k)] ∧ Z.Warmed39 zU.vm ∧ zU.heap = h0) (fun _ _ _ _ _ => True) (fun _ zU zo zU' => ∃ zv zL, zo = .returned zv ∧ Q_uri Z k h0 n0 zv zU'.heap zL ∧ FrameEnd zU zo zU' zL ({ frames := 0, cells := 1, slots := 41, locals := 0 } : Room).cells ({ frames := 0, cells := 1, slots := 41, locals := 0 } : Room).slots) := by
  refine MetFree.of_bodySF (plainFor_of_name pn_17) hisR ?_
  intro p e s m args below meth c s₁ Bd hml0 hP hK
  obtain ⟨rfl, hZ, hh⟩ := hP
  have hx := Bd.exec
  have hby := Bd.bytes
  have hml : c.maxLocals = 1 := hml0
  have hown : s.vm.findClass "com/example/tsutsumi/tsutsumi/service/SchemaElementsIsBuiltInNamespacePinLaw" = some m.cls := findClass_of_methodNamed Bd.named
  have hnm := (name_of_methodNamed Bd.named Bd.method).1
  have X0 : Stand p l e ({ frames := 0, cells := 1, slots := 41, locals := 0 } : Room) s m #[(.int k)] below meth c s₁ [] 0 0 := Stand.of_body Bd
  have e0 : s₁.heap = h0 := by rw [← hh, Bd.state]; rfl
  have N0 := Fr.nil n0
  have pre0 : ∀ zt, Steps p.tables e below (s₁.setTop (mkF m 0 #[.val (.int k)] [])) zt → Steps p.tables e below (s₁.setTop (entryFrame m #[(.int k)] 1)) zt := fun zt zk => castTop (ef_16_I m k) zk
  obtain ⟨T1, h1, k1, X1, e1, E1, A1, st1⟩ := newP X0 hx hZ (hw _ (List.mem_of_getElem? (i := 4) rfl)) e0 (g := (mkF m 1363 #[.val (.int k)] [(.int (40 : Int32))])) rfl (hb hby d16_1363) rfl (by decide) (cap := 40) (by decide) (by decide) (by decide) (by decide)
  obtain ⟨b1, gz1⟩ : ∃ z, z = h0.size := ⟨_, rfl⟩
  rw [← gz1] at A1 st1
  have sz_b1 : h0.size ≤ b1 := Nat.le_trans (Keep.refl h0 []).1 (Nat.le_of_eq gz1.symm)
  have g_b1 : n0 ≤ b1 := Nat.le_trans Z0 sz_b1
  have K1 : Keep h0 h1 [] := (Keep.refl h0 []).ext E1
  have V1 : Arv Z h1 b1 k1 .char (40 : Int32) [(.int (0 : Int32)), (.int (0 : Int32)), (.int (0 : Int32)), (.int (0 : Int32)), (.int (0 : Int32)), (.int (0 : Int32)), (.int (0 : Int32)), (.int (0 : Int32)), (.int (0 : Int32)), (.int (0 : Int32)), (.int (0 : Int32)), (.int (0 : Int32)), (.int (0 : Int32)), (.int (0 : Int32)), (.int (0 : Int32)), (.int (0 : Int32)), (.int (0 : Int32)), (.int (0 : Int32)), (.int (0 : Int32)), (.int (0 : Int32)), (.int (0 : Int32)), (.int (0 : Int32)), (.int (0 : Int32)), (.int (0 : Int32)), (.int (0 : Int32)), (.int (0 : Int32)), (.int (0 : Int32)), (.int (0 : Int32)), (.int (0 : Int32)), (.int (0 : Int32)), (.int (0 : Int32)), (.int (0 : Int32)), (.int (0 : Int32)), (.int (0 : Int32)), (.int (0 : Int32)), (.int (0 : Int32)), (.int (0 : Int32)), (.int (0 : Int32)), (.int (0 : Int32)), (.int (0 : Int32))] (.int (0 : Int32)) := (Arv.new A1 (by decide)).pad (pad_rep [] (.int (0 : Int32)) 40)
  have hU : own_U k = own_U6 := by rw [hc1358]; rfl
  obtain ⟨T2, h2, L2, X2, e2, N2, kh2, V2, st2⟩ := own_fill (n := (40 : Int32)) (Ls := #[.val (.int k)]) (pe := 1599) hx hZ g_b1 own_U6 [] 1365 _ _ _ (by decide) (by decide) (by rw [hby]; exact own_chk6) X1 e1 N0 ((Arv.pad (vs' := []) V1 (fun i => ((pad_rep [] (.int (0 : Int32)) 40) i).symm)))
  have K2 : Keep h0 h2 [] := K1.trans kh2 (allS (Or.inr sz_b1) all0)
  have hn : Int32.ofNat own_U6.length = (40 : Int32) := by decide +kernel
  have VE : Arv Z h2 b1 k1 .char (Int32.ofNat (own_U k).length) ((own_U k).map Value.int) (.int (0 : Int32)) := by rw [hU, hn]; exact V2
  obtain ⟨fs, hr, hrun, hended, hW, hsame⟩ := X2.leave (v := some (.ref b1)) (fun h => by rw [Bd.returns] at h; cases h)
  refine ⟨_, _, pre0 _ ?_, hrun, hended, _, _, rfl, ?_, ⟨_, rfl⟩, hW, hsame.mono (by decide) (by decide)⟩
  · show Steps p.tables e below (s₁.setTop (mkF m 0 #[.val (.int k)] [])) _
    refine XS.iloadN X0.here hx rfl (hb hby d16_0) rfl ?_
    show Steps p.tables e below (s₁.setTop (mkF m 1 #[.val (.int k)] [(.int k)])) _
    refine XS.ifYes X0.here hx rfl (pc0 := 1) (pc' := 195) rfl (hb hby d16_1) rfl ((if0 _ _).trans (feq (hc1 : ¬ (k = (0 : Int32)))).2) (by decide) (by decide) ?_
    show Steps p.tables e below (s₁.setTop (mkF m 195 #[.val (.int k)] [])) _
    refine XS.iloadN X0.here hx rfl (hb hby d16_195) rfl ?_
    show Steps p.tables e below (s₁.setTop (mkF m 196 #[.val (.int k)] [(.int k)])) _
    refine XS.iconst X0.here hx rfl (hb hby d16_196) ?_
    show Steps p.tables e below (s₁.setTop (mkF m 197 #[.val (.int k)] [(.int (1 : Int32)), (.int k)])) _
    refine XS.icmpYes X0.here hx rfl (pc0 := 197) (pc' := 409) rfl (hb hby d16_197) rfl (feq (hc197 : ¬ (k = (1 : Int32)))).2 (by decide) (by decide) ?_
    show Steps p.tables e below (s₁.setTop (mkF m 409 #[.val (.int k)] [])) _
    refine XS.iloadN X0.here hx rfl (hb hby d16_409) rfl ?_
    show Steps p.tables e below (s₁.setTop (mkF m 410 #[.val (.int k)] [(.int k)])) _
    refine XS.iconst X0.here hx rfl (hb hby d16_410) ?_
    show Steps p.tables e below (s₁.setTop (mkF m 411 #[.val (.int k)] [(.int (2 : Int32)), (.int k)])) _
    refine XS.icmpYes X0.here hx rfl (pc0 := 411) (pc' := 605) rfl (hb hby d16_411) rfl (feq (hc411 : ¬ (k = (2 : Int32)))).2 (by decide) (by decide) ?_
    show Steps p.tables e below (s₁.setTop (mkF m 605 #[.val (.int k)] [])) _
    refine XS.iloadN X0.here hx rfl (hb hby d16_605) rfl ?_
    show Steps p.tables e below (s₁.setTop (mkF m 606 #[.val (.int k)] [(.int k)])) _
    refine XS.iconst X0.here hx rfl (hb hby d16_606) ?_
    show Steps p.tables e below (s₁.setTop (mkF m 607 #[.val (.int k)] [(.int (3 : Int32)), (.int k)])) _
    refine XS.icmpYes X0.here hx rfl (pc0 := 607) (pc' := 855) rfl (hb hby d16_607) rfl (feq (hc607 : ¬ (k = (3 : Int32)))).2 (by decide) (by decide) ?_
    show Steps p.tables e below (s₁.setTop (mkF m 855 #[.val (.int k)] [])) _
    refine XS.iloadN X0.here hx rfl (hb hby d16_855) rfl ?_
    show Steps p.tables e below (s₁.setTop (mkF m 856 #[.val (.int k)] [(.int k)])) _
    refine XS.iconst X0.here hx rfl (hb hby d16_856) ?_
    show Steps p.tables e below (s₁.setTop (mkF m 857 #[.val (.int k)] [(.int (4 : Int32)), (.int k)])) _
    refine XS.icmpYes X0.here hx rfl (pc0 := 857) (pc' := 1105) rfl (hb hby d16_857) rfl (feq (hc857 : ¬ (k = (4 : Int32)))).2 (by decide) (by decide) ?_
    show Steps p.tables e below (s₁.setTop (mkF m 1105 #[.val (.int k)] [])) _
    refine XS.iloadN X0.here hx rfl (hb hby d16_1105) rfl ?_
    show Steps p.tables e below (s₁.setTop (mkF m 1106 #[.val (.int k)] [(.int k)])) _
    refine XS.iconst X0.here hx rfl (hb hby d16_1106) ?_
    show Steps p.tables e below (s₁.setTop (mkF m 1107 #[.val (.int k)] [(.int (5 : Int32)), (.int k)])) _
    refine XS.icmpYes X0.here hx rfl (pc0 := 1107) (pc' := 1355) rfl (hb hby d16_1107) rfl (feq (hc1107 : ¬ (k = (5 : Int32)))).2 (by decide) (by decide) ?_
    show Steps p.tables e below (s₁.setTop (mkF m 1355 #[.val (.int k)] [])) _
    refine XS.iloadN X0.here hx rfl (hb hby d16_1355) rfl ?_
    show Steps p.tables e below (s₁.setTop (mkF m 1356 #[.val (.int k)] [(.int k)])) _
    refine XS.bipush X0.here hx rfl (hb hby d16_1356) ?_
    show Steps p.tables e below (s₁.setTop (mkF m 1358 #[.val (.int k)] [(.int (6 : Int32)), (.int k)])) _
    refine XS.icmpNo X0.here hx rfl (hb hby d16_1358) rfl (teq (hc1358 : k = (6 : Int32))).2 ?_
    show Steps p.tables e below (s₁.setTop (mkF m 1361 #[.val (.int k)] [])) _
    refine XS.bipush X0.here hx rfl (hb hby d16_1361) ?_
    show Steps p.tables e below (s₁.setTop (mkF m 1363 #[.val (.int k)] [(.int (40 : Int32))])) _
    refine st1 _ ?_
    show Steps p.tables e below (T1.setTop (mkF m 1365 #[.val (.int k)] [(.ref b1)])) _
    refine st2 _ ?_
    show Steps p.tables e below (T2.setTop (mkF m 1599 #[.val (.int k)] [(.ref b1)])) _
    jvm_step X2.here [X2.here.top, hx, (hb hby d16_1599), X2.method', Bd.returns, Value.isRef, FieldType.isReference]
    first | (intro acts; rw [hr _ acts rfl rfl rfl]) | rw [hr _ _ rfl rfl rfl]
    exact Steps.refl _
  · show Q_uri Z k h0 n0 _ T2.heap _
    rw [e2]
    exact ⟨b1, k1, rfl, N2, K2, sz_b1, VE⟩
theorem d16_1600 : decode method_2_code 1600 = .ok (.bipush 31, 2) := by decide +kernel
theorem d16_1602 : decode method_2_code 1602 = .ok (.newarray .char, 2) := by decide +kernel
theorem d16_1604 : decode method_2_code 1604 = .ok (.dup, 1) := by decide +kernel
theorem d16_1784 : decode method_2_code 1784 = .ok (.areturn, 1) := by decide +kernel
set_option maxRecDepth 65536 in
set_option maxHeartbeats 40000000 in
theorem uri_7 (l : Launch) (Z : State) (a0 : Array Value) (hw : ∀ d ∈ tables_1, d.before a0 Z = true) (ws : List Jvm.Cond) (k : Int32) (h0 : Heap) (n0 : Nat) (Z0 : n0 ≤ h0.size) (hc1 : ¬ (k = (0 : Int32))) (hc197 : ¬ (k = (1 : Int32))) (hc411 : ¬ (k = (2 : Int32))) (hc607 : ¬ (k = (3 : Int32))) (hc857 : ¬ (k = (4 : Int32))) (hc1107 : ¬ (k = (5 : Int32))) (hc1358 : ¬ (k = (6 : Int32))) :
    MetFree l (⟨"com/example/tsutsumi/tsutsumi/service/SchemaElementsIsBuiltInNamespacePinLaw", "uriChars", "(I)[C"⟩ : MethodName) (head1 (Jvm.Cond.code (⟨"com/example/tsutsumi/tsutsumi/service/SchemaElementsIsBuiltInNamespacePinLaw", "uriChars", "(I)[C"⟩ : MethodName) method_2_code 1 (some (.array .char)) :: ws) ({ frames := 0, cells := 1, slots := 41, locals := 0 } : Room)) (fun zA zU => zA = #[(.int k)] ∧ Z.Warmed39 zU.vm ∧ zU.heap = h0) (fun _ _ _ _ _ => True) (fun _ zU zo zU' => ∃ zv zL, zo = .returned zv ∧ Q_uri Z k h0 n0 zv zU'.heap zL ∧ FrameEnd zU zo zU' zL ({ frames := 0, cells := 1, slots := 41, locals := 0 } : Room).cells ({ frames := 0, cells := 1, slots := 41, locals := 0 } : Room).slots) := by
  refine MetFree.of_bodySF (plainFor_of_name pn_17) hisR ?_
  intro p e s m args below meth c s₁ Bd hml0 hP hK
  obtain ⟨rfl, hZ, hh⟩ := hP
  have hx := Bd.exec
  have hby := Bd.bytes
  have hml : c.maxLocals = 1 := hml0
  have hown : s.vm.findClass "com/example/tsutsumi/tsutsumi/service/SchemaElementsIsBuiltInNamespacePinLaw" = some m.cls := findClass_of_methodNamed Bd.named
  have hnm := (name_of_methodNamed Bd.named Bd.method).1
  have X0 : Stand p l e ({ frames := 0, cells := 1, slots := 41, locals := 0 } : Room) s m #[(.int k)] below meth c s₁ [] 0 0 := Stand.of_body Bd
  have e0 : s₁.heap = h0 := by rw [← hh, Bd.state]; rfl
  have N0 := Fr.nil n0
  have pre0 : ∀ zt, Steps p.tables e below (s₁.setTop (mkF m 0 #[.val (.int k)] [])) zt → Steps p.tables e below (s₁.setTop (entryFrame m #[(.int k)] 1)) zt := fun zt zk => castTop (ef_16_I m k) zk
  obtain ⟨T1, h1, k1, X1, e1, E1, A1, st1⟩ := newP X0 hx hZ (hw _ (List.mem_of_getElem? (i := 4) rfl)) e0 (g := (mkF m 1602 #[.val (.int k)] [(.int (31 : Int32))])) rfl (hb hby d16_1602) rfl (by decide) (cap := 31) (by decide) (by decide) (by decide) (by decide)
  obtain ⟨b1, gz1⟩ : ∃ z, z = h0.size := ⟨_, rfl⟩
  rw [← gz1] at A1 st1
  have sz_b1 : h0.size ≤ b1 := Nat.le_trans (Keep.refl h0 []).1 (Nat.le_of_eq gz1.symm)
  have g_b1 : n0 ≤ b1 := Nat.le_trans Z0 sz_b1
  have K1 : Keep h0 h1 [] := (Keep.refl h0 []).ext E1
  have V1 : Arv Z h1 b1 k1 .char (31 : Int32) [(.int (0 : Int32)), (.int (0 : Int32)), (.int (0 : Int32)), (.int (0 : Int32)), (.int (0 : Int32)), (.int (0 : Int32)), (.int (0 : Int32)), (.int (0 : Int32)), (.int (0 : Int32)), (.int (0 : Int32)), (.int (0 : Int32)), (.int (0 : Int32)), (.int (0 : Int32)), (.int (0 : Int32)), (.int (0 : Int32)), (.int (0 : Int32)), (.int (0 : Int32)), (.int (0 : Int32)), (.int (0 : Int32)), (.int (0 : Int32)), (.int (0 : Int32)), (.int (0 : Int32)), (.int (0 : Int32)), (.int (0 : Int32)), (.int (0 : Int32)), (.int (0 : Int32)), (.int (0 : Int32)), (.int (0 : Int32)), (.int (0 : Int32)), (.int (0 : Int32)), (.int (0 : Int32))] (.int (0 : Int32)) := (Arv.new A1 (by decide)).pad (pad_rep [] (.int (0 : Int32)) 31)
  have hU : own_U k = own_U7 := by unfold own_U; rw [if_neg hc1, if_neg hc197, if_neg hc411, if_neg hc607, if_neg hc857, if_neg hc1107, if_neg hc1358]
  obtain ⟨T2, h2, L2, X2, e2, N2, kh2, V2, st2⟩ := own_fill (n := (31 : Int32)) (Ls := #[.val (.int k)]) (pe := 1784) hx hZ g_b1 own_U7 [] 1604 _ _ _ (by decide) (by decide) (by rw [hby]; exact own_chk7) X1 e1 N0 ((Arv.pad (vs' := []) V1 (fun i => ((pad_rep [] (.int (0 : Int32)) 31) i).symm)))
  have K2 : Keep h0 h2 [] := K1.trans kh2 (allS (Or.inr sz_b1) all0)
  have hn : Int32.ofNat own_U7.length = (31 : Int32) := by decide +kernel
  have VE : Arv Z h2 b1 k1 .char (Int32.ofNat (own_U k).length) ((own_U k).map Value.int) (.int (0 : Int32)) := by rw [hU, hn]; exact V2
  obtain ⟨fs, hr, hrun, hended, hW, hsame⟩ := X2.leave (v := some (.ref b1)) (fun h => by rw [Bd.returns] at h; cases h)
  refine ⟨_, _, pre0 _ ?_, hrun, hended, _, _, rfl, ?_, ⟨_, rfl⟩, hW, hsame.mono (by decide) (by decide)⟩
  · show Steps p.tables e below (s₁.setTop (mkF m 0 #[.val (.int k)] [])) _
    refine XS.iloadN X0.here hx rfl (hb hby d16_0) rfl ?_
    show Steps p.tables e below (s₁.setTop (mkF m 1 #[.val (.int k)] [(.int k)])) _
    refine XS.ifYes X0.here hx rfl (pc0 := 1) (pc' := 195) rfl (hb hby d16_1) rfl ((if0 _ _).trans (feq (hc1 : ¬ (k = (0 : Int32)))).2) (by decide) (by decide) ?_
    show Steps p.tables e below (s₁.setTop (mkF m 195 #[.val (.int k)] [])) _
    refine XS.iloadN X0.here hx rfl (hb hby d16_195) rfl ?_
    show Steps p.tables e below (s₁.setTop (mkF m 196 #[.val (.int k)] [(.int k)])) _
    refine XS.iconst X0.here hx rfl (hb hby d16_196) ?_
    show Steps p.tables e below (s₁.setTop (mkF m 197 #[.val (.int k)] [(.int (1 : Int32)), (.int k)])) _
    refine XS.icmpYes X0.here hx rfl (pc0 := 197) (pc' := 409) rfl (hb hby d16_197) rfl (feq (hc197 : ¬ (k = (1 : Int32)))).2 (by decide) (by decide) ?_
    show Steps p.tables e below (s₁.setTop (mkF m 409 #[.val (.int k)] [])) _
    refine XS.iloadN X0.here hx rfl (hb hby d16_409) rfl ?_
    show Steps p.tables e below (s₁.setTop (mkF m 410 #[.val (.int k)] [(.int k)])) _
    refine XS.iconst X0.here hx rfl (hb hby d16_410) ?_
    show Steps p.tables e below (s₁.setTop (mkF m 411 #[.val (.int k)] [(.int (2 : Int32)), (.int k)])) _
    refine XS.icmpYes X0.here hx rfl (pc0 := 411) (pc' := 605) rfl (hb hby d16_411) rfl (feq (hc411 : ¬ (k = (2 : Int32)))).2 (by decide) (by decide) ?_
    show Steps p.tables e below (s₁.setTop (mkF m 605 #[.val (.int k)] [])) _
    refine XS.iloadN X0.here hx rfl (hb hby d16_605) rfl ?_
    show Steps p.tables e below (s₁.setTop (mkF m 606 #[.val (.int k)] [(.int k)])) _
    refine XS.iconst X0.here hx rfl (hb hby d16_606) ?_
    show Steps p.tables e below (s₁.setTop (mkF m 607 #[.val (.int k)] [(.int (3 : Int32)), (.int k)])) _
    refine XS.icmpYes X0.here hx rfl (pc0 := 607) (pc' := 855) rfl (hb hby d16_607) rfl (feq (hc607 : ¬ (k = (3 : Int32)))).2 (by decide) (by decide) ?_
    show Steps p.tables e below (s₁.setTop (mkF m 855 #[.val (.int k)] [])) _
    refine XS.iloadN X0.here hx rfl (hb hby d16_855) rfl ?_
    show Steps p.tables e below (s₁.setTop (mkF m 856 #[.val (.int k)] [(.int k)])) _
    refine XS.iconst X0.here hx rfl (hb hby d16_856) ?_
    show Steps p.tables e below (s₁.setTop (mkF m 857 #[.val (.int k)] [(.int (4 : Int32)), (.int k)])) _
    refine XS.icmpYes X0.here hx rfl (pc0 := 857) (pc' := 1105) rfl (hb hby d16_857) rfl (feq (hc857 : ¬ (k = (4 : Int32)))).2 (by decide) (by decide) ?_
    show Steps p.tables e below (s₁.setTop (mkF m 1105 #[.val (.int k)] [])) _
    refine XS.iloadN X0.here hx rfl (hb hby d16_1105) rfl ?_
    show Steps p.tables e below (s₁.setTop (mkF m 1106 #[.val (.int k)] [(.int k)])) _
    refine XS.iconst X0.here hx rfl (hb hby d16_1106) ?_
    show Steps p.tables e below (s₁.setTop (mkF m 1107 #[.val (.int k)] [(.int (5 : Int32)), (.int k)])) _
    refine XS.icmpYes X0.here hx rfl (pc0 := 1107) (pc' := 1355) rfl (hb hby d16_1107) rfl (feq (hc1107 : ¬ (k = (5 : Int32)))).2 (by decide) (by decide) ?_
    show Steps p.tables e below (s₁.setTop (mkF m 1355 #[.val (.int k)] [])) _
    refine XS.iloadN X0.here hx rfl (hb hby d16_1355) rfl ?_
    show Steps p.tables e below (s₁.setTop (mkF m 1356 #[.val (.int k)] [(.int k)])) _
    refine XS.bipush X0.here hx rfl (hb hby d16_1356) ?_
    show Steps p.tables e below (s₁.setTop (mkF m 1358 #[.val (.int k)] [(.int (6 : Int32)), (.int k)])) _
    refine XS.icmpYes X0.here hx rfl (pc0 := 1358) (pc' := 1600) rfl (hb hby d16_1358) rfl (feq (hc1358 : ¬ (k = (6 : Int32)))).2 (by decide) (by decide) ?_
    show Steps p.tables e below (s₁.setTop (mkF m 1600 #[.val (.int k)] [])) _
    refine XS.bipush X0.here hx rfl (hb hby d16_1600) ?_
    show Steps p.tables e below (s₁.setTop (mkF m 1602 #[.val (.int k)] [(.int (31 : Int32))])) _
    refine st1 _ ?_
    show Steps p.tables e below (T1.setTop (mkF m 1604 #[.val (.int k)] [(.ref b1)])) _
    refine st2 _ ?_
    show Steps p.tables e below (T2.setTop (mkF m 1784 #[.val (.int k)] [(.ref b1)])) _
    jvm_step X2.here [X2.here.top, hx, (hb hby d16_1784), X2.method', Bd.returns, Value.isRef, FieldType.isReference]
    first | (intro acts; rw [hr _ acts rfl rfl rfl]) | rw [hr _ _ rfl rfl rfl]
    exact Steps.refl _
  · show Q_uri Z k h0 n0 _ T2.heap _
    rw [e2]
    exact ⟨b1, k1, rfl, N2, K2, sz_b1, VE⟩
set_option maxRecDepth 65536 in
set_option maxHeartbeats 40000000 in
theorem uri (l : Launch) (Z : State) (a0 : Array Value) (hw : ∀ d ∈ tables_1, d.before a0 Z = true) (ws : List Jvm.Cond) (k : Int32) (h0 : Heap) (n0 : Nat) (Z0 : n0 ≤ h0.size) :
    MetFree l (⟨"com/example/tsutsumi/tsutsumi/service/SchemaElementsIsBuiltInNamespacePinLaw", "uriChars", "(I)[C"⟩ : MethodName) (head1 (Jvm.Cond.code (⟨"com/example/tsutsumi/tsutsumi/service/SchemaElementsIsBuiltInNamespacePinLaw", "uriChars", "(I)[C"⟩ : MethodName) method_2_code 1 (some (.array .char)) :: ws) ({ frames := 0, cells := 1, slots := 41, locals := 0 } : Room)) (fun zA zU => zA = #[(.int k)] ∧ Z.Warmed39 zU.vm ∧ zU.heap = h0) (fun _ _ _ _ _ => True) (fun _ zU zo zU' => ∃ zv zL, zo = .returned zv ∧ Q_uri Z k h0 n0 zv zU'.heap zL ∧ FrameEnd zU zo zU' zL ({ frames := 0, cells := 1, slots := 41, locals := 0 } : Room).cells ({ frames := 0, cells := 1, slots := 41, locals := 0 } : Room).slots) := by
  by_cases h0' : k = (0 : Int32)
  · exact uri_0 l Z a0 hw ws k h0 n0 Z0  h0'
  · by_cases h1' : k = (1 : Int32)
    · exact uri_1 l Z a0 hw ws k h0 n0 Z0  h0' h1'
    · by_cases h2' : k = (2 : Int32)
      · exact uri_2 l Z a0 hw ws k h0 n0 Z0  h0' h1' h2'
      · by_cases h3' : k = (3 : Int32)
        · exact uri_3 l Z a0 hw ws k h0 n0 Z0  h0' h1' h2' h3'
        · by_cases h4' : k = (4 : Int32)
          · exact uri_4 l Z a0 hw ws k h0 n0 Z0  h0' h1' h2' h3' h4'
          · by_cases h5' : k = (5 : Int32)
            · exact uri_5 l Z a0 hw ws k h0 n0 Z0  h0' h1' h2' h3' h4' h5'
            · by_cases h6' : k = (6 : Int32)
              · exact uri_6 l Z a0 hw ws k h0 n0 Z0  h0' h1' h2' h3' h4' h5' h6'
              · exact uri_7 l Z a0 hw ws k h0 n0 Z0  h0' h1' h2' h3' h4' h5' h6'
def own_k (wh : Int32) : Int32 := wh &&& (7 : Int32)
def own_p (ps wh : Int32) : Int32 := (ps &&& (2147483647 : Int32)) % Int32.ofNat (own_U (own_k wh)).length
def own_c (ch : Int32) : Int32 := (ch &&& (65535 : Int32)).toUInt32.toUInt16.toUInt32.toInt32
def own_V (wh ps ch : Int32) : List Int32 := (own_U (own_k wh)).set (own_p ps wh).toNatClampNeg (own_c ch)
theorem own_V_len (wh ps ch : Int32) : (own_V wh ps ch).length = (own_U (own_k wh)).length := List.length_set ..
theorem own_pb (ps wh : Int32) : ¬ (own_p ps wh) < 0 ∧ (own_p ps wh) < Int32.ofNat (own_U (own_k wh)).length := own_rem ps (own_U_len _).1 (own_U_len _).2
theorem own_pl (ps wh : Int32) : (own_p ps wh).toNatClampNeg < (own_U (own_k wh)).length := (own_pn (own_U_len _).2 (own_pb ps wh)).1
theorem own_ndz (k : Int32) : ¬ Int32.ofNat (own_U k).length = 0 := own_nz (own_U_len k).1 (own_U_len k).2
theorem own_Vmap (wh ps ch : Int32) : ((own_U (own_k wh)).map Value.int).set (own_p ps wh).toNatClampNeg (.int (nar .char (own_c ch))) = (own_V wh ps ch).map Value.int := by
  unfold own_V; rw [List.map_set, show nar .char (own_c ch) = own_c ch from own_narc (own_cc_lt _).1 (own_cc_lt _).2]
theorem own_V_same {wh ps ch : Int32} (h : (own_U (own_k wh)).getD (own_p ps wh).toNatClampNeg 0 = own_c ch) : own_V wh ps ch = own_U (own_k wh) := own_same_set (own_pl ps wh) h
theorem own_V_bi {wh ps ch : Int32} (h : ¬ (own_U (own_k wh)).getD (own_p ps wh).toNatClampNeg 0 = own_c ch) : own_bi (own_V wh ps ch) = 0 := own_bi_set _ _ _ (own_pl ps wh) h
theorem own_V_lo {wh ps ch : Int32} (h : ¬ (255 : Int32) < own_c ch) : ∀ c ∈ own_V wh ps ch, ¬ c < 0 ∧ ¬ (255 : Int32) < c := own_set_ch (own_U_ch _) ⟨(own_cc_lt _).1, h⟩
theorem own_V_all (wh ps ch : Int32) : ∀ c ∈ own_V wh ps ch, ¬ c < 0 ∧ ¬ (65535 : Int32) < c := own_set_ch (fun c hc => ⟨(own_U_ch _ c hc).1, own_le255 (own_U_ch _ c hc).2⟩) (own_cc_lt _)
theorem own_V_at {wh ps ch : Int32} (h : (255 : Int32) < own_c ch) : (255 : Int32) < (own_V wh ps ch).getD (own_p ps wh).toNatClampNeg 0 := by unfold own_V; rw [own_set_at (own_pl ps wh)]; exact h
theorem own_V_pre (wh ps ch : Int32) : ∀ i, i < (own_p ps wh).toNatClampNeg → ¬ ((255 : Int32) < (own_V wh ps ch).getD i 0) := fun i hi => own_set_lo (own_U_ch _) hi (own_pl ps wh)
theorem own_V_l0 (wh ps ch : Int32) : 0 < (own_V wh ps ch).length ∧ (own_V wh ps ch).length ≤ 41 := by rw [own_V_len]; exact own_U_len _
theorem own_V_pl (wh ps ch : Int32) : (own_p ps wh).toNatClampNeg < (own_V wh ps ch).length := by rw [own_V_len]; exact own_pl ps wh
def Q_law (Z : State) (wh : Int32) (fl : Int32) (ps : Int32) (ch : Int32) (cz : Int32) (h0 : Heap) (n0 : Nat) (v : Option Value) (h : Heap) (L : List Loc) : Prop := v = some (.int (1 : Int32)) ∧ Fr n0 L
theorem pd_9 : parseMethodDescriptor "(I)[C" = some ⟨[.int], some (.array .char)⟩ := by decide +kernel
theorem pd_10 : parseMethodDescriptor "([C)V" = some ⟨[(.array .char)], none⟩ := by decide +kernel
theorem pd_11 : parseMethodDescriptor "(Ljava/lang/String;)Z" = some ⟨[(.object "java/lang/String")], some .boolean⟩ := by decide +kernel
theorem ef_0_IIII (m : MethodId) (x0 : Int32) (x1 : Int32) (x2 : Int32) (x3 : Int32) : entryFrame m #[(.int x0), (.int x1), (.int x2), (.int x3)] maxLocals = mkF m 0 #[.val (.int x0), .val (.int x1), .val (.int x2), .val (.int x3), .unset, .unset, .unset, .unset, .unset, .unset, .unset, .unset, .unset] [] := by first | (simp [entryFrame, mkF, argsToLocals, Value.category, maxLocals]; done) | rfl
set_option maxRecDepth 65536 in
set_option maxHeartbeats 40000000 in
theorem law_A1 (l : Launch) (Z : State) (a0 : Array Value) (hw : ∀ d ∈ tables_1, d.before a0 Z = true) (ws : List Jvm.Cond) (wh : Int32) (fl : Int32) (ps : Int32) (ch : Int32) (cz : Int32) (h0 : Heap) (n0 : Nat) (O0 : Old Z n0 h0) (G0 : Sta Z Z.heap "java/lang/String" "COMPACT_STRINGS" "Z" (.int cz)) (G1 : Sta Z Z.heap "java/lang/StringUTF16" "$assertionsDisabled" "Z" (.int (1 : Int32))) (G2 : Sta Z Z.heap "java/lang/StringUTF16" "HI_BYTE_SHIFT" "I" (.int (0 : Int32))) (G3 : Sta Z Z.heap "java/lang/StringUTF16" "LO_BYTE_SHIFT" "I" (.int (8 : Int32))) (hcs : ¬ (cz = (0 : Int32))) (hf : (fl &&& (1 : Int32)) = (0 : Int32)) (hk4 : (own_k wh) < (4 : Int32)) :
    MetFree l x (head1 (Jvm.Cond.code x code maxLocals ret :: ws) room_1) (fun zA zU => zA = #[(.int wh), (.int fl), (.int ps), (.int ch)] ∧ Z.Warmed39 zU.vm ∧ zU.heap = h0 ∧ CHv Z own_EL zU.vm h0 ∧ ∀ x ∈ ([] : List Addr), Safe Z own_EL zU.vm h0 x) (fun _ _ _ _ _ => True) (fun _ zU zo zU' => ∃ zv zL, zo = .returned zv ∧ Q_law Z wh fl ps ch cz h0 n0 zv zU'.heap zL ∧ CHr Z own_EL zU.vm zU.heap zU'.vm zU'.heap ∧ ReturnedEndW zU zo zU' zL room_1.cells room_1.slots) := by
  refine MetFree.of_bodySF (plainFor_of_name pn_17) hisR ?_
  intro p e s m args below meth c s₁ Bd hml0 hP hK
  obtain ⟨rfl, hZ, hh, HC, HS⟩ := hP
  have hx := Bd.exec
  have hby := Bd.bytes
  have hml : c.maxLocals = 13 := hml0
  have hown : s.vm.findClass "com/example/tsutsumi/tsutsumi/service/SchemaElementsIsBuiltInNamespacePinLaw" = some m.cls := findClass_of_methodNamed Bd.named
  have hnm := (name_of_methodNamed Bd.named Bd.method).1
  have X0 : Stand p l e room_1 (s.setVm s.vm) m #[(.int wh), (.int fl), (.int ps), (.int ch)] below meth c s₁ [] 0 0 := Stand.of_body Bd
  have e0 : s₁.heap = h0 := by rw [← hh, Bd.state]; rfl
  have N0 := Fr.nil n0
  have Z0 : n0 ≤ h0.size := O0.1 ▸ O0.2.1
  have pre0 : ∀ zt, Steps p.tables e below (s₁.setTop (mkF m 0 #[.val (.int wh), .val (.int fl), .val (.int ps), .val (.int ch), .unset, .unset, .unset, .unset, .unset, .unset, .unset, .unset, .unset] [])) zt → Steps p.tables e below (s₁.setTop (entryFrame m #[(.int wh), (.int fl), (.int ps), (.int ch)] maxLocals)) zt := fun zt zk => castTop (ef_0_IIII m wh fl ps ch) zk
  have hEL := own_EW hw
  have wS := own_wS hw
  have hS0 : s.Since s.vm 0 := (State.WarmedH.refl s).since 0
  have CR0 : CHr Z own_EL s.vm h0 s.vm h0 := CHr.refl HC
  have hZ0 := hZ
  have hown0 := hown
  obtain ⟨_, _, ⟨T1, L1, k1, n1⟩, -, X1, ⟨Lc1, hQ1, l1, y1, z1⟩, st1⟩ := Jvm.LawKit.callS X0 hx (y := (⟨"com/example/tsutsumi/tsutsumi/service/SchemaElementsIsBuiltInNamespacePinLaw", "uriChars", "(I)[C"⟩ : MethodName)) hown (mvT hZ (hw _ (List.mem_of_getElem? (i := 0) rfl))) (mvT hZ (hw _ (List.mem_of_getElem? (i := 1) rfl))) (mvT hZ (hw _ (List.mem_of_getElem? (i := 2) rfl))) (mvT hZ (hw _ (List.mem_of_getElem? (i := 3) rfl))) (by decide) (backOf (W := 0) (uri l Z a0 hw [] (own_k wh) h0 n0 (Nat.le_trans Z0 (Keep.refl h0 []).1) ) hZ (hw _ (List.mem_of_getElem? (i := 3) rfl)) (hw _ (List.mem_of_getElem? (i := 2) rfl)) (by decide) (by decide)) (g := (mkF m 8 #[.val (.int wh), .val (.int fl), .val (.int ps), .val (.int ch), .val (.int (own_k wh)), .unset, .unset, .unset, .unset, .unset, .unset, .unset, .unset] [(.int (own_k wh))])) rfl (by rw [hml]; rfl) (argsL := [(.int (own_k wh))]) (rest := []) (lenOf pd_9 rfl) rfl (by show 2 * 0 + _ ≤ _; exact Nat.le_of_eq rfl) (hb hby at_8) (fun _ _ => ⟨rfl, e0, (by decide : 0 + 1 ≤ _), (by decide : 0 + 41 ≤ _)⟩)
  dsimp only [Pt.U, Pt.locs, Pt.cells, Pt.slots] at X1 l1 y1 z1 st1 hQ1
  subst l1 y1 z1
  obtain ⟨r_1, kr_1, rfl, Nq1, kh1, fz_r_1, Po1_0⟩ := hQ1
  have N1 := Fr.app N0 Nq1
  have sz_r_1 : h0.size ≤ r_1 := Nat.le_trans (Keep.refl h0 []).1 fz_r_1
  have g_r_1 : n0 ≤ r_1 := Nat.le_trans Z0 sz_r_1
  have O1 := O0.keep kh1 all0
  have K1 : Keep h0 T1.heap [] := (Keep.refl h0 []).trans kh1 all0
  have hs1 : ∀ x ∈ ([] : List Addr), Safe Z own_EL s.vm h0 x := all0
  have CR1 := CR0.trans (CHr.keep kh1 hs1 CR0.1)
  obtain ⟨cl2, Ar2, -, Sz2, Ng2, -⟩ := (id Po1_0)
  obtain ⟨cl3, Ar3, q3, Sz3, Ng3, Hs3, Gs3⟩ := (id Po1_0)
  have hin3 : ¬ ((own_p ps wh) < 0 ∨ cl3.slots.size ≤ ((own_p ps wh)).toNatClampNeg) := inb_of Sz3 (own_pb ps wh)
  have hat3 : cl3.slots[((own_p ps wh)).toNatClampNeg]? = some (.int ((own_U (own_k wh)).getD (own_p ps wh).toNatClampNeg 0)) := Has.at Hs3 hin3 (own_gdp (own_pl ps wh))
  obtain ⟨T4, h4, X4, e4, E4, A4, D4, U4, st4⟩ := newO X1 hx hZ hown (hw _ (List.mem_of_getElem? (i := 7) rfl)) (hw _ (List.mem_of_getElem? (i := 8) rfl)) (hw _ (List.mem_of_getElem? (i := 9) rfl)) rfl (g := (mkF m 79 #[.val (.int wh), .val (.int fl), .val (.int ps), .val (.int ch), .val (.int (own_k wh)), .val (.ref r_1), .val (.int (0 : Int32)), .val (.int (own_p ps wh)), .val (.int (own_c ch)), .val (.int ((own_U (own_k wh)).getD (own_p ps wh).toNatClampNeg 0)), .val (.int (0 : Int32)), .unset, .unset] [])) rfl (hb hby at_79) (by decide) (by decide)
  obtain ⟨b4, gz4⟩ : ∃ z, z = T1.heap.size := ⟨_, rfl⟩
  rw [← gz4] at A4 D4 U4 st4
  have sz_b4 : h0.size ≤ b4 := Nat.le_trans K1.1 (Nat.le_of_eq gz4.symm)
  have g_b4 : n0 ≤ b4 := Nat.le_trans Z0 sz_b4
  have O4 := O1.ext E4
  have K4 : Keep h0 h4 [] := K1.ext E4
  have CR4 := CR1.trans (CHr.ext E4 CR1.1)
  have Sn4 : Safe Z own_EL s.vm h4 b4 := Safe.ext E4 CR1.1 (Safe.new (Nat.le_of_eq gz4.symm))
  have Fi4_33 : Fld Z h4 b4 "java/lang/String" "coder" "B" (.int (0 : Int32)) := D4 (Or.inr (hw _ (List.mem_of_getElem? (i := 33) rfl))) (ty := .byte) (by decide)
  have Fi4_35 : Fld Z h4 b4 "java/lang/String" "value" "[B" .null := D4 (Or.inr (hw _ (List.mem_of_getElem? (i := 35) rfl))) (ty := (.array .byte)) (by decide)
  obtain ⟨_, _, ⟨T5, L5, k5, n5⟩, -, X5, ⟨Lc5, hQ5, l5, y5, z5⟩, st5⟩ := X4.specialBack hx (y := (⟨"java/lang/String", "<init>", "([C)V"⟩ : MethodName)) rfl hown (mvT hZ (hw _ (List.mem_of_getElem? (i := 10) rfl))) (mvT hZ (hw _ (List.mem_of_getElem? (i := 11) rfl))) (mvT hZ (hw _ (List.mem_of_getElem? (i := 12) rfl))) (by decide) (own_siB (W := 1) hZ hw (by decide) (by decide) b4 r_1 kr_1 (own_U (own_k wh)) cz h4 n0 O4 G0 A4 Fi4_35 Fi4_33 (Po1_0.ext E4) g_b4 hcs (own_U_len (own_k wh)).2 (own_U_len (own_k wh)).1 (own_U_ch (own_k wh))) (g := (mkF m 85 #[.val (.int wh), .val (.int fl), .val (.int ps), .val (.int ch), .val (.int (own_k wh)), .val (.ref r_1), .val (.int (0 : Int32)), .val (.int (own_p ps wh)), .val (.int (own_c ch)), .val (.int ((own_U (own_k wh)).getD (own_p ps wh).toNatClampNeg 0)), .val (.int (0 : Int32)), .unset, .unset] [(.ref r_1), (.ref b4), (.ref b4)])) rfl (by rw [hml]; rfl) (Steps.refl _) (a := b4) (argsL := [(.ref r_1)]) (rest := [(.ref b4)]) (lenOf pd_10 rfl) rfl (by show 2 * 0 + _ ≤ _; exact Nat.le_of_eq rfl) (hb hby at_85) (fun _ _ => ⟨rfl, e4, (by decide : 2 + 1 ≤ _), (by decide : 45 + 41 ≤ _)⟩)
  dsimp only [Pt.U, Pt.locs, Pt.cells, Pt.slots] at X5 l5 y5 z5 st5 hQ5
  subst l5 y5 z5
  obtain ⟨t_5, kt_5, rfl, Nq5, kh5, fz_t_5, Po5_0, Po5_1, Po5_2, Po5_3⟩ := hQ5
  have N5 := Fr.app N1 Nq5
  have sz_t_5 : h0.size ≤ t_5 := Nat.le_trans K4.1 fz_t_5
  have g_t_5 : n0 ≤ t_5 := Nat.le_trans Z0 sz_t_5
  have O5 := O4.keep kh5 (allS g_b4 all0)
  have K5 : Keep h0 T5.heap [] := K4.trans kh5 (allS (Or.inr sz_b4) all0)
  have hs5 : ∀ x ∈ ([b4] : List Addr), Safe Z own_EL s.vm h4 x := (allS Sn4 all0)
  have CR5 := CR4.trans (CHr.keep kh5 hs5 CR4.1)
  have Sy5_b4 := Safe.keep kh5 hs5 CR4.1 Sn4
  obtain ⟨_, _, ⟨T6, L6, k6, n6⟩, -, Xr6, hSr6, hg6, ⟨Lc6, hQ6, l6, y6, z6, CL6⟩, st6⟩ := callSS X5 hx (y := (⟨"com/example/tsutsumi/tsutsumi/service/SchemaElements", "isBuiltInNamespace", "(Ljava/lang/String;)Z"⟩ : MethodName)) hown (mvT hZ (hw _ (List.mem_of_getElem? (i := 36) rfl))) (mvT hZ (hw _ (List.mem_of_getElem? (i := 37) rfl))) (mvT hZ (hw _ (List.mem_of_getElem? (i := 38) rfl))) (mvT hZ (hw _ (List.mem_of_getElem? (i := 39) rfl))) (by decide) (own_backSH (s := s) (vm0 := s.vm) (W := 0) (biL l Z a0 hw [] b4 t_5 kt_5 (own_U (own_k wh)) cz T5.heap n0 O5 G0 Po5_0 Po5_2 Po5_1 Po5_3 hcs (own_U_len (own_k wh)).2 (own_U_ch (own_k wh))) hZ (hw _ (List.mem_of_getElem? (i := 39) rfl)) (hw _ (List.mem_of_getElem? (i := 38) rfl)) (by decide) (by decide) hEL CR5.1 all0) (g := (mkF m 110 #[.val (.int wh), .val (.int fl), .val (.int ps), .val (.int ch), .val (.int (own_k wh)), .val (.ref r_1), .val (.int (0 : Int32)), .val (.int (own_p ps wh)), .val (.int (own_c ch)), .val (.int ((own_U (own_k wh)).getD (own_p ps wh).toNatClampNeg 0)), .val (.int (0 : Int32)), .val (.ref b4), .val (.int (1 : Int32))] [(.ref b4)])) rfl (by rw [hml]; rfl) (argsL := [(.ref b4)]) (rest := []) (lenOf pd_11 rfl) rfl (by show 2 * 0 + _ ≤ _; exact Nat.le_of_eq rfl) (hb hby at_110) (fun _ _ => ⟨rfl, rfl, (by decide : 3 + 8 ≤ _), (by decide : 86 + 576 ≤ _)⟩)
  dsimp only [Pt.U, Pt.locs, Pt.cells, Pt.slots] at Xr6 l6 y6 z6 st6 hQ6 hSr6 hg6 CL6
  subst l6 y6 z6
  obtain ⟨X6, hS6, hZ, hown⟩ := rebS (s := s) (vm0 := s.vm) hS0 (own_hk rfl (Nat.le_trans (Nat.le_trans (Nat.le_trans (Nat.zero_le _) kh1.1) E4.1) kh5.1)) Xr6 hSr6 hg6 hZ hown
  obtain ⟨rfl, Nq6, kh6⟩ := hQ6
  have N6 := Fr.app N5 Nq6
  have hZ6 := hZ
  have hown6 := hown
  have O6 := O5.keep kh6 all0
  have K6 : Keep h0 T6.heap [] := K5.trans kh6 all0
  have CR6 := CR5.trans CL6
  have Sy6_b4 := CL6.safe (Po5_0).lt Sy5_b4
  obtain ⟨fs, hr, hrun, hended, hRW⟩ := X6.leaveW (s := s) hS6 (own_hk rfl (Nat.le_refl _)) (v := some (.int (1 : Int32))) (fun h => by rw [Bd.returns] at h; cases h)
  have CE := CR6.trans (CHv.at (s := s) (vm0 := T6.vm) X6 hZ hEL CR6.1)
  refine ⟨_, _, pre0 _ ?_, hrun, hended, _, _, rfl, ?_, ?_, own_rw_mono hRW (by decide) (by decide)⟩
  · show Steps p.tables e below (s₁.setTop (mkF m 0 #[.val (.int wh), .val (.int fl), .val (.int ps), .val (.int ch), .unset, .unset, .unset, .unset, .unset, .unset, .unset, .unset, .unset] [])) _
    refine XS.iloadN X0.here hx rfl (hb hby at_0) rfl ?_
    show Steps p.tables e below (s₁.setTop (mkF m 1 #[.val (.int wh), .val (.int fl), .val (.int ps), .val (.int ch), .unset, .unset, .unset, .unset, .unset, .unset, .unset, .unset, .unset] [(.int wh)])) _
    refine XS.bipush X0.here hx rfl (hb hby at_1) ?_
    show Steps p.tables e below (s₁.setTop (mkF m 3 #[.val (.int wh), .val (.int fl), .val (.int ps), .val (.int ch), .unset, .unset, .unset, .unset, .unset, .unset, .unset, .unset, .unset] [(.int (7 : Int32)), (.int wh)])) _
    refine XS.iand X0.here hx rfl (hb hby at_3) rfl ?_
    show Steps p.tables e below (s₁.setTop (mkF m 4 #[.val (.int wh), .val (.int fl), .val (.int ps), .val (.int ch), .unset, .unset, .unset, .unset, .unset, .unset, .unset, .unset, .unset] [(.int (wh &&& (7 : Int32)))])) _
    refine castTop (congrArg (fun z_ => (mkF m 4 #[.val (.int wh), .val (.int fl), .val (.int ps), .val (.int ch), .unset, .unset, .unset, .unset, .unset, .unset, .unset, .unset, .unset] [(.int z_)])) (rfl : (wh &&& (7 : Int32)) = (own_k wh))) ?_
    show Steps p.tables e below (s₁.setTop (mkF m 4 #[.val (.int wh), .val (.int fl), .val (.int ps), .val (.int ch), .unset, .unset, .unset, .unset, .unset, .unset, .unset, .unset, .unset] [(.int (own_k wh))])) _
    refine XS.istore X0.here hx rfl (hb hby at_4) rfl (l' := #[.val (.int wh), .val (.int fl), .val (.int ps), .val (.int ch), .val (.int (own_k wh)), .unset, .unset, .unset, .unset, .unset, .unset, .unset, .unset]) rfl ?_
    show Steps p.tables e below (s₁.setTop (mkF m 6 #[.val (.int wh), .val (.int fl), .val (.int ps), .val (.int ch), .val (.int (own_k wh)), .unset, .unset, .unset, .unset, .unset, .unset, .unset, .unset] [])) _
    refine XS.iload X0.here hx rfl (hb hby at_6) rfl ?_
    show Steps p.tables e below (s₁.setTop (mkF m 8 #[.val (.int wh), .val (.int fl), .val (.int ps), .val (.int ch), .val (.int (own_k wh)), .unset, .unset, .unset, .unset, .unset, .unset, .unset, .unset] [(.int (own_k wh))])) _
    refine st1 _ ?_
    show Steps p.tables e below (T1.setTop (mkF m 11 #[.val (.int wh), .val (.int fl), .val (.int ps), .val (.int ch), .val (.int (own_k wh)), .unset, .unset, .unset, .unset, .unset, .unset, .unset, .unset] [(.ref r_1)])) _
    refine XS.astore X1.here hx rfl (hb hby at_11) rfl rfl (l' := #[.val (.int wh), .val (.int fl), .val (.int ps), .val (.int ch), .val (.int (own_k wh)), .val (.ref r_1), .unset, .unset, .unset, .unset, .unset, .unset, .unset]) rfl ?_
    show Steps p.tables e below (T1.setTop (mkF m 13 #[.val (.int wh), .val (.int fl), .val (.int ps), .val (.int ch), .val (.int (own_k wh)), .val (.ref r_1), .unset, .unset, .unset, .unset, .unset, .unset, .unset] [])) _
    refine XS.iloadN X1.here hx rfl (hb hby at_13) rfl ?_
    show Steps p.tables e below (T1.setTop (mkF m 14 #[.val (.int wh), .val (.int fl), .val (.int ps), .val (.int ch), .val (.int (own_k wh)), .val (.ref r_1), .unset, .unset, .unset, .unset, .unset, .unset, .unset] [(.int fl)])) _
    refine XS.iconst X1.here hx rfl (hb hby at_14) ?_
    show Steps p.tables e below (T1.setTop (mkF m 15 #[.val (.int wh), .val (.int fl), .val (.int ps), .val (.int ch), .val (.int (own_k wh)), .val (.ref r_1), .unset, .unset, .unset, .unset, .unset, .unset, .unset] [(.int (1 : Int32)), (.int fl)])) _
    refine XS.iand X1.here hx rfl (hb hby at_15) rfl ?_
    show Steps p.tables e below (T1.setTop (mkF m 16 #[.val (.int wh), .val (.int fl), .val (.int ps), .val (.int ch), .val (.int (own_k wh)), .val (.ref r_1), .unset, .unset, .unset, .unset, .unset, .unset, .unset] [(.int (fl &&& (1 : Int32)))])) _
    refine XS.ifYes X1.here hx rfl (pc0 := 16) (pc' := 23) rfl (hb hby at_16) rfl ((if0 _ _).trans (teq (hf : (fl &&& (1 : Int32)) = (0 : Int32))).1) (by decide) (by decide) ?_
    show Steps p.tables e below (T1.setTop (mkF m 23 #[.val (.int wh), .val (.int fl), .val (.int ps), .val (.int ch), .val (.int (own_k wh)), .val (.ref r_1), .unset, .unset, .unset, .unset, .unset, .unset, .unset] [])) _
    refine XS.iconst X1.here hx rfl (hb hby at_23) ?_
    show Steps p.tables e below (T1.setTop (mkF m 24 #[.val (.int wh), .val (.int fl), .val (.int ps), .val (.int ch), .val (.int (own_k wh)), .val (.ref r_1), .unset, .unset, .unset, .unset, .unset, .unset, .unset] [(.int (0 : Int32))])) _
    refine XS.istore X1.here hx rfl (hb hby at_24) rfl (l' := #[.val (.int wh), .val (.int fl), .val (.int ps), .val (.int ch), .val (.int (own_k wh)), .val (.ref r_1), .val (.int (0 : Int32)), .unset, .unset, .unset, .unset, .unset, .unset]) rfl ?_
    show Steps p.tables e below (T1.setTop (mkF m 26 #[.val (.int wh), .val (.int fl), .val (.int ps), .val (.int ch), .val (.int (own_k wh)), .val (.ref r_1), .val (.int (0 : Int32)), .unset, .unset, .unset, .unset, .unset, .unset] [])) _
    refine XS.iloadN X1.here hx rfl (hb hby at_26) rfl ?_
    show Steps p.tables e below (T1.setTop (mkF m 27 #[.val (.int wh), .val (.int fl), .val (.int ps), .val (.int ch), .val (.int (own_k wh)), .val (.ref r_1), .val (.int (0 : Int32)), .unset, .unset, .unset, .unset, .unset, .unset] [(.int ps)])) _
    refine X1.ldcInt hx hown0 (mvT hZ0 (hw _ (List.mem_of_getElem? (i := 5) rfl))) (g := (mkF m 27 #[.val (.int wh), .val (.int fl), .val (.int ps), .val (.int ch), .val (.int (own_k wh)), .val (.ref r_1), .val (.int (0 : Int32)), .unset, .unset, .unset, .unset, .unset, .unset] [(.int ps)])) rfl (hb hby at_27) _ ?_
    show Steps p.tables e below (T1.setTop (mkF m 29 #[.val (.int wh), .val (.int fl), .val (.int ps), .val (.int ch), .val (.int (own_k wh)), .val (.ref r_1), .val (.int (0 : Int32)), .unset, .unset, .unset, .unset, .unset, .unset] [(.int (2147483647 : Int32)), (.int ps)])) _
    refine XS.iand X1.here hx rfl (hb hby at_29) rfl ?_
    show Steps p.tables e below (T1.setTop (mkF m 30 #[.val (.int wh), .val (.int fl), .val (.int ps), .val (.int ch), .val (.int (own_k wh)), .val (.ref r_1), .val (.int (0 : Int32)), .unset, .unset, .unset, .unset, .unset, .unset] [(.int (ps &&& (2147483647 : Int32)))])) _
    refine XS.aload X1.here hx rfl (hb hby at_30) rfl rfl ?_
    show Steps p.tables e below (T1.setTop (mkF m 32 #[.val (.int wh), .val (.int fl), .val (.int ps), .val (.int ch), .val (.int (own_k wh)), .val (.ref r_1), .val (.int (0 : Int32)), .unset, .unset, .unset, .unset, .unset, .unset] [(.ref r_1), (.int (ps &&& (2147483647 : Int32)))])) _
    refine X1.arraylength hx (Ar2.at_ rfl) (State.isArrayOf_alike hZ0.alike Ar2.2.1) (g := (mkF m 32 #[.val (.int wh), .val (.int fl), .val (.int ps), .val (.int ch), .val (.int (own_k wh)), .val (.ref r_1), .val (.int (0 : Int32)), .unset, .unset, .unset, .unset, .unset, .unset] [(.ref r_1), (.int (ps &&& (2147483647 : Int32)))])) rfl rfl (hb hby at_32) _ ?_
    rw [len_of Sz2 Ng2]
    show Steps p.tables e below (T1.setTop (mkF m 33 #[.val (.int wh), .val (.int fl), .val (.int ps), .val (.int ch), .val (.int (own_k wh)), .val (.ref r_1), .val (.int (0 : Int32)), .unset, .unset, .unset, .unset, .unset, .unset] [(.int (Int32.ofNat (own_U (own_k wh)).length)), (.int (ps &&& (2147483647 : Int32)))])) _
    refine iremM X1 hx rfl (hb hby at_33) rfl (own_ndz _) ?_
    show Steps p.tables e below (T1.setTop (mkF m 34 #[.val (.int wh), .val (.int fl), .val (.int ps), .val (.int ch), .val (.int (own_k wh)), .val (.ref r_1), .val (.int (0 : Int32)), .unset, .unset, .unset, .unset, .unset, .unset] [(.int ((ps &&& (2147483647 : Int32)) % (Int32.ofNat (own_U (own_k wh)).length)))])) _
    refine castTop (congrArg (fun z_ => (mkF m 34 #[.val (.int wh), .val (.int fl), .val (.int ps), .val (.int ch), .val (.int (own_k wh)), .val (.ref r_1), .val (.int (0 : Int32)), .unset, .unset, .unset, .unset, .unset, .unset] [(.int z_)])) (rfl : ((ps &&& (2147483647 : Int32)) % (Int32.ofNat (own_U (own_k wh)).length)) = (own_p ps wh))) ?_
    show Steps p.tables e below (T1.setTop (mkF m 34 #[.val (.int wh), .val (.int fl), .val (.int ps), .val (.int ch), .val (.int (own_k wh)), .val (.ref r_1), .val (.int (0 : Int32)), .unset, .unset, .unset, .unset, .unset, .unset] [(.int (own_p ps wh))])) _
    refine XS.istore X1.here hx rfl (hb hby at_34) rfl (l' := #[.val (.int wh), .val (.int fl), .val (.int ps), .val (.int ch), .val (.int (own_k wh)), .val (.ref r_1), .val (.int (0 : Int32)), .val (.int (own_p ps wh)), .unset, .unset, .unset, .unset, .unset]) rfl ?_
    show Steps p.tables e below (T1.setTop (mkF m 36 #[.val (.int wh), .val (.int fl), .val (.int ps), .val (.int ch), .val (.int (own_k wh)), .val (.ref r_1), .val (.int (0 : Int32)), .val (.int (own_p ps wh)), .unset, .unset, .unset, .unset, .unset] [])) _
    refine XS.iloadN X1.here hx rfl (hb hby at_36) rfl ?_
    show Steps p.tables e below (T1.setTop (mkF m 37 #[.val (.int wh), .val (.int fl), .val (.int ps), .val (.int ch), .val (.int (own_k wh)), .val (.ref r_1), .val (.int (0 : Int32)), .val (.int (own_p ps wh)), .unset, .unset, .unset, .unset, .unset] [(.int ch)])) _
    refine X1.ldcInt hx hown0 (mvT hZ0 (hw _ (List.mem_of_getElem? (i := 6) rfl))) (g := (mkF m 37 #[.val (.int wh), .val (.int fl), .val (.int ps), .val (.int ch), .val (.int (own_k wh)), .val (.ref r_1), .val (.int (0 : Int32)), .val (.int (own_p ps wh)), .unset, .unset, .unset, .unset, .unset] [(.int ch)])) rfl (hb hby at_37) _ ?_
    show Steps p.tables e below (T1.setTop (mkF m 39 #[.val (.int wh), .val (.int fl), .val (.int ps), .val (.int ch), .val (.int (own_k wh)), .val (.ref r_1), .val (.int (0 : Int32)), .val (.int (own_p ps wh)), .unset, .unset, .unset, .unset, .unset] [(.int (65535 : Int32)), (.int ch)])) _
    refine XS.iand X1.here hx rfl (hb hby at_39) rfl ?_
    show Steps p.tables e below (T1.setTop (mkF m 40 #[.val (.int wh), .val (.int fl), .val (.int ps), .val (.int ch), .val (.int (own_k wh)), .val (.ref r_1), .val (.int (0 : Int32)), .val (.int (own_p ps wh)), .unset, .unset, .unset, .unset, .unset] [(.int (ch &&& (65535 : Int32)))])) _
    refine XS.i2c X1.here hx rfl (hb hby at_40) rfl ?_
    show Steps p.tables e below (T1.setTop (mkF m 41 #[.val (.int wh), .val (.int fl), .val (.int ps), .val (.int ch), .val (.int (own_k wh)), .val (.ref r_1), .val (.int (0 : Int32)), .val (.int (own_p ps wh)), .unset, .unset, .unset, .unset, .unset] [(.int ((ch &&& (65535 : Int32)).toUInt32.toUInt16.toUInt32.toInt32))])) _
    refine castTop (congrArg (fun z_ => (mkF m 41 #[.val (.int wh), .val (.int fl), .val (.int ps), .val (.int ch), .val (.int (own_k wh)), .val (.ref r_1), .val (.int (0 : Int32)), .val (.int (own_p ps wh)), .unset, .unset, .unset, .unset, .unset] [(.int z_)])) (rfl : ((ch &&& (65535 : Int32)).toUInt32.toUInt16.toUInt32.toInt32) = (own_c ch))) ?_
    show Steps p.tables e below (T1.setTop (mkF m 41 #[.val (.int wh), .val (.int fl), .val (.int ps), .val (.int ch), .val (.int (own_k wh)), .val (.ref r_1), .val (.int (0 : Int32)), .val (.int (own_p ps wh)), .unset, .unset, .unset, .unset, .unset] [(.int (own_c ch))])) _
    refine XS.istore X1.here hx rfl (hb hby at_41) rfl (l' := #[.val (.int wh), .val (.int fl), .val (.int ps), .val (.int ch), .val (.int (own_k wh)), .val (.ref r_1), .val (.int (0 : Int32)), .val (.int (own_p ps wh)), .val (.int (own_c ch)), .unset, .unset, .unset, .unset]) rfl ?_
    show Steps p.tables e below (T1.setTop (mkF m 43 #[.val (.int wh), .val (.int fl), .val (.int ps), .val (.int ch), .val (.int (own_k wh)), .val (.ref r_1), .val (.int (0 : Int32)), .val (.int (own_p ps wh)), .val (.int (own_c ch)), .unset, .unset, .unset, .unset] [])) _
    refine XS.aload X1.here hx rfl (hb hby at_43) rfl rfl ?_
    show Steps p.tables e below (T1.setTop (mkF m 45 #[.val (.int wh), .val (.int fl), .val (.int ps), .val (.int ch), .val (.int (own_k wh)), .val (.ref r_1), .val (.int (0 : Int32)), .val (.int (own_p ps wh)), .val (.int (own_c ch)), .unset, .unset, .unset, .unset] [(.ref r_1)])) _
    refine XS.iload X1.here hx rfl (hb hby at_45) rfl ?_
    show Steps p.tables e below (T1.setTop (mkF m 47 #[.val (.int wh), .val (.int fl), .val (.int ps), .val (.int ch), .val (.int (own_k wh)), .val (.ref r_1), .val (.int (0 : Int32)), .val (.int (own_p ps wh)), .val (.int (own_c ch)), .unset, .unset, .unset, .unset] [(.int (own_p ps wh)), (.ref r_1)])) _
    refine X1.caload hx (j := (own_p ps wh)) (v := (.int ((own_U (own_k wh)).getD (own_p ps wh).toNatClampNeg 0))) (Ar3.at_ rfl) (State.isArrayOf_alike hZ0.alike Ar3.2.1) Ar3.2.2 hin3 hat3 (g := (mkF m 47 #[.val (.int wh), .val (.int fl), .val (.int ps), .val (.int ch), .val (.int (own_k wh)), .val (.ref r_1), .val (.int (0 : Int32)), .val (.int (own_p ps wh)), .val (.int (own_c ch)), .unset, .unset, .unset, .unset] [(.int (own_p ps wh)), (.ref r_1)])) rfl rfl (hb hby at_47) _ ?_
    show Steps p.tables e below (T1.setTop (mkF m 48 #[.val (.int wh), .val (.int fl), .val (.int ps), .val (.int ch), .val (.int (own_k wh)), .val (.ref r_1), .val (.int (0 : Int32)), .val (.int (own_p ps wh)), .val (.int (own_c ch)), .unset, .unset, .unset, .unset] [(.int ((own_U (own_k wh)).getD (own_p ps wh).toNatClampNeg 0))])) _
    refine XS.istore X1.here hx rfl (hb hby at_48) rfl (l' := #[.val (.int wh), .val (.int fl), .val (.int ps), .val (.int ch), .val (.int (own_k wh)), .val (.ref r_1), .val (.int (0 : Int32)), .val (.int (own_p ps wh)), .val (.int (own_c ch)), .val (.int ((own_U (own_k wh)).getD (own_p ps wh).toNatClampNeg 0)), .unset, .unset, .unset]) rfl ?_
    show Steps p.tables e below (T1.setTop (mkF m 50 #[.val (.int wh), .val (.int fl), .val (.int ps), .val (.int ch), .val (.int (own_k wh)), .val (.ref r_1), .val (.int (0 : Int32)), .val (.int (own_p ps wh)), .val (.int (own_c ch)), .val (.int ((own_U (own_k wh)).getD (own_p ps wh).toNatClampNeg 0)), .unset, .unset, .unset] [])) _
    refine XS.iconst X1.here hx rfl (hb hby at_50) ?_
    show Steps p.tables e below (T1.setTop (mkF m 51 #[.val (.int wh), .val (.int fl), .val (.int ps), .val (.int ch), .val (.int (own_k wh)), .val (.ref r_1), .val (.int (0 : Int32)), .val (.int (own_p ps wh)), .val (.int (own_c ch)), .val (.int ((own_U (own_k wh)).getD (own_p ps wh).toNatClampNeg 0)), .unset, .unset, .unset] [(.int (0 : Int32))])) _
    refine XS.istore X1.here hx rfl (hb hby at_51) rfl (l' := #[.val (.int wh), .val (.int fl), .val (.int ps), .val (.int ch), .val (.int (own_k wh)), .val (.ref r_1), .val (.int (0 : Int32)), .val (.int (own_p ps wh)), .val (.int (own_c ch)), .val (.int ((own_U (own_k wh)).getD (own_p ps wh).toNatClampNeg 0)), .val (.int (0 : Int32)), .unset, .unset]) rfl ?_
    show Steps p.tables e below (T1.setTop (mkF m 53 #[.val (.int wh), .val (.int fl), .val (.int ps), .val (.int ch), .val (.int (own_k wh)), .val (.ref r_1), .val (.int (0 : Int32)), .val (.int (own_p ps wh)), .val (.int (own_c ch)), .val (.int ((own_U (own_k wh)).getD (own_p ps wh).toNatClampNeg 0)), .val (.int (0 : Int32)), .unset, .unset] [])) _
    refine XS.iload X1.here hx rfl (hb hby at_53) rfl ?_
    show Steps p.tables e below (T1.setTop (mkF m 55 #[.val (.int wh), .val (.int fl), .val (.int ps), .val (.int ch), .val (.int (own_k wh)), .val (.ref r_1), .val (.int (0 : Int32)), .val (.int (own_p ps wh)), .val (.int (own_c ch)), .val (.int ((own_U (own_k wh)).getD (own_p ps wh).toNatClampNeg 0)), .val (.int (0 : Int32)), .unset, .unset] [(.int (0 : Int32))])) _
    refine XS.ifYes X1.here hx rfl (pc0 := 55) (pc' := 79) rfl (hb hby at_55) rfl ((if0 _ _).trans (teq (by decide : (0 : Int32) = (0 : Int32))).1) (by decide) (by decide) ?_
    show Steps p.tables e below (T1.setTop (mkF m 79 #[.val (.int wh), .val (.int fl), .val (.int ps), .val (.int ch), .val (.int (own_k wh)), .val (.ref r_1), .val (.int (0 : Int32)), .val (.int (own_p ps wh)), .val (.int (own_c ch)), .val (.int ((own_U (own_k wh)).getD (own_p ps wh).toNatClampNeg 0)), .val (.int (0 : Int32)), .unset, .unset] [])) _
    refine st4 _ ?_
    show Steps p.tables e below (T4.setTop (mkF m 82 #[.val (.int wh), .val (.int fl), .val (.int ps), .val (.int ch), .val (.int (own_k wh)), .val (.ref r_1), .val (.int (0 : Int32)), .val (.int (own_p ps wh)), .val (.int (own_c ch)), .val (.int ((own_U (own_k wh)).getD (own_p ps wh).toNatClampNeg 0)), .val (.int (0 : Int32)), .unset, .unset] [(.ref b4)])) _
    refine XS.dup X4.here hx rfl (hb hby at_82) rfl rfl ?_
    show Steps p.tables e below (T4.setTop (mkF m 83 #[.val (.int wh), .val (.int fl), .val (.int ps), .val (.int ch), .val (.int (own_k wh)), .val (.ref r_1), .val (.int (0 : Int32)), .val (.int (own_p ps wh)), .val (.int (own_c ch)), .val (.int ((own_U (own_k wh)).getD (own_p ps wh).toNatClampNeg 0)), .val (.int (0 : Int32)), .unset, .unset] [(.ref b4), (.ref b4)])) _
    refine XS.aload X4.here hx rfl (hb hby at_83) rfl rfl ?_
    show Steps p.tables e below (T4.setTop (mkF m 85 #[.val (.int wh), .val (.int fl), .val (.int ps), .val (.int ch), .val (.int (own_k wh)), .val (.ref r_1), .val (.int (0 : Int32)), .val (.int (own_p ps wh)), .val (.int (own_c ch)), .val (.int ((own_U (own_k wh)).getD (own_p ps wh).toNatClampNeg 0)), .val (.int (0 : Int32)), .unset, .unset] [(.ref r_1), (.ref b4), (.ref b4)])) _
    refine st5.trans ?_
    show Steps p.tables e below (T5.setTop (mkF m 88 #[.val (.int wh), .val (.int fl), .val (.int ps), .val (.int ch), .val (.int (own_k wh)), .val (.ref r_1), .val (.int (0 : Int32)), .val (.int (own_p ps wh)), .val (.int (own_c ch)), .val (.int ((own_U (own_k wh)).getD (own_p ps wh).toNatClampNeg 0)), .val (.int (0 : Int32)), .unset, .unset] [(.ref b4)])) _
    refine XS.astore X5.here hx rfl (hb hby at_88) rfl rfl (l' := #[.val (.int wh), .val (.int fl), .val (.int ps), .val (.int ch), .val (.int (own_k wh)), .val (.ref r_1), .val (.int (0 : Int32)), .val (.int (own_p ps wh)), .val (.int (own_c ch)), .val (.int ((own_U (own_k wh)).getD (own_p ps wh).toNatClampNeg 0)), .val (.int (0 : Int32)), .val (.ref b4), .unset]) rfl ?_
    show Steps p.tables e below (T5.setTop (mkF m 90 #[.val (.int wh), .val (.int fl), .val (.int ps), .val (.int ch), .val (.int (own_k wh)), .val (.ref r_1), .val (.int (0 : Int32)), .val (.int (own_p ps wh)), .val (.int (own_c ch)), .val (.int ((own_U (own_k wh)).getD (own_p ps wh).toNatClampNeg 0)), .val (.int (0 : Int32)), .val (.ref b4), .unset] [])) _
    refine XS.iload X5.here hx rfl (hb hby at_90) rfl ?_
    show Steps p.tables e below (T5.setTop (mkF m 92 #[.val (.int wh), .val (.int fl), .val (.int ps), .val (.int ch), .val (.int (own_k wh)), .val (.ref r_1), .val (.int (0 : Int32)), .val (.int (own_p ps wh)), .val (.int (own_c ch)), .val (.int ((own_U (own_k wh)).getD (own_p ps wh).toNatClampNeg 0)), .val (.int (0 : Int32)), .val (.ref b4), .unset] [(.int (own_k wh))])) _
    refine XS.iconst X5.here hx rfl (hb hby at_92) ?_
    show Steps p.tables e below (T5.setTop (mkF m 93 #[.val (.int wh), .val (.int fl), .val (.int ps), .val (.int ch), .val (.int (own_k wh)), .val (.ref r_1), .val (.int (0 : Int32)), .val (.int (own_p ps wh)), .val (.int (own_c ch)), .val (.int ((own_U (own_k wh)).getD (own_p ps wh).toNatClampNeg 0)), .val (.int (0 : Int32)), .val (.ref b4), .unset] [(.int (4 : Int32)), (.int (own_k wh))])) _
    refine XS.icmpNo X5.here hx rfl (hb hby at_93) rfl (tlt (hk4 : (own_k wh) < (4 : Int32))).2.1 ?_
    show Steps p.tables e below (T5.setTop (mkF m 96 #[.val (.int wh), .val (.int fl), .val (.int ps), .val (.int ch), .val (.int (own_k wh)), .val (.ref r_1), .val (.int (0 : Int32)), .val (.int (own_p ps wh)), .val (.int (own_c ch)), .val (.int ((own_U (own_k wh)).getD (own_p ps wh).toNatClampNeg 0)), .val (.int (0 : Int32)), .val (.ref b4), .unset] [])) _
    refine XS.iload X5.here hx rfl (hb hby at_96) rfl ?_
    show Steps p.tables e below (T5.setTop (mkF m 98 #[.val (.int wh), .val (.int fl), .val (.int ps), .val (.int ch), .val (.int (own_k wh)), .val (.ref r_1), .val (.int (0 : Int32)), .val (.int (own_p ps wh)), .val (.int (own_c ch)), .val (.int ((own_U (own_k wh)).getD (own_p ps wh).toNatClampNeg 0)), .val (.int (0 : Int32)), .val (.ref b4), .unset] [(.int (0 : Int32))])) _
    refine XS.ifNo X5.here hx rfl (hb hby at_98) rfl ((if0 _ _).trans (teq (by decide : (0 : Int32) = (0 : Int32))).2) ?_
    show Steps p.tables e below (T5.setTop (mkF m 101 #[.val (.int wh), .val (.int fl), .val (.int ps), .val (.int ch), .val (.int (own_k wh)), .val (.ref r_1), .val (.int (0 : Int32)), .val (.int (own_p ps wh)), .val (.int (own_c ch)), .val (.int ((own_U (own_k wh)).getD (own_p ps wh).toNatClampNeg 0)), .val (.int (0 : Int32)), .val (.ref b4), .unset] [])) _
    refine XS.iconst X5.here hx rfl (hb hby at_101) ?_
    show Steps p.tables e below (T5.setTop (mkF m 102 #[.val (.int wh), .val (.int fl), .val (.int ps), .val (.int ch), .val (.int (own_k wh)), .val (.ref r_1), .val (.int (0 : Int32)), .val (.int (own_p ps wh)), .val (.int (own_c ch)), .val (.int ((own_U (own_k wh)).getD (own_p ps wh).toNatClampNeg 0)), .val (.int (0 : Int32)), .val (.ref b4), .unset] [(.int (1 : Int32))])) _
    refine XS.goto X5.here hx rfl (pc0 := 102) (pc' := 106) rfl (hb hby at_102) (by decide) (by decide) ?_
    show Steps p.tables e below (T5.setTop (mkF m 106 #[.val (.int wh), .val (.int fl), .val (.int ps), .val (.int ch), .val (.int (own_k wh)), .val (.ref r_1), .val (.int (0 : Int32)), .val (.int (own_p ps wh)), .val (.int (own_c ch)), .val (.int ((own_U (own_k wh)).getD (own_p ps wh).toNatClampNeg 0)), .val (.int (0 : Int32)), .val (.ref b4), .unset] [(.int (1 : Int32))])) _
    refine XS.istore X5.here hx rfl (hb hby at_106) rfl (l' := #[.val (.int wh), .val (.int fl), .val (.int ps), .val (.int ch), .val (.int (own_k wh)), .val (.ref r_1), .val (.int (0 : Int32)), .val (.int (own_p ps wh)), .val (.int (own_c ch)), .val (.int ((own_U (own_k wh)).getD (own_p ps wh).toNatClampNeg 0)), .val (.int (0 : Int32)), .val (.ref b4), .val (.int (1 : Int32))]) rfl ?_
    show Steps p.tables e below (T5.setTop (mkF m 108 #[.val (.int wh), .val (.int fl), .val (.int ps), .val (.int ch), .val (.int (own_k wh)), .val (.ref r_1), .val (.int (0 : Int32)), .val (.int (own_p ps wh)), .val (.int (own_c ch)), .val (.int ((own_U (own_k wh)).getD (own_p ps wh).toNatClampNeg 0)), .val (.int (0 : Int32)), .val (.ref b4), .val (.int (1 : Int32))] [])) _
    refine XS.aload X5.here hx rfl (hb hby at_108) rfl rfl ?_
    show Steps p.tables e below (T5.setTop (mkF m 110 #[.val (.int wh), .val (.int fl), .val (.int ps), .val (.int ch), .val (.int (own_k wh)), .val (.ref r_1), .val (.int (0 : Int32)), .val (.int (own_p ps wh)), .val (.int (own_c ch)), .val (.int ((own_U (own_k wh)).getD (own_p ps wh).toNatClampNeg 0)), .val (.int (0 : Int32)), .val (.ref b4), .val (.int (1 : Int32))] [(.ref b4)])) _
    refine st6.trans ?_
    show Steps p.tables e below (T6.setTop (mkF m 113 #[.val (.int wh), .val (.int fl), .val (.int ps), .val (.int ch), .val (.int (own_k wh)), .val (.ref r_1), .val (.int (0 : Int32)), .val (.int (own_p ps wh)), .val (.int (own_c ch)), .val (.int ((own_U (own_k wh)).getD (own_p ps wh).toNatClampNeg 0)), .val (.int (0 : Int32)), .val (.ref b4), .val (.int (1 : Int32))] [(.int (own_bi (own_U (own_k wh))))])) _
    refine castTop (congrArg (fun z_ => (mkF m 113 #[.val (.int wh), .val (.int fl), .val (.int ps), .val (.int ch), .val (.int (own_k wh)), .val (.ref r_1), .val (.int (0 : Int32)), .val (.int (own_p ps wh)), .val (.int (own_c ch)), .val (.int ((own_U (own_k wh)).getD (own_p ps wh).toNatClampNeg 0)), .val (.int (0 : Int32)), .val (.ref b4), .val (.int (1 : Int32))] [(.int z_)])) (own_bi_lt wh hk4 : (own_bi (own_U (own_k wh))) = (1 : Int32))) ?_
    show Steps p.tables e below (T6.setTop (mkF m 113 #[.val (.int wh), .val (.int fl), .val (.int ps), .val (.int ch), .val (.int (own_k wh)), .val (.ref r_1), .val (.int (0 : Int32)), .val (.int (own_p ps wh)), .val (.int (own_c ch)), .val (.int ((own_U (own_k wh)).getD (own_p ps wh).toNatClampNeg 0)), .val (.int (0 : Int32)), .val (.ref b4), .val (.int (1 : Int32))] [(.int (1 : Int32))])) _
    refine XS.iload X6.here hx rfl (hb hby at_113) rfl ?_
    show Steps p.tables e below (T6.setTop (mkF m 115 #[.val (.int wh), .val (.int fl), .val (.int ps), .val (.int ch), .val (.int (own_k wh)), .val (.ref r_1), .val (.int (0 : Int32)), .val (.int (own_p ps wh)), .val (.int (own_c ch)), .val (.int ((own_U (own_k wh)).getD (own_p ps wh).toNatClampNeg 0)), .val (.int (0 : Int32)), .val (.ref b4), .val (.int (1 : Int32))] [(.int (1 : Int32)), (.int (1 : Int32))])) _
    refine XS.icmpNo X6.here hx rfl (hb hby at_115) rfl (teq (by decide : (1 : Int32) = (1 : Int32))).2 ?_
    show Steps p.tables e below (T6.setTop (mkF m 118 #[.val (.int wh), .val (.int fl), .val (.int ps), .val (.int ch), .val (.int (own_k wh)), .val (.ref r_1), .val (.int (0 : Int32)), .val (.int (own_p ps wh)), .val (.int (own_c ch)), .val (.int ((own_U (own_k wh)).getD (own_p ps wh).toNatClampNeg 0)), .val (.int (0 : Int32)), .val (.ref b4), .val (.int (1 : Int32))] [])) _
    refine XS.iconst X6.here hx rfl (hb hby at_118) ?_
    show Steps p.tables e below (T6.setTop (mkF m 119 #[.val (.int wh), .val (.int fl), .val (.int ps), .val (.int ch), .val (.int (own_k wh)), .val (.ref r_1), .val (.int (0 : Int32)), .val (.int (own_p ps wh)), .val (.int (own_c ch)), .val (.int ((own_U (own_k wh)).getD (own_p ps wh).toNatClampNeg 0)), .val (.int (0 : Int32)), .val (.ref b4), .val (.int (1 : Int32))] [(.int (1 : Int32))])) _
    refine XS.goto X6.here hx rfl (pc0 := 119) (pc' := 123) rfl (hb hby at_119) (by decide) (by decide) ?_
    show Steps p.tables e below (T6.setTop (mkF m 123 #[.val (.int wh), .val (.int fl), .val (.int ps), .val (.int ch), .val (.int (own_k wh)), .val (.ref r_1), .val (.int (0 : Int32)), .val (.int (own_p ps wh)), .val (.int (own_c ch)), .val (.int ((own_U (own_k wh)).getD (own_p ps wh).toNatClampNeg 0)), .val (.int (0 : Int32)), .val (.ref b4), .val (.int (1 : Int32))] [(.int (1 : Int32))])) _
    exact retN X6 hx (t := .boolean) Bd.returns (by simp) (hb hby at_123) hr
  · show Q_law Z wh fl ps ch cz h0 n0 _ T6.heap _
    exact ⟨rfl, N6⟩
  · show CHr Z own_EL s.vm s.heap T6.vm T6.heap
    rw [hh]; exact CE
set_option maxRecDepth 65536 in
set_option maxHeartbeats 40000000 in
theorem law_B1 (l : Launch) (Z : State) (a0 : Array Value) (hw : ∀ d ∈ tables_1, d.before a0 Z = true) (ws : List Jvm.Cond) (wh : Int32) (fl : Int32) (ps : Int32) (ch : Int32) (cz : Int32) (h0 : Heap) (n0 : Nat) (O0 : Old Z n0 h0) (G0 : Sta Z Z.heap "java/lang/String" "COMPACT_STRINGS" "Z" (.int cz)) (G1 : Sta Z Z.heap "java/lang/StringUTF16" "$assertionsDisabled" "Z" (.int (1 : Int32))) (G2 : Sta Z Z.heap "java/lang/StringUTF16" "HI_BYTE_SHIFT" "I" (.int (0 : Int32))) (G3 : Sta Z Z.heap "java/lang/StringUTF16" "LO_BYTE_SHIFT" "I" (.int (8 : Int32))) (hcs : ¬ (cz = (0 : Int32))) (hf : ¬ ((fl &&& (1 : Int32)) = (0 : Int32))) (hch : ((own_U (own_k wh)).getD (own_p ps wh).toNatClampNeg 0) = (own_c ch)) (hlat : ¬ ((255 : Int32) < (own_c ch))) (hk4 : (own_k wh) < (4 : Int32)) :
    MetFree l x (head1 (Jvm.Cond.code x code maxLocals ret :: ws) room_1) (fun zA zU => zA = #[(.int wh), (.int fl), (.int ps), (.int ch)] ∧ Z.Warmed39 zU.vm ∧ zU.heap = h0 ∧ CHv Z own_EL zU.vm h0 ∧ ∀ x ∈ ([] : List Addr), Safe Z own_EL zU.vm h0 x) (fun _ _ _ _ _ => True) (fun _ zU zo zU' => ∃ zv zL, zo = .returned zv ∧ Q_law Z wh fl ps ch cz h0 n0 zv zU'.heap zL ∧ CHr Z own_EL zU.vm zU.heap zU'.vm zU'.heap ∧ ReturnedEndW zU zo zU' zL room_1.cells room_1.slots) := by
  refine MetFree.of_bodySF (plainFor_of_name pn_17) hisR ?_
  intro p e s m args below meth c s₁ Bd hml0 hP hK
  obtain ⟨rfl, hZ, hh, HC, HS⟩ := hP
  have hx := Bd.exec
  have hby := Bd.bytes
  have hml : c.maxLocals = 13 := hml0
  have hown : s.vm.findClass "com/example/tsutsumi/tsutsumi/service/SchemaElementsIsBuiltInNamespacePinLaw" = some m.cls := findClass_of_methodNamed Bd.named
  have hnm := (name_of_methodNamed Bd.named Bd.method).1
  have X0 : Stand p l e room_1 (s.setVm s.vm) m #[(.int wh), (.int fl), (.int ps), (.int ch)] below meth c s₁ [] 0 0 := Stand.of_body Bd
  have e0 : s₁.heap = h0 := by rw [← hh, Bd.state]; rfl
  have N0 := Fr.nil n0
  have Z0 : n0 ≤ h0.size := O0.1 ▸ O0.2.1
  have pre0 : ∀ zt, Steps p.tables e below (s₁.setTop (mkF m 0 #[.val (.int wh), .val (.int fl), .val (.int ps), .val (.int ch), .unset, .unset, .unset, .unset, .unset, .unset, .unset, .unset, .unset] [])) zt → Steps p.tables e below (s₁.setTop (entryFrame m #[(.int wh), (.int fl), (.int ps), (.int ch)] maxLocals)) zt := fun zt zk => castTop (ef_0_IIII m wh fl ps ch) zk
  have hEL := own_EW hw
  have wS := own_wS hw
  have hS0 : s.Since s.vm 0 := (State.WarmedH.refl s).since 0
  have CR0 : CHr Z own_EL s.vm h0 s.vm h0 := CHr.refl HC
  have hZ0 := hZ
  have hown0 := hown
  obtain ⟨_, _, ⟨T1, L1, k1, n1⟩, -, X1, ⟨Lc1, hQ1, l1, y1, z1⟩, st1⟩ := Jvm.LawKit.callS X0 hx (y := (⟨"com/example/tsutsumi/tsutsumi/service/SchemaElementsIsBuiltInNamespacePinLaw", "uriChars", "(I)[C"⟩ : MethodName)) hown (mvT hZ (hw _ (List.mem_of_getElem? (i := 0) rfl))) (mvT hZ (hw _ (List.mem_of_getElem? (i := 1) rfl))) (mvT hZ (hw _ (List.mem_of_getElem? (i := 2) rfl))) (mvT hZ (hw _ (List.mem_of_getElem? (i := 3) rfl))) (by decide) (backOf (W := 0) (uri l Z a0 hw [] (own_k wh) h0 n0 (Nat.le_trans Z0 (Keep.refl h0 []).1) ) hZ (hw _ (List.mem_of_getElem? (i := 3) rfl)) (hw _ (List.mem_of_getElem? (i := 2) rfl)) (by decide) (by decide)) (g := (mkF m 8 #[.val (.int wh), .val (.int fl), .val (.int ps), .val (.int ch), .val (.int (own_k wh)), .unset, .unset, .unset, .unset, .unset, .unset, .unset, .unset] [(.int (own_k wh))])) rfl (by rw [hml]; rfl) (argsL := [(.int (own_k wh))]) (rest := []) (lenOf pd_9 rfl) rfl (by show 2 * 0 + _ ≤ _; exact Nat.le_of_eq rfl) (hb hby at_8) (fun _ _ => ⟨rfl, e0, (by decide : 0 + 1 ≤ _), (by decide : 0 + 41 ≤ _)⟩)
  dsimp only [Pt.U, Pt.locs, Pt.cells, Pt.slots] at X1 l1 y1 z1 st1 hQ1
  subst l1 y1 z1
  obtain ⟨r_1, kr_1, rfl, Nq1, kh1, fz_r_1, Po1_0⟩ := hQ1
  have N1 := Fr.app N0 Nq1
  have sz_r_1 : h0.size ≤ r_1 := Nat.le_trans (Keep.refl h0 []).1 fz_r_1
  have g_r_1 : n0 ≤ r_1 := Nat.le_trans Z0 sz_r_1
  have O1 := O0.keep kh1 all0
  have K1 : Keep h0 T1.heap [] := (Keep.refl h0 []).trans kh1 all0
  have hs1 : ∀ x ∈ ([] : List Addr), Safe Z own_EL s.vm h0 x := all0
  have CR1 := CR0.trans (CHr.keep kh1 hs1 CR0.1)
  obtain ⟨cl2, Ar2, -, Sz2, Ng2, -⟩ := (id Po1_0)
  obtain ⟨cl3, Ar3, q3, Sz3, Ng3, Hs3, Gs3⟩ := (id Po1_0)
  have hin3 : ¬ ((own_p ps wh) < 0 ∨ cl3.slots.size ≤ ((own_p ps wh)).toNatClampNeg) := inb_of Sz3 (own_pb ps wh)
  have hat3 : cl3.slots[((own_p ps wh)).toNatClampNeg]? = some (.int ((own_U (own_k wh)).getD (own_p ps wh).toNatClampNeg 0)) := Has.at Hs3 hin3 (own_gdp (own_pl ps wh))
  obtain ⟨cl4, Ar4, q4, Sz4, Ng4, Hs4, Gs4⟩ := (id Po1_0)
  have hin4 : ¬ ((own_p ps wh) < 0 ∨ cl4.slots.size ≤ ((own_p ps wh)).toNatClampNeg) := inb_of Sz4 (own_pb ps wh)
  obtain ⟨T4, h4, X4, e4, W4, st4⟩ := stC X1 hx hZ rfl Ar4 (j := (own_p ps wh)) hin4 (g := (mkF m 64 #[.val (.int wh), .val (.int fl), .val (.int ps), .val (.int ch), .val (.int (own_k wh)), .val (.ref r_1), .val (.int (1 : Int32)), .val (.int (own_p ps wh)), .val (.int (own_c ch)), .val (.int ((own_U (own_k wh)).getD (own_p ps wh).toNatClampNeg 0)), .val (.int (0 : Int32)), .unset, .unset] [(.int (own_c ch)), (.int (own_p ps wh)), (.ref r_1)])) rfl rfl (hb hby at_64)
  have Va4 := Arv.set Ar4 q4 Sz4 Ng4 Hs4 Gs4 (fits_nar_char _) W4 (own_p ps wh).toNatClampNeg rfl (by rw [List.length_map]; exact own_pl ps wh)
  have Sw4 : Safe Z own_EL s.vm T1.heap r_1 := (own_safe_arv hZ.alike Po1_0 (by decide))
  have O4 := O1.wr W4 g_r_1
  have K4 : Keep h0 h4 [] := K1.wr W4 (Or.inr sz_r_1)
  have N4 := Fr.snoc X4 N1 g_r_1
  have CR4 := CR1.trans (CHr.wr W4 Sw4 CR1.1)
  have V4 : Arv Z h4 r_1 kr_1 .char (Int32.ofNat (own_V wh ps ch).length) ((own_V wh ps ch).map Value.int) (.int (0 : Int32)) := by rw [own_V_len, ← own_Vmap]; exact Va4
  obtain ⟨T5, h5, X5, e5, E5, A5, D5, U5, st5⟩ := newO X4 hx hZ hown (hw _ (List.mem_of_getElem? (i := 7) rfl)) (hw _ (List.mem_of_getElem? (i := 8) rfl)) (hw _ (List.mem_of_getElem? (i := 9) rfl)) e4 (g := (mkF m 79 #[.val (.int wh), .val (.int fl), .val (.int ps), .val (.int ch), .val (.int (own_k wh)), .val (.ref r_1), .val (.int (1 : Int32)), .val (.int (own_p ps wh)), .val (.int (own_c ch)), .val (.int ((own_U (own_k wh)).getD (own_p ps wh).toNatClampNeg 0)), .val (.int (0 : Int32)), .unset, .unset] [])) rfl (hb hby at_79) (by decide) (by decide)
  obtain ⟨b5, gz5⟩ : ∃ z, z = h4.size := ⟨_, rfl⟩
  rw [← gz5] at A5 D5 U5 st5
  have sz_b5 : h0.size ≤ b5 := Nat.le_trans K4.1 (Nat.le_of_eq gz5.symm)
  have g_b5 : n0 ≤ b5 := Nat.le_trans Z0 sz_b5
  have O5 := O4.ext E5
  have K5 : Keep h0 h5 [] := K4.ext E5
  have CR5 := CR4.trans (CHr.ext E5 CR4.1)
  have Sn5 : Safe Z own_EL s.vm h5 b5 := Safe.ext E5 CR4.1 (Safe.new (Nat.le_of_eq gz5.symm))
  have Fi5_33 : Fld Z h5 b5 "java/lang/String" "coder" "B" (.int (0 : Int32)) := D5 (Or.inr (hw _ (List.mem_of_getElem? (i := 33) rfl))) (ty := .byte) (by decide)
  have Fi5_35 : Fld Z h5 b5 "java/lang/String" "value" "[B" .null := D5 (Or.inr (hw _ (List.mem_of_getElem? (i := 35) rfl))) (ty := (.array .byte)) (by decide)
  obtain ⟨_, _, ⟨T6, L6, k6, n6⟩, -, X6, ⟨Lc6, hQ6, l6, y6, z6⟩, st6⟩ := X5.specialBack hx (y := (⟨"java/lang/String", "<init>", "([C)V"⟩ : MethodName)) rfl hown (mvT hZ (hw _ (List.mem_of_getElem? (i := 10) rfl))) (mvT hZ (hw _ (List.mem_of_getElem? (i := 11) rfl))) (mvT hZ (hw _ (List.mem_of_getElem? (i := 12) rfl))) (by decide) (own_siB (W := 1) hZ hw (by decide) (by decide) b5 r_1 kr_1 (own_V wh ps ch) cz h5 n0 O5 G0 A5 Fi5_35 Fi5_33 (V4.ext E5) g_b5 hcs (own_V_l0 wh ps ch).2 (own_V_l0 wh ps ch).1 (own_V_lo hlat)) (g := (mkF m 85 #[.val (.int wh), .val (.int fl), .val (.int ps), .val (.int ch), .val (.int (own_k wh)), .val (.ref r_1), .val (.int (1 : Int32)), .val (.int (own_p ps wh)), .val (.int (own_c ch)), .val (.int ((own_U (own_k wh)).getD (own_p ps wh).toNatClampNeg 0)), .val (.int (0 : Int32)), .unset, .unset] [(.ref r_1), (.ref b5), (.ref b5)])) rfl (by rw [hml]; rfl) (Steps.refl _) (a := b5) (argsL := [(.ref r_1)]) (rest := [(.ref b5)]) (lenOf pd_10 rfl) rfl (by show 2 * 0 + _ ≤ _; exact Nat.le_of_eq rfl) (hb hby at_85) (fun _ _ => ⟨rfl, e5, (by decide : 2 + 1 ≤ _), (by decide : 45 + 41 ≤ _)⟩)
  dsimp only [Pt.U, Pt.locs, Pt.cells, Pt.slots] at X6 l6 y6 z6 st6 hQ6
  subst l6 y6 z6
  obtain ⟨t_6, kt_6, rfl, Nq6, kh6, fz_t_6, Po6_0, Po6_1, Po6_2, Po6_3⟩ := hQ6
  have N6 := Fr.app N4 Nq6
  have sz_t_6 : h0.size ≤ t_6 := Nat.le_trans K5.1 fz_t_6
  have g_t_6 : n0 ≤ t_6 := Nat.le_trans Z0 sz_t_6
  have O6 := O5.keep kh6 (allS g_b5 all0)
  have K6 : Keep h0 T6.heap [] := K5.trans kh6 (allS (Or.inr sz_b5) all0)
  have hs6 : ∀ x ∈ ([b5] : List Addr), Safe Z own_EL s.vm h5 x := (allS Sn5 all0)
  have CR6 := CR5.trans (CHr.keep kh6 hs6 CR5.1)
  have Sy6_b5 := Safe.keep kh6 hs6 CR5.1 Sn5
  obtain ⟨_, _, ⟨T7, L7, k7, n7⟩, -, Xr7, hSr7, hg7, ⟨Lc7, hQ7, l7, y7, z7, CL7⟩, st7⟩ := callSS X6 hx (y := (⟨"com/example/tsutsumi/tsutsumi/service/SchemaElements", "isBuiltInNamespace", "(Ljava/lang/String;)Z"⟩ : MethodName)) hown (mvT hZ (hw _ (List.mem_of_getElem? (i := 36) rfl))) (mvT hZ (hw _ (List.mem_of_getElem? (i := 37) rfl))) (mvT hZ (hw _ (List.mem_of_getElem? (i := 38) rfl))) (mvT hZ (hw _ (List.mem_of_getElem? (i := 39) rfl))) (by decide) (own_backSH (s := s) (vm0 := s.vm) (W := 0) (biL l Z a0 hw [] b5 t_6 kt_6 (own_V wh ps ch) cz T6.heap n0 O6 G0 Po6_0 Po6_2 Po6_1 Po6_3 hcs (own_V_l0 wh ps ch).2 (own_V_lo hlat)) hZ (hw _ (List.mem_of_getElem? (i := 39) rfl)) (hw _ (List.mem_of_getElem? (i := 38) rfl)) (by decide) (by decide) hEL CR6.1 all0) (g := (mkF m 110 #[.val (.int wh), .val (.int fl), .val (.int ps), .val (.int ch), .val (.int (own_k wh)), .val (.ref r_1), .val (.int (1 : Int32)), .val (.int (own_p ps wh)), .val (.int (own_c ch)), .val (.int ((own_U (own_k wh)).getD (own_p ps wh).toNatClampNeg 0)), .val (.int (0 : Int32)), .val (.ref b5), .val (.int (1 : Int32))] [(.ref b5)])) rfl (by rw [hml]; rfl) (argsL := [(.ref b5)]) (rest := []) (lenOf pd_11 rfl) rfl (by show 2 * 0 + _ ≤ _; exact Nat.le_of_eq rfl) (hb hby at_110) (fun _ _ => ⟨rfl, rfl, (by decide : 3 + 8 ≤ _), (by decide : 86 + 576 ≤ _)⟩)
  dsimp only [Pt.U, Pt.locs, Pt.cells, Pt.slots] at Xr7 l7 y7 z7 st7 hQ7 hSr7 hg7 CL7
  subst l7 y7 z7
  obtain ⟨X7, hS7, hZ, hown⟩ := rebS (s := s) (vm0 := s.vm) hS0 (own_hk rfl (Nat.le_trans (Nat.le_trans (Nat.le_trans (Nat.le_trans (Nat.zero_le _) kh1.1) (Keep.of_wr W4).1) E5.1) kh6.1)) Xr7 hSr7 hg7 hZ hown
  obtain ⟨rfl, Nq7, kh7⟩ := hQ7
  have N7 := Fr.app N6 Nq7
  have hZ7 := hZ
  have hown7 := hown
  have O7 := O6.keep kh7 all0
  have K7 : Keep h0 T7.heap [] := K6.trans kh7 all0
  have CR7 := CR6.trans CL7
  have Sy7_b5 := CL7.safe (Po6_0).lt Sy6_b5
  obtain ⟨fs, hr, hrun, hended, hRW⟩ := X7.leaveW (s := s) hS7 (own_hk rfl (Nat.le_refl _)) (v := some (.int (1 : Int32))) (fun h => by rw [Bd.returns] at h; cases h)
  have CE := CR7.trans (CHv.at (s := s) (vm0 := T7.vm) X7 hZ hEL CR7.1)
  refine ⟨_, _, pre0 _ ?_, hrun, hended, _, _, rfl, ?_, ?_, own_rw_mono hRW (by decide) (by decide)⟩
  · show Steps p.tables e below (s₁.setTop (mkF m 0 #[.val (.int wh), .val (.int fl), .val (.int ps), .val (.int ch), .unset, .unset, .unset, .unset, .unset, .unset, .unset, .unset, .unset] [])) _
    refine XS.iloadN X0.here hx rfl (hb hby at_0) rfl ?_
    show Steps p.tables e below (s₁.setTop (mkF m 1 #[.val (.int wh), .val (.int fl), .val (.int ps), .val (.int ch), .unset, .unset, .unset, .unset, .unset, .unset, .unset, .unset, .unset] [(.int wh)])) _
    refine XS.bipush X0.here hx rfl (hb hby at_1) ?_
    show Steps p.tables e below (s₁.setTop (mkF m 3 #[.val (.int wh), .val (.int fl), .val (.int ps), .val (.int ch), .unset, .unset, .unset, .unset, .unset, .unset, .unset, .unset, .unset] [(.int (7 : Int32)), (.int wh)])) _
    refine XS.iand X0.here hx rfl (hb hby at_3) rfl ?_
    show Steps p.tables e below (s₁.setTop (mkF m 4 #[.val (.int wh), .val (.int fl), .val (.int ps), .val (.int ch), .unset, .unset, .unset, .unset, .unset, .unset, .unset, .unset, .unset] [(.int (wh &&& (7 : Int32)))])) _
    refine castTop (congrArg (fun z_ => (mkF m 4 #[.val (.int wh), .val (.int fl), .val (.int ps), .val (.int ch), .unset, .unset, .unset, .unset, .unset, .unset, .unset, .unset, .unset] [(.int z_)])) (rfl : (wh &&& (7 : Int32)) = (own_k wh))) ?_
    show Steps p.tables e below (s₁.setTop (mkF m 4 #[.val (.int wh), .val (.int fl), .val (.int ps), .val (.int ch), .unset, .unset, .unset, .unset, .unset, .unset, .unset, .unset, .unset] [(.int (own_k wh))])) _
    refine XS.istore X0.here hx rfl (hb hby at_4) rfl (l' := #[.val (.int wh), .val (.int fl), .val (.int ps), .val (.int ch), .val (.int (own_k wh)), .unset, .unset, .unset, .unset, .unset, .unset, .unset, .unset]) rfl ?_
    show Steps p.tables e below (s₁.setTop (mkF m 6 #[.val (.int wh), .val (.int fl), .val (.int ps), .val (.int ch), .val (.int (own_k wh)), .unset, .unset, .unset, .unset, .unset, .unset, .unset, .unset] [])) _
    refine XS.iload X0.here hx rfl (hb hby at_6) rfl ?_
    show Steps p.tables e below (s₁.setTop (mkF m 8 #[.val (.int wh), .val (.int fl), .val (.int ps), .val (.int ch), .val (.int (own_k wh)), .unset, .unset, .unset, .unset, .unset, .unset, .unset, .unset] [(.int (own_k wh))])) _
    refine st1 _ ?_
    show Steps p.tables e below (T1.setTop (mkF m 11 #[.val (.int wh), .val (.int fl), .val (.int ps), .val (.int ch), .val (.int (own_k wh)), .unset, .unset, .unset, .unset, .unset, .unset, .unset, .unset] [(.ref r_1)])) _
    refine XS.astore X1.here hx rfl (hb hby at_11) rfl rfl (l' := #[.val (.int wh), .val (.int fl), .val (.int ps), .val (.int ch), .val (.int (own_k wh)), .val (.ref r_1), .unset, .unset, .unset, .unset, .unset, .unset, .unset]) rfl ?_
    show Steps p.tables e below (T1.setTop (mkF m 13 #[.val (.int wh), .val (.int fl), .val (.int ps), .val (.int ch), .val (.int (own_k wh)), .val (.ref r_1), .unset, .unset, .unset, .unset, .unset, .unset, .unset] [])) _
    refine XS.iloadN X1.here hx rfl (hb hby at_13) rfl ?_
    show Steps p.tables e below (T1.setTop (mkF m 14 #[.val (.int wh), .val (.int fl), .val (.int ps), .val (.int ch), .val (.int (own_k wh)), .val (.ref r_1), .unset, .unset, .unset, .unset, .unset, .unset, .unset] [(.int fl)])) _
    refine XS.iconst X1.here hx rfl (hb hby at_14) ?_
    show Steps p.tables e below (T1.setTop (mkF m 15 #[.val (.int wh), .val (.int fl), .val (.int ps), .val (.int ch), .val (.int (own_k wh)), .val (.ref r_1), .unset, .unset, .unset, .unset, .unset, .unset, .unset] [(.int (1 : Int32)), (.int fl)])) _
    refine XS.iand X1.here hx rfl (hb hby at_15) rfl ?_
    show Steps p.tables e below (T1.setTop (mkF m 16 #[.val (.int wh), .val (.int fl), .val (.int ps), .val (.int ch), .val (.int (own_k wh)), .val (.ref r_1), .unset, .unset, .unset, .unset, .unset, .unset, .unset] [(.int (fl &&& (1 : Int32)))])) _
    refine XS.ifNo X1.here hx rfl (hb hby at_16) rfl ((if0 _ _).trans (feq (hf : ¬ ((fl &&& (1 : Int32)) = (0 : Int32)))).1) ?_
    show Steps p.tables e below (T1.setTop (mkF m 19 #[.val (.int wh), .val (.int fl), .val (.int ps), .val (.int ch), .val (.int (own_k wh)), .val (.ref r_1), .unset, .unset, .unset, .unset, .unset, .unset, .unset] [])) _
    refine XS.iconst X1.here hx rfl (hb hby at_19) ?_
    show Steps p.tables e below (T1.setTop (mkF m 20 #[.val (.int wh), .val (.int fl), .val (.int ps), .val (.int ch), .val (.int (own_k wh)), .val (.ref r_1), .unset, .unset, .unset, .unset, .unset, .unset, .unset] [(.int (1 : Int32))])) _
    refine XS.goto X1.here hx rfl (pc0 := 20) (pc' := 24) rfl (hb hby at_20) (by decide) (by decide) ?_
    show Steps p.tables e below (T1.setTop (mkF m 24 #[.val (.int wh), .val (.int fl), .val (.int ps), .val (.int ch), .val (.int (own_k wh)), .val (.ref r_1), .unset, .unset, .unset, .unset, .unset, .unset, .unset] [(.int (1 : Int32))])) _
    refine XS.istore X1.here hx rfl (hb hby at_24) rfl (l' := #[.val (.int wh), .val (.int fl), .val (.int ps), .val (.int ch), .val (.int (own_k wh)), .val (.ref r_1), .val (.int (1 : Int32)), .unset, .unset, .unset, .unset, .unset, .unset]) rfl ?_
    show Steps p.tables e below (T1.setTop (mkF m 26 #[.val (.int wh), .val (.int fl), .val (.int ps), .val (.int ch), .val (.int (own_k wh)), .val (.ref r_1), .val (.int (1 : Int32)), .unset, .unset, .unset, .unset, .unset, .unset] [])) _
    refine XS.iloadN X1.here hx rfl (hb hby at_26) rfl ?_
    show Steps p.tables e below (T1.setTop (mkF m 27 #[.val (.int wh), .val (.int fl), .val (.int ps), .val (.int ch), .val (.int (own_k wh)), .val (.ref r_1), .val (.int (1 : Int32)), .unset, .unset, .unset, .unset, .unset, .unset] [(.int ps)])) _
    refine X1.ldcInt hx hown0 (mvT hZ0 (hw _ (List.mem_of_getElem? (i := 5) rfl))) (g := (mkF m 27 #[.val (.int wh), .val (.int fl), .val (.int ps), .val (.int ch), .val (.int (own_k wh)), .val (.ref r_1), .val (.int (1 : Int32)), .unset, .unset, .unset, .unset, .unset, .unset] [(.int ps)])) rfl (hb hby at_27) _ ?_
    show Steps p.tables e below (T1.setTop (mkF m 29 #[.val (.int wh), .val (.int fl), .val (.int ps), .val (.int ch), .val (.int (own_k wh)), .val (.ref r_1), .val (.int (1 : Int32)), .unset, .unset, .unset, .unset, .unset, .unset] [(.int (2147483647 : Int32)), (.int ps)])) _
    refine XS.iand X1.here hx rfl (hb hby at_29) rfl ?_
    show Steps p.tables e below (T1.setTop (mkF m 30 #[.val (.int wh), .val (.int fl), .val (.int ps), .val (.int ch), .val (.int (own_k wh)), .val (.ref r_1), .val (.int (1 : Int32)), .unset, .unset, .unset, .unset, .unset, .unset] [(.int (ps &&& (2147483647 : Int32)))])) _
    refine XS.aload X1.here hx rfl (hb hby at_30) rfl rfl ?_
    show Steps p.tables e below (T1.setTop (mkF m 32 #[.val (.int wh), .val (.int fl), .val (.int ps), .val (.int ch), .val (.int (own_k wh)), .val (.ref r_1), .val (.int (1 : Int32)), .unset, .unset, .unset, .unset, .unset, .unset] [(.ref r_1), (.int (ps &&& (2147483647 : Int32)))])) _
    refine X1.arraylength hx (Ar2.at_ rfl) (State.isArrayOf_alike hZ0.alike Ar2.2.1) (g := (mkF m 32 #[.val (.int wh), .val (.int fl), .val (.int ps), .val (.int ch), .val (.int (own_k wh)), .val (.ref r_1), .val (.int (1 : Int32)), .unset, .unset, .unset, .unset, .unset, .unset] [(.ref r_1), (.int (ps &&& (2147483647 : Int32)))])) rfl rfl (hb hby at_32) _ ?_
    rw [len_of Sz2 Ng2]
    show Steps p.tables e below (T1.setTop (mkF m 33 #[.val (.int wh), .val (.int fl), .val (.int ps), .val (.int ch), .val (.int (own_k wh)), .val (.ref r_1), .val (.int (1 : Int32)), .unset, .unset, .unset, .unset, .unset, .unset] [(.int (Int32.ofNat (own_U (own_k wh)).length)), (.int (ps &&& (2147483647 : Int32)))])) _
    refine iremM X1 hx rfl (hb hby at_33) rfl (own_ndz _) ?_
    show Steps p.tables e below (T1.setTop (mkF m 34 #[.val (.int wh), .val (.int fl), .val (.int ps), .val (.int ch), .val (.int (own_k wh)), .val (.ref r_1), .val (.int (1 : Int32)), .unset, .unset, .unset, .unset, .unset, .unset] [(.int ((ps &&& (2147483647 : Int32)) % (Int32.ofNat (own_U (own_k wh)).length)))])) _
    refine castTop (congrArg (fun z_ => (mkF m 34 #[.val (.int wh), .val (.int fl), .val (.int ps), .val (.int ch), .val (.int (own_k wh)), .val (.ref r_1), .val (.int (1 : Int32)), .unset, .unset, .unset, .unset, .unset, .unset] [(.int z_)])) (rfl : ((ps &&& (2147483647 : Int32)) % (Int32.ofNat (own_U (own_k wh)).length)) = (own_p ps wh))) ?_
    show Steps p.tables e below (T1.setTop (mkF m 34 #[.val (.int wh), .val (.int fl), .val (.int ps), .val (.int ch), .val (.int (own_k wh)), .val (.ref r_1), .val (.int (1 : Int32)), .unset, .unset, .unset, .unset, .unset, .unset] [(.int (own_p ps wh))])) _
    refine XS.istore X1.here hx rfl (hb hby at_34) rfl (l' := #[.val (.int wh), .val (.int fl), .val (.int ps), .val (.int ch), .val (.int (own_k wh)), .val (.ref r_1), .val (.int (1 : Int32)), .val (.int (own_p ps wh)), .unset, .unset, .unset, .unset, .unset]) rfl ?_
    show Steps p.tables e below (T1.setTop (mkF m 36 #[.val (.int wh), .val (.int fl), .val (.int ps), .val (.int ch), .val (.int (own_k wh)), .val (.ref r_1), .val (.int (1 : Int32)), .val (.int (own_p ps wh)), .unset, .unset, .unset, .unset, .unset] [])) _
    refine XS.iloadN X1.here hx rfl (hb hby at_36) rfl ?_
    show Steps p.tables e below (T1.setTop (mkF m 37 #[.val (.int wh), .val (.int fl), .val (.int ps), .val (.int ch), .val (.int (own_k wh)), .val (.ref r_1), .val (.int (1 : Int32)), .val (.int (own_p ps wh)), .unset, .unset, .unset, .unset, .unset] [(.int ch)])) _
    refine X1.ldcInt hx hown0 (mvT hZ0 (hw _ (List.mem_of_getElem? (i := 6) rfl))) (g := (mkF m 37 #[.val (.int wh), .val (.int fl), .val (.int ps), .val (.int ch), .val (.int (own_k wh)), .val (.ref r_1), .val (.int (1 : Int32)), .val (.int (own_p ps wh)), .unset, .unset, .unset, .unset, .unset] [(.int ch)])) rfl (hb hby at_37) _ ?_
    show Steps p.tables e below (T1.setTop (mkF m 39 #[.val (.int wh), .val (.int fl), .val (.int ps), .val (.int ch), .val (.int (own_k wh)), .val (.ref r_1), .val (.int (1 : Int32)), .val (.int (own_p ps wh)), .unset, .unset, .unset, .unset, .unset] [(.int (65535 : Int32)), (.int ch)])) _
    refine XS.iand X1.here hx rfl (hb hby at_39) rfl ?_
    show Steps p.tables e below (T1.setTop (mkF m 40 #[.val (.int wh), .val (.int fl), .val (.int ps), .val (.int ch), .val (.int (own_k wh)), .val (.ref r_1), .val (.int (1 : Int32)), .val (.int (own_p ps wh)), .unset, .unset, .unset, .unset, .unset] [(.int (ch &&& (65535 : Int32)))])) _
    refine XS.i2c X1.here hx rfl (hb hby at_40) rfl ?_
    show Steps p.tables e below (T1.setTop (mkF m 41 #[.val (.int wh), .val (.int fl), .val (.int ps), .val (.int ch), .val (.int (own_k wh)), .val (.ref r_1), .val (.int (1 : Int32)), .val (.int (own_p ps wh)), .unset, .unset, .unset, .unset, .unset] [(.int ((ch &&& (65535 : Int32)).toUInt32.toUInt16.toUInt32.toInt32))])) _
    refine castTop (congrArg (fun z_ => (mkF m 41 #[.val (.int wh), .val (.int fl), .val (.int ps), .val (.int ch), .val (.int (own_k wh)), .val (.ref r_1), .val (.int (1 : Int32)), .val (.int (own_p ps wh)), .unset, .unset, .unset, .unset, .unset] [(.int z_)])) (rfl : ((ch &&& (65535 : Int32)).toUInt32.toUInt16.toUInt32.toInt32) = (own_c ch))) ?_
    show Steps p.tables e below (T1.setTop (mkF m 41 #[.val (.int wh), .val (.int fl), .val (.int ps), .val (.int ch), .val (.int (own_k wh)), .val (.ref r_1), .val (.int (1 : Int32)), .val (.int (own_p ps wh)), .unset, .unset, .unset, .unset, .unset] [(.int (own_c ch))])) _
    refine XS.istore X1.here hx rfl (hb hby at_41) rfl (l' := #[.val (.int wh), .val (.int fl), .val (.int ps), .val (.int ch), .val (.int (own_k wh)), .val (.ref r_1), .val (.int (1 : Int32)), .val (.int (own_p ps wh)), .val (.int (own_c ch)), .unset, .unset, .unset, .unset]) rfl ?_
    show Steps p.tables e below (T1.setTop (mkF m 43 #[.val (.int wh), .val (.int fl), .val (.int ps), .val (.int ch), .val (.int (own_k wh)), .val (.ref r_1), .val (.int (1 : Int32)), .val (.int (own_p ps wh)), .val (.int (own_c ch)), .unset, .unset, .unset, .unset] [])) _
    refine XS.aload X1.here hx rfl (hb hby at_43) rfl rfl ?_
    show Steps p.tables e below (T1.setTop (mkF m 45 #[.val (.int wh), .val (.int fl), .val (.int ps), .val (.int ch), .val (.int (own_k wh)), .val (.ref r_1), .val (.int (1 : Int32)), .val (.int (own_p ps wh)), .val (.int (own_c ch)), .unset, .unset, .unset, .unset] [(.ref r_1)])) _
    refine XS.iload X1.here hx rfl (hb hby at_45) rfl ?_
    show Steps p.tables e below (T1.setTop (mkF m 47 #[.val (.int wh), .val (.int fl), .val (.int ps), .val (.int ch), .val (.int (own_k wh)), .val (.ref r_1), .val (.int (1 : Int32)), .val (.int (own_p ps wh)), .val (.int (own_c ch)), .unset, .unset, .unset, .unset] [(.int (own_p ps wh)), (.ref r_1)])) _
    refine X1.caload hx (j := (own_p ps wh)) (v := (.int ((own_U (own_k wh)).getD (own_p ps wh).toNatClampNeg 0))) (Ar3.at_ rfl) (State.isArrayOf_alike hZ0.alike Ar3.2.1) Ar3.2.2 hin3 hat3 (g := (mkF m 47 #[.val (.int wh), .val (.int fl), .val (.int ps), .val (.int ch), .val (.int (own_k wh)), .val (.ref r_1), .val (.int (1 : Int32)), .val (.int (own_p ps wh)), .val (.int (own_c ch)), .unset, .unset, .unset, .unset] [(.int (own_p ps wh)), (.ref r_1)])) rfl rfl (hb hby at_47) _ ?_
    show Steps p.tables e below (T1.setTop (mkF m 48 #[.val (.int wh), .val (.int fl), .val (.int ps), .val (.int ch), .val (.int (own_k wh)), .val (.ref r_1), .val (.int (1 : Int32)), .val (.int (own_p ps wh)), .val (.int (own_c ch)), .unset, .unset, .unset, .unset] [(.int ((own_U (own_k wh)).getD (own_p ps wh).toNatClampNeg 0))])) _
    refine XS.istore X1.here hx rfl (hb hby at_48) rfl (l' := #[.val (.int wh), .val (.int fl), .val (.int ps), .val (.int ch), .val (.int (own_k wh)), .val (.ref r_1), .val (.int (1 : Int32)), .val (.int (own_p ps wh)), .val (.int (own_c ch)), .val (.int ((own_U (own_k wh)).getD (own_p ps wh).toNatClampNeg 0)), .unset, .unset, .unset]) rfl ?_
    show Steps p.tables e below (T1.setTop (mkF m 50 #[.val (.int wh), .val (.int fl), .val (.int ps), .val (.int ch), .val (.int (own_k wh)), .val (.ref r_1), .val (.int (1 : Int32)), .val (.int (own_p ps wh)), .val (.int (own_c ch)), .val (.int ((own_U (own_k wh)).getD (own_p ps wh).toNatClampNeg 0)), .unset, .unset, .unset] [])) _
    refine XS.iconst X1.here hx rfl (hb hby at_50) ?_
    show Steps p.tables e below (T1.setTop (mkF m 51 #[.val (.int wh), .val (.int fl), .val (.int ps), .val (.int ch), .val (.int (own_k wh)), .val (.ref r_1), .val (.int (1 : Int32)), .val (.int (own_p ps wh)), .val (.int (own_c ch)), .val (.int ((own_U (own_k wh)).getD (own_p ps wh).toNatClampNeg 0)), .unset, .unset, .unset] [(.int (0 : Int32))])) _
    refine XS.istore X1.here hx rfl (hb hby at_51) rfl (l' := #[.val (.int wh), .val (.int fl), .val (.int ps), .val (.int ch), .val (.int (own_k wh)), .val (.ref r_1), .val (.int (1 : Int32)), .val (.int (own_p ps wh)), .val (.int (own_c ch)), .val (.int ((own_U (own_k wh)).getD (own_p ps wh).toNatClampNeg 0)), .val (.int (0 : Int32)), .unset, .unset]) rfl ?_
    show Steps p.tables e below (T1.setTop (mkF m 53 #[.val (.int wh), .val (.int fl), .val (.int ps), .val (.int ch), .val (.int (own_k wh)), .val (.ref r_1), .val (.int (1 : Int32)), .val (.int (own_p ps wh)), .val (.int (own_c ch)), .val (.int ((own_U (own_k wh)).getD (own_p ps wh).toNatClampNeg 0)), .val (.int (0 : Int32)), .unset, .unset] [])) _
    refine XS.iload X1.here hx rfl (hb hby at_53) rfl ?_
    show Steps p.tables e below (T1.setTop (mkF m 55 #[.val (.int wh), .val (.int fl), .val (.int ps), .val (.int ch), .val (.int (own_k wh)), .val (.ref r_1), .val (.int (1 : Int32)), .val (.int (own_p ps wh)), .val (.int (own_c ch)), .val (.int ((own_U (own_k wh)).getD (own_p ps wh).toNatClampNeg 0)), .val (.int (0 : Int32)), .unset, .unset] [(.int (1 : Int32))])) _
    refine XS.ifNo X1.here hx rfl (hb hby at_55) rfl ((if0 _ _).trans (feq (by decide : ¬ ((1 : Int32) = (0 : Int32)))).1) ?_
    show Steps p.tables e below (T1.setTop (mkF m 58 #[.val (.int wh), .val (.int fl), .val (.int ps), .val (.int ch), .val (.int (own_k wh)), .val (.ref r_1), .val (.int (1 : Int32)), .val (.int (own_p ps wh)), .val (.int (own_c ch)), .val (.int ((own_U (own_k wh)).getD (own_p ps wh).toNatClampNeg 0)), .val (.int (0 : Int32)), .unset, .unset] [])) _
    refine XS.aload X1.here hx rfl (hb hby at_58) rfl rfl ?_
    show Steps p.tables e below (T1.setTop (mkF m 60 #[.val (.int wh), .val (.int fl), .val (.int ps), .val (.int ch), .val (.int (own_k wh)), .val (.ref r_1), .val (.int (1 : Int32)), .val (.int (own_p ps wh)), .val (.int (own_c ch)), .val (.int ((own_U (own_k wh)).getD (own_p ps wh).toNatClampNeg 0)), .val (.int (0 : Int32)), .unset, .unset] [(.ref r_1)])) _
    refine XS.iload X1.here hx rfl (hb hby at_60) rfl ?_
    show Steps p.tables e below (T1.setTop (mkF m 62 #[.val (.int wh), .val (.int fl), .val (.int ps), .val (.int ch), .val (.int (own_k wh)), .val (.ref r_1), .val (.int (1 : Int32)), .val (.int (own_p ps wh)), .val (.int (own_c ch)), .val (.int ((own_U (own_k wh)).getD (own_p ps wh).toNatClampNeg 0)), .val (.int (0 : Int32)), .unset, .unset] [(.int (own_p ps wh)), (.ref r_1)])) _
    refine XS.iload X1.here hx rfl (hb hby at_62) rfl ?_
    show Steps p.tables e below (T1.setTop (mkF m 64 #[.val (.int wh), .val (.int fl), .val (.int ps), .val (.int ch), .val (.int (own_k wh)), .val (.ref r_1), .val (.int (1 : Int32)), .val (.int (own_p ps wh)), .val (.int (own_c ch)), .val (.int ((own_U (own_k wh)).getD (own_p ps wh).toNatClampNeg 0)), .val (.int (0 : Int32)), .unset, .unset] [(.int (own_c ch)), (.int (own_p ps wh)), (.ref r_1)])) _
    refine st4 _ ?_
    show Steps p.tables e below (T4.setTop (mkF m 65 #[.val (.int wh), .val (.int fl), .val (.int ps), .val (.int ch), .val (.int (own_k wh)), .val (.ref r_1), .val (.int (1 : Int32)), .val (.int (own_p ps wh)), .val (.int (own_c ch)), .val (.int ((own_U (own_k wh)).getD (own_p ps wh).toNatClampNeg 0)), .val (.int (0 : Int32)), .unset, .unset] [])) _
    refine XS.iload X4.here hx rfl (hb hby at_65) rfl ?_
    show Steps p.tables e below (T4.setTop (mkF m 67 #[.val (.int wh), .val (.int fl), .val (.int ps), .val (.int ch), .val (.int (own_k wh)), .val (.ref r_1), .val (.int (1 : Int32)), .val (.int (own_p ps wh)), .val (.int (own_c ch)), .val (.int ((own_U (own_k wh)).getD (own_p ps wh).toNatClampNeg 0)), .val (.int (0 : Int32)), .unset, .unset] [(.int ((own_U (own_k wh)).getD (own_p ps wh).toNatClampNeg 0))])) _
    refine XS.iload X4.here hx rfl (hb hby at_67) rfl ?_
    show Steps p.tables e below (T4.setTop (mkF m 69 #[.val (.int wh), .val (.int fl), .val (.int ps), .val (.int ch), .val (.int (own_k wh)), .val (.ref r_1), .val (.int (1 : Int32)), .val (.int (own_p ps wh)), .val (.int (own_c ch)), .val (.int ((own_U (own_k wh)).getD (own_p ps wh).toNatClampNeg 0)), .val (.int (0 : Int32)), .unset, .unset] [(.int (own_c ch)), (.int ((own_U (own_k wh)).getD (own_p ps wh).toNatClampNeg 0))])) _
    refine XS.icmpYes X4.here hx rfl (pc0 := 69) (pc' := 76) rfl (hb hby at_69) rfl (teq (hch : ((own_U (own_k wh)).getD (own_p ps wh).toNatClampNeg 0) = (own_c ch))).1 (by decide) (by decide) ?_
    show Steps p.tables e below (T4.setTop (mkF m 76 #[.val (.int wh), .val (.int fl), .val (.int ps), .val (.int ch), .val (.int (own_k wh)), .val (.ref r_1), .val (.int (1 : Int32)), .val (.int (own_p ps wh)), .val (.int (own_c ch)), .val (.int ((own_U (own_k wh)).getD (own_p ps wh).toNatClampNeg 0)), .val (.int (0 : Int32)), .unset, .unset] [])) _
    refine XS.iconst X4.here hx rfl (hb hby at_76) ?_
    show Steps p.tables e below (T4.setTop (mkF m 77 #[.val (.int wh), .val (.int fl), .val (.int ps), .val (.int ch), .val (.int (own_k wh)), .val (.ref r_1), .val (.int (1 : Int32)), .val (.int (own_p ps wh)), .val (.int (own_c ch)), .val (.int ((own_U (own_k wh)).getD (own_p ps wh).toNatClampNeg 0)), .val (.int (0 : Int32)), .unset, .unset] [(.int (0 : Int32))])) _
    refine XS.istore X4.here hx rfl (hb hby at_77) rfl (l' := #[.val (.int wh), .val (.int fl), .val (.int ps), .val (.int ch), .val (.int (own_k wh)), .val (.ref r_1), .val (.int (1 : Int32)), .val (.int (own_p ps wh)), .val (.int (own_c ch)), .val (.int ((own_U (own_k wh)).getD (own_p ps wh).toNatClampNeg 0)), .val (.int (0 : Int32)), .unset, .unset]) rfl ?_
    show Steps p.tables e below (T4.setTop (mkF m 79 #[.val (.int wh), .val (.int fl), .val (.int ps), .val (.int ch), .val (.int (own_k wh)), .val (.ref r_1), .val (.int (1 : Int32)), .val (.int (own_p ps wh)), .val (.int (own_c ch)), .val (.int ((own_U (own_k wh)).getD (own_p ps wh).toNatClampNeg 0)), .val (.int (0 : Int32)), .unset, .unset] [])) _
    refine st5 _ ?_
    show Steps p.tables e below (T5.setTop (mkF m 82 #[.val (.int wh), .val (.int fl), .val (.int ps), .val (.int ch), .val (.int (own_k wh)), .val (.ref r_1), .val (.int (1 : Int32)), .val (.int (own_p ps wh)), .val (.int (own_c ch)), .val (.int ((own_U (own_k wh)).getD (own_p ps wh).toNatClampNeg 0)), .val (.int (0 : Int32)), .unset, .unset] [(.ref b5)])) _
    refine XS.dup X5.here hx rfl (hb hby at_82) rfl rfl ?_
    show Steps p.tables e below (T5.setTop (mkF m 83 #[.val (.int wh), .val (.int fl), .val (.int ps), .val (.int ch), .val (.int (own_k wh)), .val (.ref r_1), .val (.int (1 : Int32)), .val (.int (own_p ps wh)), .val (.int (own_c ch)), .val (.int ((own_U (own_k wh)).getD (own_p ps wh).toNatClampNeg 0)), .val (.int (0 : Int32)), .unset, .unset] [(.ref b5), (.ref b5)])) _
    refine XS.aload X5.here hx rfl (hb hby at_83) rfl rfl ?_
    show Steps p.tables e below (T5.setTop (mkF m 85 #[.val (.int wh), .val (.int fl), .val (.int ps), .val (.int ch), .val (.int (own_k wh)), .val (.ref r_1), .val (.int (1 : Int32)), .val (.int (own_p ps wh)), .val (.int (own_c ch)), .val (.int ((own_U (own_k wh)).getD (own_p ps wh).toNatClampNeg 0)), .val (.int (0 : Int32)), .unset, .unset] [(.ref r_1), (.ref b5), (.ref b5)])) _
    refine st6.trans ?_
    show Steps p.tables e below (T6.setTop (mkF m 88 #[.val (.int wh), .val (.int fl), .val (.int ps), .val (.int ch), .val (.int (own_k wh)), .val (.ref r_1), .val (.int (1 : Int32)), .val (.int (own_p ps wh)), .val (.int (own_c ch)), .val (.int ((own_U (own_k wh)).getD (own_p ps wh).toNatClampNeg 0)), .val (.int (0 : Int32)), .unset, .unset] [(.ref b5)])) _
    refine XS.astore X6.here hx rfl (hb hby at_88) rfl rfl (l' := #[.val (.int wh), .val (.int fl), .val (.int ps), .val (.int ch), .val (.int (own_k wh)), .val (.ref r_1), .val (.int (1 : Int32)), .val (.int (own_p ps wh)), .val (.int (own_c ch)), .val (.int ((own_U (own_k wh)).getD (own_p ps wh).toNatClampNeg 0)), .val (.int (0 : Int32)), .val (.ref b5), .unset]) rfl ?_
    show Steps p.tables e below (T6.setTop (mkF m 90 #[.val (.int wh), .val (.int fl), .val (.int ps), .val (.int ch), .val (.int (own_k wh)), .val (.ref r_1), .val (.int (1 : Int32)), .val (.int (own_p ps wh)), .val (.int (own_c ch)), .val (.int ((own_U (own_k wh)).getD (own_p ps wh).toNatClampNeg 0)), .val (.int (0 : Int32)), .val (.ref b5), .unset] [])) _
    refine XS.iload X6.here hx rfl (hb hby at_90) rfl ?_
    show Steps p.tables e below (T6.setTop (mkF m 92 #[.val (.int wh), .val (.int fl), .val (.int ps), .val (.int ch), .val (.int (own_k wh)), .val (.ref r_1), .val (.int (1 : Int32)), .val (.int (own_p ps wh)), .val (.int (own_c ch)), .val (.int ((own_U (own_k wh)).getD (own_p ps wh).toNatClampNeg 0)), .val (.int (0 : Int32)), .val (.ref b5), .unset] [(.int (own_k wh))])) _
    refine XS.iconst X6.here hx rfl (hb hby at_92) ?_
    show Steps p.tables e below (T6.setTop (mkF m 93 #[.val (.int wh), .val (.int fl), .val (.int ps), .val (.int ch), .val (.int (own_k wh)), .val (.ref r_1), .val (.int (1 : Int32)), .val (.int (own_p ps wh)), .val (.int (own_c ch)), .val (.int ((own_U (own_k wh)).getD (own_p ps wh).toNatClampNeg 0)), .val (.int (0 : Int32)), .val (.ref b5), .unset] [(.int (4 : Int32)), (.int (own_k wh))])) _
    refine XS.icmpNo X6.here hx rfl (hb hby at_93) rfl (tlt (hk4 : (own_k wh) < (4 : Int32))).2.1 ?_
    show Steps p.tables e below (T6.setTop (mkF m 96 #[.val (.int wh), .val (.int fl), .val (.int ps), .val (.int ch), .val (.int (own_k wh)), .val (.ref r_1), .val (.int (1 : Int32)), .val (.int (own_p ps wh)), .val (.int (own_c ch)), .val (.int ((own_U (own_k wh)).getD (own_p ps wh).toNatClampNeg 0)), .val (.int (0 : Int32)), .val (.ref b5), .unset] [])) _
    refine XS.iload X6.here hx rfl (hb hby at_96) rfl ?_
    show Steps p.tables e below (T6.setTop (mkF m 98 #[.val (.int wh), .val (.int fl), .val (.int ps), .val (.int ch), .val (.int (own_k wh)), .val (.ref r_1), .val (.int (1 : Int32)), .val (.int (own_p ps wh)), .val (.int (own_c ch)), .val (.int ((own_U (own_k wh)).getD (own_p ps wh).toNatClampNeg 0)), .val (.int (0 : Int32)), .val (.ref b5), .unset] [(.int (0 : Int32))])) _
    refine XS.ifNo X6.here hx rfl (hb hby at_98) rfl ((if0 _ _).trans (teq (by decide : (0 : Int32) = (0 : Int32))).2) ?_
    show Steps p.tables e below (T6.setTop (mkF m 101 #[.val (.int wh), .val (.int fl), .val (.int ps), .val (.int ch), .val (.int (own_k wh)), .val (.ref r_1), .val (.int (1 : Int32)), .val (.int (own_p ps wh)), .val (.int (own_c ch)), .val (.int ((own_U (own_k wh)).getD (own_p ps wh).toNatClampNeg 0)), .val (.int (0 : Int32)), .val (.ref b5), .unset] [])) _
    refine XS.iconst X6.here hx rfl (hb hby at_101) ?_
    show Steps p.tables e below (T6.setTop (mkF m 102 #[.val (.int wh), .val (.int fl), .val (.int ps), .val (.int ch), .val (.int (own_k wh)), .val (.ref r_1), .val (.int (1 : Int32)), .val (.int (own_p ps wh)), .val (.int (own_c ch)), .val (.int ((own_U (own_k wh)).getD (own_p ps wh).toNatClampNeg 0)), .val (.int (0 : Int32)), .val (.ref b5), .unset] [(.int (1 : Int32))])) _
    refine XS.goto X6.here hx rfl (pc0 := 102) (pc' := 106) rfl (hb hby at_102) (by decide) (by decide) ?_
    show Steps p.tables e below (T6.setTop (mkF m 106 #[.val (.int wh), .val (.int fl), .val (.int ps), .val (.int ch), .val (.int (own_k wh)), .val (.ref r_1), .val (.int (1 : Int32)), .val (.int (own_p ps wh)), .val (.int (own_c ch)), .val (.int ((own_U (own_k wh)).getD (own_p ps wh).toNatClampNeg 0)), .val (.int (0 : Int32)), .val (.ref b5), .unset] [(.int (1 : Int32))])) _
    refine XS.istore X6.here hx rfl (hb hby at_106) rfl (l' := #[.val (.int wh), .val (.int fl), .val (.int ps), .val (.int ch), .val (.int (own_k wh)), .val (.ref r_1), .val (.int (1 : Int32)), .val (.int (own_p ps wh)), .val (.int (own_c ch)), .val (.int ((own_U (own_k wh)).getD (own_p ps wh).toNatClampNeg 0)), .val (.int (0 : Int32)), .val (.ref b5), .val (.int (1 : Int32))]) rfl ?_
    show Steps p.tables e below (T6.setTop (mkF m 108 #[.val (.int wh), .val (.int fl), .val (.int ps), .val (.int ch), .val (.int (own_k wh)), .val (.ref r_1), .val (.int (1 : Int32)), .val (.int (own_p ps wh)), .val (.int (own_c ch)), .val (.int ((own_U (own_k wh)).getD (own_p ps wh).toNatClampNeg 0)), .val (.int (0 : Int32)), .val (.ref b5), .val (.int (1 : Int32))] [])) _
    refine XS.aload X6.here hx rfl (hb hby at_108) rfl rfl ?_
    show Steps p.tables e below (T6.setTop (mkF m 110 #[.val (.int wh), .val (.int fl), .val (.int ps), .val (.int ch), .val (.int (own_k wh)), .val (.ref r_1), .val (.int (1 : Int32)), .val (.int (own_p ps wh)), .val (.int (own_c ch)), .val (.int ((own_U (own_k wh)).getD (own_p ps wh).toNatClampNeg 0)), .val (.int (0 : Int32)), .val (.ref b5), .val (.int (1 : Int32))] [(.ref b5)])) _
    refine st7.trans ?_
    show Steps p.tables e below (T7.setTop (mkF m 113 #[.val (.int wh), .val (.int fl), .val (.int ps), .val (.int ch), .val (.int (own_k wh)), .val (.ref r_1), .val (.int (1 : Int32)), .val (.int (own_p ps wh)), .val (.int (own_c ch)), .val (.int ((own_U (own_k wh)).getD (own_p ps wh).toNatClampNeg 0)), .val (.int (0 : Int32)), .val (.ref b5), .val (.int (1 : Int32))] [(.int (own_bi (own_V wh ps ch)))])) _
    refine castTop (congrArg (fun z_ => (mkF m 113 #[.val (.int wh), .val (.int fl), .val (.int ps), .val (.int ch), .val (.int (own_k wh)), .val (.ref r_1), .val (.int (1 : Int32)), .val (.int (own_p ps wh)), .val (.int (own_c ch)), .val (.int ((own_U (own_k wh)).getD (own_p ps wh).toNatClampNeg 0)), .val (.int (0 : Int32)), .val (.ref b5), .val (.int (1 : Int32))] [(.int z_)])) ((congrArg own_bi (own_V_same hch)).trans (own_bi_lt wh hk4) : (own_bi (own_V wh ps ch)) = (1 : Int32))) ?_
    show Steps p.tables e below (T7.setTop (mkF m 113 #[.val (.int wh), .val (.int fl), .val (.int ps), .val (.int ch), .val (.int (own_k wh)), .val (.ref r_1), .val (.int (1 : Int32)), .val (.int (own_p ps wh)), .val (.int (own_c ch)), .val (.int ((own_U (own_k wh)).getD (own_p ps wh).toNatClampNeg 0)), .val (.int (0 : Int32)), .val (.ref b5), .val (.int (1 : Int32))] [(.int (1 : Int32))])) _
    refine XS.iload X7.here hx rfl (hb hby at_113) rfl ?_
    show Steps p.tables e below (T7.setTop (mkF m 115 #[.val (.int wh), .val (.int fl), .val (.int ps), .val (.int ch), .val (.int (own_k wh)), .val (.ref r_1), .val (.int (1 : Int32)), .val (.int (own_p ps wh)), .val (.int (own_c ch)), .val (.int ((own_U (own_k wh)).getD (own_p ps wh).toNatClampNeg 0)), .val (.int (0 : Int32)), .val (.ref b5), .val (.int (1 : Int32))] [(.int (1 : Int32)), (.int (1 : Int32))])) _
    refine XS.icmpNo X7.here hx rfl (hb hby at_115) rfl (teq (by decide : (1 : Int32) = (1 : Int32))).2 ?_
    show Steps p.tables e below (T7.setTop (mkF m 118 #[.val (.int wh), .val (.int fl), .val (.int ps), .val (.int ch), .val (.int (own_k wh)), .val (.ref r_1), .val (.int (1 : Int32)), .val (.int (own_p ps wh)), .val (.int (own_c ch)), .val (.int ((own_U (own_k wh)).getD (own_p ps wh).toNatClampNeg 0)), .val (.int (0 : Int32)), .val (.ref b5), .val (.int (1 : Int32))] [])) _
    refine XS.iconst X7.here hx rfl (hb hby at_118) ?_
    show Steps p.tables e below (T7.setTop (mkF m 119 #[.val (.int wh), .val (.int fl), .val (.int ps), .val (.int ch), .val (.int (own_k wh)), .val (.ref r_1), .val (.int (1 : Int32)), .val (.int (own_p ps wh)), .val (.int (own_c ch)), .val (.int ((own_U (own_k wh)).getD (own_p ps wh).toNatClampNeg 0)), .val (.int (0 : Int32)), .val (.ref b5), .val (.int (1 : Int32))] [(.int (1 : Int32))])) _
    refine XS.goto X7.here hx rfl (pc0 := 119) (pc' := 123) rfl (hb hby at_119) (by decide) (by decide) ?_
    show Steps p.tables e below (T7.setTop (mkF m 123 #[.val (.int wh), .val (.int fl), .val (.int ps), .val (.int ch), .val (.int (own_k wh)), .val (.ref r_1), .val (.int (1 : Int32)), .val (.int (own_p ps wh)), .val (.int (own_c ch)), .val (.int ((own_U (own_k wh)).getD (own_p ps wh).toNatClampNeg 0)), .val (.int (0 : Int32)), .val (.ref b5), .val (.int (1 : Int32))] [(.int (1 : Int32))])) _
    exact retN X7 hx (t := .boolean) Bd.returns (by simp) (hb hby at_123) hr
  · show Q_law Z wh fl ps ch cz h0 n0 _ T7.heap _
    exact ⟨rfl, N7⟩
  · show CHr Z own_EL s.vm s.heap T7.vm T7.heap
    rw [hh]; exact CE
set_option maxRecDepth 65536 in
set_option maxHeartbeats 40000000 in
theorem law_C1 (l : Launch) (Z : State) (a0 : Array Value) (hw : ∀ d ∈ tables_1, d.before a0 Z = true) (ws : List Jvm.Cond) (wh : Int32) (fl : Int32) (ps : Int32) (ch : Int32) (cz : Int32) (h0 : Heap) (n0 : Nat) (O0 : Old Z n0 h0) (G0 : Sta Z Z.heap "java/lang/String" "COMPACT_STRINGS" "Z" (.int cz)) (G1 : Sta Z Z.heap "java/lang/StringUTF16" "$assertionsDisabled" "Z" (.int (1 : Int32))) (G2 : Sta Z Z.heap "java/lang/StringUTF16" "HI_BYTE_SHIFT" "I" (.int (0 : Int32))) (G3 : Sta Z Z.heap "java/lang/StringUTF16" "LO_BYTE_SHIFT" "I" (.int (8 : Int32))) (hcs : ¬ (cz = (0 : Int32))) (hf : ¬ ((fl &&& (1 : Int32)) = (0 : Int32))) (hch : ¬ (((own_U (own_k wh)).getD (own_p ps wh).toNatClampNeg 0) = (own_c ch))) (hlat : ¬ ((255 : Int32) < (own_c ch))) (hk4 : (own_k wh) < (4 : Int32)) :
    MetFree l x (head1 (Jvm.Cond.code x code maxLocals ret :: ws) room_1) (fun zA zU => zA = #[(.int wh), (.int fl), (.int ps), (.int ch)] ∧ Z.Warmed39 zU.vm ∧ zU.heap = h0 ∧ CHv Z own_EL zU.vm h0 ∧ ∀ x ∈ ([] : List Addr), Safe Z own_EL zU.vm h0 x) (fun _ _ _ _ _ => True) (fun _ zU zo zU' => ∃ zv zL, zo = .returned zv ∧ Q_law Z wh fl ps ch cz h0 n0 zv zU'.heap zL ∧ CHr Z own_EL zU.vm zU.heap zU'.vm zU'.heap ∧ ReturnedEndW zU zo zU' zL room_1.cells room_1.slots) := by
  refine MetFree.of_bodySF (plainFor_of_name pn_17) hisR ?_
  intro p e s m args below meth c s₁ Bd hml0 hP hK
  obtain ⟨rfl, hZ, hh, HC, HS⟩ := hP
  have hx := Bd.exec
  have hby := Bd.bytes
  have hml : c.maxLocals = 13 := hml0
  have hown : s.vm.findClass "com/example/tsutsumi/tsutsumi/service/SchemaElementsIsBuiltInNamespacePinLaw" = some m.cls := findClass_of_methodNamed Bd.named
  have hnm := (name_of_methodNamed Bd.named Bd.method).1
  have X0 : Stand p l e room_1 (s.setVm s.vm) m #[(.int wh), (.int fl), (.int ps), (.int ch)] below meth c s₁ [] 0 0 := Stand.of_body Bd
  have e0 : s₁.heap = h0 := by rw [← hh, Bd.state]; rfl
  have N0 := Fr.nil n0
  have Z0 : n0 ≤ h0.size := O0.1 ▸ O0.2.1
  have pre0 : ∀ zt, Steps p.tables e below (s₁.setTop (mkF m 0 #[.val (.int wh), .val (.int fl), .val (.int ps), .val (.int ch), .unset, .unset, .unset, .unset, .unset, .unset, .unset, .unset, .unset] [])) zt → Steps p.tables e below (s₁.setTop (entryFrame m #[(.int wh), (.int fl), (.int ps), (.int ch)] maxLocals)) zt := fun zt zk => castTop (ef_0_IIII m wh fl ps ch) zk
  have hEL := own_EW hw
  have wS := own_wS hw
  have hS0 : s.Since s.vm 0 := (State.WarmedH.refl s).since 0
  have CR0 : CHr Z own_EL s.vm h0 s.vm h0 := CHr.refl HC
  have hZ0 := hZ
  have hown0 := hown
  obtain ⟨_, _, ⟨T1, L1, k1, n1⟩, -, X1, ⟨Lc1, hQ1, l1, y1, z1⟩, st1⟩ := Jvm.LawKit.callS X0 hx (y := (⟨"com/example/tsutsumi/tsutsumi/service/SchemaElementsIsBuiltInNamespacePinLaw", "uriChars", "(I)[C"⟩ : MethodName)) hown (mvT hZ (hw _ (List.mem_of_getElem? (i := 0) rfl))) (mvT hZ (hw _ (List.mem_of_getElem? (i := 1) rfl))) (mvT hZ (hw _ (List.mem_of_getElem? (i := 2) rfl))) (mvT hZ (hw _ (List.mem_of_getElem? (i := 3) rfl))) (by decide) (backOf (W := 0) (uri l Z a0 hw [] (own_k wh) h0 n0 (Nat.le_trans Z0 (Keep.refl h0 []).1) ) hZ (hw _ (List.mem_of_getElem? (i := 3) rfl)) (hw _ (List.mem_of_getElem? (i := 2) rfl)) (by decide) (by decide)) (g := (mkF m 8 #[.val (.int wh), .val (.int fl), .val (.int ps), .val (.int ch), .val (.int (own_k wh)), .unset, .unset, .unset, .unset, .unset, .unset, .unset, .unset] [(.int (own_k wh))])) rfl (by rw [hml]; rfl) (argsL := [(.int (own_k wh))]) (rest := []) (lenOf pd_9 rfl) rfl (by show 2 * 0 + _ ≤ _; exact Nat.le_of_eq rfl) (hb hby at_8) (fun _ _ => ⟨rfl, e0, (by decide : 0 + 1 ≤ _), (by decide : 0 + 41 ≤ _)⟩)
  dsimp only [Pt.U, Pt.locs, Pt.cells, Pt.slots] at X1 l1 y1 z1 st1 hQ1
  subst l1 y1 z1
  obtain ⟨r_1, kr_1, rfl, Nq1, kh1, fz_r_1, Po1_0⟩ := hQ1
  have N1 := Fr.app N0 Nq1
  have sz_r_1 : h0.size ≤ r_1 := Nat.le_trans (Keep.refl h0 []).1 fz_r_1
  have g_r_1 : n0 ≤ r_1 := Nat.le_trans Z0 sz_r_1
  have O1 := O0.keep kh1 all0
  have K1 : Keep h0 T1.heap [] := (Keep.refl h0 []).trans kh1 all0
  have hs1 : ∀ x ∈ ([] : List Addr), Safe Z own_EL s.vm h0 x := all0
  have CR1 := CR0.trans (CHr.keep kh1 hs1 CR0.1)
  obtain ⟨cl2, Ar2, -, Sz2, Ng2, -⟩ := (id Po1_0)
  obtain ⟨cl3, Ar3, q3, Sz3, Ng3, Hs3, Gs3⟩ := (id Po1_0)
  have hin3 : ¬ ((own_p ps wh) < 0 ∨ cl3.slots.size ≤ ((own_p ps wh)).toNatClampNeg) := inb_of Sz3 (own_pb ps wh)
  have hat3 : cl3.slots[((own_p ps wh)).toNatClampNeg]? = some (.int ((own_U (own_k wh)).getD (own_p ps wh).toNatClampNeg 0)) := Has.at Hs3 hin3 (own_gdp (own_pl ps wh))
  obtain ⟨cl4, Ar4, q4, Sz4, Ng4, Hs4, Gs4⟩ := (id Po1_0)
  have hin4 : ¬ ((own_p ps wh) < 0 ∨ cl4.slots.size ≤ ((own_p ps wh)).toNatClampNeg) := inb_of Sz4 (own_pb ps wh)
  obtain ⟨T4, h4, X4, e4, W4, st4⟩ := stC X1 hx hZ rfl Ar4 (j := (own_p ps wh)) hin4 (g := (mkF m 64 #[.val (.int wh), .val (.int fl), .val (.int ps), .val (.int ch), .val (.int (own_k wh)), .val (.ref r_1), .val (.int (1 : Int32)), .val (.int (own_p ps wh)), .val (.int (own_c ch)), .val (.int ((own_U (own_k wh)).getD (own_p ps wh).toNatClampNeg 0)), .val (.int (0 : Int32)), .unset, .unset] [(.int (own_c ch)), (.int (own_p ps wh)), (.ref r_1)])) rfl rfl (hb hby at_64)
  have Va4 := Arv.set Ar4 q4 Sz4 Ng4 Hs4 Gs4 (fits_nar_char _) W4 (own_p ps wh).toNatClampNeg rfl (by rw [List.length_map]; exact own_pl ps wh)
  have Sw4 : Safe Z own_EL s.vm T1.heap r_1 := (own_safe_arv hZ.alike Po1_0 (by decide))
  have O4 := O1.wr W4 g_r_1
  have K4 : Keep h0 h4 [] := K1.wr W4 (Or.inr sz_r_1)
  have N4 := Fr.snoc X4 N1 g_r_1
  have CR4 := CR1.trans (CHr.wr W4 Sw4 CR1.1)
  have V4 : Arv Z h4 r_1 kr_1 .char (Int32.ofNat (own_V wh ps ch).length) ((own_V wh ps ch).map Value.int) (.int (0 : Int32)) := by rw [own_V_len, ← own_Vmap]; exact Va4
  obtain ⟨T5, h5, X5, e5, E5, A5, D5, U5, st5⟩ := newO X4 hx hZ hown (hw _ (List.mem_of_getElem? (i := 7) rfl)) (hw _ (List.mem_of_getElem? (i := 8) rfl)) (hw _ (List.mem_of_getElem? (i := 9) rfl)) e4 (g := (mkF m 79 #[.val (.int wh), .val (.int fl), .val (.int ps), .val (.int ch), .val (.int (own_k wh)), .val (.ref r_1), .val (.int (1 : Int32)), .val (.int (own_p ps wh)), .val (.int (own_c ch)), .val (.int ((own_U (own_k wh)).getD (own_p ps wh).toNatClampNeg 0)), .val (.int (1 : Int32)), .unset, .unset] [])) rfl (hb hby at_79) (by decide) (by decide)
  obtain ⟨b5, gz5⟩ : ∃ z, z = h4.size := ⟨_, rfl⟩
  rw [← gz5] at A5 D5 U5 st5
  have sz_b5 : h0.size ≤ b5 := Nat.le_trans K4.1 (Nat.le_of_eq gz5.symm)
  have g_b5 : n0 ≤ b5 := Nat.le_trans Z0 sz_b5
  have O5 := O4.ext E5
  have K5 : Keep h0 h5 [] := K4.ext E5
  have CR5 := CR4.trans (CHr.ext E5 CR4.1)
  have Sn5 : Safe Z own_EL s.vm h5 b5 := Safe.ext E5 CR4.1 (Safe.new (Nat.le_of_eq gz5.symm))
  have Fi5_33 : Fld Z h5 b5 "java/lang/String" "coder" "B" (.int (0 : Int32)) := D5 (Or.inr (hw _ (List.mem_of_getElem? (i := 33) rfl))) (ty := .byte) (by decide)
  have Fi5_35 : Fld Z h5 b5 "java/lang/String" "value" "[B" .null := D5 (Or.inr (hw _ (List.mem_of_getElem? (i := 35) rfl))) (ty := (.array .byte)) (by decide)
  obtain ⟨_, _, ⟨T6, L6, k6, n6⟩, -, X6, ⟨Lc6, hQ6, l6, y6, z6⟩, st6⟩ := X5.specialBack hx (y := (⟨"java/lang/String", "<init>", "([C)V"⟩ : MethodName)) rfl hown (mvT hZ (hw _ (List.mem_of_getElem? (i := 10) rfl))) (mvT hZ (hw _ (List.mem_of_getElem? (i := 11) rfl))) (mvT hZ (hw _ (List.mem_of_getElem? (i := 12) rfl))) (by decide) (own_siB (W := 1) hZ hw (by decide) (by decide) b5 r_1 kr_1 (own_V wh ps ch) cz h5 n0 O5 G0 A5 Fi5_35 Fi5_33 (V4.ext E5) g_b5 hcs (own_V_l0 wh ps ch).2 (own_V_l0 wh ps ch).1 (own_V_lo hlat)) (g := (mkF m 85 #[.val (.int wh), .val (.int fl), .val (.int ps), .val (.int ch), .val (.int (own_k wh)), .val (.ref r_1), .val (.int (1 : Int32)), .val (.int (own_p ps wh)), .val (.int (own_c ch)), .val (.int ((own_U (own_k wh)).getD (own_p ps wh).toNatClampNeg 0)), .val (.int (1 : Int32)), .unset, .unset] [(.ref r_1), (.ref b5), (.ref b5)])) rfl (by rw [hml]; rfl) (Steps.refl _) (a := b5) (argsL := [(.ref r_1)]) (rest := [(.ref b5)]) (lenOf pd_10 rfl) rfl (by show 2 * 0 + _ ≤ _; exact Nat.le_of_eq rfl) (hb hby at_85) (fun _ _ => ⟨rfl, e5, (by decide : 2 + 1 ≤ _), (by decide : 45 + 41 ≤ _)⟩)
  dsimp only [Pt.U, Pt.locs, Pt.cells, Pt.slots] at X6 l6 y6 z6 st6 hQ6
  subst l6 y6 z6
  obtain ⟨t_6, kt_6, rfl, Nq6, kh6, fz_t_6, Po6_0, Po6_1, Po6_2, Po6_3⟩ := hQ6
  have N6 := Fr.app N4 Nq6
  have sz_t_6 : h0.size ≤ t_6 := Nat.le_trans K5.1 fz_t_6
  have g_t_6 : n0 ≤ t_6 := Nat.le_trans Z0 sz_t_6
  have O6 := O5.keep kh6 (allS g_b5 all0)
  have K6 : Keep h0 T6.heap [] := K5.trans kh6 (allS (Or.inr sz_b5) all0)
  have hs6 : ∀ x ∈ ([b5] : List Addr), Safe Z own_EL s.vm h5 x := (allS Sn5 all0)
  have CR6 := CR5.trans (CHr.keep kh6 hs6 CR5.1)
  have Sy6_b5 := Safe.keep kh6 hs6 CR5.1 Sn5
  obtain ⟨_, _, ⟨T7, L7, k7, n7⟩, -, Xr7, hSr7, hg7, ⟨Lc7, hQ7, l7, y7, z7, CL7⟩, st7⟩ := callSS X6 hx (y := (⟨"com/example/tsutsumi/tsutsumi/service/SchemaElements", "isBuiltInNamespace", "(Ljava/lang/String;)Z"⟩ : MethodName)) hown (mvT hZ (hw _ (List.mem_of_getElem? (i := 36) rfl))) (mvT hZ (hw _ (List.mem_of_getElem? (i := 37) rfl))) (mvT hZ (hw _ (List.mem_of_getElem? (i := 38) rfl))) (mvT hZ (hw _ (List.mem_of_getElem? (i := 39) rfl))) (by decide) (own_backSH (s := s) (vm0 := s.vm) (W := 0) (biL l Z a0 hw [] b5 t_6 kt_6 (own_V wh ps ch) cz T6.heap n0 O6 G0 Po6_0 Po6_2 Po6_1 Po6_3 hcs (own_V_l0 wh ps ch).2 (own_V_lo hlat)) hZ (hw _ (List.mem_of_getElem? (i := 39) rfl)) (hw _ (List.mem_of_getElem? (i := 38) rfl)) (by decide) (by decide) hEL CR6.1 all0) (g := (mkF m 110 #[.val (.int wh), .val (.int fl), .val (.int ps), .val (.int ch), .val (.int (own_k wh)), .val (.ref r_1), .val (.int (1 : Int32)), .val (.int (own_p ps wh)), .val (.int (own_c ch)), .val (.int ((own_U (own_k wh)).getD (own_p ps wh).toNatClampNeg 0)), .val (.int (1 : Int32)), .val (.ref b5), .val (.int (0 : Int32))] [(.ref b5)])) rfl (by rw [hml]; rfl) (argsL := [(.ref b5)]) (rest := []) (lenOf pd_11 rfl) rfl (by show 2 * 0 + _ ≤ _; exact Nat.le_of_eq rfl) (hb hby at_110) (fun _ _ => ⟨rfl, rfl, (by decide : 3 + 8 ≤ _), (by decide : 86 + 576 ≤ _)⟩)
  dsimp only [Pt.U, Pt.locs, Pt.cells, Pt.slots] at Xr7 l7 y7 z7 st7 hQ7 hSr7 hg7 CL7
  subst l7 y7 z7
  obtain ⟨X7, hS7, hZ, hown⟩ := rebS (s := s) (vm0 := s.vm) hS0 (own_hk rfl (Nat.le_trans (Nat.le_trans (Nat.le_trans (Nat.le_trans (Nat.zero_le _) kh1.1) (Keep.of_wr W4).1) E5.1) kh6.1)) Xr7 hSr7 hg7 hZ hown
  obtain ⟨rfl, Nq7, kh7⟩ := hQ7
  have N7 := Fr.app N6 Nq7
  have hZ7 := hZ
  have hown7 := hown
  have O7 := O6.keep kh7 all0
  have K7 : Keep h0 T7.heap [] := K6.trans kh7 all0
  have CR7 := CR6.trans CL7
  have Sy7_b5 := CL7.safe (Po6_0).lt Sy6_b5
  obtain ⟨fs, hr, hrun, hended, hRW⟩ := X7.leaveW (s := s) hS7 (own_hk rfl (Nat.le_refl _)) (v := some (.int (1 : Int32))) (fun h => by rw [Bd.returns] at h; cases h)
  have CE := CR7.trans (CHv.at (s := s) (vm0 := T7.vm) X7 hZ hEL CR7.1)
  refine ⟨_, _, pre0 _ ?_, hrun, hended, _, _, rfl, ?_, ?_, own_rw_mono hRW (by decide) (by decide)⟩
  · show Steps p.tables e below (s₁.setTop (mkF m 0 #[.val (.int wh), .val (.int fl), .val (.int ps), .val (.int ch), .unset, .unset, .unset, .unset, .unset, .unset, .unset, .unset, .unset] [])) _
    refine XS.iloadN X0.here hx rfl (hb hby at_0) rfl ?_
    show Steps p.tables e below (s₁.setTop (mkF m 1 #[.val (.int wh), .val (.int fl), .val (.int ps), .val (.int ch), .unset, .unset, .unset, .unset, .unset, .unset, .unset, .unset, .unset] [(.int wh)])) _
    refine XS.bipush X0.here hx rfl (hb hby at_1) ?_
    show Steps p.tables e below (s₁.setTop (mkF m 3 #[.val (.int wh), .val (.int fl), .val (.int ps), .val (.int ch), .unset, .unset, .unset, .unset, .unset, .unset, .unset, .unset, .unset] [(.int (7 : Int32)), (.int wh)])) _
    refine XS.iand X0.here hx rfl (hb hby at_3) rfl ?_
    show Steps p.tables e below (s₁.setTop (mkF m 4 #[.val (.int wh), .val (.int fl), .val (.int ps), .val (.int ch), .unset, .unset, .unset, .unset, .unset, .unset, .unset, .unset, .unset] [(.int (wh &&& (7 : Int32)))])) _
    refine castTop (congrArg (fun z_ => (mkF m 4 #[.val (.int wh), .val (.int fl), .val (.int ps), .val (.int ch), .unset, .unset, .unset, .unset, .unset, .unset, .unset, .unset, .unset] [(.int z_)])) (rfl : (wh &&& (7 : Int32)) = (own_k wh))) ?_
    show Steps p.tables e below (s₁.setTop (mkF m 4 #[.val (.int wh), .val (.int fl), .val (.int ps), .val (.int ch), .unset, .unset, .unset, .unset, .unset, .unset, .unset, .unset, .unset] [(.int (own_k wh))])) _
    refine XS.istore X0.here hx rfl (hb hby at_4) rfl (l' := #[.val (.int wh), .val (.int fl), .val (.int ps), .val (.int ch), .val (.int (own_k wh)), .unset, .unset, .unset, .unset, .unset, .unset, .unset, .unset]) rfl ?_
    show Steps p.tables e below (s₁.setTop (mkF m 6 #[.val (.int wh), .val (.int fl), .val (.int ps), .val (.int ch), .val (.int (own_k wh)), .unset, .unset, .unset, .unset, .unset, .unset, .unset, .unset] [])) _
    refine XS.iload X0.here hx rfl (hb hby at_6) rfl ?_
    show Steps p.tables e below (s₁.setTop (mkF m 8 #[.val (.int wh), .val (.int fl), .val (.int ps), .val (.int ch), .val (.int (own_k wh)), .unset, .unset, .unset, .unset, .unset, .unset, .unset, .unset] [(.int (own_k wh))])) _
    refine st1 _ ?_
    show Steps p.tables e below (T1.setTop (mkF m 11 #[.val (.int wh), .val (.int fl), .val (.int ps), .val (.int ch), .val (.int (own_k wh)), .unset, .unset, .unset, .unset, .unset, .unset, .unset, .unset] [(.ref r_1)])) _
    refine XS.astore X1.here hx rfl (hb hby at_11) rfl rfl (l' := #[.val (.int wh), .val (.int fl), .val (.int ps), .val (.int ch), .val (.int (own_k wh)), .val (.ref r_1), .unset, .unset, .unset, .unset, .unset, .unset, .unset]) rfl ?_
    show Steps p.tables e below (T1.setTop (mkF m 13 #[.val (.int wh), .val (.int fl), .val (.int ps), .val (.int ch), .val (.int (own_k wh)), .val (.ref r_1), .unset, .unset, .unset, .unset, .unset, .unset, .unset] [])) _
    refine XS.iloadN X1.here hx rfl (hb hby at_13) rfl ?_
    show Steps p.tables e below (T1.setTop (mkF m 14 #[.val (.int wh), .val (.int fl), .val (.int ps), .val (.int ch), .val (.int (own_k wh)), .val (.ref r_1), .unset, .unset, .unset, .unset, .unset, .unset, .unset] [(.int fl)])) _
    refine XS.iconst X1.here hx rfl (hb hby at_14) ?_
    show Steps p.tables e below (T1.setTop (mkF m 15 #[.val (.int wh), .val (.int fl), .val (.int ps), .val (.int ch), .val (.int (own_k wh)), .val (.ref r_1), .unset, .unset, .unset, .unset, .unset, .unset, .unset] [(.int (1 : Int32)), (.int fl)])) _
    refine XS.iand X1.here hx rfl (hb hby at_15) rfl ?_
    show Steps p.tables e below (T1.setTop (mkF m 16 #[.val (.int wh), .val (.int fl), .val (.int ps), .val (.int ch), .val (.int (own_k wh)), .val (.ref r_1), .unset, .unset, .unset, .unset, .unset, .unset, .unset] [(.int (fl &&& (1 : Int32)))])) _
    refine XS.ifNo X1.here hx rfl (hb hby at_16) rfl ((if0 _ _).trans (feq (hf : ¬ ((fl &&& (1 : Int32)) = (0 : Int32)))).1) ?_
    show Steps p.tables e below (T1.setTop (mkF m 19 #[.val (.int wh), .val (.int fl), .val (.int ps), .val (.int ch), .val (.int (own_k wh)), .val (.ref r_1), .unset, .unset, .unset, .unset, .unset, .unset, .unset] [])) _
    refine XS.iconst X1.here hx rfl (hb hby at_19) ?_
    show Steps p.tables e below (T1.setTop (mkF m 20 #[.val (.int wh), .val (.int fl), .val (.int ps), .val (.int ch), .val (.int (own_k wh)), .val (.ref r_1), .unset, .unset, .unset, .unset, .unset, .unset, .unset] [(.int (1 : Int32))])) _
    refine XS.goto X1.here hx rfl (pc0 := 20) (pc' := 24) rfl (hb hby at_20) (by decide) (by decide) ?_
    show Steps p.tables e below (T1.setTop (mkF m 24 #[.val (.int wh), .val (.int fl), .val (.int ps), .val (.int ch), .val (.int (own_k wh)), .val (.ref r_1), .unset, .unset, .unset, .unset, .unset, .unset, .unset] [(.int (1 : Int32))])) _
    refine XS.istore X1.here hx rfl (hb hby at_24) rfl (l' := #[.val (.int wh), .val (.int fl), .val (.int ps), .val (.int ch), .val (.int (own_k wh)), .val (.ref r_1), .val (.int (1 : Int32)), .unset, .unset, .unset, .unset, .unset, .unset]) rfl ?_
    show Steps p.tables e below (T1.setTop (mkF m 26 #[.val (.int wh), .val (.int fl), .val (.int ps), .val (.int ch), .val (.int (own_k wh)), .val (.ref r_1), .val (.int (1 : Int32)), .unset, .unset, .unset, .unset, .unset, .unset] [])) _
    refine XS.iloadN X1.here hx rfl (hb hby at_26) rfl ?_
    show Steps p.tables e below (T1.setTop (mkF m 27 #[.val (.int wh), .val (.int fl), .val (.int ps), .val (.int ch), .val (.int (own_k wh)), .val (.ref r_1), .val (.int (1 : Int32)), .unset, .unset, .unset, .unset, .unset, .unset] [(.int ps)])) _
    refine X1.ldcInt hx hown0 (mvT hZ0 (hw _ (List.mem_of_getElem? (i := 5) rfl))) (g := (mkF m 27 #[.val (.int wh), .val (.int fl), .val (.int ps), .val (.int ch), .val (.int (own_k wh)), .val (.ref r_1), .val (.int (1 : Int32)), .unset, .unset, .unset, .unset, .unset, .unset] [(.int ps)])) rfl (hb hby at_27) _ ?_
    show Steps p.tables e below (T1.setTop (mkF m 29 #[.val (.int wh), .val (.int fl), .val (.int ps), .val (.int ch), .val (.int (own_k wh)), .val (.ref r_1), .val (.int (1 : Int32)), .unset, .unset, .unset, .unset, .unset, .unset] [(.int (2147483647 : Int32)), (.int ps)])) _
    refine XS.iand X1.here hx rfl (hb hby at_29) rfl ?_
    show Steps p.tables e below (T1.setTop (mkF m 30 #[.val (.int wh), .val (.int fl), .val (.int ps), .val (.int ch), .val (.int (own_k wh)), .val (.ref r_1), .val (.int (1 : Int32)), .unset, .unset, .unset, .unset, .unset, .unset] [(.int (ps &&& (2147483647 : Int32)))])) _
    refine XS.aload X1.here hx rfl (hb hby at_30) rfl rfl ?_
    show Steps p.tables e below (T1.setTop (mkF m 32 #[.val (.int wh), .val (.int fl), .val (.int ps), .val (.int ch), .val (.int (own_k wh)), .val (.ref r_1), .val (.int (1 : Int32)), .unset, .unset, .unset, .unset, .unset, .unset] [(.ref r_1), (.int (ps &&& (2147483647 : Int32)))])) _
    refine X1.arraylength hx (Ar2.at_ rfl) (State.isArrayOf_alike hZ0.alike Ar2.2.1) (g := (mkF m 32 #[.val (.int wh), .val (.int fl), .val (.int ps), .val (.int ch), .val (.int (own_k wh)), .val (.ref r_1), .val (.int (1 : Int32)), .unset, .unset, .unset, .unset, .unset, .unset] [(.ref r_1), (.int (ps &&& (2147483647 : Int32)))])) rfl rfl (hb hby at_32) _ ?_
    rw [len_of Sz2 Ng2]
    show Steps p.tables e below (T1.setTop (mkF m 33 #[.val (.int wh), .val (.int fl), .val (.int ps), .val (.int ch), .val (.int (own_k wh)), .val (.ref r_1), .val (.int (1 : Int32)), .unset, .unset, .unset, .unset, .unset, .unset] [(.int (Int32.ofNat (own_U (own_k wh)).length)), (.int (ps &&& (2147483647 : Int32)))])) _
    refine iremM X1 hx rfl (hb hby at_33) rfl (own_ndz _) ?_
    show Steps p.tables e below (T1.setTop (mkF m 34 #[.val (.int wh), .val (.int fl), .val (.int ps), .val (.int ch), .val (.int (own_k wh)), .val (.ref r_1), .val (.int (1 : Int32)), .unset, .unset, .unset, .unset, .unset, .unset] [(.int ((ps &&& (2147483647 : Int32)) % (Int32.ofNat (own_U (own_k wh)).length)))])) _
    refine castTop (congrArg (fun z_ => (mkF m 34 #[.val (.int wh), .val (.int fl), .val (.int ps), .val (.int ch), .val (.int (own_k wh)), .val (.ref r_1), .val (.int (1 : Int32)), .unset, .unset, .unset, .unset, .unset, .unset] [(.int z_)])) (rfl : ((ps &&& (2147483647 : Int32)) % (Int32.ofNat (own_U (own_k wh)).length)) = (own_p ps wh))) ?_
    show Steps p.tables e below (T1.setTop (mkF m 34 #[.val (.int wh), .val (.int fl), .val (.int ps), .val (.int ch), .val (.int (own_k wh)), .val (.ref r_1), .val (.int (1 : Int32)), .unset, .unset, .unset, .unset, .unset, .unset] [(.int (own_p ps wh))])) _
    refine XS.istore X1.here hx rfl (hb hby at_34) rfl (l' := #[.val (.int wh), .val (.int fl), .val (.int ps), .val (.int ch), .val (.int (own_k wh)), .val (.ref r_1), .val (.int (1 : Int32)), .val (.int (own_p ps wh)), .unset, .unset, .unset, .unset, .unset]) rfl ?_
    show Steps p.tables e below (T1.setTop (mkF m 36 #[.val (.int wh), .val (.int fl), .val (.int ps), .val (.int ch), .val (.int (own_k wh)), .val (.ref r_1), .val (.int (1 : Int32)), .val (.int (own_p ps wh)), .unset, .unset, .unset, .unset, .unset] [])) _
    refine XS.iloadN X1.here hx rfl (hb hby at_36) rfl ?_
    show Steps p.tables e below (T1.setTop (mkF m 37 #[.val (.int wh), .val (.int fl), .val (.int ps), .val (.int ch), .val (.int (own_k wh)), .val (.ref r_1), .val (.int (1 : Int32)), .val (.int (own_p ps wh)), .unset, .unset, .unset, .unset, .unset] [(.int ch)])) _
    refine X1.ldcInt hx hown0 (mvT hZ0 (hw _ (List.mem_of_getElem? (i := 6) rfl))) (g := (mkF m 37 #[.val (.int wh), .val (.int fl), .val (.int ps), .val (.int ch), .val (.int (own_k wh)), .val (.ref r_1), .val (.int (1 : Int32)), .val (.int (own_p ps wh)), .unset, .unset, .unset, .unset, .unset] [(.int ch)])) rfl (hb hby at_37) _ ?_
    show Steps p.tables e below (T1.setTop (mkF m 39 #[.val (.int wh), .val (.int fl), .val (.int ps), .val (.int ch), .val (.int (own_k wh)), .val (.ref r_1), .val (.int (1 : Int32)), .val (.int (own_p ps wh)), .unset, .unset, .unset, .unset, .unset] [(.int (65535 : Int32)), (.int ch)])) _
    refine XS.iand X1.here hx rfl (hb hby at_39) rfl ?_
    show Steps p.tables e below (T1.setTop (mkF m 40 #[.val (.int wh), .val (.int fl), .val (.int ps), .val (.int ch), .val (.int (own_k wh)), .val (.ref r_1), .val (.int (1 : Int32)), .val (.int (own_p ps wh)), .unset, .unset, .unset, .unset, .unset] [(.int (ch &&& (65535 : Int32)))])) _
    refine XS.i2c X1.here hx rfl (hb hby at_40) rfl ?_
    show Steps p.tables e below (T1.setTop (mkF m 41 #[.val (.int wh), .val (.int fl), .val (.int ps), .val (.int ch), .val (.int (own_k wh)), .val (.ref r_1), .val (.int (1 : Int32)), .val (.int (own_p ps wh)), .unset, .unset, .unset, .unset, .unset] [(.int ((ch &&& (65535 : Int32)).toUInt32.toUInt16.toUInt32.toInt32))])) _
    refine castTop (congrArg (fun z_ => (mkF m 41 #[.val (.int wh), .val (.int fl), .val (.int ps), .val (.int ch), .val (.int (own_k wh)), .val (.ref r_1), .val (.int (1 : Int32)), .val (.int (own_p ps wh)), .unset, .unset, .unset, .unset, .unset] [(.int z_)])) (rfl : ((ch &&& (65535 : Int32)).toUInt32.toUInt16.toUInt32.toInt32) = (own_c ch))) ?_
    show Steps p.tables e below (T1.setTop (mkF m 41 #[.val (.int wh), .val (.int fl), .val (.int ps), .val (.int ch), .val (.int (own_k wh)), .val (.ref r_1), .val (.int (1 : Int32)), .val (.int (own_p ps wh)), .unset, .unset, .unset, .unset, .unset] [(.int (own_c ch))])) _
    refine XS.istore X1.here hx rfl (hb hby at_41) rfl (l' := #[.val (.int wh), .val (.int fl), .val (.int ps), .val (.int ch), .val (.int (own_k wh)), .val (.ref r_1), .val (.int (1 : Int32)), .val (.int (own_p ps wh)), .val (.int (own_c ch)), .unset, .unset, .unset, .unset]) rfl ?_
    show Steps p.tables e below (T1.setTop (mkF m 43 #[.val (.int wh), .val (.int fl), .val (.int ps), .val (.int ch), .val (.int (own_k wh)), .val (.ref r_1), .val (.int (1 : Int32)), .val (.int (own_p ps wh)), .val (.int (own_c ch)), .unset, .unset, .unset, .unset] [])) _
    refine XS.aload X1.here hx rfl (hb hby at_43) rfl rfl ?_
    show Steps p.tables e below (T1.setTop (mkF m 45 #[.val (.int wh), .val (.int fl), .val (.int ps), .val (.int ch), .val (.int (own_k wh)), .val (.ref r_1), .val (.int (1 : Int32)), .val (.int (own_p ps wh)), .val (.int (own_c ch)), .unset, .unset, .unset, .unset] [(.ref r_1)])) _
    refine XS.iload X1.here hx rfl (hb hby at_45) rfl ?_
    show Steps p.tables e below (T1.setTop (mkF m 47 #[.val (.int wh), .val (.int fl), .val (.int ps), .val (.int ch), .val (.int (own_k wh)), .val (.ref r_1), .val (.int (1 : Int32)), .val (.int (own_p ps wh)), .val (.int (own_c ch)), .unset, .unset, .unset, .unset] [(.int (own_p ps wh)), (.ref r_1)])) _
    refine X1.caload hx (j := (own_p ps wh)) (v := (.int ((own_U (own_k wh)).getD (own_p ps wh).toNatClampNeg 0))) (Ar3.at_ rfl) (State.isArrayOf_alike hZ0.alike Ar3.2.1) Ar3.2.2 hin3 hat3 (g := (mkF m 47 #[.val (.int wh), .val (.int fl), .val (.int ps), .val (.int ch), .val (.int (own_k wh)), .val (.ref r_1), .val (.int (1 : Int32)), .val (.int (own_p ps wh)), .val (.int (own_c ch)), .unset, .unset, .unset, .unset] [(.int (own_p ps wh)), (.ref r_1)])) rfl rfl (hb hby at_47) _ ?_
    show Steps p.tables e below (T1.setTop (mkF m 48 #[.val (.int wh), .val (.int fl), .val (.int ps), .val (.int ch), .val (.int (own_k wh)), .val (.ref r_1), .val (.int (1 : Int32)), .val (.int (own_p ps wh)), .val (.int (own_c ch)), .unset, .unset, .unset, .unset] [(.int ((own_U (own_k wh)).getD (own_p ps wh).toNatClampNeg 0))])) _
    refine XS.istore X1.here hx rfl (hb hby at_48) rfl (l' := #[.val (.int wh), .val (.int fl), .val (.int ps), .val (.int ch), .val (.int (own_k wh)), .val (.ref r_1), .val (.int (1 : Int32)), .val (.int (own_p ps wh)), .val (.int (own_c ch)), .val (.int ((own_U (own_k wh)).getD (own_p ps wh).toNatClampNeg 0)), .unset, .unset, .unset]) rfl ?_
    show Steps p.tables e below (T1.setTop (mkF m 50 #[.val (.int wh), .val (.int fl), .val (.int ps), .val (.int ch), .val (.int (own_k wh)), .val (.ref r_1), .val (.int (1 : Int32)), .val (.int (own_p ps wh)), .val (.int (own_c ch)), .val (.int ((own_U (own_k wh)).getD (own_p ps wh).toNatClampNeg 0)), .unset, .unset, .unset] [])) _
    refine XS.iconst X1.here hx rfl (hb hby at_50) ?_
    show Steps p.tables e below (T1.setTop (mkF m 51 #[.val (.int wh), .val (.int fl), .val (.int ps), .val (.int ch), .val (.int (own_k wh)), .val (.ref r_1), .val (.int (1 : Int32)), .val (.int (own_p ps wh)), .val (.int (own_c ch)), .val (.int ((own_U (own_k wh)).getD (own_p ps wh).toNatClampNeg 0)), .unset, .unset, .unset] [(.int (0 : Int32))])) _
    refine XS.istore X1.here hx rfl (hb hby at_51) rfl (l' := #[.val (.int wh), .val (.int fl), .val (.int ps), .val (.int ch), .val (.int (own_k wh)), .val (.ref r_1), .val (.int (1 : Int32)), .val (.int (own_p ps wh)), .val (.int (own_c ch)), .val (.int ((own_U (own_k wh)).getD (own_p ps wh).toNatClampNeg 0)), .val (.int (0 : Int32)), .unset, .unset]) rfl ?_
    show Steps p.tables e below (T1.setTop (mkF m 53 #[.val (.int wh), .val (.int fl), .val (.int ps), .val (.int ch), .val (.int (own_k wh)), .val (.ref r_1), .val (.int (1 : Int32)), .val (.int (own_p ps wh)), .val (.int (own_c ch)), .val (.int ((own_U (own_k wh)).getD (own_p ps wh).toNatClampNeg 0)), .val (.int (0 : Int32)), .unset, .unset] [])) _
    refine XS.iload X1.here hx rfl (hb hby at_53) rfl ?_
    show Steps p.tables e below (T1.setTop (mkF m 55 #[.val (.int wh), .val (.int fl), .val (.int ps), .val (.int ch), .val (.int (own_k wh)), .val (.ref r_1), .val (.int (1 : Int32)), .val (.int (own_p ps wh)), .val (.int (own_c ch)), .val (.int ((own_U (own_k wh)).getD (own_p ps wh).toNatClampNeg 0)), .val (.int (0 : Int32)), .unset, .unset] [(.int (1 : Int32))])) _
    refine XS.ifNo X1.here hx rfl (hb hby at_55) rfl ((if0 _ _).trans (feq (by decide : ¬ ((1 : Int32) = (0 : Int32)))).1) ?_
    show Steps p.tables e below (T1.setTop (mkF m 58 #[.val (.int wh), .val (.int fl), .val (.int ps), .val (.int ch), .val (.int (own_k wh)), .val (.ref r_1), .val (.int (1 : Int32)), .val (.int (own_p ps wh)), .val (.int (own_c ch)), .val (.int ((own_U (own_k wh)).getD (own_p ps wh).toNatClampNeg 0)), .val (.int (0 : Int32)), .unset, .unset] [])) _
    refine XS.aload X1.here hx rfl (hb hby at_58) rfl rfl ?_
    show Steps p.tables e below (T1.setTop (mkF m 60 #[.val (.int wh), .val (.int fl), .val (.int ps), .val (.int ch), .val (.int (own_k wh)), .val (.ref r_1), .val (.int (1 : Int32)), .val (.int (own_p ps wh)), .val (.int (own_c ch)), .val (.int ((own_U (own_k wh)).getD (own_p ps wh).toNatClampNeg 0)), .val (.int (0 : Int32)), .unset, .unset] [(.ref r_1)])) _
    refine XS.iload X1.here hx rfl (hb hby at_60) rfl ?_
    show Steps p.tables e below (T1.setTop (mkF m 62 #[.val (.int wh), .val (.int fl), .val (.int ps), .val (.int ch), .val (.int (own_k wh)), .val (.ref r_1), .val (.int (1 : Int32)), .val (.int (own_p ps wh)), .val (.int (own_c ch)), .val (.int ((own_U (own_k wh)).getD (own_p ps wh).toNatClampNeg 0)), .val (.int (0 : Int32)), .unset, .unset] [(.int (own_p ps wh)), (.ref r_1)])) _
    refine XS.iload X1.here hx rfl (hb hby at_62) rfl ?_
    show Steps p.tables e below (T1.setTop (mkF m 64 #[.val (.int wh), .val (.int fl), .val (.int ps), .val (.int ch), .val (.int (own_k wh)), .val (.ref r_1), .val (.int (1 : Int32)), .val (.int (own_p ps wh)), .val (.int (own_c ch)), .val (.int ((own_U (own_k wh)).getD (own_p ps wh).toNatClampNeg 0)), .val (.int (0 : Int32)), .unset, .unset] [(.int (own_c ch)), (.int (own_p ps wh)), (.ref r_1)])) _
    refine st4 _ ?_
    show Steps p.tables e below (T4.setTop (mkF m 65 #[.val (.int wh), .val (.int fl), .val (.int ps), .val (.int ch), .val (.int (own_k wh)), .val (.ref r_1), .val (.int (1 : Int32)), .val (.int (own_p ps wh)), .val (.int (own_c ch)), .val (.int ((own_U (own_k wh)).getD (own_p ps wh).toNatClampNeg 0)), .val (.int (0 : Int32)), .unset, .unset] [])) _
    refine XS.iload X4.here hx rfl (hb hby at_65) rfl ?_
    show Steps p.tables e below (T4.setTop (mkF m 67 #[.val (.int wh), .val (.int fl), .val (.int ps), .val (.int ch), .val (.int (own_k wh)), .val (.ref r_1), .val (.int (1 : Int32)), .val (.int (own_p ps wh)), .val (.int (own_c ch)), .val (.int ((own_U (own_k wh)).getD (own_p ps wh).toNatClampNeg 0)), .val (.int (0 : Int32)), .unset, .unset] [(.int ((own_U (own_k wh)).getD (own_p ps wh).toNatClampNeg 0))])) _
    refine XS.iload X4.here hx rfl (hb hby at_67) rfl ?_
    show Steps p.tables e below (T4.setTop (mkF m 69 #[.val (.int wh), .val (.int fl), .val (.int ps), .val (.int ch), .val (.int (own_k wh)), .val (.ref r_1), .val (.int (1 : Int32)), .val (.int (own_p ps wh)), .val (.int (own_c ch)), .val (.int ((own_U (own_k wh)).getD (own_p ps wh).toNatClampNeg 0)), .val (.int (0 : Int32)), .unset, .unset] [(.int (own_c ch)), (.int ((own_U (own_k wh)).getD (own_p ps wh).toNatClampNeg 0))])) _
    refine XS.icmpNo X4.here hx rfl (hb hby at_69) rfl (feq (hch : ¬ (((own_U (own_k wh)).getD (own_p ps wh).toNatClampNeg 0) = (own_c ch)))).1 ?_
    show Steps p.tables e below (T4.setTop (mkF m 72 #[.val (.int wh), .val (.int fl), .val (.int ps), .val (.int ch), .val (.int (own_k wh)), .val (.ref r_1), .val (.int (1 : Int32)), .val (.int (own_p ps wh)), .val (.int (own_c ch)), .val (.int ((own_U (own_k wh)).getD (own_p ps wh).toNatClampNeg 0)), .val (.int (0 : Int32)), .unset, .unset] [])) _
    refine XS.iconst X4.here hx rfl (hb hby at_72) ?_
    show Steps p.tables e below (T4.setTop (mkF m 73 #[.val (.int wh), .val (.int fl), .val (.int ps), .val (.int ch), .val (.int (own_k wh)), .val (.ref r_1), .val (.int (1 : Int32)), .val (.int (own_p ps wh)), .val (.int (own_c ch)), .val (.int ((own_U (own_k wh)).getD (own_p ps wh).toNatClampNeg 0)), .val (.int (0 : Int32)), .unset, .unset] [(.int (1 : Int32))])) _
    refine XS.goto X4.here hx rfl (pc0 := 73) (pc' := 77) rfl (hb hby at_73) (by decide) (by decide) ?_
    show Steps p.tables e below (T4.setTop (mkF m 77 #[.val (.int wh), .val (.int fl), .val (.int ps), .val (.int ch), .val (.int (own_k wh)), .val (.ref r_1), .val (.int (1 : Int32)), .val (.int (own_p ps wh)), .val (.int (own_c ch)), .val (.int ((own_U (own_k wh)).getD (own_p ps wh).toNatClampNeg 0)), .val (.int (0 : Int32)), .unset, .unset] [(.int (1 : Int32))])) _
    refine XS.istore X4.here hx rfl (hb hby at_77) rfl (l' := #[.val (.int wh), .val (.int fl), .val (.int ps), .val (.int ch), .val (.int (own_k wh)), .val (.ref r_1), .val (.int (1 : Int32)), .val (.int (own_p ps wh)), .val (.int (own_c ch)), .val (.int ((own_U (own_k wh)).getD (own_p ps wh).toNatClampNeg 0)), .val (.int (1 : Int32)), .unset, .unset]) rfl ?_
    show Steps p.tables e below (T4.setTop (mkF m 79 #[.val (.int wh), .val (.int fl), .val (.int ps), .val (.int ch), .val (.int (own_k wh)), .val (.ref r_1), .val (.int (1 : Int32)), .val (.int (own_p ps wh)), .val (.int (own_c ch)), .val (.int ((own_U (own_k wh)).getD (own_p ps wh).toNatClampNeg 0)), .val (.int (1 : Int32)), .unset, .unset] [])) _
    refine st5 _ ?_
    show Steps p.tables e below (T5.setTop (mkF m 82 #[.val (.int wh), .val (.int fl), .val (.int ps), .val (.int ch), .val (.int (own_k wh)), .val (.ref r_1), .val (.int (1 : Int32)), .val (.int (own_p ps wh)), .val (.int (own_c ch)), .val (.int ((own_U (own_k wh)).getD (own_p ps wh).toNatClampNeg 0)), .val (.int (1 : Int32)), .unset, .unset] [(.ref b5)])) _
    refine XS.dup X5.here hx rfl (hb hby at_82) rfl rfl ?_
    show Steps p.tables e below (T5.setTop (mkF m 83 #[.val (.int wh), .val (.int fl), .val (.int ps), .val (.int ch), .val (.int (own_k wh)), .val (.ref r_1), .val (.int (1 : Int32)), .val (.int (own_p ps wh)), .val (.int (own_c ch)), .val (.int ((own_U (own_k wh)).getD (own_p ps wh).toNatClampNeg 0)), .val (.int (1 : Int32)), .unset, .unset] [(.ref b5), (.ref b5)])) _
    refine XS.aload X5.here hx rfl (hb hby at_83) rfl rfl ?_
    show Steps p.tables e below (T5.setTop (mkF m 85 #[.val (.int wh), .val (.int fl), .val (.int ps), .val (.int ch), .val (.int (own_k wh)), .val (.ref r_1), .val (.int (1 : Int32)), .val (.int (own_p ps wh)), .val (.int (own_c ch)), .val (.int ((own_U (own_k wh)).getD (own_p ps wh).toNatClampNeg 0)), .val (.int (1 : Int32)), .unset, .unset] [(.ref r_1), (.ref b5), (.ref b5)])) _
    refine st6.trans ?_
    show Steps p.tables e below (T6.setTop (mkF m 88 #[.val (.int wh), .val (.int fl), .val (.int ps), .val (.int ch), .val (.int (own_k wh)), .val (.ref r_1), .val (.int (1 : Int32)), .val (.int (own_p ps wh)), .val (.int (own_c ch)), .val (.int ((own_U (own_k wh)).getD (own_p ps wh).toNatClampNeg 0)), .val (.int (1 : Int32)), .unset, .unset] [(.ref b5)])) _
    refine XS.astore X6.here hx rfl (hb hby at_88) rfl rfl (l' := #[.val (.int wh), .val (.int fl), .val (.int ps), .val (.int ch), .val (.int (own_k wh)), .val (.ref r_1), .val (.int (1 : Int32)), .val (.int (own_p ps wh)), .val (.int (own_c ch)), .val (.int ((own_U (own_k wh)).getD (own_p ps wh).toNatClampNeg 0)), .val (.int (1 : Int32)), .val (.ref b5), .unset]) rfl ?_
    show Steps p.tables e below (T6.setTop (mkF m 90 #[.val (.int wh), .val (.int fl), .val (.int ps), .val (.int ch), .val (.int (own_k wh)), .val (.ref r_1), .val (.int (1 : Int32)), .val (.int (own_p ps wh)), .val (.int (own_c ch)), .val (.int ((own_U (own_k wh)).getD (own_p ps wh).toNatClampNeg 0)), .val (.int (1 : Int32)), .val (.ref b5), .unset] [])) _
    refine XS.iload X6.here hx rfl (hb hby at_90) rfl ?_
    show Steps p.tables e below (T6.setTop (mkF m 92 #[.val (.int wh), .val (.int fl), .val (.int ps), .val (.int ch), .val (.int (own_k wh)), .val (.ref r_1), .val (.int (1 : Int32)), .val (.int (own_p ps wh)), .val (.int (own_c ch)), .val (.int ((own_U (own_k wh)).getD (own_p ps wh).toNatClampNeg 0)), .val (.int (1 : Int32)), .val (.ref b5), .unset] [(.int (own_k wh))])) _
    refine XS.iconst X6.here hx rfl (hb hby at_92) ?_
    show Steps p.tables e below (T6.setTop (mkF m 93 #[.val (.int wh), .val (.int fl), .val (.int ps), .val (.int ch), .val (.int (own_k wh)), .val (.ref r_1), .val (.int (1 : Int32)), .val (.int (own_p ps wh)), .val (.int (own_c ch)), .val (.int ((own_U (own_k wh)).getD (own_p ps wh).toNatClampNeg 0)), .val (.int (1 : Int32)), .val (.ref b5), .unset] [(.int (4 : Int32)), (.int (own_k wh))])) _
    refine XS.icmpNo X6.here hx rfl (hb hby at_93) rfl (tlt (hk4 : (own_k wh) < (4 : Int32))).2.1 ?_
    show Steps p.tables e below (T6.setTop (mkF m 96 #[.val (.int wh), .val (.int fl), .val (.int ps), .val (.int ch), .val (.int (own_k wh)), .val (.ref r_1), .val (.int (1 : Int32)), .val (.int (own_p ps wh)), .val (.int (own_c ch)), .val (.int ((own_U (own_k wh)).getD (own_p ps wh).toNatClampNeg 0)), .val (.int (1 : Int32)), .val (.ref b5), .unset] [])) _
    refine XS.iload X6.here hx rfl (hb hby at_96) rfl ?_
    show Steps p.tables e below (T6.setTop (mkF m 98 #[.val (.int wh), .val (.int fl), .val (.int ps), .val (.int ch), .val (.int (own_k wh)), .val (.ref r_1), .val (.int (1 : Int32)), .val (.int (own_p ps wh)), .val (.int (own_c ch)), .val (.int ((own_U (own_k wh)).getD (own_p ps wh).toNatClampNeg 0)), .val (.int (1 : Int32)), .val (.ref b5), .unset] [(.int (1 : Int32))])) _
    refine XS.ifYes X6.here hx rfl (pc0 := 98) (pc' := 105) rfl (hb hby at_98) rfl ((if0 _ _).trans (feq (by decide : ¬ ((1 : Int32) = (0 : Int32)))).2) (by decide) (by decide) ?_
    show Steps p.tables e below (T6.setTop (mkF m 105 #[.val (.int wh), .val (.int fl), .val (.int ps), .val (.int ch), .val (.int (own_k wh)), .val (.ref r_1), .val (.int (1 : Int32)), .val (.int (own_p ps wh)), .val (.int (own_c ch)), .val (.int ((own_U (own_k wh)).getD (own_p ps wh).toNatClampNeg 0)), .val (.int (1 : Int32)), .val (.ref b5), .unset] [])) _
    refine XS.iconst X6.here hx rfl (hb hby at_105) ?_
    show Steps p.tables e below (T6.setTop (mkF m 106 #[.val (.int wh), .val (.int fl), .val (.int ps), .val (.int ch), .val (.int (own_k wh)), .val (.ref r_1), .val (.int (1 : Int32)), .val (.int (own_p ps wh)), .val (.int (own_c ch)), .val (.int ((own_U (own_k wh)).getD (own_p ps wh).toNatClampNeg 0)), .val (.int (1 : Int32)), .val (.ref b5), .unset] [(.int (0 : Int32))])) _
    refine XS.istore X6.here hx rfl (hb hby at_106) rfl (l' := #[.val (.int wh), .val (.int fl), .val (.int ps), .val (.int ch), .val (.int (own_k wh)), .val (.ref r_1), .val (.int (1 : Int32)), .val (.int (own_p ps wh)), .val (.int (own_c ch)), .val (.int ((own_U (own_k wh)).getD (own_p ps wh).toNatClampNeg 0)), .val (.int (1 : Int32)), .val (.ref b5), .val (.int (0 : Int32))]) rfl ?_
    show Steps p.tables e below (T6.setTop (mkF m 108 #[.val (.int wh), .val (.int fl), .val (.int ps), .val (.int ch), .val (.int (own_k wh)), .val (.ref r_1), .val (.int (1 : Int32)), .val (.int (own_p ps wh)), .val (.int (own_c ch)), .val (.int ((own_U (own_k wh)).getD (own_p ps wh).toNatClampNeg 0)), .val (.int (1 : Int32)), .val (.ref b5), .val (.int (0 : Int32))] [])) _
    refine XS.aload X6.here hx rfl (hb hby at_108) rfl rfl ?_
    show Steps p.tables e below (T6.setTop (mkF m 110 #[.val (.int wh), .val (.int fl), .val (.int ps), .val (.int ch), .val (.int (own_k wh)), .val (.ref r_1), .val (.int (1 : Int32)), .val (.int (own_p ps wh)), .val (.int (own_c ch)), .val (.int ((own_U (own_k wh)).getD (own_p ps wh).toNatClampNeg 0)), .val (.int (1 : Int32)), .val (.ref b5), .val (.int (0 : Int32))] [(.ref b5)])) _
    refine st7.trans ?_
    show Steps p.tables e below (T7.setTop (mkF m 113 #[.val (.int wh), .val (.int fl), .val (.int ps), .val (.int ch), .val (.int (own_k wh)), .val (.ref r_1), .val (.int (1 : Int32)), .val (.int (own_p ps wh)), .val (.int (own_c ch)), .val (.int ((own_U (own_k wh)).getD (own_p ps wh).toNatClampNeg 0)), .val (.int (1 : Int32)), .val (.ref b5), .val (.int (0 : Int32))] [(.int (own_bi (own_V wh ps ch)))])) _
    refine castTop (congrArg (fun z_ => (mkF m 113 #[.val (.int wh), .val (.int fl), .val (.int ps), .val (.int ch), .val (.int (own_k wh)), .val (.ref r_1), .val (.int (1 : Int32)), .val (.int (own_p ps wh)), .val (.int (own_c ch)), .val (.int ((own_U (own_k wh)).getD (own_p ps wh).toNatClampNeg 0)), .val (.int (1 : Int32)), .val (.ref b5), .val (.int (0 : Int32))] [(.int z_)])) (own_V_bi hch : (own_bi (own_V wh ps ch)) = (0 : Int32))) ?_
    show Steps p.tables e below (T7.setTop (mkF m 113 #[.val (.int wh), .val (.int fl), .val (.int ps), .val (.int ch), .val (.int (own_k wh)), .val (.ref r_1), .val (.int (1 : Int32)), .val (.int (own_p ps wh)), .val (.int (own_c ch)), .val (.int ((own_U (own_k wh)).getD (own_p ps wh).toNatClampNeg 0)), .val (.int (1 : Int32)), .val (.ref b5), .val (.int (0 : Int32))] [(.int (0 : Int32))])) _
    refine XS.iload X7.here hx rfl (hb hby at_113) rfl ?_
    show Steps p.tables e below (T7.setTop (mkF m 115 #[.val (.int wh), .val (.int fl), .val (.int ps), .val (.int ch), .val (.int (own_k wh)), .val (.ref r_1), .val (.int (1 : Int32)), .val (.int (own_p ps wh)), .val (.int (own_c ch)), .val (.int ((own_U (own_k wh)).getD (own_p ps wh).toNatClampNeg 0)), .val (.int (1 : Int32)), .val (.ref b5), .val (.int (0 : Int32))] [(.int (0 : Int32)), (.int (0 : Int32))])) _
    refine XS.icmpNo X7.here hx rfl (hb hby at_115) rfl (teq (by decide : (0 : Int32) = (0 : Int32))).2 ?_
    show Steps p.tables e below (T7.setTop (mkF m 118 #[.val (.int wh), .val (.int fl), .val (.int ps), .val (.int ch), .val (.int (own_k wh)), .val (.ref r_1), .val (.int (1 : Int32)), .val (.int (own_p ps wh)), .val (.int (own_c ch)), .val (.int ((own_U (own_k wh)).getD (own_p ps wh).toNatClampNeg 0)), .val (.int (1 : Int32)), .val (.ref b5), .val (.int (0 : Int32))] [])) _
    refine XS.iconst X7.here hx rfl (hb hby at_118) ?_
    show Steps p.tables e below (T7.setTop (mkF m 119 #[.val (.int wh), .val (.int fl), .val (.int ps), .val (.int ch), .val (.int (own_k wh)), .val (.ref r_1), .val (.int (1 : Int32)), .val (.int (own_p ps wh)), .val (.int (own_c ch)), .val (.int ((own_U (own_k wh)).getD (own_p ps wh).toNatClampNeg 0)), .val (.int (1 : Int32)), .val (.ref b5), .val (.int (0 : Int32))] [(.int (1 : Int32))])) _
    refine XS.goto X7.here hx rfl (pc0 := 119) (pc' := 123) rfl (hb hby at_119) (by decide) (by decide) ?_
    show Steps p.tables e below (T7.setTop (mkF m 123 #[.val (.int wh), .val (.int fl), .val (.int ps), .val (.int ch), .val (.int (own_k wh)), .val (.ref r_1), .val (.int (1 : Int32)), .val (.int (own_p ps wh)), .val (.int (own_c ch)), .val (.int ((own_U (own_k wh)).getD (own_p ps wh).toNatClampNeg 0)), .val (.int (1 : Int32)), .val (.ref b5), .val (.int (0 : Int32))] [(.int (1 : Int32))])) _
    exact retN X7 hx (t := .boolean) Bd.returns (by simp) (hb hby at_123) hr
  · show Q_law Z wh fl ps ch cz h0 n0 _ T7.heap _
    exact ⟨rfl, N7⟩
  · show CHr Z own_EL s.vm s.heap T7.vm T7.heap
    rw [hh]; exact CE
set_option maxRecDepth 65536 in
set_option maxHeartbeats 40000000 in
theorem law_D1 (l : Launch) (Z : State) (a0 : Array Value) (hw : ∀ d ∈ tables_1, d.before a0 Z = true) (ws : List Jvm.Cond) (wh : Int32) (fl : Int32) (ps : Int32) (ch : Int32) (cz : Int32) (h0 : Heap) (n0 : Nat) (O0 : Old Z n0 h0) (G0 : Sta Z Z.heap "java/lang/String" "COMPACT_STRINGS" "Z" (.int cz)) (G1 : Sta Z Z.heap "java/lang/StringUTF16" "$assertionsDisabled" "Z" (.int (1 : Int32))) (G2 : Sta Z Z.heap "java/lang/StringUTF16" "HI_BYTE_SHIFT" "I" (.int (0 : Int32))) (G3 : Sta Z Z.heap "java/lang/StringUTF16" "LO_BYTE_SHIFT" "I" (.int (8 : Int32))) (hcs : ¬ (cz = (0 : Int32))) (hf : ¬ ((fl &&& (1 : Int32)) = (0 : Int32))) (hch : ¬ (((own_U (own_k wh)).getD (own_p ps wh).toNatClampNeg 0) = (own_c ch))) (hlat : (255 : Int32) < (own_c ch)) (hk4 : (own_k wh) < (4 : Int32)) :
    MetFree l x (head1 (Jvm.Cond.code x code maxLocals ret :: ws) room_1) (fun zA zU => zA = #[(.int wh), (.int fl), (.int ps), (.int ch)] ∧ Z.Warmed39 zU.vm ∧ zU.heap = h0 ∧ CHv Z own_EL zU.vm h0 ∧ ∀ x ∈ ([] : List Addr), Safe Z own_EL zU.vm h0 x) (fun _ _ _ _ _ => True) (fun _ zU zo zU' => ∃ zv zL, zo = .returned zv ∧ Q_law Z wh fl ps ch cz h0 n0 zv zU'.heap zL ∧ CHr Z own_EL zU.vm zU.heap zU'.vm zU'.heap ∧ ReturnedEndW zU zo zU' zL room_1.cells room_1.slots) := by
  refine MetFree.of_bodySF (plainFor_of_name pn_17) hisR ?_
  intro p e s m args below meth c s₁ Bd hml0 hP hK
  obtain ⟨rfl, hZ, hh, HC, HS⟩ := hP
  have hx := Bd.exec
  have hby := Bd.bytes
  have hml : c.maxLocals = 13 := hml0
  have hown : s.vm.findClass "com/example/tsutsumi/tsutsumi/service/SchemaElementsIsBuiltInNamespacePinLaw" = some m.cls := findClass_of_methodNamed Bd.named
  have hnm := (name_of_methodNamed Bd.named Bd.method).1
  have X0 : Stand p l e room_1 (s.setVm s.vm) m #[(.int wh), (.int fl), (.int ps), (.int ch)] below meth c s₁ [] 0 0 := Stand.of_body Bd
  have e0 : s₁.heap = h0 := by rw [← hh, Bd.state]; rfl
  have N0 := Fr.nil n0
  have Z0 : n0 ≤ h0.size := O0.1 ▸ O0.2.1
  have pre0 : ∀ zt, Steps p.tables e below (s₁.setTop (mkF m 0 #[.val (.int wh), .val (.int fl), .val (.int ps), .val (.int ch), .unset, .unset, .unset, .unset, .unset, .unset, .unset, .unset, .unset] [])) zt → Steps p.tables e below (s₁.setTop (entryFrame m #[(.int wh), (.int fl), (.int ps), (.int ch)] maxLocals)) zt := fun zt zk => castTop (ef_0_IIII m wh fl ps ch) zk
  have hEL := own_EW hw
  have wS := own_wS hw
  have hS0 : s.Since s.vm 0 := (State.WarmedH.refl s).since 0
  have CR0 : CHr Z own_EL s.vm h0 s.vm h0 := CHr.refl HC
  have hZ0 := hZ
  have hown0 := hown
  obtain ⟨_, _, ⟨T1, L1, k1, n1⟩, -, X1, ⟨Lc1, hQ1, l1, y1, z1⟩, st1⟩ := Jvm.LawKit.callS X0 hx (y := (⟨"com/example/tsutsumi/tsutsumi/service/SchemaElementsIsBuiltInNamespacePinLaw", "uriChars", "(I)[C"⟩ : MethodName)) hown (mvT hZ (hw _ (List.mem_of_getElem? (i := 0) rfl))) (mvT hZ (hw _ (List.mem_of_getElem? (i := 1) rfl))) (mvT hZ (hw _ (List.mem_of_getElem? (i := 2) rfl))) (mvT hZ (hw _ (List.mem_of_getElem? (i := 3) rfl))) (by decide) (backOf (W := 0) (uri l Z a0 hw [] (own_k wh) h0 n0 (Nat.le_trans Z0 (Keep.refl h0 []).1) ) hZ (hw _ (List.mem_of_getElem? (i := 3) rfl)) (hw _ (List.mem_of_getElem? (i := 2) rfl)) (by decide) (by decide)) (g := (mkF m 8 #[.val (.int wh), .val (.int fl), .val (.int ps), .val (.int ch), .val (.int (own_k wh)), .unset, .unset, .unset, .unset, .unset, .unset, .unset, .unset] [(.int (own_k wh))])) rfl (by rw [hml]; rfl) (argsL := [(.int (own_k wh))]) (rest := []) (lenOf pd_9 rfl) rfl (by show 2 * 0 + _ ≤ _; exact Nat.le_of_eq rfl) (hb hby at_8) (fun _ _ => ⟨rfl, e0, (by decide : 0 + 1 ≤ _), (by decide : 0 + 41 ≤ _)⟩)
  dsimp only [Pt.U, Pt.locs, Pt.cells, Pt.slots] at X1 l1 y1 z1 st1 hQ1
  subst l1 y1 z1
  obtain ⟨r_1, kr_1, rfl, Nq1, kh1, fz_r_1, Po1_0⟩ := hQ1
  have N1 := Fr.app N0 Nq1
  have sz_r_1 : h0.size ≤ r_1 := Nat.le_trans (Keep.refl h0 []).1 fz_r_1
  have g_r_1 : n0 ≤ r_1 := Nat.le_trans Z0 sz_r_1
  have O1 := O0.keep kh1 all0
  have K1 : Keep h0 T1.heap [] := (Keep.refl h0 []).trans kh1 all0
  have hs1 : ∀ x ∈ ([] : List Addr), Safe Z own_EL s.vm h0 x := all0
  have CR1 := CR0.trans (CHr.keep kh1 hs1 CR0.1)
  obtain ⟨cl2, Ar2, -, Sz2, Ng2, -⟩ := (id Po1_0)
  obtain ⟨cl3, Ar3, q3, Sz3, Ng3, Hs3, Gs3⟩ := (id Po1_0)
  have hin3 : ¬ ((own_p ps wh) < 0 ∨ cl3.slots.size ≤ ((own_p ps wh)).toNatClampNeg) := inb_of Sz3 (own_pb ps wh)
  have hat3 : cl3.slots[((own_p ps wh)).toNatClampNeg]? = some (.int ((own_U (own_k wh)).getD (own_p ps wh).toNatClampNeg 0)) := Has.at Hs3 hin3 (own_gdp (own_pl ps wh))
  obtain ⟨cl4, Ar4, q4, Sz4, Ng4, Hs4, Gs4⟩ := (id Po1_0)
  have hin4 : ¬ ((own_p ps wh) < 0 ∨ cl4.slots.size ≤ ((own_p ps wh)).toNatClampNeg) := inb_of Sz4 (own_pb ps wh)
  obtain ⟨T4, h4, X4, e4, W4, st4⟩ := stC X1 hx hZ rfl Ar4 (j := (own_p ps wh)) hin4 (g := (mkF m 64 #[.val (.int wh), .val (.int fl), .val (.int ps), .val (.int ch), .val (.int (own_k wh)), .val (.ref r_1), .val (.int (1 : Int32)), .val (.int (own_p ps wh)), .val (.int (own_c ch)), .val (.int ((own_U (own_k wh)).getD (own_p ps wh).toNatClampNeg 0)), .val (.int (0 : Int32)), .unset, .unset] [(.int (own_c ch)), (.int (own_p ps wh)), (.ref r_1)])) rfl rfl (hb hby at_64)
  have Va4 := Arv.set Ar4 q4 Sz4 Ng4 Hs4 Gs4 (fits_nar_char _) W4 (own_p ps wh).toNatClampNeg rfl (by rw [List.length_map]; exact own_pl ps wh)
  have Sw4 : Safe Z own_EL s.vm T1.heap r_1 := (own_safe_arv hZ.alike Po1_0 (by decide))
  have O4 := O1.wr W4 g_r_1
  have K4 : Keep h0 h4 [] := K1.wr W4 (Or.inr sz_r_1)
  have N4 := Fr.snoc X4 N1 g_r_1
  have CR4 := CR1.trans (CHr.wr W4 Sw4 CR1.1)
  have V4 : Arv Z h4 r_1 kr_1 .char (Int32.ofNat (own_V wh ps ch).length) ((own_V wh ps ch).map Value.int) (.int (0 : Int32)) := by rw [own_V_len, ← own_Vmap]; exact Va4
  obtain ⟨T5, h5, X5, e5, E5, A5, D5, U5, st5⟩ := newO X4 hx hZ hown (hw _ (List.mem_of_getElem? (i := 7) rfl)) (hw _ (List.mem_of_getElem? (i := 8) rfl)) (hw _ (List.mem_of_getElem? (i := 9) rfl)) e4 (g := (mkF m 79 #[.val (.int wh), .val (.int fl), .val (.int ps), .val (.int ch), .val (.int (own_k wh)), .val (.ref r_1), .val (.int (1 : Int32)), .val (.int (own_p ps wh)), .val (.int (own_c ch)), .val (.int ((own_U (own_k wh)).getD (own_p ps wh).toNatClampNeg 0)), .val (.int (1 : Int32)), .unset, .unset] [])) rfl (hb hby at_79) (by decide) (by decide)
  obtain ⟨b5, gz5⟩ : ∃ z, z = h4.size := ⟨_, rfl⟩
  rw [← gz5] at A5 D5 U5 st5
  have sz_b5 : h0.size ≤ b5 := Nat.le_trans K4.1 (Nat.le_of_eq gz5.symm)
  have g_b5 : n0 ≤ b5 := Nat.le_trans Z0 sz_b5
  have O5 := O4.ext E5
  have K5 : Keep h0 h5 [] := K4.ext E5
  have CR5 := CR4.trans (CHr.ext E5 CR4.1)
  have Sn5 : Safe Z own_EL s.vm h5 b5 := Safe.ext E5 CR4.1 (Safe.new (Nat.le_of_eq gz5.symm))
  have Fi5_33 : Fld Z h5 b5 "java/lang/String" "coder" "B" (.int (0 : Int32)) := D5 (Or.inr (hw _ (List.mem_of_getElem? (i := 33) rfl))) (ty := .byte) (by decide)
  have Fi5_35 : Fld Z h5 b5 "java/lang/String" "value" "[B" .null := D5 (Or.inr (hw _ (List.mem_of_getElem? (i := 35) rfl))) (ty := (.array .byte)) (by decide)
  obtain ⟨_, _, ⟨T6, L6, k6, n6⟩, -, X6, ⟨Lc6, hQ6, l6, y6, z6⟩, st6⟩ := X5.specialBack hx (y := (⟨"java/lang/String", "<init>", "([C)V"⟩ : MethodName)) rfl hown (mvT hZ (hw _ (List.mem_of_getElem? (i := 10) rfl))) (mvT hZ (hw _ (List.mem_of_getElem? (i := 11) rfl))) (mvT hZ (hw _ (List.mem_of_getElem? (i := 12) rfl))) (by decide) (backOf (W := 1) (siU l Z a0 hw [] b5 r_1 kr_1 (own_V wh ps ch) ((own_p ps wh).toNatClampNeg) cz h5 n0 O5 G0 G1 G2 G3 A5 Fi5_35 Fi5_33 (V4.ext E5) g_b5 hcs (own_V_l0 wh ps ch).2 (own_V_pl wh ps ch) (own_V_pre wh ps ch) (own_V_at hlat) (own_V_all wh ps ch)) hZ (hw _ (List.mem_of_getElem? (i := 12) rfl)) (hw _ (List.mem_of_getElem? (i := 9) rfl)) (by decide) (by decide)) (g := (mkF m 85 #[.val (.int wh), .val (.int fl), .val (.int ps), .val (.int ch), .val (.int (own_k wh)), .val (.ref r_1), .val (.int (1 : Int32)), .val (.int (own_p ps wh)), .val (.int (own_c ch)), .val (.int ((own_U (own_k wh)).getD (own_p ps wh).toNatClampNeg 0)), .val (.int (1 : Int32)), .unset, .unset] [(.ref r_1), (.ref b5), (.ref b5)])) rfl (by rw [hml]; rfl) (Steps.refl _) (a := b5) (argsL := [(.ref r_1)]) (rest := [(.ref b5)]) (lenOf pd_10 rfl) rfl (by show 2 * 0 + _ ≤ _; exact Nat.le_of_eq rfl) (hb hby at_85) (fun _ _ => ⟨rfl, e5, (by decide : 2 + 2 ≤ _), (by decide : 45 + 123 ≤ _)⟩)
  dsimp only [Pt.U, Pt.locs, Pt.cells, Pt.slots] at X6 l6 y6 z6 st6 hQ6
  subst l6 y6 z6
  obtain ⟨rfl, Nq6, kh6, Po6_0, Po6_1⟩ := hQ6
  have N6 := Fr.app N4 Nq6
  have O6 := O5.keep kh6 (allS g_b5 all0)
  have K6 : Keep h0 T6.heap [] := K5.trans kh6 (allS (Or.inr sz_b5) all0)
  have hs6 : ∀ x ∈ ([b5] : List Addr), Safe Z own_EL s.vm h5 x := (allS Sn5 all0)
  have CR6 := CR5.trans (CHr.keep kh6 hs6 CR5.1)
  have Sy6_b5 := Safe.keep kh6 hs6 CR5.1 Sn5
  obtain ⟨_, _, ⟨T7, L7, k7, n7⟩, -, Xr7, hSr7, hg7, ⟨Lc7, hQ7, l7, y7, z7, CL7⟩, st7⟩ := callSS X6 hx (y := (⟨"com/example/tsutsumi/tsutsumi/service/SchemaElements", "isBuiltInNamespace", "(Ljava/lang/String;)Z"⟩ : MethodName)) hown (mvT hZ (hw _ (List.mem_of_getElem? (i := 36) rfl))) (mvT hZ (hw _ (List.mem_of_getElem? (i := 37) rfl))) (mvT hZ (hw _ (List.mem_of_getElem? (i := 38) rfl))) (mvT hZ (hw _ (List.mem_of_getElem? (i := 39) rfl))) (by decide) (own_backSH (s := s) (vm0 := s.vm) (W := 0) (biU l Z a0 hw [] b5 cz T6.heap n0 O6 G0 Po6_0 Po6_1 hcs) hZ (hw _ (List.mem_of_getElem? (i := 39) rfl)) (hw _ (List.mem_of_getElem? (i := 38) rfl)) (by decide) (by decide) hEL CR6.1 (allS ⟨(Po6_0).lt, Sy6_b5⟩ all0)) (g := (mkF m 110 #[.val (.int wh), .val (.int fl), .val (.int ps), .val (.int ch), .val (.int (own_k wh)), .val (.ref r_1), .val (.int (1 : Int32)), .val (.int (own_p ps wh)), .val (.int (own_c ch)), .val (.int ((own_U (own_k wh)).getD (own_p ps wh).toNatClampNeg 0)), .val (.int (1 : Int32)), .val (.ref b5), .val (.int (0 : Int32))] [(.ref b5)])) rfl (by rw [hml]; rfl) (argsL := [(.ref b5)]) (rest := []) (lenOf pd_11 rfl) rfl (by show 2 * 0 + _ ≤ _; exact Nat.le_of_eq rfl) (hb hby at_110) (fun _ _ => ⟨rfl, rfl, (by decide : 4 + 8 ≤ _), (by decide : 168 + 576 ≤ _)⟩)
  dsimp only [Pt.U, Pt.locs, Pt.cells, Pt.slots] at Xr7 l7 y7 z7 st7 hQ7 hSr7 hg7 CL7
  subst l7 y7 z7
  obtain ⟨X7, hS7, hZ, hown⟩ := rebS (s := s) (vm0 := s.vm) hS0 (own_hk rfl (Nat.le_trans (Nat.le_trans (Nat.le_trans (Nat.le_trans (Nat.zero_le _) kh1.1) (Keep.of_wr W4).1) E5.1) kh6.1)) Xr7 hSr7 hg7 hZ hown
  obtain ⟨rfl, Nq7, kh7⟩ := hQ7
  have N7 := Fr.app N6 Nq7
  have hZ7 := hZ
  have hown7 := hown
  have O7 := O6.keep kh7 all0
  have K7 : Keep h0 T7.heap [] := K6.trans kh7 all0
  have CR7 := CR6.trans CL7
  have Sy7_b5 := CL7.safe (Po6_0).lt Sy6_b5
  obtain ⟨fs, hr, hrun, hended, hRW⟩ := X7.leaveW (s := s) hS7 (own_hk rfl (Nat.le_refl _)) (v := some (.int (1 : Int32))) (fun h => by rw [Bd.returns] at h; cases h)
  have CE := CR7.trans (CHv.at (s := s) (vm0 := T7.vm) X7 hZ hEL CR7.1)
  refine ⟨_, _, pre0 _ ?_, hrun, hended, _, _, rfl, ?_, ?_, own_rw_mono hRW (by decide) (by decide)⟩
  · show Steps p.tables e below (s₁.setTop (mkF m 0 #[.val (.int wh), .val (.int fl), .val (.int ps), .val (.int ch), .unset, .unset, .unset, .unset, .unset, .unset, .unset, .unset, .unset] [])) _
    refine XS.iloadN X0.here hx rfl (hb hby at_0) rfl ?_
    show Steps p.tables e below (s₁.setTop (mkF m 1 #[.val (.int wh), .val (.int fl), .val (.int ps), .val (.int ch), .unset, .unset, .unset, .unset, .unset, .unset, .unset, .unset, .unset] [(.int wh)])) _
    refine XS.bipush X0.here hx rfl (hb hby at_1) ?_
    show Steps p.tables e below (s₁.setTop (mkF m 3 #[.val (.int wh), .val (.int fl), .val (.int ps), .val (.int ch), .unset, .unset, .unset, .unset, .unset, .unset, .unset, .unset, .unset] [(.int (7 : Int32)), (.int wh)])) _
    refine XS.iand X0.here hx rfl (hb hby at_3) rfl ?_
    show Steps p.tables e below (s₁.setTop (mkF m 4 #[.val (.int wh), .val (.int fl), .val (.int ps), .val (.int ch), .unset, .unset, .unset, .unset, .unset, .unset, .unset, .unset, .unset] [(.int (wh &&& (7 : Int32)))])) _
    refine castTop (congrArg (fun z_ => (mkF m 4 #[.val (.int wh), .val (.int fl), .val (.int ps), .val (.int ch), .unset, .unset, .unset, .unset, .unset, .unset, .unset, .unset, .unset] [(.int z_)])) (rfl : (wh &&& (7 : Int32)) = (own_k wh))) ?_
    show Steps p.tables e below (s₁.setTop (mkF m 4 #[.val (.int wh), .val (.int fl), .val (.int ps), .val (.int ch), .unset, .unset, .unset, .unset, .unset, .unset, .unset, .unset, .unset] [(.int (own_k wh))])) _
    refine XS.istore X0.here hx rfl (hb hby at_4) rfl (l' := #[.val (.int wh), .val (.int fl), .val (.int ps), .val (.int ch), .val (.int (own_k wh)), .unset, .unset, .unset, .unset, .unset, .unset, .unset, .unset]) rfl ?_
    show Steps p.tables e below (s₁.setTop (mkF m 6 #[.val (.int wh), .val (.int fl), .val (.int ps), .val (.int ch), .val (.int (own_k wh)), .unset, .unset, .unset, .unset, .unset, .unset, .unset, .unset] [])) _
    refine XS.iload X0.here hx rfl (hb hby at_6) rfl ?_
    show Steps p.tables e below (s₁.setTop (mkF m 8 #[.val (.int wh), .val (.int fl), .val (.int ps), .val (.int ch), .val (.int (own_k wh)), .unset, .unset, .unset, .unset, .unset, .unset, .unset, .unset] [(.int (own_k wh))])) _
    refine st1 _ ?_
    show Steps p.tables e below (T1.setTop (mkF m 11 #[.val (.int wh), .val (.int fl), .val (.int ps), .val (.int ch), .val (.int (own_k wh)), .unset, .unset, .unset, .unset, .unset, .unset, .unset, .unset] [(.ref r_1)])) _
    refine XS.astore X1.here hx rfl (hb hby at_11) rfl rfl (l' := #[.val (.int wh), .val (.int fl), .val (.int ps), .val (.int ch), .val (.int (own_k wh)), .val (.ref r_1), .unset, .unset, .unset, .unset, .unset, .unset, .unset]) rfl ?_
    show Steps p.tables e below (T1.setTop (mkF m 13 #[.val (.int wh), .val (.int fl), .val (.int ps), .val (.int ch), .val (.int (own_k wh)), .val (.ref r_1), .unset, .unset, .unset, .unset, .unset, .unset, .unset] [])) _
    refine XS.iloadN X1.here hx rfl (hb hby at_13) rfl ?_
    show Steps p.tables e below (T1.setTop (mkF m 14 #[.val (.int wh), .val (.int fl), .val (.int ps), .val (.int ch), .val (.int (own_k wh)), .val (.ref r_1), .unset, .unset, .unset, .unset, .unset, .unset, .unset] [(.int fl)])) _
    refine XS.iconst X1.here hx rfl (hb hby at_14) ?_
    show Steps p.tables e below (T1.setTop (mkF m 15 #[.val (.int wh), .val (.int fl), .val (.int ps), .val (.int ch), .val (.int (own_k wh)), .val (.ref r_1), .unset, .unset, .unset, .unset, .unset, .unset, .unset] [(.int (1 : Int32)), (.int fl)])) _
    refine XS.iand X1.here hx rfl (hb hby at_15) rfl ?_
    show Steps p.tables e below (T1.setTop (mkF m 16 #[.val (.int wh), .val (.int fl), .val (.int ps), .val (.int ch), .val (.int (own_k wh)), .val (.ref r_1), .unset, .unset, .unset, .unset, .unset, .unset, .unset] [(.int (fl &&& (1 : Int32)))])) _
    refine XS.ifNo X1.here hx rfl (hb hby at_16) rfl ((if0 _ _).trans (feq (hf : ¬ ((fl &&& (1 : Int32)) = (0 : Int32)))).1) ?_
    show Steps p.tables e below (T1.setTop (mkF m 19 #[.val (.int wh), .val (.int fl), .val (.int ps), .val (.int ch), .val (.int (own_k wh)), .val (.ref r_1), .unset, .unset, .unset, .unset, .unset, .unset, .unset] [])) _
    refine XS.iconst X1.here hx rfl (hb hby at_19) ?_
    show Steps p.tables e below (T1.setTop (mkF m 20 #[.val (.int wh), .val (.int fl), .val (.int ps), .val (.int ch), .val (.int (own_k wh)), .val (.ref r_1), .unset, .unset, .unset, .unset, .unset, .unset, .unset] [(.int (1 : Int32))])) _
    refine XS.goto X1.here hx rfl (pc0 := 20) (pc' := 24) rfl (hb hby at_20) (by decide) (by decide) ?_
    show Steps p.tables e below (T1.setTop (mkF m 24 #[.val (.int wh), .val (.int fl), .val (.int ps), .val (.int ch), .val (.int (own_k wh)), .val (.ref r_1), .unset, .unset, .unset, .unset, .unset, .unset, .unset] [(.int (1 : Int32))])) _
    refine XS.istore X1.here hx rfl (hb hby at_24) rfl (l' := #[.val (.int wh), .val (.int fl), .val (.int ps), .val (.int ch), .val (.int (own_k wh)), .val (.ref r_1), .val (.int (1 : Int32)), .unset, .unset, .unset, .unset, .unset, .unset]) rfl ?_
    show Steps p.tables e below (T1.setTop (mkF m 26 #[.val (.int wh), .val (.int fl), .val (.int ps), .val (.int ch), .val (.int (own_k wh)), .val (.ref r_1), .val (.int (1 : Int32)), .unset, .unset, .unset, .unset, .unset, .unset] [])) _
    refine XS.iloadN X1.here hx rfl (hb hby at_26) rfl ?_
    show Steps p.tables e below (T1.setTop (mkF m 27 #[.val (.int wh), .val (.int fl), .val (.int ps), .val (.int ch), .val (.int (own_k wh)), .val (.ref r_1), .val (.int (1 : Int32)), .unset, .unset, .unset, .unset, .unset, .unset] [(.int ps)])) _
    refine X1.ldcInt hx hown0 (mvT hZ0 (hw _ (List.mem_of_getElem? (i := 5) rfl))) (g := (mkF m 27 #[.val (.int wh), .val (.int fl), .val (.int ps), .val (.int ch), .val (.int (own_k wh)), .val (.ref r_1), .val (.int (1 : Int32)), .unset, .unset, .unset, .unset, .unset, .unset] [(.int ps)])) rfl (hb hby at_27) _ ?_
    show Steps p.tables e below (T1.setTop (mkF m 29 #[.val (.int wh), .val (.int fl), .val (.int ps), .val (.int ch), .val (.int (own_k wh)), .val (.ref r_1), .val (.int (1 : Int32)), .unset, .unset, .unset, .unset, .unset, .unset] [(.int (2147483647 : Int32)), (.int ps)])) _
    refine XS.iand X1.here hx rfl (hb hby at_29) rfl ?_
    show Steps p.tables e below (T1.setTop (mkF m 30 #[.val (.int wh), .val (.int fl), .val (.int ps), .val (.int ch), .val (.int (own_k wh)), .val (.ref r_1), .val (.int (1 : Int32)), .unset, .unset, .unset, .unset, .unset, .unset] [(.int (ps &&& (2147483647 : Int32)))])) _
    refine XS.aload X1.here hx rfl (hb hby at_30) rfl rfl ?_
    show Steps p.tables e below (T1.setTop (mkF m 32 #[.val (.int wh), .val (.int fl), .val (.int ps), .val (.int ch), .val (.int (own_k wh)), .val (.ref r_1), .val (.int (1 : Int32)), .unset, .unset, .unset, .unset, .unset, .unset] [(.ref r_1), (.int (ps &&& (2147483647 : Int32)))])) _
    refine X1.arraylength hx (Ar2.at_ rfl) (State.isArrayOf_alike hZ0.alike Ar2.2.1) (g := (mkF m 32 #[.val (.int wh), .val (.int fl), .val (.int ps), .val (.int ch), .val (.int (own_k wh)), .val (.ref r_1), .val (.int (1 : Int32)), .unset, .unset, .unset, .unset, .unset, .unset] [(.ref r_1), (.int (ps &&& (2147483647 : Int32)))])) rfl rfl (hb hby at_32) _ ?_
    rw [len_of Sz2 Ng2]
    show Steps p.tables e below (T1.setTop (mkF m 33 #[.val (.int wh), .val (.int fl), .val (.int ps), .val (.int ch), .val (.int (own_k wh)), .val (.ref r_1), .val (.int (1 : Int32)), .unset, .unset, .unset, .unset, .unset, .unset] [(.int (Int32.ofNat (own_U (own_k wh)).length)), (.int (ps &&& (2147483647 : Int32)))])) _
    refine iremM X1 hx rfl (hb hby at_33) rfl (own_ndz _) ?_
    show Steps p.tables e below (T1.setTop (mkF m 34 #[.val (.int wh), .val (.int fl), .val (.int ps), .val (.int ch), .val (.int (own_k wh)), .val (.ref r_1), .val (.int (1 : Int32)), .unset, .unset, .unset, .unset, .unset, .unset] [(.int ((ps &&& (2147483647 : Int32)) % (Int32.ofNat (own_U (own_k wh)).length)))])) _
    refine castTop (congrArg (fun z_ => (mkF m 34 #[.val (.int wh), .val (.int fl), .val (.int ps), .val (.int ch), .val (.int (own_k wh)), .val (.ref r_1), .val (.int (1 : Int32)), .unset, .unset, .unset, .unset, .unset, .unset] [(.int z_)])) (rfl : ((ps &&& (2147483647 : Int32)) % (Int32.ofNat (own_U (own_k wh)).length)) = (own_p ps wh))) ?_
    show Steps p.tables e below (T1.setTop (mkF m 34 #[.val (.int wh), .val (.int fl), .val (.int ps), .val (.int ch), .val (.int (own_k wh)), .val (.ref r_1), .val (.int (1 : Int32)), .unset, .unset, .unset, .unset, .unset, .unset] [(.int (own_p ps wh))])) _
    refine XS.istore X1.here hx rfl (hb hby at_34) rfl (l' := #[.val (.int wh), .val (.int fl), .val (.int ps), .val (.int ch), .val (.int (own_k wh)), .val (.ref r_1), .val (.int (1 : Int32)), .val (.int (own_p ps wh)), .unset, .unset, .unset, .unset, .unset]) rfl ?_
    show Steps p.tables e below (T1.setTop (mkF m 36 #[.val (.int wh), .val (.int fl), .val (.int ps), .val (.int ch), .val (.int (own_k wh)), .val (.ref r_1), .val (.int (1 : Int32)), .val (.int (own_p ps wh)), .unset, .unset, .unset, .unset, .unset] [])) _
    refine XS.iloadN X1.here hx rfl (hb hby at_36) rfl ?_
    show Steps p.tables e below (T1.setTop (mkF m 37 #[.val (.int wh), .val (.int fl), .val (.int ps), .val (.int ch), .val (.int (own_k wh)), .val (.ref r_1), .val (.int (1 : Int32)), .val (.int (own_p ps wh)), .unset, .unset, .unset, .unset, .unset] [(.int ch)])) _
    refine X1.ldcInt hx hown0 (mvT hZ0 (hw _ (List.mem_of_getElem? (i := 6) rfl))) (g := (mkF m 37 #[.val (.int wh), .val (.int fl), .val (.int ps), .val (.int ch), .val (.int (own_k wh)), .val (.ref r_1), .val (.int (1 : Int32)), .val (.int (own_p ps wh)), .unset, .unset, .unset, .unset, .unset] [(.int ch)])) rfl (hb hby at_37) _ ?_
    show Steps p.tables e below (T1.setTop (mkF m 39 #[.val (.int wh), .val (.int fl), .val (.int ps), .val (.int ch), .val (.int (own_k wh)), .val (.ref r_1), .val (.int (1 : Int32)), .val (.int (own_p ps wh)), .unset, .unset, .unset, .unset, .unset] [(.int (65535 : Int32)), (.int ch)])) _
    refine XS.iand X1.here hx rfl (hb hby at_39) rfl ?_
    show Steps p.tables e below (T1.setTop (mkF m 40 #[.val (.int wh), .val (.int fl), .val (.int ps), .val (.int ch), .val (.int (own_k wh)), .val (.ref r_1), .val (.int (1 : Int32)), .val (.int (own_p ps wh)), .unset, .unset, .unset, .unset, .unset] [(.int (ch &&& (65535 : Int32)))])) _
    refine XS.i2c X1.here hx rfl (hb hby at_40) rfl ?_
    show Steps p.tables e below (T1.setTop (mkF m 41 #[.val (.int wh), .val (.int fl), .val (.int ps), .val (.int ch), .val (.int (own_k wh)), .val (.ref r_1), .val (.int (1 : Int32)), .val (.int (own_p ps wh)), .unset, .unset, .unset, .unset, .unset] [(.int ((ch &&& (65535 : Int32)).toUInt32.toUInt16.toUInt32.toInt32))])) _
    refine castTop (congrArg (fun z_ => (mkF m 41 #[.val (.int wh), .val (.int fl), .val (.int ps), .val (.int ch), .val (.int (own_k wh)), .val (.ref r_1), .val (.int (1 : Int32)), .val (.int (own_p ps wh)), .unset, .unset, .unset, .unset, .unset] [(.int z_)])) (rfl : ((ch &&& (65535 : Int32)).toUInt32.toUInt16.toUInt32.toInt32) = (own_c ch))) ?_
    show Steps p.tables e below (T1.setTop (mkF m 41 #[.val (.int wh), .val (.int fl), .val (.int ps), .val (.int ch), .val (.int (own_k wh)), .val (.ref r_1), .val (.int (1 : Int32)), .val (.int (own_p ps wh)), .unset, .unset, .unset, .unset, .unset] [(.int (own_c ch))])) _
    refine XS.istore X1.here hx rfl (hb hby at_41) rfl (l' := #[.val (.int wh), .val (.int fl), .val (.int ps), .val (.int ch), .val (.int (own_k wh)), .val (.ref r_1), .val (.int (1 : Int32)), .val (.int (own_p ps wh)), .val (.int (own_c ch)), .unset, .unset, .unset, .unset]) rfl ?_
    show Steps p.tables e below (T1.setTop (mkF m 43 #[.val (.int wh), .val (.int fl), .val (.int ps), .val (.int ch), .val (.int (own_k wh)), .val (.ref r_1), .val (.int (1 : Int32)), .val (.int (own_p ps wh)), .val (.int (own_c ch)), .unset, .unset, .unset, .unset] [])) _
    refine XS.aload X1.here hx rfl (hb hby at_43) rfl rfl ?_
    show Steps p.tables e below (T1.setTop (mkF m 45 #[.val (.int wh), .val (.int fl), .val (.int ps), .val (.int ch), .val (.int (own_k wh)), .val (.ref r_1), .val (.int (1 : Int32)), .val (.int (own_p ps wh)), .val (.int (own_c ch)), .unset, .unset, .unset, .unset] [(.ref r_1)])) _
    refine XS.iload X1.here hx rfl (hb hby at_45) rfl ?_
    show Steps p.tables e below (T1.setTop (mkF m 47 #[.val (.int wh), .val (.int fl), .val (.int ps), .val (.int ch), .val (.int (own_k wh)), .val (.ref r_1), .val (.int (1 : Int32)), .val (.int (own_p ps wh)), .val (.int (own_c ch)), .unset, .unset, .unset, .unset] [(.int (own_p ps wh)), (.ref r_1)])) _
    refine X1.caload hx (j := (own_p ps wh)) (v := (.int ((own_U (own_k wh)).getD (own_p ps wh).toNatClampNeg 0))) (Ar3.at_ rfl) (State.isArrayOf_alike hZ0.alike Ar3.2.1) Ar3.2.2 hin3 hat3 (g := (mkF m 47 #[.val (.int wh), .val (.int fl), .val (.int ps), .val (.int ch), .val (.int (own_k wh)), .val (.ref r_1), .val (.int (1 : Int32)), .val (.int (own_p ps wh)), .val (.int (own_c ch)), .unset, .unset, .unset, .unset] [(.int (own_p ps wh)), (.ref r_1)])) rfl rfl (hb hby at_47) _ ?_
    show Steps p.tables e below (T1.setTop (mkF m 48 #[.val (.int wh), .val (.int fl), .val (.int ps), .val (.int ch), .val (.int (own_k wh)), .val (.ref r_1), .val (.int (1 : Int32)), .val (.int (own_p ps wh)), .val (.int (own_c ch)), .unset, .unset, .unset, .unset] [(.int ((own_U (own_k wh)).getD (own_p ps wh).toNatClampNeg 0))])) _
    refine XS.istore X1.here hx rfl (hb hby at_48) rfl (l' := #[.val (.int wh), .val (.int fl), .val (.int ps), .val (.int ch), .val (.int (own_k wh)), .val (.ref r_1), .val (.int (1 : Int32)), .val (.int (own_p ps wh)), .val (.int (own_c ch)), .val (.int ((own_U (own_k wh)).getD (own_p ps wh).toNatClampNeg 0)), .unset, .unset, .unset]) rfl ?_
    show Steps p.tables e below (T1.setTop (mkF m 50 #[.val (.int wh), .val (.int fl), .val (.int ps), .val (.int ch), .val (.int (own_k wh)), .val (.ref r_1), .val (.int (1 : Int32)), .val (.int (own_p ps wh)), .val (.int (own_c ch)), .val (.int ((own_U (own_k wh)).getD (own_p ps wh).toNatClampNeg 0)), .unset, .unset, .unset] [])) _
    refine XS.iconst X1.here hx rfl (hb hby at_50) ?_
    show Steps p.tables e below (T1.setTop (mkF m 51 #[.val (.int wh), .val (.int fl), .val (.int ps), .val (.int ch), .val (.int (own_k wh)), .val (.ref r_1), .val (.int (1 : Int32)), .val (.int (own_p ps wh)), .val (.int (own_c ch)), .val (.int ((own_U (own_k wh)).getD (own_p ps wh).toNatClampNeg 0)), .unset, .unset, .unset] [(.int (0 : Int32))])) _
    refine XS.istore X1.here hx rfl (hb hby at_51) rfl (l' := #[.val (.int wh), .val (.int fl), .val (.int ps), .val (.int ch), .val (.int (own_k wh)), .val (.ref r_1), .val (.int (1 : Int32)), .val (.int (own_p ps wh)), .val (.int (own_c ch)), .val (.int ((own_U (own_k wh)).getD (own_p ps wh).toNatClampNeg 0)), .val (.int (0 : Int32)), .unset, .unset]) rfl ?_
    show Steps p.tables e below (T1.setTop (mkF m 53 #[.val (.int wh), .val (.int fl), .val (.int ps), .val (.int ch), .val (.int (own_k wh)), .val (.ref r_1), .val (.int (1 : Int32)), .val (.int (own_p ps wh)), .val (.int (own_c ch)), .val (.int ((own_U (own_k wh)).getD (own_p ps wh).toNatClampNeg 0)), .val (.int (0 : Int32)), .unset, .unset] [])) _
    refine XS.iload X1.here hx rfl (hb hby at_53) rfl ?_
    show Steps p.tables e below (T1.setTop (mkF m 55 #[.val (.int wh), .val (.int fl), .val (.int ps), .val (.int ch), .val (.int (own_k wh)), .val (.ref r_1), .val (.int (1 : Int32)), .val (.int (own_p ps wh)), .val (.int (own_c ch)), .val (.int ((own_U (own_k wh)).getD (own_p ps wh).toNatClampNeg 0)), .val (.int (0 : Int32)), .unset, .unset] [(.int (1 : Int32))])) _
    refine XS.ifNo X1.here hx rfl (hb hby at_55) rfl ((if0 _ _).trans (feq (by decide : ¬ ((1 : Int32) = (0 : Int32)))).1) ?_
    show Steps p.tables e below (T1.setTop (mkF m 58 #[.val (.int wh), .val (.int fl), .val (.int ps), .val (.int ch), .val (.int (own_k wh)), .val (.ref r_1), .val (.int (1 : Int32)), .val (.int (own_p ps wh)), .val (.int (own_c ch)), .val (.int ((own_U (own_k wh)).getD (own_p ps wh).toNatClampNeg 0)), .val (.int (0 : Int32)), .unset, .unset] [])) _
    refine XS.aload X1.here hx rfl (hb hby at_58) rfl rfl ?_
    show Steps p.tables e below (T1.setTop (mkF m 60 #[.val (.int wh), .val (.int fl), .val (.int ps), .val (.int ch), .val (.int (own_k wh)), .val (.ref r_1), .val (.int (1 : Int32)), .val (.int (own_p ps wh)), .val (.int (own_c ch)), .val (.int ((own_U (own_k wh)).getD (own_p ps wh).toNatClampNeg 0)), .val (.int (0 : Int32)), .unset, .unset] [(.ref r_1)])) _
    refine XS.iload X1.here hx rfl (hb hby at_60) rfl ?_
    show Steps p.tables e below (T1.setTop (mkF m 62 #[.val (.int wh), .val (.int fl), .val (.int ps), .val (.int ch), .val (.int (own_k wh)), .val (.ref r_1), .val (.int (1 : Int32)), .val (.int (own_p ps wh)), .val (.int (own_c ch)), .val (.int ((own_U (own_k wh)).getD (own_p ps wh).toNatClampNeg 0)), .val (.int (0 : Int32)), .unset, .unset] [(.int (own_p ps wh)), (.ref r_1)])) _
    refine XS.iload X1.here hx rfl (hb hby at_62) rfl ?_
    show Steps p.tables e below (T1.setTop (mkF m 64 #[.val (.int wh), .val (.int fl), .val (.int ps), .val (.int ch), .val (.int (own_k wh)), .val (.ref r_1), .val (.int (1 : Int32)), .val (.int (own_p ps wh)), .val (.int (own_c ch)), .val (.int ((own_U (own_k wh)).getD (own_p ps wh).toNatClampNeg 0)), .val (.int (0 : Int32)), .unset, .unset] [(.int (own_c ch)), (.int (own_p ps wh)), (.ref r_1)])) _
    refine st4 _ ?_
    show Steps p.tables e below (T4.setTop (mkF m 65 #[.val (.int wh), .val (.int fl), .val (.int ps), .val (.int ch), .val (.int (own_k wh)), .val (.ref r_1), .val (.int (1 : Int32)), .val (.int (own_p ps wh)), .val (.int (own_c ch)), .val (.int ((own_U (own_k wh)).getD (own_p ps wh).toNatClampNeg 0)), .val (.int (0 : Int32)), .unset, .unset] [])) _
    refine XS.iload X4.here hx rfl (hb hby at_65) rfl ?_
    show Steps p.tables e below (T4.setTop (mkF m 67 #[.val (.int wh), .val (.int fl), .val (.int ps), .val (.int ch), .val (.int (own_k wh)), .val (.ref r_1), .val (.int (1 : Int32)), .val (.int (own_p ps wh)), .val (.int (own_c ch)), .val (.int ((own_U (own_k wh)).getD (own_p ps wh).toNatClampNeg 0)), .val (.int (0 : Int32)), .unset, .unset] [(.int ((own_U (own_k wh)).getD (own_p ps wh).toNatClampNeg 0))])) _
    refine XS.iload X4.here hx rfl (hb hby at_67) rfl ?_
    show Steps p.tables e below (T4.setTop (mkF m 69 #[.val (.int wh), .val (.int fl), .val (.int ps), .val (.int ch), .val (.int (own_k wh)), .val (.ref r_1), .val (.int (1 : Int32)), .val (.int (own_p ps wh)), .val (.int (own_c ch)), .val (.int ((own_U (own_k wh)).getD (own_p ps wh).toNatClampNeg 0)), .val (.int (0 : Int32)), .unset, .unset] [(.int (own_c ch)), (.int ((own_U (own_k wh)).getD (own_p ps wh).toNatClampNeg 0))])) _
    refine XS.icmpNo X4.here hx rfl (hb hby at_69) rfl (feq (hch : ¬ (((own_U (own_k wh)).getD (own_p ps wh).toNatClampNeg 0) = (own_c ch)))).1 ?_
    show Steps p.tables e below (T4.setTop (mkF m 72 #[.val (.int wh), .val (.int fl), .val (.int ps), .val (.int ch), .val (.int (own_k wh)), .val (.ref r_1), .val (.int (1 : Int32)), .val (.int (own_p ps wh)), .val (.int (own_c ch)), .val (.int ((own_U (own_k wh)).getD (own_p ps wh).toNatClampNeg 0)), .val (.int (0 : Int32)), .unset, .unset] [])) _
    refine XS.iconst X4.here hx rfl (hb hby at_72) ?_
    show Steps p.tables e below (T4.setTop (mkF m 73 #[.val (.int wh), .val (.int fl), .val (.int ps), .val (.int ch), .val (.int (own_k wh)), .val (.ref r_1), .val (.int (1 : Int32)), .val (.int (own_p ps wh)), .val (.int (own_c ch)), .val (.int ((own_U (own_k wh)).getD (own_p ps wh).toNatClampNeg 0)), .val (.int (0 : Int32)), .unset, .unset] [(.int (1 : Int32))])) _
    refine XS.goto X4.here hx rfl (pc0 := 73) (pc' := 77) rfl (hb hby at_73) (by decide) (by decide) ?_
    show Steps p.tables e below (T4.setTop (mkF m 77 #[.val (.int wh), .val (.int fl), .val (.int ps), .val (.int ch), .val (.int (own_k wh)), .val (.ref r_1), .val (.int (1 : Int32)), .val (.int (own_p ps wh)), .val (.int (own_c ch)), .val (.int ((own_U (own_k wh)).getD (own_p ps wh).toNatClampNeg 0)), .val (.int (0 : Int32)), .unset, .unset] [(.int (1 : Int32))])) _
    refine XS.istore X4.here hx rfl (hb hby at_77) rfl (l' := #[.val (.int wh), .val (.int fl), .val (.int ps), .val (.int ch), .val (.int (own_k wh)), .val (.ref r_1), .val (.int (1 : Int32)), .val (.int (own_p ps wh)), .val (.int (own_c ch)), .val (.int ((own_U (own_k wh)).getD (own_p ps wh).toNatClampNeg 0)), .val (.int (1 : Int32)), .unset, .unset]) rfl ?_
    show Steps p.tables e below (T4.setTop (mkF m 79 #[.val (.int wh), .val (.int fl), .val (.int ps), .val (.int ch), .val (.int (own_k wh)), .val (.ref r_1), .val (.int (1 : Int32)), .val (.int (own_p ps wh)), .val (.int (own_c ch)), .val (.int ((own_U (own_k wh)).getD (own_p ps wh).toNatClampNeg 0)), .val (.int (1 : Int32)), .unset, .unset] [])) _
    refine st5 _ ?_
    show Steps p.tables e below (T5.setTop (mkF m 82 #[.val (.int wh), .val (.int fl), .val (.int ps), .val (.int ch), .val (.int (own_k wh)), .val (.ref r_1), .val (.int (1 : Int32)), .val (.int (own_p ps wh)), .val (.int (own_c ch)), .val (.int ((own_U (own_k wh)).getD (own_p ps wh).toNatClampNeg 0)), .val (.int (1 : Int32)), .unset, .unset] [(.ref b5)])) _
    refine XS.dup X5.here hx rfl (hb hby at_82) rfl rfl ?_
    show Steps p.tables e below (T5.setTop (mkF m 83 #[.val (.int wh), .val (.int fl), .val (.int ps), .val (.int ch), .val (.int (own_k wh)), .val (.ref r_1), .val (.int (1 : Int32)), .val (.int (own_p ps wh)), .val (.int (own_c ch)), .val (.int ((own_U (own_k wh)).getD (own_p ps wh).toNatClampNeg 0)), .val (.int (1 : Int32)), .unset, .unset] [(.ref b5), (.ref b5)])) _
    refine XS.aload X5.here hx rfl (hb hby at_83) rfl rfl ?_
    show Steps p.tables e below (T5.setTop (mkF m 85 #[.val (.int wh), .val (.int fl), .val (.int ps), .val (.int ch), .val (.int (own_k wh)), .val (.ref r_1), .val (.int (1 : Int32)), .val (.int (own_p ps wh)), .val (.int (own_c ch)), .val (.int ((own_U (own_k wh)).getD (own_p ps wh).toNatClampNeg 0)), .val (.int (1 : Int32)), .unset, .unset] [(.ref r_1), (.ref b5), (.ref b5)])) _
    refine st6.trans ?_
    show Steps p.tables e below (T6.setTop (mkF m 88 #[.val (.int wh), .val (.int fl), .val (.int ps), .val (.int ch), .val (.int (own_k wh)), .val (.ref r_1), .val (.int (1 : Int32)), .val (.int (own_p ps wh)), .val (.int (own_c ch)), .val (.int ((own_U (own_k wh)).getD (own_p ps wh).toNatClampNeg 0)), .val (.int (1 : Int32)), .unset, .unset] [(.ref b5)])) _
    refine XS.astore X6.here hx rfl (hb hby at_88) rfl rfl (l' := #[.val (.int wh), .val (.int fl), .val (.int ps), .val (.int ch), .val (.int (own_k wh)), .val (.ref r_1), .val (.int (1 : Int32)), .val (.int (own_p ps wh)), .val (.int (own_c ch)), .val (.int ((own_U (own_k wh)).getD (own_p ps wh).toNatClampNeg 0)), .val (.int (1 : Int32)), .val (.ref b5), .unset]) rfl ?_
    show Steps p.tables e below (T6.setTop (mkF m 90 #[.val (.int wh), .val (.int fl), .val (.int ps), .val (.int ch), .val (.int (own_k wh)), .val (.ref r_1), .val (.int (1 : Int32)), .val (.int (own_p ps wh)), .val (.int (own_c ch)), .val (.int ((own_U (own_k wh)).getD (own_p ps wh).toNatClampNeg 0)), .val (.int (1 : Int32)), .val (.ref b5), .unset] [])) _
    refine XS.iload X6.here hx rfl (hb hby at_90) rfl ?_
    show Steps p.tables e below (T6.setTop (mkF m 92 #[.val (.int wh), .val (.int fl), .val (.int ps), .val (.int ch), .val (.int (own_k wh)), .val (.ref r_1), .val (.int (1 : Int32)), .val (.int (own_p ps wh)), .val (.int (own_c ch)), .val (.int ((own_U (own_k wh)).getD (own_p ps wh).toNatClampNeg 0)), .val (.int (1 : Int32)), .val (.ref b5), .unset] [(.int (own_k wh))])) _
    refine XS.iconst X6.here hx rfl (hb hby at_92) ?_
    show Steps p.tables e below (T6.setTop (mkF m 93 #[.val (.int wh), .val (.int fl), .val (.int ps), .val (.int ch), .val (.int (own_k wh)), .val (.ref r_1), .val (.int (1 : Int32)), .val (.int (own_p ps wh)), .val (.int (own_c ch)), .val (.int ((own_U (own_k wh)).getD (own_p ps wh).toNatClampNeg 0)), .val (.int (1 : Int32)), .val (.ref b5), .unset] [(.int (4 : Int32)), (.int (own_k wh))])) _
    refine XS.icmpNo X6.here hx rfl (hb hby at_93) rfl (tlt (hk4 : (own_k wh) < (4 : Int32))).2.1 ?_
    show Steps p.tables e below (T6.setTop (mkF m 96 #[.val (.int wh), .val (.int fl), .val (.int ps), .val (.int ch), .val (.int (own_k wh)), .val (.ref r_1), .val (.int (1 : Int32)), .val (.int (own_p ps wh)), .val (.int (own_c ch)), .val (.int ((own_U (own_k wh)).getD (own_p ps wh).toNatClampNeg 0)), .val (.int (1 : Int32)), .val (.ref b5), .unset] [])) _
    refine XS.iload X6.here hx rfl (hb hby at_96) rfl ?_
    show Steps p.tables e below (T6.setTop (mkF m 98 #[.val (.int wh), .val (.int fl), .val (.int ps), .val (.int ch), .val (.int (own_k wh)), .val (.ref r_1), .val (.int (1 : Int32)), .val (.int (own_p ps wh)), .val (.int (own_c ch)), .val (.int ((own_U (own_k wh)).getD (own_p ps wh).toNatClampNeg 0)), .val (.int (1 : Int32)), .val (.ref b5), .unset] [(.int (1 : Int32))])) _
    refine XS.ifYes X6.here hx rfl (pc0 := 98) (pc' := 105) rfl (hb hby at_98) rfl ((if0 _ _).trans (feq (by decide : ¬ ((1 : Int32) = (0 : Int32)))).2) (by decide) (by decide) ?_
    show Steps p.tables e below (T6.setTop (mkF m 105 #[.val (.int wh), .val (.int fl), .val (.int ps), .val (.int ch), .val (.int (own_k wh)), .val (.ref r_1), .val (.int (1 : Int32)), .val (.int (own_p ps wh)), .val (.int (own_c ch)), .val (.int ((own_U (own_k wh)).getD (own_p ps wh).toNatClampNeg 0)), .val (.int (1 : Int32)), .val (.ref b5), .unset] [])) _
    refine XS.iconst X6.here hx rfl (hb hby at_105) ?_
    show Steps p.tables e below (T6.setTop (mkF m 106 #[.val (.int wh), .val (.int fl), .val (.int ps), .val (.int ch), .val (.int (own_k wh)), .val (.ref r_1), .val (.int (1 : Int32)), .val (.int (own_p ps wh)), .val (.int (own_c ch)), .val (.int ((own_U (own_k wh)).getD (own_p ps wh).toNatClampNeg 0)), .val (.int (1 : Int32)), .val (.ref b5), .unset] [(.int (0 : Int32))])) _
    refine XS.istore X6.here hx rfl (hb hby at_106) rfl (l' := #[.val (.int wh), .val (.int fl), .val (.int ps), .val (.int ch), .val (.int (own_k wh)), .val (.ref r_1), .val (.int (1 : Int32)), .val (.int (own_p ps wh)), .val (.int (own_c ch)), .val (.int ((own_U (own_k wh)).getD (own_p ps wh).toNatClampNeg 0)), .val (.int (1 : Int32)), .val (.ref b5), .val (.int (0 : Int32))]) rfl ?_
    show Steps p.tables e below (T6.setTop (mkF m 108 #[.val (.int wh), .val (.int fl), .val (.int ps), .val (.int ch), .val (.int (own_k wh)), .val (.ref r_1), .val (.int (1 : Int32)), .val (.int (own_p ps wh)), .val (.int (own_c ch)), .val (.int ((own_U (own_k wh)).getD (own_p ps wh).toNatClampNeg 0)), .val (.int (1 : Int32)), .val (.ref b5), .val (.int (0 : Int32))] [])) _
    refine XS.aload X6.here hx rfl (hb hby at_108) rfl rfl ?_
    show Steps p.tables e below (T6.setTop (mkF m 110 #[.val (.int wh), .val (.int fl), .val (.int ps), .val (.int ch), .val (.int (own_k wh)), .val (.ref r_1), .val (.int (1 : Int32)), .val (.int (own_p ps wh)), .val (.int (own_c ch)), .val (.int ((own_U (own_k wh)).getD (own_p ps wh).toNatClampNeg 0)), .val (.int (1 : Int32)), .val (.ref b5), .val (.int (0 : Int32))] [(.ref b5)])) _
    refine st7.trans ?_
    show Steps p.tables e below (T7.setTop (mkF m 113 #[.val (.int wh), .val (.int fl), .val (.int ps), .val (.int ch), .val (.int (own_k wh)), .val (.ref r_1), .val (.int (1 : Int32)), .val (.int (own_p ps wh)), .val (.int (own_c ch)), .val (.int ((own_U (own_k wh)).getD (own_p ps wh).toNatClampNeg 0)), .val (.int (1 : Int32)), .val (.ref b5), .val (.int (0 : Int32))] [(.int (0 : Int32))])) _
    refine XS.iload X7.here hx rfl (hb hby at_113) rfl ?_
    show Steps p.tables e below (T7.setTop (mkF m 115 #[.val (.int wh), .val (.int fl), .val (.int ps), .val (.int ch), .val (.int (own_k wh)), .val (.ref r_1), .val (.int (1 : Int32)), .val (.int (own_p ps wh)), .val (.int (own_c ch)), .val (.int ((own_U (own_k wh)).getD (own_p ps wh).toNatClampNeg 0)), .val (.int (1 : Int32)), .val (.ref b5), .val (.int (0 : Int32))] [(.int (0 : Int32)), (.int (0 : Int32))])) _
    refine XS.icmpNo X7.here hx rfl (hb hby at_115) rfl (teq (by decide : (0 : Int32) = (0 : Int32))).2 ?_
    show Steps p.tables e below (T7.setTop (mkF m 118 #[.val (.int wh), .val (.int fl), .val (.int ps), .val (.int ch), .val (.int (own_k wh)), .val (.ref r_1), .val (.int (1 : Int32)), .val (.int (own_p ps wh)), .val (.int (own_c ch)), .val (.int ((own_U (own_k wh)).getD (own_p ps wh).toNatClampNeg 0)), .val (.int (1 : Int32)), .val (.ref b5), .val (.int (0 : Int32))] [])) _
    refine XS.iconst X7.here hx rfl (hb hby at_118) ?_
    show Steps p.tables e below (T7.setTop (mkF m 119 #[.val (.int wh), .val (.int fl), .val (.int ps), .val (.int ch), .val (.int (own_k wh)), .val (.ref r_1), .val (.int (1 : Int32)), .val (.int (own_p ps wh)), .val (.int (own_c ch)), .val (.int ((own_U (own_k wh)).getD (own_p ps wh).toNatClampNeg 0)), .val (.int (1 : Int32)), .val (.ref b5), .val (.int (0 : Int32))] [(.int (1 : Int32))])) _
    refine XS.goto X7.here hx rfl (pc0 := 119) (pc' := 123) rfl (hb hby at_119) (by decide) (by decide) ?_
    show Steps p.tables e below (T7.setTop (mkF m 123 #[.val (.int wh), .val (.int fl), .val (.int ps), .val (.int ch), .val (.int (own_k wh)), .val (.ref r_1), .val (.int (1 : Int32)), .val (.int (own_p ps wh)), .val (.int (own_c ch)), .val (.int ((own_U (own_k wh)).getD (own_p ps wh).toNatClampNeg 0)), .val (.int (1 : Int32)), .val (.ref b5), .val (.int (0 : Int32))] [(.int (1 : Int32))])) _
    exact retN X7 hx (t := .boolean) Bd.returns (by simp) (hb hby at_123) hr
  · show Q_law Z wh fl ps ch cz h0 n0 _ T7.heap _
    exact ⟨rfl, N7⟩
  · show CHr Z own_EL s.vm s.heap T7.vm T7.heap
    rw [hh]; exact CE
set_option maxRecDepth 65536 in
set_option maxHeartbeats 40000000 in
theorem law_A0 (l : Launch) (Z : State) (a0 : Array Value) (hw : ∀ d ∈ tables_1, d.before a0 Z = true) (ws : List Jvm.Cond) (wh : Int32) (fl : Int32) (ps : Int32) (ch : Int32) (cz : Int32) (h0 : Heap) (n0 : Nat) (O0 : Old Z n0 h0) (G0 : Sta Z Z.heap "java/lang/String" "COMPACT_STRINGS" "Z" (.int cz)) (G1 : Sta Z Z.heap "java/lang/StringUTF16" "$assertionsDisabled" "Z" (.int (1 : Int32))) (G2 : Sta Z Z.heap "java/lang/StringUTF16" "HI_BYTE_SHIFT" "I" (.int (0 : Int32))) (G3 : Sta Z Z.heap "java/lang/StringUTF16" "LO_BYTE_SHIFT" "I" (.int (8 : Int32))) (hcs : ¬ (cz = (0 : Int32))) (hf : (fl &&& (1 : Int32)) = (0 : Int32)) (hk4 : ¬ ((own_k wh) < (4 : Int32))) :
    MetFree l x (head1 (Jvm.Cond.code x code maxLocals ret :: ws) room_1) (fun zA zU => zA = #[(.int wh), (.int fl), (.int ps), (.int ch)] ∧ Z.Warmed39 zU.vm ∧ zU.heap = h0 ∧ CHv Z own_EL zU.vm h0 ∧ ∀ x ∈ ([] : List Addr), Safe Z own_EL zU.vm h0 x) (fun _ _ _ _ _ => True) (fun _ zU zo zU' => ∃ zv zL, zo = .returned zv ∧ Q_law Z wh fl ps ch cz h0 n0 zv zU'.heap zL ∧ CHr Z own_EL zU.vm zU.heap zU'.vm zU'.heap ∧ ReturnedEndW zU zo zU' zL room_1.cells room_1.slots) := by
  refine MetFree.of_bodySF (plainFor_of_name pn_17) hisR ?_
  intro p e s m args below meth c s₁ Bd hml0 hP hK
  obtain ⟨rfl, hZ, hh, HC, HS⟩ := hP
  have hx := Bd.exec
  have hby := Bd.bytes
  have hml : c.maxLocals = 13 := hml0
  have hown : s.vm.findClass "com/example/tsutsumi/tsutsumi/service/SchemaElementsIsBuiltInNamespacePinLaw" = some m.cls := findClass_of_methodNamed Bd.named
  have hnm := (name_of_methodNamed Bd.named Bd.method).1
  have X0 : Stand p l e room_1 (s.setVm s.vm) m #[(.int wh), (.int fl), (.int ps), (.int ch)] below meth c s₁ [] 0 0 := Stand.of_body Bd
  have e0 : s₁.heap = h0 := by rw [← hh, Bd.state]; rfl
  have N0 := Fr.nil n0
  have Z0 : n0 ≤ h0.size := O0.1 ▸ O0.2.1
  have pre0 : ∀ zt, Steps p.tables e below (s₁.setTop (mkF m 0 #[.val (.int wh), .val (.int fl), .val (.int ps), .val (.int ch), .unset, .unset, .unset, .unset, .unset, .unset, .unset, .unset, .unset] [])) zt → Steps p.tables e below (s₁.setTop (entryFrame m #[(.int wh), (.int fl), (.int ps), (.int ch)] maxLocals)) zt := fun zt zk => castTop (ef_0_IIII m wh fl ps ch) zk
  have hEL := own_EW hw
  have wS := own_wS hw
  have hS0 : s.Since s.vm 0 := (State.WarmedH.refl s).since 0
  have CR0 : CHr Z own_EL s.vm h0 s.vm h0 := CHr.refl HC
  have hZ0 := hZ
  have hown0 := hown
  obtain ⟨_, _, ⟨T1, L1, k1, n1⟩, -, X1, ⟨Lc1, hQ1, l1, y1, z1⟩, st1⟩ := Jvm.LawKit.callS X0 hx (y := (⟨"com/example/tsutsumi/tsutsumi/service/SchemaElementsIsBuiltInNamespacePinLaw", "uriChars", "(I)[C"⟩ : MethodName)) hown (mvT hZ (hw _ (List.mem_of_getElem? (i := 0) rfl))) (mvT hZ (hw _ (List.mem_of_getElem? (i := 1) rfl))) (mvT hZ (hw _ (List.mem_of_getElem? (i := 2) rfl))) (mvT hZ (hw _ (List.mem_of_getElem? (i := 3) rfl))) (by decide) (backOf (W := 0) (uri l Z a0 hw [] (own_k wh) h0 n0 (Nat.le_trans Z0 (Keep.refl h0 []).1) ) hZ (hw _ (List.mem_of_getElem? (i := 3) rfl)) (hw _ (List.mem_of_getElem? (i := 2) rfl)) (by decide) (by decide)) (g := (mkF m 8 #[.val (.int wh), .val (.int fl), .val (.int ps), .val (.int ch), .val (.int (own_k wh)), .unset, .unset, .unset, .unset, .unset, .unset, .unset, .unset] [(.int (own_k wh))])) rfl (by rw [hml]; rfl) (argsL := [(.int (own_k wh))]) (rest := []) (lenOf pd_9 rfl) rfl (by show 2 * 0 + _ ≤ _; exact Nat.le_of_eq rfl) (hb hby at_8) (fun _ _ => ⟨rfl, e0, (by decide : 0 + 1 ≤ _), (by decide : 0 + 41 ≤ _)⟩)
  dsimp only [Pt.U, Pt.locs, Pt.cells, Pt.slots] at X1 l1 y1 z1 st1 hQ1
  subst l1 y1 z1
  obtain ⟨r_1, kr_1, rfl, Nq1, kh1, fz_r_1, Po1_0⟩ := hQ1
  have N1 := Fr.app N0 Nq1
  have sz_r_1 : h0.size ≤ r_1 := Nat.le_trans (Keep.refl h0 []).1 fz_r_1
  have g_r_1 : n0 ≤ r_1 := Nat.le_trans Z0 sz_r_1
  have O1 := O0.keep kh1 all0
  have K1 : Keep h0 T1.heap [] := (Keep.refl h0 []).trans kh1 all0
  have hs1 : ∀ x ∈ ([] : List Addr), Safe Z own_EL s.vm h0 x := all0
  have CR1 := CR0.trans (CHr.keep kh1 hs1 CR0.1)
  obtain ⟨cl2, Ar2, -, Sz2, Ng2, -⟩ := (id Po1_0)
  obtain ⟨cl3, Ar3, q3, Sz3, Ng3, Hs3, Gs3⟩ := (id Po1_0)
  have hin3 : ¬ ((own_p ps wh) < 0 ∨ cl3.slots.size ≤ ((own_p ps wh)).toNatClampNeg) := inb_of Sz3 (own_pb ps wh)
  have hat3 : cl3.slots[((own_p ps wh)).toNatClampNeg]? = some (.int ((own_U (own_k wh)).getD (own_p ps wh).toNatClampNeg 0)) := Has.at Hs3 hin3 (own_gdp (own_pl ps wh))
  obtain ⟨T4, h4, X4, e4, E4, A4, D4, U4, st4⟩ := newO X1 hx hZ hown (hw _ (List.mem_of_getElem? (i := 7) rfl)) (hw _ (List.mem_of_getElem? (i := 8) rfl)) (hw _ (List.mem_of_getElem? (i := 9) rfl)) rfl (g := (mkF m 79 #[.val (.int wh), .val (.int fl), .val (.int ps), .val (.int ch), .val (.int (own_k wh)), .val (.ref r_1), .val (.int (0 : Int32)), .val (.int (own_p ps wh)), .val (.int (own_c ch)), .val (.int ((own_U (own_k wh)).getD (own_p ps wh).toNatClampNeg 0)), .val (.int (0 : Int32)), .unset, .unset] [])) rfl (hb hby at_79) (by decide) (by decide)
  obtain ⟨b4, gz4⟩ : ∃ z, z = T1.heap.size := ⟨_, rfl⟩
  rw [← gz4] at A4 D4 U4 st4
  have sz_b4 : h0.size ≤ b4 := Nat.le_trans K1.1 (Nat.le_of_eq gz4.symm)
  have g_b4 : n0 ≤ b4 := Nat.le_trans Z0 sz_b4
  have O4 := O1.ext E4
  have K4 : Keep h0 h4 [] := K1.ext E4
  have CR4 := CR1.trans (CHr.ext E4 CR1.1)
  have Sn4 : Safe Z own_EL s.vm h4 b4 := Safe.ext E4 CR1.1 (Safe.new (Nat.le_of_eq gz4.symm))
  have Fi4_33 : Fld Z h4 b4 "java/lang/String" "coder" "B" (.int (0 : Int32)) := D4 (Or.inr (hw _ (List.mem_of_getElem? (i := 33) rfl))) (ty := .byte) (by decide)
  have Fi4_35 : Fld Z h4 b4 "java/lang/String" "value" "[B" .null := D4 (Or.inr (hw _ (List.mem_of_getElem? (i := 35) rfl))) (ty := (.array .byte)) (by decide)
  obtain ⟨_, _, ⟨T5, L5, k5, n5⟩, -, X5, ⟨Lc5, hQ5, l5, y5, z5⟩, st5⟩ := X4.specialBack hx (y := (⟨"java/lang/String", "<init>", "([C)V"⟩ : MethodName)) rfl hown (mvT hZ (hw _ (List.mem_of_getElem? (i := 10) rfl))) (mvT hZ (hw _ (List.mem_of_getElem? (i := 11) rfl))) (mvT hZ (hw _ (List.mem_of_getElem? (i := 12) rfl))) (by decide) (own_siB (W := 1) hZ hw (by decide) (by decide) b4 r_1 kr_1 (own_U (own_k wh)) cz h4 n0 O4 G0 A4 Fi4_35 Fi4_33 (Po1_0.ext E4) g_b4 hcs (own_U_len (own_k wh)).2 (own_U_len (own_k wh)).1 (own_U_ch (own_k wh))) (g := (mkF m 85 #[.val (.int wh), .val (.int fl), .val (.int ps), .val (.int ch), .val (.int (own_k wh)), .val (.ref r_1), .val (.int (0 : Int32)), .val (.int (own_p ps wh)), .val (.int (own_c ch)), .val (.int ((own_U (own_k wh)).getD (own_p ps wh).toNatClampNeg 0)), .val (.int (0 : Int32)), .unset, .unset] [(.ref r_1), (.ref b4), (.ref b4)])) rfl (by rw [hml]; rfl) (Steps.refl _) (a := b4) (argsL := [(.ref r_1)]) (rest := [(.ref b4)]) (lenOf pd_10 rfl) rfl (by show 2 * 0 + _ ≤ _; exact Nat.le_of_eq rfl) (hb hby at_85) (fun _ _ => ⟨rfl, e4, (by decide : 2 + 1 ≤ _), (by decide : 45 + 41 ≤ _)⟩)
  dsimp only [Pt.U, Pt.locs, Pt.cells, Pt.slots] at X5 l5 y5 z5 st5 hQ5
  subst l5 y5 z5
  obtain ⟨t_5, kt_5, rfl, Nq5, kh5, fz_t_5, Po5_0, Po5_1, Po5_2, Po5_3⟩ := hQ5
  have N5 := Fr.app N1 Nq5
  have sz_t_5 : h0.size ≤ t_5 := Nat.le_trans K4.1 fz_t_5
  have g_t_5 : n0 ≤ t_5 := Nat.le_trans Z0 sz_t_5
  have O5 := O4.keep kh5 (allS g_b4 all0)
  have K5 : Keep h0 T5.heap [] := K4.trans kh5 (allS (Or.inr sz_b4) all0)
  have hs5 : ∀ x ∈ ([b4] : List Addr), Safe Z own_EL s.vm h4 x := (allS Sn4 all0)
  have CR5 := CR4.trans (CHr.keep kh5 hs5 CR4.1)
  have Sy5_b4 := Safe.keep kh5 hs5 CR4.1 Sn4
  obtain ⟨_, _, ⟨T6, L6, k6, n6⟩, -, Xr6, hSr6, hg6, ⟨Lc6, hQ6, l6, y6, z6, CL6⟩, st6⟩ := callSS X5 hx (y := (⟨"com/example/tsutsumi/tsutsumi/service/SchemaElements", "isBuiltInNamespace", "(Ljava/lang/String;)Z"⟩ : MethodName)) hown (mvT hZ (hw _ (List.mem_of_getElem? (i := 36) rfl))) (mvT hZ (hw _ (List.mem_of_getElem? (i := 37) rfl))) (mvT hZ (hw _ (List.mem_of_getElem? (i := 38) rfl))) (mvT hZ (hw _ (List.mem_of_getElem? (i := 39) rfl))) (by decide) (own_backSH (s := s) (vm0 := s.vm) (W := 0) (biL l Z a0 hw [] b4 t_5 kt_5 (own_U (own_k wh)) cz T5.heap n0 O5 G0 Po5_0 Po5_2 Po5_1 Po5_3 hcs (own_U_len (own_k wh)).2 (own_U_ch (own_k wh))) hZ (hw _ (List.mem_of_getElem? (i := 39) rfl)) (hw _ (List.mem_of_getElem? (i := 38) rfl)) (by decide) (by decide) hEL CR5.1 all0) (g := (mkF m 110 #[.val (.int wh), .val (.int fl), .val (.int ps), .val (.int ch), .val (.int (own_k wh)), .val (.ref r_1), .val (.int (0 : Int32)), .val (.int (own_p ps wh)), .val (.int (own_c ch)), .val (.int ((own_U (own_k wh)).getD (own_p ps wh).toNatClampNeg 0)), .val (.int (0 : Int32)), .val (.ref b4), .val (.int (0 : Int32))] [(.ref b4)])) rfl (by rw [hml]; rfl) (argsL := [(.ref b4)]) (rest := []) (lenOf pd_11 rfl) rfl (by show 2 * 0 + _ ≤ _; exact Nat.le_of_eq rfl) (hb hby at_110) (fun _ _ => ⟨rfl, rfl, (by decide : 3 + 8 ≤ _), (by decide : 86 + 576 ≤ _)⟩)
  dsimp only [Pt.U, Pt.locs, Pt.cells, Pt.slots] at Xr6 l6 y6 z6 st6 hQ6 hSr6 hg6 CL6
  subst l6 y6 z6
  obtain ⟨X6, hS6, hZ, hown⟩ := rebS (s := s) (vm0 := s.vm) hS0 (own_hk rfl (Nat.le_trans (Nat.le_trans (Nat.le_trans (Nat.zero_le _) kh1.1) E4.1) kh5.1)) Xr6 hSr6 hg6 hZ hown
  obtain ⟨rfl, Nq6, kh6⟩ := hQ6
  have N6 := Fr.app N5 Nq6
  have hZ6 := hZ
  have hown6 := hown
  have O6 := O5.keep kh6 all0
  have K6 : Keep h0 T6.heap [] := K5.trans kh6 all0
  have CR6 := CR5.trans CL6
  have Sy6_b4 := CL6.safe (Po5_0).lt Sy5_b4
  obtain ⟨fs, hr, hrun, hended, hRW⟩ := X6.leaveW (s := s) hS6 (own_hk rfl (Nat.le_refl _)) (v := some (.int (1 : Int32))) (fun h => by rw [Bd.returns] at h; cases h)
  have CE := CR6.trans (CHv.at (s := s) (vm0 := T6.vm) X6 hZ hEL CR6.1)
  refine ⟨_, _, pre0 _ ?_, hrun, hended, _, _, rfl, ?_, ?_, own_rw_mono hRW (by decide) (by decide)⟩
  · show Steps p.tables e below (s₁.setTop (mkF m 0 #[.val (.int wh), .val (.int fl), .val (.int ps), .val (.int ch), .unset, .unset, .unset, .unset, .unset, .unset, .unset, .unset, .unset] [])) _
    refine XS.iloadN X0.here hx rfl (hb hby at_0) rfl ?_
    show Steps p.tables e below (s₁.setTop (mkF m 1 #[.val (.int wh), .val (.int fl), .val (.int ps), .val (.int ch), .unset, .unset, .unset, .unset, .unset, .unset, .unset, .unset, .unset] [(.int wh)])) _
    refine XS.bipush X0.here hx rfl (hb hby at_1) ?_
    show Steps p.tables e below (s₁.setTop (mkF m 3 #[.val (.int wh), .val (.int fl), .val (.int ps), .val (.int ch), .unset, .unset, .unset, .unset, .unset, .unset, .unset, .unset, .unset] [(.int (7 : Int32)), (.int wh)])) _
    refine XS.iand X0.here hx rfl (hb hby at_3) rfl ?_
    show Steps p.tables e below (s₁.setTop (mkF m 4 #[.val (.int wh), .val (.int fl), .val (.int ps), .val (.int ch), .unset, .unset, .unset, .unset, .unset, .unset, .unset, .unset, .unset] [(.int (wh &&& (7 : Int32)))])) _
    refine castTop (congrArg (fun z_ => (mkF m 4 #[.val (.int wh), .val (.int fl), .val (.int ps), .val (.int ch), .unset, .unset, .unset, .unset, .unset, .unset, .unset, .unset, .unset] [(.int z_)])) (rfl : (wh &&& (7 : Int32)) = (own_k wh))) ?_
    show Steps p.tables e below (s₁.setTop (mkF m 4 #[.val (.int wh), .val (.int fl), .val (.int ps), .val (.int ch), .unset, .unset, .unset, .unset, .unset, .unset, .unset, .unset, .unset] [(.int (own_k wh))])) _
    refine XS.istore X0.here hx rfl (hb hby at_4) rfl (l' := #[.val (.int wh), .val (.int fl), .val (.int ps), .val (.int ch), .val (.int (own_k wh)), .unset, .unset, .unset, .unset, .unset, .unset, .unset, .unset]) rfl ?_
    show Steps p.tables e below (s₁.setTop (mkF m 6 #[.val (.int wh), .val (.int fl), .val (.int ps), .val (.int ch), .val (.int (own_k wh)), .unset, .unset, .unset, .unset, .unset, .unset, .unset, .unset] [])) _
    refine XS.iload X0.here hx rfl (hb hby at_6) rfl ?_
    show Steps p.tables e below (s₁.setTop (mkF m 8 #[.val (.int wh), .val (.int fl), .val (.int ps), .val (.int ch), .val (.int (own_k wh)), .unset, .unset, .unset, .unset, .unset, .unset, .unset, .unset] [(.int (own_k wh))])) _
    refine st1 _ ?_
    show Steps p.tables e below (T1.setTop (mkF m 11 #[.val (.int wh), .val (.int fl), .val (.int ps), .val (.int ch), .val (.int (own_k wh)), .unset, .unset, .unset, .unset, .unset, .unset, .unset, .unset] [(.ref r_1)])) _
    refine XS.astore X1.here hx rfl (hb hby at_11) rfl rfl (l' := #[.val (.int wh), .val (.int fl), .val (.int ps), .val (.int ch), .val (.int (own_k wh)), .val (.ref r_1), .unset, .unset, .unset, .unset, .unset, .unset, .unset]) rfl ?_
    show Steps p.tables e below (T1.setTop (mkF m 13 #[.val (.int wh), .val (.int fl), .val (.int ps), .val (.int ch), .val (.int (own_k wh)), .val (.ref r_1), .unset, .unset, .unset, .unset, .unset, .unset, .unset] [])) _
    refine XS.iloadN X1.here hx rfl (hb hby at_13) rfl ?_
    show Steps p.tables e below (T1.setTop (mkF m 14 #[.val (.int wh), .val (.int fl), .val (.int ps), .val (.int ch), .val (.int (own_k wh)), .val (.ref r_1), .unset, .unset, .unset, .unset, .unset, .unset, .unset] [(.int fl)])) _
    refine XS.iconst X1.here hx rfl (hb hby at_14) ?_
    show Steps p.tables e below (T1.setTop (mkF m 15 #[.val (.int wh), .val (.int fl), .val (.int ps), .val (.int ch), .val (.int (own_k wh)), .val (.ref r_1), .unset, .unset, .unset, .unset, .unset, .unset, .unset] [(.int (1 : Int32)), (.int fl)])) _
    refine XS.iand X1.here hx rfl (hb hby at_15) rfl ?_
    show Steps p.tables e below (T1.setTop (mkF m 16 #[.val (.int wh), .val (.int fl), .val (.int ps), .val (.int ch), .val (.int (own_k wh)), .val (.ref r_1), .unset, .unset, .unset, .unset, .unset, .unset, .unset] [(.int (fl &&& (1 : Int32)))])) _
    refine XS.ifYes X1.here hx rfl (pc0 := 16) (pc' := 23) rfl (hb hby at_16) rfl ((if0 _ _).trans (teq (hf : (fl &&& (1 : Int32)) = (0 : Int32))).1) (by decide) (by decide) ?_
    show Steps p.tables e below (T1.setTop (mkF m 23 #[.val (.int wh), .val (.int fl), .val (.int ps), .val (.int ch), .val (.int (own_k wh)), .val (.ref r_1), .unset, .unset, .unset, .unset, .unset, .unset, .unset] [])) _
    refine XS.iconst X1.here hx rfl (hb hby at_23) ?_
    show Steps p.tables e below (T1.setTop (mkF m 24 #[.val (.int wh), .val (.int fl), .val (.int ps), .val (.int ch), .val (.int (own_k wh)), .val (.ref r_1), .unset, .unset, .unset, .unset, .unset, .unset, .unset] [(.int (0 : Int32))])) _
    refine XS.istore X1.here hx rfl (hb hby at_24) rfl (l' := #[.val (.int wh), .val (.int fl), .val (.int ps), .val (.int ch), .val (.int (own_k wh)), .val (.ref r_1), .val (.int (0 : Int32)), .unset, .unset, .unset, .unset, .unset, .unset]) rfl ?_
    show Steps p.tables e below (T1.setTop (mkF m 26 #[.val (.int wh), .val (.int fl), .val (.int ps), .val (.int ch), .val (.int (own_k wh)), .val (.ref r_1), .val (.int (0 : Int32)), .unset, .unset, .unset, .unset, .unset, .unset] [])) _
    refine XS.iloadN X1.here hx rfl (hb hby at_26) rfl ?_
    show Steps p.tables e below (T1.setTop (mkF m 27 #[.val (.int wh), .val (.int fl), .val (.int ps), .val (.int ch), .val (.int (own_k wh)), .val (.ref r_1), .val (.int (0 : Int32)), .unset, .unset, .unset, .unset, .unset, .unset] [(.int ps)])) _
    refine X1.ldcInt hx hown0 (mvT hZ0 (hw _ (List.mem_of_getElem? (i := 5) rfl))) (g := (mkF m 27 #[.val (.int wh), .val (.int fl), .val (.int ps), .val (.int ch), .val (.int (own_k wh)), .val (.ref r_1), .val (.int (0 : Int32)), .unset, .unset, .unset, .unset, .unset, .unset] [(.int ps)])) rfl (hb hby at_27) _ ?_
    show Steps p.tables e below (T1.setTop (mkF m 29 #[.val (.int wh), .val (.int fl), .val (.int ps), .val (.int ch), .val (.int (own_k wh)), .val (.ref r_1), .val (.int (0 : Int32)), .unset, .unset, .unset, .unset, .unset, .unset] [(.int (2147483647 : Int32)), (.int ps)])) _
    refine XS.iand X1.here hx rfl (hb hby at_29) rfl ?_
    show Steps p.tables e below (T1.setTop (mkF m 30 #[.val (.int wh), .val (.int fl), .val (.int ps), .val (.int ch), .val (.int (own_k wh)), .val (.ref r_1), .val (.int (0 : Int32)), .unset, .unset, .unset, .unset, .unset, .unset] [(.int (ps &&& (2147483647 : Int32)))])) _
    refine XS.aload X1.here hx rfl (hb hby at_30) rfl rfl ?_
    show Steps p.tables e below (T1.setTop (mkF m 32 #[.val (.int wh), .val (.int fl), .val (.int ps), .val (.int ch), .val (.int (own_k wh)), .val (.ref r_1), .val (.int (0 : Int32)), .unset, .unset, .unset, .unset, .unset, .unset] [(.ref r_1), (.int (ps &&& (2147483647 : Int32)))])) _
    refine X1.arraylength hx (Ar2.at_ rfl) (State.isArrayOf_alike hZ0.alike Ar2.2.1) (g := (mkF m 32 #[.val (.int wh), .val (.int fl), .val (.int ps), .val (.int ch), .val (.int (own_k wh)), .val (.ref r_1), .val (.int (0 : Int32)), .unset, .unset, .unset, .unset, .unset, .unset] [(.ref r_1), (.int (ps &&& (2147483647 : Int32)))])) rfl rfl (hb hby at_32) _ ?_
    rw [len_of Sz2 Ng2]
    show Steps p.tables e below (T1.setTop (mkF m 33 #[.val (.int wh), .val (.int fl), .val (.int ps), .val (.int ch), .val (.int (own_k wh)), .val (.ref r_1), .val (.int (0 : Int32)), .unset, .unset, .unset, .unset, .unset, .unset] [(.int (Int32.ofNat (own_U (own_k wh)).length)), (.int (ps &&& (2147483647 : Int32)))])) _
    refine iremM X1 hx rfl (hb hby at_33) rfl (own_ndz _) ?_
    show Steps p.tables e below (T1.setTop (mkF m 34 #[.val (.int wh), .val (.int fl), .val (.int ps), .val (.int ch), .val (.int (own_k wh)), .val (.ref r_1), .val (.int (0 : Int32)), .unset, .unset, .unset, .unset, .unset, .unset] [(.int ((ps &&& (2147483647 : Int32)) % (Int32.ofNat (own_U (own_k wh)).length)))])) _
    refine castTop (congrArg (fun z_ => (mkF m 34 #[.val (.int wh), .val (.int fl), .val (.int ps), .val (.int ch), .val (.int (own_k wh)), .val (.ref r_1), .val (.int (0 : Int32)), .unset, .unset, .unset, .unset, .unset, .unset] [(.int z_)])) (rfl : ((ps &&& (2147483647 : Int32)) % (Int32.ofNat (own_U (own_k wh)).length)) = (own_p ps wh))) ?_
    show Steps p.tables e below (T1.setTop (mkF m 34 #[.val (.int wh), .val (.int fl), .val (.int ps), .val (.int ch), .val (.int (own_k wh)), .val (.ref r_1), .val (.int (0 : Int32)), .unset, .unset, .unset, .unset, .unset, .unset] [(.int (own_p ps wh))])) _
    refine XS.istore X1.here hx rfl (hb hby at_34) rfl (l' := #[.val (.int wh), .val (.int fl), .val (.int ps), .val (.int ch), .val (.int (own_k wh)), .val (.ref r_1), .val (.int (0 : Int32)), .val (.int (own_p ps wh)), .unset, .unset, .unset, .unset, .unset]) rfl ?_
    show Steps p.tables e below (T1.setTop (mkF m 36 #[.val (.int wh), .val (.int fl), .val (.int ps), .val (.int ch), .val (.int (own_k wh)), .val (.ref r_1), .val (.int (0 : Int32)), .val (.int (own_p ps wh)), .unset, .unset, .unset, .unset, .unset] [])) _
    refine XS.iloadN X1.here hx rfl (hb hby at_36) rfl ?_
    show Steps p.tables e below (T1.setTop (mkF m 37 #[.val (.int wh), .val (.int fl), .val (.int ps), .val (.int ch), .val (.int (own_k wh)), .val (.ref r_1), .val (.int (0 : Int32)), .val (.int (own_p ps wh)), .unset, .unset, .unset, .unset, .unset] [(.int ch)])) _
    refine X1.ldcInt hx hown0 (mvT hZ0 (hw _ (List.mem_of_getElem? (i := 6) rfl))) (g := (mkF m 37 #[.val (.int wh), .val (.int fl), .val (.int ps), .val (.int ch), .val (.int (own_k wh)), .val (.ref r_1), .val (.int (0 : Int32)), .val (.int (own_p ps wh)), .unset, .unset, .unset, .unset, .unset] [(.int ch)])) rfl (hb hby at_37) _ ?_
    show Steps p.tables e below (T1.setTop (mkF m 39 #[.val (.int wh), .val (.int fl), .val (.int ps), .val (.int ch), .val (.int (own_k wh)), .val (.ref r_1), .val (.int (0 : Int32)), .val (.int (own_p ps wh)), .unset, .unset, .unset, .unset, .unset] [(.int (65535 : Int32)), (.int ch)])) _
    refine XS.iand X1.here hx rfl (hb hby at_39) rfl ?_
    show Steps p.tables e below (T1.setTop (mkF m 40 #[.val (.int wh), .val (.int fl), .val (.int ps), .val (.int ch), .val (.int (own_k wh)), .val (.ref r_1), .val (.int (0 : Int32)), .val (.int (own_p ps wh)), .unset, .unset, .unset, .unset, .unset] [(.int (ch &&& (65535 : Int32)))])) _
    refine XS.i2c X1.here hx rfl (hb hby at_40) rfl ?_
    show Steps p.tables e below (T1.setTop (mkF m 41 #[.val (.int wh), .val (.int fl), .val (.int ps), .val (.int ch), .val (.int (own_k wh)), .val (.ref r_1), .val (.int (0 : Int32)), .val (.int (own_p ps wh)), .unset, .unset, .unset, .unset, .unset] [(.int ((ch &&& (65535 : Int32)).toUInt32.toUInt16.toUInt32.toInt32))])) _
    refine castTop (congrArg (fun z_ => (mkF m 41 #[.val (.int wh), .val (.int fl), .val (.int ps), .val (.int ch), .val (.int (own_k wh)), .val (.ref r_1), .val (.int (0 : Int32)), .val (.int (own_p ps wh)), .unset, .unset, .unset, .unset, .unset] [(.int z_)])) (rfl : ((ch &&& (65535 : Int32)).toUInt32.toUInt16.toUInt32.toInt32) = (own_c ch))) ?_
    show Steps p.tables e below (T1.setTop (mkF m 41 #[.val (.int wh), .val (.int fl), .val (.int ps), .val (.int ch), .val (.int (own_k wh)), .val (.ref r_1), .val (.int (0 : Int32)), .val (.int (own_p ps wh)), .unset, .unset, .unset, .unset, .unset] [(.int (own_c ch))])) _
    refine XS.istore X1.here hx rfl (hb hby at_41) rfl (l' := #[.val (.int wh), .val (.int fl), .val (.int ps), .val (.int ch), .val (.int (own_k wh)), .val (.ref r_1), .val (.int (0 : Int32)), .val (.int (own_p ps wh)), .val (.int (own_c ch)), .unset, .unset, .unset, .unset]) rfl ?_
    show Steps p.tables e below (T1.setTop (mkF m 43 #[.val (.int wh), .val (.int fl), .val (.int ps), .val (.int ch), .val (.int (own_k wh)), .val (.ref r_1), .val (.int (0 : Int32)), .val (.int (own_p ps wh)), .val (.int (own_c ch)), .unset, .unset, .unset, .unset] [])) _
    refine XS.aload X1.here hx rfl (hb hby at_43) rfl rfl ?_
    show Steps p.tables e below (T1.setTop (mkF m 45 #[.val (.int wh), .val (.int fl), .val (.int ps), .val (.int ch), .val (.int (own_k wh)), .val (.ref r_1), .val (.int (0 : Int32)), .val (.int (own_p ps wh)), .val (.int (own_c ch)), .unset, .unset, .unset, .unset] [(.ref r_1)])) _
    refine XS.iload X1.here hx rfl (hb hby at_45) rfl ?_
    show Steps p.tables e below (T1.setTop (mkF m 47 #[.val (.int wh), .val (.int fl), .val (.int ps), .val (.int ch), .val (.int (own_k wh)), .val (.ref r_1), .val (.int (0 : Int32)), .val (.int (own_p ps wh)), .val (.int (own_c ch)), .unset, .unset, .unset, .unset] [(.int (own_p ps wh)), (.ref r_1)])) _
    refine X1.caload hx (j := (own_p ps wh)) (v := (.int ((own_U (own_k wh)).getD (own_p ps wh).toNatClampNeg 0))) (Ar3.at_ rfl) (State.isArrayOf_alike hZ0.alike Ar3.2.1) Ar3.2.2 hin3 hat3 (g := (mkF m 47 #[.val (.int wh), .val (.int fl), .val (.int ps), .val (.int ch), .val (.int (own_k wh)), .val (.ref r_1), .val (.int (0 : Int32)), .val (.int (own_p ps wh)), .val (.int (own_c ch)), .unset, .unset, .unset, .unset] [(.int (own_p ps wh)), (.ref r_1)])) rfl rfl (hb hby at_47) _ ?_
    show Steps p.tables e below (T1.setTop (mkF m 48 #[.val (.int wh), .val (.int fl), .val (.int ps), .val (.int ch), .val (.int (own_k wh)), .val (.ref r_1), .val (.int (0 : Int32)), .val (.int (own_p ps wh)), .val (.int (own_c ch)), .unset, .unset, .unset, .unset] [(.int ((own_U (own_k wh)).getD (own_p ps wh).toNatClampNeg 0))])) _
    refine XS.istore X1.here hx rfl (hb hby at_48) rfl (l' := #[.val (.int wh), .val (.int fl), .val (.int ps), .val (.int ch), .val (.int (own_k wh)), .val (.ref r_1), .val (.int (0 : Int32)), .val (.int (own_p ps wh)), .val (.int (own_c ch)), .val (.int ((own_U (own_k wh)).getD (own_p ps wh).toNatClampNeg 0)), .unset, .unset, .unset]) rfl ?_
    show Steps p.tables e below (T1.setTop (mkF m 50 #[.val (.int wh), .val (.int fl), .val (.int ps), .val (.int ch), .val (.int (own_k wh)), .val (.ref r_1), .val (.int (0 : Int32)), .val (.int (own_p ps wh)), .val (.int (own_c ch)), .val (.int ((own_U (own_k wh)).getD (own_p ps wh).toNatClampNeg 0)), .unset, .unset, .unset] [])) _
    refine XS.iconst X1.here hx rfl (hb hby at_50) ?_
    show Steps p.tables e below (T1.setTop (mkF m 51 #[.val (.int wh), .val (.int fl), .val (.int ps), .val (.int ch), .val (.int (own_k wh)), .val (.ref r_1), .val (.int (0 : Int32)), .val (.int (own_p ps wh)), .val (.int (own_c ch)), .val (.int ((own_U (own_k wh)).getD (own_p ps wh).toNatClampNeg 0)), .unset, .unset, .unset] [(.int (0 : Int32))])) _
    refine XS.istore X1.here hx rfl (hb hby at_51) rfl (l' := #[.val (.int wh), .val (.int fl), .val (.int ps), .val (.int ch), .val (.int (own_k wh)), .val (.ref r_1), .val (.int (0 : Int32)), .val (.int (own_p ps wh)), .val (.int (own_c ch)), .val (.int ((own_U (own_k wh)).getD (own_p ps wh).toNatClampNeg 0)), .val (.int (0 : Int32)), .unset, .unset]) rfl ?_
    show Steps p.tables e below (T1.setTop (mkF m 53 #[.val (.int wh), .val (.int fl), .val (.int ps), .val (.int ch), .val (.int (own_k wh)), .val (.ref r_1), .val (.int (0 : Int32)), .val (.int (own_p ps wh)), .val (.int (own_c ch)), .val (.int ((own_U (own_k wh)).getD (own_p ps wh).toNatClampNeg 0)), .val (.int (0 : Int32)), .unset, .unset] [])) _
    refine XS.iload X1.here hx rfl (hb hby at_53) rfl ?_
    show Steps p.tables e below (T1.setTop (mkF m 55 #[.val (.int wh), .val (.int fl), .val (.int ps), .val (.int ch), .val (.int (own_k wh)), .val (.ref r_1), .val (.int (0 : Int32)), .val (.int (own_p ps wh)), .val (.int (own_c ch)), .val (.int ((own_U (own_k wh)).getD (own_p ps wh).toNatClampNeg 0)), .val (.int (0 : Int32)), .unset, .unset] [(.int (0 : Int32))])) _
    refine XS.ifYes X1.here hx rfl (pc0 := 55) (pc' := 79) rfl (hb hby at_55) rfl ((if0 _ _).trans (teq (by decide : (0 : Int32) = (0 : Int32))).1) (by decide) (by decide) ?_
    show Steps p.tables e below (T1.setTop (mkF m 79 #[.val (.int wh), .val (.int fl), .val (.int ps), .val (.int ch), .val (.int (own_k wh)), .val (.ref r_1), .val (.int (0 : Int32)), .val (.int (own_p ps wh)), .val (.int (own_c ch)), .val (.int ((own_U (own_k wh)).getD (own_p ps wh).toNatClampNeg 0)), .val (.int (0 : Int32)), .unset, .unset] [])) _
    refine st4 _ ?_
    show Steps p.tables e below (T4.setTop (mkF m 82 #[.val (.int wh), .val (.int fl), .val (.int ps), .val (.int ch), .val (.int (own_k wh)), .val (.ref r_1), .val (.int (0 : Int32)), .val (.int (own_p ps wh)), .val (.int (own_c ch)), .val (.int ((own_U (own_k wh)).getD (own_p ps wh).toNatClampNeg 0)), .val (.int (0 : Int32)), .unset, .unset] [(.ref b4)])) _
    refine XS.dup X4.here hx rfl (hb hby at_82) rfl rfl ?_
    show Steps p.tables e below (T4.setTop (mkF m 83 #[.val (.int wh), .val (.int fl), .val (.int ps), .val (.int ch), .val (.int (own_k wh)), .val (.ref r_1), .val (.int (0 : Int32)), .val (.int (own_p ps wh)), .val (.int (own_c ch)), .val (.int ((own_U (own_k wh)).getD (own_p ps wh).toNatClampNeg 0)), .val (.int (0 : Int32)), .unset, .unset] [(.ref b4), (.ref b4)])) _
    refine XS.aload X4.here hx rfl (hb hby at_83) rfl rfl ?_
    show Steps p.tables e below (T4.setTop (mkF m 85 #[.val (.int wh), .val (.int fl), .val (.int ps), .val (.int ch), .val (.int (own_k wh)), .val (.ref r_1), .val (.int (0 : Int32)), .val (.int (own_p ps wh)), .val (.int (own_c ch)), .val (.int ((own_U (own_k wh)).getD (own_p ps wh).toNatClampNeg 0)), .val (.int (0 : Int32)), .unset, .unset] [(.ref r_1), (.ref b4), (.ref b4)])) _
    refine st5.trans ?_
    show Steps p.tables e below (T5.setTop (mkF m 88 #[.val (.int wh), .val (.int fl), .val (.int ps), .val (.int ch), .val (.int (own_k wh)), .val (.ref r_1), .val (.int (0 : Int32)), .val (.int (own_p ps wh)), .val (.int (own_c ch)), .val (.int ((own_U (own_k wh)).getD (own_p ps wh).toNatClampNeg 0)), .val (.int (0 : Int32)), .unset, .unset] [(.ref b4)])) _
    refine XS.astore X5.here hx rfl (hb hby at_88) rfl rfl (l' := #[.val (.int wh), .val (.int fl), .val (.int ps), .val (.int ch), .val (.int (own_k wh)), .val (.ref r_1), .val (.int (0 : Int32)), .val (.int (own_p ps wh)), .val (.int (own_c ch)), .val (.int ((own_U (own_k wh)).getD (own_p ps wh).toNatClampNeg 0)), .val (.int (0 : Int32)), .val (.ref b4), .unset]) rfl ?_
    show Steps p.tables e below (T5.setTop (mkF m 90 #[.val (.int wh), .val (.int fl), .val (.int ps), .val (.int ch), .val (.int (own_k wh)), .val (.ref r_1), .val (.int (0 : Int32)), .val (.int (own_p ps wh)), .val (.int (own_c ch)), .val (.int ((own_U (own_k wh)).getD (own_p ps wh).toNatClampNeg 0)), .val (.int (0 : Int32)), .val (.ref b4), .unset] [])) _
    refine XS.iload X5.here hx rfl (hb hby at_90) rfl ?_
    show Steps p.tables e below (T5.setTop (mkF m 92 #[.val (.int wh), .val (.int fl), .val (.int ps), .val (.int ch), .val (.int (own_k wh)), .val (.ref r_1), .val (.int (0 : Int32)), .val (.int (own_p ps wh)), .val (.int (own_c ch)), .val (.int ((own_U (own_k wh)).getD (own_p ps wh).toNatClampNeg 0)), .val (.int (0 : Int32)), .val (.ref b4), .unset] [(.int (own_k wh))])) _
    refine XS.iconst X5.here hx rfl (hb hby at_92) ?_
    show Steps p.tables e below (T5.setTop (mkF m 93 #[.val (.int wh), .val (.int fl), .val (.int ps), .val (.int ch), .val (.int (own_k wh)), .val (.ref r_1), .val (.int (0 : Int32)), .val (.int (own_p ps wh)), .val (.int (own_c ch)), .val (.int ((own_U (own_k wh)).getD (own_p ps wh).toNatClampNeg 0)), .val (.int (0 : Int32)), .val (.ref b4), .unset] [(.int (4 : Int32)), (.int (own_k wh))])) _
    refine XS.icmpYes X5.here hx rfl (pc0 := 93) (pc' := 105) rfl (hb hby at_93) rfl (flt (hk4 : ¬ ((own_k wh) < (4 : Int32)))).2.1 (by decide) (by decide) ?_
    show Steps p.tables e below (T5.setTop (mkF m 105 #[.val (.int wh), .val (.int fl), .val (.int ps), .val (.int ch), .val (.int (own_k wh)), .val (.ref r_1), .val (.int (0 : Int32)), .val (.int (own_p ps wh)), .val (.int (own_c ch)), .val (.int ((own_U (own_k wh)).getD (own_p ps wh).toNatClampNeg 0)), .val (.int (0 : Int32)), .val (.ref b4), .unset] [])) _
    refine XS.iconst X5.here hx rfl (hb hby at_105) ?_
    show Steps p.tables e below (T5.setTop (mkF m 106 #[.val (.int wh), .val (.int fl), .val (.int ps), .val (.int ch), .val (.int (own_k wh)), .val (.ref r_1), .val (.int (0 : Int32)), .val (.int (own_p ps wh)), .val (.int (own_c ch)), .val (.int ((own_U (own_k wh)).getD (own_p ps wh).toNatClampNeg 0)), .val (.int (0 : Int32)), .val (.ref b4), .unset] [(.int (0 : Int32))])) _
    refine XS.istore X5.here hx rfl (hb hby at_106) rfl (l' := #[.val (.int wh), .val (.int fl), .val (.int ps), .val (.int ch), .val (.int (own_k wh)), .val (.ref r_1), .val (.int (0 : Int32)), .val (.int (own_p ps wh)), .val (.int (own_c ch)), .val (.int ((own_U (own_k wh)).getD (own_p ps wh).toNatClampNeg 0)), .val (.int (0 : Int32)), .val (.ref b4), .val (.int (0 : Int32))]) rfl ?_
    show Steps p.tables e below (T5.setTop (mkF m 108 #[.val (.int wh), .val (.int fl), .val (.int ps), .val (.int ch), .val (.int (own_k wh)), .val (.ref r_1), .val (.int (0 : Int32)), .val (.int (own_p ps wh)), .val (.int (own_c ch)), .val (.int ((own_U (own_k wh)).getD (own_p ps wh).toNatClampNeg 0)), .val (.int (0 : Int32)), .val (.ref b4), .val (.int (0 : Int32))] [])) _
    refine XS.aload X5.here hx rfl (hb hby at_108) rfl rfl ?_
    show Steps p.tables e below (T5.setTop (mkF m 110 #[.val (.int wh), .val (.int fl), .val (.int ps), .val (.int ch), .val (.int (own_k wh)), .val (.ref r_1), .val (.int (0 : Int32)), .val (.int (own_p ps wh)), .val (.int (own_c ch)), .val (.int ((own_U (own_k wh)).getD (own_p ps wh).toNatClampNeg 0)), .val (.int (0 : Int32)), .val (.ref b4), .val (.int (0 : Int32))] [(.ref b4)])) _
    refine st6.trans ?_
    show Steps p.tables e below (T6.setTop (mkF m 113 #[.val (.int wh), .val (.int fl), .val (.int ps), .val (.int ch), .val (.int (own_k wh)), .val (.ref r_1), .val (.int (0 : Int32)), .val (.int (own_p ps wh)), .val (.int (own_c ch)), .val (.int ((own_U (own_k wh)).getD (own_p ps wh).toNatClampNeg 0)), .val (.int (0 : Int32)), .val (.ref b4), .val (.int (0 : Int32))] [(.int (own_bi (own_U (own_k wh))))])) _
    refine castTop (congrArg (fun z_ => (mkF m 113 #[.val (.int wh), .val (.int fl), .val (.int ps), .val (.int ch), .val (.int (own_k wh)), .val (.ref r_1), .val (.int (0 : Int32)), .val (.int (own_p ps wh)), .val (.int (own_c ch)), .val (.int ((own_U (own_k wh)).getD (own_p ps wh).toNatClampNeg 0)), .val (.int (0 : Int32)), .val (.ref b4), .val (.int (0 : Int32))] [(.int z_)])) (own_bi_ge wh hk4 : (own_bi (own_U (own_k wh))) = (0 : Int32))) ?_
    show Steps p.tables e below (T6.setTop (mkF m 113 #[.val (.int wh), .val (.int fl), .val (.int ps), .val (.int ch), .val (.int (own_k wh)), .val (.ref r_1), .val (.int (0 : Int32)), .val (.int (own_p ps wh)), .val (.int (own_c ch)), .val (.int ((own_U (own_k wh)).getD (own_p ps wh).toNatClampNeg 0)), .val (.int (0 : Int32)), .val (.ref b4), .val (.int (0 : Int32))] [(.int (0 : Int32))])) _
    refine XS.iload X6.here hx rfl (hb hby at_113) rfl ?_
    show Steps p.tables e below (T6.setTop (mkF m 115 #[.val (.int wh), .val (.int fl), .val (.int ps), .val (.int ch), .val (.int (own_k wh)), .val (.ref r_1), .val (.int (0 : Int32)), .val (.int (own_p ps wh)), .val (.int (own_c ch)), .val (.int ((own_U (own_k wh)).getD (own_p ps wh).toNatClampNeg 0)), .val (.int (0 : Int32)), .val (.ref b4), .val (.int (0 : Int32))] [(.int (0 : Int32)), (.int (0 : Int32))])) _
    refine XS.icmpNo X6.here hx rfl (hb hby at_115) rfl (teq (by decide : (0 : Int32) = (0 : Int32))).2 ?_
    show Steps p.tables e below (T6.setTop (mkF m 118 #[.val (.int wh), .val (.int fl), .val (.int ps), .val (.int ch), .val (.int (own_k wh)), .val (.ref r_1), .val (.int (0 : Int32)), .val (.int (own_p ps wh)), .val (.int (own_c ch)), .val (.int ((own_U (own_k wh)).getD (own_p ps wh).toNatClampNeg 0)), .val (.int (0 : Int32)), .val (.ref b4), .val (.int (0 : Int32))] [])) _
    refine XS.iconst X6.here hx rfl (hb hby at_118) ?_
    show Steps p.tables e below (T6.setTop (mkF m 119 #[.val (.int wh), .val (.int fl), .val (.int ps), .val (.int ch), .val (.int (own_k wh)), .val (.ref r_1), .val (.int (0 : Int32)), .val (.int (own_p ps wh)), .val (.int (own_c ch)), .val (.int ((own_U (own_k wh)).getD (own_p ps wh).toNatClampNeg 0)), .val (.int (0 : Int32)), .val (.ref b4), .val (.int (0 : Int32))] [(.int (1 : Int32))])) _
    refine XS.goto X6.here hx rfl (pc0 := 119) (pc' := 123) rfl (hb hby at_119) (by decide) (by decide) ?_
    show Steps p.tables e below (T6.setTop (mkF m 123 #[.val (.int wh), .val (.int fl), .val (.int ps), .val (.int ch), .val (.int (own_k wh)), .val (.ref r_1), .val (.int (0 : Int32)), .val (.int (own_p ps wh)), .val (.int (own_c ch)), .val (.int ((own_U (own_k wh)).getD (own_p ps wh).toNatClampNeg 0)), .val (.int (0 : Int32)), .val (.ref b4), .val (.int (0 : Int32))] [(.int (1 : Int32))])) _
    exact retN X6 hx (t := .boolean) Bd.returns (by simp) (hb hby at_123) hr
  · show Q_law Z wh fl ps ch cz h0 n0 _ T6.heap _
    exact ⟨rfl, N6⟩
  · show CHr Z own_EL s.vm s.heap T6.vm T6.heap
    rw [hh]; exact CE
set_option maxRecDepth 65536 in
set_option maxHeartbeats 40000000 in
theorem law_B0 (l : Launch) (Z : State) (a0 : Array Value) (hw : ∀ d ∈ tables_1, d.before a0 Z = true) (ws : List Jvm.Cond) (wh : Int32) (fl : Int32) (ps : Int32) (ch : Int32) (cz : Int32) (h0 : Heap) (n0 : Nat) (O0 : Old Z n0 h0) (G0 : Sta Z Z.heap "java/lang/String" "COMPACT_STRINGS" "Z" (.int cz)) (G1 : Sta Z Z.heap "java/lang/StringUTF16" "$assertionsDisabled" "Z" (.int (1 : Int32))) (G2 : Sta Z Z.heap "java/lang/StringUTF16" "HI_BYTE_SHIFT" "I" (.int (0 : Int32))) (G3 : Sta Z Z.heap "java/lang/StringUTF16" "LO_BYTE_SHIFT" "I" (.int (8 : Int32))) (hcs : ¬ (cz = (0 : Int32))) (hf : ¬ ((fl &&& (1 : Int32)) = (0 : Int32))) (hch : ((own_U (own_k wh)).getD (own_p ps wh).toNatClampNeg 0) = (own_c ch)) (hlat : ¬ ((255 : Int32) < (own_c ch))) (hk4 : ¬ ((own_k wh) < (4 : Int32))) :
    MetFree l x (head1 (Jvm.Cond.code x code maxLocals ret :: ws) room_1) (fun zA zU => zA = #[(.int wh), (.int fl), (.int ps), (.int ch)] ∧ Z.Warmed39 zU.vm ∧ zU.heap = h0 ∧ CHv Z own_EL zU.vm h0 ∧ ∀ x ∈ ([] : List Addr), Safe Z own_EL zU.vm h0 x) (fun _ _ _ _ _ => True) (fun _ zU zo zU' => ∃ zv zL, zo = .returned zv ∧ Q_law Z wh fl ps ch cz h0 n0 zv zU'.heap zL ∧ CHr Z own_EL zU.vm zU.heap zU'.vm zU'.heap ∧ ReturnedEndW zU zo zU' zL room_1.cells room_1.slots) := by
  refine MetFree.of_bodySF (plainFor_of_name pn_17) hisR ?_
  intro p e s m args below meth c s₁ Bd hml0 hP hK
  obtain ⟨rfl, hZ, hh, HC, HS⟩ := hP
  have hx := Bd.exec
  have hby := Bd.bytes
  have hml : c.maxLocals = 13 := hml0
  have hown : s.vm.findClass "com/example/tsutsumi/tsutsumi/service/SchemaElementsIsBuiltInNamespacePinLaw" = some m.cls := findClass_of_methodNamed Bd.named
  have hnm := (name_of_methodNamed Bd.named Bd.method).1
  have X0 : Stand p l e room_1 (s.setVm s.vm) m #[(.int wh), (.int fl), (.int ps), (.int ch)] below meth c s₁ [] 0 0 := Stand.of_body Bd
  have e0 : s₁.heap = h0 := by rw [← hh, Bd.state]; rfl
  have N0 := Fr.nil n0
  have Z0 : n0 ≤ h0.size := O0.1 ▸ O0.2.1
  have pre0 : ∀ zt, Steps p.tables e below (s₁.setTop (mkF m 0 #[.val (.int wh), .val (.int fl), .val (.int ps), .val (.int ch), .unset, .unset, .unset, .unset, .unset, .unset, .unset, .unset, .unset] [])) zt → Steps p.tables e below (s₁.setTop (entryFrame m #[(.int wh), (.int fl), (.int ps), (.int ch)] maxLocals)) zt := fun zt zk => castTop (ef_0_IIII m wh fl ps ch) zk
  have hEL := own_EW hw
  have wS := own_wS hw
  have hS0 : s.Since s.vm 0 := (State.WarmedH.refl s).since 0
  have CR0 : CHr Z own_EL s.vm h0 s.vm h0 := CHr.refl HC
  have hZ0 := hZ
  have hown0 := hown
  obtain ⟨_, _, ⟨T1, L1, k1, n1⟩, -, X1, ⟨Lc1, hQ1, l1, y1, z1⟩, st1⟩ := Jvm.LawKit.callS X0 hx (y := (⟨"com/example/tsutsumi/tsutsumi/service/SchemaElementsIsBuiltInNamespacePinLaw", "uriChars", "(I)[C"⟩ : MethodName)) hown (mvT hZ (hw _ (List.mem_of_getElem? (i := 0) rfl))) (mvT hZ (hw _ (List.mem_of_getElem? (i := 1) rfl))) (mvT hZ (hw _ (List.mem_of_getElem? (i := 2) rfl))) (mvT hZ (hw _ (List.mem_of_getElem? (i := 3) rfl))) (by decide) (backOf (W := 0) (uri l Z a0 hw [] (own_k wh) h0 n0 (Nat.le_trans Z0 (Keep.refl h0 []).1) ) hZ (hw _ (List.mem_of_getElem? (i := 3) rfl)) (hw _ (List.mem_of_getElem? (i := 2) rfl)) (by decide) (by decide)) (g := (mkF m 8 #[.val (.int wh), .val (.int fl), .val (.int ps), .val (.int ch), .val (.int (own_k wh)), .unset, .unset, .unset, .unset, .unset, .unset, .unset, .unset] [(.int (own_k wh))])) rfl (by rw [hml]; rfl) (argsL := [(.int (own_k wh))]) (rest := []) (lenOf pd_9 rfl) rfl (by show 2 * 0 + _ ≤ _; exact Nat.le_of_eq rfl) (hb hby at_8) (fun _ _ => ⟨rfl, e0, (by decide : 0 + 1 ≤ _), (by decide : 0 + 41 ≤ _)⟩)
  dsimp only [Pt.U, Pt.locs, Pt.cells, Pt.slots] at X1 l1 y1 z1 st1 hQ1
  subst l1 y1 z1
  obtain ⟨r_1, kr_1, rfl, Nq1, kh1, fz_r_1, Po1_0⟩ := hQ1
  have N1 := Fr.app N0 Nq1
  have sz_r_1 : h0.size ≤ r_1 := Nat.le_trans (Keep.refl h0 []).1 fz_r_1
  have g_r_1 : n0 ≤ r_1 := Nat.le_trans Z0 sz_r_1
  have O1 := O0.keep kh1 all0
  have K1 : Keep h0 T1.heap [] := (Keep.refl h0 []).trans kh1 all0
  have hs1 : ∀ x ∈ ([] : List Addr), Safe Z own_EL s.vm h0 x := all0
  have CR1 := CR0.trans (CHr.keep kh1 hs1 CR0.1)
  obtain ⟨cl2, Ar2, -, Sz2, Ng2, -⟩ := (id Po1_0)
  obtain ⟨cl3, Ar3, q3, Sz3, Ng3, Hs3, Gs3⟩ := (id Po1_0)
  have hin3 : ¬ ((own_p ps wh) < 0 ∨ cl3.slots.size ≤ ((own_p ps wh)).toNatClampNeg) := inb_of Sz3 (own_pb ps wh)
  have hat3 : cl3.slots[((own_p ps wh)).toNatClampNeg]? = some (.int ((own_U (own_k wh)).getD (own_p ps wh).toNatClampNeg 0)) := Has.at Hs3 hin3 (own_gdp (own_pl ps wh))
  obtain ⟨cl4, Ar4, q4, Sz4, Ng4, Hs4, Gs4⟩ := (id Po1_0)
  have hin4 : ¬ ((own_p ps wh) < 0 ∨ cl4.slots.size ≤ ((own_p ps wh)).toNatClampNeg) := inb_of Sz4 (own_pb ps wh)
  obtain ⟨T4, h4, X4, e4, W4, st4⟩ := stC X1 hx hZ rfl Ar4 (j := (own_p ps wh)) hin4 (g := (mkF m 64 #[.val (.int wh), .val (.int fl), .val (.int ps), .val (.int ch), .val (.int (own_k wh)), .val (.ref r_1), .val (.int (1 : Int32)), .val (.int (own_p ps wh)), .val (.int (own_c ch)), .val (.int ((own_U (own_k wh)).getD (own_p ps wh).toNatClampNeg 0)), .val (.int (0 : Int32)), .unset, .unset] [(.int (own_c ch)), (.int (own_p ps wh)), (.ref r_1)])) rfl rfl (hb hby at_64)
  have Va4 := Arv.set Ar4 q4 Sz4 Ng4 Hs4 Gs4 (fits_nar_char _) W4 (own_p ps wh).toNatClampNeg rfl (by rw [List.length_map]; exact own_pl ps wh)
  have Sw4 : Safe Z own_EL s.vm T1.heap r_1 := (own_safe_arv hZ.alike Po1_0 (by decide))
  have O4 := O1.wr W4 g_r_1
  have K4 : Keep h0 h4 [] := K1.wr W4 (Or.inr sz_r_1)
  have N4 := Fr.snoc X4 N1 g_r_1
  have CR4 := CR1.trans (CHr.wr W4 Sw4 CR1.1)
  have V4 : Arv Z h4 r_1 kr_1 .char (Int32.ofNat (own_V wh ps ch).length) ((own_V wh ps ch).map Value.int) (.int (0 : Int32)) := by rw [own_V_len, ← own_Vmap]; exact Va4
  obtain ⟨T5, h5, X5, e5, E5, A5, D5, U5, st5⟩ := newO X4 hx hZ hown (hw _ (List.mem_of_getElem? (i := 7) rfl)) (hw _ (List.mem_of_getElem? (i := 8) rfl)) (hw _ (List.mem_of_getElem? (i := 9) rfl)) e4 (g := (mkF m 79 #[.val (.int wh), .val (.int fl), .val (.int ps), .val (.int ch), .val (.int (own_k wh)), .val (.ref r_1), .val (.int (1 : Int32)), .val (.int (own_p ps wh)), .val (.int (own_c ch)), .val (.int ((own_U (own_k wh)).getD (own_p ps wh).toNatClampNeg 0)), .val (.int (0 : Int32)), .unset, .unset] [])) rfl (hb hby at_79) (by decide) (by decide)
  obtain ⟨b5, gz5⟩ : ∃ z, z = h4.size := ⟨_, rfl⟩
  rw [← gz5] at A5 D5 U5 st5
  have sz_b5 : h0.size ≤ b5 := Nat.le_trans K4.1 (Nat.le_of_eq gz5.symm)
  have g_b5 : n0 ≤ b5 := Nat.le_trans Z0 sz_b5
  have O5 := O4.ext E5
  have K5 : Keep h0 h5 [] := K4.ext E5
  have CR5 := CR4.trans (CHr.ext E5 CR4.1)
  have Sn5 : Safe Z own_EL s.vm h5 b5 := Safe.ext E5 CR4.1 (Safe.new (Nat.le_of_eq gz5.symm))
  have Fi5_33 : Fld Z h5 b5 "java/lang/String" "coder" "B" (.int (0 : Int32)) := D5 (Or.inr (hw _ (List.mem_of_getElem? (i := 33) rfl))) (ty := .byte) (by decide)
  have Fi5_35 : Fld Z h5 b5 "java/lang/String" "value" "[B" .null := D5 (Or.inr (hw _ (List.mem_of_getElem? (i := 35) rfl))) (ty := (.array .byte)) (by decide)
  obtain ⟨_, _, ⟨T6, L6, k6, n6⟩, -, X6, ⟨Lc6, hQ6, l6, y6, z6⟩, st6⟩ := X5.specialBack hx (y := (⟨"java/lang/String", "<init>", "([C)V"⟩ : MethodName)) rfl hown (mvT hZ (hw _ (List.mem_of_getElem? (i := 10) rfl))) (mvT hZ (hw _ (List.mem_of_getElem? (i := 11) rfl))) (mvT hZ (hw _ (List.mem_of_getElem? (i := 12) rfl))) (by decide) (own_siB (W := 1) hZ hw (by decide) (by decide) b5 r_1 kr_1 (own_V wh ps ch) cz h5 n0 O5 G0 A5 Fi5_35 Fi5_33 (V4.ext E5) g_b5 hcs (own_V_l0 wh ps ch).2 (own_V_l0 wh ps ch).1 (own_V_lo hlat)) (g := (mkF m 85 #[.val (.int wh), .val (.int fl), .val (.int ps), .val (.int ch), .val (.int (own_k wh)), .val (.ref r_1), .val (.int (1 : Int32)), .val (.int (own_p ps wh)), .val (.int (own_c ch)), .val (.int ((own_U (own_k wh)).getD (own_p ps wh).toNatClampNeg 0)), .val (.int (0 : Int32)), .unset, .unset] [(.ref r_1), (.ref b5), (.ref b5)])) rfl (by rw [hml]; rfl) (Steps.refl _) (a := b5) (argsL := [(.ref r_1)]) (rest := [(.ref b5)]) (lenOf pd_10 rfl) rfl (by show 2 * 0 + _ ≤ _; exact Nat.le_of_eq rfl) (hb hby at_85) (fun _ _ => ⟨rfl, e5, (by decide : 2 + 1 ≤ _), (by decide : 45 + 41 ≤ _)⟩)
  dsimp only [Pt.U, Pt.locs, Pt.cells, Pt.slots] at X6 l6 y6 z6 st6 hQ6
  subst l6 y6 z6
  obtain ⟨t_6, kt_6, rfl, Nq6, kh6, fz_t_6, Po6_0, Po6_1, Po6_2, Po6_3⟩ := hQ6
  have N6 := Fr.app N4 Nq6
  have sz_t_6 : h0.size ≤ t_6 := Nat.le_trans K5.1 fz_t_6
  have g_t_6 : n0 ≤ t_6 := Nat.le_trans Z0 sz_t_6
  have O6 := O5.keep kh6 (allS g_b5 all0)
  have K6 : Keep h0 T6.heap [] := K5.trans kh6 (allS (Or.inr sz_b5) all0)
  have hs6 : ∀ x ∈ ([b5] : List Addr), Safe Z own_EL s.vm h5 x := (allS Sn5 all0)
  have CR6 := CR5.trans (CHr.keep kh6 hs6 CR5.1)
  have Sy6_b5 := Safe.keep kh6 hs6 CR5.1 Sn5
  obtain ⟨_, _, ⟨T7, L7, k7, n7⟩, -, Xr7, hSr7, hg7, ⟨Lc7, hQ7, l7, y7, z7, CL7⟩, st7⟩ := callSS X6 hx (y := (⟨"com/example/tsutsumi/tsutsumi/service/SchemaElements", "isBuiltInNamespace", "(Ljava/lang/String;)Z"⟩ : MethodName)) hown (mvT hZ (hw _ (List.mem_of_getElem? (i := 36) rfl))) (mvT hZ (hw _ (List.mem_of_getElem? (i := 37) rfl))) (mvT hZ (hw _ (List.mem_of_getElem? (i := 38) rfl))) (mvT hZ (hw _ (List.mem_of_getElem? (i := 39) rfl))) (by decide) (own_backSH (s := s) (vm0 := s.vm) (W := 0) (biL l Z a0 hw [] b5 t_6 kt_6 (own_V wh ps ch) cz T6.heap n0 O6 G0 Po6_0 Po6_2 Po6_1 Po6_3 hcs (own_V_l0 wh ps ch).2 (own_V_lo hlat)) hZ (hw _ (List.mem_of_getElem? (i := 39) rfl)) (hw _ (List.mem_of_getElem? (i := 38) rfl)) (by decide) (by decide) hEL CR6.1 all0) (g := (mkF m 110 #[.val (.int wh), .val (.int fl), .val (.int ps), .val (.int ch), .val (.int (own_k wh)), .val (.ref r_1), .val (.int (1 : Int32)), .val (.int (own_p ps wh)), .val (.int (own_c ch)), .val (.int ((own_U (own_k wh)).getD (own_p ps wh).toNatClampNeg 0)), .val (.int (0 : Int32)), .val (.ref b5), .val (.int (0 : Int32))] [(.ref b5)])) rfl (by rw [hml]; rfl) (argsL := [(.ref b5)]) (rest := []) (lenOf pd_11 rfl) rfl (by show 2 * 0 + _ ≤ _; exact Nat.le_of_eq rfl) (hb hby at_110) (fun _ _ => ⟨rfl, rfl, (by decide : 3 + 8 ≤ _), (by decide : 86 + 576 ≤ _)⟩)
  dsimp only [Pt.U, Pt.locs, Pt.cells, Pt.slots] at Xr7 l7 y7 z7 st7 hQ7 hSr7 hg7 CL7
  subst l7 y7 z7
  obtain ⟨X7, hS7, hZ, hown⟩ := rebS (s := s) (vm0 := s.vm) hS0 (own_hk rfl (Nat.le_trans (Nat.le_trans (Nat.le_trans (Nat.le_trans (Nat.zero_le _) kh1.1) (Keep.of_wr W4).1) E5.1) kh6.1)) Xr7 hSr7 hg7 hZ hown
  obtain ⟨rfl, Nq7, kh7⟩ := hQ7
  have N7 := Fr.app N6 Nq7
  have hZ7 := hZ
  have hown7 := hown
  have O7 := O6.keep kh7 all0
  have K7 : Keep h0 T7.heap [] := K6.trans kh7 all0
  have CR7 := CR6.trans CL7
  have Sy7_b5 := CL7.safe (Po6_0).lt Sy6_b5
  obtain ⟨fs, hr, hrun, hended, hRW⟩ := X7.leaveW (s := s) hS7 (own_hk rfl (Nat.le_refl _)) (v := some (.int (1 : Int32))) (fun h => by rw [Bd.returns] at h; cases h)
  have CE := CR7.trans (CHv.at (s := s) (vm0 := T7.vm) X7 hZ hEL CR7.1)
  refine ⟨_, _, pre0 _ ?_, hrun, hended, _, _, rfl, ?_, ?_, own_rw_mono hRW (by decide) (by decide)⟩
  · show Steps p.tables e below (s₁.setTop (mkF m 0 #[.val (.int wh), .val (.int fl), .val (.int ps), .val (.int ch), .unset, .unset, .unset, .unset, .unset, .unset, .unset, .unset, .unset] [])) _
    refine XS.iloadN X0.here hx rfl (hb hby at_0) rfl ?_
    show Steps p.tables e below (s₁.setTop (mkF m 1 #[.val (.int wh), .val (.int fl), .val (.int ps), .val (.int ch), .unset, .unset, .unset, .unset, .unset, .unset, .unset, .unset, .unset] [(.int wh)])) _
    refine XS.bipush X0.here hx rfl (hb hby at_1) ?_
    show Steps p.tables e below (s₁.setTop (mkF m 3 #[.val (.int wh), .val (.int fl), .val (.int ps), .val (.int ch), .unset, .unset, .unset, .unset, .unset, .unset, .unset, .unset, .unset] [(.int (7 : Int32)), (.int wh)])) _
    refine XS.iand X0.here hx rfl (hb hby at_3) rfl ?_
    show Steps p.tables e below (s₁.setTop (mkF m 4 #[.val (.int wh), .val (.int fl), .val (.int ps), .val (.int ch), .unset, .unset, .unset, .unset, .unset, .unset, .unset, .unset, .unset] [(.int (wh &&& (7 : Int32)))])) _
    refine castTop (congrArg (fun z_ => (mkF m 4 #[.val (.int wh), .val (.int fl), .val (.int ps), .val (.int ch), .unset, .unset, .unset, .unset, .unset, .unset, .unset, .unset, .unset] [(.int z_)])) (rfl : (wh &&& (7 : Int32)) = (own_k wh))) ?_
    show Steps p.tables e below (s₁.setTop (mkF m 4 #[.val (.int wh), .val (.int fl), .val (.int ps), .val (.int ch), .unset, .unset, .unset, .unset, .unset, .unset, .unset, .unset, .unset] [(.int (own_k wh))])) _
    refine XS.istore X0.here hx rfl (hb hby at_4) rfl (l' := #[.val (.int wh), .val (.int fl), .val (.int ps), .val (.int ch), .val (.int (own_k wh)), .unset, .unset, .unset, .unset, .unset, .unset, .unset, .unset]) rfl ?_
    show Steps p.tables e below (s₁.setTop (mkF m 6 #[.val (.int wh), .val (.int fl), .val (.int ps), .val (.int ch), .val (.int (own_k wh)), .unset, .unset, .unset, .unset, .unset, .unset, .unset, .unset] [])) _
    refine XS.iload X0.here hx rfl (hb hby at_6) rfl ?_
    show Steps p.tables e below (s₁.setTop (mkF m 8 #[.val (.int wh), .val (.int fl), .val (.int ps), .val (.int ch), .val (.int (own_k wh)), .unset, .unset, .unset, .unset, .unset, .unset, .unset, .unset] [(.int (own_k wh))])) _
    refine st1 _ ?_
    show Steps p.tables e below (T1.setTop (mkF m 11 #[.val (.int wh), .val (.int fl), .val (.int ps), .val (.int ch), .val (.int (own_k wh)), .unset, .unset, .unset, .unset, .unset, .unset, .unset, .unset] [(.ref r_1)])) _
    refine XS.astore X1.here hx rfl (hb hby at_11) rfl rfl (l' := #[.val (.int wh), .val (.int fl), .val (.int ps), .val (.int ch), .val (.int (own_k wh)), .val (.ref r_1), .unset, .unset, .unset, .unset, .unset, .unset, .unset]) rfl ?_
    show Steps p.tables e below (T1.setTop (mkF m 13 #[.val (.int wh), .val (.int fl), .val (.int ps), .val (.int ch), .val (.int (own_k wh)), .val (.ref r_1), .unset, .unset, .unset, .unset, .unset, .unset, .unset] [])) _
    refine XS.iloadN X1.here hx rfl (hb hby at_13) rfl ?_
    show Steps p.tables e below (T1.setTop (mkF m 14 #[.val (.int wh), .val (.int fl), .val (.int ps), .val (.int ch), .val (.int (own_k wh)), .val (.ref r_1), .unset, .unset, .unset, .unset, .unset, .unset, .unset] [(.int fl)])) _
    refine XS.iconst X1.here hx rfl (hb hby at_14) ?_
    show Steps p.tables e below (T1.setTop (mkF m 15 #[.val (.int wh), .val (.int fl), .val (.int ps), .val (.int ch), .val (.int (own_k wh)), .val (.ref r_1), .unset, .unset, .unset, .unset, .unset, .unset, .unset] [(.int (1 : Int32)), (.int fl)])) _
    refine XS.iand X1.here hx rfl (hb hby at_15) rfl ?_
    show Steps p.tables e below (T1.setTop (mkF m 16 #[.val (.int wh), .val (.int fl), .val (.int ps), .val (.int ch), .val (.int (own_k wh)), .val (.ref r_1), .unset, .unset, .unset, .unset, .unset, .unset, .unset] [(.int (fl &&& (1 : Int32)))])) _
    refine XS.ifNo X1.here hx rfl (hb hby at_16) rfl ((if0 _ _).trans (feq (hf : ¬ ((fl &&& (1 : Int32)) = (0 : Int32)))).1) ?_
    show Steps p.tables e below (T1.setTop (mkF m 19 #[.val (.int wh), .val (.int fl), .val (.int ps), .val (.int ch), .val (.int (own_k wh)), .val (.ref r_1), .unset, .unset, .unset, .unset, .unset, .unset, .unset] [])) _
    refine XS.iconst X1.here hx rfl (hb hby at_19) ?_
    show Steps p.tables e below (T1.setTop (mkF m 20 #[.val (.int wh), .val (.int fl), .val (.int ps), .val (.int ch), .val (.int (own_k wh)), .val (.ref r_1), .unset, .unset, .unset, .unset, .unset, .unset, .unset] [(.int (1 : Int32))])) _
    refine XS.goto X1.here hx rfl (pc0 := 20) (pc' := 24) rfl (hb hby at_20) (by decide) (by decide) ?_
    show Steps p.tables e below (T1.setTop (mkF m 24 #[.val (.int wh), .val (.int fl), .val (.int ps), .val (.int ch), .val (.int (own_k wh)), .val (.ref r_1), .unset, .unset, .unset, .unset, .unset, .unset, .unset] [(.int (1 : Int32))])) _
    refine XS.istore X1.here hx rfl (hb hby at_24) rfl (l' := #[.val (.int wh), .val (.int fl), .val (.int ps), .val (.int ch), .val (.int (own_k wh)), .val (.ref r_1), .val (.int (1 : Int32)), .unset, .unset, .unset, .unset, .unset, .unset]) rfl ?_
    show Steps p.tables e below (T1.setTop (mkF m 26 #[.val (.int wh), .val (.int fl), .val (.int ps), .val (.int ch), .val (.int (own_k wh)), .val (.ref r_1), .val (.int (1 : Int32)), .unset, .unset, .unset, .unset, .unset, .unset] [])) _
    refine XS.iloadN X1.here hx rfl (hb hby at_26) rfl ?_
    show Steps p.tables e below (T1.setTop (mkF m 27 #[.val (.int wh), .val (.int fl), .val (.int ps), .val (.int ch), .val (.int (own_k wh)), .val (.ref r_1), .val (.int (1 : Int32)), .unset, .unset, .unset, .unset, .unset, .unset] [(.int ps)])) _
    refine X1.ldcInt hx hown0 (mvT hZ0 (hw _ (List.mem_of_getElem? (i := 5) rfl))) (g := (mkF m 27 #[.val (.int wh), .val (.int fl), .val (.int ps), .val (.int ch), .val (.int (own_k wh)), .val (.ref r_1), .val (.int (1 : Int32)), .unset, .unset, .unset, .unset, .unset, .unset] [(.int ps)])) rfl (hb hby at_27) _ ?_
    show Steps p.tables e below (T1.setTop (mkF m 29 #[.val (.int wh), .val (.int fl), .val (.int ps), .val (.int ch), .val (.int (own_k wh)), .val (.ref r_1), .val (.int (1 : Int32)), .unset, .unset, .unset, .unset, .unset, .unset] [(.int (2147483647 : Int32)), (.int ps)])) _
    refine XS.iand X1.here hx rfl (hb hby at_29) rfl ?_
    show Steps p.tables e below (T1.setTop (mkF m 30 #[.val (.int wh), .val (.int fl), .val (.int ps), .val (.int ch), .val (.int (own_k wh)), .val (.ref r_1), .val (.int (1 : Int32)), .unset, .unset, .unset, .unset, .unset, .unset] [(.int (ps &&& (2147483647 : Int32)))])) _
    refine XS.aload X1.here hx rfl (hb hby at_30) rfl rfl ?_
    show Steps p.tables e below (T1.setTop (mkF m 32 #[.val (.int wh), .val (.int fl), .val (.int ps), .val (.int ch), .val (.int (own_k wh)), .val (.ref r_1), .val (.int (1 : Int32)), .unset, .unset, .unset, .unset, .unset, .unset] [(.ref r_1), (.int (ps &&& (2147483647 : Int32)))])) _
    refine X1.arraylength hx (Ar2.at_ rfl) (State.isArrayOf_alike hZ0.alike Ar2.2.1) (g := (mkF m 32 #[.val (.int wh), .val (.int fl), .val (.int ps), .val (.int ch), .val (.int (own_k wh)), .val (.ref r_1), .val (.int (1 : Int32)), .unset, .unset, .unset, .unset, .unset, .unset] [(.ref r_1), (.int (ps &&& (2147483647 : Int32)))])) rfl rfl (hb hby at_32) _ ?_
    rw [len_of Sz2 Ng2]
    show Steps p.tables e below (T1.setTop (mkF m 33 #[.val (.int wh), .val (.int fl), .val (.int ps), .val (.int ch), .val (.int (own_k wh)), .val (.ref r_1), .val (.int (1 : Int32)), .unset, .unset, .unset, .unset, .unset, .unset] [(.int (Int32.ofNat (own_U (own_k wh)).length)), (.int (ps &&& (2147483647 : Int32)))])) _
    refine iremM X1 hx rfl (hb hby at_33) rfl (own_ndz _) ?_
    show Steps p.tables e below (T1.setTop (mkF m 34 #[.val (.int wh), .val (.int fl), .val (.int ps), .val (.int ch), .val (.int (own_k wh)), .val (.ref r_1), .val (.int (1 : Int32)), .unset, .unset, .unset, .unset, .unset, .unset] [(.int ((ps &&& (2147483647 : Int32)) % (Int32.ofNat (own_U (own_k wh)).length)))])) _
    refine castTop (congrArg (fun z_ => (mkF m 34 #[.val (.int wh), .val (.int fl), .val (.int ps), .val (.int ch), .val (.int (own_k wh)), .val (.ref r_1), .val (.int (1 : Int32)), .unset, .unset, .unset, .unset, .unset, .unset] [(.int z_)])) (rfl : ((ps &&& (2147483647 : Int32)) % (Int32.ofNat (own_U (own_k wh)).length)) = (own_p ps wh))) ?_
    show Steps p.tables e below (T1.setTop (mkF m 34 #[.val (.int wh), .val (.int fl), .val (.int ps), .val (.int ch), .val (.int (own_k wh)), .val (.ref r_1), .val (.int (1 : Int32)), .unset, .unset, .unset, .unset, .unset, .unset] [(.int (own_p ps wh))])) _
    refine XS.istore X1.here hx rfl (hb hby at_34) rfl (l' := #[.val (.int wh), .val (.int fl), .val (.int ps), .val (.int ch), .val (.int (own_k wh)), .val (.ref r_1), .val (.int (1 : Int32)), .val (.int (own_p ps wh)), .unset, .unset, .unset, .unset, .unset]) rfl ?_
    show Steps p.tables e below (T1.setTop (mkF m 36 #[.val (.int wh), .val (.int fl), .val (.int ps), .val (.int ch), .val (.int (own_k wh)), .val (.ref r_1), .val (.int (1 : Int32)), .val (.int (own_p ps wh)), .unset, .unset, .unset, .unset, .unset] [])) _
    refine XS.iloadN X1.here hx rfl (hb hby at_36) rfl ?_
    show Steps p.tables e below (T1.setTop (mkF m 37 #[.val (.int wh), .val (.int fl), .val (.int ps), .val (.int ch), .val (.int (own_k wh)), .val (.ref r_1), .val (.int (1 : Int32)), .val (.int (own_p ps wh)), .unset, .unset, .unset, .unset, .unset] [(.int ch)])) _
    refine X1.ldcInt hx hown0 (mvT hZ0 (hw _ (List.mem_of_getElem? (i := 6) rfl))) (g := (mkF m 37 #[.val (.int wh), .val (.int fl), .val (.int ps), .val (.int ch), .val (.int (own_k wh)), .val (.ref r_1), .val (.int (1 : Int32)), .val (.int (own_p ps wh)), .unset, .unset, .unset, .unset, .unset] [(.int ch)])) rfl (hb hby at_37) _ ?_
    show Steps p.tables e below (T1.setTop (mkF m 39 #[.val (.int wh), .val (.int fl), .val (.int ps), .val (.int ch), .val (.int (own_k wh)), .val (.ref r_1), .val (.int (1 : Int32)), .val (.int (own_p ps wh)), .unset, .unset, .unset, .unset, .unset] [(.int (65535 : Int32)), (.int ch)])) _
    refine XS.iand X1.here hx rfl (hb hby at_39) rfl ?_
    show Steps p.tables e below (T1.setTop (mkF m 40 #[.val (.int wh), .val (.int fl), .val (.int ps), .val (.int ch), .val (.int (own_k wh)), .val (.ref r_1), .val (.int (1 : Int32)), .val (.int (own_p ps wh)), .unset, .unset, .unset, .unset, .unset] [(.int (ch &&& (65535 : Int32)))])) _
    refine XS.i2c X1.here hx rfl (hb hby at_40) rfl ?_
    show Steps p.tables e below (T1.setTop (mkF m 41 #[.val (.int wh), .val (.int fl), .val (.int ps), .val (.int ch), .val (.int (own_k wh)), .val (.ref r_1), .val (.int (1 : Int32)), .val (.int (own_p ps wh)), .unset, .unset, .unset, .unset, .unset] [(.int ((ch &&& (65535 : Int32)).toUInt32.toUInt16.toUInt32.toInt32))])) _
    refine castTop (congrArg (fun z_ => (mkF m 41 #[.val (.int wh), .val (.int fl), .val (.int ps), .val (.int ch), .val (.int (own_k wh)), .val (.ref r_1), .val (.int (1 : Int32)), .val (.int (own_p ps wh)), .unset, .unset, .unset, .unset, .unset] [(.int z_)])) (rfl : ((ch &&& (65535 : Int32)).toUInt32.toUInt16.toUInt32.toInt32) = (own_c ch))) ?_
    show Steps p.tables e below (T1.setTop (mkF m 41 #[.val (.int wh), .val (.int fl), .val (.int ps), .val (.int ch), .val (.int (own_k wh)), .val (.ref r_1), .val (.int (1 : Int32)), .val (.int (own_p ps wh)), .unset, .unset, .unset, .unset, .unset] [(.int (own_c ch))])) _
    refine XS.istore X1.here hx rfl (hb hby at_41) rfl (l' := #[.val (.int wh), .val (.int fl), .val (.int ps), .val (.int ch), .val (.int (own_k wh)), .val (.ref r_1), .val (.int (1 : Int32)), .val (.int (own_p ps wh)), .val (.int (own_c ch)), .unset, .unset, .unset, .unset]) rfl ?_
    show Steps p.tables e below (T1.setTop (mkF m 43 #[.val (.int wh), .val (.int fl), .val (.int ps), .val (.int ch), .val (.int (own_k wh)), .val (.ref r_1), .val (.int (1 : Int32)), .val (.int (own_p ps wh)), .val (.int (own_c ch)), .unset, .unset, .unset, .unset] [])) _
    refine XS.aload X1.here hx rfl (hb hby at_43) rfl rfl ?_
    show Steps p.tables e below (T1.setTop (mkF m 45 #[.val (.int wh), .val (.int fl), .val (.int ps), .val (.int ch), .val (.int (own_k wh)), .val (.ref r_1), .val (.int (1 : Int32)), .val (.int (own_p ps wh)), .val (.int (own_c ch)), .unset, .unset, .unset, .unset] [(.ref r_1)])) _
    refine XS.iload X1.here hx rfl (hb hby at_45) rfl ?_
    show Steps p.tables e below (T1.setTop (mkF m 47 #[.val (.int wh), .val (.int fl), .val (.int ps), .val (.int ch), .val (.int (own_k wh)), .val (.ref r_1), .val (.int (1 : Int32)), .val (.int (own_p ps wh)), .val (.int (own_c ch)), .unset, .unset, .unset, .unset] [(.int (own_p ps wh)), (.ref r_1)])) _
    refine X1.caload hx (j := (own_p ps wh)) (v := (.int ((own_U (own_k wh)).getD (own_p ps wh).toNatClampNeg 0))) (Ar3.at_ rfl) (State.isArrayOf_alike hZ0.alike Ar3.2.1) Ar3.2.2 hin3 hat3 (g := (mkF m 47 #[.val (.int wh), .val (.int fl), .val (.int ps), .val (.int ch), .val (.int (own_k wh)), .val (.ref r_1), .val (.int (1 : Int32)), .val (.int (own_p ps wh)), .val (.int (own_c ch)), .unset, .unset, .unset, .unset] [(.int (own_p ps wh)), (.ref r_1)])) rfl rfl (hb hby at_47) _ ?_
    show Steps p.tables e below (T1.setTop (mkF m 48 #[.val (.int wh), .val (.int fl), .val (.int ps), .val (.int ch), .val (.int (own_k wh)), .val (.ref r_1), .val (.int (1 : Int32)), .val (.int (own_p ps wh)), .val (.int (own_c ch)), .unset, .unset, .unset, .unset] [(.int ((own_U (own_k wh)).getD (own_p ps wh).toNatClampNeg 0))])) _
    refine XS.istore X1.here hx rfl (hb hby at_48) rfl (l' := #[.val (.int wh), .val (.int fl), .val (.int ps), .val (.int ch), .val (.int (own_k wh)), .val (.ref r_1), .val (.int (1 : Int32)), .val (.int (own_p ps wh)), .val (.int (own_c ch)), .val (.int ((own_U (own_k wh)).getD (own_p ps wh).toNatClampNeg 0)), .unset, .unset, .unset]) rfl ?_
    show Steps p.tables e below (T1.setTop (mkF m 50 #[.val (.int wh), .val (.int fl), .val (.int ps), .val (.int ch), .val (.int (own_k wh)), .val (.ref r_1), .val (.int (1 : Int32)), .val (.int (own_p ps wh)), .val (.int (own_c ch)), .val (.int ((own_U (own_k wh)).getD (own_p ps wh).toNatClampNeg 0)), .unset, .unset, .unset] [])) _
    refine XS.iconst X1.here hx rfl (hb hby at_50) ?_
    show Steps p.tables e below (T1.setTop (mkF m 51 #[.val (.int wh), .val (.int fl), .val (.int ps), .val (.int ch), .val (.int (own_k wh)), .val (.ref r_1), .val (.int (1 : Int32)), .val (.int (own_p ps wh)), .val (.int (own_c ch)), .val (.int ((own_U (own_k wh)).getD (own_p ps wh).toNatClampNeg 0)), .unset, .unset, .unset] [(.int (0 : Int32))])) _
    refine XS.istore X1.here hx rfl (hb hby at_51) rfl (l' := #[.val (.int wh), .val (.int fl), .val (.int ps), .val (.int ch), .val (.int (own_k wh)), .val (.ref r_1), .val (.int (1 : Int32)), .val (.int (own_p ps wh)), .val (.int (own_c ch)), .val (.int ((own_U (own_k wh)).getD (own_p ps wh).toNatClampNeg 0)), .val (.int (0 : Int32)), .unset, .unset]) rfl ?_
    show Steps p.tables e below (T1.setTop (mkF m 53 #[.val (.int wh), .val (.int fl), .val (.int ps), .val (.int ch), .val (.int (own_k wh)), .val (.ref r_1), .val (.int (1 : Int32)), .val (.int (own_p ps wh)), .val (.int (own_c ch)), .val (.int ((own_U (own_k wh)).getD (own_p ps wh).toNatClampNeg 0)), .val (.int (0 : Int32)), .unset, .unset] [])) _
    refine XS.iload X1.here hx rfl (hb hby at_53) rfl ?_
    show Steps p.tables e below (T1.setTop (mkF m 55 #[.val (.int wh), .val (.int fl), .val (.int ps), .val (.int ch), .val (.int (own_k wh)), .val (.ref r_1), .val (.int (1 : Int32)), .val (.int (own_p ps wh)), .val (.int (own_c ch)), .val (.int ((own_U (own_k wh)).getD (own_p ps wh).toNatClampNeg 0)), .val (.int (0 : Int32)), .unset, .unset] [(.int (1 : Int32))])) _
    refine XS.ifNo X1.here hx rfl (hb hby at_55) rfl ((if0 _ _).trans (feq (by decide : ¬ ((1 : Int32) = (0 : Int32)))).1) ?_
    show Steps p.tables e below (T1.setTop (mkF m 58 #[.val (.int wh), .val (.int fl), .val (.int ps), .val (.int ch), .val (.int (own_k wh)), .val (.ref r_1), .val (.int (1 : Int32)), .val (.int (own_p ps wh)), .val (.int (own_c ch)), .val (.int ((own_U (own_k wh)).getD (own_p ps wh).toNatClampNeg 0)), .val (.int (0 : Int32)), .unset, .unset] [])) _
    refine XS.aload X1.here hx rfl (hb hby at_58) rfl rfl ?_
    show Steps p.tables e below (T1.setTop (mkF m 60 #[.val (.int wh), .val (.int fl), .val (.int ps), .val (.int ch), .val (.int (own_k wh)), .val (.ref r_1), .val (.int (1 : Int32)), .val (.int (own_p ps wh)), .val (.int (own_c ch)), .val (.int ((own_U (own_k wh)).getD (own_p ps wh).toNatClampNeg 0)), .val (.int (0 : Int32)), .unset, .unset] [(.ref r_1)])) _
    refine XS.iload X1.here hx rfl (hb hby at_60) rfl ?_
    show Steps p.tables e below (T1.setTop (mkF m 62 #[.val (.int wh), .val (.int fl), .val (.int ps), .val (.int ch), .val (.int (own_k wh)), .val (.ref r_1), .val (.int (1 : Int32)), .val (.int (own_p ps wh)), .val (.int (own_c ch)), .val (.int ((own_U (own_k wh)).getD (own_p ps wh).toNatClampNeg 0)), .val (.int (0 : Int32)), .unset, .unset] [(.int (own_p ps wh)), (.ref r_1)])) _
    refine XS.iload X1.here hx rfl (hb hby at_62) rfl ?_
    show Steps p.tables e below (T1.setTop (mkF m 64 #[.val (.int wh), .val (.int fl), .val (.int ps), .val (.int ch), .val (.int (own_k wh)), .val (.ref r_1), .val (.int (1 : Int32)), .val (.int (own_p ps wh)), .val (.int (own_c ch)), .val (.int ((own_U (own_k wh)).getD (own_p ps wh).toNatClampNeg 0)), .val (.int (0 : Int32)), .unset, .unset] [(.int (own_c ch)), (.int (own_p ps wh)), (.ref r_1)])) _
    refine st4 _ ?_
    show Steps p.tables e below (T4.setTop (mkF m 65 #[.val (.int wh), .val (.int fl), .val (.int ps), .val (.int ch), .val (.int (own_k wh)), .val (.ref r_1), .val (.int (1 : Int32)), .val (.int (own_p ps wh)), .val (.int (own_c ch)), .val (.int ((own_U (own_k wh)).getD (own_p ps wh).toNatClampNeg 0)), .val (.int (0 : Int32)), .unset, .unset] [])) _
    refine XS.iload X4.here hx rfl (hb hby at_65) rfl ?_
    show Steps p.tables e below (T4.setTop (mkF m 67 #[.val (.int wh), .val (.int fl), .val (.int ps), .val (.int ch), .val (.int (own_k wh)), .val (.ref r_1), .val (.int (1 : Int32)), .val (.int (own_p ps wh)), .val (.int (own_c ch)), .val (.int ((own_U (own_k wh)).getD (own_p ps wh).toNatClampNeg 0)), .val (.int (0 : Int32)), .unset, .unset] [(.int ((own_U (own_k wh)).getD (own_p ps wh).toNatClampNeg 0))])) _
    refine XS.iload X4.here hx rfl (hb hby at_67) rfl ?_
    show Steps p.tables e below (T4.setTop (mkF m 69 #[.val (.int wh), .val (.int fl), .val (.int ps), .val (.int ch), .val (.int (own_k wh)), .val (.ref r_1), .val (.int (1 : Int32)), .val (.int (own_p ps wh)), .val (.int (own_c ch)), .val (.int ((own_U (own_k wh)).getD (own_p ps wh).toNatClampNeg 0)), .val (.int (0 : Int32)), .unset, .unset] [(.int (own_c ch)), (.int ((own_U (own_k wh)).getD (own_p ps wh).toNatClampNeg 0))])) _
    refine XS.icmpYes X4.here hx rfl (pc0 := 69) (pc' := 76) rfl (hb hby at_69) rfl (teq (hch : ((own_U (own_k wh)).getD (own_p ps wh).toNatClampNeg 0) = (own_c ch))).1 (by decide) (by decide) ?_
    show Steps p.tables e below (T4.setTop (mkF m 76 #[.val (.int wh), .val (.int fl), .val (.int ps), .val (.int ch), .val (.int (own_k wh)), .val (.ref r_1), .val (.int (1 : Int32)), .val (.int (own_p ps wh)), .val (.int (own_c ch)), .val (.int ((own_U (own_k wh)).getD (own_p ps wh).toNatClampNeg 0)), .val (.int (0 : Int32)), .unset, .unset] [])) _
    refine XS.iconst X4.here hx rfl (hb hby at_76) ?_
    show Steps p.tables e below (T4.setTop (mkF m 77 #[.val (.int wh), .val (.int fl), .val (.int ps), .val (.int ch), .val (.int (own_k wh)), .val (.ref r_1), .val (.int (1 : Int32)), .val (.int (own_p ps wh)), .val (.int (own_c ch)), .val (.int ((own_U (own_k wh)).getD (own_p ps wh).toNatClampNeg 0)), .val (.int (0 : Int32)), .unset, .unset] [(.int (0 : Int32))])) _
    refine XS.istore X4.here hx rfl (hb hby at_77) rfl (l' := #[.val (.int wh), .val (.int fl), .val (.int ps), .val (.int ch), .val (.int (own_k wh)), .val (.ref r_1), .val (.int (1 : Int32)), .val (.int (own_p ps wh)), .val (.int (own_c ch)), .val (.int ((own_U (own_k wh)).getD (own_p ps wh).toNatClampNeg 0)), .val (.int (0 : Int32)), .unset, .unset]) rfl ?_
    show Steps p.tables e below (T4.setTop (mkF m 79 #[.val (.int wh), .val (.int fl), .val (.int ps), .val (.int ch), .val (.int (own_k wh)), .val (.ref r_1), .val (.int (1 : Int32)), .val (.int (own_p ps wh)), .val (.int (own_c ch)), .val (.int ((own_U (own_k wh)).getD (own_p ps wh).toNatClampNeg 0)), .val (.int (0 : Int32)), .unset, .unset] [])) _
    refine st5 _ ?_
    show Steps p.tables e below (T5.setTop (mkF m 82 #[.val (.int wh), .val (.int fl), .val (.int ps), .val (.int ch), .val (.int (own_k wh)), .val (.ref r_1), .val (.int (1 : Int32)), .val (.int (own_p ps wh)), .val (.int (own_c ch)), .val (.int ((own_U (own_k wh)).getD (own_p ps wh).toNatClampNeg 0)), .val (.int (0 : Int32)), .unset, .unset] [(.ref b5)])) _
    refine XS.dup X5.here hx rfl (hb hby at_82) rfl rfl ?_
    show Steps p.tables e below (T5.setTop (mkF m 83 #[.val (.int wh), .val (.int fl), .val (.int ps), .val (.int ch), .val (.int (own_k wh)), .val (.ref r_1), .val (.int (1 : Int32)), .val (.int (own_p ps wh)), .val (.int (own_c ch)), .val (.int ((own_U (own_k wh)).getD (own_p ps wh).toNatClampNeg 0)), .val (.int (0 : Int32)), .unset, .unset] [(.ref b5), (.ref b5)])) _
    refine XS.aload X5.here hx rfl (hb hby at_83) rfl rfl ?_
    show Steps p.tables e below (T5.setTop (mkF m 85 #[.val (.int wh), .val (.int fl), .val (.int ps), .val (.int ch), .val (.int (own_k wh)), .val (.ref r_1), .val (.int (1 : Int32)), .val (.int (own_p ps wh)), .val (.int (own_c ch)), .val (.int ((own_U (own_k wh)).getD (own_p ps wh).toNatClampNeg 0)), .val (.int (0 : Int32)), .unset, .unset] [(.ref r_1), (.ref b5), (.ref b5)])) _
    refine st6.trans ?_
    show Steps p.tables e below (T6.setTop (mkF m 88 #[.val (.int wh), .val (.int fl), .val (.int ps), .val (.int ch), .val (.int (own_k wh)), .val (.ref r_1), .val (.int (1 : Int32)), .val (.int (own_p ps wh)), .val (.int (own_c ch)), .val (.int ((own_U (own_k wh)).getD (own_p ps wh).toNatClampNeg 0)), .val (.int (0 : Int32)), .unset, .unset] [(.ref b5)])) _
    refine XS.astore X6.here hx rfl (hb hby at_88) rfl rfl (l' := #[.val (.int wh), .val (.int fl), .val (.int ps), .val (.int ch), .val (.int (own_k wh)), .val (.ref r_1), .val (.int (1 : Int32)), .val (.int (own_p ps wh)), .val (.int (own_c ch)), .val (.int ((own_U (own_k wh)).getD (own_p ps wh).toNatClampNeg 0)), .val (.int (0 : Int32)), .val (.ref b5), .unset]) rfl ?_
    show Steps p.tables e below (T6.setTop (mkF m 90 #[.val (.int wh), .val (.int fl), .val (.int ps), .val (.int ch), .val (.int (own_k wh)), .val (.ref r_1), .val (.int (1 : Int32)), .val (.int (own_p ps wh)), .val (.int (own_c ch)), .val (.int ((own_U (own_k wh)).getD (own_p ps wh).toNatClampNeg 0)), .val (.int (0 : Int32)), .val (.ref b5), .unset] [])) _
    refine XS.iload X6.here hx rfl (hb hby at_90) rfl ?_
    show Steps p.tables e below (T6.setTop (mkF m 92 #[.val (.int wh), .val (.int fl), .val (.int ps), .val (.int ch), .val (.int (own_k wh)), .val (.ref r_1), .val (.int (1 : Int32)), .val (.int (own_p ps wh)), .val (.int (own_c ch)), .val (.int ((own_U (own_k wh)).getD (own_p ps wh).toNatClampNeg 0)), .val (.int (0 : Int32)), .val (.ref b5), .unset] [(.int (own_k wh))])) _
    refine XS.iconst X6.here hx rfl (hb hby at_92) ?_
    show Steps p.tables e below (T6.setTop (mkF m 93 #[.val (.int wh), .val (.int fl), .val (.int ps), .val (.int ch), .val (.int (own_k wh)), .val (.ref r_1), .val (.int (1 : Int32)), .val (.int (own_p ps wh)), .val (.int (own_c ch)), .val (.int ((own_U (own_k wh)).getD (own_p ps wh).toNatClampNeg 0)), .val (.int (0 : Int32)), .val (.ref b5), .unset] [(.int (4 : Int32)), (.int (own_k wh))])) _
    refine XS.icmpYes X6.here hx rfl (pc0 := 93) (pc' := 105) rfl (hb hby at_93) rfl (flt (hk4 : ¬ ((own_k wh) < (4 : Int32)))).2.1 (by decide) (by decide) ?_
    show Steps p.tables e below (T6.setTop (mkF m 105 #[.val (.int wh), .val (.int fl), .val (.int ps), .val (.int ch), .val (.int (own_k wh)), .val (.ref r_1), .val (.int (1 : Int32)), .val (.int (own_p ps wh)), .val (.int (own_c ch)), .val (.int ((own_U (own_k wh)).getD (own_p ps wh).toNatClampNeg 0)), .val (.int (0 : Int32)), .val (.ref b5), .unset] [])) _
    refine XS.iconst X6.here hx rfl (hb hby at_105) ?_
    show Steps p.tables e below (T6.setTop (mkF m 106 #[.val (.int wh), .val (.int fl), .val (.int ps), .val (.int ch), .val (.int (own_k wh)), .val (.ref r_1), .val (.int (1 : Int32)), .val (.int (own_p ps wh)), .val (.int (own_c ch)), .val (.int ((own_U (own_k wh)).getD (own_p ps wh).toNatClampNeg 0)), .val (.int (0 : Int32)), .val (.ref b5), .unset] [(.int (0 : Int32))])) _
    refine XS.istore X6.here hx rfl (hb hby at_106) rfl (l' := #[.val (.int wh), .val (.int fl), .val (.int ps), .val (.int ch), .val (.int (own_k wh)), .val (.ref r_1), .val (.int (1 : Int32)), .val (.int (own_p ps wh)), .val (.int (own_c ch)), .val (.int ((own_U (own_k wh)).getD (own_p ps wh).toNatClampNeg 0)), .val (.int (0 : Int32)), .val (.ref b5), .val (.int (0 : Int32))]) rfl ?_
    show Steps p.tables e below (T6.setTop (mkF m 108 #[.val (.int wh), .val (.int fl), .val (.int ps), .val (.int ch), .val (.int (own_k wh)), .val (.ref r_1), .val (.int (1 : Int32)), .val (.int (own_p ps wh)), .val (.int (own_c ch)), .val (.int ((own_U (own_k wh)).getD (own_p ps wh).toNatClampNeg 0)), .val (.int (0 : Int32)), .val (.ref b5), .val (.int (0 : Int32))] [])) _
    refine XS.aload X6.here hx rfl (hb hby at_108) rfl rfl ?_
    show Steps p.tables e below (T6.setTop (mkF m 110 #[.val (.int wh), .val (.int fl), .val (.int ps), .val (.int ch), .val (.int (own_k wh)), .val (.ref r_1), .val (.int (1 : Int32)), .val (.int (own_p ps wh)), .val (.int (own_c ch)), .val (.int ((own_U (own_k wh)).getD (own_p ps wh).toNatClampNeg 0)), .val (.int (0 : Int32)), .val (.ref b5), .val (.int (0 : Int32))] [(.ref b5)])) _
    refine st7.trans ?_
    show Steps p.tables e below (T7.setTop (mkF m 113 #[.val (.int wh), .val (.int fl), .val (.int ps), .val (.int ch), .val (.int (own_k wh)), .val (.ref r_1), .val (.int (1 : Int32)), .val (.int (own_p ps wh)), .val (.int (own_c ch)), .val (.int ((own_U (own_k wh)).getD (own_p ps wh).toNatClampNeg 0)), .val (.int (0 : Int32)), .val (.ref b5), .val (.int (0 : Int32))] [(.int (own_bi (own_V wh ps ch)))])) _
    refine castTop (congrArg (fun z_ => (mkF m 113 #[.val (.int wh), .val (.int fl), .val (.int ps), .val (.int ch), .val (.int (own_k wh)), .val (.ref r_1), .val (.int (1 : Int32)), .val (.int (own_p ps wh)), .val (.int (own_c ch)), .val (.int ((own_U (own_k wh)).getD (own_p ps wh).toNatClampNeg 0)), .val (.int (0 : Int32)), .val (.ref b5), .val (.int (0 : Int32))] [(.int z_)])) ((congrArg own_bi (own_V_same hch)).trans (own_bi_ge wh hk4) : (own_bi (own_V wh ps ch)) = (0 : Int32))) ?_
    show Steps p.tables e below (T7.setTop (mkF m 113 #[.val (.int wh), .val (.int fl), .val (.int ps), .val (.int ch), .val (.int (own_k wh)), .val (.ref r_1), .val (.int (1 : Int32)), .val (.int (own_p ps wh)), .val (.int (own_c ch)), .val (.int ((own_U (own_k wh)).getD (own_p ps wh).toNatClampNeg 0)), .val (.int (0 : Int32)), .val (.ref b5), .val (.int (0 : Int32))] [(.int (0 : Int32))])) _
    refine XS.iload X7.here hx rfl (hb hby at_113) rfl ?_
    show Steps p.tables e below (T7.setTop (mkF m 115 #[.val (.int wh), .val (.int fl), .val (.int ps), .val (.int ch), .val (.int (own_k wh)), .val (.ref r_1), .val (.int (1 : Int32)), .val (.int (own_p ps wh)), .val (.int (own_c ch)), .val (.int ((own_U (own_k wh)).getD (own_p ps wh).toNatClampNeg 0)), .val (.int (0 : Int32)), .val (.ref b5), .val (.int (0 : Int32))] [(.int (0 : Int32)), (.int (0 : Int32))])) _
    refine XS.icmpNo X7.here hx rfl (hb hby at_115) rfl (teq (by decide : (0 : Int32) = (0 : Int32))).2 ?_
    show Steps p.tables e below (T7.setTop (mkF m 118 #[.val (.int wh), .val (.int fl), .val (.int ps), .val (.int ch), .val (.int (own_k wh)), .val (.ref r_1), .val (.int (1 : Int32)), .val (.int (own_p ps wh)), .val (.int (own_c ch)), .val (.int ((own_U (own_k wh)).getD (own_p ps wh).toNatClampNeg 0)), .val (.int (0 : Int32)), .val (.ref b5), .val (.int (0 : Int32))] [])) _
    refine XS.iconst X7.here hx rfl (hb hby at_118) ?_
    show Steps p.tables e below (T7.setTop (mkF m 119 #[.val (.int wh), .val (.int fl), .val (.int ps), .val (.int ch), .val (.int (own_k wh)), .val (.ref r_1), .val (.int (1 : Int32)), .val (.int (own_p ps wh)), .val (.int (own_c ch)), .val (.int ((own_U (own_k wh)).getD (own_p ps wh).toNatClampNeg 0)), .val (.int (0 : Int32)), .val (.ref b5), .val (.int (0 : Int32))] [(.int (1 : Int32))])) _
    refine XS.goto X7.here hx rfl (pc0 := 119) (pc' := 123) rfl (hb hby at_119) (by decide) (by decide) ?_
    show Steps p.tables e below (T7.setTop (mkF m 123 #[.val (.int wh), .val (.int fl), .val (.int ps), .val (.int ch), .val (.int (own_k wh)), .val (.ref r_1), .val (.int (1 : Int32)), .val (.int (own_p ps wh)), .val (.int (own_c ch)), .val (.int ((own_U (own_k wh)).getD (own_p ps wh).toNatClampNeg 0)), .val (.int (0 : Int32)), .val (.ref b5), .val (.int (0 : Int32))] [(.int (1 : Int32))])) _
    exact retN X7 hx (t := .boolean) Bd.returns (by simp) (hb hby at_123) hr
  · show Q_law Z wh fl ps ch cz h0 n0 _ T7.heap _
    exact ⟨rfl, N7⟩
  · show CHr Z own_EL s.vm s.heap T7.vm T7.heap
    rw [hh]; exact CE
set_option maxRecDepth 65536 in
set_option maxHeartbeats 40000000 in
theorem law_C0 (l : Launch) (Z : State) (a0 : Array Value) (hw : ∀ d ∈ tables_1, d.before a0 Z = true) (ws : List Jvm.Cond) (wh : Int32) (fl : Int32) (ps : Int32) (ch : Int32) (cz : Int32) (h0 : Heap) (n0 : Nat) (O0 : Old Z n0 h0) (G0 : Sta Z Z.heap "java/lang/String" "COMPACT_STRINGS" "Z" (.int cz)) (G1 : Sta Z Z.heap "java/lang/StringUTF16" "$assertionsDisabled" "Z" (.int (1 : Int32))) (G2 : Sta Z Z.heap "java/lang/StringUTF16" "HI_BYTE_SHIFT" "I" (.int (0 : Int32))) (G3 : Sta Z Z.heap "java/lang/StringUTF16" "LO_BYTE_SHIFT" "I" (.int (8 : Int32))) (hcs : ¬ (cz = (0 : Int32))) (hf : ¬ ((fl &&& (1 : Int32)) = (0 : Int32))) (hch : ¬ (((own_U (own_k wh)).getD (own_p ps wh).toNatClampNeg 0) = (own_c ch))) (hlat : ¬ ((255 : Int32) < (own_c ch))) (hk4 : ¬ ((own_k wh) < (4 : Int32))) :
    MetFree l x (head1 (Jvm.Cond.code x code maxLocals ret :: ws) room_1) (fun zA zU => zA = #[(.int wh), (.int fl), (.int ps), (.int ch)] ∧ Z.Warmed39 zU.vm ∧ zU.heap = h0 ∧ CHv Z own_EL zU.vm h0 ∧ ∀ x ∈ ([] : List Addr), Safe Z own_EL zU.vm h0 x) (fun _ _ _ _ _ => True) (fun _ zU zo zU' => ∃ zv zL, zo = .returned zv ∧ Q_law Z wh fl ps ch cz h0 n0 zv zU'.heap zL ∧ CHr Z own_EL zU.vm zU.heap zU'.vm zU'.heap ∧ ReturnedEndW zU zo zU' zL room_1.cells room_1.slots) := by
  refine MetFree.of_bodySF (plainFor_of_name pn_17) hisR ?_
  intro p e s m args below meth c s₁ Bd hml0 hP hK
  obtain ⟨rfl, hZ, hh, HC, HS⟩ := hP
  have hx := Bd.exec
  have hby := Bd.bytes
  have hml : c.maxLocals = 13 := hml0
  have hown : s.vm.findClass "com/example/tsutsumi/tsutsumi/service/SchemaElementsIsBuiltInNamespacePinLaw" = some m.cls := findClass_of_methodNamed Bd.named
  have hnm := (name_of_methodNamed Bd.named Bd.method).1
  have X0 : Stand p l e room_1 (s.setVm s.vm) m #[(.int wh), (.int fl), (.int ps), (.int ch)] below meth c s₁ [] 0 0 := Stand.of_body Bd
  have e0 : s₁.heap = h0 := by rw [← hh, Bd.state]; rfl
  have N0 := Fr.nil n0
  have Z0 : n0 ≤ h0.size := O0.1 ▸ O0.2.1
  have pre0 : ∀ zt, Steps p.tables e below (s₁.setTop (mkF m 0 #[.val (.int wh), .val (.int fl), .val (.int ps), .val (.int ch), .unset, .unset, .unset, .unset, .unset, .unset, .unset, .unset, .unset] [])) zt → Steps p.tables e below (s₁.setTop (entryFrame m #[(.int wh), (.int fl), (.int ps), (.int ch)] maxLocals)) zt := fun zt zk => castTop (ef_0_IIII m wh fl ps ch) zk
  have hEL := own_EW hw
  have wS := own_wS hw
  have hS0 : s.Since s.vm 0 := (State.WarmedH.refl s).since 0
  have CR0 : CHr Z own_EL s.vm h0 s.vm h0 := CHr.refl HC
  have hZ0 := hZ
  have hown0 := hown
  obtain ⟨_, _, ⟨T1, L1, k1, n1⟩, -, X1, ⟨Lc1, hQ1, l1, y1, z1⟩, st1⟩ := Jvm.LawKit.callS X0 hx (y := (⟨"com/example/tsutsumi/tsutsumi/service/SchemaElementsIsBuiltInNamespacePinLaw", "uriChars", "(I)[C"⟩ : MethodName)) hown (mvT hZ (hw _ (List.mem_of_getElem? (i := 0) rfl))) (mvT hZ (hw _ (List.mem_of_getElem? (i := 1) rfl))) (mvT hZ (hw _ (List.mem_of_getElem? (i := 2) rfl))) (mvT hZ (hw _ (List.mem_of_getElem? (i := 3) rfl))) (by decide) (backOf (W := 0) (uri l Z a0 hw [] (own_k wh) h0 n0 (Nat.le_trans Z0 (Keep.refl h0 []).1) ) hZ (hw _ (List.mem_of_getElem? (i := 3) rfl)) (hw _ (List.mem_of_getElem? (i := 2) rfl)) (by decide) (by decide)) (g := (mkF m 8 #[.val (.int wh), .val (.int fl), .val (.int ps), .val (.int ch), .val (.int (own_k wh)), .unset, .unset, .unset, .unset, .unset, .unset, .unset, .unset] [(.int (own_k wh))])) rfl (by rw [hml]; rfl) (argsL := [(.int (own_k wh))]) (rest := []) (lenOf pd_9 rfl) rfl (by show 2 * 0 + _ ≤ _; exact Nat.le_of_eq rfl) (hb hby at_8) (fun _ _ => ⟨rfl, e0, (by decide : 0 + 1 ≤ _), (by decide : 0 + 41 ≤ _)⟩)
  dsimp only [Pt.U, Pt.locs, Pt.cells, Pt.slots] at X1 l1 y1 z1 st1 hQ1
  subst l1 y1 z1
  obtain ⟨r_1, kr_1, rfl, Nq1, kh1, fz_r_1, Po1_0⟩ := hQ1
  have N1 := Fr.app N0 Nq1
  have sz_r_1 : h0.size ≤ r_1 := Nat.le_trans (Keep.refl h0 []).1 fz_r_1
  have g_r_1 : n0 ≤ r_1 := Nat.le_trans Z0 sz_r_1
  have O1 := O0.keep kh1 all0
  have K1 : Keep h0 T1.heap [] := (Keep.refl h0 []).trans kh1 all0
  have hs1 : ∀ x ∈ ([] : List Addr), Safe Z own_EL s.vm h0 x := all0
  have CR1 := CR0.trans (CHr.keep kh1 hs1 CR0.1)
  obtain ⟨cl2, Ar2, -, Sz2, Ng2, -⟩ := (id Po1_0)
  obtain ⟨cl3, Ar3, q3, Sz3, Ng3, Hs3, Gs3⟩ := (id Po1_0)
  have hin3 : ¬ ((own_p ps wh) < 0 ∨ cl3.slots.size ≤ ((own_p ps wh)).toNatClampNeg) := inb_of Sz3 (own_pb ps wh)
  have hat3 : cl3.slots[((own_p ps wh)).toNatClampNeg]? = some (.int ((own_U (own_k wh)).getD (own_p ps wh).toNatClampNeg 0)) := Has.at Hs3 hin3 (own_gdp (own_pl ps wh))
  obtain ⟨cl4, Ar4, q4, Sz4, Ng4, Hs4, Gs4⟩ := (id Po1_0)
  have hin4 : ¬ ((own_p ps wh) < 0 ∨ cl4.slots.size ≤ ((own_p ps wh)).toNatClampNeg) := inb_of Sz4 (own_pb ps wh)
  obtain ⟨T4, h4, X4, e4, W4, st4⟩ := stC X1 hx hZ rfl Ar4 (j := (own_p ps wh)) hin4 (g := (mkF m 64 #[.val (.int wh), .val (.int fl), .val (.int ps), .val (.int ch), .val (.int (own_k wh)), .val (.ref r_1), .val (.int (1 : Int32)), .val (.int (own_p ps wh)), .val (.int (own_c ch)), .val (.int ((own_U (own_k wh)).getD (own_p ps wh).toNatClampNeg 0)), .val (.int (0 : Int32)), .unset, .unset] [(.int (own_c ch)), (.int (own_p ps wh)), (.ref r_1)])) rfl rfl (hb hby at_64)
  have Va4 := Arv.set Ar4 q4 Sz4 Ng4 Hs4 Gs4 (fits_nar_char _) W4 (own_p ps wh).toNatClampNeg rfl (by rw [List.length_map]; exact own_pl ps wh)
  have Sw4 : Safe Z own_EL s.vm T1.heap r_1 := (own_safe_arv hZ.alike Po1_0 (by decide))
  have O4 := O1.wr W4 g_r_1
  have K4 : Keep h0 h4 [] := K1.wr W4 (Or.inr sz_r_1)
  have N4 := Fr.snoc X4 N1 g_r_1
  have CR4 := CR1.trans (CHr.wr W4 Sw4 CR1.1)
  have V4 : Arv Z h4 r_1 kr_1 .char (Int32.ofNat (own_V wh ps ch).length) ((own_V wh ps ch).map Value.int) (.int (0 : Int32)) := by rw [own_V_len, ← own_Vmap]; exact Va4
  obtain ⟨T5, h5, X5, e5, E5, A5, D5, U5, st5⟩ := newO X4 hx hZ hown (hw _ (List.mem_of_getElem? (i := 7) rfl)) (hw _ (List.mem_of_getElem? (i := 8) rfl)) (hw _ (List.mem_of_getElem? (i := 9) rfl)) e4 (g := (mkF m 79 #[.val (.int wh), .val (.int fl), .val (.int ps), .val (.int ch), .val (.int (own_k wh)), .val (.ref r_1), .val (.int (1 : Int32)), .val (.int (own_p ps wh)), .val (.int (own_c ch)), .val (.int ((own_U (own_k wh)).getD (own_p ps wh).toNatClampNeg 0)), .val (.int (1 : Int32)), .unset, .unset] [])) rfl (hb hby at_79) (by decide) (by decide)
  obtain ⟨b5, gz5⟩ : ∃ z, z = h4.size := ⟨_, rfl⟩
  rw [← gz5] at A5 D5 U5 st5
  have sz_b5 : h0.size ≤ b5 := Nat.le_trans K4.1 (Nat.le_of_eq gz5.symm)
  have g_b5 : n0 ≤ b5 := Nat.le_trans Z0 sz_b5
  have O5 := O4.ext E5
  have K5 : Keep h0 h5 [] := K4.ext E5
  have CR5 := CR4.trans (CHr.ext E5 CR4.1)
  have Sn5 : Safe Z own_EL s.vm h5 b5 := Safe.ext E5 CR4.1 (Safe.new (Nat.le_of_eq gz5.symm))
  have Fi5_33 : Fld Z h5 b5 "java/lang/String" "coder" "B" (.int (0 : Int32)) := D5 (Or.inr (hw _ (List.mem_of_getElem? (i := 33) rfl))) (ty := .byte) (by decide)
  have Fi5_35 : Fld Z h5 b5 "java/lang/String" "value" "[B" .null := D5 (Or.inr (hw _ (List.mem_of_getElem? (i := 35) rfl))) (ty := (.array .byte)) (by decide)
  obtain ⟨_, _, ⟨T6, L6, k6, n6⟩, -, X6, ⟨Lc6, hQ6, l6, y6, z6⟩, st6⟩ := X5.specialBack hx (y := (⟨"java/lang/String", "<init>", "([C)V"⟩ : MethodName)) rfl hown (mvT hZ (hw _ (List.mem_of_getElem? (i := 10) rfl))) (mvT hZ (hw _ (List.mem_of_getElem? (i := 11) rfl))) (mvT hZ (hw _ (List.mem_of_getElem? (i := 12) rfl))) (by decide) (own_siB (W := 1) hZ hw (by decide) (by decide) b5 r_1 kr_1 (own_V wh ps ch) cz h5 n0 O5 G0 A5 Fi5_35 Fi5_33 (V4.ext E5) g_b5 hcs (own_V_l0 wh ps ch).2 (own_V_l0 wh ps ch).1 (own_V_lo hlat)) (g := (mkF m 85 #[.val (.int wh), .val (.int fl), .val (.int ps), .val (.int ch), .val (.int (own_k wh)), .val (.ref r_1), .val (.int (1 : Int32)), .val (.int (own_p ps wh)), .val (.int (own_c ch)), .val (.int ((own_U (own_k wh)).getD (own_p ps wh).toNatClampNeg 0)), .val (.int (1 : Int32)), .unset, .unset] [(.ref r_1), (.ref b5), (.ref b5)])) rfl (by rw [hml]; rfl) (Steps.refl _) (a := b5) (argsL := [(.ref r_1)]) (rest := [(.ref b5)]) (lenOf pd_10 rfl) rfl (by show 2 * 0 + _ ≤ _; exact Nat.le_of_eq rfl) (hb hby at_85) (fun _ _ => ⟨rfl, e5, (by decide : 2 + 1 ≤ _), (by decide : 45 + 41 ≤ _)⟩)
  dsimp only [Pt.U, Pt.locs, Pt.cells, Pt.slots] at X6 l6 y6 z6 st6 hQ6
  subst l6 y6 z6
  obtain ⟨t_6, kt_6, rfl, Nq6, kh6, fz_t_6, Po6_0, Po6_1, Po6_2, Po6_3⟩ := hQ6
  have N6 := Fr.app N4 Nq6
  have sz_t_6 : h0.size ≤ t_6 := Nat.le_trans K5.1 fz_t_6
  have g_t_6 : n0 ≤ t_6 := Nat.le_trans Z0 sz_t_6
  have O6 := O5.keep kh6 (allS g_b5 all0)
  have K6 : Keep h0 T6.heap [] := K5.trans kh6 (allS (Or.inr sz_b5) all0)
  have hs6 : ∀ x ∈ ([b5] : List Addr), Safe Z own_EL s.vm h5 x := (allS Sn5 all0)
  have CR6 := CR5.trans (CHr.keep kh6 hs6 CR5.1)
  have Sy6_b5 := Safe.keep kh6 hs6 CR5.1 Sn5
  obtain ⟨_, _, ⟨T7, L7, k7, n7⟩, -, Xr7, hSr7, hg7, ⟨Lc7, hQ7, l7, y7, z7, CL7⟩, st7⟩ := callSS X6 hx (y := (⟨"com/example/tsutsumi/tsutsumi/service/SchemaElements", "isBuiltInNamespace", "(Ljava/lang/String;)Z"⟩ : MethodName)) hown (mvT hZ (hw _ (List.mem_of_getElem? (i := 36) rfl))) (mvT hZ (hw _ (List.mem_of_getElem? (i := 37) rfl))) (mvT hZ (hw _ (List.mem_of_getElem? (i := 38) rfl))) (mvT hZ (hw _ (List.mem_of_getElem? (i := 39) rfl))) (by decide) (own_backSH (s := s) (vm0 := s.vm) (W := 0) (biL l Z a0 hw [] b5 t_6 kt_6 (own_V wh ps ch) cz T6.heap n0 O6 G0 Po6_0 Po6_2 Po6_1 Po6_3 hcs (own_V_l0 wh ps ch).2 (own_V_lo hlat)) hZ (hw _ (List.mem_of_getElem? (i := 39) rfl)) (hw _ (List.mem_of_getElem? (i := 38) rfl)) (by decide) (by decide) hEL CR6.1 all0) (g := (mkF m 110 #[.val (.int wh), .val (.int fl), .val (.int ps), .val (.int ch), .val (.int (own_k wh)), .val (.ref r_1), .val (.int (1 : Int32)), .val (.int (own_p ps wh)), .val (.int (own_c ch)), .val (.int ((own_U (own_k wh)).getD (own_p ps wh).toNatClampNeg 0)), .val (.int (1 : Int32)), .val (.ref b5), .val (.int (0 : Int32))] [(.ref b5)])) rfl (by rw [hml]; rfl) (argsL := [(.ref b5)]) (rest := []) (lenOf pd_11 rfl) rfl (by show 2 * 0 + _ ≤ _; exact Nat.le_of_eq rfl) (hb hby at_110) (fun _ _ => ⟨rfl, rfl, (by decide : 3 + 8 ≤ _), (by decide : 86 + 576 ≤ _)⟩)
  dsimp only [Pt.U, Pt.locs, Pt.cells, Pt.slots] at Xr7 l7 y7 z7 st7 hQ7 hSr7 hg7 CL7
  subst l7 y7 z7
  obtain ⟨X7, hS7, hZ, hown⟩ := rebS (s := s) (vm0 := s.vm) hS0 (own_hk rfl (Nat.le_trans (Nat.le_trans (Nat.le_trans (Nat.le_trans (Nat.zero_le _) kh1.1) (Keep.of_wr W4).1) E5.1) kh6.1)) Xr7 hSr7 hg7 hZ hown
  obtain ⟨rfl, Nq7, kh7⟩ := hQ7
  have N7 := Fr.app N6 Nq7
  have hZ7 := hZ
  have hown7 := hown
  have O7 := O6.keep kh7 all0
  have K7 : Keep h0 T7.heap [] := K6.trans kh7 all0
  have CR7 := CR6.trans CL7
  have Sy7_b5 := CL7.safe (Po6_0).lt Sy6_b5
  obtain ⟨fs, hr, hrun, hended, hRW⟩ := X7.leaveW (s := s) hS7 (own_hk rfl (Nat.le_refl _)) (v := some (.int (1 : Int32))) (fun h => by rw [Bd.returns] at h; cases h)
  have CE := CR7.trans (CHv.at (s := s) (vm0 := T7.vm) X7 hZ hEL CR7.1)
  refine ⟨_, _, pre0 _ ?_, hrun, hended, _, _, rfl, ?_, ?_, own_rw_mono hRW (by decide) (by decide)⟩
  · show Steps p.tables e below (s₁.setTop (mkF m 0 #[.val (.int wh), .val (.int fl), .val (.int ps), .val (.int ch), .unset, .unset, .unset, .unset, .unset, .unset, .unset, .unset, .unset] [])) _
    refine XS.iloadN X0.here hx rfl (hb hby at_0) rfl ?_
    show Steps p.tables e below (s₁.setTop (mkF m 1 #[.val (.int wh), .val (.int fl), .val (.int ps), .val (.int ch), .unset, .unset, .unset, .unset, .unset, .unset, .unset, .unset, .unset] [(.int wh)])) _
    refine XS.bipush X0.here hx rfl (hb hby at_1) ?_
    show Steps p.tables e below (s₁.setTop (mkF m 3 #[.val (.int wh), .val (.int fl), .val (.int ps), .val (.int ch), .unset, .unset, .unset, .unset, .unset, .unset, .unset, .unset, .unset] [(.int (7 : Int32)), (.int wh)])) _
    refine XS.iand X0.here hx rfl (hb hby at_3) rfl ?_
    show Steps p.tables e below (s₁.setTop (mkF m 4 #[.val (.int wh), .val (.int fl), .val (.int ps), .val (.int ch), .unset, .unset, .unset, .unset, .unset, .unset, .unset, .unset, .unset] [(.int (wh &&& (7 : Int32)))])) _
    refine castTop (congrArg (fun z_ => (mkF m 4 #[.val (.int wh), .val (.int fl), .val (.int ps), .val (.int ch), .unset, .unset, .unset, .unset, .unset, .unset, .unset, .unset, .unset] [(.int z_)])) (rfl : (wh &&& (7 : Int32)) = (own_k wh))) ?_
    show Steps p.tables e below (s₁.setTop (mkF m 4 #[.val (.int wh), .val (.int fl), .val (.int ps), .val (.int ch), .unset, .unset, .unset, .unset, .unset, .unset, .unset, .unset, .unset] [(.int (own_k wh))])) _
    refine XS.istore X0.here hx rfl (hb hby at_4) rfl (l' := #[.val (.int wh), .val (.int fl), .val (.int ps), .val (.int ch), .val (.int (own_k wh)), .unset, .unset, .unset, .unset, .unset, .unset, .unset, .unset]) rfl ?_
    show Steps p.tables e below (s₁.setTop (mkF m 6 #[.val (.int wh), .val (.int fl), .val (.int ps), .val (.int ch), .val (.int (own_k wh)), .unset, .unset, .unset, .unset, .unset, .unset, .unset, .unset] [])) _
    refine XS.iload X0.here hx rfl (hb hby at_6) rfl ?_
    show Steps p.tables e below (s₁.setTop (mkF m 8 #[.val (.int wh), .val (.int fl), .val (.int ps), .val (.int ch), .val (.int (own_k wh)), .unset, .unset, .unset, .unset, .unset, .unset, .unset, .unset] [(.int (own_k wh))])) _
    refine st1 _ ?_
    show Steps p.tables e below (T1.setTop (mkF m 11 #[.val (.int wh), .val (.int fl), .val (.int ps), .val (.int ch), .val (.int (own_k wh)), .unset, .unset, .unset, .unset, .unset, .unset, .unset, .unset] [(.ref r_1)])) _
    refine XS.astore X1.here hx rfl (hb hby at_11) rfl rfl (l' := #[.val (.int wh), .val (.int fl), .val (.int ps), .val (.int ch), .val (.int (own_k wh)), .val (.ref r_1), .unset, .unset, .unset, .unset, .unset, .unset, .unset]) rfl ?_
    show Steps p.tables e below (T1.setTop (mkF m 13 #[.val (.int wh), .val (.int fl), .val (.int ps), .val (.int ch), .val (.int (own_k wh)), .val (.ref r_1), .unset, .unset, .unset, .unset, .unset, .unset, .unset] [])) _
    refine XS.iloadN X1.here hx rfl (hb hby at_13) rfl ?_
    show Steps p.tables e below (T1.setTop (mkF m 14 #[.val (.int wh), .val (.int fl), .val (.int ps), .val (.int ch), .val (.int (own_k wh)), .val (.ref r_1), .unset, .unset, .unset, .unset, .unset, .unset, .unset] [(.int fl)])) _
    refine XS.iconst X1.here hx rfl (hb hby at_14) ?_
    show Steps p.tables e below (T1.setTop (mkF m 15 #[.val (.int wh), .val (.int fl), .val (.int ps), .val (.int ch), .val (.int (own_k wh)), .val (.ref r_1), .unset, .unset, .unset, .unset, .unset, .unset, .unset] [(.int (1 : Int32)), (.int fl)])) _
    refine XS.iand X1.here hx rfl (hb hby at_15) rfl ?_
    show Steps p.tables e below (T1.setTop (mkF m 16 #[.val (.int wh), .val (.int fl), .val (.int ps), .val (.int ch), .val (.int (own_k wh)), .val (.ref r_1), .unset, .unset, .unset, .unset, .unset, .unset, .unset] [(.int (fl &&& (1 : Int32)))])) _
    refine XS.ifNo X1.here hx rfl (hb hby at_16) rfl ((if0 _ _).trans (feq (hf : ¬ ((fl &&& (1 : Int32)) = (0 : Int32)))).1) ?_
    show Steps p.tables e below (T1.setTop (mkF m 19 #[.val (.int wh), .val (.int fl), .val (.int ps), .val (.int ch), .val (.int (own_k wh)), .val (.ref r_1), .unset, .unset, .unset, .unset, .unset, .unset, .unset] [])) _
    refine XS.iconst X1.here hx rfl (hb hby at_19) ?_
    show Steps p.tables e below (T1.setTop (mkF m 20 #[.val (.int wh), .val (.int fl), .val (.int ps), .val (.int ch), .val (.int (own_k wh)), .val (.ref r_1), .unset, .unset, .unset, .unset, .unset, .unset, .unset] [(.int (1 : Int32))])) _
    refine XS.goto X1.here hx rfl (pc0 := 20) (pc' := 24) rfl (hb hby at_20) (by decide) (by decide) ?_
    show Steps p.tables e below (T1.setTop (mkF m 24 #[.val (.int wh), .val (.int fl), .val (.int ps), .val (.int ch), .val (.int (own_k wh)), .val (.ref r_1), .unset, .unset, .unset, .unset, .unset, .unset, .unset] [(.int (1 : Int32))])) _
    refine XS.istore X1.here hx rfl (hb hby at_24) rfl (l' := #[.val (.int wh), .val (.int fl), .val (.int ps), .val (.int ch), .val (.int (own_k wh)), .val (.ref r_1), .val (.int (1 : Int32)), .unset, .unset, .unset, .unset, .unset, .unset]) rfl ?_
    show Steps p.tables e below (T1.setTop (mkF m 26 #[.val (.int wh), .val (.int fl), .val (.int ps), .val (.int ch), .val (.int (own_k wh)), .val (.ref r_1), .val (.int (1 : Int32)), .unset, .unset, .unset, .unset, .unset, .unset] [])) _
    refine XS.iloadN X1.here hx rfl (hb hby at_26) rfl ?_
    show Steps p.tables e below (T1.setTop (mkF m 27 #[.val (.int wh), .val (.int fl), .val (.int ps), .val (.int ch), .val (.int (own_k wh)), .val (.ref r_1), .val (.int (1 : Int32)), .unset, .unset, .unset, .unset, .unset, .unset] [(.int ps)])) _
    refine X1.ldcInt hx hown0 (mvT hZ0 (hw _ (List.mem_of_getElem? (i := 5) rfl))) (g := (mkF m 27 #[.val (.int wh), .val (.int fl), .val (.int ps), .val (.int ch), .val (.int (own_k wh)), .val (.ref r_1), .val (.int (1 : Int32)), .unset, .unset, .unset, .unset, .unset, .unset] [(.int ps)])) rfl (hb hby at_27) _ ?_
    show Steps p.tables e below (T1.setTop (mkF m 29 #[.val (.int wh), .val (.int fl), .val (.int ps), .val (.int ch), .val (.int (own_k wh)), .val (.ref r_1), .val (.int (1 : Int32)), .unset, .unset, .unset, .unset, .unset, .unset] [(.int (2147483647 : Int32)), (.int ps)])) _
    refine XS.iand X1.here hx rfl (hb hby at_29) rfl ?_
    show Steps p.tables e below (T1.setTop (mkF m 30 #[.val (.int wh), .val (.int fl), .val (.int ps), .val (.int ch), .val (.int (own_k wh)), .val (.ref r_1), .val (.int (1 : Int32)), .unset, .unset, .unset, .unset, .unset, .unset] [(.int (ps &&& (2147483647 : Int32)))])) _
    refine XS.aload X1.here hx rfl (hb hby at_30) rfl rfl ?_
    show Steps p.tables e below (T1.setTop (mkF m 32 #[.val (.int wh), .val (.int fl), .val (.int ps), .val (.int ch), .val (.int (own_k wh)), .val (.ref r_1), .val (.int (1 : Int32)), .unset, .unset, .unset, .unset, .unset, .unset] [(.ref r_1), (.int (ps &&& (2147483647 : Int32)))])) _
    refine X1.arraylength hx (Ar2.at_ rfl) (State.isArrayOf_alike hZ0.alike Ar2.2.1) (g := (mkF m 32 #[.val (.int wh), .val (.int fl), .val (.int ps), .val (.int ch), .val (.int (own_k wh)), .val (.ref r_1), .val (.int (1 : Int32)), .unset, .unset, .unset, .unset, .unset, .unset] [(.ref r_1), (.int (ps &&& (2147483647 : Int32)))])) rfl rfl (hb hby at_32) _ ?_
    rw [len_of Sz2 Ng2]
    show Steps p.tables e below (T1.setTop (mkF m 33 #[.val (.int wh), .val (.int fl), .val (.int ps), .val (.int ch), .val (.int (own_k wh)), .val (.ref r_1), .val (.int (1 : Int32)), .unset, .unset, .unset, .unset, .unset, .unset] [(.int (Int32.ofNat (own_U (own_k wh)).length)), (.int (ps &&& (2147483647 : Int32)))])) _
    refine iremM X1 hx rfl (hb hby at_33) rfl (own_ndz _) ?_
    show Steps p.tables e below (T1.setTop (mkF m 34 #[.val (.int wh), .val (.int fl), .val (.int ps), .val (.int ch), .val (.int (own_k wh)), .val (.ref r_1), .val (.int (1 : Int32)), .unset, .unset, .unset, .unset, .unset, .unset] [(.int ((ps &&& (2147483647 : Int32)) % (Int32.ofNat (own_U (own_k wh)).length)))])) _
    refine castTop (congrArg (fun z_ => (mkF m 34 #[.val (.int wh), .val (.int fl), .val (.int ps), .val (.int ch), .val (.int (own_k wh)), .val (.ref r_1), .val (.int (1 : Int32)), .unset, .unset, .unset, .unset, .unset, .unset] [(.int z_)])) (rfl : ((ps &&& (2147483647 : Int32)) % (Int32.ofNat (own_U (own_k wh)).length)) = (own_p ps wh))) ?_
    show Steps p.tables e below (T1.setTop (mkF m 34 #[.val (.int wh), .val (.int fl), .val (.int ps), .val (.int ch), .val (.int (own_k wh)), .val (.ref r_1), .val (.int (1 : Int32)), .unset, .unset, .unset, .unset, .unset, .unset] [(.int (own_p ps wh))])) _
    refine XS.istore X1.here hx rfl (hb hby at_34) rfl (l' := #[.val (.int wh), .val (.int fl), .val (.int ps), .val (.int ch), .val (.int (own_k wh)), .val (.ref r_1), .val (.int (1 : Int32)), .val (.int (own_p ps wh)), .unset, .unset, .unset, .unset, .unset]) rfl ?_
    show Steps p.tables e below (T1.setTop (mkF m 36 #[.val (.int wh), .val (.int fl), .val (.int ps), .val (.int ch), .val (.int (own_k wh)), .val (.ref r_1), .val (.int (1 : Int32)), .val (.int (own_p ps wh)), .unset, .unset, .unset, .unset, .unset] [])) _
    refine XS.iloadN X1.here hx rfl (hb hby at_36) rfl ?_
    show Steps p.tables e below (T1.setTop (mkF m 37 #[.val (.int wh), .val (.int fl), .val (.int ps), .val (.int ch), .val (.int (own_k wh)), .val (.ref r_1), .val (.int (1 : Int32)), .val (.int (own_p ps wh)), .unset, .unset, .unset, .unset, .unset] [(.int ch)])) _
    refine X1.ldcInt hx hown0 (mvT hZ0 (hw _ (List.mem_of_getElem? (i := 6) rfl))) (g := (mkF m 37 #[.val (.int wh), .val (.int fl), .val (.int ps), .val (.int ch), .val (.int (own_k wh)), .val (.ref r_1), .val (.int (1 : Int32)), .val (.int (own_p ps wh)), .unset, .unset, .unset, .unset, .unset] [(.int ch)])) rfl (hb hby at_37) _ ?_
    show Steps p.tables e below (T1.setTop (mkF m 39 #[.val (.int wh), .val (.int fl), .val (.int ps), .val (.int ch), .val (.int (own_k wh)), .val (.ref r_1), .val (.int (1 : Int32)), .val (.int (own_p ps wh)), .unset, .unset, .unset, .unset, .unset] [(.int (65535 : Int32)), (.int ch)])) _
    refine XS.iand X1.here hx rfl (hb hby at_39) rfl ?_
    show Steps p.tables e below (T1.setTop (mkF m 40 #[.val (.int wh), .val (.int fl), .val (.int ps), .val (.int ch), .val (.int (own_k wh)), .val (.ref r_1), .val (.int (1 : Int32)), .val (.int (own_p ps wh)), .unset, .unset, .unset, .unset, .unset] [(.int (ch &&& (65535 : Int32)))])) _
    refine XS.i2c X1.here hx rfl (hb hby at_40) rfl ?_
    show Steps p.tables e below (T1.setTop (mkF m 41 #[.val (.int wh), .val (.int fl), .val (.int ps), .val (.int ch), .val (.int (own_k wh)), .val (.ref r_1), .val (.int (1 : Int32)), .val (.int (own_p ps wh)), .unset, .unset, .unset, .unset, .unset] [(.int ((ch &&& (65535 : Int32)).toUInt32.toUInt16.toUInt32.toInt32))])) _
    refine castTop (congrArg (fun z_ => (mkF m 41 #[.val (.int wh), .val (.int fl), .val (.int ps), .val (.int ch), .val (.int (own_k wh)), .val (.ref r_1), .val (.int (1 : Int32)), .val (.int (own_p ps wh)), .unset, .unset, .unset, .unset, .unset] [(.int z_)])) (rfl : ((ch &&& (65535 : Int32)).toUInt32.toUInt16.toUInt32.toInt32) = (own_c ch))) ?_
    show Steps p.tables e below (T1.setTop (mkF m 41 #[.val (.int wh), .val (.int fl), .val (.int ps), .val (.int ch), .val (.int (own_k wh)), .val (.ref r_1), .val (.int (1 : Int32)), .val (.int (own_p ps wh)), .unset, .unset, .unset, .unset, .unset] [(.int (own_c ch))])) _
    refine XS.istore X1.here hx rfl (hb hby at_41) rfl (l' := #[.val (.int wh), .val (.int fl), .val (.int ps), .val (.int ch), .val (.int (own_k wh)), .val (.ref r_1), .val (.int (1 : Int32)), .val (.int (own_p ps wh)), .val (.int (own_c ch)), .unset, .unset, .unset, .unset]) rfl ?_
    show Steps p.tables e below (T1.setTop (mkF m 43 #[.val (.int wh), .val (.int fl), .val (.int ps), .val (.int ch), .val (.int (own_k wh)), .val (.ref r_1), .val (.int (1 : Int32)), .val (.int (own_p ps wh)), .val (.int (own_c ch)), .unset, .unset, .unset, .unset] [])) _
    refine XS.aload X1.here hx rfl (hb hby at_43) rfl rfl ?_
    show Steps p.tables e below (T1.setTop (mkF m 45 #[.val (.int wh), .val (.int fl), .val (.int ps), .val (.int ch), .val (.int (own_k wh)), .val (.ref r_1), .val (.int (1 : Int32)), .val (.int (own_p ps wh)), .val (.int (own_c ch)), .unset, .unset, .unset, .unset] [(.ref r_1)])) _
    refine XS.iload X1.here hx rfl (hb hby at_45) rfl ?_
    show Steps p.tables e below (T1.setTop (mkF m 47 #[.val (.int wh), .val (.int fl), .val (.int ps), .val (.int ch), .val (.int (own_k wh)), .val (.ref r_1), .val (.int (1 : Int32)), .val (.int (own_p ps wh)), .val (.int (own_c ch)), .unset, .unset, .unset, .unset] [(.int (own_p ps wh)), (.ref r_1)])) _
    refine X1.caload hx (j := (own_p ps wh)) (v := (.int ((own_U (own_k wh)).getD (own_p ps wh).toNatClampNeg 0))) (Ar3.at_ rfl) (State.isArrayOf_alike hZ0.alike Ar3.2.1) Ar3.2.2 hin3 hat3 (g := (mkF m 47 #[.val (.int wh), .val (.int fl), .val (.int ps), .val (.int ch), .val (.int (own_k wh)), .val (.ref r_1), .val (.int (1 : Int32)), .val (.int (own_p ps wh)), .val (.int (own_c ch)), .unset, .unset, .unset, .unset] [(.int (own_p ps wh)), (.ref r_1)])) rfl rfl (hb hby at_47) _ ?_
    show Steps p.tables e below (T1.setTop (mkF m 48 #[.val (.int wh), .val (.int fl), .val (.int ps), .val (.int ch), .val (.int (own_k wh)), .val (.ref r_1), .val (.int (1 : Int32)), .val (.int (own_p ps wh)), .val (.int (own_c ch)), .unset, .unset, .unset, .unset] [(.int ((own_U (own_k wh)).getD (own_p ps wh).toNatClampNeg 0))])) _
    refine XS.istore X1.here hx rfl (hb hby at_48) rfl (l' := #[.val (.int wh), .val (.int fl), .val (.int ps), .val (.int ch), .val (.int (own_k wh)), .val (.ref r_1), .val (.int (1 : Int32)), .val (.int (own_p ps wh)), .val (.int (own_c ch)), .val (.int ((own_U (own_k wh)).getD (own_p ps wh).toNatClampNeg 0)), .unset, .unset, .unset]) rfl ?_
    show Steps p.tables e below (T1.setTop (mkF m 50 #[.val (.int wh), .val (.int fl), .val (.int ps), .val (.int ch), .val (.int (own_k wh)), .val (.ref r_1), .val (.int (1 : Int32)), .val (.int (own_p ps wh)), .val (.int (own_c ch)), .val (.int ((own_U (own_k wh)).getD (own_p ps wh).toNatClampNeg 0)), .unset, .unset, .unset] [])) _
    refine XS.iconst X1.here hx rfl (hb hby at_50) ?_
    show Steps p.tables e below (T1.setTop (mkF m 51 #[.val (.int wh), .val (.int fl), .val (.int ps), .val (.int ch), .val (.int (own_k wh)), .val (.ref r_1), .val (.int (1 : Int32)), .val (.int (own_p ps wh)), .val (.int (own_c ch)), .val (.int ((own_U (own_k wh)).getD (own_p ps wh).toNatClampNeg 0)), .unset, .unset, .unset] [(.int (0 : Int32))])) _
    refine XS.istore X1.here hx rfl (hb hby at_51) rfl (l' := #[.val (.int wh), .val (.int fl), .val (.int ps), .val (.int ch), .val (.int (own_k wh)), .val (.ref r_1), .val (.int (1 : Int32)), .val (.int (own_p ps wh)), .val (.int (own_c ch)), .val (.int ((own_U (own_k wh)).getD (own_p ps wh).toNatClampNeg 0)), .val (.int (0 : Int32)), .unset, .unset]) rfl ?_
    show Steps p.tables e below (T1.setTop (mkF m 53 #[.val (.int wh), .val (.int fl), .val (.int ps), .val (.int ch), .val (.int (own_k wh)), .val (.ref r_1), .val (.int (1 : Int32)), .val (.int (own_p ps wh)), .val (.int (own_c ch)), .val (.int ((own_U (own_k wh)).getD (own_p ps wh).toNatClampNeg 0)), .val (.int (0 : Int32)), .unset, .unset] [])) _
    refine XS.iload X1.here hx rfl (hb hby at_53) rfl ?_
    show Steps p.tables e below (T1.setTop (mkF m 55 #[.val (.int wh), .val (.int fl), .val (.int ps), .val (.int ch), .val (.int (own_k wh)), .val (.ref r_1), .val (.int (1 : Int32)), .val (.int (own_p ps wh)), .val (.int (own_c ch)), .val (.int ((own_U (own_k wh)).getD (own_p ps wh).toNatClampNeg 0)), .val (.int (0 : Int32)), .unset, .unset] [(.int (1 : Int32))])) _
    refine XS.ifNo X1.here hx rfl (hb hby at_55) rfl ((if0 _ _).trans (feq (by decide : ¬ ((1 : Int32) = (0 : Int32)))).1) ?_
    show Steps p.tables e below (T1.setTop (mkF m 58 #[.val (.int wh), .val (.int fl), .val (.int ps), .val (.int ch), .val (.int (own_k wh)), .val (.ref r_1), .val (.int (1 : Int32)), .val (.int (own_p ps wh)), .val (.int (own_c ch)), .val (.int ((own_U (own_k wh)).getD (own_p ps wh).toNatClampNeg 0)), .val (.int (0 : Int32)), .unset, .unset] [])) _
    refine XS.aload X1.here hx rfl (hb hby at_58) rfl rfl ?_
    show Steps p.tables e below (T1.setTop (mkF m 60 #[.val (.int wh), .val (.int fl), .val (.int ps), .val (.int ch), .val (.int (own_k wh)), .val (.ref r_1), .val (.int (1 : Int32)), .val (.int (own_p ps wh)), .val (.int (own_c ch)), .val (.int ((own_U (own_k wh)).getD (own_p ps wh).toNatClampNeg 0)), .val (.int (0 : Int32)), .unset, .unset] [(.ref r_1)])) _
    refine XS.iload X1.here hx rfl (hb hby at_60) rfl ?_
    show Steps p.tables e below (T1.setTop (mkF m 62 #[.val (.int wh), .val (.int fl), .val (.int ps), .val (.int ch), .val (.int (own_k wh)), .val (.ref r_1), .val (.int (1 : Int32)), .val (.int (own_p ps wh)), .val (.int (own_c ch)), .val (.int ((own_U (own_k wh)).getD (own_p ps wh).toNatClampNeg 0)), .val (.int (0 : Int32)), .unset, .unset] [(.int (own_p ps wh)), (.ref r_1)])) _
    refine XS.iload X1.here hx rfl (hb hby at_62) rfl ?_
    show Steps p.tables e below (T1.setTop (mkF m 64 #[.val (.int wh), .val (.int fl), .val (.int ps), .val (.int ch), .val (.int (own_k wh)), .val (.ref r_1), .val (.int (1 : Int32)), .val (.int (own_p ps wh)), .val (.int (own_c ch)), .val (.int ((own_U (own_k wh)).getD (own_p ps wh).toNatClampNeg 0)), .val (.int (0 : Int32)), .unset, .unset] [(.int (own_c ch)), (.int (own_p ps wh)), (.ref r_1)])) _
    refine st4 _ ?_
    show Steps p.tables e below (T4.setTop (mkF m 65 #[.val (.int wh), .val (.int fl), .val (.int ps), .val (.int ch), .val (.int (own_k wh)), .val (.ref r_1), .val (.int (1 : Int32)), .val (.int (own_p ps wh)), .val (.int (own_c ch)), .val (.int ((own_U (own_k wh)).getD (own_p ps wh).toNatClampNeg 0)), .val (.int (0 : Int32)), .unset, .unset] [])) _
    refine XS.iload X4.here hx rfl (hb hby at_65) rfl ?_
    show Steps p.tables e below (T4.setTop (mkF m 67 #[.val (.int wh), .val (.int fl), .val (.int ps), .val (.int ch), .val (.int (own_k wh)), .val (.ref r_1), .val (.int (1 : Int32)), .val (.int (own_p ps wh)), .val (.int (own_c ch)), .val (.int ((own_U (own_k wh)).getD (own_p ps wh).toNatClampNeg 0)), .val (.int (0 : Int32)), .unset, .unset] [(.int ((own_U (own_k wh)).getD (own_p ps wh).toNatClampNeg 0))])) _
    refine XS.iload X4.here hx rfl (hb hby at_67) rfl ?_
    show Steps p.tables e below (T4.setTop (mkF m 69 #[.val (.int wh), .val (.int fl), .val (.int ps), .val (.int ch), .val (.int (own_k wh)), .val (.ref r_1), .val (.int (1 : Int32)), .val (.int (own_p ps wh)), .val (.int (own_c ch)), .val (.int ((own_U (own_k wh)).getD (own_p ps wh).toNatClampNeg 0)), .val (.int (0 : Int32)), .unset, .unset] [(.int (own_c ch)), (.int ((own_U (own_k wh)).getD (own_p ps wh).toNatClampNeg 0))])) _
    refine XS.icmpNo X4.here hx rfl (hb hby at_69) rfl (feq (hch : ¬ (((own_U (own_k wh)).getD (own_p ps wh).toNatClampNeg 0) = (own_c ch)))).1 ?_
    show Steps p.tables e below (T4.setTop (mkF m 72 #[.val (.int wh), .val (.int fl), .val (.int ps), .val (.int ch), .val (.int (own_k wh)), .val (.ref r_1), .val (.int (1 : Int32)), .val (.int (own_p ps wh)), .val (.int (own_c ch)), .val (.int ((own_U (own_k wh)).getD (own_p ps wh).toNatClampNeg 0)), .val (.int (0 : Int32)), .unset, .unset] [])) _
    refine XS.iconst X4.here hx rfl (hb hby at_72) ?_
    show Steps p.tables e below (T4.setTop (mkF m 73 #[.val (.int wh), .val (.int fl), .val (.int ps), .val (.int ch), .val (.int (own_k wh)), .val (.ref r_1), .val (.int (1 : Int32)), .val (.int (own_p ps wh)), .val (.int (own_c ch)), .val (.int ((own_U (own_k wh)).getD (own_p ps wh).toNatClampNeg 0)), .val (.int (0 : Int32)), .unset, .unset] [(.int (1 : Int32))])) _
    refine XS.goto X4.here hx rfl (pc0 := 73) (pc' := 77) rfl (hb hby at_73) (by decide) (by decide) ?_
    show Steps p.tables e below (T4.setTop (mkF m 77 #[.val (.int wh), .val (.int fl), .val (.int ps), .val (.int ch), .val (.int (own_k wh)), .val (.ref r_1), .val (.int (1 : Int32)), .val (.int (own_p ps wh)), .val (.int (own_c ch)), .val (.int ((own_U (own_k wh)).getD (own_p ps wh).toNatClampNeg 0)), .val (.int (0 : Int32)), .unset, .unset] [(.int (1 : Int32))])) _
    refine XS.istore X4.here hx rfl (hb hby at_77) rfl (l' := #[.val (.int wh), .val (.int fl), .val (.int ps), .val (.int ch), .val (.int (own_k wh)), .val (.ref r_1), .val (.int (1 : Int32)), .val (.int (own_p ps wh)), .val (.int (own_c ch)), .val (.int ((own_U (own_k wh)).getD (own_p ps wh).toNatClampNeg 0)), .val (.int (1 : Int32)), .unset, .unset]) rfl ?_
    show Steps p.tables e below (T4.setTop (mkF m 79 #[.val (.int wh), .val (.int fl), .val (.int ps), .val (.int ch), .val (.int (own_k wh)), .val (.ref r_1), .val (.int (1 : Int32)), .val (.int (own_p ps wh)), .val (.int (own_c ch)), .val (.int ((own_U (own_k wh)).getD (own_p ps wh).toNatClampNeg 0)), .val (.int (1 : Int32)), .unset, .unset] [])) _
    refine st5 _ ?_
    show Steps p.tables e below (T5.setTop (mkF m 82 #[.val (.int wh), .val (.int fl), .val (.int ps), .val (.int ch), .val (.int (own_k wh)), .val (.ref r_1), .val (.int (1 : Int32)), .val (.int (own_p ps wh)), .val (.int (own_c ch)), .val (.int ((own_U (own_k wh)).getD (own_p ps wh).toNatClampNeg 0)), .val (.int (1 : Int32)), .unset, .unset] [(.ref b5)])) _
    refine XS.dup X5.here hx rfl (hb hby at_82) rfl rfl ?_
    show Steps p.tables e below (T5.setTop (mkF m 83 #[.val (.int wh), .val (.int fl), .val (.int ps), .val (.int ch), .val (.int (own_k wh)), .val (.ref r_1), .val (.int (1 : Int32)), .val (.int (own_p ps wh)), .val (.int (own_c ch)), .val (.int ((own_U (own_k wh)).getD (own_p ps wh).toNatClampNeg 0)), .val (.int (1 : Int32)), .unset, .unset] [(.ref b5), (.ref b5)])) _
    refine XS.aload X5.here hx rfl (hb hby at_83) rfl rfl ?_
    show Steps p.tables e below (T5.setTop (mkF m 85 #[.val (.int wh), .val (.int fl), .val (.int ps), .val (.int ch), .val (.int (own_k wh)), .val (.ref r_1), .val (.int (1 : Int32)), .val (.int (own_p ps wh)), .val (.int (own_c ch)), .val (.int ((own_U (own_k wh)).getD (own_p ps wh).toNatClampNeg 0)), .val (.int (1 : Int32)), .unset, .unset] [(.ref r_1), (.ref b5), (.ref b5)])) _
    refine st6.trans ?_
    show Steps p.tables e below (T6.setTop (mkF m 88 #[.val (.int wh), .val (.int fl), .val (.int ps), .val (.int ch), .val (.int (own_k wh)), .val (.ref r_1), .val (.int (1 : Int32)), .val (.int (own_p ps wh)), .val (.int (own_c ch)), .val (.int ((own_U (own_k wh)).getD (own_p ps wh).toNatClampNeg 0)), .val (.int (1 : Int32)), .unset, .unset] [(.ref b5)])) _
    refine XS.astore X6.here hx rfl (hb hby at_88) rfl rfl (l' := #[.val (.int wh), .val (.int fl), .val (.int ps), .val (.int ch), .val (.int (own_k wh)), .val (.ref r_1), .val (.int (1 : Int32)), .val (.int (own_p ps wh)), .val (.int (own_c ch)), .val (.int ((own_U (own_k wh)).getD (own_p ps wh).toNatClampNeg 0)), .val (.int (1 : Int32)), .val (.ref b5), .unset]) rfl ?_
    show Steps p.tables e below (T6.setTop (mkF m 90 #[.val (.int wh), .val (.int fl), .val (.int ps), .val (.int ch), .val (.int (own_k wh)), .val (.ref r_1), .val (.int (1 : Int32)), .val (.int (own_p ps wh)), .val (.int (own_c ch)), .val (.int ((own_U (own_k wh)).getD (own_p ps wh).toNatClampNeg 0)), .val (.int (1 : Int32)), .val (.ref b5), .unset] [])) _
    refine XS.iload X6.here hx rfl (hb hby at_90) rfl ?_
    show Steps p.tables e below (T6.setTop (mkF m 92 #[.val (.int wh), .val (.int fl), .val (.int ps), .val (.int ch), .val (.int (own_k wh)), .val (.ref r_1), .val (.int (1 : Int32)), .val (.int (own_p ps wh)), .val (.int (own_c ch)), .val (.int ((own_U (own_k wh)).getD (own_p ps wh).toNatClampNeg 0)), .val (.int (1 : Int32)), .val (.ref b5), .unset] [(.int (own_k wh))])) _
    refine XS.iconst X6.here hx rfl (hb hby at_92) ?_
    show Steps p.tables e below (T6.setTop (mkF m 93 #[.val (.int wh), .val (.int fl), .val (.int ps), .val (.int ch), .val (.int (own_k wh)), .val (.ref r_1), .val (.int (1 : Int32)), .val (.int (own_p ps wh)), .val (.int (own_c ch)), .val (.int ((own_U (own_k wh)).getD (own_p ps wh).toNatClampNeg 0)), .val (.int (1 : Int32)), .val (.ref b5), .unset] [(.int (4 : Int32)), (.int (own_k wh))])) _
    refine XS.icmpYes X6.here hx rfl (pc0 := 93) (pc' := 105) rfl (hb hby at_93) rfl (flt (hk4 : ¬ ((own_k wh) < (4 : Int32)))).2.1 (by decide) (by decide) ?_
    show Steps p.tables e below (T6.setTop (mkF m 105 #[.val (.int wh), .val (.int fl), .val (.int ps), .val (.int ch), .val (.int (own_k wh)), .val (.ref r_1), .val (.int (1 : Int32)), .val (.int (own_p ps wh)), .val (.int (own_c ch)), .val (.int ((own_U (own_k wh)).getD (own_p ps wh).toNatClampNeg 0)), .val (.int (1 : Int32)), .val (.ref b5), .unset] [])) _
    refine XS.iconst X6.here hx rfl (hb hby at_105) ?_
    show Steps p.tables e below (T6.setTop (mkF m 106 #[.val (.int wh), .val (.int fl), .val (.int ps), .val (.int ch), .val (.int (own_k wh)), .val (.ref r_1), .val (.int (1 : Int32)), .val (.int (own_p ps wh)), .val (.int (own_c ch)), .val (.int ((own_U (own_k wh)).getD (own_p ps wh).toNatClampNeg 0)), .val (.int (1 : Int32)), .val (.ref b5), .unset] [(.int (0 : Int32))])) _
    refine XS.istore X6.here hx rfl (hb hby at_106) rfl (l' := #[.val (.int wh), .val (.int fl), .val (.int ps), .val (.int ch), .val (.int (own_k wh)), .val (.ref r_1), .val (.int (1 : Int32)), .val (.int (own_p ps wh)), .val (.int (own_c ch)), .val (.int ((own_U (own_k wh)).getD (own_p ps wh).toNatClampNeg 0)), .val (.int (1 : Int32)), .val (.ref b5), .val (.int (0 : Int32))]) rfl ?_
    show Steps p.tables e below (T6.setTop (mkF m 108 #[.val (.int wh), .val (.int fl), .val (.int ps), .val (.int ch), .val (.int (own_k wh)), .val (.ref r_1), .val (.int (1 : Int32)), .val (.int (own_p ps wh)), .val (.int (own_c ch)), .val (.int ((own_U (own_k wh)).getD (own_p ps wh).toNatClampNeg 0)), .val (.int (1 : Int32)), .val (.ref b5), .val (.int (0 : Int32))] [])) _
    refine XS.aload X6.here hx rfl (hb hby at_108) rfl rfl ?_
    show Steps p.tables e below (T6.setTop (mkF m 110 #[.val (.int wh), .val (.int fl), .val (.int ps), .val (.int ch), .val (.int (own_k wh)), .val (.ref r_1), .val (.int (1 : Int32)), .val (.int (own_p ps wh)), .val (.int (own_c ch)), .val (.int ((own_U (own_k wh)).getD (own_p ps wh).toNatClampNeg 0)), .val (.int (1 : Int32)), .val (.ref b5), .val (.int (0 : Int32))] [(.ref b5)])) _
    refine st7.trans ?_
    show Steps p.tables e below (T7.setTop (mkF m 113 #[.val (.int wh), .val (.int fl), .val (.int ps), .val (.int ch), .val (.int (own_k wh)), .val (.ref r_1), .val (.int (1 : Int32)), .val (.int (own_p ps wh)), .val (.int (own_c ch)), .val (.int ((own_U (own_k wh)).getD (own_p ps wh).toNatClampNeg 0)), .val (.int (1 : Int32)), .val (.ref b5), .val (.int (0 : Int32))] [(.int (own_bi (own_V wh ps ch)))])) _
    refine castTop (congrArg (fun z_ => (mkF m 113 #[.val (.int wh), .val (.int fl), .val (.int ps), .val (.int ch), .val (.int (own_k wh)), .val (.ref r_1), .val (.int (1 : Int32)), .val (.int (own_p ps wh)), .val (.int (own_c ch)), .val (.int ((own_U (own_k wh)).getD (own_p ps wh).toNatClampNeg 0)), .val (.int (1 : Int32)), .val (.ref b5), .val (.int (0 : Int32))] [(.int z_)])) (own_V_bi hch : (own_bi (own_V wh ps ch)) = (0 : Int32))) ?_
    show Steps p.tables e below (T7.setTop (mkF m 113 #[.val (.int wh), .val (.int fl), .val (.int ps), .val (.int ch), .val (.int (own_k wh)), .val (.ref r_1), .val (.int (1 : Int32)), .val (.int (own_p ps wh)), .val (.int (own_c ch)), .val (.int ((own_U (own_k wh)).getD (own_p ps wh).toNatClampNeg 0)), .val (.int (1 : Int32)), .val (.ref b5), .val (.int (0 : Int32))] [(.int (0 : Int32))])) _
    refine XS.iload X7.here hx rfl (hb hby at_113) rfl ?_
    show Steps p.tables e below (T7.setTop (mkF m 115 #[.val (.int wh), .val (.int fl), .val (.int ps), .val (.int ch), .val (.int (own_k wh)), .val (.ref r_1), .val (.int (1 : Int32)), .val (.int (own_p ps wh)), .val (.int (own_c ch)), .val (.int ((own_U (own_k wh)).getD (own_p ps wh).toNatClampNeg 0)), .val (.int (1 : Int32)), .val (.ref b5), .val (.int (0 : Int32))] [(.int (0 : Int32)), (.int (0 : Int32))])) _
    refine XS.icmpNo X7.here hx rfl (hb hby at_115) rfl (teq (by decide : (0 : Int32) = (0 : Int32))).2 ?_
    show Steps p.tables e below (T7.setTop (mkF m 118 #[.val (.int wh), .val (.int fl), .val (.int ps), .val (.int ch), .val (.int (own_k wh)), .val (.ref r_1), .val (.int (1 : Int32)), .val (.int (own_p ps wh)), .val (.int (own_c ch)), .val (.int ((own_U (own_k wh)).getD (own_p ps wh).toNatClampNeg 0)), .val (.int (1 : Int32)), .val (.ref b5), .val (.int (0 : Int32))] [])) _
    refine XS.iconst X7.here hx rfl (hb hby at_118) ?_
    show Steps p.tables e below (T7.setTop (mkF m 119 #[.val (.int wh), .val (.int fl), .val (.int ps), .val (.int ch), .val (.int (own_k wh)), .val (.ref r_1), .val (.int (1 : Int32)), .val (.int (own_p ps wh)), .val (.int (own_c ch)), .val (.int ((own_U (own_k wh)).getD (own_p ps wh).toNatClampNeg 0)), .val (.int (1 : Int32)), .val (.ref b5), .val (.int (0 : Int32))] [(.int (1 : Int32))])) _
    refine XS.goto X7.here hx rfl (pc0 := 119) (pc' := 123) rfl (hb hby at_119) (by decide) (by decide) ?_
    show Steps p.tables e below (T7.setTop (mkF m 123 #[.val (.int wh), .val (.int fl), .val (.int ps), .val (.int ch), .val (.int (own_k wh)), .val (.ref r_1), .val (.int (1 : Int32)), .val (.int (own_p ps wh)), .val (.int (own_c ch)), .val (.int ((own_U (own_k wh)).getD (own_p ps wh).toNatClampNeg 0)), .val (.int (1 : Int32)), .val (.ref b5), .val (.int (0 : Int32))] [(.int (1 : Int32))])) _
    exact retN X7 hx (t := .boolean) Bd.returns (by simp) (hb hby at_123) hr
  · show Q_law Z wh fl ps ch cz h0 n0 _ T7.heap _
    exact ⟨rfl, N7⟩
  · show CHr Z own_EL s.vm s.heap T7.vm T7.heap
    rw [hh]; exact CE
set_option maxRecDepth 65536 in
set_option maxHeartbeats 40000000 in
theorem law_D0 (l : Launch) (Z : State) (a0 : Array Value) (hw : ∀ d ∈ tables_1, d.before a0 Z = true) (ws : List Jvm.Cond) (wh : Int32) (fl : Int32) (ps : Int32) (ch : Int32) (cz : Int32) (h0 : Heap) (n0 : Nat) (O0 : Old Z n0 h0) (G0 : Sta Z Z.heap "java/lang/String" "COMPACT_STRINGS" "Z" (.int cz)) (G1 : Sta Z Z.heap "java/lang/StringUTF16" "$assertionsDisabled" "Z" (.int (1 : Int32))) (G2 : Sta Z Z.heap "java/lang/StringUTF16" "HI_BYTE_SHIFT" "I" (.int (0 : Int32))) (G3 : Sta Z Z.heap "java/lang/StringUTF16" "LO_BYTE_SHIFT" "I" (.int (8 : Int32))) (hcs : ¬ (cz = (0 : Int32))) (hf : ¬ ((fl &&& (1 : Int32)) = (0 : Int32))) (hch : ¬ (((own_U (own_k wh)).getD (own_p ps wh).toNatClampNeg 0) = (own_c ch))) (hlat : (255 : Int32) < (own_c ch)) (hk4 : ¬ ((own_k wh) < (4 : Int32))) :
    MetFree l x (head1 (Jvm.Cond.code x code maxLocals ret :: ws) room_1) (fun zA zU => zA = #[(.int wh), (.int fl), (.int ps), (.int ch)] ∧ Z.Warmed39 zU.vm ∧ zU.heap = h0 ∧ CHv Z own_EL zU.vm h0 ∧ ∀ x ∈ ([] : List Addr), Safe Z own_EL zU.vm h0 x) (fun _ _ _ _ _ => True) (fun _ zU zo zU' => ∃ zv zL, zo = .returned zv ∧ Q_law Z wh fl ps ch cz h0 n0 zv zU'.heap zL ∧ CHr Z own_EL zU.vm zU.heap zU'.vm zU'.heap ∧ ReturnedEndW zU zo zU' zL room_1.cells room_1.slots) := by
  refine MetFree.of_bodySF (plainFor_of_name pn_17) hisR ?_
  intro p e s m args below meth c s₁ Bd hml0 hP hK
  obtain ⟨rfl, hZ, hh, HC, HS⟩ := hP
  have hx := Bd.exec
  have hby := Bd.bytes
  have hml : c.maxLocals = 13 := hml0
  have hown : s.vm.findClass "com/example/tsutsumi/tsutsumi/service/SchemaElementsIsBuiltInNamespacePinLaw" = some m.cls := findClass_of_methodNamed Bd.named
  have hnm := (name_of_methodNamed Bd.named Bd.method).1
  have X0 : Stand p l e room_1 (s.setVm s.vm) m #[(.int wh), (.int fl), (.int ps), (.int ch)] below meth c s₁ [] 0 0 := Stand.of_body Bd
  have e0 : s₁.heap = h0 := by rw [← hh, Bd.state]; rfl
  have N0 := Fr.nil n0
  have Z0 : n0 ≤ h0.size := O0.1 ▸ O0.2.1
  have pre0 : ∀ zt, Steps p.tables e below (s₁.setTop (mkF m 0 #[.val (.int wh), .val (.int fl), .val (.int ps), .val (.int ch), .unset, .unset, .unset, .unset, .unset, .unset, .unset, .unset, .unset] [])) zt → Steps p.tables e below (s₁.setTop (entryFrame m #[(.int wh), (.int fl), (.int ps), (.int ch)] maxLocals)) zt := fun zt zk => castTop (ef_0_IIII m wh fl ps ch) zk
  have hEL := own_EW hw
  have wS := own_wS hw
  have hS0 : s.Since s.vm 0 := (State.WarmedH.refl s).since 0
  have CR0 : CHr Z own_EL s.vm h0 s.vm h0 := CHr.refl HC
  have hZ0 := hZ
  have hown0 := hown
  obtain ⟨_, _, ⟨T1, L1, k1, n1⟩, -, X1, ⟨Lc1, hQ1, l1, y1, z1⟩, st1⟩ := Jvm.LawKit.callS X0 hx (y := (⟨"com/example/tsutsumi/tsutsumi/service/SchemaElementsIsBuiltInNamespacePinLaw", "uriChars", "(I)[C"⟩ : MethodName)) hown (mvT hZ (hw _ (List.mem_of_getElem? (i := 0) rfl))) (mvT hZ (hw _ (List.mem_of_getElem? (i := 1) rfl))) (mvT hZ (hw _ (List.mem_of_getElem? (i := 2) rfl))) (mvT hZ (hw _ (List.mem_of_getElem? (i := 3) rfl))) (by decide) (backOf (W := 0) (uri l Z a0 hw [] (own_k wh) h0 n0 (Nat.le_trans Z0 (Keep.refl h0 []).1) ) hZ (hw _ (List.mem_of_getElem? (i := 3) rfl)) (hw _ (List.mem_of_getElem? (i := 2) rfl)) (by decide) (by decide)) (g := (mkF m 8 #[.val (.int wh), .val (.int fl), .val (.int ps), .val (.int ch), .val (.int (own_k wh)), .unset, .unset, .unset, .unset, .unset, .unset, .unset, .unset] [(.int (own_k wh))])) rfl (by rw [hml]; rfl) (argsL := [(.int (own_k wh))]) (rest := []) (lenOf pd_9 rfl) rfl (by show 2 * 0 + _ ≤ _; exact Nat.le_of_eq rfl) (hb hby at_8) (fun _ _ => ⟨rfl, e0, (by decide : 0 + 1 ≤ _), (by decide : 0 + 41 ≤ _)⟩)
  dsimp only [Pt.U, Pt.locs, Pt.cells, Pt.slots] at X1 l1 y1 z1 st1 hQ1
  subst l1 y1 z1
  obtain ⟨r_1, kr_1, rfl, Nq1, kh1, fz_r_1, Po1_0⟩ := hQ1
  have N1 := Fr.app N0 Nq1
  have sz_r_1 : h0.size ≤ r_1 := Nat.le_trans (Keep.refl h0 []).1 fz_r_1
  have g_r_1 : n0 ≤ r_1 := Nat.le_trans Z0 sz_r_1
  have O1 := O0.keep kh1 all0
  have K1 : Keep h0 T1.heap [] := (Keep.refl h0 []).trans kh1 all0
  have hs1 : ∀ x ∈ ([] : List Addr), Safe Z own_EL s.vm h0 x := all0
  have CR1 := CR0.trans (CHr.keep kh1 hs1 CR0.1)
  obtain ⟨cl2, Ar2, -, Sz2, Ng2, -⟩ := (id Po1_0)
  obtain ⟨cl3, Ar3, q3, Sz3, Ng3, Hs3, Gs3⟩ := (id Po1_0)
  have hin3 : ¬ ((own_p ps wh) < 0 ∨ cl3.slots.size ≤ ((own_p ps wh)).toNatClampNeg) := inb_of Sz3 (own_pb ps wh)
  have hat3 : cl3.slots[((own_p ps wh)).toNatClampNeg]? = some (.int ((own_U (own_k wh)).getD (own_p ps wh).toNatClampNeg 0)) := Has.at Hs3 hin3 (own_gdp (own_pl ps wh))
  obtain ⟨cl4, Ar4, q4, Sz4, Ng4, Hs4, Gs4⟩ := (id Po1_0)
  have hin4 : ¬ ((own_p ps wh) < 0 ∨ cl4.slots.size ≤ ((own_p ps wh)).toNatClampNeg) := inb_of Sz4 (own_pb ps wh)
  obtain ⟨T4, h4, X4, e4, W4, st4⟩ := stC X1 hx hZ rfl Ar4 (j := (own_p ps wh)) hin4 (g := (mkF m 64 #[.val (.int wh), .val (.int fl), .val (.int ps), .val (.int ch), .val (.int (own_k wh)), .val (.ref r_1), .val (.int (1 : Int32)), .val (.int (own_p ps wh)), .val (.int (own_c ch)), .val (.int ((own_U (own_k wh)).getD (own_p ps wh).toNatClampNeg 0)), .val (.int (0 : Int32)), .unset, .unset] [(.int (own_c ch)), (.int (own_p ps wh)), (.ref r_1)])) rfl rfl (hb hby at_64)
  have Va4 := Arv.set Ar4 q4 Sz4 Ng4 Hs4 Gs4 (fits_nar_char _) W4 (own_p ps wh).toNatClampNeg rfl (by rw [List.length_map]; exact own_pl ps wh)
  have Sw4 : Safe Z own_EL s.vm T1.heap r_1 := (own_safe_arv hZ.alike Po1_0 (by decide))
  have O4 := O1.wr W4 g_r_1
  have K4 : Keep h0 h4 [] := K1.wr W4 (Or.inr sz_r_1)
  have N4 := Fr.snoc X4 N1 g_r_1
  have CR4 := CR1.trans (CHr.wr W4 Sw4 CR1.1)
  have V4 : Arv Z h4 r_1 kr_1 .char (Int32.ofNat (own_V wh ps ch).length) ((own_V wh ps ch).map Value.int) (.int (0 : Int32)) := by rw [own_V_len, ← own_Vmap]; exact Va4
  obtain ⟨T5, h5, X5, e5, E5, A5, D5, U5, st5⟩ := newO X4 hx hZ hown (hw _ (List.mem_of_getElem? (i := 7) rfl)) (hw _ (List.mem_of_getElem? (i := 8) rfl)) (hw _ (List.mem_of_getElem? (i := 9) rfl)) e4 (g := (mkF m 79 #[.val (.int wh), .val (.int fl), .val (.int ps), .val (.int ch), .val (.int (own_k wh)), .val (.ref r_1), .val (.int (1 : Int32)), .val (.int (own_p ps wh)), .val (.int (own_c ch)), .val (.int ((own_U (own_k wh)).getD (own_p ps wh).toNatClampNeg 0)), .val (.int (1 : Int32)), .unset, .unset] [])) rfl (hb hby at_79) (by decide) (by decide)
  obtain ⟨b5, gz5⟩ : ∃ z, z = h4.size := ⟨_, rfl⟩
  rw [← gz5] at A5 D5 U5 st5
  have sz_b5 : h0.size ≤ b5 := Nat.le_trans K4.1 (Nat.le_of_eq gz5.symm)
  have g_b5 : n0 ≤ b5 := Nat.le_trans Z0 sz_b5
  have O5 := O4.ext E5
  have K5 : Keep h0 h5 [] := K4.ext E5
  have CR5 := CR4.trans (CHr.ext E5 CR4.1)
  have Sn5 : Safe Z own_EL s.vm h5 b5 := Safe.ext E5 CR4.1 (Safe.new (Nat.le_of_eq gz5.symm))
  have Fi5_33 : Fld Z h5 b5 "java/lang/String" "coder" "B" (.int (0 : Int32)) := D5 (Or.inr (hw _ (List.mem_of_getElem? (i := 33) rfl))) (ty := .byte) (by decide)
  have Fi5_35 : Fld Z h5 b5 "java/lang/String" "value" "[B" .null := D5 (Or.inr (hw _ (List.mem_of_getElem? (i := 35) rfl))) (ty := (.array .byte)) (by decide)
  obtain ⟨_, _, ⟨T6, L6, k6, n6⟩, -, X6, ⟨Lc6, hQ6, l6, y6, z6⟩, st6⟩ := X5.specialBack hx (y := (⟨"java/lang/String", "<init>", "([C)V"⟩ : MethodName)) rfl hown (mvT hZ (hw _ (List.mem_of_getElem? (i := 10) rfl))) (mvT hZ (hw _ (List.mem_of_getElem? (i := 11) rfl))) (mvT hZ (hw _ (List.mem_of_getElem? (i := 12) rfl))) (by decide) (backOf (W := 1) (siU l Z a0 hw [] b5 r_1 kr_1 (own_V wh ps ch) ((own_p ps wh).toNatClampNeg) cz h5 n0 O5 G0 G1 G2 G3 A5 Fi5_35 Fi5_33 (V4.ext E5) g_b5 hcs (own_V_l0 wh ps ch).2 (own_V_pl wh ps ch) (own_V_pre wh ps ch) (own_V_at hlat) (own_V_all wh ps ch)) hZ (hw _ (List.mem_of_getElem? (i := 12) rfl)) (hw _ (List.mem_of_getElem? (i := 9) rfl)) (by decide) (by decide)) (g := (mkF m 85 #[.val (.int wh), .val (.int fl), .val (.int ps), .val (.int ch), .val (.int (own_k wh)), .val (.ref r_1), .val (.int (1 : Int32)), .val (.int (own_p ps wh)), .val (.int (own_c ch)), .val (.int ((own_U (own_k wh)).getD (own_p ps wh).toNatClampNeg 0)), .val (.int (1 : Int32)), .unset, .unset] [(.ref r_1), (.ref b5), (.ref b5)])) rfl (by rw [hml]; rfl) (Steps.refl _) (a := b5) (argsL := [(.ref r_1)]) (rest := [(.ref b5)]) (lenOf pd_10 rfl) rfl (by show 2 * 0 + _ ≤ _; exact Nat.le_of_eq rfl) (hb hby at_85) (fun _ _ => ⟨rfl, e5, (by decide : 2 + 2 ≤ _), (by decide : 45 + 123 ≤ _)⟩)
  dsimp only [Pt.U, Pt.locs, Pt.cells, Pt.slots] at X6 l6 y6 z6 st6 hQ6
  subst l6 y6 z6
  obtain ⟨rfl, Nq6, kh6, Po6_0, Po6_1⟩ := hQ6
  have N6 := Fr.app N4 Nq6
  have O6 := O5.keep kh6 (allS g_b5 all0)
  have K6 : Keep h0 T6.heap [] := K5.trans kh6 (allS (Or.inr sz_b5) all0)
  have hs6 : ∀ x ∈ ([b5] : List Addr), Safe Z own_EL s.vm h5 x := (allS Sn5 all0)
  have CR6 := CR5.trans (CHr.keep kh6 hs6 CR5.1)
  have Sy6_b5 := Safe.keep kh6 hs6 CR5.1 Sn5
  obtain ⟨_, _, ⟨T7, L7, k7, n7⟩, -, Xr7, hSr7, hg7, ⟨Lc7, hQ7, l7, y7, z7, CL7⟩, st7⟩ := callSS X6 hx (y := (⟨"com/example/tsutsumi/tsutsumi/service/SchemaElements", "isBuiltInNamespace", "(Ljava/lang/String;)Z"⟩ : MethodName)) hown (mvT hZ (hw _ (List.mem_of_getElem? (i := 36) rfl))) (mvT hZ (hw _ (List.mem_of_getElem? (i := 37) rfl))) (mvT hZ (hw _ (List.mem_of_getElem? (i := 38) rfl))) (mvT hZ (hw _ (List.mem_of_getElem? (i := 39) rfl))) (by decide) (own_backSH (s := s) (vm0 := s.vm) (W := 0) (biU l Z a0 hw [] b5 cz T6.heap n0 O6 G0 Po6_0 Po6_1 hcs) hZ (hw _ (List.mem_of_getElem? (i := 39) rfl)) (hw _ (List.mem_of_getElem? (i := 38) rfl)) (by decide) (by decide) hEL CR6.1 (allS ⟨(Po6_0).lt, Sy6_b5⟩ all0)) (g := (mkF m 110 #[.val (.int wh), .val (.int fl), .val (.int ps), .val (.int ch), .val (.int (own_k wh)), .val (.ref r_1), .val (.int (1 : Int32)), .val (.int (own_p ps wh)), .val (.int (own_c ch)), .val (.int ((own_U (own_k wh)).getD (own_p ps wh).toNatClampNeg 0)), .val (.int (1 : Int32)), .val (.ref b5), .val (.int (0 : Int32))] [(.ref b5)])) rfl (by rw [hml]; rfl) (argsL := [(.ref b5)]) (rest := []) (lenOf pd_11 rfl) rfl (by show 2 * 0 + _ ≤ _; exact Nat.le_of_eq rfl) (hb hby at_110) (fun _ _ => ⟨rfl, rfl, (by decide : 4 + 8 ≤ _), (by decide : 168 + 576 ≤ _)⟩)
  dsimp only [Pt.U, Pt.locs, Pt.cells, Pt.slots] at Xr7 l7 y7 z7 st7 hQ7 hSr7 hg7 CL7
  subst l7 y7 z7
  obtain ⟨X7, hS7, hZ, hown⟩ := rebS (s := s) (vm0 := s.vm) hS0 (own_hk rfl (Nat.le_trans (Nat.le_trans (Nat.le_trans (Nat.le_trans (Nat.zero_le _) kh1.1) (Keep.of_wr W4).1) E5.1) kh6.1)) Xr7 hSr7 hg7 hZ hown
  obtain ⟨rfl, Nq7, kh7⟩ := hQ7
  have N7 := Fr.app N6 Nq7
  have hZ7 := hZ
  have hown7 := hown
  have O7 := O6.keep kh7 all0
  have K7 : Keep h0 T7.heap [] := K6.trans kh7 all0
  have CR7 := CR6.trans CL7
  have Sy7_b5 := CL7.safe (Po6_0).lt Sy6_b5
  obtain ⟨fs, hr, hrun, hended, hRW⟩ := X7.leaveW (s := s) hS7 (own_hk rfl (Nat.le_refl _)) (v := some (.int (1 : Int32))) (fun h => by rw [Bd.returns] at h; cases h)
  have CE := CR7.trans (CHv.at (s := s) (vm0 := T7.vm) X7 hZ hEL CR7.1)
  refine ⟨_, _, pre0 _ ?_, hrun, hended, _, _, rfl, ?_, ?_, own_rw_mono hRW (by decide) (by decide)⟩
  · show Steps p.tables e below (s₁.setTop (mkF m 0 #[.val (.int wh), .val (.int fl), .val (.int ps), .val (.int ch), .unset, .unset, .unset, .unset, .unset, .unset, .unset, .unset, .unset] [])) _
    refine XS.iloadN X0.here hx rfl (hb hby at_0) rfl ?_
    show Steps p.tables e below (s₁.setTop (mkF m 1 #[.val (.int wh), .val (.int fl), .val (.int ps), .val (.int ch), .unset, .unset, .unset, .unset, .unset, .unset, .unset, .unset, .unset] [(.int wh)])) _
    refine XS.bipush X0.here hx rfl (hb hby at_1) ?_
    show Steps p.tables e below (s₁.setTop (mkF m 3 #[.val (.int wh), .val (.int fl), .val (.int ps), .val (.int ch), .unset, .unset, .unset, .unset, .unset, .unset, .unset, .unset, .unset] [(.int (7 : Int32)), (.int wh)])) _
    refine XS.iand X0.here hx rfl (hb hby at_3) rfl ?_
    show Steps p.tables e below (s₁.setTop (mkF m 4 #[.val (.int wh), .val (.int fl), .val (.int ps), .val (.int ch), .unset, .unset, .unset, .unset, .unset, .unset, .unset, .unset, .unset] [(.int (wh &&& (7 : Int32)))])) _
    refine castTop (congrArg (fun z_ => (mkF m 4 #[.val (.int wh), .val (.int fl), .val (.int ps), .val (.int ch), .unset, .unset, .unset, .unset, .unset, .unset, .unset, .unset, .unset] [(.int z_)])) (rfl : (wh &&& (7 : Int32)) = (own_k wh))) ?_
    show Steps p.tables e below (s₁.setTop (mkF m 4 #[.val (.int wh), .val (.int fl), .val (.int ps), .val (.int ch), .unset, .unset, .unset, .unset, .unset, .unset, .unset, .unset, .unset] [(.int (own_k wh))])) _
    refine XS.istore X0.here hx rfl (hb hby at_4) rfl (l' := #[.val (.int wh), .val (.int fl), .val (.int ps), .val (.int ch), .val (.int (own_k wh)), .unset, .unset, .unset, .unset, .unset, .unset, .unset, .unset]) rfl ?_
    show Steps p.tables e below (s₁.setTop (mkF m 6 #[.val (.int wh), .val (.int fl), .val (.int ps), .val (.int ch), .val (.int (own_k wh)), .unset, .unset, .unset, .unset, .unset, .unset, .unset, .unset] [])) _
    refine XS.iload X0.here hx rfl (hb hby at_6) rfl ?_
    show Steps p.tables e below (s₁.setTop (mkF m 8 #[.val (.int wh), .val (.int fl), .val (.int ps), .val (.int ch), .val (.int (own_k wh)), .unset, .unset, .unset, .unset, .unset, .unset, .unset, .unset] [(.int (own_k wh))])) _
    refine st1 _ ?_
    show Steps p.tables e below (T1.setTop (mkF m 11 #[.val (.int wh), .val (.int fl), .val (.int ps), .val (.int ch), .val (.int (own_k wh)), .unset, .unset, .unset, .unset, .unset, .unset, .unset, .unset] [(.ref r_1)])) _
    refine XS.astore X1.here hx rfl (hb hby at_11) rfl rfl (l' := #[.val (.int wh), .val (.int fl), .val (.int ps), .val (.int ch), .val (.int (own_k wh)), .val (.ref r_1), .unset, .unset, .unset, .unset, .unset, .unset, .unset]) rfl ?_
    show Steps p.tables e below (T1.setTop (mkF m 13 #[.val (.int wh), .val (.int fl), .val (.int ps), .val (.int ch), .val (.int (own_k wh)), .val (.ref r_1), .unset, .unset, .unset, .unset, .unset, .unset, .unset] [])) _
    refine XS.iloadN X1.here hx rfl (hb hby at_13) rfl ?_
    show Steps p.tables e below (T1.setTop (mkF m 14 #[.val (.int wh), .val (.int fl), .val (.int ps), .val (.int ch), .val (.int (own_k wh)), .val (.ref r_1), .unset, .unset, .unset, .unset, .unset, .unset, .unset] [(.int fl)])) _
    refine XS.iconst X1.here hx rfl (hb hby at_14) ?_
    show Steps p.tables e below (T1.setTop (mkF m 15 #[.val (.int wh), .val (.int fl), .val (.int ps), .val (.int ch), .val (.int (own_k wh)), .val (.ref r_1), .unset, .unset, .unset, .unset, .unset, .unset, .unset] [(.int (1 : Int32)), (.int fl)])) _
    refine XS.iand X1.here hx rfl (hb hby at_15) rfl ?_
    show Steps p.tables e below (T1.setTop (mkF m 16 #[.val (.int wh), .val (.int fl), .val (.int ps), .val (.int ch), .val (.int (own_k wh)), .val (.ref r_1), .unset, .unset, .unset, .unset, .unset, .unset, .unset] [(.int (fl &&& (1 : Int32)))])) _
    refine XS.ifNo X1.here hx rfl (hb hby at_16) rfl ((if0 _ _).trans (feq (hf : ¬ ((fl &&& (1 : Int32)) = (0 : Int32)))).1) ?_
    show Steps p.tables e below (T1.setTop (mkF m 19 #[.val (.int wh), .val (.int fl), .val (.int ps), .val (.int ch), .val (.int (own_k wh)), .val (.ref r_1), .unset, .unset, .unset, .unset, .unset, .unset, .unset] [])) _
    refine XS.iconst X1.here hx rfl (hb hby at_19) ?_
    show Steps p.tables e below (T1.setTop (mkF m 20 #[.val (.int wh), .val (.int fl), .val (.int ps), .val (.int ch), .val (.int (own_k wh)), .val (.ref r_1), .unset, .unset, .unset, .unset, .unset, .unset, .unset] [(.int (1 : Int32))])) _
    refine XS.goto X1.here hx rfl (pc0 := 20) (pc' := 24) rfl (hb hby at_20) (by decide) (by decide) ?_
    show Steps p.tables e below (T1.setTop (mkF m 24 #[.val (.int wh), .val (.int fl), .val (.int ps), .val (.int ch), .val (.int (own_k wh)), .val (.ref r_1), .unset, .unset, .unset, .unset, .unset, .unset, .unset] [(.int (1 : Int32))])) _
    refine XS.istore X1.here hx rfl (hb hby at_24) rfl (l' := #[.val (.int wh), .val (.int fl), .val (.int ps), .val (.int ch), .val (.int (own_k wh)), .val (.ref r_1), .val (.int (1 : Int32)), .unset, .unset, .unset, .unset, .unset, .unset]) rfl ?_
    show Steps p.tables e below (T1.setTop (mkF m 26 #[.val (.int wh), .val (.int fl), .val (.int ps), .val (.int ch), .val (.int (own_k wh)), .val (.ref r_1), .val (.int (1 : Int32)), .unset, .unset, .unset, .unset, .unset, .unset] [])) _
    refine XS.iloadN X1.here hx rfl (hb hby at_26) rfl ?_
    show Steps p.tables e below (T1.setTop (mkF m 27 #[.val (.int wh), .val (.int fl), .val (.int ps), .val (.int ch), .val (.int (own_k wh)), .val (.ref r_1), .val (.int (1 : Int32)), .unset, .unset, .unset, .unset, .unset, .unset] [(.int ps)])) _
    refine X1.ldcInt hx hown0 (mvT hZ0 (hw _ (List.mem_of_getElem? (i := 5) rfl))) (g := (mkF m 27 #[.val (.int wh), .val (.int fl), .val (.int ps), .val (.int ch), .val (.int (own_k wh)), .val (.ref r_1), .val (.int (1 : Int32)), .unset, .unset, .unset, .unset, .unset, .unset] [(.int ps)])) rfl (hb hby at_27) _ ?_
    show Steps p.tables e below (T1.setTop (mkF m 29 #[.val (.int wh), .val (.int fl), .val (.int ps), .val (.int ch), .val (.int (own_k wh)), .val (.ref r_1), .val (.int (1 : Int32)), .unset, .unset, .unset, .unset, .unset, .unset] [(.int (2147483647 : Int32)), (.int ps)])) _
    refine XS.iand X1.here hx rfl (hb hby at_29) rfl ?_
    show Steps p.tables e below (T1.setTop (mkF m 30 #[.val (.int wh), .val (.int fl), .val (.int ps), .val (.int ch), .val (.int (own_k wh)), .val (.ref r_1), .val (.int (1 : Int32)), .unset, .unset, .unset, .unset, .unset, .unset] [(.int (ps &&& (2147483647 : Int32)))])) _
    refine XS.aload X1.here hx rfl (hb hby at_30) rfl rfl ?_
    show Steps p.tables e below (T1.setTop (mkF m 32 #[.val (.int wh), .val (.int fl), .val (.int ps), .val (.int ch), .val (.int (own_k wh)), .val (.ref r_1), .val (.int (1 : Int32)), .unset, .unset, .unset, .unset, .unset, .unset] [(.ref r_1), (.int (ps &&& (2147483647 : Int32)))])) _
    refine X1.arraylength hx (Ar2.at_ rfl) (State.isArrayOf_alike hZ0.alike Ar2.2.1) (g := (mkF m 32 #[.val (.int wh), .val (.int fl), .val (.int ps), .val (.int ch), .val (.int (own_k wh)), .val (.ref r_1), .val (.int (1 : Int32)), .unset, .unset, .unset, .unset, .unset, .unset] [(.ref r_1), (.int (ps &&& (2147483647 : Int32)))])) rfl rfl (hb hby at_32) _ ?_
    rw [len_of Sz2 Ng2]
    show Steps p.tables e below (T1.setTop (mkF m 33 #[.val (.int wh), .val (.int fl), .val (.int ps), .val (.int ch), .val (.int (own_k wh)), .val (.ref r_1), .val (.int (1 : Int32)), .unset, .unset, .unset, .unset, .unset, .unset] [(.int (Int32.ofNat (own_U (own_k wh)).length)), (.int (ps &&& (2147483647 : Int32)))])) _
    refine iremM X1 hx rfl (hb hby at_33) rfl (own_ndz _) ?_
    show Steps p.tables e below (T1.setTop (mkF m 34 #[.val (.int wh), .val (.int fl), .val (.int ps), .val (.int ch), .val (.int (own_k wh)), .val (.ref r_1), .val (.int (1 : Int32)), .unset, .unset, .unset, .unset, .unset, .unset] [(.int ((ps &&& (2147483647 : Int32)) % (Int32.ofNat (own_U (own_k wh)).length)))])) _
    refine castTop (congrArg (fun z_ => (mkF m 34 #[.val (.int wh), .val (.int fl), .val (.int ps), .val (.int ch), .val (.int (own_k wh)), .val (.ref r_1), .val (.int (1 : Int32)), .unset, .unset, .unset, .unset, .unset, .unset] [(.int z_)])) (rfl : ((ps &&& (2147483647 : Int32)) % (Int32.ofNat (own_U (own_k wh)).length)) = (own_p ps wh))) ?_
    show Steps p.tables e below (T1.setTop (mkF m 34 #[.val (.int wh), .val (.int fl), .val (.int ps), .val (.int ch), .val (.int (own_k wh)), .val (.ref r_1), .val (.int (1 : Int32)), .unset, .unset, .unset, .unset, .unset, .unset] [(.int (own_p ps wh))])) _
    refine XS.istore X1.here hx rfl (hb hby at_34) rfl (l' := #[.val (.int wh), .val (.int fl), .val (.int ps), .val (.int ch), .val (.int (own_k wh)), .val (.ref r_1), .val (.int (1 : Int32)), .val (.int (own_p ps wh)), .unset, .unset, .unset, .unset, .unset]) rfl ?_
    show Steps p.tables e below (T1.setTop (mkF m 36 #[.val (.int wh), .val (.int fl), .val (.int ps), .val (.int ch), .val (.int (own_k wh)), .val (.ref r_1), .val (.int (1 : Int32)), .val (.int (own_p ps wh)), .unset, .unset, .unset, .unset, .unset] [])) _
    refine XS.iloadN X1.here hx rfl (hb hby at_36) rfl ?_
    show Steps p.tables e below (T1.setTop (mkF m 37 #[.val (.int wh), .val (.int fl), .val (.int ps), .val (.int ch), .val (.int (own_k wh)), .val (.ref r_1), .val (.int (1 : Int32)), .val (.int (own_p ps wh)), .unset, .unset, .unset, .unset, .unset] [(.int ch)])) _
    refine X1.ldcInt hx hown0 (mvT hZ0 (hw _ (List.mem_of_getElem? (i := 6) rfl))) (g := (mkF m 37 #[.val (.int wh), .val (.int fl), .val (.int ps), .val (.int ch), .val (.int (own_k wh)), .val (.ref r_1), .val (.int (1 : Int32)), .val (.int (own_p ps wh)), .unset, .unset, .unset, .unset, .unset] [(.int ch)])) rfl (hb hby at_37) _ ?_
    show Steps p.tables e below (T1.setTop (mkF m 39 #[.val (.int wh), .val (.int fl), .val (.int ps), .val (.int ch), .val (.int (own_k wh)), .val (.ref r_1), .val (.int (1 : Int32)), .val (.int (own_p ps wh)), .unset, .unset, .unset, .unset, .unset] [(.int (65535 : Int32)), (.int ch)])) _
    refine XS.iand X1.here hx rfl (hb hby at_39) rfl ?_
    show Steps p.tables e below (T1.setTop (mkF m 40 #[.val (.int wh), .val (.int fl), .val (.int ps), .val (.int ch), .val (.int (own_k wh)), .val (.ref r_1), .val (.int (1 : Int32)), .val (.int (own_p ps wh)), .unset, .unset, .unset, .unset, .unset] [(.int (ch &&& (65535 : Int32)))])) _
    refine XS.i2c X1.here hx rfl (hb hby at_40) rfl ?_
    show Steps p.tables e below (T1.setTop (mkF m 41 #[.val (.int wh), .val (.int fl), .val (.int ps), .val (.int ch), .val (.int (own_k wh)), .val (.ref r_1), .val (.int (1 : Int32)), .val (.int (own_p ps wh)), .unset, .unset, .unset, .unset, .unset] [(.int ((ch &&& (65535 : Int32)).toUInt32.toUInt16.toUInt32.toInt32))])) _
    refine castTop (congrArg (fun z_ => (mkF m 41 #[.val (.int wh), .val (.int fl), .val (.int ps), .val (.int ch), .val (.int (own_k wh)), .val (.ref r_1), .val (.int (1 : Int32)), .val (.int (own_p ps wh)), .unset, .unset, .unset, .unset, .unset] [(.int z_)])) (rfl : ((ch &&& (65535 : Int32)).toUInt32.toUInt16.toUInt32.toInt32) = (own_c ch))) ?_
    show Steps p.tables e below (T1.setTop (mkF m 41 #[.val (.int wh), .val (.int fl), .val (.int ps), .val (.int ch), .val (.int (own_k wh)), .val (.ref r_1), .val (.int (1 : Int32)), .val (.int (own_p ps wh)), .unset, .unset, .unset, .unset, .unset] [(.int (own_c ch))])) _
    refine XS.istore X1.here hx rfl (hb hby at_41) rfl (l' := #[.val (.int wh), .val (.int fl), .val (.int ps), .val (.int ch), .val (.int (own_k wh)), .val (.ref r_1), .val (.int (1 : Int32)), .val (.int (own_p ps wh)), .val (.int (own_c ch)), .unset, .unset, .unset, .unset]) rfl ?_
    show Steps p.tables e below (T1.setTop (mkF m 43 #[.val (.int wh), .val (.int fl), .val (.int ps), .val (.int ch), .val (.int (own_k wh)), .val (.ref r_1), .val (.int (1 : Int32)), .val (.int (own_p ps wh)), .val (.int (own_c ch)), .unset, .unset, .unset, .unset] [])) _
    refine XS.aload X1.here hx rfl (hb hby at_43) rfl rfl ?_
    show Steps p.tables e below (T1.setTop (mkF m 45 #[.val (.int wh), .val (.int fl), .val (.int ps), .val (.int ch), .val (.int (own_k wh)), .val (.ref r_1), .val (.int (1 : Int32)), .val (.int (own_p ps wh)), .val (.int (own_c ch)), .unset, .unset, .unset, .unset] [(.ref r_1)])) _
    refine XS.iload X1.here hx rfl (hb hby at_45) rfl ?_
    show Steps p.tables e below (T1.setTop (mkF m 47 #[.val (.int wh), .val (.int fl), .val (.int ps), .val (.int ch), .val (.int (own_k wh)), .val (.ref r_1), .val (.int (1 : Int32)), .val (.int (own_p ps wh)), .val (.int (own_c ch)), .unset, .unset, .unset, .unset] [(.int (own_p ps wh)), (.ref r_1)])) _
    refine X1.caload hx (j := (own_p ps wh)) (v := (.int ((own_U (own_k wh)).getD (own_p ps wh).toNatClampNeg 0))) (Ar3.at_ rfl) (State.isArrayOf_alike hZ0.alike Ar3.2.1) Ar3.2.2 hin3 hat3 (g := (mkF m 47 #[.val (.int wh), .val (.int fl), .val (.int ps), .val (.int ch), .val (.int (own_k wh)), .val (.ref r_1), .val (.int (1 : Int32)), .val (.int (own_p ps wh)), .val (.int (own_c ch)), .unset, .unset, .unset, .unset] [(.int (own_p ps wh)), (.ref r_1)])) rfl rfl (hb hby at_47) _ ?_
    show Steps p.tables e below (T1.setTop (mkF m 48 #[.val (.int wh), .val (.int fl), .val (.int ps), .val (.int ch), .val (.int (own_k wh)), .val (.ref r_1), .val (.int (1 : Int32)), .val (.int (own_p ps wh)), .val (.int (own_c ch)), .unset, .unset, .unset, .unset] [(.int ((own_U (own_k wh)).getD (own_p ps wh).toNatClampNeg 0))])) _
    refine XS.istore X1.here hx rfl (hb hby at_48) rfl (l' := #[.val (.int wh), .val (.int fl), .val (.int ps), .val (.int ch), .val (.int (own_k wh)), .val (.ref r_1), .val (.int (1 : Int32)), .val (.int (own_p ps wh)), .val (.int (own_c ch)), .val (.int ((own_U (own_k wh)).getD (own_p ps wh).toNatClampNeg 0)), .unset, .unset, .unset]) rfl ?_
    show Steps p.tables e below (T1.setTop (mkF m 50 #[.val (.int wh), .val (.int fl), .val (.int ps), .val (.int ch), .val (.int (own_k wh)), .val (.ref r_1), .val (.int (1 : Int32)), .val (.int (own_p ps wh)), .val (.int (own_c ch)), .val (.int ((own_U (own_k wh)).getD (own_p ps wh).toNatClampNeg 0)), .unset, .unset, .unset] [])) _
    refine XS.iconst X1.here hx rfl (hb hby at_50) ?_
    show Steps p.tables e below (T1.setTop (mkF m 51 #[.val (.int wh), .val (.int fl), .val (.int ps), .val (.int ch), .val (.int (own_k wh)), .val (.ref r_1), .val (.int (1 : Int32)), .val (.int (own_p ps wh)), .val (.int (own_c ch)), .val (.int ((own_U (own_k wh)).getD (own_p ps wh).toNatClampNeg 0)), .unset, .unset, .unset] [(.int (0 : Int32))])) _
    refine XS.istore X1.here hx rfl (hb hby at_51) rfl (l' := #[.val (.int wh), .val (.int fl), .val (.int ps), .val (.int ch), .val (.int (own_k wh)), .val (.ref r_1), .val (.int (1 : Int32)), .val (.int (own_p ps wh)), .val (.int (own_c ch)), .val (.int ((own_U (own_k wh)).getD (own_p ps wh).toNatClampNeg 0)), .val (.int (0 : Int32)), .unset, .unset]) rfl ?_
    show Steps p.tables e below (T1.setTop (mkF m 53 #[.val (.int wh), .val (.int fl), .val (.int ps), .val (.int ch), .val (.int (own_k wh)), .val (.ref r_1), .val (.int (1 : Int32)), .val (.int (own_p ps wh)), .val (.int (own_c ch)), .val (.int ((own_U (own_k wh)).getD (own_p ps wh).toNatClampNeg 0)), .val (.int (0 : Int32)), .unset, .unset] [])) _
    refine XS.iload X1.here hx rfl (hb hby at_53) rfl ?_
    show Steps p.tables e below (T1.setTop (mkF m 55 #[.val (.int wh), .val (.int fl), .val (.int ps), .val (.int ch), .val (.int (own_k wh)), .val (.ref r_1), .val (.int (1 : Int32)), .val (.int (own_p ps wh)), .val (.int (own_c ch)), .val (.int ((own_U (own_k wh)).getD (own_p ps wh).toNatClampNeg 0)), .val (.int (0 : Int32)), .unset, .unset] [(.int (1 : Int32))])) _
    refine XS.ifNo X1.here hx rfl (hb hby at_55) rfl ((if0 _ _).trans (feq (by decide : ¬ ((1 : Int32) = (0 : Int32)))).1) ?_
    show Steps p.tables e below (T1.setTop (mkF m 58 #[.val (.int wh), .val (.int fl), .val (.int ps), .val (.int ch), .val (.int (own_k wh)), .val (.ref r_1), .val (.int (1 : Int32)), .val (.int (own_p ps wh)), .val (.int (own_c ch)), .val (.int ((own_U (own_k wh)).getD (own_p ps wh).toNatClampNeg 0)), .val (.int (0 : Int32)), .unset, .unset] [])) _
    refine XS.aload X1.here hx rfl (hb hby at_58) rfl rfl ?_
    show Steps p.tables e below (T1.setTop (mkF m 60 #[.val (.int wh), .val (.int fl), .val (.int ps), .val (.int ch), .val (.int (own_k wh)), .val (.ref r_1), .val (.int (1 : Int32)), .val (.int (own_p ps wh)), .val (.int (own_c ch)), .val (.int ((own_U (own_k wh)).getD (own_p ps wh).toNatClampNeg 0)), .val (.int (0 : Int32)), .unset, .unset] [(.ref r_1)])) _
    refine XS.iload X1.here hx rfl (hb hby at_60) rfl ?_
    show Steps p.tables e below (T1.setTop (mkF m 62 #[.val (.int wh), .val (.int fl), .val (.int ps), .val (.int ch), .val (.int (own_k wh)), .val (.ref r_1), .val (.int (1 : Int32)), .val (.int (own_p ps wh)), .val (.int (own_c ch)), .val (.int ((own_U (own_k wh)).getD (own_p ps wh).toNatClampNeg 0)), .val (.int (0 : Int32)), .unset, .unset] [(.int (own_p ps wh)), (.ref r_1)])) _
    refine XS.iload X1.here hx rfl (hb hby at_62) rfl ?_
    show Steps p.tables e below (T1.setTop (mkF m 64 #[.val (.int wh), .val (.int fl), .val (.int ps), .val (.int ch), .val (.int (own_k wh)), .val (.ref r_1), .val (.int (1 : Int32)), .val (.int (own_p ps wh)), .val (.int (own_c ch)), .val (.int ((own_U (own_k wh)).getD (own_p ps wh).toNatClampNeg 0)), .val (.int (0 : Int32)), .unset, .unset] [(.int (own_c ch)), (.int (own_p ps wh)), (.ref r_1)])) _
    refine st4 _ ?_
    show Steps p.tables e below (T4.setTop (mkF m 65 #[.val (.int wh), .val (.int fl), .val (.int ps), .val (.int ch), .val (.int (own_k wh)), .val (.ref r_1), .val (.int (1 : Int32)), .val (.int (own_p ps wh)), .val (.int (own_c ch)), .val (.int ((own_U (own_k wh)).getD (own_p ps wh).toNatClampNeg 0)), .val (.int (0 : Int32)), .unset, .unset] [])) _
    refine XS.iload X4.here hx rfl (hb hby at_65) rfl ?_
    show Steps p.tables e below (T4.setTop (mkF m 67 #[.val (.int wh), .val (.int fl), .val (.int ps), .val (.int ch), .val (.int (own_k wh)), .val (.ref r_1), .val (.int (1 : Int32)), .val (.int (own_p ps wh)), .val (.int (own_c ch)), .val (.int ((own_U (own_k wh)).getD (own_p ps wh).toNatClampNeg 0)), .val (.int (0 : Int32)), .unset, .unset] [(.int ((own_U (own_k wh)).getD (own_p ps wh).toNatClampNeg 0))])) _
    refine XS.iload X4.here hx rfl (hb hby at_67) rfl ?_
    show Steps p.tables e below (T4.setTop (mkF m 69 #[.val (.int wh), .val (.int fl), .val (.int ps), .val (.int ch), .val (.int (own_k wh)), .val (.ref r_1), .val (.int (1 : Int32)), .val (.int (own_p ps wh)), .val (.int (own_c ch)), .val (.int ((own_U (own_k wh)).getD (own_p ps wh).toNatClampNeg 0)), .val (.int (0 : Int32)), .unset, .unset] [(.int (own_c ch)), (.int ((own_U (own_k wh)).getD (own_p ps wh).toNatClampNeg 0))])) _
    refine XS.icmpNo X4.here hx rfl (hb hby at_69) rfl (feq (hch : ¬ (((own_U (own_k wh)).getD (own_p ps wh).toNatClampNeg 0) = (own_c ch)))).1 ?_
    show Steps p.tables e below (T4.setTop (mkF m 72 #[.val (.int wh), .val (.int fl), .val (.int ps), .val (.int ch), .val (.int (own_k wh)), .val (.ref r_1), .val (.int (1 : Int32)), .val (.int (own_p ps wh)), .val (.int (own_c ch)), .val (.int ((own_U (own_k wh)).getD (own_p ps wh).toNatClampNeg 0)), .val (.int (0 : Int32)), .unset, .unset] [])) _
    refine XS.iconst X4.here hx rfl (hb hby at_72) ?_
    show Steps p.tables e below (T4.setTop (mkF m 73 #[.val (.int wh), .val (.int fl), .val (.int ps), .val (.int ch), .val (.int (own_k wh)), .val (.ref r_1), .val (.int (1 : Int32)), .val (.int (own_p ps wh)), .val (.int (own_c ch)), .val (.int ((own_U (own_k wh)).getD (own_p ps wh).toNatClampNeg 0)), .val (.int (0 : Int32)), .unset, .unset] [(.int (1 : Int32))])) _
    refine XS.goto X4.here hx rfl (pc0 := 73) (pc' := 77) rfl (hb hby at_73) (by decide) (by decide) ?_
    show Steps p.tables e below (T4.setTop (mkF m 77 #[.val (.int wh), .val (.int fl), .val (.int ps), .val (.int ch), .val (.int (own_k wh)), .val (.ref r_1), .val (.int (1 : Int32)), .val (.int (own_p ps wh)), .val (.int (own_c ch)), .val (.int ((own_U (own_k wh)).getD (own_p ps wh).toNatClampNeg 0)), .val (.int (0 : Int32)), .unset, .unset] [(.int (1 : Int32))])) _
    refine XS.istore X4.here hx rfl (hb hby at_77) rfl (l' := #[.val (.int wh), .val (.int fl), .val (.int ps), .val (.int ch), .val (.int (own_k wh)), .val (.ref r_1), .val (.int (1 : Int32)), .val (.int (own_p ps wh)), .val (.int (own_c ch)), .val (.int ((own_U (own_k wh)).getD (own_p ps wh).toNatClampNeg 0)), .val (.int (1 : Int32)), .unset, .unset]) rfl ?_
    show Steps p.tables e below (T4.setTop (mkF m 79 #[.val (.int wh), .val (.int fl), .val (.int ps), .val (.int ch), .val (.int (own_k wh)), .val (.ref r_1), .val (.int (1 : Int32)), .val (.int (own_p ps wh)), .val (.int (own_c ch)), .val (.int ((own_U (own_k wh)).getD (own_p ps wh).toNatClampNeg 0)), .val (.int (1 : Int32)), .unset, .unset] [])) _
    refine st5 _ ?_
    show Steps p.tables e below (T5.setTop (mkF m 82 #[.val (.int wh), .val (.int fl), .val (.int ps), .val (.int ch), .val (.int (own_k wh)), .val (.ref r_1), .val (.int (1 : Int32)), .val (.int (own_p ps wh)), .val (.int (own_c ch)), .val (.int ((own_U (own_k wh)).getD (own_p ps wh).toNatClampNeg 0)), .val (.int (1 : Int32)), .unset, .unset] [(.ref b5)])) _
    refine XS.dup X5.here hx rfl (hb hby at_82) rfl rfl ?_
    show Steps p.tables e below (T5.setTop (mkF m 83 #[.val (.int wh), .val (.int fl), .val (.int ps), .val (.int ch), .val (.int (own_k wh)), .val (.ref r_1), .val (.int (1 : Int32)), .val (.int (own_p ps wh)), .val (.int (own_c ch)), .val (.int ((own_U (own_k wh)).getD (own_p ps wh).toNatClampNeg 0)), .val (.int (1 : Int32)), .unset, .unset] [(.ref b5), (.ref b5)])) _
    refine XS.aload X5.here hx rfl (hb hby at_83) rfl rfl ?_
    show Steps p.tables e below (T5.setTop (mkF m 85 #[.val (.int wh), .val (.int fl), .val (.int ps), .val (.int ch), .val (.int (own_k wh)), .val (.ref r_1), .val (.int (1 : Int32)), .val (.int (own_p ps wh)), .val (.int (own_c ch)), .val (.int ((own_U (own_k wh)).getD (own_p ps wh).toNatClampNeg 0)), .val (.int (1 : Int32)), .unset, .unset] [(.ref r_1), (.ref b5), (.ref b5)])) _
    refine st6.trans ?_
    show Steps p.tables e below (T6.setTop (mkF m 88 #[.val (.int wh), .val (.int fl), .val (.int ps), .val (.int ch), .val (.int (own_k wh)), .val (.ref r_1), .val (.int (1 : Int32)), .val (.int (own_p ps wh)), .val (.int (own_c ch)), .val (.int ((own_U (own_k wh)).getD (own_p ps wh).toNatClampNeg 0)), .val (.int (1 : Int32)), .unset, .unset] [(.ref b5)])) _
    refine XS.astore X6.here hx rfl (hb hby at_88) rfl rfl (l' := #[.val (.int wh), .val (.int fl), .val (.int ps), .val (.int ch), .val (.int (own_k wh)), .val (.ref r_1), .val (.int (1 : Int32)), .val (.int (own_p ps wh)), .val (.int (own_c ch)), .val (.int ((own_U (own_k wh)).getD (own_p ps wh).toNatClampNeg 0)), .val (.int (1 : Int32)), .val (.ref b5), .unset]) rfl ?_
    show Steps p.tables e below (T6.setTop (mkF m 90 #[.val (.int wh), .val (.int fl), .val (.int ps), .val (.int ch), .val (.int (own_k wh)), .val (.ref r_1), .val (.int (1 : Int32)), .val (.int (own_p ps wh)), .val (.int (own_c ch)), .val (.int ((own_U (own_k wh)).getD (own_p ps wh).toNatClampNeg 0)), .val (.int (1 : Int32)), .val (.ref b5), .unset] [])) _
    refine XS.iload X6.here hx rfl (hb hby at_90) rfl ?_
    show Steps p.tables e below (T6.setTop (mkF m 92 #[.val (.int wh), .val (.int fl), .val (.int ps), .val (.int ch), .val (.int (own_k wh)), .val (.ref r_1), .val (.int (1 : Int32)), .val (.int (own_p ps wh)), .val (.int (own_c ch)), .val (.int ((own_U (own_k wh)).getD (own_p ps wh).toNatClampNeg 0)), .val (.int (1 : Int32)), .val (.ref b5), .unset] [(.int (own_k wh))])) _
    refine XS.iconst X6.here hx rfl (hb hby at_92) ?_
    show Steps p.tables e below (T6.setTop (mkF m 93 #[.val (.int wh), .val (.int fl), .val (.int ps), .val (.int ch), .val (.int (own_k wh)), .val (.ref r_1), .val (.int (1 : Int32)), .val (.int (own_p ps wh)), .val (.int (own_c ch)), .val (.int ((own_U (own_k wh)).getD (own_p ps wh).toNatClampNeg 0)), .val (.int (1 : Int32)), .val (.ref b5), .unset] [(.int (4 : Int32)), (.int (own_k wh))])) _
    refine XS.icmpYes X6.here hx rfl (pc0 := 93) (pc' := 105) rfl (hb hby at_93) rfl (flt (hk4 : ¬ ((own_k wh) < (4 : Int32)))).2.1 (by decide) (by decide) ?_
    show Steps p.tables e below (T6.setTop (mkF m 105 #[.val (.int wh), .val (.int fl), .val (.int ps), .val (.int ch), .val (.int (own_k wh)), .val (.ref r_1), .val (.int (1 : Int32)), .val (.int (own_p ps wh)), .val (.int (own_c ch)), .val (.int ((own_U (own_k wh)).getD (own_p ps wh).toNatClampNeg 0)), .val (.int (1 : Int32)), .val (.ref b5), .unset] [])) _
    refine XS.iconst X6.here hx rfl (hb hby at_105) ?_
    show Steps p.tables e below (T6.setTop (mkF m 106 #[.val (.int wh), .val (.int fl), .val (.int ps), .val (.int ch), .val (.int (own_k wh)), .val (.ref r_1), .val (.int (1 : Int32)), .val (.int (own_p ps wh)), .val (.int (own_c ch)), .val (.int ((own_U (own_k wh)).getD (own_p ps wh).toNatClampNeg 0)), .val (.int (1 : Int32)), .val (.ref b5), .unset] [(.int (0 : Int32))])) _
    refine XS.istore X6.here hx rfl (hb hby at_106) rfl (l' := #[.val (.int wh), .val (.int fl), .val (.int ps), .val (.int ch), .val (.int (own_k wh)), .val (.ref r_1), .val (.int (1 : Int32)), .val (.int (own_p ps wh)), .val (.int (own_c ch)), .val (.int ((own_U (own_k wh)).getD (own_p ps wh).toNatClampNeg 0)), .val (.int (1 : Int32)), .val (.ref b5), .val (.int (0 : Int32))]) rfl ?_
    show Steps p.tables e below (T6.setTop (mkF m 108 #[.val (.int wh), .val (.int fl), .val (.int ps), .val (.int ch), .val (.int (own_k wh)), .val (.ref r_1), .val (.int (1 : Int32)), .val (.int (own_p ps wh)), .val (.int (own_c ch)), .val (.int ((own_U (own_k wh)).getD (own_p ps wh).toNatClampNeg 0)), .val (.int (1 : Int32)), .val (.ref b5), .val (.int (0 : Int32))] [])) _
    refine XS.aload X6.here hx rfl (hb hby at_108) rfl rfl ?_
    show Steps p.tables e below (T6.setTop (mkF m 110 #[.val (.int wh), .val (.int fl), .val (.int ps), .val (.int ch), .val (.int (own_k wh)), .val (.ref r_1), .val (.int (1 : Int32)), .val (.int (own_p ps wh)), .val (.int (own_c ch)), .val (.int ((own_U (own_k wh)).getD (own_p ps wh).toNatClampNeg 0)), .val (.int (1 : Int32)), .val (.ref b5), .val (.int (0 : Int32))] [(.ref b5)])) _
    refine st7.trans ?_
    show Steps p.tables e below (T7.setTop (mkF m 113 #[.val (.int wh), .val (.int fl), .val (.int ps), .val (.int ch), .val (.int (own_k wh)), .val (.ref r_1), .val (.int (1 : Int32)), .val (.int (own_p ps wh)), .val (.int (own_c ch)), .val (.int ((own_U (own_k wh)).getD (own_p ps wh).toNatClampNeg 0)), .val (.int (1 : Int32)), .val (.ref b5), .val (.int (0 : Int32))] [(.int (0 : Int32))])) _
    refine XS.iload X7.here hx rfl (hb hby at_113) rfl ?_
    show Steps p.tables e below (T7.setTop (mkF m 115 #[.val (.int wh), .val (.int fl), .val (.int ps), .val (.int ch), .val (.int (own_k wh)), .val (.ref r_1), .val (.int (1 : Int32)), .val (.int (own_p ps wh)), .val (.int (own_c ch)), .val (.int ((own_U (own_k wh)).getD (own_p ps wh).toNatClampNeg 0)), .val (.int (1 : Int32)), .val (.ref b5), .val (.int (0 : Int32))] [(.int (0 : Int32)), (.int (0 : Int32))])) _
    refine XS.icmpNo X7.here hx rfl (hb hby at_115) rfl (teq (by decide : (0 : Int32) = (0 : Int32))).2 ?_
    show Steps p.tables e below (T7.setTop (mkF m 118 #[.val (.int wh), .val (.int fl), .val (.int ps), .val (.int ch), .val (.int (own_k wh)), .val (.ref r_1), .val (.int (1 : Int32)), .val (.int (own_p ps wh)), .val (.int (own_c ch)), .val (.int ((own_U (own_k wh)).getD (own_p ps wh).toNatClampNeg 0)), .val (.int (1 : Int32)), .val (.ref b5), .val (.int (0 : Int32))] [])) _
    refine XS.iconst X7.here hx rfl (hb hby at_118) ?_
    show Steps p.tables e below (T7.setTop (mkF m 119 #[.val (.int wh), .val (.int fl), .val (.int ps), .val (.int ch), .val (.int (own_k wh)), .val (.ref r_1), .val (.int (1 : Int32)), .val (.int (own_p ps wh)), .val (.int (own_c ch)), .val (.int ((own_U (own_k wh)).getD (own_p ps wh).toNatClampNeg 0)), .val (.int (1 : Int32)), .val (.ref b5), .val (.int (0 : Int32))] [(.int (1 : Int32))])) _
    refine XS.goto X7.here hx rfl (pc0 := 119) (pc' := 123) rfl (hb hby at_119) (by decide) (by decide) ?_
    show Steps p.tables e below (T7.setTop (mkF m 123 #[.val (.int wh), .val (.int fl), .val (.int ps), .val (.int ch), .val (.int (own_k wh)), .val (.ref r_1), .val (.int (1 : Int32)), .val (.int (own_p ps wh)), .val (.int (own_c ch)), .val (.int ((own_U (own_k wh)).getD (own_p ps wh).toNatClampNeg 0)), .val (.int (1 : Int32)), .val (.ref b5), .val (.int (0 : Int32))] [(.int (1 : Int32))])) _
    exact retN X7 hx (t := .boolean) Bd.returns (by simp) (hb hby at_123) hr
  · show Q_law Z wh fl ps ch cz h0 n0 _ T7.heap _
    exact ⟨rfl, N7⟩
  · show CHr Z own_EL s.vm s.heap T7.vm T7.heap
    rw [hh]; exact CE
set_option maxRecDepth 65536 in
set_option maxHeartbeats 40000000 in
theorem law (l : Launch) (Z : State) (a0 : Array Value) (hw : ∀ d ∈ tables_1, d.before a0 Z = true) (ws : List Jvm.Cond) (wh : Int32) (fl : Int32) (ps : Int32) (ch : Int32) (cz : Int32) (h0 : Heap) (n0 : Nat) (O0 : Old Z n0 h0) (G0 : Sta Z Z.heap "java/lang/String" "COMPACT_STRINGS" "Z" (.int cz)) (G1 : Sta Z Z.heap "java/lang/StringUTF16" "$assertionsDisabled" "Z" (.int (1 : Int32))) (G2 : Sta Z Z.heap "java/lang/StringUTF16" "HI_BYTE_SHIFT" "I" (.int (0 : Int32))) (G3 : Sta Z Z.heap "java/lang/StringUTF16" "LO_BYTE_SHIFT" "I" (.int (8 : Int32))) (hcs : ¬ (cz = (0 : Int32))) :
    MetFree l x (head1 (Jvm.Cond.code x code maxLocals ret :: ws) room_1) (fun zA zU => zA = #[(.int wh), (.int fl), (.int ps), (.int ch)] ∧ Z.Warmed39 zU.vm ∧ zU.heap = h0 ∧ CHv Z own_EL zU.vm h0 ∧ ∀ x ∈ ([] : List Addr), Safe Z own_EL zU.vm h0 x) (fun _ _ _ _ _ => True) (fun _ zU zo zU' => ∃ zv zL, zo = .returned zv ∧ Q_law Z wh fl ps ch cz h0 n0 zv zU'.heap zL ∧ CHr Z own_EL zU.vm zU.heap zU'.vm zU'.heap ∧ ReturnedEndW zU zo zU' zL room_1.cells room_1.slots) := by
  by_cases hf : (fl &&& (1 : Int32)) = (0 : Int32)
  · by_cases hk4 : (own_k wh) < (4 : Int32)
    · exact law_A1 l Z a0 hw ws wh fl ps ch cz h0 n0 O0 G0 G1 G2 G3 hcs hf hk4
    · exact law_A0 l Z a0 hw ws wh fl ps ch cz h0 n0 O0 G0 G1 G2 G3 hcs hf hk4
  · by_cases hch : ((own_U (own_k wh)).getD (own_p ps wh).toNatClampNeg 0) = (own_c ch)
    · have hlat : ¬ ((255 : Int32) < (own_c ch)) := by rw [← hch]; exact (own_U_ch _ _ (own_getD_mem (own_pl ps wh))).2
      by_cases hk4 : (own_k wh) < (4 : Int32)
      · exact law_B1 l Z a0 hw ws wh fl ps ch cz h0 n0 O0 G0 G1 G2 G3 hcs hf hch hlat hk4
      · exact law_B0 l Z a0 hw ws wh fl ps ch cz h0 n0 O0 G0 G1 G2 G3 hcs hf hch hlat hk4
    · by_cases hlat : (255 : Int32) < (own_c ch)
      · by_cases hk4 : (own_k wh) < (4 : Int32)
        · exact law_D1 l Z a0 hw ws wh fl ps ch cz h0 n0 O0 G0 G1 G2 G3 hcs hf hch hlat hk4
        · exact law_D0 l Z a0 hw ws wh fl ps ch cz h0 n0 O0 G0 G1 G2 G3 hcs hf hch hlat hk4
      · by_cases hk4 : (own_k wh) < (4 : Int32)
        · exact law_C1 l Z a0 hw ws wh fl ps ch cz h0 n0 O0 G0 G1 G2 G3 hcs hf hch hlat hk4
        · exact law_C0 l Z a0 hw ws wh fl ps ch cz h0 n0 O0 G0 G1 G2 G3 hcs hf hch hlat hk4
set_option maxRecDepth 65536 in
set_option maxHeartbeats 40000000 in
theorem comes_1 {Post : Tables → Env → Array Value → State → Outcome → State → Prop} (hpost : ∀ tb e args s v u, (limb_1_1.after args s (.returned v) u = true ∧ limb_1_2.after args s (.returned v) u = true ∧ True) → Jvm.D.FramedW s (.returned v) u (Jvm.fieldLocs frame_1_writes args s ++ Jvm.arrayLocs frame_1_arrays args s ++ Jvm.staticLocs frame_1_statics s) 24 4544 → Post tb e args s (.returned v) u) :
    ArmFor flags0 classFile x code maxLocals ret World_1 tables_1 room_1 Calls_1 rest_1 Pre_1 Post := by
  intro l hfl _ _ p e ha hc hk s m args below hf hA hF happ hP
  obtain ⟨hcalls, hrest, hpre⟩ := hP
  obtain ⟨-, -, -, hnamed, -, -, -, hat⟩ := (Spec.applies_iff hf).mp happ
  obtain ⟨hg, hn⟩ := and_e (Cond.before_iff.mp (show (Jvm.Cond.and given_1 narrow_1).before args s = true from hpre))
  obtain ⟨gA0, gB0⟩ := and_e hg
  obtain ⟨gA1, gB1⟩ := and_e gB0
  obtain ⟨gA2, gB2⟩ := and_e gB1
  obtain ⟨gA3, gB3⟩ := and_e gB2
  obtain ⟨w0, w1, w2, w3, rfl⟩ : ∃ w0 w1 w2 w3 : Value, args = #[w0, w1, w2, w3] := by
    have hs : args.size = 4 := by simpa [Cond.value, given_1] using gA0
    obtain ⟨L⟩ := args
    match L, hs with
    | [w0, w1, w2, w3], _ => exact ⟨w0, w1, w2, w3, rfl⟩
  have hw := fun d (hd : d ∈ tables_1) => atoms_spec (ws := Jvm.Cond.code x code maxLocals ret :: tables_1) hat d (List.mem_cons_of_mem _ hd)
  have hfit : Fit s := fun {y c} hc i hi => by
    obtain ⟨ha, rfl⟩ := Array.getElem?_eq_some_iff.mp hc
    have q := List.all_eq_true.mp ((Array.all_eq_true_iff_forall_mem.mp hF) _ (Array.getElem_mem ha)) i (List.mem_range.mpr hi)
    simpa [Array.getElem?_eq_getElem hi] using q
  obtain ⟨hsets, hown0⟩ := atoms_of _ (rest_1_c_eq ▸ (show rest_1_c.before _ s = true from hrest))
  have hr0 := Cond.before_iff.mp hown0
  obtain ⟨i0, ei0⟩ := is_v gA1
  obtain rfl : w0 = (.int i0) := Option.some.inj ei0
  obtain ⟨i1, ei1⟩ := is_v gA2
  obtain rfl : w1 = (.int i1) := Option.some.inj ei1
  obtain ⟨i2, ei2⟩ := is_v gA3
  obtain rfl : w2 = (.int i2) := Option.some.inj ei2
  obtain ⟨i3, ei3⟩ := is_v gB3
  obtain rfl : w3 = (.int i3) := Option.some.inj ei3
  obtain ⟨cz, ecs⟩ := is_v (Cond.before_iff.mp (hsets _ (List.mem_of_getElem? (i := 1) rfl)))
  have hcs : ¬ (cz = (0 : Int32)) := fun q => by
    subst q
    have u := not_v (Cond.before_iff.mp (hsets _ (List.mem_of_getElem? (i := 2) rfl)))
    rw [eq_i ecs (Term.int_eval (0)) rfl] at u; cases u
  have SC := Sta.start ecs (Or.inl (hsets _ (List.mem_of_getElem? (i := 0) rfl)))
  have S12 := Sta.start (own_eqI (Cond.before_iff.mp (hsets _ (List.mem_of_getElem? (i := 12) rfl)))) (Or.inl (hsets _ (List.mem_of_getElem? (i := 11) rfl)))
  have S15 := Sta.start (own_eqI (Cond.before_iff.mp (hsets _ (List.mem_of_getElem? (i := 15) rfl)))) (Or.inl (hsets _ (List.mem_of_getElem? (i := 14) rfl)))
  have S18 := Sta.start (own_eqI (Cond.before_iff.mp (hsets _ (List.mem_of_getElem? (i := 18) rfl)))) (Or.inl (hsets _ (List.mem_of_getElem? (i := 17) rfl)))
  have HC : CHv s own_EL s.vm s.heap := CHv.start (own_EW hw) (fun q hq => by
    obtain ⟨i, hi⟩ := List.mem_iff_getElem?.mp hq
    exact hcalls.1 q (List.mem_of_getElem? (i := i) hi)) (hsets _ (List.mem_of_getElem? (i := 2) rfl)) (hw _ (List.mem_of_getElem? (i := 25) rfl)) (hw _ (List.mem_of_getElem? (i := 8) rfl))
  obtain ⟨n, o, h1, h2, h3, _, L, rfl, ⟨rfl, N⟩, -, hq⟩ := law l s _ hw tables_1 i0 i1 i2 i3 cz s.heap s.heap.size (Old.start s) SC S12 S15 S18 hcs p e ha hc hk s m _ below hf ((Spec.applies_iff_loose hf).mp happ).1 ⟨rfl, State.Warmed39.refl s, rfl, HC, fun x hx => nomatch hx⟩ trivial
  refine ⟨n, _, h1, h2, h3, hpost _ _ _ _ _ _ ⟨Cond.after_iff.mpr rfl, Cond.after_iff.mpr (eq_i res_at (Term.int_eval (1)) rfl), trivial⟩ ⟨hq.1, hq.2.1, hq.2.2.1, (hq.2.2.2.sift fun y hy => Or.inr (N y hy)).mono (by decide) (by decide)⟩⟩
theorem main_1_1 : Claimed_1_1 := comes_1 fun _ _ _ _ _ _ h hF => ⟨h.1, hF⟩
theorem main_1_2 : Claimed_1_2 := comes_1 fun _ _ _ _ _ _ h hF => ⟨h.2.1, hF⟩
end Jvm.Pilot.@@N@@
namespace Jvm.Pilot.@@N@@
open Jvm Jvm.ClassFile Sem Op Lib Jvm.Free Jvm.Stand Jvm.Pilot.@@N@@.Jvm.D
/-! MADE BY PROGRAM (witnessworld.py) out of the Statement's table words and the real class files: 20 classes; the members and pool entries that the words name. The judged class is class 1, her method 2. -/
namespace start1
open Jvm.ClassFile
def u (s : String) : CpInfo := .utf8 (stringToUtf16 s)
/-- a pool by its gaps: so many unusable entries, then the entry; so many at the end -/
def gap : Nat → List CpInfo → List CpInfo
  | 0, r => r
  | n + 1, r => .unusable :: gap n r
def poolList (es : List (Nat × CpInfo)) (last : Nat) : List CpInfo := es.foldr (fun e r => gap e.1 (e.2 :: r)) (gap last [])
def pool (es : List (Nat × CpInfo)) (last : Nat) : Array CpInfo := ⟨poolList es last⟩
def fileOf (pool : Array CpInfo) (this : Nat) (attrs : Array Attribute := #[]) (ms : Array MethodInfo := #[]) (fl : Nat := 33) (sup : Nat := 0) (ifs : Array Nat := #[]) (fds : Array FieldInfo := #[]) : ClassFile where
  minorVersion := 0
  majorVersion := 65
  constantPool := pool
  accessFlags := fl
  thisClass := this
  superClass := sup
  interfaces := ifs
  fields := fds
  methods := ms
  attributes := attrs
def plain (name : String) (sup : Option ClassId) : Class where
  name := name
  kind := .ordinary
  loader := none
  accessFlags := 33
  super := sup
  interfaces := #[]
  cf := none
  fields := #[]
  methods := #[]
  instanceTypes := #[]
  staticTypes := #[]
  resolved := #[]
  callSites := []
  init := .initialized
  statics := none
  mirror := none

def pool0 : Array CpInfo := pool [(5, u "<init>"), (0, u "()V"), (1, .class_ 10), (1, u "java/lang/Object")] 113

def k0c0 : Code := { maxStack := 0, maxLocals := 1, code := object_method_1_code, exceptionTable := #[], attributes := #[] }
def k0m0 : Method := { name := "<init>", desc := "()V", sig := { parameters := [], returnType := none }, accessFlags := 1, code := some k0c0 }
/-- java/lang/Object -/
def k0 : Class := { plain "java/lang/Object" none with
  accessFlags := 33
  interfaces := #[]
  cf := some (fileOf pool0 8 #[] #[{ accessFlags := 1, nameIndex := 5, descriptorIndex := 6, attributes := #[] }] 33 0 #[] #[])
  fields := #[]
  methods := #[k0m0]
  instanceTypes := #[]
  staticTypes := #[]
  resolved := Array.replicate 124 none
  statics := none }

def pool1 : Array CpInfo := pool [(2, .class_ 4), (1, u "java/lang/Object"), (0, u "<init>"), (0, u "()V"), (0, .methodref 8 9), (0, .class_ 10), (0, .nameAndType 11 12), (0, u "com/example/tsutsumi/tsutsumi/service/SchemaElementsIsBuiltInNamespacePinLaw"), (0, u "uriChars"), (0, u "(I)[C"), (0, .integer 2147483647), (0, .integer 65535), (0, .class_ 16), (0, u "java/lang/String"), (0, .methodref 15 18), (0, .nameAndType 5 19), (0, u "([C)V"), (0, .methodref 21 22), (0, .class_ 23), (0, .nameAndType 24 25), (0, u "com/example/tsutsumi/tsutsumi/service/SchemaElements"), (0, u "isBuiltInNamespace"), (0, u "(Ljava/lang/String;)Z"), (3, u "law"), (0, u "(IIII)Z")] 4

def k1m0 : Method := { name := "<init>", desc := "()V", sig := { parameters := [], returnType := none }, accessFlags := 2, code := none }
def k1c1 : Code := { maxStack := 4, maxLocals := 1, code := method_2_code, exceptionTable := #[], attributes := #[] }
def k1m1 : Method := { name := "uriChars", desc := "(I)[C", sig := { parameters := [.int], returnType := some (.array .char) }, accessFlags := 10, code := some k1c1 }
def k1c2 : Code := { maxStack := 3, maxLocals := 13, code := code, exceptionTable := #[], attributes := #[] }
def k1m2 : Method := { name := "law", desc := "(IIII)Z", sig := { parameters := [.int, .int, .int, .int], returnType := some .boolean }, accessFlags := 9, code := some k1c2 }
/-- com/example/tsutsumi/tsutsumi/service/SchemaElementsIsBuiltInNamespacePinLaw -/
def k1 : Class := { plain "com/example/tsutsumi/tsutsumi/service/SchemaElementsIsBuiltInNamespacePinLaw" (some 0) with
  accessFlags := 49
  interfaces := #[]
  cf := some (fileOf pool1 8 #[] #[{ accessFlags := 2, nameIndex := 5, descriptorIndex := 6, attributes := #[] }, { accessFlags := 10, nameIndex := 11, descriptorIndex := 12, attributes := #[] }, { accessFlags := 9, nameIndex := 29, descriptorIndex := 30, attributes := #[] }] 49 2 #[] #[])
  fields := #[]
  methods := #[k1m0, k1m1, k1m2]
  instanceTypes := #[]
  staticTypes := #[]
  resolved := Array.replicate 35 none
  statics := none }

def pool2 : Array CpInfo := pool [(1, .class_ 2), (0, u "java/io/Serializable"), (0, .class_ 4), (0, u "java/lang/Object")] 2

/-- java/io/Serializable -/
def k2 : Class := { plain "java/io/Serializable" (some 0) with
  accessFlags := 1537
  interfaces := #[]
  cf := some (fileOf pool2 1 #[] #[] 1537 3 #[] #[])
  fields := #[]
  methods := #[]
  instanceTypes := #[]
  staticTypes := #[]
  resolved := Array.replicate 7 none
  statics := none }

def pool3 : Array CpInfo := pool [(1, .class_ 2), (0, u "java/lang/Comparable"), (0, .class_ 4), (0, u "java/lang/Object")] 7

/-- java/lang/Comparable -/
def k3 : Class := { plain "java/lang/Comparable" (some 0) with
  accessFlags := 1537
  interfaces := #[]
  cf := some (fileOf pool3 1 #[] #[] 1537 3 #[] #[])
  fields := #[]
  methods := #[]
  instanceTypes := #[]
  staticTypes := #[]
  resolved := Array.replicate 12 none
  statics := none }

def pool4 : Array CpInfo := pool [(2, .class_ 4), (1, u "java/lang/CharSequence"), (42, .class_ 48), (0, u "java/lang/CharSequence$1CodePointIterator"), (10, .class_ 60), (0, u "java/lang/CharSequence$1CharIterator"), (5, .class_ 67), (0, u "java/lang/Object")] 63

/-- java/lang/CharSequence -/
def k4 : Class := { plain "java/lang/CharSequence" (some 0) with
  accessFlags := 1537
  interfaces := #[]
  cf := some (fileOf pool4 2 #[.nestMembers #[47, 59]] #[] 1537 66 #[] #[])
  fields := #[]
  methods := #[]
  instanceTypes := #[]
  staticTypes := #[]
  resolved := Array.replicate 131 none
  statics := none }

def pool5 : Array CpInfo := pool [(1, .class_ 2), (0, u "java/lang/constant/Constable"), (0, .class_ 4), (0, u "java/lang/Object")] 6

/-- java/lang/constant/Constable -/
def k5 : Class := { plain "java/lang/constant/Constable" (some 0) with
  accessFlags := 1537
  interfaces := #[]
  cf := some (fileOf pool5 1 #[] #[] 1537 3 #[] #[])
  fields := #[]
  methods := #[]
  instanceTypes := #[]
  staticTypes := #[]
  resolved := Array.replicate 11 none
  statics := none }

def pool6 : Array CpInfo := pool [(1, .class_ 2), (0, u "java/lang/constant/ConstantDesc"), (0, .class_ 4), (0, u "java/lang/Object")] 32

/-- java/lang/constant/ConstantDesc -/
def k6 : Class := { plain "java/lang/constant/ConstantDesc" (some 0) with
  accessFlags := 1537
  interfaces := #[]
  cf := some (fileOf pool6 1 #[] #[] 1537 3 #[] #[])
  fields := #[]
  methods := #[]
  instanceTypes := #[]
  staticTypes := #[]
  resolved := Array.replicate 37 none
  statics := none }

def pool7 : Array CpInfo := pool [(1, .methodref 2 3), (0, .class_ 4), (0, .nameAndType 5 6), (0, u "java/lang/Object"), (0, u "<init>"), (0, u "()V"), (2, .fieldref 10 11), (0, .class_ 12), (0, .nameAndType 13 14), (0, u "java/lang/String"), (0, u "value"), (0, u "[B"), (0, .fieldref 10 16), (0, .nameAndType 17 18), (0, u "coder"), (0, u "B"), (2, u "hash"), (0, u "I"), (2, u "hashIsZero"), (0, u "Z"), (0, .methodref 10 28), (0, .nameAndType 5 29), (0, u "([CIILjava/lang/Void;)V"), (8, .fieldref 10 39), (0, .nameAndType 40 26), (0, u "COMPACT_STRINGS"), (1, .class_ 44), (1, u "java/lang/StringUTF16"), (0, u "compress"), (1, .methodref 42 48), (0, .nameAndType 49 50), (0, u "coderFromArrayLen"), (0, u "([BI)B"), (56, .class_ 109), (1, u "java/lang/StringLatin1"), (67, .methodref 42 178), (0, .nameAndType 45 179), (0, u "([CII)[B"), (361, .methodref 107 542), (0, .nameAndType 543 544), (0, u "equals"), (0, u "([B[B)Z"), (28, u "(Ljava/lang/Object;)Z"), (1, .class_ 576), (0, u "java/lang/CharSequence"), (22, u "CASE_INSENSITIVE_ORDER"), (0, u "Ljava/util/Comparator;"), (409, u "([C)V"), (90, u "serialPersistentFields"), (0, u "[Ljava/io/ObjectStreamField;"), (0, .class_ 1104), (0, u "java/lang/String$CaseInsensitiveComparator"), (1, .class_ 1107), (0, u "java/io/Serializable"), (0, .class_ 1109), (0, u "java/lang/Comparable"), (0, .class_ 1111), (0, u "java/lang/constant/Constable"), (0, .class_ 1113), (0, u "java/lang/constant/ConstantDesc"), (2, u "serialVersionUID"), (0, u "J"), (3, u "REPL"), (0, u "C"), (2, u "LATIN1"), (1, u "UTF16")] 323

def k7m0 : Method := { name := "<init>", desc := "()V", sig := { parameters := [], returnType := none }, accessFlags := 1, code := none }
def k7c1 : Code := { maxStack := 5, maxLocals := 2, code := jdk_42_method_3_code, exceptionTable := #[], attributes := #[] }
def k7m1 : Method := { name := "<init>", desc := "([C)V", sig := { parameters := [(.array .char)], returnType := none }, accessFlags := 1, code := some k7c1 }
def k7c2 : Code := { maxStack := 2, maxLocals := 3, code := jdk_42_method_66_code, exceptionTable := #[], attributes := #[] }
def k7m2 : Method := { name := "equals", desc := "(Ljava/lang/Object;)Z", sig := { parameters := [(.object "java/lang/Object")], returnType := some .boolean }, accessFlags := 1, code := some k7c2 }
def k7c3 : Code := { maxStack := 4, maxLocals := 6, code := jdk_42_method_149_code, exceptionTable := #[], attributes := #[] }
def k7m3 : Method := { name := "<init>", desc := "([CIILjava/lang/Void;)V", sig := { parameters := [(.array .char), .int, .int, (.object "java/lang/Void")], returnType := none }, accessFlags := 2, code := some k7c3 }
/-- java/lang/String -/
def k7 : Class := { plain "java/lang/String" (some 0) with
  accessFlags := 49
  interfaces := #[2, 3, 4, 5, 6]
  cf := some (fileOf pool7 10 #[.nestMembers #[1103]] #[{ accessFlags := 1, nameIndex := 5, descriptorIndex := 6, attributes := #[] }, { accessFlags := 1, nameIndex := 5, descriptorIndex := 1010, attributes := #[] }, { accessFlags := 1, nameIndex := 543, descriptorIndex := 573, attributes := #[] }, { accessFlags := 2, nameIndex := 5, descriptorIndex := 29, attributes := #[] }] 49 2 #[1106, 1108, 575, 1110, 1112] #[{ accessFlags := 18, nameIndex := 13, descriptorIndex := 14, attributes := #[] }, { accessFlags := 18, nameIndex := 17, descriptorIndex := 18, attributes := #[] }, { accessFlags := 2, nameIndex := 21, descriptorIndex := 22, attributes := #[] }, { accessFlags := 2, nameIndex := 25, descriptorIndex := 26, attributes := #[] }, { accessFlags := 26, nameIndex := 1116, descriptorIndex := 1117, attributes := #[] }, { accessFlags := 24, nameIndex := 40, descriptorIndex := 26, attributes := #[] }, { accessFlags := 26, nameIndex := 1101, descriptorIndex := 1102, attributes := #[] }, { accessFlags := 26, nameIndex := 1121, descriptorIndex := 1122, attributes := #[] }, { accessFlags := 25, nameIndex := 599, descriptorIndex := 600, attributes := #[] }, { accessFlags := 24, nameIndex := 1125, descriptorIndex := 18, attributes := #[] }, { accessFlags := 24, nameIndex := 1127, descriptorIndex := 18, attributes := #[] }])
  fields := #[{ name := "value", type := (.array .byte), accessFlags := 18, slot := 0, constantValue := 0 }, { name := "coder", type := .byte, accessFlags := 18, slot := 1, constantValue := 0 }, { name := "hash", type := .int, accessFlags := 2, slot := 2, constantValue := 0 }, { name := "hashIsZero", type := .boolean, accessFlags := 2, slot := 3, constantValue := 0 }, { name := "serialVersionUID", type := .long, accessFlags := 26, slot := 0, constantValue := 0 }, { name := "COMPACT_STRINGS", type := .boolean, accessFlags := 24, slot := 1, constantValue := 0 }, { name := "serialPersistentFields", type := (.array (.object "java/io/ObjectStreamField")), accessFlags := 26, slot := 2, constantValue := 0 }, { name := "REPL", type := .char, accessFlags := 26, slot := 3, constantValue := 0 }, { name := "CASE_INSENSITIVE_ORDER", type := (.object "java/util/Comparator"), accessFlags := 25, slot := 4, constantValue := 0 }, { name := "LATIN1", type := .byte, accessFlags := 24, slot := 5, constantValue := 0 }, { name := "UTF16", type := .byte, accessFlags := 24, slot := 6, constantValue := 0 }]
  methods := #[k7m0, k7m1, k7m2, k7m3]
  instanceTypes := #[(.array .byte), .byte, .int, .boolean]
  staticTypes := #[.long, .boolean, (.array (.object "java/io/ObjectStreamField")), .char, (.object "java/util/Comparator"), .byte, .byte]
  resolved := Array.replicate 1451 none
  statics := some 0 }

def pool8 : Array CpInfo := pool [(6, .class_ 8), (1, u "java/lang/Object"), (0, u "<init>"), (0, u "()V"), (0, .methodref 12 13), (0, .class_ 14), (0, .nameAndType 15 16), (0, u "java/lang/StringUTF16"), (0, u "newBytesLength"), (0, u "(I)I"), (3, .integer 1073741823), (23, .fieldref 12 45), (0, .nameAndType 46 47), (0, u "$assertionsDisabled"), (0, u "Z"), (11, .fieldref 12 60), (0, .nameAndType 61 62), (0, u "HI_BYTE_SHIFT"), (0, u "I"), (0, .fieldref 12 64), (0, .nameAndType 65 62), (0, u "LO_BYTE_SHIFT"), (5, .methodref 12 72), (0, .nameAndType 73 74), (0, u "getChar"), (0, u "([BI)C"), (32, .methodref 12 108), (0, .nameAndType 109 110), (0, u "newBytesFor"), (0, u "(I)[B"), (0, .methodref 12 112), (0, .nameAndType 113 114), (0, u "putChar"), (0, u "([BII)V"), (0, .methodref 12 116), (0, .nameAndType 117 118), (0, u "compress"), (0, u "([CI[BII)I"), (0, .methodref 12 120), (0, .nameAndType 121 122), (0, u "toBytes"), (0, u "([CII)[B"), (138, u "coderFromArrayLen"), (0, u "([BI)B"), (106, .class_ 371), (1, u "java/lang/StringUTF16$LinesSpliterator"), (58, u "MAX_LENGTH"), (196, .class_ 628), (0, u "java/lang/StringUTF16$CodePointsSpliterator"), (0, .class_ 630), (0, u "java/lang/StringUTF16$CharsSpliterator")] 4

def k8m0 : Method := { name := "<init>", desc := "()V", sig := { parameters := [], returnType := none }, accessFlags := 0, code := none }
def k8c1 : Code := { maxStack := 1, maxLocals := 1, code := jdk_52_method_2_code, exceptionTable := #[], attributes := #[] }
def k8m1 : Method := { name := "newBytesFor", desc := "(I)[B", sig := { parameters := [.int], returnType := some (.array .byte) }, accessFlags := 9, code := some k8c1 }
def k8c2 : Code := { maxStack := 4, maxLocals := 1, code := jdk_52_method_3_code, exceptionTable := #[], attributes := #[] }
def k8m2 : Method := { name := "newBytesLength", desc := "(I)I", sig := { parameters := [.int], returnType := some .int }, accessFlags := 9, code := some k8c2 }
def k8c3 : Code := { maxStack := 4, maxLocals := 3, code := jdk_52_method_4_code, exceptionTable := #[], attributes := #[] }
def k8m3 : Method := { name := "putChar", desc := "([BII)V", sig := { parameters := [(.array .byte), .int, .int], returnType := none }, accessFlags := 8, code := some k8c3 }
def k8c4 : Code := { maxStack := 3, maxLocals := 2, code := jdk_52_method_5_code, exceptionTable := #[], attributes := #[] }
def k8m4 : Method := { name := "getChar", desc := "([BI)C", sig := { parameters := [(.array .byte), .int], returnType := some .char }, accessFlags := 8, code := some k8c4 }
def k8c5 : Code := { maxStack := 4, maxLocals := 5, code := jdk_52_method_14_code, exceptionTable := #[], attributes := #[] }
def k8m5 : Method := { name := "toBytes", desc := "([CII)[B", sig := { parameters := [(.array .char), .int, .int], returnType := some (.array .byte) }, accessFlags := 9, code := some k8c5 }
def k8c6 : Code := { maxStack := 2, maxLocals := 2, code := jdk_52_method_15_code, exceptionTable := #[], attributes := #[] }
def k8m6 : Method := { name := "coderFromArrayLen", desc := "([BI)B", sig := { parameters := [(.array .byte), .int], returnType := some .byte }, accessFlags := 8, code := some k8c6 }
def k8c7 : Code := { maxStack := 5, maxLocals := 6, code := jdk_52_method_16_code, exceptionTable := #[], attributes := #[] }
def k8m7 : Method := { name := "compress", desc := "([CII)[B", sig := { parameters := [(.array .char), .int, .int], returnType := some (.array .byte) }, accessFlags := 9, code := some k8c7 }
def k8c8 : Code := { maxStack := 3, maxLocals := 7, code := jdk_52_method_21_code, exceptionTable := #[], attributes := #[] }
def k8m8 : Method := { name := "compress", desc := "([CI[BII)I", sig := { parameters := [(.array .char), .int, (.array .byte), .int, .int], returnType := some .int }, accessFlags := 9, code := some k8c8 }
/-- java/lang/StringUTF16 -/
def k8 : Class := { plain "java/lang/StringUTF16" (some 0) with
  accessFlags := 48
  interfaces := #[]
  cf := some (fileOf pool8 12 #[.nestMembers #[627, 629, 369]] #[{ accessFlags := 0, nameIndex := 9, descriptorIndex := 10, attributes := #[] }, { accessFlags := 9, nameIndex := 109, descriptorIndex := 110, attributes := #[] }, { accessFlags := 9, nameIndex := 15, descriptorIndex := 16, attributes := #[] }, { accessFlags := 8, nameIndex := 113, descriptorIndex := 114, attributes := #[] }, { accessFlags := 8, nameIndex := 73, descriptorIndex := 74, attributes := #[] }, { accessFlags := 9, nameIndex := 121, descriptorIndex := 122, attributes := #[] }, { accessFlags := 8, nameIndex := 261, descriptorIndex := 262, attributes := #[] }, { accessFlags := 9, nameIndex := 117, descriptorIndex := 122, attributes := #[] }, { accessFlags := 9, nameIndex := 117, descriptorIndex := 118, attributes := #[] }] 48 6 #[] #[{ accessFlags := 26, nameIndex := 61, descriptorIndex := 62, attributes := #[] }, { accessFlags := 26, nameIndex := 65, descriptorIndex := 62, attributes := #[] }, { accessFlags := 24, nameIndex := 430, descriptorIndex := 62, attributes := #[] }, { accessFlags := 4120, nameIndex := 46, descriptorIndex := 47, attributes := #[] }])
  fields := #[{ name := "HI_BYTE_SHIFT", type := .int, accessFlags := 26, slot := 0, constantValue := 0 }, { name := "LO_BYTE_SHIFT", type := .int, accessFlags := 26, slot := 1, constantValue := 0 }, { name := "MAX_LENGTH", type := .int, accessFlags := 24, slot := 2, constantValue := 0 }, { name := "$assertionsDisabled", type := .boolean, accessFlags := 4120, slot := 3, constantValue := 0 }]
  methods := #[k8m0, k8m1, k8m2, k8m3, k8m4, k8m5, k8m6, k8m7, k8m8]
  instanceTypes := #[]
  staticTypes := #[.int, .int, .int, .boolean]
  resolved := Array.replicate 635 none
  statics := some 1 }

def pool9 : Array CpInfo := pool [(2, .class_ 4), (1, u "java/lang/Object"), (0, u "<init>"), (0, u "()V"), (3, .class_ 12), (1, u "com/example/tsutsumi/tsutsumi/service/SchemaElements"), (2, .methodref 16 17), (0, .class_ 18), (0, .nameAndType 19 20), (0, u "java/lang/String"), (0, u "equals"), (0, u "(Ljava/lang/Object;)Z"), (14, .string 36), (0, u "http://www.w3.org/2001/XMLSchema"), (31, .string 69), (0, u "http://www.w3.org/2000/10/XMLSchema"), (0, .string 71), (0, u "http://www.w3.org/1999/XMLSchema"), (0, .string 73), (0, u "http://schemas.xmlsoap.org/soap/encoding/"), (7, u "isBuiltInNamespace"), (0, u "(Ljava/lang/String;)Z")] 2

def k9m0 : Method := { name := "<init>", desc := "()V", sig := { parameters := [], returnType := none }, accessFlags := 2, code := none }
def k9c1 : Code := { maxStack := 2, maxLocals := 1, code := prog_109_method_5_code, exceptionTable := #[], attributes := #[] }
def k9m1 : Method := { name := "isBuiltInNamespace", desc := "(Ljava/lang/String;)Z", sig := { parameters := [(.object "java/lang/String")], returnType := some .boolean }, accessFlags := 8, code := some k9c1 }
/-- com/example/tsutsumi/tsutsumi/service/SchemaElements -/
def k9 : Class := { plain "com/example/tsutsumi/tsutsumi/service/SchemaElements" (some 0) with
  accessFlags := 48
  interfaces := #[]
  cf := some (fileOf pool9 10 #[] #[{ accessFlags := 2, nameIndex := 5, descriptorIndex := 6, attributes := #[] }, { accessFlags := 8, nameIndex := 81, descriptorIndex := 82, attributes := #[] }] 48 2 #[] #[])
  fields := #[]
  methods := #[k9m0, k9m1]
  instanceTypes := #[]
  staticTypes := #[]
  resolved := Array.replicate 85 none
  statics := none }

def pool10 : Array CpInfo := pool [(4, .class_ 6), (1, u "java/lang/Object"), (0, u "<init>"), (0, u "()V"), (5, .class_ 16), (1, u "java/lang/StringLatin1"), (104, u "$assertionsDisabled"), (0, u "Z"), (98, .class_ 223), (1, u "java/lang/StringLatin1$LinesSpliterator"), (57, u "equals"), (0, u "([B[B)Z"), (107, .class_ 391), (0, u "java/lang/StringLatin1$CharsSpliterator")] 3

def k10m0 : Method := { name := "<init>", desc := "()V", sig := { parameters := [], returnType := none }, accessFlags := 0, code := none }
def k10c1 : Code := { maxStack := 3, maxLocals := 3, code := jdk_43_method_13_code, exceptionTable := #[], attributes := #[] }
def k10m1 : Method := { name := "equals", desc := "([B[B)Z", sig := { parameters := [(.array .byte), (.array .byte)], returnType := some .boolean }, accessFlags := 9, code := some k10c1 }
/-- java/lang/StringLatin1 -/
def k10 : Class := { plain "java/lang/StringLatin1" (some 0) with
  accessFlags := 48
  interfaces := #[]
  cf := some (fileOf pool10 14 #[.nestMembers #[390, 221]] #[{ accessFlags := 0, nameIndex := 7, descriptorIndex := 8, attributes := #[] }, { accessFlags := 9, nameIndex := 281, descriptorIndex := 282, attributes := #[] }] 48 4 #[] #[{ accessFlags := 4120, nameIndex := 121, descriptorIndex := 122, attributes := #[] }])
  fields := #[{ name := "$assertionsDisabled", type := .boolean, accessFlags := 4120, slot := 0, constantValue := 0 }]
  methods := #[k10m0, k10m1]
  instanceTypes := #[]
  staticTypes := #[.boolean]
  resolved := Array.replicate 395 none
  statics := none }

def pool11 : Array CpInfo := pool [(2, .class_ 4), (1, u "java/lang/Object"), (0, u "<init>"), (0, u "()V"), (17, .class_ 26), (1, u "jdk/internal/util/Preconditions"), (28, .class_ 56), (0, u "jdk/internal/util/Preconditions$4"), (57, .class_ 115), (0, u "jdk/internal/util/Preconditions$1"), (7, u "SIOOBE_FORMATTER"), (0, u "Ljava/util/function/BiFunction;"), (0, .class_ 126), (0, u "jdk/internal/util/Preconditions$2"), (3, u "AIOOBE_FORMATTER"), (0, .class_ 132), (0, u "jdk/internal/util/Preconditions$3"), (3, u "IOOBE_FORMATTER")] 57

def k11m0 : Method := { name := "<init>", desc := "()V", sig := { parameters := [], returnType := none }, accessFlags := 1, code := none }
/-- jdk/internal/util/Preconditions -/
def k11 : Class := { plain "jdk/internal/util/Preconditions" (some 0) with
  accessFlags := 33
  interfaces := #[]
  cf := some (fileOf pool11 24 #[.nestMembers #[55, 131, 125, 114]] #[{ accessFlags := 1, nameIndex := 5, descriptorIndex := 6, attributes := #[] }] 33 2 #[] #[{ accessFlags := 25, nameIndex := 123, descriptorIndex := 124, attributes := #[] }, { accessFlags := 25, nameIndex := 130, descriptorIndex := 124, attributes := #[] }, { accessFlags := 25, nameIndex := 136, descriptorIndex := 124, attributes := #[] }])
  fields := #[{ name := "SIOOBE_FORMATTER", type := (.object "java/util/function/BiFunction"), accessFlags := 25, slot := 0, constantValue := 0 }, { name := "AIOOBE_FORMATTER", type := (.object "java/util/function/BiFunction"), accessFlags := 25, slot := 1, constantValue := 0 }, { name := "IOOBE_FORMATTER", type := (.object "java/util/function/BiFunction"), accessFlags := 25, slot := 2, constantValue := 0 }]
  methods := #[k11m0]
  instanceTypes := #[]
  staticTypes := #[(.object "java/util/function/BiFunction"), (.object "java/util/function/BiFunction"), (.object "java/util/function/BiFunction")]
  resolved := Array.replicate 194 none
  statics := some 2 }

def pool12 : Array CpInfo := pool [(9, u "<init>"), (6, .class_ 18), (1, u "java/lang/Object"), (0, u "()V"), (1, .class_ 23), (1, u "jdk/internal/util/ArraysSupport"), (0, u "LOG2_ARRAY_LONG_INDEX_SCALE"), (0, u "I"), (2, u "U"), (0, u "Ljdk/internal/misc/Unsafe;"), (8, u "BIG_ENDIAN"), (0, u "Z"), (8, u "LOG2_BYTE_BIT_SIZE"), (4, u "LOG2_ARRAY_INT_INDEX_SCALE"), (54, u "JLA"), (0, u "Ljdk/internal/access/JavaLangAccess;"), (11, u "LOG2_ARRAY_BOOLEAN_INDEX_SCALE"), (9, u "LOG2_ARRAY_BYTE_INDEX_SCALE"), (5, u "LOG2_ARRAY_CHAR_INDEX_SCALE"), (5, u "LOG2_ARRAY_SHORT_INDEX_SCALE"), (18, u "LOG2_ARRAY_FLOAT_INDEX_SCALE"), (24, u "LOG2_ARRAY_DOUBLE_INDEX_SCALE"), (89, u "T_BOOLEAN"), (2, u "T_CHAR"), (1, u "T_FLOAT"), (1, u "T_DOUBLE"), (1, u "T_BYTE"), (1, u "T_SHORT"), (1, u "T_INT"), (1, u "T_LONG"), (1, u "SOFT_MAX_ARRAY_LENGTH")] 83

def k12m0 : Method := { name := "<init>", desc := "()V", sig := { parameters := [], returnType := none }, accessFlags := 2, code := none }
/-- jdk/internal/util/ArraysSupport -/
def k12 : Class := { plain "jdk/internal/util/ArraysSupport" (some 0) with
  accessFlags := 33
  interfaces := #[]
  cf := some (fileOf pool12 21 #[] #[{ accessFlags := 2, nameIndex := 9, descriptorIndex := 19, attributes := #[] }] 33 16 #[] #[{ accessFlags := 24, nameIndex := 28, descriptorIndex := 29, attributes := #[] }, { accessFlags := 26, nameIndex := 38, descriptorIndex := 39, attributes := #[] }, { accessFlags := 25, nameIndex := 121, descriptorIndex := 25, attributes := #[] }, { accessFlags := 25, nameIndex := 131, descriptorIndex := 25, attributes := #[] }, { accessFlags := 25, nameIndex := 137, descriptorIndex := 25, attributes := #[] }, { accessFlags := 25, nameIndex := 143, descriptorIndex := 25, attributes := #[] }, { accessFlags := 25, nameIndex := 53, descriptorIndex := 25, attributes := #[] }, { accessFlags := 25, nameIndex := 24, descriptorIndex := 25, attributes := #[] }, { accessFlags := 25, nameIndex := 162, descriptorIndex := 25, attributes := #[] }, { accessFlags := 25, nameIndex := 187, descriptorIndex := 25, attributes := #[] }, { accessFlags := 26, nameIndex := 48, descriptorIndex := 25, attributes := #[] }, { accessFlags := 25, nameIndex := 277, descriptorIndex := 25, attributes := #[] }, { accessFlags := 25, nameIndex := 280, descriptorIndex := 25, attributes := #[] }, { accessFlags := 25, nameIndex := 282, descriptorIndex := 25, attributes := #[] }, { accessFlags := 25, nameIndex := 284, descriptorIndex := 25, attributes := #[] }, { accessFlags := 25, nameIndex := 286, descriptorIndex := 25, attributes := #[] }, { accessFlags := 25, nameIndex := 288, descriptorIndex := 25, attributes := #[] }, { accessFlags := 25, nameIndex := 290, descriptorIndex := 25, attributes := #[] }, { accessFlags := 25, nameIndex := 292, descriptorIndex := 25, attributes := #[] }, { accessFlags := 26, nameIndex := 108, descriptorIndex := 109, attributes := #[] }, { accessFlags := 25, nameIndex := 294, descriptorIndex := 25, attributes := #[] }])
  fields := #[{ name := "U", type := (.object "jdk/internal/misc/Unsafe"), accessFlags := 24, slot := 0, constantValue := 0 }, { name := "BIG_ENDIAN", type := .boolean, accessFlags := 26, slot := 1, constantValue := 0 }, { name := "LOG2_ARRAY_BOOLEAN_INDEX_SCALE", type := .int, accessFlags := 25, slot := 2, constantValue := 0 }, { name := "LOG2_ARRAY_BYTE_INDEX_SCALE", type := .int, accessFlags := 25, slot := 3, constantValue := 0 }, { name := "LOG2_ARRAY_CHAR_INDEX_SCALE", type := .int, accessFlags := 25, slot := 4, constantValue := 0 }, { name := "LOG2_ARRAY_SHORT_INDEX_SCALE", type := .int, accessFlags := 25, slot := 5, constantValue := 0 }, { name := "LOG2_ARRAY_INT_INDEX_SCALE", type := .int, accessFlags := 25, slot := 6, constantValue := 0 }, { name := "LOG2_ARRAY_LONG_INDEX_SCALE", type := .int, accessFlags := 25, slot := 7, constantValue := 0 }, { name := "LOG2_ARRAY_FLOAT_INDEX_SCALE", type := .int, accessFlags := 25, slot := 8, constantValue := 0 }, { name := "LOG2_ARRAY_DOUBLE_INDEX_SCALE", type := .int, accessFlags := 25, slot := 9, constantValue := 0 }, { name := "LOG2_BYTE_BIT_SIZE", type := .int, accessFlags := 26, slot := 10, constantValue := 0 }, { name := "T_BOOLEAN", type := .int, accessFlags := 25, slot := 11, constantValue := 0 }, { name := "T_CHAR", type := .int, accessFlags := 25, slot := 12, constantValue := 0 }, { name := "T_FLOAT", type := .int, accessFlags := 25, slot := 13, constantValue := 0 }, { name := "T_DOUBLE", type := .int, accessFlags := 25, slot := 14, constantValue := 0 }, { name := "T_BYTE", type := .int, accessFlags := 25, slot := 15, constantValue := 0 }, { name := "T_SHORT", type := .int, accessFlags := 25, slot := 16, constantValue := 0 }, { name := "T_INT", type := .int, accessFlags := 25, slot := 17, constantValue := 0 }, { name := "T_LONG", type := .int, accessFlags := 25, slot := 18, constantValue := 0 }, { name := "JLA", type := (.object "jdk/internal/access/JavaLangAccess"), accessFlags := 26, slot := 19, constantValue := 0 }, { name := "SOFT_MAX_ARRAY_LENGTH", type := .int, accessFlags := 25, slot := 20, constantValue := 0 }]
  methods := #[k12m0]
  instanceTypes := #[]
  staticTypes := #[(.object "jdk/internal/misc/Unsafe"), .boolean, .int, .int, .int, .int, .int, .int, .int, .int, .int, .int, .int, .int, .int, .int, .int, .int, .int, (.object "jdk/internal/access/JavaLangAccess"), .int]
  resolved := Array.replicate 378 none
  statics := none }

def pool13 : Array CpInfo := pool [(1, u "java/lang/Cloneable"), (0, .class_ 1), (0, u "java/lang/Object"), (0, .class_ 3)] 3

/-- java/lang/Cloneable -/
def k13 : Class := { plain "java/lang/Cloneable" (some 0) with
  accessFlags := 1537
  interfaces := #[]
  cf := some (fileOf pool13 2 #[] #[] 1537 4 #[] #[])
  fields := #[]
  methods := #[]
  instanceTypes := #[]
  staticTypes := #[]
  resolved := Array.replicate 8 none
  statics := none }

/-- the primitive byte -/
def k14 : Class := { plain "byte" none with kind := .primitive 'B', accessFlags := 0x411 }
/-- [B -/
def k15 : Class := { plain "[B" (some 0) with kind := .array 14 .byte, interfaces := #[13, 2], accessFlags := 1041 }

/-- the primitive char -/
def k16 : Class := { plain "char" none with kind := .primitive 'C', accessFlags := 0x411 }
/-- [C -/
def k17 : Class := { plain "[C" (some 0) with kind := .array 16 .char, interfaces := #[13, 2], accessFlags := 1041 }

/-- the primitive int -/
def k18 : Class := { plain "int" none with kind := .primitive 'I', accessFlags := 0x411 }
/-- [I -/
def k19 : Class := { plain "[I" (some 0) with kind := .array 18 .int, interfaces := #[13, 2], accessFlags := 1041 }

def heap : Heap := #[{ cls := 7, slots := #[.long 0, .int 1, .null, .int 0, .null, .int 0, .int 0], vm := .statics 7 },
  { cls := 8, slots := #[.int 0, .int 8, .int 0, .int 1], vm := .statics 8 },
  { cls := 11, slots := #[.null, .null, .null], vm := .statics 11 }]
def classes : Array Class := #[k0, k1, k2, k3, k4, k5, k6, k7, k8, k9, k10, k11, k12, k13, k14, k15, k16, k17, k18, k19]
def interned : List (Array UInt16 × Addr) := []
def slotsUsed : Nat := 14
def theMethod : MethodId := ⟨1, 2⟩
def args0 : Array Value := #[.int 3, .int 3, .int 3, .int 3]
def aboutOver (below : List Frame) : State where
  vm := { classes := classes, interned := interned.toArray }
  heap := heap
  slotsUsed := slotsUsed
  threads := #[{ frames := .invoking theMethod args0 :: below }]
def below0 : List Frame := [.native { method := ⟨0, 0⟩, args := #[] }]
def about1 : State := aboutOver below0
def p0 : Program := .bare "" "" ""
def e0 : Env := launch0.env 0 0 0
theorem w_frames : about1.frames = Frame.invoking theMethod args0 :: below0 := rfl
set_option maxRecDepth 65536 in
theorem w_args : argsFit about1.vm theMethod args0 = true := by decide +kernel
set_option maxRecDepth 65536 in
theorem w_heap : heapFits about1 = true := by decide +kernel
set_option maxRecDepth 65536 in
theorem w_runnable : about1.curStatus? = some .runnable := by decide +kernel
set_option maxRecDepth 65536 in
theorem w_alone : about1.alone = true := by decide +kernel
set_option maxRecDepth 65536 in
theorem w_named : about1.methodNamed? x = some theMethod := by decide +kernel
set_option maxRecDepth 65536 in
theorem w_hears : about1.hears theMethod below0 = true := by decide +kernel
set_option maxRecDepth 65536 in
theorem w_ripe : about1.ripe theMethod args0 below0 = true := by decide +kernel
theorem w_running : about1.status = .running := rfl
set_option maxRecDepth 65536 in
theorem w_room : about1.hasRoom e0.platform room_1 = true :=
  launch0.hasRoom_least _ room_1 (by decide +kernel) (by decide +kernel) (by decide +kernel) (by decide +kernel) (by decide +kernel) (by decide +kernel)
theorem allAtoms_all (ts : List Jvm.Cond) (a : Array Jvm.Value) (st : Jvm.State) : (allAtoms ts).before a st = ts.all (fun c => c.before a st) := by
  induction ts with
  | nil => rfl
  | cons c t ih =>
    show (Jvm.Cond.and c (allAtoms t)).before a st = _
    rw [Jvm.Cond.before_and, ih, List.all_cons]
def words1 : List Jvm.Cond := Jvm.Cond.code x code maxLocals ret :: tables_1
/-- a 'code' word, met by the world's own term for the bytes: nothing is compared byte by byte -/
theorem code_word {y : MethodName} {bytes : ByteArray} {mx : Nat} {rt : Option FieldType} {a : Array Value} {s : State} {m : MethodId} {meth : Method} {c : Code} (h1 : s.methodNamed? y = some m) (h2 : s.vm.method? m = some meth) (h3 : meth.code = some c) (h4 : c.code = bytes)
    (h5 : (c.maxLocals == mx && c.exceptionTable.isEmpty && decide (c.maxStack ≤ mostOperands) && decide (meth.sig.returnType = rt) && !meth.locks && decide (parseMethodDescriptor y.desc = some meth.sig)) = true) : (Jvm.Cond.code y bytes mx rt).before a s = true := by
  simp only [Bool.and_eq_true, beq_iff_eq, Bool.not_eq_true', decide_eq_true_eq] at h5
  obtain ⟨⟨⟨⟨⟨g1, g2⟩, g3⟩, g4⟩, g5⟩, g6⟩ := h5
  simp [Cond.before, Cond.holds, Cond.value, h1, h2, h3, h4, g1, g2, g3, g4, g5, g6]
def isCode : Jvm.Cond → Bool
  | .code _ _ _ _ => true
  | _ => false
theorem all_split {L : List Jvm.Cond} {P : Jvm.Cond → Bool} (h1 : L.all (fun c => isCode c || P c) = true) (h2 : ∀ c ∈ L.filter isCode, P c = true) : L.all P = true := by
  refine List.all_eq_true.mpr fun c hc => ?_
  have h := List.all_eq_true.mp h1 c hc
  rcases Bool.eq_false_or_eq_true (isCode c) with hi | hi
  · exact h2 c (List.mem_filter.mpr ⟨hc, hi⟩)
  · simpa [hi] using h
set_option maxRecDepth 65536 in
theorem w_c0 : (Jvm.Cond.code x code maxLocals ret).before args0 about1 = true := code_word (m := ⟨1, 2⟩) (meth := k1m2) (c := k1c2) (by decide +kernel) rfl rfl rfl (by decide +kernel)
set_option maxRecDepth 65536 in
theorem w_c1 : (Jvm.Cond.code ({ cls := "com/example/tsutsumi/tsutsumi/service/SchemaElementsIsBuiltInNamespacePinLaw", name := "uriChars", desc := "(I)[C" } : Jvm.MethodName) method_2_code (1 : Nat) (Option.some (Jvm.ClassFile.FieldType.array Jvm.ClassFile.FieldType.char))).before args0 about1 = true := code_word (m := ⟨1, 1⟩) (meth := k1m1) (c := k1c1) (by decide +kernel) rfl rfl rfl (by decide +kernel)
set_option maxRecDepth 65536 in
theorem w_c2 : (Jvm.Cond.code ({ cls := "java/lang/String", name := "<init>", desc := "([C)V" } : Jvm.MethodName) jdk_42_method_3_code (2 : Nat) (Option.none : Option Jvm.ClassFile.FieldType)).before args0 about1 = true := code_word (m := ⟨7, 1⟩) (meth := k7m1) (c := k7c1) (by decide +kernel) rfl rfl rfl (by decide +kernel)
set_option maxRecDepth 65536 in
theorem w_c3 : (Jvm.Cond.code ({ cls := "java/lang/String", name := "<init>", desc := "([CIILjava/lang/Void;)V" } : Jvm.MethodName) jdk_42_method_149_code (6 : Nat) (Option.none : Option Jvm.ClassFile.FieldType)).before args0 about1 = true := code_word (m := ⟨7, 3⟩) (meth := k7m3) (c := k7c3) (by decide +kernel) rfl rfl rfl (by decide +kernel)
set_option maxRecDepth 65536 in
theorem w_c4 : (Jvm.Cond.code ({ cls := "java/lang/Object", name := "<init>", desc := "()V" } : Jvm.MethodName) object_method_1_code (1 : Nat) (Option.none : Option Jvm.ClassFile.FieldType)).before args0 about1 = true := code_word (m := ⟨0, 0⟩) (meth := k0m0) (c := k0c0) (by decide +kernel) rfl rfl rfl (by decide +kernel)
set_option maxRecDepth 65536 in
theorem w_c5 : (Jvm.Cond.code ({ cls := "java/lang/StringUTF16", name := "compress", desc := "([CII)[B" } : Jvm.MethodName) jdk_52_method_16_code (6 : Nat) (Option.some (Jvm.ClassFile.FieldType.array Jvm.ClassFile.FieldType.byte))).before args0 about1 = true := code_word (m := ⟨8, 7⟩) (meth := k8m7) (c := k8c7) (by decide +kernel) rfl rfl rfl (by decide +kernel)
set_option maxRecDepth 65536 in
theorem w_c6 : (Jvm.Cond.code ({ cls := "java/lang/StringUTF16", name := "compress", desc := "([CI[BII)I" } : Jvm.MethodName) jdk_52_method_21_code (7 : Nat) (Option.some Jvm.ClassFile.FieldType.int)).before args0 about1 = true := code_word (m := ⟨8, 8⟩) (meth := k8m8) (c := k8c8) (by decide +kernel) rfl rfl rfl (by decide +kernel)
set_option maxRecDepth 65536 in
theorem w_c7 : (Jvm.Cond.code ({ cls := "java/lang/StringUTF16", name := "coderFromArrayLen", desc := "([BI)B" } : Jvm.MethodName) jdk_52_method_15_code (2 : Nat) (Option.some Jvm.ClassFile.FieldType.byte)).before args0 about1 = true := code_word (m := ⟨8, 6⟩) (meth := k8m6) (c := k8c6) (by decide +kernel) rfl rfl rfl (by decide +kernel)
set_option maxRecDepth 65536 in
theorem w_c8 : (Jvm.Cond.code ({ cls := "com/example/tsutsumi/tsutsumi/service/SchemaElements", name := "isBuiltInNamespace", desc := "(Ljava/lang/String;)Z" } : Jvm.MethodName) prog_109_method_5_code (1 : Nat) (Option.some Jvm.ClassFile.FieldType.boolean)).before args0 about1 = true := code_word (m := ⟨9, 1⟩) (meth := k9m1) (c := k9c1) (by decide +kernel) rfl rfl rfl (by decide +kernel)
set_option maxRecDepth 65536 in
theorem w_c9 : (Jvm.Cond.code ({ cls := "java/lang/String", name := "equals", desc := "(Ljava/lang/Object;)Z" } : Jvm.MethodName) jdk_42_method_66_code (3 : Nat) (Option.some Jvm.ClassFile.FieldType.boolean)).before args0 about1 = true := code_word (m := ⟨7, 2⟩) (meth := k7m2) (c := k7c2) (by decide +kernel) rfl rfl rfl (by decide +kernel)
set_option maxRecDepth 65536 in
theorem w_c10 : (Jvm.Cond.code ({ cls := "java/lang/StringLatin1", name := "equals", desc := "([B[B)Z" } : Jvm.MethodName) jdk_43_method_13_code (3 : Nat) (Option.some Jvm.ClassFile.FieldType.boolean)).before args0 about1 = true := code_word (m := ⟨10, 1⟩) (meth := k10m1) (c := k10c1) (by decide +kernel) rfl rfl rfl (by decide +kernel)
set_option maxRecDepth 65536 in
theorem w_c11 : (Jvm.Cond.code ({ cls := "java/lang/StringUTF16", name := "toBytes", desc := "([CII)[B" } : Jvm.MethodName) jdk_52_method_14_code (5 : Nat) (Option.some (Jvm.ClassFile.FieldType.array Jvm.ClassFile.FieldType.byte))).before args0 about1 = true := code_word (m := ⟨8, 5⟩) (meth := k8m5) (c := k8c5) (by decide +kernel) rfl rfl rfl (by decide +kernel)
set_option maxRecDepth 65536 in
theorem w_c12 : (Jvm.Cond.code ({ cls := "java/lang/StringUTF16", name := "newBytesFor", desc := "(I)[B" } : Jvm.MethodName) jdk_52_method_2_code (1 : Nat) (Option.some (Jvm.ClassFile.FieldType.array Jvm.ClassFile.FieldType.byte))).before args0 about1 = true := code_word (m := ⟨8, 1⟩) (meth := k8m1) (c := k8c1) (by decide +kernel) rfl rfl rfl (by decide +kernel)
set_option maxRecDepth 65536 in
theorem w_c13 : (Jvm.Cond.code ({ cls := "java/lang/StringUTF16", name := "newBytesLength", desc := "(I)I" } : Jvm.MethodName) jdk_52_method_3_code (1 : Nat) (Option.some Jvm.ClassFile.FieldType.int)).before args0 about1 = true := code_word (m := ⟨8, 2⟩) (meth := k8m2) (c := k8c2) (by decide +kernel) rfl rfl rfl (by decide +kernel)
set_option maxRecDepth 65536 in
theorem w_c14 : (Jvm.Cond.code ({ cls := "java/lang/StringUTF16", name := "putChar", desc := "([BII)V" } : Jvm.MethodName) jdk_52_method_4_code (3 : Nat) (Option.none : Option Jvm.ClassFile.FieldType)).before args0 about1 = true := code_word (m := ⟨8, 3⟩) (meth := k8m3) (c := k8c3) (by decide +kernel) rfl rfl rfl (by decide +kernel)
set_option maxRecDepth 65536 in
theorem w_c15 : (Jvm.Cond.code ({ cls := "java/lang/StringUTF16", name := "getChar", desc := "([BI)C" } : Jvm.MethodName) jdk_52_method_5_code (2 : Nat) (Option.some Jvm.ClassFile.FieldType.char)).before args0 about1 = true := code_word (m := ⟨8, 4⟩) (meth := k8m4) (c := k8c4) (by decide +kernel) rfl rfl rfl (by decide +kernel)
def codes1 : List Jvm.Cond := [Jvm.Cond.code x code maxLocals ret, Jvm.Cond.code ({ cls := "com/example/tsutsumi/tsutsumi/service/SchemaElementsIsBuiltInNamespacePinLaw", name := "uriChars", desc := "(I)[C" } : Jvm.MethodName) method_2_code (1 : Nat) (Option.some (Jvm.ClassFile.FieldType.array Jvm.ClassFile.FieldType.char)), Jvm.Cond.code ({ cls := "java/lang/String", name := "<init>", desc := "([C)V" } : Jvm.MethodName) jdk_42_method_3_code (2 : Nat) (Option.none : Option Jvm.ClassFile.FieldType), Jvm.Cond.code ({ cls := "java/lang/String", name := "<init>", desc := "([CIILjava/lang/Void;)V" } : Jvm.MethodName) jdk_42_method_149_code (6 : Nat) (Option.none : Option Jvm.ClassFile.FieldType), Jvm.Cond.code ({ cls := "java/lang/Object", name := "<init>", desc := "()V" } : Jvm.MethodName) object_method_1_code (1 : Nat) (Option.none : Option Jvm.ClassFile.FieldType), Jvm.Cond.code ({ cls := "java/lang/StringUTF16", name := "compress", desc := "([CII)[B" } : Jvm.MethodName) jdk_52_method_16_code (6 : Nat) (Option.some (Jvm.ClassFile.FieldType.array Jvm.ClassFile.FieldType.byte)), Jvm.Cond.code ({ cls := "java/lang/StringUTF16", name := "compress", desc := "([CI[BII)I" } : Jvm.MethodName) jdk_52_method_21_code (7 : Nat) (Option.some Jvm.ClassFile.FieldType.int), Jvm.Cond.code ({ cls := "java/lang/StringUTF16", name := "coderFromArrayLen", desc := "([BI)B" } : Jvm.MethodName) jdk_52_method_15_code (2 : Nat) (Option.some Jvm.ClassFile.FieldType.byte), Jvm.Cond.code ({ cls := "com/example/tsutsumi/tsutsumi/service/SchemaElements", name := "isBuiltInNamespace", desc := "(Ljava/lang/String;)Z" } : Jvm.MethodName) prog_109_method_5_code (1 : Nat) (Option.some Jvm.ClassFile.FieldType.boolean), Jvm.Cond.code ({ cls := "java/lang/String", name := "equals", desc := "(Ljava/lang/Object;)Z" } : Jvm.MethodName) jdk_42_method_66_code (3 : Nat) (Option.some Jvm.ClassFile.FieldType.boolean), Jvm.Cond.code ({ cls := "java/lang/StringLatin1", name := "equals", desc := "([B[B)Z" } : Jvm.MethodName) jdk_43_method_13_code (3 : Nat) (Option.some Jvm.ClassFile.FieldType.boolean), Jvm.Cond.code ({ cls := "java/lang/StringUTF16", name := "toBytes", desc := "([CII)[B" } : Jvm.MethodName) jdk_52_method_14_code (5 : Nat) (Option.some (Jvm.ClassFile.FieldType.array Jvm.ClassFile.FieldType.byte)), Jvm.Cond.code ({ cls := "java/lang/StringUTF16", name := "newBytesFor", desc := "(I)[B" } : Jvm.MethodName) jdk_52_method_2_code (1 : Nat) (Option.some (Jvm.ClassFile.FieldType.array Jvm.ClassFile.FieldType.byte)), Jvm.Cond.code ({ cls := "java/lang/StringUTF16", name := "newBytesLength", desc := "(I)I" } : Jvm.MethodName) jdk_52_method_3_code (1 : Nat) (Option.some Jvm.ClassFile.FieldType.int), Jvm.Cond.code ({ cls := "java/lang/StringUTF16", name := "putChar", desc := "([BII)V" } : Jvm.MethodName) jdk_52_method_4_code (3 : Nat) (Option.none : Option Jvm.ClassFile.FieldType), Jvm.Cond.code ({ cls := "java/lang/StringUTF16", name := "getChar", desc := "([BI)C" } : Jvm.MethodName) jdk_52_method_5_code (2 : Nat) (Option.some Jvm.ClassFile.FieldType.char)]
set_option maxRecDepth 65536 in
theorem codes_eq : words1.filter isCode = codes1 := rfl
theorem w_codes : ∀ c ∈ words1.filter isCode, c.before args0 about1 = true := by
  rw [codes_eq]
  intro c hc
  simp only [codes1, List.mem_cons, List.not_mem_nil, or_false] at hc
  rcases hc with rfl | rfl | rfl | rfl | rfl | rfl | rfl | rfl | rfl | rfl | rfl | rfl | rfl | rfl | rfl | rfl
  · exact w_c0
  · exact w_c1
  · exact w_c2
  · exact w_c3
  · exact w_c4
  · exact w_c5
  · exact w_c6
  · exact w_c7
  · exact w_c8
  · exact w_c9
  · exact w_c10
  · exact w_c11
  · exact w_c12
  · exact w_c13
  · exact w_c14
  · exact w_c15
set_option maxRecDepth 65536 in
theorem w_t1 : (words1.take 24).all (fun c => isCode c || c.before args0 about1) = true := by decide +kernel
set_option maxRecDepth 65536 in
theorem w_t2 : ((words1.drop 24).take 24).all (fun c => isCode c || c.before args0 about1) = true := by decide +kernel
set_option maxRecDepth 65536 in
theorem w_t3 : (((words1.drop 24).drop 24).take 24).all (fun c => isCode c || c.before args0 about1) = true := by decide +kernel
set_option maxRecDepth 65536 in
theorem w_t4 : (((words1.drop 24).drop 24).drop 24).all (fun c => isCode c || c.before args0 about1) = true := by decide +kernel
theorem w_tables : (allAtoms (Jvm.Cond.code x code maxLocals ret :: tables_1)).before args0 about1 = true := by
  rw [allAtoms_all]
  show words1.all (fun c => c.before args0 about1) = true
  refine all_split ?_ w_codes
  rw [← List.take_append_drop 24 words1, List.all_append, w_t1, ← List.take_append_drop 24 (words1.drop 24), List.all_append, w_t2, ← List.take_append_drop 24 ((words1.drop 24).drop 24), List.all_append, w_t3, w_t4]
  rfl
set_option maxRecDepth 65536 in
theorem w_rest : rest_1_c.before args0 about1 = true := by decide +kernel
set_option maxRecDepth 65536 in
theorem w_case : (Jvm.Cond.and given_1 narrow_1).before args0 about1 = true := by decide +kernel
set_option maxRecDepth 65536 in
theorem w_consts : constsHeld consts_1 about1 := Jvm.Lit.constsHeldB_iff.mp (by decide +kernel)
theorem w_applies : (headSpec (Jvm.Cond.code x code maxLocals ret :: tables_1) room_1).applies x e0.platform about1 = true :=
  (Spec.applies_iff w_frames).mpr ⟨w_running, w_runnable, w_alone, w_named, w_hears, w_ripe, w_room, w_tables⟩
theorem atStart : AtStart classFile x code maxLocals ret World_1 tables_1 room_1 Calls_1 rest_1 Pre_1 launch0 p0 e0 about1 theMethod args0 below0 :=
  ⟨lists_1, trivial, launch0.admits_env _ _ _, launch0.least_env, fairChoices_fair.cas, fairChoices_fair.clock, w_frames, w_args, w_heap, w_applies, ⟨w_consts, trivial⟩, w_rest, w_case⟩
end start1
theorem witness_1 : WitnessClaimed_1 := ⟨start1.p0, start1.e0, start1.about1, start1.theMethod, start1.args0, start1.below0, start1.atStart⟩
end Jvm.Pilot.@@N@@
