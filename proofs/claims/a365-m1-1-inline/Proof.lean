import JvmDerived
import JvmDerived.Pilot.@@N@@Statement
import JvmDerived.Pilot.@@N@@Code
set_option linter.unusedVariables false
set_option linter.unusedSimpArgs false
namespace Jvm.RoadKit
open Sem ClassFile Op Lib Jvm.Stand Jvm.Free Jvm.LawKit
section New
variable {p : Program} {l : Launch} {e : Env} {R : Room} {s : State} {m : MethodId} {args : Array Value} {below : List Frame} {meth : Method} {c : Code} {T : State} {locs : List Loc} {cells slots : Nat}
theorem retI (X : Stand p l e R s m args below meth c T locs cells slots) (hx : p.tables.exec = Jvm.exec) {pc : Nat} {Ls : Array Slot} {z : Int32} {rest : List Value} (hret : meth.sig.returnType = some .int) (hd : decode c.code pc = .ok (.ireturn, 1)) {fs : List Frame}
    (hl : ∀ (f : JFrame) (acts : List Action), f.method = m → f.locked = none → f.entered = [] → (doReturn e (T.setTop f) acts (some (.int z))).1 = T.setFrames fs) : Steps p.tables e below (T.setTop (mkF m pc Ls (.int z :: rest))) (T.setFrames fs) := by
  have hm' : T.vm.method? m = some meth := X.method'
  have hn : narrow .int (.int z) = .int z := rfl
  show Steps p.tables e below (T.setTop { method := m, pc := pc, locals := Ls, stack := _ :: rest, locked := none }) _
  jvm_step X.here [X.here.top, hx, hd, hm', hret, hn]
  first | (intro acts; rw [hl _ acts rfl rfl rfl]) | rw [hl _ _ rfl rfl rfl]
  exact Steps.refl _
theorem retR (X : Stand p l e R s m args below meth c T locs cells slots) (hx : p.tables.exec = Jvm.exec) {pc : Nat} {Ls : Array Slot} {w : Value} {t : FieldType} {rest : List Value} (hret : meth.sig.returnType = some t) (hn : narrow t w = w) (ht : t.isReference = true) (hw : w.isRef = true) (hd : decode c.code pc = .ok (.areturn, 1)) {fs : List Frame}
    (hl : ∀ (f : JFrame) (acts : List Action), f.method = m → f.locked = none → f.entered = [] → (doReturn e (T.setTop f) acts (some w)).1 = T.setFrames fs) : Steps p.tables e below (T.setTop (mkF m pc Ls (w :: rest))) (T.setFrames fs) := by
  have hm' : T.vm.method? m = some meth := X.method'
  show Steps p.tables e below (T.setTop { method := m, pc := pc, locals := Ls, stack := _ :: rest, locked := none }) _
  jvm_step X.here [X.here.top, hx, hd, hm', hret, hn, hw]
  try (refine ⟨ht, ?_⟩)
  first | (intro acts; rw [hl _ acts rfl rfl rfl]) | rw [hl _ _ rfl rfl rfl]
  exact Steps.refl _
end New
end Jvm.RoadKit
/- laws to paste: Road.backV, Road.lenW, Road.empW, Road.chN, Road.codOf (cut by pick.py; bodies as the Statement names them) -/
namespace Jvm.Pilot.@@N@@
namespace StrChars
open Jvm Sem ClassFile Op Lib Jvm.Stand Jvm.Free.XT Jvm.Free.ALB Jvm.Free.JM Jvm.Free
open Jvm.Lib.Cold (StaticIs)
/-- a char array whose places are chars -/
def Ch (a : Addr) (A : Cell) (U : State) : Prop := Arr .char a A U ∧ Typed .char A
theorem Ch.mv {a : Addr} {A : Cell} {U U' : State} (h : Ch a A U) (hal : U.vm.Alike U'.vm) (hh : U'.heap = U.heap) : Ch a A U' := ⟨h.1.mv hal hh, h.2⟩
theorem Ch.keep {a : Addr} {A : Cell} {U U' : State} (h : Ch a A U) (hal : U.vm.Alike U'.vm) (hk : U'.heap[a]? = some A) : Ch a A U' := ⟨h.1.keep hal hk, h.2⟩
/-- what place i of a char[]'s cell holds -/
def cv (A : Cell) (i : Nat) : Int32 := match A.slots[i]? with | some (.int x) => x | _ => 0
theorem Ch.get {a : Addr} {A : Cell} {U : State} (h : Ch a A U) {i : Nat} (hi : i < A.slots.size) : A.slots[i]? = some (.int (cv A i)) := by
  have e := Array.getElem?_eq_getElem hi
  have f := h.2 i _ e
  unfold cv; rw [e]
  generalize A.slots[i] = v at f
  cases v <;> simp [fits] at f ⊢
/-- the byte that i2b leaves of a char -/
def lo8 (x : Int32) : Int32 := x.toInt8.toInt32
theorem fits_lo8 (y : Int32) : fits .byte (.int (lo8 y)) = true := by
  have h1 := y.toInt8.le_toInt
  have h2 := y.toInt8.toInt_lt
  simp only [lo8, fits, Bool.and_eq_true, decide_eq_true_eq, Int32.le_iff_toInt_le, Int8.toInt_toInt32, show (-128 : Int32).toInt = -128 from by decide, show (127 : Int32).toInt = 127 from by decide]
  omega
/-- A' is A but that each place j of lo .. hi - 1 holds f j -/
def Laid (A A' : Cell) (lo hi : Nat) (f : Nat → Value) : Prop := A'.cls = A.cls ∧ A'.vm = A.vm ∧ A'.slots.size = A.slots.size ∧ ∀ i, A'.slots[i]? = if lo ≤ i ∧ i < hi then some (f i) else A.slots[i]?
theorem Laid.zero (A : Cell) (lo : Nat) (f : Nat → Value) : Laid A A lo (lo + 0) f := ⟨rfl, rfl, rfl, fun i => by rw [if_neg (by omega)]⟩
theorem Laid.step {A Ak : Cell} {lo k : Nat} {f : Nat → Value} {v : Value} (h : Laid A Ak lo k f) (hlo : lo ≤ k) (hk : k < Ak.slots.size) (hv : v = f k) : Laid A (Ak.setSlot k v) lo (k + 1) f := by
  refine ⟨h.1, h.2.1, by simpa [Cell.setSlot] using h.2.2.1, fun i => ?_⟩
  by_cases e : k = i
  · subst e; rw [Cell.slots_setSlot_self v hk, if_pos (by omega), hv]
  · rw [Cell.slots_setSlot_ne v e, h.2.2.2 i]
    by_cases q : lo ≤ i ∧ i < k
    · rw [if_pos q, if_pos (by omega)]
    · rw [if_neg q, if_neg (by omega)]
def U16 : String := "java/lang/StringUTF16"
namespace Cmp5
def yN : MethodName := ⟨"java/lang/StringUTF16", "compress", "([CI[BII)I"⟩
abbrev yB : ByteArray := jdk_52_method_21_code
theorem d0 : decode yB 0 = .ok (.iconst 0, 1) := by decide +kernel
theorem d1 : decode yB 1 = .ok (.istore 5, 2) := by decide +kernel
theorem d3 : decode yB 3 = .ok (.iload 5, 2) := by decide +kernel
theorem d5 : decode yB 5 = .ok (.iload 4, 2) := by decide +kernel
theorem d7 : decode yB 7 = .ok (.if_icmp (.ge) 37, 3) := by decide +kernel
theorem d10 : decode yB 10 = .ok (.aload_n 0, 1) := by decide +kernel
theorem d11 : decode yB 11 = .ok (.iload_n 1, 1) := by decide +kernel
theorem d12 : decode yB 12 = .ok (.caload, 1) := by decide +kernel
theorem d13 : decode yB 13 = .ok (.istore 6, 2) := by decide +kernel
theorem d15 : decode yB 15 = .ok (.iload 6, 2) := by decide +kernel
theorem d17 : decode yB 17 = .ok (.sipush 255, 3) := by decide +kernel
theorem d20 : decode yB 20 = .ok (.if_icmp (.le) 6, 3) := by decide +kernel
theorem d26 : decode yB 26 = .ok (.aload_n 2, 1) := by decide +kernel
theorem d27 : decode yB 27 = .ok (.iload_n 3, 1) := by decide +kernel
theorem d28 : decode yB 28 = .ok (.iload 6, 2) := by decide +kernel
theorem d30 : decode yB 30 = .ok (.i2b, 1) := by decide +kernel
theorem d31 : decode yB 31 = .ok (.bastore, 1) := by decide +kernel
theorem d32 : decode yB 32 = .ok (.iinc 1 1, 3) := by decide +kernel
theorem d35 : decode yB 35 = .ok (.iinc 3 1, 3) := by decide +kernel
theorem d38 : decode yB 38 = .ok (.iinc 5 1, 3) := by decide +kernel
theorem d41 : decode yB 41 = .ok (.goto (-38), 3) := by decide +kernel
theorem d44 : decode yB 44 = .ok (.iload 4, 2) := by decide +kernel
theorem d46 : decode yB 46 = .ok (.ireturn, 1) := by decide +kernel
def site : List Cond := []
def tab : Cond := tabOf yN yB 7 (some .int) site
def P (b : Addr) (A : Cell) (d : Addr) (B : Cell) (o q len : Nat) (args : Array Value) (s : State) : Prop := args = #[.ref b, .int (Int32.ofNat o), .ref d, .int (Int32.ofNat q), .int (Int32.ofNat len)] ∧ Ch b A s ∧ Arr .byte d B s ∧ b ≠ d ∧ o + len ≤ A.slots.size ∧ q + len ≤ B.slots.size ∧ ∀ i, i < len → ¬ 255 < cv A (o + i)
def E (b : Addr) (A : Cell) (d : Addr) (B : Cell) (o q len : Nat) (r : Option Value) (s u : State) : Prop := r = some (.int (Int32.ofNat len)) ∧ ∃ B', Put d B' s u ∧ Laid B B' q (q + len) (fun j => Value.int (lo8 (cv A (o + (j - q)))))
/-- no char of the range above 255: len; the places written hold each char's low byte -/
theorem law (l : Launch) (b : Addr) (A : Cell) (d : Addr) (B : Cell) (o q len : Nat) : Law l yN 5 5 0 0 yB 7 (some .int) site (P b A d B o q len) (E b A d B o q len) (copyLocs d q len) 0 0 := by
  refine Law.of_walk (plainFor_of_name (by decide +kernel)) (by decide +kernel) (by decide +kernel) (by decide) (fun _ _ h => by rw [h.1]; rfl) (fun _ U U' hal hh h => ⟨h.1, h.2.1.mv hal hh, h.2.2.1.mv hal hh, h.2.2.2⟩) (fun r U U' V V' h1 hal h2 h => ⟨h.1, h.2.elim fun B' q => ⟨B', q.1.mv h1 h2, q.2⟩⟩) ?_
  intro p e s m args below meth c s₁ X0 hexec hbytes hml hret hlk hnm hown hh0 W hP
  obtain ⟨rfl, hA, hB, hne, l1, l2, hp⟩ := hP
  have c1 : Steps p.tables e below (s₁.setTop (entryFrame m #[.ref b, .int (Int32.ofNat o), .ref d, .int (Int32.ofNat q), .int (Int32.ofNat len)] 7)) (s₁.setTop (mkF m 0 #[.val (.ref b), .val (.int (Int32.ofNat o)), .val (.ref d), .val (.int (Int32.ofNat q)), .val (.int (Int32.ofNat len)), .unset, .unset] [])) := entry rfl
  have hA0 := hA.1.mv X0.warmed.alike hh0
  have hB0 := hB.mv X0.warmed.alike hh0
  have a31 := hA.1.2.2.2
  have c2 : Steps p.tables e below (s₁.setTop (entryFrame m #[.ref b, .int (Int32.ofNat o), .ref d, .int (Int32.ofNat q), .int (Int32.ofNat len)] 7)) (s₁.setTop (mkF m 3 #[.val (.ref b), .val (.int (Int32.ofNat o)), .val (.ref d), .val (.int (Int32.ofNat q)), .val (.int (Int32.ofNat len)), .val (.int 0), .unset] [])) := c1.trans (by
    refine iconstV X0.here hexec rfl 0 (hb hbytes d0) (by decide) ?_
    refine XS.istore X0.here hexec rfl (hb hbytes d1) rfl rfl ?_
    exact Steps.refl _)
  have loop : ∀ (r i : Nat), i + r = len → ∀ (z : Slot), (z = .unset ∨ ∃ w, z = .val w ∧ w.category = 1) → ∀ (Tl : State) (Bk : Cell), Stand p l e { frames := 0, locals := 0, cells := 0, slots := 0 } s m #[.ref b, .int (Int32.ofNat o), .ref d, .int (Int32.ofNat q), .int (Int32.ofNat len)] below meth c Tl ([] ++ copyLocs d q i) 0 0 → Put d Bk s₁ Tl → Laid B Bk q (q + i) (fun j => Value.int (lo8 (cv A (o + (j - q))))) →
      Steps p.tables e below (s₁.setTop (entryFrame m #[.ref b, .int (Int32.ofNat o), .ref d, .int (Int32.ofNat q), .int (Int32.ofNat len)] 7)) (Tl.setTop (mkF m 3 #[.val (.ref b), .val (.int (Int32.ofNat (o + i))), .val (.ref d), .val (.int (Int32.ofNat (q + i))), .val (.int (Int32.ofNat len)), .val (.int (Int32.ofNat i)), z] [])) → ∃ (T' : State) (B' : Cell) (z' : Slot), Stand p l e { frames := 0, locals := 0, cells := 0, slots := 0 } s m #[.ref b, .int (Int32.ofNat o), .ref d, .int (Int32.ofNat q), .int (Int32.ofNat len)] below meth c T' ([] ++ copyLocs d q len) 0 0 ∧ Put d B' s₁ T' ∧ Laid B B' q (q + len) (fun j => Value.int (lo8 (cv A (o + (j - q))))) ∧
      Steps p.tables e below (s₁.setTop (entryFrame m #[.ref b, .int (Int32.ofNat o), .ref d, .int (Int32.ofNat q), .int (Int32.ofNat len)] 7)) (T'.setTop (mkF m 3 #[.val (.ref b), .val (.int (Int32.ofNat (o + len))), .val (.ref d), .val (.int (Int32.ofNat (q + len))), .val (.int (Int32.ofNat len)), .val (.int (Int32.ofNat len)), z'] [])) := by
    intro r
    induction r with
    | zero =>
      intro i hi z hz Tl Bk Xl pl fl cl
      have hil : i = len := by omega
      rw [hil] at Xl fl cl
      exact ⟨Tl, Bk, z, Xl, pl, fl, cl⟩
    | succ r ih =>
      intro i hi z hz Tl Bk Xl pl fl cl
      have all := X0.warmed.alike.symm.trans Xl.warmed.alike
      have hAl := hA0.keep all (pl.other hne hA0.1)
      have hBk := hB0.like all pl.1 fl.1 fl.2.1 fl.2.2.1
      have hlt : q + i < Bk.slots.size := by rw [fl.2.2.1]; omega
      have c3 : Steps p.tables e below (s₁.setTop (entryFrame m #[.ref b, .int (Int32.ofNat o), .ref d, .int (Int32.ofNat q), .int (Int32.ofNat len)] 7)) (Tl.setTop (mkF m 12 #[.val (.ref b), .val (.int (Int32.ofNat (o + i))), .val (.ref d), .val (.int (Int32.ofNat (q + i))), .val (.int (Int32.ofNat len)), .val (.int (Int32.ofNat i)), z] [.int (Int32.ofNat (o + i)), .ref b])) := cl.trans (by
        refine XS.iload Xl.here hexec rfl (hb hbytes d3) rfl ?_
        refine XS.iload Xl.here hexec rfl (hb hbytes d5) rfl ?_
        refine XS.icmpNo Xl.here hexec rfl (hb hbytes d7) rfl (ii_ge_f (lt32 (by omega) (by omega))) ?_
        refine XS.aloadN Xl.here hexec rfl (hb hbytes d10) rfl rfl ?_
        refine XS.iloadN Xl.here hexec rfl (hb hbytes d11) rfl ?_
        exact Steps.refl _)
      have c4 : Steps p.tables e below (s₁.setTop (entryFrame m #[.ref b, .int (Int32.ofNat o), .ref d, .int (Int32.ofNat q), .int (Int32.ofNat len)] 7)) (Tl.setTop (mkF m 13 #[.val (.ref b), .val (.int (Int32.ofNat (o + i))), .val (.ref d), .val (.int (Int32.ofNat (q + i))), .val (.int (Int32.ofNat len)), .val (.int (Int32.ofNat i)), z] [.int (cv A (o + i))])) := c3.trans (by
        refine Xl.aget hexec hAl rfl (hA.get (i := o + i) (by omega)) rfl rfl (hb hbytes d12) ?_
        exact Steps.refl _)
      have c5 : Steps p.tables e below (s₁.setTop (entryFrame m #[.ref b, .int (Int32.ofNat o), .ref d, .int (Int32.ofNat q), .int (Int32.ofNat len)] 7)) (Tl.setTop (mkF m 15 #[.val (.ref b), .val (.int (Int32.ofNat (o + i))), .val (.ref d), .val (.int (Int32.ofNat (q + i))), .val (.int (Int32.ofNat len)), .val (.int (Int32.ofNat i)), .val (.int (cv A (o + i)))] [])) := c4.trans (by
        refine XS.istoreS Xl.here hexec rfl (hb hbytes d13) rfl rfl hz ?_
        exact Steps.refl _)
      have c6 : Steps p.tables e below (s₁.setTop (entryFrame m #[.ref b, .int (Int32.ofNat o), .ref d, .int (Int32.ofNat q), .int (Int32.ofNat len)] 7)) (Tl.setTop (mkF m 31 #[.val (.ref b), .val (.int (Int32.ofNat (o + i))), .val (.ref d), .val (.int (Int32.ofNat (q + i))), .val (.int (Int32.ofNat len)), .val (.int (Int32.ofNat i)), .val (.int (cv A (o + i)))] [.int (lo8 (cv A (o + i))), .int (Int32.ofNat (q + i)), .ref d])) := c5.trans (by
        refine XS.iload Xl.here hexec rfl (hb hbytes d15) rfl ?_
        refine sipushV Xl.here hexec rfl 255 (hb hbytes d17) (by decide) ?_
        refine XS.icmpYes Xl.here hexec rfl (pc0 := 20) rfl (hb hbytes d20) rfl (ii_le_t (hp i (by omega))) (by decide) rfl ?_
        refine XS.aloadN Xl.here hexec rfl (hb hbytes d26) rfl rfl ?_
        refine XS.iloadN Xl.here hexec rfl (hb hbytes d27) rfl ?_
        refine XS.iload Xl.here hexec rfl (hb hbytes d28) rfl ?_
        refine i2b Xl.here hexec rfl (hb hbytes d30) rfl ?_
        exact Steps.refl _)
      obtain ⟨T7, X7, p7, st7⟩ := Xl.aput hexec hBk rfl hlt rfl (fits_lo8 (cv A (o + i))) (g := (mkF m 31 #[.val (.ref b), .val (.int (Int32.ofNat (o + i))), .val (.ref d), .val (.int (Int32.ofNat (q + i))), .val (.int (Int32.ofNat len)), .val (.int (Int32.ofNat i)), .val (.int (cv A (o + i)))] [.int (lo8 (cv A (o + i))), .int (Int32.ofNat (q + i)), .ref d])) rfl (rest := []) rfl (hb hbytes d31)
      have c8 : Steps p.tables e below (s₁.setTop (entryFrame m #[.ref b, .int (Int32.ofNat o), .ref d, .int (Int32.ofNat q), .int (Int32.ofNat len)] 7)) (T7.setTop (mkF m 32 #[.val (.ref b), .val (.int (Int32.ofNat (o + i))), .val (.ref d), .val (.int (Int32.ofNat (q + i))), .val (.int (Int32.ofNat len)), .val (.int (Int32.ofNat i)), .val (.int (cv A (o + i)))] [])) := c6.trans (st7 _ (Steps.refl _))
      have c9 : Steps p.tables e below (s₁.setTop (entryFrame m #[.ref b, .int (Int32.ofNat o), .ref d, .int (Int32.ofNat q), .int (Int32.ofNat len)] 7)) (T7.setTop (mkF m 3 #[.val (.ref b), .val (.int (Int32.ofNat (o + i) + 1)), .val (.ref d), .val (.int (Int32.ofNat (q + i) + 1)), .val (.int (Int32.ofNat len)), .val (.int (Int32.ofNat i + 1)), .val (.int (cv A (o + i)))] [])) := c8.trans (by
        refine iincV X7.here hexec rfl 1 (hb hbytes d32) (by decide) rfl rfl ?_
        refine iincV X7.here hexec rfl 1 (hb hbytes d35) (by decide) rfl rfl ?_
        refine iincV X7.here hexec rfl 1 (hb hbytes d38) (by decide) rfl rfl ?_
        refine XS.goto X7.here hexec rfl (pc0 := 41) rfl (hb hbytes d41) (by decide) rfl ?_
        exact Steps.refl _)
      have c10 : Steps p.tables e below (s₁.setTop (entryFrame m #[.ref b, .int (Int32.ofNat o), .ref d, .int (Int32.ofNat q), .int (Int32.ofNat len)] 7)) (T7.setTop (mkF m 3 #[.val (.ref b), .val (.int (Int32.ofNat (o + (i + 1)))), .val (.ref d), .val (.int (Int32.ofNat (q + (i + 1)))), .val (.int (Int32.ofNat len)), .val (.int (Int32.ofNat (i + 1))), .val (.int (cv A (o + i)))] [])) := by
        have := c9
        rw [succ32, succ32, succ32] at this
        exact this
      exact ih (i + 1) (by omega) _ (Or.inr ⟨_, rfl, rfl⟩) T7 _ (by rw [copyLocs_step, ← List.append_assoc]; exact X7) (pl.trans p7) (fl.step (by omega) hlt (by simp)) c10
  obtain ⟨T9, B9, z9, X9, p9, f9, g9⟩ := loop len 0 (by omega) .unset (Or.inl rfl) s₁ B (by simpa [copyLocs] using X0) ⟨hB0.1, fun _ _ => rfl, rfl⟩ (Laid.zero _ _ _) c2
  have c11 : Steps p.tables e below (s₁.setTop (entryFrame m #[.ref b, .int (Int32.ofNat o), .ref d, .int (Int32.ofNat q), .int (Int32.ofNat len)] 7)) (T9.setTop (mkF m 46 #[.val (.ref b), .val (.int (Int32.ofNat (o + len))), .val (.ref d), .val (.int (Int32.ofNat (q + len))), .val (.int (Int32.ofNat len)), .val (.int (Int32.ofNat len)), z9] [.int (Int32.ofNat len)])) := g9.trans (by
    refine XS.iload X9.here hexec rfl (hb hbytes d3) rfl ?_
    refine XS.iload X9.here hexec rfl (hb hbytes d5) rfl ?_
    refine XS.icmpYes X9.here hexec rfl (pc0 := 7) rfl (hb hbytes d7) rfl (ii_ge_t (nlt32 (by omega) (Nat.le_refl _))) (by decide) rfl ?_
    refine XS.iload X9.here hexec rfl (hb hbytes d44) rfl ?_
    exact Steps.refl _)
  exact ⟨T9, some (.int (Int32.ofNat len)), _, _, _, X9, by simp, rfl, rfl, (fun h => by cases h), ⟨rfl, B9, p9.from hh0, f9⟩, fun fs hl => c11.trans (X9.ireturnOut hexec hret rfl (Or.inl rfl) (hb hbytes d46) hl)⟩
end Cmp5
namespace Cmp3
def yN : MethodName := ⟨"java/lang/StringUTF16", "compress", "([CII)[B"⟩
abbrev yB : ByteArray := jdk_52_method_16_code
theorem d0 : decode yB 0 = .ok (.iload_n 2, 1) := by decide +kernel
theorem d1 : decode yB 1 = .ok (.newarray .byte, 2) := by decide +kernel
theorem d3 : decode yB 3 = .ok (.astore_n 3, 1) := by decide +kernel
theorem d4 : decode yB 4 = .ok (.aload_n 0, 1) := by decide +kernel
theorem d5 : decode yB 5 = .ok (.iload_n 1, 1) := by decide +kernel
theorem d6 : decode yB 6 = .ok (.aload_n 3, 1) := by decide +kernel
theorem d7 : decode yB 7 = .ok (.iconst 0, 1) := by decide +kernel
theorem d8 : decode yB 8 = .ok (.iload_n 2, 1) := by decide +kernel
theorem d9 : decode yB 9 = .ok (.invokestatic 115, 3) := by decide +kernel
theorem d12 : decode yB 12 = .ok (.istore 4, 2) := by decide +kernel
theorem d14 : decode yB 14 = .ok (.iload 4, 2) := by decide +kernel
theorem d16 : decode yB 16 = .ok (.iload_n 2, 1) := by decide +kernel
theorem d17 : decode yB 17 = .ok (.if_icmp (.eq) 40, 3) := by decide +kernel
theorem d57 : decode yB 57 = .ok (.aload_n 3, 1) := by decide +kernel
theorem d58 : decode yB 58 = .ok (.areturn, 1) := by decide +kernel
def site : List Cond := [.arrayClass .byte, Cmp5.tab] ++ staticW U16 115 Cmp5.yN
def tab : Cond := tabOf yN yB 6 (some (.array .byte)) site
def P (b : Addr) (A : Cell) (o len : Nat) (args : Array Value) (s : State) : Prop := args = #[.ref b, .int (Int32.ofNat o), .int (Int32.ofNat len)] ∧ Ch b A s ∧ o + len ≤ A.slots.size ∧ len ≤ 536870912 ∧ ∀ i, i < len → ¬ 255 < cv A (o + i)
def E (b : Addr) (A : Cell) (o len : Nat) (r : Option Value) (s u : State) : Prop := NewArr .byte "[B" len (fun j => .int (lo8 (cv A (o + j)))) r s u ∧ u.heap.size = s.heap.size + 1
/-- no char of the range above 255: a new byte[] of their low bytes -/
theorem law (l : Launch) (b : Addr) (A : Cell) (o len : Nat) : Law l yN 3 3 1 18 yB 6 (some (.array .byte)) site (P b A o len) (E b A o len) [] 1 len := by
  refine Law.of_walk (plainFor_of_name (by decide +kernel)) (by decide +kernel) (by decide +kernel) (by decide) (fun _ _ h => by rw [h.1]; rfl) (fun _ U U' hal hh h => ⟨h.1, h.2.1.mv hal hh, h.2.2⟩) (fun r U U' V V' h1 hal h2 h => ⟨NewArr.mv r U U' V V' h1 hal h2 h.1, by rw [h1, h2]; exact h.2⟩) ?_
  intro p e s m args below meth c s₁ X0 hexec hbytes hml hret hlk hnm hown hh0 W hP
  obtain ⟨rfl, hA, l1, l2, hp⟩ := hP
  have a31 := hA.1.2.2.2
  have c1 : Steps p.tables e below (s₁.setTop (entryFrame m #[.ref b, .int (Int32.ofNat o), .int (Int32.ofNat len)] 6)) (s₁.setTop (mkF m 0 #[.val (.ref b), .val (.int (Int32.ofNat o)), .val (.int (Int32.ofNat len)), .unset, .unset, .unset] [])) := entry rfl
  have c2 : Steps p.tables e below (s₁.setTop (entryFrame m #[.ref b, .int (Int32.ofNat o), .int (Int32.ofNat len)] 6)) (s₁.setTop (mkF m 1 #[.val (.ref b), .val (.int (Int32.ofNat o)), .val (.int (Int32.ofNat len)), .unset, .unset, .unset] [.int (Int32.ofNat len)])) := c1.trans (by
    refine XS.iloadN X0.here hexec rfl (hb hbytes d0) rfl ?_
    exact Steps.refl _)
  obtain ⟨T3, B3, X3, ba3, bs3, bv3, bh3, bf3, st3⟩ := X0.anew hexec (atype := .byte) (wk W (.arrayClass .byte)) rfl (by show len * 1 ≤ _; omega) (by omega) (g := (mkF m 1 #[.val (.ref b), .val (.int (Int32.ofNat o)), .val (.int (Int32.ofNat len)), .unset, .unset, .unset] [.int (Int32.ofNat len)])) rfl (hb hbytes d1) (rest := []) rfl (Nat.le_refl _) (by show 0 + len ≤ len; omega)
  rw [hh0] at ba3 st3
  have kp3 : XT.Kept s T3 := (XT.Kept.of_eq hh0).push bh3
  have hA3 := hA.keep X3.warmed.alike (kp3 _ _ hA.1.1)
  have hne : b ≠ s.heap.size := hA.1.ne
  have c4 : Steps p.tables e below (s₁.setTop (entryFrame m #[.ref b, .int (Int32.ofNat o), .int (Int32.ofNat len)] 6)) (T3.setTop (mkF m 3 #[.val (.ref b), .val (.int (Int32.ofNat o)), .val (.int (Int32.ofNat len)), .unset, .unset, .unset] [.ref s.heap.size])) := c2.trans (st3 _ (Steps.refl _))
  have c5 : Steps p.tables e below (s₁.setTop (entryFrame m #[.ref b, .int (Int32.ofNat o), .int (Int32.ofNat len)] 6)) (T3.setTop (mkF m 9 #[.val (.ref b), .val (.int (Int32.ofNat o)), .val (.int (Int32.ofNat len)), .val (.ref s.heap.size), .unset, .unset] [.int (Int32.ofNat len), .int 0, .ref s.heap.size, .int (Int32.ofNat o), .ref b])) := c4.trans (by
    refine XS.astoreN X3.here hexec rfl (hb hbytes d3) rfl rfl rfl ?_
    refine XS.aloadN X3.here hexec rfl (hb hbytes d4) rfl rfl ?_
    refine XS.iloadN X3.here hexec rfl (hb hbytes d5) rfl ?_
    refine XS.aloadN X3.here hexec rfl (hb hbytes d6) rfl rfl ?_
    refine iconstV X3.here hexec rfl 0 (hb hbytes d7) (by decide) ?_
    refine XS.iloadN X3.here hexec rfl (hb hbytes d8) rfl ?_
    exact Steps.refl _)
  obtain ⟨v6, T6, X6, E6, g6⟩ := X3.callS hexec (Cmp5.law l b A s.heap.size B3 o 0 len) hown (wks W (staticW U16 115 Cmp5.yN)) (wk W Cmp5.tab) (W := 0) (Nat.le_of_ble_eq_true rfl) (Nat.le_of_ble_eq_true rfl) (Nat.le_refl _) (by show 0 + len + 0 ≤ len; omega) (g := (mkF m 9 #[.val (.ref b), .val (.int (Int32.ofNat o)), .val (.int (Int32.ofNat len)), .val (.ref s.heap.size), .unset, .unset] [.int (Int32.ofNat len), .int (Int32.ofNat 0), .ref s.heap.size, .int (Int32.ofNat o), .ref b])) rfl (by rw [hml]; rfl) c5 (argsL := [.ref b, .int (Int32.ofNat o), .ref s.heap.size, .int (Int32.ofNat 0), .int (Int32.ofNat len)]) (rest := []) rfl rfl (by show 2 * 0 + 0 ≤ _; decide) (hb hbytes d9) (⟨rfl, hA3, ba3, hne, l1, by rw [bs3]; simp, hp⟩)
  obtain ⟨rfl, B6, p6, f6⟩ := E6
  have c7 : Steps p.tables e below (s₁.setTop (entryFrame m #[.ref b, .int (Int32.ofNat o), .int (Int32.ofNat len)] 6)) (T6.setTop (mkF m 12 #[.val (.ref b), .val (.int (Int32.ofNat o)), .val (.int (Int32.ofNat len)), .val (.ref s.heap.size), .unset, .unset] [.int (Int32.ofNat len)])) := g6
  have c8 : Steps p.tables e below (s₁.setTop (entryFrame m #[.ref b, .int (Int32.ofNat o), .int (Int32.ofNat len)] 6)) (T6.setTop (mkF m 58 #[.val (.ref b), .val (.int (Int32.ofNat o)), .val (.int (Int32.ofNat len)), .val (.ref s.heap.size), .val (.int (Int32.ofNat len)), .unset] [.ref s.heap.size])) := c7.trans (by
    refine XS.istore X6.here hexec rfl (hb hbytes d12) rfl rfl ?_
    refine XS.iload X6.here hexec rfl (hb hbytes d14) rfl ?_
    refine XS.iloadN X6.here hexec rfl (hb hbytes d16) rfl ?_
    refine XS.icmpYes X6.here hexec rfl (pc0 := 17) rfl (hb hbytes d17) rfl (ii_eq_t rfl) (by decide) rfl ?_
    refine XS.aloadN X6.here hexec rfl (hb hbytes d57) rfl rfl ?_
    exact Steps.refl _)
  have X8 := X6.wide (L' := []) (cells' := 1) (slots' := len) (fun x hx hlt => by
    simp only [List.nil_append, copyLocs, List.mem_map, List.mem_range] at hx
    obtain ⟨i, -, rfl⟩ := hx
    exact absurd hlt (Nat.lt_irrefl _)) (Nat.le_refl _) (by omega)
  exact ⟨T6, some (.ref s.heap.size), _, _, _, X8, rfl, rfl, rfl, (fun h => by cases h), ⟨⟨rfl, B6, ba3.like (X3.warmed.alike.symm.trans X6.warmed.alike) p6.1 f6.1 f6.2.1 f6.2.2.1, f6.2.1.trans bv3, by rw [X6.warmed.alike.findClass, f6.1]; exact bf3, by rw [f6.2.2.1, bs3]; simp, fun j hj => by rw [f6.2.2.2 j, if_pos (by omega)]; rfl, kp3.put p6 (Nat.le_refl _)⟩, by rw [p6.2.2, bh3, hh0]; simp⟩, fun fs hl => c8.trans (X8.areturnOut hexec rfl hret rfl (hb hbytes d58) hl)⟩
end Cmp3
namespace CodL
def yN : MethodName := ⟨"java/lang/StringUTF16", "coderFromArrayLen", "([BI)B"⟩
abbrev yB : ByteArray := jdk_52_method_15_code
theorem d0 : decode yB 0 = .ok (.iload_n 1, 1) := by decide +kernel
theorem d1 : decode yB 1 = .ok (.aload_n 0, 1) := by decide +kernel
theorem d2 : decode yB 2 = .ok (.arraylength, 1) := by decide +kernel
theorem d3 : decode yB 3 = .ok (.isub, 1) := by decide +kernel
theorem d4 : decode yB 4 = .ok (.bipush 31, 2) := by decide +kernel
theorem d6 : decode yB 6 = .ok (.iushr, 1) := by decide +kernel
theorem d7 : decode yB 7 = .ok (.i2b, 1) := by decide +kernel
theorem d8 : decode yB 8 = .ok (.ireturn, 1) := by decide +kernel
def site : List Cond := []
def tab : Cond := tabOf yN yB 2 (some .byte) site
def P (d : Addr) (B : Cell) (args : Array Value) (s : State) : Prop := args = #[.ref d, .int (Int32.ofNat B.slots.size)] ∧ Arr .byte d B s
def E (r : Option Value) (s u : State) : Prop := XT.PureE (some (.int 0)) r s u
/-- an array as long as the number of chars: LATIN1 -/
theorem law (l : Launch) (d : Addr) (B : Cell) : Law l yN 2 2 0 0 yB 2 (some .byte) site (P d B) E [] 0 0 := by
  refine Law.of_walk (plainFor_of_name (by decide +kernel)) (by decide +kernel) (by decide +kernel) (by decide) (fun _ _ h => by rw [h.1]; rfl) (fun _ U U' hal hh h => ⟨h.1, h.2.mv hal hh⟩) (fun r U U' V V' h1 hal h2 h => XT.PureE.mv r U U' V V' h1 hal h2 h) ?_
  intro p e s m args below meth c s₁ X0 hexec hbytes hml hret hlk hnm hown hh0 W hP
  obtain ⟨rfl, hB⟩ := hP
  have hB0 := hB.mv X0.warmed.alike hh0
  have c1 : Steps p.tables e below (s₁.setTop (entryFrame m #[.ref d, .int (Int32.ofNat B.slots.size)] 2)) (s₁.setTop (mkF m 0 #[.val (.ref d), .val (.int (Int32.ofNat B.slots.size))] [])) := entry rfl
  have c2 : Steps p.tables e below (s₁.setTop (entryFrame m #[.ref d, .int (Int32.ofNat B.slots.size)] 2)) (s₁.setTop (mkF m 2 #[.val (.ref d), .val (.int (Int32.ofNat B.slots.size))] [.ref d, .int (Int32.ofNat B.slots.size)])) := c1.trans (by
    refine XS.iloadN X0.here hexec rfl (hb hbytes d0) rfl ?_
    refine XS.aloadN X0.here hexec rfl (hb hbytes d1) rfl rfl ?_
    exact Steps.refl _)
  have c3 : Steps p.tables e below (s₁.setTop (entryFrame m #[.ref d, .int (Int32.ofNat B.slots.size)] 2)) (s₁.setTop (mkF m 8 #[.val (.ref d), .val (.int (Int32.ofNat B.slots.size))] [.int (lo8 (ushr (Int32.ofNat B.slots.size - Int32.ofNat B.slots.size) 31))])) := c2.trans (by
    refine X0.alen hexec hB0 rfl rfl (hb hbytes d2) ?_
    refine XS.isub X0.here hexec rfl (hb hbytes d3) rfl ?_
    refine bipushV X0.here hexec rfl 31 (hb hbytes d4) (by decide) ?_
    refine iushr X0.here hexec rfl (hb hbytes d6) rfl ?_
    refine i2b X0.here hexec rfl (hb hbytes d7) rfl ?_
    exact Steps.refl _)
  have e0 : lo8 (ushr (Int32.ofNat B.slots.size - Int32.ofNat B.slots.size) 31) = 0 := by rw [Int32.sub_self]; decide
  rw [e0] at c3
  exact ⟨s₁, some (.int 0), _, _, _, X0, rfl, rfl, rfl, (fun h => by cases h), ⟨rfl, hh0⟩, fun fs hl => c3.trans (X0.ireturnOut hexec hret rfl (Or.inr (Or.inr (Or.inl rfl))) (hb hbytes d8) hl)⟩
end CodL
/-- the String at a is Latin-1 over a new byte[] (the heap's one new cell): the low bytes of the len chars of A from o on; every cell but a is kept -/
def Got (a : Addr) (D : Cell) (fV fC : Field) (A : Cell) (o len : Nat) (r : Option Value) (s u : State) : Prop := r = none ∧ ∃ D' V : Cell, Blank "java/lang/String" a D' u ∧ Same D D' [fV.slot, fC.slot] ∧ D'.slots[fV.slot]? = some (.ref s.heap.size) ∧ D'.slots[fC.slot]? = some (.int 0) ∧ Arr .byte s.heap.size V u ∧ V.vm = .none ∧ u.vm.findClass "[B" = some V.cls ∧ V.slots.size = len ∧ (∀ j, j < len → V.slots[j]? = some (.int (lo8 (cv A (o + j))))) ∧ (∀ (y : Addr) (c : Cell), y ≠ a → s.heap[y]? = some c → u.heap[y]? = some c) ∧ u.heap.size = s.heap.size + 1
theorem Got.mv {a : Addr} {D A : Cell} {fV fC : Field} {o len : Nat} : ∀ r (U U' V V' : State), U'.heap = U.heap → V.vm.Alike V'.vm → V'.heap = V.heap → Got a D fV fC A o len r U V → Got a D fV fC A o len r U' V' :=
  fun r U U' V V' h1 hal h2 ⟨e0, D', X, a1, a2, a3, a4, a5, a6, a7, a8, a9, a10, a11⟩ => ⟨e0, D', X, a1.mv hal h2, a2, by rw [h1]; exact a3, a4, by rw [h1]; exact a5.mv hal h2, a6, by rw [hal.findClass]; exact a7, a8, a9, by rw [h1, h2]; exact a10, by rw [h1, h2]; exact a11⟩
namespace New4
def yN : MethodName := ⟨"java/lang/String", "<init>", "([CIILjava/lang/Void;)V"⟩
abbrev yB : ByteArray := jdk_42_method_149_code
theorem d0 : decode yB 0 = .ok (.aload_n 0, 1) := by decide +kernel
theorem d1 : decode yB 1 = .ok (.invokespecial 1, 3) := by decide +kernel
theorem d4 : decode yB 4 = .ok (.iload_n 3, 1) := by decide +kernel
theorem d5 : decode yB 5 = .ok (.ifCond (.ne) 22, 3) := by decide +kernel
theorem d27 : decode yB 27 = .ok (.getstatic 38, 3) := by decide +kernel
theorem d30 : decode yB 30 = .ok (.ifCond (.eq) 28, 3) := by decide +kernel
theorem d33 : decode yB 33 = .ok (.aload_n 1, 1) := by decide +kernel
theorem d34 : decode yB 34 = .ok (.iload_n 2, 1) := by decide +kernel
theorem d35 : decode yB 35 = .ok (.iload_n 3, 1) := by decide +kernel
theorem d36 : decode yB 36 = .ok (.invokestatic 177, 3) := by decide +kernel
theorem d39 : decode yB 39 = .ok (.astore 5, 2) := by decide +kernel
theorem d41 : decode yB 41 = .ok (.aload_n 0, 1) := by decide +kernel
theorem d42 : decode yB 42 = .ok (.aload 5, 2) := by decide +kernel
theorem d44 : decode yB 44 = .ok (.iload_n 3, 1) := by decide +kernel
theorem d45 : decode yB 45 = .ok (.invokestatic 47, 3) := by decide +kernel
theorem d48 : decode yB 48 = .ok (.putfield 15, 3) := by decide +kernel
theorem d51 : decode yB 51 = .ok (.aload_n 0, 1) := by decide +kernel
theorem d52 : decode yB 52 = .ok (.aload 5, 2) := by decide +kernel
theorem d54 : decode yB 54 = .ok (.putfield 9, 3) := by decide +kernel
theorem d57 : decode yB 57 = .ok (.return_, 1) := by decide +kernel
def site : List Cond := [.fieldLink "java/lang/String" 38 "java/lang/String" "COMPACT_STRINGS" "Z", Cmp3.tab, CodL.tab, .laysFinal "java/lang/String" "java/lang/String" "value" "[B", .fieldLink "java/lang/String" 9 "java/lang/String" "value" "[B", .laysFinal "java/lang/String" "java/lang/String" "coder" "B", .fieldLink "java/lang/String" 15 "java/lang/String" "coder" "B"] ++ objW "java/lang/String" 1 ++ staticW "java/lang/String" 177 Cmp3.yN ++ staticW "java/lang/String" 47 CodL.yN
def tab : Cond := tabOf yN yB 6 none site
def P (a : Addr) (D : Cell) (fV fC : Field) (b : Addr) (A : Cell) (z : Int32) (o len : Nat) (args : Array Value) (s : State) : Prop := args = #[.ref a, .ref b, .int (Int32.ofNat o), .int (Int32.ofNat len), .null] ∧ Blank "java/lang/String" a D s ∧ Found "java/lang/String" "value" "[B" fV s ∧ Found "java/lang/String" "coder" "B" fC s ∧ Ch b A s ∧ StaticIs s "java/lang/String" "COMPACT_STRINGS" "Z" (.int z) ∧ ¬ z = 0 ∧ 0 < len ∧ o + len ≤ A.slots.size ∧ len ≤ 536870912 ∧ ∀ i, i < len → ¬ 255 < cv A (o + i)
def E (a : Addr) (D : Cell) (fV fC : Field) (A : Cell) (o len : Nat) (r : Option Value) (s u : State) : Prop := Got a D fV fC A o len r s u
/-- len > 0, no char of the range above 255: a Latin-1 String of their low bytes -/
theorem law (l : Launch) (a : Addr) (D : Cell) (fV fC : Field) (b : Addr) (A : Cell) (z : Int32) (o len : Nat) : Law l yN 5 4 2 35 yB 6 none site (P a D fV fC b A z o len) (E a D fV fC A o len) [⟨a, fC.slot⟩, ⟨a, fV.slot⟩] 1 len := by
  refine Law.of_walk (plainFor_of_name (by decide +kernel)) (by decide +kernel) (by decide +kernel) (by decide) (fun _ _ h => by rw [h.1]; rfl) (fun _ U U' hal hh h => ⟨h.1, h.2.1.mv hal hh, h.2.2.1.al hal, h.2.2.2.1.al hal, h.2.2.2.2.1.mv hal hh, h.2.2.2.2.2.1.there hal hh, h.2.2.2.2.2.2⟩) (fun r U U' V V' h1 hal h2 h => Got.mv r U U' V V' h1 hal h2 h) ?_
  intro p e s m args below meth c s₁ X0 hexec hbytes hml hret hlk hnm hown hh0 W hP
  obtain ⟨rfl, hB, f1, f2, hA, s1, hz, l0, l1, l2, hp⟩ := hP
  have a31 := hA.1.2.2.2
  have c1 : Steps p.tables e below (s₁.setTop (entryFrame m #[.ref a, .ref b, .int (Int32.ofNat o), .int (Int32.ofNat len), .null] 6)) (s₁.setTop (mkF m 0 #[.val (.ref a), .val (.ref b), .val (.int (Int32.ofNat o)), .val (.int (Int32.ofNat len)), .val .null, .unset] [])) := entry rfl
  have c2 : Steps p.tables e below (s₁.setTop (entryFrame m #[.ref a, .ref b, .int (Int32.ofNat o), .int (Int32.ofNat len), .null] 6)) (s₁.setTop (mkF m 1 #[.val (.ref a), .val (.ref b), .val (.int (Int32.ofNat o)), .val (.int (Int32.ofNat len)), .val .null, .unset] [.ref a])) := c1.trans (by
    refine XS.aloadN X0.here hexec rfl (hb hbytes d0) rfl rfl ?_
    exact Steps.refl _)
  obtain ⟨T3, X3, q3, st3⟩ := X0.oinit hexec hown (wks W (objW "java/lang/String" 1)) (g := (mkF m 1 #[.val (.ref a), .val (.ref b), .val (.int (Int32.ofNat o)), .val (.int (Int32.ofNat len)), .val .null, .unset] [.ref a])) rfl (by rw [hml]; rfl) (rest := []) rfl (hb hbytes d1) (W := 0) (by show 2 * 0 + 0 ≤ _; decide) (Nat.le_of_ble_eq_true rfl) (Nat.le_of_ble_eq_true rfl)
  have hh3 := q3.trans hh0
  have c4 : Steps p.tables e below (s₁.setTop (entryFrame m #[.ref a, .ref b, .int (Int32.ofNat o), .int (Int32.ofNat len), .null] 6)) (T3.setTop (mkF m 27 #[.val (.ref a), .val (.ref b), .val (.int (Int32.ofNat o)), .val (.int (Int32.ofNat len)), .val .null, .unset] [])) := (c2.trans (st3 _ (Steps.refl _))).trans (by
    refine XS.iloadN X3.here hexec rfl (hb hbytes d4) rfl ?_
    refine XS.ifYes X3.here hexec rfl (pc0 := 5) rfl (hb hbytes d5) rfl (i0_ne_t (nz32 (by omega) l0)) (by decide) rfl ?_
    exact Steps.refl _)
  obtain ⟨T5, X5, q5, st5⟩ := X3.sget hexec hown (wk W (.fieldLink "java/lang/String" 38 "java/lang/String" "COMPACT_STRINGS" "Z")) s1 (fun _ _ h => by rw [hh3]; exact h) (g := (mkF m 27 #[.val (.ref a), .val (.ref b), .val (.int (Int32.ofNat o)), .val (.int (Int32.ofNat len)), .val .null, .unset] [])) rfl (hb hbytes d27)
  have hh5 := q5.trans hh3
  have c6 : Steps p.tables e below (s₁.setTop (entryFrame m #[.ref a, .ref b, .int (Int32.ofNat o), .int (Int32.ofNat len), .null] 6)) (T5.setTop (mkF m 30 #[.val (.ref a), .val (.ref b), .val (.int (Int32.ofNat o)), .val (.int (Int32.ofNat len)), .val .null, .unset] [.int z])) := c4.trans (st5 _ (Steps.refl _))
  have c7 : Steps p.tables e below (s₁.setTop (entryFrame m #[.ref a, .ref b, .int (Int32.ofNat o), .int (Int32.ofNat len), .null] 6)) (T5.setTop (mkF m 36 #[.val (.ref a), .val (.ref b), .val (.int (Int32.ofNat o)), .val (.int (Int32.ofNat len)), .val .null, .unset] [.int (Int32.ofNat len), .int (Int32.ofNat o), .ref b])) := c6.trans (by
    refine XS.ifNo X5.here hexec rfl (hb hbytes d30) rfl (i0_eq_f hz) ?_
    refine XS.aloadN X5.here hexec rfl (hb hbytes d33) rfl rfl ?_
    refine XS.iloadN X5.here hexec rfl (hb hbytes d34) rfl ?_
    refine XS.iloadN X5.here hexec rfl (hb hbytes d35) rfl ?_
    exact Steps.refl _)
  obtain ⟨v8, T8, X8, E8, g8⟩ := X5.callS hexec (Cmp3.law l b A o len) hown (wks W (staticW "java/lang/String" 177 Cmp3.yN)) (wk W Cmp3.tab) (W := 0) (Nat.le_of_ble_eq_true rfl) (Nat.le_of_ble_eq_true rfl) (Nat.le_refl _) (by show 0 + len ≤ len; omega) (g := (mkF m 36 #[.val (.ref a), .val (.ref b), .val (.int (Int32.ofNat o)), .val (.int (Int32.ofNat len)), .val .null, .unset] [.int (Int32.ofNat len), .int (Int32.ofNat o), .ref b])) rfl (by rw [hml]; rfl) c7 (argsL := [.ref b, .int (Int32.ofNat o), .int (Int32.ofNat len)]) (rest := []) rfl rfl (by show 2 * 0 + 0 ≤ _; decide) (hb hbytes d36) (⟨rfl, hA.mv X5.warmed.alike hh5, l1, l2, hp⟩)
  obtain ⟨e8, z8⟩ := E8
  obtain ⟨rfl, N, n1, n2, n3, n4, n5, n6⟩ := NewArr.mv _ T5 s _ _ hh5.symm (Vm.Alike.refl _) rfl e8
  rw [hh5] at z8
  have hB1 := hB.keep X8.warmed.alike (n6 _ _ hB.1)
  have hne : s.heap.size ≠ a := (Nat.ne_of_lt (Array.getElem?_eq_some_iff.mp hB.1).1).symm
  have c9 : Steps p.tables e below (s₁.setTop (entryFrame m #[.ref a, .ref b, .int (Int32.ofNat o), .int (Int32.ofNat len), .null] 6)) (T8.setTop (mkF m 39 #[.val (.ref a), .val (.ref b), .val (.int (Int32.ofNat o)), .val (.int (Int32.ofNat len)), .val .null, .unset] [.ref s.heap.size])) := g8
  have c10 : Steps p.tables e below (s₁.setTop (entryFrame m #[.ref a, .ref b, .int (Int32.ofNat o), .int (Int32.ofNat len), .null] 6)) (T8.setTop (mkF m 45 #[.val (.ref a), .val (.ref b), .val (.int (Int32.ofNat o)), .val (.int (Int32.ofNat len)), .val .null, .val (.ref s.heap.size)] [.int (Int32.ofNat N.slots.size), .ref s.heap.size, .ref a])) := by
    have hc : Steps p.tables e below (s₁.setTop (entryFrame m #[.ref a, .ref b, .int (Int32.ofNat o), .int (Int32.ofNat len), .null] 6)) (T8.setTop (mkF m 45 #[.val (.ref a), .val (.ref b), .val (.int (Int32.ofNat o)), .val (.int (Int32.ofNat len)), .val .null, .val (.ref s.heap.size)] [.int (Int32.ofNat len), .ref s.heap.size, .ref a])) := c9.trans (by
      refine XS.astore X8.here hexec rfl (hb hbytes d39) rfl rfl rfl ?_
      refine XS.aloadN X8.here hexec rfl (hb hbytes d41) rfl rfl ?_
      refine XS.aload X8.here hexec rfl (hb hbytes d42) rfl rfl ?_
      refine XS.iloadN X8.here hexec rfl (hb hbytes d44) rfl ?_
      exact Steps.refl _)
    rw [n4]; exact hc
  obtain ⟨v11, T11, X11, E11, g11⟩ := X8.callS hexec (CodL.law l s.heap.size N) hown (wks W (staticW "java/lang/String" 47 CodL.yN)) (wk W CodL.tab) (W := 1) (Nat.le_of_ble_eq_true rfl) (Nat.le_of_ble_eq_true rfl) (Nat.le_refl _) (by show 0 + len + 0 ≤ len; omega) (g := (mkF m 45 #[.val (.ref a), .val (.ref b), .val (.int (Int32.ofNat o)), .val (.int (Int32.ofNat len)), .val .null, .val (.ref s.heap.size)] [.int (Int32.ofNat N.slots.size), .ref s.heap.size, .ref a])) rfl (by rw [hml]; rfl) c10 (argsL := [.ref s.heap.size, .int (Int32.ofNat N.slots.size)]) (rest := [.ref a]) rfl rfl (by show 2 * 0 + (1 + 0) ≤ _; decide) (hb hbytes d45) (⟨rfl, n1⟩)
  obtain ⟨rfl, q11⟩ := E11
  have hB11 := hB1.mv (X8.warmed.alike.symm.trans X11.warmed.alike) q11
  have c12 : Steps p.tables e below (s₁.setTop (entryFrame m #[.ref a, .ref b, .int (Int32.ofNat o), .int (Int32.ofNat len), .null] 6)) (T11.setTop (mkF m 48 #[.val (.ref a), .val (.ref b), .val (.int (Int32.ofNat o)), .val (.int (Int32.ofNat len)), .val .null, .val (.ref s.heap.size)] [.int 0, .ref a])) := g11
  obtain ⟨T13, X13, p13, bl13, sl13, st13⟩ := X11.finit hexec hown (wk W (.fieldLink "java/lang/String" 15 "java/lang/String" "coder" "B")) (Or.inr ⟨_, (wk W (.laysFinal "java/lang/String" "java/lang/String" "coder" "B"))⟩) (Or.inl ⟨rfl, hnm⟩) f2 (Or.inl rfl) hB11 (t := .byte) (by decide +kernel) rfl (g := (mkF m 48 #[.val (.ref a), .val (.ref b), .val (.int (Int32.ofNat o)), .val (.int (Int32.ofNat len)), .val .null, .val (.ref s.heap.size)] [.int 0, .ref a])) rfl (rest := []) rfl (hb hbytes d48)
  have c14 : Steps p.tables e below (s₁.setTop (entryFrame m #[.ref a, .ref b, .int (Int32.ofNat o), .int (Int32.ofNat len), .null] 6)) (T13.setTop (mkF m 54 #[.val (.ref a), .val (.ref b), .val (.int (Int32.ofNat o)), .val (.int (Int32.ofNat len)), .val .null, .val (.ref s.heap.size)] [.ref s.heap.size, .ref a])) := (c12.trans (st13 _ (Steps.refl _))).trans (by
    refine XS.aloadN X13.here hexec rfl (hb hbytes d51) rfl rfl ?_
    refine XS.aload X13.here hexec rfl (hb hbytes d52) rfl rfl ?_
    exact Steps.refl _)
  obtain ⟨T15, X15, p15, bl15, sl15, st15⟩ := X13.finit hexec hown (wk W (.fieldLink "java/lang/String" 9 "java/lang/String" "value" "[B")) (Or.inr ⟨_, (wk W (.laysFinal "java/lang/String" "java/lang/String" "value" "[B"))⟩) (Or.inl ⟨rfl, hnm⟩) f1 (Or.inl rfl) bl13 (t := (.array .byte)) (by decide +kernel) rfl (g := (mkF m 54 #[.val (.ref a), .val (.ref b), .val (.int (Int32.ofNat o)), .val (.int (Int32.ofNat len)), .val .null, .val (.ref s.heap.size)] [.ref s.heap.size, .ref a])) rfl (rest := []) rfl (hb hbytes d54)
  have c16 : Steps p.tables e below (s₁.setTop (entryFrame m #[.ref a, .ref b, .int (Int32.ofNat o), .int (Int32.ofNat len), .null] 6)) (T15.setTop (mkF m 57 #[.val (.ref a), .val (.ref b), .val (.int (Int32.ofNat o)), .val (.int (Int32.ofNat len)), .val .null, .val (.ref s.heap.size)] [])) := c14.trans (st15 _ (Steps.refl _))
  have ap := apart (Or.inr ⟨_, (wk W (.laysFinal "java/lang/String" "java/lang/String" "value" "[B"))⟩) (Or.inr ⟨_, (wk W (.laysFinal "java/lang/String" "java/lang/String" "coder" "B"))⟩) f1 f2 (t₁ := .array .byte) (t₂ := .byte) (by decide +kernel) (by decide +kernel) (by decide)
  have al := X8.warmed.alike.symm.trans X15.warmed.alike
  have n7 : T11.heap[s.heap.size]? = some N := by rw [q11]; exact n1.1
  exact ⟨T15, none, _, _, _, X15, by simp, rfl, by omega, (fun _ => rfl), ⟨rfl, _, N, bl15, ((Same.refl D _).set _ (by simp)).set _ (by simp), sl15, (Cell.slots_setSlot_ne _ ap).trans sl13, n1.keep al (p15.other hne (p13.other hne n7)), n2, by rw [al.findClass]; exact n3, n4, n5, fun y c h1 h2 => p15.other h1 (p13.other h1 (by rw [q11]; exact n6 y c h2)), by rw [p15.2.2, p13.2.2, q11]; exact z8⟩, fun fs hl => c16.trans (X15.returnOut hexec hret (hb hbytes d57) hl)⟩
end New4
namespace New1
def yN : MethodName := ⟨"java/lang/String", "<init>", "([C)V"⟩
abbrev yB : ByteArray := jdk_42_method_3_code
theorem d0 : decode yB 0 = .ok (.aload_n 0, 1) := by decide +kernel
theorem d1 : decode yB 1 = .ok (.aload_n 1, 1) := by decide +kernel
theorem d2 : decode yB 2 = .ok (.iconst 0, 1) := by decide +kernel
theorem d3 : decode yB 3 = .ok (.aload_n 1, 1) := by decide +kernel
theorem d4 : decode yB 4 = .ok (.arraylength, 1) := by decide +kernel
theorem d5 : decode yB 5 = .ok (.aconst_null, 1) := by decide +kernel
theorem d6 : decode yB 6 = .ok (.invokespecial 27, 3) := by decide +kernel
theorem d9 : decode yB 9 = .ok (.return_, 1) := by decide +kernel
def site : List Cond := [New4.tab] ++ initW "java/lang/String" 27 New4.yN
def tab : Cond := tabOf yN yB 2 none site
def P (a : Addr) (D : Cell) (fV fC : Field) (b : Addr) (A : Cell) (z : Int32) (args : Array Value) (s : State) : Prop := args = #[.ref a, .ref b] ∧ Blank "java/lang/String" a D s ∧ Found "java/lang/String" "value" "[B" fV s ∧ Found "java/lang/String" "coder" "B" fC s ∧ Ch b A s ∧ StaticIs s "java/lang/String" "COMPACT_STRINGS" "Z" (.int z) ∧ ¬ z = 0 ∧ 0 < A.slots.size ∧ A.slots.size ≤ 536870912 ∧ ∀ i, i < A.slots.size → ¬ 255 < cv A i
def E (a : Addr) (D : Cell) (fV fC : Field) (A : Cell) (r : Option Value) (s u : State) : Prop := Got a D fV fC A 0 A.slots.size r s u
/-- new String(chars), not empty, no char above 255: a Latin-1 String of their low bytes -/
theorem law (l : Launch) (a : Addr) (D : Cell) (fV fC : Field) (b : Addr) (A : Cell) (z : Int32) : Law l yN 2 1 3 52 yB 2 none site (P a D fV fC b A z) (E a D fV fC A) [⟨a, fC.slot⟩, ⟨a, fV.slot⟩] 1 A.slots.size := by
  refine Law.of_walk (plainFor_of_name (by decide +kernel)) (by decide +kernel) (by decide +kernel) (by decide) (fun _ _ h => by rw [h.1]; rfl) (fun _ U U' hal hh h => ⟨h.1, h.2.1.mv hal hh, h.2.2.1.al hal, h.2.2.2.1.al hal, h.2.2.2.2.1.mv hal hh, h.2.2.2.2.2.1.there hal hh, h.2.2.2.2.2.2⟩) (fun r U U' V V' h1 hal h2 h => Got.mv r U U' V V' h1 hal h2 h) ?_
  intro p e s m args below meth c s₁ X0 hexec hbytes hml hret hlk hnm hown hh0 W hP
  obtain ⟨rfl, hB, f1, f2, hA, s1, hz, l0, l2, hp⟩ := hP
  have c1 : Steps p.tables e below (s₁.setTop (entryFrame m #[.ref a, .ref b] 2)) (s₁.setTop (mkF m 0 #[.val (.ref a), .val (.ref b)] [])) := entry rfl
  have c2 : Steps p.tables e below (s₁.setTop (entryFrame m #[.ref a, .ref b] 2)) (s₁.setTop (mkF m 6 #[.val (.ref a), .val (.ref b)] [.null, .int (Int32.ofNat A.slots.size), .int 0, .ref b, .ref a])) := c1.trans (by
    refine XS.aloadN X0.here hexec rfl (hb hbytes d0) rfl rfl ?_
    refine XS.aloadN X0.here hexec rfl (hb hbytes d1) rfl rfl ?_
    refine iconstV X0.here hexec rfl 0 (hb hbytes d2) (by decide) ?_
    refine XS.aloadN X0.here hexec rfl (hb hbytes d3) rfl rfl ?_
    refine X0.alen hexec (hA.1.mv X0.warmed.alike hh0) rfl rfl (hb hbytes d4) ?_
    refine XS.aconstNull X0.here hexec rfl (hb hbytes d5) ?_
    exact Steps.refl _)
  obtain ⟨v3, T3, X3, E3, g3⟩ := X0.callN hexec (New4.law l a D fV fC b A z 0 A.slots.size) rfl hown (wks W (initW "java/lang/String" 27 New4.yN)) (W New4.tab (by simp only [site, List.mem_cons, List.mem_append, true_or, or_true])) (W := 0) (Nat.le_of_ble_eq_true rfl) (Nat.le_of_ble_eq_true rfl) (Nat.le_refl _) (by show 0 + A.slots.size ≤ A.slots.size; omega) (g := (mkF m 6 #[.val (.ref a), .val (.ref b)] [.null, .int (Int32.ofNat A.slots.size), .int (Int32.ofNat 0), .ref b, .ref a])) rfl (by rw [hml]; rfl) c2 (argsL := [.ref b, .int (Int32.ofNat 0), .int (Int32.ofNat A.slots.size), .null]) (rest := []) rfl rfl (by show 2 * 0 + 0 ≤ _; decide) (hb hbytes d6) (⟨rfl, hB.mv X0.warmed.alike hh0, f1.al X0.warmed.alike, f2.al X0.warmed.alike, hA.mv X0.warmed.alike hh0, s1.there X0.warmed.alike hh0, hz, l0, by omega, l2, fun i hi => by rw [Nat.zero_add]; exact hp i hi⟩)
  have e0 := Got.mv _ s₁ s _ _ hh0.symm (Vm.Alike.refl _) rfl E3
  obtain rfl := e0.1
  have c4 : Steps p.tables e below (s₁.setTop (entryFrame m #[.ref a, .ref b] 2)) (T3.setTop (mkF m 9 #[.val (.ref a), .val (.ref b)] [])) := g3
  exact ⟨T3, none, _, _, _, X3, by simp, rfl, by omega, (fun _ => rfl), e0, fun fs hl => c4.trans (X3.returnOut hexec hret (hb hbytes d9) hl)⟩
theorem pays {l : Launch} {R : Room} {p : Program} {e : Env} {below : List Frame} {s : State} {sargs : Array Value} {len W : Nat} (a : Addr) (D : Cell) (fV fC : Field) (b : Addr) (A : Cell) (z : Int32) (htab : tab.before sargs s = true) (hfr : 4 ≤ R.frames) (hlo : W + 65 ≤ R.locals) :
    Back l R p e below s sargs yN len W (fun A₁ a₁ => A₁.cells + 1 ≤ R.cells ∧ A₁.slots + A.slots.size ≤ R.slots ∧ P a D fV fC b A z a₁ A₁.U) (fun A₁ _ v₁ B₁ => E a D fV fC A v₁ A₁.U B₁.U ∧ B₁.locs = A₁.locs ++ [⟨a, fC.slot⟩, ⟨a, fV.slot⟩] ∧ B₁.cells = A₁.cells + 1 ∧ B₁.slots = A₁.slots + A.slots.size) :=
  (law l a D fV fC b A z).pays htab hfr (by omega)
end New1
/-- the byte, read back as charAt reads it, is the char -/
theorem lo8_mask {x : Int32} (h0 : ¬ x < 0) (h1 : ¬ 255 < x) : lo8 x &&& 255 = x := by
  have t : ∀ k : Fin 256, lo8 (Int32.ofNat k.val) &&& 255 = Int32.ofNat k.val := by decide +kernel
  rw [Int32.lt_iff_toInt_lt] at h0 h1
  have e0 : (0 : Int32).toInt = 0 := rfl
  have e1 : (255 : Int32).toInt = 255 := rfl
  obtain ⟨k, hk⟩ : ∃ k : Nat, x.toInt = k := ⟨x.toInt.toNat, by omega⟩
  have hx : x = Int32.ofNat k := Int32.toInt_inj.mp (by rw [hk, Int32.toInt_ofNat_small (by omega)])
  rw [hx]
  exact t ⟨k, by omega⟩
end StrChars
namespace StrChars.Road
open Jvm Sem ClassFile Op Lib Jvm.Stand Jvm.Free Jvm.Free.XT
open Jvm.Lib.Cold (StaticIs)
abbrev ST : String := "java/lang/String"
/-- every table word that New1's law asks, flat -/
abbrev words : List Jvm.Cond := [.code New1.yN New1.yB 2 none, .initialized ST, .methodLink ST 27 New4.yN, .instanceMethod New4.yN,
  .code New4.yN New4.yB 6 none, .fieldLink ST 38 ST "COMPACT_STRINGS" "Z", .laysFinal ST ST "value" "[B", .fieldLink ST 9 ST "value" "[B", .laysFinal ST ST "coder" "B", .fieldLink ST 15 ST "coder" "B",
  .methodLink ST 1 Lib.objectInit, .instanceMethod Lib.objectInit, .code Lib.objectInit ⟨#[0xb1]⟩ 1 none, .methodLink ST 177 Cmp3.yN, .static Cmp3.yN, .methodLink ST 47 CodL.yN, .static CodL.yN,
  .code Cmp3.yN Cmp3.yB 6 (some (.array .byte)), .initialized U16, .arrayClass .byte, .methodLink U16 115 Cmp5.yN, .static Cmp5.yN, .code Cmp5.yN Cmp5.yB 7 (some .int), .code CodL.yN CodL.yB 2 (some .byte)]
theorem tab_of {a : Array Value} {s : State} (h : ∀ w ∈ words, w.before a s = true) : New1.tab.before a s = true := by
  have h5 : Cmp5.tab.before a s = true := unparts (wk h (.code Cmp5.yN Cmp5.yB 7 (some .int))) (wks h (.initialized Cmp5.yN.cls :: Cmp5.site))
  have hc : CodL.tab.before a s = true := unparts (wk h (.code CodL.yN CodL.yB 2 (some .byte))) (wks h (.initialized CodL.yN.cls :: CodL.site))
  have q5 : ∀ w ∈ Cmp5.tab :: words, w.before a s = true := fun w hw => (List.mem_cons.mp hw).elim (fun e => e ▸ h5) (h w)
  have h3 : Cmp3.tab.before a s = true := unparts (wk q5 (.code Cmp3.yN Cmp3.yB 6 (some (.array .byte)))) (wks q5 (.initialized Cmp3.yN.cls :: Cmp3.site))
  have q3 : ∀ w ∈ Cmp3.tab :: CodL.tab :: words, w.before a s = true := fun w hw => (List.mem_cons.mp hw).elim (fun e => e ▸ h3) fun hw => (List.mem_cons.mp hw).elim (fun e => e ▸ hc) (h w)
  have h4 : New4.tab.before a s = true := unparts (wk q3 (.code New4.yN New4.yB 6 none)) (wks q3 (.initialized New4.yN.cls :: New4.site))
  have q4 : ∀ w ∈ New4.tab :: words, w.before a s = true := fun w hw => (List.mem_cons.mp hw).elim (fun e => e ▸ h4) (h w)
  exact unparts (wk q4 (.code New1.yN New1.yB 2 none)) (wks q4 (.initialized New1.yN.cls :: New1.site))
/-- the words ride from the start Z to the walk's own state -/
theorem moved {Z s : State} {a0 args : Array Value} (hZ : Z.Warmed39 s.vm) (hw : ∀ d ∈ words, d.before a0 Z = true) : ∀ d ∈ words, d.before args s = true := fun d hd => by
  have q := hw d hd
  have t : ∀ d ∈ words, d = .arrayClass .byte ∨ (d.onTables && d.keepsFace) = true := by decide +kernel
  rcases t d hd with rfl | t
  · exact RoadKit.mvA hZ q
  · exact RoadKit.mv hZ q t
/-- WHAT COMES BACK, over the tables of the start Z: h the heap at the call, h' behind it -/
def Q (Z : State) (x : Addr) (A : Cell) (h : Heap) (v : Option Value) (h' : Heap) (L : List Loc) : Prop := v = none ∧ (∀ y ∈ L, y.base = x) ∧ RoadKit.Keep h h' [x] ∧ h'.size = h.size + 1 ∧ RoadKit.Exa Z h' x ST ∧ RoadKit.Fld Z h' x ST "value" "[B" (.ref h.size) ∧ RoadKit.Fld Z h' x ST "coder" "B" (.int 0) ∧
  (∃ V : Cell, RoadKit.Arr Z h' h.size V .byte ∧ V.vm = .none ∧ Z.vm.findClass "[B" = some V.cls ∧ V.slots.size = A.slots.size ∧ ∀ j, j < A.slots.size → V.slots[j]? = some (.int (lo8 (cv A j)))) ∧
  ∀ (O n d : String) (w : Value), RoadKit.Fld Z h x O n d w → RoadKit.slotOf Z O n d ≠ RoadKit.slotOf Z ST "value" "[B" → RoadKit.slotOf Z O n d ≠ RoadKit.slotOf Z ST "coder" "B" → RoadKit.Fld Z h' x O n d w
/-- **new String(chars) AT A CALL, IN THE ROAD'S FORM**: for specialBack behind newO: x the fresh String, b the char[] with the cell A -/
theorem back {p : Program} {l : Launch} {e : Env} {R : Room} {s : State} {args : Array Value} {below : List Frame} {len W : Nat} {Z : State} {a0 : Array Value} {h : Heap} (hZ : Z.Warmed39 s.vm) (hw : ∀ d ∈ words, d.before a0 Z = true) {kI : Nat} (wi : (Jvm.Cond.instantiable ST kI).before a0 Z = true)
    {x b : Addr} {A : Cell} {z : Int32} {v0 c0 : Value} (E : RoadKit.Exa Z h x ST) (V : RoadKit.Fld Z h x ST "value" "[B" v0) (C : RoadKit.Fld Z h x ST "coder" "B" c0) (K : RoadKit.Arr Z h b A .char) (hty : Typed .char A) (S : RoadKit.Sta Z h ST "COMPACT_STRINGS" "Z" (.int z)) (hz : ¬ z = 0)
    (l0 : 0 < A.slots.size) (l2 : A.slots.size ≤ 536870912) (hp : ∀ i, i < A.slots.size → ¬ 255 < cv A i) (hfr : 4 ≤ R.frames) (hlo : W + 65 ≤ R.locals) :
    Back l R p e below s args New1.yN len W (fun P a => a = #[.ref x, .ref b] ∧ P.U.heap = h ∧ P.cells + 1 ≤ R.cells ∧ P.slots + A.slots.size ≤ R.slots)
      (fun P _ v B => ∃ L, Q Z x A h v B.U.heap L ∧ B.locs = P.locs ++ L ∧ B.cells = P.cells + 1 ∧ B.slots = P.slots + A.slots.size) := by
  intro m meth c P g ig mk a X hg hsize hdg hW hn hp'
  obtain ⟨rfl, rfl, r1, r2⟩ := hp'
  have al : Z.vm.Alike P.U.vm := hZ.alike.trans X.warmed.alike
  obtain ⟨D, cfV, kV, iV, fV, hD, gV, stV, knV, obV, asV, slV⟩ := id V
  obtain ⟨D', cfC, kC, iC, fC, hD', gC, stC, -, -, asC, slC⟩ := id C
  cases hD.symm.trans hD'
  obtain ⟨D2, kD, e1, e2, e3, e4, e5⟩ := id E
  cases hD.symm.trans e1
  obtain ⟨c2, k2, i1, i2, i3, -⟩ := Cond.instantiable_spec wi
  cases e2.symm.trans i1
  cases e3.symm.trans i2
  obtain ⟨kU, u1, u2⟩ := al.2.2 _ _ e3
  have hB : Blank ST x D P.U := ⟨hD, ⟨knV, fun q hq => by rw [hq] at obV; cases obV⟩, by rw [al.findClass]; exact e2, kU, u1, by rw [u2]; exact i3, by rw [u2]; exact e5 i3⟩
  have F1 : Found ST "value" "[B" fV P.U := ⟨SBG.found_only al ⟨cfV, kV, iV, gV⟩, stV⟩
  have F2 : Found ST "coder" "B" fC P.U := ⟨SBG.found_only al ⟨cfC, kC, iC, gC⟩, stC⟩
  have hA : Ch b A P.U := ⟨⟨K.1, State.isArrayOf_alike al K.2.1, K.2.2, by omega⟩, hty⟩
  have hS : StaticIs P.U ST "COMPACT_STRINGS" "Z" (.int z) := by
    obtain ⟨cfS, iS, kS, fS, st, cS, t1, t2, t3, t4, t5, t6, t7⟩ := S
    exact StaticIs.there (s := { Z with heap := P.U.heap }) ⟨cfS, iS, kS, fS, st, cS, t1, t2, t3, t4, t5, (fun q => by rw [q] at t6; cases t6), t7⟩ al rfl
  obtain ⟨v, B, X', ⟨⟨hv, E', V', q1, q2, q3, q4, q5, q6, q7, q8, q9, q10, q11⟩, hl, hc, hs⟩, st⟩ := New1.pays x D fV fC b A z (tab_of (moved hZ hw)) hfr hlo m meth c P g ig mk _ X hg hsize hdg hW hn ⟨r1, r2, rfl, hB, F1, F2, hA, hS, hz, l0, l2, hp⟩
  have al' : Z.vm.Alike B.U.vm := hZ.alike.trans X'.warmed.alike
  have hsz : E'.slots.size = D.slots.size := by
    obtain ⟨-, -, -, kB, w1, w2, w3⟩ := q1
    obtain ⟨kB', y1, y2⟩ := al'.2.2 _ _ e3
    rw [q2.2.1] at w1
    cases w1.symm.trans y1
    rw [w3, e5 i3, y2]
  refine ⟨v, B, X', ⟨_, ⟨hv, ?_, ⟨by omega, fun y cy hy hn' => q10 y cy (by simpa using hn') hy, fun y cy hy => ?_⟩, q11, ⟨E', _, q1.1, by rw [q2.2.1]; exact e2, by rw [q2.2.1]; exact e3, by rw [q2.1]; exact obV, fun _ => by rw [hsz]; exact e5 i3⟩,
    ⟨E', cfV, kV, iV, fV, q1.1, gV, stV, by rw [q2.1]; exact knV, by rw [q2.1]; exact obV, by rw [q2.2.1]; exact asV, q3⟩, ⟨E', cfC, kC, iC, fC, q1.1, gC, stC, by rw [q2.1]; exact knV, by rw [q2.1]; exact obV, by rw [q2.2.1]; exact asC, q4⟩,
    ⟨V', ⟨q5.1, State.isArrayOf_alike al'.symm q5.2.1, q5.2.2.1⟩, q6, by rw [← al'.findClass]; exact q7, q8, fun j hj => by have := q9 j hj; rwa [Nat.zero_add] at this⟩, fun O n d w F n1 n2 => ?_⟩, hl, hc, hs⟩, st⟩
  · intro y hy
    simp only [List.mem_cons, List.not_mem_nil, or_false] at hy
    rcases hy with rfl | rfl <;> rfl
  · by_cases q : y = x
    · subst q
      cases hD.symm.trans hy
      exact ⟨E', q1.1, q2.2.1, q2.1, hsz⟩
    · exact ⟨cy, q10 y cy q hy, rfl, rfl, rfl⟩
  · obtain ⟨D3, cf, k, i, f, g1, g2, g3, g4, g5, g6, g7⟩ := F
    cases hD.symm.trans g1
    simp only [RoadKit.slotOf, g2, gV, gC, Option.map_some, Option.getD_some] at n1 n2
    exact ⟨E', cf, k, i, f, q1.1, g2, g3, by rw [q2.1]; exact g4, by rw [q2.1]; exact g5, by rw [q2.2.1]; exact g6, by rw [q2.2.2 f.slot (by simp [n1, n2])]; exact g7⟩
end StrChars.Road
namespace StrChars.Road
open Jvm Sem ClassFile Op Lib Jvm.Stand Jvm.Free Jvm.Free.XT
/-- WHAT COMES BACK, the byte[] as a list of values -/
def QA (Z : State) (x : Addr) (zn : Int32) (cs : List Int32) (h : Heap) (v : Option Value) (h' : Heap) (L : List Loc) : Prop := v = none ∧ (∀ y ∈ L, y.base = x) ∧ RoadKit.Keep h h' [x] ∧ h'.size = h.size + 1 ∧ RoadKit.Exa Z h' x ST ∧ RoadKit.Fld Z h' x ST "value" "[B" (.ref h.size) ∧ RoadKit.Fld Z h' x ST "coder" "B" (.int 0) ∧
  (∃ kb, Z.vm.findClass "[B" = some kb ∧ RoadKit.Arv Z h' h.size kb .byte zn (cs.map fun c => .int (lo8 c)) (.int 0)) ∧
  ∀ (O n d : String) (w : Value), RoadKit.Fld Z h x O n d w → RoadKit.slotOf Z O n d ≠ RoadKit.slotOf Z ST "value" "[B" → RoadKit.slotOf Z O n d ≠ RoadKit.slotOf Z ST "coder" "B" → RoadKit.Fld Z h' x O n d w
/-- **new String(chars) AT A CALL, THE ARRAYS AS LISTS**: the char[] at b holds cs, not empty, no char above 255 -/
theorem backArv {p : Program} {l : Launch} {e : Env} {R : Room} {s : State} {args : Array Value} {below : List Frame} {len W : Nat} {Z : State} {a0 : Array Value} {h : Heap} (hZ : Z.Warmed39 s.vm) (hw : ∀ d ∈ words, d.before a0 Z = true) {kI : Nat} (wi : (Jvm.Cond.instantiable ST kI).before a0 Z = true)
    {x b : Addr} {k : ClassId} {zn z : Int32} {cs : List Int32} {dv v0 c0 : Value} (E : RoadKit.Exa Z h x ST) (V : RoadKit.Fld Z h x ST "value" "[B" v0) (C : RoadKit.Fld Z h x ST "coder" "B" c0) (K : RoadKit.Arv Z h b k .char zn (cs.map Value.int) dv) (S : RoadKit.Sta Z h ST "COMPACT_STRINGS" "Z" (.int z)) (hz : ¬ z = 0)
    (hlen : zn.toNatClampNeg = cs.length) (h0 : 0 < cs.length) (hbig : cs.length ≤ 536870912) (hall : ∀ c ∈ cs, ¬ 255 < c) (hfr : 4 ≤ R.frames) (hlo : W + 65 ≤ R.locals) :
    Back l R p e below s args New1.yN len W (fun P a => a = #[.ref x, .ref b] ∧ P.U.heap = h ∧ P.cells + 1 ≤ R.cells ∧ P.slots + cs.length ≤ R.slots)
      (fun P _ v B => ∃ L, QA Z x zn cs h v B.U.heap L ∧ B.locs = P.locs ++ L ∧ B.cells = P.cells + 1 ∧ B.slots = P.slots + cs.length) := by
  obtain ⟨A, K1, K2, K3, K4, K5, K6⟩ := K
  have e : A.slots.size = cs.length := K3.trans hlen
  have hat : ∀ (i : Nat) (hi : i < cs.length), A.slots[i]? = some (.int cs[i]) := fun i hi => by rw [K5 i (by omega)]; simp [List.getD_eq_getElem?_getD, hi]
  have hcv : ∀ (i : Nat) (hi : i < cs.length), cv A i = cs[i] := fun i hi => by unfold cv; rw [hat i hi]
  have hty : Typed .char A := fun i v hv => by
    have hi : i < A.slots.size := (Array.getElem?_eq_some_iff.mp hv).1
    have q := K5 i hi
    rw [hv] at q
    rw [Option.some.inj q]
    exact K6 i hi
  refine Back.mono (back hZ hw wi E V C K1 hty S hz (by omega) (by omega) (fun i hi => by rw [hcv i (by omega)]; exact hall _ (List.getElem_mem _)) hfr hlo) (fun P a hp => ⟨hp.1, hp.2.1, hp.2.2.1, by rw [e]; exact hp.2.2.2⟩) (fun P a v B hp hq => ?_)
  obtain ⟨L, ⟨q1, q2, q3, q4, q5, q6, q7, ⟨V', v1, v2, v3, v4, v5⟩, q9⟩, hl, hc, hs⟩ := hq
  refine ⟨L, ⟨q1, q2, q3, q4, q5, q6, q7, ⟨V'.cls, v3, V', v1, rfl, by rw [v4, e, hlen], K4, fun i hi => ?_, fun i hi => ?_⟩, q9⟩, hl, hc, by rw [hs, e]⟩
  · have hi' : i < cs.length := by omega
    rw [v5 i (by omega), hcv i hi']; simp [List.getD_eq_getElem?_getD, hi']
  · have hi' : i < cs.length := by omega
    simp only [List.getD_eq_getElem?_getD, List.getElem?_map, List.getElem?_eq_getElem hi', Option.map_some, Option.getD_some]
    exact fits_lo8 _
end StrChars.Road
namespace StrChars.Road
open Jvm Sem ClassFile Op Lib Jvm.Stand Jvm.Free Jvm.Free.XT
/-- WHAT COMES BACK, in the writer's own shape -/
def QV (Z : State) (x : Addr) (N : Int32) (bs : List Int32) (h : Heap) (n0 : Nat) (v : Option Value) (h' : Heap) (L : List Loc) : Prop := v = none ∧ RoadKit.Fr n0 L ∧ RoadKit.Keep h h' [x] ∧ RoadKit.Exa Z h' x ST ∧ RoadKit.Fld Z h' x ST "coder" "B" (.int 0) ∧
  ∃ (t : Addr) (kb : ClassId), n0 ≤ t ∧ h.size ≤ t ∧ ¬ t = x ∧ RoadKit.Fld Z h' x ST "value" "[B" (.ref t) ∧ RoadKit.Arv Z h' t kb .byte N (bs.map Value.int) (.int 0)
/-- **new String(chars) AT A CALL, FOR THE WRITER**: a char[] of n known ints, each 0 to 255 -/
theorem backV {p : Program} {l : Launch} {e : Env} {R : Room} {s : State} {args : Array Value} {below : List Frame} {len W : Nat} {Z : State} {a0 : Array Value} {h : Heap} (hZ : Z.Warmed39 s.vm) (hw : ∀ d ∈ words, d.before a0 Z = true) {kI : Nat} (wi : (Jvm.Cond.instantiable ST kI).before a0 Z = true)
    {x b : Addr} {kC : ClassId} {cs bs : List Int32} {d v0 c0 : Value} {z N : Int32} {n n0 : Nat} (hx0 : n0 ≤ x) (hh0 : n0 ≤ h.size) (E : RoadKit.Exa Z h x ST) (V : RoadKit.Fld Z h x ST "value" "[B" v0) (C : RoadKit.Fld Z h x ST "coder" "B" c0) (K : RoadKit.Arv Z h b kC .char N (cs.map Value.int) d) (S : RoadKit.Sta Z h ST "COMPACT_STRINGS" "Z" (.int z)) (hz : ¬ z = 0)
    (hn : cs.length = n) (hN : N = Int32.ofNat n) (l0 : 0 < n) (l2 : n ≤ 4000) (hp : ∀ c ∈ cs, ¬ c < 0 ∧ ¬ (255 : Int32) < c) (hb : bs = cs.map (fun c => c.toInt8.toInt32)) (hfr : 4 ≤ R.frames) (hlo : W + 65 ≤ R.locals) :
    Back l R p e below s args (⟨"java/lang/String", "<init>", "([C)V"⟩ : MethodName) len W (fun P a => a = #[.ref x, .ref b] ∧ P.U.heap = h ∧ P.cells + 1 ≤ R.cells ∧ P.slots + n ≤ R.slots)
      (fun P _ v B => ∃ L, QV Z x N bs h n0 v B.U.heap L ∧ B.locs = P.locs ++ L ∧ B.cells = P.cells + 1 ∧ B.slots = P.slots + n) := by
  subst hn hN hb
  refine Back.mono (backArv hZ hw wi E V C K S hz (n32 (by omega)) l0 (by omega) (fun c hc => (hp c hc).2) hfr hlo) (fun P a hp => hp) (fun P a v B hp hq => ?_)
  obtain ⟨L, ⟨q1, q2, q3, q4, q5, q6, q7, ⟨kb, v1, v2⟩, q9⟩, hl, hc, hs⟩ := hq
  exact ⟨L, ⟨q1, fun y hy => by rw [q2 y hy]; exact hx0, q3, q5, q7, h.size, kb, hh0, Nat.le_refl _, Nat.ne_of_gt E.lt, q6, by rw [List.map_map]; exact v2⟩, hl, hc, hs⟩
end StrChars.Road
namespace StrChars
open Jvm Sem ClassFile Op Lib Jvm.Stand Jvm.Free.XT Jvm.Free.ALB Jvm.Free.JM Jvm.Free
open Jvm.Lib.Cold (StaticIs)
def hi8 (x : Int32) : Int32 := lo8 (x >>> ((8 : Int32) &&& 31))
/-- what StringUTF16.getChar makes of two bytes -/
def pairCh (u v : Int32) : Int32 := (((u &&& 255) <<< ((0 : Int32) &&& 31)) ||| ((v &&& 255) <<< ((8 : Int32) &&& 31))).toUInt32.toUInt16.toUInt32.toInt32
theorem shr0 (c : Int32) : c >>> ((0 : Int32) &&& 31) = c := by
  have e : ((0 : Int32) &&& 31) = 0 := by decide
  rw [e]
  apply Int32.toBitVec_inj.mp
  rw [Int32.toBitVec_shiftRight]
  have e1 : ((0 : Int32).toBitVec.smod 32) = 0#32 := by decide
  rw [e1, BitVec.sshiftRight_eq']
  exact BitVec.sshiftRight_zero
theorem lo8_and (x : Int32) : (lo8 x &&& 255).toBitVec.toNat = x.toBitVec.toNat % 256 := by
  have h : (lo8 x).toBitVec = (x.toBitVec.signExtend 8).signExtend 32 := by rw [lo8, Int8.toBitVec_toInt32, Int32.toBitVec_toInt8]
  rw [Int32.toBitVec_and, BitVec.toNat_and, h]
  have e : ((x.toBitVec.signExtend 8).signExtend 32).toNat % 256 = x.toBitVec.toNat % 256 := by
    rw [BitVec.toNat_signExtend]
    have hlt := x.toBitVec.isLt
    simp only [BitVec.toNat_setWidth, BitVec.toNat_signExtend]
    split <;> split <;> omega
  rw [← e]
  exact Nat.and_two_pow_sub_one_eq_mod _ 8
theorem pair_says {c : Int32} (h0 : ¬ c < 0) (h1 : ¬ 65535 < c) : pairCh (lo8 c) (hi8 c) = c := by
  rw [Int32.lt_iff_toInt_lt] at h0 h1
  have e0 : (0 : Int32).toInt = 0 := rfl
  have e1 : (65535 : Int32).toInt = 65535 := rfl
  have hc : c.toInt = c.toBitVec.toNat := by
    have := c.toBitVec.isLt
    have e : c.toInt = c.toBitVec.toInt := rfl
    rw [e] at h0 h1
    rw [e]
    rw [BitVec.toInt_eq_toNat_cond] at h0 h1 ⊢
    split at h0 <;> split <;> omega
  have hn : c.toBitVec.toNat < 65536 := by omega
  have a1 := lo8_and c
  have a2 : (hi8 c &&& 255).toBitVec.toNat = c.toBitVec.toNat / 256 := by
    rw [hi8, lo8_and]
    have e : ((8 : Int32) &&& 31) = 8 := by decide
    rw [e, Int32.toBitVec_shiftRight]
    have e2 : ((8 : Int32).toBitVec.smod 32) = 8#32 := by decide
    rw [e2, BitVec.sshiftRight_eq', BitVec.toNat_sshiftRight_of_msb_false (by rw [BitVec.msb_eq_false_iff_two_mul_lt]; omega)]
    show c.toBitVec.toNat >>> 8 % 256 = _
    rw [Nat.shiftRight_eq_div_pow]
    omega
  unfold pairCh
  apply Int32.toBitVec_inj.mp
  apply BitVec.eq_of_toNat_eq
  have f0 : ((0 : Int32) &&& 31) = 0 := by decide
  have f8 : ((8 : Int32) &&& 31) = 8 := by decide
  rw [f0, f8]
  have g : (((lo8 c &&& 255) <<< (0 : Int32)) ||| ((hi8 c &&& 255) <<< (8 : Int32))).toBitVec.toNat = c.toBitVec.toNat := by
    rw [Int32.toBitVec_or, Int32.toBitVec_shiftLeft, Int32.toBitVec_shiftLeft]
    have s0 : ((0 : Int32).toBitVec.smod 32) = 0#32 := by decide
    have s8 : ((8 : Int32).toBitVec.smod 32) = 8#32 := by decide
    rw [s0, s8, BitVec.toNat_or]
    simp only [BitVec.shiftLeft_eq', BitVec.toNat_shiftLeft, a1, a2]
    show (c.toBitVec.toNat % 256) <<< 0 % 2 ^ 32 ||| (c.toBitVec.toNat / 256) <<< 8 % 2 ^ 32 = _
    rw [Nat.shiftLeft_zero, Nat.mod_eq_of_lt (show c.toBitVec.toNat % 256 < 2 ^ 32 by omega), Nat.mod_eq_of_lt (show (c.toBitVec.toNat / 256) <<< 8 < 2 ^ 32 by rw [Nat.shiftLeft_eq]; omega), Nat.or_comm, ← Nat.shiftLeft_add_eq_or_of_lt (by omega), Nat.shiftLeft_eq]
    omega
  show BitVec.toNat (((((lo8 c &&& 255) <<< (0 : Int32)) ||| ((hi8 c &&& 255) <<< (8 : Int32))).toBitVec.setWidth 16).setWidth 32) = _
  rw [BitVec.toNat_setWidth, BitVec.toNat_setWidth, g]
  omega
end StrChars
namespace StrChars
open Jvm Sem ClassFile Op Lib Jvm.Stand Jvm.Free.XT Jvm.Free.ALB Jvm.Free.JM Jvm.Free
open Jvm.Lib.Cold (StaticIs)
theorem shr1 {n : Nat} (h : 2 * n < 2 ^ 31) : Int32.ofNat (2 * n) >>> ((1 : Int32) &&& 31) = Int32.ofNat n := by
  have e : ((1 : Int32) &&& 31) = 1 := by decide
  rw [e]
  apply Int32.toBitVec_inj.mp
  rw [Int32.toBitVec_shiftRight]
  have e1 : ((1 : Int32).toBitVec.smod 32) = 1#32 := by decide
  have hm : (BitVec.ofNat 32 (2 * n)).toNat = 2 * n := by rw [BitVec.toNat_ofNat, Nat.mod_eq_of_lt (by omega)]
  rw [e1, BitVec.sshiftRight_eq']
  apply BitVec.eq_of_toNat_eq
  show ((BitVec.ofNat 32 (2 * n)).sshiftRight 1).toNat = (BitVec.ofNat 32 n).toNat
  rw [BitVec.toNat_sshiftRight_of_msb_false (by rw [BitVec.msb_eq_false_iff_two_mul_lt, hm]; omega), hm, BitVec.toNat_ofNat, Nat.shiftRight_eq_div_pow]
  omega
/-- charAt's cast of a byte read back -/
def chr8 (u : Int32) : Int32 := (u &&& 255).toUInt32.toUInt16.toUInt32.toInt32
theorem chr8_lo8 {c : Int32} (h0 : ¬ c < 0) (h1 : ¬ 255 < c) : chr8 (lo8 c) = c := by
  have t : ∀ k : Fin 256, (Int32.ofNat k.val).toUInt32.toUInt16.toUInt32.toInt32 = Int32.ofNat k.val := by decide +kernel
  unfold chr8
  rw [lo8_mask h0 h1]
  rw [Int32.lt_iff_toInt_lt] at h0 h1
  have e0 : (0 : Int32).toInt = 0 := rfl
  have e1 : (255 : Int32).toInt = 255 := rfl
  obtain ⟨k, hk⟩ : ∃ k : Nat, c.toInt = k := ⟨c.toInt.toNat, by omega⟩
  have hx : c = Int32.ofNat k := Int32.toInt_inj.mp (by rw [hk, Int32.toInt_ofNat_small (by omega)])
  rw [hx]
  exact t ⟨k, by omega⟩
theorem narrow_ch {c : Int32} (h0 : ¬ c < 0) (h1 : ¬ 65535 < c) : narrow .char (.int c) = .int c := by
  have q : narrow .char (.int (pairCh (lo8 c) (hi8 c))) = .int (pairCh (lo8 c) (hi8 c)) := narrow_c _
  rwa [pair_says h0 h1] at q
/-- the array's cell V codes the n chars f 0 .. f (n - 1) by the coder cd, as the JDK does: coder 1 just where some char is above 255 -/
def Cod (cd : Int32) (n : Nat) (f : Nat → Int32) (V : Cell) : Prop := (cd = 0 ∧ V.slots.size = n ∧ ∀ j, j < n → V.slots[j]? = some (.int (lo8 (f j))) ∧ ¬ 255 < f j) ∨ (cd = 1 ∧ V.slots.size = 2 * n ∧ (∀ j, j < n → V.slots[2 * j]? = some (.int (lo8 (f j))) ∧ V.slots[2 * j + 1]? = some (.int (hi8 (f j)))) ∧ ∃ j, j < n ∧ 255 < f j)
theorem Cod.cd {cd : Int32} {n : Nat} {f : Nat → Int32} {V : Cell} (h : Cod cd n f V) : cd = 0 ∨ cd = 1 := h.imp (fun q => q.1) fun q => q.1
theorem Cod.len {cd : Int32} {n : Nat} {f : Nat → Int32} {V : Cell} (h : Cod cd n f V) (hs : V.slots.size < 2 ^ 31) : Int32.ofNat V.slots.size >>> (cd &&& 31) = Int32.ofNat n := by
  rcases h with ⟨rfl, h, -⟩ | ⟨rfl, h, -⟩
  · rw [shr0, h]
  · rw [h, shr1 (by omega)]
/-- **x is a String of the n chars f 0 .. f (n - 1)**, Latin-1 or UTF-16; its array at t has the cell V -/
def Txt (x t : Addr) (V : Cell) (cd : Int32) (n : Nat) (f : Nat → Int32) (U : State) : Prop := Exact "java/lang/String" x U ∧ Has x "java/lang/String" "value" "[B" (.ref t) U ∧ Has x "java/lang/String" "coder" "B" (.int cd) U ∧ XT.Arr .byte t V U ∧ Cod cd n f V ∧ ∀ j, j < n → ¬ f j < 0 ∧ ¬ 65535 < f j
theorem Txt.mv {x t : Addr} {V : Cell} {cd : Int32} {n : Nat} {f : Nat → Int32} {U U' : State} (h : Txt x t V cd n f U) (hal : U.vm.Alike U'.vm) (hh : U'.heap = U.heap) : Txt x t V cd n f U' := ⟨h.1.mv hal hh, h.2.1.mv hal hh, h.2.2.1.mv hal hh, h.2.2.2.1.mv hal hh, h.2.2.2.2⟩
namespace Cdr
def yN : MethodName := ⟨"java/lang/String", "coder", "()B"⟩
abbrev yB : ByteArray := jdk_42_method_152_code
theorem d0 : decode yB 0 = .ok (.getstatic 38, 3) := by decide +kernel
theorem d3 : decode yB 3 = .ok (.ifCond (.eq) 10, 3) := by decide +kernel
theorem d6 : decode yB 6 = .ok (.aload_n 0, 1) := by decide +kernel
theorem d7 : decode yB 7 = .ok (.getfield 15, 3) := by decide +kernel
theorem d10 : decode yB 10 = .ok (.goto 4, 3) := by decide +kernel
theorem d14 : decode yB 14 = .ok (.ireturn, 1) := by decide +kernel
def site : List Cond := [.fieldLink "java/lang/String" 38 "java/lang/String" "COMPACT_STRINGS" "Z", .fieldLink "java/lang/String" 15 "java/lang/String" "coder" "B"]
def tab : Cond := tabOf yN yB 1 (some .byte) site
def P (x : Addr) (cd z : Int32) (args : Array Value) (s : State) : Prop := args = #[.ref x] ∧ Has x "java/lang/String" "coder" "B" (.int cd) s ∧ (cd = 0 ∨ cd = 1) ∧ StaticIs s "java/lang/String" "COMPACT_STRINGS" "Z" (.int z) ∧ ¬ z = 0
def E (cd : Int32) (r : Option Value) (s u : State) : Prop := XT.PureE (some (.int cd)) r s u
theorem law (l : Launch) (x : Addr) (cd z : Int32) : Law l yN 1 0 0 0 yB 1 (some .byte) site (P x cd z) (E cd) [] 0 0 := by
  refine Law.of_walk (plainFor_of_name (by decide +kernel)) (by decide +kernel) (by decide +kernel) (by decide) (fun _ _ h => by rw [h.1]; rfl) (fun _ U U' hal hh h => ⟨h.1, h.2.1.mv hal hh, h.2.2.1, h.2.2.2.1.there hal hh, h.2.2.2.2⟩) (fun r U U' V V' h1 hal h2 h => XT.PureE.mv r U U' V V' h1 hal h2 h) ?_
  intro p e s m args below meth c s₁ X0 hexec hbytes hml hret hlk hnm hown hh0 W hP
  obtain ⟨rfl, hx, hc, s1, hz⟩ := hP
  have c1 : Steps p.tables e below (s₁.setTop (entryFrame m #[.ref x] 1)) (s₁.setTop (mkF m 0 #[.val (.ref x)] [])) := entry rfl
  obtain ⟨T2, X2, q2, st2⟩ := X0.sget hexec hown (wk W (.fieldLink "java/lang/String" 38 "java/lang/String" "COMPACT_STRINGS" "Z")) s1 (fun _ _ h => by rw [hh0]; exact h) (g := (mkF m 0 #[.val (.ref x)] [])) rfl (hb hbytes d0)
  have hh2 := q2.trans hh0
  have c3 : Steps p.tables e below (s₁.setTop (entryFrame m #[.ref x] 1)) (T2.setTop (mkF m 7 #[.val (.ref x)] [.ref x])) := (c1.trans (st2 _ (Steps.refl _))).trans (by
    refine XS.ifNo X2.here hexec rfl (hb hbytes d3) rfl (i0_eq_f hz) ?_
    refine XS.aloadN X2.here hexec rfl (hb hbytes d6) rfl rfl ?_
    exact Steps.refl _)
  obtain ⟨T4, X4, q4, st4⟩ := X2.hget hexec hown (wk W (.fieldLink "java/lang/String" 15 "java/lang/String" "coder" "B")) (hx.mv X2.warmed.alike hh2) (g := (mkF m 7 #[.val (.ref x)] [.ref x])) rfl (rest := []) rfl (hb hbytes d7)
  have c5 : Steps p.tables e below (s₁.setTop (entryFrame m #[.ref x] 1)) (T4.setTop (mkF m 14 #[.val (.ref x)] [.int cd])) := (c3.trans (st4 _ (Steps.refl _))).trans (by
    refine XS.goto X4.here hexec rfl (pc0 := 10) rfl (hb hbytes d10) (by decide) rfl ?_
    exact Steps.refl _)
  exact ⟨T4, some (.int cd), _, _, _, X4, rfl, rfl, rfl, (fun h => by cases h), ⟨rfl, q4.trans hh2⟩, fun fs hl => c5.trans (X4.ireturnOut hexec hret (by rcases hc with rfl | rfl <;> rfl) (Or.inr (Or.inr (Or.inl rfl))) (hb hbytes d14) hl)⟩
end Cdr
namespace Len
def yN : MethodName := ⟨"java/lang/String", "length", "()I"⟩
abbrev yB : ByteArray := jdk_42_method_54_code
theorem d0 : decode yB 0 = .ok (.aload_n 0, 1) := by decide +kernel
theorem d1 : decode yB 1 = .ok (.getfield 9, 3) := by decide +kernel
theorem d4 : decode yB 4 = .ok (.arraylength, 1) := by decide +kernel
theorem d5 : decode yB 5 = .ok (.aload_n 0, 1) := by decide +kernel
theorem d6 : decode yB 6 = .ok (.invokevirtual 335, 3) := by decide +kernel
theorem d9 : decode yB 9 = .ok (.ishr, 1) := by decide +kernel
theorem d10 : decode yB 10 = .ok (.ireturn, 1) := by decide +kernel
def site : List Cond := [.fieldLink "java/lang/String" 9 "java/lang/String" "value" "[B", Cdr.tab] ++ virtW "java/lang/String" 335 "java/lang/String" Cdr.yN Cdr.yN
def tab : Cond := tabOf yN yB 1 (some .int) site
def P (x t : Addr) (V : Cell) (cd : Int32) (n : Nat) (f : Nat → Int32) (z : Int32) (args : Array Value) (s : State) : Prop := args = #[.ref x] ∧ Txt x t V cd n f s ∧ StaticIs s "java/lang/String" "COMPACT_STRINGS" "Z" (.int z) ∧ ¬ z = 0
def E (n : Nat) (r : Option Value) (s u : State) : Prop := XT.PureE (some (.int (Int32.ofNat n))) r s u
/-- length() of a String of n chars, in either coding -/
theorem law (l : Launch) (x t : Addr) (V : Cell) (cd : Int32) (n : Nat) (f : Nat → Int32) (z : Int32) : Law l yN 1 0 1 13 yB 1 (some .int) site (P x t V cd n f z) (E n) [] 0 0 := by
  refine Law.of_walk (plainFor_of_name (by decide +kernel)) (by decide +kernel) (by decide +kernel) (by decide) (fun _ _ h => by rw [h.1]; rfl) (fun _ U U' hal hh h => ⟨h.1, h.2.1.mv hal hh, h.2.2.1.there hal hh, h.2.2.2⟩) (fun r U U' V V' h1 hal h2 h => XT.PureE.mv r U U' V V' h1 hal h2 h) ?_
  intro p e s m args below meth c s₁ X0 hexec hbytes hml hret hlk hnm hown hh0 W hP
  obtain ⟨rfl, hx, s1, hz⟩ := hP
  have v31 := hx.2.2.2.1.2.2.2
  have c1 : Steps p.tables e below (s₁.setTop (entryFrame m #[.ref x] 1)) (s₁.setTop (mkF m 1 #[.val (.ref x)] [.ref x])) := Steps.trans (entry rfl) (by
    show Steps p.tables e below (s₁.setTop (mkF m 0 #[.val (.ref x)] [])) _
    refine XS.aloadN X0.here hexec rfl (hb hbytes d0) rfl rfl ?_
    exact Steps.refl _)
  obtain ⟨T2, X2, q2, st2⟩ := X0.hget hexec hown (wk W (.fieldLink "java/lang/String" 9 "java/lang/String" "value" "[B")) (hx.mv X0.warmed.alike hh0).2.1 (g := (mkF m 1 #[.val (.ref x)] [.ref x])) rfl (rest := []) rfl (hb hbytes d1)
  have hh2 := q2.trans hh0
  have hx2 := hx.mv X2.warmed.alike hh2
  have c3 : Steps p.tables e below (s₁.setTop (entryFrame m #[.ref x] 1)) (T2.setTop (mkF m 6 #[.val (.ref x)] [.ref x, .int (Int32.ofNat V.slots.size)])) := (c1.trans (st2 _ (Steps.refl _))).trans (by
    refine X2.alen hexec hx2.2.2.2.1 rfl rfl (hb hbytes d4) ?_
    refine XS.aloadN X2.here hexec rfl (hb hbytes d5) rfl rfl ?_
    exact Steps.refl _)
  obtain ⟨v4, T4, X4, E4, g4⟩ := X2.callV hexec (Cdr.law l x cd z) hown (wks W (virtW "java/lang/String" 335 "java/lang/String" Cdr.yN Cdr.yN)) rfl (by decide) (wk W Cdr.tab) (W := 1) (Nat.le_of_ble_eq_true rfl) (Nat.le_of_ble_eq_true rfl) (Nat.le_refl _) (Nat.le_refl _) (hx2.1.fc X2.warmed.alike) hx2.1.is (g := (mkF m 6 #[.val (.ref x)] [.ref x, .int (Int32.ofNat V.slots.size)])) rfl (by rw [hml]; rfl) c3 (argsL := []) (rest := [.int (Int32.ofNat V.slots.size)]) rfl rfl (by show 2 * 0 + (1 + 0) ≤ _; decide) (hb hbytes d6) (⟨rfl, hx2.2.2.1, hx.2.2.2.2.1.cd, s1.there X2.warmed.alike hh2, hz⟩)
  obtain ⟨rfl, q4⟩ := E4
  have c5 : Steps p.tables e below (s₁.setTop (entryFrame m #[.ref x] 1)) (T4.setTop (mkF m 10 #[.val (.ref x)] [.int (Int32.ofNat V.slots.size >>> (cd &&& 31))])) := Steps.trans g4 (by
    refine ishr X4.here hexec rfl (hb hbytes d9) rfl ?_
    exact Steps.refl _)
  rw [hx.2.2.2.2.1.len v31] at c5
  exact ⟨T4, some (.int (Int32.ofNat n)), _, _, _, X4, rfl, rfl, rfl, (fun h => by cases h), ⟨rfl, q4.trans hh2⟩, fun fs hl => c5.trans (X4.ireturnOut hexec hret rfl (Or.inl rfl) (hb hbytes d10) hl)⟩
theorem pays {l : Launch} {R : Room} {p : Program} {e : Env} {below : List Frame} {s : State} {sargs : Array Value} {len W : Nat} (x t : Addr) (V : Cell) (cd : Int32) (n : Nat) (f : Nat → Int32) (z : Int32) (htab : tab.before sargs s = true) (hfr : 2 ≤ R.frames) (hlo : W + 25 ≤ R.locals) :
    Back l R p e below s sargs yN len W (fun A₁ a₁ => A₁.cells + 0 ≤ R.cells ∧ A₁.slots + 0 ≤ R.slots ∧ P x t V cd n f z a₁ A₁.U) (fun A₁ _ v₁ B₁ => E n v₁ A₁.U B₁.U ∧ B₁.locs = A₁.locs ++ [] ∧ B₁.cells = A₁.cells + 0 ∧ B₁.slots = A₁.slots + 0) :=
  (law l x t V cd n f z).pays htab hfr (by omega)
end Len
namespace IsL
def yN : MethodName := ⟨"java/lang/String", "isLatin1", "()Z"⟩
abbrev yB : ByteArray := jdk_42_method_154_code
theorem d0 : decode yB 0 = .ok (.getstatic 38, 3) := by decide +kernel
theorem d3 : decode yB 3 = .ok (.ifCond (.eq) 14, 3) := by decide +kernel
theorem d6 : decode yB 6 = .ok (.aload_n 0, 1) := by decide +kernel
theorem d7 : decode yB 7 = .ok (.getfield 15, 3) := by decide +kernel
theorem d10 : decode yB 10 = .ok (.ifCond (.ne) 7, 3) := by decide +kernel
theorem d13 : decode yB 13 = .ok (.iconst 1, 1) := by decide +kernel
theorem d14 : decode yB 14 = .ok (.goto 4, 3) := by decide +kernel
theorem d17 : decode yB 17 = .ok (.iconst 0, 1) := by decide +kernel
theorem d18 : decode yB 18 = .ok (.ireturn, 1) := by decide +kernel
def site : List Cond := [.fieldLink "java/lang/String" 38 "java/lang/String" "COMPACT_STRINGS" "Z", .fieldLink "java/lang/String" 15 "java/lang/String" "coder" "B"]
def tab : Cond := tabOf yN yB 1 (some .boolean) site
def P (x : Addr) (cd z : Int32) (args : Array Value) (s : State) : Prop := args = #[.ref x] ∧ Has x "java/lang/String" "coder" "B" (.int cd) s ∧ (cd = 0 ∨ cd = 1) ∧ StaticIs s "java/lang/String" "COMPACT_STRINGS" "Z" (.int z) ∧ ¬ z = 0
def E (cd : Int32) (r : Option Value) (s u : State) : Prop := XT.PureE (some (.int (1 - cd))) r s u
theorem law (l : Launch) (x : Addr) (cd z : Int32) : Law l yN 1 0 0 0 yB 1 (some .boolean) site (P x cd z) (E cd) [] 0 0 := by
  refine Law.of_walk (plainFor_of_name (by decide +kernel)) (by decide +kernel) (by decide +kernel) (by decide) (fun _ _ h => by rw [h.1]; rfl) (fun _ U U' hal hh h => ⟨h.1, h.2.1.mv hal hh, h.2.2.1, h.2.2.2.1.there hal hh, h.2.2.2.2⟩) (fun r U U' V V' h1 hal h2 h => XT.PureE.mv r U U' V V' h1 hal h2 h) ?_
  intro p e s m args below meth c s₁ X0 hexec hbytes hml hret hlk hnm hown hh0 W hP
  obtain ⟨rfl, hx, hc, s1, hz⟩ := hP
  have c1 : Steps p.tables e below (s₁.setTop (entryFrame m #[.ref x] 1)) (s₁.setTop (mkF m 0 #[.val (.ref x)] [])) := entry rfl
  obtain ⟨T2, X2, q2, st2⟩ := X0.sget hexec hown (wk W (.fieldLink "java/lang/String" 38 "java/lang/String" "COMPACT_STRINGS" "Z")) s1 (fun _ _ h => by rw [hh0]; exact h) (g := (mkF m 0 #[.val (.ref x)] [])) rfl (hb hbytes d0)
  have hh2 := q2.trans hh0
  have c3 : Steps p.tables e below (s₁.setTop (entryFrame m #[.ref x] 1)) (T2.setTop (mkF m 7 #[.val (.ref x)] [.ref x])) := (c1.trans (st2 _ (Steps.refl _))).trans (by
    refine XS.ifNo X2.here hexec rfl (hb hbytes d3) rfl (i0_eq_f hz) ?_
    refine XS.aloadN X2.here hexec rfl (hb hbytes d6) rfl rfl ?_
    exact Steps.refl _)
  obtain ⟨T4, X4, q4, st4⟩ := X2.hget hexec hown (wk W (.fieldLink "java/lang/String" 15 "java/lang/String" "coder" "B")) (hx.mv X2.warmed.alike hh2) (g := (mkF m 7 #[.val (.ref x)] [.ref x])) rfl (rest := []) rfl (hb hbytes d7)
  have c5 : Steps p.tables e below (s₁.setTop (entryFrame m #[.ref x] 1)) (T4.setTop (mkF m 10 #[.val (.ref x)] [.int cd])) := c3.trans (st4 _ (Steps.refl _))
  have c6 : Steps p.tables e below (s₁.setTop (entryFrame m #[.ref x] 1)) (T4.setTop (mkF m 18 #[.val (.ref x)] [.int (1 - cd)])) := by
    rcases hc with rfl | rfl
    · exact c5.trans (by
        refine XS.ifNo X4.here hexec rfl (hb hbytes d10) rfl (i0_ne_f rfl) ?_
        refine iconstV X4.here hexec rfl 1 (hb hbytes d13) (by decide) ?_
        refine XS.goto X4.here hexec rfl (pc0 := 14) rfl (hb hbytes d14) (by decide) rfl ?_
        exact Steps.refl _)
    · exact c5.trans (by
        refine XS.ifYes X4.here hexec rfl (pc0 := 10) rfl (hb hbytes d10) rfl (i0_ne_t (by decide)) (by decide) rfl ?_
        refine iconstV X4.here hexec rfl 0 (hb hbytes d17) (by decide) ?_
        exact Steps.refl _)
  exact ⟨T4, some (.int (1 - cd)), _, _, _, X4, rfl, rfl, rfl, (fun h => by cases h), ⟨rfl, q4.trans hh2⟩, fun fs hl => c6.trans (X4.ireturnOut hexec hret (by rcases hc with rfl | rfl <;> rfl) (Or.inr (Or.inl rfl)) (hb hbytes d18) hl)⟩
end IsL
namespace LChA
def yN : MethodName := ⟨"java/lang/StringLatin1", "charAt", "([BI)C"⟩
abbrev yB : ByteArray := jdk_43_method_2_code
theorem d0 : decode yB 0 = .ok (.iload_n 1, 1) := by decide +kernel
theorem d1 : decode yB 1 = .ok (.aload_n 0, 1) := by decide +kernel
theorem d2 : decode yB 2 = .ok (.arraylength, 1) := by decide +kernel
theorem d3 : decode yB 3 = .ok (.invokestatic 9, 3) := by decide +kernel
theorem d6 : decode yB 6 = .ok (.aload_n 0, 1) := by decide +kernel
theorem d7 : decode yB 7 = .ok (.iload_n 1, 1) := by decide +kernel
theorem d8 : decode yB 8 = .ok (.baload, 1) := by decide +kernel
theorem d9 : decode yB 9 = .ok (.sipush 255, 3) := by decide +kernel
theorem d12 : decode yB 12 = .ok (.iand, 1) := by decide +kernel
theorem d13 : decode yB 13 = .ok (.i2c, 1) := by decide +kernel
theorem d14 : decode yB 14 = .ok (.ireturn, 1) := by decide +kernel
def site : List Cond := [JO.Str_checkIndex.tab] ++ staticW "java/lang/StringLatin1" 9 JO.Str_checkIndex.yN
def tab : Cond := tabOf yN yB 2 (some .char) site
def P (t : Addr) (V : Cell) (i : Nat) (u : Int32) (fm : Value) (args : Array Value) (s : State) : Prop := args = #[.ref t, .int (Int32.ofNat i)] ∧ XT.Arr .byte t V s ∧ V.slots[i]? = some (.int u) ∧ (StaticIs s "jdk/internal/util/Preconditions" "SIOOBE_FORMATTER" "Ljava/util/function/BiFunction;" fm ∧ fm.isRef = true)
def E (u : Int32) (r : Option Value) (s w : State) : Prop := XT.PureE (some (.int (chr8 u))) r s w
theorem law (l : Launch) (t : Addr) (V : Cell) (i : Nat) (u : Int32) (fm : Value) : Law l yN 2 2 2 27 yB 2 (some .char) site (P t V i u fm) (E u) [] 0 0 := by
  refine Law.of_walk (plainFor_of_name (by decide +kernel)) (by decide +kernel) (by decide +kernel) (by decide) (fun _ _ h => by rw [h.1]; rfl) (fun _ U U' hal hh h => ⟨h.1, h.2.1.mv hal hh, h.2.2.1, h.2.2.2.1.there hal hh, h.2.2.2.2⟩) (fun r U U' V V' h1 hal h2 h => XT.PureE.mv r U U' V V' h1 hal h2 h) ?_
  intro p e s m args below meth c s₁ X0 hexec hbytes hml hret hlk hnm hown hh0 W hP
  obtain ⟨rfl, hV, hu, s1, rf⟩ := hP
  have v31 := hV.2.2.2
  have hi : i < V.slots.size := (Array.getElem?_eq_some_iff.mp hu).1
  have c1 : Steps p.tables e below (s₁.setTop (entryFrame m #[.ref t, .int (Int32.ofNat i)] 2)) (s₁.setTop (mkF m 0 #[.val (.ref t), .val (.int (Int32.ofNat i))] [])) := entry rfl
  have c2 : Steps p.tables e below (s₁.setTop (entryFrame m #[.ref t, .int (Int32.ofNat i)] 2)) (s₁.setTop (mkF m 3 #[.val (.ref t), .val (.int (Int32.ofNat i))] [.int (Int32.ofNat V.slots.size), .int (Int32.ofNat i)])) := c1.trans (by
    refine XS.iloadN X0.here hexec rfl (hb hbytes d0) rfl ?_
    refine XS.aloadN X0.here hexec rfl (hb hbytes d1) rfl rfl ?_
    refine X0.alen hexec (hV.mv X0.warmed.alike hh0) rfl rfl (hb hbytes d2) ?_
    exact Steps.refl _)
  obtain ⟨v3, T3, X3, E3, g3⟩ := X0.callS hexec (JO.Str_checkIndex.law l (Int32.ofNat i) (Int32.ofNat V.slots.size) fm) hown (wks W (staticW "java/lang/StringLatin1" 9 JO.Str_checkIndex.yN)) (wk W JO.Str_checkIndex.tab) (W := 0) (Nat.le_of_ble_eq_true rfl) (Nat.le_of_ble_eq_true rfl) (Nat.le_refl _) (Nat.le_refl _) (g := (mkF m 3 #[.val (.ref t), .val (.int (Int32.ofNat i))] [.int (Int32.ofNat V.slots.size), .int (Int32.ofNat i)])) rfl (by rw [hml]; rfl) c2 (argsL := [.int (Int32.ofNat i), .int (Int32.ofNat V.slots.size)]) (rest := []) rfl rfl (by show 2 * 0 + 0 ≤ _; decide) (hb hbytes d3) (⟨rfl, rf, s1.there X0.warmed.alike hh0, Int32.ofNat_not_neg (by omega), lt32 v31 hi⟩)
  obtain ⟨rfl, q3⟩ := E3
  have hh3 := q3.trans hh0
  have c4 : Steps p.tables e below (s₁.setTop (entryFrame m #[.ref t, .int (Int32.ofNat i)] 2)) (T3.setTop (mkF m 14 #[.val (.ref t), .val (.int (Int32.ofNat i))] [.int (chr8 u)])) := Steps.trans g3 (by
    refine XS.aloadN X3.here hexec rfl (hb hbytes d6) rfl rfl ?_
    refine XS.iloadN X3.here hexec rfl (hb hbytes d7) rfl ?_
    refine X3.aget hexec (hV.mv X3.warmed.alike hh3) rfl hu rfl rfl (hb hbytes d8) ?_
    refine sipushV X3.here hexec rfl 255 (hb hbytes d9) (by decide) ?_
    refine XS.iand X3.here hexec rfl (hb hbytes d12) rfl ?_
    refine i2c X3.here hexec rfl (hb hbytes d13) rfl ?_
    exact Steps.refl _)
  exact ⟨T3, some (.int (chr8 u)), _, _, _, X3, rfl, rfl, rfl, (fun h => by cases h), ⟨rfl, hh3⟩, fun fs hl => c4.trans (X3.ireturnOut hexec hret (narrow_c _) (Or.inr (Or.inr (Or.inr (Or.inl rfl)))) (hb hbytes d14) hl)⟩
end LChA
end StrChars
namespace StrChars.Road
open Jvm Sem ClassFile Op Lib Jvm.Stand Jvm.Free Jvm.Free.XT
open Jvm.Lib.Cold (StaticIs)
theorem consq {a : Array Value} {s : State} {c : Jvm.Cond} {L : List Jvm.Cond} (h0 : c.before a s = true) (h : ∀ w ∈ L, w.before a s = true) : ∀ w ∈ c :: L, w.before a s = true := fun w hw => (List.mem_cons.mp hw).elim (fun e => e ▸ h0) (h w)
/-- the words of String.length(), either coding -/
abbrev wordsLen : List Jvm.Cond := [.code Len.yN Len.yB 1 (some .int), .initialized ST, .fieldLink ST 9 ST "value" "[B", .fieldLink ST 38 ST "COMPACT_STRINGS" "Z", .fieldLink ST 15 ST "coder" "B", .code Cdr.yN Cdr.yB 1 (some .byte), .methodLink ST 335 Cdr.yN, .declares Cdr.yN, .selects ST Cdr.yN Cdr.yN, .instanceMethod Cdr.yN]
theorem tabLen_of {a : Array Value} {s : State} (h : ∀ w ∈ wordsLen, w.before a s = true) : Len.tab.before a s = true := by
  have hc : Cdr.tab.before a s = true := unparts (wk h (.code Cdr.yN Cdr.yB 1 (some .byte))) (wks h (.initialized Cdr.yN.cls :: Cdr.site))
  have q := consq hc h
  exact unparts (wk q (.code Len.yN Len.yB 1 (some .int))) (wks q (.initialized Len.yN.cls :: Len.site))
theorem movedLen {Z s : State} {a0 args : Array Value} (hZ : Z.Warmed39 s.vm) (hw : ∀ d ∈ wordsLen, d.before a0 Z = true) : ∀ d ∈ wordsLen, d.before args s = true := fun d hd => by
  have q := hw d hd
  have t : ∀ d ∈ wordsLen, d = .arrayClass .byte ∨ (d.onTables && d.keepsFace) = true := by decide +kernel
  rcases t d hd with rfl | t
  · exact RoadKit.mvA hZ q
  · exact RoadKit.mv hZ q t
/-- the bytes of the chars cs, low before high -/
def wideBytes : List Int32 → List Value
  | [] => []
  | c :: cs => .int (lo8 c) :: .int (hi8 c) :: wideBytes cs
theorem wide_lo (d : Value) : ∀ (cs : List Int32) (j : Nat), j < cs.length → (wideBytes cs).getD (2 * j) d = .int (lo8 (cs.getD j 0))
  | [], j, h => absurd h (Nat.not_lt_zero j)
  | c :: cs, 0, _ => rfl
  | c :: cs, j + 1, h => by
    have q := wide_lo d cs j (by simpa using h)
    rw [show 2 * (j + 1) = 2 * j + 1 + 1 from by omega]
    simpa [wideBytes] using q
theorem wide_hi (d : Value) : ∀ (cs : List Int32) (j : Nat), j < cs.length → (wideBytes cs).getD (2 * j + 1) d = .int (hi8 (cs.getD j 0))
  | [], j, h => absurd h (Nat.not_lt_zero j)
  | c :: cs, 0, _ => rfl
  | c :: cs, j + 1, h => by
    have q := wide_hi d cs j (by simpa using h)
    rw [show 2 * (j + 1) + 1 = 2 * j + 1 + 1 + 1 from by omega]
    simpa [wideBytes] using q
theorem low_at (d : Value) (cs : List Int32) (j : Nat) (h : j < cs.length) : (cs.map fun c => Value.int (lo8 c)).getD j d = .int (lo8 (cs.getD j 0)) := by
  simp [List.getD_eq_getElem?_getD, h]
/-- an array of N2 bytes vs codes the chars cs by the coder cd -/
def CodA (cs : List Int32) (cd N2 : Int32) (vs : List Value) : Prop := (cd = 0 ∧ N2 = Int32.ofNat cs.length ∧ vs = (cs.map fun c => Value.int (lo8 c)) ∧ ∀ c ∈ cs, ¬ 255 < c) ∨ (cd = 1 ∧ N2 = Int32.ofNat (2 * cs.length) ∧ vs = wideBytes cs ∧ ∃ c ∈ cs, 255 < c)
theorem CodA.cod {cs : List Int32} {cd N2 : Int32} {vs : List Value} {V : Cell} (h : CodA cs cd N2 vs) (hn : 2 * cs.length < 2 ^ 31) (hs : V.slots.size = N2.toNatClampNeg) (hv : RoadKit.Has V vs (.int 0)) : Cod cd cs.length (fun j => cs.getD j 0) V := by
  rcases h with ⟨rfl, rfl, rfl, h⟩ | ⟨rfl, rfl, rfl, c, hc, hw⟩
  · rw [n32 (by omega)] at hs
    exact Or.inl ⟨rfl, hs, fun j hj => ⟨by rw [hv j (by omega), low_at _ _ _ hj], by
      have e : cs.getD j 0 = cs[j] := by simp [List.getD_eq_getElem?_getD, hj]
      show ¬ 255 < cs.getD j 0
      rw [e]; exact h _ (List.getElem_mem _)⟩⟩
  · rw [n32 (by omega)] at hs
    obtain ⟨j, hj, rfl⟩ := List.getElem_of_mem hc
    exact Or.inr ⟨rfl, hs, fun j hj => ⟨by rw [hv _ (by omega), wide_lo _ _ _ hj], by rw [hv _ (by omega), wide_hi _ _ _ hj]⟩, j, hj, by
      have e : cs.getD j 0 = cs[j] := by simp [List.getD_eq_getElem?_getD, hj]
      show 255 < cs.getD j 0
      rw [e]; exact hw⟩
/-- an object of exactly java/lang/String, its two fields found: as the laws ask it -/
theorem strObj {Z U : State} {a0 : Array Value} {kI : Nat} (wi : (Jvm.Cond.instantiable ST kI).before a0 Z = true) (al : Z.vm.Alike U.vm) {x : Addr} {v0 c0 : Value} (E : RoadKit.Exa Z U.heap x ST) (V : RoadKit.Fld Z U.heap x ST "value" "[B" v0) (C : RoadKit.Fld Z U.heap x ST "coder" "B" c0) :
    ∃ (D : Cell) (fV fC : Field), Blank ST x D U ∧ Found ST "value" "[B" fV U ∧ Found ST "coder" "B" fC U ∧ D.slots[fV.slot]? = some v0 ∧ D.slots[fC.slot]? = some c0 ∧ RoadKit.slotOf Z ST "value" "[B" = fV.slot ∧ RoadKit.slotOf Z ST "coder" "B" = fC.slot := by
  obtain ⟨D, cfV, kV, iV, fV, hD, gV, stV, knV, obV, asV, slV⟩ := V
  obtain ⟨D', cfC, kC, iC, fC, hD', gC, stC, -, -, asC, slC⟩ := C
  cases hD.symm.trans hD'
  obtain ⟨D2, kD, e1, e2, e3, e4, e5⟩ := E
  cases hD.symm.trans e1
  obtain ⟨c2, k2, i1, i2, i3, -⟩ := Cond.instantiable_spec wi
  cases e2.symm.trans i1
  cases e3.symm.trans i2
  obtain ⟨kU, u1, u2⟩ := al.2.2 _ _ e3
  exact ⟨D, fV, fC, ⟨hD, ⟨knV, fun q hq => by rw [hq] at obV; cases obV⟩, by rw [al.findClass]; exact e2, kU, u1, by rw [u2]; exact i3, by rw [u2]; exact e5 i3⟩, ⟨SBG.found_only al ⟨cfV, kV, iV, gV⟩, stV⟩, ⟨SBG.found_only al ⟨cfC, kC, iC, gC⟩, stC⟩, slV, slC, by simp [RoadKit.slotOf, gV], by simp [RoadKit.slotOf, gC]⟩
theorem sta_is {Z U : State} (al : Z.vm.Alike U.vm) {C n d : String} {v : Value} (S : RoadKit.Sta Z U.heap C n d v) : StaticIs U C n d v := by
  obtain ⟨cfS, iS, kS, fS, st, cS, t1, t2, t3, t4, t5, t6, t7⟩ := S
  exact StaticIs.there (s := { Z with heap := U.heap }) ⟨cfS, iS, kS, fS, st, cS, t1, t2, t3, t4, t5, (fun q => by rw [q] at t6; cases t6), t7⟩ al rfl
/-- **length() OF SUCH A STRING** -/
theorem lenW {p : Program} {l : Launch} {e : Env} {R : Room} {s : State} {args : Array Value} {below : List Frame} {len W : Nat} {Z : State} {a0 : Array Value} {h : Heap} (hZ : Z.Warmed39 s.vm) (hw : ∀ d ∈ wordsLen, d.before a0 Z = true) {kI : Nat} (wi : (Jvm.Cond.instantiable ST kI).before a0 Z = true)
    {x t : Addr} {kb : ClassId} {cs : List Int32} {cd N2 z : Int32} {vs : List Value} (E : RoadKit.Exa Z h x ST) (V : RoadKit.Fld Z h x ST "value" "[B" (.ref t)) (C : RoadKit.Fld Z h x ST "coder" "B" (.int cd)) (K : RoadKit.Arv Z h t kb .byte N2 vs (.int 0)) (hc : CodA cs cd N2 vs) (hb : ∀ c ∈ cs, ¬ c < 0 ∧ ¬ (65535 : Int32) < c)
    (S : RoadKit.Sta Z h ST "COMPACT_STRINGS" "Z" (.int z)) (hz : ¬ z = 0) (l2 : cs.length ≤ 4000) (hfr : 2 ≤ R.frames) (hlo : W + 25 ≤ R.locals) :
    Back l R p e below s args (⟨"java/lang/String", "length", "()I"⟩ : MethodName) len W (fun P a => a = #[.ref x] ∧ P.U.heap = h ∧ P.cells + 0 ≤ R.cells ∧ P.slots + 0 ≤ R.slots)
      (fun P _ v B => ∃ L, (v = some (.int (Int32.ofNat cs.length)) ∧ L = [] ∧ B.U.heap = h) ∧ B.locs = P.locs ++ L ∧ B.cells = P.cells + 0 ∧ B.slots = P.slots + 0) := by
  obtain ⟨A, K1, K2, K3, K4, K5, K6⟩ := K
  have hcod := hc.cod (by omega) K3 K5
  intro m meth c P g ig mk a X hg hsize hdg hW hn hp'
  obtain ⟨rfl, rfl, r1, r2⟩ := hp'
  have al : Z.vm.Alike P.U.vm := hZ.alike.trans X.warmed.alike
  obtain ⟨D, fV, fC, hB, F1, F2, g1, g2, -, -⟩ := strObj wi al E V C
  have hx : Txt x t A cd cs.length (fun j => cs.getD j 0) P.U := ⟨⟨_, hB.2.2.1, D, hB.1, rfl, by cases q : D.vm <;> first | rfl | exact absurd q (hB.2.1.2 _)⟩, Has.of hB F1 g1, Has.of hB F2 g2, ⟨K1.1, State.isArrayOf_alike al K1.2.1, K1.2.2, by rcases hcod with ⟨-, q, -⟩ | ⟨-, q, -⟩ <;> omega⟩, hcod, fun j hj => by
    have e : cs.getD j 0 = cs[j] := by simp [List.getD_eq_getElem?_getD, hj]
    show ¬ cs.getD j 0 < 0 ∧ ¬ 65535 < cs.getD j 0
    rw [e]; exact hb _ (List.getElem_mem _)⟩
  obtain ⟨v, B, X', ⟨⟨hv, hh⟩, hl, hk, hs⟩, st⟩ := Len.pays x t A cd cs.length (fun j => cs.getD j 0) z (tabLen_of (movedLen hZ hw)) hfr hlo m meth c P g ig mk _ X hg hsize hdg hW hn ⟨r1, r2, rfl, hx, sta_is al S, hz⟩
  exact ⟨v, B, X', ⟨[], ⟨hv, rfl, hh⟩, hl, hk, hs⟩, st⟩
end StrChars.Road
namespace StrChars
open Jvm Sem ClassFile Op Lib Jvm.Stand Jvm.Free.XT Jvm.Free.ALB Jvm.Free.JM Jvm.Free
open Jvm.Lib.Cold (StaticIs)
namespace Emp
def yN : MethodName := ⟨"java/lang/String", "isEmpty", "()Z"⟩
abbrev yB : ByteArray := jdk_42_method_55_code
theorem d0 : decode yB 0 = .ok (.aload_n 0, 1) := by decide +kernel
theorem d1 : decode yB 1 = .ok (.getfield 9, 3) := by decide +kernel
theorem d4 : decode yB 4 = .ok (.arraylength, 1) := by decide +kernel
theorem d5 : decode yB 5 = .ok (.ifCond (.ne) 7, 3) := by decide +kernel
theorem d8 : decode yB 8 = .ok (.iconst 1, 1) := by decide +kernel
theorem d9 : decode yB 9 = .ok (.goto 4, 3) := by decide +kernel
theorem d12 : decode yB 12 = .ok (.iconst 0, 1) := by decide +kernel
theorem d13 : decode yB 13 = .ok (.ireturn, 1) := by decide +kernel
def site : List Cond := [.fieldLink "java/lang/String" 9 "java/lang/String" "value" "[B"]
def tab : Cond := tabOf yN yB 1 (some .boolean) site
def P (x t : Addr) (V : Cell) (cd : Int32) (n : Nat) (f : Nat → Int32) (args : Array Value) (s : State) : Prop := args = #[.ref x] ∧ Txt x t V cd n f s
def E (n : Nat) (r : Option Value) (s u : State) : Prop := XT.PureE (some (.int (if n = 0 then 1 else 0))) r s u
/-- isEmpty() of a String of n chars -/
theorem law (l : Launch) (x t : Addr) (V : Cell) (cd : Int32) (n : Nat) (f : Nat → Int32) : Law l yN 1 0 0 0 yB 1 (some .boolean) site (P x t V cd n f) (E n) [] 0 0 := by
  refine Law.of_walk (plainFor_of_name (by decide +kernel)) (by decide +kernel) (by decide +kernel) (by decide) (fun _ _ h => by rw [h.1]; rfl) (fun _ U U' hal hh h => ⟨h.1, h.2.mv hal hh⟩) (fun r U U' V V' h1 hal h2 h => XT.PureE.mv r U U' V V' h1 hal h2 h) ?_
  intro p e s m args below meth c s₁ X0 hexec hbytes hml hret hlk hnm hown hh0 W hP
  obtain ⟨rfl, hx⟩ := hP
  have v31 := hx.2.2.2.1.2.2.2
  have c1 : Steps p.tables e below (s₁.setTop (entryFrame m #[.ref x] 1)) (s₁.setTop (mkF m 1 #[.val (.ref x)] [.ref x])) := Steps.trans (entry rfl) (by
    show Steps p.tables e below (s₁.setTop (mkF m 0 #[.val (.ref x)] [])) _
    refine XS.aloadN X0.here hexec rfl (hb hbytes d0) rfl rfl ?_
    exact Steps.refl _)
  obtain ⟨T2, X2, q2, st2⟩ := X0.hget hexec hown (wk W (.fieldLink "java/lang/String" 9 "java/lang/String" "value" "[B")) (hx.mv X0.warmed.alike hh0).2.1 (g := (mkF m 1 #[.val (.ref x)] [.ref x])) rfl (rest := []) rfl (hb hbytes d1)
  have hh2 := q2.trans hh0
  have hx2 := hx.mv X2.warmed.alike hh2
  have c3 : Steps p.tables e below (s₁.setTop (entryFrame m #[.ref x] 1)) (T2.setTop (mkF m 5 #[.val (.ref x)] [.int (Int32.ofNat V.slots.size)])) := (c1.trans (st2 _ (Steps.refl _))).trans (by
    refine X2.alen hexec hx2.2.2.2.1 rfl rfl (hb hbytes d4) ?_
    exact Steps.refl _)
  have hz : V.slots.size = 0 ↔ n = 0 := by
    rcases hx.2.2.2.2.1 with ⟨-, q, -⟩ | ⟨-, q, -⟩ <;> omega
  by_cases h0 : n = 0
  · have c4 : Steps p.tables e below (s₁.setTop (entryFrame m #[.ref x] 1)) (T2.setTop (mkF m 13 #[.val (.ref x)] [.int 1])) := c3.trans (by
      refine XS.ifNo X2.here hexec rfl (hb hbytes d5) rfl (i0_ne_f (by rw [hz.mpr h0]; rfl)) ?_
      refine iconstV X2.here hexec rfl 1 (hb hbytes d8) (by decide) ?_
      refine XS.goto X2.here hexec rfl (pc0 := 9) rfl (hb hbytes d9) (by decide) rfl ?_
      exact Steps.refl _)
    exact ⟨T2, some (.int 1), _, _, _, X2, rfl, rfl, rfl, (fun h => by cases h), ⟨by rw [if_pos h0], hh2⟩, fun fs hl => c4.trans (X2.ireturnOut hexec hret rfl (Or.inr (Or.inl rfl)) (hb hbytes d13) hl)⟩
  · have c4 : Steps p.tables e below (s₁.setTop (entryFrame m #[.ref x] 1)) (T2.setTop (mkF m 13 #[.val (.ref x)] [.int 0])) := c3.trans (by
      refine XS.ifYes X2.here hexec rfl (pc0 := 5) rfl (hb hbytes d5) rfl (i0_ne_t (nz32 v31 (by omega))) (by decide) rfl ?_
      refine iconstV X2.here hexec rfl 0 (hb hbytes d12) (by decide) ?_
      exact Steps.refl _)
    exact ⟨T2, some (.int 0), _, _, _, X2, rfl, rfl, rfl, (fun h => by cases h), ⟨by rw [if_neg h0], hh2⟩, fun fs hl => c4.trans (X2.ireturnOut hexec hret rfl (Or.inr (Or.inl rfl)) (hb hbytes d13) hl)⟩
theorem pays {l : Launch} {R : Room} {p : Program} {e : Env} {below : List Frame} {s : State} {sargs : Array Value} {len W : Nat} (x t : Addr) (V : Cell) (cd : Int32) (n : Nat) (f : Nat → Int32) (htab : tab.before sargs s = true) (hfr : 1 ≤ R.frames) (hlo : W + 12 ≤ R.locals) :
    Back l R p e below s sargs yN len W (fun A₁ a₁ => A₁.cells + 0 ≤ R.cells ∧ A₁.slots + 0 ≤ R.slots ∧ P x t V cd n f a₁ A₁.U) (fun A₁ _ v₁ B₁ => E n v₁ A₁.U B₁.U ∧ B₁.locs = A₁.locs ++ [] ∧ B₁.cells = A₁.cells + 0 ∧ B₁.slots = A₁.slots + 0) :=
  (law l x t V cd n f).pays htab hfr (by omega)
end Emp
end StrChars
namespace StrChars.Road
open Jvm Sem ClassFile Op Lib Jvm.Stand Jvm.Free Jvm.Free.XT
open Jvm.Lib.Cold (StaticIs)
/-- the words of String.isEmpty() -/
abbrev wordsEmp : List Jvm.Cond := [.code Emp.yN Emp.yB 1 (some .boolean), .initialized ST, .fieldLink ST 9 ST "value" "[B"]
theorem tabEmp_of {a : Array Value} {s : State} (h : ∀ w ∈ wordsEmp, w.before a s = true) : Emp.tab.before a s = true := unparts (wk h (.code Emp.yN Emp.yB 1 (some .boolean))) (wks h (.initialized Emp.yN.cls :: Emp.site))
theorem movedEmp {Z s : State} {a0 args : Array Value} (hZ : Z.Warmed39 s.vm) (hw : ∀ d ∈ wordsEmp, d.before a0 Z = true) : ∀ d ∈ wordsEmp, d.before args s = true := fun d hd => by
  have t : ∀ d ∈ wordsEmp, (d.onTables && d.keepsFace) = true := by decide +kernel
  exact RoadKit.mv hZ (hw d hd) (t d hd)
/-- the road's facts of a String, as the laws ask it -/
theorem txt_of {Z U : State} {a0 : Array Value} {kI : Nat} (wi : (Jvm.Cond.instantiable ST kI).before a0 Z = true) (al : Z.vm.Alike U.vm) {x t : Addr} {kb : ClassId} {cs : List Int32} {cd N2 : Int32} {vs : List Value} (E : RoadKit.Exa Z U.heap x ST) (V : RoadKit.Fld Z U.heap x ST "value" "[B" (.ref t)) (C : RoadKit.Fld Z U.heap x ST "coder" "B" (.int cd)) (K : RoadKit.Arv Z U.heap t kb .byte N2 vs (.int 0)) (hc : CodA cs cd N2 vs) (hb : ∀ c ∈ cs, ¬ c < 0 ∧ ¬ (65535 : Int32) < c) (l2 : cs.length ≤ 4000) :
    ∃ A, Txt x t A cd cs.length (fun j => cs.getD j 0) U := by
  obtain ⟨A, K1, K2, K3, K4, K5, K6⟩ := K
  have hcod := hc.cod (by omega) K3 K5
  obtain ⟨D, fV, fC, hB, F1, F2, g1, g2, -, -⟩ := strObj wi al E V C
  exact ⟨A, ⟨_, hB.2.2.1, D, hB.1, rfl, by cases q : D.vm <;> first | rfl | exact absurd q (hB.2.1.2 _)⟩, Has.of hB F1 g1, Has.of hB F2 g2, ⟨K1.1, State.isArrayOf_alike al K1.2.1, K1.2.2, by rcases hcod with ⟨-, q, -⟩ | ⟨-, q, -⟩ <;> omega⟩, hcod, fun j hj => by
    have e : cs.getD j 0 = cs[j] := by simp [List.getD_eq_getElem?_getD, hj]
    show ¬ cs.getD j 0 < 0 ∧ ¬ 65535 < cs.getD j 0
    rw [e]; exact hb _ (List.getElem_mem _)⟩
/-- **isEmpty() OF SUCH A STRING** -/
theorem empW {p : Program} {l : Launch} {e : Env} {R : Room} {s : State} {args : Array Value} {below : List Frame} {len W : Nat} {Z : State} {a0 : Array Value} {h : Heap} (hZ : Z.Warmed39 s.vm) (hw : ∀ d ∈ wordsEmp, d.before a0 Z = true) {kI : Nat} (wi : (Jvm.Cond.instantiable ST kI).before a0 Z = true)
    {x t : Addr} {kb : ClassId} {cs : List Int32} {cd N2 : Int32} {vs : List Value} (E : RoadKit.Exa Z h x ST) (V : RoadKit.Fld Z h x ST "value" "[B" (.ref t)) (C : RoadKit.Fld Z h x ST "coder" "B" (.int cd)) (K : RoadKit.Arv Z h t kb .byte N2 vs (.int 0)) (hc : CodA cs cd N2 vs) (hb : ∀ c ∈ cs, ¬ c < 0 ∧ ¬ (65535 : Int32) < c) (l2 : cs.length ≤ 4000) (hfr : 1 ≤ R.frames) (hlo : W + 12 ≤ R.locals) :
    Back l R p e below s args (⟨"java/lang/String", "isEmpty", "()Z"⟩ : MethodName) len W (fun P a => a = #[.ref x] ∧ P.U.heap = h ∧ P.cells + 0 ≤ R.cells ∧ P.slots + 0 ≤ R.slots)
      (fun P _ v B => ∃ L, (v = some (.int (if cs.length = 0 then 1 else 0)) ∧ L = [] ∧ B.U.heap = h) ∧ B.locs = P.locs ++ L ∧ B.cells = P.cells + 0 ∧ B.slots = P.slots + 0) := by
  intro m meth c P g ig mk a X hg hsize hdg hW hn hp'
  obtain ⟨rfl, rfl, r1, r2⟩ := hp'
  have al : Z.vm.Alike P.U.vm := hZ.alike.trans X.warmed.alike
  obtain ⟨A, hx⟩ := txt_of wi al E V C K hc hb l2
  obtain ⟨v, B, X', ⟨⟨hv, hh⟩, hl, hk, hs⟩, st⟩ := Emp.pays x t A cd cs.length (fun j => cs.getD j 0) (tabEmp_of (movedEmp hZ hw)) hfr hlo m meth c P g ig mk _ X hg hsize hdg hW hn ⟨r1, r2, rfl, hx⟩
  exact ⟨v, B, X', ⟨[], ⟨hv, rfl, hh⟩, hl, hk, hs⟩, st⟩
end StrChars.Road
namespace StrChars
open Jvm Sem ClassFile Op Lib Jvm.Stand Jvm.Free.XT Jvm.Free.ALB Jvm.Free.JM Jvm.Free
open Jvm.Lib.Cold (StaticIs)
namespace ChN
def yN : MethodName := ⟨"java/lang/String", "charAt", "(I)C"⟩
abbrev yB : ByteArray := jdk_42_method_56_code
theorem d0 : decode yB 0 = .ok (.aload_n 0, 1) := by decide +kernel
theorem d1 : decode yB 1 = .ok (.invokevirtual 492, 3) := by decide +kernel
theorem d4 : decode yB 4 = .ok (.ifCond (.eq) 12, 3) := by decide +kernel
theorem d7 : decode yB 7 = .ok (.aload_n 0, 1) := by decide +kernel
theorem d8 : decode yB 8 = .ok (.getfield 9, 3) := by decide +kernel
theorem d11 : decode yB 11 = .ok (.iload_n 1, 1) := by decide +kernel
theorem d12 : decode yB 12 = .ok (.invokestatic 495, 3) := by decide +kernel
theorem d15 : decode yB 15 = .ok (.ireturn, 1) := by decide +kernel
def site : List Cond := [.fieldLink "java/lang/String" 9 "java/lang/String" "value" "[B", IsL.tab, LChA.tab] ++ virtW "java/lang/String" 492 "java/lang/String" IsL.yN IsL.yN ++ staticW "java/lang/String" 495 LChA.yN
def tab : Cond := tabOf yN yB 2 (some .char) site
def P (x t : Addr) (V : Cell) (n : Nat) (f : Nat → Int32) (z : Int32) (fm : Value) (i : Nat) (args : Array Value) (s : State) : Prop := args = #[.ref x, .int (Int32.ofNat i)] ∧ Txt x t V 0 n f s ∧ i < n ∧ StaticIs s "java/lang/String" "COMPACT_STRINGS" "Z" (.int z) ∧ ¬ z = 0 ∧ StaticIs s "jdk/internal/util/Preconditions" "SIOOBE_FORMATTER" "Ljava/util/function/BiFunction;" fm ∧ fm.isRef = true
def E (f : Nat → Int32) (i : Nat) (r : Option Value) (s u : State) : Prop := XT.PureE (some (.int (f i))) r s u
/-- charAt(i) of a Latin-1 String of n chars, i < n: f i -/
theorem law (l : Launch) (x t : Addr) (V : Cell) (n : Nat) (f : Nat → Int32) (z : Int32) (fm : Value) (i : Nat) : Law l yN 2 1 3 40 yB 2 (some .char) site (P x t V n f z fm i) (E f i) [] 0 0 := by
  refine Law.of_walk (plainFor_of_name (by decide +kernel)) (by decide +kernel) (by decide +kernel) (by decide) (fun _ _ h => by rw [h.1]; rfl) (fun _ U U' hal hh h => ⟨h.1, h.2.1.mv hal hh, h.2.2.1, h.2.2.2.1.there hal hh, h.2.2.2.2.1, h.2.2.2.2.2.1.there hal hh, h.2.2.2.2.2.2⟩) (fun r U U' V V' h1 hal h2 h => XT.PureE.mv r U U' V V' h1 hal h2 h) ?_
  intro p e s m args below meth c s₁ X0 hexec hbytes hml hret hlk hnm hown hh0 W hP
  obtain ⟨rfl, hx, hi, s1, hz, s3, rf⟩ := hP
  have v31 := hx.2.2.2.1.2.2.2
  have hr := hx.2.2.2.2.2 i hi
  have hx0 := hx.mv X0.warmed.alike hh0
  have c1 : Steps p.tables e below (s₁.setTop (entryFrame m #[.ref x, .int (Int32.ofNat i)] 2)) (s₁.setTop (mkF m 1 #[.val (.ref x), .val (.int (Int32.ofNat i))] [.ref x])) := Steps.trans (entry rfl) (by
    show Steps p.tables e below (s₁.setTop (mkF m 0 #[.val (.ref x), .val (.int (Int32.ofNat i))] [])) _
    refine XS.aloadN X0.here hexec rfl (hb hbytes d0) rfl rfl ?_
    exact Steps.refl _)
  obtain ⟨v2, T2, X2, E2, g2⟩ := X0.callV hexec (IsL.law l x 0 z) hown (wks W (virtW "java/lang/String" 492 "java/lang/String" IsL.yN IsL.yN)) rfl (by decide) (wk W IsL.tab) (W := 0) (Nat.le_of_ble_eq_true rfl) (Nat.le_of_ble_eq_true rfl) (Nat.le_refl _) (Nat.le_refl _) (hx0.1.fc X0.warmed.alike) hx0.1.is (g := (mkF m 1 #[.val (.ref x), .val (.int (Int32.ofNat i))] [.ref x])) rfl (by rw [hml]; rfl) c1 (argsL := []) (rest := []) rfl rfl (by show 2 * 0 + 0 ≤ _; decide) (hb hbytes d1) (⟨rfl, hx0.2.2.1, hx.2.2.2.2.1.cd, s1.there X0.warmed.alike hh0, hz⟩)
  obtain ⟨rfl, q2⟩ := E2
  have hh2 := q2.trans hh0
  have hx2 := hx.mv X2.warmed.alike hh2
  obtain ⟨-, k1, k2⟩ | ⟨k0, -⟩ := hx.2.2.2.2.1
  · have c3 : Steps p.tables e below (s₁.setTop (entryFrame m #[.ref x, .int (Int32.ofNat i)] 2)) (T2.setTop (mkF m 8 #[.val (.ref x), .val (.int (Int32.ofNat i))] [.ref x])) := Steps.trans g2 (by
      refine XS.ifNo X2.here hexec rfl (hb hbytes d4) rfl (i0_eq_f (by decide)) ?_
      refine XS.aloadN X2.here hexec rfl (hb hbytes d7) rfl rfl ?_
      exact Steps.refl _)
    obtain ⟨T4, X4, q4, st4⟩ := X2.hget hexec hown (wk W (.fieldLink "java/lang/String" 9 "java/lang/String" "value" "[B")) hx2.2.1 (g := (mkF m 8 #[.val (.ref x), .val (.int (Int32.ofNat i))] [.ref x])) rfl (rest := []) rfl (hb hbytes d8)
    have hh4 := q4.trans hh2
    have c5 : Steps p.tables e below (s₁.setTop (entryFrame m #[.ref x, .int (Int32.ofNat i)] 2)) (T4.setTop (mkF m 12 #[.val (.ref x), .val (.int (Int32.ofNat i))] [.int (Int32.ofNat i), .ref t])) := (c3.trans (st4 _ (Steps.refl _))).trans (by
      refine XS.iloadN X4.here hexec rfl (hb hbytes d11) rfl ?_
      exact Steps.refl _)
    obtain ⟨v6, T6, X6, E6, g6⟩ := X4.callS hexec (LChA.law l t V i (lo8 (f i)) fm) hown (wks W (staticW "java/lang/String" 495 LChA.yN)) (wk W LChA.tab) (W := 0) (Nat.le_of_ble_eq_true rfl) (Nat.le_of_ble_eq_true rfl) (Nat.le_refl _) (Nat.le_refl _) (g := (mkF m 12 #[.val (.ref x), .val (.int (Int32.ofNat i))] [.int (Int32.ofNat i), .ref t])) rfl (by rw [hml]; rfl) c5 (argsL := [.ref t, .int (Int32.ofNat i)]) (rest := []) rfl rfl (by show 2 * 0 + 0 ≤ _; decide) (hb hbytes d12) (⟨rfl, hx.2.2.2.1.mv X4.warmed.alike hh4, (k2 i hi).1, s3.there X4.warmed.alike hh4, rf⟩)
    obtain ⟨rfl, q6⟩ := E6
    rw [chr8_lo8 hr.1 (k2 i hi).2] at g6
    exact ⟨T6, some (.int (f i)), _, _, _, X6, rfl, rfl, rfl, (fun h => by cases h), ⟨rfl, q6.trans hh4⟩, fun fs hl => Steps.trans g6 (X6.ireturnOut hexec hret (narrow_ch hr.1 hr.2) (Or.inr (Or.inr (Or.inr (Or.inl rfl)))) (hb hbytes d15) hl)⟩
  · exact absurd k0 (by decide)
theorem pays {l : Launch} {R : Room} {p : Program} {e : Env} {below : List Frame} {s : State} {sargs : Array Value} {len W : Nat} (x t : Addr) (V : Cell) (n : Nat) (f : Nat → Int32) (z : Int32) (fm : Value) (i : Nat) (htab : tab.before sargs s = true) (hfr : 4 ≤ R.frames) (hlo : W + 53 ≤ R.locals) :
    Back l R p e below s sargs yN len W (fun A₁ a₁ => A₁.cells + 0 ≤ R.cells ∧ A₁.slots + 0 ≤ R.slots ∧ P x t V n f z fm i a₁ A₁.U) (fun A₁ _ v₁ B₁ => E f i v₁ A₁.U B₁.U ∧ B₁.locs = A₁.locs ++ [] ∧ B₁.cells = A₁.cells + 0 ∧ B₁.slots = A₁.slots + 0) :=
  (law l x t V n f z fm i).pays htab hfr (by omega)
end ChN
end StrChars
namespace StrChars.Road
open Jvm Sem ClassFile Op Lib Jvm.Stand Jvm.Free Jvm.Free.XT
open Jvm.Lib.Cold (StaticIs)
/-- the words of String.charAt(int), the Latin-1 road alone -/
abbrev wordsChN : List Jvm.Cond := [.code ChN.yN ChN.yB 2 (some .char), .initialized ST, .fieldLink ST 9 ST "value" "[B", .fieldLink ST 38 ST "COMPACT_STRINGS" "Z", .fieldLink ST 15 ST "coder" "B", .code IsL.yN IsL.yB 1 (some .boolean), .methodLink ST 492 IsL.yN, .declares IsL.yN, .selects ST IsL.yN IsL.yN, .instanceMethod IsL.yN,
  .methodLink ST 495 LChA.yN, .static LChA.yN, .code LChA.yN LChA.yB 2 (some .char), .initialized "java/lang/StringLatin1", .methodLink "java/lang/StringLatin1" 9 JO.Str_checkIndex.yN, .static JO.Str_checkIndex.yN, .code JO.Str_checkIndex.yN JO.Str_checkIndex.yB 2 none,
  .fieldLink ST 1053 "jdk/internal/util/Preconditions" "SIOOBE_FORMATTER" "Ljava/util/function/BiFunction;", .methodLink ST 1059 JC.PreCheck.yN, .static JC.PreCheck.yN, .code JC.PreCheck.yN JC.PreCheck.yB 3 (some .int), .initialized "jdk/internal/util/Preconditions"]
theorem tabChN_of {a : Array Value} {s : State} (h : ∀ w ∈ wordsChN, w.before a s = true) : ChN.tab.before a s = true := by
  have hp : JC.PreCheck.tab.before a s = true := unparts (wk h (.code JC.PreCheck.yN JC.PreCheck.yB 3 (some .int))) (wks h (.initialized JC.PreCheck.yN.cls :: JC.PreCheck.site))
  have qk := consq hp h
  have hk : JO.Str_checkIndex.tab.before a s = true := unparts (wk qk (.code JO.Str_checkIndex.yN JO.Str_checkIndex.yB 2 none)) (wks qk (.initialized JO.Str_checkIndex.yN.cls :: JO.Str_checkIndex.site))
  have ql := consq hk h
  have hl : LChA.tab.before a s = true := unparts (wk ql (.code LChA.yN LChA.yB 2 (some .char))) (wks ql (.initialized LChA.yN.cls :: LChA.site))
  have hi : IsL.tab.before a s = true := unparts (wk h (.code IsL.yN IsL.yB 1 (some .boolean))) (wks h (.initialized IsL.yN.cls :: IsL.site))
  have q := consq hi (consq hl h)
  exact unparts (wk q (.code ChN.yN ChN.yB 2 (some .char))) (wks q (.initialized ChN.yN.cls :: ChN.site))
theorem movedChN {Z s : State} {a0 args : Array Value} (hZ : Z.Warmed39 s.vm) (hw : ∀ d ∈ wordsChN, d.before a0 Z = true) : ∀ d ∈ wordsChN, d.before args s = true := fun d hd => by
  have t : ∀ d ∈ wordsChN, (d.onTables && d.keepsFace) = true := by decide +kernel
  exact RoadKit.mv hZ (hw d hd) (t d hd)
/-- **charAt(i) OF A LATIN-1 STRING**, i < n: the char -/
theorem chN {p : Program} {l : Launch} {e : Env} {R : Room} {s : State} {args : Array Value} {below : List Frame} {len W : Nat} {Z : State} {a0 : Array Value} {h : Heap} (hZ : Z.Warmed39 s.vm) (hw : ∀ d ∈ wordsChN, d.before a0 Z = true) {kI : Nat} (wi : (Jvm.Cond.instantiable ST kI).before a0 Z = true)
    {x t : Addr} {kb : ClassId} {cs : List Int32} {N2 z : Int32} {vs : List Value} {fm : Value} {i : Nat} {j : Int32} (E : RoadKit.Exa Z h x ST) (V : RoadKit.Fld Z h x ST "value" "[B" (.ref t)) (C : RoadKit.Fld Z h x ST "coder" "B" (.int 0)) (K : RoadKit.Arv Z h t kb .byte N2 vs (.int 0)) (hc : CodA cs 0 N2 vs) (hb : ∀ c ∈ cs, ¬ c < 0 ∧ ¬ (65535 : Int32) < c)
    (S : RoadKit.Sta Z h ST "COMPACT_STRINGS" "Z" (.int z)) (hz : ¬ z = 0) (F : RoadKit.Sta Z h "jdk/internal/util/Preconditions" "SIOOBE_FORMATTER" "Ljava/util/function/BiFunction;" fm) (rf : fm.isRef = true) (l2 : cs.length ≤ 4000) (hi : i < cs.length) (hj : j = Int32.ofNat i) (hfr : 4 ≤ R.frames) (hlo : W + 53 ≤ R.locals) :
    Back l R p e below s args (⟨"java/lang/String", "charAt", "(I)C"⟩ : MethodName) len W (fun P a => a = #[.ref x, .int j] ∧ P.U.heap = h ∧ P.cells + 0 ≤ R.cells ∧ P.slots + 0 ≤ R.slots)
      (fun P _ v B => ∃ L, (v = some (.int (cs.getD i 0)) ∧ L = [] ∧ B.U.heap = h) ∧ B.locs = P.locs ++ L ∧ B.cells = P.cells + 0 ∧ B.slots = P.slots + 0) := by
  subst hj
  intro m meth c P g ig mk a X hg hsize hdg hW hn hp'
  obtain ⟨rfl, rfl, r1, r2⟩ := hp'
  have al : Z.vm.Alike P.U.vm := hZ.alike.trans X.warmed.alike
  obtain ⟨A, hx⟩ := txt_of wi al E V C K hc hb l2
  obtain ⟨v, B, X', ⟨⟨hv, hh⟩, hl, hk, hs⟩, st⟩ := ChN.pays x t A cs.length (fun j => cs.getD j 0) z fm i (tabChN_of (movedChN hZ hw)) hfr hlo m meth c P g ig mk _ X hg hsize hdg hW hn ⟨r1, r2, rfl, hx, hi, sta_is al S, hz, sta_is al F, rf⟩
  exact ⟨v, B, X', ⟨[], ⟨hv, rfl, hh⟩, hl, hk, hs⟩, st⟩
/-- what backV says of its String, as the contracts of this text ask it: cs's low bytes, coder 0 -/
theorem codOf {cs : List Int32} {n : Nat} (hn : cs.length = n) (hb : ∀ c ∈ cs, ¬ 255 < c) : CodA cs 0 (Int32.ofNat n) ((cs.map lo8).map Value.int) := Or.inl ⟨rfl, by rw [hn], by simp [List.map_map, Function.comp_def], hb⟩
end StrChars.Road
end Jvm.Pilot.@@N@@
@@BLOCK:TracedD.lean.txt@@
namespace Jvm.Pilot.@@N@@
open Jvm Jvm.ClassFile Sem Op Lib Jvm.Free Jvm.Stand Jvm.LawKit Jvm.RoadKit Bundle Jvm.Pilot.@@N@@.Jvm.D
set_option maxRecDepth 65536
set_option maxHeartbeats 40000000
theorem own_w {a0 : Array Value} {Z : State} (hw : ∀ d ∈ tables_1, d.before a0 Z = true) (i : Nat) {d : Jvm.Cond} (h : tables_1[i]? = some d) : d.before a0 Z = true := hw d (List.mem_of_getElem? h)
theorem own_b {a b : Nat} (h : a.ble b = true) : a ≤ b := Nat.le_of_ble_eq_true h
def own_Str (Z : State) (h : Heap) (x t : Addr) (cs : List Int32) : Prop := Exa Z h x "java/lang/String" ∧ Fld Z h x "java/lang/String" "coder" "B" (.int (0 : Int32)) ∧ Fld Z h x "java/lang/String" "value" "[B" (.ref t) ∧ (∃ kb : ClassId, Arv Z h t kb .byte (Int32.ofNat cs.length) ((cs.map fun c => c.toInt8.toInt32).map Value.int) (.int (0 : Int32))) ∧ (∀ c ∈ cs, ¬ c < 0 ∧ ¬ (255 : Int32) < c) ∧ cs.length ≤ 4000
section OwnStr
variable {Z : State} {h h' : Heap} {x t a : Addr} {cs ds : List Int32} {sl : Nat} {v : Value} {ws : List Addr}
theorem own_Str.ext (F : own_Str Z h x t cs) (E : Ext h h') : own_Str Z h' x t cs := by obtain ⟨h1, h2, h3, ⟨kb, h4⟩, r⟩ := F; exact ⟨h1.ext E, h2.ext E, h3.ext E, ⟨kb, h4.ext E⟩, r⟩
theorem own_Str.keep (F : own_Str Z h x t cs) (K : Keep h h' ws) (q1 : x ∉ ws) (q2 : t ∉ ws) : own_Str Z h' x t cs := by obtain ⟨h1, h2, h3, ⟨kb, h4⟩, r⟩ := F; exact ⟨h1.keep K, h2.keep K q1, h3.keep K q1, ⟨kb, h4.keep K q2⟩, r⟩
theorem own_Str.other (F : own_Str Z h x t cs) (W : Wr h h' a sl v) (q1 : x ≠ a) (q2 : t ≠ a) : own_Str Z h' x t cs := F.keep (Keep.of_wr W) (ninS q1 nin0) (ninS q2 nin0)
theorem own_Str.lt (F : own_Str Z h x t cs) : x < h.size := F.1.lt
theorem own_Str.lt2 (F : own_Str Z h x t cs) : t < h.size := by obtain ⟨kb, h4⟩ := F.2.2.2.1; exact h4.lt
theorem own_Str.ne1 {C : String} (F : own_Str Z h x t cs) (E : Exa Z h a C) (hC : C ≠ "java/lang/String") : x ≠ a := Exa.ne F.1 E (Ne.symm hC)
theorem own_Str.ne2 {C : String} {a0 : Array Value} {n : Nat} (F : own_Str Z h x t cs) (E : Exa Z h a C) (wi : (Cond.instantiable C n).before a0 Z = true) : t ≠ a := by obtain ⟨kb, K⟩ := F.2.2.2.1; exact Ne.symm (Exa.neArv E K wi)
theorem own_Str.up (F : own_Str Z h x t cs) : ∀ c ∈ cs, ¬ c < 0 ∧ ¬ (65535 : Int32) < c := fun c hc => ⟨(F.2.2.2.2.1 c hc).1, fun q => (F.2.2.2.2.1 c hc).2 (by rw [Int32.lt_iff_toInt_lt] at q ⊢; have e1 : (65535 : Int32).toInt = 65535 := rfl; have e2 : (255 : Int32).toInt = 255 := rfl; omega)⟩
theorem own_Str.cod (F : own_Str Z h x t cs) : StrChars.Road.CodA cs 0 (Int32.ofNat cs.length) ((cs.map (fun c => c.toInt8.toInt32)).map Value.int) := StrChars.Road.codOf rfl (fun c hc => (F.2.2.2.2.1 c hc).2)
end OwnStr
section OwnBack
variable {p : Program} {l : Launch} {e : Env} {R : Room} {s : State} {args : Array Value} {below : List Frame} {len W : Nat} {Z : State} {a0 : Array Value} {h : Heap} {x t x' t' : Addr} {cs ds : List Int32} {G1 : Int32} {n0 : Nat}
theorem own_lenB (hZ : Z.Warmed39 s.vm) (hw : ∀ d ∈ tables_1, d.before a0 Z = true) (F : own_Str Z h x t cs) (O2 : Sta Z Z.heap "java/lang/String" "COMPACT_STRINGS" "Z" (.int G1)) (P5 : ¬ (G1 = (0 : Int32))) (X : Old Z n0 h) (hfr : 2 ≤ R.frames) (hlo : W + 25 ≤ R.locals) :
    Back l R p e below s args (⟨"java/lang/String", "length", "()I"⟩ : MethodName) len W (fun P a => a = #[.ref x] ∧ P.U.heap = h ∧ P.cells + 0 ≤ R.cells ∧ P.slots + 0 ≤ R.slots) (fun P _ v B => ∃ L, (v = some (.int (Int32.ofNat cs.length)) ∧ L = [] ∧ B.U.heap = h) ∧ B.locs = P.locs ++ L ∧ B.cells = P.cells + 0 ∧ B.slots = P.slots + 0) := by
  obtain ⟨kb, K⟩ := F.2.2.2.1
  exact StrChars.Road.lenW hZ (fun d hd => hw d ((by decide +kernel : ∀ d ∈ StrChars.Road.wordsLen, d ∈ tables_1) d hd)) (kI := 4) (own_w hw 14 rfl) F.1 F.2.2.1 F.2.1 K F.cod F.up (O2.ext X.2) P5 F.2.2.2.2.2 hfr hlo
theorem own_empB (hZ : Z.Warmed39 s.vm) (hw : ∀ d ∈ tables_1, d.before a0 Z = true) (F : own_Str Z h x t cs) (hfr : 1 ≤ R.frames) (hlo : W + 12 ≤ R.locals) :
    Back l R p e below s args (⟨"java/lang/String", "isEmpty", "()Z"⟩ : MethodName) len W (fun P a => a = #[.ref x] ∧ P.U.heap = h ∧ P.cells + 0 ≤ R.cells ∧ P.slots + 0 ≤ R.slots) (fun P _ v B => ∃ L, (v = some (.int (if cs.length = 0 then 1 else 0)) ∧ L = [] ∧ B.U.heap = h) ∧ B.locs = P.locs ++ L ∧ B.cells = P.cells + 0 ∧ B.slots = P.slots + 0) := by
  obtain ⟨kb, K⟩ := F.2.2.2.1
  exact StrChars.Road.empW hZ (fun d hd => hw d ((by decide +kernel : ∀ d ∈ StrChars.Road.wordsEmp, d ∈ tables_1) d hd)) (kI := 4) (own_w hw 14 rfl) F.1 F.2.2.1 F.2.1 K F.cod F.up F.2.2.2.2.2 hfr hlo
theorem own_chB (hZ : Z.Warmed39 s.vm) (hw : ∀ d ∈ tables_1, d.before a0 Z = true) (F : own_Str Z h x t cs) (O2 : Sta Z Z.heap "java/lang/String" "COMPACT_STRINGS" "Z" (.int G1)) (P5 : ¬ (G1 = (0 : Int32))) (X : Old Z n0 h) {G3 : Value} (O4 : Sta Z Z.heap "jdk/internal/util/Preconditions" "SIOOBE_FORMATTER" "Ljava/util/function/BiFunction;" G3) (rG3 : G3.isRef = true) {i : Nat} {j : Int32} (hi : i < cs.length) (hj : j = Int32.ofNat i) (hfr : 4 ≤ R.frames) (hlo : W + 53 ≤ R.locals) :
    Back l R p e below s args (⟨"java/lang/String", "charAt", "(I)C"⟩ : MethodName) len W (fun P a => a = #[.ref x, .int j] ∧ P.U.heap = h ∧ P.cells + 0 ≤ R.cells ∧ P.slots + 0 ≤ R.slots) (fun P _ v B => ∃ L, (v = some (.int (cs.getD i 0)) ∧ L = [] ∧ B.U.heap = h) ∧ B.locs = P.locs ++ L ∧ B.cells = P.cells + 0 ∧ B.slots = P.slots + 0) := by
  obtain ⟨kb, K⟩ := F.2.2.2.1
  exact StrChars.Road.chN hZ (fun d hd => hw d ((by decide +kernel : ∀ d ∈ StrChars.Road.wordsChN, d ∈ tables_1) d hd)) (kI := 4) (own_w hw 14 rfl) F.1 F.2.2.1 F.2.1 K F.cod F.up (O2.ext X.2) P5 (O4.ext X.2) rG3 F.2.2.2.2.2 hi hj hfr hlo
theorem own_newB {b : Addr} {kC : ClassId} {N : Int32} {d v0 c0 : Value} (hZ : Z.Warmed39 s.vm) (hw : ∀ d ∈ tables_1, d.before a0 Z = true) (hx0 : n0 ≤ x) (hh0 : n0 ≤ h.size) (E : Exa Z h x "java/lang/String") (V : Fld Z h x "java/lang/String" "value" "[B" v0) (C : Fld Z h x "java/lang/String" "coder" "B" c0) (K : Arv Z h b kC .char N (cs.map Value.int) d) (O2 : Sta Z Z.heap "java/lang/String" "COMPACT_STRINGS" "Z" (.int G1)) (P5 : ¬ (G1 = (0 : Int32))) (X : Old Z n0 h)
    {n : Nat} (hn : cs.length = n) (hN : N = Int32.ofNat n) (l0 : 0 < n) (l2 : n ≤ 4000) (hp : ∀ c ∈ cs, ¬ c < 0 ∧ ¬ (255 : Int32) < c) (hfr : 4 ≤ R.frames) (hlo : W + 65 ≤ R.locals) :
    Back l R p e below s args (⟨"java/lang/String", "<init>", "([C)V"⟩ : MethodName) len W (fun P a => a = #[.ref x, .ref b] ∧ P.U.heap = h ∧ P.cells + 1 ≤ R.cells ∧ P.slots + n ≤ R.slots)
      (fun P _ v B => ∃ L, (∃ t : Addr, v = none ∧ Fr n0 L ∧ Keep h B.U.heap [x] ∧ h.size ≤ t ∧ own_Str Z B.U.heap x t cs) ∧ B.locs = P.locs ++ L ∧ B.cells = P.cells + 1 ∧ B.slots = P.slots + n) := by
  subst hn
  refine Back.mono (StrChars.Road.backV hZ (fun d hd => hw d ((by decide +kernel : ∀ d ∈ StrChars.Road.words, d ∈ tables_1) d hd)) (kI := 4) (own_w hw 14 rfl) (cs := cs) (bs := cs.map (fun c => c.toInt8.toInt32)) (n := cs.length) hx0 hh0 E V C K (O2.ext X.2) P5 rfl hN l0 l2 hp rfl hfr hlo) (fun P a hp => hp) (fun P a v B hpp hq => ?_)
  obtain ⟨L, ⟨q1, q2, q3, q4, q5, t, kb, q6, q7, q8, q9, q10⟩, hl, hc, hs⟩ := hq
  subst hN
  exact ⟨L, ⟨t, q1, q2, q3, q7, q4, q5, q9, ⟨kb, q10⟩, hp, l2⟩, hl, hc, hs⟩
end OwnBack
def own_by (cs : List Int32) : List Value := (cs.map fun c => c.toInt8.toInt32).map Value.int
def own_pad (cs : List Int32) (cap : Nat) : List Value := own_by cs ++ List.replicate (cap - cs.length) (.int (0 : Int32))
theorem own_by_len (cs : List Int32) : (own_by cs).length = cs.length := by simp [own_by]
theorem own_by_app (cs ds : List Int32) : own_by (cs ++ ds) = own_by cs ++ own_by ds := by simp [own_by]
theorem own_pad_len {cs : List Int32} {cap : Nat} (h : cs.length ≤ cap) : (own_pad cs cap).length = cap := by simp [own_pad, own_by_len]; omega
theorem own_tn {n : Nat} (h : n ≤ 4000) : (Int32.ofNat n).toNatClampNeg = n := by
  have e : (Int32.ofNat n).toInt = n := Int32.toInt_ofNat_of_lt (by omega)
  simp [Int32.toNatClampNeg, e]
theorem own_nn {n : Nat} (h : n ≤ 4000) : ¬ (Int32.ofNat n) < 0 := by
  have e : (Int32.ofNat n).toInt = n := Int32.toInt_ofNat_of_lt (by omega)
  rw [Int32.lt_iff_toInt_lt, e]; have : (0 : Int32).toInt = 0 := rfl; omega
theorem own_ltn {a b : Nat} (hb : b ≤ 4000) (h : a < b) : (Int32.ofNat a) < (Int32.ofNat b) := by
  have e : (Int32.ofNat a).toInt = a := Int32.toInt_ofNat_of_lt (by omega)
  have e2 : (Int32.ofNat b).toInt = b := Int32.toInt_ofNat_of_lt (by omega)
  rw [Int32.lt_iff_toInt_lt, e, e2]; omega
theorem own_nlt {a b : Nat} (hb : a ≤ 4000) (h : b ≤ a) : ¬ (Int32.ofNat a) < (Int32.ofNat b) := by
  have e : (Int32.ofNat a).toInt = a := Int32.toInt_ofNat_of_lt (by omega)
  have e2 : (Int32.ofNat b).toInt = b := Int32.toInt_ofNat_of_lt (by omega)
  rw [Int32.lt_iff_toInt_lt, e, e2]; omega
theorem own_nen {a b : Nat} (hb : b ≤ 4000) (h : a < b) : ¬ (Int32.ofNat a) = (Int32.ofNat b) := fun q => by
  have := own_ltn hb h; rw [q] at this; exact absurd this (Int32.lt_irrefl)
theorem own_addn (a b : Nat) : Int32.ofNat a + Int32.ofNat b = Int32.ofNat (a + b) := (Int32.ofNat_add a b).symm
theorem own_addl (cs ds : List Int32) : Int32.ofNat cs.length + Int32.ofNat ds.length = Int32.ofNat (cs ++ ds).length := by rw [own_addn, List.length_append]
theorem own_shl0 (x : Int32) : x <<< ((0 : Int32) &&& 31) = x := by
  have e : ((0 : Int32) &&& 31) = 0 := rfl
  rw [e]; apply Int32.toBitVec_inj.mp; simp
theorem own_shr0 (x : Int32) : x >>> ((0 : Int32) &&& 31) = x := by
  have e : ((0 : Int32) &&& 31) = 0 := rfl
  rw [e]; apply Int32.toBitVec_inj.mp; simp
theorem own_sub0 (x : Int32) : x - 0 = x := by simp
theorem own_le {a b : Nat} (hb : b ≤ 4000) (h : a ≤ b) : ¬ (0 : Int32) < (Int32.ofNat a - Int32.ofNat b) := by
  have e : (Int32.ofNat a).toInt = a := Int32.toInt_ofNat_of_lt (by omega)
  have e2 : (Int32.ofNat b).toInt = b := Int32.toInt_ofNat_of_lt (by omega)
  rw [Int32.lt_iff_toInt_lt, Int32.toInt_sub, e, e2, Int.bmod_eq_of_le (by omega) (by omega)]
  have : (0 : Int32).toInt = 0 := rfl
  omega
theorem own_h4 (z : Int32) : (0 : Int32).toNatClampNeg + z.toNatClampNeg ≤ z.toNatClampNeg := Nat.le_of_eq (Nat.zero_add _)
theorem own_h5 {a b c : Nat} (h : a + b ≤ c) (hc : c ≤ 4000) : (Int32.ofNat a).toNatClampNeg + (Int32.ofNat b).toNatClampNeg ≤ (Int32.ofNat c).toNatClampNeg := by
  rw [own_tn (by omega), own_tn (by omega), own_tn hc]; exact h
theorem own_h50 {b c : Nat} (h : b ≤ c) (hc : c ≤ 4000) : (0 : Int32).toNatClampNeg + (Int32.ofNat b).toNatClampNeg ≤ (Int32.ofNat c).toNatClampNeg := own_h5 (a := 0) (by omega) hc
theorem own_rng (vs : List Value) (dv : Value) (n : Nat) (h : n ≤ vs.length) : (List.range n).map (fun i => vs.getD (0 + i) dv) = vs.take n := by
  apply List.ext_getElem?
  intro i
  by_cases hi : i < n
  · have : i < vs.length := by omega
    simp [List.getElem?_take, hi, List.getD_eq_getElem?_getD, List.getElem?_eq_getElem this]
  · simp [List.getElem?_take, hi]
theorem own_us {ds : List Int32} (dv : Value) (h : ds.length ≤ 4000) : own_by ds = (List.range (Int32.ofNat ds.length).toNatClampNeg).map fun i => (own_by ds).getD ((0 : Int32).toNatClampNeg + i) dv := by
  rw [own_tn h]
  have e := own_rng (own_by ds) dv ds.length (by rw [own_by_len]; omega)
  rw [show ((0 : Int32).toNatClampNeg) = 0 from rfl, e, ← own_by_len ds, List.take_length]
theorem own_us2 {ds : List Int32} {cap : Nat} (dv : Value) (h : ds.length ≤ 4000) : own_by ds = (List.range (Int32.ofNat ds.length).toNatClampNeg).map fun i => (own_pad ds cap).getD ((0 : Int32).toNatClampNeg + i) dv := by
  rw [own_tn h]
  have e := own_rng (own_pad ds cap) dv ds.length (by simp [own_pad, own_by_len])
  rw [show ((0 : Int32).toNatClampNeg) = 0 from rfl, e, own_pad, ← own_by_len ds, List.take_left]
theorem own_hl {es ds : List Int32} {cap : Nat} (h : es.length + ds.length ≤ cap) (hc : cap ≤ 4000) : (Int32.ofNat es.length).toNatClampNeg + (Int32.ofNat ds.length).toNatClampNeg ≤ (own_pad es cap).length := by
  rw [own_tn (by omega), own_tn (by omega), own_pad_len (by omega)]; exact h
theorem own_cat {es ds : List Int32} {cap : Nat} (h : es.length + ds.length ≤ cap) (hc : cap ≤ 4000) : (own_pad es cap).take (Int32.ofNat es.length).toNatClampNeg ++ own_by ds ++ (own_pad es cap).drop ((Int32.ofNat es.length).toNatClampNeg + (Int32.ofNat ds.length).toNatClampNeg) = own_pad (es ++ ds) cap := by
  rw [own_tn (by omega), own_tn (by omega)]
  simp only [own_pad, own_by_app, List.length_append]
  rw [List.take_left' (own_by_len es), List.drop_append, own_by_len]
  rw [List.drop_eq_nil_of_le (by rw [own_by_len]; omega)]
  simp only [List.nil_append, List.drop_replicate]
  have e : cap - es.length - (es.length + ds.length - es.length) = cap - (es.length + ds.length) := by omega
  rw [e]
theorem own_cat0 {ds : List Int32} (h : ds.length ≤ 4000) (d : Value) : (List.replicate ds.length d).take (0 : Int32).toNatClampNeg ++ own_by ds ++ (List.replicate ds.length d).drop ((0 : Int32).toNatClampNeg + (Int32.ofNat ds.length).toNatClampNeg) = own_by ds := by
  rw [own_tn h, show ((0 : Int32).toNatClampNeg) = 0 from rfl]
  simp
theorem own_hl0 {ds : List Int32} (h : ds.length ≤ 4000) (d : Value) : (0 : Int32).toNatClampNeg + (Int32.ofNat ds.length).toNatClampNeg ≤ (List.replicate ds.length d).length := by
  rw [own_tn h, show ((0 : Int32).toNatClampNeg) = 0 from rfl]; simp
theorem own_g (ds : List Int32) {n : Nat} (h : ds.length = n) : Int32.ofNat ([] : List Int32).length + Int32.ofNat ds.length = Int32.ofNat n := by rw [own_addn, ← h]; simp
theorem own_safe0 {Z : State} {EL : List (String × Nat)} {vm : Vm} {h : Heap} {x : Addr} (hal : Z.vm.Alike vm) (E : Exa Z h x "java/lang/String") (F : Fld Z h x "java/lang/String" "value" "[B" .null) : Safe Z EL vm h x := fun B => by
  obtain ⟨p, -, u, a, -, q, -, S, rfl | rfl⟩ := B
  · have e1 := S.ha
    obtain ⟨cS, ⟨⟨-, -, -, ⟨c1, k1, i1, f1, -⟩, -, -, -, v1, -⟩, -⟩, -⟩ := S
    obtain ⟨cell, cf, kf, i, f, g1, g2, g3, g4, g5, g6, g7⟩ := F
    cases (show h[q.sa]? = some q.sC from e1).symm.trans g1
    obtain ⟨k3, e3, -⟩ := State.fieldFound?_setVm (s := Z) hal g2
    have e4 := (show (Wst Z vm h).fieldFound? _ _ _ = _ from e3).symm.trans f1
    simp only [Option.some.injEq, Prod.mk.injEq] at e4
    rw [← e4.2.2.2, g7] at v1
    simp at v1
  · obtain ⟨cell, k, e1, e2, e3, -, -⟩ := E
    cases (show h[q.sd]? = some q.SA from S.hd).symm.trans e1
    obtain ⟨cS, -, -, f, -⟩ := S
    have f' : Z.vm.findClass "[B" = some q.SA.cls := by rw [← hal.findClass]; exact f
    obtain ⟨k1, q1, q2⟩ := Vm.findClass_spec f'
    obtain ⟨k2, q3, q4⟩ := Vm.findClass_spec e2
    cases q1.symm.trans q3
    exact absurd (q2.symm.trans q4) (by decide)
theorem own_gcB {p : Program} {l : Launch} {e : Env} {R : Room} {s : State} {args : Array Value} {below : List Frame} {len W : Nat} {Z : State} {a0 : Array Value} {h : Heap} {a : Addr} (hZ : Z.Warmed39 s.vm) (wc : (Cond.codeSync Jvm.RoadKit.gcN gcB 1 (some (.object tN))).before a0 Z = true) (wi : (Cond.instanceMethod Jvm.RoadKit.gcN).before a0 Z = true) (wz : (Cond.initialized tN).before a0 Z = true) (wf : (Cond.fieldLink tN 7 tN "cause" Jvm.Free.Exc.thD).before a0 Z = true)
    (N : Unt h a) (F : Fld Z h a tN "cause" Jvm.Free.Exc.thD (.ref a)) (hf : 1 ≤ R.frames) (hl : W + 12 ≤ R.locals) :
    Back l R p e below s args (⟨"java/lang/Throwable", "getCause", "()Ljava/lang/Throwable;"⟩ : MethodName) len W (fun P as => as = #[.ref a] ∧ P.U.heap = h ∧ P.cells + 0 ≤ R.cells ∧ P.slots + 0 ≤ R.slots)
      (fun P _ v B => ∃ L, (v = some .null ∧ L = [] ∧ B.U.heap = h) ∧ B.locs = P.locs ++ L ∧ B.cells = P.cells + 0 ∧ B.slots = P.slots + 0) := by
  refine Back.mono (gcBackPure (rm := { frames := 0, cells := 0, slots := 0, locals := 0 }) hZ wc wi wz wf N F rfl hf hl) (fun P a hp => hp) (fun P as v B hp hq => ?_)
  obtain ⟨h1, h2, h3, h4, h5⟩ := hq
  rw [gcv_self] at h1
  exact ⟨[], ⟨h1, rfl, h2⟩, by rw [List.append_nil]; exact h3, h4, h5⟩
section OwnFill
open LibCode.Throwable Jvm.Free.Exc
def own_ws (rc : String) : List Cond := [.native tFill0, .initialized tN, .superclass tN "java/lang/Object", .instanceMethod tFill, .codeSync tFill Fill.code 1 (some (.object tN)), .instanceMethod tFill0, .instanceMethod oInit, .code oInit ⟨#[0xb1]⟩ 1 none,
  .methodLink tN 1 oInit, .methodLink tN 27 tFill, .methodLink tN 202 tFill0, .fieldLink tN 7 tN "cause" thD, .fieldLink tN 17 tN "stackTrace" steD, .fieldLink tN 24 tN "suppressedExceptions" listD, .fieldLink tN 13 tN "UNASSIGNED_STACK" steD, .fieldLink tN 20 tN "SUPPRESSED_SENTINEL" listD,
  .laysStatic tN "UNASSIGNED_STACK" steD, .laysStatic tN "SUPPRESSED_SENTINEL" listD, .lays rc tN "cause" thD, .lays rc tN "stackTrace" steD, .lays rc tN "suppressedExceptions" listD, .lays rc tN "detailMessage" msgD, .lays rc tN "backtrace" obD, .lays rc tN "depth" "I",
  .fieldLink tN 198 tN "backtrace" obD, .arrayOver (.object "java/lang/Object"), .soleField tN "backtrace", .soleField tN "depth", .selects rc tFill0 tFill0]
theorem own_ws_ok (rc : String) : (own_ws rc).all xOk = true := rfl
theorem own_par {d : String} {sg : MethodDescriptor} {ps : List FieldType} {r : Option FieldType} (h : parseMethodDescriptor d = some sg) (h' : parseMethodDescriptor d = some ⟨ps, r⟩) : sg.parameters = ps := by
  rw [h'] at h; rw [← Option.some.inj h]
/-- the tables of Throwable, out of the words (each field's place by the word on rc) -/
theorem own_TC {args : Array Value} {s : State} {pl : Platform} {rc : String} {cX : ClassId} {kX : Class} (howns : pl.frameOwnsMonitors = true) (hfin : pl.finalization = false) (hpl : pl.magicAccessors = ({} : Platform).magicAccessors)
    (W : ∀ d ∈ own_ws rc, d.before args s = true) (hX : s.vm.findClass rc = some cX) (hkX : s.vm.classes[cX]? = some kX) :
    ∃ T : ThrowableC, T.Links pl s ∧ s.vm.findClass tN = some T.cT ∧ s.methodNamed? tFill = some T.fill ∧ s.methodNamed? tFill0 = some T.fill0 ∧ s.fieldFound? tN "stackTrace" steD = some (T.cT, T.kT, T.i17, T.fStack) ∧ T.fStack.type = .array (.object "java/lang/StackTraceElement") ∧ T.fStack.name = "stackTrace" ∧
      s.fieldFound? tN "UNASSIGNED_STACK" steD = some (T.cT, T.kT, T.i13, T.fUnassigned) := by
  have w : ∀ (i : Nat) {d : Cond}, (own_ws rc)[i]? = some d → d.before args s = true := fun i d h => W d (List.mem_of_getElem? h)
  obtain ⟨⟨c, i0⟩, m0, n0, r0, x1, x2, x3, x4⟩ := Cond.native_spec (w 0 rfl)
  have hc : s.vm.findClass tN = some c := findClass_of_methodNamed n0
  obtain ⟨k, hk, hname⟩ := Vm.findClass_spec hc
  obtain ⟨_, k', _, _, hk', _, _, -, -, hni⟩ := Cond.superclass_spec hc (w 2 rfl)
  cases hk.symm.trans hk'
  obtain ⟨iF, mF, nF, rF, aF, sF, bF, -, -⟩ := Cond.ownMethod (x := tFill) hc hk (w 3 rfl)
  obtain ⟨_, cF, rF', y1, y2, y3, y4, y5, -, y6⟩ := Cond.codeSync_spec nF (w 4 rfl)
  cases rF.symm.trans rF'
  obtain ⟨j0, m0', n0', r0', a0, s0, b0, e0, f0⟩ := Cond.ownMethod (x := tFill0) hc hk (w 5 rfl)
  cases n0.symm.trans n0'
  cases r0.symm.trans r0'
  obtain ⟨mo, mO, nO, rO, sO, bO⟩ := Cond.instanceMethod_spec (w 6 rfl)
  obtain ⟨_, cO, rO', z1, z2, z3, -, z4, -, z5⟩ := Cond.code_spec nO (w 7 rfl)
  cases rO.symm.trans rO'
  obtain ⟨kO, hkO, nmO⟩ := Vm.findClass_spec (findClass_of_methodNamed nO)
  obtain ⟨u1, u2⟩ := name_of_methodNamed nO rO
  obtain ⟨c1, t1, cf, l1, g1, hcf, p1⟩ := Cond.linkedMethod hc hk nO (w 8 rfl) pl hpl
  obtain ⟨c27, t27, cf', l27, g27, hcf', p27⟩ := Cond.linkedMethod hc hk nF (w 9 rfl) pl hpl
  cases hcf.symm.trans hcf'
  obtain ⟨c202, t202, cf', l202, g202, hcf', p202⟩ := Cond.linkedMethod hc hk n0 (w 10 rfl) pl hpl
  cases hcf.symm.trans hcf'
  obtain ⟨c7, i7, f7, l7, g7, a7, s7, v7, -, -, -⟩ := Cond.ownField (t := .object tN) hc hk (by decide +kernel) (w 11 rfl) (w 18 rfl) pl hpl
  obtain ⟨c17, i17, f17, l17, g17, a17, s17, v17, q17, y17, d17⟩ := Cond.ownField (t := .array (.object "java/lang/StackTraceElement")) hc hk (by decide +kernel) (w 12 rfl) (w 19 rfl) pl hpl
  obtain ⟨c24, i24, f24, l24, g24, a24, s24, v24, q24, -, d24⟩ := Cond.ownField (t := .object "java/util/List") hc hk (by decide +kernel) (w 13 rfl) (w 20 rfl) pl hpl
  obtain ⟨c13, i13, f13, st, cell, l13, g13, a13, s13, -, -, hst, -, -, -, -, d13⟩ := Cond.ownStatic (t := .array (.object "java/lang/StackTraceElement")) hc hk (by decide +kernel) (w 14 rfl) (w 16 rfl) pl hpl
  obtain ⟨c20, i20, f20, _, _, l20, g20, a20, s20, -⟩ := Cond.ownStatic (t := .object "java/util/List") hc hk (by decide +kernel) (w 15 rfl) (w 17 rfl) pl hpl
  obtain ⟨_, _, _, _, _, fM, _, _, _, sM, vM, _⟩ := Cond.lays_spec (w 21 rfl)
  have apart : f17.slot ≠ f24.slot := by
    obtain ⟨-, d1, h1, h2⟩ := Cond.laysAt hX hkX d17 (w 19 rfl)
    obtain ⟨-, d2, h3, h4⟩ := Cond.laysAt hX hkX d24 (w 20 rfl)
    exact Cond.laysApart h1 h3 h2 h4 (by rw [q17, q24]; decide)
  let T : ThrowableC := { cT := c, kT := k, cO := c, aS := st, fillIdx := iF, fill0Idx := i0, initSIdx := iF, obj := mo, kObj := kO, methFill := mF, methFill0 := m0, methInitS := mF, methObj := mO, codeFill := cF, codeInitS := cF, codeObj := cO, fBack := f7, fDepth := f7, fStack := f17, fCause := f7, fSupp := f24, fMsg := fM, fUnassigned := f13, fSentinel := f20, cfT := cf, ci1 := c1, n1 := t1, ci27 := c27, n27 := t27, ci202 := c202, n202 := t202, ci7 := c7, i7 := i7, ci13 := c13, i13 := i13, ci17 := c17, i17 := i17, ci20 := c20, i20 := i20, ci24 := c24, i24 := i24 }
  refine ⟨T, ?_, hc, nF, n0, d17, y17, q17, d13⟩
  constructor <;> first | assumption | exact Vm.findClass_boot hc hk | exact Cond.initialized_spec hc hk (w 1 rfl) | exact own_par y6 (r := some (.object tN)) (by decide +kernel) | exact own_par x4 (r := some (.object tN)) (by decide +kernel) | (show mO.sig.parameters.length = 0; rw [own_par z5 (ps := []) (r := none) (by decide +kernel)]; rfl) | (show lookupSpecial s.vm mo.cls "<init>" mO.desc = .method mo; rw [u2]; exact lookupSpecial_of_named nO rO sO)
def own_F (Z : State) (h h' : Heap) (a : Addr) : Prop := ∃ c c' : Cell, h[a]? = some c ∧ h'[a]? = some c' ∧ c'.cls = c.cls ∧ c'.vm = c.vm ∧ c'.slots.size = c.slots.size ∧ ∀ i, i ≠ Jvm.RoadKit.slotOf Z tN "backtrace" obD → i ≠ Jvm.RoadKit.slotOf Z tN "depth" "I" → i ≠ Jvm.RoadKit.slotOf Z tN "stackTrace" steD → c'.slots[i]? = c.slots[i]?
theorem own_F.exa {Z : State} {h h' : Heap} {a : Addr} {C : String} (F : own_F Z h h' a) (E : Exa Z h a C) : Exa Z h' a C := by
  obtain ⟨c, c', h1, h2, h3, h4, h5, -⟩ := F
  obtain ⟨cell, k, e1, e2, e3, e4, e5⟩ := E
  cases h1.symm.trans e1
  exact ⟨c', k, h2, by rw [h3]; exact e2, by rw [h3]; exact e3, by rw [h4]; exact e4, by rw [h5]; exact e5⟩
theorem own_F.fld {Z : State} {h h' : Heap} {a : Addr} {C n d : String} {v : Value} (F : own_F Z h h' a) (L : Fld Z h a C n d v) (q1 : Jvm.RoadKit.slotOf Z C n d ≠ Jvm.RoadKit.slotOf Z tN "backtrace" obD) (q2 : Jvm.RoadKit.slotOf Z C n d ≠ Jvm.RoadKit.slotOf Z tN "depth" "I") (q3 : Jvm.RoadKit.slotOf Z C n d ≠ Jvm.RoadKit.slotOf Z tN "stackTrace" steD) : Fld Z h' a C n d v := by
  obtain ⟨c, c', h1, h2, h3, h4, -, h6⟩ := F
  obtain ⟨cell, cf, k, i, f, e1, e2, e3, e4, e5, e6, e7⟩ := L
  cases h1.symm.trans e1
  have es : Jvm.RoadKit.slotOf Z C n d = f.slot := by simp [Jvm.RoadKit.slotOf, e2]
  rw [es] at q1 q2 q3
  exact ⟨c', cf, k, i, f, h2, e2, e3, by rw [h4]; exact e4, by rw [h4]; exact e5, by rw [h3]; exact e6, by rw [h6 _ q1 q2 q3]; exact e7⟩
theorem own_slot {Z s : State} (hZ : Z.Warmed39 s.vm) {C n d : String} {c i : Nat} {k : Class} {f : Field} (h : s.fieldFound? C n d = some (c, k, i, f)) : Jvm.RoadKit.slotOf Z C n d = f.slot := by
  obtain ⟨c', k', i', h'⟩ := Jvm.Free.BdW.found_ride (U := s) (U' := Z) hZ.alike.symm ⟨c, k, i, h⟩
  simp [Jvm.RoadKit.slotOf, h']
/-- Throwable.fillInStackTrace() on an object of class rc that the walk has made -/
theorem own_fillB {p : Program} {l : Launch} {e : Env} {R : Room} {s : State} {args : Array Value} {below : List Frame} {len W n : Nat} {Z : State} {a0 : Array Value} {h : Heap} {a : Addr} {rc : String} {u : Value} (hx : p.tables.exec = Jvm.exec) (hadm : l.admits e) (hl : l.stackTraces = true) (hZ : Z.Warmed39 s.vm)
    (ws : ∀ d ∈ own_ws rc, d.before args s = true) (wi : (Cond.instantiable rc n).before a0 Z = true) (E : Exa Z h a rc) (N : Unt h a) (FS : Fld Z h a tN "stackTrace" steD u) (hu : u.isRef = true) (FB : Fld Z h a tN "backtrace" obD .null) (SU : Sta Z h tN "UNASSIGNED_STACK" steD u)
    (hTK : s.vm.MethodsKnown) (hBelow : s.vm.FramesKnown below) (hf : 3 ≤ R.frames) (hlo : W + 42 ≤ R.locals) :
    Back l R p e below s args tFill len W (fun A as => as = #[.ref a] ∧ A.U.heap = h ∧ A.cells + 1 ≤ R.cells ∧ A.slots + 2752 ≤ R.slots)
      (fun A _ v B => v = some (.ref a) ∧ own_F Z h B.U.heap a ∧ ∃ (L : List Loc) (n : Nat), n ≤ 2752 ∧ (∀ x ∈ L, x.base = a) ∧ B.locs = A.locs ++ L ∧ B.cells = A.cells + 1 ∧ B.slots = A.slots + n) := by
  have w : ∀ (i : Nat) {d : Cond}, (own_ws rc)[i]? = some d → d.before args s = true := fun i d q => ws d (List.mem_of_getElem? q)
  obtain ⟨cell, kX, e1, e2, e3, e4, e5⟩ := E
  obtain ⟨_, n1, n2, n3⟩ := N
  cases e1.symm.trans n1
  have hX : s.vm.findClass rc = some cell.cls := by rw [hZ.alike.findClass]; exact e2
  obtain ⟨kX', hkX, ek⟩ := hZ.alike.2.2 _ _ e3
  have hord : kX'.kind = .ordinary := by
    obtain ⟨c4, k4, i1, i2, i3, -⟩ := Cond.instantiable_spec wi
    cases i1.symm.trans e2
    cases i2.symm.trans e3
    rw [ek]; exact i3
  have hsz : cell.slots.size = kX'.instanceTypes.size := by
    have := e5 (by rw [ek] at hord; exact hord)
    rw [ek]; exact this
  have hpl : e.platform.magicAccessors = ({} : Platform).magicAccessors := by rw [hadm.platform]
  obtain ⟨T, L, tc, tf, tf0, tS, tyS, nS, tU⟩ := own_TC (args := args) (pl := e.platform) (by rw [hadm.platform]) (by rw [hadm.platform]) hpl ws hX hkX
  have tk : ∀ {f : Field} {v : Value}, kX'.instanceTypes[f.slot]? = some f.type → fits f.type v = true → Jvm.Takes s cell f v := fun {f v} q1 q2 => by
    obtain ⟨r1, r2⟩ := Takes.of_laid (v := v) hkX hord q1 q2
    exact ⟨by rw [hsz]; simpa using r1, by rw [n2]; exact r2⟩
  obtain ⟨cB, iB, fB, l198, g198, a198, sB, -, nB, yB, dB⟩ := Cond.ownField (t := .object "java/lang/Object") tc L.cls (by decide +kernel) (w 24 rfl) (w 22 rfl) e.platform hpl
  obtain ⟨_, _, cD, kD, iD, fD, -, -, dD, sD, -⟩ := Cond.lays_spec (w 23 rfl)
  cases Option.some.inj ((Cond.lays_declared (w 23 rfl) dD).symm.trans tc)
  obtain ⟨hkD, aD⟩ := State.fieldFound?_spec dD
  cases Option.some.inj (hkD.symm.trans L.cls)
  obtain ⟨nD, yD⟩ := State.fieldFound?_type dD (t := .int) (by decide +kernel)
  have fb := Cond.soleField_find tc L.cls (w 26 rfl) a198 nB sB
  have fd := Cond.soleField_find tc L.cls (w 27 rfl) aD nD sD
  obtain ⟨comp, cO, kO, -, -, hkO, kindO, hO⟩ := Cond.arrayOver_spec (w 25 rfl)
  have tyB := (Cond.laysAt hX hkX dB (w 22 rfl)).1
  have tyD := (Cond.laysAt hX hkX dD (w 23 rfl)).1
  have tySt := (Cond.laysAt hX hkX tS (w 19 rfl)).1
  have sel0 : selectMethod e.platform s.vm cell.cls T.fill0 = .method T.fill0 := by
    obtain ⟨c2, r2, m2, q1, q2, q3, q4, -⟩ := Cond.selects_spec (w 28 rfl)
    cases Option.some.inj (q1.symm.trans hX)
    cases Option.some.inj (q2.symm.trans (State.methodFound?_of_named tf0 (by decide)))
    cases Option.some.inj (q3.symm.trans tf0)
    rw [Launch.admits_selectMethod hadm]; exact q4
  have rd : ∀ {x : Cell} {v : Value} {F D : String} {c i : Nat} {k : Class} {f : Field}, s.fieldFound? tN F D = some (c, k, i, f) → x.slots[Jvm.RoadKit.slotOf Z tN F D]? = some v → x.slots[f.slot]? = some v := fun {x v F D c i k f} q r => by rw [← own_slot hZ q]; exact r
  have vS : cell.slots[T.fStack.slot]? = some u := by
    obtain ⟨_, _, _, _, f, f1, f2, -, -, -, -, f7⟩ := FS
    cases e1.symm.trans f1
    exact rd tS (by simpa [Jvm.RoadKit.slotOf, f2] using f7)
  have vB : cell.slots[fB.slot]? = some .null := by
    obtain ⟨_, _, _, _, f, f1, f2, -, -, -, -, f7⟩ := FB
    cases e1.symm.trans f1
    exact rd dB (by simpa [Jvm.RoadKit.slotOf, f2] using f7)
  obtain ⟨cf, i, k, f, st, cS, u1, u2, u3, u4, u5, u6, u7⟩ := SU
  have hst : T.aS = st := by
    obtain ⟨k2, q1, q2⟩ := State.fieldFound?_setVm (s := Z) hZ.alike u1
    have q3 := (show s.fieldFound? tN "UNASSIGNED_STACK" steD = _ from (by simpa [State.fieldFound?] using q1)).symm.trans tU
    simp only [Option.some.injEq, Prod.mk.injEq] at q3
    have q4 := L.statics
    rw [← q3.2.1, q2] at q4
    exact (Option.some.inj (u4.symm.trans q4)).symm
  have vU : cS.slots[T.fUnassigned.slot]? = some u := rd tU (by simpa [Jvm.RoadKit.slotOf, u1] using u7)
  have ne : T.aS ≠ a := fun q => by
    rw [hst] at q; subst q
    cases e1.symm.trans u5
    rw [u6] at e4; cases e4
  have bS : Jvm.RoadKit.slotOf Z tN "backtrace" obD = fB.slot := own_slot hZ dB
  have bD : Jvm.RoadKit.slotOf Z tN "depth" "I" = fD.slot := own_slot hZ dD
  have bT : Jvm.RoadKit.slotOf Z tN "stackTrace" steD = T.fStack.slot := own_slot hZ tS
  refine Back.mono (fillPaysAny (l := l) (R := R) (len := len) (W := W) (sargs := args) hx (by rw [hadm.platform]; exact hl) T L tf (u0 := ⟨u, hu⟩) (self := a) (cell := cell) (cellS := cS) (fun _ => by rw [n2]; simp) (by rw [n2]; simp) (by rw [n3]) (by rw [n3]) vS sel0 ne (fun q => by rw [q] at u6; cases u6) vU (tk tySt (by rw [tyS]; exact fits_refV_array _ ⟨u, hu⟩))
    ⟨{ ci198 := cB, i198 := iB, fBack := fB }, ⟨l198, g198, a198, sB⟩, vB⟩ hTK hBelow tc hO hkO kindO fb fd (fun x => tk tyB (by rw [yB]; rfl)) (fun x => tk tyD (by rw [yD]; rfl)) (by omega) (by omega))
    (fun A as hp => ⟨hp.1, hp.2.2.1, hp.2.2.2, by rw [hp.2.1]; exact e1, by rw [hp.2.1, hst]; exact u5⟩) (fun A as v B hp hq => ?_)
  obtain ⟨hv, C, n, hn, q1, q2, q3, q4, q5, q6, q7, q8⟩ := hq
  refine ⟨hv, ⟨cell, C, e1, q1, q2, q3, q4, fun i r1 r2 r3 => q5 i (by rw [← bS]; exact r1) (by rw [← bD]; exact r2) (by rw [← bT]; exact r3)⟩, _, n, hn, ?_, q6, q7, q8⟩
  intro x hx
  simp only [List.mem_cons, List.not_mem_nil, or_false] at hx
  rcases hx with rfl | rfl | rfl <;> rfl
/-- what a frame's end says of the heap, where every place written is of a -/
theorem own_end {s t : State} {L : List Loc} {k n : Nat} {a : Addr} (q : s.sameButNew t L k n) (hL : ∀ x ∈ L, x.base = a) : Keep s.heap t.heap [a] ∧ (Unt s.heap a → Unt t.heap a) := by
  have K := q.2.2.2.2.2
  refine ⟨⟨q.2.1, fun x c hc hx => ?_, fun x c hc => ?_⟩, fun N => ?_⟩
  · obtain ⟨c', h1, h2, h3, h4⟩ := K x c hc
    have : c'.slots = c.slots := Array.ext_getElem? fun i => h4 i fun hm => hx (by rw [← hL _ hm]; exact List.mem_singleton.mpr rfl)
    rw [h1, h2, this]
  · obtain ⟨c', h1, h2, h3, -⟩ := K x c hc
    exact ⟨c', h1, by rw [h2], by rw [h2], h3⟩
  · obtain ⟨c, u1, u2, u3⟩ := N
    obtain ⟨c', h1, h2, -⟩ := K a c u1
    exact ⟨c', h1, by rw [h2]; exact u2, by rw [h2]; exact u3⟩
theorem own_bl {a : Addr} {L : List Loc} (h : ∀ x ∈ L, x.base = a) (i j k n : Nat) : ∀ x ∈ ((((([] : List Loc) ++ [⟨a, i⟩]) ++ [⟨a, j⟩]) ++ [⟨a, k⟩]) ++ L) ++ [⟨a, n⟩], x.base = a := by
  intro x hx
  simp only [List.mem_append, List.mem_singleton, List.not_mem_nil, false_or] at hx
  rcases hx with (((hx | hx) | hx) | hx) | hx
  · rw [hx]
  · rw [hx]
  · rw [hx]
  · exact h x hx
  · rw [hx]
end OwnFill
theorem own_decl {y : MethodName} {a0 : Array Value} {Z : State} {bytes : ByteArray} {mx : Nat} {rt : Option FieldType} (wi : (Cond.instanceMethod y).before a0 Z = true) (wc : (Cond.code y bytes mx rt).before a0 Z = true) : (Cond.declares y).before a0 Z = true := by
  obtain ⟨mk, methM, hnamed, hmethM, hst, -⟩ := Cond.instanceMethod_spec wi
  obtain ⟨m2, cM, q1, -, -, -, -, -, -, hsig⟩ := Cond.code_spec hnamed wc
  cases hmethM.symm.trans q1
  simp [Cond.before, Cond.holds, Cond.value, hnamed, hmethM, hst, hsig]
theorem own_same {y x2 y2 : MethodName} {C : String} {a0 : Array Value} {Z : State} (wi : (Cond.instanceMethod y).before a0 Z = true) (ws : (Cond.selects C x2 y2).before a0 Z = true) (hc : y2.cls = y.cls ∧ y.cls ≠ "java/lang/invoke/MethodHandle" ∧ y.cls ≠ "java/lang/invoke/VarHandle") : (Cond.sameMethod y.cls y.cls y.name y.desc).before a0 Z = true := by
  obtain ⟨mk, methM, hnamed, -, -, -⟩ := Cond.instanceMethod_spec wi
  obtain ⟨c2, r2, m2, -, -, q3, -, kP, hkP, hkPi⟩ := Cond.selects_spec ws
  have h1 := findClass_of_methodNamed hnamed
  have h2 := findClass_of_methodNamed q3
  rw [hc.1, h1] at h2
  rw [← Option.some.inj h2] at hkP
  have h3 := State.methodFound?_of_named hnamed hc.2
  have h4 : Z.methodNamed? ⟨y.cls, y.name, y.desc⟩ = some mk := hnamed
  simp [Cond.before, Cond.holds, Cond.value, h1, h3, h4, hkP, hkPi]
theorem own_nf {y x2 y2 : MethodName} {C : String} {a0 : Array Value} {s : State} (ws : (Cond.selects C x2 y2).before a0 s = true) (hc : y2.cls = y.cls) : NotFace s y := fun r0 h0 => by
  obtain ⟨c2, r2, m2, -, -, q3, -, kP, hkP, hkPi⟩ := Cond.selects_spec ws
  have h1 := findClass_of_methodNamed h0
  have h2 := findClass_of_methodNamed q3
  rw [hc, h1] at h2
  rw [← Option.some.inj h2] at hkP
  exact ⟨kP, hkP, hkPi⟩
theorem own_since0 (s : State) (n : Nat) : s.Since s.vm n := State.WarmedH.since (State.WarmedH.refl s) n
theorem own_REW {s t : State} {o : Outcome} {L : List Loc} {k n k' n' : Nat} (h : ReturnedEndW s o t L k n) (hk : k ≤ k') (hn : n ≤ n') : ReturnedEndW s o t L k' n' := ⟨h.1, h.2.1, h.2.2.1, h.2.2.2.mono hk hn⟩
theorem own_and255 (x : Int32) : ¬ nar .char ((x &&& (255 : Int32)).toUInt32.toUInt16.toUInt32.toInt32) < 0 ∧ ¬ (255 : Int32) < nar .char ((x &&& (255 : Int32)).toUInt32.toUInt16.toUInt32.toInt32) := by
  have t : ∀ k : Fin 256, ¬ nar .char ((Int32.ofNat k.val).toUInt32.toUInt16.toUInt32.toInt32) < 0 ∧ ¬ (255 : Int32) < nar .char ((Int32.ofNat k.val).toUInt32.toUInt16.toUInt32.toInt32) := by decide +kernel
  have h : (x &&& 255).toBitVec.toNat < 256 := by
    simp only [Int32.toBitVec_and, BitVec.toNat_and]
    exact Nat.lt_succ_of_le Nat.and_le_right
  have e : (x &&& 255) = Int32.ofNat (x &&& 255).toBitVec.toNat := by
    apply Int32.toBitVec_inj.mp
    show _ = BitVec.ofNat 32 _
    rw [BitVec.ofNat_toNat]; simp
  rw [e]
  exact t ⟨_, h⟩
def own_msg (cs ds : List Int32) : List Int32 := if cs.length = 0 then ds else (((([] : List Int32) ++ cs) ++ ([(58 : Int32), (32 : Int32)] : List Int32)) ++ ds)
theorem own_lenE (A B : List Int32) : Int32.ofNat ((([] : List Int32) ++ A) ++ B).length = Int32.ofNat A.length + Int32.ofNat B.length := by rw [own_addn]; simp
theorem own_lenM (A B C : List Int32) : Int32.ofNat (((([] : List Int32) ++ ((([] : List Int32) ++ A) ++ B)) ++ ([(58 : Int32), (32 : Int32)] : List Int32)) ++ C).length = (Int32.ofNat A.length + Int32.ofNat B.length) + (2 : Int32) + Int32.ofNat C.length := by
  rw [own_addn, show (2 : Int32) = Int32.ofNat 2 from rfl, own_addn, own_addn]; simp only [List.length_append, List.length_cons, List.length_nil, Nat.zero_add]
theorem own_subn {a b : Nat} (h : b ≤ a) : Int32.ofNat a - Int32.ofNat b = Int32.ofNat (a - b) := by
  obtain ⟨k, rfl⟩ := Nat.le.dest h
  rw [Nat.add_sub_cancel_left, ← own_addn]
  rw [Int32.add_comm, Int32.add_sub_cancel]
theorem own_catL {A B : List Int32} {i : Nat} (h : i < A.length) : A.getD i 0 = (A ++ B).getD i 0 := by
  simp [List.getD_eq_getElem?_getD, List.getElem?_append, h]
theorem own_catR {A B : List Int32} {i : Nat} (h : ¬ i < A.length) : B.getD (i - A.length) 0 = (A ++ B).getD i 0 := by
  simp [List.getD_eq_getElem?_getD, List.getElem?_append, h]
theorem own_narc {c : Int32} (h : ¬ c < 0 ∧ ¬ (255 : Int32) < c) : nar .char c = c := by
  have e1 : (0 : Int32).toInt = 0 := rfl
  have e2 : (255 : Int32).toInt = 255 := rfl
  have h1 := h.1
  have h2 := h.2
  rw [Int32.lt_iff_toInt_lt] at h1 h2
  have t : ∀ k : Fin 256, nar .char (Int32.ofNat k.val) = Int32.ofNat k.val := by decide +kernel
  have e : c = Int32.ofNat c.toInt.toNat := by
    apply Int32.toInt_inj.mp
    rw [Int32.toInt_ofNat_of_lt (by omega)]; omega
  rw [e]
  exact t ⟨c.toInt.toNat, by omega⟩
theorem own_lat {A B : List Int32} {i : Nat} (hA : ∀ c ∈ A, ¬ c < 0 ∧ ¬ (255 : Int32) < c) (hB : ∀ c ∈ B, ¬ c < 0 ∧ ¬ (255 : Int32) < c) (h : i < (A ++ B).length) : nar .char ((A ++ B).getD i 0) = (A ++ B).getD i 0 := by
  apply own_narc
  have hm : (A ++ B).getD i 0 ∈ A ++ B := by
    rw [List.getD_eq_getElem?_getD, List.getElem?_eq_getElem h]; exact List.getElem_mem h
  rcases List.mem_append.mp hm with q | q
  · exact hA _ q
  · exact hB _ q
theorem own_chE {A B : List Int32} {i : Nat} (hA : ∀ c ∈ A, ¬ c < 0 ∧ ¬ (255 : Int32) < c) (hB : ∀ c ∈ B, ¬ c < 0 ∧ ¬ (255 : Int32) < c) (h : i < (A ++ B).length) : ((([] : List Int32) ++ A) ++ B).getD i 0 = nar .char ((A ++ B).getD i 0) := (own_lat hA hB h).symm
theorem own_M (A B C : List Int32) : (((([] : List Int32) ++ ((([] : List Int32) ++ A) ++ B)) ++ ([(58 : Int32), (32 : Int32)] : List Int32)) ++ C) = (A ++ B) ++ ((58 : Int32) :: (32 : Int32) :: C) := by simp
theorem own_mc1 {A B C : List Int32} {i : Nat} (hA : ∀ c ∈ A, ¬ c < 0 ∧ ¬ (255 : Int32) < c) (hB : ∀ c ∈ B, ¬ c < 0 ∧ ¬ (255 : Int32) < c) (h : i < A.length + B.length) : (((([] : List Int32) ++ ((([] : List Int32) ++ A) ++ B)) ++ ([(58 : Int32), (32 : Int32)] : List Int32)) ++ C).getD i 0 = nar .char ((A ++ B).getD i 0) := by
  rw [own_M, own_lat hA hB (by simpa using h)]
  exact (own_catL (by simpa using h)).symm
theorem own_mc2 {A B C : List Int32} {i : Nat} (h : i = A.length + B.length) : (((([] : List Int32) ++ ((([] : List Int32) ++ A) ++ B)) ++ ([(58 : Int32), (32 : Int32)] : List Int32)) ++ C).getD i 0 = (58 : Int32) := by
  rw [own_M, ← own_catR (by simp [h]), h]; simp
theorem own_mc3 {A B C : List Int32} {i : Nat} (h : i = A.length + B.length + 1) : (((([] : List Int32) ++ ((([] : List Int32) ++ A) ++ B)) ++ ([(58 : Int32), (32 : Int32)] : List Int32)) ++ C).getD i 0 = (32 : Int32) := by
  rw [own_M, ← own_catR (by simp [h]), h]; simp
theorem own_mc4 {A B C : List Int32} {i : Nat} (h : A.length + B.length + 2 ≤ i) : (((([] : List Int32) ++ ((([] : List Int32) ++ A) ++ B)) ++ ([(58 : Int32), (32 : Int32)] : List Int32)) ++ C).getD i 0 = C.getD (i - (A.length + B.length) - 2) 0 := by
  rw [own_M, ← own_catR (by simp; omega), List.length_append]
  obtain ⟨k, hk⟩ : ∃ k, i - (A.length + B.length) = k + 2 := ⟨i - (A.length + B.length) - 2, by omega⟩
  rw [hk]; simp [List.getD_eq_getElem?_getD]
theorem own_nb (c : Int32) : nar .byte (c.toInt8.toInt32) = c.toInt8.toInt32 := by
  show (c.toInt8.toInt32).toInt8.toInt32 = _
  rw [Int8.toInt8_toInt32]
theorem own_i2c (x : Int32) : ¬ ((x &&& (255 : Int32)).toUInt32.toUInt16.toUInt32.toInt32) < 0 ∧ ¬ (255 : Int32) < ((x &&& (255 : Int32)).toUInt32.toUInt16.toUInt32.toInt32) := by
  have t : ∀ k : Fin 256, ¬ ((Int32.ofNat k.val).toUInt32.toUInt16.toUInt32.toInt32) < 0 ∧ ¬ (255 : Int32) < ((Int32.ofNat k.val).toUInt32.toUInt16.toUInt32.toInt32) := by decide +kernel
  have h : (x &&& 255).toBitVec.toNat < 256 := by
    simp only [Int32.toBitVec_and, BitVec.toNat_and]
    exact Nat.lt_succ_of_le Nat.and_le_right
  have e : (x &&& 255) = Int32.ofNat (x &&& 255).toBitVec.toNat := by
    apply Int32.toBitVec_inj.mp
    show _ = BitVec.ofNat 32 _
    rw [BitVec.ofNat_toNat]; simp
  rw [e]
  exact t ⟨_, h⟩
theorem d23_0 : decode jdk_42_method_152_code 0 = .ok (.getstatic 38, 3) := by decide +kernel
theorem d23_3 : decode jdk_42_method_152_code 3 = .ok (.ifCond .eq 10, 3) := by decide +kernel
theorem d23_6 : decode jdk_42_method_152_code 6 = .ok (.aload_n 0, 1) := by decide +kernel
theorem d23_7 : decode jdk_42_method_152_code 7 = .ok (.getfield 15, 3) := by decide +kernel
theorem d23_10 : decode jdk_42_method_152_code 10 = .ok (.goto 4, 3) := by decide +kernel
theorem d23_14 : decode jdk_42_method_152_code 14 = .ok (.ireturn, 1) := by decide +kernel
theorem pn_java_lang_String : plainName "java/lang/String" = true := by first | (simp [plainName, overriddenIn]; done) | decide +kernel
theorem ef_sbCoder (m : MethodId) (x0 : Addr) : entryFrame m #[(.ref x0)] 1 = mkF m 0 #[.val (.ref x0)] [] := by first | (simp [entryFrame, mkF, argsToLocals, Value.category]; done) | rfl
def Q_sbCoder (Z : State) (x1 : Addr) (t1 : Addr) (ds : List Int32) (G1 : Int32) (h0 : Heap) (n0 : Nat) (v : Option Value) (h : Heap) (L : List Loc) : Prop := v = some (.int (0 : Int32)) ∧ Fr n0 L ∧ h = h0
theorem sbCoder (l : Launch) (Z : State) (a0 : Array Value) (hw : ∀ d ∈ tables_1, d.before a0 Z = true) (ws : List Jvm.Cond) (x1 : Addr) (t1 : Addr) (ds : List Int32) (G1 : Int32) (h0 : Heap) (n0 : Nat) (Z0 : n0 ≤ h0.size) (S1 : own_Str Z h0 x1 t1 ds) (T1 : Sta Z Z.heap "java/lang/String" "COMPACT_STRINGS" "Z" (.int G1)) (P5 : ¬ (G1 = (0 : Int32))) (O1 : Old Z n0 h0) :
    MetFree l (⟨"java/lang/String", "coder", "()B"⟩ : MethodName) (head1 (Jvm.Cond.code (⟨"java/lang/String", "coder", "()B"⟩ : MethodName) jdk_42_method_152_code 1 (some .byte) :: ws) ({ frames := 0, cells := 0, slots := 0, locals := 0 } : Room)) (fun a U => a = #[(.ref x1)] ∧ Z.Warmed39 U.vm ∧ U.heap = h0) (fun _ _ _ _ _ => True) (fun _ U o U' => ∃ v L, o = .returned v ∧ Q_sbCoder Z x1 t1 ds G1 h0 n0 v U'.heap L ∧ FrameEnd U o U' L ({ frames := 0, cells := 0, slots := 0, locals := 0 } : Room).cells ({ frames := 0, cells := 0, slots := 0, locals := 0 } : Room).slots) := by
  refine MetFree.of_bodySF (plainFor_of_name pn_java_lang_String) hisR ?_
  intro p e s m args below meth c s₁ Bd hml0 hP hK
  obtain ⟨rfl, hZ, hh⟩ := hP
  have hx := Bd.exec
  have hby := Bd.bytes
  have hml : c.maxLocals = 1 := hml0
  have hown : s.vm.findClass "java/lang/String" = some m.cls := findClass_of_methodNamed Bd.named
  have hnm := (name_of_methodNamed Bd.named Bd.method).1
  have X0 : Stand p l e ({ frames := 0, cells := 0, slots := 0, locals := 0 } : Room) s m #[(.ref x1)] below meth c s₁ [] 0 0 := Stand.of_body Bd
  have e0 : s₁.heap = h0 := by rw [← hh, Bd.state]; rfl
  have N0 := Fr.nil n0
  have pre0 : ∀ t, Steps p.tables e below (s₁.setTop (mkF m 0 #[.val (.ref x1)] [])) t → Steps p.tables e below (s₁.setTop (entryFrame m #[(.ref x1)] 1)) t := fun t k => castTop (ef_sbCoder m x1) k
  obtain ⟨T1_, X1_, e1_, st1_⟩ := getS2 X0 hx hZ hown (host := "") (Or.inl (own_w hw 8 rfl)) Via.refl e0 (T1.ext O1.2) (g := (mkF m 0 #[.val (.ref x1)] [])) rfl (hb hby d23_0)
  obtain ⟨T2_, X2_, e2_, st2_⟩ := getF X1_ hx hZ hown (host := "") (Or.inl (own_w hw 28 rfl)) Via.refl e1_ S1.2.1 (g := (mkF m 7 #[.val (.ref x1)] [(.ref x1)])) rfl rfl (hb hby d23_7)
  obtain ⟨fs, hr, hrun, hended, hW, hsame⟩ := X2_.leave (v := some (.int (0 : Int32))) (fun h => by first | rfl | (rw [Bd.returns] at h; cases h))
  refine ⟨_, _, pre0 _ ?_, hrun, hended, _, _, rfl, ?_, ⟨_, rfl⟩, hW, hsame.mono (by exact own_b rfl) (by exact own_b rfl)⟩
  · show Steps p.tables e below (s₁.setTop (mkF m 0 #[.val (.ref x1)] [])) _
    refine st1_ _ ?_
    show Steps p.tables e below (T1_.setTop (mkF m 3 #[.val (.ref x1)] [(.int G1)])) _
    refine XS.ifNo X1_.here hx rfl (hb hby d23_3) rfl ((if0 _ _).trans (feq (P5 : ¬ (G1 = (0 : Int32)))).1) ?_
    refine XS.aloadN X1_.here hx rfl (hb hby d23_6) rfl rfl ?_
    refine st2_ _ ?_
    show Steps p.tables e below (T2_.setTop (mkF m 10 #[.val (.ref x1)] [(.int (0 : Int32))])) _
    refine XS.goto X2_.here hx rfl (pc0 := 10) (pc' := 14) rfl (hb hby d23_10) (by decide) (by decide) ?_
    exact retN X2_ hx (t := .byte) Bd.returns (by simp) (hb hby d23_14) hr
  · show Q_sbCoder Z x1 t1 ds G1 h0 n0 _ T2_.heap _
    rw [e2_]
    exact ⟨rfl, N0, rfl⟩
theorem d27_0 : decode jdk_42_method_147_code 0 = .ok (.aload_n 0, 1) := by decide +kernel
theorem d27_1 : decode jdk_42_method_147_code 1 = .ok (.invokevirtual 335, 3) := by decide +kernel
theorem pd_qzB : parseMethodDescriptor "()B" = some ⟨[], some .byte⟩ := by decide +kernel
theorem d27_4 : decode jdk_42_method_147_code 4 = .ok (.iload_n 3, 1) := by decide +kernel
theorem d27_5 : decode jdk_42_method_147_code 5 = .ok (.if_icmp .ne 23, 3) := by decide +kernel
theorem d27_8 : decode jdk_42_method_147_code 8 = .ok (.aload_n 0, 1) := by decide +kernel
theorem d27_9 : decode jdk_42_method_147_code 9 = .ok (.getfield 9, 3) := by decide +kernel
theorem d27_12 : decode jdk_42_method_147_code 12 = .ok (.iconst 0, 1) := by decide +kernel
theorem d27_13 : decode jdk_42_method_147_code 13 = .ok (.aload_n 1, 1) := by decide +kernel
theorem d27_14 : decode jdk_42_method_147_code 14 = .ok (.iload_n 2, 1) := by decide +kernel
theorem d27_15 : decode jdk_42_method_147_code 15 = .ok (.iload_n 3, 1) := by decide +kernel
theorem d27_16 : decode jdk_42_method_147_code 16 = .ok (.ishl, 1) := by decide +kernel
theorem d27_17 : decode jdk_42_method_147_code 17 = .ok (.aload_n 0, 1) := by decide +kernel
theorem d27_18 : decode jdk_42_method_147_code 18 = .ok (.getfield 9, 3) := by decide +kernel
theorem d27_21 : decode jdk_42_method_147_code 21 = .ok (.arraylength, 1) := by decide +kernel
theorem d27_22 : decode jdk_42_method_147_code 22 = .ok (.invokestatic 212, 3) := by decide +kernel
theorem d27_25 : decode jdk_42_method_147_code 25 = .ok (.goto 18, 3) := by decide +kernel
theorem d27_43 : decode jdk_42_method_147_code 43 = .ok (.return_, 1) := by decide +kernel
theorem ef_sbGet (m : MethodId) (x0 : Addr) (x1 : Addr) (x2 : Int32) (x3 : Int32) : entryFrame m #[(.ref x0), (.ref x1), (.int x2), (.int x3)] 4 = mkF m 0 #[.val (.ref x0), .val (.ref x1), .val (.int x2), .val (.int x3)] [] := by first | (simp [entryFrame, mkF, argsToLocals, Value.category]; done) | rfl
def Q_sbGet (Z : State) (x1 : Addr) (v1 : Addr) (t1 : Addr) (ds : List Int32) (kv : ClassId) (es : List Int32) (cap : Nat) (G1 : Int32) (h0 : Heap) (n0 : Nat) (v : Option Value) (h : Heap) (L : List Loc) : Prop := v = none ∧ Fr n0 L ∧ Keep h0 h [v1] ∧ (Arv Z h v1 kv .byte (Int32.ofNat cap) (own_pad (es ++ ds) cap) (.int (0 : Int32)))
theorem sbGet (l : Launch) (Z : State) (a0 : Array Value) (hw : ∀ d ∈ tables_1, d.before a0 Z = true) (ws : List Jvm.Cond) (x1 : Addr) (v1 : Addr) (t1 : Addr) (ds : List Int32) (kv : ClassId) (es : List Int32) (cap : Nat) (G1 : Int32) (h0 : Heap) (n0 : Nat) (Z0 : n0 ≤ h0.size) (S1 : own_Str Z h0 x1 t1 ds) (V1 : Arv Z h0 v1 kv .byte (Int32.ofNat cap) (own_pad es cap) (.int (0 : Int32))) (T1 : Sta Z Z.heap "java/lang/String" "COMPACT_STRINGS" "Z" (.int G1)) (P5 : ¬ (G1 = (0 : Int32))) (O1 : Old Z n0 h0) (g1 : n0 ≤ v1) (ne1 : t1 ≠ v1) (le1 : es.length + ds.length ≤ cap) (lc1 : cap ≤ 4000) :
    MetFree l (⟨"java/lang/String", "getBytes", "([BIB)V"⟩ : MethodName) (head1 (Jvm.Cond.code (⟨"java/lang/String", "getBytes", "([BIB)V"⟩ : MethodName) jdk_42_method_147_code 4 none :: ws) ({ frames := 1, cells := 0, slots := 0, locals := 18 } : Room)) (fun a U => a = #[(.ref x1), (.ref v1), (.int (Int32.ofNat es.length)), (.int (0 : Int32))] ∧ Z.Warmed39 U.vm ∧ U.heap = h0) (fun _ _ _ _ _ => True) (fun _ U o U' => ∃ v L, o = .returned v ∧ Q_sbGet Z x1 v1 t1 ds kv es cap G1 h0 n0 v U'.heap L ∧ FrameEnd U o U' L ({ frames := 1, cells := 0, slots := 0, locals := 18 } : Room).cells ({ frames := 1, cells := 0, slots := 0, locals := 18 } : Room).slots) := by
  refine MetFree.of_bodySF (plainFor_of_name pn_java_lang_String) hisR ?_
  intro p e s m args below meth c s₁ Bd hml0 hP hK
  obtain ⟨rfl, hZ, hh⟩ := hP
  have hx := Bd.exec
  have hby := Bd.bytes
  have hml : c.maxLocals = 4 := hml0
  have hown : s.vm.findClass "java/lang/String" = some m.cls := findClass_of_methodNamed Bd.named
  have hnm := (name_of_methodNamed Bd.named Bd.method).1
  have X0 : Stand p l e ({ frames := 1, cells := 0, slots := 0, locals := 18 } : Room) s m #[(.ref x1), (.ref v1), (.int (Int32.ofNat es.length)), (.int (0 : Int32))] below meth c s₁ [] 0 0 := Stand.of_body Bd
  have e0 : s₁.heap = h0 := by rw [← hh, Bd.state]; rfl
  have N0 := Fr.nil n0
  have pre0 : ∀ t, Steps p.tables e below (s₁.setTop (mkF m 0 #[.val (.ref x1), .val (.ref v1), .val (.int (Int32.ofNat es.length)), .val (.int (0 : Int32))] [])) t → Steps p.tables e below (s₁.setTop (entryFrame m #[(.ref x1), (.ref v1), (.int (Int32.ofNat es.length)), (.int (0 : Int32))] 4)) t := fun t k => castTop (ef_sbGet m x1 v1 (Int32.ofNat es.length) (0 : Int32)) k
  obtain ⟨-, -, -, ⟨kb_, K1_⟩, hlat_, hlen_⟩ := id S1
  have K2_ : Arv Z h0 t1 kb_ .byte (Int32.ofNat ds.length) (own_by ds) (.int (0 : Int32)) := K1_
  obtain ⟨cq2_, kq2_, qa2_, qb2_, qc2_⟩ := isOf hZ e0 S1.1
  obtain ⟨_, _, ⟨T1_, L1_, k1_, n1_⟩, -, X1_, ⟨Lc1_, hQ1_, l1_, y1_, z1_⟩, st1_⟩ := X0.virtualBack hx (y := (⟨"java/lang/String", "coder", "()B"⟩ : MethodName)) (z := (⟨"java/lang/String", "coder", "()B"⟩ : MethodName)) hown (mvT hZ (own_w hw 155 rfl)) (mvT hZ (own_w hw 156 rfl)) (notFace_of_selects (args := #[]) (mvT hZ (own_w hw 158 rfl))) (mvT hZ (own_w hw 158 rfl)) (mvT hZ (own_w hw 157 rfl)) (by decide) (backOf (W := 0) (sbCoder l Z a0 hw [] x1 t1 ds G1 h0 n0 Z0 S1 T1 P5 O1) hZ (own_w hw 159 rfl) (own_w hw 6 rfl) (by decide) (by decide)) qa2_ qc2_ (g := (mkF m 1 #[.val (.ref x1), .val (.ref v1), .val (.int (Int32.ofNat es.length)), .val (.int (0 : Int32))] [(.ref x1)])) rfl (by rw [hml]; rfl) (Steps.refl _) (argsL := []) (rest := []) (lenOf pd_qzB rfl) rfl (by show 2 * 0 + _ ≤ _; exact Nat.le_of_eq rfl) (hb hby d27_1) (fun _ _ => ⟨rfl, e0, (by exact own_b rfl), (by exact own_b rfl)⟩)
  dsimp only [Pt.U, Pt.locs, Pt.cells, Pt.slots] at X1_ l1_ y1_ z1_ st1_ hQ1_
  subst L1_ k1_ n1_
  obtain ⟨rfl, Nq1_, ek1_⟩ := hQ1_
  have N1_ := Fr.app N0 Nq1_
  obtain ⟨T3_, X3_, e3_, st3_⟩ := getF X1_ hx hZ hown (host := "") (Or.inl (own_w hw 26 rfl)) Via.refl ek1_ S1.2.2.1 (g := (mkF m 9 #[.val (.ref x1), .val (.ref v1), .val (.int (Int32.ofNat es.length)), .val (.int (0 : Int32))] [(.ref x1)])) rfl rfl (hb hby d27_9)
  obtain ⟨T4_, X4_, e4_, st4_⟩ := getF X3_ hx hZ hown (host := "") (Or.inl (own_w hw 26 rfl)) Via.refl e3_ S1.2.2.1 (g := (mkF m 18 #[.val (.ref x1), .val (.ref v1), .val (.int (Int32.ofNat es.length)), .val (.int (0 : Int32))] [(.ref x1), (.int (Int32.ofNat es.length)), (.ref v1), (.int (0 : Int32)), (.ref t1)])) rfl rfl (hb hby d27_18)
  obtain ⟨cl5_, Ar5_, q5_, S5_, M5_, Hs5_, G5_⟩ := id K2_
  obtain ⟨T6_, h6_, L6_, X6_, e6_, N6_, K6_, V6_, st6_⟩ := cpA X4_ hx hZ hown (own_w hw 183 rfl) (own_w hw 186 rfl) (own_w hw 184 rfl) (own_w hw 185 rfl) e4_ K2_ V1 (us := (own_by ds)) (Or.inl ⟨rfl, rfl⟩) (by decide) (own_nn (by omega)) (own_nn hlen_) (own_h4 _) (own_h5 le1 lc1) (own_us _ hlen_) (own_hl le1 lc1) N1_ g1 (g := (mkF m 22 #[.val (.ref x1), .val (.ref v1), .val (.int (Int32.ofNat es.length)), .val (.int (0 : Int32))] [(.int (Int32.ofNat ds.length)), (.int (Int32.ofNat es.length)), (.ref v1), (.int (0 : Int32)), (.ref t1)])) rfl (by rw [hml]; rfl) rfl (hb hby d27_22) (by decide) (W := 0) (by show 2 * 0 + _ ≤ _; exact Nat.le_of_eq rfl) (by decide)
  have v6_ : Arv Z h6_ v1 kv .byte (Int32.ofNat cap) (own_pad (es ++ ds) cap) (.int (0 : Int32)) := (by rw [← own_cat le1 lc1]; exact V6_)
  have k7_ : Keep h0 h6_ [v1] := (Keep.refl h0 [v1]).trans K6_ (allS (Or.inl (List.mem_of_getElem? (i := 0) rfl)) all0)
  obtain ⟨fs, hr, hrun, hended, hW, hsame⟩ := X6_.leave (v := none) (fun h => by first | rfl | (rw [Bd.returns] at h; cases h))
  refine ⟨_, _, pre0 _ ?_, hrun, hended, _, _, rfl, ?_, ⟨_, rfl⟩, hW, hsame.mono (by exact own_b rfl) (by exact own_b rfl)⟩
  · show Steps p.tables e below (s₁.setTop (mkF m 0 #[.val (.ref x1), .val (.ref v1), .val (.int (Int32.ofNat es.length)), .val (.int (0 : Int32))] [])) _
    refine XS.aloadN X0.here hx rfl (hb hby d27_0) rfl rfl ?_
    refine st1_.trans ?_
    show Steps p.tables e below (T1_.setTop (mkF m 4 #[.val (.ref x1), .val (.ref v1), .val (.int (Int32.ofNat es.length)), .val (.int (0 : Int32))] [(.int (0 : Int32))])) _
    refine XS.iloadN X1_.here hx rfl (hb hby d27_4) rfl ?_
    refine XS.icmpNo X1_.here hx rfl (hb hby d27_5) rfl (teq ((by decide) : (0 : Int32) = (0 : Int32))).2 ?_
    refine XS.aloadN X1_.here hx rfl (hb hby d27_8) rfl rfl ?_
    refine st3_ _ ?_
    show Steps p.tables e below (T3_.setTop (mkF m 12 #[.val (.ref x1), .val (.ref v1), .val (.int (Int32.ofNat es.length)), .val (.int (0 : Int32))] [(.ref t1)])) _
    refine XS.iconst X3_.here hx rfl (hb hby d27_12) ?_
    refine XS.aloadN X3_.here hx rfl (hb hby d27_13) rfl rfl ?_
    refine XS.iloadN X3_.here hx rfl (hb hby d27_14) rfl ?_
    refine XS.iloadN X3_.here hx rfl (hb hby d27_15) rfl ?_
    refine XS.ishl X3_.here hx rfl (hb hby d27_16) rfl ?_
    show Steps p.tables e below (T3_.setTop (mkF m 17 #[.val (.ref x1), .val (.ref v1), .val (.int (Int32.ofNat es.length)), .val (.int (0 : Int32))] [(.int ((Int32.ofNat es.length) <<< ((0 : Int32) &&& 31))), (.ref v1), (.int (0 : Int32)), (.ref t1)])) _
    rw [own_shl0]
    show Steps p.tables e below (T3_.setTop (mkF m 17 #[.val (.ref x1), .val (.ref v1), .val (.int (Int32.ofNat es.length)), .val (.int (0 : Int32))] [(.int (Int32.ofNat es.length)), (.ref v1), (.int (0 : Int32)), (.ref t1)])) _
    refine XS.aloadN X3_.here hx rfl (hb hby d27_17) rfl rfl ?_
    refine st4_ _ ?_
    show Steps p.tables e below (T4_.setTop (mkF m 21 #[.val (.ref x1), .val (.ref v1), .val (.int (Int32.ofNat es.length)), .val (.int (0 : Int32))] [(.ref t1), (.int (Int32.ofNat es.length)), (.ref v1), (.int (0 : Int32)), (.ref t1)])) _
    refine X4_.arraylength hx (by rw [e4_]; exact Ar5_.1) (State.isArrayOf_alike (State.Warmed39.alike hZ) Ar5_.2.1) (g := (mkF m 21 #[.val (.ref x1), .val (.ref v1), .val (.int (Int32.ofNat es.length)), .val (.int (0 : Int32))] [(.ref t1), (.int (Int32.ofNat es.length)), (.ref v1), (.int (0 : Int32)), (.ref t1)])) rfl rfl (hb hby d27_21) _ ?_
    rw [len_of S5_ M5_]
    show Steps p.tables e below (T4_.setTop (mkF m 22 #[.val (.ref x1), .val (.ref v1), .val (.int (Int32.ofNat es.length)), .val (.int (0 : Int32))] [(.int (Int32.ofNat ds.length)), (.int (Int32.ofNat es.length)), (.ref v1), (.int (0 : Int32)), (.ref t1)])) _
    refine st6_ _ ?_
    show Steps p.tables e below (T6_.setTop (mkF m 25 #[.val (.ref x1), .val (.ref v1), .val (.int (Int32.ofNat es.length)), .val (.int (0 : Int32))] [])) _
    refine XS.goto X6_.here hx rfl (pc0 := 25) (pc' := 43) rfl (hb hby d27_25) (by decide) (by decide) ?_
    exact X6_.returnOut hx Bd.returns (hb hby d27_43) hr
  · show Q_sbGet Z x1 v1 t1 ds kv es cap G1 h0 n0 _ T6_.heap _
    rw [e6_]
    exact ⟨rfl, N6_, k7_, v6_⟩
theorem d26_0 : decode jdk_68_method_71_code 0 = .ok (.getstatic 18, 3) := by decide +kernel
theorem d26_3 : decode jdk_68_method_71_code 3 = .ok (.ifCond .eq 18, 3) := by decide +kernel
theorem d26_6 : decode jdk_68_method_71_code 6 = .ok (.aload_n 0, 1) := by decide +kernel
theorem d26_7 : decode jdk_68_method_71_code 7 = .ok (.getfield 22, 3) := by decide +kernel
theorem d26_10 : decode jdk_68_method_71_code 10 = .ok (.aload_n 1, 1) := by decide +kernel
theorem d26_11 : decode jdk_68_method_71_code 11 = .ok (.invokevirtual 40, 3) := by decide +kernel
theorem d26_14 : decode jdk_68_method_71_code 14 = .ok (.if_icmp .eq 7, 3) := by decide +kernel
theorem d26_21 : decode jdk_68_method_71_code 21 = .ok (.return_, 1) := by decide +kernel
theorem pn_java_lang_AbstractStringBuilder : plainName "java/lang/AbstractStringBuilder" = true := by first | (simp [plainName, overriddenIn]; done) | decide +kernel
theorem ef_sbInf (m : MethodId) (x0 : Addr) (x1 : Addr) : entryFrame m #[(.ref x0), (.ref x1)] 2 = mkF m 0 #[.val (.ref x0), .val (.ref x1)] [] := by first | (simp [entryFrame, mkF, argsToLocals, Value.category]; done) | rfl
def Q_sbInf (Z : State) (b1 : Addr) (x1 : Addr) (t1 : Addr) (ds : List Int32) (G1 : Int32) (h0 : Heap) (n0 : Nat) (v : Option Value) (h : Heap) (L : List Loc) : Prop := v = none ∧ Fr n0 L ∧ h = h0
theorem sbInf (l : Launch) (Z : State) (a0 : Array Value) (hw : ∀ d ∈ tables_1, d.before a0 Z = true) (ws : List Jvm.Cond) (b1 : Addr) (x1 : Addr) (t1 : Addr) (ds : List Int32) (G1 : Int32) (h0 : Heap) (n0 : Nat) (Z0 : n0 ≤ h0.size) (S1 : own_Str Z h0 x1 t1 ds) (F1 : Fld Z h0 b1 "java/lang/AbstractStringBuilder" "coder" "B" (.int (0 : Int32))) (T1 : Sta Z Z.heap "java/lang/String" "COMPACT_STRINGS" "Z" (.int G1)) (P5 : ¬ (G1 = (0 : Int32))) (O1 : Old Z n0 h0) :
    MetFree l (⟨"java/lang/AbstractStringBuilder", "inflateIfNeededFor", "(Ljava/lang/String;)V"⟩ : MethodName) (head1 (Jvm.Cond.code (⟨"java/lang/AbstractStringBuilder", "inflateIfNeededFor", "(Ljava/lang/String;)V"⟩ : MethodName) jdk_68_method_71_code 2 none :: ws) ({ frames := 1, cells := 0, slots := 0, locals := 13 } : Room)) (fun a U => a = #[(.ref b1), (.ref x1)] ∧ Z.Warmed39 U.vm ∧ U.heap = h0) (fun _ _ _ _ _ => True) (fun _ U o U' => ∃ v L, o = .returned v ∧ Q_sbInf Z b1 x1 t1 ds G1 h0 n0 v U'.heap L ∧ FrameEnd U o U' L ({ frames := 1, cells := 0, slots := 0, locals := 13 } : Room).cells ({ frames := 1, cells := 0, slots := 0, locals := 13 } : Room).slots) := by
  refine MetFree.of_bodySF (plainFor_of_name pn_java_lang_AbstractStringBuilder) hisR ?_
  intro p e s m args below meth c s₁ Bd hml0 hP hK
  obtain ⟨rfl, hZ, hh⟩ := hP
  have hx := Bd.exec
  have hby := Bd.bytes
  have hml : c.maxLocals = 2 := hml0
  have hown : s.vm.findClass "java/lang/AbstractStringBuilder" = some m.cls := findClass_of_methodNamed Bd.named
  have hnm := (name_of_methodNamed Bd.named Bd.method).1
  have X0 : Stand p l e ({ frames := 1, cells := 0, slots := 0, locals := 13 } : Room) s m #[(.ref b1), (.ref x1)] below meth c s₁ [] 0 0 := Stand.of_body Bd
  have e0 : s₁.heap = h0 := by rw [← hh, Bd.state]; rfl
  have N0 := Fr.nil n0
  have pre0 : ∀ t, Steps p.tables e below (s₁.setTop (mkF m 0 #[.val (.ref b1), .val (.ref x1)] [])) t → Steps p.tables e below (s₁.setTop (entryFrame m #[(.ref b1), (.ref x1)] 2)) t := fun t k => castTop (ef_sbInf m b1 x1) k
  obtain ⟨T1_, X1_, e1_, st1_⟩ := getS2 X0 hx hZ hown (host := "") (Or.inl (own_w hw 135 rfl)) Via.refl e0 (T1.ext O1.2) (g := (mkF m 0 #[.val (.ref b1), .val (.ref x1)] [])) rfl (hb hby d26_0)
  obtain ⟨T2_, X2_, e2_, st2_⟩ := getF X1_ hx hZ hown (host := "") (Or.inl (own_w hw 138 rfl)) Via.refl e1_ F1 (g := (mkF m 7 #[.val (.ref b1), .val (.ref x1)] [(.ref b1)])) rfl rfl (hb hby d26_7)
  obtain ⟨cq4_, kq4_, qa4_, qb4_, qc4_⟩ := isOf hZ e2_ S1.1
  obtain ⟨_, _, ⟨T3_, L3_, k3_, n3_⟩, -, X3_, ⟨Lc3_, hQ3_, l3_, y3_, z3_⟩, st3_⟩ := X2_.virtualBack hx (y := (⟨"java/lang/String", "coder", "()B"⟩ : MethodName)) (z := (⟨"java/lang/String", "coder", "()B"⟩ : MethodName)) hown (mvT hZ (own_w hw 177 rfl)) (mvT hZ (own_w hw 156 rfl)) (notFace_of_selects (args := #[]) (mvT hZ (own_w hw 158 rfl))) (mvT hZ (own_w hw 158 rfl)) (mvT hZ (own_w hw 157 rfl)) (by decide) (backOf (W := 1) (sbCoder l Z a0 hw [] x1 t1 ds G1 h0 n0 Z0 S1 T1 P5 O1) hZ (own_w hw 159 rfl) (own_w hw 6 rfl) (by decide) (by decide)) qa4_ qc4_ (g := (mkF m 11 #[.val (.ref b1), .val (.ref x1)] [(.ref x1), (.int (0 : Int32))])) rfl (by rw [hml]; rfl) (Steps.refl _) (argsL := []) (rest := [(.int (0 : Int32))]) (lenOf pd_qzB rfl) rfl (by show 2 * 0 + _ ≤ _; exact Nat.le_of_eq rfl) (hb hby d26_11) (fun _ _ => ⟨rfl, e2_, (by exact own_b rfl), (by exact own_b rfl)⟩)
  dsimp only [Pt.U, Pt.locs, Pt.cells, Pt.slots] at X3_ l3_ y3_ z3_ st3_ hQ3_
  subst L3_ k3_ n3_
  obtain ⟨rfl, Nq3_, ek3_⟩ := hQ3_
  have N3_ := Fr.app N0 Nq3_
  obtain ⟨fs, hr, hrun, hended, hW, hsame⟩ := X3_.leave (v := none) (fun h => by first | rfl | (rw [Bd.returns] at h; cases h))
  refine ⟨_, _, pre0 _ ?_, hrun, hended, _, _, rfl, ?_, ⟨_, rfl⟩, hW, hsame.mono (by exact own_b rfl) (by exact own_b rfl)⟩
  · show Steps p.tables e below (s₁.setTop (mkF m 0 #[.val (.ref b1), .val (.ref x1)] [])) _
    refine st1_ _ ?_
    show Steps p.tables e below (T1_.setTop (mkF m 3 #[.val (.ref b1), .val (.ref x1)] [(.int G1)])) _
    refine XS.ifNo X1_.here hx rfl (hb hby d26_3) rfl ((if0 _ _).trans (feq (P5 : ¬ (G1 = (0 : Int32)))).1) ?_
    refine XS.aloadN X1_.here hx rfl (hb hby d26_6) rfl rfl ?_
    refine st2_ _ ?_
    show Steps p.tables e below (T2_.setTop (mkF m 10 #[.val (.ref b1), .val (.ref x1)] [(.int (0 : Int32))])) _
    refine XS.aloadN X2_.here hx rfl (hb hby d26_10) rfl rfl ?_
    refine st3_.trans ?_
    show Steps p.tables e below (T3_.setTop (mkF m 14 #[.val (.ref b1), .val (.ref x1)] [(.int (0 : Int32)), (.int (0 : Int32))])) _
    refine XS.icmpYes X3_.here hx rfl (pc0 := 14) (pc' := 21) rfl (hb hby d26_14) rfl (teq ((by decide) : (0 : Int32) = (0 : Int32))).1 (by decide) (by decide) ?_
    exact X3_.returnOut hx Bd.returns (hb hby d26_21) hr
  · show Q_sbInf Z b1 x1 t1 ds G1 h0 n0 _ T3_.heap _
    rw [ek3_]
    exact ⟨rfl, N3_, rfl⟩
theorem d25_0 : decode jdk_68_method_73_code 0 = .ok (.aload_n 0, 1) := by decide +kernel
theorem d25_1 : decode jdk_68_method_73_code 1 = .ok (.aload_n 2, 1) := by decide +kernel
theorem d25_2 : decode jdk_68_method_73_code 2 = .ok (.invokevirtual 397, 3) := by decide +kernel
theorem pd_qLjava_lang_StringzV : parseMethodDescriptor "(Ljava/lang/String;)V" = some ⟨[(.object "java/lang/String")], none⟩ := by decide +kernel
theorem d25_5 : decode jdk_68_method_73_code 5 = .ok (.aload_n 2, 1) := by decide +kernel
theorem d25_6 : decode jdk_68_method_73_code 6 = .ok (.aload_n 0, 1) := by decide +kernel
theorem d25_7 : decode jdk_68_method_73_code 7 = .ok (.getfield 15, 3) := by decide +kernel
theorem d25_10 : decode jdk_68_method_73_code 10 = .ok (.iload_n 1, 1) := by decide +kernel
theorem d25_11 : decode jdk_68_method_73_code 11 = .ok (.aload_n 0, 1) := by decide +kernel
theorem d25_12 : decode jdk_68_method_73_code 12 = .ok (.getfield 22, 3) := by decide +kernel
theorem d25_15 : decode jdk_68_method_73_code 15 = .ok (.invokevirtual 399, 3) := by decide +kernel
theorem pd_qaBIBzV : parseMethodDescriptor "([BIB)V" = some ⟨[(.array .byte), .int, .byte], none⟩ := by decide +kernel
theorem d25_18 : decode jdk_68_method_73_code 18 = .ok (.return_, 1) := by decide +kernel
theorem ef_sbPut (m : MethodId) (x0 : Addr) (x1 : Int32) (x2 : Addr) : entryFrame m #[(.ref x0), (.int x1), (.ref x2)] 3 = mkF m 0 #[.val (.ref x0), .val (.int x1), .val (.ref x2)] [] := by first | (simp [entryFrame, mkF, argsToLocals, Value.category]; done) | rfl
def Q_sbPut (Z : State) (b1 : Addr) (x1 : Addr) (t1 : Addr) (ds : List Int32) (v1 : Addr) (kv : ClassId) (es : List Int32) (cap : Nat) (G1 : Int32) (h0 : Heap) (n0 : Nat) (v : Option Value) (h : Heap) (L : List Loc) : Prop := v = none ∧ Fr n0 L ∧ Keep h0 h [v1] ∧ (Arv Z h v1 kv .byte (Int32.ofNat cap) (own_pad (es ++ ds) cap) (.int (0 : Int32)))
theorem sbPut (l : Launch) (Z : State) (a0 : Array Value) (hw : ∀ d ∈ tables_1, d.before a0 Z = true) (ws : List Jvm.Cond) (b1 : Addr) (x1 : Addr) (t1 : Addr) (ds : List Int32) (v1 : Addr) (kv : ClassId) (es : List Int32) (cap : Nat) (G1 : Int32) (h0 : Heap) (n0 : Nat) (Z0 : n0 ≤ h0.size) (S1 : own_Str Z h0 x1 t1 ds) (E1 : Exa Z h0 b1 "java/lang/StringBuilder") (F1 : Fld Z h0 b1 "java/lang/AbstractStringBuilder" "coder" "B" (.int (0 : Int32))) (F2 : Fld Z h0 b1 "java/lang/AbstractStringBuilder" "value" "[B" (.ref v1)) (V1 : Arv Z h0 v1 kv .byte (Int32.ofNat cap) (own_pad es cap) (.int (0 : Int32))) (T1 : Sta Z Z.heap "java/lang/String" "COMPACT_STRINGS" "Z" (.int G1)) (P5 : ¬ (G1 = (0 : Int32))) (O1 : Old Z n0 h0) (g1 : n0 ≤ v1) (ne1 : t1 ≠ v1) (le1 : es.length + ds.length ≤ cap) (lc1 : cap ≤ 4000) :
    MetFree l (⟨"java/lang/AbstractStringBuilder", "putStringAt", "(ILjava/lang/String;)V"⟩ : MethodName) (head1 (Jvm.Cond.code (⟨"java/lang/AbstractStringBuilder", "putStringAt", "(ILjava/lang/String;)V"⟩ : MethodName) jdk_68_method_73_code 3 none :: ws) ({ frames := 2, cells := 0, slots := 0, locals := 33 } : Room)) (fun a U => a = #[(.ref b1), (.int (Int32.ofNat es.length)), (.ref x1)] ∧ Z.Warmed39 U.vm ∧ U.heap = h0) (fun _ _ _ _ _ => True) (fun _ U o U' => ∃ v L, o = .returned v ∧ Q_sbPut Z b1 x1 t1 ds v1 kv es cap G1 h0 n0 v U'.heap L ∧ FrameEnd U o U' L ({ frames := 2, cells := 0, slots := 0, locals := 33 } : Room).cells ({ frames := 2, cells := 0, slots := 0, locals := 33 } : Room).slots) := by
  refine MetFree.of_bodySF (plainFor_of_name pn_java_lang_AbstractStringBuilder) hisR ?_
  intro p e s m args below meth c s₁ Bd hml0 hP hK
  obtain ⟨rfl, hZ, hh⟩ := hP
  have hx := Bd.exec
  have hby := Bd.bytes
  have hml : c.maxLocals = 3 := hml0
  have hown : s.vm.findClass "java/lang/AbstractStringBuilder" = some m.cls := findClass_of_methodNamed Bd.named
  have hnm := (name_of_methodNamed Bd.named Bd.method).1
  have X0 : Stand p l e ({ frames := 2, cells := 0, slots := 0, locals := 33 } : Room) s m #[(.ref b1), (.int (Int32.ofNat es.length)), (.ref x1)] below meth c s₁ [] 0 0 := Stand.of_body Bd
  have e0 : s₁.heap = h0 := by rw [← hh, Bd.state]; rfl
  have N0 := Fr.nil n0
  have pre0 : ∀ t, Steps p.tables e below (s₁.setTop (mkF m 0 #[.val (.ref b1), .val (.int (Int32.ofNat es.length)), .val (.ref x1)] [])) t → Steps p.tables e below (s₁.setTop (entryFrame m #[(.ref b1), (.int (Int32.ofNat es.length)), (.ref x1)] 3)) t := fun t k => castTop (ef_sbPut m b1 (Int32.ofNat es.length) x1) k
  obtain ⟨cq2_, kq2_, qa2_, qb2_, qc2_⟩ := isOf hZ e0 E1
  obtain ⟨_, _, ⟨T1_, L1_, k1_, n1_⟩, -, X1_, ⟨Lc1_, hQ1_, l1_, y1_, z1_⟩, st1_⟩ := X0.virtualBack hx (y := (⟨"java/lang/AbstractStringBuilder", "inflateIfNeededFor", "(Ljava/lang/String;)V"⟩ : MethodName)) (z := (⟨"java/lang/AbstractStringBuilder", "inflateIfNeededFor", "(Ljava/lang/String;)V"⟩ : MethodName)) hown (mvT hZ (own_w hw 172 rfl)) (mvT hZ (own_decl (own_w hw 173 rfl) (own_w hw 176 rfl))) (notFace_of_selects (args := #[]) (mvT hZ (own_w hw 175 rfl))) (mvT hZ (own_w hw 175 rfl)) (mvT hZ (own_w hw 173 rfl)) (by decide) (backOf (W := 0) (sbInf l Z a0 hw [] b1 x1 t1 ds G1 h0 n0 Z0 S1 F1 T1 P5 O1) hZ (own_w hw 176 rfl) (own_w hw 132 rfl) (by decide) (by decide)) qa2_ qc2_ (g := (mkF m 2 #[.val (.ref b1), .val (.int (Int32.ofNat es.length)), .val (.ref x1)] [(.ref x1), (.ref b1)])) rfl (by rw [hml]; rfl) (Steps.refl _) (argsL := [(.ref x1)]) (rest := []) (lenOf pd_qLjava_lang_StringzV rfl) rfl (by show 2 * 0 + _ ≤ _; exact Nat.le_of_eq rfl) (hb hby d25_2) (fun _ _ => ⟨rfl, e0, (by exact own_b rfl), (by exact own_b rfl)⟩)
  dsimp only [Pt.U, Pt.locs, Pt.cells, Pt.slots] at X1_ l1_ y1_ z1_ st1_ hQ1_
  subst L1_ k1_ n1_
  obtain ⟨rfl, Nq1_, ek1_⟩ := hQ1_
  have N1_ := Fr.app N0 Nq1_
  obtain ⟨T3_, X3_, e3_, st3_⟩ := getF X1_ hx hZ hown (host := "") (Or.inl (own_w hw 136 rfl)) Via.refl ek1_ F2 (g := (mkF m 7 #[.val (.ref b1), .val (.int (Int32.ofNat es.length)), .val (.ref x1)] [(.ref b1), (.ref x1)])) rfl rfl (hb hby d25_7)
  obtain ⟨T4_, X4_, e4_, st4_⟩ := getF X3_ hx hZ hown (host := "") (Or.inl (own_w hw 138 rfl)) Via.refl e3_ F1 (g := (mkF m 12 #[.val (.ref b1), .val (.int (Int32.ofNat es.length)), .val (.ref x1)] [(.ref b1), (.int (Int32.ofNat es.length)), (.ref v1), (.ref x1)])) rfl rfl (hb hby d25_12)
  obtain ⟨cq6_, kq6_, qa6_, qb6_, qc6_⟩ := isOf hZ e4_ S1.1
  obtain ⟨_, _, ⟨T5_, L5_, k5_, n5_⟩, -, X5_, ⟨Lc5_, hQ5_, l5_, y5_, z5_⟩, st5_⟩ := X4_.virtualBack hx (y := (⟨"java/lang/String", "getBytes", "([BIB)V"⟩ : MethodName)) (z := (⟨"java/lang/String", "getBytes", "([BIB)V"⟩ : MethodName)) hown (mvT hZ (own_w hw 178 rfl)) (mvT hZ (own_w hw 179 rfl)) (notFace_of_selects (args := #[]) (mvT hZ (own_w hw 181 rfl))) (mvT hZ (own_w hw 181 rfl)) (mvT hZ (own_w hw 180 rfl)) (by decide) (backOf (W := 0) (sbGet l Z a0 hw [] x1 v1 t1 ds kv es cap G1 h0 n0 Z0 S1 V1 T1 P5 O1 g1 ne1 le1 lc1) hZ (own_w hw 182 rfl) (own_w hw 6 rfl) (by decide) (by decide)) qa6_ qc6_ (g := (mkF m 15 #[.val (.ref b1), .val (.int (Int32.ofNat es.length)), .val (.ref x1)] [(.int (0 : Int32)), (.int (Int32.ofNat es.length)), (.ref v1), (.ref x1)])) rfl (by rw [hml]; rfl) (Steps.refl _) (argsL := [(.ref v1), (.int (Int32.ofNat es.length)), (.int (0 : Int32))]) (rest := []) (lenOf pd_qaBIBzV rfl) rfl (by show 2 * 0 + _ ≤ _; exact Nat.le_of_eq rfl) (hb hby d25_15) (fun _ _ => ⟨rfl, e4_, (by exact own_b rfl), (by exact own_b rfl)⟩)
  dsimp only [Pt.U, Pt.locs, Pt.cells, Pt.slots] at X5_ l5_ y5_ z5_ st5_ hQ5_
  subst L5_ k5_ n5_
  obtain ⟨rfl, Nq5_, ek5_, p5__0⟩ := hQ5_
  have N5_ := Fr.app N1_ Nq5_
  have k7_ : Keep h0 T5_.heap [v1] := (Keep.refl h0 [v1]).trans ek5_ (allS (Or.inl (List.mem_of_getElem? (i := 0) rfl)) all0)
  obtain ⟨fs, hr, hrun, hended, hW, hsame⟩ := X5_.leave (v := none) (fun h => by first | rfl | (rw [Bd.returns] at h; cases h))
  refine ⟨_, _, pre0 _ ?_, hrun, hended, _, _, rfl, ?_, ⟨_, rfl⟩, hW, hsame.mono (by exact own_b rfl) (by exact own_b rfl)⟩
  · show Steps p.tables e below (s₁.setTop (mkF m 0 #[.val (.ref b1), .val (.int (Int32.ofNat es.length)), .val (.ref x1)] [])) _
    refine XS.aloadN X0.here hx rfl (hb hby d25_0) rfl rfl ?_
    refine XS.aloadN X0.here hx rfl (hb hby d25_1) rfl rfl ?_
    refine st1_.trans ?_
    show Steps p.tables e below (T1_.setTop (mkF m 5 #[.val (.ref b1), .val (.int (Int32.ofNat es.length)), .val (.ref x1)] [])) _
    refine XS.aloadN X1_.here hx rfl (hb hby d25_5) rfl rfl ?_
    refine XS.aloadN X1_.here hx rfl (hb hby d25_6) rfl rfl ?_
    refine st3_ _ ?_
    show Steps p.tables e below (T3_.setTop (mkF m 10 #[.val (.ref b1), .val (.int (Int32.ofNat es.length)), .val (.ref x1)] [(.ref v1), (.ref x1)])) _
    refine XS.iloadN X3_.here hx rfl (hb hby d25_10) rfl ?_
    refine XS.aloadN X3_.here hx rfl (hb hby d25_11) rfl rfl ?_
    refine st4_ _ ?_
    show Steps p.tables e below (T4_.setTop (mkF m 15 #[.val (.ref b1), .val (.int (Int32.ofNat es.length)), .val (.ref x1)] [(.int (0 : Int32)), (.int (Int32.ofNat es.length)), (.ref v1), (.ref x1)])) _
    refine st5_.trans ?_
    show Steps p.tables e below (T5_.setTop (mkF m 18 #[.val (.ref b1), .val (.int (Int32.ofNat es.length)), .val (.ref x1)] [])) _
    exact X5_.returnOut hx Bd.returns (hb hby d25_18) hr
  · show Q_sbPut Z b1 x1 t1 ds v1 kv es cap G1 h0 n0 _ T5_.heap _
    skip
    exact ⟨rfl, N5_, k7_, p5__0⟩
theorem d24_0 : decode jdk_68_method_9_code 0 = .ok (.aload_n 0, 1) := by decide +kernel
theorem d24_1 : decode jdk_68_method_9_code 1 = .ok (.getfield 15, 3) := by decide +kernel
theorem d24_4 : decode jdk_68_method_9_code 4 = .ok (.arraylength, 1) := by decide +kernel
theorem d24_5 : decode jdk_68_method_9_code 5 = .ok (.aload_n 0, 1) := by decide +kernel
theorem d24_6 : decode jdk_68_method_9_code 6 = .ok (.getfield 22, 3) := by decide +kernel
theorem d24_9 : decode jdk_68_method_9_code 9 = .ok (.ishr, 1) := by decide +kernel
theorem d24_10 : decode jdk_68_method_9_code 10 = .ok (.istore_n 2, 1) := by decide +kernel
theorem d24_11 : decode jdk_68_method_9_code 11 = .ok (.iload_n 1, 1) := by decide +kernel
theorem d24_12 : decode jdk_68_method_9_code 12 = .ok (.iload_n 2, 1) := by decide +kernel
theorem d24_13 : decode jdk_68_method_9_code 13 = .ok (.isub, 1) := by decide +kernel
theorem d24_14 : decode jdk_68_method_9_code 14 = .ok (.ifCond .le 24, 3) := by decide +kernel
theorem d24_38 : decode jdk_68_method_9_code 38 = .ok (.return_, 1) := by decide +kernel
theorem ef_sbEns (m : MethodId) (x0 : Addr) (x1 : Int32) : entryFrame m #[(.ref x0), (.int x1)] 3 = mkF m 0 #[.val (.ref x0), .val (.int x1), .unset] [] := by first | (simp [entryFrame, mkF, argsToLocals, Value.category]; done) | rfl
def Q_sbEns (Z : State) (b1 : Addr) (p1 : Int32) (v1 : Addr) (kv : ClassId) (es : List Int32) (cap : Nat) (h0 : Heap) (n0 : Nat) (v : Option Value) (h : Heap) (L : List Loc) : Prop := v = none ∧ Fr n0 L ∧ h = h0
theorem sbEns (l : Launch) (Z : State) (a0 : Array Value) (hw : ∀ d ∈ tables_1, d.before a0 Z = true) (ws : List Jvm.Cond) (b1 : Addr) (p1 : Int32) (v1 : Addr) (kv : ClassId) (es : List Int32) (cap : Nat) (h0 : Heap) (n0 : Nat) (Z0 : n0 ≤ h0.size) (F1 : Fld Z h0 b1 "java/lang/AbstractStringBuilder" "coder" "B" (.int (0 : Int32))) (F2 : Fld Z h0 b1 "java/lang/AbstractStringBuilder" "value" "[B" (.ref v1)) (V1 : Arv Z h0 v1 kv .byte (Int32.ofNat cap) (own_pad es cap) (.int (0 : Int32))) (hge : ¬ ((0 : Int32) < (p1 - (Int32.ofNat cap)))) :
    MetFree l (⟨"java/lang/AbstractStringBuilder", "ensureCapacityInternal", "(I)V"⟩ : MethodName) (head1 (Jvm.Cond.code (⟨"java/lang/AbstractStringBuilder", "ensureCapacityInternal", "(I)V"⟩ : MethodName) jdk_68_method_9_code 3 none :: ws) ({ frames := 0, cells := 0, slots := 0, locals := 0 } : Room)) (fun a U => a = #[(.ref b1), (.int p1)] ∧ Z.Warmed39 U.vm ∧ U.heap = h0) (fun _ _ _ _ _ => True) (fun _ U o U' => ∃ v L, o = .returned v ∧ Q_sbEns Z b1 p1 v1 kv es cap h0 n0 v U'.heap L ∧ FrameEnd U o U' L ({ frames := 0, cells := 0, slots := 0, locals := 0 } : Room).cells ({ frames := 0, cells := 0, slots := 0, locals := 0 } : Room).slots) := by
  refine MetFree.of_bodySF (plainFor_of_name pn_java_lang_AbstractStringBuilder) hisR ?_
  intro p e s m args below meth c s₁ Bd hml0 hP hK
  obtain ⟨rfl, hZ, hh⟩ := hP
  have hx := Bd.exec
  have hby := Bd.bytes
  have hml : c.maxLocals = 3 := hml0
  have hown : s.vm.findClass "java/lang/AbstractStringBuilder" = some m.cls := findClass_of_methodNamed Bd.named
  have hnm := (name_of_methodNamed Bd.named Bd.method).1
  have X0 : Stand p l e ({ frames := 0, cells := 0, slots := 0, locals := 0 } : Room) s m #[(.ref b1), (.int p1)] below meth c s₁ [] 0 0 := Stand.of_body Bd
  have e0 : s₁.heap = h0 := by rw [← hh, Bd.state]; rfl
  have N0 := Fr.nil n0
  have pre0 : ∀ t, Steps p.tables e below (s₁.setTop (mkF m 0 #[.val (.ref b1), .val (.int p1), .unset] [])) t → Steps p.tables e below (s₁.setTop (entryFrame m #[(.ref b1), (.int p1)] 3)) t := fun t k => castTop (ef_sbEns m b1 p1) k
  obtain ⟨T1_, X1_, e1_, st1_⟩ := getF X0 hx hZ hown (host := "") (Or.inl (own_w hw 136 rfl)) Via.refl e0 F2 (g := (mkF m 1 #[.val (.ref b1), .val (.int p1), .unset] [(.ref b1)])) rfl rfl (hb hby d24_1)
  obtain ⟨cl2_, Ar2_, q2_, S2_, M2_, Hs2_, G2_⟩ := id V1
  obtain ⟨T3_, X3_, e3_, st3_⟩ := getF X1_ hx hZ hown (host := "") (Or.inl (own_w hw 138 rfl)) Via.refl e1_ F1 (g := (mkF m 6 #[.val (.ref b1), .val (.int p1), .unset] [(.ref b1), (.int (Int32.ofNat cap))])) rfl rfl (hb hby d24_6)
  obtain ⟨fs, hr, hrun, hended, hW, hsame⟩ := X3_.leave (v := none) (fun h => by first | rfl | (rw [Bd.returns] at h; cases h))
  refine ⟨_, _, pre0 _ ?_, hrun, hended, _, _, rfl, ?_, ⟨_, rfl⟩, hW, hsame.mono (by exact own_b rfl) (by exact own_b rfl)⟩
  · show Steps p.tables e below (s₁.setTop (mkF m 0 #[.val (.ref b1), .val (.int p1), .unset] [])) _
    refine XS.aloadN X0.here hx rfl (hb hby d24_0) rfl rfl ?_
    refine st1_ _ ?_
    show Steps p.tables e below (T1_.setTop (mkF m 4 #[.val (.ref b1), .val (.int p1), .unset] [(.ref v1)])) _
    refine X1_.arraylength hx (by rw [e1_]; exact Ar2_.1) (State.isArrayOf_alike (State.Warmed39.alike hZ) Ar2_.2.1) (g := (mkF m 4 #[.val (.ref b1), .val (.int p1), .unset] [(.ref v1)])) rfl rfl (hb hby d24_4) _ ?_
    rw [len_of S2_ M2_]
    show Steps p.tables e below (T1_.setTop (mkF m 5 #[.val (.ref b1), .val (.int p1), .unset] [(.int (Int32.ofNat cap))])) _
    refine XS.aloadN X1_.here hx rfl (hb hby d24_5) rfl rfl ?_
    refine st3_ _ ?_
    show Steps p.tables e below (T3_.setTop (mkF m 9 #[.val (.ref b1), .val (.int p1), .unset] [(.int (0 : Int32)), (.int (Int32.ofNat cap))])) _
    refine XS.ishr X3_.here hx rfl (hb hby d24_9) rfl ?_
    show Steps p.tables e below (T3_.setTop (mkF m 10 #[.val (.ref b1), .val (.int p1), .unset] [(.int ((Int32.ofNat cap) >>> ((0 : Int32) &&& 31)))])) _
    rw [own_shr0]
    show Steps p.tables e below (T3_.setTop (mkF m 10 #[.val (.ref b1), .val (.int p1), .unset] [(.int (Int32.ofNat cap))])) _
    refine XS.istoreN X3_.here hx rfl (hb hby d24_10) rfl (l' := #[.val (.ref b1), .val (.int p1), .val (.int (Int32.ofNat cap))]) rfl ?_
    show Steps p.tables e below (T3_.setTop (mkF m 11 #[.val (.ref b1), .val (.int p1), .val (.int (Int32.ofNat cap))] [])) _
    refine XS.iloadN X3_.here hx rfl (hb hby d24_11) rfl ?_
    refine XS.iloadN X3_.here hx rfl (hb hby d24_12) rfl ?_
    refine XS.isub X3_.here hx rfl (hb hby d24_13) rfl ?_
    show Steps p.tables e below (T3_.setTop (mkF m 14 #[.val (.ref b1), .val (.int p1), .val (.int (Int32.ofNat cap))] [(.int (p1 - (Int32.ofNat cap)))])) _
    refine XS.ifYes X3_.here hx rfl (pc0 := 14) (pc' := 38) rfl (hb hby d24_14) rfl ((if0 _ _).trans (flt (hge : ¬ ((0 : Int32) < (p1 - (Int32.ofNat cap))))).2.2.2) (by decide) (by decide) ?_
    exact X3_.returnOut hx Bd.returns (hb hby d24_38) hr
  · show Q_sbEns Z b1 p1 v1 kv es cap h0 n0 _ T3_.heap _
    rw [e3_]
    exact ⟨rfl, N0, rfl⟩
theorem d21_0 : decode jdk_68_method_22_code 0 = .ok (.aload_n 1, 1) := by decide +kernel
theorem d21_1 : decode jdk_68_method_22_code 1 = .ok (.ifnonnull 8, 3) := by decide +kernel
theorem d21_9 : decode jdk_68_method_22_code 9 = .ok (.aload_n 1, 1) := by decide +kernel
theorem d21_10 : decode jdk_68_method_22_code 10 = .ok (.invokevirtual 32, 3) := by decide +kernel
theorem pd_qzI : parseMethodDescriptor "()I" = some ⟨[], some .int⟩ := by decide +kernel
theorem d21_13 : decode jdk_68_method_22_code 13 = .ok (.istore_n 2, 1) := by decide +kernel
theorem d21_14 : decode jdk_68_method_22_code 14 = .ok (.aload_n 0, 1) := by decide +kernel
theorem d21_15 : decode jdk_68_method_22_code 15 = .ok (.aload_n 0, 1) := by decide +kernel
theorem d21_16 : decode jdk_68_method_22_code 16 = .ok (.getfield 79, 3) := by decide +kernel
theorem d21_19 : decode jdk_68_method_22_code 19 = .ok (.iload_n 2, 1) := by decide +kernel
theorem d21_20 : decode jdk_68_method_22_code 20 = .ok (.iadd, 1) := by decide +kernel
theorem d21_21 : decode jdk_68_method_22_code 21 = .ok (.invokevirtual 100, 3) := by decide +kernel
theorem pd_qIzV : parseMethodDescriptor "(I)V" = some ⟨[.int], none⟩ := by decide +kernel
theorem d21_24 : decode jdk_68_method_22_code 24 = .ok (.aload_n 0, 1) := by decide +kernel
theorem d21_25 : decode jdk_68_method_22_code 25 = .ok (.aload_n 0, 1) := by decide +kernel
theorem d21_26 : decode jdk_68_method_22_code 26 = .ok (.getfield 79, 3) := by decide +kernel
theorem d21_29 : decode jdk_68_method_22_code 29 = .ok (.aload_n 1, 1) := by decide +kernel
theorem d21_30 : decode jdk_68_method_22_code 30 = .ok (.invokevirtual 208, 3) := by decide +kernel
theorem pd_qILjava_lang_StringzV : parseMethodDescriptor "(ILjava/lang/String;)V" = some ⟨[.int, (.object "java/lang/String")], none⟩ := by decide +kernel
theorem d21_33 : decode jdk_68_method_22_code 33 = .ok (.aload_n 0, 1) := by decide +kernel
theorem d21_34 : decode jdk_68_method_22_code 34 = .ok (.dup, 1) := by decide +kernel
theorem d21_35 : decode jdk_68_method_22_code 35 = .ok (.getfield 79, 3) := by decide +kernel
theorem d21_38 : decode jdk_68_method_22_code 38 = .ok (.iload_n 2, 1) := by decide +kernel
theorem d21_39 : decode jdk_68_method_22_code 39 = .ok (.iadd, 1) := by decide +kernel
theorem d21_40 : decode jdk_68_method_22_code 40 = .ok (.putfield 79, 3) := by decide +kernel
theorem d21_43 : decode jdk_68_method_22_code 43 = .ok (.aload_n 0, 1) := by decide +kernel
theorem d21_44 : decode jdk_68_method_22_code 44 = .ok (.areturn, 1) := by decide +kernel
theorem ef_sbApp (m : MethodId) (x0 : Addr) (x1 : Addr) : entryFrame m #[(.ref x0), (.ref x1)] 3 = mkF m 0 #[.val (.ref x0), .val (.ref x1), .unset] [] := by first | (simp [entryFrame, mkF, argsToLocals, Value.category]; done) | rfl
def Q_sbApp (Z : State) (b1 : Addr) (x1 : Addr) (t1 : Addr) (ds : List Int32) (v1 : Addr) (kv : ClassId) (es : List Int32) (cap : Nat) (G1 : Int32) (h0 : Heap) (n0 : Nat) (v : Option Value) (h : Heap) (L : List Loc) : Prop := v = some (.ref b1) ∧ Fr n0 L ∧ Keep h0 h [b1, v1] ∧ (Fld Z h b1 "java/lang/AbstractStringBuilder" "coder" "B" (.int (0 : Int32))) ∧ (Fld Z h b1 "java/lang/AbstractStringBuilder" "value" "[B" (.ref v1)) ∧ (Fld Z h b1 "java/lang/AbstractStringBuilder" "count" "I" (.int (Int32.ofNat (es ++ ds).length))) ∧ (Arv Z h v1 kv .byte (Int32.ofNat cap) (own_pad (es ++ ds) cap) (.int (0 : Int32)))
theorem sbApp (l : Launch) (Z : State) (a0 : Array Value) (hw : ∀ d ∈ tables_1, d.before a0 Z = true) (ws : List Jvm.Cond) (b1 : Addr) (x1 : Addr) (t1 : Addr) (ds : List Int32) (v1 : Addr) (kv : ClassId) (es : List Int32) (cap : Nat) (G1 : Int32) (h0 : Heap) (n0 : Nat) (Z0 : n0 ≤ h0.size) (S1 : own_Str Z h0 x1 t1 ds) (E1 : Exa Z h0 b1 "java/lang/StringBuilder") (F1 : Fld Z h0 b1 "java/lang/AbstractStringBuilder" "coder" "B" (.int (0 : Int32))) (F2 : Fld Z h0 b1 "java/lang/AbstractStringBuilder" "value" "[B" (.ref v1)) (F3 : Fld Z h0 b1 "java/lang/AbstractStringBuilder" "count" "I" (.int (Int32.ofNat es.length))) (V1 : Arv Z h0 v1 kv .byte (Int32.ofNat cap) (own_pad es cap) (.int (0 : Int32))) (T1 : Sta Z Z.heap "java/lang/String" "COMPACT_STRINGS" "Z" (.int G1)) (P5 : ¬ (G1 = (0 : Int32))) (O1 : Old Z n0 h0) (g1 : n0 ≤ v1) (g2 : n0 ≤ b1) (ne1 : t1 ≠ v1) (le1 : es.length + ds.length ≤ cap) (lc1 : cap ≤ 4000) :
    MetFree l (⟨"java/lang/AbstractStringBuilder", "append", "(Ljava/lang/String;)Ljava/lang/AbstractStringBuilder;"⟩ : MethodName) (head1 (Jvm.Cond.code (⟨"java/lang/AbstractStringBuilder", "append", "(Ljava/lang/String;)Ljava/lang/AbstractStringBuilder;"⟩ : MethodName) jdk_68_method_22_code 3 (some (.object "java/lang/AbstractStringBuilder")) :: ws) ({ frames := 3, cells := 0, slots := 0, locals := 47 } : Room)) (fun a U => a = #[(.ref b1), (.ref x1)] ∧ Z.Warmed39 U.vm ∧ U.heap = h0) (fun _ _ _ _ _ => True) (fun _ U o U' => ∃ v L, o = .returned v ∧ Q_sbApp Z b1 x1 t1 ds v1 kv es cap G1 h0 n0 v U'.heap L ∧ FrameEnd U o U' L ({ frames := 3, cells := 0, slots := 0, locals := 47 } : Room).cells ({ frames := 3, cells := 0, slots := 0, locals := 47 } : Room).slots) := by
  refine MetFree.of_bodySF (plainFor_of_name pn_java_lang_AbstractStringBuilder) hisR ?_
  intro p e s m args below meth c s₁ Bd hml0 hP hK
  obtain ⟨rfl, hZ, hh⟩ := hP
  have hx := Bd.exec
  have hby := Bd.bytes
  have hml : c.maxLocals = 3 := hml0
  have hown : s.vm.findClass "java/lang/AbstractStringBuilder" = some m.cls := findClass_of_methodNamed Bd.named
  have hnm := (name_of_methodNamed Bd.named Bd.method).1
  have X0 : Stand p l e ({ frames := 3, cells := 0, slots := 0, locals := 47 } : Room) s m #[(.ref b1), (.ref x1)] below meth c s₁ [] 0 0 := Stand.of_body Bd
  have e0 : s₁.heap = h0 := by rw [← hh, Bd.state]; rfl
  have N0 := Fr.nil n0
  have pre0 : ∀ t, Steps p.tables e below (s₁.setTop (mkF m 0 #[.val (.ref b1), .val (.ref x1), .unset] [])) t → Steps p.tables e below (s₁.setTop (entryFrame m #[(.ref b1), (.ref x1)] 3)) t := fun t k => castTop (ef_sbApp m b1 x1) k
  obtain ⟨cq2_, kq2_, qa2_, qb2_, qc2_⟩ := isOf hZ e0 S1.1
  obtain ⟨_, _, ⟨T1_, L1_, k1_, n1_⟩, -, X1_, ⟨Lc1_, hQ1_, l1_, y1_, z1_⟩, st1_⟩ := X0.virtualBack hx (y := (⟨"java/lang/String", "length", "()I"⟩ : MethodName)) (z := (⟨"java/lang/String", "length", "()I"⟩ : MethodName)) hown (mvT hZ (own_w hw 150 rfl)) (mvT hZ (own_w hw 151 rfl)) (notFace_of_selects (args := #[]) (mvT hZ (own_w hw 153 rfl))) (mvT hZ (own_w hw 153 rfl)) (mvT hZ (own_w hw 152 rfl)) (by decide) (own_lenB (W := 0) hZ hw S1 T1 P5 O1 (by decide) (by decide)) qa2_ qc2_ (g := (mkF m 10 #[.val (.ref b1), .val (.ref x1), .unset] [(.ref x1)])) rfl (by rw [hml]; rfl) (Steps.refl _) (argsL := []) (rest := []) (lenOf pd_qzI rfl) rfl (by show 2 * 0 + _ ≤ _; exact Nat.le_of_eq rfl) (hb hby d21_10) (fun _ _ => ⟨rfl, e0, (by exact own_b rfl), (by exact own_b rfl)⟩)
  dsimp only [Pt.U, Pt.locs, Pt.cells, Pt.slots] at X1_ l1_ y1_ z1_ st1_ hQ1_
  subst L1_ k1_ n1_
  obtain ⟨rfl, rfl, ek1_⟩ := hQ1_
  have N1_ := Fr.app N0 (Fr.nil n0)
  obtain ⟨T3_, X3_, e3_, st3_⟩ := getF X1_ hx hZ hown (host := "") (Or.inl (own_w hw 160 rfl)) Via.refl ek1_ F3 (g := (mkF m 16 #[.val (.ref b1), .val (.ref x1), .val (.int (Int32.ofNat ds.length))] [(.ref b1), (.ref b1)])) rfl rfl (hb hby d21_16)
  obtain ⟨cq5_, kq5_, qa5_, qb5_, qc5_⟩ := isOf hZ e3_ E1
  obtain ⟨_, _, ⟨T4_, L4_, k4_, n4_⟩, -, X4_, ⟨Lc4_, hQ4_, l4_, y4_, z4_⟩, st4_⟩ := X3_.virtualBack hx (y := (⟨"java/lang/AbstractStringBuilder", "ensureCapacityInternal", "(I)V"⟩ : MethodName)) (z := (⟨"java/lang/AbstractStringBuilder", "ensureCapacityInternal", "(I)V"⟩ : MethodName)) hown (mvT hZ (own_w hw 162 rfl)) (mvT hZ (own_decl (own_w hw 163 rfl) (own_w hw 166 rfl))) (notFace_of_selects (args := #[]) (mvT hZ (own_w hw 165 rfl))) (mvT hZ (own_w hw 165 rfl)) (mvT hZ (own_w hw 163 rfl)) (by decide) (backOf (W := 0) (sbEns l Z a0 hw [] b1 (Int32.ofNat (es ++ ds).length) v1 kv es cap h0 n0 Z0 F1 F2 V1 (own_le lc1 (by rw [List.length_append]; exact le1))) hZ (own_w hw 166 rfl) (own_w hw 132 rfl) (by decide) (by decide)) qa5_ qc5_ (g := (mkF m 21 #[.val (.ref b1), .val (.ref x1), .val (.int (Int32.ofNat ds.length))] [(.int (Int32.ofNat (es ++ ds).length)), (.ref b1)])) rfl (by rw [hml]; rfl) (Steps.refl _) (argsL := [(.int (Int32.ofNat (es ++ ds).length))]) (rest := []) (lenOf pd_qIzV rfl) rfl (by show 2 * 0 + _ ≤ _; exact Nat.le_of_eq rfl) (hb hby d21_21) (fun _ _ => ⟨rfl, e3_, (by exact own_b rfl), (by exact own_b rfl)⟩)
  dsimp only [Pt.U, Pt.locs, Pt.cells, Pt.slots] at X4_ l4_ y4_ z4_ st4_ hQ4_
  subst L4_ k4_ n4_
  obtain ⟨rfl, Nq4_, ek4_⟩ := hQ4_
  have N4_ := Fr.app N1_ Nq4_
  obtain ⟨T6_, X6_, e6_, st6_⟩ := getF X4_ hx hZ hown (host := "") (Or.inl (own_w hw 160 rfl)) Via.refl ek4_ F3 (g := (mkF m 26 #[.val (.ref b1), .val (.ref x1), .val (.int (Int32.ofNat ds.length))] [(.ref b1), (.ref b1)])) rfl rfl (hb hby d21_26)
  obtain ⟨cq8_, kq8_, qa8_, qb8_, qc8_⟩ := isOf hZ e6_ E1
  obtain ⟨_, _, ⟨T7_, L7_, k7_, n7_⟩, -, X7_, ⟨Lc7_, hQ7_, l7_, y7_, z7_⟩, st7_⟩ := X6_.virtualBack hx (y := (⟨"java/lang/AbstractStringBuilder", "putStringAt", "(ILjava/lang/String;)V"⟩ : MethodName)) (z := (⟨"java/lang/AbstractStringBuilder", "putStringAt", "(ILjava/lang/String;)V"⟩ : MethodName)) hown (mvT hZ (own_w hw 167 rfl)) (mvT hZ (own_decl (own_w hw 168 rfl) (own_w hw 171 rfl))) (notFace_of_selects (args := #[]) (mvT hZ (own_w hw 170 rfl))) (mvT hZ (own_w hw 170 rfl)) (mvT hZ (own_w hw 168 rfl)) (by decide) (backOf (W := 0) (sbPut l Z a0 hw [] b1 x1 t1 ds v1 kv es cap G1 h0 n0 Z0 S1 E1 F1 F2 V1 T1 P5 O1 g1 ne1 le1 lc1) hZ (own_w hw 171 rfl) (own_w hw 132 rfl) (by decide) (by decide)) qa8_ qc8_ (g := (mkF m 30 #[.val (.ref b1), .val (.ref x1), .val (.int (Int32.ofNat ds.length))] [(.ref x1), (.int (Int32.ofNat es.length)), (.ref b1)])) rfl (by rw [hml]; rfl) (Steps.refl _) (argsL := [(.int (Int32.ofNat es.length)), (.ref x1)]) (rest := []) (lenOf pd_qILjava_lang_StringzV rfl) rfl (by show 2 * 0 + _ ≤ _; exact Nat.le_of_eq rfl) (hb hby d21_30) (fun _ _ => ⟨rfl, e6_, (by exact own_b rfl), (by exact own_b rfl)⟩)
  dsimp only [Pt.U, Pt.locs, Pt.cells, Pt.slots] at X7_ l7_ y7_ z7_ st7_ hQ7_
  subst L7_ k7_ n7_
  obtain ⟨rfl, Nq7_, ek7_, p7__0⟩ := hQ7_
  have N7_ := Fr.app N4_ Nq7_
  have f9_ : Fld Z T7_.heap b1 "java/lang/AbstractStringBuilder" "count" "I" (.int (Int32.ofNat es.length)) := (F3.keep ek7_ (ninS (Exa.neArv E1 V1 (own_w hw 123 rfl)) nin0))
  obtain ⟨T10_, X10_, e10_, st10_⟩ := getF X7_ hx hZ hown (host := "") (Or.inl (own_w hw 160 rfl)) Via.refl rfl f9_ (g := (mkF m 35 #[.val (.ref b1), .val (.ref x1), .val (.int (Int32.ofNat ds.length))] [(.ref b1), (.ref b1)])) rfl rfl (hb hby d21_35)
  have f11_ : Exa Z T7_.heap b1 "java/lang/StringBuilder" := (E1.keep ek7_)
  obtain ⟨T12_, h12_, X12_, e12_, W12_, st12_⟩ := putF X10_ hx hZ hown (host := "") (Or.inl (own_w hw 160 rfl)) Via.refl e10_ f9_ f11_ (Or.inl (own_w hw 161 rfl)) (own_w hw 123 rfl) (ty := .int) (by decide) rfl rfl (g := (mkF m 40 #[.val (.ref b1), .val (.ref x1), .val (.int (Int32.ofNat ds.length))] [(.int (Int32.ofNat (es ++ ds).length)), (.ref b1)])) rfl rfl (hb hby d21_40)
  have w12_ : Fld Z h12_ b1 "java/lang/AbstractStringBuilder" "count" "I" (.int (Int32.ofNat (es ++ ds).length)) := f9_.same W12_
  have N12_ := Fr.snoc X12_ N7_ g2
  have f13_ : Fld Z h12_ b1 "java/lang/AbstractStringBuilder" "coder" "B" (.int (0 : Int32)) := ((F1.keep ek7_ (ninS (Exa.neArv E1 V1 (own_w hw 123 rfl)) nin0)).other W12_ (Or.inr (slot_ne (Or.inl (own_w hw 139 rfl)) (Or.inl (own_w hw 161 rfl)) (by decide) (t := .byte) (t' := .int) (by decide) (by decide))))
  have f14_ : Fld Z h12_ b1 "java/lang/AbstractStringBuilder" "value" "[B" (.ref v1) := ((F2.keep ek7_ (ninS (Exa.neArv E1 V1 (own_w hw 123 rfl)) nin0)).other W12_ (Or.inr (slot_ne (Or.inl (own_w hw 137 rfl)) (Or.inl (own_w hw 161 rfl)) (by decide) (t := (.array .byte)) (t' := .int) (by decide) (by decide))))
  have f15_ : Arv Z h12_ v1 kv .byte (Int32.ofNat cap) (own_pad (es ++ ds) cap) (.int (0 : Int32)) := (p7__0.other W12_ (Ne.symm (Exa.neArv f11_ p7__0 (own_w hw 123 rfl))))
  have k16_ : Keep h0 T7_.heap [b1, v1] := (Keep.refl h0 [b1, v1]).trans ek7_ (allS (Or.inl (List.mem_of_getElem? (i := 1) rfl)) all0)
  have k17_ : Keep h0 h12_ [b1, v1] := k16_.wr W12_ (Or.inl (List.mem_of_getElem? (i := 0) rfl))
  obtain ⟨fs, hr, hrun, hended, hW, hsame⟩ := X12_.leave (v := some (.ref b1)) (fun h => by first | rfl | (rw [Bd.returns] at h; cases h))
  refine ⟨_, _, pre0 _ ?_, hrun, hended, _, _, rfl, ?_, ⟨_, rfl⟩, hW, hsame.mono (by exact own_b rfl) (by exact own_b rfl)⟩
  · show Steps p.tables e below (s₁.setTop (mkF m 0 #[.val (.ref b1), .val (.ref x1), .unset] [])) _
    refine XS.aloadN X0.here hx rfl (hb hby d21_0) rfl rfl ?_
    refine XS.ifnonnullYes X0.here hx rfl (pc0 := 1) (pc' := 9) rfl (hb hby d21_1) rfl (by decide) (by decide) ?_
    refine XS.aloadN X0.here hx rfl (hb hby d21_9) rfl rfl ?_
    refine st1_.trans ?_
    show Steps p.tables e below (T1_.setTop (mkF m 13 #[.val (.ref b1), .val (.ref x1), .unset] [(.int (Int32.ofNat ds.length))])) _
    refine XS.istoreN X1_.here hx rfl (hb hby d21_13) rfl (l' := #[.val (.ref b1), .val (.ref x1), .val (.int (Int32.ofNat ds.length))]) rfl ?_
    show Steps p.tables e below (T1_.setTop (mkF m 14 #[.val (.ref b1), .val (.ref x1), .val (.int (Int32.ofNat ds.length))] [])) _
    refine XS.aloadN X1_.here hx rfl (hb hby d21_14) rfl rfl ?_
    refine XS.aloadN X1_.here hx rfl (hb hby d21_15) rfl rfl ?_
    refine st3_ _ ?_
    show Steps p.tables e below (T3_.setTop (mkF m 19 #[.val (.ref b1), .val (.ref x1), .val (.int (Int32.ofNat ds.length))] [(.int (Int32.ofNat es.length)), (.ref b1)])) _
    refine XS.iloadN X3_.here hx rfl (hb hby d21_19) rfl ?_
    refine XS.iadd X3_.here hx rfl (hb hby d21_20) rfl ?_
    show Steps p.tables e below (T3_.setTop (mkF m 21 #[.val (.ref b1), .val (.ref x1), .val (.int (Int32.ofNat ds.length))] [(.int ((Int32.ofNat es.length) + (Int32.ofNat ds.length))), (.ref b1)])) _
    rw [own_addl es ds]
    show Steps p.tables e below (T3_.setTop (mkF m 21 #[.val (.ref b1), .val (.ref x1), .val (.int (Int32.ofNat ds.length))] [(.int (Int32.ofNat (es ++ ds).length)), (.ref b1)])) _
    refine st4_.trans ?_
    show Steps p.tables e below (T4_.setTop (mkF m 24 #[.val (.ref b1), .val (.ref x1), .val (.int (Int32.ofNat ds.length))] [])) _
    refine XS.aloadN X4_.here hx rfl (hb hby d21_24) rfl rfl ?_
    refine XS.aloadN X4_.here hx rfl (hb hby d21_25) rfl rfl ?_
    refine st6_ _ ?_
    show Steps p.tables e below (T6_.setTop (mkF m 29 #[.val (.ref b1), .val (.ref x1), .val (.int (Int32.ofNat ds.length))] [(.int (Int32.ofNat es.length)), (.ref b1)])) _
    refine XS.aloadN X6_.here hx rfl (hb hby d21_29) rfl rfl ?_
    refine st7_.trans ?_
    show Steps p.tables e below (T7_.setTop (mkF m 33 #[.val (.ref b1), .val (.ref x1), .val (.int (Int32.ofNat ds.length))] [])) _
    refine XS.aloadN X7_.here hx rfl (hb hby d21_33) rfl rfl ?_
    refine XS.dup X7_.here hx rfl (hb hby d21_34) rfl rfl ?_
    refine st10_ _ ?_
    show Steps p.tables e below (T10_.setTop (mkF m 38 #[.val (.ref b1), .val (.ref x1), .val (.int (Int32.ofNat ds.length))] [(.int (Int32.ofNat es.length)), (.ref b1)])) _
    refine XS.iloadN X10_.here hx rfl (hb hby d21_38) rfl ?_
    refine XS.iadd X10_.here hx rfl (hb hby d21_39) rfl ?_
    show Steps p.tables e below (T10_.setTop (mkF m 40 #[.val (.ref b1), .val (.ref x1), .val (.int (Int32.ofNat ds.length))] [(.int ((Int32.ofNat es.length) + (Int32.ofNat ds.length))), (.ref b1)])) _
    rw [own_addl es ds]
    show Steps p.tables e below (T10_.setTop (mkF m 40 #[.val (.ref b1), .val (.ref x1), .val (.int (Int32.ofNat ds.length))] [(.int (Int32.ofNat (es ++ ds).length)), (.ref b1)])) _
    refine st12_ _ ?_
    show Steps p.tables e below (T12_.setTop (mkF m 43 #[.val (.ref b1), .val (.ref x1), .val (.int (Int32.ofNat ds.length))] [])) _
    refine XS.aloadN X12_.here hx rfl (hb hby d21_43) rfl rfl ?_
    exact retR X12_ hx Bd.returns rfl rfl rfl (hb hby d21_44) hr
  · show Q_sbApp Z b1 x1 t1 ds v1 kv es cap G1 h0 n0 _ T12_.heap _
    rw [e12_]
    exact ⟨rfl, N12_, k17_, f13_, f14_, w12_, f15_⟩
theorem d20_0 : decode jdk_67_method_7_code 0 = .ok (.aload_n 0, 1) := by decide +kernel
theorem d20_1 : decode jdk_67_method_7_code 1 = .ok (.aload_n 1, 1) := by decide +kernel
theorem d20_2 : decode jdk_67_method_7_code 2 = .ok (.invokespecial 29, 3) := by decide +kernel
theorem pd_qLjava_lang_StringzLjava_lang_AbstractStringBuilder : parseMethodDescriptor "(Ljava/lang/String;)Ljava/lang/AbstractStringBuilder;" = some ⟨[(.object "java/lang/String")], some (.object "java/lang/AbstractStringBuilder")⟩ := by decide +kernel
theorem d20_5 : decode jdk_67_method_7_code 5 = .ok (.pop, 1) := by decide +kernel
theorem d20_6 : decode jdk_67_method_7_code 6 = .ok (.aload_n 0, 1) := by decide +kernel
theorem d20_7 : decode jdk_67_method_7_code 7 = .ok (.areturn, 1) := by decide +kernel
theorem pn_java_lang_StringBuilder : plainName "java/lang/StringBuilder" = true := by first | (simp [plainName, overriddenIn]; done) | decide +kernel
theorem ef_sbApp2 (m : MethodId) (x0 : Addr) (x1 : Addr) : entryFrame m #[(.ref x0), (.ref x1)] 2 = mkF m 0 #[.val (.ref x0), .val (.ref x1)] [] := by first | (simp [entryFrame, mkF, argsToLocals, Value.category]; done) | rfl
def Q_sbApp2 (Z : State) (b1 : Addr) (x1 : Addr) (t1 : Addr) (ds : List Int32) (v1 : Addr) (kv : ClassId) (es : List Int32) (cap : Nat) (G1 : Int32) (h0 : Heap) (n0 : Nat) (v : Option Value) (h : Heap) (L : List Loc) : Prop := v = some (.ref b1) ∧ Fr n0 L ∧ Keep h0 h [b1, v1] ∧ (Fld Z h b1 "java/lang/AbstractStringBuilder" "coder" "B" (.int (0 : Int32))) ∧ (Fld Z h b1 "java/lang/AbstractStringBuilder" "value" "[B" (.ref v1)) ∧ (Fld Z h b1 "java/lang/AbstractStringBuilder" "count" "I" (.int (Int32.ofNat (es ++ ds).length))) ∧ (Arv Z h v1 kv .byte (Int32.ofNat cap) (own_pad (es ++ ds) cap) (.int (0 : Int32)))
theorem sbApp2 (l : Launch) (Z : State) (a0 : Array Value) (hw : ∀ d ∈ tables_1, d.before a0 Z = true) (ws : List Jvm.Cond) (b1 : Addr) (x1 : Addr) (t1 : Addr) (ds : List Int32) (v1 : Addr) (kv : ClassId) (es : List Int32) (cap : Nat) (G1 : Int32) (h0 : Heap) (n0 : Nat) (Z0 : n0 ≤ h0.size) (S1 : own_Str Z h0 x1 t1 ds) (E1 : Exa Z h0 b1 "java/lang/StringBuilder") (F1 : Fld Z h0 b1 "java/lang/AbstractStringBuilder" "coder" "B" (.int (0 : Int32))) (F2 : Fld Z h0 b1 "java/lang/AbstractStringBuilder" "value" "[B" (.ref v1)) (F3 : Fld Z h0 b1 "java/lang/AbstractStringBuilder" "count" "I" (.int (Int32.ofNat es.length))) (V1 : Arv Z h0 v1 kv .byte (Int32.ofNat cap) (own_pad es cap) (.int (0 : Int32))) (T1 : Sta Z Z.heap "java/lang/String" "COMPACT_STRINGS" "Z" (.int G1)) (P5 : ¬ (G1 = (0 : Int32))) (O1 : Old Z n0 h0) (g1 : n0 ≤ v1) (g2 : n0 ≤ b1) (ne1 : t1 ≠ v1) (le1 : es.length + ds.length ≤ cap) (lc1 : cap ≤ 4000) :
    MetFree l (⟨"java/lang/StringBuilder", "append", "(Ljava/lang/String;)Ljava/lang/StringBuilder;"⟩ : MethodName) (head1 (Jvm.Cond.code (⟨"java/lang/StringBuilder", "append", "(Ljava/lang/String;)Ljava/lang/StringBuilder;"⟩ : MethodName) jdk_67_method_7_code 2 (some (.object "java/lang/StringBuilder")) :: ws) ({ frames := 4, cells := 0, slots := 0, locals := 61 } : Room)) (fun a U => a = #[(.ref b1), (.ref x1)] ∧ Z.Warmed39 U.vm ∧ U.heap = h0) (fun _ _ _ _ _ => True) (fun _ U o U' => ∃ v L, o = .returned v ∧ Q_sbApp2 Z b1 x1 t1 ds v1 kv es cap G1 h0 n0 v U'.heap L ∧ FrameEnd U o U' L ({ frames := 4, cells := 0, slots := 0, locals := 61 } : Room).cells ({ frames := 4, cells := 0, slots := 0, locals := 61 } : Room).slots) := by
  refine MetFree.of_bodySF (plainFor_of_name pn_java_lang_StringBuilder) hisR ?_
  intro p e s m args below meth c s₁ Bd hml0 hP hK
  obtain ⟨rfl, hZ, hh⟩ := hP
  have hx := Bd.exec
  have hby := Bd.bytes
  have hml : c.maxLocals = 2 := hml0
  have hown : s.vm.findClass "java/lang/StringBuilder" = some m.cls := findClass_of_methodNamed Bd.named
  have hnm := (name_of_methodNamed Bd.named Bd.method).1
  have X0 : Stand p l e ({ frames := 4, cells := 0, slots := 0, locals := 61 } : Room) s m #[(.ref b1), (.ref x1)] below meth c s₁ [] 0 0 := Stand.of_body Bd
  have e0 : s₁.heap = h0 := by rw [← hh, Bd.state]; rfl
  have N0 := Fr.nil n0
  have pre0 : ∀ t, Steps p.tables e below (s₁.setTop (mkF m 0 #[.val (.ref b1), .val (.ref x1)] [])) t → Steps p.tables e below (s₁.setTop (entryFrame m #[(.ref b1), (.ref x1)] 2)) t := fun t k => castTop (ef_sbApp2 m b1 x1) k
  obtain ⟨_, _, ⟨T1_, L1_, k1_, n1_⟩, -, X1_, ⟨Lc1_, hQ1_, l1_, y1_, z1_⟩, st1_⟩ := superBack X0 hx hZ (y := (⟨"java/lang/AbstractStringBuilder", "append", "(Ljava/lang/String;)Ljava/lang/AbstractStringBuilder;"⟩ : MethodName)) hown (own_w hw 145 rfl) (own_same (own_w hw 146 rfl) (own_w hw 165 rfl) (by decide)) (own_w hw 146 rfl) (own_w hw 147 rfl) (by decide) (backOf (W := 0) (sbApp l Z a0 hw [] b1 x1 t1 ds v1 kv es cap G1 h0 n0 Z0 S1 E1 F1 F2 F3 V1 T1 P5 O1 g1 g2 ne1 le1 lc1) hZ (own_w hw 149 rfl) (own_w hw 132 rfl) (by decide) (by decide)) e0 (Ins.self E1) (g := (mkF m 2 #[.val (.ref b1), .val (.ref x1)] [(.ref x1), (.ref b1)])) rfl (by rw [hml]; rfl) (own_w hw 149 rfl) (argsL := [(.ref x1)]) (rest := []) (lenOf pd_qLjava_lang_StringzLjava_lang_AbstractStringBuilder rfl) rfl (by show 2 * 0 + _ ≤ _; exact Nat.le_of_eq rfl) (hb hby d20_2) (fun _ _ => ⟨rfl, e0, (by exact own_b rfl), (by exact own_b rfl)⟩)
  dsimp only [Pt.U, Pt.locs, Pt.cells, Pt.slots] at X1_ l1_ y1_ z1_ st1_ hQ1_
  subst L1_ k1_ n1_
  obtain ⟨rfl, Nq1_, ek1_, p1__0, p1__1, p1__2, p1__3⟩ := hQ1_
  have N1_ := Fr.app N0 Nq1_
  have k2_ : Keep h0 T1_.heap [b1, v1] := (Keep.refl h0 [b1, v1]).trans ek1_ (allS (Or.inl (List.mem_of_getElem? (i := 0) rfl)) (allS (Or.inl (List.mem_of_getElem? (i := 1) rfl)) all0))
  obtain ⟨fs, hr, hrun, hended, hW, hsame⟩ := X1_.leave (v := some (.ref b1)) (fun h => by first | rfl | (rw [Bd.returns] at h; cases h))
  refine ⟨_, _, pre0 _ ?_, hrun, hended, _, _, rfl, ?_, ⟨_, rfl⟩, hW, hsame.mono (by exact own_b rfl) (by exact own_b rfl)⟩
  · show Steps p.tables e below (s₁.setTop (mkF m 0 #[.val (.ref b1), .val (.ref x1)] [])) _
    refine XS.aloadN X0.here hx rfl (hb hby d20_0) rfl rfl ?_
    refine XS.aloadN X0.here hx rfl (hb hby d20_1) rfl rfl ?_
    refine st1_.trans ?_
    show Steps p.tables e below (T1_.setTop (mkF m 5 #[.val (.ref b1), .val (.ref x1)] [(.ref b1)])) _
    refine XS.pop X1_.here hx rfl (hb hby d20_5) rfl rfl ?_
    refine XS.aloadN X1_.here hx rfl (hb hby d20_6) rfl rfl ?_
    exact retR X1_ hx Bd.returns rfl rfl rfl (hb hby d20_7) hr
  · show Q_sbApp2 Z b1 x1 t1 ds v1 kv es cap G1 h0 n0 _ T1_.heap _
    skip
    exact ⟨rfl, N1_, k2_, p1__0, p1__1, p1__2, p1__3⟩
theorem d19_0 : decode jdk_68_method_2_code 0 = .ok (.aload_n 0, 1) := by decide +kernel
theorem d19_1 : decode jdk_68_method_2_code 1 = .ok (.invokespecial 3, 3) := by decide +kernel
theorem d19_4 : decode jdk_68_method_2_code 4 = .ok (.getstatic 18, 3) := by decide +kernel
theorem d19_7 : decode jdk_68_method_2_code 7 = .ok (.ifCond .eq 18, 3) := by decide +kernel
theorem d19_10 : decode jdk_68_method_2_code 10 = .ok (.aload_n 0, 1) := by decide +kernel
theorem d19_11 : decode jdk_68_method_2_code 11 = .ok (.iload_n 1, 1) := by decide +kernel
theorem d19_12 : decode jdk_68_method_2_code 12 = .ok (.newarray .byte, 2) := by decide +kernel
theorem d19_14 : decode jdk_68_method_2_code 14 = .ok (.putfield 15, 3) := by decide +kernel
theorem d19_17 : decode jdk_68_method_2_code 17 = .ok (.aload_n 0, 1) := by decide +kernel
theorem d19_18 : decode jdk_68_method_2_code 18 = .ok (.iconst 0, 1) := by decide +kernel
theorem d19_19 : decode jdk_68_method_2_code 19 = .ok (.putfield 22, 3) := by decide +kernel
theorem d19_22 : decode jdk_68_method_2_code 22 = .ok (.goto 16, 3) := by decide +kernel
theorem d19_38 : decode jdk_68_method_2_code 38 = .ok (.return_, 1) := by decide +kernel
theorem ef_sbInit (m : MethodId) (x0 : Addr) (x1 : Int32) : entryFrame m #[(.ref x0), (.int x1)] 2 = mkF m 0 #[.val (.ref x0), .val (.int x1)] [] := by first | (simp [entryFrame, mkF, argsToLocals, Value.category]; done) | rfl
def Q_sbInit (Z : State) (b1 : Addr) (G1 : Int32) (h0 : Heap) (n0 : Nat) (v : Option Value) (h : Heap) (L : List Loc) : Prop := ∃ (v2 : Addr) (k2 : ClassId), v = none ∧ Fr n0 L ∧ Keep h0 h [b1] ∧ (Fld Z h b1 "java/lang/AbstractStringBuilder" "coder" "B" (.int (0 : Int32))) ∧ (Fld Z h b1 "java/lang/AbstractStringBuilder" "value" "[B" (.ref v2)) ∧ (Fld Z h b1 "java/lang/AbstractStringBuilder" "count" "I" (.int (Int32.ofNat ([] : List Int32).length))) ∧ (Arv Z h v2 k2 .byte (Int32.ofNat 16) (own_pad ([] : List Int32) 16) (.int (0 : Int32))) ∧ (h0.size ≤ v2)
theorem sbInit (l : Launch) (Z : State) (a0 : Array Value) (hw : ∀ d ∈ tables_1, d.before a0 Z = true) (ws : List Jvm.Cond) (b1 : Addr) (G1 : Int32) (h0 : Heap) (n0 : Nat) (Z0 : n0 ≤ h0.size) (E1 : Exa Z h0 b1 "java/lang/StringBuilder") (F1 : Fld Z h0 b1 "java/lang/AbstractStringBuilder" "coder" "B" (.int (0 : Int32))) (F2 : Fld Z h0 b1 "java/lang/AbstractStringBuilder" "value" "[B" .null) (F3 : Fld Z h0 b1 "java/lang/AbstractStringBuilder" "count" "I" (.int (0 : Int32))) (g2 : n0 ≤ b1) (T1 : Sta Z Z.heap "java/lang/String" "COMPACT_STRINGS" "Z" (.int G1)) (P5 : ¬ (G1 = (0 : Int32))) (O1 : Old Z n0 h0) :
    MetFree l (⟨"java/lang/AbstractStringBuilder", "<init>", "(I)V"⟩ : MethodName) (head1 (Jvm.Cond.code (⟨"java/lang/AbstractStringBuilder", "<init>", "(I)V"⟩ : MethodName) jdk_68_method_2_code 2 none :: ws) ({ frames := 1, cells := 1, slots := 16, locals := 12 } : Room)) (fun a U => a = #[(.ref b1), (.int (16 : Int32))] ∧ Z.Warmed39 U.vm ∧ U.heap = h0) (fun _ _ _ _ _ => True) (fun _ U o U' => ∃ v L, o = .returned v ∧ Q_sbInit Z b1 G1 h0 n0 v U'.heap L ∧ FrameEnd U o U' L ({ frames := 1, cells := 1, slots := 16, locals := 12 } : Room).cells ({ frames := 1, cells := 1, slots := 16, locals := 12 } : Room).slots) := by
  refine MetFree.of_bodySF (plainFor_of_name pn_java_lang_AbstractStringBuilder) hisR ?_
  intro p e s m args below meth c s₁ Bd hml0 hP hK
  obtain ⟨rfl, hZ, hh⟩ := hP
  have hx := Bd.exec
  have hby := Bd.bytes
  have hml : c.maxLocals = 2 := hml0
  have hown : s.vm.findClass "java/lang/AbstractStringBuilder" = some m.cls := findClass_of_methodNamed Bd.named
  have hnm := (name_of_methodNamed Bd.named Bd.method).1
  have X0 : Stand p l e ({ frames := 1, cells := 1, slots := 16, locals := 12 } : Room) s m #[(.ref b1), (.int (16 : Int32))] below meth c s₁ [] 0 0 := Stand.of_body Bd
  have e0 : s₁.heap = h0 := by rw [← hh, Bd.state]; rfl
  have N0 := Fr.nil n0
  have pre0 : ∀ t, Steps p.tables e below (s₁.setTop (mkF m 0 #[.val (.ref b1), .val (.int (16 : Int32))] [])) t → Steps p.tables e below (s₁.setTop (entryFrame m #[(.ref b1), (.int (16 : Int32))] 2)) t := fun t k => castTop (ef_sbInit m b1 (16 : Int32)) k
  obtain ⟨T1_, X1_, e1_, st1_⟩ := initO X0 hx hZ hown (own_w hw 134 rfl) (own_w hw 24 rfl) (own_w hw 25 rfl) e0 (g := (mkF m 1 #[.val (.ref b1), .val (.int (16 : Int32))] [(.ref b1)])) rfl (by rw [hml]; rfl) rfl (hb hby d19_1) (by decide) (W := 0) (by show 2 * 0 + _ ≤ _; exact Nat.le_of_eq rfl) (by decide)
  obtain ⟨T2_, X2_, e2_, st2_⟩ := getS2 X1_ hx hZ hown (host := "") (Or.inl (own_w hw 135 rfl)) Via.refl e1_ (T1.ext O1.2) (g := (mkF m 4 #[.val (.ref b1), .val (.int (16 : Int32))] [])) rfl (hb hby d19_4)
  obtain ⟨T3_, h3_, k3_, X3_, e3_, E3_, A3_, st3_⟩ := newP X2_ hx hZ (own_w hw 18 rfl) e2_ (g := (mkF m 12 #[.val (.ref b1), .val (.int (16 : Int32))] [(.int (16 : Int32)), (.ref b1)])) rfl (hb hby d19_12) rfl (by decide) (cap := 16) (by decide) (by decide) (by exact own_b rfl) (by exact own_b rfl)
  obtain ⟨b3_, g3_⟩ : ∃ z, z = h0.size := ⟨_, rfl⟩
  rw [← g3_] at A3_ st3_
  have v3_ : Arv Z h3_ b3_ k3_ .byte (16 : Int32) [(.int (0 : Int32)), (.int (0 : Int32)), (.int (0 : Int32)), (.int (0 : Int32)), (.int (0 : Int32)), (.int (0 : Int32)), (.int (0 : Int32)), (.int (0 : Int32)), (.int (0 : Int32)), (.int (0 : Int32)), (.int (0 : Int32)), (.int (0 : Int32)), (.int (0 : Int32)), (.int (0 : Int32)), (.int (0 : Int32)), (.int (0 : Int32))] (.int (0 : Int32)) := (Arv.new A3_ (by decide)).pad (pad_rep [] (.int (0 : Int32)) 16)
  have f4_ : Exa Z h3_ b1 "java/lang/StringBuilder" := (E1.ext E3_)
  have f5_ : Fld Z h3_ b1 "java/lang/AbstractStringBuilder" "value" "[B" .null := (F2.ext E3_)
  obtain ⟨T6_, h6_, X6_, e6_, W6_, st6_⟩ := putF X3_ hx hZ hown (host := "") (Or.inl (own_w hw 136 rfl)) Via.refl e3_ f5_ f4_ (Or.inl (own_w hw 137 rfl)) (own_w hw 123 rfl) (ty := (.array .byte)) (by decide) rfl rfl (g := (mkF m 14 #[.val (.ref b1), .val (.int (16 : Int32))] [(.ref b3_), (.ref b1)])) rfl rfl (hb hby d19_14)
  have w6_ : Fld Z h6_ b1 "java/lang/AbstractStringBuilder" "value" "[B" (.ref b3_) := f5_.same W6_
  have N6_ := Fr.snoc X6_ N0 g2
  have f7_ : Exa Z h6_ b1 "java/lang/StringBuilder" := (f4_.wr W6_)
  have f8_ : Fld Z h6_ b1 "java/lang/AbstractStringBuilder" "coder" "B" (.int (0 : Int32)) := ((F1.ext E3_).other W6_ (Or.inr (slot_ne (Or.inl (own_w hw 139 rfl)) (Or.inl (own_w hw 137 rfl)) (by decide) (t := .byte) (t' := (.array .byte)) (by decide) (by decide))))
  obtain ⟨T9_, h9_, X9_, e9_, W9_, st9_⟩ := putFN X6_ hx hZ hown (own_w hw 138 rfl) Via.refl e6_ f8_ f7_ (Or.inl (own_w hw 139 rfl)) (own_w hw 123 rfl) (ty := .byte) (v' := (.int (0 : Int32))) (by decide) rfl rfl (g := (mkF m 19 #[.val (.ref b1), .val (.int (16 : Int32))] [(.int (0 : Int32)), (.ref b1)])) rfl rfl (hb hby d19_19)
  have w9_ : Fld Z h9_ b1 "java/lang/AbstractStringBuilder" "coder" "B" (.int (0 : Int32)) := f8_.same W9_
  have N9_ := Fr.snoc X9_ N6_ g2
  have f10_ : Fld Z h9_ b1 "java/lang/AbstractStringBuilder" "value" "[B" (.ref b3_) := (w6_.other W9_ (Or.inr (slot_ne (Or.inl (own_w hw 137 rfl)) (Or.inl (own_w hw 139 rfl)) (by decide) (t := (.array .byte)) (t' := .byte) (by decide) (by decide))))
  have f11_ : Fld Z h9_ b1 "java/lang/AbstractStringBuilder" "count" "I" (.int (0 : Int32)) := (((F3.ext E3_).other W6_ (Or.inr (slot_ne (Or.inl (own_w hw 161 rfl)) (Or.inl (own_w hw 137 rfl)) (by decide) (t := .int) (t' := (.array .byte)) (by decide) (by decide)))).other W9_ (Or.inr (slot_ne (Or.inl (own_w hw 161 rfl)) (Or.inl (own_w hw 139 rfl)) (by decide) (t := .int) (t' := .byte) (by decide) (by decide))))
  have f12_ : Arv Z h9_ b3_ k3_ .byte (16 : Int32) [(.int (0 : Int32)), (.int (0 : Int32)), (.int (0 : Int32)), (.int (0 : Int32)), (.int (0 : Int32)), (.int (0 : Int32)), (.int (0 : Int32)), (.int (0 : Int32)), (.int (0 : Int32)), (.int (0 : Int32)), (.int (0 : Int32)), (.int (0 : Int32)), (.int (0 : Int32)), (.int (0 : Int32)), (.int (0 : Int32)), (.int (0 : Int32))] (.int (0 : Int32)) := ((v3_.other W6_ (Ne.symm (Nat.ne_of_lt (Nat.lt_of_lt_of_le E1.lt (Nat.le_of_eq g3_.symm))))).other W9_ (Ne.symm (Nat.ne_of_lt (Nat.lt_of_lt_of_le E1.lt (Nat.le_of_eq g3_.symm)))))
  have k13_ : Keep h0 h3_ [b1] := (Keep.refl h0 [b1]).ext E3_
  have k14_ : Keep h0 h6_ [b1] := k13_.wr W6_ (Or.inl (List.mem_of_getElem? (i := 0) rfl))
  have k15_ : Keep h0 h9_ [b1] := k14_.wr W9_ (Or.inl (List.mem_of_getElem? (i := 0) rfl))
  obtain ⟨fs, hr, hrun, hended, hW, hsame⟩ := X9_.leave (v := none) (fun h => by first | rfl | (rw [Bd.returns] at h; cases h))
  refine ⟨_, _, pre0 _ ?_, hrun, hended, _, _, rfl, ?_, ⟨_, rfl⟩, hW, hsame.mono (by exact own_b rfl) (by exact own_b rfl)⟩
  · show Steps p.tables e below (s₁.setTop (mkF m 0 #[.val (.ref b1), .val (.int (16 : Int32))] [])) _
    refine XS.aloadN X0.here hx rfl (hb hby d19_0) rfl rfl ?_
    refine st1_ _ ?_
    show Steps p.tables e below (T1_.setTop (mkF m 4 #[.val (.ref b1), .val (.int (16 : Int32))] [])) _
    refine st2_ _ ?_
    show Steps p.tables e below (T2_.setTop (mkF m 7 #[.val (.ref b1), .val (.int (16 : Int32))] [(.int G1)])) _
    refine XS.ifNo X2_.here hx rfl (hb hby d19_7) rfl ((if0 _ _).trans (feq (P5 : ¬ (G1 = (0 : Int32)))).1) ?_
    refine XS.aloadN X2_.here hx rfl (hb hby d19_10) rfl rfl ?_
    refine XS.iloadN X2_.here hx rfl (hb hby d19_11) rfl ?_
    refine st3_ _ ?_
    show Steps p.tables e below (T3_.setTop (mkF m 14 #[.val (.ref b1), .val (.int (16 : Int32))] [(.ref b3_), (.ref b1)])) _
    refine st6_ _ ?_
    show Steps p.tables e below (T6_.setTop (mkF m 17 #[.val (.ref b1), .val (.int (16 : Int32))] [])) _
    refine XS.aloadN X6_.here hx rfl (hb hby d19_17) rfl rfl ?_
    refine XS.iconst X6_.here hx rfl (hb hby d19_18) ?_
    refine st9_ _ ?_
    show Steps p.tables e below (T9_.setTop (mkF m 22 #[.val (.ref b1), .val (.int (16 : Int32))] [])) _
    refine XS.goto X9_.here hx rfl (pc0 := 22) (pc' := 38) rfl (hb hby d19_22) (by decide) (by decide) ?_
    exact X9_.returnOut hx Bd.returns (hb hby d19_38) hr
  · show Q_sbInit Z b1 G1 h0 n0 _ T9_.heap _
    rw [e9_]
    exact ⟨b3_, k3_, rfl, N9_, k15_, w9_, f10_, f11_, f12_, (Nat.le_trans (Keep.refl h0 [b1]).1 (Nat.le_of_eq g3_.symm))⟩
theorem d18_0 : decode jdk_67_method_1_code 0 = .ok (.aload_n 0, 1) := by decide +kernel
theorem d18_1 : decode jdk_67_method_1_code 1 = .ok (.bipush 16, 2) := by decide +kernel
theorem d18_3 : decode jdk_67_method_1_code 3 = .ok (.invokespecial 1, 3) := by decide +kernel
theorem d18_6 : decode jdk_67_method_1_code 6 = .ok (.return_, 1) := by decide +kernel
theorem ef_sbInit2 (m : MethodId) (x0 : Addr) : entryFrame m #[(.ref x0)] 1 = mkF m 0 #[.val (.ref x0)] [] := by first | (simp [entryFrame, mkF, argsToLocals, Value.category]; done) | rfl
def Q_sbInit2 (Z : State) (b1 : Addr) (G1 : Int32) (h0 : Heap) (n0 : Nat) (v : Option Value) (h : Heap) (L : List Loc) : Prop := ∃ (v2 : Addr) (k2 : ClassId), v = none ∧ Fr n0 L ∧ Keep h0 h [b1] ∧ (Fld Z h b1 "java/lang/AbstractStringBuilder" "coder" "B" (.int (0 : Int32))) ∧ (Fld Z h b1 "java/lang/AbstractStringBuilder" "value" "[B" (.ref v2)) ∧ (Fld Z h b1 "java/lang/AbstractStringBuilder" "count" "I" (.int (Int32.ofNat ([] : List Int32).length))) ∧ (Arv Z h v2 k2 .byte (Int32.ofNat 16) (own_pad ([] : List Int32) 16) (.int (0 : Int32))) ∧ (h0.size ≤ v2)
theorem sbInit2 (l : Launch) (Z : State) (a0 : Array Value) (hw : ∀ d ∈ tables_1, d.before a0 Z = true) (ws : List Jvm.Cond) (b1 : Addr) (G1 : Int32) (h0 : Heap) (n0 : Nat) (Z0 : n0 ≤ h0.size) (E1 : Exa Z h0 b1 "java/lang/StringBuilder") (F1 : Fld Z h0 b1 "java/lang/AbstractStringBuilder" "coder" "B" (.int (0 : Int32))) (F2 : Fld Z h0 b1 "java/lang/AbstractStringBuilder" "value" "[B" .null) (F3 : Fld Z h0 b1 "java/lang/AbstractStringBuilder" "count" "I" (.int (0 : Int32))) (g2 : n0 ≤ b1) (T1 : Sta Z Z.heap "java/lang/String" "COMPACT_STRINGS" "Z" (.int G1)) (P5 : ¬ (G1 = (0 : Int32))) (O1 : Old Z n0 h0) :
    MetFree l (⟨"java/lang/StringBuilder", "<init>", "()V"⟩ : MethodName) (head1 (Jvm.Cond.code (⟨"java/lang/StringBuilder", "<init>", "()V"⟩ : MethodName) jdk_67_method_1_code 1 none :: ws) ({ frames := 2, cells := 1, slots := 16, locals := 25 } : Room)) (fun a U => a = #[(.ref b1)] ∧ Z.Warmed39 U.vm ∧ U.heap = h0) (fun _ _ _ _ _ => True) (fun _ U o U' => ∃ v L, o = .returned v ∧ Q_sbInit2 Z b1 G1 h0 n0 v U'.heap L ∧ FrameEnd U o U' L ({ frames := 2, cells := 1, slots := 16, locals := 25 } : Room).cells ({ frames := 2, cells := 1, slots := 16, locals := 25 } : Room).slots) := by
  refine MetFree.of_bodySF (plainFor_of_name pn_java_lang_StringBuilder) hisR ?_
  intro p e s m args below meth c s₁ Bd hml0 hP hK
  obtain ⟨rfl, hZ, hh⟩ := hP
  have hx := Bd.exec
  have hby := Bd.bytes
  have hml : c.maxLocals = 1 := hml0
  have hown : s.vm.findClass "java/lang/StringBuilder" = some m.cls := findClass_of_methodNamed Bd.named
  have hnm := (name_of_methodNamed Bd.named Bd.method).1
  have X0 : Stand p l e ({ frames := 2, cells := 1, slots := 16, locals := 25 } : Room) s m #[(.ref b1)] below meth c s₁ [] 0 0 := Stand.of_body Bd
  have e0 : s₁.heap = h0 := by rw [← hh, Bd.state]; rfl
  have N0 := Fr.nil n0
  have pre0 : ∀ t, Steps p.tables e below (s₁.setTop (mkF m 0 #[.val (.ref b1)] [])) t → Steps p.tables e below (s₁.setTop (entryFrame m #[(.ref b1)] 1)) t := fun t k => castTop (ef_sbInit2 m b1) k
  obtain ⟨_, _, ⟨T1_, L1_, k1_, n1_⟩, -, X1_, ⟨Lc1_, hQ1_, l1_, y1_, z1_⟩, st1_⟩ := X0.specialBack hx (y := (⟨"java/lang/AbstractStringBuilder", "<init>", "(I)V"⟩ : MethodName)) rfl hown (mvT hZ (own_w hw 128 rfl)) (mvT hZ (own_w hw 129 rfl)) (mvT hZ (own_w hw 133 rfl)) (by decide) (backOf (W := 0) (sbInit l Z a0 hw [] b1 G1 h0 n0 Z0 E1 F1 F2 F3 g2 T1 P5 O1) hZ (own_w hw 133 rfl) (own_w hw 132 rfl) (by decide) (by decide)) (g := (mkF m 3 #[.val (.ref b1)] [(.int (16 : Int32)), (.ref b1)])) rfl (by rw [hml]; rfl) (Steps.refl _) (a := b1) (argsL := [(.int (16 : Int32))]) (rest := []) (lenOf pd_qIzV rfl) rfl (by show 2 * 0 + _ ≤ _; exact Nat.le_of_eq rfl) (hb hby d18_3) (fun _ _ => ⟨rfl, e0, (by exact own_b rfl), (by exact own_b rfl)⟩)
  dsimp only [Pt.U, Pt.locs, Pt.cells, Pt.slots] at X1_ l1_ y1_ z1_ st1_ hQ1_
  subst L1_ k1_ n1_
  obtain ⟨v2_1_, k2_1_, rfl, Nq1_, ek1_, p1__0, p1__1, p1__2, p1__3, p1__4⟩ := hQ1_
  have N1_ := Fr.app N0 Nq1_
  have k2_ : Keep h0 T1_.heap [b1] := (Keep.refl h0 [b1]).trans ek1_ (allS (Or.inl (List.mem_of_getElem? (i := 0) rfl)) all0)
  obtain ⟨fs, hr, hrun, hended, hW, hsame⟩ := X1_.leave (v := none) (fun h => by first | rfl | (rw [Bd.returns] at h; cases h))
  refine ⟨_, _, pre0 _ ?_, hrun, hended, _, _, rfl, ?_, ⟨_, rfl⟩, hW, hsame.mono (by exact own_b rfl) (by exact own_b rfl)⟩
  · show Steps p.tables e below (s₁.setTop (mkF m 0 #[.val (.ref b1)] [])) _
    refine XS.aloadN X0.here hx rfl (hb hby d18_0) rfl rfl ?_
    refine XS.bipush X0.here hx rfl (hb hby d18_1) ?_
    refine st1_.trans ?_
    show Steps p.tables e below (T1_.setTop (mkF m 6 #[.val (.ref b1)] [])) _
    exact X1_.returnOut hx Bd.returns (hb hby d18_6) hr
  · show Q_sbInit2 Z b1 G1 h0 n0 _ T1_.heap _
    skip
    exact ⟨v2_1_, k2_1_, rfl, N1_, k2_, p1__0, p1__1, p1__2, p1__3, (Nat.le_trans (Keep.refl h0 [b1]).1 p1__4)⟩
theorem d37_0 : decode jdk_65_method_131_code 0 = .ok (.iload_n 1, 1) := by decide +kernel
theorem d37_1 : decode jdk_65_method_131_code 1 = .ok (.iload_n 0, 1) := by decide +kernel
theorem d37_2 : decode jdk_65_method_131_code 2 = .ok (.if_icmp .ge 35, 3) := by decide +kernel
theorem d37_37 : decode jdk_65_method_131_code 37 = .ok (.return_, 1) := by decide +kernel
theorem pn_java_util_Arrays : plainName "java/util/Arrays" = true := by first | (simp [plainName, overriddenIn]; done) | decide +kernel
theorem ef_sbChk (m : MethodId) (x0 : Int32) (x1 : Int32) : entryFrame m #[(.int x0), (.int x1)] 2 = mkF m 0 #[.val (.int x0), .val (.int x1)] [] := by first | (simp [entryFrame, mkF, argsToLocals, Value.category]; done) | rfl
def Q_sbChk (Z : State) (p1 : Int32) (p2 : Int32) (h0 : Heap) (n0 : Nat) (v : Option Value) (h : Heap) (L : List Loc) : Prop := v = none ∧ Fr n0 L ∧ h = h0
theorem sbChk (l : Launch) (Z : State) (a0 : Array Value) (hw : ∀ d ∈ tables_1, d.before a0 Z = true) (ws : List Jvm.Cond) (p1 : Int32) (p2 : Int32) (h0 : Heap) (n0 : Nat) (Z0 : n0 ≤ h0.size) (hp : ¬ (p2 < p1)) :
    MetFree l (⟨"java/util/Arrays", "checkLength", "(II)V"⟩ : MethodName) (head1 (Jvm.Cond.code (⟨"java/util/Arrays", "checkLength", "(II)V"⟩ : MethodName) jdk_65_method_131_code 2 none :: ws) ({ frames := 0, cells := 0, slots := 0, locals := 0 } : Room)) (fun a U => a = #[(.int p1), (.int p2)] ∧ Z.Warmed39 U.vm ∧ U.heap = h0) (fun _ _ _ _ _ => True) (fun _ U o U' => ∃ v L, o = .returned v ∧ Q_sbChk Z p1 p2 h0 n0 v U'.heap L ∧ FrameEnd U o U' L ({ frames := 0, cells := 0, slots := 0, locals := 0 } : Room).cells ({ frames := 0, cells := 0, slots := 0, locals := 0 } : Room).slots) := by
  refine MetFree.of_bodySF (plainFor_of_name pn_java_util_Arrays) hisR ?_
  intro p e s m args below meth c s₁ Bd hml0 hP hK
  obtain ⟨rfl, hZ, hh⟩ := hP
  have hx := Bd.exec
  have hby := Bd.bytes
  have hml : c.maxLocals = 2 := hml0
  have hown : s.vm.findClass "java/util/Arrays" = some m.cls := findClass_of_methodNamed Bd.named
  have hnm := (name_of_methodNamed Bd.named Bd.method).1
  have X0 : Stand p l e ({ frames := 0, cells := 0, slots := 0, locals := 0 } : Room) s m #[(.int p1), (.int p2)] below meth c s₁ [] 0 0 := Stand.of_body Bd
  have e0 : s₁.heap = h0 := by rw [← hh, Bd.state]; rfl
  have N0 := Fr.nil n0
  have pre0 : ∀ t, Steps p.tables e below (s₁.setTop (mkF m 0 #[.val (.int p1), .val (.int p2)] [])) t → Steps p.tables e below (s₁.setTop (entryFrame m #[(.int p1), (.int p2)] 2)) t := fun t k => castTop (ef_sbChk m p1 p2) k
  obtain ⟨fs, hr, hrun, hended, hW, hsame⟩ := X0.leave (v := none) (fun h => by first | rfl | (rw [Bd.returns] at h; cases h))
  refine ⟨_, _, pre0 _ ?_, hrun, hended, _, _, rfl, ?_, ⟨_, rfl⟩, hW, hsame.mono (by exact own_b rfl) (by exact own_b rfl)⟩
  · show Steps p.tables e below (s₁.setTop (mkF m 0 #[.val (.int p1), .val (.int p2)] [])) _
    refine XS.iloadN X0.here hx rfl (hb hby d37_0) rfl ?_
    refine XS.iloadN X0.here hx rfl (hb hby d37_1) rfl ?_
    refine XS.icmpYes X0.here hx rfl (pc0 := 2) (pc' := 37) rfl (hb hby d37_2) rfl (flt (hp : ¬ (p2 < p1))).2.1 (by decide) (by decide) ?_
    exact X0.returnOut hx Bd.returns (hb hby d37_37) hr
  · show Q_sbChk Z p1 p2 h0 n0 _ s₁.heap _
    rw [e0]
    exact ⟨rfl, N0, rfl⟩
theorem d38_0 : decode jdk_29_method_69_code 0 = .ok (.iload_n 0, 1) := by decide +kernel
theorem d38_1 : decode jdk_29_method_69_code 1 = .ok (.iload_n 1, 1) := by decide +kernel
theorem d38_2 : decode jdk_29_method_69_code 2 = .ok (.if_icmp .gt 7, 3) := by decide +kernel
theorem d38_9 : decode jdk_29_method_69_code 9 = .ok (.iload_n 1, 1) := by decide +kernel
theorem d38_10 : decode jdk_29_method_69_code 10 = .ok (.ireturn, 1) := by decide +kernel
theorem ef_sbMinB (m : MethodId) (x0 : Int32) (x1 : Int32) : entryFrame m #[(.int x0), (.int x1)] 2 = mkF m 0 #[.val (.int x0), .val (.int x1)] [] := by first | (simp [entryFrame, mkF, argsToLocals, Value.category]; done) | rfl
def Q_sbMinB (Z : State) (p1 : Int32) (p2 : Int32) (h0 : Heap) (n0 : Nat) (v : Option Value) (h : Heap) (L : List Loc) : Prop := v = some (.int p2) ∧ Fr n0 L ∧ h = h0
theorem sbMinB (l : Launch) (Z : State) (a0 : Array Value) (hw : ∀ d ∈ tables_1, d.before a0 Z = true) (ws : List Jvm.Cond) (p1 : Int32) (p2 : Int32) (h0 : Heap) (n0 : Nat) (Z0 : n0 ≤ h0.size) (hp : p2 < p1) :
    MetFree l (⟨"java/lang/Math", "min", "(II)I"⟩ : MethodName) (head1 (Jvm.Cond.code (⟨"java/lang/Math", "min", "(II)I"⟩ : MethodName) jdk_29_method_69_code 2 (some .int) :: ws) ({ frames := 0, cells := 0, slots := 0, locals := 0 } : Room)) (fun a U => a = #[(.int p1), (.int p2)] ∧ Z.Warmed39 U.vm ∧ U.heap = h0) (fun _ _ _ _ _ => True) (fun _ U o U' => ∃ v L, o = .returned v ∧ Q_sbMinB Z p1 p2 h0 n0 v U'.heap L ∧ FrameEnd U o U' L ({ frames := 0, cells := 0, slots := 0, locals := 0 } : Room).cells ({ frames := 0, cells := 0, slots := 0, locals := 0 } : Room).slots) := by
  refine MetFree.of_bodySF (Jvm.Free.JP.mathPlain rfl (by decide +kernel)) hisR ?_
  intro p e s m args below meth c s₁ Bd hml0 hP hK
  obtain ⟨rfl, hZ, hh⟩ := hP
  have hx := Bd.exec
  have hby := Bd.bytes
  have hml : c.maxLocals = 2 := hml0
  have hown : s.vm.findClass "java/lang/Math" = some m.cls := findClass_of_methodNamed Bd.named
  have hnm := (name_of_methodNamed Bd.named Bd.method).1
  have X0 : Stand p l e ({ frames := 0, cells := 0, slots := 0, locals := 0 } : Room) s m #[(.int p1), (.int p2)] below meth c s₁ [] 0 0 := Stand.of_body Bd
  have e0 : s₁.heap = h0 := by rw [← hh, Bd.state]; rfl
  have N0 := Fr.nil n0
  have pre0 : ∀ t, Steps p.tables e below (s₁.setTop (mkF m 0 #[.val (.int p1), .val (.int p2)] [])) t → Steps p.tables e below (s₁.setTop (entryFrame m #[(.int p1), (.int p2)] 2)) t := fun t k => castTop (ef_sbMinB m p1 p2) k
  obtain ⟨fs, hr, hrun, hended, hW, hsame⟩ := X0.leave (v := some (.int p2)) (fun h => by first | rfl | (rw [Bd.returns] at h; cases h))
  refine ⟨_, _, pre0 _ ?_, hrun, hended, _, _, rfl, ?_, ⟨_, rfl⟩, hW, hsame.mono (by exact own_b rfl) (by exact own_b rfl)⟩
  · show Steps p.tables e below (s₁.setTop (mkF m 0 #[.val (.int p1), .val (.int p2)] [])) _
    refine XS.iloadN X0.here hx rfl (hb hby d38_0) rfl ?_
    refine XS.iloadN X0.here hx rfl (hb hby d38_1) rfl ?_
    refine XS.icmpYes X0.here hx rfl (pc0 := 2) (pc' := 9) rfl (hb hby d38_2) rfl (tlt (hp : p2 < p1)).2.2.1 (by decide) (by decide) ?_
    refine XS.iloadN X0.here hx rfl (hb hby d38_9) rfl ?_
    exact retI X0 hx Bd.returns (hb hby d38_10) hr
  · show Q_sbMinB Z p1 p2 h0 n0 _ s₁.heap _
    rw [e0]
    exact ⟨rfl, N0, rfl⟩
theorem d36_0 : decode jdk_65_method_133_code 0 = .ok (.iload_n 1, 1) := by decide +kernel
theorem d36_1 : decode jdk_65_method_133_code 1 = .ok (.iload_n 2, 1) := by decide +kernel
theorem d36_2 : decode jdk_65_method_133_code 2 = .ok (.invokestatic 343, 3) := by decide +kernel
theorem pd_qIIzV : parseMethodDescriptor "(II)V" = some ⟨[.int, .int], none⟩ := by decide +kernel
theorem d36_5 : decode jdk_65_method_133_code 5 = .ok (.iload_n 2, 1) := by decide +kernel
theorem d36_6 : decode jdk_65_method_133_code 6 = .ok (.iload_n 1, 1) := by decide +kernel
theorem d36_7 : decode jdk_65_method_133_code 7 = .ok (.isub, 1) := by decide +kernel
theorem d36_8 : decode jdk_65_method_133_code 8 = .ok (.istore_n 3, 1) := by decide +kernel
theorem d36_9 : decode jdk_65_method_133_code 9 = .ok (.iload_n 3, 1) := by decide +kernel
theorem d36_10 : decode jdk_65_method_133_code 10 = .ok (.newarray .byte, 2) := by decide +kernel
theorem d36_12 : decode jdk_65_method_133_code 12 = .ok (.astore 4, 2) := by decide +kernel
theorem d36_14 : decode jdk_65_method_133_code 14 = .ok (.aload_n 0, 1) := by decide +kernel
theorem d36_15 : decode jdk_65_method_133_code 15 = .ok (.iload_n 1, 1) := by decide +kernel
theorem d36_16 : decode jdk_65_method_133_code 16 = .ok (.aload 4, 2) := by decide +kernel
theorem d36_18 : decode jdk_65_method_133_code 18 = .ok (.iconst 0, 1) := by decide +kernel
theorem d36_19 : decode jdk_65_method_133_code 19 = .ok (.aload_n 0, 1) := by decide +kernel
theorem d36_20 : decode jdk_65_method_133_code 20 = .ok (.arraylength, 1) := by decide +kernel
theorem d36_21 : decode jdk_65_method_133_code 21 = .ok (.iload_n 1, 1) := by decide +kernel
theorem d36_22 : decode jdk_65_method_133_code 22 = .ok (.isub, 1) := by decide +kernel
theorem d36_23 : decode jdk_65_method_133_code 23 = .ok (.iload_n 3, 1) := by decide +kernel
theorem d36_24 : decode jdk_65_method_133_code 24 = .ok (.invokestatic 304, 3) := by decide +kernel
theorem pd_qIIzI : parseMethodDescriptor "(II)I" = some ⟨[.int, .int], some .int⟩ := by decide +kernel
theorem d36_27 : decode jdk_65_method_133_code 27 = .ok (.invokestatic 150, 3) := by decide +kernel
theorem d36_30 : decode jdk_65_method_133_code 30 = .ok (.aload 4, 2) := by decide +kernel
theorem d36_32 : decode jdk_65_method_133_code 32 = .ok (.areturn, 1) := by decide +kernel
theorem ef_sbRangeB (m : MethodId) (x0 : Addr) (x1 : Int32) (x2 : Int32) : entryFrame m #[(.ref x0), (.int x1), (.int x2)] 5 = mkF m 0 #[.val (.ref x0), .val (.int x1), .val (.int x2), .unset, .unset] [] := by first | (simp [entryFrame, mkF, argsToLocals, Value.category]; done) | rfl
def Q_sbRangeB (Z : State) (v1 : Addr) (kv : ClassId) (es : List Int32) (cap : Nat) (h0 : Heap) (n0 : Nat) (v : Option Value) (h : Heap) (L : List Loc) : Prop := ∃ (t1 : Addr) (k1 : ClassId), v = some (.ref t1) ∧ Fr n0 L ∧ Keep h0 h [] ∧ (Arv Z h t1 k1 .byte (Int32.ofNat es.length) (own_by es) (.int (0 : Int32))) ∧ (h0.size ≤ t1)
theorem sbRangeB (l : Launch) (Z : State) (a0 : Array Value) (hw : ∀ d ∈ tables_1, d.before a0 Z = true) (ws : List Jvm.Cond) (v1 : Addr) (kv : ClassId) (es : List Int32) (cap : Nat) (h0 : Heap) (n0 : Nat) (Z0 : n0 ≤ h0.size) (V1 : Arv Z h0 v1 kv .byte (Int32.ofNat cap) (own_pad es cap) (.int (0 : Int32))) (lt1 : es.length < cap) (lc1 : cap ≤ 16) :
    MetFree l (⟨"java/util/Arrays", "copyOfRangeByte", "([BII)[B"⟩ : MethodName) (head1 (Jvm.Cond.code (⟨"java/util/Arrays", "copyOfRangeByte", "([BII)[B"⟩ : MethodName) jdk_65_method_133_code 5 (some (.array .byte)) :: ws) ({ frames := 1, cells := 1, slots := 16, locals := 18 } : Room)) (fun a U => a = #[(.ref v1), (.int (0 : Int32)), (.int (Int32.ofNat es.length))] ∧ Z.Warmed39 U.vm ∧ U.heap = h0) (fun _ _ _ _ _ => True) (fun _ U o U' => ∃ v L, o = .returned v ∧ Q_sbRangeB Z v1 kv es cap h0 n0 v U'.heap L ∧ FrameEnd U o U' L ({ frames := 1, cells := 1, slots := 16, locals := 18 } : Room).cells ({ frames := 1, cells := 1, slots := 16, locals := 18 } : Room).slots) := by
  refine MetFree.of_bodySF (plainFor_of_name pn_java_util_Arrays) hisR ?_
  intro p e s m args below meth c s₁ Bd hml0 hP hK
  obtain ⟨rfl, hZ, hh⟩ := hP
  have hx := Bd.exec
  have hby := Bd.bytes
  have hml : c.maxLocals = 5 := hml0
  have hown : s.vm.findClass "java/util/Arrays" = some m.cls := findClass_of_methodNamed Bd.named
  have hnm := (name_of_methodNamed Bd.named Bd.method).1
  have X0 : Stand p l e ({ frames := 1, cells := 1, slots := 16, locals := 18 } : Room) s m #[(.ref v1), (.int (0 : Int32)), (.int (Int32.ofNat es.length))] below meth c s₁ [] 0 0 := Stand.of_body Bd
  have e0 : s₁.heap = h0 := by rw [← hh, Bd.state]; rfl
  have N0 := Fr.nil n0
  have pre0 : ∀ t, Steps p.tables e below (s₁.setTop (mkF m 0 #[.val (.ref v1), .val (.int (0 : Int32)), .val (.int (Int32.ofNat es.length)), .unset, .unset] [])) t → Steps p.tables e below (s₁.setTop (entryFrame m #[(.ref v1), (.int (0 : Int32)), (.int (Int32.ofNat es.length))] 5)) t := fun t k => castTop (ef_sbRangeB m v1 (0 : Int32) (Int32.ofNat es.length)) k
  obtain ⟨_, _, ⟨T1_, L1_, k1_, n1_⟩, -, X1_, ⟨Lc1_, hQ1_, l1_, y1_, z1_⟩, st1_⟩ := Jvm.LawKit.callS X0 hx (y := (⟨"java/util/Arrays", "checkLength", "(II)V"⟩ : MethodName)) hown (mvT hZ (own_w hw 224 rfl)) (mvT hZ (own_w hw 225 rfl)) (mvT hZ (own_w hw 219 rfl)) (mvT hZ (own_w hw 226 rfl)) (by decide) (backOf (W := 0) (sbChk l Z a0 hw [] (0 : Int32) (Int32.ofNat es.length) h0 n0 Z0 (own_nn (by omega))) hZ (own_w hw 226 rfl) (own_w hw 219 rfl) (by decide) (by decide)) (g := (mkF m 2 #[.val (.ref v1), .val (.int (0 : Int32)), .val (.int (Int32.ofNat es.length)), .unset, .unset] [(.int (Int32.ofNat es.length)), (.int (0 : Int32))])) rfl (by rw [hml]; rfl) (argsL := [(.int (0 : Int32)), (.int (Int32.ofNat es.length))]) (rest := []) (lenOf pd_qIIzV rfl) rfl (by show 2 * 0 + _ ≤ _; exact Nat.le_of_eq rfl) (hb hby d36_2) (fun _ _ => ⟨rfl, e0, (by exact own_b rfl), (by exact own_b rfl)⟩)
  dsimp only [Pt.U, Pt.locs, Pt.cells, Pt.slots] at X1_ l1_ y1_ z1_ st1_ hQ1_
  subst L1_ k1_ n1_
  obtain ⟨rfl, Nq1_, ek1_⟩ := hQ1_
  have N1_ := Fr.app N0 Nq1_
  obtain ⟨T2_, h2_, k2_, X2_, e2_, E2_, A2_, st2_⟩ := newP X1_ hx hZ (own_w hw 18 rfl) ek1_ (g := (mkF m 10 #[.val (.ref v1), .val (.int (0 : Int32)), .val (.int (Int32.ofNat es.length)), .val (.int (Int32.ofNat es.length)), .unset] [(.int (Int32.ofNat es.length))])) rfl (hb hby d36_10) rfl (own_nn (by omega)) (cap := 16) (by rw [own_tn (by omega)]; omega) (by decide) (by exact own_b rfl) (by exact own_b rfl)
  obtain ⟨b2_, g2_⟩ : ∃ z, z = h0.size := ⟨_, rfl⟩
  rw [← g2_] at A2_ st2_
  have v2_ : Arv Z h2_ b2_ k2_ .byte (Int32.ofNat es.length) [] (.int (0 : Int32)) := Arv.new A2_ (own_nn (by omega))
  have vp_ : Arv Z h2_ b2_ k2_ .byte (Int32.ofNat es.length) (List.replicate es.length (.int (0 : Int32))) (.int (0 : Int32)) := (v2_).pad (pad_rep [] (.int (0 : Int32)) es.length)
  have f3_ : Arv Z h2_ v1 kv .byte (Int32.ofNat cap) (own_pad es cap) (.int (0 : Int32)) := (V1.ext E2_)
  obtain ⟨cl4_, Ar4_, q4_, S4_, M4_, Hs4_, G4_⟩ := id f3_
  have z6_ : n0 ≤ h2_.size := Nat.le_trans Z0 E2_.1
  obtain ⟨_, _, ⟨T5_, L5_, k5_, n5_⟩, -, X5_, ⟨Lc5_, hQ5_, l5_, y5_, z5_⟩, st5_⟩ := Jvm.LawKit.callS X2_ hx (y := (⟨"java/lang/Math", "min", "(II)I"⟩ : MethodName)) hown (mvT hZ (own_w hw 227 rfl)) (mvT hZ (own_w hw 228 rfl)) (mvT hZ (own_w hw 229 rfl)) (mvT hZ (own_w hw 230 rfl)) (by decide) (backOf (W := 4) (sbMinB l Z a0 hw [] (Int32.ofNat cap) (Int32.ofNat es.length) h2_ n0 z6_ (own_ltn (by omega) lt1)) hZ (own_w hw 230 rfl) (own_w hw 229 rfl) (by decide) (by decide)) (g := (mkF m 24 #[.val (.ref v1), .val (.int (0 : Int32)), .val (.int (Int32.ofNat es.length)), .val (.int (Int32.ofNat es.length)), .val (.ref b2_)] [(.int (Int32.ofNat es.length)), (.int (Int32.ofNat cap)), (.int (0 : Int32)), (.ref b2_), (.int (0 : Int32)), (.ref v1)])) rfl (by rw [hml]; rfl) (argsL := [(.int (Int32.ofNat cap)), (.int (Int32.ofNat es.length))]) (rest := [(.int (0 : Int32)), (.ref b2_), (.int (0 : Int32)), (.ref v1)]) (lenOf pd_qIIzI rfl) rfl (by show 2 * 0 + _ ≤ _; exact Nat.le_of_eq rfl) (hb hby d36_24) (fun _ _ => ⟨rfl, e2_, (by exact own_b rfl), (by exact own_b rfl)⟩)
  dsimp only [Pt.U, Pt.locs, Pt.cells, Pt.slots] at X5_ l5_ y5_ z5_ st5_ hQ5_
  subst L5_ k5_ n5_
  obtain ⟨rfl, Nq5_, ek5_⟩ := hQ5_
  have N5_ := Fr.app N1_ Nq5_
  have g8_ : n0 ≤ b2_ := Nat.le_trans Z0 (Nat.le_of_eq g2_.symm)
  obtain ⟨T7_, h7_, L7_, X7_, e7_, N7_, K7_, V7_, st7_⟩ := cpA X5_ hx hZ hown (own_w hw 231 rfl) (own_w hw 186 rfl) (own_w hw 184 rfl) (own_w hw 185 rfl) ek5_ f3_ vp_ (us := (own_by es)) (Or.inl ⟨rfl, rfl⟩) (by decide) (by decide) (own_nn (by omega)) (own_h50 (by omega) (by omega)) (own_h4 _) (own_us2 _ (by omega)) (own_hl0 (by omega) _) N5_ g8_ (g := (mkF m 27 #[.val (.ref v1), .val (.int (0 : Int32)), .val (.int (Int32.ofNat es.length)), .val (.int (Int32.ofNat es.length)), .val (.ref b2_)] [(.int (Int32.ofNat es.length)), (.int (0 : Int32)), (.ref b2_), (.int (0 : Int32)), (.ref v1)])) rfl (by rw [hml]; rfl) rfl (hb hby d36_27) (by decide) (W := 0) (by show 2 * 0 + _ ≤ _; exact Nat.le_of_eq rfl) (by decide)
  have v7_ : Arv Z h7_ b2_ k2_ .byte (Int32.ofNat es.length) (own_by es) (.int (0 : Int32)) := (by have q_ := V7_; rw [own_cat0 (by omega)] at q_; exact q_)
  have k9_ : Keep h0 h2_ [] := (Keep.refl h0 []).ext E2_
  have k10_ : Keep h0 h7_ [] := k9_.trans K7_ (allS (Or.inr (Nat.le_trans (Keep.refl h0 []).1 (Nat.le_of_eq g2_.symm))) all0)
  obtain ⟨fs, hr, hrun, hended, hW, hsame⟩ := X7_.leave (v := some (.ref b2_)) (fun h => by first | rfl | (rw [Bd.returns] at h; cases h))
  refine ⟨_, _, pre0 _ ?_, hrun, hended, _, _, rfl, ?_, ⟨_, rfl⟩, hW, hsame.mono (by exact own_b rfl) (by exact own_b rfl)⟩
  · show Steps p.tables e below (s₁.setTop (mkF m 0 #[.val (.ref v1), .val (.int (0 : Int32)), .val (.int (Int32.ofNat es.length)), .unset, .unset] [])) _
    refine XS.iloadN X0.here hx rfl (hb hby d36_0) rfl ?_
    refine XS.iloadN X0.here hx rfl (hb hby d36_1) rfl ?_
    refine st1_ _ ?_
    show Steps p.tables e below (T1_.setTop (mkF m 5 #[.val (.ref v1), .val (.int (0 : Int32)), .val (.int (Int32.ofNat es.length)), .unset, .unset] [])) _
    refine XS.iloadN X1_.here hx rfl (hb hby d36_5) rfl ?_
    refine XS.iloadN X1_.here hx rfl (hb hby d36_6) rfl ?_
    refine XS.isub X1_.here hx rfl (hb hby d36_7) rfl ?_
    show Steps p.tables e below (T1_.setTop (mkF m 8 #[.val (.ref v1), .val (.int (0 : Int32)), .val (.int (Int32.ofNat es.length)), .unset, .unset] [(.int ((Int32.ofNat es.length) - (0 : Int32)))])) _
    rw [own_sub0]
    show Steps p.tables e below (T1_.setTop (mkF m 8 #[.val (.ref v1), .val (.int (0 : Int32)), .val (.int (Int32.ofNat es.length)), .unset, .unset] [(.int (Int32.ofNat es.length))])) _
    refine XS.istoreN X1_.here hx rfl (hb hby d36_8) rfl (l' := #[.val (.ref v1), .val (.int (0 : Int32)), .val (.int (Int32.ofNat es.length)), .val (.int (Int32.ofNat es.length)), .unset]) rfl ?_
    show Steps p.tables e below (T1_.setTop (mkF m 9 #[.val (.ref v1), .val (.int (0 : Int32)), .val (.int (Int32.ofNat es.length)), .val (.int (Int32.ofNat es.length)), .unset] [])) _
    refine XS.iloadN X1_.here hx rfl (hb hby d36_9) rfl ?_
    refine st2_ _ ?_
    show Steps p.tables e below (T2_.setTop (mkF m 12 #[.val (.ref v1), .val (.int (0 : Int32)), .val (.int (Int32.ofNat es.length)), .val (.int (Int32.ofNat es.length)), .unset] [(.ref b2_)])) _
    refine XS.astore X2_.here hx rfl (hb hby d36_12) rfl rfl (l' := #[.val (.ref v1), .val (.int (0 : Int32)), .val (.int (Int32.ofNat es.length)), .val (.int (Int32.ofNat es.length)), .val (.ref b2_)]) rfl ?_
    show Steps p.tables e below (T2_.setTop (mkF m 14 #[.val (.ref v1), .val (.int (0 : Int32)), .val (.int (Int32.ofNat es.length)), .val (.int (Int32.ofNat es.length)), .val (.ref b2_)] [])) _
    refine XS.aloadN X2_.here hx rfl (hb hby d36_14) rfl rfl ?_
    refine XS.iloadN X2_.here hx rfl (hb hby d36_15) rfl ?_
    refine XS.aload X2_.here hx rfl (hb hby d36_16) rfl rfl ?_
    refine XS.iconst X2_.here hx rfl (hb hby d36_18) ?_
    refine XS.aloadN X2_.here hx rfl (hb hby d36_19) rfl rfl ?_
    refine X2_.arraylength hx (by rw [e2_]; exact Ar4_.1) (State.isArrayOf_alike (State.Warmed39.alike hZ) Ar4_.2.1) (g := (mkF m 20 #[.val (.ref v1), .val (.int (0 : Int32)), .val (.int (Int32.ofNat es.length)), .val (.int (Int32.ofNat es.length)), .val (.ref b2_)] [(.ref v1), (.int (0 : Int32)), (.ref b2_), (.int (0 : Int32)), (.ref v1)])) rfl rfl (hb hby d36_20) _ ?_
    rw [len_of S4_ M4_]
    show Steps p.tables e below (T2_.setTop (mkF m 21 #[.val (.ref v1), .val (.int (0 : Int32)), .val (.int (Int32.ofNat es.length)), .val (.int (Int32.ofNat es.length)), .val (.ref b2_)] [(.int (Int32.ofNat cap)), (.int (0 : Int32)), (.ref b2_), (.int (0 : Int32)), (.ref v1)])) _
    refine XS.iloadN X2_.here hx rfl (hb hby d36_21) rfl ?_
    refine XS.isub X2_.here hx rfl (hb hby d36_22) rfl ?_
    show Steps p.tables e below (T2_.setTop (mkF m 23 #[.val (.ref v1), .val (.int (0 : Int32)), .val (.int (Int32.ofNat es.length)), .val (.int (Int32.ofNat es.length)), .val (.ref b2_)] [(.int ((Int32.ofNat cap) - (0 : Int32))), (.int (0 : Int32)), (.ref b2_), (.int (0 : Int32)), (.ref v1)])) _
    rw [own_sub0]
    show Steps p.tables e below (T2_.setTop (mkF m 23 #[.val (.ref v1), .val (.int (0 : Int32)), .val (.int (Int32.ofNat es.length)), .val (.int (Int32.ofNat es.length)), .val (.ref b2_)] [(.int (Int32.ofNat cap)), (.int (0 : Int32)), (.ref b2_), (.int (0 : Int32)), (.ref v1)])) _
    refine XS.iloadN X2_.here hx rfl (hb hby d36_23) rfl ?_
    refine st5_ _ ?_
    show Steps p.tables e below (T5_.setTop (mkF m 27 #[.val (.ref v1), .val (.int (0 : Int32)), .val (.int (Int32.ofNat es.length)), .val (.int (Int32.ofNat es.length)), .val (.ref b2_)] [(.int (Int32.ofNat es.length)), (.int (0 : Int32)), (.ref b2_), (.int (0 : Int32)), (.ref v1)])) _
    refine st7_ _ ?_
    show Steps p.tables e below (T7_.setTop (mkF m 30 #[.val (.ref v1), .val (.int (0 : Int32)), .val (.int (Int32.ofNat es.length)), .val (.int (Int32.ofNat es.length)), .val (.ref b2_)] [])) _
    refine XS.aload X7_.here hx rfl (hb hby d36_30) rfl rfl ?_
    exact retR X7_ hx Bd.returns rfl rfl rfl (hb hby d36_32) hr
  · show Q_sbRangeB Z v1 kv es cap h0 n0 _ T7_.heap _
    rw [e7_]
    exact ⟨b2_, k2_, rfl, N7_, k10_, v7_, (Nat.le_trans (Keep.refl h0 []).1 (Nat.le_of_eq g2_.symm))⟩
theorem d35_0 : decode jdk_65_method_132_code 0 = .ok (.iload_n 1, 1) := by decide +kernel
theorem d35_1 : decode jdk_65_method_132_code 1 = .ok (.ifCond .ne 9, 3) := by decide +kernel
theorem d35_4 : decode jdk_65_method_132_code 4 = .ok (.iload_n 2, 1) := by decide +kernel
theorem d35_5 : decode jdk_65_method_132_code 5 = .ok (.aload_n 0, 1) := by decide +kernel
theorem d35_6 : decode jdk_65_method_132_code 6 = .ok (.arraylength, 1) := by decide +kernel
theorem d35_7 : decode jdk_65_method_132_code 7 = .ok (.if_icmp .eq 10, 3) := by decide +kernel
theorem d35_10 : decode jdk_65_method_132_code 10 = .ok (.aload_n 0, 1) := by decide +kernel
theorem d35_11 : decode jdk_65_method_132_code 11 = .ok (.iload_n 1, 1) := by decide +kernel
theorem d35_12 : decode jdk_65_method_132_code 12 = .ok (.iload_n 2, 1) := by decide +kernel
theorem d35_13 : decode jdk_65_method_132_code 13 = .ok (.invokestatic 339, 3) := by decide +kernel
theorem pd_qaBIIzaB : parseMethodDescriptor "([BII)[B" = some ⟨[(.array .byte), .int, .int], some (.array .byte)⟩ := by decide +kernel
theorem d35_16 : decode jdk_65_method_132_code 16 = .ok (.areturn, 1) := by decide +kernel
theorem ef_sbRange (m : MethodId) (x0 : Addr) (x1 : Int32) (x2 : Int32) : entryFrame m #[(.ref x0), (.int x1), (.int x2)] 3 = mkF m 0 #[.val (.ref x0), .val (.int x1), .val (.int x2)] [] := by first | (simp [entryFrame, mkF, argsToLocals, Value.category]; done) | rfl
def Q_sbRange (Z : State) (v1 : Addr) (kv : ClassId) (es : List Int32) (cap : Nat) (h0 : Heap) (n0 : Nat) (v : Option Value) (h : Heap) (L : List Loc) : Prop := ∃ (t1 : Addr) (k1 : ClassId), v = some (.ref t1) ∧ Fr n0 L ∧ Keep h0 h [] ∧ (Arv Z h t1 k1 .byte (Int32.ofNat es.length) (own_by es) (.int (0 : Int32))) ∧ (h0.size ≤ t1)
theorem sbRange (l : Launch) (Z : State) (a0 : Array Value) (hw : ∀ d ∈ tables_1, d.before a0 Z = true) (ws : List Jvm.Cond) (v1 : Addr) (kv : ClassId) (es : List Int32) (cap : Nat) (h0 : Heap) (n0 : Nat) (Z0 : n0 ≤ h0.size) (V1 : Arv Z h0 v1 kv .byte (Int32.ofNat cap) (own_pad es cap) (.int (0 : Int32))) (lt1 : es.length < cap) (lc1 : cap ≤ 16) :
    MetFree l (⟨"java/util/Arrays", "copyOfRange", "([BII)[B"⟩ : MethodName) (head1 (Jvm.Cond.code (⟨"java/util/Arrays", "copyOfRange", "([BII)[B"⟩ : MethodName) jdk_65_method_132_code 3 (some (.array .byte)) :: ws) ({ frames := 2, cells := 1, slots := 16, locals := 34 } : Room)) (fun a U => a = #[(.ref v1), (.int (0 : Int32)), (.int (Int32.ofNat es.length))] ∧ Z.Warmed39 U.vm ∧ U.heap = h0) (fun _ _ _ _ _ => True) (fun _ U o U' => ∃ v L, o = .returned v ∧ Q_sbRange Z v1 kv es cap h0 n0 v U'.heap L ∧ FrameEnd U o U' L ({ frames := 2, cells := 1, slots := 16, locals := 34 } : Room).cells ({ frames := 2, cells := 1, slots := 16, locals := 34 } : Room).slots) := by
  refine MetFree.of_bodySF (plainFor_of_name pn_java_util_Arrays) hisR ?_
  intro p e s m args below meth c s₁ Bd hml0 hP hK
  obtain ⟨rfl, hZ, hh⟩ := hP
  have hx := Bd.exec
  have hby := Bd.bytes
  have hml : c.maxLocals = 3 := hml0
  have hown : s.vm.findClass "java/util/Arrays" = some m.cls := findClass_of_methodNamed Bd.named
  have hnm := (name_of_methodNamed Bd.named Bd.method).1
  have X0 : Stand p l e ({ frames := 2, cells := 1, slots := 16, locals := 34 } : Room) s m #[(.ref v1), (.int (0 : Int32)), (.int (Int32.ofNat es.length))] below meth c s₁ [] 0 0 := Stand.of_body Bd
  have e0 : s₁.heap = h0 := by rw [← hh, Bd.state]; rfl
  have N0 := Fr.nil n0
  have pre0 : ∀ t, Steps p.tables e below (s₁.setTop (mkF m 0 #[.val (.ref v1), .val (.int (0 : Int32)), .val (.int (Int32.ofNat es.length))] [])) t → Steps p.tables e below (s₁.setTop (entryFrame m #[(.ref v1), (.int (0 : Int32)), (.int (Int32.ofNat es.length))] 3)) t := fun t k => castTop (ef_sbRange m v1 (0 : Int32) (Int32.ofNat es.length)) k
  obtain ⟨cl1_, Ar1_, q1_, S1_, M1_, Hs1_, G1_⟩ := id V1
  obtain ⟨_, _, ⟨T2_, L2_, k2_, n2_⟩, -, X2_, ⟨Lc2_, hQ2_, l2_, y2_, z2_⟩, st2_⟩ := Jvm.LawKit.callS X0 hx (y := (⟨"java/util/Arrays", "copyOfRangeByte", "([BII)[B"⟩ : MethodName)) hown (mvT hZ (own_w hw 221 rfl)) (mvT hZ (own_w hw 222 rfl)) (mvT hZ (own_w hw 219 rfl)) (mvT hZ (own_w hw 223 rfl)) (by decide) (backOf (W := 0) (sbRangeB l Z a0 hw [] v1 kv es cap h0 n0 Z0 V1 lt1 lc1) hZ (own_w hw 223 rfl) (own_w hw 219 rfl) (by decide) (by decide)) (g := (mkF m 13 #[.val (.ref v1), .val (.int (0 : Int32)), .val (.int (Int32.ofNat es.length))] [(.int (Int32.ofNat es.length)), (.int (0 : Int32)), (.ref v1)])) rfl (by rw [hml]; rfl) (argsL := [(.ref v1), (.int (0 : Int32)), (.int (Int32.ofNat es.length))]) (rest := []) (lenOf pd_qaBIIzaB rfl) rfl (by show 2 * 0 + _ ≤ _; exact Nat.le_of_eq rfl) (hb hby d35_13) (fun _ _ => ⟨rfl, e0, (by exact own_b rfl), (by exact own_b rfl)⟩)
  dsimp only [Pt.U, Pt.locs, Pt.cells, Pt.slots] at X2_ l2_ y2_ z2_ st2_ hQ2_
  subst L2_ k2_ n2_
  obtain ⟨t1_2_, k1_2_, rfl, Nq2_, ek2_, p2__0, p2__1⟩ := hQ2_
  have N2_ := Fr.app N0 Nq2_
  have k3_ : Keep h0 T2_.heap [] := (Keep.refl h0 []).trans ek2_ all0
  obtain ⟨fs, hr, hrun, hended, hW, hsame⟩ := X2_.leave (v := some (.ref t1_2_)) (fun h => by first | rfl | (rw [Bd.returns] at h; cases h))
  refine ⟨_, _, pre0 _ ?_, hrun, hended, _, _, rfl, ?_, ⟨_, rfl⟩, hW, hsame.mono (by exact own_b rfl) (by exact own_b rfl)⟩
  · show Steps p.tables e below (s₁.setTop (mkF m 0 #[.val (.ref v1), .val (.int (0 : Int32)), .val (.int (Int32.ofNat es.length))] [])) _
    refine XS.iloadN X0.here hx rfl (hb hby d35_0) rfl ?_
    refine XS.ifNo X0.here hx rfl (hb hby d35_1) rfl ((if0 _ _).trans (teq ((by decide) : (0 : Int32) = (0 : Int32))).2) ?_
    refine XS.iloadN X0.here hx rfl (hb hby d35_4) rfl ?_
    refine XS.aloadN X0.here hx rfl (hb hby d35_5) rfl rfl ?_
    refine X0.arraylength hx (by rw [e0]; exact Ar1_.1) (State.isArrayOf_alike (State.Warmed39.alike hZ) Ar1_.2.1) (g := (mkF m 6 #[.val (.ref v1), .val (.int (0 : Int32)), .val (.int (Int32.ofNat es.length))] [(.ref v1), (.int (Int32.ofNat es.length))])) rfl rfl (hb hby d35_6) _ ?_
    rw [len_of S1_ M1_]
    show Steps p.tables e below (s₁.setTop (mkF m 7 #[.val (.ref v1), .val (.int (0 : Int32)), .val (.int (Int32.ofNat es.length))] [(.int (Int32.ofNat cap)), (.int (Int32.ofNat es.length))])) _
    refine XS.icmpNo X0.here hx rfl (hb hby d35_7) rfl (feq ((own_nen (by omega) lt1) : ¬ ((Int32.ofNat es.length) = (Int32.ofNat cap)))).1 ?_
    refine XS.aloadN X0.here hx rfl (hb hby d35_10) rfl rfl ?_
    refine XS.iloadN X0.here hx rfl (hb hby d35_11) rfl ?_
    refine XS.iloadN X0.here hx rfl (hb hby d35_12) rfl ?_
    refine st2_ _ ?_
    show Steps p.tables e below (T2_.setTop (mkF m 16 #[.val (.ref v1), .val (.int (0 : Int32)), .val (.int (Int32.ofNat es.length))] [(.ref t1_2_)])) _
    exact retR X2_ hx Bd.returns rfl rfl rfl (hb hby d35_16) hr
  · show Q_sbRange Z v1 kv es cap h0 n0 _ T2_.heap _
    skip
    exact ⟨t1_2_, k1_2_, rfl, N2_, k3_, p2__0, (Nat.le_trans (Keep.refl h0 []).1 p2__1)⟩
theorem d31_0 : decode jdk_68_method_64_code 0 = .ok (.aload_n 0, 1) := by decide +kernel
theorem d31_1 : decode jdk_68_method_64_code 1 = .ok (.getfield 15, 3) := by decide +kernel
theorem d31_4 : decode jdk_68_method_64_code 4 = .ok (.areturn, 1) := by decide +kernel
theorem ef_sbVal (m : MethodId) (x0 : Addr) : entryFrame m #[(.ref x0)] 1 = mkF m 0 #[.val (.ref x0)] [] := by first | (simp [entryFrame, mkF, argsToLocals, Value.category]; done) | rfl
def Q_sbVal (Z : State) (b1 : Addr) (v1 : Addr) (h0 : Heap) (n0 : Nat) (v : Option Value) (h : Heap) (L : List Loc) : Prop := v = some (.ref v1) ∧ Fr n0 L ∧ h = h0
theorem sbVal (l : Launch) (Z : State) (a0 : Array Value) (hw : ∀ d ∈ tables_1, d.before a0 Z = true) (ws : List Jvm.Cond) (b1 : Addr) (v1 : Addr) (h0 : Heap) (n0 : Nat) (Z0 : n0 ≤ h0.size) (F2 : Fld Z h0 b1 "java/lang/AbstractStringBuilder" "value" "[B" (.ref v1)) :
    MetFree l (⟨"java/lang/AbstractStringBuilder", "getValue", "()[B"⟩ : MethodName) (head1 (Jvm.Cond.code (⟨"java/lang/AbstractStringBuilder", "getValue", "()[B"⟩ : MethodName) jdk_68_method_64_code 1 (some (.array .byte)) :: ws) ({ frames := 0, cells := 0, slots := 0, locals := 0 } : Room)) (fun a U => a = #[(.ref b1)] ∧ Z.Warmed39 U.vm ∧ U.heap = h0) (fun _ _ _ _ _ => True) (fun _ U o U' => ∃ v L, o = .returned v ∧ Q_sbVal Z b1 v1 h0 n0 v U'.heap L ∧ FrameEnd U o U' L ({ frames := 0, cells := 0, slots := 0, locals := 0 } : Room).cells ({ frames := 0, cells := 0, slots := 0, locals := 0 } : Room).slots) := by
  refine MetFree.of_bodySF (plainFor_of_name pn_java_lang_AbstractStringBuilder) hisR ?_
  intro p e s m args below meth c s₁ Bd hml0 hP hK
  obtain ⟨rfl, hZ, hh⟩ := hP
  have hx := Bd.exec
  have hby := Bd.bytes
  have hml : c.maxLocals = 1 := hml0
  have hown : s.vm.findClass "java/lang/AbstractStringBuilder" = some m.cls := findClass_of_methodNamed Bd.named
  have hnm := (name_of_methodNamed Bd.named Bd.method).1
  have X0 : Stand p l e ({ frames := 0, cells := 0, slots := 0, locals := 0 } : Room) s m #[(.ref b1)] below meth c s₁ [] 0 0 := Stand.of_body Bd
  have e0 : s₁.heap = h0 := by rw [← hh, Bd.state]; rfl
  have N0 := Fr.nil n0
  have pre0 : ∀ t, Steps p.tables e below (s₁.setTop (mkF m 0 #[.val (.ref b1)] [])) t → Steps p.tables e below (s₁.setTop (entryFrame m #[(.ref b1)] 1)) t := fun t k => castTop (ef_sbVal m b1) k
  obtain ⟨T1_, X1_, e1_, st1_⟩ := getF X0 hx hZ hown (host := "") (Or.inl (own_w hw 136 rfl)) Via.refl e0 F2 (g := (mkF m 1 #[.val (.ref b1)] [(.ref b1)])) rfl rfl (hb hby d31_1)
  obtain ⟨fs, hr, hrun, hended, hW, hsame⟩ := X1_.leave (v := some (.ref v1)) (fun h => by first | rfl | (rw [Bd.returns] at h; cases h))
  refine ⟨_, _, pre0 _ ?_, hrun, hended, _, _, rfl, ?_, ⟨_, rfl⟩, hW, hsame.mono (by exact own_b rfl) (by exact own_b rfl)⟩
  · show Steps p.tables e below (s₁.setTop (mkF m 0 #[.val (.ref b1)] [])) _
    refine XS.aloadN X0.here hx rfl (hb hby d31_0) rfl rfl ?_
    refine st1_ _ ?_
    show Steps p.tables e below (T1_.setTop (mkF m 4 #[.val (.ref b1)] [(.ref v1)])) _
    exact retR X1_ hx Bd.returns rfl rfl rfl (hb hby d31_4) hr
  · show Q_sbVal Z b1 v1 h0 n0 _ T1_.heap _
    rw [e1_]
    exact ⟨rfl, N0, rfl⟩
theorem d33_0 : decode jdk_68_method_6_code 0 = .ok (.aload_n 0, 1) := by decide +kernel
theorem d33_1 : decode jdk_68_method_6_code 1 = .ok (.getfield 79, 3) := by decide +kernel
theorem d33_4 : decode jdk_68_method_6_code 4 = .ok (.ireturn, 1) := by decide +kernel
theorem ef_sbLen (m : MethodId) (x0 : Addr) : entryFrame m #[(.ref x0)] 1 = mkF m 0 #[.val (.ref x0)] [] := by first | (simp [entryFrame, mkF, argsToLocals, Value.category]; done) | rfl
def Q_sbLen (Z : State) (b1 : Addr) (es : List Int32) (h0 : Heap) (n0 : Nat) (v : Option Value) (h : Heap) (L : List Loc) : Prop := v = some (.int (Int32.ofNat es.length)) ∧ Fr n0 L ∧ h = h0
theorem sbLen (l : Launch) (Z : State) (a0 : Array Value) (hw : ∀ d ∈ tables_1, d.before a0 Z = true) (ws : List Jvm.Cond) (b1 : Addr) (es : List Int32) (h0 : Heap) (n0 : Nat) (Z0 : n0 ≤ h0.size) (F3 : Fld Z h0 b1 "java/lang/AbstractStringBuilder" "count" "I" (.int (Int32.ofNat es.length))) :
    MetFree l (⟨"java/lang/AbstractStringBuilder", "length", "()I"⟩ : MethodName) (head1 (Jvm.Cond.code (⟨"java/lang/AbstractStringBuilder", "length", "()I"⟩ : MethodName) jdk_68_method_6_code 1 (some .int) :: ws) ({ frames := 0, cells := 0, slots := 0, locals := 0 } : Room)) (fun a U => a = #[(.ref b1)] ∧ Z.Warmed39 U.vm ∧ U.heap = h0) (fun _ _ _ _ _ => True) (fun _ U o U' => ∃ v L, o = .returned v ∧ Q_sbLen Z b1 es h0 n0 v U'.heap L ∧ FrameEnd U o U' L ({ frames := 0, cells := 0, slots := 0, locals := 0 } : Room).cells ({ frames := 0, cells := 0, slots := 0, locals := 0 } : Room).slots) := by
  refine MetFree.of_bodySF (plainFor_of_name pn_java_lang_AbstractStringBuilder) hisR ?_
  intro p e s m args below meth c s₁ Bd hml0 hP hK
  obtain ⟨rfl, hZ, hh⟩ := hP
  have hx := Bd.exec
  have hby := Bd.bytes
  have hml : c.maxLocals = 1 := hml0
  have hown : s.vm.findClass "java/lang/AbstractStringBuilder" = some m.cls := findClass_of_methodNamed Bd.named
  have hnm := (name_of_methodNamed Bd.named Bd.method).1
  have X0 : Stand p l e ({ frames := 0, cells := 0, slots := 0, locals := 0 } : Room) s m #[(.ref b1)] below meth c s₁ [] 0 0 := Stand.of_body Bd
  have e0 : s₁.heap = h0 := by rw [← hh, Bd.state]; rfl
  have N0 := Fr.nil n0
  have pre0 : ∀ t, Steps p.tables e below (s₁.setTop (mkF m 0 #[.val (.ref b1)] [])) t → Steps p.tables e below (s₁.setTop (entryFrame m #[(.ref b1)] 1)) t := fun t k => castTop (ef_sbLen m b1) k
  obtain ⟨T1_, X1_, e1_, st1_⟩ := getF X0 hx hZ hown (host := "") (Or.inl (own_w hw 160 rfl)) Via.refl e0 F3 (g := (mkF m 1 #[.val (.ref b1)] [(.ref b1)])) rfl rfl (hb hby d33_1)
  obtain ⟨fs, hr, hrun, hended, hW, hsame⟩ := X1_.leave (v := some (.int (Int32.ofNat es.length))) (fun h => by first | rfl | (rw [Bd.returns] at h; cases h))
  refine ⟨_, _, pre0 _ ?_, hrun, hended, _, _, rfl, ?_, ⟨_, rfl⟩, hW, hsame.mono (by exact own_b rfl) (by exact own_b rfl)⟩
  · show Steps p.tables e below (s₁.setTop (mkF m 0 #[.val (.ref b1)] [])) _
    refine XS.aloadN X0.here hx rfl (hb hby d33_0) rfl rfl ?_
    refine st1_ _ ?_
    show Steps p.tables e below (T1_.setTop (mkF m 4 #[.val (.ref b1)] [(.int (Int32.ofNat es.length))])) _
    exact retI X1_ hx Bd.returns (hb hby d33_4) hr
  · show Q_sbLen Z b1 es h0 n0 _ T1_.heap _
    rw [e1_]
    exact ⟨rfl, N0, rfl⟩
theorem d32_0 : decode jdk_67_method_93_code 0 = .ok (.aload_n 0, 1) := by decide +kernel
theorem d32_1 : decode jdk_67_method_93_code 1 = .ok (.invokespecial 343, 3) := by decide +kernel
theorem d32_4 : decode jdk_67_method_93_code 4 = .ok (.ireturn, 1) := by decide +kernel
theorem ef_sbLen2 (m : MethodId) (x0 : Addr) : entryFrame m #[(.ref x0)] 1 = mkF m 0 #[.val (.ref x0)] [] := by first | (simp [entryFrame, mkF, argsToLocals, Value.category]; done) | rfl
def Q_sbLen2 (Z : State) (b1 : Addr) (es : List Int32) (h0 : Heap) (n0 : Nat) (v : Option Value) (h : Heap) (L : List Loc) : Prop := v = some (.int (Int32.ofNat es.length)) ∧ Fr n0 L ∧ h = h0
theorem sbLen2 (l : Launch) (Z : State) (a0 : Array Value) (hw : ∀ d ∈ tables_1, d.before a0 Z = true) (ws : List Jvm.Cond) (b1 : Addr) (es : List Int32) (h0 : Heap) (n0 : Nat) (Z0 : n0 ≤ h0.size) (E1 : Exa Z h0 b1 "java/lang/StringBuilder") (F3 : Fld Z h0 b1 "java/lang/AbstractStringBuilder" "count" "I" (.int (Int32.ofNat es.length))) :
    MetFree l (⟨"java/lang/StringBuilder", "length", "()I"⟩ : MethodName) (head1 (Jvm.Cond.code (⟨"java/lang/StringBuilder", "length", "()I"⟩ : MethodName) jdk_67_method_93_code 1 (some .int) :: ws) ({ frames := 1, cells := 0, slots := 0, locals := 12 } : Room)) (fun a U => a = #[(.ref b1)] ∧ Z.Warmed39 U.vm ∧ U.heap = h0) (fun _ _ _ _ _ => True) (fun _ U o U' => ∃ v L, o = .returned v ∧ Q_sbLen2 Z b1 es h0 n0 v U'.heap L ∧ FrameEnd U o U' L ({ frames := 1, cells := 0, slots := 0, locals := 12 } : Room).cells ({ frames := 1, cells := 0, slots := 0, locals := 12 } : Room).slots) := by
  refine MetFree.of_bodySF (plainFor_of_name pn_java_lang_StringBuilder) hisR ?_
  intro p e s m args below meth c s₁ Bd hml0 hP hK
  obtain ⟨rfl, hZ, hh⟩ := hP
  have hx := Bd.exec
  have hby := Bd.bytes
  have hml : c.maxLocals = 1 := hml0
  have hown : s.vm.findClass "java/lang/StringBuilder" = some m.cls := findClass_of_methodNamed Bd.named
  have hnm := (name_of_methodNamed Bd.named Bd.method).1
  have X0 : Stand p l e ({ frames := 1, cells := 0, slots := 0, locals := 12 } : Room) s m #[(.ref b1)] below meth c s₁ [] 0 0 := Stand.of_body Bd
  have e0 : s₁.heap = h0 := by rw [← hh, Bd.state]; rfl
  have N0 := Fr.nil n0
  have pre0 : ∀ t, Steps p.tables e below (s₁.setTop (mkF m 0 #[.val (.ref b1)] [])) t → Steps p.tables e below (s₁.setTop (entryFrame m #[(.ref b1)] 1)) t := fun t k => castTop (ef_sbLen2 m b1) k
  obtain ⟨_, _, ⟨T1_, L1_, k1_, n1_⟩, -, X1_, ⟨Lc1_, hQ1_, l1_, y1_, z1_⟩, st1_⟩ := superBack X0 hx hZ (y := (⟨"java/lang/AbstractStringBuilder", "length", "()I"⟩ : MethodName)) hown (own_w hw 210 rfl) (own_same (own_w hw 206 rfl) (own_w hw 165 rfl) (by decide)) (own_w hw 206 rfl) (own_w hw 147 rfl) (by decide) (backOf (W := 0) (sbLen l Z a0 hw [] b1 es h0 n0 Z0 F3) hZ (own_w hw 211 rfl) (own_w hw 132 rfl) (by decide) (by decide)) e0 (Ins.self E1) (g := (mkF m 1 #[.val (.ref b1)] [(.ref b1)])) rfl (by rw [hml]; rfl) (own_w hw 211 rfl) (argsL := []) (rest := []) (lenOf pd_qzI rfl) rfl (by show 2 * 0 + _ ≤ _; exact Nat.le_of_eq rfl) (hb hby d32_1) (fun _ _ => ⟨rfl, e0, (by exact own_b rfl), (by exact own_b rfl)⟩)
  dsimp only [Pt.U, Pt.locs, Pt.cells, Pt.slots] at X1_ l1_ y1_ z1_ st1_ hQ1_
  subst L1_ k1_ n1_
  obtain ⟨rfl, Nq1_, ek1_⟩ := hQ1_
  have N1_ := Fr.app N0 Nq1_
  obtain ⟨fs, hr, hrun, hended, hW, hsame⟩ := X1_.leave (v := some (.int (Int32.ofNat es.length))) (fun h => by first | rfl | (rw [Bd.returns] at h; cases h))
  refine ⟨_, _, pre0 _ ?_, hrun, hended, _, _, rfl, ?_, ⟨_, rfl⟩, hW, hsame.mono (by exact own_b rfl) (by exact own_b rfl)⟩
  · show Steps p.tables e below (s₁.setTop (mkF m 0 #[.val (.ref b1)] [])) _
    refine XS.aloadN X0.here hx rfl (hb hby d32_0) rfl rfl ?_
    refine st1_.trans ?_
    show Steps p.tables e below (T1_.setTop (mkF m 4 #[.val (.ref b1)] [(.int (Int32.ofNat es.length))])) _
    exact retI X1_ hx Bd.returns (hb hby d32_4) hr
  · show Q_sbLen2 Z b1 es h0 n0 _ T1_.heap _
    rw [ek1_]
    exact ⟨rfl, N1_, rfl⟩
theorem d34_0 : decode jdk_68_method_68_code 0 = .ok (.getstatic 18, 3) := by decide +kernel
theorem d34_3 : decode jdk_68_method_68_code 3 = .ok (.ifCond .eq 14, 3) := by decide +kernel
theorem d34_6 : decode jdk_68_method_68_code 6 = .ok (.aload_n 0, 1) := by decide +kernel
theorem d34_7 : decode jdk_68_method_68_code 7 = .ok (.getfield 22, 3) := by decide +kernel
theorem d34_10 : decode jdk_68_method_68_code 10 = .ok (.ifCond .ne 7, 3) := by decide +kernel
theorem d34_13 : decode jdk_68_method_68_code 13 = .ok (.iconst 1, 1) := by decide +kernel
theorem d34_14 : decode jdk_68_method_68_code 14 = .ok (.goto 4, 3) := by decide +kernel
theorem d34_18 : decode jdk_68_method_68_code 18 = .ok (.ireturn, 1) := by decide +kernel
theorem ef_sbLat (m : MethodId) (x0 : Addr) : entryFrame m #[(.ref x0)] 1 = mkF m 0 #[.val (.ref x0)] [] := by first | (simp [entryFrame, mkF, argsToLocals, Value.category]; done) | rfl
def Q_sbLat (Z : State) (b1 : Addr) (G1 : Int32) (h0 : Heap) (n0 : Nat) (v : Option Value) (h : Heap) (L : List Loc) : Prop := v = some (.int (1 : Int32)) ∧ Fr n0 L ∧ h = h0
theorem sbLat (l : Launch) (Z : State) (a0 : Array Value) (hw : ∀ d ∈ tables_1, d.before a0 Z = true) (ws : List Jvm.Cond) (b1 : Addr) (G1 : Int32) (h0 : Heap) (n0 : Nat) (Z0 : n0 ≤ h0.size) (F1 : Fld Z h0 b1 "java/lang/AbstractStringBuilder" "coder" "B" (.int (0 : Int32))) (T1 : Sta Z Z.heap "java/lang/String" "COMPACT_STRINGS" "Z" (.int G1)) (P5 : ¬ (G1 = (0 : Int32))) (O1 : Old Z n0 h0) :
    MetFree l (⟨"java/lang/AbstractStringBuilder", "isLatin1", "()Z"⟩ : MethodName) (head1 (Jvm.Cond.code (⟨"java/lang/AbstractStringBuilder", "isLatin1", "()Z"⟩ : MethodName) jdk_68_method_68_code 1 (some .boolean) :: ws) ({ frames := 0, cells := 0, slots := 0, locals := 0 } : Room)) (fun a U => a = #[(.ref b1)] ∧ Z.Warmed39 U.vm ∧ U.heap = h0) (fun _ _ _ _ _ => True) (fun _ U o U' => ∃ v L, o = .returned v ∧ Q_sbLat Z b1 G1 h0 n0 v U'.heap L ∧ FrameEnd U o U' L ({ frames := 0, cells := 0, slots := 0, locals := 0 } : Room).cells ({ frames := 0, cells := 0, slots := 0, locals := 0 } : Room).slots) := by
  refine MetFree.of_bodySF (plainFor_of_name pn_java_lang_AbstractStringBuilder) hisR ?_
  intro p e s m args below meth c s₁ Bd hml0 hP hK
  obtain ⟨rfl, hZ, hh⟩ := hP
  have hx := Bd.exec
  have hby := Bd.bytes
  have hml : c.maxLocals = 1 := hml0
  have hown : s.vm.findClass "java/lang/AbstractStringBuilder" = some m.cls := findClass_of_methodNamed Bd.named
  have hnm := (name_of_methodNamed Bd.named Bd.method).1
  have X0 : Stand p l e ({ frames := 0, cells := 0, slots := 0, locals := 0 } : Room) s m #[(.ref b1)] below meth c s₁ [] 0 0 := Stand.of_body Bd
  have e0 : s₁.heap = h0 := by rw [← hh, Bd.state]; rfl
  have N0 := Fr.nil n0
  have pre0 : ∀ t, Steps p.tables e below (s₁.setTop (mkF m 0 #[.val (.ref b1)] [])) t → Steps p.tables e below (s₁.setTop (entryFrame m #[(.ref b1)] 1)) t := fun t k => castTop (ef_sbLat m b1) k
  obtain ⟨T1_, X1_, e1_, st1_⟩ := getS2 X0 hx hZ hown (host := "") (Or.inl (own_w hw 135 rfl)) Via.refl e0 (T1.ext O1.2) (g := (mkF m 0 #[.val (.ref b1)] [])) rfl (hb hby d34_0)
  obtain ⟨T2_, X2_, e2_, st2_⟩ := getF X1_ hx hZ hown (host := "") (Or.inl (own_w hw 138 rfl)) Via.refl e1_ F1 (g := (mkF m 7 #[.val (.ref b1)] [(.ref b1)])) rfl rfl (hb hby d34_7)
  obtain ⟨fs, hr, hrun, hended, hW, hsame⟩ := X2_.leave (v := some (.int (1 : Int32))) (fun h => by first | rfl | (rw [Bd.returns] at h; cases h))
  refine ⟨_, _, pre0 _ ?_, hrun, hended, _, _, rfl, ?_, ⟨_, rfl⟩, hW, hsame.mono (by exact own_b rfl) (by exact own_b rfl)⟩
  · show Steps p.tables e below (s₁.setTop (mkF m 0 #[.val (.ref b1)] [])) _
    refine st1_ _ ?_
    show Steps p.tables e below (T1_.setTop (mkF m 3 #[.val (.ref b1)] [(.int G1)])) _
    refine XS.ifNo X1_.here hx rfl (hb hby d34_3) rfl ((if0 _ _).trans (feq (P5 : ¬ (G1 = (0 : Int32)))).1) ?_
    refine XS.aloadN X1_.here hx rfl (hb hby d34_6) rfl rfl ?_
    refine st2_ _ ?_
    show Steps p.tables e below (T2_.setTop (mkF m 10 #[.val (.ref b1)] [(.int (0 : Int32))])) _
    refine XS.ifNo X2_.here hx rfl (hb hby d34_10) rfl ((if0 _ _).trans (teq ((by decide) : (0 : Int32) = (0 : Int32))).2) ?_
    refine XS.iconst X2_.here hx rfl (hb hby d34_13) ?_
    refine XS.goto X2_.here hx rfl (pc0 := 14) (pc' := 18) rfl (hb hby d34_14) (by decide) (by decide) ?_
    exact retN X2_ hx (t := .boolean) Bd.returns (by simp) (hb hby d34_18) hr
  · show Q_sbLat Z b1 G1 h0 n0 _ T2_.heap _
    rw [e2_]
    exact ⟨rfl, N0, rfl⟩
theorem d30_0 : decode jdk_42_method_150_code 0 = .ok (.aload_n 0, 1) := by decide +kernel
theorem d30_1 : decode jdk_42_method_150_code 1 = .ok (.invokespecial 1, 3) := by decide +kernel
theorem d30_4 : decode jdk_42_method_150_code 4 = .ok (.aload_n 1, 1) := by decide +kernel
theorem d30_5 : decode jdk_42_method_150_code 5 = .ok (.invokevirtual 552, 3) := by decide +kernel
theorem pd_qzaB : parseMethodDescriptor "()[B" = some ⟨[], some (.array .byte)⟩ := by decide +kernel
theorem d30_8 : decode jdk_42_method_150_code 8 = .ok (.astore_n 3, 1) := by decide +kernel
theorem d30_9 : decode jdk_42_method_150_code 9 = .ok (.aload_n 1, 1) := by decide +kernel
theorem d30_10 : decode jdk_42_method_150_code 10 = .ok (.invokevirtual 549, 3) := by decide +kernel
theorem d30_13 : decode jdk_42_method_150_code 13 = .ok (.istore 4, 2) := by decide +kernel
theorem d30_15 : decode jdk_42_method_150_code 15 = .ok (.aload_n 1, 1) := by decide +kernel
theorem d30_16 : decode jdk_42_method_150_code 16 = .ok (.invokevirtual 1047, 3) := by decide +kernel
theorem pd_qzZ : parseMethodDescriptor "()Z" = some ⟨[], some .boolean⟩ := by decide +kernel
theorem d30_19 : decode jdk_42_method_150_code 19 = .ok (.ifCond .eq 22, 3) := by decide +kernel
theorem d30_22 : decode jdk_42_method_150_code 22 = .ok (.aload_n 0, 1) := by decide +kernel
theorem d30_23 : decode jdk_42_method_150_code 23 = .ok (.iconst 0, 1) := by decide +kernel
theorem d30_24 : decode jdk_42_method_150_code 24 = .ok (.putfield 15, 3) := by decide +kernel
theorem d30_27 : decode jdk_42_method_150_code 27 = .ok (.aload_n 0, 1) := by decide +kernel
theorem d30_28 : decode jdk_42_method_150_code 28 = .ok (.aload_n 3, 1) := by decide +kernel
theorem d30_29 : decode jdk_42_method_150_code 29 = .ok (.iconst 0, 1) := by decide +kernel
theorem d30_30 : decode jdk_42_method_150_code 30 = .ok (.iload 4, 2) := by decide +kernel
theorem d30_32 : decode jdk_42_method_150_code 32 = .ok (.invokestatic 54, 3) := by decide +kernel
theorem d30_35 : decode jdk_42_method_150_code 35 = .ok (.putfield 9, 3) := by decide +kernel
theorem d30_38 : decode jdk_42_method_150_code 38 = .ok (.goto 59, 3) := by decide +kernel
theorem d30_97 : decode jdk_42_method_150_code 97 = .ok (.return_, 1) := by decide +kernel
theorem ef_sbStr (m : MethodId) (x0 : Addr) (x1 : Addr) : entryFrame m #[(.ref x0), (.ref x1), .null] 5 = mkF m 0 #[.val (.ref x0), .val (.ref x1), .val .null, .unset, .unset] [] := by first | (simp [entryFrame, mkF, argsToLocals, Value.category]; done) | rfl
def Q_sbStr (Z : State) (x1 : Addr) (b1 : Addr) (v1 : Addr) (kv : ClassId) (es : List Int32) (cap : Nat) (G1 : Int32) (h0 : Heap) (n0 : Nat) (v : Option Value) (h : Heap) (L : List Loc) : Prop := ∃ (t1 : Addr), v = none ∧ Fr n0 L ∧ Keep h0 h [x1] ∧ (own_Str Z h x1 t1 es) ∧ (h0.size ≤ t1)
theorem sbStr (l : Launch) (Z : State) (a0 : Array Value) (hw : ∀ d ∈ tables_1, d.before a0 Z = true) (ws : List Jvm.Cond) (x1 : Addr) (b1 : Addr) (v1 : Addr) (kv : ClassId) (es : List Int32) (cap : Nat) (G1 : Int32) (h0 : Heap) (n0 : Nat) (Z0 : n0 ≤ h0.size) (E1 : Exa Z h0 b1 "java/lang/StringBuilder") (F1 : Fld Z h0 b1 "java/lang/AbstractStringBuilder" "coder" "B" (.int (0 : Int32))) (F2 : Fld Z h0 b1 "java/lang/AbstractStringBuilder" "value" "[B" (.ref v1)) (F3 : Fld Z h0 b1 "java/lang/AbstractStringBuilder" "count" "I" (.int (Int32.ofNat es.length))) (V1 : Arv Z h0 v1 kv .byte (Int32.ofNat cap) (own_pad es cap) (.int (0 : Int32))) (T1 : Sta Z Z.heap "java/lang/String" "COMPACT_STRINGS" "Z" (.int G1)) (P5 : ¬ (G1 = (0 : Int32))) (O1 : Old Z n0 h0) (lt1 : es.length < cap) (lc1 : cap ≤ 16) (hlat : ∀ c ∈ es, ¬ c < 0 ∧ ¬ (255 : Int32) < c) (E2 : Exa Z h0 x1 "java/lang/String") (X1 : Fld Z h0 x1 "java/lang/String" "coder" "B" (.int (0 : Int32))) (X2 : Fld Z h0 x1 "java/lang/String" "value" "[B" .null) (g3 : n0 ≤ x1) :
    MetFree l (⟨"java/lang/String", "<init>", "(Ljava/lang/AbstractStringBuilder;Ljava/lang/Void;)V"⟩ : MethodName) (head1 (Jvm.Cond.code (⟨"java/lang/String", "<init>", "(Ljava/lang/AbstractStringBuilder;Ljava/lang/Void;)V"⟩ : MethodName) jdk_42_method_150_code 5 none :: ws) ({ frames := 3, cells := 1, slots := 16, locals := 49 } : Room)) (fun a U => a = #[(.ref x1), (.ref b1), .null] ∧ Z.Warmed39 U.vm ∧ U.heap = h0) (fun _ _ _ _ _ => True) (fun _ U o U' => ∃ v L, o = .returned v ∧ Q_sbStr Z x1 b1 v1 kv es cap G1 h0 n0 v U'.heap L ∧ FrameEnd U o U' L ({ frames := 3, cells := 1, slots := 16, locals := 49 } : Room).cells ({ frames := 3, cells := 1, slots := 16, locals := 49 } : Room).slots) := by
  refine MetFree.of_bodySF (plainFor_of_name pn_java_lang_String) hisR ?_
  intro p e s m args below meth c s₁ Bd hml0 hP hK
  obtain ⟨rfl, hZ, hh⟩ := hP
  have hx := Bd.exec
  have hby := Bd.bytes
  have hml : c.maxLocals = 5 := hml0
  have hown : s.vm.findClass "java/lang/String" = some m.cls := findClass_of_methodNamed Bd.named
  have hnm := (name_of_methodNamed Bd.named Bd.method).1
  have X0 : Stand p l e ({ frames := 3, cells := 1, slots := 16, locals := 49 } : Room) s m #[(.ref x1), (.ref b1), .null] below meth c s₁ [] 0 0 := Stand.of_body Bd
  have e0 : s₁.heap = h0 := by rw [← hh, Bd.state]; rfl
  have N0 := Fr.nil n0
  have pre0 : ∀ t, Steps p.tables e below (s₁.setTop (mkF m 0 #[.val (.ref x1), .val (.ref b1), .val .null, .unset, .unset] [])) t → Steps p.tables e below (s₁.setTop (entryFrame m #[(.ref x1), (.ref b1), .null] 5)) t := fun t k => castTop (ef_sbStr m x1 b1) k
  obtain ⟨T1_, X1_, e1_, st1_⟩ := initO X0 hx hZ hown (own_w hw 23 rfl) (own_w hw 24 rfl) (own_w hw 25 rfl) e0 (g := (mkF m 1 #[.val (.ref x1), .val (.ref b1), .val .null, .unset, .unset] [(.ref x1)])) rfl (by rw [hml]; rfl) rfl (hb hby d30_1) (by decide) (W := 0) (by show 2 * 0 + _ ≤ _; exact Nat.le_of_eq rfl) (by decide)
  obtain ⟨cq3_, kq3_, qa3_, qb3_, qc3_⟩ := isOf hZ e1_ E1
  obtain ⟨_, _, ⟨T2_, L2_, k2_, n2_⟩, -, X2_, ⟨Lc2_, hQ2_, l2_, y2_, z2_⟩, st2_⟩ := X1_.virtualBack hx (y := (⟨"java/lang/AbstractStringBuilder", "getValue", "()[B"⟩ : MethodName)) (z := (⟨"java/lang/AbstractStringBuilder", "getValue", "()[B"⟩ : MethodName)) hown (mvT hZ (own_w hw 199 rfl)) (mvT hZ (own_w hw 200 rfl)) (notFace_of_selects (args := #[]) (mvT hZ (own_w hw 202 rfl))) (mvT hZ (own_w hw 202 rfl)) (mvT hZ (own_w hw 201 rfl)) (by decide) (backOf (W := 0) (sbVal l Z a0 hw [] b1 v1 h0 n0 Z0 F2) hZ (own_w hw 203 rfl) (own_w hw 132 rfl) (by decide) (by decide)) qa3_ qc3_ (g := (mkF m 5 #[.val (.ref x1), .val (.ref b1), .val .null, .unset, .unset] [(.ref b1)])) rfl (by rw [hml]; rfl) (Steps.refl _) (argsL := []) (rest := []) (lenOf pd_qzaB rfl) rfl (by show 2 * 0 + _ ≤ _; exact Nat.le_of_eq rfl) (hb hby d30_5) (fun _ _ => ⟨rfl, e1_, (by exact own_b rfl), (by exact own_b rfl)⟩)
  dsimp only [Pt.U, Pt.locs, Pt.cells, Pt.slots] at X2_ l2_ y2_ z2_ st2_ hQ2_
  subst L2_ k2_ n2_
  obtain ⟨rfl, Nq2_, ek2_⟩ := hQ2_
  have N2_ := Fr.app N0 Nq2_
  obtain ⟨cq5_, kq5_, qa5_, qb5_, qc5_⟩ := isOf hZ ek2_ E1
  obtain ⟨_, _, ⟨T4_, L4_, k4_, n4_⟩, -, X4_, ⟨Lc4_, hQ4_, l4_, y4_, z4_⟩, st4_⟩ := X2_.virtualBack hx (y := (⟨"java/lang/AbstractStringBuilder", "length", "()I"⟩ : MethodName)) (z := (⟨"java/lang/StringBuilder", "length", "()I"⟩ : MethodName)) hown (mvT hZ (own_w hw 204 rfl)) (mvT hZ (own_w hw 205 rfl)) (own_nf (a0 := #[]) (mvT hZ (own_w hw 165 rfl)) (by decide)) (mvT hZ (own_w hw 207 rfl)) (mvT hZ (own_w hw 208 rfl)) (by decide) (backOf (W := 0) (sbLen2 l Z a0 hw [] b1 es h0 n0 Z0 E1 F3) hZ (own_w hw 209 rfl) (own_w hw 124 rfl) (by decide) (by decide)) qa5_ qc5_ (g := (mkF m 10 #[.val (.ref x1), .val (.ref b1), .val .null, .val (.ref v1), .unset] [(.ref b1)])) rfl (by rw [hml]; rfl) (Steps.refl _) (argsL := []) (rest := []) (lenOf pd_qzI rfl) rfl (by show 2 * 0 + _ ≤ _; exact Nat.le_of_eq rfl) (hb hby d30_10) (fun _ _ => ⟨rfl, ek2_, (by exact own_b rfl), (by exact own_b rfl)⟩)
  dsimp only [Pt.U, Pt.locs, Pt.cells, Pt.slots] at X4_ l4_ y4_ z4_ st4_ hQ4_
  subst L4_ k4_ n4_
  obtain ⟨rfl, Nq4_, ek4_⟩ := hQ4_
  have N4_ := Fr.app N2_ Nq4_
  obtain ⟨cq7_, kq7_, qa7_, qb7_, qc7_⟩ := isOf hZ ek4_ E1
  obtain ⟨_, _, ⟨T6_, L6_, k6_, n6_⟩, -, X6_, ⟨Lc6_, hQ6_, l6_, y6_, z6_⟩, st6_⟩ := X4_.virtualBack hx (y := (⟨"java/lang/AbstractStringBuilder", "isLatin1", "()Z"⟩ : MethodName)) (z := (⟨"java/lang/AbstractStringBuilder", "isLatin1", "()Z"⟩ : MethodName)) hown (mvT hZ (own_w hw 212 rfl)) (mvT hZ (own_w hw 213 rfl)) (notFace_of_selects (args := #[]) (mvT hZ (own_w hw 215 rfl))) (mvT hZ (own_w hw 215 rfl)) (mvT hZ (own_w hw 214 rfl)) (by decide) (backOf (W := 0) (sbLat l Z a0 hw [] b1 G1 h0 n0 Z0 F1 T1 P5 O1) hZ (own_w hw 216 rfl) (own_w hw 132 rfl) (by decide) (by decide)) qa7_ qc7_ (g := (mkF m 16 #[.val (.ref x1), .val (.ref b1), .val .null, .val (.ref v1), .val (.int (Int32.ofNat es.length))] [(.ref b1)])) rfl (by rw [hml]; rfl) (Steps.refl _) (argsL := []) (rest := []) (lenOf pd_qzZ rfl) rfl (by show 2 * 0 + _ ≤ _; exact Nat.le_of_eq rfl) (hb hby d30_16) (fun _ _ => ⟨rfl, ek4_, (by exact own_b rfl), (by exact own_b rfl)⟩)
  dsimp only [Pt.U, Pt.locs, Pt.cells, Pt.slots] at X6_ l6_ y6_ z6_ st6_ hQ6_
  subst L6_ k6_ n6_
  obtain ⟨rfl, Nq6_, ek6_⟩ := hQ6_
  have N6_ := Fr.app N4_ Nq6_
  obtain ⟨T8_, h8_, X8_, e8_, W8_, st8_⟩ := putFN X6_ hx hZ hown (own_w hw 28 rfl) Via.refl ek6_ X1 E2 (Or.inr ⟨(own_w hw 29 rfl), rfl, hnm⟩) (own_w hw 14 rfl) (ty := .byte) (v' := (.int (0 : Int32))) (by decide) rfl rfl (g := (mkF m 24 #[.val (.ref x1), .val (.ref b1), .val .null, .val (.ref v1), .val (.int (Int32.ofNat es.length))] [(.int (0 : Int32)), (.ref x1)])) rfl rfl (hb hby d30_24)
  have w8_ : Fld Z h8_ x1 "java/lang/String" "coder" "B" (.int (0 : Int32)) := X1.same W8_
  have N8_ := Fr.snoc X8_ N6_ g3
  have f10_ : Arv Z h8_ v1 kv .byte (Int32.ofNat cap) (own_pad es cap) (.int (0 : Int32)) := (V1.other W8_ (Ne.symm (Exa.neArv E2 V1 (own_w hw 14 rfl))))
  have z11_ : n0 ≤ h8_.size := Nat.le_trans Z0 (Keep.of_wr W8_).1
  obtain ⟨_, _, ⟨T9_, L9_, k9_, n9_⟩, -, X9_, ⟨Lc9_, hQ9_, l9_, y9_, z9_⟩, st9_⟩ := Jvm.LawKit.callS X8_ hx (y := (⟨"java/util/Arrays", "copyOfRange", "([BII)[B"⟩ : MethodName)) hown (mvT hZ (own_w hw 217 rfl)) (mvT hZ (own_w hw 218 rfl)) (mvT hZ (own_w hw 219 rfl)) (mvT hZ (own_w hw 220 rfl)) (by decide) (backOf (W := 1) (sbRange l Z a0 hw [] v1 kv es cap h8_ n0 z11_ f10_ lt1 lc1) hZ (own_w hw 220 rfl) (own_w hw 219 rfl) (by decide) (by decide)) (g := (mkF m 32 #[.val (.ref x1), .val (.ref b1), .val .null, .val (.ref v1), .val (.int (Int32.ofNat es.length))] [(.int (Int32.ofNat es.length)), (.int (0 : Int32)), (.ref v1), (.ref x1)])) rfl (by rw [hml]; rfl) (argsL := [(.ref v1), (.int (0 : Int32)), (.int (Int32.ofNat es.length))]) (rest := [(.ref x1)]) (lenOf pd_qaBIIzaB rfl) rfl (by show 2 * 0 + _ ≤ _; exact Nat.le_of_eq rfl) (hb hby d30_32) (fun _ _ => ⟨rfl, e8_, (by exact own_b rfl), (by exact own_b rfl)⟩)
  dsimp only [Pt.U, Pt.locs, Pt.cells, Pt.slots] at X9_ l9_ y9_ z9_ st9_ hQ9_
  subst L9_ k9_ n9_
  obtain ⟨t1_9_, k1_9_, rfl, Nq9_, ek9_, p9__0, p9__1⟩ := hQ9_
  have N9_ := Fr.app N8_ Nq9_
  have f12_ : Exa Z T9_.heap x1 "java/lang/String" := ((E2.wr W8_).keep ek9_)
  have f13_ : Fld Z T9_.heap x1 "java/lang/String" "value" "[B" .null := ((X2.other W8_ (Or.inr (slot_ne (Or.inr (own_w hw 27 rfl)) (Or.inr (own_w hw 29 rfl)) (by decide) (t := (.array .byte)) (t' := .byte) (by decide) (by decide)))).keep ek9_ nin0)
  obtain ⟨T14_, h14_, X14_, e14_, W14_, st14_⟩ := putF X9_ hx hZ hown (host := "") (Or.inl (own_w hw 26 rfl)) Via.refl rfl f13_ f12_ (Or.inr ⟨(own_w hw 27 rfl), rfl, hnm⟩) (own_w hw 14 rfl) (ty := (.array .byte)) (by decide) rfl rfl (g := (mkF m 35 #[.val (.ref x1), .val (.ref b1), .val .null, .val (.ref v1), .val (.int (Int32.ofNat es.length))] [(.ref t1_9_), (.ref x1)])) rfl rfl (hb hby d30_35)
  have w14_ : Fld Z h14_ x1 "java/lang/String" "value" "[B" (.ref t1_9_) := f13_.same W14_
  have N14_ := Fr.snoc X14_ N9_ g3
  have f15_ : Exa Z h14_ x1 "java/lang/String" := (f12_.wr W14_)
  have f16_ : Fld Z h14_ x1 "java/lang/String" "coder" "B" (.int (0 : Int32)) := ((w8_.keep ek9_ nin0).other W14_ (Or.inr (slot_ne (Or.inr (own_w hw 29 rfl)) (Or.inr (own_w hw 27 rfl)) (by decide) (t := .byte) (t' := (.array .byte)) (by decide) (by decide))))
  have f17_ : Arv Z h14_ t1_9_ k1_9_ .byte (Int32.ofNat es.length) (own_by es) (.int (0 : Int32)) := (p9__0.other W14_ (Ne.symm (Nat.ne_of_lt (Nat.lt_of_lt_of_le (E2.wr W8_).lt p9__1))))
  have str_ : own_Str Z h14_ x1 t1_9_ es := ⟨f15_, f16_, w14_, ⟨_, f17_⟩, hlat, by omega⟩
  have k18_ : Keep h0 h8_ [x1] := (Keep.refl h0 [x1]).wr W8_ (Or.inl (List.mem_of_getElem? (i := 0) rfl))
  have k19_ : Keep h0 T9_.heap [x1] := k18_.trans ek9_ all0
  have k20_ : Keep h0 h14_ [x1] := k19_.wr W14_ (Or.inl (List.mem_of_getElem? (i := 0) rfl))
  obtain ⟨fs, hr, hrun, hended, hW, hsame⟩ := X14_.leave (v := none) (fun h => by first | rfl | (rw [Bd.returns] at h; cases h))
  refine ⟨_, _, pre0 _ ?_, hrun, hended, _, _, rfl, ?_, ⟨_, rfl⟩, hW, hsame.mono (by exact own_b rfl) (by exact own_b rfl)⟩
  · show Steps p.tables e below (s₁.setTop (mkF m 0 #[.val (.ref x1), .val (.ref b1), .val .null, .unset, .unset] [])) _
    refine XS.aloadN X0.here hx rfl (hb hby d30_0) rfl rfl ?_
    refine st1_ _ ?_
    show Steps p.tables e below (T1_.setTop (mkF m 4 #[.val (.ref x1), .val (.ref b1), .val .null, .unset, .unset] [])) _
    refine XS.aloadN X1_.here hx rfl (hb hby d30_4) rfl rfl ?_
    refine st2_.trans ?_
    show Steps p.tables e below (T2_.setTop (mkF m 8 #[.val (.ref x1), .val (.ref b1), .val .null, .unset, .unset] [(.ref v1)])) _
    refine XS.astoreN X2_.here hx rfl (hb hby d30_8) rfl rfl (l' := #[.val (.ref x1), .val (.ref b1), .val .null, .val (.ref v1), .unset]) rfl ?_
    show Steps p.tables e below (T2_.setTop (mkF m 9 #[.val (.ref x1), .val (.ref b1), .val .null, .val (.ref v1), .unset] [])) _
    refine XS.aloadN X2_.here hx rfl (hb hby d30_9) rfl rfl ?_
    refine st4_.trans ?_
    show Steps p.tables e below (T4_.setTop (mkF m 13 #[.val (.ref x1), .val (.ref b1), .val .null, .val (.ref v1), .unset] [(.int (Int32.ofNat es.length))])) _
    refine XS.istore X4_.here hx rfl (hb hby d30_13) rfl (l' := #[.val (.ref x1), .val (.ref b1), .val .null, .val (.ref v1), .val (.int (Int32.ofNat es.length))]) rfl ?_
    show Steps p.tables e below (T4_.setTop (mkF m 15 #[.val (.ref x1), .val (.ref b1), .val .null, .val (.ref v1), .val (.int (Int32.ofNat es.length))] [])) _
    refine XS.aloadN X4_.here hx rfl (hb hby d30_15) rfl rfl ?_
    refine st6_.trans ?_
    show Steps p.tables e below (T6_.setTop (mkF m 19 #[.val (.ref x1), .val (.ref b1), .val .null, .val (.ref v1), .val (.int (Int32.ofNat es.length))] [(.int (1 : Int32))])) _
    refine XS.ifNo X6_.here hx rfl (hb hby d30_19) rfl ((if0 _ _).trans (feq ((by decide) : ¬ ((1 : Int32) = (0 : Int32)))).1) ?_
    refine XS.aloadN X6_.here hx rfl (hb hby d30_22) rfl rfl ?_
    refine XS.iconst X6_.here hx rfl (hb hby d30_23) ?_
    refine st8_ _ ?_
    show Steps p.tables e below (T8_.setTop (mkF m 27 #[.val (.ref x1), .val (.ref b1), .val .null, .val (.ref v1), .val (.int (Int32.ofNat es.length))] [])) _
    refine XS.aloadN X8_.here hx rfl (hb hby d30_27) rfl rfl ?_
    refine XS.aloadN X8_.here hx rfl (hb hby d30_28) rfl rfl ?_
    refine XS.iconst X8_.here hx rfl (hb hby d30_29) ?_
    refine XS.iload X8_.here hx rfl (hb hby d30_30) rfl ?_
    refine st9_ _ ?_
    show Steps p.tables e below (T9_.setTop (mkF m 35 #[.val (.ref x1), .val (.ref b1), .val .null, .val (.ref v1), .val (.int (Int32.ofNat es.length))] [(.ref t1_9_), (.ref x1)])) _
    refine st14_ _ ?_
    show Steps p.tables e below (T14_.setTop (mkF m 38 #[.val (.ref x1), .val (.ref b1), .val .null, .val (.ref v1), .val (.int (Int32.ofNat es.length))] [])) _
    refine XS.goto X14_.here hx rfl (pc0 := 38) (pc' := 97) rfl (hb hby d30_38) (by decide) (by decide) ?_
    exact X14_.returnOut hx Bd.returns (hb hby d30_97) hr
  · show Q_sbStr Z x1 b1 v1 kv es cap G1 h0 n0 _ T14_.heap _
    rw [e14_]
    exact ⟨t1_9_, rfl, N14_, k20_, str_, (Nat.le_trans k18_.1 p9__1)⟩
theorem d29_0 : decode jdk_42_method_53_code 0 = .ok (.aload_n 0, 1) := by decide +kernel
theorem d29_1 : decode jdk_42_method_53_code 1 = .ok (.aload_n 1, 1) := by decide +kernel
theorem d29_2 : decode jdk_42_method_53_code 2 = .ok (.aconst_null, 1) := by decide +kernel
theorem d29_3 : decode jdk_42_method_53_code 3 = .ok (.invokespecial 489, 3) := by decide +kernel
theorem pd_qLjava_lang_AbstractStringBuilderLjava_lang_VoidzV : parseMethodDescriptor "(Ljava/lang/AbstractStringBuilder;Ljava/lang/Void;)V" = some ⟨[(.object "java/lang/AbstractStringBuilder"), (.object "java/lang/Void")], none⟩ := by decide +kernel
theorem d29_6 : decode jdk_42_method_53_code 6 = .ok (.return_, 1) := by decide +kernel
theorem ef_sbStr2 (m : MethodId) (x0 : Addr) (x1 : Addr) : entryFrame m #[(.ref x0), (.ref x1)] 2 = mkF m 0 #[.val (.ref x0), .val (.ref x1)] [] := by first | (simp [entryFrame, mkF, argsToLocals, Value.category]; done) | rfl
def Q_sbStr2 (Z : State) (x1 : Addr) (b1 : Addr) (v1 : Addr) (kv : ClassId) (es : List Int32) (cap : Nat) (G1 : Int32) (h0 : Heap) (n0 : Nat) (v : Option Value) (h : Heap) (L : List Loc) : Prop := ∃ (t1 : Addr), v = none ∧ Fr n0 L ∧ Keep h0 h [x1] ∧ (own_Str Z h x1 t1 es) ∧ (h0.size ≤ t1)
theorem sbStr2 (l : Launch) (Z : State) (a0 : Array Value) (hw : ∀ d ∈ tables_1, d.before a0 Z = true) (ws : List Jvm.Cond) (x1 : Addr) (b1 : Addr) (v1 : Addr) (kv : ClassId) (es : List Int32) (cap : Nat) (G1 : Int32) (h0 : Heap) (n0 : Nat) (Z0 : n0 ≤ h0.size) (E1 : Exa Z h0 b1 "java/lang/StringBuilder") (F1 : Fld Z h0 b1 "java/lang/AbstractStringBuilder" "coder" "B" (.int (0 : Int32))) (F2 : Fld Z h0 b1 "java/lang/AbstractStringBuilder" "value" "[B" (.ref v1)) (F3 : Fld Z h0 b1 "java/lang/AbstractStringBuilder" "count" "I" (.int (Int32.ofNat es.length))) (V1 : Arv Z h0 v1 kv .byte (Int32.ofNat cap) (own_pad es cap) (.int (0 : Int32))) (T1 : Sta Z Z.heap "java/lang/String" "COMPACT_STRINGS" "Z" (.int G1)) (P5 : ¬ (G1 = (0 : Int32))) (O1 : Old Z n0 h0) (lt1 : es.length < cap) (lc1 : cap ≤ 16) (hlat : ∀ c ∈ es, ¬ c < 0 ∧ ¬ (255 : Int32) < c) (E2 : Exa Z h0 x1 "java/lang/String") (X1 : Fld Z h0 x1 "java/lang/String" "coder" "B" (.int (0 : Int32))) (X2 : Fld Z h0 x1 "java/lang/String" "value" "[B" .null) (g3 : n0 ≤ x1) :
    MetFree l (⟨"java/lang/String", "<init>", "(Ljava/lang/StringBuilder;)V"⟩ : MethodName) (head1 (Jvm.Cond.code (⟨"java/lang/String", "<init>", "(Ljava/lang/StringBuilder;)V"⟩ : MethodName) jdk_42_method_53_code 2 none :: ws) ({ frames := 4, cells := 1, slots := 16, locals := 65 } : Room)) (fun a U => a = #[(.ref x1), (.ref b1)] ∧ Z.Warmed39 U.vm ∧ U.heap = h0) (fun _ _ _ _ _ => True) (fun _ U o U' => ∃ v L, o = .returned v ∧ Q_sbStr2 Z x1 b1 v1 kv es cap G1 h0 n0 v U'.heap L ∧ FrameEnd U o U' L ({ frames := 4, cells := 1, slots := 16, locals := 65 } : Room).cells ({ frames := 4, cells := 1, slots := 16, locals := 65 } : Room).slots) := by
  refine MetFree.of_bodySF (plainFor_of_name pn_java_lang_String) hisR ?_
  intro p e s m args below meth c s₁ Bd hml0 hP hK
  obtain ⟨rfl, hZ, hh⟩ := hP
  have hx := Bd.exec
  have hby := Bd.bytes
  have hml : c.maxLocals = 2 := hml0
  have hown : s.vm.findClass "java/lang/String" = some m.cls := findClass_of_methodNamed Bd.named
  have hnm := (name_of_methodNamed Bd.named Bd.method).1
  have X0 : Stand p l e ({ frames := 4, cells := 1, slots := 16, locals := 65 } : Room) s m #[(.ref x1), (.ref b1)] below meth c s₁ [] 0 0 := Stand.of_body Bd
  have e0 : s₁.heap = h0 := by rw [← hh, Bd.state]; rfl
  have N0 := Fr.nil n0
  have pre0 : ∀ t, Steps p.tables e below (s₁.setTop (mkF m 0 #[.val (.ref x1), .val (.ref b1)] [])) t → Steps p.tables e below (s₁.setTop (entryFrame m #[(.ref x1), (.ref b1)] 2)) t := fun t k => castTop (ef_sbStr2 m x1 b1) k
  obtain ⟨_, _, ⟨T1_, L1_, k1_, n1_⟩, -, X1_, ⟨Lc1_, hQ1_, l1_, y1_, z1_⟩, st1_⟩ := X0.specialBack hx (y := (⟨"java/lang/String", "<init>", "(Ljava/lang/AbstractStringBuilder;Ljava/lang/Void;)V"⟩ : MethodName)) rfl hown (mvT hZ (own_w hw 196 rfl)) (mvT hZ (own_w hw 197 rfl)) (mvT hZ (own_w hw 198 rfl)) (by decide) (backOf (W := 0) (sbStr l Z a0 hw [] x1 b1 v1 kv es cap G1 h0 n0 Z0 E1 F1 F2 F3 V1 T1 P5 O1 lt1 lc1 hlat E2 X1 X2 g3) hZ (own_w hw 198 rfl) (own_w hw 6 rfl) (by decide) (by decide)) (g := (mkF m 3 #[.val (.ref x1), .val (.ref b1)] [.null, (.ref b1), (.ref x1)])) rfl (by rw [hml]; rfl) (Steps.refl _) (a := x1) (argsL := [(.ref b1), .null]) (rest := []) (lenOf pd_qLjava_lang_AbstractStringBuilderLjava_lang_VoidzV rfl) rfl (by show 2 * 0 + _ ≤ _; exact Nat.le_of_eq rfl) (hb hby d29_3) (fun _ _ => ⟨rfl, e0, (by exact own_b rfl), (by exact own_b rfl)⟩)
  dsimp only [Pt.U, Pt.locs, Pt.cells, Pt.slots] at X1_ l1_ y1_ z1_ st1_ hQ1_
  subst L1_ k1_ n1_
  obtain ⟨t1_1_, rfl, Nq1_, ek1_, p1__0, p1__1⟩ := hQ1_
  have N1_ := Fr.app N0 Nq1_
  have k2_ : Keep h0 T1_.heap [x1] := (Keep.refl h0 [x1]).trans ek1_ (allS (Or.inl (List.mem_of_getElem? (i := 0) rfl)) all0)
  obtain ⟨fs, hr, hrun, hended, hW, hsame⟩ := X1_.leave (v := none) (fun h => by first | rfl | (rw [Bd.returns] at h; cases h))
  refine ⟨_, _, pre0 _ ?_, hrun, hended, _, _, rfl, ?_, ⟨_, rfl⟩, hW, hsame.mono (by exact own_b rfl) (by exact own_b rfl)⟩
  · show Steps p.tables e below (s₁.setTop (mkF m 0 #[.val (.ref x1), .val (.ref b1)] [])) _
    refine XS.aloadN X0.here hx rfl (hb hby d29_0) rfl rfl ?_
    refine XS.aloadN X0.here hx rfl (hb hby d29_1) rfl rfl ?_
    refine XS.aconstNull X0.here hx rfl (hb hby d29_2) ?_
    refine st1_.trans ?_
    show Steps p.tables e below (T1_.setTop (mkF m 6 #[.val (.ref x1), .val (.ref b1)] [])) _
    exact X1_.returnOut hx Bd.returns (hb hby d29_6) hr
  · show Q_sbStr2 Z x1 b1 v1 kv es cap G1 h0 n0 _ T1_.heap _
    skip
    exact ⟨t1_1_, rfl, N1_, k2_, p1__0, (Nat.le_trans (Keep.refl h0 [x1]).1 p1__1)⟩
theorem d28_0 : decode jdk_67_method_42_code 0 = .ok (.new 18, 3) := by decide +kernel
theorem d28_3 : decode jdk_67_method_42_code 3 = .ok (.dup, 1) := by decide +kernel
theorem d28_4 : decode jdk_67_method_42_code 4 = .ok (.aload_n 0, 1) := by decide +kernel
theorem d28_5 : decode jdk_67_method_42_code 5 = .ok (.invokespecial 137, 3) := by decide +kernel
theorem pd_qLjava_lang_StringBuilderzV : parseMethodDescriptor "(Ljava/lang/StringBuilder;)V" = some ⟨[(.object "java/lang/StringBuilder")], none⟩ := by decide +kernel
theorem d28_8 : decode jdk_67_method_42_code 8 = .ok (.areturn, 1) := by decide +kernel
theorem ef_sbToS (m : MethodId) (x0 : Addr) : entryFrame m #[(.ref x0)] 1 = mkF m 0 #[.val (.ref x0)] [] := by first | (simp [entryFrame, mkF, argsToLocals, Value.category]; done) | rfl
def Q_sbToS (Z : State) (b1 : Addr) (v1 : Addr) (kv : ClassId) (es : List Int32) (cap : Nat) (G1 : Int32) (h0 : Heap) (n0 : Nat) (v : Option Value) (h : Heap) (L : List Loc) : Prop := ∃ (x1 : Addr) (t1 : Addr), v = some (.ref x1) ∧ Fr n0 L ∧ Keep h0 h [] ∧ (own_Str Z h x1 t1 es) ∧ (h0.size ≤ t1) ∧ (h0.size ≤ x1)
theorem sbToS (l : Launch) (Z : State) (a0 : Array Value) (hw : ∀ d ∈ tables_1, d.before a0 Z = true) (ws : List Jvm.Cond) (b1 : Addr) (v1 : Addr) (kv : ClassId) (es : List Int32) (cap : Nat) (G1 : Int32) (h0 : Heap) (n0 : Nat) (Z0 : n0 ≤ h0.size) (E1 : Exa Z h0 b1 "java/lang/StringBuilder") (F1 : Fld Z h0 b1 "java/lang/AbstractStringBuilder" "coder" "B" (.int (0 : Int32))) (F2 : Fld Z h0 b1 "java/lang/AbstractStringBuilder" "value" "[B" (.ref v1)) (F3 : Fld Z h0 b1 "java/lang/AbstractStringBuilder" "count" "I" (.int (Int32.ofNat es.length))) (V1 : Arv Z h0 v1 kv .byte (Int32.ofNat cap) (own_pad es cap) (.int (0 : Int32))) (T1 : Sta Z Z.heap "java/lang/String" "COMPACT_STRINGS" "Z" (.int G1)) (P5 : ¬ (G1 = (0 : Int32))) (O1 : Old Z n0 h0) (lt1 : es.length < cap) (lc1 : cap ≤ 16) (hlat : ∀ c ∈ es, ¬ c < 0 ∧ ¬ (255 : Int32) < c) :
    MetFree l (⟨"java/lang/StringBuilder", "toString", "()Ljava/lang/String;"⟩ : MethodName) (head1 (Jvm.Cond.code (⟨"java/lang/StringBuilder", "toString", "()Ljava/lang/String;"⟩ : MethodName) jdk_67_method_42_code 1 (some (.object "java/lang/String")) :: ws) ({ frames := 5, cells := 2, slots := 20, locals := 79 } : Room)) (fun a U => a = #[(.ref b1)] ∧ Z.Warmed39 U.vm ∧ U.heap = h0) (fun _ _ _ _ _ => True) (fun _ U o U' => ∃ v L, o = .returned v ∧ Q_sbToS Z b1 v1 kv es cap G1 h0 n0 v U'.heap L ∧ FrameEnd U o U' L ({ frames := 5, cells := 2, slots := 20, locals := 79 } : Room).cells ({ frames := 5, cells := 2, slots := 20, locals := 79 } : Room).slots) := by
  refine MetFree.of_bodySF (plainFor_of_name pn_java_lang_StringBuilder) hisR ?_
  intro p e s m args below meth c s₁ Bd hml0 hP hK
  obtain ⟨rfl, hZ, hh⟩ := hP
  have hx := Bd.exec
  have hby := Bd.bytes
  have hml : c.maxLocals = 1 := hml0
  have hown : s.vm.findClass "java/lang/StringBuilder" = some m.cls := findClass_of_methodNamed Bd.named
  have hnm := (name_of_methodNamed Bd.named Bd.method).1
  have X0 : Stand p l e ({ frames := 5, cells := 2, slots := 20, locals := 79 } : Room) s m #[(.ref b1)] below meth c s₁ [] 0 0 := Stand.of_body Bd
  have e0 : s₁.heap = h0 := by rw [← hh, Bd.state]; rfl
  have N0 := Fr.nil n0
  have pre0 : ∀ t, Steps p.tables e below (s₁.setTop (mkF m 0 #[.val (.ref b1)] [])) t → Steps p.tables e below (s₁.setTop (entryFrame m #[(.ref b1)] 1)) t := fun t k => castTop (ef_sbToS m b1) k
  obtain ⟨T1_, h1_, X1_, e1_, E1_, A1_, D1_, U1_, st1_⟩ := newO X0 hx hZ hown (own_w hw 192 rfl) (own_w hw 14 rfl) (own_w hw 6 rfl) e0 (g := (mkF m 0 #[.val (.ref b1)] [])) rfl (hb hby d28_0) (by exact own_b rfl) (by exact own_b rfl)
  obtain ⟨b1_, g1_⟩ : ∃ z, z = h0.size := ⟨_, rfl⟩
  rw [← g1_] at A1_ D1_ U1_ st1_
  have F1__value : Fld Z h1_ b1_ "java/lang/String" "value" "[B" .null := D1_ (Or.inr (own_w hw 27 rfl)) (ty := (.array .byte)) (by decide)
  have F1__coder : Fld Z h1_ b1_ "java/lang/String" "coder" "B" (.int (0 : Int32)) := D1_ (Or.inr (own_w hw 29 rfl)) (ty := .byte) (by decide)
  have f3_ : Exa Z h1_ b1 "java/lang/StringBuilder" := (E1.ext E1_)
  have f4_ : Fld Z h1_ b1 "java/lang/AbstractStringBuilder" "coder" "B" (.int (0 : Int32)) := (F1.ext E1_)
  have f5_ : Fld Z h1_ b1 "java/lang/AbstractStringBuilder" "value" "[B" (.ref v1) := (F2.ext E1_)
  have f6_ : Fld Z h1_ b1 "java/lang/AbstractStringBuilder" "count" "I" (.int (Int32.ofNat es.length)) := (F3.ext E1_)
  have f7_ : Arv Z h1_ v1 kv .byte (Int32.ofNat cap) (own_pad es cap) (.int (0 : Int32)) := (V1.ext E1_)
  have f8_ : Old Z n0 h1_ := (O1.ext E1_)
  have g9_ : n0 ≤ b1_ := Nat.le_trans Z0 (Nat.le_of_eq g1_.symm)
  have z10_ : n0 ≤ h1_.size := Nat.le_trans Z0 E1_.1
  obtain ⟨_, _, ⟨T2_, L2_, k2_, n2_⟩, -, X2_, ⟨Lc2_, hQ2_, l2_, y2_, z2_⟩, st2_⟩ := X1_.specialBack hx (y := (⟨"java/lang/String", "<init>", "(Ljava/lang/StringBuilder;)V"⟩ : MethodName)) rfl hown (mvT hZ (own_w hw 193 rfl)) (mvT hZ (own_w hw 194 rfl)) (mvT hZ (own_w hw 195 rfl)) (by decide) (backOf (W := 1) (sbStr2 l Z a0 hw [] b1_ b1 v1 kv es cap G1 h1_ n0 z10_ f3_ f4_ f5_ f6_ f7_ T1 P5 f8_ lt1 lc1 hlat A1_ F1__coder F1__value g9_) hZ (own_w hw 195 rfl) (own_w hw 6 rfl) (by decide) (by decide)) (g := (mkF m 5 #[.val (.ref b1)] [(.ref b1), (.ref b1_), (.ref b1_)])) rfl (by rw [hml]; rfl) (Steps.refl _) (a := b1_) (argsL := [(.ref b1)]) (rest := [(.ref b1_)]) (lenOf pd_qLjava_lang_StringBuilderzV rfl) rfl (by show 2 * 0 + _ ≤ _; exact Nat.le_of_eq rfl) (hb hby d28_5) (fun _ _ => ⟨rfl, e1_, (by exact own_b rfl), (by exact own_b rfl)⟩)
  dsimp only [Pt.U, Pt.locs, Pt.cells, Pt.slots] at X2_ l2_ y2_ z2_ st2_ hQ2_
  subst L2_ k2_ n2_
  obtain ⟨t1_2_, rfl, Nq2_, ek2_, p2__0, p2__1⟩ := hQ2_
  have N2_ := Fr.app N0 Nq2_
  have k11_ : Keep h0 h1_ [] := (Keep.refl h0 []).ext E1_
  have k12_ : Keep h0 T2_.heap [] := k11_.trans ek2_ (allS (Or.inr (Nat.le_trans (Keep.refl h0 []).1 (Nat.le_of_eq g1_.symm))) all0)
  obtain ⟨fs, hr, hrun, hended, hW, hsame⟩ := X2_.leave (v := some (.ref b1_)) (fun h => by first | rfl | (rw [Bd.returns] at h; cases h))
  refine ⟨_, _, pre0 _ ?_, hrun, hended, _, _, rfl, ?_, ⟨_, rfl⟩, hW, hsame.mono (by exact own_b rfl) (by exact own_b rfl)⟩
  · show Steps p.tables e below (s₁.setTop (mkF m 0 #[.val (.ref b1)] [])) _
    refine st1_ _ ?_
    show Steps p.tables e below (T1_.setTop (mkF m 3 #[.val (.ref b1)] [(.ref b1_)])) _
    refine XS.dup X1_.here hx rfl (hb hby d28_3) rfl rfl ?_
    refine XS.aloadN X1_.here hx rfl (hb hby d28_4) rfl rfl ?_
    refine st2_.trans ?_
    show Steps p.tables e below (T2_.setTop (mkF m 8 #[.val (.ref b1)] [(.ref b1_)])) _
    exact retR X2_ hx Bd.returns rfl rfl rfl (hb hby d28_8) hr
  · show Q_sbToS Z b1 v1 kv es cap G1 h0 n0 _ T2_.heap _
    skip
    exact ⟨b1_, t1_2_, rfl, N2_, k12_, p2__0, (Nat.le_trans k11_.1 p2__1), (Nat.le_trans (Keep.refl h0 []).1 (Nat.le_of_eq g1_.symm))⟩
theorem d8_0 : decode jdk_42_method_149_code 0 = .ok (.aload_n 0, 1) := by decide +kernel
theorem d8_1 : decode jdk_42_method_149_code 1 = .ok (.invokespecial 1, 3) := by decide +kernel
theorem d8_4 : decode jdk_42_method_149_code 4 = .ok (.iload_n 3, 1) := by decide +kernel
theorem d8_5 : decode jdk_42_method_149_code 5 = .ok (.ifCond .ne 22, 3) := by decide +kernel
theorem d8_8 : decode jdk_42_method_149_code 8 = .ok (.aload_n 0, 1) := by decide +kernel
theorem d8_9 : decode jdk_42_method_149_code 9 = .ok (.ldc 7, 2) := by decide +kernel
theorem d8_11 : decode jdk_42_method_149_code 11 = .ok (.getfield 9, 3) := by decide +kernel
theorem d8_14 : decode jdk_42_method_149_code 14 = .ok (.putfield 9, 3) := by decide +kernel
theorem d8_17 : decode jdk_42_method_149_code 17 = .ok (.aload_n 0, 1) := by decide +kernel
theorem d8_18 : decode jdk_42_method_149_code 18 = .ok (.ldc 7, 2) := by decide +kernel
theorem d8_20 : decode jdk_42_method_149_code 20 = .ok (.getfield 15, 3) := by decide +kernel
theorem d8_23 : decode jdk_42_method_149_code 23 = .ok (.putfield 15, 3) := by decide +kernel
theorem d8_26 : decode jdk_42_method_149_code 26 = .ok (.return_, 1) := by decide +kernel
theorem ef_emA (m : MethodId) (x0 : Addr) (x1 : Addr) (x2 : Int32) (x3 : Int32) : entryFrame m #[(.ref x0), (.ref x1), (.int x2), (.int x3), .null] 6 = mkF m 0 #[.val (.ref x0), .val (.ref x1), .val (.int x2), .val (.int x3), .val .null, .unset] [] := by first | (simp [entryFrame, mkF, argsToLocals, Value.category]; done) | rfl
def Q_emA (Z : State) (x1 : Addr) (c1 : Addr) (h0 : Heap) (n0 : Nat) (v : Option Value) (h : Heap) (L : List Loc) : Prop := ∃ (t1 : Addr), v = none ∧ Fr n0 L ∧ Keep h0 h [x1] ∧ (own_Str Z h x1 t1 ([] : List Int32))
theorem emA (l : Launch) (Z : State) (a0 : Array Value) (hw : ∀ d ∈ tables_1, d.before a0 Z = true) (hEL : EW Z a0 consts_1) (ws : List Jvm.Cond) (x1 : Addr) (c1 : Addr) (h0 : Heap) (n0 : Nat) (Z0 : n0 ≤ h0.size) (E1 : Exa Z h0 x1 "java/lang/String") (X1 : Fld Z h0 x1 "java/lang/String" "coder" "B" (.int (0 : Int32))) (X2 : Fld Z h0 x1 "java/lang/String" "value" "[B" .null) (g1 : n0 ≤ x1) :
    MetFree l (⟨"java/lang/String", "<init>", "([CIILjava/lang/Void;)V"⟩ : MethodName) (head1 (Jvm.Cond.code (⟨"java/lang/String", "<init>", "([CIILjava/lang/Void;)V"⟩ : MethodName) jdk_42_method_149_code 6 none :: ws) ({ frames := 1, cells := 4, slots := 8, locals := 12 } : Room)) (fun a U => a = #[(.ref x1), (.ref c1), (.int (0 : Int32)), (.int (0 : Int32)), .null] ∧ Z.Warmed39 U.vm ∧ U.heap = h0 ∧ CHv Z consts_1 U.vm h0) (fun _ _ _ _ _ => True) (fun _ U o U' => ∃ v L, o = .returned v ∧ Q_emA Z x1 c1 h0 n0 v U'.heap L ∧ CHr Z consts_1 U.vm U.heap U'.vm U'.heap ∧ ReturnedEndW U o U' L ({ frames := 1, cells := 4, slots := 8, locals := 12 } : Room).cells ({ frames := 1, cells := 4, slots := 8, locals := 12 } : Room).slots) := by
  refine MetFree.of_bodySF (plainFor_of_name pn_java_lang_String) hisR ?_
  intro p e s m args below meth c s₁ Bd hml0 hP hK
  obtain ⟨rfl, hZ, hh, H0'⟩ := hP
  have hx := Bd.exec
  have hby := Bd.bytes
  have hml : c.maxLocals = 6 := hml0
  have hown : s.vm.findClass "java/lang/String" = some m.cls := findClass_of_methodNamed Bd.named
  have hnm := (name_of_methodNamed Bd.named Bd.method).1
  have X0 : Stand p l e ({ frames := 1, cells := 4, slots := 8, locals := 12 } : Room) (s.setVm s.vm) m #[(.ref x1), (.ref c1), (.int (0 : Int32)), (.int (0 : Int32)), .null] below meth c s₁ [] 0 0 := Stand.of_body Bd
  have e0 : s₁.heap = h0 := by rw [← hh, Bd.state]; rfl
  have N0 := Fr.nil n0
  have hS0 : s.Since s.vm h0.size := own_since0 s _
  have hk0 : h0.size ≤ h0.size := Nat.le_refl _
  have H0 : CHv Z consts_1 s.vm h0 := H0'
  have wS : ∀ a ∈ Bundle.stringAtoms, a.before a0 Z = true := fun a ha => hw a ((by decide +kernel : ∀ a ∈ Bundle.stringAtoms, a ∈ tables_1) a ha)
  have pre0 : ∀ t, Steps p.tables e below (s₁.setTop (mkF m 0 #[.val (.ref x1), .val (.ref c1), .val (.int (0 : Int32)), .val (.int (0 : Int32)), .val .null, .unset] [])) t → Steps p.tables e below (s₁.setTop (entryFrame m #[(.ref x1), (.ref c1), (.int (0 : Int32)), (.int (0 : Int32)), .null] 6)) t := fun t k => castTop (ef_emA m x1 c1 (0 : Int32) (0 : Int32)) k
  have sf_ : Safe Z consts_1 s.vm h0 x1 := own_safe0 (State.Warmed39.alike hZ) E1 X2
  obtain ⟨T1_, X1_, e1_, st1_⟩ := initO X0 hx hZ hown (own_w hw 23 rfl) (own_w hw 24 rfl) (own_w hw 25 rfl) e0 (g := (mkF m 1 #[.val (.ref x1), .val (.ref c1), .val (.int (0 : Int32)), .val (.int (0 : Int32)), .val .null, .unset] [(.ref x1)])) rfl (by rw [hml]; rfl) rfl (hb hby d8_1) (by decide) (W := 0) (by show 2 * 0 + _ ≤ _; exact Nat.le_of_eq rfl) (by decide)
  obtain ⟨c2_, T2_, h2_, kk2_, c2_d, c2_k, X2_, e2_, E2_, hS2_, hk2_, hZ2_, hown2_, le2_, lc2_, lv2_, la2_, lx2_, ly2_, chr2_, lit2_, ls2_, st2_⟩ := ldcCH X1_ hx hZ hown (own_w hw 38 rfl) wS e1_ hS0 hk0 hEL (List.mem_of_getElem? (i := 1) rfl) H0 (vs := []) (z := (0 : Int32)) ⟨by decide, by decide⟩ (by decide) (by decide) (g := (mkF m 9 #[.val (.ref x1), .val (.ref c1), .val (.int (0 : Int32)), .val (.int (0 : Int32)), .val .null, .unset] [(.ref x1)])) rfl (hb hby d8_9) (n := 0) (by decide) (by decide) (by exact own_b rfl) (by exact own_b rfl)
  have K2_ : Keep h0 h2_ [] := (Keep.refl _ _).ext E2_
  have cr3_ := (CHr.refl H0).trans chr2_
  have ch2_ := chr2_.1
  have str2_ : own_Str Z h2_ c2_ c2_d ([] : List Int32) := ⟨le2_, lc2_, lv2_, ⟨_, la2_⟩, by decide, by decide⟩
  obtain ⟨T4_, X4_, e4_, st4_⟩ := getF X2_ hx hZ2_ hown2_ (host := "") (Or.inl (own_w hw 26 rfl)) Via.refl e2_ str2_.2.2.1 (g := (mkF m 11 #[.val (.ref x1), .val (.ref c1), .val (.int (0 : Int32)), .val (.int (0 : Int32)), .val .null, .unset] [(.ref c2_), (.ref x1)])) rfl rfl (hb hby d8_11)
  have f5_ : Exa Z h2_ x1 "java/lang/String" := (E1.keep K2_)
  have f6_ : Fld Z h2_ x1 "java/lang/String" "value" "[B" .null := (X2.keep K2_ nin0)
  have f8_ : Safe Z consts_1 T2_.vm h2_ x1 := (chr2_.safe E1.lt sf_)
  obtain ⟨T7_, h7_, X7_, e7_, W7_, st7_⟩ := putF X4_ hx hZ2_ hown2_ (host := "") (Or.inl (own_w hw 26 rfl)) Via.refl e4_ f6_ f5_ (Or.inr ⟨(own_w hw 27 rfl), rfl, hnm⟩) (own_w hw 14 rfl) (ty := (.array .byte)) (by decide) rfl rfl (g := (mkF m 14 #[.val (.ref x1), .val (.ref c1), .val (.int (0 : Int32)), .val (.int (0 : Int32)), .val .null, .unset] [(.ref c2_d), (.ref x1)])) rfl rfl (hb hby d8_14)
  have ch9_ : CHv Z consts_1 T2_.vm h7_ := CHv.wr W7_ f8_ ch2_
  have cr10_ := cr3_.trans (CHr.wr W7_ f8_ ch2_)
  have w7_ : Fld Z h7_ x1 "java/lang/String" "value" "[B" (.ref c2_d) := f6_.same W7_
  have N7_ := Fr.snoc X7_ N0 g1
  obtain ⟨c11_, T11_, h11_, kk11_, c11_d, c11_k, X11_, e11_, E11_, hS11_, hk11_, hZ11_, hown11_, le11_, lc11_, lv11_, la11_, lx11_, ly11_, chr11_, lit11_, ls11_, st11_⟩ := ldcCH X7_ hx hZ2_ hown2_ (own_w hw 38 rfl) wS e7_ hS2_ (Nat.le_trans hk2_ (Keep.of_wr W7_).1) hEL (List.mem_of_getElem? (i := 1) rfl) ch9_ (vs := []) (z := (0 : Int32)) ⟨by decide, by decide⟩ (by decide) (by decide) (g := (mkF m 18 #[.val (.ref x1), .val (.ref c1), .val (.int (0 : Int32)), .val (.int (0 : Int32)), .val .null, .unset] [(.ref x1)])) rfl (hb hby d8_18) (n := 0) (by decide) (by decide) (by exact own_b rfl) (by exact own_b rfl)
  have K11_ : Keep h7_ h11_ [] := (Keep.refl _ _).ext E11_
  have cr12_ := cr10_.trans chr11_
  have ch11_ := chr11_.1
  have str11_ : own_Str Z h11_ c11_ c11_d ([] : List Int32) := ⟨le11_, lc11_, lv11_, ⟨_, la11_⟩, by decide, by decide⟩
  obtain ⟨T13_, X13_, e13_, st13_⟩ := getF X11_ hx hZ11_ hown11_ (host := "") (Or.inl (own_w hw 28 rfl)) Via.refl e11_ str11_.2.1 (g := (mkF m 20 #[.val (.ref x1), .val (.ref c1), .val (.int (0 : Int32)), .val (.int (0 : Int32)), .val .null, .unset] [(.ref c11_), (.ref x1)])) rfl rfl (hb hby d8_20)
  have f14_ : Exa Z h11_ x1 "java/lang/String" := ((f5_.wr W7_).keep K11_)
  have f15_ : Fld Z h11_ x1 "java/lang/String" "coder" "B" (.int (0 : Int32)) := (((X1.keep K2_ nin0).other W7_ (Or.inr (slot_ne (Or.inr (own_w hw 29 rfl)) (Or.inr (own_w hw 27 rfl)) (by decide) (t := .byte) (t' := (.array .byte)) (by decide) (by decide)))).keep K11_ nin0)
  have f17_ : Safe Z consts_1 T11_.vm h11_ x1 := (chr11_.safe (f5_.wr W7_).lt (Safe.wr W7_ f8_ ch2_ f8_))
  obtain ⟨T16_, h16_, X16_, e16_, W16_, st16_⟩ := putFN X13_ hx hZ11_ hown11_ (own_w hw 28 rfl) Via.refl e13_ f15_ f14_ (Or.inr ⟨(own_w hw 29 rfl), rfl, hnm⟩) (own_w hw 14 rfl) (ty := .byte) (v' := (.int (0 : Int32))) (by decide) rfl rfl (g := (mkF m 23 #[.val (.ref x1), .val (.ref c1), .val (.int (0 : Int32)), .val (.int (0 : Int32)), .val .null, .unset] [(.int (0 : Int32)), (.ref x1)])) rfl rfl (hb hby d8_23)
  have ch18_ : CHv Z consts_1 T11_.vm h16_ := CHv.wr W16_ f17_ ch11_
  have cr19_ := cr12_.trans (CHr.wr W16_ f17_ ch11_)
  have w16_ : Fld Z h16_ x1 "java/lang/String" "coder" "B" (.int (0 : Int32)) := f15_.same W16_
  have N16_ := Fr.snoc X16_ N7_ g1
  have f20_ : Exa Z h16_ x1 "java/lang/String" := (f14_.wr W16_)
  have f21_ : Fld Z h16_ x1 "java/lang/String" "value" "[B" (.ref c2_d) := ((w7_.keep K11_ nin0).other W16_ (Or.inr (slot_ne (Or.inr (own_w hw 27 rfl)) (Or.inr (own_w hw 29 rfl)) (by decide) (t := (.array .byte)) (t' := .byte) (by decide) (by decide))))
  have f22_ : own_Str Z h16_ c2_ c2_d ([] : List Int32) := (((str2_.other W7_ (Ne.symm (ls2_ _ f8_).1) (Ne.symm (ls2_ _ f8_).2)).keep K11_ nin0 nin0).other W16_ (Ne.symm (ls2_ _ f8_).1) (Ne.symm (ls2_ _ f8_).2))
  have str_ : own_Str Z h16_ x1 c2_d ([] : List Int32) := ⟨f20_, w16_, f21_, f22_.2.2.2⟩
  have k23_ : Keep h0 h2_ [x1] := (Keep.refl h0 [x1]).trans K2_ all0
  have k24_ : Keep h0 h7_ [x1] := k23_.wr W7_ (Or.inl (List.mem_of_getElem? (i := 0) rfl))
  have k25_ : Keep h0 h11_ [x1] := k24_.trans K11_ all0
  have k26_ : Keep h0 h16_ [x1] := k25_.wr W16_ (Or.inl (List.mem_of_getElem? (i := 0) rfl))
  obtain ⟨fs, hr, hrun, hended, hREW⟩ := X16_.leaveW hS11_ (Nat.le_trans (Nat.le_trans hk11_ (Keep.of_wr W16_).1) (Nat.le_of_eq (congrArg Array.size e16_.symm))) (v := none) (fun h => by first | rfl | (rw [Bd.returns] at h; cases h))
  refine ⟨_, _, pre0 _ ?_, hrun, hended, _, _, rfl, ?_, ?_, own_REW hREW (by exact own_b rfl) (by exact own_b rfl)⟩
  · show Steps p.tables e below (s₁.setTop (mkF m 0 #[.val (.ref x1), .val (.ref c1), .val (.int (0 : Int32)), .val (.int (0 : Int32)), .val .null, .unset] [])) _
    refine XS.aloadN X0.here hx rfl (hb hby d8_0) rfl rfl ?_
    refine st1_ _ ?_
    show Steps p.tables e below (T1_.setTop (mkF m 4 #[.val (.ref x1), .val (.ref c1), .val (.int (0 : Int32)), .val (.int (0 : Int32)), .val .null, .unset] [])) _
    refine XS.iloadN X1_.here hx rfl (hb hby d8_4) rfl ?_
    refine XS.ifNo X1_.here hx rfl (hb hby d8_5) rfl ((if0 _ _).trans (teq ((by decide) : (0 : Int32) = (0 : Int32))).2) ?_
    refine XS.aloadN X1_.here hx rfl (hb hby d8_8) rfl rfl ?_
    refine st2_ _ ?_
    show Steps p.tables e below (T2_.setTop (mkF m 11 #[.val (.ref x1), .val (.ref c1), .val (.int (0 : Int32)), .val (.int (0 : Int32)), .val .null, .unset] [(.ref c2_), (.ref x1)])) _
    refine st4_ _ ?_
    show Steps p.tables e below (T4_.setTop (mkF m 14 #[.val (.ref x1), .val (.ref c1), .val (.int (0 : Int32)), .val (.int (0 : Int32)), .val .null, .unset] [(.ref c2_d), (.ref x1)])) _
    refine st7_ _ ?_
    show Steps p.tables e below (T7_.setTop (mkF m 17 #[.val (.ref x1), .val (.ref c1), .val (.int (0 : Int32)), .val (.int (0 : Int32)), .val .null, .unset] [])) _
    refine XS.aloadN X7_.here hx rfl (hb hby d8_17) rfl rfl ?_
    refine st11_ _ ?_
    show Steps p.tables e below (T11_.setTop (mkF m 20 #[.val (.ref x1), .val (.ref c1), .val (.int (0 : Int32)), .val (.int (0 : Int32)), .val .null, .unset] [(.ref c11_), (.ref x1)])) _
    refine st13_ _ ?_
    show Steps p.tables e below (T13_.setTop (mkF m 23 #[.val (.ref x1), .val (.ref c1), .val (.int (0 : Int32)), .val (.int (0 : Int32)), .val .null, .unset] [(.int (0 : Int32)), (.ref x1)])) _
    refine st16_ _ ?_
    show Steps p.tables e below (T16_.setTop (mkF m 26 #[.val (.ref x1), .val (.ref c1), .val (.int (0 : Int32)), .val (.int (0 : Int32)), .val .null, .unset] [])) _
    exact X16_.returnOut hx Bd.returns (hb hby d8_26) hr
  · show Q_emA Z x1 c1 h0 n0 _ T16_.heap _
    rw [e16_]
    exact ⟨c2_d, rfl, N16_, k26_, str_⟩
  · show CHr Z consts_1 s.vm s.heap T16_.vm T16_.heap
    rw [hh]
    rw [e16_]
    exact cr19_.trans (CHv.at X16_ hZ11_ hEL ch18_)
theorem d7_0 : decode jdk_42_method_3_code 0 = .ok (.aload_n 0, 1) := by decide +kernel
theorem d7_1 : decode jdk_42_method_3_code 1 = .ok (.aload_n 1, 1) := by decide +kernel
theorem d7_2 : decode jdk_42_method_3_code 2 = .ok (.iconst 0, 1) := by decide +kernel
theorem d7_3 : decode jdk_42_method_3_code 3 = .ok (.aload_n 1, 1) := by decide +kernel
theorem d7_4 : decode jdk_42_method_3_code 4 = .ok (.arraylength, 1) := by decide +kernel
theorem d7_5 : decode jdk_42_method_3_code 5 = .ok (.aconst_null, 1) := by decide +kernel
theorem d7_6 : decode jdk_42_method_3_code 6 = .ok (.invokespecial 27, 3) := by decide +kernel
theorem pd_qaCIILjava_lang_VoidzV : parseMethodDescriptor "([CIILjava/lang/Void;)V" = some ⟨[(.array .char), .int, .int, (.object "java/lang/Void")], none⟩ := by decide +kernel
theorem d7_9 : decode jdk_42_method_3_code 9 = .ok (.return_, 1) := by decide +kernel
theorem ef_emB (m : MethodId) (x0 : Addr) (x1 : Addr) : entryFrame m #[(.ref x0), (.ref x1)] 2 = mkF m 0 #[.val (.ref x0), .val (.ref x1)] [] := by first | (simp [entryFrame, mkF, argsToLocals, Value.category]; done) | rfl
def Q_emB (Z : State) (x1 : Addr) (c1 : Addr) (kc : ClassId) (h0 : Heap) (n0 : Nat) (v : Option Value) (h : Heap) (L : List Loc) : Prop := ∃ (t1 : Addr), v = none ∧ Fr n0 L ∧ Keep h0 h [x1] ∧ (own_Str Z h x1 t1 ([] : List Int32))
theorem emB (l : Launch) (Z : State) (a0 : Array Value) (hw : ∀ d ∈ tables_1, d.before a0 Z = true) (hEL : EW Z a0 consts_1) (ws : List Jvm.Cond) (x1 : Addr) (c1 : Addr) (kc : ClassId) (h0 : Heap) (n0 : Nat) (Z0 : n0 ≤ h0.size) (E1 : Exa Z h0 x1 "java/lang/String") (X1 : Fld Z h0 x1 "java/lang/String" "coder" "B" (.int (0 : Int32))) (X2 : Fld Z h0 x1 "java/lang/String" "value" "[B" .null) (g1 : n0 ≤ x1) (V1 : Arv Z h0 c1 kc .char (0 : Int32) [] (.int (0 : Int32))) :
    MetFree l (⟨"java/lang/String", "<init>", "([C)V"⟩ : MethodName) (head1 (Jvm.Cond.code (⟨"java/lang/String", "<init>", "([C)V"⟩ : MethodName) jdk_42_method_3_code 2 none :: ws) ({ frames := 2, cells := 4, slots := 8, locals := 29 } : Room)) (fun a U => a = #[(.ref x1), (.ref c1)] ∧ Z.Warmed39 U.vm ∧ U.heap = h0 ∧ CHv Z consts_1 U.vm h0) (fun _ _ _ _ _ => True) (fun _ U o U' => ∃ v L, o = .returned v ∧ Q_emB Z x1 c1 kc h0 n0 v U'.heap L ∧ CHr Z consts_1 U.vm U.heap U'.vm U'.heap ∧ ReturnedEndW U o U' L ({ frames := 2, cells := 4, slots := 8, locals := 29 } : Room).cells ({ frames := 2, cells := 4, slots := 8, locals := 29 } : Room).slots) := by
  refine MetFree.of_bodySF (plainFor_of_name pn_java_lang_String) hisR ?_
  intro p e s m args below meth c s₁ Bd hml0 hP hK
  obtain ⟨rfl, hZ, hh, H0'⟩ := hP
  have hx := Bd.exec
  have hby := Bd.bytes
  have hml : c.maxLocals = 2 := hml0
  have hown : s.vm.findClass "java/lang/String" = some m.cls := findClass_of_methodNamed Bd.named
  have hnm := (name_of_methodNamed Bd.named Bd.method).1
  have X0 : Stand p l e ({ frames := 2, cells := 4, slots := 8, locals := 29 } : Room) (s.setVm s.vm) m #[(.ref x1), (.ref c1)] below meth c s₁ [] 0 0 := Stand.of_body Bd
  have e0 : s₁.heap = h0 := by rw [← hh, Bd.state]; rfl
  have N0 := Fr.nil n0
  have hS0 : s.Since s.vm h0.size := own_since0 s _
  have hk0 : h0.size ≤ h0.size := Nat.le_refl _
  have H0 : CHv Z consts_1 s.vm h0 := H0'
  have wS : ∀ a ∈ Bundle.stringAtoms, a.before a0 Z = true := fun a ha => hw a ((by decide +kernel : ∀ a ∈ Bundle.stringAtoms, a ∈ tables_1) a ha)
  have pre0 : ∀ t, Steps p.tables e below (s₁.setTop (mkF m 0 #[.val (.ref x1), .val (.ref c1)] [])) t → Steps p.tables e below (s₁.setTop (entryFrame m #[(.ref x1), (.ref c1)] 2)) t := fun t k => castTop (ef_emB m x1 c1) k
  have sf_ : Safe Z consts_1 s.vm h0 x1 := own_safe0 (State.Warmed39.alike hZ) E1 X2
  obtain ⟨cl1_, Ar1_, q1_, S1_, M1_, Hs1_, G1_⟩ := id V1
  obtain ⟨_, _, ⟨T2_, L2_, k2_, n2_⟩, -, Xs2_, Ss2_, Sg2_, ⟨Lc2_, hQ2_, l2_, y2_, z2_, chr2_⟩, st2_⟩ := X0.specialBackS hx (y := (⟨"java/lang/String", "<init>", "([CIILjava/lang/Void;)V"⟩ : MethodName)) rfl hown (mvT hZ (own_w hw 35 rfl)) (mvT hZ (own_w hw 36 rfl)) (mvT hZ (own_w hw 37 rfl)) (by decide) (backOfSH (W := 0) (emA l Z a0 hw hEL [] x1 c1 h0 n0 Z0 E1 X1 X2 g1) hZ (own_w hw 37 rfl) (own_w hw 6 rfl) (by decide) (by decide) hEL H0) (g := (mkF m 6 #[.val (.ref x1), .val (.ref c1)] [.null, (.int (0 : Int32)), (.int (0 : Int32)), (.ref c1), (.ref x1)])) rfl (by rw [hml]; rfl) (Steps.refl _) (a := x1) (argsL := [(.ref c1), (.int (0 : Int32)), (.int (0 : Int32)), .null]) (rest := []) (lenOf pd_qaCIILjava_lang_VoidzV rfl) rfl (by show 2 * 0 + _ ≤ _; exact Nat.le_of_eq rfl) (hb hby d7_6) (fun _ _ => ⟨rfl, e0, (by exact own_b rfl), (by exact own_b rfl)⟩)
  dsimp only [Pt.U, Pt.locs, Pt.cells, Pt.slots] at Xs2_ Ss2_ Sg2_ l2_ y2_ z2_ st2_ hQ2_ chr2_
  subst L2_ k2_ n2_
  obtain ⟨X2_, hS2_, hZ2_, hown2_⟩ := rebS hS0 hk0 Xs2_ Ss2_ (Nat.le_trans (Nat.le_of_eq (congrArg Array.size e0.symm)) Sg2_) hZ hown
  obtain ⟨t1_2_, rfl, Nq2_, ek2_, p2__0⟩ := hQ2_
  have N2_ := Fr.app N0 Nq2_
  have cr3_ := (CHr.refl H0).trans chr2_
  have ch2_ := chr2_.1
  have k4_ : Keep h0 T2_.heap [x1] := (Keep.refl h0 [x1]).trans ek2_ (allS (Or.inl (List.mem_of_getElem? (i := 0) rfl)) all0)
  obtain ⟨fs, hr, hrun, hended, hREW⟩ := X2_.leaveW hS2_ (Nat.le_trans (Nat.le_refl _) (Nat.le_of_eq (congrArg Array.size (rfl : T2_.heap = _).symm))) (v := none) (fun h => by first | rfl | (rw [Bd.returns] at h; cases h))
  refine ⟨_, _, pre0 _ ?_, hrun, hended, _, _, rfl, ?_, ?_, own_REW hREW (by exact own_b rfl) (by exact own_b rfl)⟩
  · show Steps p.tables e below (s₁.setTop (mkF m 0 #[.val (.ref x1), .val (.ref c1)] [])) _
    refine XS.aloadN X0.here hx rfl (hb hby d7_0) rfl rfl ?_
    refine XS.aloadN X0.here hx rfl (hb hby d7_1) rfl rfl ?_
    refine XS.iconst X0.here hx rfl (hb hby d7_2) ?_
    refine XS.aloadN X0.here hx rfl (hb hby d7_3) rfl rfl ?_
    refine X0.arraylength hx (by rw [e0]; exact Ar1_.1) (State.isArrayOf_alike (State.Warmed39.alike hZ) Ar1_.2.1) (g := (mkF m 4 #[.val (.ref x1), .val (.ref c1)] [(.ref c1), (.int (0 : Int32)), (.ref c1), (.ref x1)])) rfl rfl (hb hby d7_4) _ ?_
    rw [len_of S1_ M1_]
    show Steps p.tables e below (s₁.setTop (mkF m 5 #[.val (.ref x1), .val (.ref c1)] [(.int (0 : Int32)), (.int (0 : Int32)), (.ref c1), (.ref x1)])) _
    refine XS.aconstNull X0.here hx rfl (hb hby d7_5) ?_
    refine st2_.trans ?_
    show Steps p.tables e below (T2_.setTop (mkF m 9 #[.val (.ref x1), .val (.ref c1)] [])) _
    exact X2_.returnOut hx Bd.returns (hb hby d7_9) hr
  · show Q_emB Z x1 c1 kc h0 n0 _ T2_.heap _
    skip
    exact ⟨t1_2_, rfl, N2_, k4_, p2__0⟩
  · show CHr Z consts_1 s.vm s.heap T2_.vm T2_.heap
    rw [hh]
    exact cr3_.trans (CHv.at X2_ hZ2_ hEL ch2_)
theorem own_win : ∀ d ∈ own_ws "com/example/brisk_warden/briskwarden/core/UnsupportedNumberException", d ∈ tables_1 := by decide +kernel
theorem d14_0 : decode jdk_78_method_2_code 0 = .ok (.aload_n 0, 1) := by decide +kernel
theorem d14_1 : decode jdk_78_method_2_code 1 = .ok (.invokespecial 1, 3) := by decide +kernel
theorem d14_4 : decode jdk_78_method_2_code 4 = .ok (.aload_n 0, 1) := by decide +kernel
theorem d14_5 : decode jdk_78_method_2_code 5 = .ok (.aload_n 0, 1) := by decide +kernel
theorem d14_6 : decode jdk_78_method_2_code 6 = .ok (.putfield 7, 3) := by decide +kernel
theorem d14_9 : decode jdk_78_method_2_code 9 = .ok (.aload_n 0, 1) := by decide +kernel
theorem d14_10 : decode jdk_78_method_2_code 10 = .ok (.getstatic 13, 3) := by decide +kernel
theorem d14_13 : decode jdk_78_method_2_code 13 = .ok (.putfield 17, 3) := by decide +kernel
theorem d14_16 : decode jdk_78_method_2_code 16 = .ok (.aload_n 0, 1) := by decide +kernel
theorem d14_17 : decode jdk_78_method_2_code 17 = .ok (.getstatic 20, 3) := by decide +kernel
theorem d14_20 : decode jdk_78_method_2_code 20 = .ok (.putfield 24, 3) := by decide +kernel
theorem d14_23 : decode jdk_78_method_2_code 23 = .ok (.aload_n 0, 1) := by decide +kernel
theorem d14_24 : decode jdk_78_method_2_code 24 = .ok (.invokevirtual 27, 3) := by decide +kernel
theorem pd_qzLjava_lang_Throwable : parseMethodDescriptor "()Ljava/lang/Throwable;" = some ⟨[], some (.object "java/lang/Throwable")⟩ := by decide +kernel
theorem d14_27 : decode jdk_78_method_2_code 27 = .ok (.pop, 1) := by decide +kernel
theorem d14_28 : decode jdk_78_method_2_code 28 = .ok (.aload_n 0, 1) := by decide +kernel
theorem d14_29 : decode jdk_78_method_2_code 29 = .ok (.aload_n 1, 1) := by decide +kernel
theorem d14_30 : decode jdk_78_method_2_code 30 = .ok (.putfield 31, 3) := by decide +kernel
theorem d14_33 : decode jdk_78_method_2_code 33 = .ok (.return_, 1) := by decide +kernel
theorem pn_java_lang_Throwable : plainName "java/lang/Throwable" = true := by first | (simp [plainName, overriddenIn]; done) | decide +kernel
theorem ef_exT (m : MethodId) (x0 : Addr) (x1 : Addr) : entryFrame m #[(.ref x0), (.ref x1)] 2 = mkF m 0 #[.val (.ref x0), .val (.ref x1)] [] := by first | (simp [entryFrame, mkF, argsToLocals, Value.category]; done) | rfl
def Q_exT (Z : State) (a1 : Addr) (x1 : Addr) (vU : Value) (vS : Value) (h0 : Heap) (n0 : Nat) (v : Option Value) (h : Heap) (L : List Loc) : Prop := v = none ∧ Fr n0 L ∧ Keep h0 h [a1] ∧ (Exa Z h a1 "com/example/brisk_warden/briskwarden/core/UnsupportedNumberException") ∧ (Unt h a1) ∧ (Fld Z h a1 "java/lang/Throwable" "detailMessage" "Ljava/lang/String;" (.ref x1)) ∧ (Fld Z h a1 "java/lang/Throwable" "cause" "Ljava/lang/Throwable;" (.ref a1)) ∧ (Fld Z h a1 "com/example/brisk_warden/briskwarden/core/UnsupportedNumberException" "place" "Ljava/lang/String;" .null) ∧ (Fld Z h a1 "com/example/brisk_warden/briskwarden/core/UnsupportedNumberException" "problem" "Ljava/lang/String;" .null)
theorem exT (l : Launch) (Z : State) (a0 : Array Value) (hw : ∀ d ∈ tables_1, d.before a0 Z = true) (ws : List Jvm.Cond) (a1 : Addr) (x1 : Addr) (vU : Value) (vS : Value) (h0 : Heap) (n0 : Nat) (Z0 : n0 ≤ h0.size) (E1 : Exa Z h0 a1 "com/example/brisk_warden/briskwarden/core/UnsupportedNumberException") (U1 : Unt h0 a1) (Nu0 : Fld Z h0 a1 "java/lang/Throwable" "cause" "Ljava/lang/Throwable;" .null) (Nu1 : Fld Z h0 a1 "java/lang/Throwable" "stackTrace" "[Ljava/lang/StackTraceElement;" .null) (Nu2 : Fld Z h0 a1 "java/lang/Throwable" "suppressedExceptions" "Ljava/util/List;" .null) (Nu3 : Fld Z h0 a1 "java/lang/Throwable" "backtrace" "Ljava/lang/Object;" .null) (Nu4 : Fld Z h0 a1 "java/lang/Throwable" "detailMessage" "Ljava/lang/String;" .null) (Mu0 : Fld Z h0 a1 "com/example/brisk_warden/briskwarden/core/UnsupportedNumberException" "place" "Ljava/lang/String;" .null) (Mu1 : Fld Z h0 a1 "com/example/brisk_warden/briskwarden/core/UnsupportedNumberException" "problem" "Ljava/lang/String;" .null) (g1 : n0 ≤ a1) (TU : Sta Z Z.heap "java/lang/Throwable" "UNASSIGNED_STACK" "[Ljava/lang/StackTraceElement;" vU) (rU : vU.isRef = true) (TS : Sta Z Z.heap "java/lang/Throwable" "SUPPRESSED_SENTINEL" "Ljava/util/List;" vS) (rS : vS.isRef = true) (O1 : Old Z n0 h0) (hl : l.stackTraces = true) :
    MetFree l (⟨"java/lang/Throwable", "<init>", "(Ljava/lang/String;)V"⟩ : MethodName) (head1 (Jvm.Cond.code (⟨"java/lang/Throwable", "<init>", "(Ljava/lang/String;)V"⟩ : MethodName) jdk_78_method_2_code 2 none :: ws) ({ frames := 3, cells := 1, slots := 2752, locals := 42 } : Room)) (fun a U => a = #[(.ref a1), (.ref x1)] ∧ Z.Warmed39 U.vm ∧ U.heap = h0) (fun _ _ bl s _ => s.vm.MethodsKnown ∧ s.vm.FramesKnown bl) (fun _ U o U' => ∃ v L, o = .returned v ∧ Q_exT Z a1 x1 vU vS h0 n0 v U'.heap L ∧ FrameEnd U o U' L ({ frames := 3, cells := 1, slots := 2752, locals := 42 } : Room).cells ({ frames := 3, cells := 1, slots := 2752, locals := 42 } : Room).slots) := by
  refine MetFree.of_bodySF (plainFor_of_name pn_java_lang_Throwable) hisR ?_
  intro p e s m args below meth c s₁ Bd hml0 hP hK
  obtain ⟨rfl, hZ, hh⟩ := hP
  have hx := Bd.exec
  have hby := Bd.bytes
  have hml : c.maxLocals = 2 := hml0
  have hown : s.vm.findClass "java/lang/Throwable" = some m.cls := findClass_of_methodNamed Bd.named
  have hnm := (name_of_methodNamed Bd.named Bd.method).1
  have X0 : Stand p l e ({ frames := 3, cells := 1, slots := 2752, locals := 42 } : Room) s m #[(.ref a1), (.ref x1)] below meth c s₁ [] 0 0 := Stand.of_body Bd
  have e0 : s₁.heap = h0 := by rw [← hh, Bd.state]; rfl
  have N0 := Fr.nil n0
  have pre0 : ∀ t, Steps p.tables e below (s₁.setTop (mkF m 0 #[.val (.ref a1), .val (.ref x1)] [])) t → Steps p.tables e below (s₁.setTop (entryFrame m #[(.ref a1), (.ref x1)] 2)) t := fun t k => castTop (ef_exT m a1 x1) k
  obtain ⟨T1_, X1_, e1_, st1_⟩ := initO X0 hx hZ hown (own_w hw 75 rfl) (own_w hw 24 rfl) (own_w hw 25 rfl) e0 (g := (mkF m 1 #[.val (.ref a1), .val (.ref x1)] [(.ref a1)])) rfl (by rw [hml]; rfl) rfl (hb hby d14_1) (by decide) (W := 0) (by show 2 * 0 + _ ≤ _; exact Nat.le_of_eq rfl) (by decide)
  obtain ⟨T2_, h2_, X2_, e2_, W2_, st2_⟩ := putF X1_ hx hZ hown (host := "") (Or.inl (own_w hw 76 rfl)) Via.refl e1_ Nu0 E1 (Or.inl (own_w hw 77 rfl)) (own_w hw 42 rfl) (ty := (.object "java/lang/Throwable")) (by decide) rfl rfl (g := (mkF m 6 #[.val (.ref a1), .val (.ref x1)] [(.ref a1), (.ref a1)])) rfl rfl (hb hby d14_6)
  have w2_ : Fld Z h2_ a1 "java/lang/Throwable" "cause" "Ljava/lang/Throwable;" (.ref a1) := Nu0.same W2_
  have N2_ := Fr.snoc X2_ N0 g1
  have f4_ : Old Z n0 h2_ := (O1.wr W2_ g1)
  obtain ⟨T3_, X3_, e3_, st3_⟩ := getS2 X2_ hx hZ hown (host := "") (Or.inl (own_w hw 78 rfl)) Via.refl e2_ (TU.ext f4_.2) (g := (mkF m 10 #[.val (.ref a1), .val (.ref x1)] [(.ref a1)])) rfl (hb hby d14_10)
  have f5_ : Exa Z h2_ a1 "com/example/brisk_warden/briskwarden/core/UnsupportedNumberException" := (E1.wr W2_)
  have f6_ : Fld Z h2_ a1 "java/lang/Throwable" "stackTrace" "[Ljava/lang/StackTraceElement;" .null := (Nu1.other W2_ (Or.inr (slot_ne (Or.inl (own_w hw 80 rfl)) (Or.inl (own_w hw 77 rfl)) (by decide) (t := (.array (.object "java/lang/StackTraceElement"))) (t' := (.object "java/lang/Throwable")) (by decide) (by decide))))
  obtain ⟨T7_, h7_, X7_, e7_, W7_, st7_⟩ := putF X3_ hx hZ hown (host := "") (Or.inl (own_w hw 79 rfl)) Via.refl e3_ f6_ f5_ (Or.inl (own_w hw 80 rfl)) (own_w hw 42 rfl) (ty := (.array (.object "java/lang/StackTraceElement"))) (by decide) (narrow_refV _ ⟨vU, rU⟩) (fits_refV_array _ ⟨vU, rU⟩) (g := (mkF m 13 #[.val (.ref a1), .val (.ref x1)] [vU, (.ref a1)])) rfl rfl (hb hby d14_13)
  have w7_ : Fld Z h7_ a1 "java/lang/Throwable" "stackTrace" "[Ljava/lang/StackTraceElement;" vU := f6_.same W7_
  have N7_ := Fr.snoc X7_ N2_ g1
  have f9_ : Old Z n0 h7_ := (f4_.wr W7_ g1)
  obtain ⟨T8_, X8_, e8_, st8_⟩ := getS2 X7_ hx hZ hown (host := "") (Or.inl (own_w hw 81 rfl)) Via.refl e7_ (TS.ext f9_.2) (g := (mkF m 17 #[.val (.ref a1), .val (.ref x1)] [(.ref a1)])) rfl (hb hby d14_17)
  have f10_ : Exa Z h7_ a1 "com/example/brisk_warden/briskwarden/core/UnsupportedNumberException" := (f5_.wr W7_)
  have f11_ : Fld Z h7_ a1 "java/lang/Throwable" "suppressedExceptions" "Ljava/util/List;" .null := ((Nu2.other W2_ (Or.inr (slot_ne (Or.inl (own_w hw 83 rfl)) (Or.inl (own_w hw 77 rfl)) (by decide) (t := (.object "java/util/List")) (t' := (.object "java/lang/Throwable")) (by decide) (by decide)))).other W7_ (Or.inr (slot_ne (Or.inl (own_w hw 83 rfl)) (Or.inl (own_w hw 80 rfl)) (by decide) (t := (.object "java/util/List")) (t' := (.array (.object "java/lang/StackTraceElement"))) (by decide) (by decide))))
  obtain ⟨T12_, h12_, X12_, e12_, W12_, st12_⟩ := putF X8_ hx hZ hown (host := "") (Or.inl (own_w hw 82 rfl)) Via.refl e8_ f11_ f10_ (Or.inl (own_w hw 83 rfl)) (own_w hw 42 rfl) (ty := (.object "java/util/List")) (by decide) (narrow_refV _ ⟨vS, rS⟩) (fits_refV_object _ ⟨vS, rS⟩) (g := (mkF m 20 #[.val (.ref a1), .val (.ref x1)] [vS, (.ref a1)])) rfl rfl (hb hby d14_20)
  have w12_ : Fld Z h12_ a1 "java/lang/Throwable" "suppressedExceptions" "Ljava/util/List;" vS := f11_.same W12_
  have N12_ := Fr.snoc X12_ N7_ g1
  have f15_ : Fld Z h12_ a1 "java/lang/Throwable" "cause" "Ljava/lang/Throwable;" (.ref a1) := ((w2_.other W7_ (Or.inr (slot_ne (Or.inl (own_w hw 77 rfl)) (Or.inl (own_w hw 80 rfl)) (by decide) (t := (.object "java/lang/Throwable")) (t' := (.array (.object "java/lang/StackTraceElement"))) (by decide) (by decide)))).other W12_ (Or.inr (slot_ne (Or.inl (own_w hw 77 rfl)) (Or.inl (own_w hw 83 rfl)) (by decide) (t := (.object "java/lang/Throwable")) (t' := (.object "java/util/List")) (by decide) (by decide))))
  have f16_ : Fld Z h12_ a1 "java/lang/Throwable" "detailMessage" "Ljava/lang/String;" .null := (((Nu4.other W2_ (Or.inr (slot_ne (Or.inl (own_w hw 107 rfl)) (Or.inl (own_w hw 77 rfl)) (by decide) (t := (.object "java/lang/String")) (t' := (.object "java/lang/Throwable")) (by decide) (by decide)))).other W7_ (Or.inr (slot_ne (Or.inl (own_w hw 107 rfl)) (Or.inl (own_w hw 80 rfl)) (by decide) (t := (.object "java/lang/String")) (t' := (.array (.object "java/lang/StackTraceElement"))) (by decide) (by decide)))).other W12_ (Or.inr (slot_ne (Or.inl (own_w hw 107 rfl)) (Or.inl (own_w hw 83 rfl)) (by decide) (t := (.object "java/lang/String")) (t' := (.object "java/util/List")) (by decide) (by decide))))
  have f17_ : Fld Z h12_ a1 "com/example/brisk_warden/briskwarden/core/UnsupportedNumberException" "place" "Ljava/lang/String;" .null := (((Mu0.other W2_ (Or.inr (slot_ne (Or.inr (own_w hw 113 rfl)) (Or.inl (own_w hw 77 rfl)) (by decide) (t := (.object "java/lang/String")) (t' := (.object "java/lang/Throwable")) (by decide) (by decide)))).other W7_ (Or.inr (slot_ne (Or.inr (own_w hw 113 rfl)) (Or.inl (own_w hw 80 rfl)) (by decide) (t := (.object "java/lang/String")) (t' := (.array (.object "java/lang/StackTraceElement"))) (by decide) (by decide)))).other W12_ (Or.inr (slot_ne (Or.inr (own_w hw 113 rfl)) (Or.inl (own_w hw 83 rfl)) (by decide) (t := (.object "java/lang/String")) (t' := (.object "java/util/List")) (by decide) (by decide))))
  have f18_ : Fld Z h12_ a1 "com/example/brisk_warden/briskwarden/core/UnsupportedNumberException" "problem" "Ljava/lang/String;" .null := (((Mu1.other W2_ (Or.inr (slot_ne (Or.inr (own_w hw 115 rfl)) (Or.inl (own_w hw 77 rfl)) (by decide) (t := (.object "java/lang/String")) (t' := (.object "java/lang/Throwable")) (by decide) (by decide)))).other W7_ (Or.inr (slot_ne (Or.inr (own_w hw 115 rfl)) (Or.inl (own_w hw 80 rfl)) (by decide) (t := (.object "java/lang/String")) (t' := (.array (.object "java/lang/StackTraceElement"))) (by decide) (by decide)))).other W12_ (Or.inr (slot_ne (Or.inr (own_w hw 115 rfl)) (Or.inl (own_w hw 83 rfl)) (by decide) (t := (.object "java/lang/String")) (t' := (.object "java/util/List")) (by decide) (by decide))))
  have f19_ : Exa Z h12_ a1 "com/example/brisk_warden/briskwarden/core/UnsupportedNumberException" := (f10_.wr W12_)
  obtain ⟨cq14_, kq14_, qa14_, qb14_, qc14_⟩ := isOf hZ e12_ f19_
  have hTs_ : ThS Z s.heap := by rw [hh]; exact ThS.ext O1.2 ThS.start
  have f20_ : Unt h12_ a1 := (Unt.wr W12_ (Unt.wr W7_ (Unt.wr W2_ U1)))
  have f21_ : Fld Z h12_ a1 "java/lang/Throwable" "stackTrace" "[Ljava/lang/StackTraceElement;" vU := (w7_.other W12_ (Or.inr (slot_ne (Or.inl (own_w hw 80 rfl)) (Or.inl (own_w hw 83 rfl)) (by decide) (t := (.array (.object "java/lang/StackTraceElement"))) (t' := (.object "java/util/List")) (by decide) (by decide))))
  have f22_ : Fld Z h12_ a1 "java/lang/Throwable" "backtrace" "Ljava/lang/Object;" .null := (((Nu3.other W2_ (Or.inr (slot_ne (Or.inl (own_w hw 108 rfl)) (Or.inl (own_w hw 77 rfl)) (by decide) (t := (.object "java/lang/Object")) (t' := (.object "java/lang/Throwable")) (by decide) (by decide)))).other W7_ (Or.inr (slot_ne (Or.inl (own_w hw 108 rfl)) (Or.inl (own_w hw 80 rfl)) (by decide) (t := (.object "java/lang/Object")) (t' := (.array (.object "java/lang/StackTraceElement"))) (by decide) (by decide)))).other W12_ (Or.inr (slot_ne (Or.inl (own_w hw 108 rfl)) (Or.inl (own_w hw 83 rfl)) (by decide) (t := (.object "java/lang/Object")) (t' := (.object "java/util/List")) (by decide) (by decide))))
  have f23_ : Old Z n0 h12_ := (f9_.wr W12_ g1)
  obtain ⟨_, _, ⟨T13_, L13_, k13_, n13_⟩, -, Xr13_, ⟨rfl, F13_, Lc13_, m13_, hm13_, hL13_, l13_, y13_, z13_⟩, st13_⟩ := X12_.virtualBack hx (y := (⟨"java/lang/Throwable", "fillInStackTrace", "()Ljava/lang/Throwable;"⟩ : MethodName)) (z := (⟨"java/lang/Throwable", "fillInStackTrace", "()Ljava/lang/Throwable;"⟩ : MethodName)) hown (mvT hZ (own_w hw 84 rfl)) (mvT hZ (own_w hw 85 rfl)) (notFace_of_selects (args := #[]) (mvT hZ (own_w hw 87 rfl))) (mvT hZ (own_w hw 87 rfl)) (mvT hZ (own_w hw 86 rfl)) (by decide) (own_fillB (W := 0) (rc := "com/example/brisk_warden/briskwarden/core/UnsupportedNumberException") hx X12_.admits hl hZ (fun d hd => mvX hTs_ hZ (List.all_eq_true.mp (own_ws_ok "com/example/brisk_warden/briskwarden/core/UnsupportedNumberException") d hd) (hw d (own_win d hd))) (own_w hw 42 rfl) f19_ f20_ f21_ rU f22_ (TU.ext f23_.2) (Vm.MethodsKnown.alikeC ((State.Warmed39.alike hZ).symm.trans (State.Warmed39.alike hZ)) hK.1) (Vm.FramesKnown.alikeC ((State.Warmed39.alike hZ).symm.trans (State.Warmed39.alike hZ)) hK.2) (by decide) (by decide)) qa14_ qc14_ (g := (mkF m 24 #[.val (.ref a1), .val (.ref x1)] [(.ref a1)])) rfl (by rw [hml]; rfl) (Steps.refl _) (argsL := []) (rest := []) (lenOf pd_qzLjava_lang_Throwable rfl) rfl (by show 2 * 0 + _ ≤ _; exact Nat.le_of_eq rfl) (hb hby d14_24) (fun _ _ => ⟨rfl, e12_, (by exact own_b rfl), (by exact own_b rfl)⟩)
  dsimp only [Pt.U, Pt.locs, Pt.cells, Pt.slots] at Xr13_ F13_ l13_ y13_ z13_ st13_
  subst L13_ k13_ n13_
  have X13_ := Xr13_.more (Nat.le_refl _) (Nat.add_le_add_left hm13_ _)
  have N13_ := Fr.app N12_ (fun y hy => by rw [hL13_ y hy]; exact g1)
  have f24_ : Fld Z T13_.heap a1 "java/lang/Throwable" "cause" "Ljava/lang/Throwable;" (.ref a1) := own_F.fld F13_ f15_ (slot_ne (Or.inl (own_w hw 77 rfl)) (Or.inl (own_w hw 108 rfl)) (by decide) (t := (.object "java/lang/Throwable")) (t' := (.object "java/lang/Object")) (by decide) (by decide)) (slot_ne (Or.inl (own_w hw 77 rfl)) (Or.inl (own_w hw 109 rfl)) (by decide) (t := (.object "java/lang/Throwable")) (t' := .int) (by decide) (by decide)) (slot_ne (Or.inl (own_w hw 77 rfl)) (Or.inl (own_w hw 80 rfl)) (by decide) (t := (.object "java/lang/Throwable")) (t' := (.array (.object "java/lang/StackTraceElement"))) (by decide) (by decide))
  have f25_ : Fld Z T13_.heap a1 "java/lang/Throwable" "detailMessage" "Ljava/lang/String;" .null := own_F.fld F13_ f16_ (slot_ne (Or.inl (own_w hw 107 rfl)) (Or.inl (own_w hw 108 rfl)) (by decide) (t := (.object "java/lang/String")) (t' := (.object "java/lang/Object")) (by decide) (by decide)) (slot_ne (Or.inl (own_w hw 107 rfl)) (Or.inl (own_w hw 109 rfl)) (by decide) (t := (.object "java/lang/String")) (t' := .int) (by decide) (by decide)) (slot_ne (Or.inl (own_w hw 107 rfl)) (Or.inl (own_w hw 80 rfl)) (by decide) (t := (.object "java/lang/String")) (t' := (.array (.object "java/lang/StackTraceElement"))) (by decide) (by decide))
  have f26_ : Fld Z T13_.heap a1 "com/example/brisk_warden/briskwarden/core/UnsupportedNumberException" "place" "Ljava/lang/String;" .null := own_F.fld F13_ f17_ (slot_ne (Or.inr (own_w hw 113 rfl)) (Or.inl (own_w hw 108 rfl)) (by decide) (t := (.object "java/lang/String")) (t' := (.object "java/lang/Object")) (by decide) (by decide)) (slot_ne (Or.inr (own_w hw 113 rfl)) (Or.inl (own_w hw 109 rfl)) (by decide) (t := (.object "java/lang/String")) (t' := .int) (by decide) (by decide)) (slot_ne (Or.inr (own_w hw 113 rfl)) (Or.inl (own_w hw 80 rfl)) (by decide) (t := (.object "java/lang/String")) (t' := (.array (.object "java/lang/StackTraceElement"))) (by decide) (by decide))
  have f27_ : Fld Z T13_.heap a1 "com/example/brisk_warden/briskwarden/core/UnsupportedNumberException" "problem" "Ljava/lang/String;" .null := own_F.fld F13_ f18_ (slot_ne (Or.inr (own_w hw 115 rfl)) (Or.inl (own_w hw 108 rfl)) (by decide) (t := (.object "java/lang/String")) (t' := (.object "java/lang/Object")) (by decide) (by decide)) (slot_ne (Or.inr (own_w hw 115 rfl)) (Or.inl (own_w hw 109 rfl)) (by decide) (t := (.object "java/lang/String")) (t' := .int) (by decide) (by decide)) (slot_ne (Or.inr (own_w hw 115 rfl)) (Or.inl (own_w hw 80 rfl)) (by decide) (t := (.object "java/lang/String")) (t' := (.array (.object "java/lang/StackTraceElement"))) (by decide) (by decide))
  obtain ⟨T28_, h28_, X28_, e28_, W28_, st28_⟩ := putF X13_ hx hZ hown (host := "") (Or.inl (own_w hw 111 rfl)) Via.refl rfl f25_ (own_F.exa F13_ f19_) (Or.inl (own_w hw 107 rfl)) (own_w hw 42 rfl) (ty := (.object "java/lang/String")) (by decide) rfl rfl (g := (mkF m 30 #[.val (.ref a1), .val (.ref x1)] [(.ref x1), (.ref a1)])) rfl rfl (hb hby d14_30)
  have w28_ : Fld Z h28_ a1 "java/lang/Throwable" "detailMessage" "Ljava/lang/String;" (.ref x1) := f25_.same W28_
  have N28_ := Fr.snoc X28_ N13_ g1
  have f29_ : Exa Z h28_ a1 "com/example/brisk_warden/briskwarden/core/UnsupportedNumberException" := ((own_F.exa F13_ f19_).wr W28_)
  have f30_ : Fld Z h28_ a1 "java/lang/Throwable" "cause" "Ljava/lang/Throwable;" (.ref a1) := (f24_.other W28_ (Or.inr (slot_ne (Or.inl (own_w hw 77 rfl)) (Or.inl (own_w hw 107 rfl)) (by decide) (t := (.object "java/lang/Throwable")) (t' := (.object "java/lang/String")) (by decide) (by decide))))
  have f31_ : Fld Z h28_ a1 "com/example/brisk_warden/briskwarden/core/UnsupportedNumberException" "place" "Ljava/lang/String;" .null := (f26_.other W28_ (Or.inr (slot_ne (Or.inr (own_w hw 113 rfl)) (Or.inl (own_w hw 107 rfl)) (by decide) (t := (.object "java/lang/String")) (t' := (.object "java/lang/String")) (by decide) (by decide))))
  have f32_ : Fld Z h28_ a1 "com/example/brisk_warden/briskwarden/core/UnsupportedNumberException" "problem" "Ljava/lang/String;" .null := (f27_.other W28_ (Or.inr (slot_ne (Or.inr (own_w hw 115 rfl)) (Or.inl (own_w hw 107 rfl)) (by decide) (t := (.object "java/lang/String")) (t' := (.object "java/lang/String")) (by decide) (by decide))))
  obtain ⟨fs, hr, hrun, hended, hW, hsame⟩ := X28_.leave (v := none) (fun h => by first | rfl | (rw [Bd.returns] at h; cases h))
  have kE_ : Keep h0 h28_ [a1] := by rw [← hh, ← e28_]; exact (own_end hsame (own_bl hL13_ _ _ _ _)).1
  have uE_ : Unt h28_ a1 := by rw [← e28_]; exact (own_end hsame (own_bl hL13_ _ _ _ _)).2 (by rw [hh]; exact U1)
  refine ⟨_, _, pre0 _ ?_, hrun, hended, _, _, rfl, ?_, ⟨_, rfl⟩, hW, hsame.mono (by exact own_b rfl) (by exact own_b rfl)⟩
  · show Steps p.tables e below (s₁.setTop (mkF m 0 #[.val (.ref a1), .val (.ref x1)] [])) _
    refine XS.aloadN X0.here hx rfl (hb hby d14_0) rfl rfl ?_
    refine st1_ _ ?_
    show Steps p.tables e below (T1_.setTop (mkF m 4 #[.val (.ref a1), .val (.ref x1)] [])) _
    refine XS.aloadN X1_.here hx rfl (hb hby d14_4) rfl rfl ?_
    refine XS.aloadN X1_.here hx rfl (hb hby d14_5) rfl rfl ?_
    refine st2_ _ ?_
    show Steps p.tables e below (T2_.setTop (mkF m 9 #[.val (.ref a1), .val (.ref x1)] [])) _
    refine XS.aloadN X2_.here hx rfl (hb hby d14_9) rfl rfl ?_
    refine st3_ _ ?_
    show Steps p.tables e below (T3_.setTop (mkF m 13 #[.val (.ref a1), .val (.ref x1)] [vU, (.ref a1)])) _
    refine st7_ _ ?_
    show Steps p.tables e below (T7_.setTop (mkF m 16 #[.val (.ref a1), .val (.ref x1)] [])) _
    refine XS.aloadN X7_.here hx rfl (hb hby d14_16) rfl rfl ?_
    refine st8_ _ ?_
    show Steps p.tables e below (T8_.setTop (mkF m 20 #[.val (.ref a1), .val (.ref x1)] [vS, (.ref a1)])) _
    refine st12_ _ ?_
    show Steps p.tables e below (T12_.setTop (mkF m 23 #[.val (.ref a1), .val (.ref x1)] [])) _
    refine XS.aloadN X12_.here hx rfl (hb hby d14_23) rfl rfl ?_
    refine st13_.trans ?_
    show Steps p.tables e below (T13_.setTop (mkF m 27 #[.val (.ref a1), .val (.ref x1)] [(.ref a1)])) _
    refine XS.pop X13_.here hx rfl (hb hby d14_27) rfl rfl ?_
    refine XS.aloadN X13_.here hx rfl (hb hby d14_28) rfl rfl ?_
    refine XS.aloadN X13_.here hx rfl (hb hby d14_29) rfl rfl ?_
    refine st28_ _ ?_
    show Steps p.tables e below (T28_.setTop (mkF m 33 #[.val (.ref a1), .val (.ref x1)] [])) _
    exact X28_.returnOut hx Bd.returns (hb hby d14_33) hr
  · show Q_exT Z a1 x1 vU vS h0 n0 _ T28_.heap _
    rw [e28_]
    exact ⟨rfl, N28_, kE_, f29_, uE_, w28_, f30_, f31_, f32_⟩
theorem d13_0 : decode jdk_59_method_2_code 0 = .ok (.aload_n 0, 1) := by decide +kernel
theorem d13_1 : decode jdk_59_method_2_code 1 = .ok (.aload_n 1, 1) := by decide +kernel
theorem d13_2 : decode jdk_59_method_2_code 2 = .ok (.invokespecial 7, 3) := by decide +kernel
theorem d13_5 : decode jdk_59_method_2_code 5 = .ok (.return_, 1) := by decide +kernel
theorem pn_java_lang_Exception : plainName "java/lang/Exception" = true := by first | (simp [plainName, overriddenIn]; done) | decide +kernel
theorem ef_exException (m : MethodId) (x0 : Addr) (x1 : Addr) : entryFrame m #[(.ref x0), (.ref x1)] 2 = mkF m 0 #[.val (.ref x0), .val (.ref x1)] [] := by first | (simp [entryFrame, mkF, argsToLocals, Value.category]; done) | rfl
def Q_exException (Z : State) (a1 : Addr) (x1 : Addr) (vU : Value) (vS : Value) (h0 : Heap) (n0 : Nat) (v : Option Value) (h : Heap) (L : List Loc) : Prop := v = none ∧ Fr n0 L ∧ Keep h0 h [a1] ∧ (Exa Z h a1 "com/example/brisk_warden/briskwarden/core/UnsupportedNumberException") ∧ (Unt h a1) ∧ (Fld Z h a1 "java/lang/Throwable" "detailMessage" "Ljava/lang/String;" (.ref x1)) ∧ (Fld Z h a1 "java/lang/Throwable" "cause" "Ljava/lang/Throwable;" (.ref a1)) ∧ (Fld Z h a1 "com/example/brisk_warden/briskwarden/core/UnsupportedNumberException" "place" "Ljava/lang/String;" .null) ∧ (Fld Z h a1 "com/example/brisk_warden/briskwarden/core/UnsupportedNumberException" "problem" "Ljava/lang/String;" .null)
theorem exException (l : Launch) (Z : State) (a0 : Array Value) (hw : ∀ d ∈ tables_1, d.before a0 Z = true) (ws : List Jvm.Cond) (a1 : Addr) (x1 : Addr) (vU : Value) (vS : Value) (h0 : Heap) (n0 : Nat) (Z0 : n0 ≤ h0.size) (E1 : Exa Z h0 a1 "com/example/brisk_warden/briskwarden/core/UnsupportedNumberException") (U1 : Unt h0 a1) (Nu0 : Fld Z h0 a1 "java/lang/Throwable" "cause" "Ljava/lang/Throwable;" .null) (Nu1 : Fld Z h0 a1 "java/lang/Throwable" "stackTrace" "[Ljava/lang/StackTraceElement;" .null) (Nu2 : Fld Z h0 a1 "java/lang/Throwable" "suppressedExceptions" "Ljava/util/List;" .null) (Nu3 : Fld Z h0 a1 "java/lang/Throwable" "backtrace" "Ljava/lang/Object;" .null) (Nu4 : Fld Z h0 a1 "java/lang/Throwable" "detailMessage" "Ljava/lang/String;" .null) (Mu0 : Fld Z h0 a1 "com/example/brisk_warden/briskwarden/core/UnsupportedNumberException" "place" "Ljava/lang/String;" .null) (Mu1 : Fld Z h0 a1 "com/example/brisk_warden/briskwarden/core/UnsupportedNumberException" "problem" "Ljava/lang/String;" .null) (g1 : n0 ≤ a1) (TU : Sta Z Z.heap "java/lang/Throwable" "UNASSIGNED_STACK" "[Ljava/lang/StackTraceElement;" vU) (rU : vU.isRef = true) (TS : Sta Z Z.heap "java/lang/Throwable" "SUPPRESSED_SENTINEL" "Ljava/util/List;" vS) (rS : vS.isRef = true) (O1 : Old Z n0 h0) (hl : l.stackTraces = true) :
    MetFree l (⟨"java/lang/Exception", "<init>", "(Ljava/lang/String;)V"⟩ : MethodName) (head1 (Jvm.Cond.code (⟨"java/lang/Exception", "<init>", "(Ljava/lang/String;)V"⟩ : MethodName) jdk_59_method_2_code 2 none :: ws) ({ frames := 4, cells := 1, slots := 2752, locals := 55 } : Room)) (fun a U => a = #[(.ref a1), (.ref x1)] ∧ Z.Warmed39 U.vm ∧ U.heap = h0) (fun _ _ bl s _ => s.vm.MethodsKnown ∧ s.vm.FramesKnown bl) (fun _ U o U' => ∃ v L, o = .returned v ∧ Q_exException Z a1 x1 vU vS h0 n0 v U'.heap L ∧ FrameEnd U o U' L ({ frames := 4, cells := 1, slots := 2752, locals := 55 } : Room).cells ({ frames := 4, cells := 1, slots := 2752, locals := 55 } : Room).slots) := by
  refine MetFree.of_bodySF (plainFor_of_name pn_java_lang_Exception) hisR ?_
  intro p e s m args below meth c s₁ Bd hml0 hP hK
  obtain ⟨rfl, hZ, hh⟩ := hP
  have hx := Bd.exec
  have hby := Bd.bytes
  have hml : c.maxLocals = 2 := hml0
  have hown : s.vm.findClass "java/lang/Exception" = some m.cls := findClass_of_methodNamed Bd.named
  have hnm := (name_of_methodNamed Bd.named Bd.method).1
  have X0 : Stand p l e ({ frames := 4, cells := 1, slots := 2752, locals := 55 } : Room) s m #[(.ref a1), (.ref x1)] below meth c s₁ [] 0 0 := Stand.of_body Bd
  have e0 : s₁.heap = h0 := by rw [← hh, Bd.state]; rfl
  have N0 := Fr.nil n0
  have pre0 : ∀ t, Steps p.tables e below (s₁.setTop (mkF m 0 #[.val (.ref a1), .val (.ref x1)] [])) t → Steps p.tables e below (s₁.setTop (entryFrame m #[(.ref a1), (.ref x1)] 2)) t := fun t k => castTop (ef_exException m a1 x1) k
  obtain ⟨_, _, ⟨T1_, L1_, k1_, n1_⟩, -, X1_, ⟨Lc1_, hQ1_, l1_, y1_, z1_⟩, st1_⟩ := X0.specialBack hx (y := (⟨"java/lang/Throwable", "<init>", "(Ljava/lang/String;)V"⟩ : MethodName)) rfl hown (mvT hZ (own_w hw 69 rfl)) (mvT hZ (own_w hw 70 rfl)) (mvT hZ (own_w hw 74 rfl)) (by decide) (backOfKL (W := 0) (exT l Z a0 hw [] a1 x1 vU vS h0 n0 Z0 E1 U1 Nu0 Nu1 Nu2 Nu3 Nu4 Mu0 Mu1 g1 TU rU TS rS O1 hl) hZ (own_w hw 74 rfl) (own_w hw 73 rfl) (by decide) (by decide) (Vm.MethodsKnown.alikeC ((State.Warmed39.alike hZ).symm.trans (State.Warmed39.alike hZ)) hK.1) (Vm.FramesKnown.alikeC ((State.Warmed39.alike hZ).symm.trans (State.Warmed39.alike hZ)) hK.2)) (g := (mkF m 2 #[.val (.ref a1), .val (.ref x1)] [(.ref x1), (.ref a1)])) rfl (by rw [hml]; rfl) (Steps.refl _) (a := a1) (argsL := [(.ref x1)]) (rest := []) (lenOf pd_qLjava_lang_StringzV rfl) rfl (by show 2 * 0 + _ ≤ _; exact Nat.le_of_eq rfl) (hb hby d13_2) (fun _ _ => ⟨rfl, e0, (by exact own_b rfl), (by exact own_b rfl)⟩)
  dsimp only [Pt.U, Pt.locs, Pt.cells, Pt.slots] at X1_ l1_ y1_ z1_ st1_ hQ1_
  subst L1_ k1_ n1_
  obtain ⟨rfl, Nq1_, ek1_, p1__0, p1__1, p1__2, p1__3, p1__4, p1__5⟩ := hQ1_
  have N1_ := Fr.app N0 Nq1_
  have k2_ : Keep h0 T1_.heap [a1] := (Keep.refl h0 [a1]).trans ek1_ (allS (Or.inl (List.mem_of_getElem? (i := 0) rfl)) all0)
  obtain ⟨fs, hr, hrun, hended, hW, hsame⟩ := X1_.leave (v := none) (fun h => by first | rfl | (rw [Bd.returns] at h; cases h))
  refine ⟨_, _, pre0 _ ?_, hrun, hended, _, _, rfl, ?_, ⟨_, rfl⟩, hW, hsame.mono (by exact own_b rfl) (by exact own_b rfl)⟩
  · show Steps p.tables e below (s₁.setTop (mkF m 0 #[.val (.ref a1), .val (.ref x1)] [])) _
    refine XS.aloadN X0.here hx rfl (hb hby d13_0) rfl rfl ?_
    refine XS.aloadN X0.here hx rfl (hb hby d13_1) rfl rfl ?_
    refine st1_.trans ?_
    show Steps p.tables e below (T1_.setTop (mkF m 5 #[.val (.ref a1), .val (.ref x1)] [])) _
    exact X1_.returnOut hx Bd.returns (hb hby d13_5) hr
  · show Q_exException Z a1 x1 vU vS h0 n0 _ T1_.heap _
    skip
    exact ⟨rfl, N1_, k2_, p1__0, p1__1, p1__2, p1__3, p1__4, p1__5⟩
theorem d12_0 : decode jdk_58_method_2_code 0 = .ok (.aload_n 0, 1) := by decide +kernel
theorem d12_1 : decode jdk_58_method_2_code 1 = .ok (.aload_n 1, 1) := by decide +kernel
theorem d12_2 : decode jdk_58_method_2_code 2 = .ok (.invokespecial 7, 3) := by decide +kernel
theorem d12_5 : decode jdk_58_method_2_code 5 = .ok (.return_, 1) := by decide +kernel
theorem pn_java_lang_RuntimeException : plainName "java/lang/RuntimeException" = true := by first | (simp [plainName, overriddenIn]; done) | decide +kernel
theorem ef_exRuntimeException (m : MethodId) (x0 : Addr) (x1 : Addr) : entryFrame m #[(.ref x0), (.ref x1)] 2 = mkF m 0 #[.val (.ref x0), .val (.ref x1)] [] := by first | (simp [entryFrame, mkF, argsToLocals, Value.category]; done) | rfl
def Q_exRuntimeException (Z : State) (a1 : Addr) (x1 : Addr) (vU : Value) (vS : Value) (h0 : Heap) (n0 : Nat) (v : Option Value) (h : Heap) (L : List Loc) : Prop := v = none ∧ Fr n0 L ∧ Keep h0 h [a1] ∧ (Exa Z h a1 "com/example/brisk_warden/briskwarden/core/UnsupportedNumberException") ∧ (Unt h a1) ∧ (Fld Z h a1 "java/lang/Throwable" "detailMessage" "Ljava/lang/String;" (.ref x1)) ∧ (Fld Z h a1 "java/lang/Throwable" "cause" "Ljava/lang/Throwable;" (.ref a1)) ∧ (Fld Z h a1 "com/example/brisk_warden/briskwarden/core/UnsupportedNumberException" "place" "Ljava/lang/String;" .null) ∧ (Fld Z h a1 "com/example/brisk_warden/briskwarden/core/UnsupportedNumberException" "problem" "Ljava/lang/String;" .null)
theorem exRuntimeException (l : Launch) (Z : State) (a0 : Array Value) (hw : ∀ d ∈ tables_1, d.before a0 Z = true) (ws : List Jvm.Cond) (a1 : Addr) (x1 : Addr) (vU : Value) (vS : Value) (h0 : Heap) (n0 : Nat) (Z0 : n0 ≤ h0.size) (E1 : Exa Z h0 a1 "com/example/brisk_warden/briskwarden/core/UnsupportedNumberException") (U1 : Unt h0 a1) (Nu0 : Fld Z h0 a1 "java/lang/Throwable" "cause" "Ljava/lang/Throwable;" .null) (Nu1 : Fld Z h0 a1 "java/lang/Throwable" "stackTrace" "[Ljava/lang/StackTraceElement;" .null) (Nu2 : Fld Z h0 a1 "java/lang/Throwable" "suppressedExceptions" "Ljava/util/List;" .null) (Nu3 : Fld Z h0 a1 "java/lang/Throwable" "backtrace" "Ljava/lang/Object;" .null) (Nu4 : Fld Z h0 a1 "java/lang/Throwable" "detailMessage" "Ljava/lang/String;" .null) (Mu0 : Fld Z h0 a1 "com/example/brisk_warden/briskwarden/core/UnsupportedNumberException" "place" "Ljava/lang/String;" .null) (Mu1 : Fld Z h0 a1 "com/example/brisk_warden/briskwarden/core/UnsupportedNumberException" "problem" "Ljava/lang/String;" .null) (g1 : n0 ≤ a1) (TU : Sta Z Z.heap "java/lang/Throwable" "UNASSIGNED_STACK" "[Ljava/lang/StackTraceElement;" vU) (rU : vU.isRef = true) (TS : Sta Z Z.heap "java/lang/Throwable" "SUPPRESSED_SENTINEL" "Ljava/util/List;" vS) (rS : vS.isRef = true) (O1 : Old Z n0 h0) (hl : l.stackTraces = true) :
    MetFree l (⟨"java/lang/RuntimeException", "<init>", "(Ljava/lang/String;)V"⟩ : MethodName) (head1 (Jvm.Cond.code (⟨"java/lang/RuntimeException", "<init>", "(Ljava/lang/String;)V"⟩ : MethodName) jdk_58_method_2_code 2 none :: ws) ({ frames := 5, cells := 1, slots := 2752, locals := 68 } : Room)) (fun a U => a = #[(.ref a1), (.ref x1)] ∧ Z.Warmed39 U.vm ∧ U.heap = h0) (fun _ _ bl s _ => s.vm.MethodsKnown ∧ s.vm.FramesKnown bl) (fun _ U o U' => ∃ v L, o = .returned v ∧ Q_exRuntimeException Z a1 x1 vU vS h0 n0 v U'.heap L ∧ FrameEnd U o U' L ({ frames := 5, cells := 1, slots := 2752, locals := 68 } : Room).cells ({ frames := 5, cells := 1, slots := 2752, locals := 68 } : Room).slots) := by
  refine MetFree.of_bodySF (plainFor_of_name pn_java_lang_RuntimeException) hisR ?_
  intro p e s m args below meth c s₁ Bd hml0 hP hK
  obtain ⟨rfl, hZ, hh⟩ := hP
  have hx := Bd.exec
  have hby := Bd.bytes
  have hml : c.maxLocals = 2 := hml0
  have hown : s.vm.findClass "java/lang/RuntimeException" = some m.cls := findClass_of_methodNamed Bd.named
  have hnm := (name_of_methodNamed Bd.named Bd.method).1
  have X0 : Stand p l e ({ frames := 5, cells := 1, slots := 2752, locals := 68 } : Room) s m #[(.ref a1), (.ref x1)] below meth c s₁ [] 0 0 := Stand.of_body Bd
  have e0 : s₁.heap = h0 := by rw [← hh, Bd.state]; rfl
  have N0 := Fr.nil n0
  have pre0 : ∀ t, Steps p.tables e below (s₁.setTop (mkF m 0 #[.val (.ref a1), .val (.ref x1)] [])) t → Steps p.tables e below (s₁.setTop (entryFrame m #[(.ref a1), (.ref x1)] 2)) t := fun t k => castTop (ef_exRuntimeException m a1 x1) k
  obtain ⟨_, _, ⟨T1_, L1_, k1_, n1_⟩, -, X1_, ⟨Lc1_, hQ1_, l1_, y1_, z1_⟩, st1_⟩ := X0.specialBack hx (y := (⟨"java/lang/Exception", "<init>", "(Ljava/lang/String;)V"⟩ : MethodName)) rfl hown (mvT hZ (own_w hw 63 rfl)) (mvT hZ (own_w hw 64 rfl)) (mvT hZ (own_w hw 68 rfl)) (by decide) (backOfKL (W := 0) (exException l Z a0 hw [] a1 x1 vU vS h0 n0 Z0 E1 U1 Nu0 Nu1 Nu2 Nu3 Nu4 Mu0 Mu1 g1 TU rU TS rS O1 hl) hZ (own_w hw 68 rfl) (own_w hw 67 rfl) (by decide) (by decide) (Vm.MethodsKnown.alikeC ((State.Warmed39.alike hZ).symm.trans (State.Warmed39.alike hZ)) hK.1) (Vm.FramesKnown.alikeC ((State.Warmed39.alike hZ).symm.trans (State.Warmed39.alike hZ)) hK.2)) (g := (mkF m 2 #[.val (.ref a1), .val (.ref x1)] [(.ref x1), (.ref a1)])) rfl (by rw [hml]; rfl) (Steps.refl _) (a := a1) (argsL := [(.ref x1)]) (rest := []) (lenOf pd_qLjava_lang_StringzV rfl) rfl (by show 2 * 0 + _ ≤ _; exact Nat.le_of_eq rfl) (hb hby d12_2) (fun _ _ => ⟨rfl, e0, (by exact own_b rfl), (by exact own_b rfl)⟩)
  dsimp only [Pt.U, Pt.locs, Pt.cells, Pt.slots] at X1_ l1_ y1_ z1_ st1_ hQ1_
  subst L1_ k1_ n1_
  obtain ⟨rfl, Nq1_, ek1_, p1__0, p1__1, p1__2, p1__3, p1__4, p1__5⟩ := hQ1_
  have N1_ := Fr.app N0 Nq1_
  have k2_ : Keep h0 T1_.heap [a1] := (Keep.refl h0 [a1]).trans ek1_ (allS (Or.inl (List.mem_of_getElem? (i := 0) rfl)) all0)
  obtain ⟨fs, hr, hrun, hended, hW, hsame⟩ := X1_.leave (v := none) (fun h => by first | rfl | (rw [Bd.returns] at h; cases h))
  refine ⟨_, _, pre0 _ ?_, hrun, hended, _, _, rfl, ?_, ⟨_, rfl⟩, hW, hsame.mono (by exact own_b rfl) (by exact own_b rfl)⟩
  · show Steps p.tables e below (s₁.setTop (mkF m 0 #[.val (.ref a1), .val (.ref x1)] [])) _
    refine XS.aloadN X0.here hx rfl (hb hby d12_0) rfl rfl ?_
    refine XS.aloadN X0.here hx rfl (hb hby d12_1) rfl rfl ?_
    refine st1_.trans ?_
    show Steps p.tables e below (T1_.setTop (mkF m 5 #[.val (.ref a1), .val (.ref x1)] [])) _
    exact X1_.returnOut hx Bd.returns (hb hby d12_5) hr
  · show Q_exRuntimeException Z a1 x1 vU vS h0 n0 _ T1_.heap _
    skip
    exact ⟨rfl, N1_, k2_, p1__0, p1__1, p1__2, p1__3, p1__4, p1__5⟩
theorem d11_0 : decode jdk_57_method_2_code 0 = .ok (.aload_n 0, 1) := by decide +kernel
theorem d11_1 : decode jdk_57_method_2_code 1 = .ok (.aload_n 1, 1) := by decide +kernel
theorem d11_2 : decode jdk_57_method_2_code 2 = .ok (.invokespecial 7, 3) := by decide +kernel
theorem d11_5 : decode jdk_57_method_2_code 5 = .ok (.return_, 1) := by decide +kernel
theorem pn_java_lang_IllegalArgumentException : plainName "java/lang/IllegalArgumentException" = true := by first | (simp [plainName, overriddenIn]; done) | decide +kernel
theorem ef_exIllegalArgumentException (m : MethodId) (x0 : Addr) (x1 : Addr) : entryFrame m #[(.ref x0), (.ref x1)] 2 = mkF m 0 #[.val (.ref x0), .val (.ref x1)] [] := by first | (simp [entryFrame, mkF, argsToLocals, Value.category]; done) | rfl
def Q_exIllegalArgumentException (Z : State) (a1 : Addr) (x1 : Addr) (vU : Value) (vS : Value) (h0 : Heap) (n0 : Nat) (v : Option Value) (h : Heap) (L : List Loc) : Prop := v = none ∧ Fr n0 L ∧ Keep h0 h [a1] ∧ (Exa Z h a1 "com/example/brisk_warden/briskwarden/core/UnsupportedNumberException") ∧ (Unt h a1) ∧ (Fld Z h a1 "java/lang/Throwable" "detailMessage" "Ljava/lang/String;" (.ref x1)) ∧ (Fld Z h a1 "java/lang/Throwable" "cause" "Ljava/lang/Throwable;" (.ref a1)) ∧ (Fld Z h a1 "com/example/brisk_warden/briskwarden/core/UnsupportedNumberException" "place" "Ljava/lang/String;" .null) ∧ (Fld Z h a1 "com/example/brisk_warden/briskwarden/core/UnsupportedNumberException" "problem" "Ljava/lang/String;" .null)
theorem exIllegalArgumentException (l : Launch) (Z : State) (a0 : Array Value) (hw : ∀ d ∈ tables_1, d.before a0 Z = true) (ws : List Jvm.Cond) (a1 : Addr) (x1 : Addr) (vU : Value) (vS : Value) (h0 : Heap) (n0 : Nat) (Z0 : n0 ≤ h0.size) (E1 : Exa Z h0 a1 "com/example/brisk_warden/briskwarden/core/UnsupportedNumberException") (U1 : Unt h0 a1) (Nu0 : Fld Z h0 a1 "java/lang/Throwable" "cause" "Ljava/lang/Throwable;" .null) (Nu1 : Fld Z h0 a1 "java/lang/Throwable" "stackTrace" "[Ljava/lang/StackTraceElement;" .null) (Nu2 : Fld Z h0 a1 "java/lang/Throwable" "suppressedExceptions" "Ljava/util/List;" .null) (Nu3 : Fld Z h0 a1 "java/lang/Throwable" "backtrace" "Ljava/lang/Object;" .null) (Nu4 : Fld Z h0 a1 "java/lang/Throwable" "detailMessage" "Ljava/lang/String;" .null) (Mu0 : Fld Z h0 a1 "com/example/brisk_warden/briskwarden/core/UnsupportedNumberException" "place" "Ljava/lang/String;" .null) (Mu1 : Fld Z h0 a1 "com/example/brisk_warden/briskwarden/core/UnsupportedNumberException" "problem" "Ljava/lang/String;" .null) (g1 : n0 ≤ a1) (TU : Sta Z Z.heap "java/lang/Throwable" "UNASSIGNED_STACK" "[Ljava/lang/StackTraceElement;" vU) (rU : vU.isRef = true) (TS : Sta Z Z.heap "java/lang/Throwable" "SUPPRESSED_SENTINEL" "Ljava/util/List;" vS) (rS : vS.isRef = true) (O1 : Old Z n0 h0) (hl : l.stackTraces = true) :
    MetFree l (⟨"java/lang/IllegalArgumentException", "<init>", "(Ljava/lang/String;)V"⟩ : MethodName) (head1 (Jvm.Cond.code (⟨"java/lang/IllegalArgumentException", "<init>", "(Ljava/lang/String;)V"⟩ : MethodName) jdk_57_method_2_code 2 none :: ws) ({ frames := 6, cells := 1, slots := 2752, locals := 81 } : Room)) (fun a U => a = #[(.ref a1), (.ref x1)] ∧ Z.Warmed39 U.vm ∧ U.heap = h0) (fun _ _ bl s _ => s.vm.MethodsKnown ∧ s.vm.FramesKnown bl) (fun _ U o U' => ∃ v L, o = .returned v ∧ Q_exIllegalArgumentException Z a1 x1 vU vS h0 n0 v U'.heap L ∧ FrameEnd U o U' L ({ frames := 6, cells := 1, slots := 2752, locals := 81 } : Room).cells ({ frames := 6, cells := 1, slots := 2752, locals := 81 } : Room).slots) := by
  refine MetFree.of_bodySF (plainFor_of_name pn_java_lang_IllegalArgumentException) hisR ?_
  intro p e s m args below meth c s₁ Bd hml0 hP hK
  obtain ⟨rfl, hZ, hh⟩ := hP
  have hx := Bd.exec
  have hby := Bd.bytes
  have hml : c.maxLocals = 2 := hml0
  have hown : s.vm.findClass "java/lang/IllegalArgumentException" = some m.cls := findClass_of_methodNamed Bd.named
  have hnm := (name_of_methodNamed Bd.named Bd.method).1
  have X0 : Stand p l e ({ frames := 6, cells := 1, slots := 2752, locals := 81 } : Room) s m #[(.ref a1), (.ref x1)] below meth c s₁ [] 0 0 := Stand.of_body Bd
  have e0 : s₁.heap = h0 := by rw [← hh, Bd.state]; rfl
  have N0 := Fr.nil n0
  have pre0 : ∀ t, Steps p.tables e below (s₁.setTop (mkF m 0 #[.val (.ref a1), .val (.ref x1)] [])) t → Steps p.tables e below (s₁.setTop (entryFrame m #[(.ref a1), (.ref x1)] 2)) t := fun t k => castTop (ef_exIllegalArgumentException m a1 x1) k
  obtain ⟨_, _, ⟨T1_, L1_, k1_, n1_⟩, -, X1_, ⟨Lc1_, hQ1_, l1_, y1_, z1_⟩, st1_⟩ := X0.specialBack hx (y := (⟨"java/lang/RuntimeException", "<init>", "(Ljava/lang/String;)V"⟩ : MethodName)) rfl hown (mvT hZ (own_w hw 57 rfl)) (mvT hZ (own_w hw 58 rfl)) (mvT hZ (own_w hw 62 rfl)) (by decide) (backOfKL (W := 0) (exRuntimeException l Z a0 hw [] a1 x1 vU vS h0 n0 Z0 E1 U1 Nu0 Nu1 Nu2 Nu3 Nu4 Mu0 Mu1 g1 TU rU TS rS O1 hl) hZ (own_w hw 62 rfl) (own_w hw 61 rfl) (by decide) (by decide) (Vm.MethodsKnown.alikeC ((State.Warmed39.alike hZ).symm.trans (State.Warmed39.alike hZ)) hK.1) (Vm.FramesKnown.alikeC ((State.Warmed39.alike hZ).symm.trans (State.Warmed39.alike hZ)) hK.2)) (g := (mkF m 2 #[.val (.ref a1), .val (.ref x1)] [(.ref x1), (.ref a1)])) rfl (by rw [hml]; rfl) (Steps.refl _) (a := a1) (argsL := [(.ref x1)]) (rest := []) (lenOf pd_qLjava_lang_StringzV rfl) rfl (by show 2 * 0 + _ ≤ _; exact Nat.le_of_eq rfl) (hb hby d11_2) (fun _ _ => ⟨rfl, e0, (by exact own_b rfl), (by exact own_b rfl)⟩)
  dsimp only [Pt.U, Pt.locs, Pt.cells, Pt.slots] at X1_ l1_ y1_ z1_ st1_ hQ1_
  subst L1_ k1_ n1_
  obtain ⟨rfl, Nq1_, ek1_, p1__0, p1__1, p1__2, p1__3, p1__4, p1__5⟩ := hQ1_
  have N1_ := Fr.app N0 Nq1_
  have k2_ : Keep h0 T1_.heap [a1] := (Keep.refl h0 [a1]).trans ek1_ (allS (Or.inl (List.mem_of_getElem? (i := 0) rfl)) all0)
  obtain ⟨fs, hr, hrun, hended, hW, hsame⟩ := X1_.leave (v := none) (fun h => by first | rfl | (rw [Bd.returns] at h; cases h))
  refine ⟨_, _, pre0 _ ?_, hrun, hended, _, _, rfl, ?_, ⟨_, rfl⟩, hW, hsame.mono (by exact own_b rfl) (by exact own_b rfl)⟩
  · show Steps p.tables e below (s₁.setTop (mkF m 0 #[.val (.ref a1), .val (.ref x1)] [])) _
    refine XS.aloadN X0.here hx rfl (hb hby d11_0) rfl rfl ?_
    refine XS.aloadN X0.here hx rfl (hb hby d11_1) rfl rfl ?_
    refine st1_.trans ?_
    show Steps p.tables e below (T1_.setTop (mkF m 5 #[.val (.ref a1), .val (.ref x1)] [])) _
    exact X1_.returnOut hx Bd.returns (hb hby d11_5) hr
  · show Q_exIllegalArgumentException Z a1 x1 vU vS h0 n0 _ T1_.heap _
    skip
    exact ⟨rfl, N1_, k2_, p1__0, p1__1, p1__2, p1__3, p1__4, p1__5⟩
theorem d48_0 : decode jdk_42_method_66_code 0 = .ok (.aload_n 0, 1) := by decide +kernel
theorem d48_1 : decode jdk_42_method_66_code 1 = .ok (.aload_n 1, 1) := by decide +kernel
theorem d48_2 : decode jdk_42_method_66_code 2 = .ok (.if_acmp .ne 5, 3) := by decide +kernel
theorem d48_5 : decode jdk_42_method_66_code 5 = .ok (.iconst 1, 1) := by decide +kernel
theorem d48_6 : decode jdk_42_method_66_code 6 = .ok (.ireturn, 1) := by decide +kernel
theorem ef_rmEqS (m : MethodId) (x0 : Addr) (x1 : Addr) : entryFrame m #[(.ref x0), (.ref x1)] 3 = mkF m 0 #[.val (.ref x0), .val (.ref x1), .unset] [] := by first | (simp [entryFrame, mkF, argsToLocals, Value.category]; done) | rfl
def Q_rmEqS (Z : State) (x1 : Addr) (h0 : Heap) (n0 : Nat) (v : Option Value) (h : Heap) (L : List Loc) : Prop := v = some (.int (1 : Int32)) ∧ Fr n0 L ∧ h = h0
theorem rmEqS (l : Launch) (Z : State) (a0 : Array Value) (hw : ∀ d ∈ tables_1, d.before a0 Z = true) (ws : List Jvm.Cond) (x1 : Addr) (h0 : Heap) (n0 : Nat) (Z0 : n0 ≤ h0.size)  :
    MetFree l (⟨"java/lang/String", "equals", "(Ljava/lang/Object;)Z"⟩ : MethodName) (head1 (Jvm.Cond.code (⟨"java/lang/String", "equals", "(Ljava/lang/Object;)Z"⟩ : MethodName) jdk_42_method_66_code 3 (some .boolean) :: ws) ({ frames := 0, cells := 0, slots := 0, locals := 0 } : Room)) (fun a U => a = #[(.ref x1), (.ref x1)] ∧ Z.Warmed39 U.vm ∧ U.heap = h0) (fun _ _ _ _ _ => True) (fun _ U o U' => ∃ v L, o = .returned v ∧ Q_rmEqS Z x1 h0 n0 v U'.heap L ∧ FrameEnd U o U' L ({ frames := 0, cells := 0, slots := 0, locals := 0 } : Room).cells ({ frames := 0, cells := 0, slots := 0, locals := 0 } : Room).slots) := by
  refine MetFree.of_bodySF (plainFor_of_name pn_java_lang_String) hisR ?_
  intro p e s m args below meth c s₁ Bd hml0 hP hK
  obtain ⟨rfl, hZ, hh⟩ := hP
  have hx := Bd.exec
  have hby := Bd.bytes
  have hml : c.maxLocals = 3 := hml0
  have hown : s.vm.findClass "java/lang/String" = some m.cls := findClass_of_methodNamed Bd.named
  have hnm := (name_of_methodNamed Bd.named Bd.method).1
  have X0 : Stand p l e ({ frames := 0, cells := 0, slots := 0, locals := 0 } : Room) s m #[(.ref x1), (.ref x1)] below meth c s₁ [] 0 0 := Stand.of_body Bd
  have e0 : s₁.heap = h0 := by rw [← hh, Bd.state]; rfl
  have N0 := Fr.nil n0
  have pre0 : ∀ t, Steps p.tables e below (s₁.setTop (mkF m 0 #[.val (.ref x1), .val (.ref x1), .unset] [])) t → Steps p.tables e below (s₁.setTop (entryFrame m #[(.ref x1), (.ref x1)] 3)) t := fun t k => castTop (ef_rmEqS m x1 x1) k
  obtain ⟨fs, hr, hrun, hended, hW, hsame⟩ := X0.leave (v := some (.int (1 : Int32))) (fun h => by first | rfl | (rw [Bd.returns] at h; cases h))
  refine ⟨_, _, pre0 _ ?_, hrun, hended, _, _, rfl, ?_, ⟨_, rfl⟩, hW, hsame.mono (by exact own_b rfl) (by exact own_b rfl)⟩
  · show Steps p.tables e below (s₁.setTop (mkF m 0 #[.val (.ref x1), .val (.ref x1), .unset] [])) _
    refine XS.aloadN X0.here hx rfl (hb hby d48_0) rfl rfl ?_
    refine XS.aloadN X0.here hx rfl (hb hby d48_1) rfl rfl ?_
    refine Jvm.RoadKit.acmp (g := (mkF m 2 #[.val (.ref x1), .val (.ref x1), .unset] [(.ref x1), (.ref x1)])) X0 hx rfl rfl rfl (pc0 := 2) (pc' := 5) (same := true) rfl (hb hby d48_2) rfl (decide_eq_true rfl) (by decide) (by decide) ?_
    show Steps p.tables e below (s₁.setTop (mkF m 5 #[.val (.ref x1), .val (.ref x1), .unset] [])) _
    refine XS.iconst X0.here hx rfl (hb hby d48_5) ?_
    exact retN X0 hx (t := .boolean) Bd.returns (by simp) (hb hby d48_6) hr
  · show Q_rmEqS Z x1 h0 n0 _ s₁.heap _
    rw [e0]
    exact ⟨rfl, N0, rfl⟩
theorem d3_0 : decode jdk_43_method_3_code 0 = .ok (.iload_n 0, 1) := by decide +kernel
theorem d3_1 : decode jdk_43_method_3_code 1 = .ok (.sipush 255, 3) := by decide +kernel
theorem d3_4 : decode jdk_43_method_3_code 4 = .ok (.if_icmp .gt 7, 3) := by decide +kernel
theorem d3_7 : decode jdk_43_method_3_code 7 = .ok (.iconst 1, 1) := by decide +kernel
theorem d3_8 : decode jdk_43_method_3_code 8 = .ok (.goto 4, 3) := by decide +kernel
theorem d3_12 : decode jdk_43_method_3_code 12 = .ok (.ireturn, 1) := by decide +kernel
theorem pn_java_lang_StringLatin1 : plainName "java/lang/StringLatin1" = true := by first | (simp [plainName, overriddenIn]; done) | decide +kernel
theorem ef_svCan (m : MethodId) (x0 : Int32) : entryFrame m #[(.int x0)] 1 = mkF m 0 #[.val (.int x0)] [] := by first | (simp [entryFrame, mkF, argsToLocals, Value.category]; done) | rfl
def Q_svCan (Z : State) (c1 : Int32) (h0 : Heap) (n0 : Nat) (v : Option Value) (h : Heap) (L : List Loc) : Prop := v = some (.int (1 : Int32)) ∧ Fr n0 L ∧ h = h0
theorem svCan (l : Launch) (Z : State) (a0 : Array Value) (hw : ∀ d ∈ tables_1, d.before a0 Z = true) (ws : List Jvm.Cond) (c1 : Int32) (h0 : Heap) (n0 : Nat) (Z0 : n0 ≤ h0.size) (hc : ¬ ((255 : Int32) < c1)) :
    MetFree l (⟨"java/lang/StringLatin1", "canEncode", "(C)Z"⟩ : MethodName) (head1 (Jvm.Cond.code (⟨"java/lang/StringLatin1", "canEncode", "(C)Z"⟩ : MethodName) jdk_43_method_3_code 1 (some .boolean) :: ws) ({ frames := 0, cells := 0, slots := 0, locals := 0 } : Room)) (fun a U => a = #[(.int c1)] ∧ Z.Warmed39 U.vm ∧ U.heap = h0) (fun _ _ _ _ _ => True) (fun _ U o U' => ∃ v L, o = .returned v ∧ Q_svCan Z c1 h0 n0 v U'.heap L ∧ FrameEnd U o U' L ({ frames := 0, cells := 0, slots := 0, locals := 0 } : Room).cells ({ frames := 0, cells := 0, slots := 0, locals := 0 } : Room).slots) := by
  refine MetFree.of_bodySF (plainFor_of_name pn_java_lang_StringLatin1) hisR ?_
  intro p e s m args below meth c s₁ Bd hml0 hP hK
  obtain ⟨rfl, hZ, hh⟩ := hP
  have hx := Bd.exec
  have hby := Bd.bytes
  have hml : c.maxLocals = 1 := hml0
  have hown : s.vm.findClass "java/lang/StringLatin1" = some m.cls := findClass_of_methodNamed Bd.named
  have hnm := (name_of_methodNamed Bd.named Bd.method).1
  have X0 : Stand p l e ({ frames := 0, cells := 0, slots := 0, locals := 0 } : Room) s m #[(.int c1)] below meth c s₁ [] 0 0 := Stand.of_body Bd
  have e0 : s₁.heap = h0 := by rw [← hh, Bd.state]; rfl
  have N0 := Fr.nil n0
  have pre0 : ∀ t, Steps p.tables e below (s₁.setTop (mkF m 0 #[.val (.int c1)] [])) t → Steps p.tables e below (s₁.setTop (entryFrame m #[(.int c1)] 1)) t := fun t k => castTop (ef_svCan m c1) k
  obtain ⟨fs, hr, hrun, hended, hW, hsame⟩ := X0.leave (v := some (.int (1 : Int32))) (fun h => by first | rfl | (rw [Bd.returns] at h; cases h))
  refine ⟨_, _, pre0 _ ?_, hrun, hended, _, _, rfl, ?_, ⟨_, rfl⟩, hW, hsame.mono (by exact own_b rfl) (by exact own_b rfl)⟩
  · show Steps p.tables e below (s₁.setTop (mkF m 0 #[.val (.int c1)] [])) _
    refine XS.iloadN X0.here hx rfl (hb hby d3_0) rfl ?_
    refine XS.sipush X0.here hx rfl (hb hby d3_1) ?_
    refine XS.icmpNo X0.here hx rfl (hb hby d3_4) rfl (flt (hc : ¬ ((255 : Int32) < c1))).2.2.1 ?_
    refine XS.iconst X0.here hx rfl (hb hby d3_7) ?_
    refine XS.goto X0.here hx rfl (pc0 := 8) (pc' := 12) rfl (hb hby d3_8) (by decide) (by decide) ?_
    exact retN X0 hx (t := .boolean) Bd.returns (by simp) (hb hby d3_12) hr
  · show Q_svCan Z c1 h0 n0 _ s₁.heap _
    rw [e0]
    exact ⟨rfl, N0, rfl⟩
theorem d4_0 : decode jdk_43_method_46_code 0 = .ok (.iconst 1, 1) := by decide +kernel
theorem d4_1 : decode jdk_43_method_46_code 1 = .ok (.newarray .byte, 2) := by decide +kernel
theorem d4_3 : decode jdk_43_method_46_code 3 = .ok (.dup, 1) := by decide +kernel
theorem d4_4 : decode jdk_43_method_46_code 4 = .ok (.iconst 0, 1) := by decide +kernel
theorem d4_5 : decode jdk_43_method_46_code 5 = .ok (.iload_n 0, 1) := by decide +kernel
theorem d4_6 : decode jdk_43_method_46_code 6 = .ok (.i2b, 1) := by decide +kernel
theorem d4_7 : decode jdk_43_method_46_code 7 = .ok (.bastore, 1) := by decide +kernel
theorem d4_8 : decode jdk_43_method_46_code 8 = .ok (.areturn, 1) := by decide +kernel
theorem ef_svBytes (m : MethodId) (x0 : Int32) : entryFrame m #[(.int x0)] 1 = mkF m 0 #[.val (.int x0)] [] := by first | (simp [entryFrame, mkF, argsToLocals, Value.category]; done) | rfl
def Q_svBytes (Z : State) (c1 : Int32) (h0 : Heap) (n0 : Nat) (v : Option Value) (h : Heap) (L : List Loc) : Prop := ∃ (t1 : Addr) (k1 : ClassId), v = some (.ref t1) ∧ Fr n0 L ∧ Keep h0 h [] ∧ (Arv Z h t1 k1 .byte (Int32.ofNat ([c1] : List Int32).length) (own_by [c1]) (.int (0 : Int32))) ∧ (h0.size ≤ t1)
theorem svBytes (l : Launch) (Z : State) (a0 : Array Value) (hw : ∀ d ∈ tables_1, d.before a0 Z = true) (ws : List Jvm.Cond) (c1 : Int32) (h0 : Heap) (n0 : Nat) (Z0 : n0 ≤ h0.size)  :
    MetFree l (⟨"java/lang/StringLatin1", "toBytes", "(C)[B"⟩ : MethodName) (head1 (Jvm.Cond.code (⟨"java/lang/StringLatin1", "toBytes", "(C)[B"⟩ : MethodName) jdk_43_method_46_code 1 (some (.array .byte)) :: ws) ({ frames := 0, cells := 1, slots := 1, locals := 0 } : Room)) (fun a U => a = #[(.int c1)] ∧ Z.Warmed39 U.vm ∧ U.heap = h0) (fun _ _ _ _ _ => True) (fun _ U o U' => ∃ v L, o = .returned v ∧ Q_svBytes Z c1 h0 n0 v U'.heap L ∧ FrameEnd U o U' L ({ frames := 0, cells := 1, slots := 1, locals := 0 } : Room).cells ({ frames := 0, cells := 1, slots := 1, locals := 0 } : Room).slots) := by
  refine MetFree.of_bodySF (plainFor_of_name pn_java_lang_StringLatin1) hisR ?_
  intro p e s m args below meth c s₁ Bd hml0 hP hK
  obtain ⟨rfl, hZ, hh⟩ := hP
  have hx := Bd.exec
  have hby := Bd.bytes
  have hml : c.maxLocals = 1 := hml0
  have hown : s.vm.findClass "java/lang/StringLatin1" = some m.cls := findClass_of_methodNamed Bd.named
  have hnm := (name_of_methodNamed Bd.named Bd.method).1
  have X0 : Stand p l e ({ frames := 0, cells := 1, slots := 1, locals := 0 } : Room) s m #[(.int c1)] below meth c s₁ [] 0 0 := Stand.of_body Bd
  have e0 : s₁.heap = h0 := by rw [← hh, Bd.state]; rfl
  have N0 := Fr.nil n0
  have pre0 : ∀ t, Steps p.tables e below (s₁.setTop (mkF m 0 #[.val (.int c1)] [])) t → Steps p.tables e below (s₁.setTop (entryFrame m #[(.int c1)] 1)) t := fun t k => castTop (ef_svBytes m c1) k
  obtain ⟨T1_, h1_, k1_, X1_, e1_, E1_, A1_, st1_⟩ := newP X0 hx hZ (own_w hw 18 rfl) e0 (g := (mkF m 1 #[.val (.int c1)] [(.int (1 : Int32))])) rfl (hb hby d4_1) rfl (by decide) (cap := 1) (by decide) (by decide) (by exact own_b rfl) (by exact own_b rfl)
  obtain ⟨b1_, g1_⟩ : ∃ z, z = h0.size := ⟨_, rfl⟩
  rw [← g1_] at A1_ st1_
  have v1_ : Arv Z h1_ b1_ k1_ .byte (1 : Int32) [(.int (0 : Int32))] (.int (0 : Int32)) := (Arv.new A1_ (by decide)).pad (pad_rep [] (.int (0 : Int32)) 1)
  have g3_ : n0 ≤ b1_ := Nat.le_trans Z0 (Nat.le_of_eq g1_.symm)
  obtain ⟨cl2_, Ar2_, q2_, S2_, M2_, Hs2_, G2_⟩ := id v1_
  have in2_ : ¬ ((0 : Int32) < 0 ∨ cl2_.slots.size ≤ ((0 : Int32)).toNatClampNeg) := inb_of S2_ ⟨by decide, by decide⟩
  obtain ⟨T2_, h2_, X2_, e2_, W2_, st2_⟩ := stB X1_ hx hZ e1_ Ar2_ (j := (0 : Int32)) in2_ (g := (mkF m 7 #[.val (.int c1)] [(.int (c1.toInt8.toInt32)), (.int (0 : Int32)), (.ref b1_), (.ref b1_)])) rfl rfl (hb hby d4_7)
  have v2_ : Arv Z h2_ b1_ k1_ .byte (1 : Int32) [(.int (nar .byte (c1.toInt8.toInt32)))] (.int (0 : Int32)) := Arv.set Ar2_ q2_ S2_ M2_ Hs2_ G2_ (fits_nar_byte _) W2_ 0 rfl (Nat.le_of_ble_eq_true rfl)
  have N2_ := Fr.snoc X2_ N0 g3_
  have vb_ : Arv Z h2_ b1_ k1_ .byte (Int32.ofNat ([c1] : List Int32).length) (own_by [c1]) (.int (0 : Int32)) := by rw [show own_by [c1] = [.int (nar .byte (c1.toInt8.toInt32))] from by rw [own_nb]; rfl]; exact v2_
  have k4_ : Keep h0 h1_ [] := (Keep.refl h0 []).ext E1_
  have k5_ : Keep h0 h2_ [] := k4_.wr W2_ (Or.inr (Nat.le_trans (Keep.refl h0 []).1 (Nat.le_of_eq g1_.symm)))
  obtain ⟨fs, hr, hrun, hended, hW, hsame⟩ := X2_.leave (v := some (.ref b1_)) (fun h => by first | rfl | (rw [Bd.returns] at h; cases h))
  refine ⟨_, _, pre0 _ ?_, hrun, hended, _, _, rfl, ?_, ⟨_, rfl⟩, hW, hsame.mono (by exact own_b rfl) (by exact own_b rfl)⟩
  · show Steps p.tables e below (s₁.setTop (mkF m 0 #[.val (.int c1)] [])) _
    refine XS.iconst X0.here hx rfl (hb hby d4_0) ?_
    refine st1_ _ ?_
    show Steps p.tables e below (T1_.setTop (mkF m 3 #[.val (.int c1)] [(.ref b1_)])) _
    refine XS.dup X1_.here hx rfl (hb hby d4_3) rfl rfl ?_
    refine XS.iconst X1_.here hx rfl (hb hby d4_4) ?_
    refine XS.iloadN X1_.here hx rfl (hb hby d4_5) rfl ?_
    refine XS.i2b X1_.here hx rfl (hb hby d4_6) rfl ?_
    show Steps p.tables e below (T1_.setTop (mkF m 7 #[.val (.int c1)] [(.int (c1.toInt8.toInt32)), (.int (0 : Int32)), (.ref b1_), (.ref b1_)])) _
    refine st2_ _ ?_
    show Steps p.tables e below (T2_.setTop (mkF m 8 #[.val (.int c1)] [(.ref b1_)])) _
    exact retR X2_ hx Bd.returns rfl rfl rfl (hb hby d4_8) hr
  · show Q_svBytes Z c1 h0 n0 _ T2_.heap _
    rw [e2_]
    exact ⟨b1_, k1_, rfl, N2_, k5_, vb_, (Nat.le_trans (Keep.refl h0 []).1 (Nat.le_of_eq g1_.symm))⟩
theorem d5_0 : decode jdk_42_method_151_code 0 = .ok (.aload_n 0, 1) := by decide +kernel
theorem d5_1 : decode jdk_42_method_151_code 1 = .ok (.invokespecial 1, 3) := by decide +kernel
theorem d5_4 : decode jdk_42_method_151_code 4 = .ok (.aload_n 0, 1) := by decide +kernel
theorem d5_5 : decode jdk_42_method_151_code 5 = .ok (.aload_n 1, 1) := by decide +kernel
theorem d5_6 : decode jdk_42_method_151_code 6 = .ok (.putfield 9, 3) := by decide +kernel
theorem d5_9 : decode jdk_42_method_151_code 9 = .ok (.aload_n 0, 1) := by decide +kernel
theorem d5_10 : decode jdk_42_method_151_code 10 = .ok (.iload_n 2, 1) := by decide +kernel
theorem d5_11 : decode jdk_42_method_151_code 11 = .ok (.putfield 15, 3) := by decide +kernel
theorem d5_14 : decode jdk_42_method_151_code 14 = .ok (.return_, 1) := by decide +kernel
theorem ef_svInit (m : MethodId) (x0 : Addr) (x1 : Addr) (x2 : Int32) : entryFrame m #[(.ref x0), (.ref x1), (.int x2)] 3 = mkF m 0 #[.val (.ref x0), .val (.ref x1), .val (.int x2)] [] := by first | (simp [entryFrame, mkF, argsToLocals, Value.category]; done) | rfl
def Q_svInit (Z : State) (x1 : Addr) (t1 : Addr) (h0 : Heap) (n0 : Nat) (v : Option Value) (h : Heap) (L : List Loc) : Prop := v = none ∧ Fr n0 L ∧ Keep h0 h [x1] ∧ (Fld Z h x1 "java/lang/String" "coder" "B" (.int (0 : Int32))) ∧ (Fld Z h x1 "java/lang/String" "value" "[B" (.ref t1))
theorem svInit (l : Launch) (Z : State) (a0 : Array Value) (hw : ∀ d ∈ tables_1, d.before a0 Z = true) (ws : List Jvm.Cond) (x1 : Addr) (t1 : Addr) (h0 : Heap) (n0 : Nat) (Z0 : n0 ≤ h0.size) (E2 : Exa Z h0 x1 "java/lang/String") (X1 : Fld Z h0 x1 "java/lang/String" "coder" "B" (.int (0 : Int32))) (X2 : Fld Z h0 x1 "java/lang/String" "value" "[B" .null) (g3 : n0 ≤ x1) :
    MetFree l (⟨"java/lang/String", "<init>", "([BB)V"⟩ : MethodName) (head1 (Jvm.Cond.code (⟨"java/lang/String", "<init>", "([BB)V"⟩ : MethodName) jdk_42_method_151_code 3 none :: ws) ({ frames := 1, cells := 0, slots := 0, locals := 12 } : Room)) (fun a U => a = #[(.ref x1), (.ref t1), (.int (0 : Int32))] ∧ Z.Warmed39 U.vm ∧ U.heap = h0) (fun _ _ _ _ _ => True) (fun _ U o U' => ∃ v L, o = .returned v ∧ Q_svInit Z x1 t1 h0 n0 v U'.heap L ∧ FrameEnd U o U' L ({ frames := 1, cells := 0, slots := 0, locals := 12 } : Room).cells ({ frames := 1, cells := 0, slots := 0, locals := 12 } : Room).slots) := by
  refine MetFree.of_bodySF (plainFor_of_name pn_java_lang_String) hisR ?_
  intro p e s m args below meth c s₁ Bd hml0 hP hK
  obtain ⟨rfl, hZ, hh⟩ := hP
  have hx := Bd.exec
  have hby := Bd.bytes
  have hml : c.maxLocals = 3 := hml0
  have hown : s.vm.findClass "java/lang/String" = some m.cls := findClass_of_methodNamed Bd.named
  have hnm := (name_of_methodNamed Bd.named Bd.method).1
  have X0 : Stand p l e ({ frames := 1, cells := 0, slots := 0, locals := 12 } : Room) s m #[(.ref x1), (.ref t1), (.int (0 : Int32))] below meth c s₁ [] 0 0 := Stand.of_body Bd
  have e0 : s₁.heap = h0 := by rw [← hh, Bd.state]; rfl
  have N0 := Fr.nil n0
  have pre0 : ∀ t, Steps p.tables e below (s₁.setTop (mkF m 0 #[.val (.ref x1), .val (.ref t1), .val (.int (0 : Int32))] [])) t → Steps p.tables e below (s₁.setTop (entryFrame m #[(.ref x1), (.ref t1), (.int (0 : Int32))] 3)) t := fun t k => castTop (ef_svInit m x1 t1 (0 : Int32)) k
  obtain ⟨T1_, X1_, e1_, st1_⟩ := initO X0 hx hZ hown (own_w hw 23 rfl) (own_w hw 24 rfl) (own_w hw 25 rfl) e0 (g := (mkF m 1 #[.val (.ref x1), .val (.ref t1), .val (.int (0 : Int32))] [(.ref x1)])) rfl (by rw [hml]; rfl) rfl (hb hby d5_1) (by decide) (W := 0) (by show 2 * 0 + _ ≤ _; exact Nat.le_of_eq rfl) (by decide)
  obtain ⟨T2_, h2_, X2_, e2_, W2_, st2_⟩ := putF X1_ hx hZ hown (host := "") (Or.inl (own_w hw 26 rfl)) Via.refl e1_ X2 E2 (Or.inr ⟨(own_w hw 27 rfl), rfl, hnm⟩) (own_w hw 14 rfl) (ty := (.array .byte)) (by decide) rfl rfl (g := (mkF m 6 #[.val (.ref x1), .val (.ref t1), .val (.int (0 : Int32))] [(.ref t1), (.ref x1)])) rfl rfl (hb hby d5_6)
  have w2_ : Fld Z h2_ x1 "java/lang/String" "value" "[B" (.ref t1) := X2.same W2_
  have N2_ := Fr.snoc X2_ N0 g3
  have f3_ : Exa Z h2_ x1 "java/lang/String" := (E2.wr W2_)
  have f4_ : Fld Z h2_ x1 "java/lang/String" "coder" "B" (.int (0 : Int32)) := (X1.other W2_ (Or.inr (slot_ne (Or.inr (own_w hw 29 rfl)) (Or.inr (own_w hw 27 rfl)) (by decide) (t := .byte) (t' := (.array .byte)) (by decide) (by decide))))
  obtain ⟨T5_, h5_, X5_, e5_, W5_, st5_⟩ := putFN X2_ hx hZ hown (own_w hw 28 rfl) Via.refl e2_ f4_ f3_ (Or.inr ⟨(own_w hw 29 rfl), rfl, hnm⟩) (own_w hw 14 rfl) (ty := .byte) (v' := (.int (0 : Int32))) (by decide) rfl rfl (g := (mkF m 11 #[.val (.ref x1), .val (.ref t1), .val (.int (0 : Int32))] [(.int (0 : Int32)), (.ref x1)])) rfl rfl (hb hby d5_11)
  have w5_ : Fld Z h5_ x1 "java/lang/String" "coder" "B" (.int (0 : Int32)) := f4_.same W5_
  have N5_ := Fr.snoc X5_ N2_ g3
  have f6_ : Fld Z h5_ x1 "java/lang/String" "value" "[B" (.ref t1) := (w2_.other W5_ (Or.inr (slot_ne (Or.inr (own_w hw 27 rfl)) (Or.inr (own_w hw 29 rfl)) (by decide) (t := (.array .byte)) (t' := .byte) (by decide) (by decide))))
  have k7_ : Keep h0 h2_ [x1] := (Keep.refl h0 [x1]).wr W2_ (Or.inl (List.mem_of_getElem? (i := 0) rfl))
  have k8_ : Keep h0 h5_ [x1] := k7_.wr W5_ (Or.inl (List.mem_of_getElem? (i := 0) rfl))
  obtain ⟨fs, hr, hrun, hended, hW, hsame⟩ := X5_.leave (v := none) (fun h => by first | rfl | (rw [Bd.returns] at h; cases h))
  refine ⟨_, _, pre0 _ ?_, hrun, hended, _, _, rfl, ?_, ⟨_, rfl⟩, hW, hsame.mono (by exact own_b rfl) (by exact own_b rfl)⟩
  · show Steps p.tables e below (s₁.setTop (mkF m 0 #[.val (.ref x1), .val (.ref t1), .val (.int (0 : Int32))] [])) _
    refine XS.aloadN X0.here hx rfl (hb hby d5_0) rfl rfl ?_
    refine st1_ _ ?_
    show Steps p.tables e below (T1_.setTop (mkF m 4 #[.val (.ref x1), .val (.ref t1), .val (.int (0 : Int32))] [])) _
    refine XS.aloadN X1_.here hx rfl (hb hby d5_4) rfl rfl ?_
    refine XS.aloadN X1_.here hx rfl (hb hby d5_5) rfl rfl ?_
    refine st2_ _ ?_
    show Steps p.tables e below (T2_.setTop (mkF m 9 #[.val (.ref x1), .val (.ref t1), .val (.int (0 : Int32))] [])) _
    refine XS.aloadN X2_.here hx rfl (hb hby d5_9) rfl rfl ?_
    refine XS.iloadN X2_.here hx rfl (hb hby d5_10) rfl ?_
    refine st5_ _ ?_
    show Steps p.tables e below (T5_.setTop (mkF m 14 #[.val (.ref x1), .val (.ref t1), .val (.int (0 : Int32))] [])) _
    exact X5_.returnOut hx Bd.returns (hb hby d5_14) hr
  · show Q_svInit Z x1 t1 h0 n0 _ T5_.heap _
    rw [e5_]
    exact ⟨rfl, N5_, k8_, w5_, f6_⟩
theorem d2_0 : decode jdk_42_method_139_code 0 = .ok (.getstatic 38, 3) := by decide +kernel
theorem d2_3 : decode jdk_42_method_139_code 3 = .ok (.ifCond .eq 23, 3) := by decide +kernel
theorem d2_6 : decode jdk_42_method_139_code 6 = .ok (.iload_n 0, 1) := by decide +kernel
theorem d2_7 : decode jdk_42_method_139_code 7 = .ok (.invokestatic 1015, 3) := by decide +kernel
theorem pd_qCzZ : parseMethodDescriptor "(C)Z" = some ⟨[.char], some .boolean⟩ := by decide +kernel
theorem d2_10 : decode jdk_42_method_139_code 10 = .ok (.ifCond .eq 16, 3) := by decide +kernel
theorem d2_13 : decode jdk_42_method_139_code 13 = .ok (.new 10, 3) := by decide +kernel
theorem d2_16 : decode jdk_42_method_139_code 16 = .ok (.dup, 1) := by decide +kernel
theorem d2_17 : decode jdk_42_method_139_code 17 = .ok (.iload_n 0, 1) := by decide +kernel
theorem d2_18 : decode jdk_42_method_139_code 18 = .ok (.invokestatic 1018, 3) := by decide +kernel
theorem pd_qCzaB : parseMethodDescriptor "(C)[B" = some ⟨[.char], some (.array .byte)⟩ := by decide +kernel
theorem d2_21 : decode jdk_42_method_139_code 21 = .ok (.iconst 0, 1) := by decide +kernel
theorem d2_22 : decode jdk_42_method_139_code 22 = .ok (.invokespecial 209, 3) := by decide +kernel
theorem pd_qaBBzV : parseMethodDescriptor "([BB)V" = some ⟨[(.array .byte), .byte], none⟩ := by decide +kernel
theorem d2_25 : decode jdk_42_method_139_code 25 = .ok (.areturn, 1) := by decide +kernel
theorem ef_svOf (m : MethodId) (x0 : Int32) : entryFrame m #[(.int x0)] 1 = mkF m 0 #[.val (.int x0)] [] := by first | (simp [entryFrame, mkF, argsToLocals, Value.category]; done) | rfl
def Q_svOf (Z : State) (c1 : Int32) (G1 : Int32) (h0 : Heap) (n0 : Nat) (v : Option Value) (h : Heap) (L : List Loc) : Prop := ∃ (xs : Addr) (ts : Addr), v = some (.ref xs) ∧ Fr n0 L ∧ Keep h0 h [] ∧ (own_Str Z h xs ts ([c1] : List Int32)) ∧ (h0.size ≤ ts) ∧ (h0.size ≤ xs)
theorem svOf (l : Launch) (Z : State) (a0 : Array Value) (hw : ∀ d ∈ tables_1, d.before a0 Z = true) (ws : List Jvm.Cond) (c1 : Int32) (G1 : Int32) (h0 : Heap) (n0 : Nat) (Z0 : n0 ≤ h0.size) (T1 : Sta Z Z.heap "java/lang/String" "COMPACT_STRINGS" "Z" (.int G1)) (P5 : ¬ (G1 = (0 : Int32))) (O1 : Old Z n0 h0) (hl0 : ¬ c1 < 0 ∧ ¬ (255 : Int32) < c1) :
    MetFree l (⟨"java/lang/String", "valueOf", "(C)Ljava/lang/String;"⟩ : MethodName) (head1 (Jvm.Cond.code (⟨"java/lang/String", "valueOf", "(C)Ljava/lang/String;"⟩ : MethodName) jdk_42_method_139_code 1 (some (.object "java/lang/String")) :: ws) ({ frames := 2, cells := 2, slots := 5, locals := 27 } : Room)) (fun a U => a = #[(.int c1)] ∧ Z.Warmed39 U.vm ∧ U.heap = h0) (fun _ _ _ _ _ => True) (fun _ U o U' => ∃ v L, o = .returned v ∧ Q_svOf Z c1 G1 h0 n0 v U'.heap L ∧ FrameEnd U o U' L ({ frames := 2, cells := 2, slots := 5, locals := 27 } : Room).cells ({ frames := 2, cells := 2, slots := 5, locals := 27 } : Room).slots) := by
  refine MetFree.of_bodySF (plainFor_of_name pn_java_lang_String) hisR ?_
  intro p e s m args below meth c s₁ Bd hml0 hP hK
  obtain ⟨rfl, hZ, hh⟩ := hP
  have hx := Bd.exec
  have hby := Bd.bytes
  have hml : c.maxLocals = 1 := hml0
  have hown : s.vm.findClass "java/lang/String" = some m.cls := findClass_of_methodNamed Bd.named
  have hnm := (name_of_methodNamed Bd.named Bd.method).1
  have X0 : Stand p l e ({ frames := 2, cells := 2, slots := 5, locals := 27 } : Room) s m #[(.int c1)] below meth c s₁ [] 0 0 := Stand.of_body Bd
  have e0 : s₁.heap = h0 := by rw [← hh, Bd.state]; rfl
  have N0 := Fr.nil n0
  have pre0 : ∀ t, Steps p.tables e below (s₁.setTop (mkF m 0 #[.val (.int c1)] [])) t → Steps p.tables e below (s₁.setTop (entryFrame m #[(.int c1)] 1)) t := fun t k => castTop (ef_svOf m c1) k
  obtain ⟨T1_, X1_, e1_, st1_⟩ := getS2 X0 hx hZ hown (host := "") (Or.inl (own_w hw 8 rfl)) Via.refl e0 (T1.ext O1.2) (g := (mkF m 0 #[.val (.int c1)] [])) rfl (hb hby d2_0)
  obtain ⟨_, _, ⟨T2_, L2_, k2_, n2_⟩, -, X2_, ⟨Lc2_, hQ2_, l2_, y2_, z2_⟩, st2_⟩ := Jvm.LawKit.callS X1_ hx (y := (⟨"java/lang/StringLatin1", "canEncode", "(C)Z"⟩ : MethodName)) hown (mvT hZ (own_w hw 9 rfl)) (mvT hZ (own_w hw 10 rfl)) (mvT hZ (own_w hw 11 rfl)) (mvT hZ (own_w hw 12 rfl)) (by decide) (backOf (W := 0) (svCan l Z a0 hw [] c1 h0 n0 Z0 hl0.2) hZ (own_w hw 12 rfl) (own_w hw 11 rfl) (by decide) (by decide)) (g := (mkF m 7 #[.val (.int c1)] [(.int c1)])) rfl (by rw [hml]; rfl) (argsL := [(.int c1)]) (rest := []) (lenOf pd_qCzZ rfl) rfl (by show 2 * 0 + _ ≤ _; exact Nat.le_of_eq rfl) (hb hby d2_7) (fun _ _ => ⟨rfl, e1_, (by exact own_b rfl), (by exact own_b rfl)⟩)
  dsimp only [Pt.U, Pt.locs, Pt.cells, Pt.slots] at X2_ l2_ y2_ z2_ st2_ hQ2_
  subst L2_ k2_ n2_
  obtain ⟨rfl, Nq2_, ek2_⟩ := hQ2_
  have N2_ := Fr.app N0 Nq2_
  obtain ⟨T3_, h3_, X3_, e3_, E3_, A3_, D3_, U3_, st3_⟩ := newO X2_ hx hZ hown (own_w hw 13 rfl) (own_w hw 14 rfl) (own_w hw 6 rfl) ek2_ (g := (mkF m 13 #[.val (.int c1)] [])) rfl (hb hby d2_13) (by exact own_b rfl) (by exact own_b rfl)
  obtain ⟨b3_, g3_⟩ : ∃ z, z = h0.size := ⟨_, rfl⟩
  rw [← g3_] at A3_ D3_ U3_ st3_
  have F3__value : Fld Z h3_ b3_ "java/lang/String" "value" "[B" .null := D3_ (Or.inr (own_w hw 27 rfl)) (ty := (.array .byte)) (by decide)
  have F3__coder : Fld Z h3_ b3_ "java/lang/String" "coder" "B" (.int (0 : Int32)) := D3_ (Or.inr (own_w hw 29 rfl)) (ty := .byte) (by decide)
  have z5_ : n0 ≤ h3_.size := Nat.le_trans Z0 E3_.1
  obtain ⟨_, _, ⟨T4_, L4_, k4_, n4_⟩, -, X4_, ⟨Lc4_, hQ4_, l4_, y4_, z4_⟩, st4_⟩ := Jvm.LawKit.callS X3_ hx (y := (⟨"java/lang/StringLatin1", "toBytes", "(C)[B"⟩ : MethodName)) hown (mvT hZ (own_w hw 15 rfl)) (mvT hZ (own_w hw 16 rfl)) (mvT hZ (own_w hw 11 rfl)) (mvT hZ (own_w hw 17 rfl)) (by decide) (backOf (W := 2) (svBytes l Z a0 hw [] c1 h3_ n0 z5_ ) hZ (own_w hw 17 rfl) (own_w hw 11 rfl) (by decide) (by decide)) (g := (mkF m 18 #[.val (.int c1)] [(.int c1), (.ref b3_), (.ref b3_)])) rfl (by rw [hml]; rfl) (argsL := [(.int c1)]) (rest := [(.ref b3_), (.ref b3_)]) (lenOf pd_qCzaB rfl) rfl (by show 2 * 0 + _ ≤ _; exact Nat.le_of_eq rfl) (hb hby d2_18) (fun _ _ => ⟨rfl, e3_, (by exact own_b rfl), (by exact own_b rfl)⟩)
  dsimp only [Pt.U, Pt.locs, Pt.cells, Pt.slots] at X4_ l4_ y4_ z4_ st4_ hQ4_
  subst L4_ k4_ n4_
  obtain ⟨t1_4_, k1_4_, rfl, Nq4_, ek4_, p4__0, p4__1⟩ := hQ4_
  have N4_ := Fr.app N2_ Nq4_
  have f7_ : Exa Z T4_.heap b3_ "java/lang/String" := (A3_.keep ek4_)
  have f8_ : Fld Z T4_.heap b3_ "java/lang/String" "coder" "B" (.int (0 : Int32)) := (F3__coder.keep ek4_ nin0)
  have f9_ : Fld Z T4_.heap b3_ "java/lang/String" "value" "[B" .null := (F3__value.keep ek4_ nin0)
  have g10_ : n0 ≤ b3_ := Nat.le_trans Z0 (Nat.le_of_eq g3_.symm)
  have z11_ : n0 ≤ T4_.heap.size := Nat.le_trans z5_ ek4_.1
  obtain ⟨_, _, ⟨T6_, L6_, k6_, n6_⟩, -, X6_, ⟨Lc6_, hQ6_, l6_, y6_, z6_⟩, st6_⟩ := X4_.specialBack hx (y := (⟨"java/lang/String", "<init>", "([BB)V"⟩ : MethodName)) rfl hown (mvT hZ (own_w hw 19 rfl)) (mvT hZ (own_w hw 20 rfl)) (mvT hZ (own_w hw 22 rfl)) (by decide) (backOf (W := 1) (svInit l Z a0 hw [] b3_ t1_4_ T4_.heap n0 z11_ f7_ f8_ f9_ g10_) hZ (own_w hw 22 rfl) (own_w hw 6 rfl) (by decide) (by decide)) (g := (mkF m 22 #[.val (.int c1)] [(.int (0 : Int32)), (.ref t1_4_), (.ref b3_), (.ref b3_)])) rfl (by rw [hml]; rfl) (Steps.refl _) (a := b3_) (argsL := [(.ref t1_4_), (.int (0 : Int32))]) (rest := [(.ref b3_)]) (lenOf pd_qaBBzV rfl) rfl (by show 2 * 0 + _ ≤ _; exact Nat.le_of_eq rfl) (hb hby d2_22) (fun _ _ => ⟨rfl, rfl, (by exact own_b rfl), (by exact own_b rfl)⟩)
  dsimp only [Pt.U, Pt.locs, Pt.cells, Pt.slots] at X6_ l6_ y6_ z6_ st6_ hQ6_
  subst L6_ k6_ n6_
  obtain ⟨rfl, Nq6_, ek6_, p6__0, p6__1⟩ := hQ6_
  have N6_ := Fr.app N4_ Nq6_
  have f12_ : Exa Z T6_.heap b3_ "java/lang/String" := (f7_.keep ek6_)
  have f13_ : Arv Z T6_.heap t1_4_ k1_4_ .byte (Int32.ofNat ([c1] : List Int32).length) (own_by [c1]) (.int (0 : Int32)) := (p4__0.keep ek6_ (ninS (Ne.symm (Nat.ne_of_lt (Nat.lt_of_lt_of_le A3_.lt p4__1))) nin0))
  have str_ : own_Str Z T6_.heap b3_ t1_4_ ([c1] : List Int32) := ⟨f12_, p6__0, p6__1, ⟨_, f13_⟩, by
    intro c hc; rcases List.mem_singleton.mp hc with rfl; exact hl0, Nat.le_of_ble_eq_true rfl⟩
  have k14_ : Keep h0 h3_ [] := (Keep.refl h0 []).ext E3_
  have k15_ : Keep h0 T4_.heap [] := k14_.trans ek4_ all0
  have k16_ : Keep h0 T6_.heap [] := k15_.trans ek6_ (allS (Or.inr (Nat.le_trans (Keep.refl h0 []).1 (Nat.le_of_eq g3_.symm))) all0)
  obtain ⟨fs, hr, hrun, hended, hW, hsame⟩ := X6_.leave (v := some (.ref b3_)) (fun h => by first | rfl | (rw [Bd.returns] at h; cases h))
  refine ⟨_, _, pre0 _ ?_, hrun, hended, _, _, rfl, ?_, ⟨_, rfl⟩, hW, hsame.mono (by exact own_b rfl) (by exact own_b rfl)⟩
  · show Steps p.tables e below (s₁.setTop (mkF m 0 #[.val (.int c1)] [])) _
    refine st1_ _ ?_
    show Steps p.tables e below (T1_.setTop (mkF m 3 #[.val (.int c1)] [(.int G1)])) _
    refine XS.ifNo X1_.here hx rfl (hb hby d2_3) rfl ((if0 _ _).trans (feq (P5 : ¬ (G1 = (0 : Int32)))).1) ?_
    refine XS.iloadN X1_.here hx rfl (hb hby d2_6) rfl ?_
    refine st2_ _ ?_
    show Steps p.tables e below (T2_.setTop (mkF m 10 #[.val (.int c1)] [(.int (1 : Int32))])) _
    refine XS.ifNo X2_.here hx rfl (hb hby d2_10) rfl ((if0 _ _).trans (feq ((by decide) : ¬ ((1 : Int32) = (0 : Int32)))).1) ?_
    refine st3_ _ ?_
    show Steps p.tables e below (T3_.setTop (mkF m 16 #[.val (.int c1)] [(.ref b3_)])) _
    refine XS.dup X3_.here hx rfl (hb hby d2_16) rfl rfl ?_
    refine XS.iloadN X3_.here hx rfl (hb hby d2_17) rfl ?_
    refine st4_ _ ?_
    show Steps p.tables e below (T4_.setTop (mkF m 21 #[.val (.int c1)] [(.ref t1_4_), (.ref b3_), (.ref b3_)])) _
    refine XS.iconst X4_.here hx rfl (hb hby d2_21) ?_
    refine st6_.trans ?_
    show Steps p.tables e below (T6_.setTop (mkF m 25 #[.val (.int c1)] [(.ref b3_)])) _
    exact retR X6_ hx Bd.returns rfl rfl rfl (hb hby d2_25) hr
  · show Q_svOf Z c1 G1 h0 n0 _ T6_.heap _
    skip
    exact ⟨b3_, t1_4_, rfl, N6_, k16_, str_, (Nat.le_trans k14_.1 p4__1), (Nat.le_trans (Keep.refl h0 []).1 (Nat.le_of_eq g3_.symm))⟩
theorem d1_0 : decode method_3_code 0 = .ok (.iload_n 1, 1) := by decide +kernel
theorem d1_1 : decode method_3_code 1 = .ok (.sipush 255, 3) := by decide +kernel
theorem d1_4 : decode method_3_code 4 = .ok (.iand, 1) := by decide +kernel
theorem d1_5 : decode method_3_code 5 = .ok (.i2c, 1) := by decide +kernel
theorem d1_6 : decode method_3_code 6 = .ok (.istore_n 2, 1) := by decide +kernel
theorem d1_7 : decode method_3_code 7 = .ok (.iload_n 1, 1) := by decide +kernel
theorem d1_8 : decode method_3_code 8 = .ok (.bipush 8, 2) := by decide +kernel
theorem d1_10 : decode method_3_code 10 = .ok (.iushr, 1) := by decide +kernel
theorem d1_11 : decode method_3_code 11 = .ok (.sipush 255, 3) := by decide +kernel
theorem d1_14 : decode method_3_code 14 = .ok (.iand, 1) := by decide +kernel
theorem d1_15 : decode method_3_code 15 = .ok (.i2c, 1) := by decide +kernel
theorem d1_16 : decode method_3_code 16 = .ok (.istore_n 3, 1) := by decide +kernel
theorem d1_17 : decode method_3_code 17 = .ok (.iload_n 1, 1) := by decide +kernel
theorem d1_18 : decode method_3_code 18 = .ok (.bipush 16, 2) := by decide +kernel
theorem d1_20 : decode method_3_code 20 = .ok (.iushr, 1) := by decide +kernel
theorem d1_21 : decode method_3_code 21 = .ok (.sipush 255, 3) := by decide +kernel
theorem d1_24 : decode method_3_code 24 = .ok (.iand, 1) := by decide +kernel
theorem d1_25 : decode method_3_code 25 = .ok (.i2c, 1) := by decide +kernel
theorem d1_26 : decode method_3_code 26 = .ok (.istore 4, 2) := by decide +kernel
theorem d1_28 : decode method_3_code 28 = .ok (.iload_n 0, 1) := by decide +kernel
theorem d1_29 : decode method_3_code 29 = .ok (.ifCond .ne 14, 3) := by decide +kernel
theorem d1_32 : decode method_3_code 32 = .ok (.new 27, 3) := by decide +kernel
theorem d1_35 : decode method_3_code 35 = .ok (.dup, 1) := by decide +kernel
theorem d1_36 : decode method_3_code 36 = .ok (.iconst 0, 1) := by decide +kernel
theorem d1_37 : decode method_3_code 37 = .ok (.newarray .char, 2) := by decide +kernel
theorem d1_39 : decode method_3_code 39 = .ok (.invokespecial 50, 3) := by decide +kernel
theorem pd_qaCzV : parseMethodDescriptor "([C)V" = some ⟨[(.array .char)], none⟩ := by decide +kernel
theorem d1_42 : decode method_3_code 42 = .ok (.areturn, 1) := by decide +kernel
theorem d1_43 : decode method_3_code 43 = .ok (.iload_n 0, 1) := by decide +kernel
theorem d1_44 : decode method_3_code 44 = .ok (.iconst 1, 1) := by decide +kernel
theorem d1_45 : decode method_3_code 45 = .ok (.if_icmp .ne 8, 3) := by decide +kernel
theorem d1_48 : decode method_3_code 48 = .ok (.iload_n 2, 1) := by decide +kernel
theorem d1_49 : decode method_3_code 49 = .ok (.invokestatic 53, 3) := by decide +kernel
theorem pd_qCzLjava_lang_String : parseMethodDescriptor "(C)Ljava/lang/String;" = some ⟨[.char], some (.object "java/lang/String")⟩ := by decide +kernel
theorem d1_52 : decode method_3_code 52 = .ok (.areturn, 1) := by decide +kernel
theorem d1_53 : decode method_3_code 53 = .ok (.iload_n 0, 1) := by decide +kernel
theorem d1_54 : decode method_3_code 54 = .ok (.iconst 2, 1) := by decide +kernel
theorem d1_55 : decode method_3_code 55 = .ok (.if_icmp .ne 22, 3) := by decide +kernel
theorem d1_58 : decode method_3_code 58 = .ok (.new 27, 3) := by decide +kernel
theorem d1_61 : decode method_3_code 61 = .ok (.dup, 1) := by decide +kernel
theorem d1_62 : decode method_3_code 62 = .ok (.iconst 2, 1) := by decide +kernel
theorem d1_63 : decode method_3_code 63 = .ok (.newarray .char, 2) := by decide +kernel
theorem d1_65 : decode method_3_code 65 = .ok (.dup, 1) := by decide +kernel
theorem d1_66 : decode method_3_code 66 = .ok (.iconst 0, 1) := by decide +kernel
theorem d1_67 : decode method_3_code 67 = .ok (.iload_n 2, 1) := by decide +kernel
theorem d1_68 : decode method_3_code 68 = .ok (.castore, 1) := by decide +kernel
theorem d1_69 : decode method_3_code 69 = .ok (.dup, 1) := by decide +kernel
theorem d1_70 : decode method_3_code 70 = .ok (.iconst 1, 1) := by decide +kernel
theorem d1_71 : decode method_3_code 71 = .ok (.iload_n 3, 1) := by decide +kernel
theorem d1_72 : decode method_3_code 72 = .ok (.castore, 1) := by decide +kernel
theorem d1_73 : decode method_3_code 73 = .ok (.invokespecial 50, 3) := by decide +kernel
theorem d1_76 : decode method_3_code 76 = .ok (.areturn, 1) := by decide +kernel
theorem d1_77 : decode method_3_code 77 = .ok (.new 27, 3) := by decide +kernel
theorem d1_80 : decode method_3_code 80 = .ok (.dup, 1) := by decide +kernel
theorem d1_81 : decode method_3_code 81 = .ok (.iconst 3, 1) := by decide +kernel
theorem d1_82 : decode method_3_code 82 = .ok (.newarray .char, 2) := by decide +kernel
theorem d1_84 : decode method_3_code 84 = .ok (.dup, 1) := by decide +kernel
theorem d1_85 : decode method_3_code 85 = .ok (.iconst 0, 1) := by decide +kernel
theorem d1_86 : decode method_3_code 86 = .ok (.iload_n 2, 1) := by decide +kernel
theorem d1_87 : decode method_3_code 87 = .ok (.castore, 1) := by decide +kernel
theorem d1_88 : decode method_3_code 88 = .ok (.dup, 1) := by decide +kernel
theorem d1_89 : decode method_3_code 89 = .ok (.iconst 1, 1) := by decide +kernel
theorem d1_90 : decode method_3_code 90 = .ok (.iload_n 3, 1) := by decide +kernel
theorem d1_91 : decode method_3_code 91 = .ok (.castore, 1) := by decide +kernel
theorem d1_92 : decode method_3_code 92 = .ok (.dup, 1) := by decide +kernel
theorem d1_93 : decode method_3_code 93 = .ok (.iconst 2, 1) := by decide +kernel
theorem d1_94 : decode method_3_code 94 = .ok (.iload 4, 2) := by decide +kernel
theorem d1_96 : decode method_3_code 96 = .ok (.castore, 1) := by decide +kernel
theorem d1_97 : decode method_3_code 97 = .ok (.invokespecial 50, 3) := by decide +kernel
theorem d1_100 : decode method_3_code 100 = .ok (.areturn, 1) := by decide +kernel
def own_str (p1 p2 : Int32) : List Int32 := if p1 = (0 : Int32) then ([] : List Int32) else if p1 = (1 : Int32) then ([((p2 &&& (255 : Int32)).toUInt32.toUInt16.toUInt32.toInt32)] : List Int32) else if p1 = (2 : Int32) then ([(nar .char ((p2 &&& (255 : Int32)).toUInt32.toUInt16.toUInt32.toInt32)), (nar .char ((((p2.toUInt32 >>> ((8 : Int32) &&& 31).toUInt32).toInt32) &&& (255 : Int32)).toUInt32.toUInt16.toUInt32.toInt32))] : List Int32) else ([(nar .char ((p2 &&& (255 : Int32)).toUInt32.toUInt16.toUInt32.toInt32)), (nar .char ((((p2.toUInt32 >>> ((8 : Int32) &&& 31).toUInt32).toInt32) &&& (255 : Int32)).toUInt32.toUInt16.toUInt32.toInt32)), (nar .char ((((p2.toUInt32 >>> ((16 : Int32) &&& 31).toUInt32).toInt32) &&& (255 : Int32)).toUInt32.toUInt16.toUInt32.toInt32))] : List Int32)
theorem own_str_len (a b : Int32) : (own_str a b).length ≤ 3 := by unfold own_str; split; exact Nat.zero_le _; split; exact Nat.le_of_ble_eq_true rfl; split; exact Nat.le_of_ble_eq_true rfl; exact Nat.le_of_ble_eq_true rfl
theorem pn_com_example_brisk_warden_briskwarden_core_UnsupportedNumberExceptionAtPinLaw : plainName "com/example/brisk_warden/briskwarden/core/UnsupportedNumberExceptionAtPinLaw" = true := by first | (simp [plainName, overriddenIn]; done) | decide +kernel
theorem ef_rmS0 (m : MethodId) (x0 : Int32) (x1 : Int32) : entryFrame m #[(.int x0), (.int x1)] 5 = mkF m 0 #[.val (.int x0), .val (.int x1), .unset, .unset, .unset] [] := by first | (simp [entryFrame, mkF, argsToLocals, Value.category]; done) | rfl
def Q_rmS0 (Z : State) (p1 : Int32) (p2 : Int32) (G1 : Int32) (h0 : Heap) (n0 : Nat) (v : Option Value) (h : Heap) (L : List Loc) : Prop := ∃ (xs : Addr) (ts : Addr), v = some (.ref xs) ∧ Fr n0 L ∧ Keep h0 h [] ∧ (own_Str Z h xs ts (own_str p1 p2))
theorem rmS0 (l : Launch) (Z : State) (a0 : Array Value) (hw : ∀ d ∈ tables_1, d.before a0 Z = true) (hEL : EW Z a0 consts_1) (ws : List Jvm.Cond) (p1 : Int32) (p2 : Int32) (G1 : Int32) (h0 : Heap) (n0 : Nat) (Z0 : n0 ≤ h0.size) (T1 : Sta Z Z.heap "java/lang/String" "COMPACT_STRINGS" "Z" (.int G1)) (P5 : ¬ (G1 = (0 : Int32))) (O1 : Old Z n0 h0) (hq0 : p1 = (0 : Int32)) :
    MetFree l (⟨"com/example/brisk_warden/briskwarden/core/UnsupportedNumberExceptionAtPinLaw", "str", "(II)Ljava/lang/String;"⟩ : MethodName) (head1 (Jvm.Cond.code (⟨"com/example/brisk_warden/briskwarden/core/UnsupportedNumberExceptionAtPinLaw", "str", "(II)Ljava/lang/String;"⟩ : MethodName) method_3_code 5 (some (.object "java/lang/String")) :: ws) ({ frames := 4, cells := 6, slots := 12, locals := 66 } : Room)) (fun a U => a = #[(.int p1), (.int p2)] ∧ Z.Warmed39 U.vm ∧ U.heap = h0 ∧ CHv Z consts_1 U.vm h0) (fun _ _ _ _ _ => True) (fun _ U o U' => ∃ v L, o = .returned v ∧ Q_rmS0 Z p1 p2 G1 h0 n0 v U'.heap L ∧ CHr Z consts_1 U.vm U.heap U'.vm U'.heap ∧ ReturnedEndW U o U' L ({ frames := 4, cells := 6, slots := 12, locals := 66 } : Room).cells ({ frames := 4, cells := 6, slots := 12, locals := 66 } : Room).slots) := by
  refine MetFree.of_bodySF (plainFor_of_name pn_com_example_brisk_warden_briskwarden_core_UnsupportedNumberExceptionAtPinLaw) hisR ?_
  intro p e s m args below meth c s₁ Bd hml0 hP hK
  obtain ⟨rfl, hZ, hh, H0'⟩ := hP
  have hx := Bd.exec
  have hby := Bd.bytes
  have hml : c.maxLocals = 5 := hml0
  have hown : s.vm.findClass "com/example/brisk_warden/briskwarden/core/UnsupportedNumberExceptionAtPinLaw" = some m.cls := findClass_of_methodNamed Bd.named
  have hnm := (name_of_methodNamed Bd.named Bd.method).1
  have X0 : Stand p l e ({ frames := 4, cells := 6, slots := 12, locals := 66 } : Room) (s.setVm s.vm) m #[(.int p1), (.int p2)] below meth c s₁ [] 0 0 := Stand.of_body Bd
  have e0 : s₁.heap = h0 := by rw [← hh, Bd.state]; rfl
  have N0 := Fr.nil n0
  have hS0 : s.Since s.vm h0.size := own_since0 s _
  have hk0 : h0.size ≤ h0.size := Nat.le_refl _
  have H0 : CHv Z consts_1 s.vm h0 := H0'
  have wS : ∀ a ∈ Bundle.stringAtoms, a.before a0 Z = true := fun a ha => hw a ((by decide +kernel : ∀ a ∈ Bundle.stringAtoms, a ∈ tables_1) a ha)
  have pre0 : ∀ t, Steps p.tables e below (s₁.setTop (mkF m 0 #[.val (.int p1), .val (.int p2), .unset, .unset, .unset] [])) t → Steps p.tables e below (s₁.setTop (entryFrame m #[(.int p1), (.int p2)] 5)) t := fun t k => castTop (ef_rmS0 m p1 p2) k
  obtain ⟨T1_, h1_, X1_, e1_, E1_, A1_, D1_, U1_, st1_⟩ := newO X0 hx hZ hown (own_w hw 30 rfl) (own_w hw 14 rfl) (own_w hw 6 rfl) e0 (g := (mkF m 32 #[.val (.int p1), .val (.int p2), .val (.int ((p2 &&& (255 : Int32)).toUInt32.toUInt16.toUInt32.toInt32)), .val (.int ((((p2.toUInt32 >>> ((8 : Int32) &&& 31).toUInt32).toInt32) &&& (255 : Int32)).toUInt32.toUInt16.toUInt32.toInt32)), .val (.int ((((p2.toUInt32 >>> ((16 : Int32) &&& 31).toUInt32).toInt32) &&& (255 : Int32)).toUInt32.toUInt16.toUInt32.toInt32))] [])) rfl (hb hby d1_32) (by exact own_b rfl) (by exact own_b rfl)
  obtain ⟨b1_, g1_⟩ : ∃ z, z = h0.size := ⟨_, rfl⟩
  rw [← g1_] at A1_ D1_ U1_ st1_
  have sf1_ : Safe Z consts_1 s.vm h0 b1_ := Safe.new (Nat.le_of_eq g1_.symm)
  have ch2_ : CHv Z consts_1 s.vm h1_ := CHv.ext E1_ H0
  have cr3_ := (CHr.refl H0).trans (CHr.ext E1_ H0)
  have F1__value : Fld Z h1_ b1_ "java/lang/String" "value" "[B" .null := D1_ (Or.inr (own_w hw 27 rfl)) (ty := (.array .byte)) (by decide)
  have F1__coder : Fld Z h1_ b1_ "java/lang/String" "coder" "B" (.int (0 : Int32)) := D1_ (Or.inr (own_w hw 29 rfl)) (ty := .byte) (by decide)
  obtain ⟨T4_, h4_, k4_, X4_, e4_, E4_, A4_, st4_⟩ := newP X1_ hx hZ (own_w hw 31 rfl) e1_ (g := (mkF m 37 #[.val (.int p1), .val (.int p2), .val (.int ((p2 &&& (255 : Int32)).toUInt32.toUInt16.toUInt32.toInt32)), .val (.int ((((p2.toUInt32 >>> ((8 : Int32) &&& 31).toUInt32).toInt32) &&& (255 : Int32)).toUInt32.toUInt16.toUInt32.toInt32)), .val (.int ((((p2.toUInt32 >>> ((16 : Int32) &&& 31).toUInt32).toInt32) &&& (255 : Int32)).toUInt32.toUInt16.toUInt32.toInt32))] [(.int (0 : Int32)), (.ref b1_), (.ref b1_)])) rfl (hb hby d1_37) rfl (by decide) (cap := 0) (by decide) (by decide) (by exact own_b rfl) (by exact own_b rfl)
  obtain ⟨b4_, g4_⟩ : ∃ z, z = h1_.size := ⟨_, rfl⟩
  rw [← g4_] at A4_ st4_
  have sf4_ : Safe Z consts_1 s.vm h1_ b4_ := Safe.new (Nat.le_of_eq g4_.symm)
  have ch5_ : CHv Z consts_1 s.vm h4_ := CHv.ext E4_ ch2_
  have cr6_ := cr3_.trans (CHr.ext E4_ ch2_)
  have v4_ : Arv Z h4_ b4_ k4_ .char (0 : Int32) [] (.int (0 : Int32)) := (Arv.new A4_ (by decide)).pad (pad_rep [] (.int (0 : Int32)) 0)
  have f8_ : Exa Z h4_ b1_ "java/lang/String" := (A1_.ext E4_)
  have f9_ : Fld Z h4_ b1_ "java/lang/String" "coder" "B" (.int (0 : Int32)) := (F1__coder.ext E4_)
  have f10_ : Fld Z h4_ b1_ "java/lang/String" "value" "[B" .null := (F1__value.ext E4_)
  have g11_ : n0 ≤ b1_ := Nat.le_trans Z0 (Nat.le_of_eq g1_.symm)
  have z12_ : n0 ≤ h1_.size := Nat.le_trans Z0 E1_.1
  have z13_ : n0 ≤ h4_.size := Nat.le_trans z12_ E4_.1
  obtain ⟨_, _, ⟨T7_, L7_, k7_, n7_⟩, -, Xs7_, Ss7_, Sg7_, ⟨Lc7_, hQ7_, l7_, y7_, z7_, chr7_⟩, st7_⟩ := X4_.specialBackS hx (y := (⟨"java/lang/String", "<init>", "([C)V"⟩ : MethodName)) rfl hown (mvT hZ (own_w hw 32 rfl)) (mvT hZ (own_w hw 33 rfl)) (mvT hZ (own_w hw 34 rfl)) (by decide) (backOfSH (W := 1) (emB l Z a0 hw hEL [] b1_ b4_ k4_ h4_ n0 z13_ f8_ f9_ f10_ g11_ v4_) hZ (own_w hw 34 rfl) (own_w hw 6 rfl) (by decide) (by decide) hEL ch5_) (g := (mkF m 39 #[.val (.int p1), .val (.int p2), .val (.int ((p2 &&& (255 : Int32)).toUInt32.toUInt16.toUInt32.toInt32)), .val (.int ((((p2.toUInt32 >>> ((8 : Int32) &&& 31).toUInt32).toInt32) &&& (255 : Int32)).toUInt32.toUInt16.toUInt32.toInt32)), .val (.int ((((p2.toUInt32 >>> ((16 : Int32) &&& 31).toUInt32).toInt32) &&& (255 : Int32)).toUInt32.toUInt16.toUInt32.toInt32))] [(.ref b4_), (.ref b1_), (.ref b1_)])) rfl (by rw [hml]; rfl) (Steps.refl _) (a := b1_) (argsL := [(.ref b4_)]) (rest := [(.ref b1_)]) (lenOf pd_qaCzV rfl) rfl (by show 2 * 0 + _ ≤ _; exact Nat.le_of_eq rfl) (hb hby d1_39) (fun _ _ => ⟨rfl, e4_, (by exact own_b rfl), (by exact own_b rfl)⟩)
  dsimp only [Pt.U, Pt.locs, Pt.cells, Pt.slots] at Xs7_ Ss7_ Sg7_ l7_ y7_ z7_ st7_ hQ7_ chr7_
  subst L7_ k7_ n7_
  obtain ⟨X7_, hS7_, hZ7_, hown7_⟩ := rebS hS0 (Nat.le_trans (Nat.le_trans hk0 E1_.1) E4_.1) Xs7_ Ss7_ (Nat.le_trans (Nat.le_of_eq (congrArg Array.size e4_.symm)) Sg7_) hZ hown
  obtain ⟨t1_7_, rfl, Nq7_, ek7_, p7__0⟩ := hQ7_
  have N7_ := Fr.app N0 Nq7_
  have cr14_ := cr6_.trans chr7_
  have ch7_ := chr7_.1
  have so_ : own_Str Z T7_.heap b1_ t1_7_ (own_str p1 p2) := by rw [own_str, if_pos hq0]; exact p7__0
  have k15_ : Keep h0 h1_ [] := (Keep.refl h0 []).ext E1_
  have k16_ : Keep h0 h4_ [] := k15_.ext E4_
  have k17_ : Keep h0 T7_.heap [] := k16_.trans ek7_ (allS (Or.inr (Nat.le_trans (Keep.refl h0 []).1 (Nat.le_of_eq g1_.symm))) all0)
  obtain ⟨fs, hr, hrun, hended, hREW⟩ := X7_.leaveW hS7_ (Nat.le_trans (Nat.le_refl _) (Nat.le_of_eq (congrArg Array.size (rfl : T7_.heap = _).symm))) (v := some (.ref b1_)) (fun h => by first | rfl | (rw [Bd.returns] at h; cases h))
  refine ⟨_, _, pre0 _ ?_, hrun, hended, _, _, rfl, ?_, ?_, own_REW hREW (by exact own_b rfl) (by exact own_b rfl)⟩
  · show Steps p.tables e below (s₁.setTop (mkF m 0 #[.val (.int p1), .val (.int p2), .unset, .unset, .unset] [])) _
    refine XS.iloadN X0.here hx rfl (hb hby d1_0) rfl ?_
    refine XS.sipush X0.here hx rfl (hb hby d1_1) ?_
    refine XS.iand X0.here hx rfl (hb hby d1_4) rfl ?_
    show Steps p.tables e below (s₁.setTop (mkF m 5 #[.val (.int p1), .val (.int p2), .unset, .unset, .unset] [(.int (p2 &&& (255 : Int32)))])) _
    refine XS.i2c X0.here hx rfl (hb hby d1_5) rfl ?_
    show Steps p.tables e below (s₁.setTop (mkF m 6 #[.val (.int p1), .val (.int p2), .unset, .unset, .unset] [(.int ((p2 &&& (255 : Int32)).toUInt32.toUInt16.toUInt32.toInt32))])) _
    refine XS.istoreN X0.here hx rfl (hb hby d1_6) rfl (l' := #[.val (.int p1), .val (.int p2), .val (.int ((p2 &&& (255 : Int32)).toUInt32.toUInt16.toUInt32.toInt32)), .unset, .unset]) rfl ?_
    show Steps p.tables e below (s₁.setTop (mkF m 7 #[.val (.int p1), .val (.int p2), .val (.int ((p2 &&& (255 : Int32)).toUInt32.toUInt16.toUInt32.toInt32)), .unset, .unset] [])) _
    refine XS.iloadN X0.here hx rfl (hb hby d1_7) rfl ?_
    refine XS.bipush X0.here hx rfl (hb hby d1_8) ?_
    refine XS.iushr X0.here hx rfl (hb hby d1_10) rfl ?_
    show Steps p.tables e below (s₁.setTop (mkF m 11 #[.val (.int p1), .val (.int p2), .val (.int ((p2 &&& (255 : Int32)).toUInt32.toUInt16.toUInt32.toInt32)), .unset, .unset] [(.int ((p2.toUInt32 >>> ((8 : Int32) &&& 31).toUInt32).toInt32))])) _
    refine XS.sipush X0.here hx rfl (hb hby d1_11) ?_
    refine XS.iand X0.here hx rfl (hb hby d1_14) rfl ?_
    show Steps p.tables e below (s₁.setTop (mkF m 15 #[.val (.int p1), .val (.int p2), .val (.int ((p2 &&& (255 : Int32)).toUInt32.toUInt16.toUInt32.toInt32)), .unset, .unset] [(.int (((p2.toUInt32 >>> ((8 : Int32) &&& 31).toUInt32).toInt32) &&& (255 : Int32)))])) _
    refine XS.i2c X0.here hx rfl (hb hby d1_15) rfl ?_
    show Steps p.tables e below (s₁.setTop (mkF m 16 #[.val (.int p1), .val (.int p2), .val (.int ((p2 &&& (255 : Int32)).toUInt32.toUInt16.toUInt32.toInt32)), .unset, .unset] [(.int ((((p2.toUInt32 >>> ((8 : Int32) &&& 31).toUInt32).toInt32) &&& (255 : Int32)).toUInt32.toUInt16.toUInt32.toInt32))])) _
    refine XS.istoreN X0.here hx rfl (hb hby d1_16) rfl (l' := #[.val (.int p1), .val (.int p2), .val (.int ((p2 &&& (255 : Int32)).toUInt32.toUInt16.toUInt32.toInt32)), .val (.int ((((p2.toUInt32 >>> ((8 : Int32) &&& 31).toUInt32).toInt32) &&& (255 : Int32)).toUInt32.toUInt16.toUInt32.toInt32)), .unset]) rfl ?_
    show Steps p.tables e below (s₁.setTop (mkF m 17 #[.val (.int p1), .val (.int p2), .val (.int ((p2 &&& (255 : Int32)).toUInt32.toUInt16.toUInt32.toInt32)), .val (.int ((((p2.toUInt32 >>> ((8 : Int32) &&& 31).toUInt32).toInt32) &&& (255 : Int32)).toUInt32.toUInt16.toUInt32.toInt32)), .unset] [])) _
    refine XS.iloadN X0.here hx rfl (hb hby d1_17) rfl ?_
    refine XS.bipush X0.here hx rfl (hb hby d1_18) ?_
    refine XS.iushr X0.here hx rfl (hb hby d1_20) rfl ?_
    show Steps p.tables e below (s₁.setTop (mkF m 21 #[.val (.int p1), .val (.int p2), .val (.int ((p2 &&& (255 : Int32)).toUInt32.toUInt16.toUInt32.toInt32)), .val (.int ((((p2.toUInt32 >>> ((8 : Int32) &&& 31).toUInt32).toInt32) &&& (255 : Int32)).toUInt32.toUInt16.toUInt32.toInt32)), .unset] [(.int ((p2.toUInt32 >>> ((16 : Int32) &&& 31).toUInt32).toInt32))])) _
    refine XS.sipush X0.here hx rfl (hb hby d1_21) ?_
    refine XS.iand X0.here hx rfl (hb hby d1_24) rfl ?_
    show Steps p.tables e below (s₁.setTop (mkF m 25 #[.val (.int p1), .val (.int p2), .val (.int ((p2 &&& (255 : Int32)).toUInt32.toUInt16.toUInt32.toInt32)), .val (.int ((((p2.toUInt32 >>> ((8 : Int32) &&& 31).toUInt32).toInt32) &&& (255 : Int32)).toUInt32.toUInt16.toUInt32.toInt32)), .unset] [(.int (((p2.toUInt32 >>> ((16 : Int32) &&& 31).toUInt32).toInt32) &&& (255 : Int32)))])) _
    refine XS.i2c X0.here hx rfl (hb hby d1_25) rfl ?_
    show Steps p.tables e below (s₁.setTop (mkF m 26 #[.val (.int p1), .val (.int p2), .val (.int ((p2 &&& (255 : Int32)).toUInt32.toUInt16.toUInt32.toInt32)), .val (.int ((((p2.toUInt32 >>> ((8 : Int32) &&& 31).toUInt32).toInt32) &&& (255 : Int32)).toUInt32.toUInt16.toUInt32.toInt32)), .unset] [(.int ((((p2.toUInt32 >>> ((16 : Int32) &&& 31).toUInt32).toInt32) &&& (255 : Int32)).toUInt32.toUInt16.toUInt32.toInt32))])) _
    refine XS.istore X0.here hx rfl (hb hby d1_26) rfl (l' := #[.val (.int p1), .val (.int p2), .val (.int ((p2 &&& (255 : Int32)).toUInt32.toUInt16.toUInt32.toInt32)), .val (.int ((((p2.toUInt32 >>> ((8 : Int32) &&& 31).toUInt32).toInt32) &&& (255 : Int32)).toUInt32.toUInt16.toUInt32.toInt32)), .val (.int ((((p2.toUInt32 >>> ((16 : Int32) &&& 31).toUInt32).toInt32) &&& (255 : Int32)).toUInt32.toUInt16.toUInt32.toInt32))]) rfl ?_
    show Steps p.tables e below (s₁.setTop (mkF m 28 #[.val (.int p1), .val (.int p2), .val (.int ((p2 &&& (255 : Int32)).toUInt32.toUInt16.toUInt32.toInt32)), .val (.int ((((p2.toUInt32 >>> ((8 : Int32) &&& 31).toUInt32).toInt32) &&& (255 : Int32)).toUInt32.toUInt16.toUInt32.toInt32)), .val (.int ((((p2.toUInt32 >>> ((16 : Int32) &&& 31).toUInt32).toInt32) &&& (255 : Int32)).toUInt32.toUInt16.toUInt32.toInt32))] [])) _
    refine XS.iloadN X0.here hx rfl (hb hby d1_28) rfl ?_
    refine XS.ifNo X0.here hx rfl (hb hby d1_29) rfl ((if0 _ _).trans (teq (hq0 : p1 = (0 : Int32))).2) ?_
    refine st1_ _ ?_
    show Steps p.tables e below (T1_.setTop (mkF m 35 #[.val (.int p1), .val (.int p2), .val (.int ((p2 &&& (255 : Int32)).toUInt32.toUInt16.toUInt32.toInt32)), .val (.int ((((p2.toUInt32 >>> ((8 : Int32) &&& 31).toUInt32).toInt32) &&& (255 : Int32)).toUInt32.toUInt16.toUInt32.toInt32)), .val (.int ((((p2.toUInt32 >>> ((16 : Int32) &&& 31).toUInt32).toInt32) &&& (255 : Int32)).toUInt32.toUInt16.toUInt32.toInt32))] [(.ref b1_)])) _
    refine XS.dup X1_.here hx rfl (hb hby d1_35) rfl rfl ?_
    refine XS.iconst X1_.here hx rfl (hb hby d1_36) ?_
    refine st4_ _ ?_
    show Steps p.tables e below (T4_.setTop (mkF m 39 #[.val (.int p1), .val (.int p2), .val (.int ((p2 &&& (255 : Int32)).toUInt32.toUInt16.toUInt32.toInt32)), .val (.int ((((p2.toUInt32 >>> ((8 : Int32) &&& 31).toUInt32).toInt32) &&& (255 : Int32)).toUInt32.toUInt16.toUInt32.toInt32)), .val (.int ((((p2.toUInt32 >>> ((16 : Int32) &&& 31).toUInt32).toInt32) &&& (255 : Int32)).toUInt32.toUInt16.toUInt32.toInt32))] [(.ref b4_), (.ref b1_), (.ref b1_)])) _
    refine st7_.trans ?_
    show Steps p.tables e below (T7_.setTop (mkF m 42 #[.val (.int p1), .val (.int p2), .val (.int ((p2 &&& (255 : Int32)).toUInt32.toUInt16.toUInt32.toInt32)), .val (.int ((((p2.toUInt32 >>> ((8 : Int32) &&& 31).toUInt32).toInt32) &&& (255 : Int32)).toUInt32.toUInt16.toUInt32.toInt32)), .val (.int ((((p2.toUInt32 >>> ((16 : Int32) &&& 31).toUInt32).toInt32) &&& (255 : Int32)).toUInt32.toUInt16.toUInt32.toInt32))] [(.ref b1_)])) _
    exact retR X7_ hx Bd.returns rfl rfl rfl (hb hby d1_42) hr
  · show Q_rmS0 Z p1 p2 G1 h0 n0 _ T7_.heap _
    skip
    exact ⟨b1_, t1_7_, rfl, N7_, k17_, so_⟩
  · show CHr Z consts_1 s.vm s.heap T7_.vm T7_.heap
    rw [hh]
    exact cr14_.trans (CHv.at X7_ hZ7_ hEL ch7_)
theorem ef_rmS1 (m : MethodId) (x0 : Int32) (x1 : Int32) : entryFrame m #[(.int x0), (.int x1)] 5 = mkF m 0 #[.val (.int x0), .val (.int x1), .unset, .unset, .unset] [] := by first | (simp [entryFrame, mkF, argsToLocals, Value.category]; done) | rfl
theorem rmS1 (l : Launch) (Z : State) (a0 : Array Value) (hw : ∀ d ∈ tables_1, d.before a0 Z = true) (hEL : EW Z a0 consts_1) (ws : List Jvm.Cond) (p1 : Int32) (p2 : Int32) (G1 : Int32) (h0 : Heap) (n0 : Nat) (Z0 : n0 ≤ h0.size) (T1 : Sta Z Z.heap "java/lang/String" "COMPACT_STRINGS" "Z" (.int G1)) (P5 : ¬ (G1 = (0 : Int32))) (O1 : Old Z n0 h0) (hq0 : ¬ (p1 = (0 : Int32))) (hq1 : p1 = (1 : Int32)) :
    MetFree l (⟨"com/example/brisk_warden/briskwarden/core/UnsupportedNumberExceptionAtPinLaw", "str", "(II)Ljava/lang/String;"⟩ : MethodName) (head1 (Jvm.Cond.code (⟨"com/example/brisk_warden/briskwarden/core/UnsupportedNumberExceptionAtPinLaw", "str", "(II)Ljava/lang/String;"⟩ : MethodName) method_3_code 5 (some (.object "java/lang/String")) :: ws) ({ frames := 4, cells := 6, slots := 12, locals := 66 } : Room)) (fun a U => a = #[(.int p1), (.int p2)] ∧ Z.Warmed39 U.vm ∧ U.heap = h0 ∧ CHv Z consts_1 U.vm h0) (fun _ _ _ _ _ => True) (fun _ U o U' => ∃ v L, o = .returned v ∧ Q_rmS0 Z p1 p2 G1 h0 n0 v U'.heap L ∧ CHr Z consts_1 U.vm U.heap U'.vm U'.heap ∧ ReturnedEndW U o U' L ({ frames := 4, cells := 6, slots := 12, locals := 66 } : Room).cells ({ frames := 4, cells := 6, slots := 12, locals := 66 } : Room).slots) := by
  refine MetFree.of_bodySF (plainFor_of_name pn_com_example_brisk_warden_briskwarden_core_UnsupportedNumberExceptionAtPinLaw) hisR ?_
  intro p e s m args below meth c s₁ Bd hml0 hP hK
  obtain ⟨rfl, hZ, hh, H0'⟩ := hP
  have hx := Bd.exec
  have hby := Bd.bytes
  have hml : c.maxLocals = 5 := hml0
  have hown : s.vm.findClass "com/example/brisk_warden/briskwarden/core/UnsupportedNumberExceptionAtPinLaw" = some m.cls := findClass_of_methodNamed Bd.named
  have hnm := (name_of_methodNamed Bd.named Bd.method).1
  have X0 : Stand p l e ({ frames := 4, cells := 6, slots := 12, locals := 66 } : Room) (s.setVm s.vm) m #[(.int p1), (.int p2)] below meth c s₁ [] 0 0 := Stand.of_body Bd
  have e0 : s₁.heap = h0 := by rw [← hh, Bd.state]; rfl
  have N0 := Fr.nil n0
  have hS0 : s.Since s.vm h0.size := own_since0 s _
  have hk0 : h0.size ≤ h0.size := Nat.le_refl _
  have H0 : CHv Z consts_1 s.vm h0 := H0'
  have wS : ∀ a ∈ Bundle.stringAtoms, a.before a0 Z = true := fun a ha => hw a ((by decide +kernel : ∀ a ∈ Bundle.stringAtoms, a ∈ tables_1) a ha)
  have pre0 : ∀ t, Steps p.tables e below (s₁.setTop (mkF m 0 #[.val (.int p1), .val (.int p2), .unset, .unset, .unset] [])) t → Steps p.tables e below (s₁.setTop (entryFrame m #[(.int p1), (.int p2)] 5)) t := fun t k => castTop (ef_rmS1 m p1 p2) k
  obtain ⟨_, _, ⟨T1_, L1_, k1_, n1_⟩, -, X1_, ⟨Lc1_, hQ1_, l1_, y1_, z1_⟩, st1_⟩ := Jvm.LawKit.callS X0 hx (y := (⟨"java/lang/String", "valueOf", "(C)Ljava/lang/String;"⟩ : MethodName)) hown (mvT hZ (own_w hw 4 rfl)) (mvT hZ (own_w hw 5 rfl)) (mvT hZ (own_w hw 6 rfl)) (mvT hZ (own_w hw 7 rfl)) (by decide) (backOf (W := 0) (svOf l Z a0 hw [] ((p2 &&& (255 : Int32)).toUInt32.toUInt16.toUInt32.toInt32) G1 h0 n0 Z0 T1 P5 O1 (own_i2c _)) hZ (own_w hw 7 rfl) (own_w hw 6 rfl) (by decide) (by decide)) (g := (mkF m 49 #[.val (.int p1), .val (.int p2), .val (.int ((p2 &&& (255 : Int32)).toUInt32.toUInt16.toUInt32.toInt32)), .val (.int ((((p2.toUInt32 >>> ((8 : Int32) &&& 31).toUInt32).toInt32) &&& (255 : Int32)).toUInt32.toUInt16.toUInt32.toInt32)), .val (.int ((((p2.toUInt32 >>> ((16 : Int32) &&& 31).toUInt32).toInt32) &&& (255 : Int32)).toUInt32.toUInt16.toUInt32.toInt32))] [(.int ((p2 &&& (255 : Int32)).toUInt32.toUInt16.toUInt32.toInt32))])) rfl (by rw [hml]; rfl) (argsL := [(.int ((p2 &&& (255 : Int32)).toUInt32.toUInt16.toUInt32.toInt32))]) (rest := []) (lenOf pd_qCzLjava_lang_String rfl) rfl (by show 2 * 0 + _ ≤ _; exact Nat.le_of_eq rfl) (hb hby d1_49) (fun _ _ => ⟨rfl, e0, (by exact own_b rfl), (by exact own_b rfl)⟩)
  dsimp only [Pt.U, Pt.locs, Pt.cells, Pt.slots] at X1_ l1_ y1_ z1_ st1_ hQ1_
  subst L1_ k1_ n1_
  obtain ⟨xs_1_, ts_1_, rfl, Nq1_, ek1_, p1__0, p1__1, p1__2⟩ := hQ1_
  have N1_ := Fr.app N0 Nq1_
  have ch2_ : CHv Z consts_1 s.vm T1_.heap := CHv.keep ek1_ sf0 H0
  have cr3_ := (CHr.refl H0).trans (CHr.keep ek1_ sf0 H0)
  have so_ : own_Str Z T1_.heap xs_1_ ts_1_ (own_str p1 p2) := by rw [own_str, if_neg hq0, if_pos hq1]; exact p1__0
  have k4_ : Keep h0 T1_.heap [] := (Keep.refl h0 []).trans ek1_ all0
  obtain ⟨fs, hr, hrun, hended, hREW⟩ := X1_.leaveW hS0 (Nat.le_trans (Nat.le_trans hk0 ek1_.1) (Nat.le_of_eq (congrArg Array.size (rfl : T1_.heap = _).symm))) (v := some (.ref xs_1_)) (fun h => by first | rfl | (rw [Bd.returns] at h; cases h))
  refine ⟨_, _, pre0 _ ?_, hrun, hended, _, _, rfl, ?_, ?_, own_REW hREW (by exact own_b rfl) (by exact own_b rfl)⟩
  · show Steps p.tables e below (s₁.setTop (mkF m 0 #[.val (.int p1), .val (.int p2), .unset, .unset, .unset] [])) _
    refine XS.iloadN X0.here hx rfl (hb hby d1_0) rfl ?_
    refine XS.sipush X0.here hx rfl (hb hby d1_1) ?_
    refine XS.iand X0.here hx rfl (hb hby d1_4) rfl ?_
    show Steps p.tables e below (s₁.setTop (mkF m 5 #[.val (.int p1), .val (.int p2), .unset, .unset, .unset] [(.int (p2 &&& (255 : Int32)))])) _
    refine XS.i2c X0.here hx rfl (hb hby d1_5) rfl ?_
    show Steps p.tables e below (s₁.setTop (mkF m 6 #[.val (.int p1), .val (.int p2), .unset, .unset, .unset] [(.int ((p2 &&& (255 : Int32)).toUInt32.toUInt16.toUInt32.toInt32))])) _
    refine XS.istoreN X0.here hx rfl (hb hby d1_6) rfl (l' := #[.val (.int p1), .val (.int p2), .val (.int ((p2 &&& (255 : Int32)).toUInt32.toUInt16.toUInt32.toInt32)), .unset, .unset]) rfl ?_
    show Steps p.tables e below (s₁.setTop (mkF m 7 #[.val (.int p1), .val (.int p2), .val (.int ((p2 &&& (255 : Int32)).toUInt32.toUInt16.toUInt32.toInt32)), .unset, .unset] [])) _
    refine XS.iloadN X0.here hx rfl (hb hby d1_7) rfl ?_
    refine XS.bipush X0.here hx rfl (hb hby d1_8) ?_
    refine XS.iushr X0.here hx rfl (hb hby d1_10) rfl ?_
    show Steps p.tables e below (s₁.setTop (mkF m 11 #[.val (.int p1), .val (.int p2), .val (.int ((p2 &&& (255 : Int32)).toUInt32.toUInt16.toUInt32.toInt32)), .unset, .unset] [(.int ((p2.toUInt32 >>> ((8 : Int32) &&& 31).toUInt32).toInt32))])) _
    refine XS.sipush X0.here hx rfl (hb hby d1_11) ?_
    refine XS.iand X0.here hx rfl (hb hby d1_14) rfl ?_
    show Steps p.tables e below (s₁.setTop (mkF m 15 #[.val (.int p1), .val (.int p2), .val (.int ((p2 &&& (255 : Int32)).toUInt32.toUInt16.toUInt32.toInt32)), .unset, .unset] [(.int (((p2.toUInt32 >>> ((8 : Int32) &&& 31).toUInt32).toInt32) &&& (255 : Int32)))])) _
    refine XS.i2c X0.here hx rfl (hb hby d1_15) rfl ?_
    show Steps p.tables e below (s₁.setTop (mkF m 16 #[.val (.int p1), .val (.int p2), .val (.int ((p2 &&& (255 : Int32)).toUInt32.toUInt16.toUInt32.toInt32)), .unset, .unset] [(.int ((((p2.toUInt32 >>> ((8 : Int32) &&& 31).toUInt32).toInt32) &&& (255 : Int32)).toUInt32.toUInt16.toUInt32.toInt32))])) _
    refine XS.istoreN X0.here hx rfl (hb hby d1_16) rfl (l' := #[.val (.int p1), .val (.int p2), .val (.int ((p2 &&& (255 : Int32)).toUInt32.toUInt16.toUInt32.toInt32)), .val (.int ((((p2.toUInt32 >>> ((8 : Int32) &&& 31).toUInt32).toInt32) &&& (255 : Int32)).toUInt32.toUInt16.toUInt32.toInt32)), .unset]) rfl ?_
    show Steps p.tables e below (s₁.setTop (mkF m 17 #[.val (.int p1), .val (.int p2), .val (.int ((p2 &&& (255 : Int32)).toUInt32.toUInt16.toUInt32.toInt32)), .val (.int ((((p2.toUInt32 >>> ((8 : Int32) &&& 31).toUInt32).toInt32) &&& (255 : Int32)).toUInt32.toUInt16.toUInt32.toInt32)), .unset] [])) _
    refine XS.iloadN X0.here hx rfl (hb hby d1_17) rfl ?_
    refine XS.bipush X0.here hx rfl (hb hby d1_18) ?_
    refine XS.iushr X0.here hx rfl (hb hby d1_20) rfl ?_
    show Steps p.tables e below (s₁.setTop (mkF m 21 #[.val (.int p1), .val (.int p2), .val (.int ((p2 &&& (255 : Int32)).toUInt32.toUInt16.toUInt32.toInt32)), .val (.int ((((p2.toUInt32 >>> ((8 : Int32) &&& 31).toUInt32).toInt32) &&& (255 : Int32)).toUInt32.toUInt16.toUInt32.toInt32)), .unset] [(.int ((p2.toUInt32 >>> ((16 : Int32) &&& 31).toUInt32).toInt32))])) _
    refine XS.sipush X0.here hx rfl (hb hby d1_21) ?_
    refine XS.iand X0.here hx rfl (hb hby d1_24) rfl ?_
    show Steps p.tables e below (s₁.setTop (mkF m 25 #[.val (.int p1), .val (.int p2), .val (.int ((p2 &&& (255 : Int32)).toUInt32.toUInt16.toUInt32.toInt32)), .val (.int ((((p2.toUInt32 >>> ((8 : Int32) &&& 31).toUInt32).toInt32) &&& (255 : Int32)).toUInt32.toUInt16.toUInt32.toInt32)), .unset] [(.int (((p2.toUInt32 >>> ((16 : Int32) &&& 31).toUInt32).toInt32) &&& (255 : Int32)))])) _
    refine XS.i2c X0.here hx rfl (hb hby d1_25) rfl ?_
    show Steps p.tables e below (s₁.setTop (mkF m 26 #[.val (.int p1), .val (.int p2), .val (.int ((p2 &&& (255 : Int32)).toUInt32.toUInt16.toUInt32.toInt32)), .val (.int ((((p2.toUInt32 >>> ((8 : Int32) &&& 31).toUInt32).toInt32) &&& (255 : Int32)).toUInt32.toUInt16.toUInt32.toInt32)), .unset] [(.int ((((p2.toUInt32 >>> ((16 : Int32) &&& 31).toUInt32).toInt32) &&& (255 : Int32)).toUInt32.toUInt16.toUInt32.toInt32))])) _
    refine XS.istore X0.here hx rfl (hb hby d1_26) rfl (l' := #[.val (.int p1), .val (.int p2), .val (.int ((p2 &&& (255 : Int32)).toUInt32.toUInt16.toUInt32.toInt32)), .val (.int ((((p2.toUInt32 >>> ((8 : Int32) &&& 31).toUInt32).toInt32) &&& (255 : Int32)).toUInt32.toUInt16.toUInt32.toInt32)), .val (.int ((((p2.toUInt32 >>> ((16 : Int32) &&& 31).toUInt32).toInt32) &&& (255 : Int32)).toUInt32.toUInt16.toUInt32.toInt32))]) rfl ?_
    show Steps p.tables e below (s₁.setTop (mkF m 28 #[.val (.int p1), .val (.int p2), .val (.int ((p2 &&& (255 : Int32)).toUInt32.toUInt16.toUInt32.toInt32)), .val (.int ((((p2.toUInt32 >>> ((8 : Int32) &&& 31).toUInt32).toInt32) &&& (255 : Int32)).toUInt32.toUInt16.toUInt32.toInt32)), .val (.int ((((p2.toUInt32 >>> ((16 : Int32) &&& 31).toUInt32).toInt32) &&& (255 : Int32)).toUInt32.toUInt16.toUInt32.toInt32))] [])) _
    refine XS.iloadN X0.here hx rfl (hb hby d1_28) rfl ?_
    refine XS.ifYes X0.here hx rfl (pc0 := 29) (pc' := 43) rfl (hb hby d1_29) rfl ((if0 _ _).trans (feq (hq0 : ¬ (p1 = (0 : Int32)))).2) (by decide) (by decide) ?_
    refine XS.iloadN X0.here hx rfl (hb hby d1_43) rfl ?_
    refine XS.iconst X0.here hx rfl (hb hby d1_44) ?_
    refine XS.icmpNo X0.here hx rfl (hb hby d1_45) rfl (teq (hq1 : p1 = (1 : Int32))).2 ?_
    refine XS.iloadN X0.here hx rfl (hb hby d1_48) rfl ?_
    refine st1_ _ ?_
    show Steps p.tables e below (T1_.setTop (mkF m 52 #[.val (.int p1), .val (.int p2), .val (.int ((p2 &&& (255 : Int32)).toUInt32.toUInt16.toUInt32.toInt32)), .val (.int ((((p2.toUInt32 >>> ((8 : Int32) &&& 31).toUInt32).toInt32) &&& (255 : Int32)).toUInt32.toUInt16.toUInt32.toInt32)), .val (.int ((((p2.toUInt32 >>> ((16 : Int32) &&& 31).toUInt32).toInt32) &&& (255 : Int32)).toUInt32.toUInt16.toUInt32.toInt32))] [(.ref xs_1_)])) _
    exact retR X1_ hx Bd.returns rfl rfl rfl (hb hby d1_52) hr
  · show Q_rmS0 Z p1 p2 G1 h0 n0 _ T1_.heap _
    skip
    exact ⟨xs_1_, ts_1_, rfl, N1_, k4_, so_⟩
  · show CHr Z consts_1 s.vm s.heap T1_.vm T1_.heap
    rw [hh]
    exact cr3_.trans (CHv.at X1_ hZ hEL ch2_)
theorem ef_rmS2 (m : MethodId) (x0 : Int32) (x1 : Int32) : entryFrame m #[(.int x0), (.int x1)] 5 = mkF m 0 #[.val (.int x0), .val (.int x1), .unset, .unset, .unset] [] := by first | (simp [entryFrame, mkF, argsToLocals, Value.category]; done) | rfl
theorem rmS2 (l : Launch) (Z : State) (a0 : Array Value) (hw : ∀ d ∈ tables_1, d.before a0 Z = true) (hEL : EW Z a0 consts_1) (ws : List Jvm.Cond) (p1 : Int32) (p2 : Int32) (G1 : Int32) (h0 : Heap) (n0 : Nat) (Z0 : n0 ≤ h0.size) (T1 : Sta Z Z.heap "java/lang/String" "COMPACT_STRINGS" "Z" (.int G1)) (P5 : ¬ (G1 = (0 : Int32))) (O1 : Old Z n0 h0) (hq0 : ¬ (p1 = (0 : Int32))) (hq1 : ¬ (p1 = (1 : Int32))) (hq2 : p1 = (2 : Int32)) :
    MetFree l (⟨"com/example/brisk_warden/briskwarden/core/UnsupportedNumberExceptionAtPinLaw", "str", "(II)Ljava/lang/String;"⟩ : MethodName) (head1 (Jvm.Cond.code (⟨"com/example/brisk_warden/briskwarden/core/UnsupportedNumberExceptionAtPinLaw", "str", "(II)Ljava/lang/String;"⟩ : MethodName) method_3_code 5 (some (.object "java/lang/String")) :: ws) ({ frames := 4, cells := 6, slots := 12, locals := 66 } : Room)) (fun a U => a = #[(.int p1), (.int p2)] ∧ Z.Warmed39 U.vm ∧ U.heap = h0 ∧ CHv Z consts_1 U.vm h0) (fun _ _ _ _ _ => True) (fun _ U o U' => ∃ v L, o = .returned v ∧ Q_rmS0 Z p1 p2 G1 h0 n0 v U'.heap L ∧ CHr Z consts_1 U.vm U.heap U'.vm U'.heap ∧ ReturnedEndW U o U' L ({ frames := 4, cells := 6, slots := 12, locals := 66 } : Room).cells ({ frames := 4, cells := 6, slots := 12, locals := 66 } : Room).slots) := by
  refine MetFree.of_bodySF (plainFor_of_name pn_com_example_brisk_warden_briskwarden_core_UnsupportedNumberExceptionAtPinLaw) hisR ?_
  intro p e s m args below meth c s₁ Bd hml0 hP hK
  obtain ⟨rfl, hZ, hh, H0'⟩ := hP
  have hx := Bd.exec
  have hby := Bd.bytes
  have hml : c.maxLocals = 5 := hml0
  have hown : s.vm.findClass "com/example/brisk_warden/briskwarden/core/UnsupportedNumberExceptionAtPinLaw" = some m.cls := findClass_of_methodNamed Bd.named
  have hnm := (name_of_methodNamed Bd.named Bd.method).1
  have X0 : Stand p l e ({ frames := 4, cells := 6, slots := 12, locals := 66 } : Room) (s.setVm s.vm) m #[(.int p1), (.int p2)] below meth c s₁ [] 0 0 := Stand.of_body Bd
  have e0 : s₁.heap = h0 := by rw [← hh, Bd.state]; rfl
  have N0 := Fr.nil n0
  have hS0 : s.Since s.vm h0.size := own_since0 s _
  have hk0 : h0.size ≤ h0.size := Nat.le_refl _
  have H0 : CHv Z consts_1 s.vm h0 := H0'
  have wS : ∀ a ∈ Bundle.stringAtoms, a.before a0 Z = true := fun a ha => hw a ((by decide +kernel : ∀ a ∈ Bundle.stringAtoms, a ∈ tables_1) a ha)
  have pre0 : ∀ t, Steps p.tables e below (s₁.setTop (mkF m 0 #[.val (.int p1), .val (.int p2), .unset, .unset, .unset] [])) t → Steps p.tables e below (s₁.setTop (entryFrame m #[(.int p1), (.int p2)] 5)) t := fun t k => castTop (ef_rmS2 m p1 p2) k
  obtain ⟨T1_, h1_, X1_, e1_, E1_, A1_, D1_, U1_, st1_⟩ := newO X0 hx hZ hown (own_w hw 30 rfl) (own_w hw 14 rfl) (own_w hw 6 rfl) e0 (g := (mkF m 58 #[.val (.int p1), .val (.int p2), .val (.int ((p2 &&& (255 : Int32)).toUInt32.toUInt16.toUInt32.toInt32)), .val (.int ((((p2.toUInt32 >>> ((8 : Int32) &&& 31).toUInt32).toInt32) &&& (255 : Int32)).toUInt32.toUInt16.toUInt32.toInt32)), .val (.int ((((p2.toUInt32 >>> ((16 : Int32) &&& 31).toUInt32).toInt32) &&& (255 : Int32)).toUInt32.toUInt16.toUInt32.toInt32))] [])) rfl (hb hby d1_58) (by exact own_b rfl) (by exact own_b rfl)
  obtain ⟨b1_, g1_⟩ : ∃ z, z = h0.size := ⟨_, rfl⟩
  rw [← g1_] at A1_ D1_ U1_ st1_
  have sf1_ : Safe Z consts_1 s.vm h0 b1_ := Safe.new (Nat.le_of_eq g1_.symm)
  have ch2_ : CHv Z consts_1 s.vm h1_ := CHv.ext E1_ H0
  have cr3_ := (CHr.refl H0).trans (CHr.ext E1_ H0)
  have F1__value : Fld Z h1_ b1_ "java/lang/String" "value" "[B" .null := D1_ (Or.inr (own_w hw 27 rfl)) (ty := (.array .byte)) (by decide)
  have F1__coder : Fld Z h1_ b1_ "java/lang/String" "coder" "B" (.int (0 : Int32)) := D1_ (Or.inr (own_w hw 29 rfl)) (ty := .byte) (by decide)
  obtain ⟨T4_, h4_, k4_, X4_, e4_, E4_, A4_, st4_⟩ := newP X1_ hx hZ (own_w hw 31 rfl) e1_ (g := (mkF m 63 #[.val (.int p1), .val (.int p2), .val (.int ((p2 &&& (255 : Int32)).toUInt32.toUInt16.toUInt32.toInt32)), .val (.int ((((p2.toUInt32 >>> ((8 : Int32) &&& 31).toUInt32).toInt32) &&& (255 : Int32)).toUInt32.toUInt16.toUInt32.toInt32)), .val (.int ((((p2.toUInt32 >>> ((16 : Int32) &&& 31).toUInt32).toInt32) &&& (255 : Int32)).toUInt32.toUInt16.toUInt32.toInt32))] [(.int (2 : Int32)), (.ref b1_), (.ref b1_)])) rfl (hb hby d1_63) rfl (by decide) (cap := 2) (by decide) (by decide) (by exact own_b rfl) (by exact own_b rfl)
  obtain ⟨b4_, g4_⟩ : ∃ z, z = h1_.size := ⟨_, rfl⟩
  rw [← g4_] at A4_ st4_
  have sf4_ : Safe Z consts_1 s.vm h1_ b4_ := Safe.new (Nat.le_of_eq g4_.symm)
  have ch5_ : CHv Z consts_1 s.vm h4_ := CHv.ext E4_ ch2_
  have cr6_ := cr3_.trans (CHr.ext E4_ ch2_)
  have v4_ : Arv Z h4_ b4_ k4_ .char (2 : Int32) [(.int (0 : Int32)), (.int (0 : Int32))] (.int (0 : Int32)) := (Arv.new A4_ (by decide)).pad (pad_rep [] (.int (0 : Int32)) 2)
  have z9_ : n0 ≤ h1_.size := Nat.le_trans Z0 E1_.1
  have g8_ : n0 ≤ b4_ := Nat.le_trans z9_ (Nat.le_of_eq g4_.symm)
  have f10_ : Safe Z consts_1 s.vm h4_ b4_ := (Safe.ext E4_ ch2_ sf4_)
  obtain ⟨cl7_, Ar7_, q7_, S7_, M7_, Hs7_, G7_⟩ := id v4_
  have in7_ : ¬ ((0 : Int32) < 0 ∨ cl7_.slots.size ≤ ((0 : Int32)).toNatClampNeg) := inb_of S7_ ⟨by decide, by decide⟩
  obtain ⟨T7_, h7_, X7_, e7_, W7_, st7_⟩ := stC X4_ hx hZ e4_ Ar7_ (j := (0 : Int32)) in7_ (g := (mkF m 68 #[.val (.int p1), .val (.int p2), .val (.int ((p2 &&& (255 : Int32)).toUInt32.toUInt16.toUInt32.toInt32)), .val (.int ((((p2.toUInt32 >>> ((8 : Int32) &&& 31).toUInt32).toInt32) &&& (255 : Int32)).toUInt32.toUInt16.toUInt32.toInt32)), .val (.int ((((p2.toUInt32 >>> ((16 : Int32) &&& 31).toUInt32).toInt32) &&& (255 : Int32)).toUInt32.toUInt16.toUInt32.toInt32))] [(.int ((p2 &&& (255 : Int32)).toUInt32.toUInt16.toUInt32.toInt32)), (.int (0 : Int32)), (.ref b4_), (.ref b4_), (.ref b1_), (.ref b1_)])) rfl rfl (hb hby d1_68)
  have ch11_ : CHv Z consts_1 s.vm h7_ := CHv.wr W7_ f10_ ch5_
  have cr12_ := cr6_.trans (CHr.wr W7_ f10_ ch5_)
  have v7_ : Arv Z h7_ b4_ k4_ .char (2 : Int32) [(.int (nar .char ((p2 &&& (255 : Int32)).toUInt32.toUInt16.toUInt32.toInt32))), (.int (0 : Int32))] (.int (0 : Int32)) := Arv.set Ar7_ q7_ S7_ M7_ Hs7_ G7_ (fits_nar_char _) W7_ 0 rfl (Nat.le_of_ble_eq_true rfl)
  have N7_ := Fr.snoc X7_ N0 g8_
  have f14_ : Safe Z consts_1 s.vm h7_ b4_ := (Safe.wr W7_ f10_ ch5_ f10_)
  obtain ⟨cl13_, Ar13_, q13_, S13_, M13_, Hs13_, G13_⟩ := id v7_
  have in13_ : ¬ ((1 : Int32) < 0 ∨ cl13_.slots.size ≤ ((1 : Int32)).toNatClampNeg) := inb_of S13_ ⟨by decide, by decide⟩
  obtain ⟨T13_, h13_, X13_, e13_, W13_, st13_⟩ := stC X7_ hx hZ e7_ Ar13_ (j := (1 : Int32)) in13_ (g := (mkF m 72 #[.val (.int p1), .val (.int p2), .val (.int ((p2 &&& (255 : Int32)).toUInt32.toUInt16.toUInt32.toInt32)), .val (.int ((((p2.toUInt32 >>> ((8 : Int32) &&& 31).toUInt32).toInt32) &&& (255 : Int32)).toUInt32.toUInt16.toUInt32.toInt32)), .val (.int ((((p2.toUInt32 >>> ((16 : Int32) &&& 31).toUInt32).toInt32) &&& (255 : Int32)).toUInt32.toUInt16.toUInt32.toInt32))] [(.int ((((p2.toUInt32 >>> ((8 : Int32) &&& 31).toUInt32).toInt32) &&& (255 : Int32)).toUInt32.toUInt16.toUInt32.toInt32)), (.int (1 : Int32)), (.ref b4_), (.ref b4_), (.ref b1_), (.ref b1_)])) rfl rfl (hb hby d1_72)
  have ch15_ : CHv Z consts_1 s.vm h13_ := CHv.wr W13_ f14_ ch11_
  have cr16_ := cr12_.trans (CHr.wr W13_ f14_ ch11_)
  have v13_ : Arv Z h13_ b4_ k4_ .char (2 : Int32) [(.int (nar .char ((p2 &&& (255 : Int32)).toUInt32.toUInt16.toUInt32.toInt32))), (.int (nar .char ((((p2.toUInt32 >>> ((8 : Int32) &&& 31).toUInt32).toInt32) &&& (255 : Int32)).toUInt32.toUInt16.toUInt32.toInt32)))] (.int (0 : Int32)) := Arv.set Ar13_ q13_ S13_ M13_ Hs13_ G13_ (fits_nar_char _) W13_ 1 rfl (Nat.le_of_ble_eq_true rfl)
  have N13_ := Fr.snoc X13_ N7_ g8_
  have hp17_ : ∀ c ∈ ([(nar .char ((p2 &&& (255 : Int32)).toUInt32.toUInt16.toUInt32.toInt32)), (nar .char ((((p2.toUInt32 >>> ((8 : Int32) &&& 31).toUInt32).toInt32) &&& (255 : Int32)).toUInt32.toUInt16.toUInt32.toInt32))] : List Int32), ¬ c < 0 ∧ ¬ (255 : Int32) < c := by
    intro c hc
    simp only [List.mem_cons, List.not_mem_nil, or_false] at hc
    rcases hc with rfl | rfl
    · exact (own_and255 _)
    · exact (own_and255 _)
  have g18_ : n0 ≤ b1_ := Nat.le_trans Z0 (Nat.le_of_eq g1_.symm)
  have z19_ : n0 ≤ h4_.size := Nat.le_trans z9_ E4_.1
  have z20_ : n0 ≤ h7_.size := Nat.le_trans z19_ (Keep.of_wr W7_).1
  have z21_ : n0 ≤ h13_.size := Nat.le_trans z20_ (Keep.of_wr W13_).1
  have f22_ : Exa Z h13_ b1_ "java/lang/String" := (((A1_.ext E4_).wr W7_).wr W13_)
  have f23_ : Fld Z h13_ b1_ "java/lang/String" "value" "[B" .null := (((F1__value.ext E4_).other W7_ (Or.inl (Nat.ne_of_lt (Nat.lt_of_lt_of_le A1_.lt (Nat.le_of_eq g4_.symm))))).other W13_ (Or.inl (Nat.ne_of_lt (Nat.lt_of_lt_of_le A1_.lt (Nat.le_of_eq g4_.symm)))))
  have f24_ : Fld Z h13_ b1_ "java/lang/String" "coder" "B" (.int (0 : Int32)) := (((F1__coder.ext E4_).other W7_ (Or.inl (Nat.ne_of_lt (Nat.lt_of_lt_of_le A1_.lt (Nat.le_of_eq g4_.symm))))).other W13_ (Or.inl (Nat.ne_of_lt (Nat.lt_of_lt_of_le A1_.lt (Nat.le_of_eq g4_.symm)))))
  have f25_ : Old Z n0 h13_ := ((((O1.ext E1_).ext E4_).wr W7_ g8_).wr W13_ g8_)
  obtain ⟨_, _, ⟨T17_, L17_, k17_, n17_⟩, -, X17_, ⟨Lc17_, hQ17_, l17_, y17_, z17_⟩, st17_⟩ := X13_.specialBack hx (y := (⟨"java/lang/String", "<init>", "([C)V"⟩ : MethodName)) rfl hown (mvT hZ (own_w hw 32 rfl)) (mvT hZ (own_w hw 33 rfl)) (mvT hZ (own_w hw 34 rfl)) (by decide) (own_newB (W := 1) (n0 := n0) (cs := ([(nar .char ((p2 &&& (255 : Int32)).toUInt32.toUInt16.toUInt32.toInt32)), (nar .char ((((p2.toUInt32 >>> ((8 : Int32) &&& 31).toUInt32).toInt32) &&& (255 : Int32)).toUInt32.toUInt16.toUInt32.toInt32))] : List Int32)) hZ hw g18_ z21_ f22_ f23_ f24_ v13_ T1 P5 f25_ (n := 2) rfl rfl (by decide) (by decide) hp17_ (by decide) (by decide)) (g := (mkF m 73 #[.val (.int p1), .val (.int p2), .val (.int ((p2 &&& (255 : Int32)).toUInt32.toUInt16.toUInt32.toInt32)), .val (.int ((((p2.toUInt32 >>> ((8 : Int32) &&& 31).toUInt32).toInt32) &&& (255 : Int32)).toUInt32.toUInt16.toUInt32.toInt32)), .val (.int ((((p2.toUInt32 >>> ((16 : Int32) &&& 31).toUInt32).toInt32) &&& (255 : Int32)).toUInt32.toUInt16.toUInt32.toInt32))] [(.ref b4_), (.ref b1_), (.ref b1_)])) rfl (by rw [hml]; rfl) (Steps.refl _) (a := b1_) (argsL := [(.ref b4_)]) (rest := [(.ref b1_)]) (lenOf pd_qaCzV rfl) rfl (by show 2 * 0 + _ ≤ _; exact Nat.le_of_eq rfl) (hb hby d1_73) (fun _ _ => ⟨rfl, e13_, (by exact own_b rfl), (by exact own_b rfl)⟩)
  dsimp only [Pt.U, Pt.locs, Pt.cells, Pt.slots] at X17_ l17_ y17_ z17_ st17_ hQ17_
  subst L17_ k17_ n17_
  obtain ⟨t17_, rfl, Nq17_, ek17_, lb17_, str17_⟩ := hQ17_
  have N17_ := Fr.app N13_ Nq17_
  have f26_ : Safe Z consts_1 s.vm h13_ b1_ := (Safe.wr W13_ f14_ ch11_ (Safe.wr W7_ f10_ ch5_ (Safe.ext E4_ ch2_ (Safe.ext E1_ H0 sf1_))))
  have ch27_ : CHv Z consts_1 s.vm T17_.heap := CHv.keep ek17_ (sfS f26_ sf0) ch15_
  have cr28_ := cr16_.trans (CHr.keep ek17_ (sfS f26_ sf0) ch15_)
  have so_ : own_Str Z T17_.heap b1_ t17_ (own_str p1 p2) := by rw [own_str, if_neg hq0, if_neg hq1, if_pos hq2]; exact str17_
  have k29_ : Keep h0 h1_ [] := (Keep.refl h0 []).ext E1_
  have k30_ : Keep h0 h4_ [] := k29_.ext E4_
  have k31_ : Keep h0 h7_ [] := k30_.wr W7_ (Or.inr (Nat.le_trans k29_.1 (Nat.le_of_eq g4_.symm)))
  have k32_ : Keep h0 h13_ [] := k31_.wr W13_ (Or.inr (Nat.le_trans k29_.1 (Nat.le_of_eq g4_.symm)))
  have k33_ : Keep h0 T17_.heap [] := k32_.trans ek17_ (allS (Or.inr (Nat.le_trans (Keep.refl h0 []).1 (Nat.le_of_eq g1_.symm))) all0)
  obtain ⟨fs, hr, hrun, hended, hREW⟩ := X17_.leaveW hS0 (Nat.le_trans (Nat.le_trans (Nat.le_trans (Nat.le_trans (Nat.le_trans (Nat.le_trans hk0 E1_.1) E4_.1) (Keep.of_wr W7_).1) (Keep.of_wr W13_).1) ek17_.1) (Nat.le_of_eq (congrArg Array.size (rfl : T17_.heap = _).symm))) (v := some (.ref b1_)) (fun h => by first | rfl | (rw [Bd.returns] at h; cases h))
  refine ⟨_, _, pre0 _ ?_, hrun, hended, _, _, rfl, ?_, ?_, own_REW hREW (by exact own_b rfl) (by exact own_b rfl)⟩
  · show Steps p.tables e below (s₁.setTop (mkF m 0 #[.val (.int p1), .val (.int p2), .unset, .unset, .unset] [])) _
    refine XS.iloadN X0.here hx rfl (hb hby d1_0) rfl ?_
    refine XS.sipush X0.here hx rfl (hb hby d1_1) ?_
    refine XS.iand X0.here hx rfl (hb hby d1_4) rfl ?_
    show Steps p.tables e below (s₁.setTop (mkF m 5 #[.val (.int p1), .val (.int p2), .unset, .unset, .unset] [(.int (p2 &&& (255 : Int32)))])) _
    refine XS.i2c X0.here hx rfl (hb hby d1_5) rfl ?_
    show Steps p.tables e below (s₁.setTop (mkF m 6 #[.val (.int p1), .val (.int p2), .unset, .unset, .unset] [(.int ((p2 &&& (255 : Int32)).toUInt32.toUInt16.toUInt32.toInt32))])) _
    refine XS.istoreN X0.here hx rfl (hb hby d1_6) rfl (l' := #[.val (.int p1), .val (.int p2), .val (.int ((p2 &&& (255 : Int32)).toUInt32.toUInt16.toUInt32.toInt32)), .unset, .unset]) rfl ?_
    show Steps p.tables e below (s₁.setTop (mkF m 7 #[.val (.int p1), .val (.int p2), .val (.int ((p2 &&& (255 : Int32)).toUInt32.toUInt16.toUInt32.toInt32)), .unset, .unset] [])) _
    refine XS.iloadN X0.here hx rfl (hb hby d1_7) rfl ?_
    refine XS.bipush X0.here hx rfl (hb hby d1_8) ?_
    refine XS.iushr X0.here hx rfl (hb hby d1_10) rfl ?_
    show Steps p.tables e below (s₁.setTop (mkF m 11 #[.val (.int p1), .val (.int p2), .val (.int ((p2 &&& (255 : Int32)).toUInt32.toUInt16.toUInt32.toInt32)), .unset, .unset] [(.int ((p2.toUInt32 >>> ((8 : Int32) &&& 31).toUInt32).toInt32))])) _
    refine XS.sipush X0.here hx rfl (hb hby d1_11) ?_
    refine XS.iand X0.here hx rfl (hb hby d1_14) rfl ?_
    show Steps p.tables e below (s₁.setTop (mkF m 15 #[.val (.int p1), .val (.int p2), .val (.int ((p2 &&& (255 : Int32)).toUInt32.toUInt16.toUInt32.toInt32)), .unset, .unset] [(.int (((p2.toUInt32 >>> ((8 : Int32) &&& 31).toUInt32).toInt32) &&& (255 : Int32)))])) _
    refine XS.i2c X0.here hx rfl (hb hby d1_15) rfl ?_
    show Steps p.tables e below (s₁.setTop (mkF m 16 #[.val (.int p1), .val (.int p2), .val (.int ((p2 &&& (255 : Int32)).toUInt32.toUInt16.toUInt32.toInt32)), .unset, .unset] [(.int ((((p2.toUInt32 >>> ((8 : Int32) &&& 31).toUInt32).toInt32) &&& (255 : Int32)).toUInt32.toUInt16.toUInt32.toInt32))])) _
    refine XS.istoreN X0.here hx rfl (hb hby d1_16) rfl (l' := #[.val (.int p1), .val (.int p2), .val (.int ((p2 &&& (255 : Int32)).toUInt32.toUInt16.toUInt32.toInt32)), .val (.int ((((p2.toUInt32 >>> ((8 : Int32) &&& 31).toUInt32).toInt32) &&& (255 : Int32)).toUInt32.toUInt16.toUInt32.toInt32)), .unset]) rfl ?_
    show Steps p.tables e below (s₁.setTop (mkF m 17 #[.val (.int p1), .val (.int p2), .val (.int ((p2 &&& (255 : Int32)).toUInt32.toUInt16.toUInt32.toInt32)), .val (.int ((((p2.toUInt32 >>> ((8 : Int32) &&& 31).toUInt32).toInt32) &&& (255 : Int32)).toUInt32.toUInt16.toUInt32.toInt32)), .unset] [])) _
    refine XS.iloadN X0.here hx rfl (hb hby d1_17) rfl ?_
    refine XS.bipush X0.here hx rfl (hb hby d1_18) ?_
    refine XS.iushr X0.here hx rfl (hb hby d1_20) rfl ?_
    show Steps p.tables e below (s₁.setTop (mkF m 21 #[.val (.int p1), .val (.int p2), .val (.int ((p2 &&& (255 : Int32)).toUInt32.toUInt16.toUInt32.toInt32)), .val (.int ((((p2.toUInt32 >>> ((8 : Int32) &&& 31).toUInt32).toInt32) &&& (255 : Int32)).toUInt32.toUInt16.toUInt32.toInt32)), .unset] [(.int ((p2.toUInt32 >>> ((16 : Int32) &&& 31).toUInt32).toInt32))])) _
    refine XS.sipush X0.here hx rfl (hb hby d1_21) ?_
    refine XS.iand X0.here hx rfl (hb hby d1_24) rfl ?_
    show Steps p.tables e below (s₁.setTop (mkF m 25 #[.val (.int p1), .val (.int p2), .val (.int ((p2 &&& (255 : Int32)).toUInt32.toUInt16.toUInt32.toInt32)), .val (.int ((((p2.toUInt32 >>> ((8 : Int32) &&& 31).toUInt32).toInt32) &&& (255 : Int32)).toUInt32.toUInt16.toUInt32.toInt32)), .unset] [(.int (((p2.toUInt32 >>> ((16 : Int32) &&& 31).toUInt32).toInt32) &&& (255 : Int32)))])) _
    refine XS.i2c X0.here hx rfl (hb hby d1_25) rfl ?_
    show Steps p.tables e below (s₁.setTop (mkF m 26 #[.val (.int p1), .val (.int p2), .val (.int ((p2 &&& (255 : Int32)).toUInt32.toUInt16.toUInt32.toInt32)), .val (.int ((((p2.toUInt32 >>> ((8 : Int32) &&& 31).toUInt32).toInt32) &&& (255 : Int32)).toUInt32.toUInt16.toUInt32.toInt32)), .unset] [(.int ((((p2.toUInt32 >>> ((16 : Int32) &&& 31).toUInt32).toInt32) &&& (255 : Int32)).toUInt32.toUInt16.toUInt32.toInt32))])) _
    refine XS.istore X0.here hx rfl (hb hby d1_26) rfl (l' := #[.val (.int p1), .val (.int p2), .val (.int ((p2 &&& (255 : Int32)).toUInt32.toUInt16.toUInt32.toInt32)), .val (.int ((((p2.toUInt32 >>> ((8 : Int32) &&& 31).toUInt32).toInt32) &&& (255 : Int32)).toUInt32.toUInt16.toUInt32.toInt32)), .val (.int ((((p2.toUInt32 >>> ((16 : Int32) &&& 31).toUInt32).toInt32) &&& (255 : Int32)).toUInt32.toUInt16.toUInt32.toInt32))]) rfl ?_
    show Steps p.tables e below (s₁.setTop (mkF m 28 #[.val (.int p1), .val (.int p2), .val (.int ((p2 &&& (255 : Int32)).toUInt32.toUInt16.toUInt32.toInt32)), .val (.int ((((p2.toUInt32 >>> ((8 : Int32) &&& 31).toUInt32).toInt32) &&& (255 : Int32)).toUInt32.toUInt16.toUInt32.toInt32)), .val (.int ((((p2.toUInt32 >>> ((16 : Int32) &&& 31).toUInt32).toInt32) &&& (255 : Int32)).toUInt32.toUInt16.toUInt32.toInt32))] [])) _
    refine XS.iloadN X0.here hx rfl (hb hby d1_28) rfl ?_
    refine XS.ifYes X0.here hx rfl (pc0 := 29) (pc' := 43) rfl (hb hby d1_29) rfl ((if0 _ _).trans (feq (hq0 : ¬ (p1 = (0 : Int32)))).2) (by decide) (by decide) ?_
    refine XS.iloadN X0.here hx rfl (hb hby d1_43) rfl ?_
    refine XS.iconst X0.here hx rfl (hb hby d1_44) ?_
    refine XS.icmpYes X0.here hx rfl (pc0 := 45) (pc' := 53) rfl (hb hby d1_45) rfl (feq (hq1 : ¬ (p1 = (1 : Int32)))).2 (by decide) (by decide) ?_
    refine XS.iloadN X0.here hx rfl (hb hby d1_53) rfl ?_
    refine XS.iconst X0.here hx rfl (hb hby d1_54) ?_
    refine XS.icmpNo X0.here hx rfl (hb hby d1_55) rfl (teq (hq2 : p1 = (2 : Int32))).2 ?_
    refine st1_ _ ?_
    show Steps p.tables e below (T1_.setTop (mkF m 61 #[.val (.int p1), .val (.int p2), .val (.int ((p2 &&& (255 : Int32)).toUInt32.toUInt16.toUInt32.toInt32)), .val (.int ((((p2.toUInt32 >>> ((8 : Int32) &&& 31).toUInt32).toInt32) &&& (255 : Int32)).toUInt32.toUInt16.toUInt32.toInt32)), .val (.int ((((p2.toUInt32 >>> ((16 : Int32) &&& 31).toUInt32).toInt32) &&& (255 : Int32)).toUInt32.toUInt16.toUInt32.toInt32))] [(.ref b1_)])) _
    refine XS.dup X1_.here hx rfl (hb hby d1_61) rfl rfl ?_
    refine XS.iconst X1_.here hx rfl (hb hby d1_62) ?_
    refine st4_ _ ?_
    show Steps p.tables e below (T4_.setTop (mkF m 65 #[.val (.int p1), .val (.int p2), .val (.int ((p2 &&& (255 : Int32)).toUInt32.toUInt16.toUInt32.toInt32)), .val (.int ((((p2.toUInt32 >>> ((8 : Int32) &&& 31).toUInt32).toInt32) &&& (255 : Int32)).toUInt32.toUInt16.toUInt32.toInt32)), .val (.int ((((p2.toUInt32 >>> ((16 : Int32) &&& 31).toUInt32).toInt32) &&& (255 : Int32)).toUInt32.toUInt16.toUInt32.toInt32))] [(.ref b4_), (.ref b1_), (.ref b1_)])) _
    refine XS.dup X4_.here hx rfl (hb hby d1_65) rfl rfl ?_
    refine XS.iconst X4_.here hx rfl (hb hby d1_66) ?_
    refine XS.iloadN X4_.here hx rfl (hb hby d1_67) rfl ?_
    refine st7_ _ ?_
    show Steps p.tables e below (T7_.setTop (mkF m 69 #[.val (.int p1), .val (.int p2), .val (.int ((p2 &&& (255 : Int32)).toUInt32.toUInt16.toUInt32.toInt32)), .val (.int ((((p2.toUInt32 >>> ((8 : Int32) &&& 31).toUInt32).toInt32) &&& (255 : Int32)).toUInt32.toUInt16.toUInt32.toInt32)), .val (.int ((((p2.toUInt32 >>> ((16 : Int32) &&& 31).toUInt32).toInt32) &&& (255 : Int32)).toUInt32.toUInt16.toUInt32.toInt32))] [(.ref b4_), (.ref b1_), (.ref b1_)])) _
    refine XS.dup X7_.here hx rfl (hb hby d1_69) rfl rfl ?_
    refine XS.iconst X7_.here hx rfl (hb hby d1_70) ?_
    refine XS.iloadN X7_.here hx rfl (hb hby d1_71) rfl ?_
    refine st13_ _ ?_
    show Steps p.tables e below (T13_.setTop (mkF m 73 #[.val (.int p1), .val (.int p2), .val (.int ((p2 &&& (255 : Int32)).toUInt32.toUInt16.toUInt32.toInt32)), .val (.int ((((p2.toUInt32 >>> ((8 : Int32) &&& 31).toUInt32).toInt32) &&& (255 : Int32)).toUInt32.toUInt16.toUInt32.toInt32)), .val (.int ((((p2.toUInt32 >>> ((16 : Int32) &&& 31).toUInt32).toInt32) &&& (255 : Int32)).toUInt32.toUInt16.toUInt32.toInt32))] [(.ref b4_), (.ref b1_), (.ref b1_)])) _
    refine st17_.trans ?_
    show Steps p.tables e below (T17_.setTop (mkF m 76 #[.val (.int p1), .val (.int p2), .val (.int ((p2 &&& (255 : Int32)).toUInt32.toUInt16.toUInt32.toInt32)), .val (.int ((((p2.toUInt32 >>> ((8 : Int32) &&& 31).toUInt32).toInt32) &&& (255 : Int32)).toUInt32.toUInt16.toUInt32.toInt32)), .val (.int ((((p2.toUInt32 >>> ((16 : Int32) &&& 31).toUInt32).toInt32) &&& (255 : Int32)).toUInt32.toUInt16.toUInt32.toInt32))] [(.ref b1_)])) _
    exact retR X17_ hx Bd.returns rfl rfl rfl (hb hby d1_76) hr
  · show Q_rmS0 Z p1 p2 G1 h0 n0 _ T17_.heap _
    skip
    exact ⟨b1_, t17_, rfl, N17_, k33_, so_⟩
  · show CHr Z consts_1 s.vm s.heap T17_.vm T17_.heap
    rw [hh]
    exact cr28_.trans (CHv.at X17_ hZ hEL ch27_)
theorem ef_rmS3 (m : MethodId) (x0 : Int32) (x1 : Int32) : entryFrame m #[(.int x0), (.int x1)] 5 = mkF m 0 #[.val (.int x0), .val (.int x1), .unset, .unset, .unset] [] := by first | (simp [entryFrame, mkF, argsToLocals, Value.category]; done) | rfl
theorem rmS3 (l : Launch) (Z : State) (a0 : Array Value) (hw : ∀ d ∈ tables_1, d.before a0 Z = true) (hEL : EW Z a0 consts_1) (ws : List Jvm.Cond) (p1 : Int32) (p2 : Int32) (G1 : Int32) (h0 : Heap) (n0 : Nat) (Z0 : n0 ≤ h0.size) (T1 : Sta Z Z.heap "java/lang/String" "COMPACT_STRINGS" "Z" (.int G1)) (P5 : ¬ (G1 = (0 : Int32))) (O1 : Old Z n0 h0) (hq0 : ¬ (p1 = (0 : Int32))) (hq1 : ¬ (p1 = (1 : Int32))) (hq2 : ¬ (p1 = (2 : Int32))) :
    MetFree l (⟨"com/example/brisk_warden/briskwarden/core/UnsupportedNumberExceptionAtPinLaw", "str", "(II)Ljava/lang/String;"⟩ : MethodName) (head1 (Jvm.Cond.code (⟨"com/example/brisk_warden/briskwarden/core/UnsupportedNumberExceptionAtPinLaw", "str", "(II)Ljava/lang/String;"⟩ : MethodName) method_3_code 5 (some (.object "java/lang/String")) :: ws) ({ frames := 4, cells := 6, slots := 12, locals := 66 } : Room)) (fun a U => a = #[(.int p1), (.int p2)] ∧ Z.Warmed39 U.vm ∧ U.heap = h0 ∧ CHv Z consts_1 U.vm h0) (fun _ _ _ _ _ => True) (fun _ U o U' => ∃ v L, o = .returned v ∧ Q_rmS0 Z p1 p2 G1 h0 n0 v U'.heap L ∧ CHr Z consts_1 U.vm U.heap U'.vm U'.heap ∧ ReturnedEndW U o U' L ({ frames := 4, cells := 6, slots := 12, locals := 66 } : Room).cells ({ frames := 4, cells := 6, slots := 12, locals := 66 } : Room).slots) := by
  refine MetFree.of_bodySF (plainFor_of_name pn_com_example_brisk_warden_briskwarden_core_UnsupportedNumberExceptionAtPinLaw) hisR ?_
  intro p e s m args below meth c s₁ Bd hml0 hP hK
  obtain ⟨rfl, hZ, hh, H0'⟩ := hP
  have hx := Bd.exec
  have hby := Bd.bytes
  have hml : c.maxLocals = 5 := hml0
  have hown : s.vm.findClass "com/example/brisk_warden/briskwarden/core/UnsupportedNumberExceptionAtPinLaw" = some m.cls := findClass_of_methodNamed Bd.named
  have hnm := (name_of_methodNamed Bd.named Bd.method).1
  have X0 : Stand p l e ({ frames := 4, cells := 6, slots := 12, locals := 66 } : Room) (s.setVm s.vm) m #[(.int p1), (.int p2)] below meth c s₁ [] 0 0 := Stand.of_body Bd
  have e0 : s₁.heap = h0 := by rw [← hh, Bd.state]; rfl
  have N0 := Fr.nil n0
  have hS0 : s.Since s.vm h0.size := own_since0 s _
  have hk0 : h0.size ≤ h0.size := Nat.le_refl _
  have H0 : CHv Z consts_1 s.vm h0 := H0'
  have wS : ∀ a ∈ Bundle.stringAtoms, a.before a0 Z = true := fun a ha => hw a ((by decide +kernel : ∀ a ∈ Bundle.stringAtoms, a ∈ tables_1) a ha)
  have pre0 : ∀ t, Steps p.tables e below (s₁.setTop (mkF m 0 #[.val (.int p1), .val (.int p2), .unset, .unset, .unset] [])) t → Steps p.tables e below (s₁.setTop (entryFrame m #[(.int p1), (.int p2)] 5)) t := fun t k => castTop (ef_rmS3 m p1 p2) k
  obtain ⟨T1_, h1_, X1_, e1_, E1_, A1_, D1_, U1_, st1_⟩ := newO X0 hx hZ hown (own_w hw 30 rfl) (own_w hw 14 rfl) (own_w hw 6 rfl) e0 (g := (mkF m 77 #[.val (.int p1), .val (.int p2), .val (.int ((p2 &&& (255 : Int32)).toUInt32.toUInt16.toUInt32.toInt32)), .val (.int ((((p2.toUInt32 >>> ((8 : Int32) &&& 31).toUInt32).toInt32) &&& (255 : Int32)).toUInt32.toUInt16.toUInt32.toInt32)), .val (.int ((((p2.toUInt32 >>> ((16 : Int32) &&& 31).toUInt32).toInt32) &&& (255 : Int32)).toUInt32.toUInt16.toUInt32.toInt32))] [])) rfl (hb hby d1_77) (by exact own_b rfl) (by exact own_b rfl)
  obtain ⟨b1_, g1_⟩ : ∃ z, z = h0.size := ⟨_, rfl⟩
  rw [← g1_] at A1_ D1_ U1_ st1_
  have sf1_ : Safe Z consts_1 s.vm h0 b1_ := Safe.new (Nat.le_of_eq g1_.symm)
  have ch2_ : CHv Z consts_1 s.vm h1_ := CHv.ext E1_ H0
  have cr3_ := (CHr.refl H0).trans (CHr.ext E1_ H0)
  have F1__value : Fld Z h1_ b1_ "java/lang/String" "value" "[B" .null := D1_ (Or.inr (own_w hw 27 rfl)) (ty := (.array .byte)) (by decide)
  have F1__coder : Fld Z h1_ b1_ "java/lang/String" "coder" "B" (.int (0 : Int32)) := D1_ (Or.inr (own_w hw 29 rfl)) (ty := .byte) (by decide)
  obtain ⟨T4_, h4_, k4_, X4_, e4_, E4_, A4_, st4_⟩ := newP X1_ hx hZ (own_w hw 31 rfl) e1_ (g := (mkF m 82 #[.val (.int p1), .val (.int p2), .val (.int ((p2 &&& (255 : Int32)).toUInt32.toUInt16.toUInt32.toInt32)), .val (.int ((((p2.toUInt32 >>> ((8 : Int32) &&& 31).toUInt32).toInt32) &&& (255 : Int32)).toUInt32.toUInt16.toUInt32.toInt32)), .val (.int ((((p2.toUInt32 >>> ((16 : Int32) &&& 31).toUInt32).toInt32) &&& (255 : Int32)).toUInt32.toUInt16.toUInt32.toInt32))] [(.int (3 : Int32)), (.ref b1_), (.ref b1_)])) rfl (hb hby d1_82) rfl (by decide) (cap := 3) (by decide) (by decide) (by exact own_b rfl) (by exact own_b rfl)
  obtain ⟨b4_, g4_⟩ : ∃ z, z = h1_.size := ⟨_, rfl⟩
  rw [← g4_] at A4_ st4_
  have sf4_ : Safe Z consts_1 s.vm h1_ b4_ := Safe.new (Nat.le_of_eq g4_.symm)
  have ch5_ : CHv Z consts_1 s.vm h4_ := CHv.ext E4_ ch2_
  have cr6_ := cr3_.trans (CHr.ext E4_ ch2_)
  have v4_ : Arv Z h4_ b4_ k4_ .char (3 : Int32) [(.int (0 : Int32)), (.int (0 : Int32)), (.int (0 : Int32))] (.int (0 : Int32)) := (Arv.new A4_ (by decide)).pad (pad_rep [] (.int (0 : Int32)) 3)
  have z9_ : n0 ≤ h1_.size := Nat.le_trans Z0 E1_.1
  have g8_ : n0 ≤ b4_ := Nat.le_trans z9_ (Nat.le_of_eq g4_.symm)
  have f10_ : Safe Z consts_1 s.vm h4_ b4_ := (Safe.ext E4_ ch2_ sf4_)
  obtain ⟨cl7_, Ar7_, q7_, S7_, M7_, Hs7_, G7_⟩ := id v4_
  have in7_ : ¬ ((0 : Int32) < 0 ∨ cl7_.slots.size ≤ ((0 : Int32)).toNatClampNeg) := inb_of S7_ ⟨by decide, by decide⟩
  obtain ⟨T7_, h7_, X7_, e7_, W7_, st7_⟩ := stC X4_ hx hZ e4_ Ar7_ (j := (0 : Int32)) in7_ (g := (mkF m 87 #[.val (.int p1), .val (.int p2), .val (.int ((p2 &&& (255 : Int32)).toUInt32.toUInt16.toUInt32.toInt32)), .val (.int ((((p2.toUInt32 >>> ((8 : Int32) &&& 31).toUInt32).toInt32) &&& (255 : Int32)).toUInt32.toUInt16.toUInt32.toInt32)), .val (.int ((((p2.toUInt32 >>> ((16 : Int32) &&& 31).toUInt32).toInt32) &&& (255 : Int32)).toUInt32.toUInt16.toUInt32.toInt32))] [(.int ((p2 &&& (255 : Int32)).toUInt32.toUInt16.toUInt32.toInt32)), (.int (0 : Int32)), (.ref b4_), (.ref b4_), (.ref b1_), (.ref b1_)])) rfl rfl (hb hby d1_87)
  have ch11_ : CHv Z consts_1 s.vm h7_ := CHv.wr W7_ f10_ ch5_
  have cr12_ := cr6_.trans (CHr.wr W7_ f10_ ch5_)
  have v7_ : Arv Z h7_ b4_ k4_ .char (3 : Int32) [(.int (nar .char ((p2 &&& (255 : Int32)).toUInt32.toUInt16.toUInt32.toInt32))), (.int (0 : Int32)), (.int (0 : Int32))] (.int (0 : Int32)) := Arv.set Ar7_ q7_ S7_ M7_ Hs7_ G7_ (fits_nar_char _) W7_ 0 rfl (Nat.le_of_ble_eq_true rfl)
  have N7_ := Fr.snoc X7_ N0 g8_
  have f14_ : Safe Z consts_1 s.vm h7_ b4_ := (Safe.wr W7_ f10_ ch5_ f10_)
  obtain ⟨cl13_, Ar13_, q13_, S13_, M13_, Hs13_, G13_⟩ := id v7_
  have in13_ : ¬ ((1 : Int32) < 0 ∨ cl13_.slots.size ≤ ((1 : Int32)).toNatClampNeg) := inb_of S13_ ⟨by decide, by decide⟩
  obtain ⟨T13_, h13_, X13_, e13_, W13_, st13_⟩ := stC X7_ hx hZ e7_ Ar13_ (j := (1 : Int32)) in13_ (g := (mkF m 91 #[.val (.int p1), .val (.int p2), .val (.int ((p2 &&& (255 : Int32)).toUInt32.toUInt16.toUInt32.toInt32)), .val (.int ((((p2.toUInt32 >>> ((8 : Int32) &&& 31).toUInt32).toInt32) &&& (255 : Int32)).toUInt32.toUInt16.toUInt32.toInt32)), .val (.int ((((p2.toUInt32 >>> ((16 : Int32) &&& 31).toUInt32).toInt32) &&& (255 : Int32)).toUInt32.toUInt16.toUInt32.toInt32))] [(.int ((((p2.toUInt32 >>> ((8 : Int32) &&& 31).toUInt32).toInt32) &&& (255 : Int32)).toUInt32.toUInt16.toUInt32.toInt32)), (.int (1 : Int32)), (.ref b4_), (.ref b4_), (.ref b1_), (.ref b1_)])) rfl rfl (hb hby d1_91)
  have ch15_ : CHv Z consts_1 s.vm h13_ := CHv.wr W13_ f14_ ch11_
  have cr16_ := cr12_.trans (CHr.wr W13_ f14_ ch11_)
  have v13_ : Arv Z h13_ b4_ k4_ .char (3 : Int32) [(.int (nar .char ((p2 &&& (255 : Int32)).toUInt32.toUInt16.toUInt32.toInt32))), (.int (nar .char ((((p2.toUInt32 >>> ((8 : Int32) &&& 31).toUInt32).toInt32) &&& (255 : Int32)).toUInt32.toUInt16.toUInt32.toInt32))), (.int (0 : Int32))] (.int (0 : Int32)) := Arv.set Ar13_ q13_ S13_ M13_ Hs13_ G13_ (fits_nar_char _) W13_ 1 rfl (Nat.le_of_ble_eq_true rfl)
  have N13_ := Fr.snoc X13_ N7_ g8_
  have f18_ : Safe Z consts_1 s.vm h13_ b4_ := (Safe.wr W13_ f14_ ch11_ f14_)
  obtain ⟨cl17_, Ar17_, q17_, S17_, M17_, Hs17_, G17_⟩ := id v13_
  have in17_ : ¬ ((2 : Int32) < 0 ∨ cl17_.slots.size ≤ ((2 : Int32)).toNatClampNeg) := inb_of S17_ ⟨by decide, by decide⟩
  obtain ⟨T17_, h17_, X17_, e17_, W17_, st17_⟩ := stC X13_ hx hZ e13_ Ar17_ (j := (2 : Int32)) in17_ (g := (mkF m 96 #[.val (.int p1), .val (.int p2), .val (.int ((p2 &&& (255 : Int32)).toUInt32.toUInt16.toUInt32.toInt32)), .val (.int ((((p2.toUInt32 >>> ((8 : Int32) &&& 31).toUInt32).toInt32) &&& (255 : Int32)).toUInt32.toUInt16.toUInt32.toInt32)), .val (.int ((((p2.toUInt32 >>> ((16 : Int32) &&& 31).toUInt32).toInt32) &&& (255 : Int32)).toUInt32.toUInt16.toUInt32.toInt32))] [(.int ((((p2.toUInt32 >>> ((16 : Int32) &&& 31).toUInt32).toInt32) &&& (255 : Int32)).toUInt32.toUInt16.toUInt32.toInt32)), (.int (2 : Int32)), (.ref b4_), (.ref b4_), (.ref b1_), (.ref b1_)])) rfl rfl (hb hby d1_96)
  have ch19_ : CHv Z consts_1 s.vm h17_ := CHv.wr W17_ f18_ ch15_
  have cr20_ := cr16_.trans (CHr.wr W17_ f18_ ch15_)
  have v17_ : Arv Z h17_ b4_ k4_ .char (3 : Int32) [(.int (nar .char ((p2 &&& (255 : Int32)).toUInt32.toUInt16.toUInt32.toInt32))), (.int (nar .char ((((p2.toUInt32 >>> ((8 : Int32) &&& 31).toUInt32).toInt32) &&& (255 : Int32)).toUInt32.toUInt16.toUInt32.toInt32))), (.int (nar .char ((((p2.toUInt32 >>> ((16 : Int32) &&& 31).toUInt32).toInt32) &&& (255 : Int32)).toUInt32.toUInt16.toUInt32.toInt32)))] (.int (0 : Int32)) := Arv.set Ar17_ q17_ S17_ M17_ Hs17_ G17_ (fits_nar_char _) W17_ 2 rfl (Nat.le_of_ble_eq_true rfl)
  have N17_ := Fr.snoc X17_ N13_ g8_
  have hp21_ : ∀ c ∈ ([(nar .char ((p2 &&& (255 : Int32)).toUInt32.toUInt16.toUInt32.toInt32)), (nar .char ((((p2.toUInt32 >>> ((8 : Int32) &&& 31).toUInt32).toInt32) &&& (255 : Int32)).toUInt32.toUInt16.toUInt32.toInt32)), (nar .char ((((p2.toUInt32 >>> ((16 : Int32) &&& 31).toUInt32).toInt32) &&& (255 : Int32)).toUInt32.toUInt16.toUInt32.toInt32))] : List Int32), ¬ c < 0 ∧ ¬ (255 : Int32) < c := by
    intro c hc
    simp only [List.mem_cons, List.not_mem_nil, or_false] at hc
    rcases hc with rfl | rfl | rfl
    · exact (own_and255 _)
    · exact (own_and255 _)
    · exact (own_and255 _)
  have g22_ : n0 ≤ b1_ := Nat.le_trans Z0 (Nat.le_of_eq g1_.symm)
  have z23_ : n0 ≤ h4_.size := Nat.le_trans z9_ E4_.1
  have z24_ : n0 ≤ h7_.size := Nat.le_trans z23_ (Keep.of_wr W7_).1
  have z25_ : n0 ≤ h13_.size := Nat.le_trans z24_ (Keep.of_wr W13_).1
  have z26_ : n0 ≤ h17_.size := Nat.le_trans z25_ (Keep.of_wr W17_).1
  have f27_ : Exa Z h17_ b1_ "java/lang/String" := ((((A1_.ext E4_).wr W7_).wr W13_).wr W17_)
  have f28_ : Fld Z h17_ b1_ "java/lang/String" "value" "[B" .null := ((((F1__value.ext E4_).other W7_ (Or.inl (Nat.ne_of_lt (Nat.lt_of_lt_of_le A1_.lt (Nat.le_of_eq g4_.symm))))).other W13_ (Or.inl (Nat.ne_of_lt (Nat.lt_of_lt_of_le A1_.lt (Nat.le_of_eq g4_.symm))))).other W17_ (Or.inl (Nat.ne_of_lt (Nat.lt_of_lt_of_le A1_.lt (Nat.le_of_eq g4_.symm)))))
  have f29_ : Fld Z h17_ b1_ "java/lang/String" "coder" "B" (.int (0 : Int32)) := ((((F1__coder.ext E4_).other W7_ (Or.inl (Nat.ne_of_lt (Nat.lt_of_lt_of_le A1_.lt (Nat.le_of_eq g4_.symm))))).other W13_ (Or.inl (Nat.ne_of_lt (Nat.lt_of_lt_of_le A1_.lt (Nat.le_of_eq g4_.symm))))).other W17_ (Or.inl (Nat.ne_of_lt (Nat.lt_of_lt_of_le A1_.lt (Nat.le_of_eq g4_.symm)))))
  have f30_ : Old Z n0 h17_ := (((((O1.ext E1_).ext E4_).wr W7_ g8_).wr W13_ g8_).wr W17_ g8_)
  obtain ⟨_, _, ⟨T21_, L21_, k21_, n21_⟩, -, X21_, ⟨Lc21_, hQ21_, l21_, y21_, z21_⟩, st21_⟩ := X17_.specialBack hx (y := (⟨"java/lang/String", "<init>", "([C)V"⟩ : MethodName)) rfl hown (mvT hZ (own_w hw 32 rfl)) (mvT hZ (own_w hw 33 rfl)) (mvT hZ (own_w hw 34 rfl)) (by decide) (own_newB (W := 1) (n0 := n0) (cs := ([(nar .char ((p2 &&& (255 : Int32)).toUInt32.toUInt16.toUInt32.toInt32)), (nar .char ((((p2.toUInt32 >>> ((8 : Int32) &&& 31).toUInt32).toInt32) &&& (255 : Int32)).toUInt32.toUInt16.toUInt32.toInt32)), (nar .char ((((p2.toUInt32 >>> ((16 : Int32) &&& 31).toUInt32).toInt32) &&& (255 : Int32)).toUInt32.toUInt16.toUInt32.toInt32))] : List Int32)) hZ hw g22_ z26_ f27_ f28_ f29_ v17_ T1 P5 f30_ (n := 3) rfl rfl (by decide) (by decide) hp21_ (by decide) (by decide)) (g := (mkF m 97 #[.val (.int p1), .val (.int p2), .val (.int ((p2 &&& (255 : Int32)).toUInt32.toUInt16.toUInt32.toInt32)), .val (.int ((((p2.toUInt32 >>> ((8 : Int32) &&& 31).toUInt32).toInt32) &&& (255 : Int32)).toUInt32.toUInt16.toUInt32.toInt32)), .val (.int ((((p2.toUInt32 >>> ((16 : Int32) &&& 31).toUInt32).toInt32) &&& (255 : Int32)).toUInt32.toUInt16.toUInt32.toInt32))] [(.ref b4_), (.ref b1_), (.ref b1_)])) rfl (by rw [hml]; rfl) (Steps.refl _) (a := b1_) (argsL := [(.ref b4_)]) (rest := [(.ref b1_)]) (lenOf pd_qaCzV rfl) rfl (by show 2 * 0 + _ ≤ _; exact Nat.le_of_eq rfl) (hb hby d1_97) (fun _ _ => ⟨rfl, e17_, (by exact own_b rfl), (by exact own_b rfl)⟩)
  dsimp only [Pt.U, Pt.locs, Pt.cells, Pt.slots] at X21_ l21_ y21_ z21_ st21_ hQ21_
  subst L21_ k21_ n21_
  obtain ⟨t21_, rfl, Nq21_, ek21_, lb21_, str21_⟩ := hQ21_
  have N21_ := Fr.app N17_ Nq21_
  have f31_ : Safe Z consts_1 s.vm h17_ b1_ := (Safe.wr W17_ f18_ ch15_ (Safe.wr W13_ f14_ ch11_ (Safe.wr W7_ f10_ ch5_ (Safe.ext E4_ ch2_ (Safe.ext E1_ H0 sf1_)))))
  have ch32_ : CHv Z consts_1 s.vm T21_.heap := CHv.keep ek21_ (sfS f31_ sf0) ch19_
  have cr33_ := cr20_.trans (CHr.keep ek21_ (sfS f31_ sf0) ch19_)
  have so_ : own_Str Z T21_.heap b1_ t21_ (own_str p1 p2) := by rw [own_str, if_neg hq0, if_neg hq1, if_neg hq2]; exact str21_
  have k34_ : Keep h0 h1_ [] := (Keep.refl h0 []).ext E1_
  have k35_ : Keep h0 h4_ [] := k34_.ext E4_
  have k36_ : Keep h0 h7_ [] := k35_.wr W7_ (Or.inr (Nat.le_trans k34_.1 (Nat.le_of_eq g4_.symm)))
  have k37_ : Keep h0 h13_ [] := k36_.wr W13_ (Or.inr (Nat.le_trans k34_.1 (Nat.le_of_eq g4_.symm)))
  have k38_ : Keep h0 h17_ [] := k37_.wr W17_ (Or.inr (Nat.le_trans k34_.1 (Nat.le_of_eq g4_.symm)))
  have k39_ : Keep h0 T21_.heap [] := k38_.trans ek21_ (allS (Or.inr (Nat.le_trans (Keep.refl h0 []).1 (Nat.le_of_eq g1_.symm))) all0)
  obtain ⟨fs, hr, hrun, hended, hREW⟩ := X21_.leaveW hS0 (Nat.le_trans (Nat.le_trans (Nat.le_trans (Nat.le_trans (Nat.le_trans (Nat.le_trans (Nat.le_trans hk0 E1_.1) E4_.1) (Keep.of_wr W7_).1) (Keep.of_wr W13_).1) (Keep.of_wr W17_).1) ek21_.1) (Nat.le_of_eq (congrArg Array.size (rfl : T21_.heap = _).symm))) (v := some (.ref b1_)) (fun h => by first | rfl | (rw [Bd.returns] at h; cases h))
  refine ⟨_, _, pre0 _ ?_, hrun, hended, _, _, rfl, ?_, ?_, own_REW hREW (by exact own_b rfl) (by exact own_b rfl)⟩
  · show Steps p.tables e below (s₁.setTop (mkF m 0 #[.val (.int p1), .val (.int p2), .unset, .unset, .unset] [])) _
    refine XS.iloadN X0.here hx rfl (hb hby d1_0) rfl ?_
    refine XS.sipush X0.here hx rfl (hb hby d1_1) ?_
    refine XS.iand X0.here hx rfl (hb hby d1_4) rfl ?_
    show Steps p.tables e below (s₁.setTop (mkF m 5 #[.val (.int p1), .val (.int p2), .unset, .unset, .unset] [(.int (p2 &&& (255 : Int32)))])) _
    refine XS.i2c X0.here hx rfl (hb hby d1_5) rfl ?_
    show Steps p.tables e below (s₁.setTop (mkF m 6 #[.val (.int p1), .val (.int p2), .unset, .unset, .unset] [(.int ((p2 &&& (255 : Int32)).toUInt32.toUInt16.toUInt32.toInt32))])) _
    refine XS.istoreN X0.here hx rfl (hb hby d1_6) rfl (l' := #[.val (.int p1), .val (.int p2), .val (.int ((p2 &&& (255 : Int32)).toUInt32.toUInt16.toUInt32.toInt32)), .unset, .unset]) rfl ?_
    show Steps p.tables e below (s₁.setTop (mkF m 7 #[.val (.int p1), .val (.int p2), .val (.int ((p2 &&& (255 : Int32)).toUInt32.toUInt16.toUInt32.toInt32)), .unset, .unset] [])) _
    refine XS.iloadN X0.here hx rfl (hb hby d1_7) rfl ?_
    refine XS.bipush X0.here hx rfl (hb hby d1_8) ?_
    refine XS.iushr X0.here hx rfl (hb hby d1_10) rfl ?_
    show Steps p.tables e below (s₁.setTop (mkF m 11 #[.val (.int p1), .val (.int p2), .val (.int ((p2 &&& (255 : Int32)).toUInt32.toUInt16.toUInt32.toInt32)), .unset, .unset] [(.int ((p2.toUInt32 >>> ((8 : Int32) &&& 31).toUInt32).toInt32))])) _
    refine XS.sipush X0.here hx rfl (hb hby d1_11) ?_
    refine XS.iand X0.here hx rfl (hb hby d1_14) rfl ?_
    show Steps p.tables e below (s₁.setTop (mkF m 15 #[.val (.int p1), .val (.int p2), .val (.int ((p2 &&& (255 : Int32)).toUInt32.toUInt16.toUInt32.toInt32)), .unset, .unset] [(.int (((p2.toUInt32 >>> ((8 : Int32) &&& 31).toUInt32).toInt32) &&& (255 : Int32)))])) _
    refine XS.i2c X0.here hx rfl (hb hby d1_15) rfl ?_
    show Steps p.tables e below (s₁.setTop (mkF m 16 #[.val (.int p1), .val (.int p2), .val (.int ((p2 &&& (255 : Int32)).toUInt32.toUInt16.toUInt32.toInt32)), .unset, .unset] [(.int ((((p2.toUInt32 >>> ((8 : Int32) &&& 31).toUInt32).toInt32) &&& (255 : Int32)).toUInt32.toUInt16.toUInt32.toInt32))])) _
    refine XS.istoreN X0.here hx rfl (hb hby d1_16) rfl (l' := #[.val (.int p1), .val (.int p2), .val (.int ((p2 &&& (255 : Int32)).toUInt32.toUInt16.toUInt32.toInt32)), .val (.int ((((p2.toUInt32 >>> ((8 : Int32) &&& 31).toUInt32).toInt32) &&& (255 : Int32)).toUInt32.toUInt16.toUInt32.toInt32)), .unset]) rfl ?_
    show Steps p.tables e below (s₁.setTop (mkF m 17 #[.val (.int p1), .val (.int p2), .val (.int ((p2 &&& (255 : Int32)).toUInt32.toUInt16.toUInt32.toInt32)), .val (.int ((((p2.toUInt32 >>> ((8 : Int32) &&& 31).toUInt32).toInt32) &&& (255 : Int32)).toUInt32.toUInt16.toUInt32.toInt32)), .unset] [])) _
    refine XS.iloadN X0.here hx rfl (hb hby d1_17) rfl ?_
    refine XS.bipush X0.here hx rfl (hb hby d1_18) ?_
    refine XS.iushr X0.here hx rfl (hb hby d1_20) rfl ?_
    show Steps p.tables e below (s₁.setTop (mkF m 21 #[.val (.int p1), .val (.int p2), .val (.int ((p2 &&& (255 : Int32)).toUInt32.toUInt16.toUInt32.toInt32)), .val (.int ((((p2.toUInt32 >>> ((8 : Int32) &&& 31).toUInt32).toInt32) &&& (255 : Int32)).toUInt32.toUInt16.toUInt32.toInt32)), .unset] [(.int ((p2.toUInt32 >>> ((16 : Int32) &&& 31).toUInt32).toInt32))])) _
    refine XS.sipush X0.here hx rfl (hb hby d1_21) ?_
    refine XS.iand X0.here hx rfl (hb hby d1_24) rfl ?_
    show Steps p.tables e below (s₁.setTop (mkF m 25 #[.val (.int p1), .val (.int p2), .val (.int ((p2 &&& (255 : Int32)).toUInt32.toUInt16.toUInt32.toInt32)), .val (.int ((((p2.toUInt32 >>> ((8 : Int32) &&& 31).toUInt32).toInt32) &&& (255 : Int32)).toUInt32.toUInt16.toUInt32.toInt32)), .unset] [(.int (((p2.toUInt32 >>> ((16 : Int32) &&& 31).toUInt32).toInt32) &&& (255 : Int32)))])) _
    refine XS.i2c X0.here hx rfl (hb hby d1_25) rfl ?_
    show Steps p.tables e below (s₁.setTop (mkF m 26 #[.val (.int p1), .val (.int p2), .val (.int ((p2 &&& (255 : Int32)).toUInt32.toUInt16.toUInt32.toInt32)), .val (.int ((((p2.toUInt32 >>> ((8 : Int32) &&& 31).toUInt32).toInt32) &&& (255 : Int32)).toUInt32.toUInt16.toUInt32.toInt32)), .unset] [(.int ((((p2.toUInt32 >>> ((16 : Int32) &&& 31).toUInt32).toInt32) &&& (255 : Int32)).toUInt32.toUInt16.toUInt32.toInt32))])) _
    refine XS.istore X0.here hx rfl (hb hby d1_26) rfl (l' := #[.val (.int p1), .val (.int p2), .val (.int ((p2 &&& (255 : Int32)).toUInt32.toUInt16.toUInt32.toInt32)), .val (.int ((((p2.toUInt32 >>> ((8 : Int32) &&& 31).toUInt32).toInt32) &&& (255 : Int32)).toUInt32.toUInt16.toUInt32.toInt32)), .val (.int ((((p2.toUInt32 >>> ((16 : Int32) &&& 31).toUInt32).toInt32) &&& (255 : Int32)).toUInt32.toUInt16.toUInt32.toInt32))]) rfl ?_
    show Steps p.tables e below (s₁.setTop (mkF m 28 #[.val (.int p1), .val (.int p2), .val (.int ((p2 &&& (255 : Int32)).toUInt32.toUInt16.toUInt32.toInt32)), .val (.int ((((p2.toUInt32 >>> ((8 : Int32) &&& 31).toUInt32).toInt32) &&& (255 : Int32)).toUInt32.toUInt16.toUInt32.toInt32)), .val (.int ((((p2.toUInt32 >>> ((16 : Int32) &&& 31).toUInt32).toInt32) &&& (255 : Int32)).toUInt32.toUInt16.toUInt32.toInt32))] [])) _
    refine XS.iloadN X0.here hx rfl (hb hby d1_28) rfl ?_
    refine XS.ifYes X0.here hx rfl (pc0 := 29) (pc' := 43) rfl (hb hby d1_29) rfl ((if0 _ _).trans (feq (hq0 : ¬ (p1 = (0 : Int32)))).2) (by decide) (by decide) ?_
    refine XS.iloadN X0.here hx rfl (hb hby d1_43) rfl ?_
    refine XS.iconst X0.here hx rfl (hb hby d1_44) ?_
    refine XS.icmpYes X0.here hx rfl (pc0 := 45) (pc' := 53) rfl (hb hby d1_45) rfl (feq (hq1 : ¬ (p1 = (1 : Int32)))).2 (by decide) (by decide) ?_
    refine XS.iloadN X0.here hx rfl (hb hby d1_53) rfl ?_
    refine XS.iconst X0.here hx rfl (hb hby d1_54) ?_
    refine XS.icmpYes X0.here hx rfl (pc0 := 55) (pc' := 77) rfl (hb hby d1_55) rfl (feq (hq2 : ¬ (p1 = (2 : Int32)))).2 (by decide) (by decide) ?_
    refine st1_ _ ?_
    show Steps p.tables e below (T1_.setTop (mkF m 80 #[.val (.int p1), .val (.int p2), .val (.int ((p2 &&& (255 : Int32)).toUInt32.toUInt16.toUInt32.toInt32)), .val (.int ((((p2.toUInt32 >>> ((8 : Int32) &&& 31).toUInt32).toInt32) &&& (255 : Int32)).toUInt32.toUInt16.toUInt32.toInt32)), .val (.int ((((p2.toUInt32 >>> ((16 : Int32) &&& 31).toUInt32).toInt32) &&& (255 : Int32)).toUInt32.toUInt16.toUInt32.toInt32))] [(.ref b1_)])) _
    refine XS.dup X1_.here hx rfl (hb hby d1_80) rfl rfl ?_
    refine XS.iconst X1_.here hx rfl (hb hby d1_81) ?_
    refine st4_ _ ?_
    show Steps p.tables e below (T4_.setTop (mkF m 84 #[.val (.int p1), .val (.int p2), .val (.int ((p2 &&& (255 : Int32)).toUInt32.toUInt16.toUInt32.toInt32)), .val (.int ((((p2.toUInt32 >>> ((8 : Int32) &&& 31).toUInt32).toInt32) &&& (255 : Int32)).toUInt32.toUInt16.toUInt32.toInt32)), .val (.int ((((p2.toUInt32 >>> ((16 : Int32) &&& 31).toUInt32).toInt32) &&& (255 : Int32)).toUInt32.toUInt16.toUInt32.toInt32))] [(.ref b4_), (.ref b1_), (.ref b1_)])) _
    refine XS.dup X4_.here hx rfl (hb hby d1_84) rfl rfl ?_
    refine XS.iconst X4_.here hx rfl (hb hby d1_85) ?_
    refine XS.iloadN X4_.here hx rfl (hb hby d1_86) rfl ?_
    refine st7_ _ ?_
    show Steps p.tables e below (T7_.setTop (mkF m 88 #[.val (.int p1), .val (.int p2), .val (.int ((p2 &&& (255 : Int32)).toUInt32.toUInt16.toUInt32.toInt32)), .val (.int ((((p2.toUInt32 >>> ((8 : Int32) &&& 31).toUInt32).toInt32) &&& (255 : Int32)).toUInt32.toUInt16.toUInt32.toInt32)), .val (.int ((((p2.toUInt32 >>> ((16 : Int32) &&& 31).toUInt32).toInt32) &&& (255 : Int32)).toUInt32.toUInt16.toUInt32.toInt32))] [(.ref b4_), (.ref b1_), (.ref b1_)])) _
    refine XS.dup X7_.here hx rfl (hb hby d1_88) rfl rfl ?_
    refine XS.iconst X7_.here hx rfl (hb hby d1_89) ?_
    refine XS.iloadN X7_.here hx rfl (hb hby d1_90) rfl ?_
    refine st13_ _ ?_
    show Steps p.tables e below (T13_.setTop (mkF m 92 #[.val (.int p1), .val (.int p2), .val (.int ((p2 &&& (255 : Int32)).toUInt32.toUInt16.toUInt32.toInt32)), .val (.int ((((p2.toUInt32 >>> ((8 : Int32) &&& 31).toUInt32).toInt32) &&& (255 : Int32)).toUInt32.toUInt16.toUInt32.toInt32)), .val (.int ((((p2.toUInt32 >>> ((16 : Int32) &&& 31).toUInt32).toInt32) &&& (255 : Int32)).toUInt32.toUInt16.toUInt32.toInt32))] [(.ref b4_), (.ref b1_), (.ref b1_)])) _
    refine XS.dup X13_.here hx rfl (hb hby d1_92) rfl rfl ?_
    refine XS.iconst X13_.here hx rfl (hb hby d1_93) ?_
    refine XS.iload X13_.here hx rfl (hb hby d1_94) rfl ?_
    refine st17_ _ ?_
    show Steps p.tables e below (T17_.setTop (mkF m 97 #[.val (.int p1), .val (.int p2), .val (.int ((p2 &&& (255 : Int32)).toUInt32.toUInt16.toUInt32.toInt32)), .val (.int ((((p2.toUInt32 >>> ((8 : Int32) &&& 31).toUInt32).toInt32) &&& (255 : Int32)).toUInt32.toUInt16.toUInt32.toInt32)), .val (.int ((((p2.toUInt32 >>> ((16 : Int32) &&& 31).toUInt32).toInt32) &&& (255 : Int32)).toUInt32.toUInt16.toUInt32.toInt32))] [(.ref b4_), (.ref b1_), (.ref b1_)])) _
    refine st21_.trans ?_
    show Steps p.tables e below (T21_.setTop (mkF m 100 #[.val (.int p1), .val (.int p2), .val (.int ((p2 &&& (255 : Int32)).toUInt32.toUInt16.toUInt32.toInt32)), .val (.int ((((p2.toUInt32 >>> ((8 : Int32) &&& 31).toUInt32).toInt32) &&& (255 : Int32)).toUInt32.toUInt16.toUInt32.toInt32)), .val (.int ((((p2.toUInt32 >>> ((16 : Int32) &&& 31).toUInt32).toInt32) &&& (255 : Int32)).toUInt32.toUInt16.toUInt32.toInt32))] [(.ref b1_)])) _
    exact retR X21_ hx Bd.returns rfl rfl rfl (hb hby d1_100) hr
  · show Q_rmS0 Z p1 p2 G1 h0 n0 _ T21_.heap _
    skip
    exact ⟨b1_, t21_, rfl, N21_, k39_, so_⟩
  · show CHr Z consts_1 s.vm s.heap T21_.vm T21_.heap
    rw [hh]
    exact cr33_.trans (CHv.at X21_ hZ hEL ch32_)
theorem rmStr (l : Launch) (Z : State) (a0 : Array Value) (hw : ∀ d ∈ tables_1, d.before a0 Z = true) (hEL : EW Z a0 consts_1) (ws : List Jvm.Cond) (p1 : Int32) (p2 : Int32) (G1 : Int32) (h0 : Heap) (n0 : Nat) (Z0 : n0 ≤ h0.size) (T1 : Sta Z Z.heap "java/lang/String" "COMPACT_STRINGS" "Z" (.int G1)) (P5 : ¬ (G1 = (0 : Int32))) (O1 : Old Z n0 h0) :
    MetFree l (⟨"com/example/brisk_warden/briskwarden/core/UnsupportedNumberExceptionAtPinLaw", "str", "(II)Ljava/lang/String;"⟩ : MethodName) (head1 (Jvm.Cond.code (⟨"com/example/brisk_warden/briskwarden/core/UnsupportedNumberExceptionAtPinLaw", "str", "(II)Ljava/lang/String;"⟩ : MethodName) method_3_code 5 (some (.object "java/lang/String")) :: ws) ({ frames := 4, cells := 6, slots := 12, locals := 66 } : Room)) (fun a U => a = #[(.int p1), (.int p2)] ∧ Z.Warmed39 U.vm ∧ U.heap = h0 ∧ CHv Z consts_1 U.vm h0) (fun _ _ _ _ _ => True) (fun _ U o U' => ∃ v L, o = .returned v ∧ Q_rmS0 Z p1 p2 G1 h0 n0 v U'.heap L ∧ CHr Z consts_1 U.vm U.heap U'.vm U'.heap ∧ ReturnedEndW U o U' L ({ frames := 4, cells := 6, slots := 12, locals := 66 } : Room).cells ({ frames := 4, cells := 6, slots := 12, locals := 66 } : Room).slots) := by
  by_cases c0 : p1 = (0 : Int32)
  · exact rmS0 l Z a0 hw hEL ws p1 p2 G1 h0 n0 Z0 T1 P5 O1 c0
  · by_cases c1 : p1 = (1 : Int32)
    · exact rmS1 l Z a0 hw hEL ws p1 p2 G1 h0 n0 Z0 T1 P5 O1 c0 c1
    · by_cases c2 : p1 = (2 : Int32)
      · exact rmS2 l Z a0 hw hEL ws p1 p2 G1 h0 n0 Z0 T1 P5 O1 c0 c1 c2
      · exact rmS3 l Z a0 hw hEL ws p1 p2 G1 h0 n0 Z0 T1 P5 O1 c0 c1 c2
theorem d9_0 : decode prog_16_method_1_code 0 = .ok (.aload_n 0, 1) := by decide +kernel
theorem d9_1 : decode prog_16_method_1_code 1 = .ok (.aload_n 1, 1) := by decide +kernel
theorem d9_2 : decode prog_16_method_1_code 2 = .ok (.invokevirtual 1, 3) := by decide +kernel
theorem d9_5 : decode prog_16_method_1_code 5 = .ok (.ifCond .eq 7, 3) := by decide +kernel
theorem d9_8 : decode prog_16_method_1_code 8 = .ok (.aload_n 2, 1) := by decide +kernel
theorem d9_9 : decode prog_16_method_1_code 9 = .ok (.goto 26, 3) := by decide +kernel
theorem d9_35 : decode prog_16_method_1_code 35 = .ok (.invokespecial 23, 3) := by decide +kernel
theorem d9_38 : decode prog_16_method_1_code 38 = .ok (.aload_n 0, 1) := by decide +kernel
theorem d9_39 : decode prog_16_method_1_code 39 = .ok (.aload_n 1, 1) := by decide +kernel
theorem d9_40 : decode prog_16_method_1_code 40 = .ok (.putfield 28, 3) := by decide +kernel
theorem d9_43 : decode prog_16_method_1_code 43 = .ok (.aload_n 0, 1) := by decide +kernel
theorem d9_44 : decode prog_16_method_1_code 44 = .ok (.aload_n 2, 1) := by decide +kernel
theorem d9_45 : decode prog_16_method_1_code 45 = .ok (.putfield 34, 3) := by decide +kernel
theorem d9_48 : decode prog_16_method_1_code 48 = .ok (.return_, 1) := by decide +kernel
theorem d9_12 : decode prog_16_method_1_code 12 = .ok (.new 7, 3) := by decide +kernel
theorem d9_15 : decode prog_16_method_1_code 15 = .ok (.dup, 1) := by decide +kernel
theorem d9_16 : decode prog_16_method_1_code 16 = .ok (.invokespecial 9, 3) := by decide +kernel
theorem pd_qzV : parseMethodDescriptor "()V" = some ⟨[], none⟩ := by decide +kernel
theorem d9_19 : decode prog_16_method_1_code 19 = .ok (.aload_n 1, 1) := by decide +kernel
theorem d9_20 : decode prog_16_method_1_code 20 = .ok (.invokevirtual 13, 3) := by decide +kernel
theorem pd_qLjava_lang_StringzLjava_lang_StringBuilder : parseMethodDescriptor "(Ljava/lang/String;)Ljava/lang/StringBuilder;" = some ⟨[(.object "java/lang/String")], some (.object "java/lang/StringBuilder")⟩ := by decide +kernel
theorem d9_23 : decode prog_16_method_1_code 23 = .ok (.ldc 17, 2) := by decide +kernel
theorem d9_25 : decode prog_16_method_1_code 25 = .ok (.invokevirtual 13, 3) := by decide +kernel
theorem d9_28 : decode prog_16_method_1_code 28 = .ok (.aload_n 2, 1) := by decide +kernel
theorem d9_29 : decode prog_16_method_1_code 29 = .ok (.invokevirtual 13, 3) := by decide +kernel
theorem d9_32 : decode prog_16_method_1_code 32 = .ok (.invokevirtual 19, 3) := by decide +kernel
theorem pd_qzLjava_lang_String : parseMethodDescriptor "()Ljava/lang/String;" = some ⟨[], some (.object "java/lang/String")⟩ := by decide +kernel
theorem pn_com_example_brisk_warden_briskwarden_core_UnsupportedNumberException : plainName "com/example/brisk_warden/briskwarden/core/UnsupportedNumberException" = true := by first | (simp [plainName, overriddenIn]; done) | decide +kernel
theorem ef_rmIE (m : MethodId) (x0 : Addr) (x1 : Addr) (x2 : Addr) : entryFrame m #[(.ref x0), (.ref x1), (.ref x2)] 3 = mkF m 0 #[.val (.ref x0), .val (.ref x1), .val (.ref x2)] [] := by first | (simp [entryFrame, mkF, argsToLocals, Value.category]; done) | rfl
def Q_rmIE (Z : State) (a1 : Addr) (x1 : Addr) (x2 : Addr) (t1 : Addr) (cs1 : List Int32) (t2 : Addr) (cs2 : List Int32) (G1 : Int32) (vU : Value) (vS : Value) (h0 : Heap) (n0 : Nat) (v : Option Value) (h : Heap) (L : List Loc) : Prop := ∃ (xm : Addr) (tm : Addr), v = none ∧ Fr n0 L ∧ Keep h0 h [a1] ∧ (Exa Z h a1 "com/example/brisk_warden/briskwarden/core/UnsupportedNumberException") ∧ ((cs1.length = 0 → xm = x2)) ∧ (Fld Z h a1 "com/example/brisk_warden/briskwarden/core/UnsupportedNumberException" "place" "Ljava/lang/String;" (.ref x1)) ∧ (Fld Z h a1 "com/example/brisk_warden/briskwarden/core/UnsupportedNumberException" "problem" "Ljava/lang/String;" (.ref x2)) ∧ (Fld Z h a1 "java/lang/Throwable" "detailMessage" "Ljava/lang/String;" (.ref xm)) ∧ (own_Str Z h xm tm (own_msg cs1 cs2))
theorem rmIE (l : Launch) (Z : State) (a0 : Array Value) (hw : ∀ d ∈ tables_1, d.before a0 Z = true) (hEL : EW Z a0 consts_1) (ws : List Jvm.Cond) (a1 : Addr) (x1 : Addr) (x2 : Addr) (t1 : Addr) (cs1 : List Int32) (t2 : Addr) (cs2 : List Int32) (G1 : Int32) (vU : Value) (vS : Value) (h0 : Heap) (n0 : Nat) (Z0 : n0 ≤ h0.size) (S1 : own_Str Z h0 x1 t1 cs1) (S2 : own_Str Z h0 x2 t2 cs2) (E1 : Exa Z h0 a1 "com/example/brisk_warden/briskwarden/core/UnsupportedNumberException") (U1 : Unt h0 a1) (Nu0 : Fld Z h0 a1 "java/lang/Throwable" "cause" "Ljava/lang/Throwable;" .null) (Nu1 : Fld Z h0 a1 "java/lang/Throwable" "stackTrace" "[Ljava/lang/StackTraceElement;" .null) (Nu2 : Fld Z h0 a1 "java/lang/Throwable" "suppressedExceptions" "Ljava/util/List;" .null) (Nu3 : Fld Z h0 a1 "java/lang/Throwable" "backtrace" "Ljava/lang/Object;" .null) (Nu4 : Fld Z h0 a1 "java/lang/Throwable" "detailMessage" "Ljava/lang/String;" .null) (Mu0 : Fld Z h0 a1 "com/example/brisk_warden/briskwarden/core/UnsupportedNumberException" "place" "Ljava/lang/String;" .null) (Mu1 : Fld Z h0 a1 "com/example/brisk_warden/briskwarden/core/UnsupportedNumberException" "problem" "Ljava/lang/String;" .null) (g1 : n0 ≤ a1) (T1 : Sta Z Z.heap "java/lang/String" "COMPACT_STRINGS" "Z" (.int G1)) (P5 : ¬ (G1 = (0 : Int32))) (O1 : Old Z n0 h0) (TU : Sta Z Z.heap "java/lang/Throwable" "UNASSIGNED_STACK" "[Ljava/lang/StackTraceElement;" vU) (rU : vU.isRef = true) (TS : Sta Z Z.heap "java/lang/Throwable" "SUPPRESSED_SENTINEL" "Ljava/util/List;" vS) (rS : vS.isRef = true) (hl : l.stackTraces = true) (hn1 : cs1.length ≤ 6) (hn2 : cs2.length ≤ 3) (he : cs1.length = 0) :
    MetFree l (⟨"com/example/brisk_warden/briskwarden/core/UnsupportedNumberException", "<init>", "(Ljava/lang/String;Ljava/lang/String;)V"⟩ : MethodName) (head1 (Jvm.Cond.code (⟨"com/example/brisk_warden/briskwarden/core/UnsupportedNumberException", "<init>", "(Ljava/lang/String;Ljava/lang/String;)V"⟩ : MethodName) prog_16_method_1_code 3 none :: ws) ({ frames := 7, cells := 7, slots := 2804, locals := 94 } : Room)) (fun a U => a = #[(.ref a1), (.ref x1), (.ref x2)] ∧ Z.Warmed39 U.vm ∧ U.heap = h0 ∧ CHv Z consts_1 U.vm h0) (fun _ _ bl s _ => s.vm.MethodsKnown ∧ s.vm.FramesKnown bl) (fun _ U o U' => ∃ v L, o = .returned v ∧ Q_rmIE Z a1 x1 x2 t1 cs1 t2 cs2 G1 vU vS h0 n0 v U'.heap L ∧ CHr Z consts_1 U.vm U.heap U'.vm U'.heap ∧ ReturnedEndW U o U' L ({ frames := 7, cells := 7, slots := 2804, locals := 94 } : Room).cells ({ frames := 7, cells := 7, slots := 2804, locals := 94 } : Room).slots) := by
  refine MetFree.of_bodySF (plainFor_of_name pn_com_example_brisk_warden_briskwarden_core_UnsupportedNumberException) hisR ?_
  intro p e s m args below meth c s₁ Bd hml0 hP hK
  obtain ⟨rfl, hZ, hh, H0'⟩ := hP
  have hx := Bd.exec
  have hby := Bd.bytes
  have hml : c.maxLocals = 3 := hml0
  have hown : s.vm.findClass "com/example/brisk_warden/briskwarden/core/UnsupportedNumberException" = some m.cls := findClass_of_methodNamed Bd.named
  have hnm := (name_of_methodNamed Bd.named Bd.method).1
  have X0 : Stand p l e ({ frames := 7, cells := 7, slots := 2804, locals := 94 } : Room) (s.setVm s.vm) m #[(.ref a1), (.ref x1), (.ref x2)] below meth c s₁ [] 0 0 := Stand.of_body Bd
  have e0 : s₁.heap = h0 := by rw [← hh, Bd.state]; rfl
  have N0 := Fr.nil n0
  have hS0 : s.Since s.vm h0.size := own_since0 s _
  have hk0 : h0.size ≤ h0.size := Nat.le_refl _
  have H0 : CHv Z consts_1 s.vm h0 := H0'
  have wS : ∀ a ∈ Bundle.stringAtoms, a.before a0 Z = true := fun a ha => hw a ((by decide +kernel : ∀ a ∈ Bundle.stringAtoms, a ∈ tables_1) a ha)
  have pre0 : ∀ t, Steps p.tables e below (s₁.setTop (mkF m 0 #[.val (.ref a1), .val (.ref x1), .val (.ref x2)] [])) t → Steps p.tables e below (s₁.setTop (entryFrame m #[(.ref a1), (.ref x1), (.ref x2)] 3)) t := fun t k => castTop (ef_rmIE m a1 x1 x2) k
  obtain ⟨cq2_, kq2_, qa2_, qb2_, qc2_⟩ := isOf hZ e0 S1.1
  obtain ⟨_, _, ⟨T1_, L1_, k1_, n1_⟩, -, X1_, ⟨Lc1_, hQ1_, l1_, y1_, z1_⟩, st1_⟩ := X0.virtualBack hx (y := (⟨"java/lang/String", "isEmpty", "()Z"⟩ : MethodName)) (z := (⟨"java/lang/String", "isEmpty", "()Z"⟩ : MethodName)) hown (mvT hZ (own_w hw 47 rfl)) (mvT hZ (own_w hw 48 rfl)) (notFace_of_selects (args := #[]) (mvT hZ (own_w hw 50 rfl))) (mvT hZ (own_w hw 50 rfl)) (mvT hZ (own_w hw 49 rfl)) (by decide) (own_empB (W := 1) hZ hw S1 (by decide) (by decide)) qa2_ qc2_ (g := (mkF m 2 #[.val (.ref a1), .val (.ref x1), .val (.ref x2)] [(.ref x1), (.ref a1)])) rfl (by rw [hml]; rfl) (Steps.refl _) (argsL := []) (rest := [(.ref a1)]) (lenOf pd_qzZ rfl) rfl (by show 2 * 0 + _ ≤ _; exact Nat.le_of_eq rfl) (hb hby d9_2) (fun _ _ => ⟨rfl, e0, (by exact own_b rfl), (by exact own_b rfl)⟩)
  dsimp only [Pt.U, Pt.locs, Pt.cells, Pt.slots] at X1_ l1_ y1_ z1_ st1_ hQ1_
  subst L1_ k1_ n1_
  obtain ⟨rfl, rfl, ek1_⟩ := hQ1_
  have N1_ := Fr.app N0 (Fr.nil n0)
  obtain ⟨_, _, ⟨T3_, L3_, k3_, n3_⟩, -, X3_, ⟨Lc3_, hQ3_, l3_, y3_, z3_⟩, st3_⟩ := X1_.specialBack hx (y := (⟨"java/lang/IllegalArgumentException", "<init>", "(Ljava/lang/String;)V"⟩ : MethodName)) rfl hown (mvT hZ (own_w hw 52 rfl)) (mvT hZ (own_w hw 53 rfl)) (mvT hZ (own_w hw 56 rfl)) (by decide) (backOfKL (W := 0) (exIllegalArgumentException l Z a0 hw [] a1 x2 vU vS h0 n0 Z0 E1 U1 Nu0 Nu1 Nu2 Nu3 Nu4 Mu0 Mu1 g1 TU rU TS rS O1 hl) hZ (own_w hw 56 rfl) (own_w hw 55 rfl) (by decide) (by decide) (Vm.MethodsKnown.alikeC ((State.Warmed39.alike hZ).symm.trans (State.Warmed39.alike hZ)) hK.1) (Vm.FramesKnown.alikeC ((State.Warmed39.alike hZ).symm.trans (State.Warmed39.alike hZ)) hK.2)) (g := (mkF m 35 #[.val (.ref a1), .val (.ref x1), .val (.ref x2)] [(.ref x2), (.ref a1)])) rfl (by rw [hml]; rfl) (Steps.refl _) (a := a1) (argsL := [(.ref x2)]) (rest := []) (lenOf pd_qLjava_lang_StringzV rfl) rfl (by show 2 * 0 + _ ≤ _; exact Nat.le_of_eq rfl) (hb hby d9_35) (fun _ _ => ⟨rfl, ek1_, (by exact own_b rfl), (by exact own_b rfl)⟩)
  dsimp only [Pt.U, Pt.locs, Pt.cells, Pt.slots] at X3_ l3_ y3_ z3_ st3_ hQ3_
  subst L3_ k3_ n3_
  obtain ⟨rfl, Nq3_, ek3_, p3__0, p3__1, p3__2, p3__3, p3__4, p3__5⟩ := hQ3_
  have N3_ := Fr.app N1_ Nq3_
  have ch4_ : CHv Z consts_1 s.vm T3_.heap := CHv.keep ek3_ (sfS (Safe.exa (State.Warmed39.alike hZ) E1 (by decide) (by decide)) sf0) H0
  have cr5_ := (CHr.refl H0).trans (CHr.keep ek3_ (sfS (Safe.exa (State.Warmed39.alike hZ) E1 (by decide) (by decide)) sf0) H0)
  obtain ⟨T6_, h6_, X6_, e6_, W6_, st6_⟩ := putF X3_ hx hZ hown (host := "") (Or.inl (own_w hw 112 rfl)) Via.refl rfl p3__4 p3__0 (Or.inr ⟨(own_w hw 113 rfl), rfl, hnm⟩) (own_w hw 42 rfl) (ty := (.object "java/lang/String")) (by decide) rfl rfl (g := (mkF m 40 #[.val (.ref a1), .val (.ref x1), .val (.ref x2)] [(.ref x1), (.ref a1)])) rfl rfl (hb hby d9_40)
  have ch7_ : CHv Z consts_1 s.vm h6_ := CHv.wr W6_ (Safe.exa (State.Warmed39.alike hZ) p3__0 (by decide) (by decide)) ch4_
  have cr8_ := cr5_.trans (CHr.wr W6_ (Safe.exa (State.Warmed39.alike hZ) p3__0 (by decide) (by decide)) ch4_)
  have w6_ : Fld Z h6_ a1 "com/example/brisk_warden/briskwarden/core/UnsupportedNumberException" "place" "Ljava/lang/String;" (.ref x1) := p3__4.same W6_
  have N6_ := Fr.snoc X6_ N3_ g1
  have f9_ : Exa Z h6_ a1 "com/example/brisk_warden/briskwarden/core/UnsupportedNumberException" := (p3__0.wr W6_)
  have f10_ : Fld Z h6_ a1 "com/example/brisk_warden/briskwarden/core/UnsupportedNumberException" "problem" "Ljava/lang/String;" .null := (p3__5.other W6_ (Or.inr (slot_ne (Or.inr (own_w hw 115 rfl)) (Or.inr (own_w hw 113 rfl)) (by decide) (t := (.object "java/lang/String")) (t' := (.object "java/lang/String")) (by decide) (by decide))))
  obtain ⟨T11_, h11_, X11_, e11_, W11_, st11_⟩ := putF X6_ hx hZ hown (host := "") (Or.inl (own_w hw 114 rfl)) Via.refl e6_ f10_ f9_ (Or.inr ⟨(own_w hw 115 rfl), rfl, hnm⟩) (own_w hw 42 rfl) (ty := (.object "java/lang/String")) (by decide) rfl rfl (g := (mkF m 45 #[.val (.ref a1), .val (.ref x1), .val (.ref x2)] [(.ref x2), (.ref a1)])) rfl rfl (hb hby d9_45)
  have ch12_ : CHv Z consts_1 s.vm h11_ := CHv.wr W11_ (Safe.exa (State.Warmed39.alike hZ) f9_ (by decide) (by decide)) ch7_
  have cr13_ := cr8_.trans (CHr.wr W11_ (Safe.exa (State.Warmed39.alike hZ) f9_ (by decide) (by decide)) ch7_)
  have w11_ : Fld Z h11_ a1 "com/example/brisk_warden/briskwarden/core/UnsupportedNumberException" "problem" "Ljava/lang/String;" (.ref x2) := f10_.same W11_
  have N11_ := Fr.snoc X11_ N6_ g1
  have f14_ : own_Str Z h11_ x2 t2 cs2 := (((S2.keep ek3_ (ninS (own_Str.ne1 S2 E1 (by decide)) nin0) (ninS (own_Str.ne2 S2 E1 (own_w hw 42 rfl)) nin0)).other W6_ (own_Str.ne1 (S2.keep ek3_ (ninS (own_Str.ne1 S2 E1 (by decide)) nin0) (ninS (own_Str.ne2 S2 E1 (own_w hw 42 rfl)) nin0)) p3__0 (by decide)) (own_Str.ne2 (S2.keep ek3_ (ninS (own_Str.ne1 S2 E1 (by decide)) nin0) (ninS (own_Str.ne2 S2 E1 (own_w hw 42 rfl)) nin0)) p3__0 (own_w hw 42 rfl))).other W11_ (own_Str.ne1 ((S2.keep ek3_ (ninS (own_Str.ne1 S2 E1 (by decide)) nin0) (ninS (own_Str.ne2 S2 E1 (own_w hw 42 rfl)) nin0)).other W6_ (own_Str.ne1 (S2.keep ek3_ (ninS (own_Str.ne1 S2 E1 (by decide)) nin0) (ninS (own_Str.ne2 S2 E1 (own_w hw 42 rfl)) nin0)) p3__0 (by decide)) (own_Str.ne2 (S2.keep ek3_ (ninS (own_Str.ne1 S2 E1 (by decide)) nin0) (ninS (own_Str.ne2 S2 E1 (own_w hw 42 rfl)) nin0)) p3__0 (own_w hw 42 rfl))) f9_ (by decide)) (own_Str.ne2 ((S2.keep ek3_ (ninS (own_Str.ne1 S2 E1 (by decide)) nin0) (ninS (own_Str.ne2 S2 E1 (own_w hw 42 rfl)) nin0)).other W6_ (own_Str.ne1 (S2.keep ek3_ (ninS (own_Str.ne1 S2 E1 (by decide)) nin0) (ninS (own_Str.ne2 S2 E1 (own_w hw 42 rfl)) nin0)) p3__0 (by decide)) (own_Str.ne2 (S2.keep ek3_ (ninS (own_Str.ne1 S2 E1 (by decide)) nin0) (ninS (own_Str.ne2 S2 E1 (own_w hw 42 rfl)) nin0)) p3__0 (own_w hw 42 rfl))) f9_ (own_w hw 42 rfl)))
  have mm_ : own_Str Z h11_ x2 t2 (own_msg cs1 cs2) := by rw [own_msg, if_pos he]; exact f14_
  have f15_ : Exa Z h11_ a1 "com/example/brisk_warden/briskwarden/core/UnsupportedNumberException" := (f9_.wr W11_)
  have f16_ : Fld Z h11_ a1 "com/example/brisk_warden/briskwarden/core/UnsupportedNumberException" "place" "Ljava/lang/String;" (.ref x1) := (w6_.other W11_ (Or.inr (slot_ne (Or.inr (own_w hw 113 rfl)) (Or.inr (own_w hw 115 rfl)) (by decide) (t := (.object "java/lang/String")) (t' := (.object "java/lang/String")) (by decide) (by decide))))
  have f17_ : Fld Z h11_ a1 "java/lang/Throwable" "detailMessage" "Ljava/lang/String;" (.ref x2) := ((p3__2.other W6_ (Or.inr (slot_ne (Or.inl (own_w hw 107 rfl)) (Or.inr (own_w hw 113 rfl)) (by decide) (t := (.object "java/lang/String")) (t' := (.object "java/lang/String")) (by decide) (by decide)))).other W11_ (Or.inr (slot_ne (Or.inl (own_w hw 107 rfl)) (Or.inr (own_w hw 115 rfl)) (by decide) (t := (.object "java/lang/String")) (t' := (.object "java/lang/String")) (by decide) (by decide))))
  have k18_ : Keep h0 T3_.heap [a1] := (Keep.refl h0 [a1]).trans ek3_ (allS (Or.inl (List.mem_of_getElem? (i := 0) rfl)) all0)
  have k19_ : Keep h0 h6_ [a1] := k18_.wr W6_ (Or.inl (List.mem_of_getElem? (i := 0) rfl))
  have k20_ : Keep h0 h11_ [a1] := k19_.wr W11_ (Or.inl (List.mem_of_getElem? (i := 0) rfl))
  obtain ⟨fs, hr, hrun, hended, hREW⟩ := X11_.leaveW hS0 (Nat.le_trans (Nat.le_trans (Nat.le_trans (Nat.le_trans hk0 ek3_.1) (Keep.of_wr W6_).1) (Keep.of_wr W11_).1) (Nat.le_of_eq (congrArg Array.size e11_.symm))) (v := none) (fun h => by first | rfl | (rw [Bd.returns] at h; cases h))
  refine ⟨_, _, pre0 _ ?_, hrun, hended, _, _, rfl, ?_, ?_, own_REW hREW (by exact own_b rfl) (by exact own_b rfl)⟩
  · show Steps p.tables e below (s₁.setTop (mkF m 0 #[.val (.ref a1), .val (.ref x1), .val (.ref x2)] [])) _
    refine XS.aloadN X0.here hx rfl (hb hby d9_0) rfl rfl ?_
    refine XS.aloadN X0.here hx rfl (hb hby d9_1) rfl rfl ?_
    refine st1_.trans ?_
    show Steps p.tables e below (T1_.setTop (mkF m 5 #[.val (.ref a1), .val (.ref x1), .val (.ref x2)] [(.int (if cs1.length = 0 then 1 else 0 : Int32)), (.ref a1)])) _
    refine XS.ifNo X1_.here hx rfl (hb hby d9_5) rfl ((if0 _ _).trans (feq ((by rw [if_pos he]; decide) : ¬ ((if cs1.length = 0 then 1 else 0 : Int32) = (0 : Int32)))).1) ?_
    refine XS.aloadN X1_.here hx rfl (hb hby d9_8) rfl rfl ?_
    refine XS.goto X1_.here hx rfl (pc0 := 9) (pc' := 35) rfl (hb hby d9_9) (by decide) (by decide) ?_
    refine st3_.trans ?_
    show Steps p.tables e below (T3_.setTop (mkF m 38 #[.val (.ref a1), .val (.ref x1), .val (.ref x2)] [])) _
    refine XS.aloadN X3_.here hx rfl (hb hby d9_38) rfl rfl ?_
    refine XS.aloadN X3_.here hx rfl (hb hby d9_39) rfl rfl ?_
    refine st6_ _ ?_
    show Steps p.tables e below (T6_.setTop (mkF m 43 #[.val (.ref a1), .val (.ref x1), .val (.ref x2)] [])) _
    refine XS.aloadN X6_.here hx rfl (hb hby d9_43) rfl rfl ?_
    refine XS.aloadN X6_.here hx rfl (hb hby d9_44) rfl rfl ?_
    refine st11_ _ ?_
    show Steps p.tables e below (T11_.setTop (mkF m 48 #[.val (.ref a1), .val (.ref x1), .val (.ref x2)] [])) _
    exact X11_.returnOut hx Bd.returns (hb hby d9_48) hr
  · show Q_rmIE Z a1 x1 x2 t1 cs1 t2 cs2 G1 vU vS h0 n0 _ T11_.heap _
    rw [e11_]
    exact ⟨x2, t2, rfl, N11_, k20_, f15_, (fun _ => rfl), f16_, w11_, f17_, mm_⟩
  · show CHr Z consts_1 s.vm s.heap T11_.vm T11_.heap
    rw [hh]
    rw [e11_]
    exact cr13_.trans (CHv.at X11_ hZ hEL ch12_)
theorem ef_rmIN (m : MethodId) (x0 : Addr) (x1 : Addr) (x2 : Addr) : entryFrame m #[(.ref x0), (.ref x1), (.ref x2)] 3 = mkF m 0 #[.val (.ref x0), .val (.ref x1), .val (.ref x2)] [] := by first | (simp [entryFrame, mkF, argsToLocals, Value.category]; done) | rfl
theorem rmIN (l : Launch) (Z : State) (a0 : Array Value) (hw : ∀ d ∈ tables_1, d.before a0 Z = true) (hEL : EW Z a0 consts_1) (ws : List Jvm.Cond) (a1 : Addr) (x1 : Addr) (x2 : Addr) (t1 : Addr) (cs1 : List Int32) (t2 : Addr) (cs2 : List Int32) (G1 : Int32) (vU : Value) (vS : Value) (h0 : Heap) (n0 : Nat) (Z0 : n0 ≤ h0.size) (S1 : own_Str Z h0 x1 t1 cs1) (S2 : own_Str Z h0 x2 t2 cs2) (E1 : Exa Z h0 a1 "com/example/brisk_warden/briskwarden/core/UnsupportedNumberException") (U1 : Unt h0 a1) (Nu0 : Fld Z h0 a1 "java/lang/Throwable" "cause" "Ljava/lang/Throwable;" .null) (Nu1 : Fld Z h0 a1 "java/lang/Throwable" "stackTrace" "[Ljava/lang/StackTraceElement;" .null) (Nu2 : Fld Z h0 a1 "java/lang/Throwable" "suppressedExceptions" "Ljava/util/List;" .null) (Nu3 : Fld Z h0 a1 "java/lang/Throwable" "backtrace" "Ljava/lang/Object;" .null) (Nu4 : Fld Z h0 a1 "java/lang/Throwable" "detailMessage" "Ljava/lang/String;" .null) (Mu0 : Fld Z h0 a1 "com/example/brisk_warden/briskwarden/core/UnsupportedNumberException" "place" "Ljava/lang/String;" .null) (Mu1 : Fld Z h0 a1 "com/example/brisk_warden/briskwarden/core/UnsupportedNumberException" "problem" "Ljava/lang/String;" .null) (g1 : n0 ≤ a1) (T1 : Sta Z Z.heap "java/lang/String" "COMPACT_STRINGS" "Z" (.int G1)) (P5 : ¬ (G1 = (0 : Int32))) (O1 : Old Z n0 h0) (TU : Sta Z Z.heap "java/lang/Throwable" "UNASSIGNED_STACK" "[Ljava/lang/StackTraceElement;" vU) (rU : vU.isRef = true) (TS : Sta Z Z.heap "java/lang/Throwable" "SUPPRESSED_SENTINEL" "Ljava/util/List;" vS) (rS : vS.isRef = true) (hl : l.stackTraces = true) (hn1 : cs1.length ≤ 6) (hn2 : cs2.length ≤ 3) (he : ¬ (cs1.length = 0)) :
    MetFree l (⟨"com/example/brisk_warden/briskwarden/core/UnsupportedNumberException", "<init>", "(Ljava/lang/String;Ljava/lang/String;)V"⟩ : MethodName) (head1 (Jvm.Cond.code (⟨"com/example/brisk_warden/briskwarden/core/UnsupportedNumberException", "<init>", "(Ljava/lang/String;Ljava/lang/String;)V"⟩ : MethodName) prog_16_method_1_code 3 none :: ws) ({ frames := 7, cells := 7, slots := 2804, locals := 94 } : Room)) (fun a U => a = #[(.ref a1), (.ref x1), (.ref x2)] ∧ Z.Warmed39 U.vm ∧ U.heap = h0 ∧ CHv Z consts_1 U.vm h0) (fun _ _ bl s _ => s.vm.MethodsKnown ∧ s.vm.FramesKnown bl) (fun _ U o U' => ∃ v L, o = .returned v ∧ Q_rmIE Z a1 x1 x2 t1 cs1 t2 cs2 G1 vU vS h0 n0 v U'.heap L ∧ CHr Z consts_1 U.vm U.heap U'.vm U'.heap ∧ ReturnedEndW U o U' L ({ frames := 7, cells := 7, slots := 2804, locals := 94 } : Room).cells ({ frames := 7, cells := 7, slots := 2804, locals := 94 } : Room).slots) := by
  refine MetFree.of_bodySF (plainFor_of_name pn_com_example_brisk_warden_briskwarden_core_UnsupportedNumberException) hisR ?_
  intro p e s m args below meth c s₁ Bd hml0 hP hK
  obtain ⟨rfl, hZ, hh, H0'⟩ := hP
  have hx := Bd.exec
  have hby := Bd.bytes
  have hml : c.maxLocals = 3 := hml0
  have hown : s.vm.findClass "com/example/brisk_warden/briskwarden/core/UnsupportedNumberException" = some m.cls := findClass_of_methodNamed Bd.named
  have hnm := (name_of_methodNamed Bd.named Bd.method).1
  have X0 : Stand p l e ({ frames := 7, cells := 7, slots := 2804, locals := 94 } : Room) (s.setVm s.vm) m #[(.ref a1), (.ref x1), (.ref x2)] below meth c s₁ [] 0 0 := Stand.of_body Bd
  have e0 : s₁.heap = h0 := by rw [← hh, Bd.state]; rfl
  have N0 := Fr.nil n0
  have hS0 : s.Since s.vm h0.size := own_since0 s _
  have hk0 : h0.size ≤ h0.size := Nat.le_refl _
  have H0 : CHv Z consts_1 s.vm h0 := H0'
  have wS : ∀ a ∈ Bundle.stringAtoms, a.before a0 Z = true := fun a ha => hw a ((by decide +kernel : ∀ a ∈ Bundle.stringAtoms, a ∈ tables_1) a ha)
  have pre0 : ∀ t, Steps p.tables e below (s₁.setTop (mkF m 0 #[.val (.ref a1), .val (.ref x1), .val (.ref x2)] [])) t → Steps p.tables e below (s₁.setTop (entryFrame m #[(.ref a1), (.ref x1), (.ref x2)] 3)) t := fun t k => castTop (ef_rmIN m a1 x1 x2) k
  obtain ⟨cq2_, kq2_, qa2_, qb2_, qc2_⟩ := isOf hZ e0 S1.1
  obtain ⟨_, _, ⟨T1_, L1_, k1_, n1_⟩, -, X1_, ⟨Lc1_, hQ1_, l1_, y1_, z1_⟩, st1_⟩ := X0.virtualBack hx (y := (⟨"java/lang/String", "isEmpty", "()Z"⟩ : MethodName)) (z := (⟨"java/lang/String", "isEmpty", "()Z"⟩ : MethodName)) hown (mvT hZ (own_w hw 47 rfl)) (mvT hZ (own_w hw 48 rfl)) (notFace_of_selects (args := #[]) (mvT hZ (own_w hw 50 rfl))) (mvT hZ (own_w hw 50 rfl)) (mvT hZ (own_w hw 49 rfl)) (by decide) (own_empB (W := 1) hZ hw S1 (by decide) (by decide)) qa2_ qc2_ (g := (mkF m 2 #[.val (.ref a1), .val (.ref x1), .val (.ref x2)] [(.ref x1), (.ref a1)])) rfl (by rw [hml]; rfl) (Steps.refl _) (argsL := []) (rest := [(.ref a1)]) (lenOf pd_qzZ rfl) rfl (by show 2 * 0 + _ ≤ _; exact Nat.le_of_eq rfl) (hb hby d9_2) (fun _ _ => ⟨rfl, e0, (by exact own_b rfl), (by exact own_b rfl)⟩)
  dsimp only [Pt.U, Pt.locs, Pt.cells, Pt.slots] at X1_ l1_ y1_ z1_ st1_ hQ1_
  subst L1_ k1_ n1_
  obtain ⟨rfl, rfl, ek1_⟩ := hQ1_
  have N1_ := Fr.app N0 (Fr.nil n0)
  obtain ⟨T3_, h3_, X3_, e3_, E3_, A3_, D3_, U3_, st3_⟩ := newO X1_ hx hZ hown (own_w hw 122 rfl) (own_w hw 123 rfl) (own_w hw 124 rfl) ek1_ (g := (mkF m 12 #[.val (.ref a1), .val (.ref x1), .val (.ref x2)] [(.ref a1)])) rfl (hb hby d9_12) (by exact own_b rfl) (by exact own_b rfl)
  obtain ⟨b3_, g3_⟩ : ∃ z, z = h0.size := ⟨_, rfl⟩
  rw [← g3_] at A3_ D3_ U3_ st3_
  have sf3_ : Safe Z consts_1 s.vm h0 b3_ := Safe.new (Nat.le_of_eq g3_.symm)
  have ch4_ : CHv Z consts_1 s.vm h3_ := CHv.ext E3_ H0
  have cr5_ := (CHr.refl H0).trans (CHr.ext E3_ H0)
  have F3__value : Fld Z h3_ b3_ "java/lang/AbstractStringBuilder" "value" "[B" .null := D3_ (Or.inl (own_w hw 137 rfl)) (ty := (.array .byte)) (by decide)
  have F3__coder : Fld Z h3_ b3_ "java/lang/AbstractStringBuilder" "coder" "B" (.int (0 : Int32)) := D3_ (Or.inl (own_w hw 139 rfl)) (ty := .byte) (by decide)
  have F3__count : Fld Z h3_ b3_ "java/lang/AbstractStringBuilder" "count" "I" (.int (0 : Int32)) := D3_ (Or.inl (own_w hw 161 rfl)) (ty := .int) (by decide)
  have g7_ : n0 ≤ b3_ := Nat.le_trans Z0 (Nat.le_of_eq g3_.symm)
  have f8_ : Old Z n0 h3_ := (O1.ext E3_)
  have z9_ : n0 ≤ h3_.size := Nat.le_trans Z0 E3_.1
  obtain ⟨_, _, ⟨T6_, L6_, k6_, n6_⟩, -, X6_, ⟨Lc6_, hQ6_, l6_, y6_, z6_⟩, st6_⟩ := X3_.specialBack hx (y := (⟨"java/lang/StringBuilder", "<init>", "()V"⟩ : MethodName)) rfl hown (mvT hZ (own_w hw 125 rfl)) (mvT hZ (own_w hw 126 rfl)) (mvT hZ (own_w hw 127 rfl)) (by decide) (backOf (W := 2) (sbInit2 l Z a0 hw [] b3_ G1 h3_ n0 z9_ A3_ F3__coder F3__value F3__count g7_ T1 P5 f8_) hZ (own_w hw 127 rfl) (own_w hw 124 rfl) (by decide) (by decide)) (g := (mkF m 16 #[.val (.ref a1), .val (.ref x1), .val (.ref x2)] [(.ref b3_), (.ref b3_), (.ref a1)])) rfl (by rw [hml]; rfl) (Steps.refl _) (a := b3_) (argsL := []) (rest := [(.ref b3_), (.ref a1)]) (lenOf pd_qzV rfl) rfl (by show 2 * 0 + _ ≤ _; exact Nat.le_of_eq rfl) (hb hby d9_16) (fun _ _ => ⟨rfl, e3_, (by exact own_b rfl), (by exact own_b rfl)⟩)
  dsimp only [Pt.U, Pt.locs, Pt.cells, Pt.slots] at X6_ l6_ y6_ z6_ st6_ hQ6_
  subst L6_ k6_ n6_
  obtain ⟨v2_6_, k2_6_, rfl, Nq6_, ek6_, p6__0, p6__1, p6__2, p6__3, p6__4⟩ := hQ6_
  have N6_ := Fr.app N1_ Nq6_
  have f10_ : Safe Z consts_1 s.vm h3_ b3_ := (Safe.ext E3_ H0 sf3_)
  have ch11_ : CHv Z consts_1 s.vm T6_.heap := CHv.keep ek6_ (sfS f10_ sf0) ch4_
  have cr12_ := cr5_.trans (CHr.keep ek6_ (sfS f10_ sf0) ch4_)
  have f14_ : own_Str Z T6_.heap x1 t1 cs1 := ((S1.ext E3_).keep ek6_ (ninS (Nat.ne_of_lt (Nat.lt_of_lt_of_le (own_Str.lt S1) (Nat.le_of_eq g3_.symm))) nin0) (ninS (Nat.ne_of_lt (Nat.lt_of_lt_of_le (own_Str.lt2 S1) (Nat.le_of_eq g3_.symm))) nin0))
  have f15_ : Exa Z T6_.heap b3_ "java/lang/StringBuilder" := (A3_.keep ek6_)
  have f16_ : Old Z n0 T6_.heap := (f8_.keep ek6_ (allS g7_ all0))
  have g17_ : n0 ≤ v2_6_ := Nat.le_trans z9_ p6__4
  have z18_ : n0 ≤ T6_.heap.size := Nat.le_trans z9_ ek6_.1
  obtain ⟨cq19_, kq19_, qa19_, qb19_, qc19_⟩ := isOf hZ rfl f15_
  obtain ⟨_, _, ⟨T13_, L13_, k13_, n13_⟩, -, X13_, ⟨Lc13_, hQ13_, l13_, y13_, z13_⟩, st13_⟩ := X6_.virtualBack hx (y := (⟨"java/lang/StringBuilder", "append", "(Ljava/lang/String;)Ljava/lang/StringBuilder;"⟩ : MethodName)) (z := (⟨"java/lang/StringBuilder", "append", "(Ljava/lang/String;)Ljava/lang/StringBuilder;"⟩ : MethodName)) hown (mvT hZ (own_w hw 140 rfl)) (mvT hZ (own_w hw 141 rfl)) (notFace_of_selects (args := #[]) (mvT hZ (own_w hw 143 rfl))) (mvT hZ (own_w hw 143 rfl)) (mvT hZ (own_w hw 142 rfl)) (by decide) (backOf (W := 1) (sbApp2 l Z a0 hw [] b3_ x1 t1 cs1 v2_6_ k2_6_ ([] : List Int32) 16 G1 T6_.heap n0 z18_ f14_ f15_ p6__0 p6__1 p6__2 p6__3 T1 P5 f16_ g17_ g7_ (Nat.ne_of_lt (Nat.lt_of_lt_of_le (own_Str.lt2 (S1.ext E3_)) p6__4)) (by simp only [List.length_append, List.length_cons, List.length_nil]; omega) (by decide)) hZ (own_w hw 144 rfl) (own_w hw 124 rfl) (by decide) (by decide)) qa19_ qc19_ (g := (mkF m 20 #[.val (.ref a1), .val (.ref x1), .val (.ref x2)] [(.ref x1), (.ref b3_), (.ref a1)])) rfl (by rw [hml]; rfl) (Steps.refl _) (argsL := [(.ref x1)]) (rest := [(.ref a1)]) (lenOf pd_qLjava_lang_StringzLjava_lang_StringBuilder rfl) rfl (by show 2 * 0 + _ ≤ _; exact Nat.le_of_eq rfl) (hb hby d9_20) (fun _ _ => ⟨rfl, rfl, (by exact own_b rfl), (by exact own_b rfl)⟩)
  dsimp only [Pt.U, Pt.locs, Pt.cells, Pt.slots] at X13_ l13_ y13_ z13_ st13_ hQ13_
  subst L13_ k13_ n13_
  obtain ⟨rfl, Nq13_, ek13_, p13__0, p13__1, p13__2, p13__3⟩ := hQ13_
  have N13_ := Fr.app N6_ Nq13_
  have f20_ : Safe Z consts_1 s.vm T6_.heap v2_6_ := (Safe.keep ek6_ (sfS f10_ sf0) ch4_ (Safe.new p6__4))
  have f21_ : Safe Z consts_1 s.vm T6_.heap b3_ := (Safe.keep ek6_ (sfS f10_ sf0) ch4_ f10_)
  have ch22_ : CHv Z consts_1 s.vm T13_.heap := CHv.keep ek13_ (sfS f21_ (sfS f20_ sf0)) ch11_
  have cr23_ := cr12_.trans (CHr.keep ek13_ (sfS f21_ (sfS f20_ sf0)) ch11_)
  obtain ⟨c24_, T24_, h24_, kk24_, c24_d, c24_k, X24_, e24_, E24_, hS24_, hk24_, hZ24_, hown24_, le24_, lc24_, lv24_, la24_, lx24_, ly24_, chr24_, lit24_, ls24_, st24_⟩ := ldcCH X13_ hx hZ hown (own_w hw 233 rfl) wS rfl hS0 (Nat.le_trans (Nat.le_trans (Nat.le_trans hk0 E3_.1) ek6_.1) ek13_.1) hEL (List.mem_of_getElem? (i := 0) rfl) ch22_ (vs := [(.int (58 : Int32)), (.int (32 : Int32))]) (z := (2 : Int32)) ⟨by decide, by decide⟩ (by decide) (by decide) (g := (mkF m 23 #[.val (.ref a1), .val (.ref x1), .val (.ref x2)] [(.ref b3_), (.ref a1)])) rfl (hb hby d9_23) (n := 8) (by decide) (by decide) (by exact own_b rfl) (by exact own_b rfl)
  have K24_ : Keep T13_.heap h24_ [] := (Keep.refl _ _).ext E24_
  have cr25_ := cr23_.trans chr24_
  have ch24_ := chr24_.1
  have str24_ : own_Str Z h24_ c24_ c24_d ([(58 : Int32), (32 : Int32)] : List Int32) := ⟨le24_, lc24_, lv24_, ⟨_, la24_⟩, by decide, by decide⟩
  have f27_ : Exa Z h24_ b3_ "java/lang/StringBuilder" := ((f15_.keep ek13_).keep K24_)
  have f28_ : Fld Z h24_ b3_ "java/lang/AbstractStringBuilder" "coder" "B" (.int (0 : Int32)) := (p13__0.keep K24_ nin0)
  have f29_ : Fld Z h24_ b3_ "java/lang/AbstractStringBuilder" "value" "[B" (.ref v2_6_) := (p13__1.keep K24_ nin0)
  have f30_ : Fld Z h24_ b3_ "java/lang/AbstractStringBuilder" "count" "I" (.int (Int32.ofNat (([] : List Int32) ++ cs1).length)) := (p13__2.keep K24_ nin0)
  have f31_ : Arv Z h24_ v2_6_ k2_6_ .byte (Int32.ofNat 16) (own_pad (([] : List Int32) ++ cs1) 16) (.int (0 : Int32)) := (p13__3.keep K24_ nin0)
  have f32_ : Old Z n0 h24_ := ((f16_.keep ek13_ (allS g7_ (allS g17_ all0))).keep K24_ all0)
  have z33_ : n0 ≤ T13_.heap.size := Nat.le_trans z18_ ek13_.1
  have z34_ : n0 ≤ h24_.size := Nat.le_trans z33_ K24_.1
  obtain ⟨cq35_, kq35_, qa35_, qb35_, qc35_⟩ := isOf hZ24_ e24_ f27_
  obtain ⟨_, _, ⟨T26_, L26_, k26_, n26_⟩, -, X26_, ⟨Lc26_, hQ26_, l26_, y26_, z26_⟩, st26_⟩ := X24_.virtualBack hx (y := (⟨"java/lang/StringBuilder", "append", "(Ljava/lang/String;)Ljava/lang/StringBuilder;"⟩ : MethodName)) (z := (⟨"java/lang/StringBuilder", "append", "(Ljava/lang/String;)Ljava/lang/StringBuilder;"⟩ : MethodName)) hown24_ (mvT hZ24_ (own_w hw 140 rfl)) (mvT hZ24_ (own_w hw 141 rfl)) (notFace_of_selects (args := #[]) (mvT hZ24_ (own_w hw 143 rfl))) (mvT hZ24_ (own_w hw 143 rfl)) (mvT hZ24_ (own_w hw 142 rfl)) (by decide) (backOf (W := 1) (sbApp2 l Z a0 hw [] b3_ c24_ c24_d ([(58 : Int32), (32 : Int32)] : List Int32) v2_6_ k2_6_ (([] : List Int32) ++ cs1) 16 G1 h24_ n0 z34_ str24_ f27_ f28_ f29_ f30_ f31_ T1 P5 f32_ g17_ g7_ (Ne.symm (ls24_ _ (chr24_.safe p13__3.lt (Safe.keep ek13_ (sfS f21_ (sfS f20_ sf0)) ch11_ f20_))).2) (by simp only [List.length_append, List.length_cons, List.length_nil]; omega) (by decide)) hZ24_ (own_w hw 144 rfl) (own_w hw 124 rfl) (by decide) (by decide)) qa35_ qc35_ (g := (mkF m 25 #[.val (.ref a1), .val (.ref x1), .val (.ref x2)] [(.ref c24_), (.ref b3_), (.ref a1)])) rfl (by rw [hml]; rfl) (Steps.refl _) (argsL := [(.ref c24_)]) (rest := [(.ref a1)]) (lenOf pd_qLjava_lang_StringzLjava_lang_StringBuilder rfl) rfl (by show 2 * 0 + _ ≤ _; exact Nat.le_of_eq rfl) (hb hby d9_25) (fun _ _ => ⟨rfl, e24_, (by exact own_b rfl), (by exact own_b rfl)⟩)
  dsimp only [Pt.U, Pt.locs, Pt.cells, Pt.slots] at X26_ l26_ y26_ z26_ st26_ hQ26_
  subst L26_ k26_ n26_
  obtain ⟨rfl, Nq26_, ek26_, p26__0, p26__1, p26__2, p26__3⟩ := hQ26_
  have N26_ := Fr.app N13_ Nq26_
  have f36_ : Safe Z consts_1 T24_.vm h24_ v2_6_ := (chr24_.safe p13__3.lt (Safe.keep ek13_ (sfS f21_ (sfS f20_ sf0)) ch11_ f20_))
  have f37_ : Safe Z consts_1 T24_.vm h24_ b3_ := (chr24_.safe (f15_.keep ek13_).lt (Safe.keep ek13_ (sfS f21_ (sfS f20_ sf0)) ch11_ f21_))
  have ch38_ : CHv Z consts_1 T24_.vm T26_.heap := CHv.keep ek26_ (sfS f37_ (sfS f36_ sf0)) ch24_
  have cr39_ := cr25_.trans (CHr.keep ek26_ (sfS f37_ (sfS f36_ sf0)) ch24_)
  have f41_ : own_Str Z T26_.heap x2 t2 cs2 := (((((S2.ext E3_).keep ek6_ (ninS (Nat.ne_of_lt (Nat.lt_of_lt_of_le (own_Str.lt S2) (Nat.le_of_eq g3_.symm))) nin0) (ninS (Nat.ne_of_lt (Nat.lt_of_lt_of_le (own_Str.lt2 S2) (Nat.le_of_eq g3_.symm))) nin0)).keep ek13_ (ninS (Nat.ne_of_lt (Nat.lt_of_lt_of_le (own_Str.lt S2) (Nat.le_of_eq g3_.symm))) (ninS (Nat.ne_of_lt (Nat.lt_of_lt_of_le (own_Str.lt (S2.ext E3_)) p6__4)) nin0)) (ninS (Nat.ne_of_lt (Nat.lt_of_lt_of_le (own_Str.lt2 S2) (Nat.le_of_eq g3_.symm))) (ninS (Nat.ne_of_lt (Nat.lt_of_lt_of_le (own_Str.lt2 (S2.ext E3_)) p6__4)) nin0))).keep K24_ nin0 nin0).keep ek26_ (ninS (Nat.ne_of_lt (Nat.lt_of_lt_of_le (own_Str.lt S2) (Nat.le_of_eq g3_.symm))) (ninS (Nat.ne_of_lt (Nat.lt_of_lt_of_le (own_Str.lt (S2.ext E3_)) p6__4)) nin0)) (ninS (Nat.ne_of_lt (Nat.lt_of_lt_of_le (own_Str.lt2 S2) (Nat.le_of_eq g3_.symm))) (ninS (Nat.ne_of_lt (Nat.lt_of_lt_of_le (own_Str.lt2 (S2.ext E3_)) p6__4)) nin0)))
  have f42_ : Exa Z T26_.heap b3_ "java/lang/StringBuilder" := (f27_.keep ek26_)
  have f43_ : Old Z n0 T26_.heap := (f32_.keep ek26_ (allS g7_ (allS g17_ all0)))
  have z44_ : n0 ≤ T26_.heap.size := Nat.le_trans z34_ ek26_.1
  obtain ⟨cq45_, kq45_, qa45_, qb45_, qc45_⟩ := isOf hZ24_ rfl f42_
  obtain ⟨_, _, ⟨T40_, L40_, k40_, n40_⟩, -, X40_, ⟨Lc40_, hQ40_, l40_, y40_, z40_⟩, st40_⟩ := X26_.virtualBack hx (y := (⟨"java/lang/StringBuilder", "append", "(Ljava/lang/String;)Ljava/lang/StringBuilder;"⟩ : MethodName)) (z := (⟨"java/lang/StringBuilder", "append", "(Ljava/lang/String;)Ljava/lang/StringBuilder;"⟩ : MethodName)) hown24_ (mvT hZ24_ (own_w hw 140 rfl)) (mvT hZ24_ (own_w hw 141 rfl)) (notFace_of_selects (args := #[]) (mvT hZ24_ (own_w hw 143 rfl))) (mvT hZ24_ (own_w hw 143 rfl)) (mvT hZ24_ (own_w hw 142 rfl)) (by decide) (backOf (W := 1) (sbApp2 l Z a0 hw [] b3_ x2 t2 cs2 v2_6_ k2_6_ ((([] : List Int32) ++ cs1) ++ ([(58 : Int32), (32 : Int32)] : List Int32)) 16 G1 T26_.heap n0 z44_ f41_ f42_ p26__0 p26__1 p26__2 p26__3 T1 P5 f43_ g17_ g7_ (Nat.ne_of_lt (Nat.lt_of_lt_of_le (own_Str.lt2 (S2.ext E3_)) p6__4)) (by simp only [List.length_append, List.length_cons, List.length_nil]; omega) (by decide)) hZ24_ (own_w hw 144 rfl) (own_w hw 124 rfl) (by decide) (by decide)) qa45_ qc45_ (g := (mkF m 29 #[.val (.ref a1), .val (.ref x1), .val (.ref x2)] [(.ref x2), (.ref b3_), (.ref a1)])) rfl (by rw [hml]; rfl) (Steps.refl _) (argsL := [(.ref x2)]) (rest := [(.ref a1)]) (lenOf pd_qLjava_lang_StringzLjava_lang_StringBuilder rfl) rfl (by show 2 * 0 + _ ≤ _; exact Nat.le_of_eq rfl) (hb hby d9_29) (fun _ _ => ⟨rfl, rfl, (by exact own_b rfl), (by exact own_b rfl)⟩)
  dsimp only [Pt.U, Pt.locs, Pt.cells, Pt.slots] at X40_ l40_ y40_ z40_ st40_ hQ40_
  subst L40_ k40_ n40_
  obtain ⟨rfl, Nq40_, ek40_, p40__0, p40__1, p40__2, p40__3⟩ := hQ40_
  have N40_ := Fr.app N26_ Nq40_
  have f46_ : Safe Z consts_1 T24_.vm T26_.heap v2_6_ := (Safe.keep ek26_ (sfS f37_ (sfS f36_ sf0)) ch24_ f36_)
  have f47_ : Safe Z consts_1 T24_.vm T26_.heap b3_ := (Safe.keep ek26_ (sfS f37_ (sfS f36_ sf0)) ch24_ f37_)
  have ch48_ : CHv Z consts_1 T24_.vm T40_.heap := CHv.keep ek40_ (sfS f47_ (sfS f46_ sf0)) ch38_
  have cr49_ := cr39_.trans (CHr.keep ek40_ (sfS f47_ (sfS f46_ sf0)) ch38_)
  have hlat_ : ∀ c ∈ (((([] : List Int32) ++ cs1) ++ ([(58 : Int32), (32 : Int32)] : List Int32)) ++ cs2), ¬ c < 0 ∧ ¬ (255 : Int32) < c := by
    intro c hc
    simp only [List.mem_append] at hc
    rcases hc with ((hc | hc) | hc) | hc
    · cases hc
    · exact S1.2.2.2.2.1 c hc
    · exact (by decide : ∀ c ∈ ([(58 : Int32), (32 : Int32)] : List Int32), ¬ c < 0 ∧ ¬ (255 : Int32) < c) c hc
    · exact S2.2.2.2.2.1 c hc
  have f51_ : Exa Z T40_.heap b3_ "java/lang/StringBuilder" := (f42_.keep ek40_)
  have f52_ : Old Z n0 T40_.heap := (f43_.keep ek40_ (allS g7_ (allS g17_ all0)))
  have z53_ : n0 ≤ T40_.heap.size := Nat.le_trans z44_ ek40_.1
  obtain ⟨cq54_, kq54_, qa54_, qb54_, qc54_⟩ := isOf hZ24_ rfl f51_
  obtain ⟨_, _, ⟨T50_, L50_, k50_, n50_⟩, -, X50_, ⟨Lc50_, hQ50_, l50_, y50_, z50_⟩, st50_⟩ := X40_.virtualBack hx (y := (⟨"java/lang/StringBuilder", "toString", "()Ljava/lang/String;"⟩ : MethodName)) (z := (⟨"java/lang/StringBuilder", "toString", "()Ljava/lang/String;"⟩ : MethodName)) hown24_ (mvT hZ24_ (own_w hw 187 rfl)) (mvT hZ24_ (own_w hw 188 rfl)) (notFace_of_selects (args := #[]) (mvT hZ24_ (own_w hw 190 rfl))) (mvT hZ24_ (own_w hw 190 rfl)) (mvT hZ24_ (own_w hw 189 rfl)) (by decide) (backOf (W := 1) (sbToS l Z a0 hw [] b3_ v2_6_ k2_6_ (((([] : List Int32) ++ cs1) ++ ([(58 : Int32), (32 : Int32)] : List Int32)) ++ cs2) 16 G1 T40_.heap n0 z53_ f51_ p40__0 p40__1 p40__2 p40__3 T1 P5 f52_ (by simp only [List.length_append, List.length_cons, List.length_nil]; omega) (by decide) hlat_) hZ24_ (own_w hw 191 rfl) (own_w hw 124 rfl) (by decide) (by decide)) qa54_ qc54_ (g := (mkF m 32 #[.val (.ref a1), .val (.ref x1), .val (.ref x2)] [(.ref b3_), (.ref a1)])) rfl (by rw [hml]; rfl) (Steps.refl _) (argsL := []) (rest := [(.ref a1)]) (lenOf pd_qzLjava_lang_String rfl) rfl (by show 2 * 0 + _ ≤ _; exact Nat.le_of_eq rfl) (hb hby d9_32) (fun _ _ => ⟨rfl, rfl, (by exact own_b rfl), (by exact own_b rfl)⟩)
  dsimp only [Pt.U, Pt.locs, Pt.cells, Pt.slots] at X50_ l50_ y50_ z50_ st50_ hQ50_
  subst L50_ k50_ n50_
  obtain ⟨x1_50_, t1_50_, rfl, Nq50_, ek50_, p50__0, p50__1, p50__2⟩ := hQ50_
  have N50_ := Fr.app N40_ Nq50_
  have ch55_ : CHv Z consts_1 T24_.vm T50_.heap := CHv.keep ek50_ sf0 ch48_
  have cr56_ := cr49_.trans (CHr.keep ek50_ sf0 ch48_)
  have f58_ : Exa Z T50_.heap a1 "com/example/brisk_warden/briskwarden/core/UnsupportedNumberException" := (((((((E1.ext E3_).keep ek6_).keep ek13_).keep K24_).keep ek26_).keep ek40_).keep ek50_)
  have f59_ : Unt T50_.heap a1 := (Unt.keep ek50_ nin0 (Unt.keep ek40_ (ninS (Nat.ne_of_lt (Nat.lt_of_lt_of_le E1.lt (Nat.le_of_eq g3_.symm))) (ninS (Nat.ne_of_lt (Nat.lt_of_lt_of_le (E1.ext E3_).lt p6__4)) nin0)) (Unt.keep ek26_ (ninS (Nat.ne_of_lt (Nat.lt_of_lt_of_le E1.lt (Nat.le_of_eq g3_.symm))) (ninS (Nat.ne_of_lt (Nat.lt_of_lt_of_le (E1.ext E3_).lt p6__4)) nin0)) (Unt.keep K24_ nin0 (Unt.keep ek13_ (ninS (Nat.ne_of_lt (Nat.lt_of_lt_of_le E1.lt (Nat.le_of_eq g3_.symm))) (ninS (Nat.ne_of_lt (Nat.lt_of_lt_of_le (E1.ext E3_).lt p6__4)) nin0)) (Unt.keep ek6_ (ninS (Nat.ne_of_lt (Nat.lt_of_lt_of_le E1.lt (Nat.le_of_eq g3_.symm))) nin0) (Unt.ext E3_ U1)))))))
  have f60_ : Fld Z T50_.heap a1 "java/lang/Throwable" "cause" "Ljava/lang/Throwable;" .null := (((((((Nu0.ext E3_).keep ek6_ (ninS (Nat.ne_of_lt (Nat.lt_of_lt_of_le E1.lt (Nat.le_of_eq g3_.symm))) nin0)).keep ek13_ (ninS (Nat.ne_of_lt (Nat.lt_of_lt_of_le E1.lt (Nat.le_of_eq g3_.symm))) (ninS (Nat.ne_of_lt (Nat.lt_of_lt_of_le (E1.ext E3_).lt p6__4)) nin0))).keep K24_ nin0).keep ek26_ (ninS (Nat.ne_of_lt (Nat.lt_of_lt_of_le E1.lt (Nat.le_of_eq g3_.symm))) (ninS (Nat.ne_of_lt (Nat.lt_of_lt_of_le (E1.ext E3_).lt p6__4)) nin0))).keep ek40_ (ninS (Nat.ne_of_lt (Nat.lt_of_lt_of_le E1.lt (Nat.le_of_eq g3_.symm))) (ninS (Nat.ne_of_lt (Nat.lt_of_lt_of_le (E1.ext E3_).lt p6__4)) nin0))).keep ek50_ nin0)
  have f61_ : Fld Z T50_.heap a1 "java/lang/Throwable" "stackTrace" "[Ljava/lang/StackTraceElement;" .null := (((((((Nu1.ext E3_).keep ek6_ (ninS (Nat.ne_of_lt (Nat.lt_of_lt_of_le E1.lt (Nat.le_of_eq g3_.symm))) nin0)).keep ek13_ (ninS (Nat.ne_of_lt (Nat.lt_of_lt_of_le E1.lt (Nat.le_of_eq g3_.symm))) (ninS (Nat.ne_of_lt (Nat.lt_of_lt_of_le (E1.ext E3_).lt p6__4)) nin0))).keep K24_ nin0).keep ek26_ (ninS (Nat.ne_of_lt (Nat.lt_of_lt_of_le E1.lt (Nat.le_of_eq g3_.symm))) (ninS (Nat.ne_of_lt (Nat.lt_of_lt_of_le (E1.ext E3_).lt p6__4)) nin0))).keep ek40_ (ninS (Nat.ne_of_lt (Nat.lt_of_lt_of_le E1.lt (Nat.le_of_eq g3_.symm))) (ninS (Nat.ne_of_lt (Nat.lt_of_lt_of_le (E1.ext E3_).lt p6__4)) nin0))).keep ek50_ nin0)
  have f62_ : Fld Z T50_.heap a1 "java/lang/Throwable" "suppressedExceptions" "Ljava/util/List;" .null := (((((((Nu2.ext E3_).keep ek6_ (ninS (Nat.ne_of_lt (Nat.lt_of_lt_of_le E1.lt (Nat.le_of_eq g3_.symm))) nin0)).keep ek13_ (ninS (Nat.ne_of_lt (Nat.lt_of_lt_of_le E1.lt (Nat.le_of_eq g3_.symm))) (ninS (Nat.ne_of_lt (Nat.lt_of_lt_of_le (E1.ext E3_).lt p6__4)) nin0))).keep K24_ nin0).keep ek26_ (ninS (Nat.ne_of_lt (Nat.lt_of_lt_of_le E1.lt (Nat.le_of_eq g3_.symm))) (ninS (Nat.ne_of_lt (Nat.lt_of_lt_of_le (E1.ext E3_).lt p6__4)) nin0))).keep ek40_ (ninS (Nat.ne_of_lt (Nat.lt_of_lt_of_le E1.lt (Nat.le_of_eq g3_.symm))) (ninS (Nat.ne_of_lt (Nat.lt_of_lt_of_le (E1.ext E3_).lt p6__4)) nin0))).keep ek50_ nin0)
  have f63_ : Fld Z T50_.heap a1 "java/lang/Throwable" "backtrace" "Ljava/lang/Object;" .null := (((((((Nu3.ext E3_).keep ek6_ (ninS (Nat.ne_of_lt (Nat.lt_of_lt_of_le E1.lt (Nat.le_of_eq g3_.symm))) nin0)).keep ek13_ (ninS (Nat.ne_of_lt (Nat.lt_of_lt_of_le E1.lt (Nat.le_of_eq g3_.symm))) (ninS (Nat.ne_of_lt (Nat.lt_of_lt_of_le (E1.ext E3_).lt p6__4)) nin0))).keep K24_ nin0).keep ek26_ (ninS (Nat.ne_of_lt (Nat.lt_of_lt_of_le E1.lt (Nat.le_of_eq g3_.symm))) (ninS (Nat.ne_of_lt (Nat.lt_of_lt_of_le (E1.ext E3_).lt p6__4)) nin0))).keep ek40_ (ninS (Nat.ne_of_lt (Nat.lt_of_lt_of_le E1.lt (Nat.le_of_eq g3_.symm))) (ninS (Nat.ne_of_lt (Nat.lt_of_lt_of_le (E1.ext E3_).lt p6__4)) nin0))).keep ek50_ nin0)
  have f64_ : Fld Z T50_.heap a1 "java/lang/Throwable" "detailMessage" "Ljava/lang/String;" .null := (((((((Nu4.ext E3_).keep ek6_ (ninS (Nat.ne_of_lt (Nat.lt_of_lt_of_le E1.lt (Nat.le_of_eq g3_.symm))) nin0)).keep ek13_ (ninS (Nat.ne_of_lt (Nat.lt_of_lt_of_le E1.lt (Nat.le_of_eq g3_.symm))) (ninS (Nat.ne_of_lt (Nat.lt_of_lt_of_le (E1.ext E3_).lt p6__4)) nin0))).keep K24_ nin0).keep ek26_ (ninS (Nat.ne_of_lt (Nat.lt_of_lt_of_le E1.lt (Nat.le_of_eq g3_.symm))) (ninS (Nat.ne_of_lt (Nat.lt_of_lt_of_le (E1.ext E3_).lt p6__4)) nin0))).keep ek40_ (ninS (Nat.ne_of_lt (Nat.lt_of_lt_of_le E1.lt (Nat.le_of_eq g3_.symm))) (ninS (Nat.ne_of_lt (Nat.lt_of_lt_of_le (E1.ext E3_).lt p6__4)) nin0))).keep ek50_ nin0)
  have f65_ : Fld Z T50_.heap a1 "com/example/brisk_warden/briskwarden/core/UnsupportedNumberException" "place" "Ljava/lang/String;" .null := (((((((Mu0.ext E3_).keep ek6_ (ninS (Nat.ne_of_lt (Nat.lt_of_lt_of_le E1.lt (Nat.le_of_eq g3_.symm))) nin0)).keep ek13_ (ninS (Nat.ne_of_lt (Nat.lt_of_lt_of_le E1.lt (Nat.le_of_eq g3_.symm))) (ninS (Nat.ne_of_lt (Nat.lt_of_lt_of_le (E1.ext E3_).lt p6__4)) nin0))).keep K24_ nin0).keep ek26_ (ninS (Nat.ne_of_lt (Nat.lt_of_lt_of_le E1.lt (Nat.le_of_eq g3_.symm))) (ninS (Nat.ne_of_lt (Nat.lt_of_lt_of_le (E1.ext E3_).lt p6__4)) nin0))).keep ek40_ (ninS (Nat.ne_of_lt (Nat.lt_of_lt_of_le E1.lt (Nat.le_of_eq g3_.symm))) (ninS (Nat.ne_of_lt (Nat.lt_of_lt_of_le (E1.ext E3_).lt p6__4)) nin0))).keep ek50_ nin0)
  have f66_ : Fld Z T50_.heap a1 "com/example/brisk_warden/briskwarden/core/UnsupportedNumberException" "problem" "Ljava/lang/String;" .null := (((((((Mu1.ext E3_).keep ek6_ (ninS (Nat.ne_of_lt (Nat.lt_of_lt_of_le E1.lt (Nat.le_of_eq g3_.symm))) nin0)).keep ek13_ (ninS (Nat.ne_of_lt (Nat.lt_of_lt_of_le E1.lt (Nat.le_of_eq g3_.symm))) (ninS (Nat.ne_of_lt (Nat.lt_of_lt_of_le (E1.ext E3_).lt p6__4)) nin0))).keep K24_ nin0).keep ek26_ (ninS (Nat.ne_of_lt (Nat.lt_of_lt_of_le E1.lt (Nat.le_of_eq g3_.symm))) (ninS (Nat.ne_of_lt (Nat.lt_of_lt_of_le (E1.ext E3_).lt p6__4)) nin0))).keep ek40_ (ninS (Nat.ne_of_lt (Nat.lt_of_lt_of_le E1.lt (Nat.le_of_eq g3_.symm))) (ninS (Nat.ne_of_lt (Nat.lt_of_lt_of_le (E1.ext E3_).lt p6__4)) nin0))).keep ek50_ nin0)
  have f67_ : Old Z n0 T50_.heap := (f52_.keep ek50_ all0)
  have z68_ : n0 ≤ T50_.heap.size := Nat.le_trans z53_ ek50_.1
  obtain ⟨_, _, ⟨T57_, L57_, k57_, n57_⟩, -, X57_, ⟨Lc57_, hQ57_, l57_, y57_, z57_⟩, st57_⟩ := X50_.specialBack hx (y := (⟨"java/lang/IllegalArgumentException", "<init>", "(Ljava/lang/String;)V"⟩ : MethodName)) rfl hown24_ (mvT hZ24_ (own_w hw 52 rfl)) (mvT hZ24_ (own_w hw 53 rfl)) (mvT hZ24_ (own_w hw 56 rfl)) (by decide) (backOfKL (W := 0) (exIllegalArgumentException l Z a0 hw [] a1 x1_50_ vU vS T50_.heap n0 z68_ f58_ f59_ f60_ f61_ f62_ f63_ f64_ f65_ f66_ g1 TU rU TS rS f67_ hl) hZ24_ (own_w hw 56 rfl) (own_w hw 55 rfl) (by decide) (by decide) (Vm.MethodsKnown.alikeC ((State.Warmed39.alike hZ).symm.trans (State.Warmed39.alike hZ24_)) hK.1) (Vm.FramesKnown.alikeC ((State.Warmed39.alike hZ).symm.trans (State.Warmed39.alike hZ24_)) hK.2)) (g := (mkF m 35 #[.val (.ref a1), .val (.ref x1), .val (.ref x2)] [(.ref x1_50_), (.ref a1)])) rfl (by rw [hml]; rfl) (Steps.refl _) (a := a1) (argsL := [(.ref x1_50_)]) (rest := []) (lenOf pd_qLjava_lang_StringzV rfl) rfl (by show 2 * 0 + _ ≤ _; exact Nat.le_of_eq rfl) (hb hby d9_35) (fun _ _ => ⟨rfl, rfl, (by exact own_b rfl), (by exact own_b rfl)⟩)
  dsimp only [Pt.U, Pt.locs, Pt.cells, Pt.slots] at X57_ l57_ y57_ z57_ st57_ hQ57_
  subst L57_ k57_ n57_
  obtain ⟨rfl, Nq57_, ek57_, p57__0, p57__1, p57__2, p57__3, p57__4, p57__5⟩ := hQ57_
  have N57_ := Fr.app N50_ Nq57_
  have ch69_ : CHv Z consts_1 T24_.vm T57_.heap := CHv.keep ek57_ (sfS (Safe.exa (State.Warmed39.alike hZ24_) f58_ (by decide) (by decide)) sf0) ch55_
  have cr70_ := cr56_.trans (CHr.keep ek57_ (sfS (Safe.exa (State.Warmed39.alike hZ24_) f58_ (by decide) (by decide)) sf0) ch55_)
  obtain ⟨T71_, h71_, X71_, e71_, W71_, st71_⟩ := putF X57_ hx hZ24_ hown24_ (host := "") (Or.inl (own_w hw 112 rfl)) Via.refl rfl p57__4 p57__0 (Or.inr ⟨(own_w hw 113 rfl), rfl, hnm⟩) (own_w hw 42 rfl) (ty := (.object "java/lang/String")) (by decide) rfl rfl (g := (mkF m 40 #[.val (.ref a1), .val (.ref x1), .val (.ref x2)] [(.ref x1), (.ref a1)])) rfl rfl (hb hby d9_40)
  have ch72_ : CHv Z consts_1 T24_.vm h71_ := CHv.wr W71_ (Safe.exa (State.Warmed39.alike hZ24_) p57__0 (by decide) (by decide)) ch69_
  have cr73_ := cr70_.trans (CHr.wr W71_ (Safe.exa (State.Warmed39.alike hZ24_) p57__0 (by decide) (by decide)) ch69_)
  have w71_ : Fld Z h71_ a1 "com/example/brisk_warden/briskwarden/core/UnsupportedNumberException" "place" "Ljava/lang/String;" (.ref x1) := p57__4.same W71_
  have N71_ := Fr.snoc X71_ N57_ g1
  have f74_ : Exa Z h71_ a1 "com/example/brisk_warden/briskwarden/core/UnsupportedNumberException" := (p57__0.wr W71_)
  have f75_ : Fld Z h71_ a1 "com/example/brisk_warden/briskwarden/core/UnsupportedNumberException" "problem" "Ljava/lang/String;" .null := (p57__5.other W71_ (Or.inr (slot_ne (Or.inr (own_w hw 115 rfl)) (Or.inr (own_w hw 113 rfl)) (by decide) (t := (.object "java/lang/String")) (t' := (.object "java/lang/String")) (by decide) (by decide))))
  obtain ⟨T76_, h76_, X76_, e76_, W76_, st76_⟩ := putF X71_ hx hZ24_ hown24_ (host := "") (Or.inl (own_w hw 114 rfl)) Via.refl e71_ f75_ f74_ (Or.inr ⟨(own_w hw 115 rfl), rfl, hnm⟩) (own_w hw 42 rfl) (ty := (.object "java/lang/String")) (by decide) rfl rfl (g := (mkF m 45 #[.val (.ref a1), .val (.ref x1), .val (.ref x2)] [(.ref x2), (.ref a1)])) rfl rfl (hb hby d9_45)
  have ch77_ : CHv Z consts_1 T24_.vm h76_ := CHv.wr W76_ (Safe.exa (State.Warmed39.alike hZ24_) f74_ (by decide) (by decide)) ch72_
  have cr78_ := cr73_.trans (CHr.wr W76_ (Safe.exa (State.Warmed39.alike hZ24_) f74_ (by decide) (by decide)) ch72_)
  have w76_ : Fld Z h76_ a1 "com/example/brisk_warden/briskwarden/core/UnsupportedNumberException" "problem" "Ljava/lang/String;" (.ref x2) := f75_.same W76_
  have N76_ := Fr.snoc X76_ N71_ g1
  have f79_ : own_Str Z h76_ x1_50_ t1_50_ (((([] : List Int32) ++ cs1) ++ ([(58 : Int32), (32 : Int32)] : List Int32)) ++ cs2) := (((p50__0.keep ek57_ (ninS (Ne.symm (Nat.ne_of_lt (Nat.lt_of_lt_of_le ((((((E1.ext E3_).keep ek6_).keep ek13_).keep K24_).keep ek26_).keep ek40_).lt p50__2))) nin0) (ninS (Ne.symm (Nat.ne_of_lt (Nat.lt_of_lt_of_le ((((((E1.ext E3_).keep ek6_).keep ek13_).keep K24_).keep ek26_).keep ek40_).lt p50__1))) nin0)).other W71_ (Ne.symm (Nat.ne_of_lt (Nat.lt_of_lt_of_le ((((((E1.ext E3_).keep ek6_).keep ek13_).keep K24_).keep ek26_).keep ek40_).lt p50__2))) (Ne.symm (Nat.ne_of_lt (Nat.lt_of_lt_of_le ((((((E1.ext E3_).keep ek6_).keep ek13_).keep K24_).keep ek26_).keep ek40_).lt p50__1)))).other W76_ (Ne.symm (Nat.ne_of_lt (Nat.lt_of_lt_of_le ((((((E1.ext E3_).keep ek6_).keep ek13_).keep K24_).keep ek26_).keep ek40_).lt p50__2))) (Ne.symm (Nat.ne_of_lt (Nat.lt_of_lt_of_le ((((((E1.ext E3_).keep ek6_).keep ek13_).keep K24_).keep ek26_).keep ek40_).lt p50__1))))
  have mm_ : own_Str Z h76_ x1_50_ t1_50_ (own_msg cs1 cs2) := by rw [own_msg, if_neg he]; exact f79_
  have f80_ : Exa Z h76_ a1 "com/example/brisk_warden/briskwarden/core/UnsupportedNumberException" := (f74_.wr W76_)
  have f81_ : Fld Z h76_ a1 "com/example/brisk_warden/briskwarden/core/UnsupportedNumberException" "place" "Ljava/lang/String;" (.ref x1) := (w71_.other W76_ (Or.inr (slot_ne (Or.inr (own_w hw 113 rfl)) (Or.inr (own_w hw 115 rfl)) (by decide) (t := (.object "java/lang/String")) (t' := (.object "java/lang/String")) (by decide) (by decide))))
  have f82_ : Fld Z h76_ a1 "java/lang/Throwable" "detailMessage" "Ljava/lang/String;" (.ref x1_50_) := ((p57__2.other W71_ (Or.inr (slot_ne (Or.inl (own_w hw 107 rfl)) (Or.inr (own_w hw 113 rfl)) (by decide) (t := (.object "java/lang/String")) (t' := (.object "java/lang/String")) (by decide) (by decide)))).other W76_ (Or.inr (slot_ne (Or.inl (own_w hw 107 rfl)) (Or.inr (own_w hw 115 rfl)) (by decide) (t := (.object "java/lang/String")) (t' := (.object "java/lang/String")) (by decide) (by decide))))
  have k83_ : Keep h0 h3_ [a1] := (Keep.refl h0 [a1]).ext E3_
  have k84_ : Keep h0 T6_.heap [a1] := k83_.trans ek6_ (allS (Or.inr (Nat.le_trans (Keep.refl h0 [a1]).1 (Nat.le_of_eq g3_.symm))) all0)
  have k85_ : Keep h0 T13_.heap [a1] := k84_.trans ek13_ (allS (Or.inr (Nat.le_trans (Keep.refl h0 [a1]).1 (Nat.le_of_eq g3_.symm))) (allS (Or.inr (Nat.le_trans k83_.1 p6__4)) all0))
  have k86_ : Keep h0 h24_ [a1] := k85_.trans K24_ all0
  have k87_ : Keep h0 T26_.heap [a1] := k86_.trans ek26_ (allS (Or.inr (Nat.le_trans (Keep.refl h0 [a1]).1 (Nat.le_of_eq g3_.symm))) (allS (Or.inr (Nat.le_trans k83_.1 p6__4)) all0))
  have k88_ : Keep h0 T40_.heap [a1] := k87_.trans ek40_ (allS (Or.inr (Nat.le_trans (Keep.refl h0 [a1]).1 (Nat.le_of_eq g3_.symm))) (allS (Or.inr (Nat.le_trans k83_.1 p6__4)) all0))
  have k89_ : Keep h0 T50_.heap [a1] := k88_.trans ek50_ all0
  have k90_ : Keep h0 T57_.heap [a1] := k89_.trans ek57_ (allS (Or.inl (List.mem_of_getElem? (i := 0) rfl)) all0)
  have k91_ : Keep h0 h71_ [a1] := k90_.wr W71_ (Or.inl (List.mem_of_getElem? (i := 0) rfl))
  have k92_ : Keep h0 h76_ [a1] := k91_.wr W76_ (Or.inl (List.mem_of_getElem? (i := 0) rfl))
  obtain ⟨fs, hr, hrun, hended, hREW⟩ := X76_.leaveW hS24_ (Nat.le_trans (Nat.le_trans (Nat.le_trans (Nat.le_trans (Nat.le_trans (Nat.le_trans (Nat.le_trans hk24_ ek26_.1) ek40_.1) ek50_.1) ek57_.1) (Keep.of_wr W71_).1) (Keep.of_wr W76_).1) (Nat.le_of_eq (congrArg Array.size e76_.symm))) (v := none) (fun h => by first | rfl | (rw [Bd.returns] at h; cases h))
  refine ⟨_, _, pre0 _ ?_, hrun, hended, _, _, rfl, ?_, ?_, own_REW hREW (by exact own_b rfl) (by exact own_b rfl)⟩
  · show Steps p.tables e below (s₁.setTop (mkF m 0 #[.val (.ref a1), .val (.ref x1), .val (.ref x2)] [])) _
    refine XS.aloadN X0.here hx rfl (hb hby d9_0) rfl rfl ?_
    refine XS.aloadN X0.here hx rfl (hb hby d9_1) rfl rfl ?_
    refine st1_.trans ?_
    show Steps p.tables e below (T1_.setTop (mkF m 5 #[.val (.ref a1), .val (.ref x1), .val (.ref x2)] [(.int (if cs1.length = 0 then 1 else 0 : Int32)), (.ref a1)])) _
    refine XS.ifYes X1_.here hx rfl (pc0 := 5) (pc' := 12) rfl (hb hby d9_5) rfl ((if0 _ _).trans (teq ((if_neg he) : (if cs1.length = 0 then 1 else 0 : Int32) = (0 : Int32))).1) (by decide) (by decide) ?_
    refine st3_ _ ?_
    show Steps p.tables e below (T3_.setTop (mkF m 15 #[.val (.ref a1), .val (.ref x1), .val (.ref x2)] [(.ref b3_), (.ref a1)])) _
    refine XS.dup X3_.here hx rfl (hb hby d9_15) rfl rfl ?_
    refine st6_.trans ?_
    show Steps p.tables e below (T6_.setTop (mkF m 19 #[.val (.ref a1), .val (.ref x1), .val (.ref x2)] [(.ref b3_), (.ref a1)])) _
    refine XS.aloadN X6_.here hx rfl (hb hby d9_19) rfl rfl ?_
    refine st13_.trans ?_
    show Steps p.tables e below (T13_.setTop (mkF m 23 #[.val (.ref a1), .val (.ref x1), .val (.ref x2)] [(.ref b3_), (.ref a1)])) _
    refine st24_ _ ?_
    show Steps p.tables e below (T24_.setTop (mkF m 25 #[.val (.ref a1), .val (.ref x1), .val (.ref x2)] [(.ref c24_), (.ref b3_), (.ref a1)])) _
    refine st26_.trans ?_
    show Steps p.tables e below (T26_.setTop (mkF m 28 #[.val (.ref a1), .val (.ref x1), .val (.ref x2)] [(.ref b3_), (.ref a1)])) _
    refine XS.aloadN X26_.here hx rfl (hb hby d9_28) rfl rfl ?_
    refine st40_.trans ?_
    show Steps p.tables e below (T40_.setTop (mkF m 32 #[.val (.ref a1), .val (.ref x1), .val (.ref x2)] [(.ref b3_), (.ref a1)])) _
    refine st50_.trans ?_
    show Steps p.tables e below (T50_.setTop (mkF m 35 #[.val (.ref a1), .val (.ref x1), .val (.ref x2)] [(.ref x1_50_), (.ref a1)])) _
    refine st57_.trans ?_
    show Steps p.tables e below (T57_.setTop (mkF m 38 #[.val (.ref a1), .val (.ref x1), .val (.ref x2)] [])) _
    refine XS.aloadN X57_.here hx rfl (hb hby d9_38) rfl rfl ?_
    refine XS.aloadN X57_.here hx rfl (hb hby d9_39) rfl rfl ?_
    refine st71_ _ ?_
    show Steps p.tables e below (T71_.setTop (mkF m 43 #[.val (.ref a1), .val (.ref x1), .val (.ref x2)] [])) _
    refine XS.aloadN X71_.here hx rfl (hb hby d9_43) rfl rfl ?_
    refine XS.aloadN X71_.here hx rfl (hb hby d9_44) rfl rfl ?_
    refine st76_ _ ?_
    show Steps p.tables e below (T76_.setTop (mkF m 48 #[.val (.ref a1), .val (.ref x1), .val (.ref x2)] [])) _
    exact X76_.returnOut hx Bd.returns (hb hby d9_48) hr
  · show Q_rmIE Z a1 x1 x2 t1 cs1 t2 cs2 G1 vU vS h0 n0 _ T76_.heap _
    rw [e76_]
    exact ⟨x1_50_, t1_50_, rfl, N76_, k92_, f80_, (fun q_ => absurd q_ he), f81_, w76_, f82_, mm_⟩
  · show CHr Z consts_1 s.vm s.heap T76_.vm T76_.heap
    rw [hh]
    rw [e76_]
    exact cr78_.trans (CHv.at X76_ hZ24_ hEL ch77_)
theorem rmI (l : Launch) (Z : State) (a0 : Array Value) (hw : ∀ d ∈ tables_1, d.before a0 Z = true) (hEL : EW Z a0 consts_1) (ws : List Jvm.Cond) (a1 : Addr) (x1 : Addr) (x2 : Addr) (t1 : Addr) (cs1 : List Int32) (t2 : Addr) (cs2 : List Int32) (G1 : Int32) (vU : Value) (vS : Value) (h0 : Heap) (n0 : Nat) (Z0 : n0 ≤ h0.size) (S1 : own_Str Z h0 x1 t1 cs1) (S2 : own_Str Z h0 x2 t2 cs2) (E1 : Exa Z h0 a1 "com/example/brisk_warden/briskwarden/core/UnsupportedNumberException") (U1 : Unt h0 a1) (Nu0 : Fld Z h0 a1 "java/lang/Throwable" "cause" "Ljava/lang/Throwable;" .null) (Nu1 : Fld Z h0 a1 "java/lang/Throwable" "stackTrace" "[Ljava/lang/StackTraceElement;" .null) (Nu2 : Fld Z h0 a1 "java/lang/Throwable" "suppressedExceptions" "Ljava/util/List;" .null) (Nu3 : Fld Z h0 a1 "java/lang/Throwable" "backtrace" "Ljava/lang/Object;" .null) (Nu4 : Fld Z h0 a1 "java/lang/Throwable" "detailMessage" "Ljava/lang/String;" .null) (Mu0 : Fld Z h0 a1 "com/example/brisk_warden/briskwarden/core/UnsupportedNumberException" "place" "Ljava/lang/String;" .null) (Mu1 : Fld Z h0 a1 "com/example/brisk_warden/briskwarden/core/UnsupportedNumberException" "problem" "Ljava/lang/String;" .null) (g1 : n0 ≤ a1) (T1 : Sta Z Z.heap "java/lang/String" "COMPACT_STRINGS" "Z" (.int G1)) (P5 : ¬ (G1 = (0 : Int32))) (O1 : Old Z n0 h0) (TU : Sta Z Z.heap "java/lang/Throwable" "UNASSIGNED_STACK" "[Ljava/lang/StackTraceElement;" vU) (rU : vU.isRef = true) (TS : Sta Z Z.heap "java/lang/Throwable" "SUPPRESSED_SENTINEL" "Ljava/util/List;" vS) (rS : vS.isRef = true) (hl : l.stackTraces = true) (hn1 : cs1.length ≤ 6) (hn2 : cs2.length ≤ 3) :
    MetFree l (⟨"com/example/brisk_warden/briskwarden/core/UnsupportedNumberException", "<init>", "(Ljava/lang/String;Ljava/lang/String;)V"⟩ : MethodName) (head1 (Jvm.Cond.code (⟨"com/example/brisk_warden/briskwarden/core/UnsupportedNumberException", "<init>", "(Ljava/lang/String;Ljava/lang/String;)V"⟩ : MethodName) prog_16_method_1_code 3 none :: ws) ({ frames := 7, cells := 7, slots := 2804, locals := 94 } : Room)) (fun a U => a = #[(.ref a1), (.ref x1), (.ref x2)] ∧ Z.Warmed39 U.vm ∧ U.heap = h0 ∧ CHv Z consts_1 U.vm h0) (fun _ _ bl s _ => s.vm.MethodsKnown ∧ s.vm.FramesKnown bl) (fun _ U o U' => ∃ v L, o = .returned v ∧ Q_rmIE Z a1 x1 x2 t1 cs1 t2 cs2 G1 vU vS h0 n0 v U'.heap L ∧ CHr Z consts_1 U.vm U.heap U'.vm U'.heap ∧ ReturnedEndW U o U' L ({ frames := 7, cells := 7, slots := 2804, locals := 94 } : Room).cells ({ frames := 7, cells := 7, slots := 2804, locals := 94 } : Room).slots) := by
  by_cases c0 : cs1.length = 0
  · exact rmIE l Z a0 hw hEL ws a1 x1 x2 t1 cs1 t2 cs2 G1 vU vS h0 n0 Z0 S1 S2 E1 U1 Nu0 Nu1 Nu2 Nu3 Nu4 Mu0 Mu1 g1 T1 P5 O1 TU rU TS rS hl hn1 hn2 c0
  · exact rmIN l Z a0 hw hEL ws a1 x1 x2 t1 cs1 t2 cs2 G1 vU vS h0 n0 Z0 S1 S2 E1 U1 Nu0 Nu1 Nu2 Nu3 Nu4 Mu0 Mu1 g1 T1 P5 O1 TU rU TS rS hl hn1 hn2 c0
theorem d17_0 : decode prog_16_method_2_code 0 = .ok (.new 29, 3) := by decide +kernel
theorem d17_3 : decode prog_16_method_2_code 3 = .ok (.dup, 1) := by decide +kernel
theorem d17_4 : decode prog_16_method_2_code 4 = .ok (.new 7, 3) := by decide +kernel
theorem d17_7 : decode prog_16_method_2_code 7 = .ok (.dup, 1) := by decide +kernel
theorem d17_8 : decode prog_16_method_2_code 8 = .ok (.invokespecial 9, 3) := by decide +kernel
theorem d17_11 : decode prog_16_method_2_code 11 = .ok (.aload_n 1, 1) := by decide +kernel
theorem d17_12 : decode prog_16_method_2_code 12 = .ok (.invokevirtual 13, 3) := by decide +kernel
theorem d17_15 : decode prog_16_method_2_code 15 = .ok (.aload_n 0, 1) := by decide +kernel
theorem d17_16 : decode prog_16_method_2_code 16 = .ok (.getfield 28, 3) := by decide +kernel
theorem d17_19 : decode prog_16_method_2_code 19 = .ok (.invokevirtual 13, 3) := by decide +kernel
theorem d17_22 : decode prog_16_method_2_code 22 = .ok (.invokevirtual 19, 3) := by decide +kernel
theorem d17_25 : decode prog_16_method_2_code 25 = .ok (.aload_n 0, 1) := by decide +kernel
theorem d17_26 : decode prog_16_method_2_code 26 = .ok (.getfield 34, 3) := by decide +kernel
theorem d17_29 : decode prog_16_method_2_code 29 = .ok (.invokespecial 37, 3) := by decide +kernel
theorem pd_qLjava_lang_StringLjava_lang_StringzV : parseMethodDescriptor "(Ljava/lang/String;Ljava/lang/String;)V" = some ⟨[(.object "java/lang/String"), (.object "java/lang/String")], none⟩ := by decide +kernel
theorem d17_32 : decode prog_16_method_2_code 32 = .ok (.areturn, 1) := by decide +kernel
theorem ef_rmAt (m : MethodId) (x0 : Addr) (x1 : Addr) : entryFrame m #[(.ref x0), (.ref x1)] 2 = mkF m 0 #[.val (.ref x0), .val (.ref x1)] [] := by first | (simp [entryFrame, mkF, argsToLocals, Value.category]; done) | rfl
def Q_rmAt (Z : State) (a1 : Addr) (x1 : Addr) (t1 : Addr) (cs1 : List Int32) (x2 : Addr) (t2 : Addr) (cs2 : List Int32) (x3 : Addr) (t3 : Addr) (cs3 : List Int32) (G1 : Int32) (vU : Value) (vS : Value) (h0 : Heap) (n0 : Nat) (v : Option Value) (h : Heap) (L : List Loc) : Prop := ∃ (a2 : Addr) (xp : Addr) (tp : Addr) (xm : Addr) (tm : Addr), v = some (.ref a2) ∧ Fr n0 L ∧ Keep h0 h [] ∧ (Exa Z h a2 "com/example/brisk_warden/briskwarden/core/UnsupportedNumberException") ∧ ((((([] : List Int32) ++ cs1) ++ cs2).length = 0 → xm = x3)) ∧ (Fld Z h a2 "com/example/brisk_warden/briskwarden/core/UnsupportedNumberException" "place" "Ljava/lang/String;" (.ref xp)) ∧ (Fld Z h a2 "com/example/brisk_warden/briskwarden/core/UnsupportedNumberException" "problem" "Ljava/lang/String;" (.ref x3)) ∧ (Fld Z h a2 "java/lang/Throwable" "detailMessage" "Ljava/lang/String;" (.ref xm)) ∧ (own_Str Z h xp tp ((([] : List Int32) ++ cs1) ++ cs2)) ∧ (own_Str Z h xm tm (own_msg ((([] : List Int32) ++ cs1) ++ cs2) cs3))
theorem rmAt (l : Launch) (Z : State) (a0 : Array Value) (hw : ∀ d ∈ tables_1, d.before a0 Z = true) (hEL : EW Z a0 consts_1) (ws : List Jvm.Cond) (a1 : Addr) (x1 : Addr) (t1 : Addr) (cs1 : List Int32) (x2 : Addr) (t2 : Addr) (cs2 : List Int32) (x3 : Addr) (t3 : Addr) (cs3 : List Int32) (G1 : Int32) (vU : Value) (vS : Value) (h0 : Heap) (n0 : Nat) (Z0 : n0 ≤ h0.size) (S1 : own_Str Z h0 x1 t1 cs1) (E1 : Exa Z h0 a1 "com/example/brisk_warden/briskwarden/core/UnsupportedNumberException") (F1 : Fld Z h0 a1 "com/example/brisk_warden/briskwarden/core/UnsupportedNumberException" "place" "Ljava/lang/String;" (.ref x2)) (F2 : Fld Z h0 a1 "com/example/brisk_warden/briskwarden/core/UnsupportedNumberException" "problem" "Ljava/lang/String;" (.ref x3)) (S2 : own_Str Z h0 x2 t2 cs2) (S3 : own_Str Z h0 x3 t3 cs3) (T1 : Sta Z Z.heap "java/lang/String" "COMPACT_STRINGS" "Z" (.int G1)) (P5 : ¬ (G1 = (0 : Int32))) (O1 : Old Z n0 h0) (TU : Sta Z Z.heap "java/lang/Throwable" "UNASSIGNED_STACK" "[Ljava/lang/StackTraceElement;" vU) (rU : vU.isRef = true) (TS : Sta Z Z.heap "java/lang/Throwable" "SUPPRESSED_SENTINEL" "Ljava/util/List;" vS) (rS : vS.isRef = true) (hl : l.stackTraces = true) (hn1 : cs1.length ≤ 3) (hn2 : cs2.length ≤ 3) (hn3 : cs3.length ≤ 3) :
    MetFree l (⟨"com/example/brisk_warden/briskwarden/core/UnsupportedNumberException", "at", "(Ljava/lang/String;)Lcom/example/brisk_warden/briskwarden/core/UnsupportedNumberException;"⟩ : MethodName) (head1 (Jvm.Cond.code (⟨"com/example/brisk_warden/briskwarden/core/UnsupportedNumberException", "at", "(Ljava/lang/String;)Lcom/example/brisk_warden/briskwarden/core/UnsupportedNumberException;"⟩ : MethodName) prog_16_method_2_code 2 (some (.object "com/example/brisk_warden/briskwarden/core/UnsupportedNumberException")) :: ws) ({ frames := 8, cells := 12, slots := 2852, locals := 109 } : Room)) (fun a U => a = #[(.ref a1), (.ref x1)] ∧ Z.Warmed39 U.vm ∧ U.heap = h0 ∧ CHv Z consts_1 U.vm h0) (fun _ _ bl s _ => s.vm.MethodsKnown ∧ s.vm.FramesKnown bl) (fun _ U o U' => ∃ v L, o = .returned v ∧ Q_rmAt Z a1 x1 t1 cs1 x2 t2 cs2 x3 t3 cs3 G1 vU vS h0 n0 v U'.heap L ∧ CHr Z consts_1 U.vm U.heap U'.vm U'.heap ∧ ReturnedEndW U o U' L ({ frames := 8, cells := 12, slots := 2852, locals := 109 } : Room).cells ({ frames := 8, cells := 12, slots := 2852, locals := 109 } : Room).slots) := by
  refine MetFree.of_bodySF (plainFor_of_name pn_com_example_brisk_warden_briskwarden_core_UnsupportedNumberException) hisR ?_
  intro p e s m args below meth c s₁ Bd hml0 hP hK
  obtain ⟨rfl, hZ, hh, H0'⟩ := hP
  have hx := Bd.exec
  have hby := Bd.bytes
  have hml : c.maxLocals = 2 := hml0
  have hown : s.vm.findClass "com/example/brisk_warden/briskwarden/core/UnsupportedNumberException" = some m.cls := findClass_of_methodNamed Bd.named
  have hnm := (name_of_methodNamed Bd.named Bd.method).1
  have X0 : Stand p l e ({ frames := 8, cells := 12, slots := 2852, locals := 109 } : Room) (s.setVm s.vm) m #[(.ref a1), (.ref x1)] below meth c s₁ [] 0 0 := Stand.of_body Bd
  have e0 : s₁.heap = h0 := by rw [← hh, Bd.state]; rfl
  have N0 := Fr.nil n0
  have hS0 : s.Since s.vm h0.size := own_since0 s _
  have hk0 : h0.size ≤ h0.size := Nat.le_refl _
  have H0 : CHv Z consts_1 s.vm h0 := H0'
  have wS : ∀ a ∈ Bundle.stringAtoms, a.before a0 Z = true := fun a ha => hw a ((by decide +kernel : ∀ a ∈ Bundle.stringAtoms, a ∈ tables_1) a ha)
  have pre0 : ∀ t, Steps p.tables e below (s₁.setTop (mkF m 0 #[.val (.ref a1), .val (.ref x1)] [])) t → Steps p.tables e below (s₁.setTop (entryFrame m #[(.ref a1), (.ref x1)] 2)) t := fun t k => castTop (ef_rmAt m a1 x1) k
  obtain ⟨T1_, h1_, X1_, e1_, E1_, A1_, D1_, U1_, st1_⟩ := newO X0 hx hZ hown (own_w hw 121 rfl) (own_w hw 42 rfl) (own_w hw 43 rfl) e0 (g := (mkF m 0 #[.val (.ref a1), .val (.ref x1)] [])) rfl (hb hby d17_0) (by exact own_b rfl) (by exact own_b rfl)
  obtain ⟨b1_, g1_⟩ : ∃ z, z = h0.size := ⟨_, rfl⟩
  rw [← g1_] at A1_ D1_ U1_ st1_
  have sf1_ : Safe Z consts_1 s.vm h0 b1_ := Safe.new (Nat.le_of_eq g1_.symm)
  have ch2_ : CHv Z consts_1 s.vm h1_ := CHv.ext E1_ H0
  have cr3_ := (CHr.refl H0).trans (CHr.ext E1_ H0)
  have F1__cause : Fld Z h1_ b1_ "java/lang/Throwable" "cause" "Ljava/lang/Throwable;" .null := D1_ (Or.inl (own_w hw 77 rfl)) (ty := (.object "java/lang/Throwable")) (by decide)
  have F1__stackTrace : Fld Z h1_ b1_ "java/lang/Throwable" "stackTrace" "[Ljava/lang/StackTraceElement;" .null := D1_ (Or.inl (own_w hw 80 rfl)) (ty := (.array (.object "java/lang/StackTraceElement"))) (by decide)
  have F1__suppressedExceptions : Fld Z h1_ b1_ "java/lang/Throwable" "suppressedExceptions" "Ljava/util/List;" .null := D1_ (Or.inl (own_w hw 83 rfl)) (ty := (.object "java/util/List")) (by decide)
  have F1__detailMessage : Fld Z h1_ b1_ "java/lang/Throwable" "detailMessage" "Ljava/lang/String;" .null := D1_ (Or.inl (own_w hw 107 rfl)) (ty := (.object "java/lang/String")) (by decide)
  have F1__backtrace : Fld Z h1_ b1_ "java/lang/Throwable" "backtrace" "Ljava/lang/Object;" .null := D1_ (Or.inl (own_w hw 108 rfl)) (ty := (.object "java/lang/Object")) (by decide)
  have F1__depth : Fld Z h1_ b1_ "java/lang/Throwable" "depth" "I" (.int (0 : Int32)) := D1_ (Or.inl (own_w hw 109 rfl)) (ty := .int) (by decide)
  have F1__place : Fld Z h1_ b1_ "com/example/brisk_warden/briskwarden/core/UnsupportedNumberException" "place" "Ljava/lang/String;" .null := D1_ (Or.inr (own_w hw 113 rfl)) (ty := (.object "java/lang/String")) (by decide)
  have F1__problem : Fld Z h1_ b1_ "com/example/brisk_warden/briskwarden/core/UnsupportedNumberException" "problem" "Ljava/lang/String;" .null := D1_ (Or.inr (own_w hw 115 rfl)) (ty := (.object "java/lang/String")) (by decide)
  obtain ⟨T4_, h4_, X4_, e4_, E4_, A4_, D4_, U4_, st4_⟩ := newO X1_ hx hZ hown (own_w hw 122 rfl) (own_w hw 123 rfl) (own_w hw 124 rfl) e1_ (g := (mkF m 4 #[.val (.ref a1), .val (.ref x1)] [(.ref b1_), (.ref b1_)])) rfl (hb hby d17_4) (by exact own_b rfl) (by exact own_b rfl)
  obtain ⟨b4_, g4_⟩ : ∃ z, z = h1_.size := ⟨_, rfl⟩
  rw [← g4_] at A4_ D4_ U4_ st4_
  have sf4_ : Safe Z consts_1 s.vm h1_ b4_ := Safe.new (Nat.le_of_eq g4_.symm)
  have ch5_ : CHv Z consts_1 s.vm h4_ := CHv.ext E4_ ch2_
  have cr6_ := cr3_.trans (CHr.ext E4_ ch2_)
  have F4__value : Fld Z h4_ b4_ "java/lang/AbstractStringBuilder" "value" "[B" .null := D4_ (Or.inl (own_w hw 137 rfl)) (ty := (.array .byte)) (by decide)
  have F4__coder : Fld Z h4_ b4_ "java/lang/AbstractStringBuilder" "coder" "B" (.int (0 : Int32)) := D4_ (Or.inl (own_w hw 139 rfl)) (ty := .byte) (by decide)
  have F4__count : Fld Z h4_ b4_ "java/lang/AbstractStringBuilder" "count" "I" (.int (0 : Int32)) := D4_ (Or.inl (own_w hw 161 rfl)) (ty := .int) (by decide)
  have z9_ : n0 ≤ h1_.size := Nat.le_trans Z0 E1_.1
  have g8_ : n0 ≤ b4_ := Nat.le_trans z9_ (Nat.le_of_eq g4_.symm)
  have f10_ : Old Z n0 h4_ := ((O1.ext E1_).ext E4_)
  have z11_ : n0 ≤ h4_.size := Nat.le_trans z9_ E4_.1
  obtain ⟨_, _, ⟨T7_, L7_, k7_, n7_⟩, -, X7_, ⟨Lc7_, hQ7_, l7_, y7_, z7_⟩, st7_⟩ := X4_.specialBack hx (y := (⟨"java/lang/StringBuilder", "<init>", "()V"⟩ : MethodName)) rfl hown (mvT hZ (own_w hw 125 rfl)) (mvT hZ (own_w hw 126 rfl)) (mvT hZ (own_w hw 127 rfl)) (by decide) (backOf (W := 3) (sbInit2 l Z a0 hw [] b4_ G1 h4_ n0 z11_ A4_ F4__coder F4__value F4__count g8_ T1 P5 f10_) hZ (own_w hw 127 rfl) (own_w hw 124 rfl) (by decide) (by decide)) (g := (mkF m 8 #[.val (.ref a1), .val (.ref x1)] [(.ref b4_), (.ref b4_), (.ref b1_), (.ref b1_)])) rfl (by rw [hml]; rfl) (Steps.refl _) (a := b4_) (argsL := []) (rest := [(.ref b4_), (.ref b1_), (.ref b1_)]) (lenOf pd_qzV rfl) rfl (by show 2 * 0 + _ ≤ _; exact Nat.le_of_eq rfl) (hb hby d17_8) (fun _ _ => ⟨rfl, e4_, (by exact own_b rfl), (by exact own_b rfl)⟩)
  dsimp only [Pt.U, Pt.locs, Pt.cells, Pt.slots] at X7_ l7_ y7_ z7_ st7_ hQ7_
  subst L7_ k7_ n7_
  obtain ⟨v2_7_, k2_7_, rfl, Nq7_, ek7_, p7__0, p7__1, p7__2, p7__3, p7__4⟩ := hQ7_
  have N7_ := Fr.app N0 Nq7_
  have f12_ : Safe Z consts_1 s.vm h4_ b4_ := (Safe.ext E4_ ch2_ sf4_)
  have ch13_ : CHv Z consts_1 s.vm T7_.heap := CHv.keep ek7_ (sfS f12_ sf0) ch5_
  have cr14_ := cr6_.trans (CHr.keep ek7_ (sfS f12_ sf0) ch5_)
  have f16_ : own_Str Z T7_.heap x1 t1 cs1 := (((S1.ext E1_).ext E4_).keep ek7_ (ninS (Nat.ne_of_lt (Nat.lt_of_lt_of_le (own_Str.lt (S1.ext E1_)) (Nat.le_of_eq g4_.symm))) nin0) (ninS (Nat.ne_of_lt (Nat.lt_of_lt_of_le (own_Str.lt2 (S1.ext E1_)) (Nat.le_of_eq g4_.symm))) nin0))
  have f17_ : Exa Z T7_.heap b4_ "java/lang/StringBuilder" := (A4_.keep ek7_)
  have f18_ : Old Z n0 T7_.heap := (f10_.keep ek7_ (allS g8_ all0))
  have g19_ : n0 ≤ v2_7_ := Nat.le_trans z11_ p7__4
  have z20_ : n0 ≤ T7_.heap.size := Nat.le_trans z11_ ek7_.1
  obtain ⟨cq21_, kq21_, qa21_, qb21_, qc21_⟩ := isOf hZ rfl f17_
  obtain ⟨_, _, ⟨T15_, L15_, k15_, n15_⟩, -, X15_, ⟨Lc15_, hQ15_, l15_, y15_, z15_⟩, st15_⟩ := X7_.virtualBack hx (y := (⟨"java/lang/StringBuilder", "append", "(Ljava/lang/String;)Ljava/lang/StringBuilder;"⟩ : MethodName)) (z := (⟨"java/lang/StringBuilder", "append", "(Ljava/lang/String;)Ljava/lang/StringBuilder;"⟩ : MethodName)) hown (mvT hZ (own_w hw 140 rfl)) (mvT hZ (own_w hw 141 rfl)) (notFace_of_selects (args := #[]) (mvT hZ (own_w hw 143 rfl))) (mvT hZ (own_w hw 143 rfl)) (mvT hZ (own_w hw 142 rfl)) (by decide) (backOf (W := 2) (sbApp2 l Z a0 hw [] b4_ x1 t1 cs1 v2_7_ k2_7_ ([] : List Int32) 16 G1 T7_.heap n0 z20_ f16_ f17_ p7__0 p7__1 p7__2 p7__3 T1 P5 f18_ g19_ g8_ (Nat.ne_of_lt (Nat.lt_of_lt_of_le (own_Str.lt2 ((S1.ext E1_).ext E4_)) p7__4)) (by simp only [List.length_append, List.length_cons, List.length_nil]; omega) (by decide)) hZ (own_w hw 144 rfl) (own_w hw 124 rfl) (by decide) (by decide)) qa21_ qc21_ (g := (mkF m 12 #[.val (.ref a1), .val (.ref x1)] [(.ref x1), (.ref b4_), (.ref b1_), (.ref b1_)])) rfl (by rw [hml]; rfl) (Steps.refl _) (argsL := [(.ref x1)]) (rest := [(.ref b1_), (.ref b1_)]) (lenOf pd_qLjava_lang_StringzLjava_lang_StringBuilder rfl) rfl (by show 2 * 0 + _ ≤ _; exact Nat.le_of_eq rfl) (hb hby d17_12) (fun _ _ => ⟨rfl, rfl, (by exact own_b rfl), (by exact own_b rfl)⟩)
  dsimp only [Pt.U, Pt.locs, Pt.cells, Pt.slots] at X15_ l15_ y15_ z15_ st15_ hQ15_
  subst L15_ k15_ n15_
  obtain ⟨rfl, Nq15_, ek15_, p15__0, p15__1, p15__2, p15__3⟩ := hQ15_
  have N15_ := Fr.app N7_ Nq15_
  have f22_ : Safe Z consts_1 s.vm T7_.heap v2_7_ := (Safe.keep ek7_ (sfS f12_ sf0) ch5_ (Safe.new p7__4))
  have f23_ : Safe Z consts_1 s.vm T7_.heap b4_ := (Safe.keep ek7_ (sfS f12_ sf0) ch5_ f12_)
  have ch24_ : CHv Z consts_1 s.vm T15_.heap := CHv.keep ek15_ (sfS f23_ (sfS f22_ sf0)) ch13_
  have cr25_ := cr14_.trans (CHr.keep ek15_ (sfS f23_ (sfS f22_ sf0)) ch13_)
  have f26_ : Fld Z T15_.heap a1 "com/example/brisk_warden/briskwarden/core/UnsupportedNumberException" "place" "Ljava/lang/String;" (.ref x2) := ((((F1.ext E1_).ext E4_).keep ek7_ (ninS (Nat.ne_of_lt (Nat.lt_of_lt_of_le (E1.ext E1_).lt (Nat.le_of_eq g4_.symm))) nin0)).keep ek15_ (ninS (Nat.ne_of_lt (Nat.lt_of_lt_of_le (E1.ext E1_).lt (Nat.le_of_eq g4_.symm))) (ninS (Nat.ne_of_lt (Nat.lt_of_lt_of_le ((E1.ext E1_).ext E4_).lt p7__4)) nin0)))
  obtain ⟨T27_, X27_, e27_, st27_⟩ := getF X15_ hx hZ hown (host := "") (Or.inl (own_w hw 112 rfl)) Via.refl rfl f26_ (g := (mkF m 16 #[.val (.ref a1), .val (.ref x1)] [(.ref a1), (.ref b4_), (.ref b1_), (.ref b1_)])) rfl rfl (hb hby d17_16)
  have f29_ : own_Str Z T15_.heap x2 t2 cs2 := ((((S2.ext E1_).ext E4_).keep ek7_ (ninS (Nat.ne_of_lt (Nat.lt_of_lt_of_le (own_Str.lt (S2.ext E1_)) (Nat.le_of_eq g4_.symm))) nin0) (ninS (Nat.ne_of_lt (Nat.lt_of_lt_of_le (own_Str.lt2 (S2.ext E1_)) (Nat.le_of_eq g4_.symm))) nin0)).keep ek15_ (ninS (Nat.ne_of_lt (Nat.lt_of_lt_of_le (own_Str.lt (S2.ext E1_)) (Nat.le_of_eq g4_.symm))) (ninS (Nat.ne_of_lt (Nat.lt_of_lt_of_le (own_Str.lt ((S2.ext E1_).ext E4_)) p7__4)) nin0)) (ninS (Nat.ne_of_lt (Nat.lt_of_lt_of_le (own_Str.lt2 (S2.ext E1_)) (Nat.le_of_eq g4_.symm))) (ninS (Nat.ne_of_lt (Nat.lt_of_lt_of_le (own_Str.lt2 ((S2.ext E1_).ext E4_)) p7__4)) nin0)))
  have f30_ : Exa Z T15_.heap b4_ "java/lang/StringBuilder" := (f17_.keep ek15_)
  have f31_ : Old Z n0 T15_.heap := (f18_.keep ek15_ (allS g8_ (allS g19_ all0)))
  have z32_ : n0 ≤ T15_.heap.size := Nat.le_trans z20_ ek15_.1
  obtain ⟨cq33_, kq33_, qa33_, qb33_, qc33_⟩ := isOf hZ e27_ f30_
  obtain ⟨_, _, ⟨T28_, L28_, k28_, n28_⟩, -, X28_, ⟨Lc28_, hQ28_, l28_, y28_, z28_⟩, st28_⟩ := X27_.virtualBack hx (y := (⟨"java/lang/StringBuilder", "append", "(Ljava/lang/String;)Ljava/lang/StringBuilder;"⟩ : MethodName)) (z := (⟨"java/lang/StringBuilder", "append", "(Ljava/lang/String;)Ljava/lang/StringBuilder;"⟩ : MethodName)) hown (mvT hZ (own_w hw 140 rfl)) (mvT hZ (own_w hw 141 rfl)) (notFace_of_selects (args := #[]) (mvT hZ (own_w hw 143 rfl))) (mvT hZ (own_w hw 143 rfl)) (mvT hZ (own_w hw 142 rfl)) (by decide) (backOf (W := 2) (sbApp2 l Z a0 hw [] b4_ x2 t2 cs2 v2_7_ k2_7_ (([] : List Int32) ++ cs1) 16 G1 T15_.heap n0 z32_ f29_ f30_ p15__0 p15__1 p15__2 p15__3 T1 P5 f31_ g19_ g8_ (Nat.ne_of_lt (Nat.lt_of_lt_of_le (own_Str.lt2 ((S2.ext E1_).ext E4_)) p7__4)) (by simp only [List.length_append, List.length_cons, List.length_nil]; omega) (by decide)) hZ (own_w hw 144 rfl) (own_w hw 124 rfl) (by decide) (by decide)) qa33_ qc33_ (g := (mkF m 19 #[.val (.ref a1), .val (.ref x1)] [(.ref x2), (.ref b4_), (.ref b1_), (.ref b1_)])) rfl (by rw [hml]; rfl) (Steps.refl _) (argsL := [(.ref x2)]) (rest := [(.ref b1_), (.ref b1_)]) (lenOf pd_qLjava_lang_StringzLjava_lang_StringBuilder rfl) rfl (by show 2 * 0 + _ ≤ _; exact Nat.le_of_eq rfl) (hb hby d17_19) (fun _ _ => ⟨rfl, e27_, (by exact own_b rfl), (by exact own_b rfl)⟩)
  dsimp only [Pt.U, Pt.locs, Pt.cells, Pt.slots] at X28_ l28_ y28_ z28_ st28_ hQ28_
  subst L28_ k28_ n28_
  obtain ⟨rfl, Nq28_, ek28_, p28__0, p28__1, p28__2, p28__3⟩ := hQ28_
  have N28_ := Fr.app N15_ Nq28_
  have f34_ : Safe Z consts_1 s.vm T15_.heap v2_7_ := (Safe.keep ek15_ (sfS f23_ (sfS f22_ sf0)) ch13_ f22_)
  have f35_ : Safe Z consts_1 s.vm T15_.heap b4_ := (Safe.keep ek15_ (sfS f23_ (sfS f22_ sf0)) ch13_ f23_)
  have ch36_ : CHv Z consts_1 s.vm T28_.heap := CHv.keep ek28_ (sfS f35_ (sfS f34_ sf0)) ch24_
  have cr37_ := cr25_.trans (CHr.keep ek28_ (sfS f35_ (sfS f34_ sf0)) ch24_)
  have hlat_ : ∀ c ∈ ((([] : List Int32) ++ cs1) ++ cs2), ¬ c < 0 ∧ ¬ (255 : Int32) < c := by
    intro c hc
    simp only [List.mem_append] at hc
    rcases hc with (hc | hc) | hc
    · cases hc
    · exact S1.2.2.2.2.1 c hc
    · exact S2.2.2.2.2.1 c hc
  have f39_ : Exa Z T28_.heap b4_ "java/lang/StringBuilder" := (f30_.keep ek28_)
  have f40_ : Old Z n0 T28_.heap := (f31_.keep ek28_ (allS g8_ (allS g19_ all0)))
  have z41_ : n0 ≤ T28_.heap.size := Nat.le_trans z32_ ek28_.1
  obtain ⟨cq42_, kq42_, qa42_, qb42_, qc42_⟩ := isOf hZ rfl f39_
  obtain ⟨_, _, ⟨T38_, L38_, k38_, n38_⟩, -, X38_, ⟨Lc38_, hQ38_, l38_, y38_, z38_⟩, st38_⟩ := X28_.virtualBack hx (y := (⟨"java/lang/StringBuilder", "toString", "()Ljava/lang/String;"⟩ : MethodName)) (z := (⟨"java/lang/StringBuilder", "toString", "()Ljava/lang/String;"⟩ : MethodName)) hown (mvT hZ (own_w hw 187 rfl)) (mvT hZ (own_w hw 188 rfl)) (notFace_of_selects (args := #[]) (mvT hZ (own_w hw 190 rfl))) (mvT hZ (own_w hw 190 rfl)) (mvT hZ (own_w hw 189 rfl)) (by decide) (backOf (W := 2) (sbToS l Z a0 hw [] b4_ v2_7_ k2_7_ ((([] : List Int32) ++ cs1) ++ cs2) 16 G1 T28_.heap n0 z41_ f39_ p28__0 p28__1 p28__2 p28__3 T1 P5 f40_ (by simp only [List.length_append, List.length_cons, List.length_nil]; omega) (by decide) hlat_) hZ (own_w hw 191 rfl) (own_w hw 124 rfl) (by decide) (by decide)) qa42_ qc42_ (g := (mkF m 22 #[.val (.ref a1), .val (.ref x1)] [(.ref b4_), (.ref b1_), (.ref b1_)])) rfl (by rw [hml]; rfl) (Steps.refl _) (argsL := []) (rest := [(.ref b1_), (.ref b1_)]) (lenOf pd_qzLjava_lang_String rfl) rfl (by show 2 * 0 + _ ≤ _; exact Nat.le_of_eq rfl) (hb hby d17_22) (fun _ _ => ⟨rfl, rfl, (by exact own_b rfl), (by exact own_b rfl)⟩)
  dsimp only [Pt.U, Pt.locs, Pt.cells, Pt.slots] at X38_ l38_ y38_ z38_ st38_ hQ38_
  subst L38_ k38_ n38_
  obtain ⟨x1_38_, t1_38_, rfl, Nq38_, ek38_, p38__0, p38__1, p38__2⟩ := hQ38_
  have N38_ := Fr.app N28_ Nq38_
  have ch43_ : CHv Z consts_1 s.vm T38_.heap := CHv.keep ek38_ sf0 ch36_
  have cr44_ := cr37_.trans (CHr.keep ek38_ sf0 ch36_)
  have f45_ : Fld Z T38_.heap a1 "com/example/brisk_warden/briskwarden/core/UnsupportedNumberException" "problem" "Ljava/lang/String;" (.ref x3) := ((((((F2.ext E1_).ext E4_).keep ek7_ (ninS (Nat.ne_of_lt (Nat.lt_of_lt_of_le (E1.ext E1_).lt (Nat.le_of_eq g4_.symm))) nin0)).keep ek15_ (ninS (Nat.ne_of_lt (Nat.lt_of_lt_of_le (E1.ext E1_).lt (Nat.le_of_eq g4_.symm))) (ninS (Nat.ne_of_lt (Nat.lt_of_lt_of_le ((E1.ext E1_).ext E4_).lt p7__4)) nin0))).keep ek28_ (ninS (Nat.ne_of_lt (Nat.lt_of_lt_of_le (E1.ext E1_).lt (Nat.le_of_eq g4_.symm))) (ninS (Nat.ne_of_lt (Nat.lt_of_lt_of_le ((E1.ext E1_).ext E4_).lt p7__4)) nin0))).keep ek38_ nin0)
  obtain ⟨T46_, X46_, e46_, st46_⟩ := getF X38_ hx hZ hown (host := "") (Or.inl (own_w hw 114 rfl)) Via.refl rfl f45_ (g := (mkF m 26 #[.val (.ref a1), .val (.ref x1)] [(.ref a1), (.ref x1_38_), (.ref b1_), (.ref b1_)])) rfl rfl (hb hby d17_26)
  have f48_ : own_Str Z T38_.heap x3 t3 cs3 := ((((((S3.ext E1_).ext E4_).keep ek7_ (ninS (Nat.ne_of_lt (Nat.lt_of_lt_of_le (own_Str.lt (S3.ext E1_)) (Nat.le_of_eq g4_.symm))) nin0) (ninS (Nat.ne_of_lt (Nat.lt_of_lt_of_le (own_Str.lt2 (S3.ext E1_)) (Nat.le_of_eq g4_.symm))) nin0)).keep ek15_ (ninS (Nat.ne_of_lt (Nat.lt_of_lt_of_le (own_Str.lt (S3.ext E1_)) (Nat.le_of_eq g4_.symm))) (ninS (Nat.ne_of_lt (Nat.lt_of_lt_of_le (own_Str.lt ((S3.ext E1_).ext E4_)) p7__4)) nin0)) (ninS (Nat.ne_of_lt (Nat.lt_of_lt_of_le (own_Str.lt2 (S3.ext E1_)) (Nat.le_of_eq g4_.symm))) (ninS (Nat.ne_of_lt (Nat.lt_of_lt_of_le (own_Str.lt2 ((S3.ext E1_).ext E4_)) p7__4)) nin0))).keep ek28_ (ninS (Nat.ne_of_lt (Nat.lt_of_lt_of_le (own_Str.lt (S3.ext E1_)) (Nat.le_of_eq g4_.symm))) (ninS (Nat.ne_of_lt (Nat.lt_of_lt_of_le (own_Str.lt ((S3.ext E1_).ext E4_)) p7__4)) nin0)) (ninS (Nat.ne_of_lt (Nat.lt_of_lt_of_le (own_Str.lt2 (S3.ext E1_)) (Nat.le_of_eq g4_.symm))) (ninS (Nat.ne_of_lt (Nat.lt_of_lt_of_le (own_Str.lt2 ((S3.ext E1_).ext E4_)) p7__4)) nin0))).keep ek38_ nin0 nin0)
  have f49_ : Exa Z T38_.heap b1_ "com/example/brisk_warden/briskwarden/core/UnsupportedNumberException" := (((((A1_.ext E4_).keep ek7_).keep ek15_).keep ek28_).keep ek38_)
  have f50_ : Unt T38_.heap b1_ := (Unt.keep ek38_ nin0 (Unt.keep ek28_ (ninS (Nat.ne_of_lt (Nat.lt_of_lt_of_le A1_.lt (Nat.le_of_eq g4_.symm))) (ninS (Nat.ne_of_lt (Nat.lt_of_lt_of_le (A1_.ext E4_).lt p7__4)) nin0)) (Unt.keep ek15_ (ninS (Nat.ne_of_lt (Nat.lt_of_lt_of_le A1_.lt (Nat.le_of_eq g4_.symm))) (ninS (Nat.ne_of_lt (Nat.lt_of_lt_of_le (A1_.ext E4_).lt p7__4)) nin0)) (Unt.keep ek7_ (ninS (Nat.ne_of_lt (Nat.lt_of_lt_of_le A1_.lt (Nat.le_of_eq g4_.symm))) nin0) (Unt.ext E4_ U1_)))))
  have f51_ : Fld Z T38_.heap b1_ "java/lang/Throwable" "cause" "Ljava/lang/Throwable;" .null := (((((F1__cause.ext E4_).keep ek7_ (ninS (Nat.ne_of_lt (Nat.lt_of_lt_of_le A1_.lt (Nat.le_of_eq g4_.symm))) nin0)).keep ek15_ (ninS (Nat.ne_of_lt (Nat.lt_of_lt_of_le A1_.lt (Nat.le_of_eq g4_.symm))) (ninS (Nat.ne_of_lt (Nat.lt_of_lt_of_le (A1_.ext E4_).lt p7__4)) nin0))).keep ek28_ (ninS (Nat.ne_of_lt (Nat.lt_of_lt_of_le A1_.lt (Nat.le_of_eq g4_.symm))) (ninS (Nat.ne_of_lt (Nat.lt_of_lt_of_le (A1_.ext E4_).lt p7__4)) nin0))).keep ek38_ nin0)
  have f52_ : Fld Z T38_.heap b1_ "java/lang/Throwable" "stackTrace" "[Ljava/lang/StackTraceElement;" .null := (((((F1__stackTrace.ext E4_).keep ek7_ (ninS (Nat.ne_of_lt (Nat.lt_of_lt_of_le A1_.lt (Nat.le_of_eq g4_.symm))) nin0)).keep ek15_ (ninS (Nat.ne_of_lt (Nat.lt_of_lt_of_le A1_.lt (Nat.le_of_eq g4_.symm))) (ninS (Nat.ne_of_lt (Nat.lt_of_lt_of_le (A1_.ext E4_).lt p7__4)) nin0))).keep ek28_ (ninS (Nat.ne_of_lt (Nat.lt_of_lt_of_le A1_.lt (Nat.le_of_eq g4_.symm))) (ninS (Nat.ne_of_lt (Nat.lt_of_lt_of_le (A1_.ext E4_).lt p7__4)) nin0))).keep ek38_ nin0)
  have f53_ : Fld Z T38_.heap b1_ "java/lang/Throwable" "suppressedExceptions" "Ljava/util/List;" .null := (((((F1__suppressedExceptions.ext E4_).keep ek7_ (ninS (Nat.ne_of_lt (Nat.lt_of_lt_of_le A1_.lt (Nat.le_of_eq g4_.symm))) nin0)).keep ek15_ (ninS (Nat.ne_of_lt (Nat.lt_of_lt_of_le A1_.lt (Nat.le_of_eq g4_.symm))) (ninS (Nat.ne_of_lt (Nat.lt_of_lt_of_le (A1_.ext E4_).lt p7__4)) nin0))).keep ek28_ (ninS (Nat.ne_of_lt (Nat.lt_of_lt_of_le A1_.lt (Nat.le_of_eq g4_.symm))) (ninS (Nat.ne_of_lt (Nat.lt_of_lt_of_le (A1_.ext E4_).lt p7__4)) nin0))).keep ek38_ nin0)
  have f54_ : Fld Z T38_.heap b1_ "java/lang/Throwable" "backtrace" "Ljava/lang/Object;" .null := (((((F1__backtrace.ext E4_).keep ek7_ (ninS (Nat.ne_of_lt (Nat.lt_of_lt_of_le A1_.lt (Nat.le_of_eq g4_.symm))) nin0)).keep ek15_ (ninS (Nat.ne_of_lt (Nat.lt_of_lt_of_le A1_.lt (Nat.le_of_eq g4_.symm))) (ninS (Nat.ne_of_lt (Nat.lt_of_lt_of_le (A1_.ext E4_).lt p7__4)) nin0))).keep ek28_ (ninS (Nat.ne_of_lt (Nat.lt_of_lt_of_le A1_.lt (Nat.le_of_eq g4_.symm))) (ninS (Nat.ne_of_lt (Nat.lt_of_lt_of_le (A1_.ext E4_).lt p7__4)) nin0))).keep ek38_ nin0)
  have f55_ : Fld Z T38_.heap b1_ "java/lang/Throwable" "detailMessage" "Ljava/lang/String;" .null := (((((F1__detailMessage.ext E4_).keep ek7_ (ninS (Nat.ne_of_lt (Nat.lt_of_lt_of_le A1_.lt (Nat.le_of_eq g4_.symm))) nin0)).keep ek15_ (ninS (Nat.ne_of_lt (Nat.lt_of_lt_of_le A1_.lt (Nat.le_of_eq g4_.symm))) (ninS (Nat.ne_of_lt (Nat.lt_of_lt_of_le (A1_.ext E4_).lt p7__4)) nin0))).keep ek28_ (ninS (Nat.ne_of_lt (Nat.lt_of_lt_of_le A1_.lt (Nat.le_of_eq g4_.symm))) (ninS (Nat.ne_of_lt (Nat.lt_of_lt_of_le (A1_.ext E4_).lt p7__4)) nin0))).keep ek38_ nin0)
  have f56_ : Fld Z T38_.heap b1_ "com/example/brisk_warden/briskwarden/core/UnsupportedNumberException" "place" "Ljava/lang/String;" .null := (((((F1__place.ext E4_).keep ek7_ (ninS (Nat.ne_of_lt (Nat.lt_of_lt_of_le A1_.lt (Nat.le_of_eq g4_.symm))) nin0)).keep ek15_ (ninS (Nat.ne_of_lt (Nat.lt_of_lt_of_le A1_.lt (Nat.le_of_eq g4_.symm))) (ninS (Nat.ne_of_lt (Nat.lt_of_lt_of_le (A1_.ext E4_).lt p7__4)) nin0))).keep ek28_ (ninS (Nat.ne_of_lt (Nat.lt_of_lt_of_le A1_.lt (Nat.le_of_eq g4_.symm))) (ninS (Nat.ne_of_lt (Nat.lt_of_lt_of_le (A1_.ext E4_).lt p7__4)) nin0))).keep ek38_ nin0)
  have f57_ : Fld Z T38_.heap b1_ "com/example/brisk_warden/briskwarden/core/UnsupportedNumberException" "problem" "Ljava/lang/String;" .null := (((((F1__problem.ext E4_).keep ek7_ (ninS (Nat.ne_of_lt (Nat.lt_of_lt_of_le A1_.lt (Nat.le_of_eq g4_.symm))) nin0)).keep ek15_ (ninS (Nat.ne_of_lt (Nat.lt_of_lt_of_le A1_.lt (Nat.le_of_eq g4_.symm))) (ninS (Nat.ne_of_lt (Nat.lt_of_lt_of_le (A1_.ext E4_).lt p7__4)) nin0))).keep ek28_ (ninS (Nat.ne_of_lt (Nat.lt_of_lt_of_le A1_.lt (Nat.le_of_eq g4_.symm))) (ninS (Nat.ne_of_lt (Nat.lt_of_lt_of_le (A1_.ext E4_).lt p7__4)) nin0))).keep ek38_ nin0)
  have g58_ : n0 ≤ b1_ := Nat.le_trans Z0 (Nat.le_of_eq g1_.symm)
  have f59_ : Old Z n0 T38_.heap := (f40_.keep ek38_ all0)
  have z60_ : n0 ≤ T38_.heap.size := Nat.le_trans z41_ ek38_.1
  obtain ⟨_, _, ⟨T47_, L47_, k47_, n47_⟩, -, Xs47_, Ss47_, Sg47_, ⟨Lc47_, hQ47_, l47_, y47_, z47_, chr47_⟩, st47_⟩ := X46_.specialBackS hx (y := (⟨"com/example/brisk_warden/briskwarden/core/UnsupportedNumberException", "<init>", "(Ljava/lang/String;Ljava/lang/String;)V"⟩ : MethodName)) rfl hown (mvT hZ (own_w hw 232 rfl)) (mvT hZ (own_w hw 45 rfl)) (mvT hZ (own_w hw 46 rfl)) (by decide) (backOfSKH (W := 1) (rmI l Z a0 hw hEL [] b1_ x1_38_ x3 t1_38_ ((([] : List Int32) ++ cs1) ++ cs2) t3 cs3 G1 vU vS T38_.heap n0 z60_ p38__0 f48_ f49_ f50_ f51_ f52_ f53_ f54_ f55_ f56_ f57_ g58_ T1 P5 f59_ TU rU TS rS hl (by simp only [List.length_append, List.length_cons, List.length_nil]; omega) hn3) hZ (own_w hw 46 rfl) (own_w hw 43 rfl) (by decide) (by decide) hEL ch43_ (Vm.MethodsKnown.alikeC ((State.Warmed39.alike hZ).symm.trans (State.Warmed39.alike hZ)) hK.1) (Vm.FramesKnown.alikeC ((State.Warmed39.alike hZ).symm.trans (State.Warmed39.alike hZ)) hK.2)) (g := (mkF m 29 #[.val (.ref a1), .val (.ref x1)] [(.ref x3), (.ref x1_38_), (.ref b1_), (.ref b1_)])) rfl (by rw [hml]; rfl) (Steps.refl _) (a := b1_) (argsL := [(.ref x1_38_), (.ref x3)]) (rest := [(.ref b1_)]) (lenOf pd_qLjava_lang_StringLjava_lang_StringzV rfl) rfl (by show 2 * 0 + _ ≤ _; exact Nat.le_of_eq rfl) (hb hby d17_29) (fun _ _ => ⟨rfl, e46_, (by exact own_b rfl), (by exact own_b rfl)⟩)
  dsimp only [Pt.U, Pt.locs, Pt.cells, Pt.slots] at Xs47_ Ss47_ Sg47_ l47_ y47_ z47_ st47_ hQ47_ chr47_
  subst L47_ k47_ n47_
  obtain ⟨X47_, hS47_, hZ47_, hown47_⟩ := rebS hS0 (Nat.le_trans (Nat.le_trans (Nat.le_trans (Nat.le_trans (Nat.le_trans (Nat.le_trans hk0 E1_.1) E4_.1) ek7_.1) ek15_.1) ek28_.1) ek38_.1) Xs47_ Ss47_ (Nat.le_trans (Nat.le_of_eq (congrArg Array.size e46_.symm)) Sg47_) hZ hown
  obtain ⟨xm_47_, tm_47_, rfl, Nq47_, ek47_, p47__0, p47__1, p47__2, p47__3, p47__4, p47__5⟩ := hQ47_
  have N47_ := Fr.app N38_ Nq47_
  have cr61_ := cr44_.trans chr47_
  have ch47_ := chr47_.1
  have f62_ : own_Str Z T47_.heap x1_38_ t1_38_ ((([] : List Int32) ++ cs1) ++ cs2) := (p38__0.keep ek47_ (ninS (Ne.symm (Nat.ne_of_lt (Nat.lt_of_lt_of_le ((((A1_.ext E4_).keep ek7_).keep ek15_).keep ek28_).lt p38__2))) nin0) (ninS (Ne.symm (Nat.ne_of_lt (Nat.lt_of_lt_of_le ((((A1_.ext E4_).keep ek7_).keep ek15_).keep ek28_).lt p38__1))) nin0))
  have k63_ : Keep h0 h1_ [] := (Keep.refl h0 []).ext E1_
  have k64_ : Keep h0 h4_ [] := k63_.ext E4_
  have k65_ : Keep h0 T7_.heap [] := k64_.trans ek7_ (allS (Or.inr (Nat.le_trans k63_.1 (Nat.le_of_eq g4_.symm))) all0)
  have k66_ : Keep h0 T15_.heap [] := k65_.trans ek15_ (allS (Or.inr (Nat.le_trans k63_.1 (Nat.le_of_eq g4_.symm))) (allS (Or.inr (Nat.le_trans k64_.1 p7__4)) all0))
  have k67_ : Keep h0 T28_.heap [] := k66_.trans ek28_ (allS (Or.inr (Nat.le_trans k63_.1 (Nat.le_of_eq g4_.symm))) (allS (Or.inr (Nat.le_trans k64_.1 p7__4)) all0))
  have k68_ : Keep h0 T38_.heap [] := k67_.trans ek38_ all0
  have k69_ : Keep h0 T47_.heap [] := k68_.trans ek47_ (allS (Or.inr (Nat.le_trans (Keep.refl h0 []).1 (Nat.le_of_eq g1_.symm))) all0)
  obtain ⟨fs, hr, hrun, hended, hREW⟩ := X47_.leaveW hS47_ (Nat.le_trans (Nat.le_refl _) (Nat.le_of_eq (congrArg Array.size (rfl : T47_.heap = _).symm))) (v := some (.ref b1_)) (fun h => by first | rfl | (rw [Bd.returns] at h; cases h))
  refine ⟨_, _, pre0 _ ?_, hrun, hended, _, _, rfl, ?_, ?_, own_REW hREW (by exact own_b rfl) (by exact own_b rfl)⟩
  · show Steps p.tables e below (s₁.setTop (mkF m 0 #[.val (.ref a1), .val (.ref x1)] [])) _
    refine st1_ _ ?_
    show Steps p.tables e below (T1_.setTop (mkF m 3 #[.val (.ref a1), .val (.ref x1)] [(.ref b1_)])) _
    refine XS.dup X1_.here hx rfl (hb hby d17_3) rfl rfl ?_
    refine st4_ _ ?_
    show Steps p.tables e below (T4_.setTop (mkF m 7 #[.val (.ref a1), .val (.ref x1)] [(.ref b4_), (.ref b1_), (.ref b1_)])) _
    refine XS.dup X4_.here hx rfl (hb hby d17_7) rfl rfl ?_
    refine st7_.trans ?_
    show Steps p.tables e below (T7_.setTop (mkF m 11 #[.val (.ref a1), .val (.ref x1)] [(.ref b4_), (.ref b1_), (.ref b1_)])) _
    refine XS.aloadN X7_.here hx rfl (hb hby d17_11) rfl rfl ?_
    refine st15_.trans ?_
    show Steps p.tables e below (T15_.setTop (mkF m 15 #[.val (.ref a1), .val (.ref x1)] [(.ref b4_), (.ref b1_), (.ref b1_)])) _
    refine XS.aloadN X15_.here hx rfl (hb hby d17_15) rfl rfl ?_
    refine st27_ _ ?_
    show Steps p.tables e below (T27_.setTop (mkF m 19 #[.val (.ref a1), .val (.ref x1)] [(.ref x2), (.ref b4_), (.ref b1_), (.ref b1_)])) _
    refine st28_.trans ?_
    show Steps p.tables e below (T28_.setTop (mkF m 22 #[.val (.ref a1), .val (.ref x1)] [(.ref b4_), (.ref b1_), (.ref b1_)])) _
    refine st38_.trans ?_
    show Steps p.tables e below (T38_.setTop (mkF m 25 #[.val (.ref a1), .val (.ref x1)] [(.ref x1_38_), (.ref b1_), (.ref b1_)])) _
    refine XS.aloadN X38_.here hx rfl (hb hby d17_25) rfl rfl ?_
    refine st46_ _ ?_
    show Steps p.tables e below (T46_.setTop (mkF m 29 #[.val (.ref a1), .val (.ref x1)] [(.ref x3), (.ref x1_38_), (.ref b1_), (.ref b1_)])) _
    refine st47_.trans ?_
    show Steps p.tables e below (T47_.setTop (mkF m 32 #[.val (.ref a1), .val (.ref x1)] [(.ref b1_)])) _
    exact retR X47_ hx Bd.returns rfl rfl rfl (hb hby d17_32) hr
  · show Q_rmAt Z a1 x1 t1 cs1 x2 t2 cs2 x3 t3 cs3 G1 vU vS h0 n0 _ T47_.heap _
    skip
    exact ⟨b1_, x1_38_, t1_38_, xm_47_, tm_47_, rfl, N47_, k69_, p47__0, p47__1, p47__2, p47__3, p47__4, f62_, p47__5⟩
  · show CHr Z consts_1 s.vm s.heap T47_.vm T47_.heap
    rw [hh]
    exact cr61_.trans (CHv.at X47_ hZ47_ hEL ch47_)
theorem d39_0 : decode prog_16_method_3_code 0 = .ok (.aload_n 0, 1) := by decide +kernel
theorem d39_1 : decode prog_16_method_3_code 1 = .ok (.getfield 28, 3) := by decide +kernel
theorem d39_4 : decode prog_16_method_3_code 4 = .ok (.areturn, 1) := by decide +kernel
theorem ef_rmGplace (m : MethodId) (x0 : Addr) : entryFrame m #[(.ref x0)] 1 = mkF m 0 #[.val (.ref x0)] [] := by first | (simp [entryFrame, mkF, argsToLocals, Value.category]; done) | rfl
def Q_rmGplace (Z : State) (a1 : Addr) (xm : Addr) (h0 : Heap) (n0 : Nat) (v : Option Value) (h : Heap) (L : List Loc) : Prop := v = some (.ref xm) ∧ Fr n0 L ∧ h = h0
theorem rmGplace (l : Launch) (Z : State) (a0 : Array Value) (hw : ∀ d ∈ tables_1, d.before a0 Z = true) (ws : List Jvm.Cond) (a1 : Addr) (xm : Addr) (h0 : Heap) (n0 : Nat) (Z0 : n0 ≤ h0.size) (F1 : Fld Z h0 a1 "com/example/brisk_warden/briskwarden/core/UnsupportedNumberException" "place" "Ljava/lang/String;" (.ref xm)) :
    MetFree l (⟨"com/example/brisk_warden/briskwarden/core/UnsupportedNumberException", "place", "()Ljava/lang/String;"⟩ : MethodName) (head1 (Jvm.Cond.code (⟨"com/example/brisk_warden/briskwarden/core/UnsupportedNumberException", "place", "()Ljava/lang/String;"⟩ : MethodName) prog_16_method_3_code 1 (some (.object "java/lang/String")) :: ws) ({ frames := 0, cells := 0, slots := 0, locals := 0 } : Room)) (fun a U => a = #[(.ref a1)] ∧ Z.Warmed39 U.vm ∧ U.heap = h0) (fun _ _ _ _ _ => True) (fun _ U o U' => ∃ v L, o = .returned v ∧ Q_rmGplace Z a1 xm h0 n0 v U'.heap L ∧ FrameEnd U o U' L ({ frames := 0, cells := 0, slots := 0, locals := 0 } : Room).cells ({ frames := 0, cells := 0, slots := 0, locals := 0 } : Room).slots) := by
  refine MetFree.of_bodySF (plainFor_of_name pn_com_example_brisk_warden_briskwarden_core_UnsupportedNumberException) hisR ?_
  intro p e s m args below meth c s₁ Bd hml0 hP hK
  obtain ⟨rfl, hZ, hh⟩ := hP
  have hx := Bd.exec
  have hby := Bd.bytes
  have hml : c.maxLocals = 1 := hml0
  have hown : s.vm.findClass "com/example/brisk_warden/briskwarden/core/UnsupportedNumberException" = some m.cls := findClass_of_methodNamed Bd.named
  have hnm := (name_of_methodNamed Bd.named Bd.method).1
  have X0 : Stand p l e ({ frames := 0, cells := 0, slots := 0, locals := 0 } : Room) s m #[(.ref a1)] below meth c s₁ [] 0 0 := Stand.of_body Bd
  have e0 : s₁.heap = h0 := by rw [← hh, Bd.state]; rfl
  have N0 := Fr.nil n0
  have pre0 : ∀ t, Steps p.tables e below (s₁.setTop (mkF m 0 #[.val (.ref a1)] [])) t → Steps p.tables e below (s₁.setTop (entryFrame m #[(.ref a1)] 1)) t := fun t k => castTop (ef_rmGplace m a1) k
  obtain ⟨T1_, X1_, e1_, st1_⟩ := getF X0 hx hZ hown (host := "") (Or.inl (own_w hw 112 rfl)) Via.refl e0 F1 (g := (mkF m 1 #[.val (.ref a1)] [(.ref a1)])) rfl rfl (hb hby d39_1)
  obtain ⟨fs, hr, hrun, hended, hW, hsame⟩ := X1_.leave (v := some (.ref xm)) (fun h => by first | rfl | (rw [Bd.returns] at h; cases h))
  refine ⟨_, _, pre0 _ ?_, hrun, hended, _, _, rfl, ?_, ⟨_, rfl⟩, hW, hsame.mono (by exact own_b rfl) (by exact own_b rfl)⟩
  · show Steps p.tables e below (s₁.setTop (mkF m 0 #[.val (.ref a1)] [])) _
    refine XS.aloadN X0.here hx rfl (hb hby d39_0) rfl rfl ?_
    refine st1_ _ ?_
    show Steps p.tables e below (T1_.setTop (mkF m 4 #[.val (.ref a1)] [(.ref xm)])) _
    exact retR X1_ hx Bd.returns rfl rfl rfl (hb hby d39_4) hr
  · show Q_rmGplace Z a1 xm h0 n0 _ T1_.heap _
    rw [e1_]
    exact ⟨rfl, N0, rfl⟩
theorem d47_0 : decode prog_16_method_4_code 0 = .ok (.aload_n 0, 1) := by decide +kernel
theorem d47_1 : decode prog_16_method_4_code 1 = .ok (.getfield 34, 3) := by decide +kernel
theorem d47_4 : decode prog_16_method_4_code 4 = .ok (.areturn, 1) := by decide +kernel
theorem ef_rmGproblem (m : MethodId) (x0 : Addr) : entryFrame m #[(.ref x0)] 1 = mkF m 0 #[.val (.ref x0)] [] := by first | (simp [entryFrame, mkF, argsToLocals, Value.category]; done) | rfl
def Q_rmGproblem (Z : State) (a1 : Addr) (xm : Addr) (h0 : Heap) (n0 : Nat) (v : Option Value) (h : Heap) (L : List Loc) : Prop := v = some (.ref xm) ∧ Fr n0 L ∧ h = h0
theorem rmGproblem (l : Launch) (Z : State) (a0 : Array Value) (hw : ∀ d ∈ tables_1, d.before a0 Z = true) (ws : List Jvm.Cond) (a1 : Addr) (xm : Addr) (h0 : Heap) (n0 : Nat) (Z0 : n0 ≤ h0.size) (F1 : Fld Z h0 a1 "com/example/brisk_warden/briskwarden/core/UnsupportedNumberException" "problem" "Ljava/lang/String;" (.ref xm)) :
    MetFree l (⟨"com/example/brisk_warden/briskwarden/core/UnsupportedNumberException", "problem", "()Ljava/lang/String;"⟩ : MethodName) (head1 (Jvm.Cond.code (⟨"com/example/brisk_warden/briskwarden/core/UnsupportedNumberException", "problem", "()Ljava/lang/String;"⟩ : MethodName) prog_16_method_4_code 1 (some (.object "java/lang/String")) :: ws) ({ frames := 0, cells := 0, slots := 0, locals := 0 } : Room)) (fun a U => a = #[(.ref a1)] ∧ Z.Warmed39 U.vm ∧ U.heap = h0) (fun _ _ _ _ _ => True) (fun _ U o U' => ∃ v L, o = .returned v ∧ Q_rmGproblem Z a1 xm h0 n0 v U'.heap L ∧ FrameEnd U o U' L ({ frames := 0, cells := 0, slots := 0, locals := 0 } : Room).cells ({ frames := 0, cells := 0, slots := 0, locals := 0 } : Room).slots) := by
  refine MetFree.of_bodySF (plainFor_of_name pn_com_example_brisk_warden_briskwarden_core_UnsupportedNumberException) hisR ?_
  intro p e s m args below meth c s₁ Bd hml0 hP hK
  obtain ⟨rfl, hZ, hh⟩ := hP
  have hx := Bd.exec
  have hby := Bd.bytes
  have hml : c.maxLocals = 1 := hml0
  have hown : s.vm.findClass "com/example/brisk_warden/briskwarden/core/UnsupportedNumberException" = some m.cls := findClass_of_methodNamed Bd.named
  have hnm := (name_of_methodNamed Bd.named Bd.method).1
  have X0 : Stand p l e ({ frames := 0, cells := 0, slots := 0, locals := 0 } : Room) s m #[(.ref a1)] below meth c s₁ [] 0 0 := Stand.of_body Bd
  have e0 : s₁.heap = h0 := by rw [← hh, Bd.state]; rfl
  have N0 := Fr.nil n0
  have pre0 : ∀ t, Steps p.tables e below (s₁.setTop (mkF m 0 #[.val (.ref a1)] [])) t → Steps p.tables e below (s₁.setTop (entryFrame m #[(.ref a1)] 1)) t := fun t k => castTop (ef_rmGproblem m a1) k
  obtain ⟨T1_, X1_, e1_, st1_⟩ := getF X0 hx hZ hown (host := "") (Or.inl (own_w hw 114 rfl)) Via.refl e0 F1 (g := (mkF m 1 #[.val (.ref a1)] [(.ref a1)])) rfl rfl (hb hby d47_1)
  obtain ⟨fs, hr, hrun, hended, hW, hsame⟩ := X1_.leave (v := some (.ref xm)) (fun h => by first | rfl | (rw [Bd.returns] at h; cases h))
  refine ⟨_, _, pre0 _ ?_, hrun, hended, _, _, rfl, ?_, ⟨_, rfl⟩, hW, hsame.mono (by exact own_b rfl) (by exact own_b rfl)⟩
  · show Steps p.tables e below (s₁.setTop (mkF m 0 #[.val (.ref a1)] [])) _
    refine XS.aloadN X0.here hx rfl (hb hby d47_0) rfl rfl ?_
    refine st1_ _ ?_
    show Steps p.tables e below (T1_.setTop (mkF m 4 #[.val (.ref a1)] [(.ref xm)])) _
    exact retR X1_ hx Bd.returns rfl rfl rfl (hb hby d47_4) hr
  · show Q_rmGproblem Z a1 xm h0 n0 _ T1_.heap _
    rw [e1_]
    exact ⟨rfl, N0, rfl⟩
theorem d49_0 : decode jdk_78_method_6_code 0 = .ok (.aload_n 0, 1) := by decide +kernel
theorem d49_1 : decode jdk_78_method_6_code 1 = .ok (.getfield 31, 3) := by decide +kernel
theorem d49_4 : decode jdk_78_method_6_code 4 = .ok (.areturn, 1) := by decide +kernel
theorem ef_rmGgetMessage (m : MethodId) (x0 : Addr) : entryFrame m #[(.ref x0)] 1 = mkF m 0 #[.val (.ref x0)] [] := by first | (simp [entryFrame, mkF, argsToLocals, Value.category]; done) | rfl
def Q_rmGgetMessage (Z : State) (a1 : Addr) (xm : Addr) (h0 : Heap) (n0 : Nat) (v : Option Value) (h : Heap) (L : List Loc) : Prop := v = some (.ref xm) ∧ Fr n0 L ∧ h = h0
theorem rmGgetMessage (l : Launch) (Z : State) (a0 : Array Value) (hw : ∀ d ∈ tables_1, d.before a0 Z = true) (ws : List Jvm.Cond) (a1 : Addr) (xm : Addr) (h0 : Heap) (n0 : Nat) (Z0 : n0 ≤ h0.size) (F1 : Fld Z h0 a1 "java/lang/Throwable" "detailMessage" "Ljava/lang/String;" (.ref xm)) :
    MetFree l (⟨"java/lang/Throwable", "getMessage", "()Ljava/lang/String;"⟩ : MethodName) (head1 (Jvm.Cond.code (⟨"java/lang/Throwable", "getMessage", "()Ljava/lang/String;"⟩ : MethodName) jdk_78_method_6_code 1 (some (.object "java/lang/String")) :: ws) ({ frames := 0, cells := 0, slots := 0, locals := 0 } : Room)) (fun a U => a = #[(.ref a1)] ∧ Z.Warmed39 U.vm ∧ U.heap = h0) (fun _ _ _ _ _ => True) (fun _ U o U' => ∃ v L, o = .returned v ∧ Q_rmGgetMessage Z a1 xm h0 n0 v U'.heap L ∧ FrameEnd U o U' L ({ frames := 0, cells := 0, slots := 0, locals := 0 } : Room).cells ({ frames := 0, cells := 0, slots := 0, locals := 0 } : Room).slots) := by
  refine MetFree.of_bodySF (plainFor_of_name pn_java_lang_Throwable) hisR ?_
  intro p e s m args below meth c s₁ Bd hml0 hP hK
  obtain ⟨rfl, hZ, hh⟩ := hP
  have hx := Bd.exec
  have hby := Bd.bytes
  have hml : c.maxLocals = 1 := hml0
  have hown : s.vm.findClass "java/lang/Throwable" = some m.cls := findClass_of_methodNamed Bd.named
  have hnm := (name_of_methodNamed Bd.named Bd.method).1
  have X0 : Stand p l e ({ frames := 0, cells := 0, slots := 0, locals := 0 } : Room) s m #[(.ref a1)] below meth c s₁ [] 0 0 := Stand.of_body Bd
  have e0 : s₁.heap = h0 := by rw [← hh, Bd.state]; rfl
  have N0 := Fr.nil n0
  have pre0 : ∀ t, Steps p.tables e below (s₁.setTop (mkF m 0 #[.val (.ref a1)] [])) t → Steps p.tables e below (s₁.setTop (entryFrame m #[(.ref a1)] 1)) t := fun t k => castTop (ef_rmGgetMessage m a1) k
  obtain ⟨T1_, X1_, e1_, st1_⟩ := getF X0 hx hZ hown (host := "") (Or.inl (own_w hw 111 rfl)) Via.refl e0 F1 (g := (mkF m 1 #[.val (.ref a1)] [(.ref a1)])) rfl rfl (hb hby d49_1)
  obtain ⟨fs, hr, hrun, hended, hW, hsame⟩ := X1_.leave (v := some (.ref xm)) (fun h => by first | rfl | (rw [Bd.returns] at h; cases h))
  refine ⟨_, _, pre0 _ ?_, hrun, hended, _, _, rfl, ?_, ⟨_, rfl⟩, hW, hsame.mono (by exact own_b rfl) (by exact own_b rfl)⟩
  · show Steps p.tables e below (s₁.setTop (mkF m 0 #[.val (.ref a1)] [])) _
    refine XS.aloadN X0.here hx rfl (hb hby d49_0) rfl rfl ?_
    refine st1_ _ ?_
    show Steps p.tables e below (T1_.setTop (mkF m 4 #[.val (.ref a1)] [(.ref xm)])) _
    exact retR X1_ hx Bd.returns rfl rfl rfl (hb hby d49_4) hr
  · show Q_rmGgetMessage Z a1 xm h0 n0 _ T1_.heap _
    rw [e1_]
    exact ⟨rfl, N0, rfl⟩
theorem d46_0 : decode method_4_code 0 = .ok (.iload_n 2, 1) := by decide +kernel
theorem d46_1 : decode method_4_code 1 = .ok (.aload_n 0, 1) := by decide +kernel
theorem d46_2 : decode method_4_code 2 = .ok (.invokevirtual 26, 3) := by decide +kernel
theorem d46_5 : decode method_4_code 5 = .ok (.if_icmp .ge 9, 3) := by decide +kernel
theorem d46_8 : decode method_4_code 8 = .ok (.aload_n 0, 1) := by decide +kernel
theorem d46_9 : decode method_4_code 9 = .ok (.iload_n 2, 1) := by decide +kernel
theorem d46_10 : decode method_4_code 10 = .ok (.invokevirtual 57, 3) := by decide +kernel
theorem pd_qIzC : parseMethodDescriptor "(I)C" = some ⟨[.int], some .char⟩ := by decide +kernel
theorem d46_13 : decode method_4_code 13 = .ok (.ireturn, 1) := by decide +kernel
theorem d46_14 : decode method_4_code 14 = .ok (.aload_n 1, 1) := by decide +kernel
theorem d46_15 : decode method_4_code 15 = .ok (.iload_n 2, 1) := by decide +kernel
theorem d46_16 : decode method_4_code 16 = .ok (.aload_n 0, 1) := by decide +kernel
theorem d46_17 : decode method_4_code 17 = .ok (.invokevirtual 26, 3) := by decide +kernel
theorem d46_20 : decode method_4_code 20 = .ok (.isub, 1) := by decide +kernel
theorem d46_21 : decode method_4_code 21 = .ok (.invokevirtual 57, 3) := by decide +kernel
theorem d46_24 : decode method_4_code 24 = .ok (.ireturn, 1) := by decide +kernel
theorem ef_rmCL (m : MethodId) (x0 : Addr) (x1 : Addr) (x2 : Int32) : entryFrame m #[(.ref x0), (.ref x1), (.int x2)] 3 = mkF m 0 #[.val (.ref x0), .val (.ref x1), .val (.int x2)] [] := by first | (simp [entryFrame, mkF, argsToLocals, Value.category]; done) | rfl
def Q_rmCL (Z : State) (x1 : Addr) (x2 : Addr) (jj : Int32) (t1 : Addr) (A : List Int32) (t2 : Addr) (B : List Int32) (ii : Nat) (G1 : Int32) (G3 : Value) (h0 : Heap) (n0 : Nat) (v : Option Value) (h : Heap) (L : List Loc) : Prop := v = some (.int (nar .char ((A ++ B).getD ii 0))) ∧ Fr n0 L ∧ h = h0
theorem rmCL (l : Launch) (Z : State) (a0 : Array Value) (hw : ∀ d ∈ tables_1, d.before a0 Z = true) (ws : List Jvm.Cond) (x1 : Addr) (x2 : Addr) (jj : Int32) (t1 : Addr) (A : List Int32) (t2 : Addr) (B : List Int32) (ii : Nat) (G1 : Int32) (G3 : Value) (h0 : Heap) (n0 : Nat) (Z0 : n0 ≤ h0.size) (S1 : own_Str Z h0 x1 t1 A) (S2 : own_Str Z h0 x2 t2 B) (T1 : Sta Z Z.heap "java/lang/String" "COMPACT_STRINGS" "Z" (.int G1)) (P5 : ¬ (G1 = (0 : Int32))) (O1 : Old Z n0 h0) (TF : Sta Z Z.heap "jdk/internal/util/Preconditions" "SIOOBE_FORMATTER" "Ljava/util/function/BiFunction;" G3) (rF : G3.isRef = true) (hj : jj = Int32.ofNat ii) (hi : ii < (A ++ B).length) (hk : ii ≤ 20) (hc : ii < A.length) :
    MetFree l (⟨"com/example/brisk_warden/briskwarden/core/UnsupportedNumberExceptionAtPinLaw", "cat", "(Ljava/lang/String;Ljava/lang/String;I)C"⟩ : MethodName) (head1 (Jvm.Cond.code (⟨"com/example/brisk_warden/briskwarden/core/UnsupportedNumberExceptionAtPinLaw", "cat", "(Ljava/lang/String;Ljava/lang/String;I)C"⟩ : MethodName) method_4_code 3 (some .char) :: ws) ({ frames := 4, cells := 0, slots := 0, locals := 53 } : Room)) (fun a U => a = #[(.ref x1), (.ref x2), (.int jj)] ∧ Z.Warmed39 U.vm ∧ U.heap = h0) (fun _ _ _ _ _ => True) (fun _ U o U' => ∃ v L, o = .returned v ∧ Q_rmCL Z x1 x2 jj t1 A t2 B ii G1 G3 h0 n0 v U'.heap L ∧ FrameEnd U o U' L ({ frames := 4, cells := 0, slots := 0, locals := 53 } : Room).cells ({ frames := 4, cells := 0, slots := 0, locals := 53 } : Room).slots) := by
  refine MetFree.of_bodySF (plainFor_of_name pn_com_example_brisk_warden_briskwarden_core_UnsupportedNumberExceptionAtPinLaw) hisR ?_
  intro p e s m args below meth c s₁ Bd hml0 hP hK
  obtain ⟨rfl, hZ, hh⟩ := hP
  have hx := Bd.exec
  have hby := Bd.bytes
  have hml : c.maxLocals = 3 := hml0
  have hown : s.vm.findClass "com/example/brisk_warden/briskwarden/core/UnsupportedNumberExceptionAtPinLaw" = some m.cls := findClass_of_methodNamed Bd.named
  have hnm := (name_of_methodNamed Bd.named Bd.method).1
  have X0 : Stand p l e ({ frames := 4, cells := 0, slots := 0, locals := 53 } : Room) s m #[(.ref x1), (.ref x2), (.int jj)] below meth c s₁ [] 0 0 := Stand.of_body Bd
  have e0 : s₁.heap = h0 := by rw [← hh, Bd.state]; rfl
  have N0 := Fr.nil n0
  have pre0 : ∀ t, Steps p.tables e below (s₁.setTop (mkF m 0 #[.val (.ref x1), .val (.ref x2), .val (.int jj)] [])) t → Steps p.tables e below (s₁.setTop (entryFrame m #[(.ref x1), (.ref x2), (.int jj)] 3)) t := fun t k => castTop (ef_rmCL m x1 x2 jj) k
  obtain ⟨cq2_, kq2_, qa2_, qb2_, qc2_⟩ := isOf hZ e0 S1.1
  obtain ⟨_, _, ⟨T1_, L1_, k1_, n1_⟩, -, X1_, ⟨Lc1_, hQ1_, l1_, y1_, z1_⟩, st1_⟩ := X0.virtualBack hx (y := (⟨"java/lang/String", "length", "()I"⟩ : MethodName)) (z := (⟨"java/lang/String", "length", "()I"⟩ : MethodName)) hown (mvT hZ (own_w hw 239 rfl)) (mvT hZ (own_w hw 151 rfl)) (notFace_of_selects (args := #[]) (mvT hZ (own_w hw 153 rfl))) (mvT hZ (own_w hw 153 rfl)) (mvT hZ (own_w hw 152 rfl)) (by decide) (own_lenB (W := 1) hZ hw S1 T1 P5 O1 (by decide) (by decide)) qa2_ qc2_ (g := (mkF m 2 #[.val (.ref x1), .val (.ref x2), .val (.int jj)] [(.ref x1), (.int jj)])) rfl (by rw [hml]; rfl) (Steps.refl _) (argsL := []) (rest := [(.int jj)]) (lenOf pd_qzI rfl) rfl (by show 2 * 0 + _ ≤ _; exact Nat.le_of_eq rfl) (hb hby d46_2) (fun _ _ => ⟨rfl, e0, (by exact own_b rfl), (by exact own_b rfl)⟩)
  dsimp only [Pt.U, Pt.locs, Pt.cells, Pt.slots] at X1_ l1_ y1_ z1_ st1_ hQ1_
  subst L1_ k1_ n1_
  obtain ⟨rfl, rfl, ek1_⟩ := hQ1_
  have N1_ := Fr.app N0 (Fr.nil n0)
  obtain ⟨cq4_, kq4_, qa4_, qb4_, qc4_⟩ := isOf hZ ek1_ S1.1
  obtain ⟨_, _, ⟨T3_, L3_, k3_, n3_⟩, -, X3_, ⟨Lc3_, hQ3_, l3_, y3_, z3_⟩, st3_⟩ := X1_.virtualBack hx (y := (⟨"java/lang/String", "charAt", "(I)C"⟩ : MethodName)) (z := (⟨"java/lang/String", "charAt", "(I)C"⟩ : MethodName)) hown (mvT hZ (own_w hw 243 rfl)) (mvT hZ (own_w hw 244 rfl)) (notFace_of_selects (args := #[]) (mvT hZ (own_w hw 246 rfl))) (mvT hZ (own_w hw 246 rfl)) (mvT hZ (own_w hw 245 rfl)) (by decide) (own_chB (W := 0) hZ hw S1 T1 P5 O1 TF rF (i := ii) (j := jj) hc hj (by decide) (by decide)) qa4_ qc4_ (g := (mkF m 10 #[.val (.ref x1), .val (.ref x2), .val (.int jj)] [(.int jj), (.ref x1)])) rfl (by rw [hml]; rfl) (Steps.refl _) (argsL := [(.int jj)]) (rest := []) (lenOf pd_qIzC rfl) rfl (by show 2 * 0 + _ ≤ _; exact Nat.le_of_eq rfl) (hb hby d46_10) (fun _ _ => ⟨rfl, ek1_, (by exact own_b rfl), (by exact own_b rfl)⟩)
  dsimp only [Pt.U, Pt.locs, Pt.cells, Pt.slots] at X3_ l3_ y3_ z3_ st3_ hQ3_
  subst L3_ k3_ n3_
  obtain ⟨rfl, rfl, ek3_⟩ := hQ3_
  have N3_ := Fr.app N1_ (Fr.nil n0)
  obtain ⟨fs, hr, hrun, hended, hW, hsame⟩ := X3_.leave (v := some (.int (nar .char ((A ++ B).getD ii 0)))) (fun h => by first | rfl | (rw [Bd.returns] at h; cases h))
  refine ⟨_, _, pre0 _ ?_, hrun, hended, _, _, rfl, ?_, ⟨_, rfl⟩, hW, hsame.mono (by exact own_b rfl) (by exact own_b rfl)⟩
  · show Steps p.tables e below (s₁.setTop (mkF m 0 #[.val (.ref x1), .val (.ref x2), .val (.int jj)] [])) _
    refine XS.iloadN X0.here hx rfl (hb hby d46_0) rfl ?_
    refine XS.aloadN X0.here hx rfl (hb hby d46_1) rfl rfl ?_
    refine st1_.trans ?_
    show Steps p.tables e below (T1_.setTop (mkF m 5 #[.val (.ref x1), .val (.ref x2), .val (.int jj)] [(.int (Int32.ofNat A.length)), (.int jj)])) _
    refine XS.icmpNo X1_.here hx rfl (hb hby d46_5) rfl (tlt ((by rw [hj]; exact own_ltn S1.2.2.2.2.2 hc) : jj < (Int32.ofNat A.length))).2.1 ?_
    refine XS.aloadN X1_.here hx rfl (hb hby d46_8) rfl rfl ?_
    refine XS.iloadN X1_.here hx rfl (hb hby d46_9) rfl ?_
    refine st3_.trans ?_
    show Steps p.tables e below (T3_.setTop (mkF m 13 #[.val (.ref x1), .val (.ref x2), .val (.int jj)] [(.int (A.getD ii 0))])) _
    rw [own_catL (B := B) hc]
    show Steps p.tables e below (T3_.setTop (mkF m 13 #[.val (.ref x1), .val (.ref x2), .val (.int jj)] [(.int ((A ++ B).getD ii 0))])) _
    exact retN X3_ hx (t := .char) Bd.returns (by simp) (hb hby d46_13) hr
  · show Q_rmCL Z x1 x2 jj t1 A t2 B ii G1 G3 h0 n0 _ T3_.heap _
    rw [ek3_]
    exact ⟨rfl, N3_, rfl⟩
theorem ef_rmCR (m : MethodId) (x0 : Addr) (x1 : Addr) (x2 : Int32) : entryFrame m #[(.ref x0), (.ref x1), (.int x2)] 3 = mkF m 0 #[.val (.ref x0), .val (.ref x1), .val (.int x2)] [] := by first | (simp [entryFrame, mkF, argsToLocals, Value.category]; done) | rfl
theorem rmCR (l : Launch) (Z : State) (a0 : Array Value) (hw : ∀ d ∈ tables_1, d.before a0 Z = true) (ws : List Jvm.Cond) (x1 : Addr) (x2 : Addr) (jj : Int32) (t1 : Addr) (A : List Int32) (t2 : Addr) (B : List Int32) (ii : Nat) (G1 : Int32) (G3 : Value) (h0 : Heap) (n0 : Nat) (Z0 : n0 ≤ h0.size) (S1 : own_Str Z h0 x1 t1 A) (S2 : own_Str Z h0 x2 t2 B) (T1 : Sta Z Z.heap "java/lang/String" "COMPACT_STRINGS" "Z" (.int G1)) (P5 : ¬ (G1 = (0 : Int32))) (O1 : Old Z n0 h0) (TF : Sta Z Z.heap "jdk/internal/util/Preconditions" "SIOOBE_FORMATTER" "Ljava/util/function/BiFunction;" G3) (rF : G3.isRef = true) (hj : jj = Int32.ofNat ii) (hi : ii < (A ++ B).length) (hk : ii ≤ 20) (hc : ¬ (ii < A.length)) :
    MetFree l (⟨"com/example/brisk_warden/briskwarden/core/UnsupportedNumberExceptionAtPinLaw", "cat", "(Ljava/lang/String;Ljava/lang/String;I)C"⟩ : MethodName) (head1 (Jvm.Cond.code (⟨"com/example/brisk_warden/briskwarden/core/UnsupportedNumberExceptionAtPinLaw", "cat", "(Ljava/lang/String;Ljava/lang/String;I)C"⟩ : MethodName) method_4_code 3 (some .char) :: ws) ({ frames := 4, cells := 0, slots := 0, locals := 53 } : Room)) (fun a U => a = #[(.ref x1), (.ref x2), (.int jj)] ∧ Z.Warmed39 U.vm ∧ U.heap = h0) (fun _ _ _ _ _ => True) (fun _ U o U' => ∃ v L, o = .returned v ∧ Q_rmCL Z x1 x2 jj t1 A t2 B ii G1 G3 h0 n0 v U'.heap L ∧ FrameEnd U o U' L ({ frames := 4, cells := 0, slots := 0, locals := 53 } : Room).cells ({ frames := 4, cells := 0, slots := 0, locals := 53 } : Room).slots) := by
  refine MetFree.of_bodySF (plainFor_of_name pn_com_example_brisk_warden_briskwarden_core_UnsupportedNumberExceptionAtPinLaw) hisR ?_
  intro p e s m args below meth c s₁ Bd hml0 hP hK
  obtain ⟨rfl, hZ, hh⟩ := hP
  have hx := Bd.exec
  have hby := Bd.bytes
  have hml : c.maxLocals = 3 := hml0
  have hown : s.vm.findClass "com/example/brisk_warden/briskwarden/core/UnsupportedNumberExceptionAtPinLaw" = some m.cls := findClass_of_methodNamed Bd.named
  have hnm := (name_of_methodNamed Bd.named Bd.method).1
  have X0 : Stand p l e ({ frames := 4, cells := 0, slots := 0, locals := 53 } : Room) s m #[(.ref x1), (.ref x2), (.int jj)] below meth c s₁ [] 0 0 := Stand.of_body Bd
  have e0 : s₁.heap = h0 := by rw [← hh, Bd.state]; rfl
  have N0 := Fr.nil n0
  have pre0 : ∀ t, Steps p.tables e below (s₁.setTop (mkF m 0 #[.val (.ref x1), .val (.ref x2), .val (.int jj)] [])) t → Steps p.tables e below (s₁.setTop (entryFrame m #[(.ref x1), (.ref x2), (.int jj)] 3)) t := fun t k => castTop (ef_rmCR m x1 x2 jj) k
  obtain ⟨cq2_, kq2_, qa2_, qb2_, qc2_⟩ := isOf hZ e0 S1.1
  obtain ⟨_, _, ⟨T1_, L1_, k1_, n1_⟩, -, X1_, ⟨Lc1_, hQ1_, l1_, y1_, z1_⟩, st1_⟩ := X0.virtualBack hx (y := (⟨"java/lang/String", "length", "()I"⟩ : MethodName)) (z := (⟨"java/lang/String", "length", "()I"⟩ : MethodName)) hown (mvT hZ (own_w hw 239 rfl)) (mvT hZ (own_w hw 151 rfl)) (notFace_of_selects (args := #[]) (mvT hZ (own_w hw 153 rfl))) (mvT hZ (own_w hw 153 rfl)) (mvT hZ (own_w hw 152 rfl)) (by decide) (own_lenB (W := 1) hZ hw S1 T1 P5 O1 (by decide) (by decide)) qa2_ qc2_ (g := (mkF m 2 #[.val (.ref x1), .val (.ref x2), .val (.int jj)] [(.ref x1), (.int jj)])) rfl (by rw [hml]; rfl) (Steps.refl _) (argsL := []) (rest := [(.int jj)]) (lenOf pd_qzI rfl) rfl (by show 2 * 0 + _ ≤ _; exact Nat.le_of_eq rfl) (hb hby d46_2) (fun _ _ => ⟨rfl, e0, (by exact own_b rfl), (by exact own_b rfl)⟩)
  dsimp only [Pt.U, Pt.locs, Pt.cells, Pt.slots] at X1_ l1_ y1_ z1_ st1_ hQ1_
  subst L1_ k1_ n1_
  obtain ⟨rfl, rfl, ek1_⟩ := hQ1_
  have N1_ := Fr.app N0 (Fr.nil n0)
  obtain ⟨cq4_, kq4_, qa4_, qb4_, qc4_⟩ := isOf hZ ek1_ S1.1
  obtain ⟨_, _, ⟨T3_, L3_, k3_, n3_⟩, -, X3_, ⟨Lc3_, hQ3_, l3_, y3_, z3_⟩, st3_⟩ := X1_.virtualBack hx (y := (⟨"java/lang/String", "length", "()I"⟩ : MethodName)) (z := (⟨"java/lang/String", "length", "()I"⟩ : MethodName)) hown (mvT hZ (own_w hw 239 rfl)) (mvT hZ (own_w hw 151 rfl)) (notFace_of_selects (args := #[]) (mvT hZ (own_w hw 153 rfl))) (mvT hZ (own_w hw 153 rfl)) (mvT hZ (own_w hw 152 rfl)) (by decide) (own_lenB (W := 2) hZ hw S1 T1 P5 O1 (by decide) (by decide)) qa4_ qc4_ (g := (mkF m 17 #[.val (.ref x1), .val (.ref x2), .val (.int jj)] [(.ref x1), (.int jj), (.ref x2)])) rfl (by rw [hml]; rfl) (Steps.refl _) (argsL := []) (rest := [(.int jj), (.ref x2)]) (lenOf pd_qzI rfl) rfl (by show 2 * 0 + _ ≤ _; exact Nat.le_of_eq rfl) (hb hby d46_17) (fun _ _ => ⟨rfl, ek1_, (by exact own_b rfl), (by exact own_b rfl)⟩)
  dsimp only [Pt.U, Pt.locs, Pt.cells, Pt.slots] at X3_ l3_ y3_ z3_ st3_ hQ3_
  subst L3_ k3_ n3_
  obtain ⟨rfl, rfl, ek3_⟩ := hQ3_
  have N3_ := Fr.app N1_ (Fr.nil n0)
  obtain ⟨cq6_, kq6_, qa6_, qb6_, qc6_⟩ := isOf hZ ek3_ S2.1
  obtain ⟨_, _, ⟨T5_, L5_, k5_, n5_⟩, -, X5_, ⟨Lc5_, hQ5_, l5_, y5_, z5_⟩, st5_⟩ := X3_.virtualBack hx (y := (⟨"java/lang/String", "charAt", "(I)C"⟩ : MethodName)) (z := (⟨"java/lang/String", "charAt", "(I)C"⟩ : MethodName)) hown (mvT hZ (own_w hw 243 rfl)) (mvT hZ (own_w hw 244 rfl)) (notFace_of_selects (args := #[]) (mvT hZ (own_w hw 246 rfl))) (mvT hZ (own_w hw 246 rfl)) (mvT hZ (own_w hw 245 rfl)) (by decide) (own_chB (W := 0) hZ hw S2 T1 P5 O1 TF rF (i := (ii - A.length)) (j := (jj - (Int32.ofNat A.length))) (by rw [List.length_append] at hi; omega) (by rw [hj]; exact own_subn (by omega)) (by decide) (by decide)) qa6_ qc6_ (g := (mkF m 21 #[.val (.ref x1), .val (.ref x2), .val (.int jj)] [(.int (jj - (Int32.ofNat A.length))), (.ref x2)])) rfl (by rw [hml]; rfl) (Steps.refl _) (argsL := [(.int (jj - (Int32.ofNat A.length)))]) (rest := []) (lenOf pd_qIzC rfl) rfl (by show 2 * 0 + _ ≤ _; exact Nat.le_of_eq rfl) (hb hby d46_21) (fun _ _ => ⟨rfl, ek3_, (by exact own_b rfl), (by exact own_b rfl)⟩)
  dsimp only [Pt.U, Pt.locs, Pt.cells, Pt.slots] at X5_ l5_ y5_ z5_ st5_ hQ5_
  subst L5_ k5_ n5_
  obtain ⟨rfl, rfl, ek5_⟩ := hQ5_
  have N5_ := Fr.app N3_ (Fr.nil n0)
  obtain ⟨fs, hr, hrun, hended, hW, hsame⟩ := X5_.leave (v := some (.int (nar .char ((A ++ B).getD ii 0)))) (fun h => by first | rfl | (rw [Bd.returns] at h; cases h))
  refine ⟨_, _, pre0 _ ?_, hrun, hended, _, _, rfl, ?_, ⟨_, rfl⟩, hW, hsame.mono (by exact own_b rfl) (by exact own_b rfl)⟩
  · show Steps p.tables e below (s₁.setTop (mkF m 0 #[.val (.ref x1), .val (.ref x2), .val (.int jj)] [])) _
    refine XS.iloadN X0.here hx rfl (hb hby d46_0) rfl ?_
    refine XS.aloadN X0.here hx rfl (hb hby d46_1) rfl rfl ?_
    refine st1_.trans ?_
    show Steps p.tables e below (T1_.setTop (mkF m 5 #[.val (.ref x1), .val (.ref x2), .val (.int jj)] [(.int (Int32.ofNat A.length)), (.int jj)])) _
    refine XS.icmpYes X1_.here hx rfl (pc0 := 5) (pc' := 14) rfl (hb hby d46_5) rfl (flt ((by rw [hj]; exact own_nlt (by omega) (by omega)) : ¬ (jj < (Int32.ofNat A.length)))).2.1 (by decide) (by decide) ?_
    refine XS.aloadN X1_.here hx rfl (hb hby d46_14) rfl rfl ?_
    refine XS.iloadN X1_.here hx rfl (hb hby d46_15) rfl ?_
    refine XS.aloadN X1_.here hx rfl (hb hby d46_16) rfl rfl ?_
    refine st3_.trans ?_
    show Steps p.tables e below (T3_.setTop (mkF m 20 #[.val (.ref x1), .val (.ref x2), .val (.int jj)] [(.int (Int32.ofNat A.length)), (.int jj), (.ref x2)])) _
    refine XS.isub X3_.here hx rfl (hb hby d46_20) rfl ?_
    show Steps p.tables e below (T3_.setTop (mkF m 21 #[.val (.ref x1), .val (.ref x2), .val (.int jj)] [(.int (jj - (Int32.ofNat A.length))), (.ref x2)])) _
    refine st5_.trans ?_
    show Steps p.tables e below (T5_.setTop (mkF m 24 #[.val (.ref x1), .val (.ref x2), .val (.int jj)] [(.int (B.getD (ii - A.length) 0))])) _
    rw [own_catR hc]
    show Steps p.tables e below (T5_.setTop (mkF m 24 #[.val (.ref x1), .val (.ref x2), .val (.int jj)] [(.int ((A ++ B).getD ii 0))])) _
    exact retN X5_ hx (t := .char) Bd.returns (by simp) (hb hby d46_24) hr
  · show Q_rmCL Z x1 x2 jj t1 A t2 B ii G1 G3 h0 n0 _ T5_.heap _
    rw [ek5_]
    exact ⟨rfl, N5_, rfl⟩
theorem rmCat (l : Launch) (Z : State) (a0 : Array Value) (hw : ∀ d ∈ tables_1, d.before a0 Z = true) (ws : List Jvm.Cond) (x1 : Addr) (x2 : Addr) (jj : Int32) (t1 : Addr) (A : List Int32) (t2 : Addr) (B : List Int32) (ii : Nat) (G1 : Int32) (G3 : Value) (h0 : Heap) (n0 : Nat) (Z0 : n0 ≤ h0.size) (S1 : own_Str Z h0 x1 t1 A) (S2 : own_Str Z h0 x2 t2 B) (T1 : Sta Z Z.heap "java/lang/String" "COMPACT_STRINGS" "Z" (.int G1)) (P5 : ¬ (G1 = (0 : Int32))) (O1 : Old Z n0 h0) (TF : Sta Z Z.heap "jdk/internal/util/Preconditions" "SIOOBE_FORMATTER" "Ljava/util/function/BiFunction;" G3) (rF : G3.isRef = true) (hj : jj = Int32.ofNat ii) (hi : ii < (A ++ B).length) (hk : ii ≤ 20) :
    MetFree l (⟨"com/example/brisk_warden/briskwarden/core/UnsupportedNumberExceptionAtPinLaw", "cat", "(Ljava/lang/String;Ljava/lang/String;I)C"⟩ : MethodName) (head1 (Jvm.Cond.code (⟨"com/example/brisk_warden/briskwarden/core/UnsupportedNumberExceptionAtPinLaw", "cat", "(Ljava/lang/String;Ljava/lang/String;I)C"⟩ : MethodName) method_4_code 3 (some .char) :: ws) ({ frames := 4, cells := 0, slots := 0, locals := 53 } : Room)) (fun a U => a = #[(.ref x1), (.ref x2), (.int jj)] ∧ Z.Warmed39 U.vm ∧ U.heap = h0) (fun _ _ _ _ _ => True) (fun _ U o U' => ∃ v L, o = .returned v ∧ Q_rmCL Z x1 x2 jj t1 A t2 B ii G1 G3 h0 n0 v U'.heap L ∧ FrameEnd U o U' L ({ frames := 4, cells := 0, slots := 0, locals := 53 } : Room).cells ({ frames := 4, cells := 0, slots := 0, locals := 53 } : Room).slots) := by
  by_cases c0 : ii < A.length
  · exact rmCL l Z a0 hw ws x1 x2 jj t1 A t2 B ii G1 G3 h0 n0 Z0 S1 S2 T1 P5 O1 TF rF hj hi hk c0
  · exact rmCR l Z a0 hw ws x1 x2 jj t1 A t2 B ii G1 G3 h0 n0 Z0 S1 S2 T1 P5 O1 TF rF hj hi hk c0
theorem d40_0 : decode method_5_code 0 = .ok (.iload_n 3, 1) := by decide +kernel
theorem d40_1 : decode method_5_code 1 = .ok (.aload_n 0, 1) := by decide +kernel
theorem d40_2 : decode method_5_code 2 = .ok (.invokevirtual 26, 3) := by decide +kernel
theorem d40_5 : decode method_5_code 5 = .ok (.if_icmp .lt 5, 3) := by decide +kernel
theorem d40_8 : decode method_5_code 8 = .ok (.iconst 1, 1) := by decide +kernel
theorem d40_9 : decode method_5_code 9 = .ok (.ireturn, 1) := by decide +kernel
theorem d40_10 : decode method_5_code 10 = .ok (.aload_n 0, 1) := by decide +kernel
theorem d40_11 : decode method_5_code 11 = .ok (.iload_n 3, 1) := by decide +kernel
theorem d40_12 : decode method_5_code 12 = .ok (.invokevirtual 57, 3) := by decide +kernel
theorem d40_15 : decode method_5_code 15 = .ok (.aload_n 1, 1) := by decide +kernel
theorem d40_16 : decode method_5_code 16 = .ok (.aload_n 2, 1) := by decide +kernel
theorem d40_17 : decode method_5_code 17 = .ok (.iload_n 3, 1) := by decide +kernel
theorem d40_18 : decode method_5_code 18 = .ok (.invokestatic 61, 3) := by decide +kernel
theorem pd_qLjava_lang_StringLjava_lang_StringIzC : parseMethodDescriptor "(Ljava/lang/String;Ljava/lang/String;I)C" = some ⟨[(.object "java/lang/String"), (.object "java/lang/String"), .int], some .char⟩ := by decide +kernel
theorem d40_21 : decode method_5_code 21 = .ok (.if_icmp .ne 7, 3) := by decide +kernel
theorem d40_24 : decode method_5_code 24 = .ok (.iconst 1, 1) := by decide +kernel
theorem d40_25 : decode method_5_code 25 = .ok (.goto 4, 3) := by decide +kernel
theorem d40_29 : decode method_5_code 29 = .ok (.ireturn, 1) := by decide +kernel
theorem ef_rmPG (m : MethodId) (x0 : Addr) (x1 : Addr) (x2 : Addr) (x3 : Int32) : entryFrame m #[(.ref x0), (.ref x1), (.ref x2), (.int x3)] 4 = mkF m 0 #[.val (.ref x0), .val (.ref x1), .val (.ref x2), .val (.int x3)] [] := by first | (simp [entryFrame, mkF, argsToLocals, Value.category]; done) | rfl
def Q_rmPG (Z : State) (x0 : Addr) (x1 : Addr) (x2 : Addr) (jj : Int32) (t0 : Addr) (t1 : Addr) (A : List Int32) (t2 : Addr) (B : List Int32) (ii : Nat) (G1 : Int32) (G3 : Value) (h0 : Heap) (n0 : Nat) (v : Option Value) (h : Heap) (L : List Loc) : Prop := v = some (.int (1 : Int32)) ∧ Fr n0 L ∧ h = h0
theorem rmPG (l : Launch) (Z : State) (a0 : Array Value) (hw : ∀ d ∈ tables_1, d.before a0 Z = true) (ws : List Jvm.Cond) (x0 : Addr) (x1 : Addr) (x2 : Addr) (jj : Int32) (t0 : Addr) (t1 : Addr) (A : List Int32) (t2 : Addr) (B : List Int32) (ii : Nat) (G1 : Int32) (G3 : Value) (h0 : Heap) (n0 : Nat) (Z0 : n0 ≤ h0.size) (S0 : own_Str Z h0 x0 t0 ((([] : List Int32) ++ A) ++ B)) (S1 : own_Str Z h0 x1 t1 A) (S2 : own_Str Z h0 x2 t2 B) (T1 : Sta Z Z.heap "java/lang/String" "COMPACT_STRINGS" "Z" (.int G1)) (P5 : ¬ (G1 = (0 : Int32))) (O1 : Old Z n0 h0) (TF : Sta Z Z.heap "jdk/internal/util/Preconditions" "SIOOBE_FORMATTER" "Ljava/util/function/BiFunction;" G3) (rF : G3.isRef = true) (hj : jj = Int32.ofNat ii) (hk : ii ≤ 20) (hc : ¬ (ii < ((([] : List Int32) ++ A) ++ B).length)) :
    MetFree l (⟨"com/example/brisk_warden/briskwarden/core/UnsupportedNumberExceptionAtPinLaw", "pc", "(Ljava/lang/String;Ljava/lang/String;Ljava/lang/String;I)Z"⟩ : MethodName) (head1 (Jvm.Cond.code (⟨"com/example/brisk_warden/briskwarden/core/UnsupportedNumberExceptionAtPinLaw", "pc", "(Ljava/lang/String;Ljava/lang/String;Ljava/lang/String;I)Z"⟩ : MethodName) method_5_code 4 (some .boolean) :: ws) ({ frames := 5, cells := 0, slots := 0, locals := 68 } : Room)) (fun a U => a = #[(.ref x0), (.ref x1), (.ref x2), (.int jj)] ∧ Z.Warmed39 U.vm ∧ U.heap = h0) (fun _ _ _ _ _ => True) (fun _ U o U' => ∃ v L, o = .returned v ∧ Q_rmPG Z x0 x1 x2 jj t0 t1 A t2 B ii G1 G3 h0 n0 v U'.heap L ∧ FrameEnd U o U' L ({ frames := 5, cells := 0, slots := 0, locals := 68 } : Room).cells ({ frames := 5, cells := 0, slots := 0, locals := 68 } : Room).slots) := by
  refine MetFree.of_bodySF (plainFor_of_name pn_com_example_brisk_warden_briskwarden_core_UnsupportedNumberExceptionAtPinLaw) hisR ?_
  intro p e s m args below meth c s₁ Bd hml0 hP hK
  obtain ⟨rfl, hZ, hh⟩ := hP
  have hx := Bd.exec
  have hby := Bd.bytes
  have hml : c.maxLocals = 4 := hml0
  have hown : s.vm.findClass "com/example/brisk_warden/briskwarden/core/UnsupportedNumberExceptionAtPinLaw" = some m.cls := findClass_of_methodNamed Bd.named
  have hnm := (name_of_methodNamed Bd.named Bd.method).1
  have X0 : Stand p l e ({ frames := 5, cells := 0, slots := 0, locals := 68 } : Room) s m #[(.ref x0), (.ref x1), (.ref x2), (.int jj)] below meth c s₁ [] 0 0 := Stand.of_body Bd
  have e0 : s₁.heap = h0 := by rw [← hh, Bd.state]; rfl
  have N0 := Fr.nil n0
  have pre0 : ∀ t, Steps p.tables e below (s₁.setTop (mkF m 0 #[.val (.ref x0), .val (.ref x1), .val (.ref x2), .val (.int jj)] [])) t → Steps p.tables e below (s₁.setTop (entryFrame m #[(.ref x0), (.ref x1), (.ref x2), (.int jj)] 4)) t := fun t k => castTop (ef_rmPG m x0 x1 x2 jj) k
  obtain ⟨cq2_, kq2_, qa2_, qb2_, qc2_⟩ := isOf hZ e0 S0.1
  obtain ⟨_, _, ⟨T1_, L1_, k1_, n1_⟩, -, X1_, ⟨Lc1_, hQ1_, l1_, y1_, z1_⟩, st1_⟩ := X0.virtualBack hx (y := (⟨"java/lang/String", "length", "()I"⟩ : MethodName)) (z := (⟨"java/lang/String", "length", "()I"⟩ : MethodName)) hown (mvT hZ (own_w hw 239 rfl)) (mvT hZ (own_w hw 151 rfl)) (notFace_of_selects (args := #[]) (mvT hZ (own_w hw 153 rfl))) (mvT hZ (own_w hw 153 rfl)) (mvT hZ (own_w hw 152 rfl)) (by decide) (own_lenB (W := 1) hZ hw S0 T1 P5 O1 (by decide) (by decide)) qa2_ qc2_ (g := (mkF m 2 #[.val (.ref x0), .val (.ref x1), .val (.ref x2), .val (.int jj)] [(.ref x0), (.int jj)])) rfl (by rw [hml]; rfl) (Steps.refl _) (argsL := []) (rest := [(.int jj)]) (lenOf pd_qzI rfl) rfl (by show 2 * 0 + _ ≤ _; exact Nat.le_of_eq rfl) (hb hby d40_2) (fun _ _ => ⟨rfl, e0, (by exact own_b rfl), (by exact own_b rfl)⟩)
  dsimp only [Pt.U, Pt.locs, Pt.cells, Pt.slots] at X1_ l1_ y1_ z1_ st1_ hQ1_
  subst L1_ k1_ n1_
  obtain ⟨rfl, rfl, ek1_⟩ := hQ1_
  have N1_ := Fr.app N0 (Fr.nil n0)
  obtain ⟨fs, hr, hrun, hended, hW, hsame⟩ := X1_.leave (v := some (.int (1 : Int32))) (fun h => by first | rfl | (rw [Bd.returns] at h; cases h))
  refine ⟨_, _, pre0 _ ?_, hrun, hended, _, _, rfl, ?_, ⟨_, rfl⟩, hW, hsame.mono (by exact own_b rfl) (by exact own_b rfl)⟩
  · show Steps p.tables e below (s₁.setTop (mkF m 0 #[.val (.ref x0), .val (.ref x1), .val (.ref x2), .val (.int jj)] [])) _
    refine XS.iloadN X0.here hx rfl (hb hby d40_0) rfl ?_
    refine XS.aloadN X0.here hx rfl (hb hby d40_1) rfl rfl ?_
    refine st1_.trans ?_
    show Steps p.tables e below (T1_.setTop (mkF m 5 #[.val (.ref x0), .val (.ref x1), .val (.ref x2), .val (.int jj)] [(.int (Int32.ofNat ((([] : List Int32) ++ A) ++ B).length)), (.int jj)])) _
    refine XS.icmpNo X1_.here hx rfl (hb hby d40_5) rfl (flt ((by rw [hj]; exact own_nlt (by omega) (by omega)) : ¬ (jj < (Int32.ofNat ((([] : List Int32) ++ A) ++ B).length)))).1 ?_
    refine XS.iconst X1_.here hx rfl (hb hby d40_8) ?_
    exact retN X1_ hx (t := .boolean) Bd.returns (by simp) (hb hby d40_9) hr
  · show Q_rmPG Z x0 x1 x2 jj t0 t1 A t2 B ii G1 G3 h0 n0 _ T1_.heap _
    rw [ek1_]
    exact ⟨rfl, N1_, rfl⟩
theorem ef_rmPL (m : MethodId) (x0 : Addr) (x1 : Addr) (x2 : Addr) (x3 : Int32) : entryFrame m #[(.ref x0), (.ref x1), (.ref x2), (.int x3)] 4 = mkF m 0 #[.val (.ref x0), .val (.ref x1), .val (.ref x2), .val (.int x3)] [] := by first | (simp [entryFrame, mkF, argsToLocals, Value.category]; done) | rfl
theorem rmPL (l : Launch) (Z : State) (a0 : Array Value) (hw : ∀ d ∈ tables_1, d.before a0 Z = true) (ws : List Jvm.Cond) (x0 : Addr) (x1 : Addr) (x2 : Addr) (jj : Int32) (t0 : Addr) (t1 : Addr) (A : List Int32) (t2 : Addr) (B : List Int32) (ii : Nat) (G1 : Int32) (G3 : Value) (h0 : Heap) (n0 : Nat) (Z0 : n0 ≤ h0.size) (S0 : own_Str Z h0 x0 t0 ((([] : List Int32) ++ A) ++ B)) (S1 : own_Str Z h0 x1 t1 A) (S2 : own_Str Z h0 x2 t2 B) (T1 : Sta Z Z.heap "java/lang/String" "COMPACT_STRINGS" "Z" (.int G1)) (P5 : ¬ (G1 = (0 : Int32))) (O1 : Old Z n0 h0) (TF : Sta Z Z.heap "jdk/internal/util/Preconditions" "SIOOBE_FORMATTER" "Ljava/util/function/BiFunction;" G3) (rF : G3.isRef = true) (hj : jj = Int32.ofNat ii) (hk : ii ≤ 20) (hc : ii < ((([] : List Int32) ++ A) ++ B).length) :
    MetFree l (⟨"com/example/brisk_warden/briskwarden/core/UnsupportedNumberExceptionAtPinLaw", "pc", "(Ljava/lang/String;Ljava/lang/String;Ljava/lang/String;I)Z"⟩ : MethodName) (head1 (Jvm.Cond.code (⟨"com/example/brisk_warden/briskwarden/core/UnsupportedNumberExceptionAtPinLaw", "pc", "(Ljava/lang/String;Ljava/lang/String;Ljava/lang/String;I)Z"⟩ : MethodName) method_5_code 4 (some .boolean) :: ws) ({ frames := 5, cells := 0, slots := 0, locals := 68 } : Room)) (fun a U => a = #[(.ref x0), (.ref x1), (.ref x2), (.int jj)] ∧ Z.Warmed39 U.vm ∧ U.heap = h0) (fun _ _ _ _ _ => True) (fun _ U o U' => ∃ v L, o = .returned v ∧ Q_rmPG Z x0 x1 x2 jj t0 t1 A t2 B ii G1 G3 h0 n0 v U'.heap L ∧ FrameEnd U o U' L ({ frames := 5, cells := 0, slots := 0, locals := 68 } : Room).cells ({ frames := 5, cells := 0, slots := 0, locals := 68 } : Room).slots) := by
  refine MetFree.of_bodySF (plainFor_of_name pn_com_example_brisk_warden_briskwarden_core_UnsupportedNumberExceptionAtPinLaw) hisR ?_
  intro p e s m args below meth c s₁ Bd hml0 hP hK
  obtain ⟨rfl, hZ, hh⟩ := hP
  have hx := Bd.exec
  have hby := Bd.bytes
  have hml : c.maxLocals = 4 := hml0
  have hown : s.vm.findClass "com/example/brisk_warden/briskwarden/core/UnsupportedNumberExceptionAtPinLaw" = some m.cls := findClass_of_methodNamed Bd.named
  have hnm := (name_of_methodNamed Bd.named Bd.method).1
  have X0 : Stand p l e ({ frames := 5, cells := 0, slots := 0, locals := 68 } : Room) s m #[(.ref x0), (.ref x1), (.ref x2), (.int jj)] below meth c s₁ [] 0 0 := Stand.of_body Bd
  have e0 : s₁.heap = h0 := by rw [← hh, Bd.state]; rfl
  have N0 := Fr.nil n0
  have pre0 : ∀ t, Steps p.tables e below (s₁.setTop (mkF m 0 #[.val (.ref x0), .val (.ref x1), .val (.ref x2), .val (.int jj)] [])) t → Steps p.tables e below (s₁.setTop (entryFrame m #[(.ref x0), (.ref x1), (.ref x2), (.int jj)] 4)) t := fun t k => castTop (ef_rmPL m x0 x1 x2 jj) k
  obtain ⟨cq2_, kq2_, qa2_, qb2_, qc2_⟩ := isOf hZ e0 S0.1
  obtain ⟨_, _, ⟨T1_, L1_, k1_, n1_⟩, -, X1_, ⟨Lc1_, hQ1_, l1_, y1_, z1_⟩, st1_⟩ := X0.virtualBack hx (y := (⟨"java/lang/String", "length", "()I"⟩ : MethodName)) (z := (⟨"java/lang/String", "length", "()I"⟩ : MethodName)) hown (mvT hZ (own_w hw 239 rfl)) (mvT hZ (own_w hw 151 rfl)) (notFace_of_selects (args := #[]) (mvT hZ (own_w hw 153 rfl))) (mvT hZ (own_w hw 153 rfl)) (mvT hZ (own_w hw 152 rfl)) (by decide) (own_lenB (W := 1) hZ hw S0 T1 P5 O1 (by decide) (by decide)) qa2_ qc2_ (g := (mkF m 2 #[.val (.ref x0), .val (.ref x1), .val (.ref x2), .val (.int jj)] [(.ref x0), (.int jj)])) rfl (by rw [hml]; rfl) (Steps.refl _) (argsL := []) (rest := [(.int jj)]) (lenOf pd_qzI rfl) rfl (by show 2 * 0 + _ ≤ _; exact Nat.le_of_eq rfl) (hb hby d40_2) (fun _ _ => ⟨rfl, e0, (by exact own_b rfl), (by exact own_b rfl)⟩)
  dsimp only [Pt.U, Pt.locs, Pt.cells, Pt.slots] at X1_ l1_ y1_ z1_ st1_ hQ1_
  subst L1_ k1_ n1_
  obtain ⟨rfl, rfl, ek1_⟩ := hQ1_
  have N1_ := Fr.app N0 (Fr.nil n0)
  obtain ⟨cq4_, kq4_, qa4_, qb4_, qc4_⟩ := isOf hZ ek1_ S0.1
  obtain ⟨_, _, ⟨T3_, L3_, k3_, n3_⟩, -, X3_, ⟨Lc3_, hQ3_, l3_, y3_, z3_⟩, st3_⟩ := X1_.virtualBack hx (y := (⟨"java/lang/String", "charAt", "(I)C"⟩ : MethodName)) (z := (⟨"java/lang/String", "charAt", "(I)C"⟩ : MethodName)) hown (mvT hZ (own_w hw 243 rfl)) (mvT hZ (own_w hw 244 rfl)) (notFace_of_selects (args := #[]) (mvT hZ (own_w hw 246 rfl))) (mvT hZ (own_w hw 246 rfl)) (mvT hZ (own_w hw 245 rfl)) (by decide) (own_chB (W := 0) hZ hw S0 T1 P5 O1 TF rF (i := ii) (j := jj) hc hj (by decide) (by decide)) qa4_ qc4_ (g := (mkF m 12 #[.val (.ref x0), .val (.ref x1), .val (.ref x2), .val (.int jj)] [(.int jj), (.ref x0)])) rfl (by rw [hml]; rfl) (Steps.refl _) (argsL := [(.int jj)]) (rest := []) (lenOf pd_qIzC rfl) rfl (by show 2 * 0 + _ ≤ _; exact Nat.le_of_eq rfl) (hb hby d40_12) (fun _ _ => ⟨rfl, ek1_, (by exact own_b rfl), (by exact own_b rfl)⟩)
  dsimp only [Pt.U, Pt.locs, Pt.cells, Pt.slots] at X3_ l3_ y3_ z3_ st3_ hQ3_
  subst L3_ k3_ n3_
  obtain ⟨rfl, rfl, ek3_⟩ := hQ3_
  have N3_ := Fr.app N1_ (Fr.nil n0)
  obtain ⟨_, _, ⟨T5_, L5_, k5_, n5_⟩, -, X5_, ⟨Lc5_, hQ5_, l5_, y5_, z5_⟩, st5_⟩ := Jvm.LawKit.callS X3_ hx (y := (⟨"com/example/brisk_warden/briskwarden/core/UnsupportedNumberExceptionAtPinLaw", "cat", "(Ljava/lang/String;Ljava/lang/String;I)C"⟩ : MethodName)) hown (mvT hZ (own_w hw 264 rfl)) (mvT hZ (own_w hw 265 rfl)) (mvT hZ (own_w hw 2 rfl)) (mvT hZ (own_w hw 266 rfl)) (by decide) (backOf (W := 1) (rmCat l Z a0 hw [] x1 x2 jj t1 A t2 B ii G1 G3 h0 n0 Z0 S1 S2 T1 P5 O1 TF rF hj hc hk) hZ (own_w hw 266 rfl) (own_w hw 2 rfl) (by decide) (by decide)) (g := (mkF m 18 #[.val (.ref x0), .val (.ref x1), .val (.ref x2), .val (.int jj)] [(.int jj), (.ref x2), (.ref x1), (.int (((([] : List Int32) ++ A) ++ B).getD ii 0))])) rfl (by rw [hml]; rfl) (argsL := [(.ref x1), (.ref x2), (.int jj)]) (rest := [(.int (((([] : List Int32) ++ A) ++ B).getD ii 0))]) (lenOf pd_qLjava_lang_StringLjava_lang_StringIzC rfl) rfl (by show 2 * 0 + _ ≤ _; exact Nat.le_of_eq rfl) (hb hby d40_18) (fun _ _ => ⟨rfl, ek3_, (by exact own_b rfl), (by exact own_b rfl)⟩)
  dsimp only [Pt.U, Pt.locs, Pt.cells, Pt.slots] at X5_ l5_ y5_ z5_ st5_ hQ5_
  subst L5_ k5_ n5_
  obtain ⟨rfl, Nq5_, ek5_⟩ := hQ5_
  have N5_ := Fr.app N3_ Nq5_
  obtain ⟨fs, hr, hrun, hended, hW, hsame⟩ := X5_.leave (v := some (.int (1 : Int32))) (fun h => by first | rfl | (rw [Bd.returns] at h; cases h))
  refine ⟨_, _, pre0 _ ?_, hrun, hended, _, _, rfl, ?_, ⟨_, rfl⟩, hW, hsame.mono (by exact own_b rfl) (by exact own_b rfl)⟩
  · show Steps p.tables e below (s₁.setTop (mkF m 0 #[.val (.ref x0), .val (.ref x1), .val (.ref x2), .val (.int jj)] [])) _
    refine XS.iloadN X0.here hx rfl (hb hby d40_0) rfl ?_
    refine XS.aloadN X0.here hx rfl (hb hby d40_1) rfl rfl ?_
    refine st1_.trans ?_
    show Steps p.tables e below (T1_.setTop (mkF m 5 #[.val (.ref x0), .val (.ref x1), .val (.ref x2), .val (.int jj)] [(.int (Int32.ofNat ((([] : List Int32) ++ A) ++ B).length)), (.int jj)])) _
    refine XS.icmpYes X1_.here hx rfl (pc0 := 5) (pc' := 10) rfl (hb hby d40_5) rfl (tlt ((by rw [hj]; exact own_ltn S0.2.2.2.2.2 hc) : jj < (Int32.ofNat ((([] : List Int32) ++ A) ++ B).length))).1 (by decide) (by decide) ?_
    refine XS.aloadN X1_.here hx rfl (hb hby d40_10) rfl rfl ?_
    refine XS.iloadN X1_.here hx rfl (hb hby d40_11) rfl ?_
    refine st3_.trans ?_
    show Steps p.tables e below (T3_.setTop (mkF m 15 #[.val (.ref x0), .val (.ref x1), .val (.ref x2), .val (.int jj)] [(.int (((([] : List Int32) ++ A) ++ B).getD ii 0))])) _
    refine XS.aloadN X3_.here hx rfl (hb hby d40_15) rfl rfl ?_
    refine XS.aloadN X3_.here hx rfl (hb hby d40_16) rfl rfl ?_
    refine XS.iloadN X3_.here hx rfl (hb hby d40_17) rfl ?_
    refine st5_ _ ?_
    show Steps p.tables e below (T5_.setTop (mkF m 21 #[.val (.ref x0), .val (.ref x1), .val (.ref x2), .val (.int jj)] [(.int (nar .char ((A ++ B).getD ii 0))), (.int (((([] : List Int32) ++ A) ++ B).getD ii 0))])) _
    refine XS.icmpNo X5_.here hx rfl (hb hby d40_21) rfl (teq ((own_chE S1.2.2.2.2.1 S2.2.2.2.2.1 hc) : (((([] : List Int32) ++ A) ++ B).getD ii 0) = (nar .char ((A ++ B).getD ii 0)))).2 ?_
    refine XS.iconst X5_.here hx rfl (hb hby d40_24) ?_
    refine XS.goto X5_.here hx rfl (pc0 := 25) (pc' := 29) rfl (hb hby d40_25) (by decide) (by decide) ?_
    exact retN X5_ hx (t := .boolean) Bd.returns (by simp) (hb hby d40_29) hr
  · show Q_rmPG Z x0 x1 x2 jj t0 t1 A t2 B ii G1 G3 h0 n0 _ T5_.heap _
    rw [ek5_]
    exact ⟨rfl, N5_, rfl⟩
theorem rmP (l : Launch) (Z : State) (a0 : Array Value) (hw : ∀ d ∈ tables_1, d.before a0 Z = true) (ws : List Jvm.Cond) (x0 : Addr) (x1 : Addr) (x2 : Addr) (jj : Int32) (t0 : Addr) (t1 : Addr) (A : List Int32) (t2 : Addr) (B : List Int32) (ii : Nat) (G1 : Int32) (G3 : Value) (h0 : Heap) (n0 : Nat) (Z0 : n0 ≤ h0.size) (S0 : own_Str Z h0 x0 t0 ((([] : List Int32) ++ A) ++ B)) (S1 : own_Str Z h0 x1 t1 A) (S2 : own_Str Z h0 x2 t2 B) (T1 : Sta Z Z.heap "java/lang/String" "COMPACT_STRINGS" "Z" (.int G1)) (P5 : ¬ (G1 = (0 : Int32))) (O1 : Old Z n0 h0) (TF : Sta Z Z.heap "jdk/internal/util/Preconditions" "SIOOBE_FORMATTER" "Ljava/util/function/BiFunction;" G3) (rF : G3.isRef = true) (hj : jj = Int32.ofNat ii) (hk : ii ≤ 20) :
    MetFree l (⟨"com/example/brisk_warden/briskwarden/core/UnsupportedNumberExceptionAtPinLaw", "pc", "(Ljava/lang/String;Ljava/lang/String;Ljava/lang/String;I)Z"⟩ : MethodName) (head1 (Jvm.Cond.code (⟨"com/example/brisk_warden/briskwarden/core/UnsupportedNumberExceptionAtPinLaw", "pc", "(Ljava/lang/String;Ljava/lang/String;Ljava/lang/String;I)Z"⟩ : MethodName) method_5_code 4 (some .boolean) :: ws) ({ frames := 5, cells := 0, slots := 0, locals := 68 } : Room)) (fun a U => a = #[(.ref x0), (.ref x1), (.ref x2), (.int jj)] ∧ Z.Warmed39 U.vm ∧ U.heap = h0) (fun _ _ _ _ _ => True) (fun _ U o U' => ∃ v L, o = .returned v ∧ Q_rmPG Z x0 x1 x2 jj t0 t1 A t2 B ii G1 G3 h0 n0 v U'.heap L ∧ FrameEnd U o U' L ({ frames := 5, cells := 0, slots := 0, locals := 68 } : Room).cells ({ frames := 5, cells := 0, slots := 0, locals := 68 } : Room).slots) := by
  by_cases c0 : ii < ((([] : List Int32) ++ A) ++ B).length
  · exact rmPL l Z a0 hw ws x0 x1 x2 jj t0 t1 A t2 B ii G1 G3 h0 n0 Z0 S0 S1 S2 T1 P5 O1 TF rF hj hk c0
  · exact rmPG l Z a0 hw ws x0 x1 x2 jj t0 t1 A t2 B ii G1 G3 h0 n0 Z0 S0 S1 S2 T1 P5 O1 TF rF hj hk c0
theorem d50_0 : decode method_6_code 0 = .ok (.iload 4, 2) := by decide +kernel
theorem d50_2 : decode method_6_code 2 = .ok (.aload_n 0, 1) := by decide +kernel
theorem d50_3 : decode method_6_code 3 = .ok (.invokevirtual 26, 3) := by decide +kernel
theorem d50_6 : decode method_6_code 6 = .ok (.if_icmp .lt 5, 3) := by decide +kernel
theorem d50_9 : decode method_6_code 9 = .ok (.iconst 1, 1) := by decide +kernel
theorem d50_10 : decode method_6_code 10 = .ok (.ireturn, 1) := by decide +kernel
theorem d50_11 : decode method_6_code 11 = .ok (.aload_n 1, 1) := by decide +kernel
theorem d50_12 : decode method_6_code 12 = .ok (.invokevirtual 26, 3) := by decide +kernel
theorem d50_15 : decode method_6_code 15 = .ok (.aload_n 2, 1) := by decide +kernel
theorem d50_16 : decode method_6_code 16 = .ok (.invokevirtual 26, 3) := by decide +kernel
theorem d50_19 : decode method_6_code 19 = .ok (.iadd, 1) := by decide +kernel
theorem d50_20 : decode method_6_code 20 = .ok (.istore 5, 2) := by decide +kernel
theorem d50_22 : decode method_6_code 22 = .ok (.iload 4, 2) := by decide +kernel
theorem d50_24 : decode method_6_code 24 = .ok (.iload 5, 2) := by decide +kernel
theorem d50_26 : decode method_6_code 26 = .ok (.if_icmp .ge 15, 3) := by decide +kernel
theorem d50_29 : decode method_6_code 29 = .ok (.aload_n 1, 1) := by decide +kernel
theorem d50_30 : decode method_6_code 30 = .ok (.aload_n 2, 1) := by decide +kernel
theorem d50_31 : decode method_6_code 31 = .ok (.iload 4, 2) := by decide +kernel
theorem d50_33 : decode method_6_code 33 = .ok (.invokestatic 61, 3) := by decide +kernel
theorem d50_36 : decode method_6_code 36 = .ok (.istore 6, 2) := by decide +kernel
theorem d50_38 : decode method_6_code 38 = .ok (.goto 46, 3) := by decide +kernel
theorem d50_84 : decode method_6_code 84 = .ok (.aload_n 0, 1) := by decide +kernel
theorem d50_85 : decode method_6_code 85 = .ok (.iload 4, 2) := by decide +kernel
theorem d50_87 : decode method_6_code 87 = .ok (.invokevirtual 57, 3) := by decide +kernel
theorem d50_90 : decode method_6_code 90 = .ok (.iload 6, 2) := by decide +kernel
theorem d50_92 : decode method_6_code 92 = .ok (.if_icmp .ne 7, 3) := by decide +kernel
theorem d50_95 : decode method_6_code 95 = .ok (.iconst 1, 1) := by decide +kernel
theorem d50_96 : decode method_6_code 96 = .ok (.goto 4, 3) := by decide +kernel
theorem d50_100 : decode method_6_code 100 = .ok (.ireturn, 1) := by decide +kernel
theorem d50_41 : decode method_6_code 41 = .ok (.iload 4, 2) := by decide +kernel
theorem d50_43 : decode method_6_code 43 = .ok (.iload 5, 2) := by decide +kernel
theorem d50_45 : decode method_6_code 45 = .ok (.if_icmp .ne 10, 3) := by decide +kernel
theorem d50_48 : decode method_6_code 48 = .ok (.bipush 58, 2) := by decide +kernel
theorem d50_50 : decode method_6_code 50 = .ok (.istore 6, 2) := by decide +kernel
theorem d50_52 : decode method_6_code 52 = .ok (.goto 32, 3) := by decide +kernel
theorem d50_55 : decode method_6_code 55 = .ok (.iload 4, 2) := by decide +kernel
theorem d50_57 : decode method_6_code 57 = .ok (.iload 5, 2) := by decide +kernel
theorem d50_59 : decode method_6_code 59 = .ok (.iconst 1, 1) := by decide +kernel
theorem d50_60 : decode method_6_code 60 = .ok (.iadd, 1) := by decide +kernel
theorem d50_61 : decode method_6_code 61 = .ok (.if_icmp .ne 10, 3) := by decide +kernel
theorem d50_64 : decode method_6_code 64 = .ok (.bipush 32, 2) := by decide +kernel
theorem d50_66 : decode method_6_code 66 = .ok (.istore 6, 2) := by decide +kernel
theorem d50_68 : decode method_6_code 68 = .ok (.goto 16, 3) := by decide +kernel
theorem d50_71 : decode method_6_code 71 = .ok (.aload_n 3, 1) := by decide +kernel
theorem d50_72 : decode method_6_code 72 = .ok (.iload 4, 2) := by decide +kernel
theorem d50_74 : decode method_6_code 74 = .ok (.iload 5, 2) := by decide +kernel
theorem d50_76 : decode method_6_code 76 = .ok (.isub, 1) := by decide +kernel
theorem d50_77 : decode method_6_code 77 = .ok (.iconst 2, 1) := by decide +kernel
theorem d50_78 : decode method_6_code 78 = .ok (.isub, 1) := by decide +kernel
theorem d50_79 : decode method_6_code 79 = .ok (.invokevirtual 57, 3) := by decide +kernel
theorem d50_82 : decode method_6_code 82 = .ok (.istore 6, 2) := by decide +kernel
theorem ef_rmM0 (m : MethodId) (x0 : Addr) (x1 : Addr) (x2 : Addr) (x3 : Addr) (x4 : Int32) : entryFrame m #[(.ref x0), (.ref x1), (.ref x2), (.ref x3), (.int x4)] 7 = mkF m 0 #[.val (.ref x0), .val (.ref x1), .val (.ref x2), .val (.ref x3), .val (.int x4), .unset, .unset] [] := by first | (simp [entryFrame, mkF, argsToLocals, Value.category]; done) | rfl
def Q_rmM0 (Z : State) (x0 : Addr) (x1 : Addr) (x2 : Addr) (x3 : Addr) (jj : Int32) (t0 : Addr) (t1 : Addr) (A : List Int32) (t2 : Addr) (B : List Int32) (t3 : Addr) (CC : List Int32) (ii : Nat) (G1 : Int32) (G3 : Value) (h0 : Heap) (n0 : Nat) (v : Option Value) (h : Heap) (L : List Loc) : Prop := v = some (.int (1 : Int32)) ∧ Fr n0 L ∧ h = h0
theorem rmM0 (l : Launch) (Z : State) (a0 : Array Value) (hw : ∀ d ∈ tables_1, d.before a0 Z = true) (ws : List Jvm.Cond) (x0 : Addr) (x1 : Addr) (x2 : Addr) (x3 : Addr) (jj : Int32) (t0 : Addr) (t1 : Addr) (A : List Int32) (t2 : Addr) (B : List Int32) (t3 : Addr) (CC : List Int32) (ii : Nat) (G1 : Int32) (G3 : Value) (h0 : Heap) (n0 : Nat) (Z0 : n0 ≤ h0.size) (S0 : own_Str Z h0 x0 t0 (((([] : List Int32) ++ ((([] : List Int32) ++ A) ++ B)) ++ ([(58 : Int32), (32 : Int32)] : List Int32)) ++ CC)) (S1 : own_Str Z h0 x1 t1 A) (S2 : own_Str Z h0 x2 t2 B) (S3 : own_Str Z h0 x3 t3 CC) (T1 : Sta Z Z.heap "java/lang/String" "COMPACT_STRINGS" "Z" (.int G1)) (P5 : ¬ (G1 = (0 : Int32))) (O1 : Old Z n0 h0) (TF : Sta Z Z.heap "jdk/internal/util/Preconditions" "SIOOBE_FORMATTER" "Ljava/util/function/BiFunction;" G3) (rF : G3.isRef = true) (hj : jj = Int32.ofNat ii) (hk : ii ≤ 20) (hA : A.length ≤ 3) (hB : B.length ≤ 3) (hC : CC.length ≤ 3) (hc : ¬ (ii < (((([] : List Int32) ++ ((([] : List Int32) ++ A) ++ B)) ++ ([(58 : Int32), (32 : Int32)] : List Int32)) ++ CC).length)) :
    MetFree l (⟨"com/example/brisk_warden/briskwarden/core/UnsupportedNumberExceptionAtPinLaw", "mc", "(Ljava/lang/String;Ljava/lang/String;Ljava/lang/String;Ljava/lang/String;I)Z"⟩ : MethodName) (head1 (Jvm.Cond.code (⟨"com/example/brisk_warden/briskwarden/core/UnsupportedNumberExceptionAtPinLaw", "mc", "(Ljava/lang/String;Ljava/lang/String;Ljava/lang/String;Ljava/lang/String;I)Z"⟩ : MethodName) method_6_code 7 (some .boolean) :: ws) ({ frames := 5, cells := 0, slots := 0, locals := 67 } : Room)) (fun a U => a = #[(.ref x0), (.ref x1), (.ref x2), (.ref x3), (.int jj)] ∧ Z.Warmed39 U.vm ∧ U.heap = h0) (fun _ _ _ _ _ => True) (fun _ U o U' => ∃ v L, o = .returned v ∧ Q_rmM0 Z x0 x1 x2 x3 jj t0 t1 A t2 B t3 CC ii G1 G3 h0 n0 v U'.heap L ∧ FrameEnd U o U' L ({ frames := 5, cells := 0, slots := 0, locals := 67 } : Room).cells ({ frames := 5, cells := 0, slots := 0, locals := 67 } : Room).slots) := by
  refine MetFree.of_bodySF (plainFor_of_name pn_com_example_brisk_warden_briskwarden_core_UnsupportedNumberExceptionAtPinLaw) hisR ?_
  intro p e s m args below meth c s₁ Bd hml0 hP hK
  obtain ⟨rfl, hZ, hh⟩ := hP
  have hx := Bd.exec
  have hby := Bd.bytes
  have hml : c.maxLocals = 7 := hml0
  have hown : s.vm.findClass "com/example/brisk_warden/briskwarden/core/UnsupportedNumberExceptionAtPinLaw" = some m.cls := findClass_of_methodNamed Bd.named
  have hnm := (name_of_methodNamed Bd.named Bd.method).1
  have X0 : Stand p l e ({ frames := 5, cells := 0, slots := 0, locals := 67 } : Room) s m #[(.ref x0), (.ref x1), (.ref x2), (.ref x3), (.int jj)] below meth c s₁ [] 0 0 := Stand.of_body Bd
  have e0 : s₁.heap = h0 := by rw [← hh, Bd.state]; rfl
  have N0 := Fr.nil n0
  have pre0 : ∀ t, Steps p.tables e below (s₁.setTop (mkF m 0 #[.val (.ref x0), .val (.ref x1), .val (.ref x2), .val (.ref x3), .val (.int jj), .unset, .unset] [])) t → Steps p.tables e below (s₁.setTop (entryFrame m #[(.ref x0), (.ref x1), (.ref x2), (.ref x3), (.int jj)] 7)) t := fun t k => castTop (ef_rmM0 m x0 x1 x2 x3 jj) k
  obtain ⟨cq2_, kq2_, qa2_, qb2_, qc2_⟩ := isOf hZ e0 S0.1
  obtain ⟨_, _, ⟨T1_, L1_, k1_, n1_⟩, -, X1_, ⟨Lc1_, hQ1_, l1_, y1_, z1_⟩, st1_⟩ := X0.virtualBack hx (y := (⟨"java/lang/String", "length", "()I"⟩ : MethodName)) (z := (⟨"java/lang/String", "length", "()I"⟩ : MethodName)) hown (mvT hZ (own_w hw 239 rfl)) (mvT hZ (own_w hw 151 rfl)) (notFace_of_selects (args := #[]) (mvT hZ (own_w hw 153 rfl))) (mvT hZ (own_w hw 153 rfl)) (mvT hZ (own_w hw 152 rfl)) (by decide) (own_lenB (W := 1) hZ hw S0 T1 P5 O1 (by decide) (by decide)) qa2_ qc2_ (g := (mkF m 3 #[.val (.ref x0), .val (.ref x1), .val (.ref x2), .val (.ref x3), .val (.int jj), .unset, .unset] [(.ref x0), (.int jj)])) rfl (by rw [hml]; rfl) (Steps.refl _) (argsL := []) (rest := [(.int jj)]) (lenOf pd_qzI rfl) rfl (by show 2 * 0 + _ ≤ _; exact Nat.le_of_eq rfl) (hb hby d50_3) (fun _ _ => ⟨rfl, e0, (by exact own_b rfl), (by exact own_b rfl)⟩)
  dsimp only [Pt.U, Pt.locs, Pt.cells, Pt.slots] at X1_ l1_ y1_ z1_ st1_ hQ1_
  subst L1_ k1_ n1_
  obtain ⟨rfl, rfl, ek1_⟩ := hQ1_
  have N1_ := Fr.app N0 (Fr.nil n0)
  obtain ⟨fs, hr, hrun, hended, hW, hsame⟩ := X1_.leave (v := some (.int (1 : Int32))) (fun h => by first | rfl | (rw [Bd.returns] at h; cases h))
  refine ⟨_, _, pre0 _ ?_, hrun, hended, _, _, rfl, ?_, ⟨_, rfl⟩, hW, hsame.mono (by exact own_b rfl) (by exact own_b rfl)⟩
  · show Steps p.tables e below (s₁.setTop (mkF m 0 #[.val (.ref x0), .val (.ref x1), .val (.ref x2), .val (.ref x3), .val (.int jj), .unset, .unset] [])) _
    refine XS.iload X0.here hx rfl (hb hby d50_0) rfl ?_
    refine XS.aloadN X0.here hx rfl (hb hby d50_2) rfl rfl ?_
    refine st1_.trans ?_
    show Steps p.tables e below (T1_.setTop (mkF m 6 #[.val (.ref x0), .val (.ref x1), .val (.ref x2), .val (.ref x3), .val (.int jj), .unset, .unset] [(.int (Int32.ofNat (((([] : List Int32) ++ ((([] : List Int32) ++ A) ++ B)) ++ ([(58 : Int32), (32 : Int32)] : List Int32)) ++ CC).length)), (.int jj)])) _
    refine XS.icmpNo X1_.here hx rfl (hb hby d50_6) rfl (flt ((by rw [hj]; exact own_nlt (by omega) (by omega)) : ¬ (jj < (Int32.ofNat (((([] : List Int32) ++ ((([] : List Int32) ++ A) ++ B)) ++ ([(58 : Int32), (32 : Int32)] : List Int32)) ++ CC).length)))).1 ?_
    refine XS.iconst X1_.here hx rfl (hb hby d50_9) ?_
    exact retN X1_ hx (t := .boolean) Bd.returns (by simp) (hb hby d50_10) hr
  · show Q_rmM0 Z x0 x1 x2 x3 jj t0 t1 A t2 B t3 CC ii G1 G3 h0 n0 _ T1_.heap _
    rw [ek1_]
    exact ⟨rfl, N1_, rfl⟩
theorem ef_rmM1 (m : MethodId) (x0 : Addr) (x1 : Addr) (x2 : Addr) (x3 : Addr) (x4 : Int32) : entryFrame m #[(.ref x0), (.ref x1), (.ref x2), (.ref x3), (.int x4)] 7 = mkF m 0 #[.val (.ref x0), .val (.ref x1), .val (.ref x2), .val (.ref x3), .val (.int x4), .unset, .unset] [] := by first | (simp [entryFrame, mkF, argsToLocals, Value.category]; done) | rfl
theorem rmM1 (l : Launch) (Z : State) (a0 : Array Value) (hw : ∀ d ∈ tables_1, d.before a0 Z = true) (ws : List Jvm.Cond) (x0 : Addr) (x1 : Addr) (x2 : Addr) (x3 : Addr) (jj : Int32) (t0 : Addr) (t1 : Addr) (A : List Int32) (t2 : Addr) (B : List Int32) (t3 : Addr) (CC : List Int32) (ii : Nat) (G1 : Int32) (G3 : Value) (h0 : Heap) (n0 : Nat) (Z0 : n0 ≤ h0.size) (S0 : own_Str Z h0 x0 t0 (((([] : List Int32) ++ ((([] : List Int32) ++ A) ++ B)) ++ ([(58 : Int32), (32 : Int32)] : List Int32)) ++ CC)) (S1 : own_Str Z h0 x1 t1 A) (S2 : own_Str Z h0 x2 t2 B) (S3 : own_Str Z h0 x3 t3 CC) (T1 : Sta Z Z.heap "java/lang/String" "COMPACT_STRINGS" "Z" (.int G1)) (P5 : ¬ (G1 = (0 : Int32))) (O1 : Old Z n0 h0) (TF : Sta Z Z.heap "jdk/internal/util/Preconditions" "SIOOBE_FORMATTER" "Ljava/util/function/BiFunction;" G3) (rF : G3.isRef = true) (hj : jj = Int32.ofNat ii) (hk : ii ≤ 20) (hA : A.length ≤ 3) (hB : B.length ≤ 3) (hC : CC.length ≤ 3) (hc : ii < (((([] : List Int32) ++ ((([] : List Int32) ++ A) ++ B)) ++ ([(58 : Int32), (32 : Int32)] : List Int32)) ++ CC).length) (hd : ii < (A.length + B.length)) :
    MetFree l (⟨"com/example/brisk_warden/briskwarden/core/UnsupportedNumberExceptionAtPinLaw", "mc", "(Ljava/lang/String;Ljava/lang/String;Ljava/lang/String;Ljava/lang/String;I)Z"⟩ : MethodName) (head1 (Jvm.Cond.code (⟨"com/example/brisk_warden/briskwarden/core/UnsupportedNumberExceptionAtPinLaw", "mc", "(Ljava/lang/String;Ljava/lang/String;Ljava/lang/String;Ljava/lang/String;I)Z"⟩ : MethodName) method_6_code 7 (some .boolean) :: ws) ({ frames := 5, cells := 0, slots := 0, locals := 67 } : Room)) (fun a U => a = #[(.ref x0), (.ref x1), (.ref x2), (.ref x3), (.int jj)] ∧ Z.Warmed39 U.vm ∧ U.heap = h0) (fun _ _ _ _ _ => True) (fun _ U o U' => ∃ v L, o = .returned v ∧ Q_rmM0 Z x0 x1 x2 x3 jj t0 t1 A t2 B t3 CC ii G1 G3 h0 n0 v U'.heap L ∧ FrameEnd U o U' L ({ frames := 5, cells := 0, slots := 0, locals := 67 } : Room).cells ({ frames := 5, cells := 0, slots := 0, locals := 67 } : Room).slots) := by
  refine MetFree.of_bodySF (plainFor_of_name pn_com_example_brisk_warden_briskwarden_core_UnsupportedNumberExceptionAtPinLaw) hisR ?_
  intro p e s m args below meth c s₁ Bd hml0 hP hK
  obtain ⟨rfl, hZ, hh⟩ := hP
  have hx := Bd.exec
  have hby := Bd.bytes
  have hml : c.maxLocals = 7 := hml0
  have hown : s.vm.findClass "com/example/brisk_warden/briskwarden/core/UnsupportedNumberExceptionAtPinLaw" = some m.cls := findClass_of_methodNamed Bd.named
  have hnm := (name_of_methodNamed Bd.named Bd.method).1
  have X0 : Stand p l e ({ frames := 5, cells := 0, slots := 0, locals := 67 } : Room) s m #[(.ref x0), (.ref x1), (.ref x2), (.ref x3), (.int jj)] below meth c s₁ [] 0 0 := Stand.of_body Bd
  have e0 : s₁.heap = h0 := by rw [← hh, Bd.state]; rfl
  have N0 := Fr.nil n0
  have pre0 : ∀ t, Steps p.tables e below (s₁.setTop (mkF m 0 #[.val (.ref x0), .val (.ref x1), .val (.ref x2), .val (.ref x3), .val (.int jj), .unset, .unset] [])) t → Steps p.tables e below (s₁.setTop (entryFrame m #[(.ref x0), (.ref x1), (.ref x2), (.ref x3), (.int jj)] 7)) t := fun t k => castTop (ef_rmM1 m x0 x1 x2 x3 jj) k
  obtain ⟨cq2_, kq2_, qa2_, qb2_, qc2_⟩ := isOf hZ e0 S0.1
  obtain ⟨_, _, ⟨T1_, L1_, k1_, n1_⟩, -, X1_, ⟨Lc1_, hQ1_, l1_, y1_, z1_⟩, st1_⟩ := X0.virtualBack hx (y := (⟨"java/lang/String", "length", "()I"⟩ : MethodName)) (z := (⟨"java/lang/String", "length", "()I"⟩ : MethodName)) hown (mvT hZ (own_w hw 239 rfl)) (mvT hZ (own_w hw 151 rfl)) (notFace_of_selects (args := #[]) (mvT hZ (own_w hw 153 rfl))) (mvT hZ (own_w hw 153 rfl)) (mvT hZ (own_w hw 152 rfl)) (by decide) (own_lenB (W := 1) hZ hw S0 T1 P5 O1 (by decide) (by decide)) qa2_ qc2_ (g := (mkF m 3 #[.val (.ref x0), .val (.ref x1), .val (.ref x2), .val (.ref x3), .val (.int jj), .unset, .unset] [(.ref x0), (.int jj)])) rfl (by rw [hml]; rfl) (Steps.refl _) (argsL := []) (rest := [(.int jj)]) (lenOf pd_qzI rfl) rfl (by show 2 * 0 + _ ≤ _; exact Nat.le_of_eq rfl) (hb hby d50_3) (fun _ _ => ⟨rfl, e0, (by exact own_b rfl), (by exact own_b rfl)⟩)
  dsimp only [Pt.U, Pt.locs, Pt.cells, Pt.slots] at X1_ l1_ y1_ z1_ st1_ hQ1_
  subst L1_ k1_ n1_
  obtain ⟨rfl, rfl, ek1_⟩ := hQ1_
  have N1_ := Fr.app N0 (Fr.nil n0)
  obtain ⟨cq4_, kq4_, qa4_, qb4_, qc4_⟩ := isOf hZ ek1_ S1.1
  obtain ⟨_, _, ⟨T3_, L3_, k3_, n3_⟩, -, X3_, ⟨Lc3_, hQ3_, l3_, y3_, z3_⟩, st3_⟩ := X1_.virtualBack hx (y := (⟨"java/lang/String", "length", "()I"⟩ : MethodName)) (z := (⟨"java/lang/String", "length", "()I"⟩ : MethodName)) hown (mvT hZ (own_w hw 239 rfl)) (mvT hZ (own_w hw 151 rfl)) (notFace_of_selects (args := #[]) (mvT hZ (own_w hw 153 rfl))) (mvT hZ (own_w hw 153 rfl)) (mvT hZ (own_w hw 152 rfl)) (by decide) (own_lenB (W := 0) hZ hw S1 T1 P5 O1 (by decide) (by decide)) qa4_ qc4_ (g := (mkF m 12 #[.val (.ref x0), .val (.ref x1), .val (.ref x2), .val (.ref x3), .val (.int jj), .unset, .unset] [(.ref x1)])) rfl (by rw [hml]; rfl) (Steps.refl _) (argsL := []) (rest := []) (lenOf pd_qzI rfl) rfl (by show 2 * 0 + _ ≤ _; exact Nat.le_of_eq rfl) (hb hby d50_12) (fun _ _ => ⟨rfl, ek1_, (by exact own_b rfl), (by exact own_b rfl)⟩)
  dsimp only [Pt.U, Pt.locs, Pt.cells, Pt.slots] at X3_ l3_ y3_ z3_ st3_ hQ3_
  subst L3_ k3_ n3_
  obtain ⟨rfl, rfl, ek3_⟩ := hQ3_
  have N3_ := Fr.app N1_ (Fr.nil n0)
  obtain ⟨cq6_, kq6_, qa6_, qb6_, qc6_⟩ := isOf hZ ek3_ S2.1
  obtain ⟨_, _, ⟨T5_, L5_, k5_, n5_⟩, -, X5_, ⟨Lc5_, hQ5_, l5_, y5_, z5_⟩, st5_⟩ := X3_.virtualBack hx (y := (⟨"java/lang/String", "length", "()I"⟩ : MethodName)) (z := (⟨"java/lang/String", "length", "()I"⟩ : MethodName)) hown (mvT hZ (own_w hw 239 rfl)) (mvT hZ (own_w hw 151 rfl)) (notFace_of_selects (args := #[]) (mvT hZ (own_w hw 153 rfl))) (mvT hZ (own_w hw 153 rfl)) (mvT hZ (own_w hw 152 rfl)) (by decide) (own_lenB (W := 1) hZ hw S2 T1 P5 O1 (by decide) (by decide)) qa6_ qc6_ (g := (mkF m 16 #[.val (.ref x0), .val (.ref x1), .val (.ref x2), .val (.ref x3), .val (.int jj), .unset, .unset] [(.ref x2), (.int (Int32.ofNat A.length))])) rfl (by rw [hml]; rfl) (Steps.refl _) (argsL := []) (rest := [(.int (Int32.ofNat A.length))]) (lenOf pd_qzI rfl) rfl (by show 2 * 0 + _ ≤ _; exact Nat.le_of_eq rfl) (hb hby d50_16) (fun _ _ => ⟨rfl, ek3_, (by exact own_b rfl), (by exact own_b rfl)⟩)
  dsimp only [Pt.U, Pt.locs, Pt.cells, Pt.slots] at X5_ l5_ y5_ z5_ st5_ hQ5_
  subst L5_ k5_ n5_
  obtain ⟨rfl, rfl, ek5_⟩ := hQ5_
  have N5_ := Fr.app N3_ (Fr.nil n0)
  obtain ⟨_, _, ⟨T7_, L7_, k7_, n7_⟩, -, X7_, ⟨Lc7_, hQ7_, l7_, y7_, z7_⟩, st7_⟩ := Jvm.LawKit.callS X5_ hx (y := (⟨"com/example/brisk_warden/briskwarden/core/UnsupportedNumberExceptionAtPinLaw", "cat", "(Ljava/lang/String;Ljava/lang/String;I)C"⟩ : MethodName)) hown (mvT hZ (own_w hw 264 rfl)) (mvT hZ (own_w hw 265 rfl)) (mvT hZ (own_w hw 2 rfl)) (mvT hZ (own_w hw 266 rfl)) (by decide) (backOf (W := 0) (rmCat l Z a0 hw [] x1 x2 jj t1 A t2 B ii G1 G3 h0 n0 Z0 S1 S2 T1 P5 O1 TF rF hj (by rw [List.length_append]; exact hd) hk) hZ (own_w hw 266 rfl) (own_w hw 2 rfl) (by decide) (by decide)) (g := (mkF m 33 #[.val (.ref x0), .val (.ref x1), .val (.ref x2), .val (.ref x3), .val (.int jj), .val (.int (Int32.ofNat (A.length + B.length))), .unset] [(.int jj), (.ref x2), (.ref x1)])) rfl (by rw [hml]; rfl) (argsL := [(.ref x1), (.ref x2), (.int jj)]) (rest := []) (lenOf pd_qLjava_lang_StringLjava_lang_StringIzC rfl) rfl (by show 2 * 0 + _ ≤ _; exact Nat.le_of_eq rfl) (hb hby d50_33) (fun _ _ => ⟨rfl, ek5_, (by exact own_b rfl), (by exact own_b rfl)⟩)
  dsimp only [Pt.U, Pt.locs, Pt.cells, Pt.slots] at X7_ l7_ y7_ z7_ st7_ hQ7_
  subst L7_ k7_ n7_
  obtain ⟨rfl, Nq7_, ek7_⟩ := hQ7_
  have N7_ := Fr.app N5_ Nq7_
  obtain ⟨cq9_, kq9_, qa9_, qb9_, qc9_⟩ := isOf hZ ek7_ S0.1
  obtain ⟨_, _, ⟨T8_, L8_, k8_, n8_⟩, -, X8_, ⟨Lc8_, hQ8_, l8_, y8_, z8_⟩, st8_⟩ := X7_.virtualBack hx (y := (⟨"java/lang/String", "charAt", "(I)C"⟩ : MethodName)) (z := (⟨"java/lang/String", "charAt", "(I)C"⟩ : MethodName)) hown (mvT hZ (own_w hw 243 rfl)) (mvT hZ (own_w hw 244 rfl)) (notFace_of_selects (args := #[]) (mvT hZ (own_w hw 246 rfl))) (mvT hZ (own_w hw 246 rfl)) (mvT hZ (own_w hw 245 rfl)) (by decide) (own_chB (W := 0) hZ hw S0 T1 P5 O1 TF rF (i := ii) (j := jj) hc hj (by decide) (by decide)) qa9_ qc9_ (g := (mkF m 87 #[.val (.ref x0), .val (.ref x1), .val (.ref x2), .val (.ref x3), .val (.int jj), .val (.int (Int32.ofNat (A.length + B.length))), .val (.int (nar .char ((A ++ B).getD ii 0)))] [(.int jj), (.ref x0)])) rfl (by rw [hml]; rfl) (Steps.refl _) (argsL := [(.int jj)]) (rest := []) (lenOf pd_qIzC rfl) rfl (by show 2 * 0 + _ ≤ _; exact Nat.le_of_eq rfl) (hb hby d50_87) (fun _ _ => ⟨rfl, ek7_, (by exact own_b rfl), (by exact own_b rfl)⟩)
  dsimp only [Pt.U, Pt.locs, Pt.cells, Pt.slots] at X8_ l8_ y8_ z8_ st8_ hQ8_
  subst L8_ k8_ n8_
  obtain ⟨rfl, rfl, ek8_⟩ := hQ8_
  have N8_ := Fr.app N7_ (Fr.nil n0)
  obtain ⟨fs, hr, hrun, hended, hW, hsame⟩ := X8_.leave (v := some (.int (1 : Int32))) (fun h => by first | rfl | (rw [Bd.returns] at h; cases h))
  refine ⟨_, _, pre0 _ ?_, hrun, hended, _, _, rfl, ?_, ⟨_, rfl⟩, hW, hsame.mono (by exact own_b rfl) (by exact own_b rfl)⟩
  · show Steps p.tables e below (s₁.setTop (mkF m 0 #[.val (.ref x0), .val (.ref x1), .val (.ref x2), .val (.ref x3), .val (.int jj), .unset, .unset] [])) _
    refine XS.iload X0.here hx rfl (hb hby d50_0) rfl ?_
    refine XS.aloadN X0.here hx rfl (hb hby d50_2) rfl rfl ?_
    refine st1_.trans ?_
    show Steps p.tables e below (T1_.setTop (mkF m 6 #[.val (.ref x0), .val (.ref x1), .val (.ref x2), .val (.ref x3), .val (.int jj), .unset, .unset] [(.int (Int32.ofNat (((([] : List Int32) ++ ((([] : List Int32) ++ A) ++ B)) ++ ([(58 : Int32), (32 : Int32)] : List Int32)) ++ CC).length)), (.int jj)])) _
    refine XS.icmpYes X1_.here hx rfl (pc0 := 6) (pc' := 11) rfl (hb hby d50_6) rfl (tlt ((by rw [hj]; exact own_ltn S0.2.2.2.2.2 hc) : jj < (Int32.ofNat (((([] : List Int32) ++ ((([] : List Int32) ++ A) ++ B)) ++ ([(58 : Int32), (32 : Int32)] : List Int32)) ++ CC).length))).1 (by decide) (by decide) ?_
    refine XS.aloadN X1_.here hx rfl (hb hby d50_11) rfl rfl ?_
    refine st3_.trans ?_
    show Steps p.tables e below (T3_.setTop (mkF m 15 #[.val (.ref x0), .val (.ref x1), .val (.ref x2), .val (.ref x3), .val (.int jj), .unset, .unset] [(.int (Int32.ofNat A.length))])) _
    refine XS.aloadN X3_.here hx rfl (hb hby d50_15) rfl rfl ?_
    refine st5_.trans ?_
    show Steps p.tables e below (T5_.setTop (mkF m 19 #[.val (.ref x0), .val (.ref x1), .val (.ref x2), .val (.ref x3), .val (.int jj), .unset, .unset] [(.int (Int32.ofNat B.length)), (.int (Int32.ofNat A.length))])) _
    refine XS.iadd X5_.here hx rfl (hb hby d50_19) rfl ?_
    show Steps p.tables e below (T5_.setTop (mkF m 20 #[.val (.ref x0), .val (.ref x1), .val (.ref x2), .val (.ref x3), .val (.int jj), .unset, .unset] [(.int ((Int32.ofNat A.length) + (Int32.ofNat B.length)))])) _
    rw [own_addn]
    show Steps p.tables e below (T5_.setTop (mkF m 20 #[.val (.ref x0), .val (.ref x1), .val (.ref x2), .val (.ref x3), .val (.int jj), .unset, .unset] [(.int (Int32.ofNat (A.length + B.length)))])) _
    refine XS.istore X5_.here hx rfl (hb hby d50_20) rfl (l' := #[.val (.ref x0), .val (.ref x1), .val (.ref x2), .val (.ref x3), .val (.int jj), .val (.int (Int32.ofNat (A.length + B.length))), .unset]) rfl ?_
    show Steps p.tables e below (T5_.setTop (mkF m 22 #[.val (.ref x0), .val (.ref x1), .val (.ref x2), .val (.ref x3), .val (.int jj), .val (.int (Int32.ofNat (A.length + B.length))), .unset] [])) _
    refine XS.iload X5_.here hx rfl (hb hby d50_22) rfl ?_
    refine XS.iload X5_.here hx rfl (hb hby d50_24) rfl ?_
    refine XS.icmpNo X5_.here hx rfl (hb hby d50_26) rfl (tlt ((by rw [hj]; exact own_ltn (by omega) hd) : jj < (Int32.ofNat (A.length + B.length)))).2.1 ?_
    refine XS.aloadN X5_.here hx rfl (hb hby d50_29) rfl rfl ?_
    refine XS.aloadN X5_.here hx rfl (hb hby d50_30) rfl rfl ?_
    refine XS.iload X5_.here hx rfl (hb hby d50_31) rfl ?_
    refine st7_ _ ?_
    show Steps p.tables e below (T7_.setTop (mkF m 36 #[.val (.ref x0), .val (.ref x1), .val (.ref x2), .val (.ref x3), .val (.int jj), .val (.int (Int32.ofNat (A.length + B.length))), .unset] [(.int (nar .char ((A ++ B).getD ii 0)))])) _
    refine XS.istore X7_.here hx rfl (hb hby d50_36) rfl (l' := #[.val (.ref x0), .val (.ref x1), .val (.ref x2), .val (.ref x3), .val (.int jj), .val (.int (Int32.ofNat (A.length + B.length))), .val (.int (nar .char ((A ++ B).getD ii 0)))]) rfl ?_
    show Steps p.tables e below (T7_.setTop (mkF m 38 #[.val (.ref x0), .val (.ref x1), .val (.ref x2), .val (.ref x3), .val (.int jj), .val (.int (Int32.ofNat (A.length + B.length))), .val (.int (nar .char ((A ++ B).getD ii 0)))] [])) _
    refine XS.goto X7_.here hx rfl (pc0 := 38) (pc' := 84) rfl (hb hby d50_38) (by decide) (by decide) ?_
    refine XS.aloadN X7_.here hx rfl (hb hby d50_84) rfl rfl ?_
    refine XS.iload X7_.here hx rfl (hb hby d50_85) rfl ?_
    refine st8_.trans ?_
    show Steps p.tables e below (T8_.setTop (mkF m 90 #[.val (.ref x0), .val (.ref x1), .val (.ref x2), .val (.ref x3), .val (.int jj), .val (.int (Int32.ofNat (A.length + B.length))), .val (.int (nar .char ((A ++ B).getD ii 0)))] [(.int ((((([] : List Int32) ++ ((([] : List Int32) ++ A) ++ B)) ++ ([(58 : Int32), (32 : Int32)] : List Int32)) ++ CC).getD ii 0))])) _
    refine XS.iload X8_.here hx rfl (hb hby d50_90) rfl ?_
    refine XS.icmpNo X8_.here hx rfl (hb hby d50_92) rfl (teq ((own_mc1 S1.2.2.2.2.1 S2.2.2.2.2.1 hd) : ((((([] : List Int32) ++ ((([] : List Int32) ++ A) ++ B)) ++ ([(58 : Int32), (32 : Int32)] : List Int32)) ++ CC).getD ii 0) = (nar .char ((A ++ B).getD ii 0)))).2 ?_
    refine XS.iconst X8_.here hx rfl (hb hby d50_95) ?_
    refine XS.goto X8_.here hx rfl (pc0 := 96) (pc' := 100) rfl (hb hby d50_96) (by decide) (by decide) ?_
    exact retN X8_ hx (t := .boolean) Bd.returns (by simp) (hb hby d50_100) hr
  · show Q_rmM0 Z x0 x1 x2 x3 jj t0 t1 A t2 B t3 CC ii G1 G3 h0 n0 _ T8_.heap _
    rw [ek8_]
    exact ⟨rfl, N8_, rfl⟩
theorem ef_rmM2 (m : MethodId) (x0 : Addr) (x1 : Addr) (x2 : Addr) (x3 : Addr) (x4 : Int32) : entryFrame m #[(.ref x0), (.ref x1), (.ref x2), (.ref x3), (.int x4)] 7 = mkF m 0 #[.val (.ref x0), .val (.ref x1), .val (.ref x2), .val (.ref x3), .val (.int x4), .unset, .unset] [] := by first | (simp [entryFrame, mkF, argsToLocals, Value.category]; done) | rfl
theorem rmM2 (l : Launch) (Z : State) (a0 : Array Value) (hw : ∀ d ∈ tables_1, d.before a0 Z = true) (ws : List Jvm.Cond) (x0 : Addr) (x1 : Addr) (x2 : Addr) (x3 : Addr) (jj : Int32) (t0 : Addr) (t1 : Addr) (A : List Int32) (t2 : Addr) (B : List Int32) (t3 : Addr) (CC : List Int32) (ii : Nat) (G1 : Int32) (G3 : Value) (h0 : Heap) (n0 : Nat) (Z0 : n0 ≤ h0.size) (S0 : own_Str Z h0 x0 t0 (((([] : List Int32) ++ ((([] : List Int32) ++ A) ++ B)) ++ ([(58 : Int32), (32 : Int32)] : List Int32)) ++ CC)) (S1 : own_Str Z h0 x1 t1 A) (S2 : own_Str Z h0 x2 t2 B) (S3 : own_Str Z h0 x3 t3 CC) (T1 : Sta Z Z.heap "java/lang/String" "COMPACT_STRINGS" "Z" (.int G1)) (P5 : ¬ (G1 = (0 : Int32))) (O1 : Old Z n0 h0) (TF : Sta Z Z.heap "jdk/internal/util/Preconditions" "SIOOBE_FORMATTER" "Ljava/util/function/BiFunction;" G3) (rF : G3.isRef = true) (hj : jj = Int32.ofNat ii) (hk : ii ≤ 20) (hA : A.length ≤ 3) (hB : B.length ≤ 3) (hC : CC.length ≤ 3) (hc : ii < (((([] : List Int32) ++ ((([] : List Int32) ++ A) ++ B)) ++ ([(58 : Int32), (32 : Int32)] : List Int32)) ++ CC).length) (hd : ii = (A.length + B.length)) :
    MetFree l (⟨"com/example/brisk_warden/briskwarden/core/UnsupportedNumberExceptionAtPinLaw", "mc", "(Ljava/lang/String;Ljava/lang/String;Ljava/lang/String;Ljava/lang/String;I)Z"⟩ : MethodName) (head1 (Jvm.Cond.code (⟨"com/example/brisk_warden/briskwarden/core/UnsupportedNumberExceptionAtPinLaw", "mc", "(Ljava/lang/String;Ljava/lang/String;Ljava/lang/String;Ljava/lang/String;I)Z"⟩ : MethodName) method_6_code 7 (some .boolean) :: ws) ({ frames := 5, cells := 0, slots := 0, locals := 67 } : Room)) (fun a U => a = #[(.ref x0), (.ref x1), (.ref x2), (.ref x3), (.int jj)] ∧ Z.Warmed39 U.vm ∧ U.heap = h0) (fun _ _ _ _ _ => True) (fun _ U o U' => ∃ v L, o = .returned v ∧ Q_rmM0 Z x0 x1 x2 x3 jj t0 t1 A t2 B t3 CC ii G1 G3 h0 n0 v U'.heap L ∧ FrameEnd U o U' L ({ frames := 5, cells := 0, slots := 0, locals := 67 } : Room).cells ({ frames := 5, cells := 0, slots := 0, locals := 67 } : Room).slots) := by
  refine MetFree.of_bodySF (plainFor_of_name pn_com_example_brisk_warden_briskwarden_core_UnsupportedNumberExceptionAtPinLaw) hisR ?_
  intro p e s m args below meth c s₁ Bd hml0 hP hK
  obtain ⟨rfl, hZ, hh⟩ := hP
  have hx := Bd.exec
  have hby := Bd.bytes
  have hml : c.maxLocals = 7 := hml0
  have hown : s.vm.findClass "com/example/brisk_warden/briskwarden/core/UnsupportedNumberExceptionAtPinLaw" = some m.cls := findClass_of_methodNamed Bd.named
  have hnm := (name_of_methodNamed Bd.named Bd.method).1
  have X0 : Stand p l e ({ frames := 5, cells := 0, slots := 0, locals := 67 } : Room) s m #[(.ref x0), (.ref x1), (.ref x2), (.ref x3), (.int jj)] below meth c s₁ [] 0 0 := Stand.of_body Bd
  have e0 : s₁.heap = h0 := by rw [← hh, Bd.state]; rfl
  have N0 := Fr.nil n0
  have pre0 : ∀ t, Steps p.tables e below (s₁.setTop (mkF m 0 #[.val (.ref x0), .val (.ref x1), .val (.ref x2), .val (.ref x3), .val (.int jj), .unset, .unset] [])) t → Steps p.tables e below (s₁.setTop (entryFrame m #[(.ref x0), (.ref x1), (.ref x2), (.ref x3), (.int jj)] 7)) t := fun t k => castTop (ef_rmM2 m x0 x1 x2 x3 jj) k
  obtain ⟨cq2_, kq2_, qa2_, qb2_, qc2_⟩ := isOf hZ e0 S0.1
  obtain ⟨_, _, ⟨T1_, L1_, k1_, n1_⟩, -, X1_, ⟨Lc1_, hQ1_, l1_, y1_, z1_⟩, st1_⟩ := X0.virtualBack hx (y := (⟨"java/lang/String", "length", "()I"⟩ : MethodName)) (z := (⟨"java/lang/String", "length", "()I"⟩ : MethodName)) hown (mvT hZ (own_w hw 239 rfl)) (mvT hZ (own_w hw 151 rfl)) (notFace_of_selects (args := #[]) (mvT hZ (own_w hw 153 rfl))) (mvT hZ (own_w hw 153 rfl)) (mvT hZ (own_w hw 152 rfl)) (by decide) (own_lenB (W := 1) hZ hw S0 T1 P5 O1 (by decide) (by decide)) qa2_ qc2_ (g := (mkF m 3 #[.val (.ref x0), .val (.ref x1), .val (.ref x2), .val (.ref x3), .val (.int jj), .unset, .unset] [(.ref x0), (.int jj)])) rfl (by rw [hml]; rfl) (Steps.refl _) (argsL := []) (rest := [(.int jj)]) (lenOf pd_qzI rfl) rfl (by show 2 * 0 + _ ≤ _; exact Nat.le_of_eq rfl) (hb hby d50_3) (fun _ _ => ⟨rfl, e0, (by exact own_b rfl), (by exact own_b rfl)⟩)
  dsimp only [Pt.U, Pt.locs, Pt.cells, Pt.slots] at X1_ l1_ y1_ z1_ st1_ hQ1_
  subst L1_ k1_ n1_
  obtain ⟨rfl, rfl, ek1_⟩ := hQ1_
  have N1_ := Fr.app N0 (Fr.nil n0)
  obtain ⟨cq4_, kq4_, qa4_, qb4_, qc4_⟩ := isOf hZ ek1_ S1.1
  obtain ⟨_, _, ⟨T3_, L3_, k3_, n3_⟩, -, X3_, ⟨Lc3_, hQ3_, l3_, y3_, z3_⟩, st3_⟩ := X1_.virtualBack hx (y := (⟨"java/lang/String", "length", "()I"⟩ : MethodName)) (z := (⟨"java/lang/String", "length", "()I"⟩ : MethodName)) hown (mvT hZ (own_w hw 239 rfl)) (mvT hZ (own_w hw 151 rfl)) (notFace_of_selects (args := #[]) (mvT hZ (own_w hw 153 rfl))) (mvT hZ (own_w hw 153 rfl)) (mvT hZ (own_w hw 152 rfl)) (by decide) (own_lenB (W := 0) hZ hw S1 T1 P5 O1 (by decide) (by decide)) qa4_ qc4_ (g := (mkF m 12 #[.val (.ref x0), .val (.ref x1), .val (.ref x2), .val (.ref x3), .val (.int jj), .unset, .unset] [(.ref x1)])) rfl (by rw [hml]; rfl) (Steps.refl _) (argsL := []) (rest := []) (lenOf pd_qzI rfl) rfl (by show 2 * 0 + _ ≤ _; exact Nat.le_of_eq rfl) (hb hby d50_12) (fun _ _ => ⟨rfl, ek1_, (by exact own_b rfl), (by exact own_b rfl)⟩)
  dsimp only [Pt.U, Pt.locs, Pt.cells, Pt.slots] at X3_ l3_ y3_ z3_ st3_ hQ3_
  subst L3_ k3_ n3_
  obtain ⟨rfl, rfl, ek3_⟩ := hQ3_
  have N3_ := Fr.app N1_ (Fr.nil n0)
  obtain ⟨cq6_, kq6_, qa6_, qb6_, qc6_⟩ := isOf hZ ek3_ S2.1
  obtain ⟨_, _, ⟨T5_, L5_, k5_, n5_⟩, -, X5_, ⟨Lc5_, hQ5_, l5_, y5_, z5_⟩, st5_⟩ := X3_.virtualBack hx (y := (⟨"java/lang/String", "length", "()I"⟩ : MethodName)) (z := (⟨"java/lang/String", "length", "()I"⟩ : MethodName)) hown (mvT hZ (own_w hw 239 rfl)) (mvT hZ (own_w hw 151 rfl)) (notFace_of_selects (args := #[]) (mvT hZ (own_w hw 153 rfl))) (mvT hZ (own_w hw 153 rfl)) (mvT hZ (own_w hw 152 rfl)) (by decide) (own_lenB (W := 1) hZ hw S2 T1 P5 O1 (by decide) (by decide)) qa6_ qc6_ (g := (mkF m 16 #[.val (.ref x0), .val (.ref x1), .val (.ref x2), .val (.ref x3), .val (.int jj), .unset, .unset] [(.ref x2), (.int (Int32.ofNat A.length))])) rfl (by rw [hml]; rfl) (Steps.refl _) (argsL := []) (rest := [(.int (Int32.ofNat A.length))]) (lenOf pd_qzI rfl) rfl (by show 2 * 0 + _ ≤ _; exact Nat.le_of_eq rfl) (hb hby d50_16) (fun _ _ => ⟨rfl, ek3_, (by exact own_b rfl), (by exact own_b rfl)⟩)
  dsimp only [Pt.U, Pt.locs, Pt.cells, Pt.slots] at X5_ l5_ y5_ z5_ st5_ hQ5_
  subst L5_ k5_ n5_
  obtain ⟨rfl, rfl, ek5_⟩ := hQ5_
  have N5_ := Fr.app N3_ (Fr.nil n0)
  obtain ⟨cq8_, kq8_, qa8_, qb8_, qc8_⟩ := isOf hZ ek5_ S0.1
  obtain ⟨_, _, ⟨T7_, L7_, k7_, n7_⟩, -, X7_, ⟨Lc7_, hQ7_, l7_, y7_, z7_⟩, st7_⟩ := X5_.virtualBack hx (y := (⟨"java/lang/String", "charAt", "(I)C"⟩ : MethodName)) (z := (⟨"java/lang/String", "charAt", "(I)C"⟩ : MethodName)) hown (mvT hZ (own_w hw 243 rfl)) (mvT hZ (own_w hw 244 rfl)) (notFace_of_selects (args := #[]) (mvT hZ (own_w hw 246 rfl))) (mvT hZ (own_w hw 246 rfl)) (mvT hZ (own_w hw 245 rfl)) (by decide) (own_chB (W := 0) hZ hw S0 T1 P5 O1 TF rF (i := ii) (j := jj) hc hj (by decide) (by decide)) qa8_ qc8_ (g := (mkF m 87 #[.val (.ref x0), .val (.ref x1), .val (.ref x2), .val (.ref x3), .val (.int jj), .val (.int (Int32.ofNat (A.length + B.length))), .val (.int (58 : Int32))] [(.int jj), (.ref x0)])) rfl (by rw [hml]; rfl) (Steps.refl _) (argsL := [(.int jj)]) (rest := []) (lenOf pd_qIzC rfl) rfl (by show 2 * 0 + _ ≤ _; exact Nat.le_of_eq rfl) (hb hby d50_87) (fun _ _ => ⟨rfl, ek5_, (by exact own_b rfl), (by exact own_b rfl)⟩)
  dsimp only [Pt.U, Pt.locs, Pt.cells, Pt.slots] at X7_ l7_ y7_ z7_ st7_ hQ7_
  subst L7_ k7_ n7_
  obtain ⟨rfl, rfl, ek7_⟩ := hQ7_
  have N7_ := Fr.app N5_ (Fr.nil n0)
  obtain ⟨fs, hr, hrun, hended, hW, hsame⟩ := X7_.leave (v := some (.int (1 : Int32))) (fun h => by first | rfl | (rw [Bd.returns] at h; cases h))
  refine ⟨_, _, pre0 _ ?_, hrun, hended, _, _, rfl, ?_, ⟨_, rfl⟩, hW, hsame.mono (by exact own_b rfl) (by exact own_b rfl)⟩
  · show Steps p.tables e below (s₁.setTop (mkF m 0 #[.val (.ref x0), .val (.ref x1), .val (.ref x2), .val (.ref x3), .val (.int jj), .unset, .unset] [])) _
    refine XS.iload X0.here hx rfl (hb hby d50_0) rfl ?_
    refine XS.aloadN X0.here hx rfl (hb hby d50_2) rfl rfl ?_
    refine st1_.trans ?_
    show Steps p.tables e below (T1_.setTop (mkF m 6 #[.val (.ref x0), .val (.ref x1), .val (.ref x2), .val (.ref x3), .val (.int jj), .unset, .unset] [(.int (Int32.ofNat (((([] : List Int32) ++ ((([] : List Int32) ++ A) ++ B)) ++ ([(58 : Int32), (32 : Int32)] : List Int32)) ++ CC).length)), (.int jj)])) _
    refine XS.icmpYes X1_.here hx rfl (pc0 := 6) (pc' := 11) rfl (hb hby d50_6) rfl (tlt ((by rw [hj]; exact own_ltn S0.2.2.2.2.2 hc) : jj < (Int32.ofNat (((([] : List Int32) ++ ((([] : List Int32) ++ A) ++ B)) ++ ([(58 : Int32), (32 : Int32)] : List Int32)) ++ CC).length))).1 (by decide) (by decide) ?_
    refine XS.aloadN X1_.here hx rfl (hb hby d50_11) rfl rfl ?_
    refine st3_.trans ?_
    show Steps p.tables e below (T3_.setTop (mkF m 15 #[.val (.ref x0), .val (.ref x1), .val (.ref x2), .val (.ref x3), .val (.int jj), .unset, .unset] [(.int (Int32.ofNat A.length))])) _
    refine XS.aloadN X3_.here hx rfl (hb hby d50_15) rfl rfl ?_
    refine st5_.trans ?_
    show Steps p.tables e below (T5_.setTop (mkF m 19 #[.val (.ref x0), .val (.ref x1), .val (.ref x2), .val (.ref x3), .val (.int jj), .unset, .unset] [(.int (Int32.ofNat B.length)), (.int (Int32.ofNat A.length))])) _
    refine XS.iadd X5_.here hx rfl (hb hby d50_19) rfl ?_
    show Steps p.tables e below (T5_.setTop (mkF m 20 #[.val (.ref x0), .val (.ref x1), .val (.ref x2), .val (.ref x3), .val (.int jj), .unset, .unset] [(.int ((Int32.ofNat A.length) + (Int32.ofNat B.length)))])) _
    rw [own_addn]
    show Steps p.tables e below (T5_.setTop (mkF m 20 #[.val (.ref x0), .val (.ref x1), .val (.ref x2), .val (.ref x3), .val (.int jj), .unset, .unset] [(.int (Int32.ofNat (A.length + B.length)))])) _
    refine XS.istore X5_.here hx rfl (hb hby d50_20) rfl (l' := #[.val (.ref x0), .val (.ref x1), .val (.ref x2), .val (.ref x3), .val (.int jj), .val (.int (Int32.ofNat (A.length + B.length))), .unset]) rfl ?_
    show Steps p.tables e below (T5_.setTop (mkF m 22 #[.val (.ref x0), .val (.ref x1), .val (.ref x2), .val (.ref x3), .val (.int jj), .val (.int (Int32.ofNat (A.length + B.length))), .unset] [])) _
    refine XS.iload X5_.here hx rfl (hb hby d50_22) rfl ?_
    refine XS.iload X5_.here hx rfl (hb hby d50_24) rfl ?_
    refine XS.icmpYes X5_.here hx rfl (pc0 := 26) (pc' := 41) rfl (hb hby d50_26) rfl (flt ((by rw [hj]; exact own_nlt (by omega) (by omega)) : ¬ (jj < (Int32.ofNat (A.length + B.length))))).2.1 (by decide) (by decide) ?_
    refine XS.iload X5_.here hx rfl (hb hby d50_41) rfl ?_
    refine XS.iload X5_.here hx rfl (hb hby d50_43) rfl ?_
    refine XS.icmpNo X5_.here hx rfl (hb hby d50_45) rfl (teq ((by rw [hj, hd]) : jj = (Int32.ofNat (A.length + B.length)))).2 ?_
    refine XS.bipush X5_.here hx rfl (hb hby d50_48) ?_
    refine XS.istore X5_.here hx rfl (hb hby d50_50) rfl (l' := #[.val (.ref x0), .val (.ref x1), .val (.ref x2), .val (.ref x3), .val (.int jj), .val (.int (Int32.ofNat (A.length + B.length))), .val (.int (58 : Int32))]) rfl ?_
    show Steps p.tables e below (T5_.setTop (mkF m 52 #[.val (.ref x0), .val (.ref x1), .val (.ref x2), .val (.ref x3), .val (.int jj), .val (.int (Int32.ofNat (A.length + B.length))), .val (.int (58 : Int32))] [])) _
    refine XS.goto X5_.here hx rfl (pc0 := 52) (pc' := 84) rfl (hb hby d50_52) (by decide) (by decide) ?_
    refine XS.aloadN X5_.here hx rfl (hb hby d50_84) rfl rfl ?_
    refine XS.iload X5_.here hx rfl (hb hby d50_85) rfl ?_
    refine st7_.trans ?_
    show Steps p.tables e below (T7_.setTop (mkF m 90 #[.val (.ref x0), .val (.ref x1), .val (.ref x2), .val (.ref x3), .val (.int jj), .val (.int (Int32.ofNat (A.length + B.length))), .val (.int (58 : Int32))] [(.int ((((([] : List Int32) ++ ((([] : List Int32) ++ A) ++ B)) ++ ([(58 : Int32), (32 : Int32)] : List Int32)) ++ CC).getD ii 0))])) _
    refine XS.iload X7_.here hx rfl (hb hby d50_90) rfl ?_
    refine XS.icmpNo X7_.here hx rfl (hb hby d50_92) rfl (teq ((own_mc2 hd) : ((((([] : List Int32) ++ ((([] : List Int32) ++ A) ++ B)) ++ ([(58 : Int32), (32 : Int32)] : List Int32)) ++ CC).getD ii 0) = (58 : Int32))).2 ?_
    refine XS.iconst X7_.here hx rfl (hb hby d50_95) ?_
    refine XS.goto X7_.here hx rfl (pc0 := 96) (pc' := 100) rfl (hb hby d50_96) (by decide) (by decide) ?_
    exact retN X7_ hx (t := .boolean) Bd.returns (by simp) (hb hby d50_100) hr
  · show Q_rmM0 Z x0 x1 x2 x3 jj t0 t1 A t2 B t3 CC ii G1 G3 h0 n0 _ T7_.heap _
    rw [ek7_]
    exact ⟨rfl, N7_, rfl⟩
theorem ef_rmM3 (m : MethodId) (x0 : Addr) (x1 : Addr) (x2 : Addr) (x3 : Addr) (x4 : Int32) : entryFrame m #[(.ref x0), (.ref x1), (.ref x2), (.ref x3), (.int x4)] 7 = mkF m 0 #[.val (.ref x0), .val (.ref x1), .val (.ref x2), .val (.ref x3), .val (.int x4), .unset, .unset] [] := by first | (simp [entryFrame, mkF, argsToLocals, Value.category]; done) | rfl
theorem rmM3 (l : Launch) (Z : State) (a0 : Array Value) (hw : ∀ d ∈ tables_1, d.before a0 Z = true) (ws : List Jvm.Cond) (x0 : Addr) (x1 : Addr) (x2 : Addr) (x3 : Addr) (jj : Int32) (t0 : Addr) (t1 : Addr) (A : List Int32) (t2 : Addr) (B : List Int32) (t3 : Addr) (CC : List Int32) (ii : Nat) (G1 : Int32) (G3 : Value) (h0 : Heap) (n0 : Nat) (Z0 : n0 ≤ h0.size) (S0 : own_Str Z h0 x0 t0 (((([] : List Int32) ++ ((([] : List Int32) ++ A) ++ B)) ++ ([(58 : Int32), (32 : Int32)] : List Int32)) ++ CC)) (S1 : own_Str Z h0 x1 t1 A) (S2 : own_Str Z h0 x2 t2 B) (S3 : own_Str Z h0 x3 t3 CC) (T1 : Sta Z Z.heap "java/lang/String" "COMPACT_STRINGS" "Z" (.int G1)) (P5 : ¬ (G1 = (0 : Int32))) (O1 : Old Z n0 h0) (TF : Sta Z Z.heap "jdk/internal/util/Preconditions" "SIOOBE_FORMATTER" "Ljava/util/function/BiFunction;" G3) (rF : G3.isRef = true) (hj : jj = Int32.ofNat ii) (hk : ii ≤ 20) (hA : A.length ≤ 3) (hB : B.length ≤ 3) (hC : CC.length ≤ 3) (hc : ii < (((([] : List Int32) ++ ((([] : List Int32) ++ A) ++ B)) ++ ([(58 : Int32), (32 : Int32)] : List Int32)) ++ CC).length) (hd : ii = (A.length + B.length) + 1) :
    MetFree l (⟨"com/example/brisk_warden/briskwarden/core/UnsupportedNumberExceptionAtPinLaw", "mc", "(Ljava/lang/String;Ljava/lang/String;Ljava/lang/String;Ljava/lang/String;I)Z"⟩ : MethodName) (head1 (Jvm.Cond.code (⟨"com/example/brisk_warden/briskwarden/core/UnsupportedNumberExceptionAtPinLaw", "mc", "(Ljava/lang/String;Ljava/lang/String;Ljava/lang/String;Ljava/lang/String;I)Z"⟩ : MethodName) method_6_code 7 (some .boolean) :: ws) ({ frames := 5, cells := 0, slots := 0, locals := 67 } : Room)) (fun a U => a = #[(.ref x0), (.ref x1), (.ref x2), (.ref x3), (.int jj)] ∧ Z.Warmed39 U.vm ∧ U.heap = h0) (fun _ _ _ _ _ => True) (fun _ U o U' => ∃ v L, o = .returned v ∧ Q_rmM0 Z x0 x1 x2 x3 jj t0 t1 A t2 B t3 CC ii G1 G3 h0 n0 v U'.heap L ∧ FrameEnd U o U' L ({ frames := 5, cells := 0, slots := 0, locals := 67 } : Room).cells ({ frames := 5, cells := 0, slots := 0, locals := 67 } : Room).slots) := by
  refine MetFree.of_bodySF (plainFor_of_name pn_com_example_brisk_warden_briskwarden_core_UnsupportedNumberExceptionAtPinLaw) hisR ?_
  intro p e s m args below meth c s₁ Bd hml0 hP hK
  obtain ⟨rfl, hZ, hh⟩ := hP
  have hx := Bd.exec
  have hby := Bd.bytes
  have hml : c.maxLocals = 7 := hml0
  have hown : s.vm.findClass "com/example/brisk_warden/briskwarden/core/UnsupportedNumberExceptionAtPinLaw" = some m.cls := findClass_of_methodNamed Bd.named
  have hnm := (name_of_methodNamed Bd.named Bd.method).1
  have X0 : Stand p l e ({ frames := 5, cells := 0, slots := 0, locals := 67 } : Room) s m #[(.ref x0), (.ref x1), (.ref x2), (.ref x3), (.int jj)] below meth c s₁ [] 0 0 := Stand.of_body Bd
  have e0 : s₁.heap = h0 := by rw [← hh, Bd.state]; rfl
  have N0 := Fr.nil n0
  have pre0 : ∀ t, Steps p.tables e below (s₁.setTop (mkF m 0 #[.val (.ref x0), .val (.ref x1), .val (.ref x2), .val (.ref x3), .val (.int jj), .unset, .unset] [])) t → Steps p.tables e below (s₁.setTop (entryFrame m #[(.ref x0), (.ref x1), (.ref x2), (.ref x3), (.int jj)] 7)) t := fun t k => castTop (ef_rmM3 m x0 x1 x2 x3 jj) k
  obtain ⟨cq2_, kq2_, qa2_, qb2_, qc2_⟩ := isOf hZ e0 S0.1
  obtain ⟨_, _, ⟨T1_, L1_, k1_, n1_⟩, -, X1_, ⟨Lc1_, hQ1_, l1_, y1_, z1_⟩, st1_⟩ := X0.virtualBack hx (y := (⟨"java/lang/String", "length", "()I"⟩ : MethodName)) (z := (⟨"java/lang/String", "length", "()I"⟩ : MethodName)) hown (mvT hZ (own_w hw 239 rfl)) (mvT hZ (own_w hw 151 rfl)) (notFace_of_selects (args := #[]) (mvT hZ (own_w hw 153 rfl))) (mvT hZ (own_w hw 153 rfl)) (mvT hZ (own_w hw 152 rfl)) (by decide) (own_lenB (W := 1) hZ hw S0 T1 P5 O1 (by decide) (by decide)) qa2_ qc2_ (g := (mkF m 3 #[.val (.ref x0), .val (.ref x1), .val (.ref x2), .val (.ref x3), .val (.int jj), .unset, .unset] [(.ref x0), (.int jj)])) rfl (by rw [hml]; rfl) (Steps.refl _) (argsL := []) (rest := [(.int jj)]) (lenOf pd_qzI rfl) rfl (by show 2 * 0 + _ ≤ _; exact Nat.le_of_eq rfl) (hb hby d50_3) (fun _ _ => ⟨rfl, e0, (by exact own_b rfl), (by exact own_b rfl)⟩)
  dsimp only [Pt.U, Pt.locs, Pt.cells, Pt.slots] at X1_ l1_ y1_ z1_ st1_ hQ1_
  subst L1_ k1_ n1_
  obtain ⟨rfl, rfl, ek1_⟩ := hQ1_
  have N1_ := Fr.app N0 (Fr.nil n0)
  obtain ⟨cq4_, kq4_, qa4_, qb4_, qc4_⟩ := isOf hZ ek1_ S1.1
  obtain ⟨_, _, ⟨T3_, L3_, k3_, n3_⟩, -, X3_, ⟨Lc3_, hQ3_, l3_, y3_, z3_⟩, st3_⟩ := X1_.virtualBack hx (y := (⟨"java/lang/String", "length", "()I"⟩ : MethodName)) (z := (⟨"java/lang/String", "length", "()I"⟩ : MethodName)) hown (mvT hZ (own_w hw 239 rfl)) (mvT hZ (own_w hw 151 rfl)) (notFace_of_selects (args := #[]) (mvT hZ (own_w hw 153 rfl))) (mvT hZ (own_w hw 153 rfl)) (mvT hZ (own_w hw 152 rfl)) (by decide) (own_lenB (W := 0) hZ hw S1 T1 P5 O1 (by decide) (by decide)) qa4_ qc4_ (g := (mkF m 12 #[.val (.ref x0), .val (.ref x1), .val (.ref x2), .val (.ref x3), .val (.int jj), .unset, .unset] [(.ref x1)])) rfl (by rw [hml]; rfl) (Steps.refl _) (argsL := []) (rest := []) (lenOf pd_qzI rfl) rfl (by show 2 * 0 + _ ≤ _; exact Nat.le_of_eq rfl) (hb hby d50_12) (fun _ _ => ⟨rfl, ek1_, (by exact own_b rfl), (by exact own_b rfl)⟩)
  dsimp only [Pt.U, Pt.locs, Pt.cells, Pt.slots] at X3_ l3_ y3_ z3_ st3_ hQ3_
  subst L3_ k3_ n3_
  obtain ⟨rfl, rfl, ek3_⟩ := hQ3_
  have N3_ := Fr.app N1_ (Fr.nil n0)
  obtain ⟨cq6_, kq6_, qa6_, qb6_, qc6_⟩ := isOf hZ ek3_ S2.1
  obtain ⟨_, _, ⟨T5_, L5_, k5_, n5_⟩, -, X5_, ⟨Lc5_, hQ5_, l5_, y5_, z5_⟩, st5_⟩ := X3_.virtualBack hx (y := (⟨"java/lang/String", "length", "()I"⟩ : MethodName)) (z := (⟨"java/lang/String", "length", "()I"⟩ : MethodName)) hown (mvT hZ (own_w hw 239 rfl)) (mvT hZ (own_w hw 151 rfl)) (notFace_of_selects (args := #[]) (mvT hZ (own_w hw 153 rfl))) (mvT hZ (own_w hw 153 rfl)) (mvT hZ (own_w hw 152 rfl)) (by decide) (own_lenB (W := 1) hZ hw S2 T1 P5 O1 (by decide) (by decide)) qa6_ qc6_ (g := (mkF m 16 #[.val (.ref x0), .val (.ref x1), .val (.ref x2), .val (.ref x3), .val (.int jj), .unset, .unset] [(.ref x2), (.int (Int32.ofNat A.length))])) rfl (by rw [hml]; rfl) (Steps.refl _) (argsL := []) (rest := [(.int (Int32.ofNat A.length))]) (lenOf pd_qzI rfl) rfl (by show 2 * 0 + _ ≤ _; exact Nat.le_of_eq rfl) (hb hby d50_16) (fun _ _ => ⟨rfl, ek3_, (by exact own_b rfl), (by exact own_b rfl)⟩)
  dsimp only [Pt.U, Pt.locs, Pt.cells, Pt.slots] at X5_ l5_ y5_ z5_ st5_ hQ5_
  subst L5_ k5_ n5_
  obtain ⟨rfl, rfl, ek5_⟩ := hQ5_
  have N5_ := Fr.app N3_ (Fr.nil n0)
  obtain ⟨cq8_, kq8_, qa8_, qb8_, qc8_⟩ := isOf hZ ek5_ S0.1
  obtain ⟨_, _, ⟨T7_, L7_, k7_, n7_⟩, -, X7_, ⟨Lc7_, hQ7_, l7_, y7_, z7_⟩, st7_⟩ := X5_.virtualBack hx (y := (⟨"java/lang/String", "charAt", "(I)C"⟩ : MethodName)) (z := (⟨"java/lang/String", "charAt", "(I)C"⟩ : MethodName)) hown (mvT hZ (own_w hw 243 rfl)) (mvT hZ (own_w hw 244 rfl)) (notFace_of_selects (args := #[]) (mvT hZ (own_w hw 246 rfl))) (mvT hZ (own_w hw 246 rfl)) (mvT hZ (own_w hw 245 rfl)) (by decide) (own_chB (W := 0) hZ hw S0 T1 P5 O1 TF rF (i := ii) (j := jj) hc hj (by decide) (by decide)) qa8_ qc8_ (g := (mkF m 87 #[.val (.ref x0), .val (.ref x1), .val (.ref x2), .val (.ref x3), .val (.int jj), .val (.int (Int32.ofNat (A.length + B.length))), .val (.int (32 : Int32))] [(.int jj), (.ref x0)])) rfl (by rw [hml]; rfl) (Steps.refl _) (argsL := [(.int jj)]) (rest := []) (lenOf pd_qIzC rfl) rfl (by show 2 * 0 + _ ≤ _; exact Nat.le_of_eq rfl) (hb hby d50_87) (fun _ _ => ⟨rfl, ek5_, (by exact own_b rfl), (by exact own_b rfl)⟩)
  dsimp only [Pt.U, Pt.locs, Pt.cells, Pt.slots] at X7_ l7_ y7_ z7_ st7_ hQ7_
  subst L7_ k7_ n7_
  obtain ⟨rfl, rfl, ek7_⟩ := hQ7_
  have N7_ := Fr.app N5_ (Fr.nil n0)
  obtain ⟨fs, hr, hrun, hended, hW, hsame⟩ := X7_.leave (v := some (.int (1 : Int32))) (fun h => by first | rfl | (rw [Bd.returns] at h; cases h))
  refine ⟨_, _, pre0 _ ?_, hrun, hended, _, _, rfl, ?_, ⟨_, rfl⟩, hW, hsame.mono (by exact own_b rfl) (by exact own_b rfl)⟩
  · show Steps p.tables e below (s₁.setTop (mkF m 0 #[.val (.ref x0), .val (.ref x1), .val (.ref x2), .val (.ref x3), .val (.int jj), .unset, .unset] [])) _
    refine XS.iload X0.here hx rfl (hb hby d50_0) rfl ?_
    refine XS.aloadN X0.here hx rfl (hb hby d50_2) rfl rfl ?_
    refine st1_.trans ?_
    show Steps p.tables e below (T1_.setTop (mkF m 6 #[.val (.ref x0), .val (.ref x1), .val (.ref x2), .val (.ref x3), .val (.int jj), .unset, .unset] [(.int (Int32.ofNat (((([] : List Int32) ++ ((([] : List Int32) ++ A) ++ B)) ++ ([(58 : Int32), (32 : Int32)] : List Int32)) ++ CC).length)), (.int jj)])) _
    refine XS.icmpYes X1_.here hx rfl (pc0 := 6) (pc' := 11) rfl (hb hby d50_6) rfl (tlt ((by rw [hj]; exact own_ltn S0.2.2.2.2.2 hc) : jj < (Int32.ofNat (((([] : List Int32) ++ ((([] : List Int32) ++ A) ++ B)) ++ ([(58 : Int32), (32 : Int32)] : List Int32)) ++ CC).length))).1 (by decide) (by decide) ?_
    refine XS.aloadN X1_.here hx rfl (hb hby d50_11) rfl rfl ?_
    refine st3_.trans ?_
    show Steps p.tables e below (T3_.setTop (mkF m 15 #[.val (.ref x0), .val (.ref x1), .val (.ref x2), .val (.ref x3), .val (.int jj), .unset, .unset] [(.int (Int32.ofNat A.length))])) _
    refine XS.aloadN X3_.here hx rfl (hb hby d50_15) rfl rfl ?_
    refine st5_.trans ?_
    show Steps p.tables e below (T5_.setTop (mkF m 19 #[.val (.ref x0), .val (.ref x1), .val (.ref x2), .val (.ref x3), .val (.int jj), .unset, .unset] [(.int (Int32.ofNat B.length)), (.int (Int32.ofNat A.length))])) _
    refine XS.iadd X5_.here hx rfl (hb hby d50_19) rfl ?_
    show Steps p.tables e below (T5_.setTop (mkF m 20 #[.val (.ref x0), .val (.ref x1), .val (.ref x2), .val (.ref x3), .val (.int jj), .unset, .unset] [(.int ((Int32.ofNat A.length) + (Int32.ofNat B.length)))])) _
    rw [own_addn]
    show Steps p.tables e below (T5_.setTop (mkF m 20 #[.val (.ref x0), .val (.ref x1), .val (.ref x2), .val (.ref x3), .val (.int jj), .unset, .unset] [(.int (Int32.ofNat (A.length + B.length)))])) _
    refine XS.istore X5_.here hx rfl (hb hby d50_20) rfl (l' := #[.val (.ref x0), .val (.ref x1), .val (.ref x2), .val (.ref x3), .val (.int jj), .val (.int (Int32.ofNat (A.length + B.length))), .unset]) rfl ?_
    show Steps p.tables e below (T5_.setTop (mkF m 22 #[.val (.ref x0), .val (.ref x1), .val (.ref x2), .val (.ref x3), .val (.int jj), .val (.int (Int32.ofNat (A.length + B.length))), .unset] [])) _
    refine XS.iload X5_.here hx rfl (hb hby d50_22) rfl ?_
    refine XS.iload X5_.here hx rfl (hb hby d50_24) rfl ?_
    refine XS.icmpYes X5_.here hx rfl (pc0 := 26) (pc' := 41) rfl (hb hby d50_26) rfl (flt ((by rw [hj]; exact own_nlt (by omega) (by omega)) : ¬ (jj < (Int32.ofNat (A.length + B.length))))).2.1 (by decide) (by decide) ?_
    refine XS.iload X5_.here hx rfl (hb hby d50_41) rfl ?_
    refine XS.iload X5_.here hx rfl (hb hby d50_43) rfl ?_
    refine XS.icmpYes X5_.here hx rfl (pc0 := 45) (pc' := 55) rfl (hb hby d50_45) rfl (feq ((by rw [hj]; exact fun q_ => own_nen (by omega) (by omega : (A.length + B.length) < ii) q_.symm) : ¬ (jj = (Int32.ofNat (A.length + B.length))))).2 (by decide) (by decide) ?_
    refine XS.iload X5_.here hx rfl (hb hby d50_55) rfl ?_
    refine XS.iload X5_.here hx rfl (hb hby d50_57) rfl ?_
    refine XS.iconst X5_.here hx rfl (hb hby d50_59) ?_
    refine XS.iadd X5_.here hx rfl (hb hby d50_60) rfl ?_
    show Steps p.tables e below (T5_.setTop (mkF m 61 #[.val (.ref x0), .val (.ref x1), .val (.ref x2), .val (.ref x3), .val (.int jj), .val (.int (Int32.ofNat (A.length + B.length))), .unset] [(.int ((Int32.ofNat (A.length + B.length)) + (1 : Int32))), (.int jj)])) _
    refine XS.icmpNo X5_.here hx rfl (hb hby d50_61) rfl (teq ((by rw [hj, hd, ← own_addn]; rfl) : jj = ((Int32.ofNat (A.length + B.length)) + (1 : Int32)))).2 ?_
    refine XS.bipush X5_.here hx rfl (hb hby d50_64) ?_
    refine XS.istore X5_.here hx rfl (hb hby d50_66) rfl (l' := #[.val (.ref x0), .val (.ref x1), .val (.ref x2), .val (.ref x3), .val (.int jj), .val (.int (Int32.ofNat (A.length + B.length))), .val (.int (32 : Int32))]) rfl ?_
    show Steps p.tables e below (T5_.setTop (mkF m 68 #[.val (.ref x0), .val (.ref x1), .val (.ref x2), .val (.ref x3), .val (.int jj), .val (.int (Int32.ofNat (A.length + B.length))), .val (.int (32 : Int32))] [])) _
    refine XS.goto X5_.here hx rfl (pc0 := 68) (pc' := 84) rfl (hb hby d50_68) (by decide) (by decide) ?_
    refine XS.aloadN X5_.here hx rfl (hb hby d50_84) rfl rfl ?_
    refine XS.iload X5_.here hx rfl (hb hby d50_85) rfl ?_
    refine st7_.trans ?_
    show Steps p.tables e below (T7_.setTop (mkF m 90 #[.val (.ref x0), .val (.ref x1), .val (.ref x2), .val (.ref x3), .val (.int jj), .val (.int (Int32.ofNat (A.length + B.length))), .val (.int (32 : Int32))] [(.int ((((([] : List Int32) ++ ((([] : List Int32) ++ A) ++ B)) ++ ([(58 : Int32), (32 : Int32)] : List Int32)) ++ CC).getD ii 0))])) _
    refine XS.iload X7_.here hx rfl (hb hby d50_90) rfl ?_
    refine XS.icmpNo X7_.here hx rfl (hb hby d50_92) rfl (teq ((own_mc3 hd) : ((((([] : List Int32) ++ ((([] : List Int32) ++ A) ++ B)) ++ ([(58 : Int32), (32 : Int32)] : List Int32)) ++ CC).getD ii 0) = (32 : Int32))).2 ?_
    refine XS.iconst X7_.here hx rfl (hb hby d50_95) ?_
    refine XS.goto X7_.here hx rfl (pc0 := 96) (pc' := 100) rfl (hb hby d50_96) (by decide) (by decide) ?_
    exact retN X7_ hx (t := .boolean) Bd.returns (by simp) (hb hby d50_100) hr
  · show Q_rmM0 Z x0 x1 x2 x3 jj t0 t1 A t2 B t3 CC ii G1 G3 h0 n0 _ T7_.heap _
    rw [ek7_]
    exact ⟨rfl, N7_, rfl⟩
theorem ef_rmM4 (m : MethodId) (x0 : Addr) (x1 : Addr) (x2 : Addr) (x3 : Addr) (x4 : Int32) : entryFrame m #[(.ref x0), (.ref x1), (.ref x2), (.ref x3), (.int x4)] 7 = mkF m 0 #[.val (.ref x0), .val (.ref x1), .val (.ref x2), .val (.ref x3), .val (.int x4), .unset, .unset] [] := by first | (simp [entryFrame, mkF, argsToLocals, Value.category]; done) | rfl
theorem rmM4 (l : Launch) (Z : State) (a0 : Array Value) (hw : ∀ d ∈ tables_1, d.before a0 Z = true) (ws : List Jvm.Cond) (x0 : Addr) (x1 : Addr) (x2 : Addr) (x3 : Addr) (jj : Int32) (t0 : Addr) (t1 : Addr) (A : List Int32) (t2 : Addr) (B : List Int32) (t3 : Addr) (CC : List Int32) (ii : Nat) (G1 : Int32) (G3 : Value) (h0 : Heap) (n0 : Nat) (Z0 : n0 ≤ h0.size) (S0 : own_Str Z h0 x0 t0 (((([] : List Int32) ++ ((([] : List Int32) ++ A) ++ B)) ++ ([(58 : Int32), (32 : Int32)] : List Int32)) ++ CC)) (S1 : own_Str Z h0 x1 t1 A) (S2 : own_Str Z h0 x2 t2 B) (S3 : own_Str Z h0 x3 t3 CC) (T1 : Sta Z Z.heap "java/lang/String" "COMPACT_STRINGS" "Z" (.int G1)) (P5 : ¬ (G1 = (0 : Int32))) (O1 : Old Z n0 h0) (TF : Sta Z Z.heap "jdk/internal/util/Preconditions" "SIOOBE_FORMATTER" "Ljava/util/function/BiFunction;" G3) (rF : G3.isRef = true) (hj : jj = Int32.ofNat ii) (hk : ii ≤ 20) (hA : A.length ≤ 3) (hB : B.length ≤ 3) (hC : CC.length ≤ 3) (hc : ii < (((([] : List Int32) ++ ((([] : List Int32) ++ A) ++ B)) ++ ([(58 : Int32), (32 : Int32)] : List Int32)) ++ CC).length) (hd : (A.length + B.length) + 2 ≤ ii) :
    MetFree l (⟨"com/example/brisk_warden/briskwarden/core/UnsupportedNumberExceptionAtPinLaw", "mc", "(Ljava/lang/String;Ljava/lang/String;Ljava/lang/String;Ljava/lang/String;I)Z"⟩ : MethodName) (head1 (Jvm.Cond.code (⟨"com/example/brisk_warden/briskwarden/core/UnsupportedNumberExceptionAtPinLaw", "mc", "(Ljava/lang/String;Ljava/lang/String;Ljava/lang/String;Ljava/lang/String;I)Z"⟩ : MethodName) method_6_code 7 (some .boolean) :: ws) ({ frames := 5, cells := 0, slots := 0, locals := 67 } : Room)) (fun a U => a = #[(.ref x0), (.ref x1), (.ref x2), (.ref x3), (.int jj)] ∧ Z.Warmed39 U.vm ∧ U.heap = h0) (fun _ _ _ _ _ => True) (fun _ U o U' => ∃ v L, o = .returned v ∧ Q_rmM0 Z x0 x1 x2 x3 jj t0 t1 A t2 B t3 CC ii G1 G3 h0 n0 v U'.heap L ∧ FrameEnd U o U' L ({ frames := 5, cells := 0, slots := 0, locals := 67 } : Room).cells ({ frames := 5, cells := 0, slots := 0, locals := 67 } : Room).slots) := by
  refine MetFree.of_bodySF (plainFor_of_name pn_com_example_brisk_warden_briskwarden_core_UnsupportedNumberExceptionAtPinLaw) hisR ?_
  intro p e s m args below meth c s₁ Bd hml0 hP hK
  obtain ⟨rfl, hZ, hh⟩ := hP
  have hx := Bd.exec
  have hby := Bd.bytes
  have hml : c.maxLocals = 7 := hml0
  have hown : s.vm.findClass "com/example/brisk_warden/briskwarden/core/UnsupportedNumberExceptionAtPinLaw" = some m.cls := findClass_of_methodNamed Bd.named
  have hnm := (name_of_methodNamed Bd.named Bd.method).1
  have X0 : Stand p l e ({ frames := 5, cells := 0, slots := 0, locals := 67 } : Room) s m #[(.ref x0), (.ref x1), (.ref x2), (.ref x3), (.int jj)] below meth c s₁ [] 0 0 := Stand.of_body Bd
  have e0 : s₁.heap = h0 := by rw [← hh, Bd.state]; rfl
  have N0 := Fr.nil n0
  have pre0 : ∀ t, Steps p.tables e below (s₁.setTop (mkF m 0 #[.val (.ref x0), .val (.ref x1), .val (.ref x2), .val (.ref x3), .val (.int jj), .unset, .unset] [])) t → Steps p.tables e below (s₁.setTop (entryFrame m #[(.ref x0), (.ref x1), (.ref x2), (.ref x3), (.int jj)] 7)) t := fun t k => castTop (ef_rmM4 m x0 x1 x2 x3 jj) k
  obtain ⟨cq2_, kq2_, qa2_, qb2_, qc2_⟩ := isOf hZ e0 S0.1
  obtain ⟨_, _, ⟨T1_, L1_, k1_, n1_⟩, -, X1_, ⟨Lc1_, hQ1_, l1_, y1_, z1_⟩, st1_⟩ := X0.virtualBack hx (y := (⟨"java/lang/String", "length", "()I"⟩ : MethodName)) (z := (⟨"java/lang/String", "length", "()I"⟩ : MethodName)) hown (mvT hZ (own_w hw 239 rfl)) (mvT hZ (own_w hw 151 rfl)) (notFace_of_selects (args := #[]) (mvT hZ (own_w hw 153 rfl))) (mvT hZ (own_w hw 153 rfl)) (mvT hZ (own_w hw 152 rfl)) (by decide) (own_lenB (W := 1) hZ hw S0 T1 P5 O1 (by decide) (by decide)) qa2_ qc2_ (g := (mkF m 3 #[.val (.ref x0), .val (.ref x1), .val (.ref x2), .val (.ref x3), .val (.int jj), .unset, .unset] [(.ref x0), (.int jj)])) rfl (by rw [hml]; rfl) (Steps.refl _) (argsL := []) (rest := [(.int jj)]) (lenOf pd_qzI rfl) rfl (by show 2 * 0 + _ ≤ _; exact Nat.le_of_eq rfl) (hb hby d50_3) (fun _ _ => ⟨rfl, e0, (by exact own_b rfl), (by exact own_b rfl)⟩)
  dsimp only [Pt.U, Pt.locs, Pt.cells, Pt.slots] at X1_ l1_ y1_ z1_ st1_ hQ1_
  subst L1_ k1_ n1_
  obtain ⟨rfl, rfl, ek1_⟩ := hQ1_
  have N1_ := Fr.app N0 (Fr.nil n0)
  obtain ⟨cq4_, kq4_, qa4_, qb4_, qc4_⟩ := isOf hZ ek1_ S1.1
  obtain ⟨_, _, ⟨T3_, L3_, k3_, n3_⟩, -, X3_, ⟨Lc3_, hQ3_, l3_, y3_, z3_⟩, st3_⟩ := X1_.virtualBack hx (y := (⟨"java/lang/String", "length", "()I"⟩ : MethodName)) (z := (⟨"java/lang/String", "length", "()I"⟩ : MethodName)) hown (mvT hZ (own_w hw 239 rfl)) (mvT hZ (own_w hw 151 rfl)) (notFace_of_selects (args := #[]) (mvT hZ (own_w hw 153 rfl))) (mvT hZ (own_w hw 153 rfl)) (mvT hZ (own_w hw 152 rfl)) (by decide) (own_lenB (W := 0) hZ hw S1 T1 P5 O1 (by decide) (by decide)) qa4_ qc4_ (g := (mkF m 12 #[.val (.ref x0), .val (.ref x1), .val (.ref x2), .val (.ref x3), .val (.int jj), .unset, .unset] [(.ref x1)])) rfl (by rw [hml]; rfl) (Steps.refl _) (argsL := []) (rest := []) (lenOf pd_qzI rfl) rfl (by show 2 * 0 + _ ≤ _; exact Nat.le_of_eq rfl) (hb hby d50_12) (fun _ _ => ⟨rfl, ek1_, (by exact own_b rfl), (by exact own_b rfl)⟩)
  dsimp only [Pt.U, Pt.locs, Pt.cells, Pt.slots] at X3_ l3_ y3_ z3_ st3_ hQ3_
  subst L3_ k3_ n3_
  obtain ⟨rfl, rfl, ek3_⟩ := hQ3_
  have N3_ := Fr.app N1_ (Fr.nil n0)
  obtain ⟨cq6_, kq6_, qa6_, qb6_, qc6_⟩ := isOf hZ ek3_ S2.1
  obtain ⟨_, _, ⟨T5_, L5_, k5_, n5_⟩, -, X5_, ⟨Lc5_, hQ5_, l5_, y5_, z5_⟩, st5_⟩ := X3_.virtualBack hx (y := (⟨"java/lang/String", "length", "()I"⟩ : MethodName)) (z := (⟨"java/lang/String", "length", "()I"⟩ : MethodName)) hown (mvT hZ (own_w hw 239 rfl)) (mvT hZ (own_w hw 151 rfl)) (notFace_of_selects (args := #[]) (mvT hZ (own_w hw 153 rfl))) (mvT hZ (own_w hw 153 rfl)) (mvT hZ (own_w hw 152 rfl)) (by decide) (own_lenB (W := 1) hZ hw S2 T1 P5 O1 (by decide) (by decide)) qa6_ qc6_ (g := (mkF m 16 #[.val (.ref x0), .val (.ref x1), .val (.ref x2), .val (.ref x3), .val (.int jj), .unset, .unset] [(.ref x2), (.int (Int32.ofNat A.length))])) rfl (by rw [hml]; rfl) (Steps.refl _) (argsL := []) (rest := [(.int (Int32.ofNat A.length))]) (lenOf pd_qzI rfl) rfl (by show 2 * 0 + _ ≤ _; exact Nat.le_of_eq rfl) (hb hby d50_16) (fun _ _ => ⟨rfl, ek3_, (by exact own_b rfl), (by exact own_b rfl)⟩)
  dsimp only [Pt.U, Pt.locs, Pt.cells, Pt.slots] at X5_ l5_ y5_ z5_ st5_ hQ5_
  subst L5_ k5_ n5_
  obtain ⟨rfl, rfl, ek5_⟩ := hQ5_
  have N5_ := Fr.app N3_ (Fr.nil n0)
  obtain ⟨cq8_, kq8_, qa8_, qb8_, qc8_⟩ := isOf hZ ek5_ S3.1
  obtain ⟨_, _, ⟨T7_, L7_, k7_, n7_⟩, -, X7_, ⟨Lc7_, hQ7_, l7_, y7_, z7_⟩, st7_⟩ := X5_.virtualBack hx (y := (⟨"java/lang/String", "charAt", "(I)C"⟩ : MethodName)) (z := (⟨"java/lang/String", "charAt", "(I)C"⟩ : MethodName)) hown (mvT hZ (own_w hw 243 rfl)) (mvT hZ (own_w hw 244 rfl)) (notFace_of_selects (args := #[]) (mvT hZ (own_w hw 246 rfl))) (mvT hZ (own_w hw 246 rfl)) (mvT hZ (own_w hw 245 rfl)) (by decide) (own_chB (W := 0) hZ hw S3 T1 P5 O1 TF rF (i := (ii - (A.length + B.length) - 2)) (j := ((jj - (Int32.ofNat (A.length + B.length))) - (2 : Int32))) (by simp only [List.length_append, List.length_cons, List.length_nil, Nat.zero_add] at hc; omega) (by rw [hj, own_subn (by omega), show (2 : Int32) = Int32.ofNat 2 from rfl, own_subn (by omega)]) (by decide) (by decide)) qa8_ qc8_ (g := (mkF m 79 #[.val (.ref x0), .val (.ref x1), .val (.ref x2), .val (.ref x3), .val (.int jj), .val (.int (Int32.ofNat (A.length + B.length))), .unset] [(.int ((jj - (Int32.ofNat (A.length + B.length))) - (2 : Int32))), (.ref x3)])) rfl (by rw [hml]; rfl) (Steps.refl _) (argsL := [(.int ((jj - (Int32.ofNat (A.length + B.length))) - (2 : Int32)))]) (rest := []) (lenOf pd_qIzC rfl) rfl (by show 2 * 0 + _ ≤ _; exact Nat.le_of_eq rfl) (hb hby d50_79) (fun _ _ => ⟨rfl, ek5_, (by exact own_b rfl), (by exact own_b rfl)⟩)
  dsimp only [Pt.U, Pt.locs, Pt.cells, Pt.slots] at X7_ l7_ y7_ z7_ st7_ hQ7_
  subst L7_ k7_ n7_
  obtain ⟨rfl, rfl, ek7_⟩ := hQ7_
  have N7_ := Fr.app N5_ (Fr.nil n0)
  obtain ⟨cq10_, kq10_, qa10_, qb10_, qc10_⟩ := isOf hZ ek7_ S0.1
  obtain ⟨_, _, ⟨T9_, L9_, k9_, n9_⟩, -, X9_, ⟨Lc9_, hQ9_, l9_, y9_, z9_⟩, st9_⟩ := X7_.virtualBack hx (y := (⟨"java/lang/String", "charAt", "(I)C"⟩ : MethodName)) (z := (⟨"java/lang/String", "charAt", "(I)C"⟩ : MethodName)) hown (mvT hZ (own_w hw 243 rfl)) (mvT hZ (own_w hw 244 rfl)) (notFace_of_selects (args := #[]) (mvT hZ (own_w hw 246 rfl))) (mvT hZ (own_w hw 246 rfl)) (mvT hZ (own_w hw 245 rfl)) (by decide) (own_chB (W := 0) hZ hw S0 T1 P5 O1 TF rF (i := ii) (j := jj) hc hj (by decide) (by decide)) qa10_ qc10_ (g := (mkF m 87 #[.val (.ref x0), .val (.ref x1), .val (.ref x2), .val (.ref x3), .val (.int jj), .val (.int (Int32.ofNat (A.length + B.length))), .val (.int (CC.getD (ii - (A.length + B.length) - 2) 0))] [(.int jj), (.ref x0)])) rfl (by rw [hml]; rfl) (Steps.refl _) (argsL := [(.int jj)]) (rest := []) (lenOf pd_qIzC rfl) rfl (by show 2 * 0 + _ ≤ _; exact Nat.le_of_eq rfl) (hb hby d50_87) (fun _ _ => ⟨rfl, ek7_, (by exact own_b rfl), (by exact own_b rfl)⟩)
  dsimp only [Pt.U, Pt.locs, Pt.cells, Pt.slots] at X9_ l9_ y9_ z9_ st9_ hQ9_
  subst L9_ k9_ n9_
  obtain ⟨rfl, rfl, ek9_⟩ := hQ9_
  have N9_ := Fr.app N7_ (Fr.nil n0)
  obtain ⟨fs, hr, hrun, hended, hW, hsame⟩ := X9_.leave (v := some (.int (1 : Int32))) (fun h => by first | rfl | (rw [Bd.returns] at h; cases h))
  refine ⟨_, _, pre0 _ ?_, hrun, hended, _, _, rfl, ?_, ⟨_, rfl⟩, hW, hsame.mono (by exact own_b rfl) (by exact own_b rfl)⟩
  · show Steps p.tables e below (s₁.setTop (mkF m 0 #[.val (.ref x0), .val (.ref x1), .val (.ref x2), .val (.ref x3), .val (.int jj), .unset, .unset] [])) _
    refine XS.iload X0.here hx rfl (hb hby d50_0) rfl ?_
    refine XS.aloadN X0.here hx rfl (hb hby d50_2) rfl rfl ?_
    refine st1_.trans ?_
    show Steps p.tables e below (T1_.setTop (mkF m 6 #[.val (.ref x0), .val (.ref x1), .val (.ref x2), .val (.ref x3), .val (.int jj), .unset, .unset] [(.int (Int32.ofNat (((([] : List Int32) ++ ((([] : List Int32) ++ A) ++ B)) ++ ([(58 : Int32), (32 : Int32)] : List Int32)) ++ CC).length)), (.int jj)])) _
    refine XS.icmpYes X1_.here hx rfl (pc0 := 6) (pc' := 11) rfl (hb hby d50_6) rfl (tlt ((by rw [hj]; exact own_ltn S0.2.2.2.2.2 hc) : jj < (Int32.ofNat (((([] : List Int32) ++ ((([] : List Int32) ++ A) ++ B)) ++ ([(58 : Int32), (32 : Int32)] : List Int32)) ++ CC).length))).1 (by decide) (by decide) ?_
    refine XS.aloadN X1_.here hx rfl (hb hby d50_11) rfl rfl ?_
    refine st3_.trans ?_
    show Steps p.tables e below (T3_.setTop (mkF m 15 #[.val (.ref x0), .val (.ref x1), .val (.ref x2), .val (.ref x3), .val (.int jj), .unset, .unset] [(.int (Int32.ofNat A.length))])) _
    refine XS.aloadN X3_.here hx rfl (hb hby d50_15) rfl rfl ?_
    refine st5_.trans ?_
    show Steps p.tables e below (T5_.setTop (mkF m 19 #[.val (.ref x0), .val (.ref x1), .val (.ref x2), .val (.ref x3), .val (.int jj), .unset, .unset] [(.int (Int32.ofNat B.length)), (.int (Int32.ofNat A.length))])) _
    refine XS.iadd X5_.here hx rfl (hb hby d50_19) rfl ?_
    show Steps p.tables e below (T5_.setTop (mkF m 20 #[.val (.ref x0), .val (.ref x1), .val (.ref x2), .val (.ref x3), .val (.int jj), .unset, .unset] [(.int ((Int32.ofNat A.length) + (Int32.ofNat B.length)))])) _
    rw [own_addn]
    show Steps p.tables e below (T5_.setTop (mkF m 20 #[.val (.ref x0), .val (.ref x1), .val (.ref x2), .val (.ref x3), .val (.int jj), .unset, .unset] [(.int (Int32.ofNat (A.length + B.length)))])) _
    refine XS.istore X5_.here hx rfl (hb hby d50_20) rfl (l' := #[.val (.ref x0), .val (.ref x1), .val (.ref x2), .val (.ref x3), .val (.int jj), .val (.int (Int32.ofNat (A.length + B.length))), .unset]) rfl ?_
    show Steps p.tables e below (T5_.setTop (mkF m 22 #[.val (.ref x0), .val (.ref x1), .val (.ref x2), .val (.ref x3), .val (.int jj), .val (.int (Int32.ofNat (A.length + B.length))), .unset] [])) _
    refine XS.iload X5_.here hx rfl (hb hby d50_22) rfl ?_
    refine XS.iload X5_.here hx rfl (hb hby d50_24) rfl ?_
    refine XS.icmpYes X5_.here hx rfl (pc0 := 26) (pc' := 41) rfl (hb hby d50_26) rfl (flt ((by rw [hj]; exact own_nlt (by omega) (by omega)) : ¬ (jj < (Int32.ofNat (A.length + B.length))))).2.1 (by decide) (by decide) ?_
    refine XS.iload X5_.here hx rfl (hb hby d50_41) rfl ?_
    refine XS.iload X5_.here hx rfl (hb hby d50_43) rfl ?_
    refine XS.icmpYes X5_.here hx rfl (pc0 := 45) (pc' := 55) rfl (hb hby d50_45) rfl (feq ((by rw [hj]; exact fun q_ => own_nen (by omega) (by omega : (A.length + B.length) < ii) q_.symm) : ¬ (jj = (Int32.ofNat (A.length + B.length))))).2 (by decide) (by decide) ?_
    refine XS.iload X5_.here hx rfl (hb hby d50_55) rfl ?_
    refine XS.iload X5_.here hx rfl (hb hby d50_57) rfl ?_
    refine XS.iconst X5_.here hx rfl (hb hby d50_59) ?_
    refine XS.iadd X5_.here hx rfl (hb hby d50_60) rfl ?_
    show Steps p.tables e below (T5_.setTop (mkF m 61 #[.val (.ref x0), .val (.ref x1), .val (.ref x2), .val (.ref x3), .val (.int jj), .val (.int (Int32.ofNat (A.length + B.length))), .unset] [(.int ((Int32.ofNat (A.length + B.length)) + (1 : Int32))), (.int jj)])) _
    refine XS.icmpYes X5_.here hx rfl (pc0 := 61) (pc' := 71) rfl (hb hby d50_61) rfl (feq ((by rw [hj, show (Int32.ofNat (A.length + B.length)) + (1 : Int32) = Int32.ofNat ((A.length + B.length) + 1) from (own_addn _ _)]; exact fun q_ => own_nen (by omega) (by omega : (A.length + B.length) + 1 < ii) q_.symm) : ¬ (jj = ((Int32.ofNat (A.length + B.length)) + (1 : Int32))))).2 (by decide) (by decide) ?_
    refine XS.aloadN X5_.here hx rfl (hb hby d50_71) rfl rfl ?_
    refine XS.iload X5_.here hx rfl (hb hby d50_72) rfl ?_
    refine XS.iload X5_.here hx rfl (hb hby d50_74) rfl ?_
    refine XS.isub X5_.here hx rfl (hb hby d50_76) rfl ?_
    show Steps p.tables e below (T5_.setTop (mkF m 77 #[.val (.ref x0), .val (.ref x1), .val (.ref x2), .val (.ref x3), .val (.int jj), .val (.int (Int32.ofNat (A.length + B.length))), .unset] [(.int (jj - (Int32.ofNat (A.length + B.length)))), (.ref x3)])) _
    refine XS.iconst X5_.here hx rfl (hb hby d50_77) ?_
    refine XS.isub X5_.here hx rfl (hb hby d50_78) rfl ?_
    show Steps p.tables e below (T5_.setTop (mkF m 79 #[.val (.ref x0), .val (.ref x1), .val (.ref x2), .val (.ref x3), .val (.int jj), .val (.int (Int32.ofNat (A.length + B.length))), .unset] [(.int ((jj - (Int32.ofNat (A.length + B.length))) - (2 : Int32))), (.ref x3)])) _
    refine st7_.trans ?_
    show Steps p.tables e below (T7_.setTop (mkF m 82 #[.val (.ref x0), .val (.ref x1), .val (.ref x2), .val (.ref x3), .val (.int jj), .val (.int (Int32.ofNat (A.length + B.length))), .unset] [(.int (CC.getD (ii - (A.length + B.length) - 2) 0))])) _
    refine XS.istore X7_.here hx rfl (hb hby d50_82) rfl (l' := #[.val (.ref x0), .val (.ref x1), .val (.ref x2), .val (.ref x3), .val (.int jj), .val (.int (Int32.ofNat (A.length + B.length))), .val (.int (CC.getD (ii - (A.length + B.length) - 2) 0))]) rfl ?_
    show Steps p.tables e below (T7_.setTop (mkF m 84 #[.val (.ref x0), .val (.ref x1), .val (.ref x2), .val (.ref x3), .val (.int jj), .val (.int (Int32.ofNat (A.length + B.length))), .val (.int (CC.getD (ii - (A.length + B.length) - 2) 0))] [])) _
    refine XS.aloadN X7_.here hx rfl (hb hby d50_84) rfl rfl ?_
    refine XS.iload X7_.here hx rfl (hb hby d50_85) rfl ?_
    refine st9_.trans ?_
    show Steps p.tables e below (T9_.setTop (mkF m 90 #[.val (.ref x0), .val (.ref x1), .val (.ref x2), .val (.ref x3), .val (.int jj), .val (.int (Int32.ofNat (A.length + B.length))), .val (.int (CC.getD (ii - (A.length + B.length) - 2) 0))] [(.int ((((([] : List Int32) ++ ((([] : List Int32) ++ A) ++ B)) ++ ([(58 : Int32), (32 : Int32)] : List Int32)) ++ CC).getD ii 0))])) _
    refine XS.iload X9_.here hx rfl (hb hby d50_90) rfl ?_
    refine XS.icmpNo X9_.here hx rfl (hb hby d50_92) rfl (teq ((own_mc4 hd) : ((((([] : List Int32) ++ ((([] : List Int32) ++ A) ++ B)) ++ ([(58 : Int32), (32 : Int32)] : List Int32)) ++ CC).getD ii 0) = (CC.getD (ii - (A.length + B.length) - 2) 0))).2 ?_
    refine XS.iconst X9_.here hx rfl (hb hby d50_95) ?_
    refine XS.goto X9_.here hx rfl (pc0 := 96) (pc' := 100) rfl (hb hby d50_96) (by decide) (by decide) ?_
    exact retN X9_ hx (t := .boolean) Bd.returns (by simp) (hb hby d50_100) hr
  · show Q_rmM0 Z x0 x1 x2 x3 jj t0 t1 A t2 B t3 CC ii G1 G3 h0 n0 _ T9_.heap _
    rw [ek9_]
    exact ⟨rfl, N9_, rfl⟩
theorem rmM (l : Launch) (Z : State) (a0 : Array Value) (hw : ∀ d ∈ tables_1, d.before a0 Z = true) (ws : List Jvm.Cond) (x0 : Addr) (x1 : Addr) (x2 : Addr) (x3 : Addr) (jj : Int32) (t0 : Addr) (t1 : Addr) (A : List Int32) (t2 : Addr) (B : List Int32) (t3 : Addr) (CC : List Int32) (ii : Nat) (G1 : Int32) (G3 : Value) (h0 : Heap) (n0 : Nat) (Z0 : n0 ≤ h0.size) (S0 : own_Str Z h0 x0 t0 (((([] : List Int32) ++ ((([] : List Int32) ++ A) ++ B)) ++ ([(58 : Int32), (32 : Int32)] : List Int32)) ++ CC)) (S1 : own_Str Z h0 x1 t1 A) (S2 : own_Str Z h0 x2 t2 B) (S3 : own_Str Z h0 x3 t3 CC) (T1 : Sta Z Z.heap "java/lang/String" "COMPACT_STRINGS" "Z" (.int G1)) (P5 : ¬ (G1 = (0 : Int32))) (O1 : Old Z n0 h0) (TF : Sta Z Z.heap "jdk/internal/util/Preconditions" "SIOOBE_FORMATTER" "Ljava/util/function/BiFunction;" G3) (rF : G3.isRef = true) (hj : jj = Int32.ofNat ii) (hk : ii ≤ 20) (hA : A.length ≤ 3) (hB : B.length ≤ 3) (hC : CC.length ≤ 3) :
    MetFree l (⟨"com/example/brisk_warden/briskwarden/core/UnsupportedNumberExceptionAtPinLaw", "mc", "(Ljava/lang/String;Ljava/lang/String;Ljava/lang/String;Ljava/lang/String;I)Z"⟩ : MethodName) (head1 (Jvm.Cond.code (⟨"com/example/brisk_warden/briskwarden/core/UnsupportedNumberExceptionAtPinLaw", "mc", "(Ljava/lang/String;Ljava/lang/String;Ljava/lang/String;Ljava/lang/String;I)Z"⟩ : MethodName) method_6_code 7 (some .boolean) :: ws) ({ frames := 5, cells := 0, slots := 0, locals := 67 } : Room)) (fun a U => a = #[(.ref x0), (.ref x1), (.ref x2), (.ref x3), (.int jj)] ∧ Z.Warmed39 U.vm ∧ U.heap = h0) (fun _ _ _ _ _ => True) (fun _ U o U' => ∃ v L, o = .returned v ∧ Q_rmM0 Z x0 x1 x2 x3 jj t0 t1 A t2 B t3 CC ii G1 G3 h0 n0 v U'.heap L ∧ FrameEnd U o U' L ({ frames := 5, cells := 0, slots := 0, locals := 67 } : Room).cells ({ frames := 5, cells := 0, slots := 0, locals := 67 } : Room).slots) := by
  by_cases c0 : ii < (((([] : List Int32) ++ ((([] : List Int32) ++ A) ++ B)) ++ ([(58 : Int32), (32 : Int32)] : List Int32)) ++ CC).length
  · by_cases c1 : ii < (A.length + B.length)
    · exact rmM1 l Z a0 hw ws x0 x1 x2 x3 jj t0 t1 A t2 B t3 CC ii G1 G3 h0 n0 Z0 S0 S1 S2 S3 T1 P5 O1 TF rF hj hk hA hB hC c0 c1
    · by_cases c2 : ii = (A.length + B.length)
      · exact rmM2 l Z a0 hw ws x0 x1 x2 x3 jj t0 t1 A t2 B t3 CC ii G1 G3 h0 n0 Z0 S0 S1 S2 S3 T1 P5 O1 TF rF hj hk hA hB hC c0 c2
      · by_cases c3 : ii = (A.length + B.length) + 1
        · exact rmM3 l Z a0 hw ws x0 x1 x2 x3 jj t0 t1 A t2 B t3 CC ii G1 G3 h0 n0 Z0 S0 S1 S2 S3 T1 P5 O1 TF rF hj hk hA hB hC c0 c3
        · exact rmM4 l Z a0 hw ws x0 x1 x2 x3 jj t0 t1 A t2 B t3 CC ii G1 G3 h0 n0 Z0 S0 S1 S2 S3 T1 P5 O1 TF rF hj hk hA hB hC c0 (by omega)
  · exact rmM0 l Z a0 hw ws x0 x1 x2 x3 jj t0 t1 A t2 B t3 CC ii G1 G3 h0 n0 Z0 S0 S1 S2 S3 T1 P5 O1 TF rF hj hk hA hB hC c0
theorem pd_qIIzLjava_lang_String : parseMethodDescriptor "(II)Ljava/lang/String;" = some ⟨[.int, .int], some (.object "java/lang/String")⟩ := by decide +kernel
theorem pd_qLjava_lang_StringzLcom_example_brisk_warden_briskwarden_core_UnsupportedNumberException : parseMethodDescriptor "(Ljava/lang/String;)Lcom/example/brisk_warden/briskwarden/core/UnsupportedNumberException;" = some ⟨[(.object "java/lang/String")], some (.object "com/example/brisk_warden/briskwarden/core/UnsupportedNumberException")⟩ := by decide +kernel
theorem pd_qLjava_lang_StringLjava_lang_StringLjava_lang_StringIzZ : parseMethodDescriptor "(Ljava/lang/String;Ljava/lang/String;Ljava/lang/String;I)Z" = some ⟨[(.object "java/lang/String"), (.object "java/lang/String"), (.object "java/lang/String"), .int], some .boolean⟩ := by decide +kernel
theorem pd_qLjava_lang_ObjectzZ : parseMethodDescriptor "(Ljava/lang/Object;)Z" = some ⟨[(.object "java/lang/Object")], some .boolean⟩ := by decide +kernel
theorem ef_rm0Z (m : MethodId) (x0 : Int32) (x1 : Int32) (x2 : Int32) (x3 : Int32) : entryFrame m #[(.int x0), (.int x1), (.int x2), (.int x3)] maxLocals = mkF m 0 #[.val (.int x0), .val (.int x1), .val (.int x2), .val (.int x3), .unset, .unset, .unset, .unset, .unset, .unset, .unset, .unset, .unset, .unset, .unset] [] := by first | (simp [entryFrame, mkF, argsToLocals, Value.category, maxLocals]; done) | rfl
def Q_rm0Z (Z : State) (p0 : Int32) (p1 : Int32) (p2 : Int32) (p3 : Int32) (G1 : Int32) (vU : Value) (vS : Value) (G3 : Value) (cA : List Int32) (cB : List Int32) (cC : List Int32) (h0 : Heap) (n0 : Nat) (v : Option Value) (h : Heap) (L : List Loc) : Prop := v = some (.int (1 : Int32)) ∧ Fr n0 L
theorem rm0Z (l : Launch) (Z : State) (a0 : Array Value) (hw : ∀ d ∈ tables_1, d.before a0 Z = true) (hEL : EW Z a0 consts_1) (ws : List Jvm.Cond) (p0 : Int32) (p1 : Int32) (p2 : Int32) (p3 : Int32) (G1 : Int32) (vU : Value) (vS : Value) (G3 : Value) (cA : List Int32) (cB : List Int32) (cC : List Int32) (h0 : Heap) (n0 : Nat) (Z0 : n0 ≤ h0.size) (T1 : Sta Z Z.heap "java/lang/String" "COMPACT_STRINGS" "Z" (.int G1)) (P5 : ¬ (G1 = (0 : Int32))) (O1 : Old Z n0 h0) (TU : Sta Z Z.heap "java/lang/Throwable" "UNASSIGNED_STACK" "[Ljava/lang/StackTraceElement;" vU) (rU : vU.isRef = true) (TS : Sta Z Z.heap "java/lang/Throwable" "SUPPRESSED_SENTINEL" "Ljava/util/List;" vS) (rS : vS.isRef = true) (hl : l.stackTraces = true) (TF : Sta Z Z.heap "jdk/internal/util/Preconditions" "SIOOBE_FORMATTER" "Ljava/util/function/BiFunction;" G3) (rF : G3.isRef = true) (qcA : (own_str (p3 &&& (3 : Int32)) p0) = cA) (qcB : (own_str (((p3.toUInt32 >>> ((2 : Int32) &&& 31).toUInt32).toInt32) &&& (3 : Int32)) p1) = cB) (qcC : (own_str (((p3.toUInt32 >>> ((4 : Int32) &&& 31).toUInt32).toInt32) &&& (3 : Int32)) p2) = cC) (hz : cA.length + cB.length = 0) :
    MetFree l x (head1 (Jvm.Cond.code x code maxLocals ret :: ws) room_1) (fun a U => a = #[(.int p0), (.int p1), (.int p2), (.int p3)] ∧ Z.Warmed39 U.vm ∧ U.heap = h0 ∧ CHv Z consts_1 U.vm h0) (fun _ _ bl s _ => s.vm.MethodsKnown ∧ s.vm.FramesKnown bl) (fun _ U o U' => ∃ v L, o = .returned v ∧ Q_rm0Z Z p0 p1 p2 p3 G1 vU vS G3 cA cB cC h0 n0 v U'.heap L ∧ CHr Z consts_1 U.vm U.heap U'.vm U'.heap ∧ ReturnedEndW U o U' L room_1.cells room_1.slots) := by
  refine MetFree.of_bodySF (plainFor_of_name pn_com_example_brisk_warden_briskwarden_core_UnsupportedNumberExceptionAtPinLaw) hisR ?_
  intro p e s m args below meth c s₁ Bd hml0 hP hK
  obtain ⟨rfl, hZ, hh, H0'⟩ := hP
  have hx := Bd.exec
  have hby := Bd.bytes
  have hml : c.maxLocals = 15 := hml0
  have hown : s.vm.findClass "com/example/brisk_warden/briskwarden/core/UnsupportedNumberExceptionAtPinLaw" = some m.cls := findClass_of_methodNamed Bd.named
  have hnm := (name_of_methodNamed Bd.named Bd.method).1
  have X0 : Stand p l e room_1 (s.setVm s.vm) m #[(.int p0), (.int p1), (.int p2), (.int p3)] below meth c s₁ [] 0 0 := Stand.of_body Bd
  have e0 : s₁.heap = h0 := by rw [← hh, Bd.state]; rfl
  have N0 := Fr.nil n0
  have hS0 : s.Since s.vm h0.size := own_since0 s _
  have hk0 : h0.size ≤ h0.size := Nat.le_refl _
  have H0 : CHv Z consts_1 s.vm h0 := H0'
  have wS : ∀ a ∈ Bundle.stringAtoms, a.before a0 Z = true := fun a ha => hw a ((by decide +kernel : ∀ a ∈ Bundle.stringAtoms, a ∈ tables_1) a ha)
  have pre0 : ∀ t, Steps p.tables e below (s₁.setTop (mkF m 0 #[.val (.int p0), .val (.int p1), .val (.int p2), .val (.int p3), .unset, .unset, .unset, .unset, .unset, .unset, .unset, .unset, .unset, .unset, .unset] [])) t → Steps p.tables e below (s₁.setTop (entryFrame m #[(.int p0), (.int p1), (.int p2), (.int p3)] maxLocals)) t := fun t k => castTop (ef_rm0Z m p0 p1 p2 p3) k
  have lncA : cA.length ≤ 3 := qcA ▸ own_str_len _ _
  have lncB : cB.length ≤ 3 := qcB ▸ own_str_len _ _
  have lncC : cC.length ≤ 3 := qcC ▸ own_str_len _ _
  obtain ⟨_, _, ⟨T1_, L1_, k1_, n1_⟩, -, Xs1_, Ss1_, Sg1_, ⟨Lc1_, hQ1_, l1_, y1_, z1_, chr1_⟩, st1_⟩ := Jvm.RoadKit.callSS X0 hx (y := (⟨"com/example/brisk_warden/briskwarden/core/UnsupportedNumberExceptionAtPinLaw", "str", "(II)Ljava/lang/String;"⟩ : MethodName)) hown (mvT hZ (own_w hw 0 rfl)) (mvT hZ (own_w hw 1 rfl)) (mvT hZ (own_w hw 2 rfl)) (mvT hZ (own_w hw 3 rfl)) (by decide) (backOfSH (W := 0) (rmStr l Z a0 hw hEL [] (p3 &&& (3 : Int32)) p0 G1 h0 n0 Z0 T1 P5 O1) hZ (own_w hw 3 rfl) (own_w hw 2 rfl) (by decide) (by decide) hEL H0) (g := (mkF m 4 #[.val (.int p0), .val (.int p1), .val (.int p2), .val (.int p3), .unset, .unset, .unset, .unset, .unset, .unset, .unset, .unset, .unset, .unset, .unset] [(.int p0), (.int (p3 &&& (3 : Int32)))])) rfl (by rw [hml]; rfl) (argsL := [(.int (p3 &&& (3 : Int32))), (.int p0)]) (rest := []) (lenOf pd_qIIzLjava_lang_String rfl) rfl (by show 2 * 0 + _ ≤ _; exact Nat.le_of_eq rfl) (hb hby at_4) (fun _ _ => ⟨rfl, e0, (by exact own_b rfl), (by exact own_b rfl)⟩)
  dsimp only [Pt.U, Pt.locs, Pt.cells, Pt.slots] at Xs1_ Ss1_ Sg1_ l1_ y1_ z1_ st1_ hQ1_ chr1_
  subst L1_ k1_ n1_
  obtain ⟨X1_, hS1_, hZ1_, hown1_⟩ := rebS hS0 hk0 Xs1_ Ss1_ (Nat.le_trans (Nat.le_of_eq (congrArg Array.size e0.symm)) Sg1_) hZ hown
  obtain ⟨xs_1_, ts_1_, rfl, Nq1_, ek1_, p1__0⟩ := hQ1_
  have N1_ := Fr.app N0 Nq1_
  have cr2_ := (CHr.refl H0).trans chr1_
  have ch1_ := chr1_.1
  have szcA : own_Str Z T1_.heap xs_1_ ts_1_ cA := by rw [← qcA]; exact p1__0
  have f4_ : Old Z n0 T1_.heap := (O1.keep ek1_ all0)
  have z5_ : n0 ≤ T1_.heap.size := Nat.le_trans Z0 ek1_.1
  obtain ⟨_, _, ⟨T3_, L3_, k3_, n3_⟩, -, Xs3_, Ss3_, Sg3_, ⟨Lc3_, hQ3_, l3_, y3_, z3_, chr3_⟩, st3_⟩ := Jvm.RoadKit.callSS X1_ hx (y := (⟨"com/example/brisk_warden/briskwarden/core/UnsupportedNumberExceptionAtPinLaw", "str", "(II)Ljava/lang/String;"⟩ : MethodName)) hown1_ (mvT hZ1_ (own_w hw 0 rfl)) (mvT hZ1_ (own_w hw 1 rfl)) (mvT hZ1_ (own_w hw 2 rfl)) (mvT hZ1_ (own_w hw 3 rfl)) (by decide) (backOfSH (W := 0) (rmStr l Z a0 hw hEL [] (((p3.toUInt32 >>> ((2 : Int32) &&& 31).toUInt32).toInt32) &&& (3 : Int32)) p1 G1 T1_.heap n0 z5_ T1 P5 f4_) hZ1_ (own_w hw 3 rfl) (own_w hw 2 rfl) (by decide) (by decide) hEL ch1_) (g := (mkF m 15 #[.val (.int p0), .val (.int p1), .val (.int p2), .val (.int p3), .val (.ref xs_1_), .unset, .unset, .unset, .unset, .unset, .unset, .unset, .unset, .unset, .unset] [(.int p1), (.int (((p3.toUInt32 >>> ((2 : Int32) &&& 31).toUInt32).toInt32) &&& (3 : Int32)))])) rfl (by rw [hml]; rfl) (argsL := [(.int (((p3.toUInt32 >>> ((2 : Int32) &&& 31).toUInt32).toInt32) &&& (3 : Int32))), (.int p1)]) (rest := []) (lenOf pd_qIIzLjava_lang_String rfl) rfl (by show 2 * 0 + _ ≤ _; exact Nat.le_of_eq rfl) (hb hby at_15) (fun _ _ => ⟨rfl, rfl, (by exact own_b rfl), (by exact own_b rfl)⟩)
  dsimp only [Pt.U, Pt.locs, Pt.cells, Pt.slots] at Xs3_ Ss3_ Sg3_ l3_ y3_ z3_ st3_ hQ3_ chr3_
  subst L3_ k3_ n3_
  obtain ⟨X3_, hS3_, hZ3_, hown3_⟩ := rebS hS1_ (Nat.le_refl _) Xs3_ Ss3_ (Nat.le_trans (Nat.le_of_eq (congrArg Array.size (rfl : T1_.heap = _).symm)) Sg3_) hZ1_ hown1_
  obtain ⟨xs_3_, ts_3_, rfl, Nq3_, ek3_, p3__0⟩ := hQ3_
  have N3_ := Fr.app N1_ Nq3_
  have cr6_ := cr2_.trans chr3_
  have ch3_ := chr3_.1
  have szcB : own_Str Z T3_.heap xs_3_ ts_3_ cB := by rw [← qcB]; exact p3__0
  have f8_ : Old Z n0 T3_.heap := (f4_.keep ek3_ all0)
  have z9_ : n0 ≤ T3_.heap.size := Nat.le_trans z5_ ek3_.1
  obtain ⟨_, _, ⟨T7_, L7_, k7_, n7_⟩, -, Xs7_, Ss7_, Sg7_, ⟨Lc7_, hQ7_, l7_, y7_, z7_, chr7_⟩, st7_⟩ := Jvm.RoadKit.callSS X3_ hx (y := (⟨"com/example/brisk_warden/briskwarden/core/UnsupportedNumberExceptionAtPinLaw", "str", "(II)Ljava/lang/String;"⟩ : MethodName)) hown3_ (mvT hZ3_ (own_w hw 0 rfl)) (mvT hZ3_ (own_w hw 1 rfl)) (mvT hZ3_ (own_w hw 2 rfl)) (mvT hZ3_ (own_w hw 3 rfl)) (by decide) (backOfSH (W := 0) (rmStr l Z a0 hw hEL [] (((p3.toUInt32 >>> ((4 : Int32) &&& 31).toUInt32).toInt32) &&& (3 : Int32)) p2 G1 T3_.heap n0 z9_ T1 P5 f8_) hZ3_ (own_w hw 3 rfl) (own_w hw 2 rfl) (by decide) (by decide) hEL ch3_) (g := (mkF m 26 #[.val (.int p0), .val (.int p1), .val (.int p2), .val (.int p3), .val (.ref xs_1_), .val (.ref xs_3_), .unset, .unset, .unset, .unset, .unset, .unset, .unset, .unset, .unset] [(.int p2), (.int (((p3.toUInt32 >>> ((4 : Int32) &&& 31).toUInt32).toInt32) &&& (3 : Int32)))])) rfl (by rw [hml]; rfl) (argsL := [(.int (((p3.toUInt32 >>> ((4 : Int32) &&& 31).toUInt32).toInt32) &&& (3 : Int32))), (.int p2)]) (rest := []) (lenOf pd_qIIzLjava_lang_String rfl) rfl (by show 2 * 0 + _ ≤ _; exact Nat.le_of_eq rfl) (hb hby at_26) (fun _ _ => ⟨rfl, rfl, (by exact own_b rfl), (by exact own_b rfl)⟩)
  dsimp only [Pt.U, Pt.locs, Pt.cells, Pt.slots] at Xs7_ Ss7_ Sg7_ l7_ y7_ z7_ st7_ hQ7_ chr7_
  subst L7_ k7_ n7_
  obtain ⟨X7_, hS7_, hZ7_, hown7_⟩ := rebS hS3_ (Nat.le_refl _) Xs7_ Ss7_ (Nat.le_trans (Nat.le_of_eq (congrArg Array.size (rfl : T3_.heap = _).symm)) Sg7_) hZ3_ hown3_
  obtain ⟨xs_7_, ts_7_, rfl, Nq7_, ek7_, p7__0⟩ := hQ7_
  have N7_ := Fr.app N3_ Nq7_
  have cr10_ := cr6_.trans chr7_
  have ch7_ := chr7_.1
  have szcC : own_Str Z T7_.heap xs_7_ ts_7_ cC := by rw [← qcC]; exact p7__0
  obtain ⟨T11_, h11_, X11_, e11_, E11_, A11_, D11_, U11_, st11_⟩ := newO X7_ hx hZ7_ hown7_ (own_w hw 41 rfl) (own_w hw 42 rfl) (own_w hw 43 rfl) rfl (g := (mkF m 31 #[.val (.int p0), .val (.int p1), .val (.int p2), .val (.int p3), .val (.ref xs_1_), .val (.ref xs_3_), .val (.ref xs_7_), .unset, .unset, .unset, .unset, .unset, .unset, .unset, .unset] [])) rfl (hb hby at_31) (by exact own_b rfl) (by exact own_b rfl)
  obtain ⟨b11_, g11_⟩ : ∃ z, z = T7_.heap.size := ⟨_, rfl⟩
  rw [← g11_] at A11_ D11_ U11_ st11_
  have sf11_ : Safe Z consts_1 T7_.vm T7_.heap b11_ := Safe.new (Nat.le_of_eq g11_.symm)
  have ch12_ : CHv Z consts_1 T7_.vm h11_ := CHv.ext E11_ ch7_
  have cr13_ := cr10_.trans (CHr.ext E11_ ch7_)
  have F11__cause : Fld Z h11_ b11_ "java/lang/Throwable" "cause" "Ljava/lang/Throwable;" .null := D11_ (Or.inl (own_w hw 77 rfl)) (ty := (.object "java/lang/Throwable")) (by decide)
  have F11__stackTrace : Fld Z h11_ b11_ "java/lang/Throwable" "stackTrace" "[Ljava/lang/StackTraceElement;" .null := D11_ (Or.inl (own_w hw 80 rfl)) (ty := (.array (.object "java/lang/StackTraceElement"))) (by decide)
  have F11__suppressedExceptions : Fld Z h11_ b11_ "java/lang/Throwable" "suppressedExceptions" "Ljava/util/List;" .null := D11_ (Or.inl (own_w hw 83 rfl)) (ty := (.object "java/util/List")) (by decide)
  have F11__detailMessage : Fld Z h11_ b11_ "java/lang/Throwable" "detailMessage" "Ljava/lang/String;" .null := D11_ (Or.inl (own_w hw 107 rfl)) (ty := (.object "java/lang/String")) (by decide)
  have F11__backtrace : Fld Z h11_ b11_ "java/lang/Throwable" "backtrace" "Ljava/lang/Object;" .null := D11_ (Or.inl (own_w hw 108 rfl)) (ty := (.object "java/lang/Object")) (by decide)
  have F11__depth : Fld Z h11_ b11_ "java/lang/Throwable" "depth" "I" (.int (0 : Int32)) := D11_ (Or.inl (own_w hw 109 rfl)) (ty := .int) (by decide)
  have F11__place : Fld Z h11_ b11_ "com/example/brisk_warden/briskwarden/core/UnsupportedNumberException" "place" "Ljava/lang/String;" .null := D11_ (Or.inr (own_w hw 113 rfl)) (ty := (.object "java/lang/String")) (by decide)
  have F11__problem : Fld Z h11_ b11_ "com/example/brisk_warden/briskwarden/core/UnsupportedNumberException" "problem" "Ljava/lang/String;" .null := D11_ (Or.inr (own_w hw 115 rfl)) (ty := (.object "java/lang/String")) (by decide)
  have f15_ : own_Str Z h11_ xs_3_ ts_3_ cB := ((szcB.keep ek7_ nin0 nin0).ext E11_)
  have f16_ : own_Str Z h11_ xs_7_ ts_7_ cC := (szcC.ext E11_)
  have z18_ : n0 ≤ T7_.heap.size := Nat.le_trans z9_ ek7_.1
  have g17_ : n0 ≤ b11_ := Nat.le_trans z18_ (Nat.le_of_eq g11_.symm)
  have f19_ : Old Z n0 h11_ := ((f8_.keep ek7_ all0).ext E11_)
  have z20_ : n0 ≤ h11_.size := Nat.le_trans z18_ E11_.1
  obtain ⟨_, _, ⟨T14_, L14_, k14_, n14_⟩, -, Xs14_, Ss14_, Sg14_, ⟨Lc14_, hQ14_, l14_, y14_, z14_, chr14_⟩, st14_⟩ := X11_.specialBackS hx (y := (⟨"com/example/brisk_warden/briskwarden/core/UnsupportedNumberException", "<init>", "(Ljava/lang/String;Ljava/lang/String;)V"⟩ : MethodName)) rfl hown7_ (mvT hZ7_ (own_w hw 44 rfl)) (mvT hZ7_ (own_w hw 45 rfl)) (mvT hZ7_ (own_w hw 46 rfl)) (by decide) (backOfSKH (W := 1) (rmI l Z a0 hw hEL [] b11_ xs_3_ xs_7_ ts_3_ cB ts_7_ cC G1 vU vS h11_ n0 z20_ f15_ f16_ A11_ U11_ F11__cause F11__stackTrace F11__suppressedExceptions F11__backtrace F11__detailMessage F11__place F11__problem g17_ T1 P5 f19_ TU rU TS rS hl (Nat.le_trans lncB (by decide)) lncC) hZ7_ (own_w hw 46 rfl) (own_w hw 43 rfl) (by decide) (by decide) hEL ch12_ (Vm.MethodsKnown.alikeC ((State.Warmed39.alike hZ).symm.trans (State.Warmed39.alike hZ7_)) hK.1) (Vm.FramesKnown.alikeC ((State.Warmed39.alike hZ).symm.trans (State.Warmed39.alike hZ7_)) hK.2)) (g := (mkF m 39 #[.val (.int p0), .val (.int p1), .val (.int p2), .val (.int p3), .val (.ref xs_1_), .val (.ref xs_3_), .val (.ref xs_7_), .unset, .unset, .unset, .unset, .unset, .unset, .unset, .unset] [(.ref xs_7_), (.ref xs_3_), (.ref b11_), (.ref b11_)])) rfl (by rw [hml]; rfl) (Steps.refl _) (a := b11_) (argsL := [(.ref xs_3_), (.ref xs_7_)]) (rest := [(.ref b11_)]) (lenOf pd_qLjava_lang_StringLjava_lang_StringzV rfl) rfl (by show 2 * 0 + _ ≤ _; exact Nat.le_of_eq rfl) (hb hby at_39) (fun _ _ => ⟨rfl, e11_, (by exact own_b rfl), (by exact own_b rfl)⟩)
  dsimp only [Pt.U, Pt.locs, Pt.cells, Pt.slots] at Xs14_ Ss14_ Sg14_ l14_ y14_ z14_ st14_ hQ14_ chr14_
  subst L14_ k14_ n14_
  obtain ⟨X14_, hS14_, hZ14_, hown14_⟩ := rebS hS7_ (Nat.le_trans (Nat.le_refl _) E11_.1) Xs14_ Ss14_ (Nat.le_trans (Nat.le_of_eq (congrArg Array.size e11_.symm)) Sg14_) hZ7_ hown7_
  obtain ⟨xm_14_, tm_14_, rfl, Nq14_, ek14_, p14__0, p14__1, p14__2, p14__3, p14__4, p14__5⟩ := hQ14_
  have N14_ := Fr.app N7_ Nq14_
  have cr21_ := cr13_.trans chr14_
  have ch14_ := chr14_.1
  have f23_ : own_Str Z T14_.heap xs_1_ ts_1_ cA := ((((szcA.keep ek3_ nin0 nin0).keep ek7_ nin0 nin0).ext E11_).keep ek14_ (ninS (Nat.ne_of_lt (Nat.lt_of_lt_of_le (own_Str.lt ((szcA.keep ek3_ nin0 nin0).keep ek7_ nin0 nin0)) (Nat.le_of_eq g11_.symm))) nin0) (ninS (Nat.ne_of_lt (Nat.lt_of_lt_of_le (own_Str.lt2 ((szcA.keep ek3_ nin0 nin0).keep ek7_ nin0 nin0)) (Nat.le_of_eq g11_.symm))) nin0))
  have f24_ : own_Str Z T14_.heap xs_3_ ts_3_ cB := (f15_.keep ek14_ (ninS (Nat.ne_of_lt (Nat.lt_of_lt_of_le (own_Str.lt (szcB.keep ek7_ nin0 nin0)) (Nat.le_of_eq g11_.symm))) nin0) (ninS (Nat.ne_of_lt (Nat.lt_of_lt_of_le (own_Str.lt2 (szcB.keep ek7_ nin0 nin0)) (Nat.le_of_eq g11_.symm))) nin0))
  have f25_ : own_Str Z T14_.heap xs_7_ ts_7_ cC := (f16_.keep ek14_ (ninS (Nat.ne_of_lt (Nat.lt_of_lt_of_le (own_Str.lt szcC) (Nat.le_of_eq g11_.symm))) nin0) (ninS (Nat.ne_of_lt (Nat.lt_of_lt_of_le (own_Str.lt2 szcC) (Nat.le_of_eq g11_.symm))) nin0))
  have f26_ : Old Z n0 T14_.heap := (f19_.keep ek14_ (allS g17_ all0))
  have z27_ : n0 ≤ T14_.heap.size := Nat.le_trans z20_ ek14_.1
  obtain ⟨cq28_, kq28_, qa28_, qb28_, qc28_⟩ := isOf hZ14_ rfl p14__0
  obtain ⟨_, _, ⟨T22_, L22_, k22_, n22_⟩, -, Xs22_, Ss22_, Sg22_, ⟨Lc22_, hQ22_, l22_, y22_, z22_, chr22_⟩, st22_⟩ := X14_.virtualBackS hx (y := (⟨"com/example/brisk_warden/briskwarden/core/UnsupportedNumberException", "at", "(Ljava/lang/String;)Lcom/example/brisk_warden/briskwarden/core/UnsupportedNumberException;"⟩ : MethodName)) (z := (⟨"com/example/brisk_warden/briskwarden/core/UnsupportedNumberException", "at", "(Ljava/lang/String;)Lcom/example/brisk_warden/briskwarden/core/UnsupportedNumberException;"⟩ : MethodName)) hown14_ (mvT hZ14_ (own_w hw 116 rfl)) (mvT hZ14_ (own_w hw 117 rfl)) (notFace_of_selects (args := #[]) (mvT hZ14_ (own_w hw 119 rfl))) (mvT hZ14_ (own_w hw 119 rfl)) (mvT hZ14_ (own_w hw 118 rfl)) (by decide) (backOfSKH (W := 0) (rmAt l Z a0 hw hEL [] b11_ xs_1_ ts_1_ cA xs_3_ ts_3_ cB xs_7_ ts_7_ cC G1 vU vS T14_.heap n0 z27_ f23_ p14__0 p14__2 p14__3 f24_ f25_ T1 P5 f26_ TU rU TS rS hl lncA lncB lncC) hZ14_ (own_w hw 120 rfl) (own_w hw 43 rfl) (by decide) (by decide) hEL ch14_ (Vm.MethodsKnown.alikeC ((State.Warmed39.alike hZ).symm.trans (State.Warmed39.alike hZ14_)) hK.1) (Vm.FramesKnown.alikeC ((State.Warmed39.alike hZ).symm.trans (State.Warmed39.alike hZ14_)) hK.2)) qa28_ qc28_ (g := (mkF m 48 #[.val (.int p0), .val (.int p1), .val (.int p2), .val (.int p3), .val (.ref xs_1_), .val (.ref xs_3_), .val (.ref xs_7_), .val (.ref b11_), .unset, .unset, .unset, .unset, .unset, .unset, .unset] [(.ref xs_1_), (.ref b11_)])) rfl (by rw [hml]; rfl) (Steps.refl _) (argsL := [(.ref xs_1_)]) (rest := []) (lenOf pd_qLjava_lang_StringzLcom_example_brisk_warden_briskwarden_core_UnsupportedNumberException rfl) rfl (by show 2 * 0 + _ ≤ _; exact Nat.le_of_eq rfl) (hb hby at_48) (fun _ _ => ⟨rfl, rfl, (by exact own_b rfl), (by exact own_b rfl)⟩)
  dsimp only [Pt.U, Pt.locs, Pt.cells, Pt.slots] at Xs22_ Ss22_ Sg22_ l22_ y22_ z22_ st22_ hQ22_ chr22_
  subst L22_ k22_ n22_
  obtain ⟨X22_, hS22_, hZ22_, hown22_⟩ := rebS hS14_ (Nat.le_refl _) Xs22_ Ss22_ (Nat.le_trans (Nat.le_of_eq (congrArg Array.size (rfl : T14_.heap = _).symm)) Sg22_) hZ14_ hown14_
  obtain ⟨a2_22_, xp_22_, tp_22_, xm_22_, tm_22_, rfl, Nq22_, ek22_, p22__0, p22__1, p22__2, p22__3, p22__4, p22__5, p22__6⟩ := hQ22_
  have N22_ := Fr.app N14_ Nq22_
  have cr29_ := cr21_.trans chr22_
  have ch22_ := chr22_.1
  have z31_ : n0 ≤ T22_.heap.size := Nat.le_trans z27_ ek22_.1
  obtain ⟨cq32_, kq32_, qa32_, qb32_, qc32_⟩ := isOf hZ22_ rfl p22__0
  obtain ⟨_, _, ⟨T30_, L30_, k30_, n30_⟩, -, X30_, ⟨Lc30_, hQ30_, l30_, y30_, z30_⟩, st30_⟩ := X22_.virtualBack hx (y := (⟨"com/example/brisk_warden/briskwarden/core/UnsupportedNumberException", "place", "()Ljava/lang/String;"⟩ : MethodName)) (z := (⟨"com/example/brisk_warden/briskwarden/core/UnsupportedNumberException", "place", "()Ljava/lang/String;"⟩ : MethodName)) hown22_ (mvT hZ22_ (own_w hw 234 rfl)) (mvT hZ22_ (own_w hw 235 rfl)) (notFace_of_selects (args := #[]) (mvT hZ22_ (own_w hw 237 rfl))) (mvT hZ22_ (own_w hw 237 rfl)) (mvT hZ22_ (own_w hw 236 rfl)) (by decide) (backOf (W := 0) (rmGplace l Z a0 hw [] a2_22_ xp_22_ T22_.heap n0 z31_ p22__2) hZ22_ (own_w hw 238 rfl) (own_w hw 43 rfl) (by decide) (by decide)) qa32_ qc32_ (g := (mkF m 55 #[.val (.int p0), .val (.int p1), .val (.int p2), .val (.int p3), .val (.ref xs_1_), .val (.ref xs_3_), .val (.ref xs_7_), .val (.ref b11_), .val (.ref a2_22_), .unset, .unset, .unset, .unset, .unset, .unset] [(.ref a2_22_)])) rfl (by rw [hml]; rfl) (Steps.refl _) (argsL := []) (rest := []) (lenOf pd_qzLjava_lang_String rfl) rfl (by show 2 * 0 + _ ≤ _; exact Nat.le_of_eq rfl) (hb hby at_55) (fun _ _ => ⟨rfl, rfl, (by exact own_b rfl), (by exact own_b rfl)⟩)
  dsimp only [Pt.U, Pt.locs, Pt.cells, Pt.slots] at X30_ l30_ y30_ z30_ st30_ hQ30_
  subst L30_ k30_ n30_
  obtain ⟨rfl, Nq30_, ek30_⟩ := hQ30_
  have N30_ := Fr.app N22_ Nq30_
  have f34_ : own_Str Z T22_.heap xs_1_ ts_1_ cA := (f23_.keep ek22_ nin0 nin0)
  have f35_ : Old Z n0 T22_.heap := (f26_.keep ek22_ all0)
  obtain ⟨cq36_, kq36_, qa36_, qb36_, qc36_⟩ := isOf hZ22_ ek30_ f34_.1
  obtain ⟨_, _, ⟨T33_, L33_, k33_, n33_⟩, -, X33_, ⟨Lc33_, hQ33_, l33_, y33_, z33_⟩, st33_⟩ := X30_.virtualBack hx (y := (⟨"java/lang/String", "length", "()I"⟩ : MethodName)) (z := (⟨"java/lang/String", "length", "()I"⟩ : MethodName)) hown22_ (mvT hZ22_ (own_w hw 239 rfl)) (mvT hZ22_ (own_w hw 151 rfl)) (notFace_of_selects (args := #[]) (mvT hZ22_ (own_w hw 153 rfl))) (mvT hZ22_ (own_w hw 153 rfl)) (mvT hZ22_ (own_w hw 152 rfl)) (by decide) (own_lenB (W := 0) hZ22_ hw f34_ T1 P5 f35_ (by decide) (by decide)) qa36_ qc36_ (g := (mkF m 62 #[.val (.int p0), .val (.int p1), .val (.int p2), .val (.int p3), .val (.ref xs_1_), .val (.ref xs_3_), .val (.ref xs_7_), .val (.ref b11_), .val (.ref a2_22_), .val (.ref xp_22_), .unset, .unset, .unset, .unset, .unset] [(.ref xs_1_)])) rfl (by rw [hml]; rfl) (Steps.refl _) (argsL := []) (rest := []) (lenOf pd_qzI rfl) rfl (by show 2 * 0 + _ ≤ _; exact Nat.le_of_eq rfl) (hb hby at_62) (fun _ _ => ⟨rfl, ek30_, (by exact own_b rfl), (by exact own_b rfl)⟩)
  dsimp only [Pt.U, Pt.locs, Pt.cells, Pt.slots] at X33_ l33_ y33_ z33_ st33_ hQ33_
  subst L33_ k33_ n33_
  obtain ⟨rfl, rfl, ek33_⟩ := hQ33_
  have N33_ := Fr.app N30_ (Fr.nil n0)
  have f38_ : own_Str Z T22_.heap xs_3_ ts_3_ cB := (f24_.keep ek22_ nin0 nin0)
  obtain ⟨cq39_, kq39_, qa39_, qb39_, qc39_⟩ := isOf hZ22_ ek33_ f38_.1
  obtain ⟨_, _, ⟨T37_, L37_, k37_, n37_⟩, -, X37_, ⟨Lc37_, hQ37_, l37_, y37_, z37_⟩, st37_⟩ := X33_.virtualBack hx (y := (⟨"java/lang/String", "length", "()I"⟩ : MethodName)) (z := (⟨"java/lang/String", "length", "()I"⟩ : MethodName)) hown22_ (mvT hZ22_ (own_w hw 239 rfl)) (mvT hZ22_ (own_w hw 151 rfl)) (notFace_of_selects (args := #[]) (mvT hZ22_ (own_w hw 153 rfl))) (mvT hZ22_ (own_w hw 153 rfl)) (mvT hZ22_ (own_w hw 152 rfl)) (by decide) (own_lenB (W := 1) hZ22_ hw f38_ T1 P5 f35_ (by decide) (by decide)) qa39_ qc39_ (g := (mkF m 67 #[.val (.int p0), .val (.int p1), .val (.int p2), .val (.int p3), .val (.ref xs_1_), .val (.ref xs_3_), .val (.ref xs_7_), .val (.ref b11_), .val (.ref a2_22_), .val (.ref xp_22_), .unset, .unset, .unset, .unset, .unset] [(.ref xs_3_), (.int (Int32.ofNat cA.length))])) rfl (by rw [hml]; rfl) (Steps.refl _) (argsL := []) (rest := [(.int (Int32.ofNat cA.length))]) (lenOf pd_qzI rfl) rfl (by show 2 * 0 + _ ≤ _; exact Nat.le_of_eq rfl) (hb hby at_67) (fun _ _ => ⟨rfl, ek33_, (by exact own_b rfl), (by exact own_b rfl)⟩)
  dsimp only [Pt.U, Pt.locs, Pt.cells, Pt.slots] at X37_ l37_ y37_ z37_ st37_ hQ37_
  subst L37_ k37_ n37_
  obtain ⟨rfl, rfl, ek37_⟩ := hQ37_
  have N37_ := Fr.app N33_ (Fr.nil n0)
  obtain ⟨cq41_, kq41_, qa41_, qb41_, qc41_⟩ := isOf hZ22_ ek37_ p22__5.1
  obtain ⟨_, _, ⟨T40_, L40_, k40_, n40_⟩, -, X40_, ⟨Lc40_, hQ40_, l40_, y40_, z40_⟩, st40_⟩ := X37_.virtualBack hx (y := (⟨"java/lang/String", "length", "()I"⟩ : MethodName)) (z := (⟨"java/lang/String", "length", "()I"⟩ : MethodName)) hown22_ (mvT hZ22_ (own_w hw 239 rfl)) (mvT hZ22_ (own_w hw 151 rfl)) (notFace_of_selects (args := #[]) (mvT hZ22_ (own_w hw 153 rfl))) (mvT hZ22_ (own_w hw 153 rfl)) (mvT hZ22_ (own_w hw 152 rfl)) (by decide) (own_lenB (W := 0) hZ22_ hw p22__5 T1 P5 f35_ (by decide) (by decide)) qa41_ qc41_ (g := (mkF m 80 #[.val (.int p0), .val (.int p1), .val (.int p2), .val (.int p3), .val (.ref xs_1_), .val (.ref xs_3_), .val (.ref xs_7_), .val (.ref b11_), .val (.ref a2_22_), .val (.ref xp_22_), .val (.int ((Int32.ofNat cA.length) + (Int32.ofNat cB.length))), .unset, .unset, .unset, .unset] [(.ref xp_22_)])) rfl (by rw [hml]; rfl) (Steps.refl _) (argsL := []) (rest := []) (lenOf pd_qzI rfl) rfl (by show 2 * 0 + _ ≤ _; exact Nat.le_of_eq rfl) (hb hby at_80) (fun _ _ => ⟨rfl, ek37_, (by exact own_b rfl), (by exact own_b rfl)⟩)
  dsimp only [Pt.U, Pt.locs, Pt.cells, Pt.slots] at X40_ l40_ y40_ z40_ st40_ hQ40_
  subst L40_ k40_ n40_
  obtain ⟨rfl, rfl, ek40_⟩ := hQ40_
  have N40_ := Fr.app N37_ (Fr.nil n0)
  obtain ⟨_, _, ⟨T42_, L42_, k42_, n42_⟩, -, X42_, ⟨Lc42_, hQ42_, l42_, y42_, z42_⟩, st42_⟩ := Jvm.LawKit.callS X40_ hx (y := (⟨"com/example/brisk_warden/briskwarden/core/UnsupportedNumberExceptionAtPinLaw", "pc", "(Ljava/lang/String;Ljava/lang/String;Ljava/lang/String;I)Z"⟩ : MethodName)) hown22_ (mvT hZ22_ (own_w hw 240 rfl)) (mvT hZ22_ (own_w hw 241 rfl)) (mvT hZ22_ (own_w hw 2 rfl)) (mvT hZ22_ (own_w hw 242 rfl)) (by decide) (backOf (W := 0) (rmP l Z a0 hw [] xp_22_ xs_1_ xs_3_ (0 : Int32) tp_22_ ts_1_ cA ts_3_ cB 0 G1 G3 T22_.heap n0 z31_ p22__5 f34_ f38_ T1 P5 f35_ TF rF rfl (by decide)) hZ22_ (own_w hw 242 rfl) (own_w hw 2 rfl) (by decide) (by decide)) (g := (mkF m 95 #[.val (.int p0), .val (.int p1), .val (.int p2), .val (.int p3), .val (.ref xs_1_), .val (.ref xs_3_), .val (.ref xs_7_), .val (.ref b11_), .val (.ref a2_22_), .val (.ref xp_22_), .val (.int ((Int32.ofNat cA.length) + (Int32.ofNat cB.length))), .unset, .unset, .unset, .unset] [(.int (0 : Int32)), (.ref xs_3_), (.ref xs_1_), (.ref xp_22_)])) rfl (by rw [hml]; rfl) (argsL := [(.ref xp_22_), (.ref xs_1_), (.ref xs_3_), (.int (0 : Int32))]) (rest := []) (lenOf pd_qLjava_lang_StringLjava_lang_StringLjava_lang_StringIzZ rfl) rfl (by show 2 * 0 + _ ≤ _; exact Nat.le_of_eq rfl) (hb hby at_95) (fun _ _ => ⟨rfl, ek40_, (by exact own_b rfl), (by exact own_b rfl)⟩)
  dsimp only [Pt.U, Pt.locs, Pt.cells, Pt.slots] at X42_ l42_ y42_ z42_ st42_ hQ42_
  subst L42_ k42_ n42_
  obtain ⟨rfl, Nq42_, ek42_⟩ := hQ42_
  have N42_ := Fr.app N40_ Nq42_
  obtain ⟨_, _, ⟨T43_, L43_, k43_, n43_⟩, -, X43_, ⟨Lc43_, hQ43_, l43_, y43_, z43_⟩, st43_⟩ := Jvm.LawKit.callS X42_ hx (y := (⟨"com/example/brisk_warden/briskwarden/core/UnsupportedNumberExceptionAtPinLaw", "pc", "(Ljava/lang/String;Ljava/lang/String;Ljava/lang/String;I)Z"⟩ : MethodName)) hown22_ (mvT hZ22_ (own_w hw 240 rfl)) (mvT hZ22_ (own_w hw 241 rfl)) (mvT hZ22_ (own_w hw 2 rfl)) (mvT hZ22_ (own_w hw 242 rfl)) (by decide) (backOf (W := 0) (rmP l Z a0 hw [] xp_22_ xs_1_ xs_3_ (1 : Int32) tp_22_ ts_1_ cA ts_3_ cB 1 G1 G3 T22_.heap n0 z31_ p22__5 f34_ f38_ T1 P5 f35_ TF rF rfl (by decide)) hZ22_ (own_w hw 242 rfl) (own_w hw 2 rfl) (by decide) (by decide)) (g := (mkF m 108 #[.val (.int p0), .val (.int p1), .val (.int p2), .val (.int p3), .val (.ref xs_1_), .val (.ref xs_3_), .val (.ref xs_7_), .val (.ref b11_), .val (.ref a2_22_), .val (.ref xp_22_), .val (.int ((Int32.ofNat cA.length) + (Int32.ofNat cB.length))), .unset, .unset, .unset, .unset] [(.int (1 : Int32)), (.ref xs_3_), (.ref xs_1_), (.ref xp_22_)])) rfl (by rw [hml]; rfl) (argsL := [(.ref xp_22_), (.ref xs_1_), (.ref xs_3_), (.int (1 : Int32))]) (rest := []) (lenOf pd_qLjava_lang_StringLjava_lang_StringLjava_lang_StringIzZ rfl) rfl (by show 2 * 0 + _ ≤ _; exact Nat.le_of_eq rfl) (hb hby at_108) (fun _ _ => ⟨rfl, ek42_, (by exact own_b rfl), (by exact own_b rfl)⟩)
  dsimp only [Pt.U, Pt.locs, Pt.cells, Pt.slots] at X43_ l43_ y43_ z43_ st43_ hQ43_
  subst L43_ k43_ n43_
  obtain ⟨rfl, Nq43_, ek43_⟩ := hQ43_
  have N43_ := Fr.app N42_ Nq43_
  obtain ⟨_, _, ⟨T44_, L44_, k44_, n44_⟩, -, X44_, ⟨Lc44_, hQ44_, l44_, y44_, z44_⟩, st44_⟩ := Jvm.LawKit.callS X43_ hx (y := (⟨"com/example/brisk_warden/briskwarden/core/UnsupportedNumberExceptionAtPinLaw", "pc", "(Ljava/lang/String;Ljava/lang/String;Ljava/lang/String;I)Z"⟩ : MethodName)) hown22_ (mvT hZ22_ (own_w hw 240 rfl)) (mvT hZ22_ (own_w hw 241 rfl)) (mvT hZ22_ (own_w hw 2 rfl)) (mvT hZ22_ (own_w hw 242 rfl)) (by decide) (backOf (W := 0) (rmP l Z a0 hw [] xp_22_ xs_1_ xs_3_ (2 : Int32) tp_22_ ts_1_ cA ts_3_ cB 2 G1 G3 T22_.heap n0 z31_ p22__5 f34_ f38_ T1 P5 f35_ TF rF rfl (by decide)) hZ22_ (own_w hw 242 rfl) (own_w hw 2 rfl) (by decide) (by decide)) (g := (mkF m 121 #[.val (.int p0), .val (.int p1), .val (.int p2), .val (.int p3), .val (.ref xs_1_), .val (.ref xs_3_), .val (.ref xs_7_), .val (.ref b11_), .val (.ref a2_22_), .val (.ref xp_22_), .val (.int ((Int32.ofNat cA.length) + (Int32.ofNat cB.length))), .unset, .unset, .unset, .unset] [(.int (2 : Int32)), (.ref xs_3_), (.ref xs_1_), (.ref xp_22_)])) rfl (by rw [hml]; rfl) (argsL := [(.ref xp_22_), (.ref xs_1_), (.ref xs_3_), (.int (2 : Int32))]) (rest := []) (lenOf pd_qLjava_lang_StringLjava_lang_StringLjava_lang_StringIzZ rfl) rfl (by show 2 * 0 + _ ≤ _; exact Nat.le_of_eq rfl) (hb hby at_121) (fun _ _ => ⟨rfl, ek43_, (by exact own_b rfl), (by exact own_b rfl)⟩)
  dsimp only [Pt.U, Pt.locs, Pt.cells, Pt.slots] at X44_ l44_ y44_ z44_ st44_ hQ44_
  subst L44_ k44_ n44_
  obtain ⟨rfl, Nq44_, ek44_⟩ := hQ44_
  have N44_ := Fr.app N43_ Nq44_
  obtain ⟨_, _, ⟨T45_, L45_, k45_, n45_⟩, -, X45_, ⟨Lc45_, hQ45_, l45_, y45_, z45_⟩, st45_⟩ := Jvm.LawKit.callS X44_ hx (y := (⟨"com/example/brisk_warden/briskwarden/core/UnsupportedNumberExceptionAtPinLaw", "pc", "(Ljava/lang/String;Ljava/lang/String;Ljava/lang/String;I)Z"⟩ : MethodName)) hown22_ (mvT hZ22_ (own_w hw 240 rfl)) (mvT hZ22_ (own_w hw 241 rfl)) (mvT hZ22_ (own_w hw 2 rfl)) (mvT hZ22_ (own_w hw 242 rfl)) (by decide) (backOf (W := 0) (rmP l Z a0 hw [] xp_22_ xs_1_ xs_3_ (3 : Int32) tp_22_ ts_1_ cA ts_3_ cB 3 G1 G3 T22_.heap n0 z31_ p22__5 f34_ f38_ T1 P5 f35_ TF rF rfl (by decide)) hZ22_ (own_w hw 242 rfl) (own_w hw 2 rfl) (by decide) (by decide)) (g := (mkF m 134 #[.val (.int p0), .val (.int p1), .val (.int p2), .val (.int p3), .val (.ref xs_1_), .val (.ref xs_3_), .val (.ref xs_7_), .val (.ref b11_), .val (.ref a2_22_), .val (.ref xp_22_), .val (.int ((Int32.ofNat cA.length) + (Int32.ofNat cB.length))), .unset, .unset, .unset, .unset] [(.int (3 : Int32)), (.ref xs_3_), (.ref xs_1_), (.ref xp_22_)])) rfl (by rw [hml]; rfl) (argsL := [(.ref xp_22_), (.ref xs_1_), (.ref xs_3_), (.int (3 : Int32))]) (rest := []) (lenOf pd_qLjava_lang_StringLjava_lang_StringLjava_lang_StringIzZ rfl) rfl (by show 2 * 0 + _ ≤ _; exact Nat.le_of_eq rfl) (hb hby at_134) (fun _ _ => ⟨rfl, ek44_, (by exact own_b rfl), (by exact own_b rfl)⟩)
  dsimp only [Pt.U, Pt.locs, Pt.cells, Pt.slots] at X45_ l45_ y45_ z45_ st45_ hQ45_
  subst L45_ k45_ n45_
  obtain ⟨rfl, Nq45_, ek45_⟩ := hQ45_
  have N45_ := Fr.app N44_ Nq45_
  obtain ⟨_, _, ⟨T46_, L46_, k46_, n46_⟩, -, X46_, ⟨Lc46_, hQ46_, l46_, y46_, z46_⟩, st46_⟩ := Jvm.LawKit.callS X45_ hx (y := (⟨"com/example/brisk_warden/briskwarden/core/UnsupportedNumberExceptionAtPinLaw", "pc", "(Ljava/lang/String;Ljava/lang/String;Ljava/lang/String;I)Z"⟩ : MethodName)) hown22_ (mvT hZ22_ (own_w hw 240 rfl)) (mvT hZ22_ (own_w hw 241 rfl)) (mvT hZ22_ (own_w hw 2 rfl)) (mvT hZ22_ (own_w hw 242 rfl)) (by decide) (backOf (W := 0) (rmP l Z a0 hw [] xp_22_ xs_1_ xs_3_ (4 : Int32) tp_22_ ts_1_ cA ts_3_ cB 4 G1 G3 T22_.heap n0 z31_ p22__5 f34_ f38_ T1 P5 f35_ TF rF rfl (by decide)) hZ22_ (own_w hw 242 rfl) (own_w hw 2 rfl) (by decide) (by decide)) (g := (mkF m 147 #[.val (.int p0), .val (.int p1), .val (.int p2), .val (.int p3), .val (.ref xs_1_), .val (.ref xs_3_), .val (.ref xs_7_), .val (.ref b11_), .val (.ref a2_22_), .val (.ref xp_22_), .val (.int ((Int32.ofNat cA.length) + (Int32.ofNat cB.length))), .unset, .unset, .unset, .unset] [(.int (4 : Int32)), (.ref xs_3_), (.ref xs_1_), (.ref xp_22_)])) rfl (by rw [hml]; rfl) (argsL := [(.ref xp_22_), (.ref xs_1_), (.ref xs_3_), (.int (4 : Int32))]) (rest := []) (lenOf pd_qLjava_lang_StringLjava_lang_StringLjava_lang_StringIzZ rfl) rfl (by show 2 * 0 + _ ≤ _; exact Nat.le_of_eq rfl) (hb hby at_147) (fun _ _ => ⟨rfl, ek45_, (by exact own_b rfl), (by exact own_b rfl)⟩)
  dsimp only [Pt.U, Pt.locs, Pt.cells, Pt.slots] at X46_ l46_ y46_ z46_ st46_ hQ46_
  subst L46_ k46_ n46_
  obtain ⟨rfl, Nq46_, ek46_⟩ := hQ46_
  have N46_ := Fr.app N45_ Nq46_
  obtain ⟨_, _, ⟨T47_, L47_, k47_, n47_⟩, -, X47_, ⟨Lc47_, hQ47_, l47_, y47_, z47_⟩, st47_⟩ := Jvm.LawKit.callS X46_ hx (y := (⟨"com/example/brisk_warden/briskwarden/core/UnsupportedNumberExceptionAtPinLaw", "pc", "(Ljava/lang/String;Ljava/lang/String;Ljava/lang/String;I)Z"⟩ : MethodName)) hown22_ (mvT hZ22_ (own_w hw 240 rfl)) (mvT hZ22_ (own_w hw 241 rfl)) (mvT hZ22_ (own_w hw 2 rfl)) (mvT hZ22_ (own_w hw 242 rfl)) (by decide) (backOf (W := 0) (rmP l Z a0 hw [] xp_22_ xs_1_ xs_3_ (5 : Int32) tp_22_ ts_1_ cA ts_3_ cB 5 G1 G3 T22_.heap n0 z31_ p22__5 f34_ f38_ T1 P5 f35_ TF rF rfl (by decide)) hZ22_ (own_w hw 242 rfl) (own_w hw 2 rfl) (by decide) (by decide)) (g := (mkF m 160 #[.val (.int p0), .val (.int p1), .val (.int p2), .val (.int p3), .val (.ref xs_1_), .val (.ref xs_3_), .val (.ref xs_7_), .val (.ref b11_), .val (.ref a2_22_), .val (.ref xp_22_), .val (.int ((Int32.ofNat cA.length) + (Int32.ofNat cB.length))), .unset, .unset, .unset, .unset] [(.int (5 : Int32)), (.ref xs_3_), (.ref xs_1_), (.ref xp_22_)])) rfl (by rw [hml]; rfl) (argsL := [(.ref xp_22_), (.ref xs_1_), (.ref xs_3_), (.int (5 : Int32))]) (rest := []) (lenOf pd_qLjava_lang_StringLjava_lang_StringLjava_lang_StringIzZ rfl) rfl (by show 2 * 0 + _ ≤ _; exact Nat.le_of_eq rfl) (hb hby at_160) (fun _ _ => ⟨rfl, ek46_, (by exact own_b rfl), (by exact own_b rfl)⟩)
  dsimp only [Pt.U, Pt.locs, Pt.cells, Pt.slots] at X47_ l47_ y47_ z47_ st47_ hQ47_
  subst L47_ k47_ n47_
  obtain ⟨rfl, Nq47_, ek47_⟩ := hQ47_
  have N47_ := Fr.app N46_ Nq47_
  obtain ⟨cq49_, kq49_, qa49_, qb49_, qc49_⟩ := isOf hZ22_ ek47_ p22__0
  obtain ⟨_, _, ⟨T48_, L48_, k48_, n48_⟩, -, X48_, ⟨Lc48_, hQ48_, l48_, y48_, z48_⟩, st48_⟩ := X47_.virtualBack hx (y := (⟨"com/example/brisk_warden/briskwarden/core/UnsupportedNumberException", "problem", "()Ljava/lang/String;"⟩ : MethodName)) (z := (⟨"com/example/brisk_warden/briskwarden/core/UnsupportedNumberException", "problem", "()Ljava/lang/String;"⟩ : MethodName)) hown22_ (mvT hZ22_ (own_w hw 267 rfl)) (mvT hZ22_ (own_w hw 268 rfl)) (notFace_of_selects (args := #[]) (mvT hZ22_ (own_w hw 270 rfl))) (mvT hZ22_ (own_w hw 270 rfl)) (mvT hZ22_ (own_w hw 269 rfl)) (by decide) (backOf (W := 0) (rmGproblem l Z a0 hw [] a2_22_ xs_7_ T22_.heap n0 z31_ p22__3) hZ22_ (own_w hw 271 rfl) (own_w hw 43 rfl) (by decide) (by decide)) qa49_ qc49_ (g := (mkF m 182 #[.val (.int p0), .val (.int p1), .val (.int p2), .val (.int p3), .val (.ref xs_1_), .val (.ref xs_3_), .val (.ref xs_7_), .val (.ref b11_), .val (.ref a2_22_), .val (.ref xp_22_), .val (.int ((Int32.ofNat cA.length) + (Int32.ofNat cB.length))), .val (.int (1 : Int32)), .unset, .unset, .unset] [(.ref a2_22_)])) rfl (by rw [hml]; rfl) (Steps.refl _) (argsL := []) (rest := []) (lenOf pd_qzLjava_lang_String rfl) rfl (by show 2 * 0 + _ ≤ _; exact Nat.le_of_eq rfl) (hb hby at_182) (fun _ _ => ⟨rfl, ek47_, (by exact own_b rfl), (by exact own_b rfl)⟩)
  dsimp only [Pt.U, Pt.locs, Pt.cells, Pt.slots] at X48_ l48_ y48_ z48_ st48_ hQ48_
  subst L48_ k48_ n48_
  obtain ⟨rfl, Nq48_, ek48_⟩ := hQ48_
  have N48_ := Fr.app N47_ Nq48_
  have f52_ : own_Str Z T22_.heap xs_7_ ts_7_ cC := (f25_.keep ek22_ nin0 nin0)
  obtain ⟨cq51_, kq51_, qa51_, qb51_, qc51_⟩ := isOf hZ22_ ek48_ f52_.1
  obtain ⟨_, _, ⟨T50_, L50_, k50_, n50_⟩, -, X50_, ⟨Lc50_, hQ50_, l50_, y50_, z50_⟩, st50_⟩ := X48_.virtualBack hx (y := (⟨"java/lang/String", "equals", "(Ljava/lang/Object;)Z"⟩ : MethodName)) (z := (⟨"java/lang/String", "equals", "(Ljava/lang/Object;)Z"⟩ : MethodName)) hown22_ (mvT hZ22_ (own_w hw 272 rfl)) (mvT hZ22_ (own_w hw 273 rfl)) (notFace_of_selects (args := #[]) (mvT hZ22_ (own_w hw 275 rfl))) (mvT hZ22_ (own_w hw 275 rfl)) (mvT hZ22_ (own_w hw 274 rfl)) (by decide) (backOf (W := 0) (rmEqS l Z a0 hw [] xs_7_ T22_.heap n0 z31_ ) hZ22_ (own_w hw 276 rfl) (own_w hw 6 rfl) (by decide) (by decide)) qa51_ qc51_ (g := (mkF m 196 #[.val (.int p0), .val (.int p1), .val (.int p2), .val (.int p3), .val (.ref xs_1_), .val (.ref xs_3_), .val (.ref xs_7_), .val (.ref b11_), .val (.ref a2_22_), .val (.ref xp_22_), .val (.int ((Int32.ofNat cA.length) + (Int32.ofNat cB.length))), .val (.int (1 : Int32)), .val (.ref xs_7_), .unset, .unset] [(.ref xs_7_), (.ref xs_7_)])) rfl (by rw [hml]; rfl) (Steps.refl _) (argsL := [(.ref xs_7_)]) (rest := []) (lenOf pd_qLjava_lang_ObjectzZ rfl) rfl (by show 2 * 0 + _ ≤ _; exact Nat.le_of_eq rfl) (hb hby at_196) (fun _ _ => ⟨rfl, ek48_, (by exact own_b rfl), (by exact own_b rfl)⟩)
  dsimp only [Pt.U, Pt.locs, Pt.cells, Pt.slots] at X50_ l50_ y50_ z50_ st50_ hQ50_
  subst L50_ k50_ n50_
  obtain ⟨rfl, Nq50_, ek50_⟩ := hQ50_
  have N50_ := Fr.app N48_ Nq50_
  have mz_ : Fld Z T22_.heap a2_22_ "java/lang/Throwable" "detailMessage" "Ljava/lang/String;" (.ref xs_7_) := by
    rw [← p22__1 (by simp only [List.length_append, List.length_nil, Nat.zero_add]; exact hz)]
    exact p22__4
  obtain ⟨cq54_, kq54_, qa54_, qb54_, qc54_⟩ := isOf hZ22_ ek50_ p22__0
  obtain ⟨_, _, ⟨T53_, L53_, k53_, n53_⟩, -, X53_, ⟨Lc53_, hQ53_, l53_, y53_, z53_⟩, st53_⟩ := X50_.virtualBackUp hx (owner := "java/lang/Throwable") (x := (⟨"com/example/brisk_warden/briskwarden/core/UnsupportedNumberException", "getMessage", "()Ljava/lang/String;"⟩ : MethodName)) (y := (⟨"java/lang/Throwable", "getMessage", "()Ljava/lang/String;"⟩ : MethodName)) hown22_ (mvT hZ22_ (own_w hw 277 rfl)) (mvT hZ22_ (own_w hw 278 rfl)) (mvT hZ22_ (own_w hw 279 rfl)) (by decide) (mvT hZ22_ (own_w hw 281 rfl)) (mvT hZ22_ (own_w hw 280 rfl)) (backOf (W := 0) (rmGgetMessage l Z a0 hw [] a2_22_ xs_7_ T22_.heap n0 z31_ mz_) hZ22_ (own_w hw 282 rfl) (own_w hw 73 rfl) (by decide) (by decide)) qa54_ qc54_ (g := (mkF m 206 #[.val (.int p0), .val (.int p1), .val (.int p2), .val (.int p3), .val (.ref xs_1_), .val (.ref xs_3_), .val (.ref xs_7_), .val (.ref b11_), .val (.ref a2_22_), .val (.ref xp_22_), .val (.int ((Int32.ofNat cA.length) + (Int32.ofNat cB.length))), .val (.int (1 : Int32)), .val (.ref xs_7_), .unset, .unset] [(.ref a2_22_)])) rfl (by rw [hml]; rfl) (Steps.refl _) (argsL := []) (rest := []) (lenOf pd_qzLjava_lang_String rfl) rfl (by show 2 * 0 + _ ≤ _; exact Nat.le_of_eq rfl) (hb hby at_206) (fun _ _ => ⟨rfl, ek50_, (by exact own_b rfl), (by exact own_b rfl)⟩)
  dsimp only [Pt.U, Pt.locs, Pt.cells, Pt.slots] at X53_ l53_ y53_ z53_ st53_ hQ53_
  subst L53_ k53_ n53_
  obtain ⟨rfl, Nq53_, ek53_⟩ := hQ53_
  have N53_ := Fr.app N50_ Nq53_
  obtain ⟨cq56_, kq56_, qa56_, qb56_, qc56_⟩ := isOf hZ22_ ek53_ f52_.1
  obtain ⟨_, _, ⟨T55_, L55_, k55_, n55_⟩, -, X55_, ⟨Lc55_, hQ55_, l55_, y55_, z55_⟩, st55_⟩ := X53_.virtualBack hx (y := (⟨"java/lang/String", "equals", "(Ljava/lang/Object;)Z"⟩ : MethodName)) (z := (⟨"java/lang/String", "equals", "(Ljava/lang/Object;)Z"⟩ : MethodName)) hown22_ (mvT hZ22_ (own_w hw 272 rfl)) (mvT hZ22_ (own_w hw 273 rfl)) (notFace_of_selects (args := #[]) (mvT hZ22_ (own_w hw 275 rfl))) (mvT hZ22_ (own_w hw 275 rfl)) (mvT hZ22_ (own_w hw 274 rfl)) (by decide) (backOf (W := 0) (rmEqS l Z a0 hw [] xs_7_ T22_.heap n0 z31_ ) hZ22_ (own_w hw 276 rfl) (own_w hw 6 rfl) (by decide) (by decide)) qa56_ qc56_ (g := (mkF m 227 #[.val (.int p0), .val (.int p1), .val (.int p2), .val (.int p3), .val (.ref xs_1_), .val (.ref xs_3_), .val (.ref xs_7_), .val (.ref b11_), .val (.ref a2_22_), .val (.ref xp_22_), .val (.int ((Int32.ofNat cA.length) + (Int32.ofNat cB.length))), .val (.int (1 : Int32)), .val (.ref xs_7_), .val (.ref xs_7_), .unset] [(.ref xs_7_), (.ref xs_7_)])) rfl (by rw [hml]; rfl) (Steps.refl _) (argsL := [(.ref xs_7_)]) (rest := []) (lenOf pd_qLjava_lang_ObjectzZ rfl) rfl (by show 2 * 0 + _ ≤ _; exact Nat.le_of_eq rfl) (hb hby at_227) (fun _ _ => ⟨rfl, ek53_, (by exact own_b rfl), (by exact own_b rfl)⟩)
  dsimp only [Pt.U, Pt.locs, Pt.cells, Pt.slots] at X55_ l55_ y55_ z55_ st55_ hQ55_
  subst L55_ k55_ n55_
  obtain ⟨rfl, Nq55_, ek55_⟩ := hQ55_
  have N55_ := Fr.app N53_ Nq55_
  have f58_ : Fld Z T22_.heap b11_ "com/example/brisk_warden/briskwarden/core/UnsupportedNumberException" "place" "Ljava/lang/String;" (.ref xs_3_) := (p14__2.keep ek22_ nin0)
  have f60_ : Exa Z T22_.heap b11_ "com/example/brisk_warden/briskwarden/core/UnsupportedNumberException" := (p14__0.keep ek22_)
  obtain ⟨cq59_, kq59_, qa59_, qb59_, qc59_⟩ := isOf hZ22_ ek55_ f60_
  obtain ⟨_, _, ⟨T57_, L57_, k57_, n57_⟩, -, X57_, ⟨Lc57_, hQ57_, l57_, y57_, z57_⟩, st57_⟩ := X55_.virtualBack hx (y := (⟨"com/example/brisk_warden/briskwarden/core/UnsupportedNumberException", "place", "()Ljava/lang/String;"⟩ : MethodName)) (z := (⟨"com/example/brisk_warden/briskwarden/core/UnsupportedNumberException", "place", "()Ljava/lang/String;"⟩ : MethodName)) hown22_ (mvT hZ22_ (own_w hw 234 rfl)) (mvT hZ22_ (own_w hw 235 rfl)) (notFace_of_selects (args := #[]) (mvT hZ22_ (own_w hw 237 rfl))) (mvT hZ22_ (own_w hw 237 rfl)) (mvT hZ22_ (own_w hw 236 rfl)) (by decide) (backOf (W := 0) (rmGplace l Z a0 hw [] b11_ xs_3_ T22_.heap n0 z31_ f58_) hZ22_ (own_w hw 238 rfl) (own_w hw 43 rfl) (by decide) (by decide)) qa59_ qc59_ (g := (mkF m 439 #[.val (.int p0), .val (.int p1), .val (.int p2), .val (.int p3), .val (.ref xs_1_), .val (.ref xs_3_), .val (.ref xs_7_), .val (.ref b11_), .val (.ref a2_22_), .val (.ref xp_22_), .val (.int ((Int32.ofNat cA.length) + (Int32.ofNat cB.length))), .val (.int (1 : Int32)), .val (.ref xs_7_), .val (.ref xs_7_), .val (.int (1 : Int32))] [(.ref b11_)])) rfl (by rw [hml]; rfl) (Steps.refl _) (argsL := []) (rest := []) (lenOf pd_qzLjava_lang_String rfl) rfl (by show 2 * 0 + _ ≤ _; exact Nat.le_of_eq rfl) (hb hby at_439) (fun _ _ => ⟨rfl, ek55_, (by exact own_b rfl), (by exact own_b rfl)⟩)
  dsimp only [Pt.U, Pt.locs, Pt.cells, Pt.slots] at X57_ l57_ y57_ z57_ st57_ hQ57_
  subst L57_ k57_ n57_
  obtain ⟨rfl, Nq57_, ek57_⟩ := hQ57_
  have N57_ := Fr.app N55_ Nq57_
  obtain ⟨cq62_, kq62_, qa62_, qb62_, qc62_⟩ := isOf hZ22_ ek57_ f38_.1
  obtain ⟨_, _, ⟨T61_, L61_, k61_, n61_⟩, -, X61_, ⟨Lc61_, hQ61_, l61_, y61_, z61_⟩, st61_⟩ := X57_.virtualBack hx (y := (⟨"java/lang/String", "equals", "(Ljava/lang/Object;)Z"⟩ : MethodName)) (z := (⟨"java/lang/String", "equals", "(Ljava/lang/Object;)Z"⟩ : MethodName)) hown22_ (mvT hZ22_ (own_w hw 272 rfl)) (mvT hZ22_ (own_w hw 273 rfl)) (notFace_of_selects (args := #[]) (mvT hZ22_ (own_w hw 275 rfl))) (mvT hZ22_ (own_w hw 275 rfl)) (mvT hZ22_ (own_w hw 274 rfl)) (by decide) (backOf (W := 0) (rmEqS l Z a0 hw [] xs_3_ T22_.heap n0 z31_ ) hZ22_ (own_w hw 276 rfl) (own_w hw 6 rfl) (by decide) (by decide)) qa62_ qc62_ (g := (mkF m 444 #[.val (.int p0), .val (.int p1), .val (.int p2), .val (.int p3), .val (.ref xs_1_), .val (.ref xs_3_), .val (.ref xs_7_), .val (.ref b11_), .val (.ref a2_22_), .val (.ref xp_22_), .val (.int ((Int32.ofNat cA.length) + (Int32.ofNat cB.length))), .val (.int (1 : Int32)), .val (.ref xs_7_), .val (.ref xs_7_), .val (.int (1 : Int32))] [(.ref xs_3_), (.ref xs_3_)])) rfl (by rw [hml]; rfl) (Steps.refl _) (argsL := [(.ref xs_3_)]) (rest := []) (lenOf pd_qLjava_lang_ObjectzZ rfl) rfl (by show 2 * 0 + _ ≤ _; exact Nat.le_of_eq rfl) (hb hby at_444) (fun _ _ => ⟨rfl, ek57_, (by exact own_b rfl), (by exact own_b rfl)⟩)
  dsimp only [Pt.U, Pt.locs, Pt.cells, Pt.slots] at X61_ l61_ y61_ z61_ st61_ hQ61_
  subst L61_ k61_ n61_
  obtain ⟨rfl, Nq61_, ek61_⟩ := hQ61_
  have N61_ := Fr.app N57_ Nq61_
  have f64_ : Fld Z T22_.heap b11_ "com/example/brisk_warden/briskwarden/core/UnsupportedNumberException" "problem" "Ljava/lang/String;" (.ref xs_7_) := (p14__3.keep ek22_ nin0)
  obtain ⟨cq65_, kq65_, qa65_, qb65_, qc65_⟩ := isOf hZ22_ ek61_ f60_
  obtain ⟨_, _, ⟨T63_, L63_, k63_, n63_⟩, -, X63_, ⟨Lc63_, hQ63_, l63_, y63_, z63_⟩, st63_⟩ := X61_.virtualBack hx (y := (⟨"com/example/brisk_warden/briskwarden/core/UnsupportedNumberException", "problem", "()Ljava/lang/String;"⟩ : MethodName)) (z := (⟨"com/example/brisk_warden/briskwarden/core/UnsupportedNumberException", "problem", "()Ljava/lang/String;"⟩ : MethodName)) hown22_ (mvT hZ22_ (own_w hw 267 rfl)) (mvT hZ22_ (own_w hw 268 rfl)) (notFace_of_selects (args := #[]) (mvT hZ22_ (own_w hw 270 rfl))) (mvT hZ22_ (own_w hw 270 rfl)) (mvT hZ22_ (own_w hw 269 rfl)) (by decide) (backOf (W := 0) (rmGproblem l Z a0 hw [] b11_ xs_7_ T22_.heap n0 z31_ f64_) hZ22_ (own_w hw 271 rfl) (own_w hw 43 rfl) (by decide) (by decide)) qa65_ qc65_ (g := (mkF m 452 #[.val (.int p0), .val (.int p1), .val (.int p2), .val (.int p3), .val (.ref xs_1_), .val (.ref xs_3_), .val (.ref xs_7_), .val (.ref b11_), .val (.ref a2_22_), .val (.ref xp_22_), .val (.int ((Int32.ofNat cA.length) + (Int32.ofNat cB.length))), .val (.int (1 : Int32)), .val (.ref xs_7_), .val (.ref xs_7_), .val (.int (1 : Int32))] [(.ref b11_)])) rfl (by rw [hml]; rfl) (Steps.refl _) (argsL := []) (rest := []) (lenOf pd_qzLjava_lang_String rfl) rfl (by show 2 * 0 + _ ≤ _; exact Nat.le_of_eq rfl) (hb hby at_452) (fun _ _ => ⟨rfl, ek61_, (by exact own_b rfl), (by exact own_b rfl)⟩)
  dsimp only [Pt.U, Pt.locs, Pt.cells, Pt.slots] at X63_ l63_ y63_ z63_ st63_ hQ63_
  subst L63_ k63_ n63_
  obtain ⟨rfl, Nq63_, ek63_⟩ := hQ63_
  have N63_ := Fr.app N61_ Nq63_
  obtain ⟨cq67_, kq67_, qa67_, qb67_, qc67_⟩ := isOf hZ22_ ek63_ f52_.1
  obtain ⟨_, _, ⟨T66_, L66_, k66_, n66_⟩, -, X66_, ⟨Lc66_, hQ66_, l66_, y66_, z66_⟩, st66_⟩ := X63_.virtualBack hx (y := (⟨"java/lang/String", "equals", "(Ljava/lang/Object;)Z"⟩ : MethodName)) (z := (⟨"java/lang/String", "equals", "(Ljava/lang/Object;)Z"⟩ : MethodName)) hown22_ (mvT hZ22_ (own_w hw 272 rfl)) (mvT hZ22_ (own_w hw 273 rfl)) (notFace_of_selects (args := #[]) (mvT hZ22_ (own_w hw 275 rfl))) (mvT hZ22_ (own_w hw 275 rfl)) (mvT hZ22_ (own_w hw 274 rfl)) (by decide) (backOf (W := 0) (rmEqS l Z a0 hw [] xs_7_ T22_.heap n0 z31_ ) hZ22_ (own_w hw 276 rfl) (own_w hw 6 rfl) (by decide) (by decide)) qa67_ qc67_ (g := (mkF m 457 #[.val (.int p0), .val (.int p1), .val (.int p2), .val (.int p3), .val (.ref xs_1_), .val (.ref xs_3_), .val (.ref xs_7_), .val (.ref b11_), .val (.ref a2_22_), .val (.ref xp_22_), .val (.int ((Int32.ofNat cA.length) + (Int32.ofNat cB.length))), .val (.int (1 : Int32)), .val (.ref xs_7_), .val (.ref xs_7_), .val (.int (1 : Int32))] [(.ref xs_7_), (.ref xs_7_)])) rfl (by rw [hml]; rfl) (Steps.refl _) (argsL := [(.ref xs_7_)]) (rest := []) (lenOf pd_qLjava_lang_ObjectzZ rfl) rfl (by show 2 * 0 + _ ≤ _; exact Nat.le_of_eq rfl) (hb hby at_457) (fun _ _ => ⟨rfl, ek63_, (by exact own_b rfl), (by exact own_b rfl)⟩)
  dsimp only [Pt.U, Pt.locs, Pt.cells, Pt.slots] at X66_ l66_ y66_ z66_ st66_ hQ66_
  subst L66_ k66_ n66_
  obtain ⟨rfl, Nq66_, ek66_⟩ := hQ66_
  have N66_ := Fr.app N63_ Nq66_
  obtain ⟨fs, hr, hrun, hended, hREW⟩ := X66_.leaveW hS22_ (Nat.le_trans (Nat.le_refl _) (Nat.le_of_eq (congrArg Array.size ek66_.symm))) (v := some (.int (1 : Int32))) (fun h => by first | rfl | (rw [Bd.returns] at h; cases h))
  refine ⟨_, _, pre0 _ ?_, hrun, hended, _, _, rfl, ?_, ?_, own_REW hREW (by exact own_b rfl) (by exact own_b rfl)⟩
  · show Steps p.tables e below (s₁.setTop (mkF m 0 #[.val (.int p0), .val (.int p1), .val (.int p2), .val (.int p3), .unset, .unset, .unset, .unset, .unset, .unset, .unset, .unset, .unset, .unset, .unset] [])) _
    refine XS.iloadN X0.here hx rfl (hb hby at_0) rfl ?_
    refine XS.iconst X0.here hx rfl (hb hby at_1) ?_
    refine XS.iand X0.here hx rfl (hb hby at_2) rfl ?_
    show Steps p.tables e below (s₁.setTop (mkF m 3 #[.val (.int p0), .val (.int p1), .val (.int p2), .val (.int p3), .unset, .unset, .unset, .unset, .unset, .unset, .unset, .unset, .unset, .unset, .unset] [(.int (p3 &&& (3 : Int32)))])) _
    refine XS.iloadN X0.here hx rfl (hb hby at_3) rfl ?_
    refine st1_.trans ?_
    show Steps p.tables e below (T1_.setTop (mkF m 7 #[.val (.int p0), .val (.int p1), .val (.int p2), .val (.int p3), .unset, .unset, .unset, .unset, .unset, .unset, .unset, .unset, .unset, .unset, .unset] [(.ref xs_1_)])) _
    refine XS.astore X1_.here hx rfl (hb hby at_7) rfl rfl (l' := #[.val (.int p0), .val (.int p1), .val (.int p2), .val (.int p3), .val (.ref xs_1_), .unset, .unset, .unset, .unset, .unset, .unset, .unset, .unset, .unset, .unset]) rfl ?_
    show Steps p.tables e below (T1_.setTop (mkF m 9 #[.val (.int p0), .val (.int p1), .val (.int p2), .val (.int p3), .val (.ref xs_1_), .unset, .unset, .unset, .unset, .unset, .unset, .unset, .unset, .unset, .unset] [])) _
    refine XS.iloadN X1_.here hx rfl (hb hby at_9) rfl ?_
    refine XS.iconst X1_.here hx rfl (hb hby at_10) ?_
    refine XS.iushr X1_.here hx rfl (hb hby at_11) rfl ?_
    show Steps p.tables e below (T1_.setTop (mkF m 12 #[.val (.int p0), .val (.int p1), .val (.int p2), .val (.int p3), .val (.ref xs_1_), .unset, .unset, .unset, .unset, .unset, .unset, .unset, .unset, .unset, .unset] [(.int ((p3.toUInt32 >>> ((2 : Int32) &&& 31).toUInt32).toInt32))])) _
    refine XS.iconst X1_.here hx rfl (hb hby at_12) ?_
    refine XS.iand X1_.here hx rfl (hb hby at_13) rfl ?_
    show Steps p.tables e below (T1_.setTop (mkF m 14 #[.val (.int p0), .val (.int p1), .val (.int p2), .val (.int p3), .val (.ref xs_1_), .unset, .unset, .unset, .unset, .unset, .unset, .unset, .unset, .unset, .unset] [(.int (((p3.toUInt32 >>> ((2 : Int32) &&& 31).toUInt32).toInt32) &&& (3 : Int32)))])) _
    refine XS.iloadN X1_.here hx rfl (hb hby at_14) rfl ?_
    refine st3_.trans ?_
    show Steps p.tables e below (T3_.setTop (mkF m 18 #[.val (.int p0), .val (.int p1), .val (.int p2), .val (.int p3), .val (.ref xs_1_), .unset, .unset, .unset, .unset, .unset, .unset, .unset, .unset, .unset, .unset] [(.ref xs_3_)])) _
    refine XS.astore X3_.here hx rfl (hb hby at_18) rfl rfl (l' := #[.val (.int p0), .val (.int p1), .val (.int p2), .val (.int p3), .val (.ref xs_1_), .val (.ref xs_3_), .unset, .unset, .unset, .unset, .unset, .unset, .unset, .unset, .unset]) rfl ?_
    show Steps p.tables e below (T3_.setTop (mkF m 20 #[.val (.int p0), .val (.int p1), .val (.int p2), .val (.int p3), .val (.ref xs_1_), .val (.ref xs_3_), .unset, .unset, .unset, .unset, .unset, .unset, .unset, .unset, .unset] [])) _
    refine XS.iloadN X3_.here hx rfl (hb hby at_20) rfl ?_
    refine XS.iconst X3_.here hx rfl (hb hby at_21) ?_
    refine XS.iushr X3_.here hx rfl (hb hby at_22) rfl ?_
    show Steps p.tables e below (T3_.setTop (mkF m 23 #[.val (.int p0), .val (.int p1), .val (.int p2), .val (.int p3), .val (.ref xs_1_), .val (.ref xs_3_), .unset, .unset, .unset, .unset, .unset, .unset, .unset, .unset, .unset] [(.int ((p3.toUInt32 >>> ((4 : Int32) &&& 31).toUInt32).toInt32))])) _
    refine XS.iconst X3_.here hx rfl (hb hby at_23) ?_
    refine XS.iand X3_.here hx rfl (hb hby at_24) rfl ?_
    show Steps p.tables e below (T3_.setTop (mkF m 25 #[.val (.int p0), .val (.int p1), .val (.int p2), .val (.int p3), .val (.ref xs_1_), .val (.ref xs_3_), .unset, .unset, .unset, .unset, .unset, .unset, .unset, .unset, .unset] [(.int (((p3.toUInt32 >>> ((4 : Int32) &&& 31).toUInt32).toInt32) &&& (3 : Int32)))])) _
    refine XS.iloadN X3_.here hx rfl (hb hby at_25) rfl ?_
    refine st7_.trans ?_
    show Steps p.tables e below (T7_.setTop (mkF m 29 #[.val (.int p0), .val (.int p1), .val (.int p2), .val (.int p3), .val (.ref xs_1_), .val (.ref xs_3_), .unset, .unset, .unset, .unset, .unset, .unset, .unset, .unset, .unset] [(.ref xs_7_)])) _
    refine XS.astore X7_.here hx rfl (hb hby at_29) rfl rfl (l' := #[.val (.int p0), .val (.int p1), .val (.int p2), .val (.int p3), .val (.ref xs_1_), .val (.ref xs_3_), .val (.ref xs_7_), .unset, .unset, .unset, .unset, .unset, .unset, .unset, .unset]) rfl ?_
    show Steps p.tables e below (T7_.setTop (mkF m 31 #[.val (.int p0), .val (.int p1), .val (.int p2), .val (.int p3), .val (.ref xs_1_), .val (.ref xs_3_), .val (.ref xs_7_), .unset, .unset, .unset, .unset, .unset, .unset, .unset, .unset] [])) _
    refine st11_ _ ?_
    show Steps p.tables e below (T11_.setTop (mkF m 34 #[.val (.int p0), .val (.int p1), .val (.int p2), .val (.int p3), .val (.ref xs_1_), .val (.ref xs_3_), .val (.ref xs_7_), .unset, .unset, .unset, .unset, .unset, .unset, .unset, .unset] [(.ref b11_)])) _
    refine XS.dup X11_.here hx rfl (hb hby at_34) rfl rfl ?_
    refine XS.aload X11_.here hx rfl (hb hby at_35) rfl rfl ?_
    refine XS.aload X11_.here hx rfl (hb hby at_37) rfl rfl ?_
    refine st14_.trans ?_
    show Steps p.tables e below (T14_.setTop (mkF m 42 #[.val (.int p0), .val (.int p1), .val (.int p2), .val (.int p3), .val (.ref xs_1_), .val (.ref xs_3_), .val (.ref xs_7_), .unset, .unset, .unset, .unset, .unset, .unset, .unset, .unset] [(.ref b11_)])) _
    refine XS.astore X14_.here hx rfl (hb hby at_42) rfl rfl (l' := #[.val (.int p0), .val (.int p1), .val (.int p2), .val (.int p3), .val (.ref xs_1_), .val (.ref xs_3_), .val (.ref xs_7_), .val (.ref b11_), .unset, .unset, .unset, .unset, .unset, .unset, .unset]) rfl ?_
    show Steps p.tables e below (T14_.setTop (mkF m 44 #[.val (.int p0), .val (.int p1), .val (.int p2), .val (.int p3), .val (.ref xs_1_), .val (.ref xs_3_), .val (.ref xs_7_), .val (.ref b11_), .unset, .unset, .unset, .unset, .unset, .unset, .unset] [])) _
    refine XS.aload X14_.here hx rfl (hb hby at_44) rfl rfl ?_
    refine XS.aload X14_.here hx rfl (hb hby at_46) rfl rfl ?_
    refine st22_.trans ?_
    show Steps p.tables e below (T22_.setTop (mkF m 51 #[.val (.int p0), .val (.int p1), .val (.int p2), .val (.int p3), .val (.ref xs_1_), .val (.ref xs_3_), .val (.ref xs_7_), .val (.ref b11_), .unset, .unset, .unset, .unset, .unset, .unset, .unset] [(.ref a2_22_)])) _
    refine XS.astore X22_.here hx rfl (hb hby at_51) rfl rfl (l' := #[.val (.int p0), .val (.int p1), .val (.int p2), .val (.int p3), .val (.ref xs_1_), .val (.ref xs_3_), .val (.ref xs_7_), .val (.ref b11_), .val (.ref a2_22_), .unset, .unset, .unset, .unset, .unset, .unset]) rfl ?_
    show Steps p.tables e below (T22_.setTop (mkF m 53 #[.val (.int p0), .val (.int p1), .val (.int p2), .val (.int p3), .val (.ref xs_1_), .val (.ref xs_3_), .val (.ref xs_7_), .val (.ref b11_), .val (.ref a2_22_), .unset, .unset, .unset, .unset, .unset, .unset] [])) _
    refine XS.aload X22_.here hx rfl (hb hby at_53) rfl rfl ?_
    refine st30_.trans ?_
    show Steps p.tables e below (T30_.setTop (mkF m 58 #[.val (.int p0), .val (.int p1), .val (.int p2), .val (.int p3), .val (.ref xs_1_), .val (.ref xs_3_), .val (.ref xs_7_), .val (.ref b11_), .val (.ref a2_22_), .unset, .unset, .unset, .unset, .unset, .unset] [(.ref xp_22_)])) _
    refine XS.astore X30_.here hx rfl (hb hby at_58) rfl rfl (l' := #[.val (.int p0), .val (.int p1), .val (.int p2), .val (.int p3), .val (.ref xs_1_), .val (.ref xs_3_), .val (.ref xs_7_), .val (.ref b11_), .val (.ref a2_22_), .val (.ref xp_22_), .unset, .unset, .unset, .unset, .unset]) rfl ?_
    show Steps p.tables e below (T30_.setTop (mkF m 60 #[.val (.int p0), .val (.int p1), .val (.int p2), .val (.int p3), .val (.ref xs_1_), .val (.ref xs_3_), .val (.ref xs_7_), .val (.ref b11_), .val (.ref a2_22_), .val (.ref xp_22_), .unset, .unset, .unset, .unset, .unset] [])) _
    refine XS.aload X30_.here hx rfl (hb hby at_60) rfl rfl ?_
    refine st33_.trans ?_
    show Steps p.tables e below (T33_.setTop (mkF m 65 #[.val (.int p0), .val (.int p1), .val (.int p2), .val (.int p3), .val (.ref xs_1_), .val (.ref xs_3_), .val (.ref xs_7_), .val (.ref b11_), .val (.ref a2_22_), .val (.ref xp_22_), .unset, .unset, .unset, .unset, .unset] [(.int (Int32.ofNat cA.length))])) _
    refine XS.aload X33_.here hx rfl (hb hby at_65) rfl rfl ?_
    refine st37_.trans ?_
    show Steps p.tables e below (T37_.setTop (mkF m 70 #[.val (.int p0), .val (.int p1), .val (.int p2), .val (.int p3), .val (.ref xs_1_), .val (.ref xs_3_), .val (.ref xs_7_), .val (.ref b11_), .val (.ref a2_22_), .val (.ref xp_22_), .unset, .unset, .unset, .unset, .unset] [(.int (Int32.ofNat cB.length)), (.int (Int32.ofNat cA.length))])) _
    refine XS.iadd X37_.here hx rfl (hb hby at_70) rfl ?_
    show Steps p.tables e below (T37_.setTop (mkF m 71 #[.val (.int p0), .val (.int p1), .val (.int p2), .val (.int p3), .val (.ref xs_1_), .val (.ref xs_3_), .val (.ref xs_7_), .val (.ref b11_), .val (.ref a2_22_), .val (.ref xp_22_), .unset, .unset, .unset, .unset, .unset] [(.int ((Int32.ofNat cA.length) + (Int32.ofNat cB.length)))])) _
    refine XS.istore X37_.here hx rfl (hb hby at_71) rfl (l' := #[.val (.int p0), .val (.int p1), .val (.int p2), .val (.int p3), .val (.ref xs_1_), .val (.ref xs_3_), .val (.ref xs_7_), .val (.ref b11_), .val (.ref a2_22_), .val (.ref xp_22_), .val (.int ((Int32.ofNat cA.length) + (Int32.ofNat cB.length))), .unset, .unset, .unset, .unset]) rfl ?_
    show Steps p.tables e below (T37_.setTop (mkF m 73 #[.val (.int p0), .val (.int p1), .val (.int p2), .val (.int p3), .val (.ref xs_1_), .val (.ref xs_3_), .val (.ref xs_7_), .val (.ref b11_), .val (.ref a2_22_), .val (.ref xp_22_), .val (.int ((Int32.ofNat cA.length) + (Int32.ofNat cB.length))), .unset, .unset, .unset, .unset] [])) _
    refine XS.aload X37_.here hx rfl (hb hby at_73) rfl rfl ?_
    refine XS.ifnullNo X37_.here hx rfl (hb hby at_75) rfl ?_
    refine XS.aload X37_.here hx rfl (hb hby at_78) rfl rfl ?_
    refine st40_.trans ?_
    show Steps p.tables e below (T40_.setTop (mkF m 83 #[.val (.int p0), .val (.int p1), .val (.int p2), .val (.int p3), .val (.ref xs_1_), .val (.ref xs_3_), .val (.ref xs_7_), .val (.ref b11_), .val (.ref a2_22_), .val (.ref xp_22_), .val (.int ((Int32.ofNat cA.length) + (Int32.ofNat cB.length))), .unset, .unset, .unset, .unset] [(.int (Int32.ofNat ((([] : List Int32) ++ cA) ++ cB).length))])) _
    refine XS.iload X40_.here hx rfl (hb hby at_83) rfl ?_
    refine XS.icmpNo X40_.here hx rfl (hb hby at_85) rfl (teq ((own_lenE _ _) : (Int32.ofNat ((([] : List Int32) ++ cA) ++ cB).length) = ((Int32.ofNat cA.length) + (Int32.ofNat cB.length)))).2 ?_
    refine XS.aload X40_.here hx rfl (hb hby at_88) rfl rfl ?_
    refine XS.aload X40_.here hx rfl (hb hby at_90) rfl rfl ?_
    refine XS.aload X40_.here hx rfl (hb hby at_92) rfl rfl ?_
    refine XS.iconst X40_.here hx rfl (hb hby at_94) ?_
    refine st42_ _ ?_
    show Steps p.tables e below (T42_.setTop (mkF m 98 #[.val (.int p0), .val (.int p1), .val (.int p2), .val (.int p3), .val (.ref xs_1_), .val (.ref xs_3_), .val (.ref xs_7_), .val (.ref b11_), .val (.ref a2_22_), .val (.ref xp_22_), .val (.int ((Int32.ofNat cA.length) + (Int32.ofNat cB.length))), .unset, .unset, .unset, .unset] [(.int (1 : Int32))])) _
    refine XS.ifNo X42_.here hx rfl (hb hby at_98) rfl ((if0 _ _).trans (feq ((by decide) : ¬ ((1 : Int32) = (0 : Int32)))).1) ?_
    refine XS.aload X42_.here hx rfl (hb hby at_101) rfl rfl ?_
    refine XS.aload X42_.here hx rfl (hb hby at_103) rfl rfl ?_
    refine XS.aload X42_.here hx rfl (hb hby at_105) rfl rfl ?_
    refine XS.iconst X42_.here hx rfl (hb hby at_107) ?_
    refine st43_ _ ?_
    show Steps p.tables e below (T43_.setTop (mkF m 111 #[.val (.int p0), .val (.int p1), .val (.int p2), .val (.int p3), .val (.ref xs_1_), .val (.ref xs_3_), .val (.ref xs_7_), .val (.ref b11_), .val (.ref a2_22_), .val (.ref xp_22_), .val (.int ((Int32.ofNat cA.length) + (Int32.ofNat cB.length))), .unset, .unset, .unset, .unset] [(.int (1 : Int32))])) _
    refine XS.ifNo X43_.here hx rfl (hb hby at_111) rfl ((if0 _ _).trans (feq ((by decide) : ¬ ((1 : Int32) = (0 : Int32)))).1) ?_
    refine XS.aload X43_.here hx rfl (hb hby at_114) rfl rfl ?_
    refine XS.aload X43_.here hx rfl (hb hby at_116) rfl rfl ?_
    refine XS.aload X43_.here hx rfl (hb hby at_118) rfl rfl ?_
    refine XS.iconst X43_.here hx rfl (hb hby at_120) ?_
    refine st44_ _ ?_
    show Steps p.tables e below (T44_.setTop (mkF m 124 #[.val (.int p0), .val (.int p1), .val (.int p2), .val (.int p3), .val (.ref xs_1_), .val (.ref xs_3_), .val (.ref xs_7_), .val (.ref b11_), .val (.ref a2_22_), .val (.ref xp_22_), .val (.int ((Int32.ofNat cA.length) + (Int32.ofNat cB.length))), .unset, .unset, .unset, .unset] [(.int (1 : Int32))])) _
    refine XS.ifNo X44_.here hx rfl (hb hby at_124) rfl ((if0 _ _).trans (feq ((by decide) : ¬ ((1 : Int32) = (0 : Int32)))).1) ?_
    refine XS.aload X44_.here hx rfl (hb hby at_127) rfl rfl ?_
    refine XS.aload X44_.here hx rfl (hb hby at_129) rfl rfl ?_
    refine XS.aload X44_.here hx rfl (hb hby at_131) rfl rfl ?_
    refine XS.iconst X44_.here hx rfl (hb hby at_133) ?_
    refine st45_ _ ?_
    show Steps p.tables e below (T45_.setTop (mkF m 137 #[.val (.int p0), .val (.int p1), .val (.int p2), .val (.int p3), .val (.ref xs_1_), .val (.ref xs_3_), .val (.ref xs_7_), .val (.ref b11_), .val (.ref a2_22_), .val (.ref xp_22_), .val (.int ((Int32.ofNat cA.length) + (Int32.ofNat cB.length))), .unset, .unset, .unset, .unset] [(.int (1 : Int32))])) _
    refine XS.ifNo X45_.here hx rfl (hb hby at_137) rfl ((if0 _ _).trans (feq ((by decide) : ¬ ((1 : Int32) = (0 : Int32)))).1) ?_
    refine XS.aload X45_.here hx rfl (hb hby at_140) rfl rfl ?_
    refine XS.aload X45_.here hx rfl (hb hby at_142) rfl rfl ?_
    refine XS.aload X45_.here hx rfl (hb hby at_144) rfl rfl ?_
    refine XS.iconst X45_.here hx rfl (hb hby at_146) ?_
    refine st46_ _ ?_
    show Steps p.tables e below (T46_.setTop (mkF m 150 #[.val (.int p0), .val (.int p1), .val (.int p2), .val (.int p3), .val (.ref xs_1_), .val (.ref xs_3_), .val (.ref xs_7_), .val (.ref b11_), .val (.ref a2_22_), .val (.ref xp_22_), .val (.int ((Int32.ofNat cA.length) + (Int32.ofNat cB.length))), .unset, .unset, .unset, .unset] [(.int (1 : Int32))])) _
    refine XS.ifNo X46_.here hx rfl (hb hby at_150) rfl ((if0 _ _).trans (feq ((by decide) : ¬ ((1 : Int32) = (0 : Int32)))).1) ?_
    refine XS.aload X46_.here hx rfl (hb hby at_153) rfl rfl ?_
    refine XS.aload X46_.here hx rfl (hb hby at_155) rfl rfl ?_
    refine XS.aload X46_.here hx rfl (hb hby at_157) rfl rfl ?_
    refine XS.iconst X46_.here hx rfl (hb hby at_159) ?_
    refine st47_ _ ?_
    show Steps p.tables e below (T47_.setTop (mkF m 163 #[.val (.int p0), .val (.int p1), .val (.int p2), .val (.int p3), .val (.ref xs_1_), .val (.ref xs_3_), .val (.ref xs_7_), .val (.ref b11_), .val (.ref a2_22_), .val (.ref xp_22_), .val (.int ((Int32.ofNat cA.length) + (Int32.ofNat cB.length))), .unset, .unset, .unset, .unset] [(.int (1 : Int32))])) _
    refine XS.ifNo X47_.here hx rfl (hb hby at_163) rfl ((if0 _ _).trans (feq ((by decide) : ¬ ((1 : Int32) = (0 : Int32)))).1) ?_
    refine XS.iconst X47_.here hx rfl (hb hby at_166) ?_
    refine XS.goto X47_.here hx rfl (pc0 := 167) (pc' := 171) rfl (hb hby at_167) (by decide) (by decide) ?_
    refine XS.istore X47_.here hx rfl (hb hby at_171) rfl (l' := #[.val (.int p0), .val (.int p1), .val (.int p2), .val (.int p3), .val (.ref xs_1_), .val (.ref xs_3_), .val (.ref xs_7_), .val (.ref b11_), .val (.ref a2_22_), .val (.ref xp_22_), .val (.int ((Int32.ofNat cA.length) + (Int32.ofNat cB.length))), .val (.int (1 : Int32)), .unset, .unset, .unset]) rfl ?_
    show Steps p.tables e below (T47_.setTop (mkF m 173 #[.val (.int p0), .val (.int p1), .val (.int p2), .val (.int p3), .val (.ref xs_1_), .val (.ref xs_3_), .val (.ref xs_7_), .val (.ref b11_), .val (.ref a2_22_), .val (.ref xp_22_), .val (.int ((Int32.ofNat cA.length) + (Int32.ofNat cB.length))), .val (.int (1 : Int32)), .unset, .unset, .unset] [])) _
    refine XS.iload X47_.here hx rfl (hb hby at_173) rfl ?_
    refine XS.ifYes X47_.here hx rfl (pc0 := 175) (pc' := 180) rfl (hb hby at_175) rfl ((if0 _ _).trans (feq ((by decide) : ¬ ((1 : Int32) = (0 : Int32)))).2) (by decide) (by decide) ?_
    refine XS.aload X47_.here hx rfl (hb hby at_180) rfl rfl ?_
    refine st48_.trans ?_
    show Steps p.tables e below (T48_.setTop (mkF m 185 #[.val (.int p0), .val (.int p1), .val (.int p2), .val (.int p3), .val (.ref xs_1_), .val (.ref xs_3_), .val (.ref xs_7_), .val (.ref b11_), .val (.ref a2_22_), .val (.ref xp_22_), .val (.int ((Int32.ofNat cA.length) + (Int32.ofNat cB.length))), .val (.int (1 : Int32)), .unset, .unset, .unset] [(.ref xs_7_)])) _
    refine XS.astore X48_.here hx rfl (hb hby at_185) rfl rfl (l' := #[.val (.int p0), .val (.int p1), .val (.int p2), .val (.int p3), .val (.ref xs_1_), .val (.ref xs_3_), .val (.ref xs_7_), .val (.ref b11_), .val (.ref a2_22_), .val (.ref xp_22_), .val (.int ((Int32.ofNat cA.length) + (Int32.ofNat cB.length))), .val (.int (1 : Int32)), .val (.ref xs_7_), .unset, .unset]) rfl ?_
    show Steps p.tables e below (T48_.setTop (mkF m 187 #[.val (.int p0), .val (.int p1), .val (.int p2), .val (.int p3), .val (.ref xs_1_), .val (.ref xs_3_), .val (.ref xs_7_), .val (.ref b11_), .val (.ref a2_22_), .val (.ref xp_22_), .val (.int ((Int32.ofNat cA.length) + (Int32.ofNat cB.length))), .val (.int (1 : Int32)), .val (.ref xs_7_), .unset, .unset] [])) _
    refine XS.aload X48_.here hx rfl (hb hby at_187) rfl rfl ?_
    refine XS.ifnullNo X48_.here hx rfl (hb hby at_189) rfl ?_
    refine XS.aload X48_.here hx rfl (hb hby at_192) rfl rfl ?_
    refine XS.aload X48_.here hx rfl (hb hby at_194) rfl rfl ?_
    refine st50_.trans ?_
    show Steps p.tables e below (T50_.setTop (mkF m 199 #[.val (.int p0), .val (.int p1), .val (.int p2), .val (.int p3), .val (.ref xs_1_), .val (.ref xs_3_), .val (.ref xs_7_), .val (.ref b11_), .val (.ref a2_22_), .val (.ref xp_22_), .val (.int ((Int32.ofNat cA.length) + (Int32.ofNat cB.length))), .val (.int (1 : Int32)), .val (.ref xs_7_), .unset, .unset] [(.int (1 : Int32))])) _
    refine XS.ifYes X50_.here hx rfl (pc0 := 199) (pc' := 204) rfl (hb hby at_199) rfl ((if0 _ _).trans (feq ((by decide) : ¬ ((1 : Int32) = (0 : Int32)))).2) (by decide) (by decide) ?_
    refine XS.aload X50_.here hx rfl (hb hby at_204) rfl rfl ?_
    refine st53_.trans ?_
    show Steps p.tables e below (T53_.setTop (mkF m 209 #[.val (.int p0), .val (.int p1), .val (.int p2), .val (.int p3), .val (.ref xs_1_), .val (.ref xs_3_), .val (.ref xs_7_), .val (.ref b11_), .val (.ref a2_22_), .val (.ref xp_22_), .val (.int ((Int32.ofNat cA.length) + (Int32.ofNat cB.length))), .val (.int (1 : Int32)), .val (.ref xs_7_), .unset, .unset] [(.ref xs_7_)])) _
    refine XS.astore X53_.here hx rfl (hb hby at_209) rfl rfl (l' := #[.val (.int p0), .val (.int p1), .val (.int p2), .val (.int p3), .val (.ref xs_1_), .val (.ref xs_3_), .val (.ref xs_7_), .val (.ref b11_), .val (.ref a2_22_), .val (.ref xp_22_), .val (.int ((Int32.ofNat cA.length) + (Int32.ofNat cB.length))), .val (.int (1 : Int32)), .val (.ref xs_7_), .val (.ref xs_7_), .unset]) rfl ?_
    show Steps p.tables e below (T53_.setTop (mkF m 211 #[.val (.int p0), .val (.int p1), .val (.int p2), .val (.int p3), .val (.ref xs_1_), .val (.ref xs_3_), .val (.ref xs_7_), .val (.ref b11_), .val (.ref a2_22_), .val (.ref xp_22_), .val (.int ((Int32.ofNat cA.length) + (Int32.ofNat cB.length))), .val (.int (1 : Int32)), .val (.ref xs_7_), .val (.ref xs_7_), .unset] [])) _
    refine XS.aload X53_.here hx rfl (hb hby at_211) rfl rfl ?_
    refine XS.ifnonnullYes X53_.here hx rfl (pc0 := 213) (pc' := 218) rfl (hb hby at_213) rfl (by decide) (by decide) ?_
    refine XS.iload X53_.here hx rfl (hb hby at_218) rfl ?_
    refine XS.ifNo X53_.here hx rfl (hb hby at_220) rfl ((if0 _ _).trans (teq ((by rw [own_addn, hz]; rfl) : ((Int32.ofNat cA.length) + (Int32.ofNat cB.length)) = (0 : Int32))).2) ?_
    refine XS.aload X53_.here hx rfl (hb hby at_223) rfl rfl ?_
    refine XS.aload X53_.here hx rfl (hb hby at_225) rfl rfl ?_
    refine st55_.trans ?_
    show Steps p.tables e below (T55_.setTop (mkF m 230 #[.val (.int p0), .val (.int p1), .val (.int p2), .val (.int p3), .val (.ref xs_1_), .val (.ref xs_3_), .val (.ref xs_7_), .val (.ref b11_), .val (.ref a2_22_), .val (.ref xp_22_), .val (.int ((Int32.ofNat cA.length) + (Int32.ofNat cB.length))), .val (.int (1 : Int32)), .val (.ref xs_7_), .val (.ref xs_7_), .unset] [(.int (1 : Int32))])) _
    refine XS.istore X55_.here hx rfl (hb hby at_230) rfl (l' := #[.val (.int p0), .val (.int p1), .val (.int p2), .val (.int p3), .val (.ref xs_1_), .val (.ref xs_3_), .val (.ref xs_7_), .val (.ref b11_), .val (.ref a2_22_), .val (.ref xp_22_), .val (.int ((Int32.ofNat cA.length) + (Int32.ofNat cB.length))), .val (.int (1 : Int32)), .val (.ref xs_7_), .val (.ref xs_7_), .val (.int (1 : Int32))]) rfl ?_
    show Steps p.tables e below (T55_.setTop (mkF m 232 #[.val (.int p0), .val (.int p1), .val (.int p2), .val (.int p3), .val (.ref xs_1_), .val (.ref xs_3_), .val (.ref xs_7_), .val (.ref b11_), .val (.ref a2_22_), .val (.ref xp_22_), .val (.int ((Int32.ofNat cA.length) + (Int32.ofNat cB.length))), .val (.int (1 : Int32)), .val (.ref xs_7_), .val (.ref xs_7_), .val (.int (1 : Int32))] [])) _
    refine XS.goto X55_.here hx rfl (pc0 := 232) (pc' := 430) rfl (hb hby at_232) (by decide) (by decide) ?_
    refine XS.iload X55_.here hx rfl (hb hby at_430) rfl ?_
    refine XS.ifYes X55_.here hx rfl (pc0 := 432) (pc' := 437) rfl (hb hby at_432) rfl ((if0 _ _).trans (feq ((by decide) : ¬ ((1 : Int32) = (0 : Int32)))).2) (by decide) (by decide) ?_
    refine XS.aload X55_.here hx rfl (hb hby at_437) rfl rfl ?_
    refine st57_.trans ?_
    show Steps p.tables e below (T57_.setTop (mkF m 442 #[.val (.int p0), .val (.int p1), .val (.int p2), .val (.int p3), .val (.ref xs_1_), .val (.ref xs_3_), .val (.ref xs_7_), .val (.ref b11_), .val (.ref a2_22_), .val (.ref xp_22_), .val (.int ((Int32.ofNat cA.length) + (Int32.ofNat cB.length))), .val (.int (1 : Int32)), .val (.ref xs_7_), .val (.ref xs_7_), .val (.int (1 : Int32))] [(.ref xs_3_)])) _
    refine XS.aload X57_.here hx rfl (hb hby at_442) rfl rfl ?_
    refine st61_.trans ?_
    show Steps p.tables e below (T61_.setTop (mkF m 447 #[.val (.int p0), .val (.int p1), .val (.int p2), .val (.int p3), .val (.ref xs_1_), .val (.ref xs_3_), .val (.ref xs_7_), .val (.ref b11_), .val (.ref a2_22_), .val (.ref xp_22_), .val (.int ((Int32.ofNat cA.length) + (Int32.ofNat cB.length))), .val (.int (1 : Int32)), .val (.ref xs_7_), .val (.ref xs_7_), .val (.int (1 : Int32))] [(.int (1 : Int32))])) _
    refine XS.ifNo X61_.here hx rfl (hb hby at_447) rfl ((if0 _ _).trans (feq ((by decide) : ¬ ((1 : Int32) = (0 : Int32)))).1) ?_
    refine XS.aload X61_.here hx rfl (hb hby at_450) rfl rfl ?_
    refine st63_.trans ?_
    show Steps p.tables e below (T63_.setTop (mkF m 455 #[.val (.int p0), .val (.int p1), .val (.int p2), .val (.int p3), .val (.ref xs_1_), .val (.ref xs_3_), .val (.ref xs_7_), .val (.ref b11_), .val (.ref a2_22_), .val (.ref xp_22_), .val (.int ((Int32.ofNat cA.length) + (Int32.ofNat cB.length))), .val (.int (1 : Int32)), .val (.ref xs_7_), .val (.ref xs_7_), .val (.int (1 : Int32))] [(.ref xs_7_)])) _
    refine XS.aload X63_.here hx rfl (hb hby at_455) rfl rfl ?_
    refine st66_.trans ?_
    show Steps p.tables e below (T66_.setTop (mkF m 460 #[.val (.int p0), .val (.int p1), .val (.int p2), .val (.int p3), .val (.ref xs_1_), .val (.ref xs_3_), .val (.ref xs_7_), .val (.ref b11_), .val (.ref a2_22_), .val (.ref xp_22_), .val (.int ((Int32.ofNat cA.length) + (Int32.ofNat cB.length))), .val (.int (1 : Int32)), .val (.ref xs_7_), .val (.ref xs_7_), .val (.int (1 : Int32))] [(.int (1 : Int32))])) _
    refine XS.ifNo X66_.here hx rfl (hb hby at_460) rfl ((if0 _ _).trans (feq ((by decide) : ¬ ((1 : Int32) = (0 : Int32)))).1) ?_
    refine XS.iconst X66_.here hx rfl (hb hby at_463) ?_
    refine XS.goto X66_.here hx rfl (pc0 := 464) (pc' := 468) rfl (hb hby at_464) (by decide) (by decide) ?_
    exact retN X66_ hx (t := .boolean) Bd.returns (by simp) (hb hby at_468) hr
  · show Q_rm0Z Z p0 p1 p2 p3 G1 vU vS G3 cA cB cC h0 n0 _ T66_.heap _
    rw [ek66_]
    exact ⟨rfl, N66_⟩
  · show CHr Z consts_1 s.vm s.heap T66_.vm T66_.heap
    rw [hh]
    rw [ek66_]
    exact cr29_.trans (CHv.at X66_ hZ22_ hEL ch22_)
theorem pd_qLjava_lang_StringLjava_lang_StringLjava_lang_StringLjava_lang_StringIzZ : parseMethodDescriptor "(Ljava/lang/String;Ljava/lang/String;Ljava/lang/String;Ljava/lang/String;I)Z" = some ⟨[(.object "java/lang/String"), (.object "java/lang/String"), (.object "java/lang/String"), (.object "java/lang/String"), .int], some .boolean⟩ := by decide +kernel
theorem ef_rm0N (m : MethodId) (x0 : Int32) (x1 : Int32) (x2 : Int32) (x3 : Int32) : entryFrame m #[(.int x0), (.int x1), (.int x2), (.int x3)] maxLocals = mkF m 0 #[.val (.int x0), .val (.int x1), .val (.int x2), .val (.int x3), .unset, .unset, .unset, .unset, .unset, .unset, .unset, .unset, .unset, .unset, .unset] [] := by first | (simp [entryFrame, mkF, argsToLocals, Value.category, maxLocals]; done) | rfl
def Q_rm0N (Z : State) (p0 : Int32) (p1 : Int32) (p2 : Int32) (p3 : Int32) (G1 : Int32) (vU : Value) (vS : Value) (G3 : Value) (cA : List Int32) (cB : List Int32) (cC : List Int32) (h0 : Heap) (n0 : Nat) (v : Option Value) (h : Heap) (L : List Loc) : Prop := v = some (.int (1 : Int32)) ∧ Fr n0 L
theorem rm0N (l : Launch) (Z : State) (a0 : Array Value) (hw : ∀ d ∈ tables_1, d.before a0 Z = true) (hEL : EW Z a0 consts_1) (ws : List Jvm.Cond) (p0 : Int32) (p1 : Int32) (p2 : Int32) (p3 : Int32) (G1 : Int32) (vU : Value) (vS : Value) (G3 : Value) (cA : List Int32) (cB : List Int32) (cC : List Int32) (h0 : Heap) (n0 : Nat) (Z0 : n0 ≤ h0.size) (T1 : Sta Z Z.heap "java/lang/String" "COMPACT_STRINGS" "Z" (.int G1)) (P5 : ¬ (G1 = (0 : Int32))) (O1 : Old Z n0 h0) (TU : Sta Z Z.heap "java/lang/Throwable" "UNASSIGNED_STACK" "[Ljava/lang/StackTraceElement;" vU) (rU : vU.isRef = true) (TS : Sta Z Z.heap "java/lang/Throwable" "SUPPRESSED_SENTINEL" "Ljava/util/List;" vS) (rS : vS.isRef = true) (hl : l.stackTraces = true) (TF : Sta Z Z.heap "jdk/internal/util/Preconditions" "SIOOBE_FORMATTER" "Ljava/util/function/BiFunction;" G3) (rF : G3.isRef = true) (qcA : (own_str (p3 &&& (3 : Int32)) p0) = cA) (qcB : (own_str (((p3.toUInt32 >>> ((2 : Int32) &&& 31).toUInt32).toInt32) &&& (3 : Int32)) p1) = cB) (qcC : (own_str (((p3.toUInt32 >>> ((4 : Int32) &&& 31).toUInt32).toInt32) &&& (3 : Int32)) p2) = cC) (hz : ¬ (cA.length + cB.length = 0)) :
    MetFree l x (head1 (Jvm.Cond.code x code maxLocals ret :: ws) room_1) (fun a U => a = #[(.int p0), (.int p1), (.int p2), (.int p3)] ∧ Z.Warmed39 U.vm ∧ U.heap = h0 ∧ CHv Z consts_1 U.vm h0) (fun _ _ bl s _ => s.vm.MethodsKnown ∧ s.vm.FramesKnown bl) (fun _ U o U' => ∃ v L, o = .returned v ∧ Q_rm0N Z p0 p1 p2 p3 G1 vU vS G3 cA cB cC h0 n0 v U'.heap L ∧ CHr Z consts_1 U.vm U.heap U'.vm U'.heap ∧ ReturnedEndW U o U' L room_1.cells room_1.slots) := by
  refine MetFree.of_bodySF (plainFor_of_name pn_com_example_brisk_warden_briskwarden_core_UnsupportedNumberExceptionAtPinLaw) hisR ?_
  intro p e s m args below meth c s₁ Bd hml0 hP hK
  obtain ⟨rfl, hZ, hh, H0'⟩ := hP
  have hx := Bd.exec
  have hby := Bd.bytes
  have hml : c.maxLocals = 15 := hml0
  have hown : s.vm.findClass "com/example/brisk_warden/briskwarden/core/UnsupportedNumberExceptionAtPinLaw" = some m.cls := findClass_of_methodNamed Bd.named
  have hnm := (name_of_methodNamed Bd.named Bd.method).1
  have X0 : Stand p l e room_1 (s.setVm s.vm) m #[(.int p0), (.int p1), (.int p2), (.int p3)] below meth c s₁ [] 0 0 := Stand.of_body Bd
  have e0 : s₁.heap = h0 := by rw [← hh, Bd.state]; rfl
  have N0 := Fr.nil n0
  have hS0 : s.Since s.vm h0.size := own_since0 s _
  have hk0 : h0.size ≤ h0.size := Nat.le_refl _
  have H0 : CHv Z consts_1 s.vm h0 := H0'
  have wS : ∀ a ∈ Bundle.stringAtoms, a.before a0 Z = true := fun a ha => hw a ((by decide +kernel : ∀ a ∈ Bundle.stringAtoms, a ∈ tables_1) a ha)
  have pre0 : ∀ t, Steps p.tables e below (s₁.setTop (mkF m 0 #[.val (.int p0), .val (.int p1), .val (.int p2), .val (.int p3), .unset, .unset, .unset, .unset, .unset, .unset, .unset, .unset, .unset, .unset, .unset] [])) t → Steps p.tables e below (s₁.setTop (entryFrame m #[(.int p0), (.int p1), (.int p2), (.int p3)] maxLocals)) t := fun t k => castTop (ef_rm0N m p0 p1 p2 p3) k
  have lncA : cA.length ≤ 3 := qcA ▸ own_str_len _ _
  have lncB : cB.length ≤ 3 := qcB ▸ own_str_len _ _
  have lncC : cC.length ≤ 3 := qcC ▸ own_str_len _ _
  obtain ⟨_, _, ⟨T1_, L1_, k1_, n1_⟩, -, Xs1_, Ss1_, Sg1_, ⟨Lc1_, hQ1_, l1_, y1_, z1_, chr1_⟩, st1_⟩ := Jvm.RoadKit.callSS X0 hx (y := (⟨"com/example/brisk_warden/briskwarden/core/UnsupportedNumberExceptionAtPinLaw", "str", "(II)Ljava/lang/String;"⟩ : MethodName)) hown (mvT hZ (own_w hw 0 rfl)) (mvT hZ (own_w hw 1 rfl)) (mvT hZ (own_w hw 2 rfl)) (mvT hZ (own_w hw 3 rfl)) (by decide) (backOfSH (W := 0) (rmStr l Z a0 hw hEL [] (p3 &&& (3 : Int32)) p0 G1 h0 n0 Z0 T1 P5 O1) hZ (own_w hw 3 rfl) (own_w hw 2 rfl) (by decide) (by decide) hEL H0) (g := (mkF m 4 #[.val (.int p0), .val (.int p1), .val (.int p2), .val (.int p3), .unset, .unset, .unset, .unset, .unset, .unset, .unset, .unset, .unset, .unset, .unset] [(.int p0), (.int (p3 &&& (3 : Int32)))])) rfl (by rw [hml]; rfl) (argsL := [(.int (p3 &&& (3 : Int32))), (.int p0)]) (rest := []) (lenOf pd_qIIzLjava_lang_String rfl) rfl (by show 2 * 0 + _ ≤ _; exact Nat.le_of_eq rfl) (hb hby at_4) (fun _ _ => ⟨rfl, e0, (by exact own_b rfl), (by exact own_b rfl)⟩)
  dsimp only [Pt.U, Pt.locs, Pt.cells, Pt.slots] at Xs1_ Ss1_ Sg1_ l1_ y1_ z1_ st1_ hQ1_ chr1_
  subst L1_ k1_ n1_
  obtain ⟨X1_, hS1_, hZ1_, hown1_⟩ := rebS hS0 hk0 Xs1_ Ss1_ (Nat.le_trans (Nat.le_of_eq (congrArg Array.size e0.symm)) Sg1_) hZ hown
  obtain ⟨xs_1_, ts_1_, rfl, Nq1_, ek1_, p1__0⟩ := hQ1_
  have N1_ := Fr.app N0 Nq1_
  have cr2_ := (CHr.refl H0).trans chr1_
  have ch1_ := chr1_.1
  have szcA : own_Str Z T1_.heap xs_1_ ts_1_ cA := by rw [← qcA]; exact p1__0
  have f4_ : Old Z n0 T1_.heap := (O1.keep ek1_ all0)
  have z5_ : n0 ≤ T1_.heap.size := Nat.le_trans Z0 ek1_.1
  obtain ⟨_, _, ⟨T3_, L3_, k3_, n3_⟩, -, Xs3_, Ss3_, Sg3_, ⟨Lc3_, hQ3_, l3_, y3_, z3_, chr3_⟩, st3_⟩ := Jvm.RoadKit.callSS X1_ hx (y := (⟨"com/example/brisk_warden/briskwarden/core/UnsupportedNumberExceptionAtPinLaw", "str", "(II)Ljava/lang/String;"⟩ : MethodName)) hown1_ (mvT hZ1_ (own_w hw 0 rfl)) (mvT hZ1_ (own_w hw 1 rfl)) (mvT hZ1_ (own_w hw 2 rfl)) (mvT hZ1_ (own_w hw 3 rfl)) (by decide) (backOfSH (W := 0) (rmStr l Z a0 hw hEL [] (((p3.toUInt32 >>> ((2 : Int32) &&& 31).toUInt32).toInt32) &&& (3 : Int32)) p1 G1 T1_.heap n0 z5_ T1 P5 f4_) hZ1_ (own_w hw 3 rfl) (own_w hw 2 rfl) (by decide) (by decide) hEL ch1_) (g := (mkF m 15 #[.val (.int p0), .val (.int p1), .val (.int p2), .val (.int p3), .val (.ref xs_1_), .unset, .unset, .unset, .unset, .unset, .unset, .unset, .unset, .unset, .unset] [(.int p1), (.int (((p3.toUInt32 >>> ((2 : Int32) &&& 31).toUInt32).toInt32) &&& (3 : Int32)))])) rfl (by rw [hml]; rfl) (argsL := [(.int (((p3.toUInt32 >>> ((2 : Int32) &&& 31).toUInt32).toInt32) &&& (3 : Int32))), (.int p1)]) (rest := []) (lenOf pd_qIIzLjava_lang_String rfl) rfl (by show 2 * 0 + _ ≤ _; exact Nat.le_of_eq rfl) (hb hby at_15) (fun _ _ => ⟨rfl, rfl, (by exact own_b rfl), (by exact own_b rfl)⟩)
  dsimp only [Pt.U, Pt.locs, Pt.cells, Pt.slots] at Xs3_ Ss3_ Sg3_ l3_ y3_ z3_ st3_ hQ3_ chr3_
  subst L3_ k3_ n3_
  obtain ⟨X3_, hS3_, hZ3_, hown3_⟩ := rebS hS1_ (Nat.le_refl _) Xs3_ Ss3_ (Nat.le_trans (Nat.le_of_eq (congrArg Array.size (rfl : T1_.heap = _).symm)) Sg3_) hZ1_ hown1_
  obtain ⟨xs_3_, ts_3_, rfl, Nq3_, ek3_, p3__0⟩ := hQ3_
  have N3_ := Fr.app N1_ Nq3_
  have cr6_ := cr2_.trans chr3_
  have ch3_ := chr3_.1
  have szcB : own_Str Z T3_.heap xs_3_ ts_3_ cB := by rw [← qcB]; exact p3__0
  have f8_ : Old Z n0 T3_.heap := (f4_.keep ek3_ all0)
  have z9_ : n0 ≤ T3_.heap.size := Nat.le_trans z5_ ek3_.1
  obtain ⟨_, _, ⟨T7_, L7_, k7_, n7_⟩, -, Xs7_, Ss7_, Sg7_, ⟨Lc7_, hQ7_, l7_, y7_, z7_, chr7_⟩, st7_⟩ := Jvm.RoadKit.callSS X3_ hx (y := (⟨"com/example/brisk_warden/briskwarden/core/UnsupportedNumberExceptionAtPinLaw", "str", "(II)Ljava/lang/String;"⟩ : MethodName)) hown3_ (mvT hZ3_ (own_w hw 0 rfl)) (mvT hZ3_ (own_w hw 1 rfl)) (mvT hZ3_ (own_w hw 2 rfl)) (mvT hZ3_ (own_w hw 3 rfl)) (by decide) (backOfSH (W := 0) (rmStr l Z a0 hw hEL [] (((p3.toUInt32 >>> ((4 : Int32) &&& 31).toUInt32).toInt32) &&& (3 : Int32)) p2 G1 T3_.heap n0 z9_ T1 P5 f8_) hZ3_ (own_w hw 3 rfl) (own_w hw 2 rfl) (by decide) (by decide) hEL ch3_) (g := (mkF m 26 #[.val (.int p0), .val (.int p1), .val (.int p2), .val (.int p3), .val (.ref xs_1_), .val (.ref xs_3_), .unset, .unset, .unset, .unset, .unset, .unset, .unset, .unset, .unset] [(.int p2), (.int (((p3.toUInt32 >>> ((4 : Int32) &&& 31).toUInt32).toInt32) &&& (3 : Int32)))])) rfl (by rw [hml]; rfl) (argsL := [(.int (((p3.toUInt32 >>> ((4 : Int32) &&& 31).toUInt32).toInt32) &&& (3 : Int32))), (.int p2)]) (rest := []) (lenOf pd_qIIzLjava_lang_String rfl) rfl (by show 2 * 0 + _ ≤ _; exact Nat.le_of_eq rfl) (hb hby at_26) (fun _ _ => ⟨rfl, rfl, (by exact own_b rfl), (by exact own_b rfl)⟩)
  dsimp only [Pt.U, Pt.locs, Pt.cells, Pt.slots] at Xs7_ Ss7_ Sg7_ l7_ y7_ z7_ st7_ hQ7_ chr7_
  subst L7_ k7_ n7_
  obtain ⟨X7_, hS7_, hZ7_, hown7_⟩ := rebS hS3_ (Nat.le_refl _) Xs7_ Ss7_ (Nat.le_trans (Nat.le_of_eq (congrArg Array.size (rfl : T3_.heap = _).symm)) Sg7_) hZ3_ hown3_
  obtain ⟨xs_7_, ts_7_, rfl, Nq7_, ek7_, p7__0⟩ := hQ7_
  have N7_ := Fr.app N3_ Nq7_
  have cr10_ := cr6_.trans chr7_
  have ch7_ := chr7_.1
  have szcC : own_Str Z T7_.heap xs_7_ ts_7_ cC := by rw [← qcC]; exact p7__0
  obtain ⟨T11_, h11_, X11_, e11_, E11_, A11_, D11_, U11_, st11_⟩ := newO X7_ hx hZ7_ hown7_ (own_w hw 41 rfl) (own_w hw 42 rfl) (own_w hw 43 rfl) rfl (g := (mkF m 31 #[.val (.int p0), .val (.int p1), .val (.int p2), .val (.int p3), .val (.ref xs_1_), .val (.ref xs_3_), .val (.ref xs_7_), .unset, .unset, .unset, .unset, .unset, .unset, .unset, .unset] [])) rfl (hb hby at_31) (by exact own_b rfl) (by exact own_b rfl)
  obtain ⟨b11_, g11_⟩ : ∃ z, z = T7_.heap.size := ⟨_, rfl⟩
  rw [← g11_] at A11_ D11_ U11_ st11_
  have sf11_ : Safe Z consts_1 T7_.vm T7_.heap b11_ := Safe.new (Nat.le_of_eq g11_.symm)
  have ch12_ : CHv Z consts_1 T7_.vm h11_ := CHv.ext E11_ ch7_
  have cr13_ := cr10_.trans (CHr.ext E11_ ch7_)
  have F11__cause : Fld Z h11_ b11_ "java/lang/Throwable" "cause" "Ljava/lang/Throwable;" .null := D11_ (Or.inl (own_w hw 77 rfl)) (ty := (.object "java/lang/Throwable")) (by decide)
  have F11__stackTrace : Fld Z h11_ b11_ "java/lang/Throwable" "stackTrace" "[Ljava/lang/StackTraceElement;" .null := D11_ (Or.inl (own_w hw 80 rfl)) (ty := (.array (.object "java/lang/StackTraceElement"))) (by decide)
  have F11__suppressedExceptions : Fld Z h11_ b11_ "java/lang/Throwable" "suppressedExceptions" "Ljava/util/List;" .null := D11_ (Or.inl (own_w hw 83 rfl)) (ty := (.object "java/util/List")) (by decide)
  have F11__detailMessage : Fld Z h11_ b11_ "java/lang/Throwable" "detailMessage" "Ljava/lang/String;" .null := D11_ (Or.inl (own_w hw 107 rfl)) (ty := (.object "java/lang/String")) (by decide)
  have F11__backtrace : Fld Z h11_ b11_ "java/lang/Throwable" "backtrace" "Ljava/lang/Object;" .null := D11_ (Or.inl (own_w hw 108 rfl)) (ty := (.object "java/lang/Object")) (by decide)
  have F11__depth : Fld Z h11_ b11_ "java/lang/Throwable" "depth" "I" (.int (0 : Int32)) := D11_ (Or.inl (own_w hw 109 rfl)) (ty := .int) (by decide)
  have F11__place : Fld Z h11_ b11_ "com/example/brisk_warden/briskwarden/core/UnsupportedNumberException" "place" "Ljava/lang/String;" .null := D11_ (Or.inr (own_w hw 113 rfl)) (ty := (.object "java/lang/String")) (by decide)
  have F11__problem : Fld Z h11_ b11_ "com/example/brisk_warden/briskwarden/core/UnsupportedNumberException" "problem" "Ljava/lang/String;" .null := D11_ (Or.inr (own_w hw 115 rfl)) (ty := (.object "java/lang/String")) (by decide)
  have f15_ : own_Str Z h11_ xs_3_ ts_3_ cB := ((szcB.keep ek7_ nin0 nin0).ext E11_)
  have f16_ : own_Str Z h11_ xs_7_ ts_7_ cC := (szcC.ext E11_)
  have z18_ : n0 ≤ T7_.heap.size := Nat.le_trans z9_ ek7_.1
  have g17_ : n0 ≤ b11_ := Nat.le_trans z18_ (Nat.le_of_eq g11_.symm)
  have f19_ : Old Z n0 h11_ := ((f8_.keep ek7_ all0).ext E11_)
  have z20_ : n0 ≤ h11_.size := Nat.le_trans z18_ E11_.1
  obtain ⟨_, _, ⟨T14_, L14_, k14_, n14_⟩, -, Xs14_, Ss14_, Sg14_, ⟨Lc14_, hQ14_, l14_, y14_, z14_, chr14_⟩, st14_⟩ := X11_.specialBackS hx (y := (⟨"com/example/brisk_warden/briskwarden/core/UnsupportedNumberException", "<init>", "(Ljava/lang/String;Ljava/lang/String;)V"⟩ : MethodName)) rfl hown7_ (mvT hZ7_ (own_w hw 44 rfl)) (mvT hZ7_ (own_w hw 45 rfl)) (mvT hZ7_ (own_w hw 46 rfl)) (by decide) (backOfSKH (W := 1) (rmI l Z a0 hw hEL [] b11_ xs_3_ xs_7_ ts_3_ cB ts_7_ cC G1 vU vS h11_ n0 z20_ f15_ f16_ A11_ U11_ F11__cause F11__stackTrace F11__suppressedExceptions F11__backtrace F11__detailMessage F11__place F11__problem g17_ T1 P5 f19_ TU rU TS rS hl (Nat.le_trans lncB (by decide)) lncC) hZ7_ (own_w hw 46 rfl) (own_w hw 43 rfl) (by decide) (by decide) hEL ch12_ (Vm.MethodsKnown.alikeC ((State.Warmed39.alike hZ).symm.trans (State.Warmed39.alike hZ7_)) hK.1) (Vm.FramesKnown.alikeC ((State.Warmed39.alike hZ).symm.trans (State.Warmed39.alike hZ7_)) hK.2)) (g := (mkF m 39 #[.val (.int p0), .val (.int p1), .val (.int p2), .val (.int p3), .val (.ref xs_1_), .val (.ref xs_3_), .val (.ref xs_7_), .unset, .unset, .unset, .unset, .unset, .unset, .unset, .unset] [(.ref xs_7_), (.ref xs_3_), (.ref b11_), (.ref b11_)])) rfl (by rw [hml]; rfl) (Steps.refl _) (a := b11_) (argsL := [(.ref xs_3_), (.ref xs_7_)]) (rest := [(.ref b11_)]) (lenOf pd_qLjava_lang_StringLjava_lang_StringzV rfl) rfl (by show 2 * 0 + _ ≤ _; exact Nat.le_of_eq rfl) (hb hby at_39) (fun _ _ => ⟨rfl, e11_, (by exact own_b rfl), (by exact own_b rfl)⟩)
  dsimp only [Pt.U, Pt.locs, Pt.cells, Pt.slots] at Xs14_ Ss14_ Sg14_ l14_ y14_ z14_ st14_ hQ14_ chr14_
  subst L14_ k14_ n14_
  obtain ⟨X14_, hS14_, hZ14_, hown14_⟩ := rebS hS7_ (Nat.le_trans (Nat.le_refl _) E11_.1) Xs14_ Ss14_ (Nat.le_trans (Nat.le_of_eq (congrArg Array.size e11_.symm)) Sg14_) hZ7_ hown7_
  obtain ⟨xm_14_, tm_14_, rfl, Nq14_, ek14_, p14__0, p14__1, p14__2, p14__3, p14__4, p14__5⟩ := hQ14_
  have N14_ := Fr.app N7_ Nq14_
  have cr21_ := cr13_.trans chr14_
  have ch14_ := chr14_.1
  have f23_ : own_Str Z T14_.heap xs_1_ ts_1_ cA := ((((szcA.keep ek3_ nin0 nin0).keep ek7_ nin0 nin0).ext E11_).keep ek14_ (ninS (Nat.ne_of_lt (Nat.lt_of_lt_of_le (own_Str.lt ((szcA.keep ek3_ nin0 nin0).keep ek7_ nin0 nin0)) (Nat.le_of_eq g11_.symm))) nin0) (ninS (Nat.ne_of_lt (Nat.lt_of_lt_of_le (own_Str.lt2 ((szcA.keep ek3_ nin0 nin0).keep ek7_ nin0 nin0)) (Nat.le_of_eq g11_.symm))) nin0))
  have f24_ : own_Str Z T14_.heap xs_3_ ts_3_ cB := (f15_.keep ek14_ (ninS (Nat.ne_of_lt (Nat.lt_of_lt_of_le (own_Str.lt (szcB.keep ek7_ nin0 nin0)) (Nat.le_of_eq g11_.symm))) nin0) (ninS (Nat.ne_of_lt (Nat.lt_of_lt_of_le (own_Str.lt2 (szcB.keep ek7_ nin0 nin0)) (Nat.le_of_eq g11_.symm))) nin0))
  have f25_ : own_Str Z T14_.heap xs_7_ ts_7_ cC := (f16_.keep ek14_ (ninS (Nat.ne_of_lt (Nat.lt_of_lt_of_le (own_Str.lt szcC) (Nat.le_of_eq g11_.symm))) nin0) (ninS (Nat.ne_of_lt (Nat.lt_of_lt_of_le (own_Str.lt2 szcC) (Nat.le_of_eq g11_.symm))) nin0))
  have f26_ : Old Z n0 T14_.heap := (f19_.keep ek14_ (allS g17_ all0))
  have z27_ : n0 ≤ T14_.heap.size := Nat.le_trans z20_ ek14_.1
  obtain ⟨cq28_, kq28_, qa28_, qb28_, qc28_⟩ := isOf hZ14_ rfl p14__0
  obtain ⟨_, _, ⟨T22_, L22_, k22_, n22_⟩, -, Xs22_, Ss22_, Sg22_, ⟨Lc22_, hQ22_, l22_, y22_, z22_, chr22_⟩, st22_⟩ := X14_.virtualBackS hx (y := (⟨"com/example/brisk_warden/briskwarden/core/UnsupportedNumberException", "at", "(Ljava/lang/String;)Lcom/example/brisk_warden/briskwarden/core/UnsupportedNumberException;"⟩ : MethodName)) (z := (⟨"com/example/brisk_warden/briskwarden/core/UnsupportedNumberException", "at", "(Ljava/lang/String;)Lcom/example/brisk_warden/briskwarden/core/UnsupportedNumberException;"⟩ : MethodName)) hown14_ (mvT hZ14_ (own_w hw 116 rfl)) (mvT hZ14_ (own_w hw 117 rfl)) (notFace_of_selects (args := #[]) (mvT hZ14_ (own_w hw 119 rfl))) (mvT hZ14_ (own_w hw 119 rfl)) (mvT hZ14_ (own_w hw 118 rfl)) (by decide) (backOfSKH (W := 0) (rmAt l Z a0 hw hEL [] b11_ xs_1_ ts_1_ cA xs_3_ ts_3_ cB xs_7_ ts_7_ cC G1 vU vS T14_.heap n0 z27_ f23_ p14__0 p14__2 p14__3 f24_ f25_ T1 P5 f26_ TU rU TS rS hl lncA lncB lncC) hZ14_ (own_w hw 120 rfl) (own_w hw 43 rfl) (by decide) (by decide) hEL ch14_ (Vm.MethodsKnown.alikeC ((State.Warmed39.alike hZ).symm.trans (State.Warmed39.alike hZ14_)) hK.1) (Vm.FramesKnown.alikeC ((State.Warmed39.alike hZ).symm.trans (State.Warmed39.alike hZ14_)) hK.2)) qa28_ qc28_ (g := (mkF m 48 #[.val (.int p0), .val (.int p1), .val (.int p2), .val (.int p3), .val (.ref xs_1_), .val (.ref xs_3_), .val (.ref xs_7_), .val (.ref b11_), .unset, .unset, .unset, .unset, .unset, .unset, .unset] [(.ref xs_1_), (.ref b11_)])) rfl (by rw [hml]; rfl) (Steps.refl _) (argsL := [(.ref xs_1_)]) (rest := []) (lenOf pd_qLjava_lang_StringzLcom_example_brisk_warden_briskwarden_core_UnsupportedNumberException rfl) rfl (by show 2 * 0 + _ ≤ _; exact Nat.le_of_eq rfl) (hb hby at_48) (fun _ _ => ⟨rfl, rfl, (by exact own_b rfl), (by exact own_b rfl)⟩)
  dsimp only [Pt.U, Pt.locs, Pt.cells, Pt.slots] at Xs22_ Ss22_ Sg22_ l22_ y22_ z22_ st22_ hQ22_ chr22_
  subst L22_ k22_ n22_
  obtain ⟨X22_, hS22_, hZ22_, hown22_⟩ := rebS hS14_ (Nat.le_refl _) Xs22_ Ss22_ (Nat.le_trans (Nat.le_of_eq (congrArg Array.size (rfl : T14_.heap = _).symm)) Sg22_) hZ14_ hown14_
  obtain ⟨a2_22_, xp_22_, tp_22_, xm_22_, tm_22_, rfl, Nq22_, ek22_, p22__0, p22__1, p22__2, p22__3, p22__4, p22__5, p22__6⟩ := hQ22_
  have N22_ := Fr.app N14_ Nq22_
  have cr29_ := cr21_.trans chr22_
  have ch22_ := chr22_.1
  have z31_ : n0 ≤ T22_.heap.size := Nat.le_trans z27_ ek22_.1
  obtain ⟨cq32_, kq32_, qa32_, qb32_, qc32_⟩ := isOf hZ22_ rfl p22__0
  obtain ⟨_, _, ⟨T30_, L30_, k30_, n30_⟩, -, X30_, ⟨Lc30_, hQ30_, l30_, y30_, z30_⟩, st30_⟩ := X22_.virtualBack hx (y := (⟨"com/example/brisk_warden/briskwarden/core/UnsupportedNumberException", "place", "()Ljava/lang/String;"⟩ : MethodName)) (z := (⟨"com/example/brisk_warden/briskwarden/core/UnsupportedNumberException", "place", "()Ljava/lang/String;"⟩ : MethodName)) hown22_ (mvT hZ22_ (own_w hw 234 rfl)) (mvT hZ22_ (own_w hw 235 rfl)) (notFace_of_selects (args := #[]) (mvT hZ22_ (own_w hw 237 rfl))) (mvT hZ22_ (own_w hw 237 rfl)) (mvT hZ22_ (own_w hw 236 rfl)) (by decide) (backOf (W := 0) (rmGplace l Z a0 hw [] a2_22_ xp_22_ T22_.heap n0 z31_ p22__2) hZ22_ (own_w hw 238 rfl) (own_w hw 43 rfl) (by decide) (by decide)) qa32_ qc32_ (g := (mkF m 55 #[.val (.int p0), .val (.int p1), .val (.int p2), .val (.int p3), .val (.ref xs_1_), .val (.ref xs_3_), .val (.ref xs_7_), .val (.ref b11_), .val (.ref a2_22_), .unset, .unset, .unset, .unset, .unset, .unset] [(.ref a2_22_)])) rfl (by rw [hml]; rfl) (Steps.refl _) (argsL := []) (rest := []) (lenOf pd_qzLjava_lang_String rfl) rfl (by show 2 * 0 + _ ≤ _; exact Nat.le_of_eq rfl) (hb hby at_55) (fun _ _ => ⟨rfl, rfl, (by exact own_b rfl), (by exact own_b rfl)⟩)
  dsimp only [Pt.U, Pt.locs, Pt.cells, Pt.slots] at X30_ l30_ y30_ z30_ st30_ hQ30_
  subst L30_ k30_ n30_
  obtain ⟨rfl, Nq30_, ek30_⟩ := hQ30_
  have N30_ := Fr.app N22_ Nq30_
  have f34_ : own_Str Z T22_.heap xs_1_ ts_1_ cA := (f23_.keep ek22_ nin0 nin0)
  have f35_ : Old Z n0 T22_.heap := (f26_.keep ek22_ all0)
  obtain ⟨cq36_, kq36_, qa36_, qb36_, qc36_⟩ := isOf hZ22_ ek30_ f34_.1
  obtain ⟨_, _, ⟨T33_, L33_, k33_, n33_⟩, -, X33_, ⟨Lc33_, hQ33_, l33_, y33_, z33_⟩, st33_⟩ := X30_.virtualBack hx (y := (⟨"java/lang/String", "length", "()I"⟩ : MethodName)) (z := (⟨"java/lang/String", "length", "()I"⟩ : MethodName)) hown22_ (mvT hZ22_ (own_w hw 239 rfl)) (mvT hZ22_ (own_w hw 151 rfl)) (notFace_of_selects (args := #[]) (mvT hZ22_ (own_w hw 153 rfl))) (mvT hZ22_ (own_w hw 153 rfl)) (mvT hZ22_ (own_w hw 152 rfl)) (by decide) (own_lenB (W := 0) hZ22_ hw f34_ T1 P5 f35_ (by decide) (by decide)) qa36_ qc36_ (g := (mkF m 62 #[.val (.int p0), .val (.int p1), .val (.int p2), .val (.int p3), .val (.ref xs_1_), .val (.ref xs_3_), .val (.ref xs_7_), .val (.ref b11_), .val (.ref a2_22_), .val (.ref xp_22_), .unset, .unset, .unset, .unset, .unset] [(.ref xs_1_)])) rfl (by rw [hml]; rfl) (Steps.refl _) (argsL := []) (rest := []) (lenOf pd_qzI rfl) rfl (by show 2 * 0 + _ ≤ _; exact Nat.le_of_eq rfl) (hb hby at_62) (fun _ _ => ⟨rfl, ek30_, (by exact own_b rfl), (by exact own_b rfl)⟩)
  dsimp only [Pt.U, Pt.locs, Pt.cells, Pt.slots] at X33_ l33_ y33_ z33_ st33_ hQ33_
  subst L33_ k33_ n33_
  obtain ⟨rfl, rfl, ek33_⟩ := hQ33_
  have N33_ := Fr.app N30_ (Fr.nil n0)
  have f38_ : own_Str Z T22_.heap xs_3_ ts_3_ cB := (f24_.keep ek22_ nin0 nin0)
  obtain ⟨cq39_, kq39_, qa39_, qb39_, qc39_⟩ := isOf hZ22_ ek33_ f38_.1
  obtain ⟨_, _, ⟨T37_, L37_, k37_, n37_⟩, -, X37_, ⟨Lc37_, hQ37_, l37_, y37_, z37_⟩, st37_⟩ := X33_.virtualBack hx (y := (⟨"java/lang/String", "length", "()I"⟩ : MethodName)) (z := (⟨"java/lang/String", "length", "()I"⟩ : MethodName)) hown22_ (mvT hZ22_ (own_w hw 239 rfl)) (mvT hZ22_ (own_w hw 151 rfl)) (notFace_of_selects (args := #[]) (mvT hZ22_ (own_w hw 153 rfl))) (mvT hZ22_ (own_w hw 153 rfl)) (mvT hZ22_ (own_w hw 152 rfl)) (by decide) (own_lenB (W := 1) hZ22_ hw f38_ T1 P5 f35_ (by decide) (by decide)) qa39_ qc39_ (g := (mkF m 67 #[.val (.int p0), .val (.int p1), .val (.int p2), .val (.int p3), .val (.ref xs_1_), .val (.ref xs_3_), .val (.ref xs_7_), .val (.ref b11_), .val (.ref a2_22_), .val (.ref xp_22_), .unset, .unset, .unset, .unset, .unset] [(.ref xs_3_), (.int (Int32.ofNat cA.length))])) rfl (by rw [hml]; rfl) (Steps.refl _) (argsL := []) (rest := [(.int (Int32.ofNat cA.length))]) (lenOf pd_qzI rfl) rfl (by show 2 * 0 + _ ≤ _; exact Nat.le_of_eq rfl) (hb hby at_67) (fun _ _ => ⟨rfl, ek33_, (by exact own_b rfl), (by exact own_b rfl)⟩)
  dsimp only [Pt.U, Pt.locs, Pt.cells, Pt.slots] at X37_ l37_ y37_ z37_ st37_ hQ37_
  subst L37_ k37_ n37_
  obtain ⟨rfl, rfl, ek37_⟩ := hQ37_
  have N37_ := Fr.app N33_ (Fr.nil n0)
  obtain ⟨cq41_, kq41_, qa41_, qb41_, qc41_⟩ := isOf hZ22_ ek37_ p22__5.1
  obtain ⟨_, _, ⟨T40_, L40_, k40_, n40_⟩, -, X40_, ⟨Lc40_, hQ40_, l40_, y40_, z40_⟩, st40_⟩ := X37_.virtualBack hx (y := (⟨"java/lang/String", "length", "()I"⟩ : MethodName)) (z := (⟨"java/lang/String", "length", "()I"⟩ : MethodName)) hown22_ (mvT hZ22_ (own_w hw 239 rfl)) (mvT hZ22_ (own_w hw 151 rfl)) (notFace_of_selects (args := #[]) (mvT hZ22_ (own_w hw 153 rfl))) (mvT hZ22_ (own_w hw 153 rfl)) (mvT hZ22_ (own_w hw 152 rfl)) (by decide) (own_lenB (W := 0) hZ22_ hw p22__5 T1 P5 f35_ (by decide) (by decide)) qa41_ qc41_ (g := (mkF m 80 #[.val (.int p0), .val (.int p1), .val (.int p2), .val (.int p3), .val (.ref xs_1_), .val (.ref xs_3_), .val (.ref xs_7_), .val (.ref b11_), .val (.ref a2_22_), .val (.ref xp_22_), .val (.int ((Int32.ofNat cA.length) + (Int32.ofNat cB.length))), .unset, .unset, .unset, .unset] [(.ref xp_22_)])) rfl (by rw [hml]; rfl) (Steps.refl _) (argsL := []) (rest := []) (lenOf pd_qzI rfl) rfl (by show 2 * 0 + _ ≤ _; exact Nat.le_of_eq rfl) (hb hby at_80) (fun _ _ => ⟨rfl, ek37_, (by exact own_b rfl), (by exact own_b rfl)⟩)
  dsimp only [Pt.U, Pt.locs, Pt.cells, Pt.slots] at X40_ l40_ y40_ z40_ st40_ hQ40_
  subst L40_ k40_ n40_
  obtain ⟨rfl, rfl, ek40_⟩ := hQ40_
  have N40_ := Fr.app N37_ (Fr.nil n0)
  obtain ⟨_, _, ⟨T42_, L42_, k42_, n42_⟩, -, X42_, ⟨Lc42_, hQ42_, l42_, y42_, z42_⟩, st42_⟩ := Jvm.LawKit.callS X40_ hx (y := (⟨"com/example/brisk_warden/briskwarden/core/UnsupportedNumberExceptionAtPinLaw", "pc", "(Ljava/lang/String;Ljava/lang/String;Ljava/lang/String;I)Z"⟩ : MethodName)) hown22_ (mvT hZ22_ (own_w hw 240 rfl)) (mvT hZ22_ (own_w hw 241 rfl)) (mvT hZ22_ (own_w hw 2 rfl)) (mvT hZ22_ (own_w hw 242 rfl)) (by decide) (backOf (W := 0) (rmP l Z a0 hw [] xp_22_ xs_1_ xs_3_ (0 : Int32) tp_22_ ts_1_ cA ts_3_ cB 0 G1 G3 T22_.heap n0 z31_ p22__5 f34_ f38_ T1 P5 f35_ TF rF rfl (by decide)) hZ22_ (own_w hw 242 rfl) (own_w hw 2 rfl) (by decide) (by decide)) (g := (mkF m 95 #[.val (.int p0), .val (.int p1), .val (.int p2), .val (.int p3), .val (.ref xs_1_), .val (.ref xs_3_), .val (.ref xs_7_), .val (.ref b11_), .val (.ref a2_22_), .val (.ref xp_22_), .val (.int ((Int32.ofNat cA.length) + (Int32.ofNat cB.length))), .unset, .unset, .unset, .unset] [(.int (0 : Int32)), (.ref xs_3_), (.ref xs_1_), (.ref xp_22_)])) rfl (by rw [hml]; rfl) (argsL := [(.ref xp_22_), (.ref xs_1_), (.ref xs_3_), (.int (0 : Int32))]) (rest := []) (lenOf pd_qLjava_lang_StringLjava_lang_StringLjava_lang_StringIzZ rfl) rfl (by show 2 * 0 + _ ≤ _; exact Nat.le_of_eq rfl) (hb hby at_95) (fun _ _ => ⟨rfl, ek40_, (by exact own_b rfl), (by exact own_b rfl)⟩)
  dsimp only [Pt.U, Pt.locs, Pt.cells, Pt.slots] at X42_ l42_ y42_ z42_ st42_ hQ42_
  subst L42_ k42_ n42_
  obtain ⟨rfl, Nq42_, ek42_⟩ := hQ42_
  have N42_ := Fr.app N40_ Nq42_
  obtain ⟨_, _, ⟨T43_, L43_, k43_, n43_⟩, -, X43_, ⟨Lc43_, hQ43_, l43_, y43_, z43_⟩, st43_⟩ := Jvm.LawKit.callS X42_ hx (y := (⟨"com/example/brisk_warden/briskwarden/core/UnsupportedNumberExceptionAtPinLaw", "pc", "(Ljava/lang/String;Ljava/lang/String;Ljava/lang/String;I)Z"⟩ : MethodName)) hown22_ (mvT hZ22_ (own_w hw 240 rfl)) (mvT hZ22_ (own_w hw 241 rfl)) (mvT hZ22_ (own_w hw 2 rfl)) (mvT hZ22_ (own_w hw 242 rfl)) (by decide) (backOf (W := 0) (rmP l Z a0 hw [] xp_22_ xs_1_ xs_3_ (1 : Int32) tp_22_ ts_1_ cA ts_3_ cB 1 G1 G3 T22_.heap n0 z31_ p22__5 f34_ f38_ T1 P5 f35_ TF rF rfl (by decide)) hZ22_ (own_w hw 242 rfl) (own_w hw 2 rfl) (by decide) (by decide)) (g := (mkF m 108 #[.val (.int p0), .val (.int p1), .val (.int p2), .val (.int p3), .val (.ref xs_1_), .val (.ref xs_3_), .val (.ref xs_7_), .val (.ref b11_), .val (.ref a2_22_), .val (.ref xp_22_), .val (.int ((Int32.ofNat cA.length) + (Int32.ofNat cB.length))), .unset, .unset, .unset, .unset] [(.int (1 : Int32)), (.ref xs_3_), (.ref xs_1_), (.ref xp_22_)])) rfl (by rw [hml]; rfl) (argsL := [(.ref xp_22_), (.ref xs_1_), (.ref xs_3_), (.int (1 : Int32))]) (rest := []) (lenOf pd_qLjava_lang_StringLjava_lang_StringLjava_lang_StringIzZ rfl) rfl (by show 2 * 0 + _ ≤ _; exact Nat.le_of_eq rfl) (hb hby at_108) (fun _ _ => ⟨rfl, ek42_, (by exact own_b rfl), (by exact own_b rfl)⟩)
  dsimp only [Pt.U, Pt.locs, Pt.cells, Pt.slots] at X43_ l43_ y43_ z43_ st43_ hQ43_
  subst L43_ k43_ n43_
  obtain ⟨rfl, Nq43_, ek43_⟩ := hQ43_
  have N43_ := Fr.app N42_ Nq43_
  obtain ⟨_, _, ⟨T44_, L44_, k44_, n44_⟩, -, X44_, ⟨Lc44_, hQ44_, l44_, y44_, z44_⟩, st44_⟩ := Jvm.LawKit.callS X43_ hx (y := (⟨"com/example/brisk_warden/briskwarden/core/UnsupportedNumberExceptionAtPinLaw", "pc", "(Ljava/lang/String;Ljava/lang/String;Ljava/lang/String;I)Z"⟩ : MethodName)) hown22_ (mvT hZ22_ (own_w hw 240 rfl)) (mvT hZ22_ (own_w hw 241 rfl)) (mvT hZ22_ (own_w hw 2 rfl)) (mvT hZ22_ (own_w hw 242 rfl)) (by decide) (backOf (W := 0) (rmP l Z a0 hw [] xp_22_ xs_1_ xs_3_ (2 : Int32) tp_22_ ts_1_ cA ts_3_ cB 2 G1 G3 T22_.heap n0 z31_ p22__5 f34_ f38_ T1 P5 f35_ TF rF rfl (by decide)) hZ22_ (own_w hw 242 rfl) (own_w hw 2 rfl) (by decide) (by decide)) (g := (mkF m 121 #[.val (.int p0), .val (.int p1), .val (.int p2), .val (.int p3), .val (.ref xs_1_), .val (.ref xs_3_), .val (.ref xs_7_), .val (.ref b11_), .val (.ref a2_22_), .val (.ref xp_22_), .val (.int ((Int32.ofNat cA.length) + (Int32.ofNat cB.length))), .unset, .unset, .unset, .unset] [(.int (2 : Int32)), (.ref xs_3_), (.ref xs_1_), (.ref xp_22_)])) rfl (by rw [hml]; rfl) (argsL := [(.ref xp_22_), (.ref xs_1_), (.ref xs_3_), (.int (2 : Int32))]) (rest := []) (lenOf pd_qLjava_lang_StringLjava_lang_StringLjava_lang_StringIzZ rfl) rfl (by show 2 * 0 + _ ≤ _; exact Nat.le_of_eq rfl) (hb hby at_121) (fun _ _ => ⟨rfl, ek43_, (by exact own_b rfl), (by exact own_b rfl)⟩)
  dsimp only [Pt.U, Pt.locs, Pt.cells, Pt.slots] at X44_ l44_ y44_ z44_ st44_ hQ44_
  subst L44_ k44_ n44_
  obtain ⟨rfl, Nq44_, ek44_⟩ := hQ44_
  have N44_ := Fr.app N43_ Nq44_
  obtain ⟨_, _, ⟨T45_, L45_, k45_, n45_⟩, -, X45_, ⟨Lc45_, hQ45_, l45_, y45_, z45_⟩, st45_⟩ := Jvm.LawKit.callS X44_ hx (y := (⟨"com/example/brisk_warden/briskwarden/core/UnsupportedNumberExceptionAtPinLaw", "pc", "(Ljava/lang/String;Ljava/lang/String;Ljava/lang/String;I)Z"⟩ : MethodName)) hown22_ (mvT hZ22_ (own_w hw 240 rfl)) (mvT hZ22_ (own_w hw 241 rfl)) (mvT hZ22_ (own_w hw 2 rfl)) (mvT hZ22_ (own_w hw 242 rfl)) (by decide) (backOf (W := 0) (rmP l Z a0 hw [] xp_22_ xs_1_ xs_3_ (3 : Int32) tp_22_ ts_1_ cA ts_3_ cB 3 G1 G3 T22_.heap n0 z31_ p22__5 f34_ f38_ T1 P5 f35_ TF rF rfl (by decide)) hZ22_ (own_w hw 242 rfl) (own_w hw 2 rfl) (by decide) (by decide)) (g := (mkF m 134 #[.val (.int p0), .val (.int p1), .val (.int p2), .val (.int p3), .val (.ref xs_1_), .val (.ref xs_3_), .val (.ref xs_7_), .val (.ref b11_), .val (.ref a2_22_), .val (.ref xp_22_), .val (.int ((Int32.ofNat cA.length) + (Int32.ofNat cB.length))), .unset, .unset, .unset, .unset] [(.int (3 : Int32)), (.ref xs_3_), (.ref xs_1_), (.ref xp_22_)])) rfl (by rw [hml]; rfl) (argsL := [(.ref xp_22_), (.ref xs_1_), (.ref xs_3_), (.int (3 : Int32))]) (rest := []) (lenOf pd_qLjava_lang_StringLjava_lang_StringLjava_lang_StringIzZ rfl) rfl (by show 2 * 0 + _ ≤ _; exact Nat.le_of_eq rfl) (hb hby at_134) (fun _ _ => ⟨rfl, ek44_, (by exact own_b rfl), (by exact own_b rfl)⟩)
  dsimp only [Pt.U, Pt.locs, Pt.cells, Pt.slots] at X45_ l45_ y45_ z45_ st45_ hQ45_
  subst L45_ k45_ n45_
  obtain ⟨rfl, Nq45_, ek45_⟩ := hQ45_
  have N45_ := Fr.app N44_ Nq45_
  obtain ⟨_, _, ⟨T46_, L46_, k46_, n46_⟩, -, X46_, ⟨Lc46_, hQ46_, l46_, y46_, z46_⟩, st46_⟩ := Jvm.LawKit.callS X45_ hx (y := (⟨"com/example/brisk_warden/briskwarden/core/UnsupportedNumberExceptionAtPinLaw", "pc", "(Ljava/lang/String;Ljava/lang/String;Ljava/lang/String;I)Z"⟩ : MethodName)) hown22_ (mvT hZ22_ (own_w hw 240 rfl)) (mvT hZ22_ (own_w hw 241 rfl)) (mvT hZ22_ (own_w hw 2 rfl)) (mvT hZ22_ (own_w hw 242 rfl)) (by decide) (backOf (W := 0) (rmP l Z a0 hw [] xp_22_ xs_1_ xs_3_ (4 : Int32) tp_22_ ts_1_ cA ts_3_ cB 4 G1 G3 T22_.heap n0 z31_ p22__5 f34_ f38_ T1 P5 f35_ TF rF rfl (by decide)) hZ22_ (own_w hw 242 rfl) (own_w hw 2 rfl) (by decide) (by decide)) (g := (mkF m 147 #[.val (.int p0), .val (.int p1), .val (.int p2), .val (.int p3), .val (.ref xs_1_), .val (.ref xs_3_), .val (.ref xs_7_), .val (.ref b11_), .val (.ref a2_22_), .val (.ref xp_22_), .val (.int ((Int32.ofNat cA.length) + (Int32.ofNat cB.length))), .unset, .unset, .unset, .unset] [(.int (4 : Int32)), (.ref xs_3_), (.ref xs_1_), (.ref xp_22_)])) rfl (by rw [hml]; rfl) (argsL := [(.ref xp_22_), (.ref xs_1_), (.ref xs_3_), (.int (4 : Int32))]) (rest := []) (lenOf pd_qLjava_lang_StringLjava_lang_StringLjava_lang_StringIzZ rfl) rfl (by show 2 * 0 + _ ≤ _; exact Nat.le_of_eq rfl) (hb hby at_147) (fun _ _ => ⟨rfl, ek45_, (by exact own_b rfl), (by exact own_b rfl)⟩)
  dsimp only [Pt.U, Pt.locs, Pt.cells, Pt.slots] at X46_ l46_ y46_ z46_ st46_ hQ46_
  subst L46_ k46_ n46_
  obtain ⟨rfl, Nq46_, ek46_⟩ := hQ46_
  have N46_ := Fr.app N45_ Nq46_
  obtain ⟨_, _, ⟨T47_, L47_, k47_, n47_⟩, -, X47_, ⟨Lc47_, hQ47_, l47_, y47_, z47_⟩, st47_⟩ := Jvm.LawKit.callS X46_ hx (y := (⟨"com/example/brisk_warden/briskwarden/core/UnsupportedNumberExceptionAtPinLaw", "pc", "(Ljava/lang/String;Ljava/lang/String;Ljava/lang/String;I)Z"⟩ : MethodName)) hown22_ (mvT hZ22_ (own_w hw 240 rfl)) (mvT hZ22_ (own_w hw 241 rfl)) (mvT hZ22_ (own_w hw 2 rfl)) (mvT hZ22_ (own_w hw 242 rfl)) (by decide) (backOf (W := 0) (rmP l Z a0 hw [] xp_22_ xs_1_ xs_3_ (5 : Int32) tp_22_ ts_1_ cA ts_3_ cB 5 G1 G3 T22_.heap n0 z31_ p22__5 f34_ f38_ T1 P5 f35_ TF rF rfl (by decide)) hZ22_ (own_w hw 242 rfl) (own_w hw 2 rfl) (by decide) (by decide)) (g := (mkF m 160 #[.val (.int p0), .val (.int p1), .val (.int p2), .val (.int p3), .val (.ref xs_1_), .val (.ref xs_3_), .val (.ref xs_7_), .val (.ref b11_), .val (.ref a2_22_), .val (.ref xp_22_), .val (.int ((Int32.ofNat cA.length) + (Int32.ofNat cB.length))), .unset, .unset, .unset, .unset] [(.int (5 : Int32)), (.ref xs_3_), (.ref xs_1_), (.ref xp_22_)])) rfl (by rw [hml]; rfl) (argsL := [(.ref xp_22_), (.ref xs_1_), (.ref xs_3_), (.int (5 : Int32))]) (rest := []) (lenOf pd_qLjava_lang_StringLjava_lang_StringLjava_lang_StringIzZ rfl) rfl (by show 2 * 0 + _ ≤ _; exact Nat.le_of_eq rfl) (hb hby at_160) (fun _ _ => ⟨rfl, ek46_, (by exact own_b rfl), (by exact own_b rfl)⟩)
  dsimp only [Pt.U, Pt.locs, Pt.cells, Pt.slots] at X47_ l47_ y47_ z47_ st47_ hQ47_
  subst L47_ k47_ n47_
  obtain ⟨rfl, Nq47_, ek47_⟩ := hQ47_
  have N47_ := Fr.app N46_ Nq47_
  obtain ⟨cq49_, kq49_, qa49_, qb49_, qc49_⟩ := isOf hZ22_ ek47_ p22__0
  obtain ⟨_, _, ⟨T48_, L48_, k48_, n48_⟩, -, X48_, ⟨Lc48_, hQ48_, l48_, y48_, z48_⟩, st48_⟩ := X47_.virtualBack hx (y := (⟨"com/example/brisk_warden/briskwarden/core/UnsupportedNumberException", "problem", "()Ljava/lang/String;"⟩ : MethodName)) (z := (⟨"com/example/brisk_warden/briskwarden/core/UnsupportedNumberException", "problem", "()Ljava/lang/String;"⟩ : MethodName)) hown22_ (mvT hZ22_ (own_w hw 267 rfl)) (mvT hZ22_ (own_w hw 268 rfl)) (notFace_of_selects (args := #[]) (mvT hZ22_ (own_w hw 270 rfl))) (mvT hZ22_ (own_w hw 270 rfl)) (mvT hZ22_ (own_w hw 269 rfl)) (by decide) (backOf (W := 0) (rmGproblem l Z a0 hw [] a2_22_ xs_7_ T22_.heap n0 z31_ p22__3) hZ22_ (own_w hw 271 rfl) (own_w hw 43 rfl) (by decide) (by decide)) qa49_ qc49_ (g := (mkF m 182 #[.val (.int p0), .val (.int p1), .val (.int p2), .val (.int p3), .val (.ref xs_1_), .val (.ref xs_3_), .val (.ref xs_7_), .val (.ref b11_), .val (.ref a2_22_), .val (.ref xp_22_), .val (.int ((Int32.ofNat cA.length) + (Int32.ofNat cB.length))), .val (.int (1 : Int32)), .unset, .unset, .unset] [(.ref a2_22_)])) rfl (by rw [hml]; rfl) (Steps.refl _) (argsL := []) (rest := []) (lenOf pd_qzLjava_lang_String rfl) rfl (by show 2 * 0 + _ ≤ _; exact Nat.le_of_eq rfl) (hb hby at_182) (fun _ _ => ⟨rfl, ek47_, (by exact own_b rfl), (by exact own_b rfl)⟩)
  dsimp only [Pt.U, Pt.locs, Pt.cells, Pt.slots] at X48_ l48_ y48_ z48_ st48_ hQ48_
  subst L48_ k48_ n48_
  obtain ⟨rfl, Nq48_, ek48_⟩ := hQ48_
  have N48_ := Fr.app N47_ Nq48_
  have f52_ : own_Str Z T22_.heap xs_7_ ts_7_ cC := (f25_.keep ek22_ nin0 nin0)
  obtain ⟨cq51_, kq51_, qa51_, qb51_, qc51_⟩ := isOf hZ22_ ek48_ f52_.1
  obtain ⟨_, _, ⟨T50_, L50_, k50_, n50_⟩, -, X50_, ⟨Lc50_, hQ50_, l50_, y50_, z50_⟩, st50_⟩ := X48_.virtualBack hx (y := (⟨"java/lang/String", "equals", "(Ljava/lang/Object;)Z"⟩ : MethodName)) (z := (⟨"java/lang/String", "equals", "(Ljava/lang/Object;)Z"⟩ : MethodName)) hown22_ (mvT hZ22_ (own_w hw 272 rfl)) (mvT hZ22_ (own_w hw 273 rfl)) (notFace_of_selects (args := #[]) (mvT hZ22_ (own_w hw 275 rfl))) (mvT hZ22_ (own_w hw 275 rfl)) (mvT hZ22_ (own_w hw 274 rfl)) (by decide) (backOf (W := 0) (rmEqS l Z a0 hw [] xs_7_ T22_.heap n0 z31_ ) hZ22_ (own_w hw 276 rfl) (own_w hw 6 rfl) (by decide) (by decide)) qa51_ qc51_ (g := (mkF m 196 #[.val (.int p0), .val (.int p1), .val (.int p2), .val (.int p3), .val (.ref xs_1_), .val (.ref xs_3_), .val (.ref xs_7_), .val (.ref b11_), .val (.ref a2_22_), .val (.ref xp_22_), .val (.int ((Int32.ofNat cA.length) + (Int32.ofNat cB.length))), .val (.int (1 : Int32)), .val (.ref xs_7_), .unset, .unset] [(.ref xs_7_), (.ref xs_7_)])) rfl (by rw [hml]; rfl) (Steps.refl _) (argsL := [(.ref xs_7_)]) (rest := []) (lenOf pd_qLjava_lang_ObjectzZ rfl) rfl (by show 2 * 0 + _ ≤ _; exact Nat.le_of_eq rfl) (hb hby at_196) (fun _ _ => ⟨rfl, ek48_, (by exact own_b rfl), (by exact own_b rfl)⟩)
  dsimp only [Pt.U, Pt.locs, Pt.cells, Pt.slots] at X50_ l50_ y50_ z50_ st50_ hQ50_
  subst L50_ k50_ n50_
  obtain ⟨rfl, Nq50_, ek50_⟩ := hQ50_
  have N50_ := Fr.app N48_ Nq50_
  have mz_ : own_Str Z T22_.heap xm_22_ tm_22_ (((([] : List Int32) ++ ((([] : List Int32) ++ cA) ++ cB)) ++ ([(58 : Int32), (32 : Int32)] : List Int32)) ++ cC) := by
    have q_ := p22__6
    rw [own_msg, if_neg (by simp only [List.length_append, List.length_nil, Nat.zero_add]; exact hz)] at q_
    exact q_
  obtain ⟨cq54_, kq54_, qa54_, qb54_, qc54_⟩ := isOf hZ22_ ek50_ p22__0
  obtain ⟨_, _, ⟨T53_, L53_, k53_, n53_⟩, -, X53_, ⟨Lc53_, hQ53_, l53_, y53_, z53_⟩, st53_⟩ := X50_.virtualBackUp hx (owner := "java/lang/Throwable") (x := (⟨"com/example/brisk_warden/briskwarden/core/UnsupportedNumberException", "getMessage", "()Ljava/lang/String;"⟩ : MethodName)) (y := (⟨"java/lang/Throwable", "getMessage", "()Ljava/lang/String;"⟩ : MethodName)) hown22_ (mvT hZ22_ (own_w hw 277 rfl)) (mvT hZ22_ (own_w hw 278 rfl)) (mvT hZ22_ (own_w hw 279 rfl)) (by decide) (mvT hZ22_ (own_w hw 281 rfl)) (mvT hZ22_ (own_w hw 280 rfl)) (backOf (W := 0) (rmGgetMessage l Z a0 hw [] a2_22_ xm_22_ T22_.heap n0 z31_ p22__4) hZ22_ (own_w hw 282 rfl) (own_w hw 73 rfl) (by decide) (by decide)) qa54_ qc54_ (g := (mkF m 206 #[.val (.int p0), .val (.int p1), .val (.int p2), .val (.int p3), .val (.ref xs_1_), .val (.ref xs_3_), .val (.ref xs_7_), .val (.ref b11_), .val (.ref a2_22_), .val (.ref xp_22_), .val (.int ((Int32.ofNat cA.length) + (Int32.ofNat cB.length))), .val (.int (1 : Int32)), .val (.ref xs_7_), .unset, .unset] [(.ref a2_22_)])) rfl (by rw [hml]; rfl) (Steps.refl _) (argsL := []) (rest := []) (lenOf pd_qzLjava_lang_String rfl) rfl (by show 2 * 0 + _ ≤ _; exact Nat.le_of_eq rfl) (hb hby at_206) (fun _ _ => ⟨rfl, ek50_, (by exact own_b rfl), (by exact own_b rfl)⟩)
  dsimp only [Pt.U, Pt.locs, Pt.cells, Pt.slots] at X53_ l53_ y53_ z53_ st53_ hQ53_
  subst L53_ k53_ n53_
  obtain ⟨rfl, Nq53_, ek53_⟩ := hQ53_
  have N53_ := Fr.app N50_ Nq53_
  obtain ⟨cq56_, kq56_, qa56_, qb56_, qc56_⟩ := isOf hZ22_ ek53_ mz_.1
  obtain ⟨_, _, ⟨T55_, L55_, k55_, n55_⟩, -, X55_, ⟨Lc55_, hQ55_, l55_, y55_, z55_⟩, st55_⟩ := X53_.virtualBack hx (y := (⟨"java/lang/String", "length", "()I"⟩ : MethodName)) (z := (⟨"java/lang/String", "length", "()I"⟩ : MethodName)) hown22_ (mvT hZ22_ (own_w hw 239 rfl)) (mvT hZ22_ (own_w hw 151 rfl)) (notFace_of_selects (args := #[]) (mvT hZ22_ (own_w hw 153 rfl))) (mvT hZ22_ (own_w hw 153 rfl)) (mvT hZ22_ (own_w hw 152 rfl)) (by decide) (own_lenB (W := 0) hZ22_ hw mz_ T1 P5 f35_ (by decide) (by decide)) qa56_ qc56_ (g := (mkF m 237 #[.val (.int p0), .val (.int p1), .val (.int p2), .val (.int p3), .val (.ref xs_1_), .val (.ref xs_3_), .val (.ref xs_7_), .val (.ref b11_), .val (.ref a2_22_), .val (.ref xp_22_), .val (.int ((Int32.ofNat cA.length) + (Int32.ofNat cB.length))), .val (.int (1 : Int32)), .val (.ref xs_7_), .val (.ref xm_22_), .unset] [(.ref xm_22_)])) rfl (by rw [hml]; rfl) (Steps.refl _) (argsL := []) (rest := []) (lenOf pd_qzI rfl) rfl (by show 2 * 0 + _ ≤ _; exact Nat.le_of_eq rfl) (hb hby at_237) (fun _ _ => ⟨rfl, ek53_, (by exact own_b rfl), (by exact own_b rfl)⟩)
  dsimp only [Pt.U, Pt.locs, Pt.cells, Pt.slots] at X55_ l55_ y55_ z55_ st55_ hQ55_
  subst L55_ k55_ n55_
  obtain ⟨rfl, rfl, ek55_⟩ := hQ55_
  have N55_ := Fr.app N53_ (Fr.nil n0)
  obtain ⟨cq58_, kq58_, qa58_, qb58_, qc58_⟩ := isOf hZ22_ ek55_ f52_.1
  obtain ⟨_, _, ⟨T57_, L57_, k57_, n57_⟩, -, X57_, ⟨Lc57_, hQ57_, l57_, y57_, z57_⟩, st57_⟩ := X55_.virtualBack hx (y := (⟨"java/lang/String", "length", "()I"⟩ : MethodName)) (z := (⟨"java/lang/String", "length", "()I"⟩ : MethodName)) hown22_ (mvT hZ22_ (own_w hw 239 rfl)) (mvT hZ22_ (own_w hw 151 rfl)) (notFace_of_selects (args := #[]) (mvT hZ22_ (own_w hw 153 rfl))) (mvT hZ22_ (own_w hw 153 rfl)) (mvT hZ22_ (own_w hw 152 rfl)) (by decide) (own_lenB (W := 2) hZ22_ hw f52_ T1 P5 f35_ (by decide) (by decide)) qa58_ qc58_ (g := (mkF m 246 #[.val (.int p0), .val (.int p1), .val (.int p2), .val (.int p3), .val (.ref xs_1_), .val (.ref xs_3_), .val (.ref xs_7_), .val (.ref b11_), .val (.ref a2_22_), .val (.ref xp_22_), .val (.int ((Int32.ofNat cA.length) + (Int32.ofNat cB.length))), .val (.int (1 : Int32)), .val (.ref xs_7_), .val (.ref xm_22_), .unset] [(.ref xs_7_), (.int (((Int32.ofNat cA.length) + (Int32.ofNat cB.length)) + (2 : Int32))), (.int (Int32.ofNat (((([] : List Int32) ++ ((([] : List Int32) ++ cA) ++ cB)) ++ ([(58 : Int32), (32 : Int32)] : List Int32)) ++ cC).length))])) rfl (by rw [hml]; rfl) (Steps.refl _) (argsL := []) (rest := [(.int (((Int32.ofNat cA.length) + (Int32.ofNat cB.length)) + (2 : Int32))), (.int (Int32.ofNat (((([] : List Int32) ++ ((([] : List Int32) ++ cA) ++ cB)) ++ ([(58 : Int32), (32 : Int32)] : List Int32)) ++ cC).length))]) (lenOf pd_qzI rfl) rfl (by show 2 * 0 + _ ≤ _; exact Nat.le_of_eq rfl) (hb hby at_246) (fun _ _ => ⟨rfl, ek55_, (by exact own_b rfl), (by exact own_b rfl)⟩)
  dsimp only [Pt.U, Pt.locs, Pt.cells, Pt.slots] at X57_ l57_ y57_ z57_ st57_ hQ57_
  subst L57_ k57_ n57_
  obtain ⟨rfl, rfl, ek57_⟩ := hQ57_
  have N57_ := Fr.app N55_ (Fr.nil n0)
  obtain ⟨_, _, ⟨T59_, L59_, k59_, n59_⟩, -, X59_, ⟨Lc59_, hQ59_, l59_, y59_, z59_⟩, st59_⟩ := Jvm.LawKit.callS X57_ hx (y := (⟨"com/example/brisk_warden/briskwarden/core/UnsupportedNumberExceptionAtPinLaw", "mc", "(Ljava/lang/String;Ljava/lang/String;Ljava/lang/String;Ljava/lang/String;I)Z"⟩ : MethodName)) hown22_ (mvT hZ22_ (own_w hw 283 rfl)) (mvT hZ22_ (own_w hw 284 rfl)) (mvT hZ22_ (own_w hw 2 rfl)) (mvT hZ22_ (own_w hw 285 rfl)) (by decide) (backOf (W := 0) (rmM l Z a0 hw [] xm_22_ xs_1_ xs_3_ xs_7_ (0 : Int32) tm_22_ ts_1_ cA ts_3_ cB ts_7_ cC 0 G1 G3 T22_.heap n0 z31_ mz_ f34_ f38_ f52_ T1 P5 f35_ TF rF rfl (by decide) lncA lncB lncC) hZ22_ (own_w hw 285 rfl) (own_w hw 2 rfl) (by decide) (by decide)) (g := (mkF m 262 #[.val (.int p0), .val (.int p1), .val (.int p2), .val (.int p3), .val (.ref xs_1_), .val (.ref xs_3_), .val (.ref xs_7_), .val (.ref b11_), .val (.ref a2_22_), .val (.ref xp_22_), .val (.int ((Int32.ofNat cA.length) + (Int32.ofNat cB.length))), .val (.int (1 : Int32)), .val (.ref xs_7_), .val (.ref xm_22_), .unset] [(.int (0 : Int32)), (.ref xs_7_), (.ref xs_3_), (.ref xs_1_), (.ref xm_22_)])) rfl (by rw [hml]; rfl) (argsL := [(.ref xm_22_), (.ref xs_1_), (.ref xs_3_), (.ref xs_7_), (.int (0 : Int32))]) (rest := []) (lenOf pd_qLjava_lang_StringLjava_lang_StringLjava_lang_StringLjava_lang_StringIzZ rfl) rfl (by show 2 * 0 + _ ≤ _; exact Nat.le_of_eq rfl) (hb hby at_262) (fun _ _ => ⟨rfl, ek57_, (by exact own_b rfl), (by exact own_b rfl)⟩)
  dsimp only [Pt.U, Pt.locs, Pt.cells, Pt.slots] at X59_ l59_ y59_ z59_ st59_ hQ59_
  subst L59_ k59_ n59_
  obtain ⟨rfl, Nq59_, ek59_⟩ := hQ59_
  have N59_ := Fr.app N57_ Nq59_
  obtain ⟨_, _, ⟨T60_, L60_, k60_, n60_⟩, -, X60_, ⟨Lc60_, hQ60_, l60_, y60_, z60_⟩, st60_⟩ := Jvm.LawKit.callS X59_ hx (y := (⟨"com/example/brisk_warden/briskwarden/core/UnsupportedNumberExceptionAtPinLaw", "mc", "(Ljava/lang/String;Ljava/lang/String;Ljava/lang/String;Ljava/lang/String;I)Z"⟩ : MethodName)) hown22_ (mvT hZ22_ (own_w hw 283 rfl)) (mvT hZ22_ (own_w hw 284 rfl)) (mvT hZ22_ (own_w hw 2 rfl)) (mvT hZ22_ (own_w hw 285 rfl)) (by decide) (backOf (W := 0) (rmM l Z a0 hw [] xm_22_ xs_1_ xs_3_ xs_7_ (1 : Int32) tm_22_ ts_1_ cA ts_3_ cB ts_7_ cC 1 G1 G3 T22_.heap n0 z31_ mz_ f34_ f38_ f52_ T1 P5 f35_ TF rF rfl (by decide) lncA lncB lncC) hZ22_ (own_w hw 285 rfl) (own_w hw 2 rfl) (by decide) (by decide)) (g := (mkF m 277 #[.val (.int p0), .val (.int p1), .val (.int p2), .val (.int p3), .val (.ref xs_1_), .val (.ref xs_3_), .val (.ref xs_7_), .val (.ref b11_), .val (.ref a2_22_), .val (.ref xp_22_), .val (.int ((Int32.ofNat cA.length) + (Int32.ofNat cB.length))), .val (.int (1 : Int32)), .val (.ref xs_7_), .val (.ref xm_22_), .unset] [(.int (1 : Int32)), (.ref xs_7_), (.ref xs_3_), (.ref xs_1_), (.ref xm_22_)])) rfl (by rw [hml]; rfl) (argsL := [(.ref xm_22_), (.ref xs_1_), (.ref xs_3_), (.ref xs_7_), (.int (1 : Int32))]) (rest := []) (lenOf pd_qLjava_lang_StringLjava_lang_StringLjava_lang_StringLjava_lang_StringIzZ rfl) rfl (by show 2 * 0 + _ ≤ _; exact Nat.le_of_eq rfl) (hb hby at_277) (fun _ _ => ⟨rfl, ek59_, (by exact own_b rfl), (by exact own_b rfl)⟩)
  dsimp only [Pt.U, Pt.locs, Pt.cells, Pt.slots] at X60_ l60_ y60_ z60_ st60_ hQ60_
  subst L60_ k60_ n60_
  obtain ⟨rfl, Nq60_, ek60_⟩ := hQ60_
  have N60_ := Fr.app N59_ Nq60_
  obtain ⟨_, _, ⟨T61_, L61_, k61_, n61_⟩, -, X61_, ⟨Lc61_, hQ61_, l61_, y61_, z61_⟩, st61_⟩ := Jvm.LawKit.callS X60_ hx (y := (⟨"com/example/brisk_warden/briskwarden/core/UnsupportedNumberExceptionAtPinLaw", "mc", "(Ljava/lang/String;Ljava/lang/String;Ljava/lang/String;Ljava/lang/String;I)Z"⟩ : MethodName)) hown22_ (mvT hZ22_ (own_w hw 283 rfl)) (mvT hZ22_ (own_w hw 284 rfl)) (mvT hZ22_ (own_w hw 2 rfl)) (mvT hZ22_ (own_w hw 285 rfl)) (by decide) (backOf (W := 0) (rmM l Z a0 hw [] xm_22_ xs_1_ xs_3_ xs_7_ (2 : Int32) tm_22_ ts_1_ cA ts_3_ cB ts_7_ cC 2 G1 G3 T22_.heap n0 z31_ mz_ f34_ f38_ f52_ T1 P5 f35_ TF rF rfl (by decide) lncA lncB lncC) hZ22_ (own_w hw 285 rfl) (own_w hw 2 rfl) (by decide) (by decide)) (g := (mkF m 292 #[.val (.int p0), .val (.int p1), .val (.int p2), .val (.int p3), .val (.ref xs_1_), .val (.ref xs_3_), .val (.ref xs_7_), .val (.ref b11_), .val (.ref a2_22_), .val (.ref xp_22_), .val (.int ((Int32.ofNat cA.length) + (Int32.ofNat cB.length))), .val (.int (1 : Int32)), .val (.ref xs_7_), .val (.ref xm_22_), .unset] [(.int (2 : Int32)), (.ref xs_7_), (.ref xs_3_), (.ref xs_1_), (.ref xm_22_)])) rfl (by rw [hml]; rfl) (argsL := [(.ref xm_22_), (.ref xs_1_), (.ref xs_3_), (.ref xs_7_), (.int (2 : Int32))]) (rest := []) (lenOf pd_qLjava_lang_StringLjava_lang_StringLjava_lang_StringLjava_lang_StringIzZ rfl) rfl (by show 2 * 0 + _ ≤ _; exact Nat.le_of_eq rfl) (hb hby at_292) (fun _ _ => ⟨rfl, ek60_, (by exact own_b rfl), (by exact own_b rfl)⟩)
  dsimp only [Pt.U, Pt.locs, Pt.cells, Pt.slots] at X61_ l61_ y61_ z61_ st61_ hQ61_
  subst L61_ k61_ n61_
  obtain ⟨rfl, Nq61_, ek61_⟩ := hQ61_
  have N61_ := Fr.app N60_ Nq61_
  obtain ⟨_, _, ⟨T62_, L62_, k62_, n62_⟩, -, X62_, ⟨Lc62_, hQ62_, l62_, y62_, z62_⟩, st62_⟩ := Jvm.LawKit.callS X61_ hx (y := (⟨"com/example/brisk_warden/briskwarden/core/UnsupportedNumberExceptionAtPinLaw", "mc", "(Ljava/lang/String;Ljava/lang/String;Ljava/lang/String;Ljava/lang/String;I)Z"⟩ : MethodName)) hown22_ (mvT hZ22_ (own_w hw 283 rfl)) (mvT hZ22_ (own_w hw 284 rfl)) (mvT hZ22_ (own_w hw 2 rfl)) (mvT hZ22_ (own_w hw 285 rfl)) (by decide) (backOf (W := 0) (rmM l Z a0 hw [] xm_22_ xs_1_ xs_3_ xs_7_ (3 : Int32) tm_22_ ts_1_ cA ts_3_ cB ts_7_ cC 3 G1 G3 T22_.heap n0 z31_ mz_ f34_ f38_ f52_ T1 P5 f35_ TF rF rfl (by decide) lncA lncB lncC) hZ22_ (own_w hw 285 rfl) (own_w hw 2 rfl) (by decide) (by decide)) (g := (mkF m 307 #[.val (.int p0), .val (.int p1), .val (.int p2), .val (.int p3), .val (.ref xs_1_), .val (.ref xs_3_), .val (.ref xs_7_), .val (.ref b11_), .val (.ref a2_22_), .val (.ref xp_22_), .val (.int ((Int32.ofNat cA.length) + (Int32.ofNat cB.length))), .val (.int (1 : Int32)), .val (.ref xs_7_), .val (.ref xm_22_), .unset] [(.int (3 : Int32)), (.ref xs_7_), (.ref xs_3_), (.ref xs_1_), (.ref xm_22_)])) rfl (by rw [hml]; rfl) (argsL := [(.ref xm_22_), (.ref xs_1_), (.ref xs_3_), (.ref xs_7_), (.int (3 : Int32))]) (rest := []) (lenOf pd_qLjava_lang_StringLjava_lang_StringLjava_lang_StringLjava_lang_StringIzZ rfl) rfl (by show 2 * 0 + _ ≤ _; exact Nat.le_of_eq rfl) (hb hby at_307) (fun _ _ => ⟨rfl, ek61_, (by exact own_b rfl), (by exact own_b rfl)⟩)
  dsimp only [Pt.U, Pt.locs, Pt.cells, Pt.slots] at X62_ l62_ y62_ z62_ st62_ hQ62_
  subst L62_ k62_ n62_
  obtain ⟨rfl, Nq62_, ek62_⟩ := hQ62_
  have N62_ := Fr.app N61_ Nq62_
  obtain ⟨_, _, ⟨T63_, L63_, k63_, n63_⟩, -, X63_, ⟨Lc63_, hQ63_, l63_, y63_, z63_⟩, st63_⟩ := Jvm.LawKit.callS X62_ hx (y := (⟨"com/example/brisk_warden/briskwarden/core/UnsupportedNumberExceptionAtPinLaw", "mc", "(Ljava/lang/String;Ljava/lang/String;Ljava/lang/String;Ljava/lang/String;I)Z"⟩ : MethodName)) hown22_ (mvT hZ22_ (own_w hw 283 rfl)) (mvT hZ22_ (own_w hw 284 rfl)) (mvT hZ22_ (own_w hw 2 rfl)) (mvT hZ22_ (own_w hw 285 rfl)) (by decide) (backOf (W := 0) (rmM l Z a0 hw [] xm_22_ xs_1_ xs_3_ xs_7_ (4 : Int32) tm_22_ ts_1_ cA ts_3_ cB ts_7_ cC 4 G1 G3 T22_.heap n0 z31_ mz_ f34_ f38_ f52_ T1 P5 f35_ TF rF rfl (by decide) lncA lncB lncC) hZ22_ (own_w hw 285 rfl) (own_w hw 2 rfl) (by decide) (by decide)) (g := (mkF m 322 #[.val (.int p0), .val (.int p1), .val (.int p2), .val (.int p3), .val (.ref xs_1_), .val (.ref xs_3_), .val (.ref xs_7_), .val (.ref b11_), .val (.ref a2_22_), .val (.ref xp_22_), .val (.int ((Int32.ofNat cA.length) + (Int32.ofNat cB.length))), .val (.int (1 : Int32)), .val (.ref xs_7_), .val (.ref xm_22_), .unset] [(.int (4 : Int32)), (.ref xs_7_), (.ref xs_3_), (.ref xs_1_), (.ref xm_22_)])) rfl (by rw [hml]; rfl) (argsL := [(.ref xm_22_), (.ref xs_1_), (.ref xs_3_), (.ref xs_7_), (.int (4 : Int32))]) (rest := []) (lenOf pd_qLjava_lang_StringLjava_lang_StringLjava_lang_StringLjava_lang_StringIzZ rfl) rfl (by show 2 * 0 + _ ≤ _; exact Nat.le_of_eq rfl) (hb hby at_322) (fun _ _ => ⟨rfl, ek62_, (by exact own_b rfl), (by exact own_b rfl)⟩)
  dsimp only [Pt.U, Pt.locs, Pt.cells, Pt.slots] at X63_ l63_ y63_ z63_ st63_ hQ63_
  subst L63_ k63_ n63_
  obtain ⟨rfl, Nq63_, ek63_⟩ := hQ63_
  have N63_ := Fr.app N62_ Nq63_
  obtain ⟨_, _, ⟨T64_, L64_, k64_, n64_⟩, -, X64_, ⟨Lc64_, hQ64_, l64_, y64_, z64_⟩, st64_⟩ := Jvm.LawKit.callS X63_ hx (y := (⟨"com/example/brisk_warden/briskwarden/core/UnsupportedNumberExceptionAtPinLaw", "mc", "(Ljava/lang/String;Ljava/lang/String;Ljava/lang/String;Ljava/lang/String;I)Z"⟩ : MethodName)) hown22_ (mvT hZ22_ (own_w hw 283 rfl)) (mvT hZ22_ (own_w hw 284 rfl)) (mvT hZ22_ (own_w hw 2 rfl)) (mvT hZ22_ (own_w hw 285 rfl)) (by decide) (backOf (W := 0) (rmM l Z a0 hw [] xm_22_ xs_1_ xs_3_ xs_7_ (5 : Int32) tm_22_ ts_1_ cA ts_3_ cB ts_7_ cC 5 G1 G3 T22_.heap n0 z31_ mz_ f34_ f38_ f52_ T1 P5 f35_ TF rF rfl (by decide) lncA lncB lncC) hZ22_ (own_w hw 285 rfl) (own_w hw 2 rfl) (by decide) (by decide)) (g := (mkF m 337 #[.val (.int p0), .val (.int p1), .val (.int p2), .val (.int p3), .val (.ref xs_1_), .val (.ref xs_3_), .val (.ref xs_7_), .val (.ref b11_), .val (.ref a2_22_), .val (.ref xp_22_), .val (.int ((Int32.ofNat cA.length) + (Int32.ofNat cB.length))), .val (.int (1 : Int32)), .val (.ref xs_7_), .val (.ref xm_22_), .unset] [(.int (5 : Int32)), (.ref xs_7_), (.ref xs_3_), (.ref xs_1_), (.ref xm_22_)])) rfl (by rw [hml]; rfl) (argsL := [(.ref xm_22_), (.ref xs_1_), (.ref xs_3_), (.ref xs_7_), (.int (5 : Int32))]) (rest := []) (lenOf pd_qLjava_lang_StringLjava_lang_StringLjava_lang_StringLjava_lang_StringIzZ rfl) rfl (by show 2 * 0 + _ ≤ _; exact Nat.le_of_eq rfl) (hb hby at_337) (fun _ _ => ⟨rfl, ek63_, (by exact own_b rfl), (by exact own_b rfl)⟩)
  dsimp only [Pt.U, Pt.locs, Pt.cells, Pt.slots] at X64_ l64_ y64_ z64_ st64_ hQ64_
  subst L64_ k64_ n64_
  obtain ⟨rfl, Nq64_, ek64_⟩ := hQ64_
  have N64_ := Fr.app N63_ Nq64_
  obtain ⟨_, _, ⟨T65_, L65_, k65_, n65_⟩, -, X65_, ⟨Lc65_, hQ65_, l65_, y65_, z65_⟩, st65_⟩ := Jvm.LawKit.callS X64_ hx (y := (⟨"com/example/brisk_warden/briskwarden/core/UnsupportedNumberExceptionAtPinLaw", "mc", "(Ljava/lang/String;Ljava/lang/String;Ljava/lang/String;Ljava/lang/String;I)Z"⟩ : MethodName)) hown22_ (mvT hZ22_ (own_w hw 283 rfl)) (mvT hZ22_ (own_w hw 284 rfl)) (mvT hZ22_ (own_w hw 2 rfl)) (mvT hZ22_ (own_w hw 285 rfl)) (by decide) (backOf (W := 0) (rmM l Z a0 hw [] xm_22_ xs_1_ xs_3_ xs_7_ (6 : Int32) tm_22_ ts_1_ cA ts_3_ cB ts_7_ cC 6 G1 G3 T22_.heap n0 z31_ mz_ f34_ f38_ f52_ T1 P5 f35_ TF rF rfl (by decide) lncA lncB lncC) hZ22_ (own_w hw 285 rfl) (own_w hw 2 rfl) (by decide) (by decide)) (g := (mkF m 353 #[.val (.int p0), .val (.int p1), .val (.int p2), .val (.int p3), .val (.ref xs_1_), .val (.ref xs_3_), .val (.ref xs_7_), .val (.ref b11_), .val (.ref a2_22_), .val (.ref xp_22_), .val (.int ((Int32.ofNat cA.length) + (Int32.ofNat cB.length))), .val (.int (1 : Int32)), .val (.ref xs_7_), .val (.ref xm_22_), .unset] [(.int (6 : Int32)), (.ref xs_7_), (.ref xs_3_), (.ref xs_1_), (.ref xm_22_)])) rfl (by rw [hml]; rfl) (argsL := [(.ref xm_22_), (.ref xs_1_), (.ref xs_3_), (.ref xs_7_), (.int (6 : Int32))]) (rest := []) (lenOf pd_qLjava_lang_StringLjava_lang_StringLjava_lang_StringLjava_lang_StringIzZ rfl) rfl (by show 2 * 0 + _ ≤ _; exact Nat.le_of_eq rfl) (hb hby at_353) (fun _ _ => ⟨rfl, ek64_, (by exact own_b rfl), (by exact own_b rfl)⟩)
  dsimp only [Pt.U, Pt.locs, Pt.cells, Pt.slots] at X65_ l65_ y65_ z65_ st65_ hQ65_
  subst L65_ k65_ n65_
  obtain ⟨rfl, Nq65_, ek65_⟩ := hQ65_
  have N65_ := Fr.app N64_ Nq65_
  obtain ⟨_, _, ⟨T66_, L66_, k66_, n66_⟩, -, X66_, ⟨Lc66_, hQ66_, l66_, y66_, z66_⟩, st66_⟩ := Jvm.LawKit.callS X65_ hx (y := (⟨"com/example/brisk_warden/briskwarden/core/UnsupportedNumberExceptionAtPinLaw", "mc", "(Ljava/lang/String;Ljava/lang/String;Ljava/lang/String;Ljava/lang/String;I)Z"⟩ : MethodName)) hown22_ (mvT hZ22_ (own_w hw 283 rfl)) (mvT hZ22_ (own_w hw 284 rfl)) (mvT hZ22_ (own_w hw 2 rfl)) (mvT hZ22_ (own_w hw 285 rfl)) (by decide) (backOf (W := 0) (rmM l Z a0 hw [] xm_22_ xs_1_ xs_3_ xs_7_ (7 : Int32) tm_22_ ts_1_ cA ts_3_ cB ts_7_ cC 7 G1 G3 T22_.heap n0 z31_ mz_ f34_ f38_ f52_ T1 P5 f35_ TF rF rfl (by decide) lncA lncB lncC) hZ22_ (own_w hw 285 rfl) (own_w hw 2 rfl) (by decide) (by decide)) (g := (mkF m 369 #[.val (.int p0), .val (.int p1), .val (.int p2), .val (.int p3), .val (.ref xs_1_), .val (.ref xs_3_), .val (.ref xs_7_), .val (.ref b11_), .val (.ref a2_22_), .val (.ref xp_22_), .val (.int ((Int32.ofNat cA.length) + (Int32.ofNat cB.length))), .val (.int (1 : Int32)), .val (.ref xs_7_), .val (.ref xm_22_), .unset] [(.int (7 : Int32)), (.ref xs_7_), (.ref xs_3_), (.ref xs_1_), (.ref xm_22_)])) rfl (by rw [hml]; rfl) (argsL := [(.ref xm_22_), (.ref xs_1_), (.ref xs_3_), (.ref xs_7_), (.int (7 : Int32))]) (rest := []) (lenOf pd_qLjava_lang_StringLjava_lang_StringLjava_lang_StringLjava_lang_StringIzZ rfl) rfl (by show 2 * 0 + _ ≤ _; exact Nat.le_of_eq rfl) (hb hby at_369) (fun _ _ => ⟨rfl, ek65_, (by exact own_b rfl), (by exact own_b rfl)⟩)
  dsimp only [Pt.U, Pt.locs, Pt.cells, Pt.slots] at X66_ l66_ y66_ z66_ st66_ hQ66_
  subst L66_ k66_ n66_
  obtain ⟨rfl, Nq66_, ek66_⟩ := hQ66_
  have N66_ := Fr.app N65_ Nq66_
  obtain ⟨_, _, ⟨T67_, L67_, k67_, n67_⟩, -, X67_, ⟨Lc67_, hQ67_, l67_, y67_, z67_⟩, st67_⟩ := Jvm.LawKit.callS X66_ hx (y := (⟨"com/example/brisk_warden/briskwarden/core/UnsupportedNumberExceptionAtPinLaw", "mc", "(Ljava/lang/String;Ljava/lang/String;Ljava/lang/String;Ljava/lang/String;I)Z"⟩ : MethodName)) hown22_ (mvT hZ22_ (own_w hw 283 rfl)) (mvT hZ22_ (own_w hw 284 rfl)) (mvT hZ22_ (own_w hw 2 rfl)) (mvT hZ22_ (own_w hw 285 rfl)) (by decide) (backOf (W := 0) (rmM l Z a0 hw [] xm_22_ xs_1_ xs_3_ xs_7_ (8 : Int32) tm_22_ ts_1_ cA ts_3_ cB ts_7_ cC 8 G1 G3 T22_.heap n0 z31_ mz_ f34_ f38_ f52_ T1 P5 f35_ TF rF rfl (by decide) lncA lncB lncC) hZ22_ (own_w hw 285 rfl) (own_w hw 2 rfl) (by decide) (by decide)) (g := (mkF m 385 #[.val (.int p0), .val (.int p1), .val (.int p2), .val (.int p3), .val (.ref xs_1_), .val (.ref xs_3_), .val (.ref xs_7_), .val (.ref b11_), .val (.ref a2_22_), .val (.ref xp_22_), .val (.int ((Int32.ofNat cA.length) + (Int32.ofNat cB.length))), .val (.int (1 : Int32)), .val (.ref xs_7_), .val (.ref xm_22_), .unset] [(.int (8 : Int32)), (.ref xs_7_), (.ref xs_3_), (.ref xs_1_), (.ref xm_22_)])) rfl (by rw [hml]; rfl) (argsL := [(.ref xm_22_), (.ref xs_1_), (.ref xs_3_), (.ref xs_7_), (.int (8 : Int32))]) (rest := []) (lenOf pd_qLjava_lang_StringLjava_lang_StringLjava_lang_StringLjava_lang_StringIzZ rfl) rfl (by show 2 * 0 + _ ≤ _; exact Nat.le_of_eq rfl) (hb hby at_385) (fun _ _ => ⟨rfl, ek66_, (by exact own_b rfl), (by exact own_b rfl)⟩)
  dsimp only [Pt.U, Pt.locs, Pt.cells, Pt.slots] at X67_ l67_ y67_ z67_ st67_ hQ67_
  subst L67_ k67_ n67_
  obtain ⟨rfl, Nq67_, ek67_⟩ := hQ67_
  have N67_ := Fr.app N66_ Nq67_
  obtain ⟨_, _, ⟨T68_, L68_, k68_, n68_⟩, -, X68_, ⟨Lc68_, hQ68_, l68_, y68_, z68_⟩, st68_⟩ := Jvm.LawKit.callS X67_ hx (y := (⟨"com/example/brisk_warden/briskwarden/core/UnsupportedNumberExceptionAtPinLaw", "mc", "(Ljava/lang/String;Ljava/lang/String;Ljava/lang/String;Ljava/lang/String;I)Z"⟩ : MethodName)) hown22_ (mvT hZ22_ (own_w hw 283 rfl)) (mvT hZ22_ (own_w hw 284 rfl)) (mvT hZ22_ (own_w hw 2 rfl)) (mvT hZ22_ (own_w hw 285 rfl)) (by decide) (backOf (W := 0) (rmM l Z a0 hw [] xm_22_ xs_1_ xs_3_ xs_7_ (9 : Int32) tm_22_ ts_1_ cA ts_3_ cB ts_7_ cC 9 G1 G3 T22_.heap n0 z31_ mz_ f34_ f38_ f52_ T1 P5 f35_ TF rF rfl (by decide) lncA lncB lncC) hZ22_ (own_w hw 285 rfl) (own_w hw 2 rfl) (by decide) (by decide)) (g := (mkF m 401 #[.val (.int p0), .val (.int p1), .val (.int p2), .val (.int p3), .val (.ref xs_1_), .val (.ref xs_3_), .val (.ref xs_7_), .val (.ref b11_), .val (.ref a2_22_), .val (.ref xp_22_), .val (.int ((Int32.ofNat cA.length) + (Int32.ofNat cB.length))), .val (.int (1 : Int32)), .val (.ref xs_7_), .val (.ref xm_22_), .unset] [(.int (9 : Int32)), (.ref xs_7_), (.ref xs_3_), (.ref xs_1_), (.ref xm_22_)])) rfl (by rw [hml]; rfl) (argsL := [(.ref xm_22_), (.ref xs_1_), (.ref xs_3_), (.ref xs_7_), (.int (9 : Int32))]) (rest := []) (lenOf pd_qLjava_lang_StringLjava_lang_StringLjava_lang_StringLjava_lang_StringIzZ rfl) rfl (by show 2 * 0 + _ ≤ _; exact Nat.le_of_eq rfl) (hb hby at_401) (fun _ _ => ⟨rfl, ek67_, (by exact own_b rfl), (by exact own_b rfl)⟩)
  dsimp only [Pt.U, Pt.locs, Pt.cells, Pt.slots] at X68_ l68_ y68_ z68_ st68_ hQ68_
  subst L68_ k68_ n68_
  obtain ⟨rfl, Nq68_, ek68_⟩ := hQ68_
  have N68_ := Fr.app N67_ Nq68_
  obtain ⟨_, _, ⟨T69_, L69_, k69_, n69_⟩, -, X69_, ⟨Lc69_, hQ69_, l69_, y69_, z69_⟩, st69_⟩ := Jvm.LawKit.callS X68_ hx (y := (⟨"com/example/brisk_warden/briskwarden/core/UnsupportedNumberExceptionAtPinLaw", "mc", "(Ljava/lang/String;Ljava/lang/String;Ljava/lang/String;Ljava/lang/String;I)Z"⟩ : MethodName)) hown22_ (mvT hZ22_ (own_w hw 283 rfl)) (mvT hZ22_ (own_w hw 284 rfl)) (mvT hZ22_ (own_w hw 2 rfl)) (mvT hZ22_ (own_w hw 285 rfl)) (by decide) (backOf (W := 0) (rmM l Z a0 hw [] xm_22_ xs_1_ xs_3_ xs_7_ (10 : Int32) tm_22_ ts_1_ cA ts_3_ cB ts_7_ cC 10 G1 G3 T22_.heap n0 z31_ mz_ f34_ f38_ f52_ T1 P5 f35_ TF rF rfl (by decide) lncA lncB lncC) hZ22_ (own_w hw 285 rfl) (own_w hw 2 rfl) (by decide) (by decide)) (g := (mkF m 417 #[.val (.int p0), .val (.int p1), .val (.int p2), .val (.int p3), .val (.ref xs_1_), .val (.ref xs_3_), .val (.ref xs_7_), .val (.ref b11_), .val (.ref a2_22_), .val (.ref xp_22_), .val (.int ((Int32.ofNat cA.length) + (Int32.ofNat cB.length))), .val (.int (1 : Int32)), .val (.ref xs_7_), .val (.ref xm_22_), .unset] [(.int (10 : Int32)), (.ref xs_7_), (.ref xs_3_), (.ref xs_1_), (.ref xm_22_)])) rfl (by rw [hml]; rfl) (argsL := [(.ref xm_22_), (.ref xs_1_), (.ref xs_3_), (.ref xs_7_), (.int (10 : Int32))]) (rest := []) (lenOf pd_qLjava_lang_StringLjava_lang_StringLjava_lang_StringLjava_lang_StringIzZ rfl) rfl (by show 2 * 0 + _ ≤ _; exact Nat.le_of_eq rfl) (hb hby at_417) (fun _ _ => ⟨rfl, ek68_, (by exact own_b rfl), (by exact own_b rfl)⟩)
  dsimp only [Pt.U, Pt.locs, Pt.cells, Pt.slots] at X69_ l69_ y69_ z69_ st69_ hQ69_
  subst L69_ k69_ n69_
  obtain ⟨rfl, Nq69_, ek69_⟩ := hQ69_
  have N69_ := Fr.app N68_ Nq69_
  have f71_ : Fld Z T22_.heap b11_ "com/example/brisk_warden/briskwarden/core/UnsupportedNumberException" "place" "Ljava/lang/String;" (.ref xs_3_) := (p14__2.keep ek22_ nin0)
  have f73_ : Exa Z T22_.heap b11_ "com/example/brisk_warden/briskwarden/core/UnsupportedNumberException" := (p14__0.keep ek22_)
  obtain ⟨cq72_, kq72_, qa72_, qb72_, qc72_⟩ := isOf hZ22_ ek69_ f73_
  obtain ⟨_, _, ⟨T70_, L70_, k70_, n70_⟩, -, X70_, ⟨Lc70_, hQ70_, l70_, y70_, z70_⟩, st70_⟩ := X69_.virtualBack hx (y := (⟨"com/example/brisk_warden/briskwarden/core/UnsupportedNumberException", "place", "()Ljava/lang/String;"⟩ : MethodName)) (z := (⟨"com/example/brisk_warden/briskwarden/core/UnsupportedNumberException", "place", "()Ljava/lang/String;"⟩ : MethodName)) hown22_ (mvT hZ22_ (own_w hw 234 rfl)) (mvT hZ22_ (own_w hw 235 rfl)) (notFace_of_selects (args := #[]) (mvT hZ22_ (own_w hw 237 rfl))) (mvT hZ22_ (own_w hw 237 rfl)) (mvT hZ22_ (own_w hw 236 rfl)) (by decide) (backOf (W := 0) (rmGplace l Z a0 hw [] b11_ xs_3_ T22_.heap n0 z31_ f71_) hZ22_ (own_w hw 238 rfl) (own_w hw 43 rfl) (by decide) (by decide)) qa72_ qc72_ (g := (mkF m 439 #[.val (.int p0), .val (.int p1), .val (.int p2), .val (.int p3), .val (.ref xs_1_), .val (.ref xs_3_), .val (.ref xs_7_), .val (.ref b11_), .val (.ref a2_22_), .val (.ref xp_22_), .val (.int ((Int32.ofNat cA.length) + (Int32.ofNat cB.length))), .val (.int (1 : Int32)), .val (.ref xs_7_), .val (.ref xm_22_), .val (.int (1 : Int32))] [(.ref b11_)])) rfl (by rw [hml]; rfl) (Steps.refl _) (argsL := []) (rest := []) (lenOf pd_qzLjava_lang_String rfl) rfl (by show 2 * 0 + _ ≤ _; exact Nat.le_of_eq rfl) (hb hby at_439) (fun _ _ => ⟨rfl, ek69_, (by exact own_b rfl), (by exact own_b rfl)⟩)
  dsimp only [Pt.U, Pt.locs, Pt.cells, Pt.slots] at X70_ l70_ y70_ z70_ st70_ hQ70_
  subst L70_ k70_ n70_
  obtain ⟨rfl, Nq70_, ek70_⟩ := hQ70_
  have N70_ := Fr.app N69_ Nq70_
  obtain ⟨cq75_, kq75_, qa75_, qb75_, qc75_⟩ := isOf hZ22_ ek70_ f38_.1
  obtain ⟨_, _, ⟨T74_, L74_, k74_, n74_⟩, -, X74_, ⟨Lc74_, hQ74_, l74_, y74_, z74_⟩, st74_⟩ := X70_.virtualBack hx (y := (⟨"java/lang/String", "equals", "(Ljava/lang/Object;)Z"⟩ : MethodName)) (z := (⟨"java/lang/String", "equals", "(Ljava/lang/Object;)Z"⟩ : MethodName)) hown22_ (mvT hZ22_ (own_w hw 272 rfl)) (mvT hZ22_ (own_w hw 273 rfl)) (notFace_of_selects (args := #[]) (mvT hZ22_ (own_w hw 275 rfl))) (mvT hZ22_ (own_w hw 275 rfl)) (mvT hZ22_ (own_w hw 274 rfl)) (by decide) (backOf (W := 0) (rmEqS l Z a0 hw [] xs_3_ T22_.heap n0 z31_ ) hZ22_ (own_w hw 276 rfl) (own_w hw 6 rfl) (by decide) (by decide)) qa75_ qc75_ (g := (mkF m 444 #[.val (.int p0), .val (.int p1), .val (.int p2), .val (.int p3), .val (.ref xs_1_), .val (.ref xs_3_), .val (.ref xs_7_), .val (.ref b11_), .val (.ref a2_22_), .val (.ref xp_22_), .val (.int ((Int32.ofNat cA.length) + (Int32.ofNat cB.length))), .val (.int (1 : Int32)), .val (.ref xs_7_), .val (.ref xm_22_), .val (.int (1 : Int32))] [(.ref xs_3_), (.ref xs_3_)])) rfl (by rw [hml]; rfl) (Steps.refl _) (argsL := [(.ref xs_3_)]) (rest := []) (lenOf pd_qLjava_lang_ObjectzZ rfl) rfl (by show 2 * 0 + _ ≤ _; exact Nat.le_of_eq rfl) (hb hby at_444) (fun _ _ => ⟨rfl, ek70_, (by exact own_b rfl), (by exact own_b rfl)⟩)
  dsimp only [Pt.U, Pt.locs, Pt.cells, Pt.slots] at X74_ l74_ y74_ z74_ st74_ hQ74_
  subst L74_ k74_ n74_
  obtain ⟨rfl, Nq74_, ek74_⟩ := hQ74_
  have N74_ := Fr.app N70_ Nq74_
  have f77_ : Fld Z T22_.heap b11_ "com/example/brisk_warden/briskwarden/core/UnsupportedNumberException" "problem" "Ljava/lang/String;" (.ref xs_7_) := (p14__3.keep ek22_ nin0)
  obtain ⟨cq78_, kq78_, qa78_, qb78_, qc78_⟩ := isOf hZ22_ ek74_ f73_
  obtain ⟨_, _, ⟨T76_, L76_, k76_, n76_⟩, -, X76_, ⟨Lc76_, hQ76_, l76_, y76_, z76_⟩, st76_⟩ := X74_.virtualBack hx (y := (⟨"com/example/brisk_warden/briskwarden/core/UnsupportedNumberException", "problem", "()Ljava/lang/String;"⟩ : MethodName)) (z := (⟨"com/example/brisk_warden/briskwarden/core/UnsupportedNumberException", "problem", "()Ljava/lang/String;"⟩ : MethodName)) hown22_ (mvT hZ22_ (own_w hw 267 rfl)) (mvT hZ22_ (own_w hw 268 rfl)) (notFace_of_selects (args := #[]) (mvT hZ22_ (own_w hw 270 rfl))) (mvT hZ22_ (own_w hw 270 rfl)) (mvT hZ22_ (own_w hw 269 rfl)) (by decide) (backOf (W := 0) (rmGproblem l Z a0 hw [] b11_ xs_7_ T22_.heap n0 z31_ f77_) hZ22_ (own_w hw 271 rfl) (own_w hw 43 rfl) (by decide) (by decide)) qa78_ qc78_ (g := (mkF m 452 #[.val (.int p0), .val (.int p1), .val (.int p2), .val (.int p3), .val (.ref xs_1_), .val (.ref xs_3_), .val (.ref xs_7_), .val (.ref b11_), .val (.ref a2_22_), .val (.ref xp_22_), .val (.int ((Int32.ofNat cA.length) + (Int32.ofNat cB.length))), .val (.int (1 : Int32)), .val (.ref xs_7_), .val (.ref xm_22_), .val (.int (1 : Int32))] [(.ref b11_)])) rfl (by rw [hml]; rfl) (Steps.refl _) (argsL := []) (rest := []) (lenOf pd_qzLjava_lang_String rfl) rfl (by show 2 * 0 + _ ≤ _; exact Nat.le_of_eq rfl) (hb hby at_452) (fun _ _ => ⟨rfl, ek74_, (by exact own_b rfl), (by exact own_b rfl)⟩)
  dsimp only [Pt.U, Pt.locs, Pt.cells, Pt.slots] at X76_ l76_ y76_ z76_ st76_ hQ76_
  subst L76_ k76_ n76_
  obtain ⟨rfl, Nq76_, ek76_⟩ := hQ76_
  have N76_ := Fr.app N74_ Nq76_
  obtain ⟨cq80_, kq80_, qa80_, qb80_, qc80_⟩ := isOf hZ22_ ek76_ f52_.1
  obtain ⟨_, _, ⟨T79_, L79_, k79_, n79_⟩, -, X79_, ⟨Lc79_, hQ79_, l79_, y79_, z79_⟩, st79_⟩ := X76_.virtualBack hx (y := (⟨"java/lang/String", "equals", "(Ljava/lang/Object;)Z"⟩ : MethodName)) (z := (⟨"java/lang/String", "equals", "(Ljava/lang/Object;)Z"⟩ : MethodName)) hown22_ (mvT hZ22_ (own_w hw 272 rfl)) (mvT hZ22_ (own_w hw 273 rfl)) (notFace_of_selects (args := #[]) (mvT hZ22_ (own_w hw 275 rfl))) (mvT hZ22_ (own_w hw 275 rfl)) (mvT hZ22_ (own_w hw 274 rfl)) (by decide) (backOf (W := 0) (rmEqS l Z a0 hw [] xs_7_ T22_.heap n0 z31_ ) hZ22_ (own_w hw 276 rfl) (own_w hw 6 rfl) (by decide) (by decide)) qa80_ qc80_ (g := (mkF m 457 #[.val (.int p0), .val (.int p1), .val (.int p2), .val (.int p3), .val (.ref xs_1_), .val (.ref xs_3_), .val (.ref xs_7_), .val (.ref b11_), .val (.ref a2_22_), .val (.ref xp_22_), .val (.int ((Int32.ofNat cA.length) + (Int32.ofNat cB.length))), .val (.int (1 : Int32)), .val (.ref xs_7_), .val (.ref xm_22_), .val (.int (1 : Int32))] [(.ref xs_7_), (.ref xs_7_)])) rfl (by rw [hml]; rfl) (Steps.refl _) (argsL := [(.ref xs_7_)]) (rest := []) (lenOf pd_qLjava_lang_ObjectzZ rfl) rfl (by show 2 * 0 + _ ≤ _; exact Nat.le_of_eq rfl) (hb hby at_457) (fun _ _ => ⟨rfl, ek76_, (by exact own_b rfl), (by exact own_b rfl)⟩)
  dsimp only [Pt.U, Pt.locs, Pt.cells, Pt.slots] at X79_ l79_ y79_ z79_ st79_ hQ79_
  subst L79_ k79_ n79_
  obtain ⟨rfl, Nq79_, ek79_⟩ := hQ79_
  have N79_ := Fr.app N76_ Nq79_
  obtain ⟨fs, hr, hrun, hended, hREW⟩ := X79_.leaveW hS22_ (Nat.le_trans (Nat.le_refl _) (Nat.le_of_eq (congrArg Array.size ek79_.symm))) (v := some (.int (1 : Int32))) (fun h => by first | rfl | (rw [Bd.returns] at h; cases h))
  refine ⟨_, _, pre0 _ ?_, hrun, hended, _, _, rfl, ?_, ?_, own_REW hREW (by exact own_b rfl) (by exact own_b rfl)⟩
  · show Steps p.tables e below (s₁.setTop (mkF m 0 #[.val (.int p0), .val (.int p1), .val (.int p2), .val (.int p3), .unset, .unset, .unset, .unset, .unset, .unset, .unset, .unset, .unset, .unset, .unset] [])) _
    refine XS.iloadN X0.here hx rfl (hb hby at_0) rfl ?_
    refine XS.iconst X0.here hx rfl (hb hby at_1) ?_
    refine XS.iand X0.here hx rfl (hb hby at_2) rfl ?_
    show Steps p.tables e below (s₁.setTop (mkF m 3 #[.val (.int p0), .val (.int p1), .val (.int p2), .val (.int p3), .unset, .unset, .unset, .unset, .unset, .unset, .unset, .unset, .unset, .unset, .unset] [(.int (p3 &&& (3 : Int32)))])) _
    refine XS.iloadN X0.here hx rfl (hb hby at_3) rfl ?_
    refine st1_.trans ?_
    show Steps p.tables e below (T1_.setTop (mkF m 7 #[.val (.int p0), .val (.int p1), .val (.int p2), .val (.int p3), .unset, .unset, .unset, .unset, .unset, .unset, .unset, .unset, .unset, .unset, .unset] [(.ref xs_1_)])) _
    refine XS.astore X1_.here hx rfl (hb hby at_7) rfl rfl (l' := #[.val (.int p0), .val (.int p1), .val (.int p2), .val (.int p3), .val (.ref xs_1_), .unset, .unset, .unset, .unset, .unset, .unset, .unset, .unset, .unset, .unset]) rfl ?_
    show Steps p.tables e below (T1_.setTop (mkF m 9 #[.val (.int p0), .val (.int p1), .val (.int p2), .val (.int p3), .val (.ref xs_1_), .unset, .unset, .unset, .unset, .unset, .unset, .unset, .unset, .unset, .unset] [])) _
    refine XS.iloadN X1_.here hx rfl (hb hby at_9) rfl ?_
    refine XS.iconst X1_.here hx rfl (hb hby at_10) ?_
    refine XS.iushr X1_.here hx rfl (hb hby at_11) rfl ?_
    show Steps p.tables e below (T1_.setTop (mkF m 12 #[.val (.int p0), .val (.int p1), .val (.int p2), .val (.int p3), .val (.ref xs_1_), .unset, .unset, .unset, .unset, .unset, .unset, .unset, .unset, .unset, .unset] [(.int ((p3.toUInt32 >>> ((2 : Int32) &&& 31).toUInt32).toInt32))])) _
    refine XS.iconst X1_.here hx rfl (hb hby at_12) ?_
    refine XS.iand X1_.here hx rfl (hb hby at_13) rfl ?_
    show Steps p.tables e below (T1_.setTop (mkF m 14 #[.val (.int p0), .val (.int p1), .val (.int p2), .val (.int p3), .val (.ref xs_1_), .unset, .unset, .unset, .unset, .unset, .unset, .unset, .unset, .unset, .unset] [(.int (((p3.toUInt32 >>> ((2 : Int32) &&& 31).toUInt32).toInt32) &&& (3 : Int32)))])) _
    refine XS.iloadN X1_.here hx rfl (hb hby at_14) rfl ?_
    refine st3_.trans ?_
    show Steps p.tables e below (T3_.setTop (mkF m 18 #[.val (.int p0), .val (.int p1), .val (.int p2), .val (.int p3), .val (.ref xs_1_), .unset, .unset, .unset, .unset, .unset, .unset, .unset, .unset, .unset, .unset] [(.ref xs_3_)])) _
    refine XS.astore X3_.here hx rfl (hb hby at_18) rfl rfl (l' := #[.val (.int p0), .val (.int p1), .val (.int p2), .val (.int p3), .val (.ref xs_1_), .val (.ref xs_3_), .unset, .unset, .unset, .unset, .unset, .unset, .unset, .unset, .unset]) rfl ?_
    show Steps p.tables e below (T3_.setTop (mkF m 20 #[.val (.int p0), .val (.int p1), .val (.int p2), .val (.int p3), .val (.ref xs_1_), .val (.ref xs_3_), .unset, .unset, .unset, .unset, .unset, .unset, .unset, .unset, .unset] [])) _
    refine XS.iloadN X3_.here hx rfl (hb hby at_20) rfl ?_
    refine XS.iconst X3_.here hx rfl (hb hby at_21) ?_
    refine XS.iushr X3_.here hx rfl (hb hby at_22) rfl ?_
    show Steps p.tables e below (T3_.setTop (mkF m 23 #[.val (.int p0), .val (.int p1), .val (.int p2), .val (.int p3), .val (.ref xs_1_), .val (.ref xs_3_), .unset, .unset, .unset, .unset, .unset, .unset, .unset, .unset, .unset] [(.int ((p3.toUInt32 >>> ((4 : Int32) &&& 31).toUInt32).toInt32))])) _
    refine XS.iconst X3_.here hx rfl (hb hby at_23) ?_
    refine XS.iand X3_.here hx rfl (hb hby at_24) rfl ?_
    show Steps p.tables e below (T3_.setTop (mkF m 25 #[.val (.int p0), .val (.int p1), .val (.int p2), .val (.int p3), .val (.ref xs_1_), .val (.ref xs_3_), .unset, .unset, .unset, .unset, .unset, .unset, .unset, .unset, .unset] [(.int (((p3.toUInt32 >>> ((4 : Int32) &&& 31).toUInt32).toInt32) &&& (3 : Int32)))])) _
    refine XS.iloadN X3_.here hx rfl (hb hby at_25) rfl ?_
    refine st7_.trans ?_
    show Steps p.tables e below (T7_.setTop (mkF m 29 #[.val (.int p0), .val (.int p1), .val (.int p2), .val (.int p3), .val (.ref xs_1_), .val (.ref xs_3_), .unset, .unset, .unset, .unset, .unset, .unset, .unset, .unset, .unset] [(.ref xs_7_)])) _
    refine XS.astore X7_.here hx rfl (hb hby at_29) rfl rfl (l' := #[.val (.int p0), .val (.int p1), .val (.int p2), .val (.int p3), .val (.ref xs_1_), .val (.ref xs_3_), .val (.ref xs_7_), .unset, .unset, .unset, .unset, .unset, .unset, .unset, .unset]) rfl ?_
    show Steps p.tables e below (T7_.setTop (mkF m 31 #[.val (.int p0), .val (.int p1), .val (.int p2), .val (.int p3), .val (.ref xs_1_), .val (.ref xs_3_), .val (.ref xs_7_), .unset, .unset, .unset, .unset, .unset, .unset, .unset, .unset] [])) _
    refine st11_ _ ?_
    show Steps p.tables e below (T11_.setTop (mkF m 34 #[.val (.int p0), .val (.int p1), .val (.int p2), .val (.int p3), .val (.ref xs_1_), .val (.ref xs_3_), .val (.ref xs_7_), .unset, .unset, .unset, .unset, .unset, .unset, .unset, .unset] [(.ref b11_)])) _
    refine XS.dup X11_.here hx rfl (hb hby at_34) rfl rfl ?_
    refine XS.aload X11_.here hx rfl (hb hby at_35) rfl rfl ?_
    refine XS.aload X11_.here hx rfl (hb hby at_37) rfl rfl ?_
    refine st14_.trans ?_
    show Steps p.tables e below (T14_.setTop (mkF m 42 #[.val (.int p0), .val (.int p1), .val (.int p2), .val (.int p3), .val (.ref xs_1_), .val (.ref xs_3_), .val (.ref xs_7_), .unset, .unset, .unset, .unset, .unset, .unset, .unset, .unset] [(.ref b11_)])) _
    refine XS.astore X14_.here hx rfl (hb hby at_42) rfl rfl (l' := #[.val (.int p0), .val (.int p1), .val (.int p2), .val (.int p3), .val (.ref xs_1_), .val (.ref xs_3_), .val (.ref xs_7_), .val (.ref b11_), .unset, .unset, .unset, .unset, .unset, .unset, .unset]) rfl ?_
    show Steps p.tables e below (T14_.setTop (mkF m 44 #[.val (.int p0), .val (.int p1), .val (.int p2), .val (.int p3), .val (.ref xs_1_), .val (.ref xs_3_), .val (.ref xs_7_), .val (.ref b11_), .unset, .unset, .unset, .unset, .unset, .unset, .unset] [])) _
    refine XS.aload X14_.here hx rfl (hb hby at_44) rfl rfl ?_
    refine XS.aload X14_.here hx rfl (hb hby at_46) rfl rfl ?_
    refine st22_.trans ?_
    show Steps p.tables e below (T22_.setTop (mkF m 51 #[.val (.int p0), .val (.int p1), .val (.int p2), .val (.int p3), .val (.ref xs_1_), .val (.ref xs_3_), .val (.ref xs_7_), .val (.ref b11_), .unset, .unset, .unset, .unset, .unset, .unset, .unset] [(.ref a2_22_)])) _
    refine XS.astore X22_.here hx rfl (hb hby at_51) rfl rfl (l' := #[.val (.int p0), .val (.int p1), .val (.int p2), .val (.int p3), .val (.ref xs_1_), .val (.ref xs_3_), .val (.ref xs_7_), .val (.ref b11_), .val (.ref a2_22_), .unset, .unset, .unset, .unset, .unset, .unset]) rfl ?_
    show Steps p.tables e below (T22_.setTop (mkF m 53 #[.val (.int p0), .val (.int p1), .val (.int p2), .val (.int p3), .val (.ref xs_1_), .val (.ref xs_3_), .val (.ref xs_7_), .val (.ref b11_), .val (.ref a2_22_), .unset, .unset, .unset, .unset, .unset, .unset] [])) _
    refine XS.aload X22_.here hx rfl (hb hby at_53) rfl rfl ?_
    refine st30_.trans ?_
    show Steps p.tables e below (T30_.setTop (mkF m 58 #[.val (.int p0), .val (.int p1), .val (.int p2), .val (.int p3), .val (.ref xs_1_), .val (.ref xs_3_), .val (.ref xs_7_), .val (.ref b11_), .val (.ref a2_22_), .unset, .unset, .unset, .unset, .unset, .unset] [(.ref xp_22_)])) _
    refine XS.astore X30_.here hx rfl (hb hby at_58) rfl rfl (l' := #[.val (.int p0), .val (.int p1), .val (.int p2), .val (.int p3), .val (.ref xs_1_), .val (.ref xs_3_), .val (.ref xs_7_), .val (.ref b11_), .val (.ref a2_22_), .val (.ref xp_22_), .unset, .unset, .unset, .unset, .unset]) rfl ?_
    show Steps p.tables e below (T30_.setTop (mkF m 60 #[.val (.int p0), .val (.int p1), .val (.int p2), .val (.int p3), .val (.ref xs_1_), .val (.ref xs_3_), .val (.ref xs_7_), .val (.ref b11_), .val (.ref a2_22_), .val (.ref xp_22_), .unset, .unset, .unset, .unset, .unset] [])) _
    refine XS.aload X30_.here hx rfl (hb hby at_60) rfl rfl ?_
    refine st33_.trans ?_
    show Steps p.tables e below (T33_.setTop (mkF m 65 #[.val (.int p0), .val (.int p1), .val (.int p2), .val (.int p3), .val (.ref xs_1_), .val (.ref xs_3_), .val (.ref xs_7_), .val (.ref b11_), .val (.ref a2_22_), .val (.ref xp_22_), .unset, .unset, .unset, .unset, .unset] [(.int (Int32.ofNat cA.length))])) _
    refine XS.aload X33_.here hx rfl (hb hby at_65) rfl rfl ?_
    refine st37_.trans ?_
    show Steps p.tables e below (T37_.setTop (mkF m 70 #[.val (.int p0), .val (.int p1), .val (.int p2), .val (.int p3), .val (.ref xs_1_), .val (.ref xs_3_), .val (.ref xs_7_), .val (.ref b11_), .val (.ref a2_22_), .val (.ref xp_22_), .unset, .unset, .unset, .unset, .unset] [(.int (Int32.ofNat cB.length)), (.int (Int32.ofNat cA.length))])) _
    refine XS.iadd X37_.here hx rfl (hb hby at_70) rfl ?_
    show Steps p.tables e below (T37_.setTop (mkF m 71 #[.val (.int p0), .val (.int p1), .val (.int p2), .val (.int p3), .val (.ref xs_1_), .val (.ref xs_3_), .val (.ref xs_7_), .val (.ref b11_), .val (.ref a2_22_), .val (.ref xp_22_), .unset, .unset, .unset, .unset, .unset] [(.int ((Int32.ofNat cA.length) + (Int32.ofNat cB.length)))])) _
    refine XS.istore X37_.here hx rfl (hb hby at_71) rfl (l' := #[.val (.int p0), .val (.int p1), .val (.int p2), .val (.int p3), .val (.ref xs_1_), .val (.ref xs_3_), .val (.ref xs_7_), .val (.ref b11_), .val (.ref a2_22_), .val (.ref xp_22_), .val (.int ((Int32.ofNat cA.length) + (Int32.ofNat cB.length))), .unset, .unset, .unset, .unset]) rfl ?_
    show Steps p.tables e below (T37_.setTop (mkF m 73 #[.val (.int p0), .val (.int p1), .val (.int p2), .val (.int p3), .val (.ref xs_1_), .val (.ref xs_3_), .val (.ref xs_7_), .val (.ref b11_), .val (.ref a2_22_), .val (.ref xp_22_), .val (.int ((Int32.ofNat cA.length) + (Int32.ofNat cB.length))), .unset, .unset, .unset, .unset] [])) _
    refine XS.aload X37_.here hx rfl (hb hby at_73) rfl rfl ?_
    refine XS.ifnullNo X37_.here hx rfl (hb hby at_75) rfl ?_
    refine XS.aload X37_.here hx rfl (hb hby at_78) rfl rfl ?_
    refine st40_.trans ?_
    show Steps p.tables e below (T40_.setTop (mkF m 83 #[.val (.int p0), .val (.int p1), .val (.int p2), .val (.int p3), .val (.ref xs_1_), .val (.ref xs_3_), .val (.ref xs_7_), .val (.ref b11_), .val (.ref a2_22_), .val (.ref xp_22_), .val (.int ((Int32.ofNat cA.length) + (Int32.ofNat cB.length))), .unset, .unset, .unset, .unset] [(.int (Int32.ofNat ((([] : List Int32) ++ cA) ++ cB).length))])) _
    refine XS.iload X40_.here hx rfl (hb hby at_83) rfl ?_
    refine XS.icmpNo X40_.here hx rfl (hb hby at_85) rfl (teq ((own_lenE _ _) : (Int32.ofNat ((([] : List Int32) ++ cA) ++ cB).length) = ((Int32.ofNat cA.length) + (Int32.ofNat cB.length)))).2 ?_
    refine XS.aload X40_.here hx rfl (hb hby at_88) rfl rfl ?_
    refine XS.aload X40_.here hx rfl (hb hby at_90) rfl rfl ?_
    refine XS.aload X40_.here hx rfl (hb hby at_92) rfl rfl ?_
    refine XS.iconst X40_.here hx rfl (hb hby at_94) ?_
    refine st42_ _ ?_
    show Steps p.tables e below (T42_.setTop (mkF m 98 #[.val (.int p0), .val (.int p1), .val (.int p2), .val (.int p3), .val (.ref xs_1_), .val (.ref xs_3_), .val (.ref xs_7_), .val (.ref b11_), .val (.ref a2_22_), .val (.ref xp_22_), .val (.int ((Int32.ofNat cA.length) + (Int32.ofNat cB.length))), .unset, .unset, .unset, .unset] [(.int (1 : Int32))])) _
    refine XS.ifNo X42_.here hx rfl (hb hby at_98) rfl ((if0 _ _).trans (feq ((by decide) : ¬ ((1 : Int32) = (0 : Int32)))).1) ?_
    refine XS.aload X42_.here hx rfl (hb hby at_101) rfl rfl ?_
    refine XS.aload X42_.here hx rfl (hb hby at_103) rfl rfl ?_
    refine XS.aload X42_.here hx rfl (hb hby at_105) rfl rfl ?_
    refine XS.iconst X42_.here hx rfl (hb hby at_107) ?_
    refine st43_ _ ?_
    show Steps p.tables e below (T43_.setTop (mkF m 111 #[.val (.int p0), .val (.int p1), .val (.int p2), .val (.int p3), .val (.ref xs_1_), .val (.ref xs_3_), .val (.ref xs_7_), .val (.ref b11_), .val (.ref a2_22_), .val (.ref xp_22_), .val (.int ((Int32.ofNat cA.length) + (Int32.ofNat cB.length))), .unset, .unset, .unset, .unset] [(.int (1 : Int32))])) _
    refine XS.ifNo X43_.here hx rfl (hb hby at_111) rfl ((if0 _ _).trans (feq ((by decide) : ¬ ((1 : Int32) = (0 : Int32)))).1) ?_
    refine XS.aload X43_.here hx rfl (hb hby at_114) rfl rfl ?_
    refine XS.aload X43_.here hx rfl (hb hby at_116) rfl rfl ?_
    refine XS.aload X43_.here hx rfl (hb hby at_118) rfl rfl ?_
    refine XS.iconst X43_.here hx rfl (hb hby at_120) ?_
    refine st44_ _ ?_
    show Steps p.tables e below (T44_.setTop (mkF m 124 #[.val (.int p0), .val (.int p1), .val (.int p2), .val (.int p3), .val (.ref xs_1_), .val (.ref xs_3_), .val (.ref xs_7_), .val (.ref b11_), .val (.ref a2_22_), .val (.ref xp_22_), .val (.int ((Int32.ofNat cA.length) + (Int32.ofNat cB.length))), .unset, .unset, .unset, .unset] [(.int (1 : Int32))])) _
    refine XS.ifNo X44_.here hx rfl (hb hby at_124) rfl ((if0 _ _).trans (feq ((by decide) : ¬ ((1 : Int32) = (0 : Int32)))).1) ?_
    refine XS.aload X44_.here hx rfl (hb hby at_127) rfl rfl ?_
    refine XS.aload X44_.here hx rfl (hb hby at_129) rfl rfl ?_
    refine XS.aload X44_.here hx rfl (hb hby at_131) rfl rfl ?_
    refine XS.iconst X44_.here hx rfl (hb hby at_133) ?_
    refine st45_ _ ?_
    show Steps p.tables e below (T45_.setTop (mkF m 137 #[.val (.int p0), .val (.int p1), .val (.int p2), .val (.int p3), .val (.ref xs_1_), .val (.ref xs_3_), .val (.ref xs_7_), .val (.ref b11_), .val (.ref a2_22_), .val (.ref xp_22_), .val (.int ((Int32.ofNat cA.length) + (Int32.ofNat cB.length))), .unset, .unset, .unset, .unset] [(.int (1 : Int32))])) _
    refine XS.ifNo X45_.here hx rfl (hb hby at_137) rfl ((if0 _ _).trans (feq ((by decide) : ¬ ((1 : Int32) = (0 : Int32)))).1) ?_
    refine XS.aload X45_.here hx rfl (hb hby at_140) rfl rfl ?_
    refine XS.aload X45_.here hx rfl (hb hby at_142) rfl rfl ?_
    refine XS.aload X45_.here hx rfl (hb hby at_144) rfl rfl ?_
    refine XS.iconst X45_.here hx rfl (hb hby at_146) ?_
    refine st46_ _ ?_
    show Steps p.tables e below (T46_.setTop (mkF m 150 #[.val (.int p0), .val (.int p1), .val (.int p2), .val (.int p3), .val (.ref xs_1_), .val (.ref xs_3_), .val (.ref xs_7_), .val (.ref b11_), .val (.ref a2_22_), .val (.ref xp_22_), .val (.int ((Int32.ofNat cA.length) + (Int32.ofNat cB.length))), .unset, .unset, .unset, .unset] [(.int (1 : Int32))])) _
    refine XS.ifNo X46_.here hx rfl (hb hby at_150) rfl ((if0 _ _).trans (feq ((by decide) : ¬ ((1 : Int32) = (0 : Int32)))).1) ?_
    refine XS.aload X46_.here hx rfl (hb hby at_153) rfl rfl ?_
    refine XS.aload X46_.here hx rfl (hb hby at_155) rfl rfl ?_
    refine XS.aload X46_.here hx rfl (hb hby at_157) rfl rfl ?_
    refine XS.iconst X46_.here hx rfl (hb hby at_159) ?_
    refine st47_ _ ?_
    show Steps p.tables e below (T47_.setTop (mkF m 163 #[.val (.int p0), .val (.int p1), .val (.int p2), .val (.int p3), .val (.ref xs_1_), .val (.ref xs_3_), .val (.ref xs_7_), .val (.ref b11_), .val (.ref a2_22_), .val (.ref xp_22_), .val (.int ((Int32.ofNat cA.length) + (Int32.ofNat cB.length))), .unset, .unset, .unset, .unset] [(.int (1 : Int32))])) _
    refine XS.ifNo X47_.here hx rfl (hb hby at_163) rfl ((if0 _ _).trans (feq ((by decide) : ¬ ((1 : Int32) = (0 : Int32)))).1) ?_
    refine XS.iconst X47_.here hx rfl (hb hby at_166) ?_
    refine XS.goto X47_.here hx rfl (pc0 := 167) (pc' := 171) rfl (hb hby at_167) (by decide) (by decide) ?_
    refine XS.istore X47_.here hx rfl (hb hby at_171) rfl (l' := #[.val (.int p0), .val (.int p1), .val (.int p2), .val (.int p3), .val (.ref xs_1_), .val (.ref xs_3_), .val (.ref xs_7_), .val (.ref b11_), .val (.ref a2_22_), .val (.ref xp_22_), .val (.int ((Int32.ofNat cA.length) + (Int32.ofNat cB.length))), .val (.int (1 : Int32)), .unset, .unset, .unset]) rfl ?_
    show Steps p.tables e below (T47_.setTop (mkF m 173 #[.val (.int p0), .val (.int p1), .val (.int p2), .val (.int p3), .val (.ref xs_1_), .val (.ref xs_3_), .val (.ref xs_7_), .val (.ref b11_), .val (.ref a2_22_), .val (.ref xp_22_), .val (.int ((Int32.ofNat cA.length) + (Int32.ofNat cB.length))), .val (.int (1 : Int32)), .unset, .unset, .unset] [])) _
    refine XS.iload X47_.here hx rfl (hb hby at_173) rfl ?_
    refine XS.ifYes X47_.here hx rfl (pc0 := 175) (pc' := 180) rfl (hb hby at_175) rfl ((if0 _ _).trans (feq ((by decide) : ¬ ((1 : Int32) = (0 : Int32)))).2) (by decide) (by decide) ?_
    refine XS.aload X47_.here hx rfl (hb hby at_180) rfl rfl ?_
    refine st48_.trans ?_
    show Steps p.tables e below (T48_.setTop (mkF m 185 #[.val (.int p0), .val (.int p1), .val (.int p2), .val (.int p3), .val (.ref xs_1_), .val (.ref xs_3_), .val (.ref xs_7_), .val (.ref b11_), .val (.ref a2_22_), .val (.ref xp_22_), .val (.int ((Int32.ofNat cA.length) + (Int32.ofNat cB.length))), .val (.int (1 : Int32)), .unset, .unset, .unset] [(.ref xs_7_)])) _
    refine XS.astore X48_.here hx rfl (hb hby at_185) rfl rfl (l' := #[.val (.int p0), .val (.int p1), .val (.int p2), .val (.int p3), .val (.ref xs_1_), .val (.ref xs_3_), .val (.ref xs_7_), .val (.ref b11_), .val (.ref a2_22_), .val (.ref xp_22_), .val (.int ((Int32.ofNat cA.length) + (Int32.ofNat cB.length))), .val (.int (1 : Int32)), .val (.ref xs_7_), .unset, .unset]) rfl ?_
    show Steps p.tables e below (T48_.setTop (mkF m 187 #[.val (.int p0), .val (.int p1), .val (.int p2), .val (.int p3), .val (.ref xs_1_), .val (.ref xs_3_), .val (.ref xs_7_), .val (.ref b11_), .val (.ref a2_22_), .val (.ref xp_22_), .val (.int ((Int32.ofNat cA.length) + (Int32.ofNat cB.length))), .val (.int (1 : Int32)), .val (.ref xs_7_), .unset, .unset] [])) _
    refine XS.aload X48_.here hx rfl (hb hby at_187) rfl rfl ?_
    refine XS.ifnullNo X48_.here hx rfl (hb hby at_189) rfl ?_
    refine XS.aload X48_.here hx rfl (hb hby at_192) rfl rfl ?_
    refine XS.aload X48_.here hx rfl (hb hby at_194) rfl rfl ?_
    refine st50_.trans ?_
    show Steps p.tables e below (T50_.setTop (mkF m 199 #[.val (.int p0), .val (.int p1), .val (.int p2), .val (.int p3), .val (.ref xs_1_), .val (.ref xs_3_), .val (.ref xs_7_), .val (.ref b11_), .val (.ref a2_22_), .val (.ref xp_22_), .val (.int ((Int32.ofNat cA.length) + (Int32.ofNat cB.length))), .val (.int (1 : Int32)), .val (.ref xs_7_), .unset, .unset] [(.int (1 : Int32))])) _
    refine XS.ifYes X50_.here hx rfl (pc0 := 199) (pc' := 204) rfl (hb hby at_199) rfl ((if0 _ _).trans (feq ((by decide) : ¬ ((1 : Int32) = (0 : Int32)))).2) (by decide) (by decide) ?_
    refine XS.aload X50_.here hx rfl (hb hby at_204) rfl rfl ?_
    refine st53_.trans ?_
    show Steps p.tables e below (T53_.setTop (mkF m 209 #[.val (.int p0), .val (.int p1), .val (.int p2), .val (.int p3), .val (.ref xs_1_), .val (.ref xs_3_), .val (.ref xs_7_), .val (.ref b11_), .val (.ref a2_22_), .val (.ref xp_22_), .val (.int ((Int32.ofNat cA.length) + (Int32.ofNat cB.length))), .val (.int (1 : Int32)), .val (.ref xs_7_), .unset, .unset] [(.ref xm_22_)])) _
    refine XS.astore X53_.here hx rfl (hb hby at_209) rfl rfl (l' := #[.val (.int p0), .val (.int p1), .val (.int p2), .val (.int p3), .val (.ref xs_1_), .val (.ref xs_3_), .val (.ref xs_7_), .val (.ref b11_), .val (.ref a2_22_), .val (.ref xp_22_), .val (.int ((Int32.ofNat cA.length) + (Int32.ofNat cB.length))), .val (.int (1 : Int32)), .val (.ref xs_7_), .val (.ref xm_22_), .unset]) rfl ?_
    show Steps p.tables e below (T53_.setTop (mkF m 211 #[.val (.int p0), .val (.int p1), .val (.int p2), .val (.int p3), .val (.ref xs_1_), .val (.ref xs_3_), .val (.ref xs_7_), .val (.ref b11_), .val (.ref a2_22_), .val (.ref xp_22_), .val (.int ((Int32.ofNat cA.length) + (Int32.ofNat cB.length))), .val (.int (1 : Int32)), .val (.ref xs_7_), .val (.ref xm_22_), .unset] [])) _
    refine XS.aload X53_.here hx rfl (hb hby at_211) rfl rfl ?_
    refine XS.ifnonnullYes X53_.here hx rfl (pc0 := 213) (pc' := 218) rfl (hb hby at_213) rfl (by decide) (by decide) ?_
    refine XS.iload X53_.here hx rfl (hb hby at_218) rfl ?_
    refine XS.ifYes X53_.here hx rfl (pc0 := 220) (pc' := 235) rfl (hb hby at_220) rfl ((if0 _ _).trans (feq ((by rw [own_addn]; exact fun q_ => own_nen (a := 0) (by omega) (by omega) q_.symm) : ¬ (((Int32.ofNat cA.length) + (Int32.ofNat cB.length)) = (0 : Int32)))).2) (by decide) (by decide) ?_
    refine XS.aload X53_.here hx rfl (hb hby at_235) rfl rfl ?_
    refine st55_.trans ?_
    show Steps p.tables e below (T55_.setTop (mkF m 240 #[.val (.int p0), .val (.int p1), .val (.int p2), .val (.int p3), .val (.ref xs_1_), .val (.ref xs_3_), .val (.ref xs_7_), .val (.ref b11_), .val (.ref a2_22_), .val (.ref xp_22_), .val (.int ((Int32.ofNat cA.length) + (Int32.ofNat cB.length))), .val (.int (1 : Int32)), .val (.ref xs_7_), .val (.ref xm_22_), .unset] [(.int (Int32.ofNat (((([] : List Int32) ++ ((([] : List Int32) ++ cA) ++ cB)) ++ ([(58 : Int32), (32 : Int32)] : List Int32)) ++ cC).length))])) _
    refine XS.iload X55_.here hx rfl (hb hby at_240) rfl ?_
    refine XS.iconst X55_.here hx rfl (hb hby at_242) ?_
    refine XS.iadd X55_.here hx rfl (hb hby at_243) rfl ?_
    show Steps p.tables e below (T55_.setTop (mkF m 244 #[.val (.int p0), .val (.int p1), .val (.int p2), .val (.int p3), .val (.ref xs_1_), .val (.ref xs_3_), .val (.ref xs_7_), .val (.ref b11_), .val (.ref a2_22_), .val (.ref xp_22_), .val (.int ((Int32.ofNat cA.length) + (Int32.ofNat cB.length))), .val (.int (1 : Int32)), .val (.ref xs_7_), .val (.ref xm_22_), .unset] [(.int (((Int32.ofNat cA.length) + (Int32.ofNat cB.length)) + (2 : Int32))), (.int (Int32.ofNat (((([] : List Int32) ++ ((([] : List Int32) ++ cA) ++ cB)) ++ ([(58 : Int32), (32 : Int32)] : List Int32)) ++ cC).length))])) _
    refine XS.aload X55_.here hx rfl (hb hby at_244) rfl rfl ?_
    refine st57_.trans ?_
    show Steps p.tables e below (T57_.setTop (mkF m 249 #[.val (.int p0), .val (.int p1), .val (.int p2), .val (.int p3), .val (.ref xs_1_), .val (.ref xs_3_), .val (.ref xs_7_), .val (.ref b11_), .val (.ref a2_22_), .val (.ref xp_22_), .val (.int ((Int32.ofNat cA.length) + (Int32.ofNat cB.length))), .val (.int (1 : Int32)), .val (.ref xs_7_), .val (.ref xm_22_), .unset] [(.int (Int32.ofNat cC.length)), (.int (((Int32.ofNat cA.length) + (Int32.ofNat cB.length)) + (2 : Int32))), (.int (Int32.ofNat (((([] : List Int32) ++ ((([] : List Int32) ++ cA) ++ cB)) ++ ([(58 : Int32), (32 : Int32)] : List Int32)) ++ cC).length))])) _
    refine XS.iadd X57_.here hx rfl (hb hby at_249) rfl ?_
    show Steps p.tables e below (T57_.setTop (mkF m 250 #[.val (.int p0), .val (.int p1), .val (.int p2), .val (.int p3), .val (.ref xs_1_), .val (.ref xs_3_), .val (.ref xs_7_), .val (.ref b11_), .val (.ref a2_22_), .val (.ref xp_22_), .val (.int ((Int32.ofNat cA.length) + (Int32.ofNat cB.length))), .val (.int (1 : Int32)), .val (.ref xs_7_), .val (.ref xm_22_), .unset] [(.int ((((Int32.ofNat cA.length) + (Int32.ofNat cB.length)) + (2 : Int32)) + (Int32.ofNat cC.length))), (.int (Int32.ofNat (((([] : List Int32) ++ ((([] : List Int32) ++ cA) ++ cB)) ++ ([(58 : Int32), (32 : Int32)] : List Int32)) ++ cC).length))])) _
    refine XS.icmpNo X57_.here hx rfl (hb hby at_250) rfl (teq ((own_lenM _ _ _) : (Int32.ofNat (((([] : List Int32) ++ ((([] : List Int32) ++ cA) ++ cB)) ++ ([(58 : Int32), (32 : Int32)] : List Int32)) ++ cC).length) = ((((Int32.ofNat cA.length) + (Int32.ofNat cB.length)) + (2 : Int32)) + (Int32.ofNat cC.length)))).2 ?_
    refine XS.aload X57_.here hx rfl (hb hby at_253) rfl rfl ?_
    refine XS.aload X57_.here hx rfl (hb hby at_255) rfl rfl ?_
    refine XS.aload X57_.here hx rfl (hb hby at_257) rfl rfl ?_
    refine XS.aload X57_.here hx rfl (hb hby at_259) rfl rfl ?_
    refine XS.iconst X57_.here hx rfl (hb hby at_261) ?_
    refine st59_ _ ?_
    show Steps p.tables e below (T59_.setTop (mkF m 265 #[.val (.int p0), .val (.int p1), .val (.int p2), .val (.int p3), .val (.ref xs_1_), .val (.ref xs_3_), .val (.ref xs_7_), .val (.ref b11_), .val (.ref a2_22_), .val (.ref xp_22_), .val (.int ((Int32.ofNat cA.length) + (Int32.ofNat cB.length))), .val (.int (1 : Int32)), .val (.ref xs_7_), .val (.ref xm_22_), .unset] [(.int (1 : Int32))])) _
    refine XS.ifNo X59_.here hx rfl (hb hby at_265) rfl ((if0 _ _).trans (feq ((by decide) : ¬ ((1 : Int32) = (0 : Int32)))).1) ?_
    refine XS.aload X59_.here hx rfl (hb hby at_268) rfl rfl ?_
    refine XS.aload X59_.here hx rfl (hb hby at_270) rfl rfl ?_
    refine XS.aload X59_.here hx rfl (hb hby at_272) rfl rfl ?_
    refine XS.aload X59_.here hx rfl (hb hby at_274) rfl rfl ?_
    refine XS.iconst X59_.here hx rfl (hb hby at_276) ?_
    refine st60_ _ ?_
    show Steps p.tables e below (T60_.setTop (mkF m 280 #[.val (.int p0), .val (.int p1), .val (.int p2), .val (.int p3), .val (.ref xs_1_), .val (.ref xs_3_), .val (.ref xs_7_), .val (.ref b11_), .val (.ref a2_22_), .val (.ref xp_22_), .val (.int ((Int32.ofNat cA.length) + (Int32.ofNat cB.length))), .val (.int (1 : Int32)), .val (.ref xs_7_), .val (.ref xm_22_), .unset] [(.int (1 : Int32))])) _
    refine XS.ifNo X60_.here hx rfl (hb hby at_280) rfl ((if0 _ _).trans (feq ((by decide) : ¬ ((1 : Int32) = (0 : Int32)))).1) ?_
    refine XS.aload X60_.here hx rfl (hb hby at_283) rfl rfl ?_
    refine XS.aload X60_.here hx rfl (hb hby at_285) rfl rfl ?_
    refine XS.aload X60_.here hx rfl (hb hby at_287) rfl rfl ?_
    refine XS.aload X60_.here hx rfl (hb hby at_289) rfl rfl ?_
    refine XS.iconst X60_.here hx rfl (hb hby at_291) ?_
    refine st61_ _ ?_
    show Steps p.tables e below (T61_.setTop (mkF m 295 #[.val (.int p0), .val (.int p1), .val (.int p2), .val (.int p3), .val (.ref xs_1_), .val (.ref xs_3_), .val (.ref xs_7_), .val (.ref b11_), .val (.ref a2_22_), .val (.ref xp_22_), .val (.int ((Int32.ofNat cA.length) + (Int32.ofNat cB.length))), .val (.int (1 : Int32)), .val (.ref xs_7_), .val (.ref xm_22_), .unset] [(.int (1 : Int32))])) _
    refine XS.ifNo X61_.here hx rfl (hb hby at_295) rfl ((if0 _ _).trans (feq ((by decide) : ¬ ((1 : Int32) = (0 : Int32)))).1) ?_
    refine XS.aload X61_.here hx rfl (hb hby at_298) rfl rfl ?_
    refine XS.aload X61_.here hx rfl (hb hby at_300) rfl rfl ?_
    refine XS.aload X61_.here hx rfl (hb hby at_302) rfl rfl ?_
    refine XS.aload X61_.here hx rfl (hb hby at_304) rfl rfl ?_
    refine XS.iconst X61_.here hx rfl (hb hby at_306) ?_
    refine st62_ _ ?_
    show Steps p.tables e below (T62_.setTop (mkF m 310 #[.val (.int p0), .val (.int p1), .val (.int p2), .val (.int p3), .val (.ref xs_1_), .val (.ref xs_3_), .val (.ref xs_7_), .val (.ref b11_), .val (.ref a2_22_), .val (.ref xp_22_), .val (.int ((Int32.ofNat cA.length) + (Int32.ofNat cB.length))), .val (.int (1 : Int32)), .val (.ref xs_7_), .val (.ref xm_22_), .unset] [(.int (1 : Int32))])) _
    refine XS.ifNo X62_.here hx rfl (hb hby at_310) rfl ((if0 _ _).trans (feq ((by decide) : ¬ ((1 : Int32) = (0 : Int32)))).1) ?_
    refine XS.aload X62_.here hx rfl (hb hby at_313) rfl rfl ?_
    refine XS.aload X62_.here hx rfl (hb hby at_315) rfl rfl ?_
    refine XS.aload X62_.here hx rfl (hb hby at_317) rfl rfl ?_
    refine XS.aload X62_.here hx rfl (hb hby at_319) rfl rfl ?_
    refine XS.iconst X62_.here hx rfl (hb hby at_321) ?_
    refine st63_ _ ?_
    show Steps p.tables e below (T63_.setTop (mkF m 325 #[.val (.int p0), .val (.int p1), .val (.int p2), .val (.int p3), .val (.ref xs_1_), .val (.ref xs_3_), .val (.ref xs_7_), .val (.ref b11_), .val (.ref a2_22_), .val (.ref xp_22_), .val (.int ((Int32.ofNat cA.length) + (Int32.ofNat cB.length))), .val (.int (1 : Int32)), .val (.ref xs_7_), .val (.ref xm_22_), .unset] [(.int (1 : Int32))])) _
    refine XS.ifNo X63_.here hx rfl (hb hby at_325) rfl ((if0 _ _).trans (feq ((by decide) : ¬ ((1 : Int32) = (0 : Int32)))).1) ?_
    refine XS.aload X63_.here hx rfl (hb hby at_328) rfl rfl ?_
    refine XS.aload X63_.here hx rfl (hb hby at_330) rfl rfl ?_
    refine XS.aload X63_.here hx rfl (hb hby at_332) rfl rfl ?_
    refine XS.aload X63_.here hx rfl (hb hby at_334) rfl rfl ?_
    refine XS.iconst X63_.here hx rfl (hb hby at_336) ?_
    refine st64_ _ ?_
    show Steps p.tables e below (T64_.setTop (mkF m 340 #[.val (.int p0), .val (.int p1), .val (.int p2), .val (.int p3), .val (.ref xs_1_), .val (.ref xs_3_), .val (.ref xs_7_), .val (.ref b11_), .val (.ref a2_22_), .val (.ref xp_22_), .val (.int ((Int32.ofNat cA.length) + (Int32.ofNat cB.length))), .val (.int (1 : Int32)), .val (.ref xs_7_), .val (.ref xm_22_), .unset] [(.int (1 : Int32))])) _
    refine XS.ifNo X64_.here hx rfl (hb hby at_340) rfl ((if0 _ _).trans (feq ((by decide) : ¬ ((1 : Int32) = (0 : Int32)))).1) ?_
    refine XS.aload X64_.here hx rfl (hb hby at_343) rfl rfl ?_
    refine XS.aload X64_.here hx rfl (hb hby at_345) rfl rfl ?_
    refine XS.aload X64_.here hx rfl (hb hby at_347) rfl rfl ?_
    refine XS.aload X64_.here hx rfl (hb hby at_349) rfl rfl ?_
    refine XS.bipush X64_.here hx rfl (hb hby at_351) ?_
    refine st65_ _ ?_
    show Steps p.tables e below (T65_.setTop (mkF m 356 #[.val (.int p0), .val (.int p1), .val (.int p2), .val (.int p3), .val (.ref xs_1_), .val (.ref xs_3_), .val (.ref xs_7_), .val (.ref b11_), .val (.ref a2_22_), .val (.ref xp_22_), .val (.int ((Int32.ofNat cA.length) + (Int32.ofNat cB.length))), .val (.int (1 : Int32)), .val (.ref xs_7_), .val (.ref xm_22_), .unset] [(.int (1 : Int32))])) _
    refine XS.ifNo X65_.here hx rfl (hb hby at_356) rfl ((if0 _ _).trans (feq ((by decide) : ¬ ((1 : Int32) = (0 : Int32)))).1) ?_
    refine XS.aload X65_.here hx rfl (hb hby at_359) rfl rfl ?_
    refine XS.aload X65_.here hx rfl (hb hby at_361) rfl rfl ?_
    refine XS.aload X65_.here hx rfl (hb hby at_363) rfl rfl ?_
    refine XS.aload X65_.here hx rfl (hb hby at_365) rfl rfl ?_
    refine XS.bipush X65_.here hx rfl (hb hby at_367) ?_
    refine st66_ _ ?_
    show Steps p.tables e below (T66_.setTop (mkF m 372 #[.val (.int p0), .val (.int p1), .val (.int p2), .val (.int p3), .val (.ref xs_1_), .val (.ref xs_3_), .val (.ref xs_7_), .val (.ref b11_), .val (.ref a2_22_), .val (.ref xp_22_), .val (.int ((Int32.ofNat cA.length) + (Int32.ofNat cB.length))), .val (.int (1 : Int32)), .val (.ref xs_7_), .val (.ref xm_22_), .unset] [(.int (1 : Int32))])) _
    refine XS.ifNo X66_.here hx rfl (hb hby at_372) rfl ((if0 _ _).trans (feq ((by decide) : ¬ ((1 : Int32) = (0 : Int32)))).1) ?_
    refine XS.aload X66_.here hx rfl (hb hby at_375) rfl rfl ?_
    refine XS.aload X66_.here hx rfl (hb hby at_377) rfl rfl ?_
    refine XS.aload X66_.here hx rfl (hb hby at_379) rfl rfl ?_
    refine XS.aload X66_.here hx rfl (hb hby at_381) rfl rfl ?_
    refine XS.bipush X66_.here hx rfl (hb hby at_383) ?_
    refine st67_ _ ?_
    show Steps p.tables e below (T67_.setTop (mkF m 388 #[.val (.int p0), .val (.int p1), .val (.int p2), .val (.int p3), .val (.ref xs_1_), .val (.ref xs_3_), .val (.ref xs_7_), .val (.ref b11_), .val (.ref a2_22_), .val (.ref xp_22_), .val (.int ((Int32.ofNat cA.length) + (Int32.ofNat cB.length))), .val (.int (1 : Int32)), .val (.ref xs_7_), .val (.ref xm_22_), .unset] [(.int (1 : Int32))])) _
    refine XS.ifNo X67_.here hx rfl (hb hby at_388) rfl ((if0 _ _).trans (feq ((by decide) : ¬ ((1 : Int32) = (0 : Int32)))).1) ?_
    refine XS.aload X67_.here hx rfl (hb hby at_391) rfl rfl ?_
    refine XS.aload X67_.here hx rfl (hb hby at_393) rfl rfl ?_
    refine XS.aload X67_.here hx rfl (hb hby at_395) rfl rfl ?_
    refine XS.aload X67_.here hx rfl (hb hby at_397) rfl rfl ?_
    refine XS.bipush X67_.here hx rfl (hb hby at_399) ?_
    refine st68_ _ ?_
    show Steps p.tables e below (T68_.setTop (mkF m 404 #[.val (.int p0), .val (.int p1), .val (.int p2), .val (.int p3), .val (.ref xs_1_), .val (.ref xs_3_), .val (.ref xs_7_), .val (.ref b11_), .val (.ref a2_22_), .val (.ref xp_22_), .val (.int ((Int32.ofNat cA.length) + (Int32.ofNat cB.length))), .val (.int (1 : Int32)), .val (.ref xs_7_), .val (.ref xm_22_), .unset] [(.int (1 : Int32))])) _
    refine XS.ifNo X68_.here hx rfl (hb hby at_404) rfl ((if0 _ _).trans (feq ((by decide) : ¬ ((1 : Int32) = (0 : Int32)))).1) ?_
    refine XS.aload X68_.here hx rfl (hb hby at_407) rfl rfl ?_
    refine XS.aload X68_.here hx rfl (hb hby at_409) rfl rfl ?_
    refine XS.aload X68_.here hx rfl (hb hby at_411) rfl rfl ?_
    refine XS.aload X68_.here hx rfl (hb hby at_413) rfl rfl ?_
    refine XS.bipush X68_.here hx rfl (hb hby at_415) ?_
    refine st69_ _ ?_
    show Steps p.tables e below (T69_.setTop (mkF m 420 #[.val (.int p0), .val (.int p1), .val (.int p2), .val (.int p3), .val (.ref xs_1_), .val (.ref xs_3_), .val (.ref xs_7_), .val (.ref b11_), .val (.ref a2_22_), .val (.ref xp_22_), .val (.int ((Int32.ofNat cA.length) + (Int32.ofNat cB.length))), .val (.int (1 : Int32)), .val (.ref xs_7_), .val (.ref xm_22_), .unset] [(.int (1 : Int32))])) _
    refine XS.ifNo X69_.here hx rfl (hb hby at_420) rfl ((if0 _ _).trans (feq ((by decide) : ¬ ((1 : Int32) = (0 : Int32)))).1) ?_
    refine XS.iconst X69_.here hx rfl (hb hby at_423) ?_
    refine XS.goto X69_.here hx rfl (pc0 := 424) (pc' := 428) rfl (hb hby at_424) (by decide) (by decide) ?_
    refine XS.istore X69_.here hx rfl (hb hby at_428) rfl (l' := #[.val (.int p0), .val (.int p1), .val (.int p2), .val (.int p3), .val (.ref xs_1_), .val (.ref xs_3_), .val (.ref xs_7_), .val (.ref b11_), .val (.ref a2_22_), .val (.ref xp_22_), .val (.int ((Int32.ofNat cA.length) + (Int32.ofNat cB.length))), .val (.int (1 : Int32)), .val (.ref xs_7_), .val (.ref xm_22_), .val (.int (1 : Int32))]) rfl ?_
    show Steps p.tables e below (T69_.setTop (mkF m 430 #[.val (.int p0), .val (.int p1), .val (.int p2), .val (.int p3), .val (.ref xs_1_), .val (.ref xs_3_), .val (.ref xs_7_), .val (.ref b11_), .val (.ref a2_22_), .val (.ref xp_22_), .val (.int ((Int32.ofNat cA.length) + (Int32.ofNat cB.length))), .val (.int (1 : Int32)), .val (.ref xs_7_), .val (.ref xm_22_), .val (.int (1 : Int32))] [])) _
    refine XS.iload X69_.here hx rfl (hb hby at_430) rfl ?_
    refine XS.ifYes X69_.here hx rfl (pc0 := 432) (pc' := 437) rfl (hb hby at_432) rfl ((if0 _ _).trans (feq ((by decide) : ¬ ((1 : Int32) = (0 : Int32)))).2) (by decide) (by decide) ?_
    refine XS.aload X69_.here hx rfl (hb hby at_437) rfl rfl ?_
    refine st70_.trans ?_
    show Steps p.tables e below (T70_.setTop (mkF m 442 #[.val (.int p0), .val (.int p1), .val (.int p2), .val (.int p3), .val (.ref xs_1_), .val (.ref xs_3_), .val (.ref xs_7_), .val (.ref b11_), .val (.ref a2_22_), .val (.ref xp_22_), .val (.int ((Int32.ofNat cA.length) + (Int32.ofNat cB.length))), .val (.int (1 : Int32)), .val (.ref xs_7_), .val (.ref xm_22_), .val (.int (1 : Int32))] [(.ref xs_3_)])) _
    refine XS.aload X70_.here hx rfl (hb hby at_442) rfl rfl ?_
    refine st74_.trans ?_
    show Steps p.tables e below (T74_.setTop (mkF m 447 #[.val (.int p0), .val (.int p1), .val (.int p2), .val (.int p3), .val (.ref xs_1_), .val (.ref xs_3_), .val (.ref xs_7_), .val (.ref b11_), .val (.ref a2_22_), .val (.ref xp_22_), .val (.int ((Int32.ofNat cA.length) + (Int32.ofNat cB.length))), .val (.int (1 : Int32)), .val (.ref xs_7_), .val (.ref xm_22_), .val (.int (1 : Int32))] [(.int (1 : Int32))])) _
    refine XS.ifNo X74_.here hx rfl (hb hby at_447) rfl ((if0 _ _).trans (feq ((by decide) : ¬ ((1 : Int32) = (0 : Int32)))).1) ?_
    refine XS.aload X74_.here hx rfl (hb hby at_450) rfl rfl ?_
    refine st76_.trans ?_
    show Steps p.tables e below (T76_.setTop (mkF m 455 #[.val (.int p0), .val (.int p1), .val (.int p2), .val (.int p3), .val (.ref xs_1_), .val (.ref xs_3_), .val (.ref xs_7_), .val (.ref b11_), .val (.ref a2_22_), .val (.ref xp_22_), .val (.int ((Int32.ofNat cA.length) + (Int32.ofNat cB.length))), .val (.int (1 : Int32)), .val (.ref xs_7_), .val (.ref xm_22_), .val (.int (1 : Int32))] [(.ref xs_7_)])) _
    refine XS.aload X76_.here hx rfl (hb hby at_455) rfl rfl ?_
    refine st79_.trans ?_
    show Steps p.tables e below (T79_.setTop (mkF m 460 #[.val (.int p0), .val (.int p1), .val (.int p2), .val (.int p3), .val (.ref xs_1_), .val (.ref xs_3_), .val (.ref xs_7_), .val (.ref b11_), .val (.ref a2_22_), .val (.ref xp_22_), .val (.int ((Int32.ofNat cA.length) + (Int32.ofNat cB.length))), .val (.int (1 : Int32)), .val (.ref xs_7_), .val (.ref xm_22_), .val (.int (1 : Int32))] [(.int (1 : Int32))])) _
    refine XS.ifNo X79_.here hx rfl (hb hby at_460) rfl ((if0 _ _).trans (feq ((by decide) : ¬ ((1 : Int32) = (0 : Int32)))).1) ?_
    refine XS.iconst X79_.here hx rfl (hb hby at_463) ?_
    refine XS.goto X79_.here hx rfl (pc0 := 464) (pc' := 468) rfl (hb hby at_464) (by decide) (by decide) ?_
    exact retN X79_ hx (t := .boolean) Bd.returns (by simp) (hb hby at_468) hr
  · show Q_rm0N Z p0 p1 p2 p3 G1 vU vS G3 cA cB cC h0 n0 _ T79_.heap _
    rw [ek79_]
    exact ⟨rfl, N79_⟩
  · show CHr Z consts_1 s.vm s.heap T79_.vm T79_.heap
    rw [hh]
    rw [ek79_]
    exact cr29_.trans (CHv.at X79_ hZ22_ hEL ch22_)
set_option maxRecDepth 65536 in
set_option maxHeartbeats 40000000 in
theorem comes_1 {Post : Tables → Env → Array Value → State → Outcome → State → Prop} (hpost : ∀ tb e args s v u, (limb_1_1.after args s (.returned v) u = true ∧ limb_1_2.after args s (.returned v) u = true ∧ True) → ReturnedEndW s (.returned v) u (Jvm.fieldLocs frame_1_writes args s ++ Jvm.arrayLocs frame_1_arrays args s ++ Jvm.staticLocs frame_1_statics s) 64 13440 → Post tb e args s (.returned v) u) :
    ArmFor flags0 classFile x code maxLocals ret World_1 tables_1 room_1 Calls_1 rest_1 Pre_1 Post := by
  intro l hfl _ _ p e ha hc hk s m args below hf hA hF happ hP
  obtain ⟨hcalls, hrest, hpre⟩ := hP
  obtain ⟨-, -, -, hnamed, -, -, -, hat⟩ := (Spec.applies_iff hf).mp happ
  obtain ⟨hg, hn⟩ := and_e (Cond.before_iff.mp (show (Jvm.Cond.and given_1 narrow_1).before args s = true from hpre))
  obtain ⟨g0, r0⟩ := and_e hg
  obtain ⟨g1, r1⟩ := and_e r0
  obtain ⟨g2, r2⟩ := and_e r1
  obtain ⟨g3, r3⟩ := and_e r2
  have g4 := r3
  obtain ⟨w0, w1, w2, w3, rfl⟩ : ∃ w0 w1 w2 w3 : Value, args = #[w0, w1, w2, w3] := by
    have hs : args.size = 4 := by simpa [Cond.value, given_1] using g0
    obtain ⟨L⟩ := args
    match L, hs with
    | [w0, w1, w2, w3], _ => exact ⟨w0, w1, w2, w3, rfl⟩
  have hw := fun d (hd : d ∈ tables_1) => atoms_spec (ws := Jvm.Cond.code x code maxLocals ret :: tables_1) hat d (List.mem_cons_of_mem _ hd)
  obtain ⟨hsets, hown0⟩ := atoms_of _ (rest_1_c_eq ▸ (show rest_1_c.before _ s = true from hrest))
  obtain ⟨i0, ei0⟩ := is_v g1
  obtain rfl : w0 = (.int i0) := Option.some.inj ei0
  obtain ⟨i1, ei1⟩ := is_v g2
  obtain rfl : w1 = (.int i1) := Option.some.inj ei1
  obtain ⟨i2, ei2⟩ := is_v g3
  obtain rfl : w2 = (.int i2) := Option.some.inj ei2
  obtain ⟨i3, ei3⟩ := is_v g4
  obtain rfl : w3 = (.int i3) := Option.some.inj ei3
  have nC := not_v (Cond.before_iff.mp (hsets _ (List.mem_of_getElem? (i := 2) rfl)))
  obtain ⟨iC, eC⟩ := is_v (Cond.before_iff.mp (hsets _ (List.mem_of_getElem? (i := 1) rfl)))
  have SC : Sta s s.heap "java/lang/String" "COMPACT_STRINGS" "Z" (.int iC) := Sta.start eC (Or.inl (hsets _ (List.mem_of_getElem? (i := 0) rfl)))
  have cC : ¬ (iC = (0 : Int32)) := gotF (Cond.eq_ints eC (Term.int_eval (0))) nC
  obtain ⟨vS, eS, rS⟩ := isR_v (Cond.before_iff.mp (hsets _ (List.mem_of_getElem? (i := 8) rfl)))
  have SS : Sta s s.heap "jdk/internal/util/Preconditions" "SIOOBE_FORMATTER" "Ljava/util/function/BiFunction;" vS := Sta.start eS (Or.inl (hsets _ (List.mem_of_getElem? (i := 7) rfl)))
  have hEL : EW s _ consts_1 := (EW.cons (own_w hw 233 rfl) (by decide) (EW.cons (own_w hw 38 rfl) (by decide) EW.nil))
  have CH0 : CHv s consts_1 s.vm s.heap := CHv.start hEL (fun p hp => hcalls.2.2.1 p hp) (hsets _ (List.mem_of_getElem? (i := 2) rfl)) (own_w hw 18 rfl) (own_w hw 14 rfl)
  obtain ⟨vU, evU, rU⟩ := isR_v (Cond.before_iff.mp (hsets _ (List.mem_of_getElem? (i := 16) rfl)))
  have TU : Sta s s.heap "java/lang/Throwable" "UNASSIGNED_STACK" "[Ljava/lang/StackTraceElement;" vU := Sta.start evU (Or.inl (hsets _ (List.mem_of_getElem? (i := 15) rfl)))
  obtain ⟨vS1, evS, rS1⟩ := isR_v (Cond.before_iff.mp (hsets _ (List.mem_of_getElem? (i := 21) rfl)))
  have TS1 : Sta s s.heap "java/lang/Throwable" "SUPPRESSED_SENTINEL" "Ljava/util/List;" vS1 := Sta.start evS (Or.inl (hsets _ (List.mem_of_getElem? (i := 20) rfl)))
  have hl : l.stackTraces = true := by unfold Launch.stackTraces; rw [hfl]; decide
  by_cases k0 : (own_str (i3 &&& (3 : Int32)) i0).length + (own_str (((i3.toUInt32 >>> ((2 : Int32) &&& 31).toUInt32).toInt32) &&& (3 : Int32)) i1).length = 0
  · obtain ⟨n, o, h1, h2, h3, _, L, rfl, ⟨rfl, N⟩, -, hq⟩ := rm0Z l s _ hw hEL tables_1 i0 i1 i2 i3 iC vU vS1 vS _ _ _ s.heap s.heap.size (Nat.le_refl _) SC cC (Old.start s) TU rU TS1 rS1 hl SS rS rfl rfl rfl k0 p e ha hc hk s m _ below hf ((Spec.applies_iff_loose hf).mp happ).1 ⟨rfl, State.Warmed39.refl s, rfl, CH0⟩ ⟨MethodsKnown_of_tablesKnown hcalls.2.1, FramesKnown_of_framesKnown hcalls.1 hf⟩
    refine ⟨n, _, h1, h2, h3, hpost _ _ _ _ _ _ ⟨Cond.after_iff.mpr rfl, Cond.after_iff.mpr (eq_i res_at (Term.int_eval (1)) rfl), trivial⟩ ⟨hq.1, hq.2.1, hq.2.2.1, (hq.2.2.2.sift fun y hy => Or.inr (N y hy)).mono (by decide) (by decide)⟩⟩
  · obtain ⟨n, o, h1, h2, h3, _, L, rfl, ⟨rfl, N⟩, -, hq⟩ := rm0N l s _ hw hEL tables_1 i0 i1 i2 i3 iC vU vS1 vS _ _ _ s.heap s.heap.size (Nat.le_refl _) SC cC (Old.start s) TU rU TS1 rS1 hl SS rS rfl rfl rfl k0 p e ha hc hk s m _ below hf ((Spec.applies_iff_loose hf).mp happ).1 ⟨rfl, State.Warmed39.refl s, rfl, CH0⟩ ⟨MethodsKnown_of_tablesKnown hcalls.2.1, FramesKnown_of_framesKnown hcalls.1 hf⟩
    refine ⟨n, _, h1, h2, h3, hpost _ _ _ _ _ _ ⟨Cond.after_iff.mpr rfl, Cond.after_iff.mpr (eq_i res_at (Term.int_eval (1)) rfl), trivial⟩ ⟨hq.1, hq.2.1, hq.2.2.1, (hq.2.2.2.sift fun y hy => Or.inr (N y hy)).mono (by decide) (by decide)⟩⟩
theorem main_1_1 : Claimed_1_1 := comes_1 fun _ _ _ _ _ _ h hF => ⟨h.1, hF⟩
theorem main_1_2 : Claimed_1_2 := comes_1 fun _ _ _ _ _ _ h hF => ⟨h.2.1, hF⟩

end Jvm.Pilot.@@N@@
namespace Jvm.Pilot.@@N@@
open Jvm Jvm.ClassFile Sem Op Lib Jvm.Free Jvm.Stand Jvm.Pilot.@@N@@.Jvm.D
/-! MADE BY PROGRAM (witnessworld.py) out of the Statement's table words and the real class files: 43 classes; the members and pool entries that the words name. The judged class is class 1, her method 1. -/
namespace start1
open Jvm.ClassFile
def u (s : String) : CpInfo := .utf8 (stringToUtf16 s)
/-- a pool by its gaps: so many unusable entries, then the entry; so many at the end -/
def gap : Nat → List CpInfo → List CpInfo
  | 0, r => r
  | n + 1, r => .unusable :: gap n r
def poolList (es : List (Nat × CpInfo)) (last : Nat) : List CpInfo := es.foldr (fun e r => gap e.1 (e.2 :: r)) (gap last [])
def pool (es : List (Nat × CpInfo)) (last : Nat) : Array CpInfo := ⟨poolList es last⟩
def fileOf (pool : Array CpInfo) (this : Nat) (attrs : Array Attribute := #[]) (ms : Array MethodInfo := #[]) (fl : Nat := 33) (sup : Nat := 0) (ifs : Array Nat := #[]) (fds : Array FieldInfo := #[]) : ClassFile where
  minorVersion := 0
  majorVersion := 65
  constantPool := pool
  accessFlags := fl
  thisClass := this
  superClass := sup
  interfaces := ifs
  fields := fds
  methods := ms
  attributes := attrs
def plain (name : String) (sup : Option ClassId) : Class where
  name := name
  kind := .ordinary
  loader := none
  accessFlags := 33
  super := sup
  interfaces := #[]
  cf := none
  fields := #[]
  methods := #[]
  instanceTypes := #[]
  staticTypes := #[]
  resolved := #[]
  callSites := []
  init := .initialized
  statics := none
  mirror := none

def pool0 : Array CpInfo := pool [(5, u "<init>"), (0, u "()V"), (1, .class_ 10), (1, u "java/lang/Object")] 113

def k0c0 : Code := { maxStack := 0, maxLocals := 1, code := object_method_1_code, exceptionTable := #[], attributes := #[] }
def k0m0 : Method := { name := "<init>", desc := "()V", sig := { parameters := [], returnType := none }, accessFlags := 1, code := some k0c0 }
/-- java/lang/Object -/
def k0 : Class := { plain "java/lang/Object" none with
  accessFlags := 33
  interfaces := #[]
  cf := some (fileOf pool0 8 #[] #[{ accessFlags := 1, nameIndex := 5, descriptorIndex := 6, attributes := #[] }] 33 0 #[] #[])
  fields := #[]
  methods := #[k0m0]
  instanceTypes := #[]
  staticTypes := #[]
  resolved := Array.replicate 124 none
  statics := none }

def pool1 : Array CpInfo := pool [(2, .class_ 4), (1, u "java/lang/Object"), (0, u "<init>"), (0, u "()V"), (0, .methodref 8 9), (0, .class_ 10), (0, .nameAndType 11 12), (0, u "com/example/brisk_warden/briskwarden/core/UnsupportedNumberExceptionAtPinLaw"), (0, u "str"), (0, u "(II)Ljava/lang/String;"), (0, .class_ 14), (0, u "com/example/brisk_warden/briskwarden/core/UnsupportedNumberException"), (0, .methodref 13 16), (0, .nameAndType 5 17), (0, u "(Ljava/lang/String;Ljava/lang/String;)V"), (0, .methodref 13 19), (0, .nameAndType 20 21), (0, u "at"), (0, u "(Ljava/lang/String;)Lcom/example/brisk_warden/briskwarden/core/UnsupportedNumberException;"), (0, .methodref 13 23), (0, .nameAndType 24 25), (0, u "place"), (0, u "()Ljava/lang/String;"), (0, .methodref 27 28), (0, .class_ 29), (0, .nameAndType 30 31), (0, u "java/lang/String"), (0, u "length"), (0, u "()I"), (0, .methodref 8 33), (0, .nameAndType 34 35), (0, u "pc"), (0, u "(Ljava/lang/String;Ljava/lang/String;Ljava/lang/String;I)Z"), (0, .methodref 13 37), (0, .nameAndType 38 25), (0, u "problem"), (0, .methodref 27 40), (0, .nameAndType 41 42), (0, u "equals"), (0, u "(Ljava/lang/Object;)Z"), (0, .methodref 13 44), (0, .nameAndType 45 25), (0, u "getMessage"), (0, .methodref 8 47), (0, .nameAndType 48 49), (0, u "mc"), (0, u "(Ljava/lang/String;Ljava/lang/String;Ljava/lang/String;Ljava/lang/String;I)Z"), (0, .methodref 27 51), (0, .nameAndType 5 52), (0, u "([C)V"), (0, .methodref 27 54), (0, .nameAndType 55 56), (0, u "valueOf"), (0, u "(C)Ljava/lang/String;"), (0, .methodref 27 58), (0, .nameAndType 59 60), (0, u "charAt"), (0, u "(I)C"), (0, .methodref 8 62), (0, .nameAndType 63 64), (0, u "cat"), (0, u "(Ljava/lang/String;Ljava/lang/String;I)C"), (2, u "law"), (0, u "(IIII)Z")] 3

def k1m0 : Method := { name := "<init>", desc := "()V", sig := { parameters := [], returnType := none }, accessFlags := 1, code := none }
def k1c1 : Code := { maxStack := 5, maxLocals := 15, code := code, exceptionTable := #[], attributes := #[] }
def k1m1 : Method := { name := "law", desc := "(IIII)Z", sig := { parameters := [.int, .int, .int, .int], returnType := some .boolean }, accessFlags := 9, code := some k1c1 }
def k1c2 : Code := { maxStack := 6, maxLocals := 5, code := method_3_code, exceptionTable := #[], attributes := #[] }
def k1m2 : Method := { name := "str", desc := "(II)Ljava/lang/String;", sig := { parameters := [.int, .int], returnType := some (.object "java/lang/String") }, accessFlags := 10, code := some k1c2 }
def k1c3 : Code := { maxStack := 3, maxLocals := 3, code := method_4_code, exceptionTable := #[], attributes := #[] }
def k1m3 : Method := { name := "cat", desc := "(Ljava/lang/String;Ljava/lang/String;I)C", sig := { parameters := [(.object "java/lang/String"), (.object "java/lang/String"), .int], returnType := some .char }, accessFlags := 10, code := some k1c3 }
def k1c4 : Code := { maxStack := 4, maxLocals := 4, code := method_5_code, exceptionTable := #[], attributes := #[] }
def k1m4 : Method := { name := "pc", desc := "(Ljava/lang/String;Ljava/lang/String;Ljava/lang/String;I)Z", sig := { parameters := [(.object "java/lang/String"), (.object "java/lang/String"), (.object "java/lang/String"), .int], returnType := some .boolean }, accessFlags := 10, code := some k1c4 }
def k1c5 : Code := { maxStack := 3, maxLocals := 7, code := method_6_code, exceptionTable := #[], attributes := #[] }
def k1m5 : Method := { name := "mc", desc := "(Ljava/lang/String;Ljava/lang/String;Ljava/lang/String;Ljava/lang/String;I)Z", sig := { parameters := [(.object "java/lang/String"), (.object "java/lang/String"), (.object "java/lang/String"), (.object "java/lang/String"), .int], returnType := some .boolean }, accessFlags := 10, code := some k1c5 }
/-- com/example/brisk_warden/briskwarden/core/UnsupportedNumberExceptionAtPinLaw -/
def k1 : Class := { plain "com/example/brisk_warden/briskwarden/core/UnsupportedNumberExceptionAtPinLaw" (some 0) with
  accessFlags := 49
  interfaces := #[]
  cf := some (fileOf pool1 8 #[] #[{ accessFlags := 1, nameIndex := 5, descriptorIndex := 6, attributes := #[] }, { accessFlags := 9, nameIndex := 67, descriptorIndex := 68, attributes := #[] }, { accessFlags := 10, nameIndex := 11, descriptorIndex := 12, attributes := #[] }, { accessFlags := 10, nameIndex := 63, descriptorIndex := 64, attributes := #[] }, { accessFlags := 10, nameIndex := 34, descriptorIndex := 35, attributes := #[] }, { accessFlags := 10, nameIndex := 48, descriptorIndex := 49, attributes := #[] }] 49 2 #[] #[])
  fields := #[]
  methods := #[k1m0, k1m1, k1m2, k1m3, k1m4, k1m5]
  instanceTypes := #[]
  staticTypes := #[]
  resolved := Array.replicate 72 none
  statics := none }

def pool2 : Array CpInfo := pool [(1, .class_ 2), (0, u "java/io/Serializable"), (0, .class_ 4), (0, u "java/lang/Object")] 2

/-- java/io/Serializable -/
def k2 : Class := { plain "java/io/Serializable" (some 0) with
  accessFlags := 1537
  interfaces := #[]
  cf := some (fileOf pool2 1 #[] #[] 1537 3 #[] #[])
  fields := #[]
  methods := #[]
  instanceTypes := #[]
  staticTypes := #[]
  resolved := Array.replicate 7 none
  statics := none }

def pool3 : Array CpInfo := pool [(1, .class_ 2), (0, u "java/lang/Comparable"), (0, .class_ 4), (0, u "java/lang/Object")] 7

/-- java/lang/Comparable -/
def k3 : Class := { plain "java/lang/Comparable" (some 0) with
  accessFlags := 1537
  interfaces := #[]
  cf := some (fileOf pool3 1 #[] #[] 1537 3 #[] #[])
  fields := #[]
  methods := #[]
  instanceTypes := #[]
  staticTypes := #[]
  resolved := Array.replicate 12 none
  statics := none }

def pool4 : Array CpInfo := pool [(2, .class_ 4), (1, u "java/lang/CharSequence"), (42, .class_ 48), (0, u "java/lang/CharSequence$1CodePointIterator"), (10, .class_ 60), (0, u "java/lang/CharSequence$1CharIterator"), (5, .class_ 67), (0, u "java/lang/Object")] 63

/-- java/lang/CharSequence -/
def k4 : Class := { plain "java/lang/CharSequence" (some 0) with
  accessFlags := 1537
  interfaces := #[]
  cf := some (fileOf pool4 2 #[.nestMembers #[47, 59]] #[] 1537 66 #[] #[])
  fields := #[]
  methods := #[]
  instanceTypes := #[]
  staticTypes := #[]
  resolved := Array.replicate 131 none
  statics := none }

def pool5 : Array CpInfo := pool [(1, .class_ 2), (0, u "java/lang/constant/Constable"), (0, .class_ 4), (0, u "java/lang/Object")] 6

/-- java/lang/constant/Constable -/
def k5 : Class := { plain "java/lang/constant/Constable" (some 0) with
  accessFlags := 1537
  interfaces := #[]
  cf := some (fileOf pool5 1 #[] #[] 1537 3 #[] #[])
  fields := #[]
  methods := #[]
  instanceTypes := #[]
  staticTypes := #[]
  resolved := Array.replicate 11 none
  statics := none }

def pool6 : Array CpInfo := pool [(1, .class_ 2), (0, u "java/lang/constant/ConstantDesc"), (0, .class_ 4), (0, u "java/lang/Object")] 32

/-- java/lang/constant/ConstantDesc -/
def k6 : Class := { plain "java/lang/constant/ConstantDesc" (some 0) with
  accessFlags := 1537
  interfaces := #[]
  cf := some (fileOf pool6 1 #[] #[] 1537 3 #[] #[])
  fields := #[]
  methods := #[]
  instanceTypes := #[]
  staticTypes := #[]
  resolved := Array.replicate 37 none
  statics := none }

def pool7 : Array CpInfo := pool [(1, .methodref 2 3), (0, .class_ 4), (0, .nameAndType 5 6), (0, u "java/lang/Object"), (0, u "<init>"), (0, u "()V"), (0, .string 8), (0, u ""), (0, .fieldref 10 11), (0, .class_ 12), (0, .nameAndType 13 14), (0, u "java/lang/String"), (0, u "value"), (0, u "[B"), (0, .fieldref 10 16), (0, .nameAndType 17 18), (0, u "coder"), (0, u "B"), (2, u "hash"), (0, u "I"), (2, u "hashIsZero"), (0, u "Z"), (0, .methodref 10 28), (0, .nameAndType 5 29), (0, u "([CIILjava/lang/Void;)V"), (8, .fieldref 10 39), (0, .nameAndType 40 26), (0, u "COMPACT_STRINGS"), (1, .class_ 44), (1, u "java/lang/StringUTF16"), (0, u "compress"), (1, .methodref 42 48), (0, .nameAndType 49 50), (0, u "coderFromArrayLen"), (0, u "([BI)B"), (2, u "toBytes"), (0, .methodref 55 56), (0, .class_ 57), (0, .nameAndType 58 59), (0, u "java/util/Arrays"), (0, u "copyOfRange"), (0, u "([BII)[B"), (47, .class_ 109), (1, u "java/lang/StringLatin1"), (32, u "()Z"), (34, .methodref 42 178), (0, .nameAndType 45 179), (0, u "([CII)[B"), (13, .class_ 195), (1, u "java/lang/System"), (13, .methodref 10 210), (0, .nameAndType 5 211), (0, u "([BB)V"), (0, .methodref 193 213), (0, .nameAndType 214 215), (0, u "arraycopy"), (0, u "(Ljava/lang/Object;ILjava/lang/Object;II)V"), (118, u "()I"), (0, .methodref 10 336), (0, .nameAndType 17 337), (0, u "()B"), (2, u "()[B"), (22, u "([BI)C"), (5, u "(C)Z"), (21, u "(II)V"), (35, u "(I)C"), (61, .methodref 10 490), (0, .nameAndType 5 491), (0, u "(Ljava/lang/AbstractStringBuilder;Ljava/lang/Void;)V"), (0, .methodref 10 493), (0, .nameAndType 494 142), (0, u "isLatin1"), (0, .methodref 107 496), (0, .nameAndType 497 363), (0, u "charAt"), (3, u "checkIndex"), (4, .nameAndType 507 334), (0, u "length"), (24, u "getBytes"), (10, u "equals"), (5, .methodref 550 506), (0, .class_ 551), (0, u "java/lang/AbstractStringBuilder"), (0, .methodref 550 553), (0, .nameAndType 554 340), (0, u "getValue"), (18, u "(Ljava/lang/Object;)Z"), (1, .class_ 576), (0, u "java/lang/CharSequence"), (22, u "CASE_INSENSITIVE_ORDER"), (0, u "Ljava/util/Comparator;"), (91, u "isEmpty"), (89, u "valueOf"), (0, u "(C)Ljava/lang/String;"), (37, u "([BIB)V"), (188, u "([C)V"), (4, .methodref 107 1016), (0, .nameAndType 1017 369), (0, u "canEncode"), (0, .methodref 107 1019), (0, .nameAndType 53 1020), (0, u "(C)[B"), (26, .methodref 550 493), (5, .fieldref 1054 1055), (0, .class_ 1056), (0, .nameAndType 1057 1058), (0, u "jdk/internal/util/Preconditions"), (0, u "SIOOBE_FORMATTER"), (0, u "Ljava/util/function/BiFunction;"), (0, .methodref 1054 1060), (0, .nameAndType 501 1061), (0, u "(IILjava/util/function/BiFunction;)I"), (39, u "serialPersistentFields"), (0, u "[Ljava/io/ObjectStreamField;"), (0, .class_ 1104), (0, u "java/lang/String$CaseInsensitiveComparator"), (1, .class_ 1107), (0, u "java/io/Serializable"), (0, .class_ 1109), (0, u "java/lang/Comparable"), (0, .class_ 1111), (0, u "java/lang/constant/Constable"), (0, .class_ 1113), (0, u "java/lang/constant/ConstantDesc"), (2, u "serialVersionUID"), (0, u "J"), (3, u "REPL"), (0, u "C"), (2, u "LATIN1"), (1, u "UTF16"), (105, u "(Ljava/lang/StringBuilder;)V")] 217

def k7m0 : Method := { name := "<init>", desc := "()V", sig := { parameters := [], returnType := none }, accessFlags := 1, code := none }
def k7c1 : Code := { maxStack := 5, maxLocals := 2, code := jdk_42_method_3_code, exceptionTable := #[], attributes := #[] }
def k7m1 : Method := { name := "<init>", desc := "([C)V", sig := { parameters := [(.array .char)], returnType := none }, accessFlags := 1, code := some k7c1 }
def k7c2 : Code := { maxStack := 3, maxLocals := 2, code := jdk_42_method_53_code, exceptionTable := #[], attributes := #[] }
def k7m2 : Method := { name := "<init>", desc := "(Ljava/lang/StringBuilder;)V", sig := { parameters := [(.object "java/lang/StringBuilder")], returnType := none }, accessFlags := 1, code := some k7c2 }
def k7c3 : Code := { maxStack := 2, maxLocals := 1, code := jdk_42_method_54_code, exceptionTable := #[], attributes := #[] }
def k7m3 : Method := { name := "length", desc := "()I", sig := { parameters := [], returnType := some .int }, accessFlags := 1, code := some k7c3 }
def k7c4 : Code := { maxStack := 1, maxLocals := 1, code := jdk_42_method_55_code, exceptionTable := #[], attributes := #[] }
def k7m4 : Method := { name := "isEmpty", desc := "()Z", sig := { parameters := [], returnType := some .boolean }, accessFlags := 1, code := some k7c4 }
def k7c5 : Code := { maxStack := 2, maxLocals := 2, code := jdk_42_method_56_code, exceptionTable := #[], attributes := #[] }
def k7m5 : Method := { name := "charAt", desc := "(I)C", sig := { parameters := [.int], returnType := some .char }, accessFlags := 1, code := some k7c5 }
def k7c6 : Code := { maxStack := 2, maxLocals := 3, code := jdk_42_method_66_code, exceptionTable := #[], attributes := #[] }
def k7m6 : Method := { name := "equals", desc := "(Ljava/lang/Object;)Z", sig := { parameters := [(.object "java/lang/Object")], returnType := some .boolean }, accessFlags := 1, code := some k7c6 }
def k7c7 : Code := { maxStack := 4, maxLocals := 1, code := jdk_42_method_139_code, exceptionTable := #[], attributes := #[] }
def k7m7 : Method := { name := "valueOf", desc := "(C)Ljava/lang/String;", sig := { parameters := [.char], returnType := some (.object "java/lang/String") }, accessFlags := 9, code := some k7c7 }
def k7c8 : Code := { maxStack := 5, maxLocals := 4, code := jdk_42_method_147_code, exceptionTable := #[], attributes := #[] }
def k7m8 : Method := { name := "getBytes", desc := "([BIB)V", sig := { parameters := [(.array .byte), .int, .byte], returnType := none }, accessFlags := 0, code := some k7c8 }
def k7c9 : Code := { maxStack := 4, maxLocals := 6, code := jdk_42_method_149_code, exceptionTable := #[], attributes := #[] }
def k7m9 : Method := { name := "<init>", desc := "([CIILjava/lang/Void;)V", sig := { parameters := [(.array .char), .int, .int, (.object "java/lang/Void")], returnType := none }, accessFlags := 2, code := some k7c9 }
def k7c10 : Code := { maxStack := 5, maxLocals := 5, code := jdk_42_method_150_code, exceptionTable := #[], attributes := #[] }
def k7m10 : Method := { name := "<init>", desc := "(Ljava/lang/AbstractStringBuilder;Ljava/lang/Void;)V", sig := { parameters := [(.object "java/lang/AbstractStringBuilder"), (.object "java/lang/Void")], returnType := none }, accessFlags := 0, code := some k7c10 }
def k7c11 : Code := { maxStack := 2, maxLocals := 3, code := jdk_42_method_151_code, exceptionTable := #[], attributes := #[] }
def k7m11 : Method := { name := "<init>", desc := "([BB)V", sig := { parameters := [(.array .byte), .byte], returnType := none }, accessFlags := 0, code := some k7c11 }
def k7c12 : Code := { maxStack := 1, maxLocals := 1, code := jdk_42_method_152_code, exceptionTable := #[], attributes := #[] }
def k7m12 : Method := { name := "coder", desc := "()B", sig := { parameters := [], returnType := some .byte }, accessFlags := 0, code := some k7c12 }
def k7c13 : Code := { maxStack := 1, maxLocals := 1, code := jdk_42_method_154_code, exceptionTable := #[], attributes := #[] }
def k7m13 : Method := { name := "isLatin1", desc := "()Z", sig := { parameters := [], returnType := some .boolean }, accessFlags := 0, code := some k7c13 }
def k7c14 : Code := { maxStack := 3, maxLocals := 2, code := jdk_42_method_155_code, exceptionTable := #[], attributes := #[] }
def k7m14 : Method := { name := "checkIndex", desc := "(II)V", sig := { parameters := [.int, .int], returnType := none }, accessFlags := 8, code := some k7c14 }
/-- java/lang/String -/
def k7 : Class := { plain "java/lang/String" (some 0) with
  accessFlags := 49
  interfaces := #[2, 3, 4, 5, 6]
  cf := some (fileOf pool7 10 #[.nestMembers #[1103]] #[{ accessFlags := 1, nameIndex := 5, descriptorIndex := 6, attributes := #[] }, { accessFlags := 1, nameIndex := 5, descriptorIndex := 1010, attributes := #[] }, { accessFlags := 1, nameIndex := 5, descriptorIndex := 1233, attributes := #[] }, { accessFlags := 1, nameIndex := 507, descriptorIndex := 334, attributes := #[] }, { accessFlags := 1, nameIndex := 692, descriptorIndex := 142, attributes := #[] }, { accessFlags := 1, nameIndex := 497, descriptorIndex := 427, attributes := #[] }, { accessFlags := 1, nameIndex := 543, descriptorIndex := 573, attributes := #[] }, { accessFlags := 9, nameIndex := 782, descriptorIndex := 783, attributes := #[] }, { accessFlags := 0, nameIndex := 532, descriptorIndex := 821, attributes := #[] }, { accessFlags := 2, nameIndex := 5, descriptorIndex := 29, attributes := #[] }, { accessFlags := 0, nameIndex := 5, descriptorIndex := 491, attributes := #[] }, { accessFlags := 0, nameIndex := 5, descriptorIndex := 211, attributes := #[] }, { accessFlags := 0, nameIndex := 17, descriptorIndex := 337, attributes := #[] }, { accessFlags := 0, nameIndex := 494, descriptorIndex := 142, attributes := #[] }, { accessFlags := 8, nameIndex := 501, descriptorIndex := 391, attributes := #[] }] 49 2 #[1106, 1108, 575, 1110, 1112] #[{ accessFlags := 18, nameIndex := 13, descriptorIndex := 14, attributes := #[] }, { accessFlags := 18, nameIndex := 17, descriptorIndex := 18, attributes := #[] }, { accessFlags := 2, nameIndex := 21, descriptorIndex := 22, attributes := #[] }, { accessFlags := 2, nameIndex := 25, descriptorIndex := 26, attributes := #[] }, { accessFlags := 26, nameIndex := 1116, descriptorIndex := 1117, attributes := #[] }, { accessFlags := 24, nameIndex := 40, descriptorIndex := 26, attributes := #[] }, { accessFlags := 26, nameIndex := 1101, descriptorIndex := 1102, attributes := #[] }, { accessFlags := 26, nameIndex := 1121, descriptorIndex := 1122, attributes := #[] }, { accessFlags := 25, nameIndex := 599, descriptorIndex := 600, attributes := #[] }, { accessFlags := 24, nameIndex := 1125, descriptorIndex := 18, attributes := #[] }, { accessFlags := 24, nameIndex := 1127, descriptorIndex := 18, attributes := #[] }])
  fields := #[{ name := "value", type := (.array .byte), accessFlags := 18, slot := 0, constantValue := 0 }, { name := "coder", type := .byte, accessFlags := 18, slot := 1, constantValue := 0 }, { name := "hash", type := .int, accessFlags := 2, slot := 2, constantValue := 0 }, { name := "hashIsZero", type := .boolean, accessFlags := 2, slot := 3, constantValue := 0 }, { name := "serialVersionUID", type := .long, accessFlags := 26, slot := 0, constantValue := 0 }, { name := "COMPACT_STRINGS", type := .boolean, accessFlags := 24, slot := 1, constantValue := 0 }, { name := "serialPersistentFields", type := (.array (.object "java/io/ObjectStreamField")), accessFlags := 26, slot := 2, constantValue := 0 }, { name := "REPL", type := .char, accessFlags := 26, slot := 3, constantValue := 0 }, { name := "CASE_INSENSITIVE_ORDER", type := (.object "java/util/Comparator"), accessFlags := 25, slot := 4, constantValue := 0 }, { name := "LATIN1", type := .byte, accessFlags := 24, slot := 5, constantValue := 0 }, { name := "UTF16", type := .byte, accessFlags := 24, slot := 6, constantValue := 0 }]
  methods := #[k7m0, k7m1, k7m2, k7m3, k7m4, k7m5, k7m6, k7m7, k7m8, k7m9, k7m10, k7m11, k7m12, k7m13, k7m14]
  instanceTypes := #[(.array .byte), .byte, .int, .boolean]
  staticTypes := #[.long, .boolean, (.array (.object "java/io/ObjectStreamField")), .char, (.object "java/util/Comparator"), .byte, .byte]
  resolved := Array.replicate 1451 none
  statics := some 0 }

def pool8 : Array CpInfo := pool [(1, .class_ 2), (0, u "java/lang/String"), (1, .class_ 6), (1, u "java/lang/Object"), (0, u "<init>"), (0, u "()V"), (0, .methodref 1 10), (0, .nameAndType 11 12), (0, u "checkIndex"), (0, u "(II)V"), (1, .class_ 16), (1, u "java/lang/StringLatin1"), (36, u "([BI)C"), (36, u "canEncode"), (14, u "(C)Z"), (15, u "$assertionsDisabled"), (0, u "Z"), (98, .class_ 223), (1, u "java/lang/StringLatin1$LinesSpliterator"), (28, u "charAt"), (127, u "toBytes"), (1, u "(C)[B"), (7, .class_ 391), (0, u "java/lang/StringLatin1$CharsSpliterator")] 3

def k8m0 : Method := { name := "<init>", desc := "()V", sig := { parameters := [], returnType := none }, accessFlags := 0, code := none }
def k8c1 : Code := { maxStack := 2, maxLocals := 2, code := jdk_43_method_2_code, exceptionTable := #[], attributes := #[] }
def k8m1 : Method := { name := "charAt", desc := "([BI)C", sig := { parameters := [(.array .byte), .int], returnType := some .char }, accessFlags := 9, code := some k8c1 }
def k8c2 : Code := { maxStack := 2, maxLocals := 1, code := jdk_43_method_3_code, exceptionTable := #[], attributes := #[] }
def k8m2 : Method := { name := "canEncode", desc := "(C)Z", sig := { parameters := [.char], returnType := some .boolean }, accessFlags := 9, code := some k8c2 }
def k8c3 : Code := { maxStack := 4, maxLocals := 1, code := jdk_43_method_46_code, exceptionTable := #[], attributes := #[] }
def k8m3 : Method := { name := "toBytes", desc := "(C)[B", sig := { parameters := [.char], returnType := some (.array .byte) }, accessFlags := 9, code := some k8c3 }
/-- java/lang/StringLatin1 -/
def k8 : Class := { plain "java/lang/StringLatin1" (some 0) with
  accessFlags := 48
  interfaces := #[]
  cf := some (fileOf pool8 14 #[.nestMembers #[390, 221]] #[{ accessFlags := 0, nameIndex := 7, descriptorIndex := 8, attributes := #[] }, { accessFlags := 9, nameIndex := 252, descriptorIndex := 53, attributes := #[] }, { accessFlags := 9, nameIndex := 90, descriptorIndex := 105, attributes := #[] }, { accessFlags := 9, nameIndex := 380, descriptorIndex := 382, attributes := #[] }] 48 4 #[] #[{ accessFlags := 4120, nameIndex := 121, descriptorIndex := 122, attributes := #[] }])
  fields := #[{ name := "$assertionsDisabled", type := .boolean, accessFlags := 4120, slot := 0, constantValue := 0 }]
  methods := #[k8m0, k8m1, k8m2, k8m3]
  instanceTypes := #[]
  staticTypes := #[.boolean]
  resolved := Array.replicate 395 none
  statics := none }

def pool9 : Array CpInfo := pool [(1, .methodref 2 3), (0, .class_ 4), (0, .nameAndType 5 6), (0, u "java/lang/Object"), (0, u "<init>"), (0, u "()V"), (0, .fieldref 8 9), (0, .class_ 10), (0, .nameAndType 11 12), (0, u "java/lang/Throwable"), (0, u "cause"), (0, u "Ljava/lang/Throwable;"), (0, .fieldref 8 14), (0, .nameAndType 15 16), (0, u "UNASSIGNED_STACK"), (0, u "[Ljava/lang/StackTraceElement;"), (0, .fieldref 8 18), (0, .nameAndType 19 16), (0, u "stackTrace"), (0, .fieldref 8 21), (0, .nameAndType 22 23), (0, u "SUPPRESSED_SENTINEL"), (0, u "Ljava/util/List;"), (0, .fieldref 8 25), (0, .nameAndType 26 23), (0, u "suppressedExceptions"), (0, .methodref 8 28), (0, .nameAndType 29 30), (0, u "fillInStackTrace"), (0, u "()Ljava/lang/Throwable;"), (0, .fieldref 8 32), (0, .nameAndType 33 34), (0, u "detailMessage"), (0, u "Ljava/lang/String;"), (3, u "()Ljava/lang/String;"), (2, u "getMessage"), (51, .class_ 94), (0, u "java/lang/Throwable$WrappedPrintStream"), (6, .class_ 103), (1, u "java/lang/Throwable$PrintStreamOrWriter"), (61, u "$assertionsDisabled"), (0, u "Z"), (26, .class_ 194), (0, u "java/lang/Throwable$WrappedPrintWriter"), (3, .fieldref 8 199), (0, .nameAndType 200 201), (0, u "backtrace"), (0, u "Ljava/lang/Object;"), (0, .methodref 8 203), (0, .nameAndType 29 204), (0, u "(I)Ljava/lang/Throwable;"), (6, u "depth"), (0, u "I"), (10, u "(Ljava/lang/String;)V"), (45, .class_ 271), (1, u "java/lang/Throwable$SentinelHolder"), (32, u "EMPTY_THROWABLE_ARRAY"), (0, u "[Ljava/lang/Throwable;"), (12, .class_ 319), (0, u "java/io/Serializable"), (0, u "serialVersionUID"), (0, u "J"), (5, u "NULL_CAUSE_MESSAGE"), (0, u "SELF_SUPPRESSION_MESSAGE"), (0, u "CAUSE_CAPTION"), (0, u "SUPPRESSED_CAPTION")] 73

def k9c0 : Code := { maxStack := 2, maxLocals := 1, code := jdk_78_method_1_code, exceptionTable := #[], attributes := #[] }
def k9m0 : Method := { name := "<init>", desc := "()V", sig := { parameters := [], returnType := none }, accessFlags := 1, code := some k9c0 }
def k9c1 : Code := { maxStack := 2, maxLocals := 2, code := jdk_78_method_2_code, exceptionTable := #[], attributes := #[] }
def k9m1 : Method := { name := "<init>", desc := "(Ljava/lang/String;)V", sig := { parameters := [(.object "java/lang/String")], returnType := none }, accessFlags := 1, code := some k9c1 }
def k9c2 : Code := { maxStack := 1, maxLocals := 1, code := jdk_78_method_6_code, exceptionTable := #[], attributes := #[] }
def k9m2 : Method := { name := "getMessage", desc := "()Ljava/lang/String;", sig := { parameters := [], returnType := some (.object "java/lang/String") }, accessFlags := 1, code := some k9c2 }
def k9c3 : Code := { maxStack := 2, maxLocals := 1, code := ⟨#[0x2a, 0xb4, 0x00, 0x11, 0xc7, 0x00, 0x0a, 0x2a, 0xb4, 0x00, 0xc6, 0xc6, 0x00, 0x10, 0x2a, 0x03, 0xb6, 0x00, 0xca, 0x57, 0x2a, 0xb2, 0x00, 0x0d, 0xb5, 0x00, 0x11, 0x2a, 0xb0]⟩, exceptionTable := #[], attributes := #[] }
def k9m3 : Method := { name := "fillInStackTrace", desc := "()Ljava/lang/Throwable;", sig := { parameters := [], returnType := some (.object "java/lang/Throwable") }, accessFlags := 33, code := some k9c3 }
def k9m4 : Method := { name := "fillInStackTrace", desc := "(I)Ljava/lang/Throwable;", sig := { parameters := [.int], returnType := some (.object "java/lang/Throwable") }, accessFlags := 258, code := none }
/-- java/lang/Throwable -/
def k9 : Class := { plain "java/lang/Throwable" (some 0) with
  accessFlags := 33
  interfaces := #[2]
  cf := some (fileOf pool9 8 #[.nestMembers #[193, 93, 101, 269]] #[{ accessFlags := 1, nameIndex := 5, descriptorIndex := 6, attributes := #[] }, { accessFlags := 1, nameIndex := 5, descriptorIndex := 223, attributes := #[] }, { accessFlags := 1, nameIndex := 41, descriptorIndex := 38, attributes := #[] }, { accessFlags := 33, nameIndex := 29, descriptorIndex := 30, attributes := #[] }, { accessFlags := 258, nameIndex := 29, descriptorIndex := 204, attributes := #[] }] 33 2 #[318] #[{ accessFlags := 26, nameIndex := 320, descriptorIndex := 321, attributes := #[] }, { accessFlags := 130, nameIndex := 200, descriptorIndex := 201, attributes := #[] }, { accessFlags := 2, nameIndex := 33, descriptorIndex := 34, attributes := #[] }, { accessFlags := 26, nameIndex := 15, descriptorIndex := 16, attributes := #[] }, { accessFlags := 2, nameIndex := 11, descriptorIndex := 12, attributes := #[] }, { accessFlags := 2, nameIndex := 19, descriptorIndex := 16, attributes := #[] }, { accessFlags := 130, nameIndex := 211, descriptorIndex := 212, attributes := #[] }, { accessFlags := 26, nameIndex := 22, descriptorIndex := 23, attributes := #[] }, { accessFlags := 2, nameIndex := 26, descriptorIndex := 23, attributes := #[] }, { accessFlags := 26, nameIndex := 327, descriptorIndex := 34, attributes := #[] }, { accessFlags := 26, nameIndex := 328, descriptorIndex := 34, attributes := #[] }, { accessFlags := 26, nameIndex := 329, descriptorIndex := 34, attributes := #[] }, { accessFlags := 26, nameIndex := 330, descriptorIndex := 34, attributes := #[] }, { accessFlags := 26, nameIndex := 304, descriptorIndex := 305, attributes := #[] }, { accessFlags := 4120, nameIndex := 165, descriptorIndex := 166, attributes := #[] }])
  fields := #[{ name := "serialVersionUID", type := .long, accessFlags := 26, slot := 0, constantValue := 0 }, { name := "backtrace", type := (.object "java/lang/Object"), accessFlags := 130, slot := 0, constantValue := 0 }, { name := "detailMessage", type := (.object "java/lang/String"), accessFlags := 2, slot := 1, constantValue := 0 }, { name := "UNASSIGNED_STACK", type := (.array (.object "java/lang/StackTraceElement")), accessFlags := 26, slot := 1, constantValue := 0 }, { name := "cause", type := (.object "java/lang/Throwable"), accessFlags := 2, slot := 2, constantValue := 0 }, { name := "stackTrace", type := (.array (.object "java/lang/StackTraceElement")), accessFlags := 2, slot := 3, constantValue := 0 }, { name := "depth", type := .int, accessFlags := 130, slot := 4, constantValue := 0 }, { name := "SUPPRESSED_SENTINEL", type := (.object "java/util/List"), accessFlags := 26, slot := 2, constantValue := 0 }, { name := "suppressedExceptions", type := (.object "java/util/List"), accessFlags := 2, slot := 5, constantValue := 0 }, { name := "NULL_CAUSE_MESSAGE", type := (.object "java/lang/String"), accessFlags := 26, slot := 3, constantValue := 0 }, { name := "SELF_SUPPRESSION_MESSAGE", type := (.object "java/lang/String"), accessFlags := 26, slot := 4, constantValue := 0 }, { name := "CAUSE_CAPTION", type := (.object "java/lang/String"), accessFlags := 26, slot := 5, constantValue := 0 }, { name := "SUPPRESSED_CAPTION", type := (.object "java/lang/String"), accessFlags := 26, slot := 6, constantValue := 0 }, { name := "EMPTY_THROWABLE_ARRAY", type := (.array (.object "java/lang/Throwable")), accessFlags := 26, slot := 7, constantValue := 0 }, { name := "$assertionsDisabled", type := .boolean, accessFlags := 4120, slot := 8, constantValue := 0 }]
  methods := #[k9m0, k9m1, k9m2, k9m3, k9m4]
  instanceTypes := #[(.object "java/lang/Object"), (.object "java/lang/String"), (.object "java/lang/Throwable"), (.array (.object "java/lang/StackTraceElement")), .int, (.object "java/util/List")]
  staticTypes := #[.long, (.array (.object "java/lang/StackTraceElement")), (.object "java/util/List"), (.object "java/lang/String"), (.object "java/lang/String"), (.object "java/lang/String"), (.object "java/lang/String"), (.array (.object "java/lang/Throwable")), .boolean]
  resolved := Array.replicate 404 none
  statics := some 1 }

def pool10 : Array CpInfo := pool [(2, .class_ 4), (1, u "java/lang/Throwable"), (0, u "<init>"), (0, u "()V"), (0, .methodref 2 8), (0, .nameAndType 5 9), (0, u "(Ljava/lang/String;)V"), (9, .class_ 20), (0, u "java/lang/Exception"), (0, u "serialVersionUID"), (0, u "J")] 17

def k10m0 : Method := { name := "<init>", desc := "()V", sig := { parameters := [], returnType := none }, accessFlags := 1, code := none }
def k10c1 : Code := { maxStack := 2, maxLocals := 2, code := jdk_59_method_2_code, exceptionTable := #[], attributes := #[] }
def k10m1 : Method := { name := "<init>", desc := "(Ljava/lang/String;)V", sig := { parameters := [(.object "java/lang/String")], returnType := none }, accessFlags := 1, code := some k10c1 }
/-- java/lang/Exception -/
def k10 : Class := { plain "java/lang/Exception" (some 9) with
  accessFlags := 33
  interfaces := #[]
  cf := some (fileOf pool10 19 #[] #[{ accessFlags := 1, nameIndex := 5, descriptorIndex := 6, attributes := #[] }, { accessFlags := 1, nameIndex := 5, descriptorIndex := 9, attributes := #[] }] 33 2 #[] #[{ accessFlags := 24, nameIndex := 21, descriptorIndex := 22, attributes := #[] }])
  fields := #[{ name := "serialVersionUID", type := .long, accessFlags := 24, slot := 0, constantValue := 0 }]
  methods := #[k10m0, k10m1]
  instanceTypes := #[(.object "java/lang/Object"), (.object "java/lang/String"), (.object "java/lang/Throwable"), (.array (.object "java/lang/StackTraceElement")), .int, (.object "java/util/List")]
  staticTypes := #[.long]
  resolved := Array.replicate 40 none
  statics := none }

def pool11 : Array CpInfo := pool [(2, .class_ 4), (1, u "java/lang/Exception"), (0, u "<init>"), (0, u "()V"), (0, .methodref 2 8), (0, .nameAndType 5 9), (0, u "(Ljava/lang/String;)V"), (9, .class_ 20), (0, u "java/lang/RuntimeException"), (0, u "serialVersionUID"), (0, u "J")] 17

def k11m0 : Method := { name := "<init>", desc := "()V", sig := { parameters := [], returnType := none }, accessFlags := 1, code := none }
def k11c1 : Code := { maxStack := 2, maxLocals := 2, code := jdk_58_method_2_code, exceptionTable := #[], attributes := #[] }
def k11m1 : Method := { name := "<init>", desc := "(Ljava/lang/String;)V", sig := { parameters := [(.object "java/lang/String")], returnType := none }, accessFlags := 1, code := some k11c1 }
/-- java/lang/RuntimeException -/
def k11 : Class := { plain "java/lang/RuntimeException" (some 10) with
  accessFlags := 33
  interfaces := #[]
  cf := some (fileOf pool11 19 #[] #[{ accessFlags := 1, nameIndex := 5, descriptorIndex := 6, attributes := #[] }, { accessFlags := 1, nameIndex := 5, descriptorIndex := 9, attributes := #[] }] 33 2 #[] #[{ accessFlags := 24, nameIndex := 21, descriptorIndex := 22, attributes := #[] }])
  fields := #[{ name := "serialVersionUID", type := .long, accessFlags := 24, slot := 0, constantValue := 0 }]
  methods := #[k11m0, k11m1]
  instanceTypes := #[(.object "java/lang/Object"), (.object "java/lang/String"), (.object "java/lang/Throwable"), (.array (.object "java/lang/StackTraceElement")), .int, (.object "java/util/List")]
  staticTypes := #[.long]
  resolved := Array.replicate 40 none
  statics := none }

def pool12 : Array CpInfo := pool [(2, .class_ 4), (1, u "java/lang/RuntimeException"), (0, u "<init>"), (0, u "()V"), (0, .methodref 2 8), (0, .nameAndType 5 9), (0, u "(Ljava/lang/String;)V"), (6, .class_ 17), (0, u "java/lang/IllegalArgumentException"), (0, u "serialVersionUID"), (0, u "J")] 15

def k12m0 : Method := { name := "<init>", desc := "()V", sig := { parameters := [], returnType := none }, accessFlags := 1, code := none }
def k12c1 : Code := { maxStack := 2, maxLocals := 2, code := jdk_57_method_2_code, exceptionTable := #[], attributes := #[] }
def k12m1 : Method := { name := "<init>", desc := "(Ljava/lang/String;)V", sig := { parameters := [(.object "java/lang/String")], returnType := none }, accessFlags := 1, code := some k12c1 }
/-- java/lang/IllegalArgumentException -/
def k12 : Class := { plain "java/lang/IllegalArgumentException" (some 11) with
  accessFlags := 33
  interfaces := #[]
  cf := some (fileOf pool12 16 #[] #[{ accessFlags := 1, nameIndex := 5, descriptorIndex := 6, attributes := #[] }, { accessFlags := 1, nameIndex := 5, descriptorIndex := 9, attributes := #[] }] 33 2 #[] #[{ accessFlags := 26, nameIndex := 18, descriptorIndex := 19, attributes := #[] }])
  fields := #[{ name := "serialVersionUID", type := .long, accessFlags := 26, slot := 0, constantValue := 0 }]
  methods := #[k12m0, k12m1]
  instanceTypes := #[(.object "java/lang/Object"), (.object "java/lang/String"), (.object "java/lang/Throwable"), (.array (.object "java/lang/StackTraceElement")), .int, (.object "java/util/List")]
  staticTypes := #[.long]
  resolved := Array.replicate 35 none
  statics := none }

def pool13 : Array CpInfo := pool [(1, .methodref 2 3), (0, .class_ 4), (0, .nameAndType 5 6), (0, u "java/lang/String"), (0, u "isEmpty"), (0, u "()Z"), (0, .class_ 8), (0, u "java/lang/StringBuilder"), (0, .methodref 7 10), (0, .nameAndType 11 12), (0, u "<init>"), (0, u "()V"), (0, .methodref 7 14), (0, .nameAndType 15 16), (0, u "append"), (0, u "(Ljava/lang/String;)Ljava/lang/StringBuilder;"), (0, .string 18), (0, u ": "), (0, .methodref 7 20), (0, .nameAndType 21 22), (0, u "toString"), (0, u "()Ljava/lang/String;"), (0, .methodref 24 25), (0, .class_ 26), (0, .nameAndType 11 27), (0, u "java/lang/IllegalArgumentException"), (0, u "(Ljava/lang/String;)V"), (0, .fieldref 29 30), (0, .class_ 31), (0, .nameAndType 32 33), (0, u "com/example/brisk_warden/briskwarden/core/UnsupportedNumberException"), (0, u "place"), (0, u "Ljava/lang/String;"), (0, .fieldref 29 35), (0, .nameAndType 36 33), (0, u "problem"), (0, .methodref 29 38), (0, .nameAndType 11 39), (0, u "(Ljava/lang/String;Ljava/lang/String;)V"), (0, u "serialVersionUID"), (0, u "J"), (6, u "at"), (0, u "(Ljava/lang/String;)Lcom/example/brisk_warden/briskwarden/core/UnsupportedNumberException;")] 2

def k13c0 : Code := { maxStack := 3, maxLocals := 3, code := prog_16_method_1_code, exceptionTable := #[], attributes := #[] }
def k13m0 : Method := { name := "<init>", desc := "(Ljava/lang/String;Ljava/lang/String;)V", sig := { parameters := [(.object "java/lang/String"), (.object "java/lang/String")], returnType := none }, accessFlags := 0, code := some k13c0 }
def k13c1 : Code := { maxStack := 4, maxLocals := 2, code := prog_16_method_2_code, exceptionTable := #[], attributes := #[] }
def k13m1 : Method := { name := "at", desc := "(Ljava/lang/String;)Lcom/example/brisk_warden/briskwarden/core/UnsupportedNumberException;", sig := { parameters := [(.object "java/lang/String")], returnType := some (.object "com/example/brisk_warden/briskwarden/core/UnsupportedNumberException") }, accessFlags := 1, code := some k13c1 }
def k13c2 : Code := { maxStack := 1, maxLocals := 1, code := prog_16_method_3_code, exceptionTable := #[], attributes := #[] }
def k13m2 : Method := { name := "place", desc := "()Ljava/lang/String;", sig := { parameters := [], returnType := some (.object "java/lang/String") }, accessFlags := 0, code := some k13c2 }
def k13c3 : Code := { maxStack := 1, maxLocals := 1, code := prog_16_method_4_code, exceptionTable := #[], attributes := #[] }
def k13m3 : Method := { name := "problem", desc := "()Ljava/lang/String;", sig := { parameters := [], returnType := some (.object "java/lang/String") }, accessFlags := 0, code := some k13c3 }
/-- com/example/brisk_warden/briskwarden/core/UnsupportedNumberException -/
def k13 : Class := { plain "com/example/brisk_warden/briskwarden/core/UnsupportedNumberException" (some 12) with
  accessFlags := 49
  interfaces := #[]
  cf := some (fileOf pool13 29 #[] #[{ accessFlags := 0, nameIndex := 11, descriptorIndex := 39, attributes := #[] }, { accessFlags := 1, nameIndex := 48, descriptorIndex := 49, attributes := #[] }, { accessFlags := 0, nameIndex := 32, descriptorIndex := 22, attributes := #[] }, { accessFlags := 0, nameIndex := 36, descriptorIndex := 22, attributes := #[] }] 49 24 #[] #[{ accessFlags := 26, nameIndex := 40, descriptorIndex := 41, attributes := #[] }, { accessFlags := 18, nameIndex := 32, descriptorIndex := 33, attributes := #[] }, { accessFlags := 18, nameIndex := 36, descriptorIndex := 33, attributes := #[] }])
  fields := #[{ name := "serialVersionUID", type := .long, accessFlags := 26, slot := 0, constantValue := 0 }, { name := "place", type := (.object "java/lang/String"), accessFlags := 18, slot := 6, constantValue := 0 }, { name := "problem", type := (.object "java/lang/String"), accessFlags := 18, slot := 7, constantValue := 0 }]
  methods := #[k13m0, k13m1, k13m2, k13m3]
  instanceTypes := #[(.object "java/lang/Object"), (.object "java/lang/String"), (.object "java/lang/Throwable"), (.array (.object "java/lang/StackTraceElement")), .int, (.object "java/util/List"), (.object "java/lang/String"), (.object "java/lang/String")]
  staticTypes := #[.long]
  resolved := Array.replicate 52 none
  statics := none }

def pool14 : Array CpInfo := pool [(1, .class_ 2), (0, u "java/lang/Appendable"), (0, .class_ 4), (0, u "java/lang/Object")] 9

/-- java/lang/Appendable -/
def k14 : Class := { plain "java/lang/Appendable" (some 0) with
  accessFlags := 1537
  interfaces := #[]
  cf := some (fileOf pool14 1 #[] #[] 1537 3 #[] #[])
  fields := #[]
  methods := #[]
  instanceTypes := #[]
  staticTypes := #[]
  resolved := Array.replicate 14 none
  statics := none }

def pool15 : Array CpInfo := pool [(1, .class_ 2), (0, u "java/lang/String"), (0, .methodref 4 5), (0, .class_ 6), (0, .nameAndType 7 8), (0, u "java/lang/Object"), (0, u "<init>"), (0, u "()V"), (1, .class_ 12), (1, u "java/lang/AbstractStringBuilder"), (0, u "EMPTYVALUE"), (0, u "[B"), (0, .fieldref 10 16), (0, .nameAndType 17 14), (0, u "value"), (0, .fieldref 1 19), (0, .nameAndType 20 21), (0, u "COMPACT_STRINGS"), (0, u "Z"), (0, .fieldref 10 23), (0, .nameAndType 24 25), (0, u "coder"), (0, u "B"), (6, .methodref 1 33), (0, .nameAndType 34 35), (0, u "length"), (0, u "()I"), (4, .methodref 1 41), (0, .nameAndType 24 42), (0, u "()B"), (2, u "append"), (0, u "(Ljava/lang/String;)Ljava/lang/AbstractStringBuilder;"), (1, .class_ 49), (0, u "java/lang/CharSequence"), (19, u "(Ljava/lang/String;)V"), (5, u "maybeLatin1"), (3, .fieldref 10 80), (0, .nameAndType 81 82), (0, u "count"), (0, u "I"), (2, u "isLatin1"), (0, u "()Z"), (13, .methodref 10 101), (0, .nameAndType 102 103), (0, u "ensureCapacityInternal"), (0, u "(I)V"), (104, .methodref 10 209), (0, .nameAndType 210 211), (0, u "putStringAt"), (0, u "(ILjava/lang/String;)V"), (5, u "inflateIfNeededFor"), (2, .nameAndType 221 222), (0, u "getBytes"), (0, u "([BIB)V"), (174, .methodref 10 398), (0, .nameAndType 217 69), (0, .methodref 1 220), (3, u "()[B"), (40, .class_ 445), (0, u "java/lang/Appendable"), (106, u "getValue")] 56

def k15m0 : Method := { name := "<init>", desc := "()V", sig := { parameters := [], returnType := none }, accessFlags := 0, code := none }
def k15c1 : Code := { maxStack := 2, maxLocals := 2, code := jdk_68_method_2_code, exceptionTable := #[], attributes := #[] }
def k15m1 : Method := { name := "<init>", desc := "(I)V", sig := { parameters := [.int], returnType := none }, accessFlags := 0, code := some k15c1 }
def k15c2 : Code := { maxStack := 1, maxLocals := 1, code := jdk_68_method_6_code, exceptionTable := #[], attributes := #[] }
def k15m2 : Method := { name := "length", desc := "()I", sig := { parameters := [], returnType := some .int }, accessFlags := 1, code := some k15c2 }
def k15c3 : Code := { maxStack := 4, maxLocals := 3, code := jdk_68_method_9_code, exceptionTable := #[], attributes := #[] }
def k15m3 : Method := { name := "ensureCapacityInternal", desc := "(I)V", sig := { parameters := [.int], returnType := none }, accessFlags := 2, code := some k15c3 }
def k15c4 : Code := { maxStack := 3, maxLocals := 3, code := jdk_68_method_22_code, exceptionTable := #[], attributes := #[] }
def k15m4 : Method := { name := "append", desc := "(Ljava/lang/String;)Ljava/lang/AbstractStringBuilder;", sig := { parameters := [(.object "java/lang/String")], returnType := some (.object "java/lang/AbstractStringBuilder") }, accessFlags := 1, code := some k15c4 }
def k15c5 : Code := { maxStack := 1, maxLocals := 1, code := jdk_68_method_64_code, exceptionTable := #[], attributes := #[] }
def k15m5 : Method := { name := "getValue", desc := "()[B", sig := { parameters := [], returnType := some (.array .byte) }, accessFlags := 16, code := some k15c5 }
def k15c6 : Code := { maxStack := 1, maxLocals := 1, code := jdk_68_method_68_code, exceptionTable := #[], attributes := #[] }
def k15m6 : Method := { name := "isLatin1", desc := "()Z", sig := { parameters := [], returnType := some .boolean }, accessFlags := 16, code := some k15c6 }
def k15c7 : Code := { maxStack := 2, maxLocals := 2, code := jdk_68_method_71_code, exceptionTable := #[], attributes := #[] }
def k15m7 : Method := { name := "inflateIfNeededFor", desc := "(Ljava/lang/String;)V", sig := { parameters := [(.object "java/lang/String")], returnType := none }, accessFlags := 2, code := some k15c7 }
def k15c8 : Code := { maxStack := 4, maxLocals := 3, code := jdk_68_method_73_code, exceptionTable := #[], attributes := #[] }
def k15m8 : Method := { name := "putStringAt", desc := "(ILjava/lang/String;)V", sig := { parameters := [.int, (.object "java/lang/String")], returnType := none }, accessFlags := 2, code := some k15c8 }
/-- java/lang/AbstractStringBuilder -/
def k15 : Class := { plain "java/lang/AbstractStringBuilder" (some 0) with
  accessFlags := 1056
  interfaces := #[14, 4]
  cf := some (fileOf pool15 10 #[] #[{ accessFlags := 0, nameIndex := 7, descriptorIndex := 8, attributes := #[] }, { accessFlags := 0, nameIndex := 7, descriptorIndex := 103, attributes := #[] }, { accessFlags := 1, nameIndex := 34, descriptorIndex := 35, attributes := #[] }, { accessFlags := 2, nameIndex := 102, descriptorIndex := 103, attributes := #[] }, { accessFlags := 1, nameIndex := 45, descriptorIndex := 46, attributes := #[] }, { accessFlags := 16, nameIndex := 552, descriptorIndex := 403, attributes := #[] }, { accessFlags := 16, nameIndex := 85, descriptorIndex := 86, attributes := #[] }, { accessFlags := 2, nameIndex := 217, descriptorIndex := 69, attributes := #[] }, { accessFlags := 2, nameIndex := 210, descriptorIndex := 211, attributes := #[] }] 1056 4 #[444, 48] #[{ accessFlags := 0, nameIndex := 17, descriptorIndex := 14, attributes := #[] }, { accessFlags := 0, nameIndex := 24, descriptorIndex := 25, attributes := #[] }, { accessFlags := 0, nameIndex := 75, descriptorIndex := 21, attributes := #[] }, { accessFlags := 0, nameIndex := 81, descriptorIndex := 82, attributes := #[] }, { accessFlags := 26, nameIndex := 13, descriptorIndex := 14, attributes := #[] }])
  fields := #[{ name := "value", type := (.array .byte), accessFlags := 0, slot := 0, constantValue := 0 }, { name := "coder", type := .byte, accessFlags := 0, slot := 1, constantValue := 0 }, { name := "maybeLatin1", type := .boolean, accessFlags := 0, slot := 2, constantValue := 0 }, { name := "count", type := .int, accessFlags := 0, slot := 3, constantValue := 0 }, { name := "EMPTYVALUE", type := (.array .byte), accessFlags := 26, slot := 0, constantValue := 0 }]
  methods := #[k15m0, k15m1, k15m2, k15m3, k15m4, k15m5, k15m6, k15m7, k15m8]
  instanceTypes := #[(.array .byte), .byte, .boolean, .int]
  staticTypes := #[(.array .byte)]
  resolved := Array.replicate 609 none
  statics := none }

def pool16 : Array CpInfo := pool [(1, .methodref 2 3), (0, .class_ 4), (0, .nameAndType 5 6), (0, u "java/lang/AbstractStringBuilder"), (0, u "<init>"), (0, u "(I)V"), (11, .class_ 20), (1, u "java/lang/String"), (3, .class_ 26), (1, u "java/lang/StringBuilder"), (0, u "append"), (0, u "(Ljava/lang/String;)Ljava/lang/StringBuilder;"), (0, .methodref 2 30), (0, .nameAndType 27 31), (0, u "(Ljava/lang/String;)Ljava/lang/AbstractStringBuilder;"), (105, .methodref 18 138), (0, .nameAndType 5 139), (0, u "(Ljava/lang/StringBuilder;)V"), (5, u "()V"), (10, u "()I"), (186, .methodref 2 344), (0, .nameAndType 345 156), (0, u "length"), (3, .class_ 350), (0, u "java/lang/Appendable"), (0, .class_ 352), (0, u "java/io/Serializable"), (0, .class_ 354), (0, u "java/lang/Comparable"), (0, .class_ 356), (0, u "java/lang/CharSequence"), (0, u "serialVersionUID"), (0, u "J"), (40, u "toString"), (0, u "()Ljava/lang/String;")] 21

def k16c0 : Code := { maxStack := 2, maxLocals := 1, code := jdk_67_method_1_code, exceptionTable := #[], attributes := #[] }
def k16m0 : Method := { name := "<init>", desc := "()V", sig := { parameters := [], returnType := none }, accessFlags := 1, code := some k16c0 }
def k16c1 : Code := { maxStack := 2, maxLocals := 2, code := jdk_67_method_7_code, exceptionTable := #[], attributes := #[] }
def k16m1 : Method := { name := "append", desc := "(Ljava/lang/String;)Ljava/lang/StringBuilder;", sig := { parameters := [(.object "java/lang/String")], returnType := some (.object "java/lang/StringBuilder") }, accessFlags := 1, code := some k16c1 }
def k16c2 : Code := { maxStack := 3, maxLocals := 1, code := jdk_67_method_42_code, exceptionTable := #[], attributes := #[] }
def k16m2 : Method := { name := "toString", desc := "()Ljava/lang/String;", sig := { parameters := [], returnType := some (.object "java/lang/String") }, accessFlags := 1, code := some k16c2 }
def k16c3 : Code := { maxStack := 1, maxLocals := 1, code := jdk_67_method_93_code, exceptionTable := #[], attributes := #[] }
def k16m3 : Method := { name := "length", desc := "()I", sig := { parameters := [], returnType := some .int }, accessFlags := 4161, code := some k16c3 }
/-- java/lang/StringBuilder -/
def k16 : Class := { plain "java/lang/StringBuilder" (some 15) with
  accessFlags := 49
  interfaces := #[14, 2, 3, 4]
  cf := some (fileOf pool16 24 #[] #[{ accessFlags := 1, nameIndex := 5, descriptorIndex := 145, attributes := #[] }, { accessFlags := 1, nameIndex := 27, descriptorIndex := 28, attributes := #[] }, { accessFlags := 1, nameIndex := 399, descriptorIndex := 400, attributes := #[] }, { accessFlags := 4161, nameIndex := 345, descriptorIndex := 156, attributes := #[] }] 49 2 #[349, 351, 353, 355] #[{ accessFlags := 24, nameIndex := 357, descriptorIndex := 358, attributes := #[] }])
  fields := #[{ name := "serialVersionUID", type := .long, accessFlags := 24, slot := 0, constantValue := 0 }]
  methods := #[k16m0, k16m1, k16m2, k16m3]
  instanceTypes := #[(.array .byte), .byte, .boolean, .int]
  staticTypes := #[.long]
  resolved := Array.replicate 422 none
  statics := none }

def pool17 : Array CpInfo := pool [(2, .class_ 4), (1, u "java/lang/Object"), (0, u "<init>"), (0, u "()V"), (1, .class_ 10), (1, u "java/lang/System"), (0, u "allowSecurityManager"), (0, u "I"), (16, u "cons"), (0, u "Ljava/io/Console;"), (77, .class_ 110), (1, u "java/lang/System$CallersHolder"), (43, u "initialErrStream"), (0, u "Ljava/io/PrintStream;"), (19, u "security"), (0, u "Ljava/lang/SecurityManager;"), (31, .class_ 209), (0, u "java/lang/System$1"), (7, u "props"), (0, u "Ljava/util/Properties;"), (2, u "lineSeparator"), (0, u "Ljava/lang/String;"), (96, .class_ 321), (1, u "java/lang/System$LoggerFinder"), (5, .class_ 328), (0, u "java/lang/System$Logger"), (67, u "err"), (2, u "out"), (91, u "notSupportedJnuEncoding"), (15, u "in"), (17, u "initialIn"), (0, u "Ljava/io/InputStream;"), (35, u "bootLayer"), (0, u "Ljava/lang/ModuleLayer;"), (99, .class_ 664), (0, u "java/lang/System$2"), (9, u "NEVER"), (2, u "MAYBE"), (49, u "arraycopy"), (0, u "(Ljava/lang/Object;ILjava/lang/Object;II)V"), (72, .class_ 802), (0, u "java/lang/System$Logger$Level")] 31

def k17m0 : Method := { name := "<init>", desc := "()V", sig := { parameters := [], returnType := none }, accessFlags := 2, code := none }
def k17m1 : Method := { name := "arraycopy", desc := "(Ljava/lang/Object;ILjava/lang/Object;II)V", sig := { parameters := [(.object "java/lang/Object"), .int, (.object "java/lang/Object"), .int, .int], returnType := none }, accessFlags := 265, code := none }
/-- java/lang/System -/
def k17 : Class := { plain "java/lang/System" (some 0) with
  accessFlags := 49
  interfaces := #[]
  cf := some (fileOf pool17 8 #[.nestMembers #[319, 327, 801, 108, 663, 208]] #[{ accessFlags := 2, nameIndex := 5, descriptorIndex := 6, attributes := #[] }, { accessFlags := 265, nameIndex := 727, descriptorIndex := 728, attributes := #[] }] 49 2 #[] #[{ accessFlags := 25, nameIndex := 507, descriptorIndex := 526, attributes := #[] }, { accessFlags := 25, nameIndex := 399, descriptorIndex := 155, attributes := #[] }, { accessFlags := 25, nameIndex := 396, descriptorIndex := 155, attributes := #[] }, { accessFlags := 10, nameIndex := 525, descriptorIndex := 526, attributes := #[] }, { accessFlags := 26, nameIndex := 674, descriptorIndex := 12, attributes := #[] }, { accessFlags := 26, nameIndex := 677, descriptorIndex := 12, attributes := #[] }, { accessFlags := 10, nameIndex := 11, descriptorIndex := 12, attributes := #[] }, { accessFlags := 74, nameIndex := 175, descriptorIndex := 176, attributes := #[] }, { accessFlags := 10, nameIndex := 491, descriptorIndex := 222, attributes := #[] }, { accessFlags := 74, nameIndex := 29, descriptorIndex := 30, attributes := #[] }, { accessFlags := 74, nameIndex := 154, descriptorIndex := 155, attributes := #[] }, { accessFlags := 10, nameIndex := 217, descriptorIndex := 218, attributes := #[] }, { accessFlags := 10, nameIndex := 221, descriptorIndex := 222, attributes := #[] }, { accessFlags := 8, nameIndex := 562, descriptorIndex := 563, attributes := #[] }])
  fields := #[{ name := "in", type := (.object "java/io/InputStream"), accessFlags := 25, slot := 0, constantValue := 0 }, { name := "out", type := (.object "java/io/PrintStream"), accessFlags := 25, slot := 1, constantValue := 0 }, { name := "err", type := (.object "java/io/PrintStream"), accessFlags := 25, slot := 2, constantValue := 0 }, { name := "initialIn", type := (.object "java/io/InputStream"), accessFlags := 10, slot := 3, constantValue := 0 }, { name := "NEVER", type := .int, accessFlags := 26, slot := 4, constantValue := 0 }, { name := "MAYBE", type := .int, accessFlags := 26, slot := 5, constantValue := 0 }, { name := "allowSecurityManager", type := .int, accessFlags := 10, slot := 6, constantValue := 0 }, { name := "security", type := (.object "java/lang/SecurityManager"), accessFlags := 74, slot := 7, constantValue := 0 }, { name := "notSupportedJnuEncoding", type := (.object "java/lang/String"), accessFlags := 10, slot := 8, constantValue := 0 }, { name := "cons", type := (.object "java/io/Console"), accessFlags := 74, slot := 9, constantValue := 0 }, { name := "initialErrStream", type := (.object "java/io/PrintStream"), accessFlags := 74, slot := 10, constantValue := 0 }, { name := "props", type := (.object "java/util/Properties"), accessFlags := 10, slot := 11, constantValue := 0 }, { name := "lineSeparator", type := (.object "java/lang/String"), accessFlags := 10, slot := 12, constantValue := 0 }, { name := "bootLayer", type := (.object "java/lang/ModuleLayer"), accessFlags := 8, slot := 13, constantValue := 0 }]
  methods := #[k17m0, k17m1]
  instanceTypes := #[]
  staticTypes := #[(.object "java/io/InputStream"), (.object "java/io/PrintStream"), (.object "java/io/PrintStream"), (.object "java/io/InputStream"), .int, .int, .int, (.object "java/lang/SecurityManager"), (.object "java/lang/String"), (.object "java/io/Console"), (.object "java/io/PrintStream"), (.object "java/util/Properties"), (.object "java/lang/String"), (.object "java/lang/ModuleLayer")]
  resolved := Array.replicate 834 none
  statics := none }

def pool18 : Array CpInfo := pool [(2, .class_ 4), (1, u "java/lang/Object"), (0, u "<init>"), (0, u "()V"), (7, .class_ 16), (1, u "java/util/Arrays"), (57, .class_ 76), (1, u "java/util/Arrays$NaturalOrder"), (36, .class_ 115), (1, u "java/util/Arrays$LegacyMergeSort"), (1, u "Z"), (21, u "copyOfRange"), (10, .methodref 151 152), (0, .class_ 153), (0, .nameAndType 154 155), (0, u "java/lang/System"), (0, u "arraycopy"), (0, u "(Ljava/lang/Object;ILjava/lang/Object;II)V"), (148, .methodref 305 306), (0, .class_ 307), (0, .nameAndType 308 309), (0, u "java/lang/Math"), (0, u "min"), (0, u "(II)I"), (29, .methodref 14 340), (0, .nameAndType 341 342), (0, u "copyOfRangeByte"), (0, u "([BII)[B"), (0, .methodref 14 344), (0, .nameAndType 345 346), (0, u "checkLength"), (0, u "(II)V"), (28, .class_ 376), (0, u "java/util/Arrays$ArrayList"), (68, u "$assertionsDisabled"), (269, u "MIN_ARRAY_SORT_GRAN"), (0, u "I"), (2, u "INSERTIONSORT_THRESHOLD"), (255, .class_ 976), (0, u "java/util/Arrays$ArrayItr")] 52

def k18m0 : Method := { name := "<init>", desc := "()V", sig := { parameters := [], returnType := none }, accessFlags := 2, code := none }
def k18c1 : Code := { maxStack := 4, maxLocals := 2, code := jdk_65_method_131_code, exceptionTable := #[], attributes := #[] }
def k18m1 : Method := { name := "checkLength", desc := "(II)V", sig := { parameters := [.int, .int], returnType := none }, accessFlags := 10, code := some k18c1 }
def k18c2 : Code := { maxStack := 3, maxLocals := 3, code := jdk_65_method_132_code, exceptionTable := #[], attributes := #[] }
def k18m2 : Method := { name := "copyOfRange", desc := "([BII)[B", sig := { parameters := [(.array .byte), .int, .int], returnType := some (.array .byte) }, accessFlags := 9, code := some k18c2 }
def k18c3 : Code := { maxStack := 6, maxLocals := 5, code := jdk_65_method_133_code, exceptionTable := #[], attributes := #[] }
def k18m3 : Method := { name := "copyOfRangeByte", desc := "([BII)[B", sig := { parameters := [(.array .byte), .int, .int], returnType := some (.array .byte) }, accessFlags := 10, code := some k18c3 }
/-- java/util/Arrays -/
def k18 : Class := { plain "java/util/Arrays" (some 0) with
  accessFlags := 49
  interfaces := #[]
  cf := some (fileOf pool18 14 #[.nestMembers #[975, 375, 113, 74]] #[{ accessFlags := 2, nameIndex := 5, descriptorIndex := 6, attributes := #[] }, { accessFlags := 10, nameIndex := 345, descriptorIndex := 346, attributes := #[] }, { accessFlags := 9, nameIndex := 139, descriptorIndex := 342, attributes := #[] }, { accessFlags := 10, nameIndex := 341, descriptorIndex := 342, attributes := #[] }] 49 2 #[] #[{ accessFlags := 26, nameIndex := 715, descriptorIndex := 716, attributes := #[] }, { accessFlags := 26, nameIndex := 719, descriptorIndex := 716, attributes := #[] }, { accessFlags := 4120, nameIndex := 445, descriptorIndex := 117, attributes := #[] }])
  fields := #[{ name := "MIN_ARRAY_SORT_GRAN", type := .int, accessFlags := 26, slot := 0, constantValue := 0 }, { name := "INSERTIONSORT_THRESHOLD", type := .int, accessFlags := 26, slot := 1, constantValue := 0 }, { name := "$assertionsDisabled", type := .boolean, accessFlags := 4120, slot := 2, constantValue := 0 }]
  methods := #[k18m0, k18m1, k18m2, k18m3]
  instanceTypes := #[]
  staticTypes := #[.int, .int, .boolean]
  resolved := Array.replicate 1029 none
  statics := none }

def pool19 : Array CpInfo := pool [(1, .class_ 2), (0, u "java/lang/Math"), (1, .class_ 6), (1, u "java/lang/Object"), (0, u "<init>"), (0, u "()V"), (89, .class_ 100), (1, u "java/lang/Math$RandomNumberGeneratorHolder"), (71, u "negativeZeroFloatBits"), (0, u "J"), (2, u "negativeZeroDoubleBits"), (24, u "min"), (43, u "$assertionsDisabled"), (0, u "Z"), (88, u "(II)I"), (2, u "twoToTheDoubleScaleDown"), (0, u "D"), (4, u "twoToTheDoubleScaleUp"), (9, u "E"), (3, u "PI"), (2, u "TAU"), (2, u "DEGREES_TO_RADIANS"), (0, u "RADIANS_TO_DEGREES")] 94

def k19m0 : Method := { name := "<init>", desc := "()V", sig := { parameters := [], returnType := none }, accessFlags := 2, code := none }
def k19c1 : Code := { maxStack := 2, maxLocals := 2, code := jdk_29_method_69_code, exceptionTable := #[], attributes := #[] }
def k19m1 : Method := { name := "min", desc := "(II)I", sig := { parameters := [.int, .int], returnType := some .int }, accessFlags := 9, code := some k19c1 }
/-- java/lang/Math -/
def k19 : Class := { plain "java/lang/Math" (some 0) with
  accessFlags := 49
  interfaces := #[]
  cf := some (fileOf pool19 1 #[.nestMembers #[98]] #[{ accessFlags := 2, nameIndex := 7, descriptorIndex := 8, attributes := #[] }, { accessFlags := 9, nameIndex := 201, descriptorIndex := 335, attributes := #[] }] 49 4 #[] #[{ accessFlags := 25, nameIndex := 354, descriptorIndex := 339, attributes := #[] }, { accessFlags := 25, nameIndex := 358, descriptorIndex := 339, attributes := #[] }, { accessFlags := 25, nameIndex := 361, descriptorIndex := 339, attributes := #[] }, { accessFlags := 26, nameIndex := 364, descriptorIndex := 339, attributes := #[] }, { accessFlags := 26, nameIndex := 365, descriptorIndex := 339, attributes := #[] }, { accessFlags := 26, nameIndex := 172, descriptorIndex := 173, attributes := #[] }, { accessFlags := 26, nameIndex := 176, descriptorIndex := 173, attributes := #[] }, { accessFlags := 8, nameIndex := 344, descriptorIndex := 339, attributes := #[] }, { accessFlags := 8, nameIndex := 338, descriptorIndex := 339, attributes := #[] }, { accessFlags := 4120, nameIndex := 245, descriptorIndex := 246, attributes := #[] }])
  fields := #[{ name := "E", type := .double, accessFlags := 25, slot := 0, constantValue := 0 }, { name := "PI", type := .double, accessFlags := 25, slot := 1, constantValue := 0 }, { name := "TAU", type := .double, accessFlags := 25, slot := 2, constantValue := 0 }, { name := "DEGREES_TO_RADIANS", type := .double, accessFlags := 26, slot := 3, constantValue := 0 }, { name := "RADIANS_TO_DEGREES", type := .double, accessFlags := 26, slot := 4, constantValue := 0 }, { name := "negativeZeroFloatBits", type := .long, accessFlags := 26, slot := 5, constantValue := 0 }, { name := "negativeZeroDoubleBits", type := .long, accessFlags := 26, slot := 6, constantValue := 0 }, { name := "twoToTheDoubleScaleUp", type := .double, accessFlags := 8, slot := 7, constantValue := 0 }, { name := "twoToTheDoubleScaleDown", type := .double, accessFlags := 8, slot := 8, constantValue := 0 }, { name := "$assertionsDisabled", type := .boolean, accessFlags := 4120, slot := 9, constantValue := 0 }]
  methods := #[k19m0, k19m1]
  instanceTypes := #[]
  staticTypes := #[.double, .double, .double, .double, .double, .long, .long, .double, .double, .boolean]
  resolved := Array.replicate 460 none
  statics := none }

def pool20 : Array CpInfo := pool [(2, .class_ 4), (1, u "java/lang/Object"), (0, u "<init>"), (0, u "()V"), (17, .class_ 26), (1, u "jdk/internal/util/Preconditions"), (6, u "checkIndex"), (21, .class_ 56), (0, u "jdk/internal/util/Preconditions$4"), (57, .class_ 115), (0, u "jdk/internal/util/Preconditions$1"), (7, u "SIOOBE_FORMATTER"), (0, u "Ljava/util/function/BiFunction;"), (0, .class_ 126), (0, u "jdk/internal/util/Preconditions$2"), (3, u "AIOOBE_FORMATTER"), (0, .class_ 132), (0, u "jdk/internal/util/Preconditions$3"), (3, u "IOOBE_FORMATTER"), (41, u "(IILjava/util/function/BiFunction;)I")] 15

def k20m0 : Method := { name := "<init>", desc := "()V", sig := { parameters := [], returnType := none }, accessFlags := 1, code := none }
def k20c1 : Code := { maxStack := 3, maxLocals := 3, code := jdk_41_method_11_code, exceptionTable := #[], attributes := #[] }
def k20m1 : Method := { name := "checkIndex", desc := "(IILjava/util/function/BiFunction;)I", sig := { parameters := [.int, .int, (.object "java/util/function/BiFunction")], returnType := some .int }, accessFlags := 9, code := some k20c1 }
/-- jdk/internal/util/Preconditions -/
def k20 : Class := { plain "jdk/internal/util/Preconditions" (some 0) with
  accessFlags := 33
  interfaces := #[]
  cf := some (fileOf pool20 24 #[.nestMembers #[55, 131, 125, 114]] #[{ accessFlags := 1, nameIndex := 5, descriptorIndex := 6, attributes := #[] }, { accessFlags := 9, nameIndex := 33, descriptorIndex := 178, attributes := #[] }] 33 2 #[] #[{ accessFlags := 25, nameIndex := 123, descriptorIndex := 124, attributes := #[] }, { accessFlags := 25, nameIndex := 130, descriptorIndex := 124, attributes := #[] }, { accessFlags := 25, nameIndex := 136, descriptorIndex := 124, attributes := #[] }])
  fields := #[{ name := "SIOOBE_FORMATTER", type := (.object "java/util/function/BiFunction"), accessFlags := 25, slot := 0, constantValue := 0 }, { name := "AIOOBE_FORMATTER", type := (.object "java/util/function/BiFunction"), accessFlags := 25, slot := 1, constantValue := 0 }, { name := "IOOBE_FORMATTER", type := (.object "java/util/function/BiFunction"), accessFlags := 25, slot := 2, constantValue := 0 }]
  methods := #[k20m0, k20m1]
  instanceTypes := #[]
  staticTypes := #[(.object "java/util/function/BiFunction"), (.object "java/util/function/BiFunction"), (.object "java/util/function/BiFunction")]
  resolved := Array.replicate 194 none
  statics := some 2 }

def pool21 : Array CpInfo := pool [(6, .class_ 8), (1, u "java/lang/Object"), (0, u "<init>"), (0, u "()V"), (1, .class_ 14), (1, u "java/lang/StringUTF16"), (31, u "$assertionsDisabled"), (0, u "Z"), (13, u "HI_BYTE_SHIFT"), (0, u "I"), (2, u "LO_BYTE_SHIFT"), (49, .methodref 12 116), (0, .nameAndType 117 118), (0, u "compress"), (0, u "([CI[BII)I"), (3, u "([CII)[B"), (138, u "coderFromArrayLen"), (0, u "([BI)B"), (106, .class_ 371), (1, u "java/lang/StringUTF16$LinesSpliterator"), (58, u "MAX_LENGTH"), (196, .class_ 628), (0, u "java/lang/StringUTF16$CodePointsSpliterator"), (0, .class_ 630), (0, u "java/lang/StringUTF16$CharsSpliterator")] 4

def k21m0 : Method := { name := "<init>", desc := "()V", sig := { parameters := [], returnType := none }, accessFlags := 0, code := none }
def k21c1 : Code := { maxStack := 2, maxLocals := 2, code := jdk_52_method_15_code, exceptionTable := #[], attributes := #[] }
def k21m1 : Method := { name := "coderFromArrayLen", desc := "([BI)B", sig := { parameters := [(.array .byte), .int], returnType := some .byte }, accessFlags := 8, code := some k21c1 }
def k21c2 : Code := { maxStack := 5, maxLocals := 6, code := jdk_52_method_16_code, exceptionTable := #[], attributes := #[] }
def k21m2 : Method := { name := "compress", desc := "([CII)[B", sig := { parameters := [(.array .char), .int, .int], returnType := some (.array .byte) }, accessFlags := 9, code := some k21c2 }
def k21c3 : Code := { maxStack := 3, maxLocals := 7, code := jdk_52_method_21_code, exceptionTable := #[], attributes := #[] }
def k21m3 : Method := { name := "compress", desc := "([CI[BII)I", sig := { parameters := [(.array .char), .int, (.array .byte), .int, .int], returnType := some .int }, accessFlags := 9, code := some k21c3 }
/-- java/lang/StringUTF16 -/
def k21 : Class := { plain "java/lang/StringUTF16" (some 0) with
  accessFlags := 48
  interfaces := #[]
  cf := some (fileOf pool21 12 #[.nestMembers #[627, 629, 369]] #[{ accessFlags := 0, nameIndex := 9, descriptorIndex := 10, attributes := #[] }, { accessFlags := 8, nameIndex := 261, descriptorIndex := 262, attributes := #[] }, { accessFlags := 9, nameIndex := 117, descriptorIndex := 122, attributes := #[] }, { accessFlags := 9, nameIndex := 117, descriptorIndex := 118, attributes := #[] }] 48 6 #[] #[{ accessFlags := 26, nameIndex := 61, descriptorIndex := 62, attributes := #[] }, { accessFlags := 26, nameIndex := 65, descriptorIndex := 62, attributes := #[] }, { accessFlags := 24, nameIndex := 430, descriptorIndex := 62, attributes := #[] }, { accessFlags := 4120, nameIndex := 46, descriptorIndex := 47, attributes := #[] }])
  fields := #[{ name := "HI_BYTE_SHIFT", type := .int, accessFlags := 26, slot := 0, constantValue := 0 }, { name := "LO_BYTE_SHIFT", type := .int, accessFlags := 26, slot := 1, constantValue := 0 }, { name := "MAX_LENGTH", type := .int, accessFlags := 24, slot := 2, constantValue := 0 }, { name := "$assertionsDisabled", type := .boolean, accessFlags := 4120, slot := 3, constantValue := 0 }]
  methods := #[k21m0, k21m1, k21m2, k21m3]
  instanceTypes := #[]
  staticTypes := #[.int, .int, .int, .boolean]
  resolved := Array.replicate 635 none
  statics := none }

def pool22 : Array CpInfo := pool [(9, u "<init>"), (6, .class_ 18), (1, u "java/lang/Object"), (0, u "()V"), (1, .class_ 23), (1, u "jdk/internal/util/ArraysSupport"), (0, u "LOG2_ARRAY_LONG_INDEX_SCALE"), (0, u "I"), (2, u "U"), (0, u "Ljdk/internal/misc/Unsafe;"), (8, u "BIG_ENDIAN"), (0, u "Z"), (8, u "LOG2_BYTE_BIT_SIZE"), (4, u "LOG2_ARRAY_INT_INDEX_SCALE"), (54, u "JLA"), (0, u "Ljdk/internal/access/JavaLangAccess;"), (11, u "LOG2_ARRAY_BOOLEAN_INDEX_SCALE"), (9, u "LOG2_ARRAY_BYTE_INDEX_SCALE"), (5, u "LOG2_ARRAY_CHAR_INDEX_SCALE"), (5, u "LOG2_ARRAY_SHORT_INDEX_SCALE"), (18, u "LOG2_ARRAY_FLOAT_INDEX_SCALE"), (24, u "LOG2_ARRAY_DOUBLE_INDEX_SCALE"), (89, u "T_BOOLEAN"), (2, u "T_CHAR"), (1, u "T_FLOAT"), (1, u "T_DOUBLE"), (1, u "T_BYTE"), (1, u "T_SHORT"), (1, u "T_INT"), (1, u "T_LONG"), (1, u "SOFT_MAX_ARRAY_LENGTH")] 83

def k22m0 : Method := { name := "<init>", desc := "()V", sig := { parameters := [], returnType := none }, accessFlags := 2, code := none }
/-- jdk/internal/util/ArraysSupport -/
def k22 : Class := { plain "jdk/internal/util/ArraysSupport" (some 0) with
  accessFlags := 33
  interfaces := #[]
  cf := some (fileOf pool22 21 #[] #[{ accessFlags := 2, nameIndex := 9, descriptorIndex := 19, attributes := #[] }] 33 16 #[] #[{ accessFlags := 24, nameIndex := 28, descriptorIndex := 29, attributes := #[] }, { accessFlags := 26, nameIndex := 38, descriptorIndex := 39, attributes := #[] }, { accessFlags := 25, nameIndex := 121, descriptorIndex := 25, attributes := #[] }, { accessFlags := 25, nameIndex := 131, descriptorIndex := 25, attributes := #[] }, { accessFlags := 25, nameIndex := 137, descriptorIndex := 25, attributes := #[] }, { accessFlags := 25, nameIndex := 143, descriptorIndex := 25, attributes := #[] }, { accessFlags := 25, nameIndex := 53, descriptorIndex := 25, attributes := #[] }, { accessFlags := 25, nameIndex := 24, descriptorIndex := 25, attributes := #[] }, { accessFlags := 25, nameIndex := 162, descriptorIndex := 25, attributes := #[] }, { accessFlags := 25, nameIndex := 187, descriptorIndex := 25, attributes := #[] }, { accessFlags := 26, nameIndex := 48, descriptorIndex := 25, attributes := #[] }, { accessFlags := 25, nameIndex := 277, descriptorIndex := 25, attributes := #[] }, { accessFlags := 25, nameIndex := 280, descriptorIndex := 25, attributes := #[] }, { accessFlags := 25, nameIndex := 282, descriptorIndex := 25, attributes := #[] }, { accessFlags := 25, nameIndex := 284, descriptorIndex := 25, attributes := #[] }, { accessFlags := 25, nameIndex := 286, descriptorIndex := 25, attributes := #[] }, { accessFlags := 25, nameIndex := 288, descriptorIndex := 25, attributes := #[] }, { accessFlags := 25, nameIndex := 290, descriptorIndex := 25, attributes := #[] }, { accessFlags := 25, nameIndex := 292, descriptorIndex := 25, attributes := #[] }, { accessFlags := 26, nameIndex := 108, descriptorIndex := 109, attributes := #[] }, { accessFlags := 25, nameIndex := 294, descriptorIndex := 25, attributes := #[] }])
  fields := #[{ name := "U", type := (.object "jdk/internal/misc/Unsafe"), accessFlags := 24, slot := 0, constantValue := 0 }, { name := "BIG_ENDIAN", type := .boolean, accessFlags := 26, slot := 1, constantValue := 0 }, { name := "LOG2_ARRAY_BOOLEAN_INDEX_SCALE", type := .int, accessFlags := 25, slot := 2, constantValue := 0 }, { name := "LOG2_ARRAY_BYTE_INDEX_SCALE", type := .int, accessFlags := 25, slot := 3, constantValue := 0 }, { name := "LOG2_ARRAY_CHAR_INDEX_SCALE", type := .int, accessFlags := 25, slot := 4, constantValue := 0 }, { name := "LOG2_ARRAY_SHORT_INDEX_SCALE", type := .int, accessFlags := 25, slot := 5, constantValue := 0 }, { name := "LOG2_ARRAY_INT_INDEX_SCALE", type := .int, accessFlags := 25, slot := 6, constantValue := 0 }, { name := "LOG2_ARRAY_LONG_INDEX_SCALE", type := .int, accessFlags := 25, slot := 7, constantValue := 0 }, { name := "LOG2_ARRAY_FLOAT_INDEX_SCALE", type := .int, accessFlags := 25, slot := 8, constantValue := 0 }, { name := "LOG2_ARRAY_DOUBLE_INDEX_SCALE", type := .int, accessFlags := 25, slot := 9, constantValue := 0 }, { name := "LOG2_BYTE_BIT_SIZE", type := .int, accessFlags := 26, slot := 10, constantValue := 0 }, { name := "T_BOOLEAN", type := .int, accessFlags := 25, slot := 11, constantValue := 0 }, { name := "T_CHAR", type := .int, accessFlags := 25, slot := 12, constantValue := 0 }, { name := "T_FLOAT", type := .int, accessFlags := 25, slot := 13, constantValue := 0 }, { name := "T_DOUBLE", type := .int, accessFlags := 25, slot := 14, constantValue := 0 }, { name := "T_BYTE", type := .int, accessFlags := 25, slot := 15, constantValue := 0 }, { name := "T_SHORT", type := .int, accessFlags := 25, slot := 16, constantValue := 0 }, { name := "T_INT", type := .int, accessFlags := 25, slot := 17, constantValue := 0 }, { name := "T_LONG", type := .int, accessFlags := 25, slot := 18, constantValue := 0 }, { name := "JLA", type := (.object "jdk/internal/access/JavaLangAccess"), accessFlags := 26, slot := 19, constantValue := 0 }, { name := "SOFT_MAX_ARRAY_LENGTH", type := .int, accessFlags := 25, slot := 20, constantValue := 0 }]
  methods := #[k22m0]
  instanceTypes := #[]
  staticTypes := #[(.object "jdk/internal/misc/Unsafe"), .boolean, .int, .int, .int, .int, .int, .int, .int, .int, .int, .int, .int, .int, .int, .int, .int, .int, .int, (.object "jdk/internal/access/JavaLangAccess"), .int]
  resolved := Array.replicate 378 none
  statics := none }

def pool23 : Array CpInfo := pool [(2, .class_ 4), (1, u "java/lang/Object"), (0, u "<init>"), (0, u "()V"), (12, .class_ 20), (0, u "java/util/Collections"), (63, u "r"), (0, u "Ljava/util/Random;"), (80, .class_ 167), (0, u "java/util/Collections$UnmodifiableCollection"), (6, .class_ 175), (0, u "java/util/Collections$UnmodifiableSequencedCollection"), (6, .class_ 183), (0, u "java/util/Collections$UnmodifiableSet"), (6, .class_ 191), (0, u "java/util/Collections$UnmodifiableSequencedSet"), (6, .class_ 199), (0, u "java/util/Collections$UnmodifiableSortedSet"), (6, .class_ 207), (0, u "java/util/Collections$UnmodifiableNavigableSet"), (4, .class_ 213), (0, u "java/util/Collections$UnmodifiableList"), (1, .class_ 216), (0, u "java/util/Collections$UnmodifiableRandomAccessList"), (6, .class_ 224), (0, u "java/util/Collections$UnmodifiableMap"), (6, .class_ 232), (0, u "java/util/Collections$UnmodifiableSequencedMap"), (4, .class_ 238), (0, u "java/util/Collections$UnmodifiableSortedMap"), (6, .class_ 246), (0, u "java/util/Collections$UnmodifiableNavigableMap"), (3, .class_ 251), (0, u "java/util/Collections$SynchronizedCollection"), (4, .class_ 257), (0, u "java/util/Collections$SynchronizedSet"), (4, .class_ 263), (0, u "java/util/Collections$SynchronizedSortedSet"), (1, .class_ 266), (0, u "java/util/Collections$SynchronizedNavigableSet"), (1, .class_ 269), (0, u "java/util/Collections$SynchronizedRandomAccessList"), (1, .class_ 272), (0, u "java/util/Collections$SynchronizedList"), (5, .class_ 279), (0, u "java/util/Collections$SynchronizedMap"), (1, .class_ 282), (0, u "java/util/Collections$SynchronizedSortedMap"), (1, .class_ 285), (0, u "java/util/Collections$SynchronizedNavigableMap"), (1, .class_ 288), (0, u "java/util/Collections$CheckedCollection"), (11, .class_ 301), (0, u "java/util/Collections$CheckedQueue"), (3, .class_ 306), (0, u "java/util/Collections$CheckedSet"), (3, .class_ 311), (0, u "java/util/Collections$CheckedSortedSet"), (3, .class_ 316), (0, u "java/util/Collections$CheckedNavigableSet"), (3, .class_ 321), (0, u "java/util/Collections$CheckedRandomAccessList"), (3, .class_ 326), (0, u "java/util/Collections$CheckedList"), (1, .class_ 329), (0, u "java/util/Collections$CheckedMap"), (3, .class_ 334), (0, u "java/util/Collections$CheckedSortedMap"), (3, .class_ 339), (0, u "java/util/Collections$CheckedNavigableMap"), (4, .class_ 346), (1, u "java/util/Collections$EmptyIterator"), (3, .class_ 352), (1, u "java/util/Collections$EmptyListIterator"), (2, .class_ 357), (1, u "java/util/Collections$EmptyEnumeration"), (4, u "EMPTY_SET"), (0, u "Ljava/util/Set;"), (6, u "EMPTY_LIST"), (0, u "Ljava/util/List;"), (2, u "EMPTY_MAP"), (0, u "Ljava/util/Map;"), (4, .class_ 381), (0, u "java/util/Collections$SingletonSet"), (2, .class_ 385), (0, u "java/util/Collections$1"), (1, .class_ 388), (0, u "java/util/Collections$2"), (1, .class_ 391), (0, u "java/util/Collections$SingletonList"), (1, .class_ 394), (0, u "java/util/Collections$SingletonMap"), (22, .class_ 418), (0, u "java/util/Collections$CopiesList"), (4, .class_ 425), (1, u "java/util/Collections$ReverseComparator"), (8, .class_ 435), (0, u "java/util/Collections$ReverseComparator2"), (6, .class_ 443), (0, u "java/util/Collections$3"), (25, .class_ 470), (0, u "java/util/Collections$SetFromMap"), (2, .class_ 474), (0, u "java/util/Collections$SequencedSetFromMap"), (3, .class_ 479), (0, u "java/util/Collections$AsLIFOQueue"), (11, .class_ 492), (0, u "java/util/Collections$EmptySet"), (1, .class_ 495), (0, u "java/util/Collections$EmptyList"), (1, .class_ 498), (0, u "java/util/Collections$EmptyMap"), (1, u "BINARYSEARCH_THRESHOLD"), (0, u "I"), (2, u "REVERSE_THRESHOLD"), (1, u "SHUFFLE_THRESHOLD"), (1, u "FILL_THRESHOLD"), (1, u "ROTATE_THRESHOLD"), (1, u "COPY_THRESHOLD"), (1, u "REPLACEALL_THRESHOLD"), (1, u "INDEXOFSUBLIST_THRESHOLD"), (333, .class_ 851), (0, u "java/util/Collections$CheckedMap$CheckedEntrySet"), (0, .class_ 853), (0, u "java/util/Collections$CheckedMap$CheckedEntrySet$CheckedEntry"), (0, .class_ 855), (0, u "java/util/Collections$CheckedMap$CheckedEntrySet$1"), (0, .class_ 857), (0, u "java/util/Collections$CheckedList$1"), (0, .class_ 859), (0, u "java/util/Collections$CheckedCollection$1"), (0, .class_ 861), (0, u "java/util/Collections$UnmodifiableNavigableMap$EmptyNavigableMap"), (0, .class_ 863), (0, u "java/util/Collections$UnmodifiableMap$UnmodifiableEntrySet"), (0, .class_ 865), (0, u "java/util/Collections$UnmodifiableMap$UnmodifiableEntrySet$UnmodifiableEntry"), (0, .class_ 867), (0, u "java/util/Collections$UnmodifiableMap$UnmodifiableEntrySet$UnmodifiableEntrySetSpliterator"), (0, .class_ 869), (0, u "java/util/Collections$UnmodifiableMap$UnmodifiableEntrySet$1"), (0, .class_ 871), (0, u "java/util/Collections$UnmodifiableList$1"), (0, .class_ 873), (0, u "java/util/Collections$UnmodifiableNavigableSet$EmptyNavigableSet"), (0, .class_ 875), (0, u "java/util/Collections$UnmodifiableCollection$1")] 57

def k23m0 : Method := { name := "<init>", desc := "()V", sig := { parameters := [], returnType := none }, accessFlags := 2, code := none }
/-- java/util/Collections -/
def k23 : Class := { plain "java/util/Collections" (some 0) with
  accessFlags := 33
  interfaces := #[]
  cf := some (fileOf pool23 19 #[.nestMembers #[478, 473, 469, 434, 423, 417, 393, 390, 380, 497, 494, 491, 355, 350, 344, 338, 333, 328, 850, 852, 854, 320, 325, 856, 315, 310, 305, 300, 287, 858, 284, 281, 278, 268, 271, 265, 262, 256, 250, 245, 860, 237, 231, 223, 862, 864, 866, 868, 215, 212, 870, 206, 872, 198, 190, 182, 174, 166, 874, 442, 387, 384]] #[{ accessFlags := 2, nameIndex := 5, descriptorIndex := 6, attributes := #[] }] 33 2 #[] #[{ accessFlags := 26, nameIndex := 500, descriptorIndex := 501, attributes := #[] }, { accessFlags := 26, nameIndex := 504, descriptorIndex := 501, attributes := #[] }, { accessFlags := 26, nameIndex := 506, descriptorIndex := 501, attributes := #[] }, { accessFlags := 26, nameIndex := 508, descriptorIndex := 501, attributes := #[] }, { accessFlags := 26, nameIndex := 510, descriptorIndex := 501, attributes := #[] }, { accessFlags := 26, nameIndex := 512, descriptorIndex := 501, attributes := #[] }, { accessFlags := 26, nameIndex := 514, descriptorIndex := 501, attributes := #[] }, { accessFlags := 26, nameIndex := 516, descriptorIndex := 501, attributes := #[] }, { accessFlags := 10, nameIndex := 84, descriptorIndex := 85, attributes := #[] }, { accessFlags := 25, nameIndex := 362, descriptorIndex := 363, attributes := #[] }, { accessFlags := 25, nameIndex := 370, descriptorIndex := 371, attributes := #[] }, { accessFlags := 25, nameIndex := 374, descriptorIndex := 375, attributes := #[] }])
  fields := #[{ name := "BINARYSEARCH_THRESHOLD", type := .int, accessFlags := 26, slot := 0, constantValue := 0 }, { name := "REVERSE_THRESHOLD", type := .int, accessFlags := 26, slot := 1, constantValue := 0 }, { name := "SHUFFLE_THRESHOLD", type := .int, accessFlags := 26, slot := 2, constantValue := 0 }, { name := "FILL_THRESHOLD", type := .int, accessFlags := 26, slot := 3, constantValue := 0 }, { name := "ROTATE_THRESHOLD", type := .int, accessFlags := 26, slot := 4, constantValue := 0 }, { name := "COPY_THRESHOLD", type := .int, accessFlags := 26, slot := 5, constantValue := 0 }, { name := "REPLACEALL_THRESHOLD", type := .int, accessFlags := 26, slot := 6, constantValue := 0 }, { name := "INDEXOFSUBLIST_THRESHOLD", type := .int, accessFlags := 26, slot := 7, constantValue := 0 }, { name := "r", type := (.object "java/util/Random"), accessFlags := 10, slot := 8, constantValue := 0 }, { name := "EMPTY_SET", type := (.object "java/util/Set"), accessFlags := 25, slot := 9, constantValue := 0 }, { name := "EMPTY_LIST", type := (.object "java/util/List"), accessFlags := 25, slot := 10, constantValue := 0 }, { name := "EMPTY_MAP", type := (.object "java/util/Map"), accessFlags := 25, slot := 11, constantValue := 0 }]
  methods := #[k23m0]
  instanceTypes := #[]
  staticTypes := #[.int, .int, .int, .int, .int, .int, .int, .int, (.object "java/util/Random"), (.object "java/util/Set"), (.object "java/util/List"), (.object "java/util/Map")]
  resolved := Array.replicate 933 none
  statics := some 3 }

def pool24 : Array CpInfo := pool [(8, .class_ 10), (1, u "java/lang/Iterable"), (24, .class_ 36), (0, u "java/lang/Object")] 25

/-- java/lang/Iterable -/
def k24 : Class := { plain "java/lang/Iterable" (some 0) with
  accessFlags := 1537
  interfaces := #[]
  cf := some (fileOf pool24 8 #[] #[] 1537 35 #[] #[])
  fields := #[]
  methods := #[]
  instanceTypes := #[]
  staticTypes := #[]
  resolved := Array.replicate 62 none
  statics := none }

def pool25 : Array CpInfo := pool [(10, .class_ 12), (1, u "java/util/Collection"), (47, .class_ 61), (0, u "java/lang/Object"), (0, .class_ 63), (0, u "java/lang/Iterable")] 51

/-- java/util/Collection -/
def k25 : Class := { plain "java/util/Collection" (some 0) with
  accessFlags := 1537
  interfaces := #[24]
  cf := some (fileOf pool25 10 #[] #[] 1537 60 #[62] #[])
  fields := #[]
  methods := #[]
  instanceTypes := #[]
  staticTypes := #[]
  resolved := Array.replicate 115 none
  statics := none }

def pool26 : Array CpInfo := pool [(2, .class_ 4), (1, u "java/lang/Object"), (0, u "<init>"), (0, u "()V"), (1, .class_ 10), (1, u "java/util/AbstractCollection"), (66, .class_ 78), (0, u "java/util/Collection")] 81

def k26m0 : Method := { name := "<init>", desc := "()V", sig := { parameters := [], returnType := none }, accessFlags := 4, code := none }
/-- java/util/AbstractCollection -/
def k26 : Class := { plain "java/util/AbstractCollection" (some 0) with
  accessFlags := 1057
  interfaces := #[25]
  cf := some (fileOf pool26 8 #[] #[{ accessFlags := 4, nameIndex := 5, descriptorIndex := 6, attributes := #[] }] 1057 2 #[77] #[])
  fields := #[]
  methods := #[k26m0]
  instanceTypes := #[]
  staticTypes := #[]
  resolved := Array.replicate 160 none
  statics := none }

def pool27 : Array CpInfo := pool [(8, .class_ 10), (1, u "java/util/SequencedCollection"), (15, .class_ 27), (0, u "java/lang/Object"), (0, .class_ 29), (0, u "java/util/Collection")] 27

/-- java/util/SequencedCollection -/
def k27 : Class := { plain "java/util/SequencedCollection" (some 0) with
  accessFlags := 1537
  interfaces := #[25]
  cf := some (fileOf pool27 8 #[] #[] 1537 26 #[28] #[])
  fields := #[]
  methods := #[]
  instanceTypes := #[]
  staticTypes := #[]
  resolved := Array.replicate 57 none
  statics := none }

def pool28 : Array CpInfo := pool [(8, .class_ 10), (1, u "java/util/List"), (92, .class_ 104), (0, u "java/lang/Object"), (15, .class_ 121), (0, u "java/util/SequencedCollection")] 129

/-- java/util/List -/
def k28 : Class := { plain "java/util/List" (some 0) with
  accessFlags := 1537
  interfaces := #[27]
  cf := some (fileOf pool28 8 #[] #[] 1537 103 #[120] #[])
  fields := #[]
  methods := #[]
  instanceTypes := #[]
  staticTypes := #[]
  resolved := Array.replicate 251 none
  statics := none }

def pool29 : Array CpInfo := pool [(2, .class_ 4), (1, u "java/util/AbstractCollection"), (0, u "<init>"), (0, u "()V"), (1, .class_ 10), (1, u "java/util/AbstractList"), (0, u "modCount"), (0, u "I"), (64, .class_ 78), (0, u "java/util/AbstractList$Itr"), (3, .class_ 83), (0, u "java/util/AbstractList$ListItr"), (9, .class_ 94), (0, u "java/util/AbstractList$RandomAccessSubList"), (3, .class_ 99), (0, u "java/util/AbstractList$SubList"), (33, .class_ 134), (0, u "java/util/List"), (73, .class_ 209), (0, u "java/util/AbstractList$SubList$1"), (0, .class_ 211), (0, u "java/util/AbstractList$RandomAccessSpliterator")] 6

def k29m0 : Method := { name := "<init>", desc := "()V", sig := { parameters := [], returnType := none }, accessFlags := 4, code := none }
/-- java/util/AbstractList -/
def k29 : Class := { plain "java/util/AbstractList" (some 26) with
  accessFlags := 1057
  interfaces := #[28]
  cf := some (fileOf pool29 8 #[.nestMembers #[93, 98, 208, 210, 82, 77]] #[{ accessFlags := 4, nameIndex := 5, descriptorIndex := 6, attributes := #[] }] 1057 2 #[133] #[{ accessFlags := 132, nameIndex := 11, descriptorIndex := 12, attributes := #[] }])
  fields := #[{ name := "modCount", type := .int, accessFlags := 132, slot := 0, constantValue := 0 }]
  methods := #[k29m0]
  instanceTypes := #[.int]
  staticTypes := #[]
  resolved := Array.replicate 218 none
  statics := none }

def pool30 : Array CpInfo := pool [(1, .class_ 2), (0, u "java/util/RandomAccess"), (0, .class_ 4), (0, u "java/lang/Object")] 2

/-- java/util/RandomAccess -/
def k30 : Class := { plain "java/util/RandomAccess" (some 0) with
  accessFlags := 1537
  interfaces := #[]
  cf := some (fileOf pool30 1 #[] #[] 1537 3 #[] #[])
  fields := #[]
  methods := #[]
  instanceTypes := #[]
  staticTypes := #[]
  resolved := Array.replicate 7 none
  statics := none }

def pool31 : Array CpInfo := pool [(2, .class_ 4), (1, u "java/util/AbstractList"), (0, u "<init>"), (0, u "()V"), (1, .class_ 10), (1, u "java/util/Collections"), (54, .class_ 66), (0, u "java/util/Collections$EmptyList"), (0, .class_ 68), (0, u "java/util/RandomAccess"), (0, .class_ 70), (0, u "java/io/Serializable"), (0, u "serialVersionUID"), (0, u "J")] 77

def k31m0 : Method := { name := "<init>", desc := "()V", sig := { parameters := [], returnType := none }, accessFlags := 2, code := none }
/-- java/util/Collections$EmptyList -/
def k31 : Class := { plain "java/util/Collections$EmptyList" (some 29) with
  accessFlags := 32
  interfaces := #[30, 2]
  cf := some (fileOf pool31 65 #[.nestHost 8] #[{ accessFlags := 2, nameIndex := 5, descriptorIndex := 6, attributes := #[] }] 32 2 #[67, 69] #[{ accessFlags := 26, nameIndex := 71, descriptorIndex := 72, attributes := #[] }])
  fields := #[{ name := "serialVersionUID", type := .long, accessFlags := 26, slot := 0, constantValue := 0 }]
  methods := #[k31m0]
  instanceTypes := #[.int]
  staticTypes := #[.long]
  resolved := Array.replicate 150 none
  statics := none }

def pool32 : Array CpInfo := pool [(2, .class_ 4), (1, u "java/lang/StackTraceElement"), (0, u "<init>"), (2, .class_ 10), (1, u "java/lang/Object"), (0, u "()V"), (2, u "format"), (0, u "B"), (2, u "classLoaderName"), (0, u "Ljava/lang/String;"), (2, u "moduleName"), (2, u "moduleVersion"), (12, u "declaringClass"), (4, u "methodName"), (2, u "fileName"), (2, u "lineNumber"), (0, u "I"), (65, u "declaringClassObject"), (0, u "Ljava/lang/Class;"), (33, .class_ 153), (1, u "java/lang/StackTraceElement$HashedModules"), (17, .class_ 172), (0, u "java/io/Serializable"), (0, u "NATIVE_METHOD"), (1, u "UNKNOWN_SOURCE"), (2, u "BUILTIN_CLASS_LOADER"), (1, u "JDK_NON_UPGRADEABLE_MODULE"), (1, u "serialVersionUID"), (0, u "J")] 51

def k32m0 : Method := { name := "<init>", desc := "()V", sig := { parameters := [], returnType := none }, accessFlags := 2, code := none }
/-- java/lang/StackTraceElement -/
def k32 : Class := { plain "java/lang/StackTraceElement" (some 0) with
  accessFlags := 49
  interfaces := #[2]
  cf := some (fileOf pool32 2 #[.nestMembers #[151]] #[{ accessFlags := 2, nameIndex := 5, descriptorIndex := 11, attributes := #[] }] 49 8 #[171] #[{ accessFlags := 26, nameIndex := 173, descriptorIndex := 19, attributes := #[] }, { accessFlags := 26, nameIndex := 175, descriptorIndex := 19, attributes := #[] }, { accessFlags := 130, nameIndex := 116, descriptorIndex := 117, attributes := #[] }, { accessFlags := 2, nameIndex := 18, descriptorIndex := 19, attributes := #[] }, { accessFlags := 2, nameIndex := 22, descriptorIndex := 19, attributes := #[] }, { accessFlags := 2, nameIndex := 25, descriptorIndex := 19, attributes := #[] }, { accessFlags := 2, nameIndex := 38, descriptorIndex := 19, attributes := #[] }, { accessFlags := 2, nameIndex := 43, descriptorIndex := 19, attributes := #[] }, { accessFlags := 2, nameIndex := 46, descriptorIndex := 19, attributes := #[] }, { accessFlags := 2, nameIndex := 49, descriptorIndex := 50, attributes := #[] }, { accessFlags := 2, nameIndex := 14, descriptorIndex := 15, attributes := #[] }, { accessFlags := 26, nameIndex := 178, descriptorIndex := 15, attributes := #[] }, { accessFlags := 26, nameIndex := 180, descriptorIndex := 15, attributes := #[] }, { accessFlags := 26, nameIndex := 182, descriptorIndex := 183, attributes := #[] }])
  fields := #[{ name := "NATIVE_METHOD", type := (.object "java/lang/String"), accessFlags := 26, slot := 0, constantValue := 0 }, { name := "UNKNOWN_SOURCE", type := (.object "java/lang/String"), accessFlags := 26, slot := 1, constantValue := 0 }, { name := "declaringClassObject", type := (.object "java/lang/Class"), accessFlags := 130, slot := 0, constantValue := 0 }, { name := "classLoaderName", type := (.object "java/lang/String"), accessFlags := 2, slot := 1, constantValue := 0 }, { name := "moduleName", type := (.object "java/lang/String"), accessFlags := 2, slot := 2, constantValue := 0 }, { name := "moduleVersion", type := (.object "java/lang/String"), accessFlags := 2, slot := 3, constantValue := 0 }, { name := "declaringClass", type := (.object "java/lang/String"), accessFlags := 2, slot := 4, constantValue := 0 }, { name := "methodName", type := (.object "java/lang/String"), accessFlags := 2, slot := 5, constantValue := 0 }, { name := "fileName", type := (.object "java/lang/String"), accessFlags := 2, slot := 6, constantValue := 0 }, { name := "lineNumber", type := .int, accessFlags := 2, slot := 7, constantValue := 0 }, { name := "format", type := .byte, accessFlags := 2, slot := 8, constantValue := 0 }, { name := "BUILTIN_CLASS_LOADER", type := .byte, accessFlags := 26, slot := 2, constantValue := 0 }, { name := "JDK_NON_UPGRADEABLE_MODULE", type := .byte, accessFlags := 26, slot := 3, constantValue := 0 }, { name := "serialVersionUID", type := .long, accessFlags := 26, slot := 4, constantValue := 0 }]
  methods := #[k32m0]
  instanceTypes := #[(.object "java/lang/Class"), (.object "java/lang/String"), (.object "java/lang/String"), (.object "java/lang/String"), (.object "java/lang/String"), (.object "java/lang/String"), (.object "java/lang/String"), .int, .byte]
  staticTypes := #[(.object "java/lang/String"), (.object "java/lang/String"), .byte, .byte, .long]
  resolved := Array.replicate 235 none
  statics := none }

def pool33 : Array CpInfo := pool [(1, u "java/lang/Cloneable"), (0, .class_ 1), (0, u "java/lang/Object"), (0, .class_ 3)] 3

/-- java/lang/Cloneable -/
def k33 : Class := { plain "java/lang/Cloneable" (some 0) with
  accessFlags := 1537
  interfaces := #[]
  cf := some (fileOf pool33 2 #[] #[] 1537 4 #[] #[])
  fields := #[]
  methods := #[]
  instanceTypes := #[]
  staticTypes := #[]
  resolved := Array.replicate 8 none
  statics := none }

/-- the primitive byte -/
def k34 : Class := { plain "byte" none with kind := .primitive 'B', accessFlags := 0x411 }
/-- [B -/
def k35 : Class := { plain "[B" (some 0) with kind := .array 34 .byte, interfaces := #[33, 2], accessFlags := 1041 }

/-- the primitive char -/
def k36 : Class := { plain "char" none with kind := .primitive 'C', accessFlags := 0x411 }
/-- [C -/
def k37 : Class := { plain "[C" (some 0) with kind := .array 36 .char, interfaces := #[33, 2], accessFlags := 1041 }

/-- the primitive int -/
def k38 : Class := { plain "int" none with kind := .primitive 'I', accessFlags := 0x411 }
/-- [I -/
def k39 : Class := { plain "[I" (some 0) with kind := .array 38 .int, interfaces := #[33, 2], accessFlags := 1041 }

/-- [Ljava/lang/Object; -/
def k40 : Class := { plain "[Ljava/lang/Object;" (some 0) with kind := .array 0 (.object "java/lang/Object"), interfaces := #[33, 2], accessFlags := 1041 }

/-- [Ljava/lang/StackTraceElement; -/
def k41 : Class := { plain "[Ljava/lang/StackTraceElement;" (some 0) with kind := .array 32 (.object "java/lang/StackTraceElement"), interfaces := #[33, 2], accessFlags := 1041 }

/-- [Ljava/lang/Throwable; -/
def k42 : Class := { plain "[Ljava/lang/Throwable;" (some 0) with kind := .array 9 (.object "java/lang/Throwable"), interfaces := #[33, 2], accessFlags := 1041 }

def heap : Heap := #[{ cls := 7, slots := #[.long 0, .int 1, .null, .int 0, .null, .int 0, .int 0], vm := .statics 7 },
  { cls := 9, slots := #[.long 0, .ref 4, .ref 5, .null, .null, .null, .null, .ref 6, .int 1], vm := .statics 9 },
  { cls := 20, slots := #[.null, .null, .null], vm := .statics 20 },
  { cls := 23, slots := #[.int 0, .int 0, .int 0, .int 0, .int 0, .int 0, .int 0, .int 0, .null, .null, .ref 5, .null], vm := .statics 23 },
  { cls := 41, slots := #[], vm := .none },
  { cls := 31, slots := #[.int 0], vm := .none },
  { cls := 42, slots := #[], vm := .none }]
def classes : Array Class := #[k0, k1, k2, k3, k4, k5, k6, k7, k8, k9, k10, k11, k12, k13, k14, k15, k16, k17, k18, k19, k20, k21, k22, k23, k24, k25, k26, k27, k28, k29, k30, k31, k32, k33, k34, k35, k36, k37, k38, k39, k40, k41, k42]
def interned : List (Array UInt16 × Addr) := []
def slotsUsed : Nat := 32
def theMethod : MethodId := ⟨1, 1⟩
def args0 : Array Value := #[.int 5, .int 5, .int 5, .int 5]
def aboutOver (below : List Frame) : State where
  vm := { classes := classes, interned := interned.toArray }
  heap := heap
  slotsUsed := slotsUsed
  threads := #[{ frames := .invoking theMethod args0 :: below }]
def below0 : List Frame := [.native { method := ⟨0, 0⟩, args := #[] }]
def about1 : State := aboutOver below0
def p0 : Program := .bare "" "" ""
def e0 : Env := launch0.env 0 0 0
theorem w_frames : about1.frames = Frame.invoking theMethod args0 :: below0 := rfl
set_option maxRecDepth 65536 in
theorem w_args : argsFit about1.vm theMethod args0 = true := by decide +kernel
set_option maxRecDepth 65536 in
theorem w_heap : heapFits about1 = true := by decide +kernel
set_option maxRecDepth 65536 in
theorem w_runnable : about1.curStatus? = some .runnable := by decide +kernel
set_option maxRecDepth 65536 in
theorem w_alone : about1.alone = true := by decide +kernel
set_option maxRecDepth 65536 in
theorem w_named : about1.methodNamed? x = some theMethod := by decide +kernel
set_option maxRecDepth 65536 in
theorem w_hears : about1.hears theMethod below0 = true := by decide +kernel
set_option maxRecDepth 65536 in
theorem w_ripe : about1.ripe theMethod args0 below0 = true := by decide +kernel
theorem w_running : about1.status = .running := rfl
set_option maxRecDepth 65536 in
theorem w_room : about1.hasRoom e0.platform room_1 = true :=
  launch0.hasRoom_least _ room_1 (by decide +kernel) (by decide +kernel) (by decide +kernel) (by decide +kernel) (by decide +kernel) (by decide +kernel)
theorem allAtoms_all (ts : List Jvm.Cond) (a : Array Jvm.Value) (st : Jvm.State) : (allAtoms ts).before a st = ts.all (fun c => c.before a st) := by
  induction ts with
  | nil => rfl
  | cons c t ih =>
    show (Jvm.Cond.and c (allAtoms t)).before a st = _
    rw [Jvm.Cond.before_and, ih, List.all_cons]
def words1 : List Jvm.Cond := Jvm.Cond.code x code maxLocals ret :: tables_1
/-- a 'code' word, met by the world's own term for the bytes: nothing is compared byte by byte -/
theorem code_word {y : MethodName} {bytes : ByteArray} {mx : Nat} {rt : Option FieldType} {a : Array Value} {s : State} {m : MethodId} {meth : Method} {c : Code} (h1 : s.methodNamed? y = some m) (h2 : s.vm.method? m = some meth) (h3 : meth.code = some c) (h4 : c.code = bytes)
    (h5 : (c.maxLocals == mx && c.exceptionTable.isEmpty && decide (c.maxStack ≤ mostOperands) && decide (meth.sig.returnType = rt) && !meth.locks && decide (parseMethodDescriptor y.desc = some meth.sig)) = true) : (Jvm.Cond.code y bytes mx rt).before a s = true := by
  simp only [Bool.and_eq_true, beq_iff_eq, Bool.not_eq_true', decide_eq_true_eq] at h5
  obtain ⟨⟨⟨⟨⟨g1, g2⟩, g3⟩, g4⟩, g5⟩, g6⟩ := h5
  simp [Cond.before, Cond.holds, Cond.value, h1, h2, h3, h4, g1, g2, g3, g4, g5, g6]
def isCode : Jvm.Cond → Bool
  | .code _ _ _ _ => true
  | _ => false
theorem all_split {L : List Jvm.Cond} {P : Jvm.Cond → Bool} (h1 : L.all (fun c => isCode c || P c) = true) (h2 : ∀ c ∈ L.filter isCode, P c = true) : L.all P = true := by
  refine List.all_eq_true.mpr fun c hc => ?_
  have h := List.all_eq_true.mp h1 c hc
  rcases Bool.eq_false_or_eq_true (isCode c) with hi | hi
  · exact h2 c (List.mem_filter.mpr ⟨hc, hi⟩)
  · simpa [hi] using h
set_option maxRecDepth 65536 in
theorem w_c0 : (Jvm.Cond.code x code maxLocals ret).before args0 about1 = true := code_word (m := ⟨1, 1⟩) (meth := k1m1) (c := k1c1) (by decide +kernel) rfl rfl rfl (by decide +kernel)
set_option maxRecDepth 65536 in
theorem w_c1 : (Jvm.Cond.code ({ cls := "com/example/brisk_warden/briskwarden/core/UnsupportedNumberExceptionAtPinLaw", name := "str", desc := "(II)Ljava/lang/String;" } : Jvm.MethodName) method_3_code (5 : Nat) (Option.some (Jvm.ClassFile.FieldType.object "java/lang/String"))).before args0 about1 = true := code_word (m := ⟨1, 2⟩) (meth := k1m2) (c := k1c2) (by decide +kernel) rfl rfl rfl (by decide +kernel)
set_option maxRecDepth 65536 in
theorem w_c2 : (Jvm.Cond.code ({ cls := "java/lang/String", name := "valueOf", desc := "(C)Ljava/lang/String;" } : Jvm.MethodName) jdk_42_method_139_code (1 : Nat) (Option.some (Jvm.ClassFile.FieldType.object "java/lang/String"))).before args0 about1 = true := code_word (m := ⟨7, 7⟩) (meth := k7m7) (c := k7c7) (by decide +kernel) rfl rfl rfl (by decide +kernel)
set_option maxRecDepth 65536 in
theorem w_c3 : (Jvm.Cond.code ({ cls := "java/lang/StringLatin1", name := "canEncode", desc := "(C)Z" } : Jvm.MethodName) jdk_43_method_3_code (1 : Nat) (Option.some Jvm.ClassFile.FieldType.boolean)).before args0 about1 = true := code_word (m := ⟨8, 2⟩) (meth := k8m2) (c := k8c2) (by decide +kernel) rfl rfl rfl (by decide +kernel)
set_option maxRecDepth 65536 in
theorem w_c4 : (Jvm.Cond.code ({ cls := "java/lang/StringLatin1", name := "toBytes", desc := "(C)[B" } : Jvm.MethodName) jdk_43_method_46_code (1 : Nat) (Option.some (Jvm.ClassFile.FieldType.array Jvm.ClassFile.FieldType.byte))).before args0 about1 = true := code_word (m := ⟨8, 3⟩) (meth := k8m3) (c := k8c3) (by decide +kernel) rfl rfl rfl (by decide +kernel)
set_option maxRecDepth 65536 in
theorem w_c5 : (Jvm.Cond.code ({ cls := "java/lang/String", name := "<init>", desc := "([BB)V" } : Jvm.MethodName) jdk_42_method_151_code (3 : Nat) (Option.none : Option Jvm.ClassFile.FieldType)).before args0 about1 = true := code_word (m := ⟨7, 11⟩) (meth := k7m11) (c := k7c11) (by decide +kernel) rfl rfl rfl (by decide +kernel)
set_option maxRecDepth 65536 in
theorem w_c6 : (Jvm.Cond.code ({ cls := "java/lang/Object", name := "<init>", desc := "()V" } : Jvm.MethodName) object_method_1_code (1 : Nat) (Option.none : Option Jvm.ClassFile.FieldType)).before args0 about1 = true := code_word (m := ⟨0, 0⟩) (meth := k0m0) (c := k0c0) (by decide +kernel) rfl rfl rfl (by decide +kernel)
set_option maxRecDepth 65536 in
theorem w_c7 : (Jvm.Cond.code ({ cls := "java/lang/String", name := "<init>", desc := "([C)V" } : Jvm.MethodName) jdk_42_method_3_code (2 : Nat) (Option.none : Option Jvm.ClassFile.FieldType)).before args0 about1 = true := code_word (m := ⟨7, 1⟩) (meth := k7m1) (c := k7c1) (by decide +kernel) rfl rfl rfl (by decide +kernel)
set_option maxRecDepth 65536 in
theorem w_c8 : (Jvm.Cond.code ({ cls := "java/lang/String", name := "<init>", desc := "([CIILjava/lang/Void;)V" } : Jvm.MethodName) jdk_42_method_149_code (6 : Nat) (Option.none : Option Jvm.ClassFile.FieldType)).before args0 about1 = true := code_word (m := ⟨7, 9⟩) (meth := k7m9) (c := k7c9) (by decide +kernel) rfl rfl rfl (by decide +kernel)
set_option maxRecDepth 65536 in
theorem w_c9 : (Jvm.Cond.code ({ cls := "com/example/brisk_warden/briskwarden/core/UnsupportedNumberException", name := "<init>", desc := "(Ljava/lang/String;Ljava/lang/String;)V" } : Jvm.MethodName) prog_16_method_1_code (3 : Nat) (Option.none : Option Jvm.ClassFile.FieldType)).before args0 about1 = true := code_word (m := ⟨13, 0⟩) (meth := k13m0) (c := k13c0) (by decide +kernel) rfl rfl rfl (by decide +kernel)
set_option maxRecDepth 65536 in
theorem w_c10 : (Jvm.Cond.code ({ cls := "java/lang/String", name := "isEmpty", desc := "()Z" } : Jvm.MethodName) jdk_42_method_55_code (1 : Nat) (Option.some Jvm.ClassFile.FieldType.boolean)).before args0 about1 = true := code_word (m := ⟨7, 4⟩) (meth := k7m4) (c := k7c4) (by decide +kernel) rfl rfl rfl (by decide +kernel)
set_option maxRecDepth 65536 in
theorem w_c11 : (Jvm.Cond.code ({ cls := "java/lang/IllegalArgumentException", name := "<init>", desc := "(Ljava/lang/String;)V" } : Jvm.MethodName) jdk_57_method_2_code (2 : Nat) (Option.none : Option Jvm.ClassFile.FieldType)).before args0 about1 = true := code_word (m := ⟨12, 1⟩) (meth := k12m1) (c := k12c1) (by decide +kernel) rfl rfl rfl (by decide +kernel)
set_option maxRecDepth 65536 in
theorem w_c12 : (Jvm.Cond.code ({ cls := "java/lang/RuntimeException", name := "<init>", desc := "(Ljava/lang/String;)V" } : Jvm.MethodName) jdk_58_method_2_code (2 : Nat) (Option.none : Option Jvm.ClassFile.FieldType)).before args0 about1 = true := code_word (m := ⟨11, 1⟩) (meth := k11m1) (c := k11c1) (by decide +kernel) rfl rfl rfl (by decide +kernel)
set_option maxRecDepth 65536 in
theorem w_c13 : (Jvm.Cond.code ({ cls := "java/lang/Exception", name := "<init>", desc := "(Ljava/lang/String;)V" } : Jvm.MethodName) jdk_59_method_2_code (2 : Nat) (Option.none : Option Jvm.ClassFile.FieldType)).before args0 about1 = true := code_word (m := ⟨10, 1⟩) (meth := k10m1) (c := k10c1) (by decide +kernel) rfl rfl rfl (by decide +kernel)
set_option maxRecDepth 65536 in
theorem w_c14 : (Jvm.Cond.code ({ cls := "java/lang/Throwable", name := "<init>", desc := "(Ljava/lang/String;)V" } : Jvm.MethodName) jdk_78_method_2_code (2 : Nat) (Option.none : Option Jvm.ClassFile.FieldType)).before args0 about1 = true := code_word (m := ⟨9, 1⟩) (meth := k9m1) (c := k9c1) (by decide +kernel) rfl rfl rfl (by decide +kernel)
set_option maxRecDepth 65536 in
theorem w_c15 : (Jvm.Cond.code ({ cls := "java/lang/Throwable", name := "<init>", desc := "()V" } : Jvm.MethodName) jdk_78_method_1_code (1 : Nat) (Option.none : Option Jvm.ClassFile.FieldType)).before args0 about1 = true := code_word (m := ⟨9, 0⟩) (meth := k9m0) (c := k9c0) (by decide +kernel) rfl rfl rfl (by decide +kernel)
set_option maxRecDepth 65536 in
theorem w_c16 : (Jvm.Cond.code ({ cls := "com/example/brisk_warden/briskwarden/core/UnsupportedNumberException", name := "at", desc := "(Ljava/lang/String;)Lcom/example/brisk_warden/briskwarden/core/UnsupportedNumberException;" } : Jvm.MethodName) prog_16_method_2_code (2 : Nat) (Option.some (Jvm.ClassFile.FieldType.object "com/example/brisk_warden/briskwarden/core/UnsupportedNumberException"))).before args0 about1 = true := code_word (m := ⟨13, 1⟩) (meth := k13m1) (c := k13c1) (by decide +kernel) rfl rfl rfl (by decide +kernel)
set_option maxRecDepth 65536 in
theorem w_c17 : (Jvm.Cond.code ({ cls := "java/lang/StringBuilder", name := "<init>", desc := "()V" } : Jvm.MethodName) jdk_67_method_1_code (1 : Nat) (Option.none : Option Jvm.ClassFile.FieldType)).before args0 about1 = true := code_word (m := ⟨16, 0⟩) (meth := k16m0) (c := k16c0) (by decide +kernel) rfl rfl rfl (by decide +kernel)
set_option maxRecDepth 65536 in
theorem w_c18 : (Jvm.Cond.code ({ cls := "java/lang/AbstractStringBuilder", name := "<init>", desc := "(I)V" } : Jvm.MethodName) jdk_68_method_2_code (2 : Nat) (Option.none : Option Jvm.ClassFile.FieldType)).before args0 about1 = true := code_word (m := ⟨15, 1⟩) (meth := k15m1) (c := k15c1) (by decide +kernel) rfl rfl rfl (by decide +kernel)
set_option maxRecDepth 65536 in
theorem w_c19 : (Jvm.Cond.code ({ cls := "java/lang/StringBuilder", name := "append", desc := "(Ljava/lang/String;)Ljava/lang/StringBuilder;" } : Jvm.MethodName) jdk_67_method_7_code (2 : Nat) (Option.some (Jvm.ClassFile.FieldType.object "java/lang/StringBuilder"))).before args0 about1 = true := code_word (m := ⟨16, 1⟩) (meth := k16m1) (c := k16c1) (by decide +kernel) rfl rfl rfl (by decide +kernel)
set_option maxRecDepth 65536 in
theorem w_c20 : (Jvm.Cond.code ({ cls := "java/lang/AbstractStringBuilder", name := "append", desc := "(Ljava/lang/String;)Ljava/lang/AbstractStringBuilder;" } : Jvm.MethodName) jdk_68_method_22_code (3 : Nat) (Option.some (Jvm.ClassFile.FieldType.object "java/lang/AbstractStringBuilder"))).before args0 about1 = true := code_word (m := ⟨15, 4⟩) (meth := k15m4) (c := k15c4) (by decide +kernel) rfl rfl rfl (by decide +kernel)
set_option maxRecDepth 65536 in
theorem w_c21 : (Jvm.Cond.code ({ cls := "java/lang/String", name := "length", desc := "()I" } : Jvm.MethodName) jdk_42_method_54_code (1 : Nat) (Option.some Jvm.ClassFile.FieldType.int)).before args0 about1 = true := code_word (m := ⟨7, 3⟩) (meth := k7m3) (c := k7c3) (by decide +kernel) rfl rfl rfl (by decide +kernel)
set_option maxRecDepth 65536 in
theorem w_c22 : (Jvm.Cond.code ({ cls := "java/lang/String", name := "coder", desc := "()B" } : Jvm.MethodName) jdk_42_method_152_code (1 : Nat) (Option.some Jvm.ClassFile.FieldType.byte)).before args0 about1 = true := code_word (m := ⟨7, 12⟩) (meth := k7m12) (c := k7c12) (by decide +kernel) rfl rfl rfl (by decide +kernel)
set_option maxRecDepth 65536 in
theorem w_c23 : (Jvm.Cond.code ({ cls := "java/lang/AbstractStringBuilder", name := "ensureCapacityInternal", desc := "(I)V" } : Jvm.MethodName) jdk_68_method_9_code (3 : Nat) (Option.none : Option Jvm.ClassFile.FieldType)).before args0 about1 = true := code_word (m := ⟨15, 3⟩) (meth := k15m3) (c := k15c3) (by decide +kernel) rfl rfl rfl (by decide +kernel)
set_option maxRecDepth 65536 in
theorem w_c24 : (Jvm.Cond.code ({ cls := "java/lang/AbstractStringBuilder", name := "putStringAt", desc := "(ILjava/lang/String;)V" } : Jvm.MethodName) jdk_68_method_73_code (3 : Nat) (Option.none : Option Jvm.ClassFile.FieldType)).before args0 about1 = true := code_word (m := ⟨15, 8⟩) (meth := k15m8) (c := k15c8) (by decide +kernel) rfl rfl rfl (by decide +kernel)
set_option maxRecDepth 65536 in
theorem w_c25 : (Jvm.Cond.code ({ cls := "java/lang/AbstractStringBuilder", name := "inflateIfNeededFor", desc := "(Ljava/lang/String;)V" } : Jvm.MethodName) jdk_68_method_71_code (2 : Nat) (Option.none : Option Jvm.ClassFile.FieldType)).before args0 about1 = true := code_word (m := ⟨15, 7⟩) (meth := k15m7) (c := k15c7) (by decide +kernel) rfl rfl rfl (by decide +kernel)
set_option maxRecDepth 65536 in
theorem w_c26 : (Jvm.Cond.code ({ cls := "java/lang/String", name := "getBytes", desc := "([BIB)V" } : Jvm.MethodName) jdk_42_method_147_code (4 : Nat) (Option.none : Option Jvm.ClassFile.FieldType)).before args0 about1 = true := code_word (m := ⟨7, 8⟩) (meth := k7m8) (c := k7c8) (by decide +kernel) rfl rfl rfl (by decide +kernel)
set_option maxRecDepth 65536 in
theorem w_c27 : (Jvm.Cond.code ({ cls := "java/lang/StringBuilder", name := "toString", desc := "()Ljava/lang/String;" } : Jvm.MethodName) jdk_67_method_42_code (1 : Nat) (Option.some (Jvm.ClassFile.FieldType.object "java/lang/String"))).before args0 about1 = true := code_word (m := ⟨16, 2⟩) (meth := k16m2) (c := k16c2) (by decide +kernel) rfl rfl rfl (by decide +kernel)
set_option maxRecDepth 65536 in
theorem w_c28 : (Jvm.Cond.code ({ cls := "java/lang/String", name := "<init>", desc := "(Ljava/lang/StringBuilder;)V" } : Jvm.MethodName) jdk_42_method_53_code (2 : Nat) (Option.none : Option Jvm.ClassFile.FieldType)).before args0 about1 = true := code_word (m := ⟨7, 2⟩) (meth := k7m2) (c := k7c2) (by decide +kernel) rfl rfl rfl (by decide +kernel)
set_option maxRecDepth 65536 in
theorem w_c29 : (Jvm.Cond.code ({ cls := "java/lang/String", name := "<init>", desc := "(Ljava/lang/AbstractStringBuilder;Ljava/lang/Void;)V" } : Jvm.MethodName) jdk_42_method_150_code (5 : Nat) (Option.none : Option Jvm.ClassFile.FieldType)).before args0 about1 = true := code_word (m := ⟨7, 10⟩) (meth := k7m10) (c := k7c10) (by decide +kernel) rfl rfl rfl (by decide +kernel)
set_option maxRecDepth 65536 in
theorem w_c30 : (Jvm.Cond.code ({ cls := "java/lang/AbstractStringBuilder", name := "getValue", desc := "()[B" } : Jvm.MethodName) jdk_68_method_64_code (1 : Nat) (Option.some (Jvm.ClassFile.FieldType.array Jvm.ClassFile.FieldType.byte))).before args0 about1 = true := code_word (m := ⟨15, 5⟩) (meth := k15m5) (c := k15c5) (by decide +kernel) rfl rfl rfl (by decide +kernel)
set_option maxRecDepth 65536 in
theorem w_c31 : (Jvm.Cond.code ({ cls := "java/lang/StringBuilder", name := "length", desc := "()I" } : Jvm.MethodName) jdk_67_method_93_code (1 : Nat) (Option.some Jvm.ClassFile.FieldType.int)).before args0 about1 = true := code_word (m := ⟨16, 3⟩) (meth := k16m3) (c := k16c3) (by decide +kernel) rfl rfl rfl (by decide +kernel)
set_option maxRecDepth 65536 in
theorem w_c32 : (Jvm.Cond.code ({ cls := "java/lang/AbstractStringBuilder", name := "length", desc := "()I" } : Jvm.MethodName) jdk_68_method_6_code (1 : Nat) (Option.some Jvm.ClassFile.FieldType.int)).before args0 about1 = true := code_word (m := ⟨15, 2⟩) (meth := k15m2) (c := k15c2) (by decide +kernel) rfl rfl rfl (by decide +kernel)
set_option maxRecDepth 65536 in
theorem w_c33 : (Jvm.Cond.code ({ cls := "java/lang/AbstractStringBuilder", name := "isLatin1", desc := "()Z" } : Jvm.MethodName) jdk_68_method_68_code (1 : Nat) (Option.some Jvm.ClassFile.FieldType.boolean)).before args0 about1 = true := code_word (m := ⟨15, 6⟩) (meth := k15m6) (c := k15c6) (by decide +kernel) rfl rfl rfl (by decide +kernel)
set_option maxRecDepth 65536 in
theorem w_c34 : (Jvm.Cond.code ({ cls := "java/util/Arrays", name := "copyOfRange", desc := "([BII)[B" } : Jvm.MethodName) jdk_65_method_132_code (3 : Nat) (Option.some (Jvm.ClassFile.FieldType.array Jvm.ClassFile.FieldType.byte))).before args0 about1 = true := code_word (m := ⟨18, 2⟩) (meth := k18m2) (c := k18c2) (by decide +kernel) rfl rfl rfl (by decide +kernel)
set_option maxRecDepth 65536 in
theorem w_c35 : (Jvm.Cond.code ({ cls := "java/util/Arrays", name := "copyOfRangeByte", desc := "([BII)[B" } : Jvm.MethodName) jdk_65_method_133_code (5 : Nat) (Option.some (Jvm.ClassFile.FieldType.array Jvm.ClassFile.FieldType.byte))).before args0 about1 = true := code_word (m := ⟨18, 3⟩) (meth := k18m3) (c := k18c3) (by decide +kernel) rfl rfl rfl (by decide +kernel)
set_option maxRecDepth 65536 in
theorem w_c36 : (Jvm.Cond.code ({ cls := "java/util/Arrays", name := "checkLength", desc := "(II)V" } : Jvm.MethodName) jdk_65_method_131_code (2 : Nat) (Option.none : Option Jvm.ClassFile.FieldType)).before args0 about1 = true := code_word (m := ⟨18, 1⟩) (meth := k18m1) (c := k18c1) (by decide +kernel) rfl rfl rfl (by decide +kernel)
set_option maxRecDepth 65536 in
theorem w_c37 : (Jvm.Cond.code ({ cls := "java/lang/Math", name := "min", desc := "(II)I" } : Jvm.MethodName) jdk_29_method_69_code (2 : Nat) (Option.some Jvm.ClassFile.FieldType.int)).before args0 about1 = true := code_word (m := ⟨19, 1⟩) (meth := k19m1) (c := k19c1) (by decide +kernel) rfl rfl rfl (by decide +kernel)
set_option maxRecDepth 65536 in
theorem w_c38 : (Jvm.Cond.code ({ cls := "com/example/brisk_warden/briskwarden/core/UnsupportedNumberException", name := "place", desc := "()Ljava/lang/String;" } : Jvm.MethodName) prog_16_method_3_code (1 : Nat) (Option.some (Jvm.ClassFile.FieldType.object "java/lang/String"))).before args0 about1 = true := code_word (m := ⟨13, 2⟩) (meth := k13m2) (c := k13c2) (by decide +kernel) rfl rfl rfl (by decide +kernel)
set_option maxRecDepth 65536 in
theorem w_c39 : (Jvm.Cond.code ({ cls := "com/example/brisk_warden/briskwarden/core/UnsupportedNumberExceptionAtPinLaw", name := "pc", desc := "(Ljava/lang/String;Ljava/lang/String;Ljava/lang/String;I)Z" } : Jvm.MethodName) method_5_code (4 : Nat) (Option.some Jvm.ClassFile.FieldType.boolean)).before args0 about1 = true := code_word (m := ⟨1, 4⟩) (meth := k1m4) (c := k1c4) (by decide +kernel) rfl rfl rfl (by decide +kernel)
set_option maxRecDepth 65536 in
theorem w_c40 : (Jvm.Cond.code ({ cls := "java/lang/String", name := "charAt", desc := "(I)C" } : Jvm.MethodName) jdk_42_method_56_code (2 : Nat) (Option.some Jvm.ClassFile.FieldType.char)).before args0 about1 = true := code_word (m := ⟨7, 5⟩) (meth := k7m5) (c := k7c5) (by decide +kernel) rfl rfl rfl (by decide +kernel)
set_option maxRecDepth 65536 in
theorem w_c41 : (Jvm.Cond.code ({ cls := "java/lang/String", name := "isLatin1", desc := "()Z" } : Jvm.MethodName) jdk_42_method_154_code (1 : Nat) (Option.some Jvm.ClassFile.FieldType.boolean)).before args0 about1 = true := code_word (m := ⟨7, 13⟩) (meth := k7m13) (c := k7c13) (by decide +kernel) rfl rfl rfl (by decide +kernel)
set_option maxRecDepth 65536 in
theorem w_c42 : (Jvm.Cond.code ({ cls := "java/lang/StringLatin1", name := "charAt", desc := "([BI)C" } : Jvm.MethodName) jdk_43_method_2_code (2 : Nat) (Option.some Jvm.ClassFile.FieldType.char)).before args0 about1 = true := code_word (m := ⟨8, 1⟩) (meth := k8m1) (c := k8c1) (by decide +kernel) rfl rfl rfl (by decide +kernel)
set_option maxRecDepth 65536 in
theorem w_c43 : (Jvm.Cond.code ({ cls := "java/lang/String", name := "checkIndex", desc := "(II)V" } : Jvm.MethodName) jdk_42_method_155_code (2 : Nat) (Option.none : Option Jvm.ClassFile.FieldType)).before args0 about1 = true := code_word (m := ⟨7, 14⟩) (meth := k7m14) (c := k7c14) (by decide +kernel) rfl rfl rfl (by decide +kernel)
set_option maxRecDepth 65536 in
theorem w_c44 : (Jvm.Cond.code ({ cls := "jdk/internal/util/Preconditions", name := "checkIndex", desc := "(IILjava/util/function/BiFunction;)I" } : Jvm.MethodName) jdk_41_method_11_code (3 : Nat) (Option.some Jvm.ClassFile.FieldType.int)).before args0 about1 = true := code_word (m := ⟨20, 1⟩) (meth := k20m1) (c := k20c1) (by decide +kernel) rfl rfl rfl (by decide +kernel)
set_option maxRecDepth 65536 in
theorem w_c45 : (Jvm.Cond.code ({ cls := "com/example/brisk_warden/briskwarden/core/UnsupportedNumberExceptionAtPinLaw", name := "cat", desc := "(Ljava/lang/String;Ljava/lang/String;I)C" } : Jvm.MethodName) method_4_code (3 : Nat) (Option.some Jvm.ClassFile.FieldType.char)).before args0 about1 = true := code_word (m := ⟨1, 3⟩) (meth := k1m3) (c := k1c3) (by decide +kernel) rfl rfl rfl (by decide +kernel)
set_option maxRecDepth 65536 in
theorem w_c46 : (Jvm.Cond.code ({ cls := "com/example/brisk_warden/briskwarden/core/UnsupportedNumberException", name := "problem", desc := "()Ljava/lang/String;" } : Jvm.MethodName) prog_16_method_4_code (1 : Nat) (Option.some (Jvm.ClassFile.FieldType.object "java/lang/String"))).before args0 about1 = true := code_word (m := ⟨13, 3⟩) (meth := k13m3) (c := k13c3) (by decide +kernel) rfl rfl rfl (by decide +kernel)
set_option maxRecDepth 65536 in
theorem w_c47 : (Jvm.Cond.code ({ cls := "java/lang/String", name := "equals", desc := "(Ljava/lang/Object;)Z" } : Jvm.MethodName) jdk_42_method_66_code (3 : Nat) (Option.some Jvm.ClassFile.FieldType.boolean)).before args0 about1 = true := code_word (m := ⟨7, 6⟩) (meth := k7m6) (c := k7c6) (by decide +kernel) rfl rfl rfl (by decide +kernel)
set_option maxRecDepth 65536 in
theorem w_c48 : (Jvm.Cond.code ({ cls := "java/lang/Throwable", name := "getMessage", desc := "()Ljava/lang/String;" } : Jvm.MethodName) jdk_78_method_6_code (1 : Nat) (Option.some (Jvm.ClassFile.FieldType.object "java/lang/String"))).before args0 about1 = true := code_word (m := ⟨9, 2⟩) (meth := k9m2) (c := k9c2) (by decide +kernel) rfl rfl rfl (by decide +kernel)
set_option maxRecDepth 65536 in
theorem w_c49 : (Jvm.Cond.code ({ cls := "com/example/brisk_warden/briskwarden/core/UnsupportedNumberExceptionAtPinLaw", name := "mc", desc := "(Ljava/lang/String;Ljava/lang/String;Ljava/lang/String;Ljava/lang/String;I)Z" } : Jvm.MethodName) method_6_code (7 : Nat) (Option.some Jvm.ClassFile.FieldType.boolean)).before args0 about1 = true := code_word (m := ⟨1, 5⟩) (meth := k1m5) (c := k1c5) (by decide +kernel) rfl rfl rfl (by decide +kernel)
set_option maxRecDepth 65536 in
theorem w_c50 : (Jvm.Cond.code ({ cls := "java/lang/StringUTF16", name := "compress", desc := "([CII)[B" } : Jvm.MethodName) jdk_52_method_16_code (6 : Nat) (Option.some (Jvm.ClassFile.FieldType.array Jvm.ClassFile.FieldType.byte))).before args0 about1 = true := code_word (m := ⟨21, 2⟩) (meth := k21m2) (c := k21c2) (by decide +kernel) rfl rfl rfl (by decide +kernel)
set_option maxRecDepth 65536 in
theorem w_c51 : (Jvm.Cond.code ({ cls := "java/lang/StringUTF16", name := "compress", desc := "([CI[BII)I" } : Jvm.MethodName) jdk_52_method_21_code (7 : Nat) (Option.some Jvm.ClassFile.FieldType.int)).before args0 about1 = true := code_word (m := ⟨21, 3⟩) (meth := k21m3) (c := k21c3) (by decide +kernel) rfl rfl rfl (by decide +kernel)
set_option maxRecDepth 65536 in
theorem w_c52 : (Jvm.Cond.code ({ cls := "java/lang/StringUTF16", name := "coderFromArrayLen", desc := "([BI)B" } : Jvm.MethodName) jdk_52_method_15_code (2 : Nat) (Option.some Jvm.ClassFile.FieldType.byte)).before args0 about1 = true := code_word (m := ⟨21, 1⟩) (meth := k21m1) (c := k21c1) (by decide +kernel) rfl rfl rfl (by decide +kernel)
def codes1 : List Jvm.Cond := [Jvm.Cond.code x code maxLocals ret, Jvm.Cond.code ({ cls := "com/example/brisk_warden/briskwarden/core/UnsupportedNumberExceptionAtPinLaw", name := "str", desc := "(II)Ljava/lang/String;" } : Jvm.MethodName) method_3_code (5 : Nat) (Option.some (Jvm.ClassFile.FieldType.object "java/lang/String")), Jvm.Cond.code ({ cls := "java/lang/String", name := "valueOf", desc := "(C)Ljava/lang/String;" } : Jvm.MethodName) jdk_42_method_139_code (1 : Nat) (Option.some (Jvm.ClassFile.FieldType.object "java/lang/String")), Jvm.Cond.code ({ cls := "java/lang/StringLatin1", name := "canEncode", desc := "(C)Z" } : Jvm.MethodName) jdk_43_method_3_code (1 : Nat) (Option.some Jvm.ClassFile.FieldType.boolean), Jvm.Cond.code ({ cls := "java/lang/StringLatin1", name := "toBytes", desc := "(C)[B" } : Jvm.MethodName) jdk_43_method_46_code (1 : Nat) (Option.some (Jvm.ClassFile.FieldType.array Jvm.ClassFile.FieldType.byte)), Jvm.Cond.code ({ cls := "java/lang/String", name := "<init>", desc := "([BB)V" } : Jvm.MethodName) jdk_42_method_151_code (3 : Nat) (Option.none : Option Jvm.ClassFile.FieldType), Jvm.Cond.code ({ cls := "java/lang/Object", name := "<init>", desc := "()V" } : Jvm.MethodName) object_method_1_code (1 : Nat) (Option.none : Option Jvm.ClassFile.FieldType), Jvm.Cond.code ({ cls := "java/lang/String", name := "<init>", desc := "([C)V" } : Jvm.MethodName) jdk_42_method_3_code (2 : Nat) (Option.none : Option Jvm.ClassFile.FieldType), Jvm.Cond.code ({ cls := "java/lang/String", name := "<init>", desc := "([CIILjava/lang/Void;)V" } : Jvm.MethodName) jdk_42_method_149_code (6 : Nat) (Option.none : Option Jvm.ClassFile.FieldType), Jvm.Cond.code ({ cls := "com/example/brisk_warden/briskwarden/core/UnsupportedNumberException", name := "<init>", desc := "(Ljava/lang/String;Ljava/lang/String;)V" } : Jvm.MethodName) prog_16_method_1_code (3 : Nat) (Option.none : Option Jvm.ClassFile.FieldType), Jvm.Cond.code ({ cls := "java/lang/String", name := "isEmpty", desc := "()Z" } : Jvm.MethodName) jdk_42_method_55_code (1 : Nat) (Option.some Jvm.ClassFile.FieldType.boolean), Jvm.Cond.code ({ cls := "java/lang/IllegalArgumentException", name := "<init>", desc := "(Ljava/lang/String;)V" } : Jvm.MethodName) jdk_57_method_2_code (2 : Nat) (Option.none : Option Jvm.ClassFile.FieldType), Jvm.Cond.code ({ cls := "java/lang/RuntimeException", name := "<init>", desc := "(Ljava/lang/String;)V" } : Jvm.MethodName) jdk_58_method_2_code (2 : Nat) (Option.none : Option Jvm.ClassFile.FieldType), Jvm.Cond.code ({ cls := "java/lang/Exception", name := "<init>", desc := "(Ljava/lang/String;)V" } : Jvm.MethodName) jdk_59_method_2_code (2 : Nat) (Option.none : Option Jvm.ClassFile.FieldType), Jvm.Cond.code ({ cls := "java/lang/Throwable", name := "<init>", desc := "(Ljava/lang/String;)V" } : Jvm.MethodName) jdk_78_method_2_code (2 : Nat) (Option.none : Option Jvm.ClassFile.FieldType), Jvm.Cond.code ({ cls := "java/lang/Throwable", name := "<init>", desc := "()V" } : Jvm.MethodName) jdk_78_method_1_code (1 : Nat) (Option.none : Option Jvm.ClassFile.FieldType), Jvm.Cond.code ({ cls := "com/example/brisk_warden/briskwarden/core/UnsupportedNumberException", name := "at", desc := "(Ljava/lang/String;)Lcom/example/brisk_warden/briskwarden/core/UnsupportedNumberException;" } : Jvm.MethodName) prog_16_method_2_code (2 : Nat) (Option.some (Jvm.ClassFile.FieldType.object "com/example/brisk_warden/briskwarden/core/UnsupportedNumberException")), Jvm.Cond.code ({ cls := "java/lang/StringBuilder", name := "<init>", desc := "()V" } : Jvm.MethodName) jdk_67_method_1_code (1 : Nat) (Option.none : Option Jvm.ClassFile.FieldType), Jvm.Cond.code ({ cls := "java/lang/AbstractStringBuilder", name := "<init>", desc := "(I)V" } : Jvm.MethodName) jdk_68_method_2_code (2 : Nat) (Option.none : Option Jvm.ClassFile.FieldType), Jvm.Cond.code ({ cls := "java/lang/StringBuilder", name := "append", desc := "(Ljava/lang/String;)Ljava/lang/StringBuilder;" } : Jvm.MethodName) jdk_67_method_7_code (2 : Nat) (Option.some (Jvm.ClassFile.FieldType.object "java/lang/StringBuilder")), Jvm.Cond.code ({ cls := "java/lang/AbstractStringBuilder", name := "append", desc := "(Ljava/lang/String;)Ljava/lang/AbstractStringBuilder;" } : Jvm.MethodName) jdk_68_method_22_code (3 : Nat) (Option.some (Jvm.ClassFile.FieldType.object "java/lang/AbstractStringBuilder")), Jvm.Cond.code ({ cls := "java/lang/String", name := "length", desc := "()I" } : Jvm.MethodName) jdk_42_method_54_code (1 : Nat) (Option.some Jvm.ClassFile.FieldType.int), Jvm.Cond.code ({ cls := "java/lang/String", name := "coder", desc := "()B" } : Jvm.MethodName) jdk_42_method_152_code (1 : Nat) (Option.some Jvm.ClassFile.FieldType.byte), Jvm.Cond.code ({ cls := "java/lang/AbstractStringBuilder", name := "ensureCapacityInternal", desc := "(I)V" } : Jvm.MethodName) jdk_68_method_9_code (3 : Nat) (Option.none : Option Jvm.ClassFile.FieldType), Jvm.Cond.code ({ cls := "java/lang/AbstractStringBuilder", name := "putStringAt", desc := "(ILjava/lang/String;)V" } : Jvm.MethodName) jdk_68_method_73_code (3 : Nat) (Option.none : Option Jvm.ClassFile.FieldType), Jvm.Cond.code ({ cls := "java/lang/AbstractStringBuilder", name := "inflateIfNeededFor", desc := "(Ljava/lang/String;)V" } : Jvm.MethodName) jdk_68_method_71_code (2 : Nat) (Option.none : Option Jvm.ClassFile.FieldType), Jvm.Cond.code ({ cls := "java/lang/String", name := "getBytes", desc := "([BIB)V" } : Jvm.MethodName) jdk_42_method_147_code (4 : Nat) (Option.none : Option Jvm.ClassFile.FieldType), Jvm.Cond.code ({ cls := "java/lang/StringBuilder", name := "toString", desc := "()Ljava/lang/String;" } : Jvm.MethodName) jdk_67_method_42_code (1 : Nat) (Option.some (Jvm.ClassFile.FieldType.object "java/lang/String")), Jvm.Cond.code ({ cls := "java/lang/String", name := "<init>", desc := "(Ljava/lang/StringBuilder;)V" } : Jvm.MethodName) jdk_42_method_53_code (2 : Nat) (Option.none : Option Jvm.ClassFile.FieldType), Jvm.Cond.code ({ cls := "java/lang/String", name := "<init>", desc := "(Ljava/lang/AbstractStringBuilder;Ljava/lang/Void;)V" } : Jvm.MethodName) jdk_42_method_150_code (5 : Nat) (Option.none : Option Jvm.ClassFile.FieldType), Jvm.Cond.code ({ cls := "java/lang/AbstractStringBuilder", name := "getValue", desc := "()[B" } : Jvm.MethodName) jdk_68_method_64_code (1 : Nat) (Option.some (Jvm.ClassFile.FieldType.array Jvm.ClassFile.FieldType.byte)), Jvm.Cond.code ({ cls := "java/lang/StringBuilder", name := "length", desc := "()I" } : Jvm.MethodName) jdk_67_method_93_code (1 : Nat) (Option.some Jvm.ClassFile.FieldType.int), Jvm.Cond.code ({ cls := "java/lang/AbstractStringBuilder", name := "length", desc := "()I" } : Jvm.MethodName) jdk_68_method_6_code (1 : Nat) (Option.some Jvm.ClassFile.FieldType.int), Jvm.Cond.code ({ cls := "java/lang/AbstractStringBuilder", name := "isLatin1", desc := "()Z" } : Jvm.MethodName) jdk_68_method_68_code (1 : Nat) (Option.some Jvm.ClassFile.FieldType.boolean), Jvm.Cond.code ({ cls := "java/util/Arrays", name := "copyOfRange", desc := "([BII)[B" } : Jvm.MethodName) jdk_65_method_132_code (3 : Nat) (Option.some (Jvm.ClassFile.FieldType.array Jvm.ClassFile.FieldType.byte)), Jvm.Cond.code ({ cls := "java/util/Arrays", name := "copyOfRangeByte", desc := "([BII)[B" } : Jvm.MethodName) jdk_65_method_133_code (5 : Nat) (Option.some (Jvm.ClassFile.FieldType.array Jvm.ClassFile.FieldType.byte)), Jvm.Cond.code ({ cls := "java/util/Arrays", name := "checkLength", desc := "(II)V" } : Jvm.MethodName) jdk_65_method_131_code (2 : Nat) (Option.none : Option Jvm.ClassFile.FieldType), Jvm.Cond.code ({ cls := "java/lang/Math", name := "min", desc := "(II)I" } : Jvm.MethodName) jdk_29_method_69_code (2 : Nat) (Option.some Jvm.ClassFile.FieldType.int), Jvm.Cond.code ({ cls := "com/example/brisk_warden/briskwarden/core/UnsupportedNumberException", name := "place", desc := "()Ljava/lang/String;" } : Jvm.MethodName) prog_16_method_3_code (1 : Nat) (Option.some (Jvm.ClassFile.FieldType.object "java/lang/String")), Jvm.Cond.code ({ cls := "com/example/brisk_warden/briskwarden/core/UnsupportedNumberExceptionAtPinLaw", name := "pc", desc := "(Ljava/lang/String;Ljava/lang/String;Ljava/lang/String;I)Z" } : Jvm.MethodName) method_5_code (4 : Nat) (Option.some Jvm.ClassFile.FieldType.boolean), Jvm.Cond.code ({ cls := "java/lang/String", name := "charAt", desc := "(I)C" } : Jvm.MethodName) jdk_42_method_56_code (2 : Nat) (Option.some Jvm.ClassFile.FieldType.char), Jvm.Cond.code ({ cls := "java/lang/String", name := "isLatin1", desc := "()Z" } : Jvm.MethodName) jdk_42_method_154_code (1 : Nat) (Option.some Jvm.ClassFile.FieldType.boolean), Jvm.Cond.code ({ cls := "java/lang/StringLatin1", name := "charAt", desc := "([BI)C" } : Jvm.MethodName) jdk_43_method_2_code (2 : Nat) (Option.some Jvm.ClassFile.FieldType.char), Jvm.Cond.code ({ cls := "java/lang/String", name := "checkIndex", desc := "(II)V" } : Jvm.MethodName) jdk_42_method_155_code (2 : Nat) (Option.none : Option Jvm.ClassFile.FieldType), Jvm.Cond.code ({ cls := "jdk/internal/util/Preconditions", name := "checkIndex", desc := "(IILjava/util/function/BiFunction;)I" } : Jvm.MethodName) jdk_41_method_11_code (3 : Nat) (Option.some Jvm.ClassFile.FieldType.int), Jvm.Cond.code ({ cls := "com/example/brisk_warden/briskwarden/core/UnsupportedNumberExceptionAtPinLaw", name := "cat", desc := "(Ljava/lang/String;Ljava/lang/String;I)C" } : Jvm.MethodName) method_4_code (3 : Nat) (Option.some Jvm.ClassFile.FieldType.char), Jvm.Cond.code ({ cls := "com/example/brisk_warden/briskwarden/core/UnsupportedNumberException", name := "problem", desc := "()Ljava/lang/String;" } : Jvm.MethodName) prog_16_method_4_code (1 : Nat) (Option.some (Jvm.ClassFile.FieldType.object "java/lang/String")), Jvm.Cond.code ({ cls := "java/lang/String", name := "equals", desc := "(Ljava/lang/Object;)Z" } : Jvm.MethodName) jdk_42_method_66_code (3 : Nat) (Option.some Jvm.ClassFile.FieldType.boolean), Jvm.Cond.code ({ cls := "java/lang/Throwable", name := "getMessage", desc := "()Ljava/lang/String;" } : Jvm.MethodName) jdk_78_method_6_code (1 : Nat) (Option.some (Jvm.ClassFile.FieldType.object "java/lang/String")), Jvm.Cond.code ({ cls := "com/example/brisk_warden/briskwarden/core/UnsupportedNumberExceptionAtPinLaw", name := "mc", desc := "(Ljava/lang/String;Ljava/lang/String;Ljava/lang/String;Ljava/lang/String;I)Z" } : Jvm.MethodName) method_6_code (7 : Nat) (Option.some Jvm.ClassFile.FieldType.boolean), Jvm.Cond.code ({ cls := "java/lang/StringUTF16", name := "compress", desc := "([CII)[B" } : Jvm.MethodName) jdk_52_method_16_code (6 : Nat) (Option.some (Jvm.ClassFile.FieldType.array Jvm.ClassFile.FieldType.byte)), Jvm.Cond.code ({ cls := "java/lang/StringUTF16", name := "compress", desc := "([CI[BII)I" } : Jvm.MethodName) jdk_52_method_21_code (7 : Nat) (Option.some Jvm.ClassFile.FieldType.int), Jvm.Cond.code ({ cls := "java/lang/StringUTF16", name := "coderFromArrayLen", desc := "([BI)B" } : Jvm.MethodName) jdk_52_method_15_code (2 : Nat) (Option.some Jvm.ClassFile.FieldType.byte)]
set_option maxRecDepth 65536 in
theorem codes_eq : words1.filter isCode = codes1 := rfl
theorem w_codes : ∀ c ∈ words1.filter isCode, c.before args0 about1 = true := by
  rw [codes_eq]
  intro c hc
  simp only [codes1, List.mem_cons, List.not_mem_nil, or_false] at hc
  rcases hc with rfl | rfl | rfl | rfl | rfl | rfl | rfl | rfl | rfl | rfl | rfl | rfl | rfl | rfl | rfl | rfl | rfl | rfl | rfl | rfl | rfl | rfl | rfl | rfl | rfl | rfl | rfl | rfl | rfl | rfl | rfl | rfl | rfl | rfl | rfl | rfl | rfl | rfl | rfl | rfl | rfl | rfl | rfl | rfl | rfl | rfl | rfl | rfl | rfl | rfl | rfl | rfl | rfl
  · exact w_c0
  · exact w_c1
  · exact w_c2
  · exact w_c3
  · exact w_c4
  · exact w_c5
  · exact w_c6
  · exact w_c7
  · exact w_c8
  · exact w_c9
  · exact w_c10
  · exact w_c11
  · exact w_c12
  · exact w_c13
  · exact w_c14
  · exact w_c15
  · exact w_c16
  · exact w_c17
  · exact w_c18
  · exact w_c19
  · exact w_c20
  · exact w_c21
  · exact w_c22
  · exact w_c23
  · exact w_c24
  · exact w_c25
  · exact w_c26
  · exact w_c27
  · exact w_c28
  · exact w_c29
  · exact w_c30
  · exact w_c31
  · exact w_c32
  · exact w_c33
  · exact w_c34
  · exact w_c35
  · exact w_c36
  · exact w_c37
  · exact w_c38
  · exact w_c39
  · exact w_c40
  · exact w_c41
  · exact w_c42
  · exact w_c43
  · exact w_c44
  · exact w_c45
  · exact w_c46
  · exact w_c47
  · exact w_c48
  · exact w_c49
  · exact w_c50
  · exact w_c51
  · exact w_c52
set_option maxRecDepth 65536 in
theorem w_t1 : (words1.take 24).all (fun c => isCode c || c.before args0 about1) = true := by decide +kernel
set_option maxRecDepth 65536 in
theorem w_t2 : ((words1.drop 24).take 24).all (fun c => isCode c || c.before args0 about1) = true := by decide +kernel
set_option maxRecDepth 65536 in
theorem w_t3 : (((words1.drop 24).drop 24).take 24).all (fun c => isCode c || c.before args0 about1) = true := by decide +kernel
set_option maxRecDepth 65536 in
theorem w_t4 : ((((words1.drop 24).drop 24).drop 24).take 24).all (fun c => isCode c || c.before args0 about1) = true := by decide +kernel
set_option maxRecDepth 65536 in
theorem w_t5 : (((((words1.drop 24).drop 24).drop 24).drop 24).take 24).all (fun c => isCode c || c.before args0 about1) = true := by decide +kernel
set_option maxRecDepth 65536 in
theorem w_t6 : ((((((words1.drop 24).drop 24).drop 24).drop 24).drop 24).take 24).all (fun c => isCode c || c.before args0 about1) = true := by decide +kernel
set_option maxRecDepth 65536 in
theorem w_t7 : (((((((words1.drop 24).drop 24).drop 24).drop 24).drop 24).drop 24).take 24).all (fun c => isCode c || c.before args0 about1) = true := by decide +kernel
set_option maxRecDepth 65536 in
theorem w_t8 : ((((((((words1.drop 24).drop 24).drop 24).drop 24).drop 24).drop 24).drop 24).take 24).all (fun c => isCode c || c.before args0 about1) = true := by decide +kernel
set_option maxRecDepth 65536 in
theorem w_t9 : (((((((((words1.drop 24).drop 24).drop 24).drop 24).drop 24).drop 24).drop 24).drop 24).take 24).all (fun c => isCode c || c.before args0 about1) = true := by decide +kernel
set_option maxRecDepth 65536 in
theorem w_t10 : ((((((((((words1.drop 24).drop 24).drop 24).drop 24).drop 24).drop 24).drop 24).drop 24).drop 24).take 24).all (fun c => isCode c || c.before args0 about1) = true := by decide +kernel
set_option maxRecDepth 65536 in
theorem w_t11 : (((((((((((words1.drop 24).drop 24).drop 24).drop 24).drop 24).drop 24).drop 24).drop 24).drop 24).drop 24).take 24).all (fun c => isCode c || c.before args0 about1) = true := by decide +kernel
set_option maxRecDepth 65536 in
theorem w_t12 : ((((((((((((words1.drop 24).drop 24).drop 24).drop 24).drop 24).drop 24).drop 24).drop 24).drop 24).drop 24).drop 24).take 24).all (fun c => isCode c || c.before args0 about1) = true := by decide +kernel
set_option maxRecDepth 65536 in
theorem w_t13 : ((((((((((((words1.drop 24).drop 24).drop 24).drop 24).drop 24).drop 24).drop 24).drop 24).drop 24).drop 24).drop 24).drop 24).all (fun c => isCode c || c.before args0 about1) = true := by decide +kernel
theorem w_tables : (allAtoms (Jvm.Cond.code x code maxLocals ret :: tables_1)).before args0 about1 = true := by
  rw [allAtoms_all]
  show words1.all (fun c => c.before args0 about1) = true
  refine all_split ?_ w_codes
  rw [← List.take_append_drop 24 words1, List.all_append, w_t1, ← List.take_append_drop 24 (words1.drop 24), List.all_append, w_t2, ← List.take_append_drop 24 ((words1.drop 24).drop 24), List.all_append, w_t3, ← List.take_append_drop 24 (((words1.drop 24).drop 24).drop 24), List.all_append, w_t4, ← List.take_append_drop 24 ((((words1.drop 24).drop 24).drop 24).drop 24), List.all_append, w_t5, ← List.take_append_drop 24 (((((words1.drop 24).drop 24).drop 24).drop 24).drop 24), List.all_append, w_t6, ← List.take_append_drop 24 ((((((words1.drop 24).drop 24).drop 24).drop 24).drop 24).drop 24), List.all_append, w_t7, ← List.take_append_drop 24 (((((((words1.drop 24).drop 24).drop 24).drop 24).drop 24).drop 24).drop 24), List.all_append, w_t8, ← List.take_append_drop 24 ((((((((words1.drop 24).drop 24).drop 24).drop 24).drop 24).drop 24).drop 24).drop 24), List.all_append, w_t9, ← List.take_append_drop 24 (((((((((words1.drop 24).drop 24).drop 24).drop 24).drop 24).drop 24).drop 24).drop 24).drop 24), List.all_append, w_t10, ← List.take_append_drop 24 ((((((((((words1.drop 24).drop 24).drop 24).drop 24).drop 24).drop 24).drop 24).drop 24).drop 24).drop 24), List.all_append, w_t11, ← List.take_append_drop 24 (((((((((((words1.drop 24).drop 24).drop 24).drop 24).drop 24).drop 24).drop 24).drop 24).drop 24).drop 24).drop 24), List.all_append, w_t12, w_t13]
  rfl
set_option maxRecDepth 65536 in
theorem w_rest : rest_1_c.before args0 about1 = true := by decide +kernel
set_option maxRecDepth 65536 in
theorem w_case : (Jvm.Cond.and given_1 narrow_1).before args0 about1 = true := by decide +kernel
set_option maxRecDepth 65536 in
theorem w_consts : constsHeld consts_1 about1 := Jvm.Lit.constsHeldB_iff.mp (by decide +kernel)
theorem w_applies : (headSpec (Jvm.Cond.code x code maxLocals ret :: tables_1) room_1).applies x e0.platform about1 = true :=
  (Spec.applies_iff w_frames).mpr ⟨w_running, w_runnable, w_alone, w_named, w_hears, w_ripe, w_room, w_tables⟩
theorem atStart : AtStart classFile x code maxLocals ret World_1 tables_1 room_1 Calls_1 rest_1 Pre_1 launch0 p0 e0 about1 theMethod args0 below0 :=
  ⟨lists_1, trivial, launch0.admits_env _ _ _, launch0.least_env, fairChoices_fair.cas, fairChoices_fair.clock, w_frames, w_args, w_heap, w_applies, ⟨(by decide +kernel : framesKnown about1 = true), ⟨(by decide +kernel : tablesKnown about1 = true), ⟨w_consts, trivial⟩⟩⟩, w_rest, w_case⟩
end start1
theorem witness_1 : WitnessClaimed_1 := ⟨start1.p0, start1.e0, start1.about1, start1.theMethod, start1.args0, start1.below0, start1.atStart⟩
end Jvm.Pilot.@@N@@
