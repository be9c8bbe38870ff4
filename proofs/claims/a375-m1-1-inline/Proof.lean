import JvmDerived
import JvmDerived.Pilot.@@N@@Statement
import JvmDerived.Pilot.@@N@@Code
set_option linter.unusedVariables false
set_option linter.unusedSimpArgs false
namespace Jvm.RoadKit
open Sem ClassFile Op Lib Jvm.Stand Jvm.Free Jvm.LawKit
section New
variable {p : Program} {l : Launch} {e : Env} {R : Room} {s : State} {m : MethodId} {args : Array Value} {below : List Frame} {meth : Method} {c : Code} {T : State} {locs : List Loc} {cells slots : Nat}
theorem retI (X : Stand p l e R s m args below meth c T locs cells slots) (hx : p.tables.exec = Jvm.exec) {pc : Nat} {Ls : Array Slot} {z : Int32} {rest : List Value} (hret : meth.sig.returnType = some .int) (hd : decode c.code pc = .ok (.ireturn, 1)) {fs : List Frame}
    (hl : ∀ (f : JFrame) (acts : List Action), f.method = m → f.locked = none → f.entered = [] → (doReturn e (T.setTop f) acts (some (.int z))).1 = T.setFrames fs) : Steps p.tables e below (T.setTop (mkF m pc Ls (.int z :: rest))) (T.setFrames fs) := by
  have hm' : T.vm.method? m = some meth := X.method'
  have hn : narrow .int (.int z) = .int z := rfl
  show Steps p.tables e below (T.setTop { method := m, pc := pc, locals := Ls, stack := _ :: rest, locked := none }) _
  jvm_step X.here [X.here.top, hx, hd, hm', hret, hn]
  first | (intro acts; rw [hl _ acts rfl rfl rfl]) | rw [hl _ _ rfl rfl rfl]
  exact Steps.refl _
theorem retR (X : Stand p l e R s m args below meth c T locs cells slots) (hx : p.tables.exec = Jvm.exec) {pc : Nat} {Ls : Array Slot} {w : Value} {t : FieldType} {rest : List Value} (hret : meth.sig.returnType = some t) (hn : narrow t w = w) (ht : t.isReference = true) (hw : w.isRef = true) (hd : decode c.code pc = .ok (.areturn, 1)) {fs : List Frame}
    (hl : ∀ (f : JFrame) (acts : List Action), f.method = m → f.locked = none → f.entered = [] → (doReturn e (T.setTop f) acts (some w)).1 = T.setFrames fs) : Steps p.tables e below (T.setTop (mkF m pc Ls (w :: rest))) (T.setFrames fs) := by
  have hm' : T.vm.method? m = some meth := X.method'
  show Steps p.tables e below (T.setTop { method := m, pc := pc, locals := Ls, stack := _ :: rest, locked := none }) _
  jvm_step X.here [X.here.top, hx, hd, hm', hret, hn, hw]
  try (refine ⟨ht, ?_⟩)
  first | (intro acts; rw [hl _ acts rfl rfl rfl]) | rw [hl _ _ rfl rfl rfl]
  exact Steps.refl _
end New
end Jvm.RoadKit
/- laws to paste: Road.backV, Road.lenW, Road.eqW, Road.codOf (cut by pick.py; bodies as the Statement names them) -/
namespace Jvm.Pilot.@@N@@
namespace StrChars
open Jvm Sem ClassFile Op Lib Jvm.Stand Jvm.Free.XT Jvm.Free.ALB Jvm.Free.JM Jvm.Free
open Jvm.Lib.Cold (StaticIs)
/-- a char array whose places are chars -/
def Ch (a : Addr) (A : Cell) (U : State) : Prop := Arr .char a A U ∧ Typed .char A
theorem Ch.mv {a : Addr} {A : Cell} {U U' : State} (h : Ch a A U) (hal : U.vm.Alike U'.vm) (hh : U'.heap = U.heap) : Ch a A U' := ⟨h.1.mv hal hh, h.2⟩
theorem Ch.keep {a : Addr} {A : Cell} {U U' : State} (h : Ch a A U) (hal : U.vm.Alike U'.vm) (hk : U'.heap[a]? = some A) : Ch a A U' := ⟨h.1.keep hal hk, h.2⟩
/-- what place i of a char[]'s cell holds -/
def cv (A : Cell) (i : Nat) : Int32 := match A.slots[i]? with | some (.int x) => x | _ => 0
theorem Ch.get {a : Addr} {A : Cell} {U : State} (h : Ch a A U) {i : Nat} (hi : i < A.slots.size) : A.slots[i]? = some (.int (cv A i)) := by
  have e := Array.getElem?_eq_getElem hi
  have f := h.2 i _ e
  unfold cv; rw [e]
  generalize A.slots[i] = v at f
  cases v <;> simp [fits] at f ⊢
/-- the byte that i2b leaves of a char -/
def lo8 (x : Int32) : Int32 := x.toInt8.toInt32
theorem fits_lo8 (y : Int32) : fits .byte (.int (lo8 y)) = true := by
  have h1 := y.toInt8.le_toInt
  have h2 := y.toInt8.toInt_lt
  simp only [lo8, fits, Bool.and_eq_true, decide_eq_true_eq, Int32.le_iff_toInt_le, Int8.toInt_toInt32, show (-128 : Int32).toInt = -128 from by decide, show (127 : Int32).toInt = 127 from by decide]
  omega
/-- A' is A but that each place j of lo .. hi - 1 holds f j -/
def Laid (A A' : Cell) (lo hi : Nat) (f : Nat → Value) : Prop := A'.cls = A.cls ∧ A'.vm = A.vm ∧ A'.slots.size = A.slots.size ∧ ∀ i, A'.slots[i]? = if lo ≤ i ∧ i < hi then some (f i) else A.slots[i]?
theorem Laid.zero (A : Cell) (lo : Nat) (f : Nat → Value) : Laid A A lo (lo + 0) f := ⟨rfl, rfl, rfl, fun i => by rw [if_neg (by omega)]⟩
theorem Laid.step {A Ak : Cell} {lo k : Nat} {f : Nat → Value} {v : Value} (h : Laid A Ak lo k f) (hlo : lo ≤ k) (hk : k < Ak.slots.size) (hv : v = f k) : Laid A (Ak.setSlot k v) lo (k + 1) f := by
  refine ⟨h.1, h.2.1, by simpa [Cell.setSlot] using h.2.2.1, fun i => ?_⟩
  by_cases e : k = i
  · subst e; rw [Cell.slots_setSlot_self v hk, if_pos (by omega), hv]
  · rw [Cell.slots_setSlot_ne v e, h.2.2.2 i]
    by_cases q : lo ≤ i ∧ i < k
    · rw [if_pos q, if_pos (by omega)]
    · rw [if_neg q, if_neg (by omega)]
def U16 : String := "java/lang/StringUTF16"
namespace Cmp5
def yN : MethodName := ⟨"java/lang/StringUTF16", "compress", "([CI[BII)I"⟩
abbrev yB : ByteArray := jdk_52_method_21_code
theorem d0 : decode yB 0 = .ok (.iconst 0, 1) := by decide +kernel
theorem d1 : decode yB 1 = .ok (.istore 5, 2) := by decide +kernel
theorem d3 : decode yB 3 = .ok (.iload 5, 2) := by decide +kernel
theorem d5 : decode yB 5 = .ok (.iload 4, 2) := by decide +kernel
theorem d7 : decode yB 7 = .ok (.if_icmp (.ge) 37, 3) := by decide +kernel
theorem d10 : decode yB 10 = .ok (.aload_n 0, 1) := by decide +kernel
theorem d11 : decode yB 11 = .ok (.iload_n 1, 1) := by decide +kernel
theorem d12 : decode yB 12 = .ok (.caload, 1) := by decide +kernel
theorem d13 : decode yB 13 = .ok (.istore 6, 2) := by decide +kernel
theorem d15 : decode yB 15 = .ok (.iload 6, 2) := by decide +kernel
theorem d17 : decode yB 17 = .ok (.sipush 255, 3) := by decide +kernel
theorem d20 : decode yB 20 = .ok (.if_icmp (.le) 6, 3) := by decide +kernel
theorem d26 : decode yB 26 = .ok (.aload_n 2, 1) := by decide +kernel
theorem d27 : decode yB 27 = .ok (.iload_n 3, 1) := by decide +kernel
theorem d28 : decode yB 28 = .ok (.iload 6, 2) := by decide +kernel
theorem d30 : decode yB 30 = .ok (.i2b, 1) := by decide +kernel
theorem d31 : decode yB 31 = .ok (.bastore, 1) := by decide +kernel
theorem d32 : decode yB 32 = .ok (.iinc 1 1, 3) := by decide +kernel
theorem d35 : decode yB 35 = .ok (.iinc 3 1, 3) := by decide +kernel
theorem d38 : decode yB 38 = .ok (.iinc 5 1, 3) := by decide +kernel
theorem d41 : decode yB 41 = .ok (.goto (-38), 3) := by decide +kernel
theorem d44 : decode yB 44 = .ok (.iload 4, 2) := by decide +kernel
theorem d46 : decode yB 46 = .ok (.ireturn, 1) := by decide +kernel
def site : List Cond := []
def tab : Cond := tabOf yN yB 7 (some .int) site
def P (b : Addr) (A : Cell) (d : Addr) (B : Cell) (o q len : Nat) (args : Array Value) (s : State) : Prop := args = #[.ref b, .int (Int32.ofNat o), .ref d, .int (Int32.ofNat q), .int (Int32.ofNat len)] ∧ Ch b A s ∧ Arr .byte d B s ∧ b ≠ d ∧ o + len ≤ A.slots.size ∧ q + len ≤ B.slots.size ∧ ∀ i, i < len → ¬ 255 < cv A (o + i)
def E (b : Addr) (A : Cell) (d : Addr) (B : Cell) (o q len : Nat) (r : Option Value) (s u : State) : Prop := r = some (.int (Int32.ofNat len)) ∧ ∃ B', Put d B' s u ∧ Laid B B' q (q + len) (fun j => Value.int (lo8 (cv A (o + (j - q)))))
/-- no char of the range above 255: len; the places written hold each char's low byte -/
theorem law (l : Launch) (b : Addr) (A : Cell) (d : Addr) (B : Cell) (o q len : Nat) : Law l yN 5 5 0 0 yB 7 (some .int) site (P b A d B o q len) (E b A d B o q len) (copyLocs d q len) 0 0 := by
  refine Law.of_walk (plainFor_of_name (by decide +kernel)) (by decide +kernel) (by decide +kernel) (by decide) (fun _ _ h => by rw [h.1]; rfl) (fun _ U U' hal hh h => ⟨h.1, h.2.1.mv hal hh, h.2.2.1.mv hal hh, h.2.2.2⟩) (fun r U U' V V' h1 hal h2 h => ⟨h.1, h.2.elim fun B' q => ⟨B', q.1.mv h1 h2, q.2⟩⟩) ?_
  intro p e s m args below meth c s₁ X0 hexec hbytes hml hret hlk hnm hown hh0 W hP
  obtain ⟨rfl, hA, hB, hne, l1, l2, hp⟩ := hP
  have c1 : Steps p.tables e below (s₁.setTop (entryFrame m #[.ref b, .int (Int32.ofNat o), .ref d, .int (Int32.ofNat q), .int (Int32.ofNat len)] 7)) (s₁.setTop (mkF m 0 #[.val (.ref b), .val (.int (Int32.ofNat o)), .val (.ref d), .val (.int (Int32.ofNat q)), .val (.int (Int32.ofNat len)), .unset, .unset] [])) := entry rfl
  have hA0 := hA.1.mv X0.warmed.alike hh0
  have hB0 := hB.mv X0.warmed.alike hh0
  have a31 := hA.1.2.2.2
  have c2 : Steps p.tables e below (s₁.setTop (entryFrame m #[.ref b, .int (Int32.ofNat o), .ref d, .int (Int32.ofNat q), .int (Int32.ofNat len)] 7)) (s₁.setTop (mkF m 3 #[.val (.ref b), .val (.int (Int32.ofNat o)), .val (.ref d), .val (.int (Int32.ofNat q)), .val (.int (Int32.ofNat len)), .val (.int 0), .unset] [])) := c1.trans (by
    refine iconstV X0.here hexec rfl 0 (hb hbytes d0) (by decide) ?_
    refine XS.istore X0.here hexec rfl (hb hbytes d1) rfl rfl ?_
    exact Steps.refl _)
  have loop : ∀ (r i : Nat), i + r = len → ∀ (z : Slot), (z = .unset ∨ ∃ w, z = .val w ∧ w.category = 1) → ∀ (Tl : State) (Bk : Cell), Stand p l e { frames := 0, locals := 0, cells := 0, slots := 0 } s m #[.ref b, .int (Int32.ofNat o), .ref d, .int (Int32.ofNat q), .int (Int32.ofNat len)] below meth c Tl ([] ++ copyLocs d q i) 0 0 → Put d Bk s₁ Tl → Laid B Bk q (q + i) (fun j => Value.int (lo8 (cv A (o + (j - q))))) →
      Steps p.tables e below (s₁.setTop (entryFrame m #[.ref b, .int (Int32.ofNat o), .ref d, .int (Int32.ofNat q), .int (Int32.ofNat len)] 7)) (Tl.setTop (mkF m 3 #[.val (.ref b), .val (.int (Int32.ofNat (o + i))), .val (.ref d), .val (.int (Int32.ofNat (q + i))), .val (.int (Int32.ofNat len)), .val (.int (Int32.ofNat i)), z] [])) → ∃ (T' : State) (B' : Cell) (z' : Slot), Stand p l e { frames := 0, locals := 0, cells := 0, slots := 0 } s m #[.ref b, .int (Int32.ofNat o), .ref d, .int (Int32.ofNat q), .int (Int32.ofNat len)] below meth c T' ([] ++ copyLocs d q len) 0 0 ∧ Put d B' s₁ T' ∧ Laid B B' q (q + len) (fun j => Value.int (lo8 (cv A (o + (j - q))))) ∧
      Steps p.tables e below (s₁.setTop (entryFrame m #[.ref b, .int (Int32.ofNat o), .ref d, .int (Int32.ofNat q), .int (Int32.ofNat len)] 7)) (T'.setTop (mkF m 3 #[.val (.ref b), .val (.int (Int32.ofNat (o + len))), .val (.ref d), .val (.int (Int32.ofNat (q + len))), .val (.int (Int32.ofNat len)), .val (.int (Int32.ofNat len)), z'] [])) := by
    intro r
    induction r with
    | zero =>
      intro i hi z hz Tl Bk Xl pl fl cl
      have hil : i = len := by omega
      rw [hil] at Xl fl cl
      exact ⟨Tl, Bk, z, Xl, pl, fl, cl⟩
    | succ r ih =>
      intro i hi z hz Tl Bk Xl pl fl cl
      have all := X0.warmed.alike.symm.trans Xl.warmed.alike
      have hAl := hA0.keep all (pl.other hne hA0.1)
      have hBk := hB0.like all pl.1 fl.1 fl.2.1 fl.2.2.1
      have hlt : q + i < Bk.slots.size := by rw [fl.2.2.1]; omega
      have c3 : Steps p.tables e below (s₁.setTop (entryFrame m #[.ref b, .int (Int32.ofNat o), .ref d, .int (Int32.ofNat q), .int (Int32.ofNat len)] 7)) (Tl.setTop (mkF m 12 #[.val (.ref b), .val (.int (Int32.ofNat (o + i))), .val (.ref d), .val (.int (Int32.ofNat (q + i))), .val (.int (Int32.ofNat len)), .val (.int (Int32.ofNat i)), z] [.int (Int32.ofNat (o + i)), .ref b])) := cl.trans (by
        refine XS.iload Xl.here hexec rfl (hb hbytes d3) rfl ?_
        refine XS.iload Xl.here hexec rfl (hb hbytes d5) rfl ?_
        refine XS.icmpNo Xl.here hexec rfl (hb hbytes d7) rfl (ii_ge_f (lt32 (by omega) (by omega))) ?_
        refine XS.aloadN Xl.here hexec rfl (hb hbytes d10) rfl rfl ?_
        refine XS.iloadN Xl.here hexec rfl (hb hbytes d11) rfl ?_
        exact Steps.refl _)
      have c4 : Steps p.tables e below (s₁.setTop (entryFrame m #[.ref b, .int (Int32.ofNat o), .ref d, .int (Int32.ofNat q), .int (Int32.ofNat len)] 7)) (Tl.setTop (mkF m 13 #[.val (.ref b), .val (.int (Int32.ofNat (o + i))), .val (.ref d), .val (.int (Int32.ofNat (q + i))), .val (.int (Int32.ofNat len)), .val (.int (Int32.ofNat i)), z] [.int (cv A (o + i))])) := c3.trans (by
        refine Xl.aget hexec hAl rfl (hA.get (i := o + i) (by omega)) rfl rfl (hb hbytes d12) ?_
        exact Steps.refl _)
      have c5 : Steps p.tables e below (s₁.setTop (entryFrame m #[.ref b, .int (Int32.ofNat o), .ref d, .int (Int32.ofNat q), .int (Int32.ofNat len)] 7)) (Tl.setTop (mkF m 15 #[.val (.ref b), .val (.int (Int32.ofNat (o + i))), .val (.ref d), .val (.int (Int32.ofNat (q + i))), .val (.int (Int32.ofNat len)), .val (.int (Int32.ofNat i)), .val (.int (cv A (o + i)))] [])) := c4.trans (by
        refine XS.istoreS Xl.here hexec rfl (hb hbytes d13) rfl rfl hz ?_
        exact Steps.refl _)
      have c6 : Steps p.tables e below (s₁.setTop (entryFrame m #[.ref b, .int (Int32.ofNat o), .ref d, .int (Int32.ofNat q), .int (Int32.ofNat len)] 7)) (Tl.setTop (mkF m 31 #[.val (.ref b), .val (.int (Int32.ofNat (o + i))), .val (.ref d), .val (.int (Int32.ofNat (q + i))), .val (.int (Int32.ofNat len)), .val (.int (Int32.ofNat i)), .val (.int (cv A (o + i)))] [.int (lo8 (cv A (o + i))), .int (Int32.ofNat (q + i)), .ref d])) := c5.trans (by
        refine XS.iload Xl.here hexec rfl (hb hbytes d15) rfl ?_
        refine sipushV Xl.here hexec rfl 255 (hb hbytes d17) (by decide) ?_
        refine XS.icmpYes Xl.here hexec rfl (pc0 := 20) rfl (hb hbytes d20) rfl (ii_le_t (hp i (by omega))) (by decide) rfl ?_
        refine XS.aloadN Xl.here hexec rfl (hb hbytes d26) rfl rfl ?_
        refine XS.iloadN Xl.here hexec rfl (hb hbytes d27) rfl ?_
        refine XS.iload Xl.here hexec rfl (hb hbytes d28) rfl ?_
        refine i2b Xl.here hexec rfl (hb hbytes d30) rfl ?_
        exact Steps.refl _)
      obtain ⟨T7, X7, p7, st7⟩ := Xl.aput hexec hBk rfl hlt rfl (fits_lo8 (cv A (o + i))) (g := (mkF m 31 #[.val (.ref b), .val (.int (Int32.ofNat (o + i))), .val (.ref d), .val (.int (Int32.ofNat (q + i))), .val (.int (Int32.ofNat len)), .val (.int (Int32.ofNat i)), .val (.int (cv A (o + i)))] [.int (lo8 (cv A (o + i))), .int (Int32.ofNat (q + i)), .ref d])) rfl (rest := []) rfl (hb hbytes d31)
      have c8 : Steps p.tables e below (s₁.setTop (entryFrame m #[.ref b, .int (Int32.ofNat o), .ref d, .int (Int32.ofNat q), .int (Int32.ofNat len)] 7)) (T7.setTop (mkF m 32 #[.val (.ref b), .val (.int (Int32.ofNat (o + i))), .val (.ref d), .val (.int (Int32.ofNat (q + i))), .val (.int (Int32.ofNat len)), .val (.int (Int32.ofNat i)), .val (.int (cv A (o + i)))] [])) := c6.trans (st7 _ (Steps.refl _))
      have c9 : Steps p.tables e below (s₁.setTop (entryFrame m #[.ref b, .int (Int32.ofNat o), .ref d, .int (Int32.ofNat q), .int (Int32.ofNat len)] 7)) (T7.setTop (mkF m 3 #[.val (.ref b), .val (.int (Int32.ofNat (o + i) + 1)), .val (.ref d), .val (.int (Int32.ofNat (q + i) + 1)), .val (.int (Int32.ofNat len)), .val (.int (Int32.ofNat i + 1)), .val (.int (cv A (o + i)))] [])) := c8.trans (by
        refine iincV X7.here hexec rfl 1 (hb hbytes d32) (by decide) rfl rfl ?_
        refine iincV X7.here hexec rfl 1 (hb hbytes d35) (by decide) rfl rfl ?_
        refine iincV X7.here hexec rfl 1 (hb hbytes d38) (by decide) rfl rfl ?_
        refine XS.goto X7.here hexec rfl (pc0 := 41) rfl (hb hbytes d41) (by decide) rfl ?_
        exact Steps.refl _)
      have c10 : Steps p.tables e below (s₁.setTop (entryFrame m #[.ref b, .int (Int32.ofNat o), .ref d, .int (Int32.ofNat q), .int (Int32.ofNat len)] 7)) (T7.setTop (mkF m 3 #[.val (.ref b), .val (.int (Int32.ofNat (o + (i + 1)))), .val (.ref d), .val (.int (Int32.ofNat (q + (i + 1)))), .val (.int (Int32.ofNat len)), .val (.int (Int32.ofNat (i + 1))), .val (.int (cv A (o + i)))] [])) := by
        have := c9
        rw [succ32, succ32, succ32] at this
        exact this
      exact ih (i + 1) (by omega) _ (Or.inr ⟨_, rfl, rfl⟩) T7 _ (by rw [copyLocs_step, ← List.append_assoc]; exact X7) (pl.trans p7) (fl.step (by omega) hlt (by simp)) c10
  obtain ⟨T9, B9, z9, X9, p9, f9, g9⟩ := loop len 0 (by omega) .unset (Or.inl rfl) s₁ B (by simpa [copyLocs] using X0) ⟨hB0.1, fun _ _ => rfl, rfl⟩ (Laid.zero _ _ _) c2
  have c11 : Steps p.tables e below (s₁.setTop (entryFrame m #[.ref b, .int (Int32.ofNat o), .ref d, .int (Int32.ofNat q), .int (Int32.ofNat len)] 7)) (T9.setTop (mkF m 46 #[.val (.ref b), .val (.int (Int32.ofNat (o + len))), .val (.ref d), .val (.int (Int32.ofNat (q + len))), .val (.int (Int32.ofNat len)), .val (.int (Int32.ofNat len)), z9] [.int (Int32.ofNat len)])) := g9.trans (by
    refine XS.iload X9.here hexec rfl (hb hbytes d3) rfl ?_
    refine XS.iload X9.here hexec rfl (hb hbytes d5) rfl ?_
    refine XS.icmpYes X9.here hexec rfl (pc0 := 7) rfl (hb hbytes d7) rfl (ii_ge_t (nlt32 (by omega) (Nat.le_refl _))) (by decide) rfl ?_
    refine XS.iload X9.here hexec rfl (hb hbytes d44) rfl ?_
    exact Steps.refl _)
  exact ⟨T9, some (.int (Int32.ofNat len)), _, _, _, X9, by simp, rfl, rfl, (fun h => by cases h), ⟨rfl, B9, p9.from hh0, f9⟩, fun fs hl => c11.trans (X9.ireturnOut hexec hret rfl (Or.inl rfl) (hb hbytes d46) hl)⟩
end Cmp5
namespace Cmp3
def yN : MethodName := ⟨"java/lang/StringUTF16", "compress", "([CII)[B"⟩
abbrev yB : ByteArray := jdk_52_method_16_code
theorem d0 : decode yB 0 = .ok (.iload_n 2, 1) := by decide +kernel
theorem d1 : decode yB 1 = .ok (.newarray .byte, 2) := by decide +kernel
theorem d3 : decode yB 3 = .ok (.astore_n 3, 1) := by decide +kernel
theorem d4 : decode yB 4 = .ok (.aload_n 0, 1) := by decide +kernel
theorem d5 : decode yB 5 = .ok (.iload_n 1, 1) := by decide +kernel
theorem d6 : decode yB 6 = .ok (.aload_n 3, 1) := by decide +kernel
theorem d7 : decode yB 7 = .ok (.iconst 0, 1) := by decide +kernel
theorem d8 : decode yB 8 = .ok (.iload_n 2, 1) := by decide +kernel
theorem d9 : decode yB 9 = .ok (.invokestatic 115, 3) := by decide +kernel
theorem d12 : decode yB 12 = .ok (.istore 4, 2) := by decide +kernel
theorem d14 : decode yB 14 = .ok (.iload 4, 2) := by decide +kernel
theorem d16 : decode yB 16 = .ok (.iload_n 2, 1) := by decide +kernel
theorem d17 : decode yB 17 = .ok (.if_icmp (.eq) 40, 3) := by decide +kernel
theorem d57 : decode yB 57 = .ok (.aload_n 3, 1) := by decide +kernel
theorem d58 : decode yB 58 = .ok (.areturn, 1) := by decide +kernel
def site : List Cond := [.arrayClass .byte, Cmp5.tab] ++ staticW U16 115 Cmp5.yN
def tab : Cond := tabOf yN yB 6 (some (.array .byte)) site
def P (b : Addr) (A : Cell) (o len : Nat) (args : Array Value) (s : State) : Prop := args = #[.ref b, .int (Int32.ofNat o), .int (Int32.ofNat len)] ∧ Ch b A s ∧ o + len ≤ A.slots.size ∧ len ≤ 536870912 ∧ ∀ i, i < len → ¬ 255 < cv A (o + i)
def E (b : Addr) (A : Cell) (o len : Nat) (r : Option Value) (s u : State) : Prop := NewArr .byte "[B" len (fun j => .int (lo8 (cv A (o + j)))) r s u ∧ u.heap.size = s.heap.size + 1
/-- no char of the range above 255: a new byte[] of their low bytes -/
theorem law (l : Launch) (b : Addr) (A : Cell) (o len : Nat) : Law l yN 3 3 1 18 yB 6 (some (.array .byte)) site (P b A o len) (E b A o len) [] 1 len := by
  refine Law.of_walk (plainFor_of_name (by decide +kernel)) (by decide +kernel) (by decide +kernel) (by decide) (fun _ _ h => by rw [h.1]; rfl) (fun _ U U' hal hh h => ⟨h.1, h.2.1.mv hal hh, h.2.2⟩) (fun r U U' V V' h1 hal h2 h => ⟨NewArr.mv r U U' V V' h1 hal h2 h.1, by rw [h1, h2]; exact h.2⟩) ?_
  intro p e s m args below meth c s₁ X0 hexec hbytes hml hret hlk hnm hown hh0 W hP
  obtain ⟨rfl, hA, l1, l2, hp⟩ := hP
  have a31 := hA.1.2.2.2
  have c1 : Steps p.tables e below (s₁.setTop (entryFrame m #[.ref b, .int (Int32.ofNat o), .int (Int32.ofNat len)] 6)) (s₁.setTop (mkF m 0 #[.val (.ref b), .val (.int (Int32.ofNat o)), .val (.int (Int32.ofNat len)), .unset, .unset, .unset] [])) := entry rfl
  have c2 : Steps p.tables e below (s₁.setTop (entryFrame m #[.ref b, .int (Int32.ofNat o), .int (Int32.ofNat len)] 6)) (s₁.setTop (mkF m 1 #[.val (.ref b), .val (.int (Int32.ofNat o)), .val (.int (Int32.ofNat len)), .unset, .unset, .unset] [.int (Int32.ofNat len)])) := c1.trans (by
    refine XS.iloadN X0.here hexec rfl (hb hbytes d0) rfl ?_
    exact Steps.refl _)
  obtain ⟨T3, B3, X3, ba3, bs3, bv3, bh3, bf3, st3⟩ := X0.anew hexec (atype := .byte) (wk W (.arrayClass .byte)) rfl (by show len * 1 ≤ _; omega) (by omega) (g := (mkF m 1 #[.val (.ref b), .val (.int (Int32.ofNat o)), .val (.int (Int32.ofNat len)), .unset, .unset, .unset] [.int (Int32.ofNat len)])) rfl (hb hbytes d1) (rest := []) rfl (Nat.le_refl _) (by show 0 + len ≤ len; omega)
  rw [hh0] at ba3 st3
  have kp3 : XT.Kept s T3 := (XT.Kept.of_eq hh0).push bh3
  have hA3 := hA.keep X3.warmed.alike (kp3 _ _ hA.1.1)
  have hne : b ≠ s.heap.size := hA.1.ne
  have c4 : Steps p.tables e below (s₁.setTop (entryFrame m #[.ref b, .int (Int32.ofNat o), .int (Int32.ofNat len)] 6)) (T3.setTop (mkF m 3 #[.val (.ref b), .val (.int (Int32.ofNat o)), .val (.int (Int32.ofNat len)), .unset, .unset, .unset] [.ref s.heap.size])) := c2.trans (st3 _ (Steps.refl _))
  have c5 : Steps p.tables e below (s₁.setTop (entryFrame m #[.ref b, .int (Int32.ofNat o), .int (Int32.ofNat len)] 6)) (T3.setTop (mkF m 9 #[.val (.ref b), .val (.int (Int32.ofNat o)), .val (.int (Int32.ofNat len)), .val (.ref s.heap.size), .unset, .unset] [.int (Int32.ofNat len), .int 0, .ref s.heap.size, .int (Int32.ofNat o), .ref b])) := c4.trans (by
    refine XS.astoreN X3.here hexec rfl (hb hbytes d3) rfl rfl rfl ?_
    refine XS.aloadN X3.here hexec rfl (hb hbytes d4) rfl rfl ?_
    refine XS.iloadN X3.here hexec rfl (hb hbytes d5) rfl ?_
    refine XS.aloadN X3.here hexec rfl (hb hbytes d6) rfl rfl ?_
    refine iconstV X3.here hexec rfl 0 (hb hbytes d7) (by decide) ?_
    refine XS.iloadN X3.here hexec rfl (hb hbytes d8) rfl ?_
    exact Steps.refl _)
  obtain ⟨v6, T6, X6, E6, g6⟩ := X3.callS hexec (Cmp5.law l b A s.heap.size B3 o 0 len) hown (wks W (staticW U16 115 Cmp5.yN)) (wk W Cmp5.tab) (W := 0) (Nat.le_of_ble_eq_true rfl) (Nat.le_of_ble_eq_true rfl) (Nat.le_refl _) (by show 0 + len + 0 ≤ len; omega) (g := (mkF m 9 #[.val (.ref b), .val (.int (Int32.ofNat o)), .val (.int (Int32.ofNat len)), .val (.ref s.heap.size), .unset, .unset] [.int (Int32.ofNat len), .int (Int32.ofNat 0), .ref s.heap.size, .int (Int32.ofNat o), .ref b])) rfl (by rw [hml]; rfl) c5 (argsL := [.ref b, .int (Int32.ofNat o), .ref s.heap.size, .int (Int32.ofNat 0), .int (Int32.ofNat len)]) (rest := []) rfl rfl (by show 2 * 0 + 0 ≤ _; decide) (hb hbytes d9) (⟨rfl, hA3, ba3, hne, l1, by rw [bs3]; simp, hp⟩)
  obtain ⟨rfl, B6, p6, f6⟩ := E6
  have c7 : Steps p.tables e below (s₁.setTop (entryFrame m #[.ref b, .int (Int32.ofNat o), .int (Int32.ofNat len)] 6)) (T6.setTop (mkF m 12 #[.val (.ref b), .val (.int (Int32.ofNat o)), .val (.int (Int32.ofNat len)), .val (.ref s.heap.size), .unset, .unset] [.int (Int32.ofNat len)])) := g6
  have c8 : Steps p.tables e below (s₁.setTop (entryFrame m #[.ref b, .int (Int32.ofNat o), .int (Int32.ofNat len)] 6)) (T6.setTop (mkF m 58 #[.val (.ref b), .val (.int (Int32.ofNat o)), .val (.int (Int32.ofNat len)), .val (.ref s.heap.size), .val (.int (Int32.ofNat len)), .unset] [.ref s.heap.size])) := c7.trans (by
    refine XS.istore X6.here hexec rfl (hb hbytes d12) rfl rfl ?_
    refine XS.iload X6.here hexec rfl (hb hbytes d14) rfl ?_
    refine XS.iloadN X6.here hexec rfl (hb hbytes d16) rfl ?_
    refine XS.icmpYes X6.here hexec rfl (pc0 := 17) rfl (hb hbytes d17) rfl (ii_eq_t rfl) (by decide) rfl ?_
    refine XS.aloadN X6.here hexec rfl (hb hbytes d57) rfl rfl ?_
    exact Steps.refl _)
  have X8 := X6.wide (L' := []) (cells' := 1) (slots' := len) (fun x hx hlt => by
    simp only [List.nil_append, copyLocs, List.mem_map, List.mem_range] at hx
    obtain ⟨i, -, rfl⟩ := hx
    exact absurd hlt (Nat.lt_irrefl _)) (Nat.le_refl _) (by omega)
  exact ⟨T6, some (.ref s.heap.size), _, _, _, X8, rfl, rfl, rfl, (fun h => by cases h), ⟨⟨rfl, B6, ba3.like (X3.warmed.alike.symm.trans X6.warmed.alike) p6.1 f6.1 f6.2.1 f6.2.2.1, f6.2.1.trans bv3, by rw [X6.warmed.alike.findClass, f6.1]; exact bf3, by rw [f6.2.2.1, bs3]; simp, fun j hj => by rw [f6.2.2.2 j, if_pos (by omega)]; rfl, kp3.put p6 (Nat.le_refl _)⟩, by rw [p6.2.2, bh3, hh0]; simp⟩, fun fs hl => c8.trans (X8.areturnOut hexec rfl hret rfl (hb hbytes d58) hl)⟩
end Cmp3
namespace CodL
def yN : MethodName := ⟨"java/lang/StringUTF16", "coderFromArrayLen", "([BI)B"⟩
abbrev yB : ByteArray := jdk_52_method_15_code
theorem d0 : decode yB 0 = .ok (.iload_n 1, 1) := by decide +kernel
theorem d1 : decode yB 1 = .ok (.aload_n 0, 1) := by decide +kernel
theorem d2 : decode yB 2 = .ok (.arraylength, 1) := by decide +kernel
theorem d3 : decode yB 3 = .ok (.isub, 1) := by decide +kernel
theorem d4 : decode yB 4 = .ok (.bipush 31, 2) := by decide +kernel
theorem d6 : decode yB 6 = .ok (.iushr, 1) := by decide +kernel
theorem d7 : decode yB 7 = .ok (.i2b, 1) := by decide +kernel
theorem d8 : decode yB 8 = .ok (.ireturn, 1) := by decide +kernel
def site : List Cond := []
def tab : Cond := tabOf yN yB 2 (some .byte) site
def P (d : Addr) (B : Cell) (args : Array Value) (s : State) : Prop := args = #[.ref d, .int (Int32.ofNat B.slots.size)] ∧ Arr .byte d B s
def E (r : Option Value) (s u : State) : Prop := XT.PureE (some (.int 0)) r s u
/-- an array as long as the number of chars: LATIN1 -/
theorem law (l : Launch) (d : Addr) (B : Cell) : Law l yN 2 2 0 0 yB 2 (some .byte) site (P d B) E [] 0 0 := by
  refine Law.of_walk (plainFor_of_name (by decide +kernel)) (by decide +kernel) (by decide +kernel) (by decide) (fun _ _ h => by rw [h.1]; rfl) (fun _ U U' hal hh h => ⟨h.1, h.2.mv hal hh⟩) (fun r U U' V V' h1 hal h2 h => XT.PureE.mv r U U' V V' h1 hal h2 h) ?_
  intro p e s m args below meth c s₁ X0 hexec hbytes hml hret hlk hnm hown hh0 W hP
  obtain ⟨rfl, hB⟩ := hP
  have hB0 := hB.mv X0.warmed.alike hh0
  have c1 : Steps p.tables e below (s₁.setTop (entryFrame m #[.ref d, .int (Int32.ofNat B.slots.size)] 2)) (s₁.setTop (mkF m 0 #[.val (.ref d), .val (.int (Int32.ofNat B.slots.size))] [])) := entry rfl
  have c2 : Steps p.tables e below (s₁.setTop (entryFrame m #[.ref d, .int (Int32.ofNat B.slots.size)] 2)) (s₁.setTop (mkF m 2 #[.val (.ref d), .val (.int (Int32.ofNat B.slots.size))] [.ref d, .int (Int32.ofNat B.slots.size)])) := c1.trans (by
    refine XS.iloadN X0.here hexec rfl (hb hbytes d0) rfl ?_
    refine XS.aloadN X0.here hexec rfl (hb hbytes d1) rfl rfl ?_
    exact Steps.refl _)
  have c3 : Steps p.tables e below (s₁.setTop (entryFrame m #[.ref d, .int (Int32.ofNat B.slots.size)] 2)) (s₁.setTop (mkF m 8 #[.val (.ref d), .val (.int (Int32.ofNat B.slots.size))] [.int (lo8 (ushr (Int32.ofNat B.slots.size - Int32.ofNat B.slots.size) 31))])) := c2.trans (by
    refine X0.alen hexec hB0 rfl rfl (hb hbytes d2) ?_
    refine XS.isub X0.here hexec rfl (hb hbytes d3) rfl ?_
    refine bipushV X0.here hexec rfl 31 (hb hbytes d4) (by decide) ?_
    refine iushr X0.here hexec rfl (hb hbytes d6) rfl ?_
    refine i2b X0.here hexec rfl (hb hbytes d7) rfl ?_
    exact Steps.refl _)
  have e0 : lo8 (ushr (Int32.ofNat B.slots.size - Int32.ofNat B.slots.size) 31) = 0 := by rw [Int32.sub_self]; decide
  rw [e0] at c3
  exact ⟨s₁, some (.int 0), _, _, _, X0, rfl, rfl, rfl, (fun h => by cases h), ⟨rfl, hh0⟩, fun fs hl => c3.trans (X0.ireturnOut hexec hret rfl (Or.inr (Or.inr (Or.inl rfl))) (hb hbytes d8) hl)⟩
end CodL
/-- the String at a is Latin-1 over a new byte[] (the heap's one new cell): the low bytes of the len chars of A from o on; every cell but a is kept -/
def Got (a : Addr) (D : Cell) (fV fC : Field) (A : Cell) (o len : Nat) (r : Option Value) (s u : State) : Prop := r = none ∧ ∃ D' V : Cell, Blank "java/lang/String" a D' u ∧ Same D D' [fV.slot, fC.slot] ∧ D'.slots[fV.slot]? = some (.ref s.heap.size) ∧ D'.slots[fC.slot]? = some (.int 0) ∧ Arr .byte s.heap.size V u ∧ V.vm = .none ∧ u.vm.findClass "[B" = some V.cls ∧ V.slots.size = len ∧ (∀ j, j < len → V.slots[j]? = some (.int (lo8 (cv A (o + j))))) ∧ (∀ (y : Addr) (c : Cell), y ≠ a → s.heap[y]? = some c → u.heap[y]? = some c) ∧ u.heap.size = s.heap.size + 1
theorem Got.mv {a : Addr} {D A : Cell} {fV fC : Field} {o len : Nat} : ∀ r (U U' V V' : State), U'.heap = U.heap → V.vm.Alike V'.vm → V'.heap = V.heap → Got a D fV fC A o len r U V → Got a D fV fC A o len r U' V' :=
  fun r U U' V V' h1 hal h2 ⟨e0, D', X, a1, a2, a3, a4, a5, a6, a7, a8, a9, a10, a11⟩ => ⟨e0, D', X, a1.mv hal h2, a2, by rw [h1]; exact a3, a4, by rw [h1]; exact a5.mv hal h2, a6, by rw [hal.findClass]; exact a7, a8, a9, by rw [h1, h2]; exact a10, by rw [h1, h2]; exact a11⟩
namespace New4
def yN : MethodName := ⟨"java/lang/String", "<init>", "([CIILjava/lang/Void;)V"⟩
abbrev yB : ByteArray := jdk_42_method_149_code
theorem d0 : decode yB 0 = .ok (.aload_n 0, 1) := by decide +kernel
theorem d1 : decode yB 1 = .ok (.invokespecial 1, 3) := by decide +kernel
theorem d4 : decode yB 4 = .ok (.iload_n 3, 1) := by decide +kernel
theorem d5 : decode yB 5 = .ok (.ifCond (.ne) 22, 3) := by decide +kernel
theorem d27 : decode yB 27 = .ok (.getstatic 38, 3) := by decide +kernel
theorem d30 : decode yB 30 = .ok (.ifCond (.eq) 28, 3) := by decide +kernel
theorem d33 : decode yB 33 = .ok (.aload_n 1, 1) := by decide +kernel
theorem d34 : decode yB 34 = .ok (.iload_n 2, 1) := by decide +kernel
theorem d35 : decode yB 35 = .ok (.iload_n 3, 1) := by decide +kernel
theorem d36 : decode yB 36 = .ok (.invokestatic 177, 3) := by decide +kernel
theorem d39 : decode yB 39 = .ok (.astore 5, 2) := by decide +kernel
theorem d41 : decode yB 41 = .ok (.aload_n 0, 1) := by decide +kernel
theorem d42 : decode yB 42 = .ok (.aload 5, 2) := by decide +kernel
theorem d44 : decode yB 44 = .ok (.iload_n 3, 1) := by decide +kernel
theorem d45 : decode yB 45 = .ok (.invokestatic 47, 3) := by decide +kernel
theorem d48 : decode yB 48 = .ok (.putfield 15, 3) := by decide +kernel
theorem d51 : decode yB 51 = .ok (.aload_n 0, 1) := by decide +kernel
theorem d52 : decode yB 52 = .ok (.aload 5, 2) := by decide +kernel
theorem d54 : decode yB 54 = .ok (.putfield 9, 3) := by decide +kernel
theorem d57 : decode yB 57 = .ok (.return_, 1) := by decide +kernel
def site : List Cond := [.fieldLink "java/lang/String" 38 "java/lang/String" "COMPACT_STRINGS" "Z", Cmp3.tab, CodL.tab, .laysFinal "java/lang/String" "java/lang/String" "value" "[B", .fieldLink "java/lang/String" 9 "java/lang/String" "value" "[B", .laysFinal "java/lang/String" "java/lang/String" "coder" "B", .fieldLink "java/lang/String" 15 "java/lang/String" "coder" "B"] ++ objW "java/lang/String" 1 ++ staticW "java/lang/String" 177 Cmp3.yN ++ staticW "java/lang/String" 47 CodL.yN
def tab : Cond := tabOf yN yB 6 none site
def P (a : Addr) (D : Cell) (fV fC : Field) (b : Addr) (A : Cell) (z : Int32) (o len : Nat) (args : Array Value) (s : State) : Prop := args = #[.ref a, .ref b, .int (Int32.ofNat o), .int (Int32.ofNat len), .null] ∧ Blank "java/lang/String" a D s ∧ Found "java/lang/String" "value" "[B" fV s ∧ Found "java/lang/String" "coder" "B" fC s ∧ Ch b A s ∧ StaticIs s "java/lang/String" "COMPACT_STRINGS" "Z" (.int z) ∧ ¬ z = 0 ∧ 0 < len ∧ o + len ≤ A.slots.size ∧ len ≤ 536870912 ∧ ∀ i, i < len → ¬ 255 < cv A (o + i)
def E (a : Addr) (D : Cell) (fV fC : Field) (A : Cell) (o len : Nat) (r : Option Value) (s u : State) : Prop := Got a D fV fC A o len r s u
/-- len > 0, no char of the range above 255: a Latin-1 String of their low bytes -/
theorem law (l : Launch) (a : Addr) (D : Cell) (fV fC : Field) (b : Addr) (A : Cell) (z : Int32) (o len : Nat) : Law l yN 5 4 2 35 yB 6 none site (P a D fV fC b A z o len) (E a D fV fC A o len) [⟨a, fC.slot⟩, ⟨a, fV.slot⟩] 1 len := by
  refine Law.of_walk (plainFor_of_name (by decide +kernel)) (by decide +kernel) (by decide +kernel) (by decide) (fun _ _ h => by rw [h.1]; rfl) (fun _ U U' hal hh h => ⟨h.1, h.2.1.mv hal hh, h.2.2.1.al hal, h.2.2.2.1.al hal, h.2.2.2.2.1.mv hal hh, h.2.2.2.2.2.1.there hal hh, h.2.2.2.2.2.2⟩) (fun r U U' V V' h1 hal h2 h => Got.mv r U U' V V' h1 hal h2 h) ?_
  intro p e s m args below meth c s₁ X0 hexec hbytes hml hret hlk hnm hown hh0 W hP
  obtain ⟨rfl, hB, f1, f2, hA, s1, hz, l0, l1, l2, hp⟩ := hP
  have a31 := hA.1.2.2.2
  have c1 : Steps p.tables e below (s₁.setTop (entryFrame m #[.ref a, .ref b, .int (Int32.ofNat o), .int (Int32.ofNat len), .null] 6)) (s₁.setTop (mkF m 0 #[.val (.ref a), .val (.ref b), .val (.int (Int32.ofNat o)), .val (.int (Int32.ofNat len)), .val .null, .unset] [])) := entry rfl
  have c2 : Steps p.tables e below (s₁.setTop (entryFrame m #[.ref a, .ref b, .int (Int32.ofNat o), .int (Int32.ofNat len), .null] 6)) (s₁.setTop (mkF m 1 #[.val (.ref a), .val (.ref b), .val (.int (Int32.ofNat o)), .val (.int (Int32.ofNat len)), .val .null, .unset] [.ref a])) := c1.trans (by
    refine XS.aloadN X0.here hexec rfl (hb hbytes d0) rfl rfl ?_
    exact Steps.refl _)
  obtain ⟨T3, X3, q3, st3⟩ := X0.oinit hexec hown (wks W (objW "java/lang/String" 1)) (g := (mkF m 1 #[.val (.ref a), .val (.ref b), .val (.int (Int32.ofNat o)), .val (.int (Int32.ofNat len)), .val .null, .unset] [.ref a])) rfl (by rw [hml]; rfl) (rest := []) rfl (hb hbytes d1) (W := 0) (by show 2 * 0 + 0 ≤ _; decide) (Nat.le_of_ble_eq_true rfl) (Nat.le_of_ble_eq_true rfl)
  have hh3 := q3.trans hh0
  have c4 : Steps p.tables e below (s₁.setTop (entryFrame m #[.ref a, .ref b, .int (Int32.ofNat o), .int (Int32.ofNat len), .null] 6)) (T3.setTop (mkF m 27 #[.val (.ref a), .val (.ref b), .val (.int (Int32.ofNat o)), .val (.int (Int32.ofNat len)), .val .null, .unset] [])) := (c2.trans (st3 _ (Steps.refl _))).trans (by
    refine XS.iloadN X3.here hexec rfl (hb hbytes d4) rfl ?_
    refine XS.ifYes X3.here hexec rfl (pc0 := 5) rfl (hb hbytes d5) rfl (i0_ne_t (nz32 (by omega) l0)) (by decide) rfl ?_
    exact Steps.refl _)
  obtain ⟨T5, X5, q5, st5⟩ := X3.sget hexec hown (wk W (.fieldLink "java/lang/String" 38 "java/lang/String" "COMPACT_STRINGS" "Z")) s1 (fun _ _ h => by rw [hh3]; exact h) (g := (mkF m 27 #[.val (.ref a), .val (.ref b), .val (.int (Int32.ofNat o)), .val (.int (Int32.ofNat len)), .val .null, .unset] [])) rfl (hb hbytes d27)
  have hh5 := q5.trans hh3
  have c6 : Steps p.tables e below (s₁.setTop (entryFrame m #[.ref a, .ref b, .int (Int32.ofNat o), .int (Int32.ofNat len), .null] 6)) (T5.setTop (mkF m 30 #[.val (.ref a), .val (.ref b), .val (.int (Int32.ofNat o)), .val (.int (Int32.ofNat len)), .val .null, .unset] [.int z])) := c4.trans (st5 _ (Steps.refl _))
  have c7 : Steps p.tables e below (s₁.setTop (entryFrame m #[.ref a, .ref b, .int (Int32.ofNat o), .int (Int32.ofNat len), .null] 6)) (T5.setTop (mkF m 36 #[.val (.ref a), .val (.ref b), .val (.int (Int32.ofNat o)), .val (.int (Int32.ofNat len)), .val .null, .unset] [.int (Int32.ofNat len), .int (Int32.ofNat o), .ref b])) := c6.trans (by
    refine XS.ifNo X5.here hexec rfl (hb hbytes d30) rfl (i0_eq_f hz) ?_
    refine XS.aloadN X5.here hexec rfl (hb hbytes d33) rfl rfl ?_
    refine XS.iloadN X5.here hexec rfl (hb hbytes d34) rfl ?_
    refine XS.iloadN X5.here hexec rfl (hb hbytes d35) rfl ?_
    exact Steps.refl _)
  obtain ⟨v8, T8, X8, E8, g8⟩ := X5.callS hexec (Cmp3.law l b A o len) hown (wks W (staticW "java/lang/String" 177 Cmp3.yN)) (wk W Cmp3.tab) (W := 0) (Nat.le_of_ble_eq_true rfl) (Nat.le_of_ble_eq_true rfl) (Nat.le_refl _) (by show 0 + len ≤ len; omega) (g := (mkF m 36 #[.val (.ref a), .val (.ref b), .val (.int (Int32.ofNat o)), .val (.int (Int32.ofNat len)), .val .null, .unset] [.int (Int32.ofNat len), .int (Int32.ofNat o), .ref b])) rfl (by rw [hml]; rfl) c7 (argsL := [.ref b, .int (Int32.ofNat o), .int (Int32.ofNat len)]) (rest := []) rfl rfl (by show 2 * 0 + 0 ≤ _; decide) (hb hbytes d36) (⟨rfl, hA.mv X5.warmed.alike hh5, l1, l2, hp⟩)
  obtain ⟨e8, z8⟩ := E8
  obtain ⟨rfl, N, n1, n2, n3, n4, n5, n6⟩ := NewArr.mv _ T5 s _ _ hh5.symm (Vm.Alike.refl _) rfl e8
  rw [hh5] at z8
  have hB1 := hB.keep X8.warmed.alike (n6 _ _ hB.1)
  have hne : s.heap.size ≠ a := (Nat.ne_of_lt (Array.getElem?_eq_some_iff.mp hB.1).1).symm
  have c9 : Steps p.tables e below (s₁.setTop (entryFrame m #[.ref a, .ref b, .int (Int32.ofNat o), .int (Int32.ofNat len), .null] 6)) (T8.setTop (mkF m 39 #[.val (.ref a), .val (.ref b), .val (.int (Int32.ofNat o)), .val (.int (Int32.ofNat len)), .val .null, .unset] [.ref s.heap.size])) := g8
  have c10 : Steps p.tables e below (s₁.setTop (entryFrame m #[.ref a, .ref b, .int (Int32.ofNat o), .int (Int32.ofNat len), .null] 6)) (T8.setTop (mkF m 45 #[.val (.ref a), .val (.ref b), .val (.int (Int32.ofNat o)), .val (.int (Int32.ofNat len)), .val .null, .val (.ref s.heap.size)] [.int (Int32.ofNat N.slots.size), .ref s.heap.size, .ref a])) := by
    have hc : Steps p.tables e below (s₁.setTop (entryFrame m #[.ref a, .ref b, .int (Int32.ofNat o), .int (Int32.ofNat len), .null] 6)) (T8.setTop (mkF m 45 #[.val (.ref a), .val (.ref b), .val (.int (Int32.ofNat o)), .val (.int (Int32.ofNat len)), .val .null, .val (.ref s.heap.size)] [.int (Int32.ofNat len), .ref s.heap.size, .ref a])) := c9.trans (by
      refine XS.astore X8.here hexec rfl (hb hbytes d39) rfl rfl rfl ?_
      refine XS.aloadN X8.here hexec rfl (hb hbytes d41) rfl rfl ?_
      refine XS.aload X8.here hexec rfl (hb hbytes d42) rfl rfl ?_
      refine XS.iloadN X8.here hexec rfl (hb hbytes d44) rfl ?_
      exact Steps.refl _)
    rw [n4]; exact hc
  obtain ⟨v11, T11, X11, E11, g11⟩ := X8.callS hexec (CodL.law l s.heap.size N) hown (wks W (staticW "java/lang/String" 47 CodL.yN)) (wk W CodL.tab) (W := 1) (Nat.le_of_ble_eq_true rfl) (Nat.le_of_ble_eq_true rfl) (Nat.le_refl _) (by show 0 + len + 0 ≤ len; omega) (g := (mkF m 45 #[.val (.ref a), .val (.ref b), .val (.int (Int32.ofNat o)), .val (.int (Int32.ofNat len)), .val .null, .val (.ref s.heap.size)] [.int (Int32.ofNat N.slots.size), .ref s.heap.size, .ref a])) rfl (by rw [hml]; rfl) c10 (argsL := [.ref s.heap.size, .int (Int32.ofNat N.slots.size)]) (rest := [.ref a]) rfl rfl (by show 2 * 0 + (1 + 0) ≤ _; decide) (hb hbytes d45) (⟨rfl, n1⟩)
  obtain ⟨rfl, q11⟩ := E11
  have hB11 := hB1.mv (X8.warmed.alike.symm.trans X11.warmed.alike) q11
  have c12 : Steps p.tables e below (s₁.setTop (entryFrame m #[.ref a, .ref b, .int (Int32.ofNat o), .int (Int32.ofNat len), .null] 6)) (T11.setTop (mkF m 48 #[.val (.ref a), .val (.ref b), .val (.int (Int32.ofNat o)), .val (.int (Int32.ofNat len)), .val .null, .val (.ref s.heap.size)] [.int 0, .ref a])) := g11
  obtain ⟨T13, X13, p13, bl13, sl13, st13⟩ := X11.finit hexec hown (wk W (.fieldLink "java/lang/String" 15 "java/lang/String" "coder" "B")) (Or.inr ⟨_, (wk W (.laysFinal "java/lang/String" "java/lang/String" "coder" "B"))⟩) (Or.inl ⟨rfl, hnm⟩) f2 (Or.inl rfl) hB11 (t := .byte) (by decide +kernel) rfl (g := (mkF m 48 #[.val (.ref a), .val (.ref b), .val (.int (Int32.ofNat o)), .val (.int (Int32.ofNat len)), .val .null, .val (.ref s.heap.size)] [.int 0, .ref a])) rfl (rest := []) rfl (hb hbytes d48)
  have c14 : Steps p.tables e below (s₁.setTop (entryFrame m #[.ref a, .ref b, .int (Int32.ofNat o), .int (Int32.ofNat len), .null] 6)) (T13.setTop (mkF m 54 #[.val (.ref a), .val (.ref b), .val (.int (Int32.ofNat o)), .val (.int (Int32.ofNat len)), .val .null, .val (.ref s.heap.size)] [.ref s.heap.size, .ref a])) := (c12.trans (st13 _ (Steps.refl _))).trans (by
    refine XS.aloadN X13.here hexec rfl (hb hbytes d51) rfl rfl ?_
    refine XS.aload X13.here hexec rfl (hb hbytes d52) rfl rfl ?_
    exact Steps.refl _)
  obtain ⟨T15, X15, p15, bl15, sl15, st15⟩ := X13.finit hexec hown (wk W (.fieldLink "java/lang/String" 9 "java/lang/String" "value" "[B")) (Or.inr ⟨_, (wk W (.laysFinal "java/lang/String" "java/lang/String" "value" "[B"))⟩) (Or.inl ⟨rfl, hnm⟩) f1 (Or.inl rfl) bl13 (t := (.array .byte)) (by decide +kernel) rfl (g := (mkF m 54 #[.val (.ref a), .val (.ref b), .val (.int (Int32.ofNat o)), .val (.int (Int32.ofNat len)), .val .null, .val (.ref s.heap.size)] [.ref s.heap.size, .ref a])) rfl (rest := []) rfl (hb hbytes d54)
  have c16 : Steps p.tables e below (s₁.setTop (entryFrame m #[.ref a, .ref b, .int (Int32.ofNat o), .int (Int32.ofNat len), .null] 6)) (T15.setTop (mkF m 57 #[.val (.ref a), .val (.ref b), .val (.int (Int32.ofNat o)), .val (.int (Int32.ofNat len)), .val .null, .val (.ref s.heap.size)] [])) := c14.trans (st15 _ (Steps.refl _))
  have ap := apart (Or.inr ⟨_, (wk W (.laysFinal "java/lang/String" "java/lang/String" "value" "[B"))⟩) (Or.inr ⟨_, (wk W (.laysFinal "java/lang/String" "java/lang/String" "coder" "B"))⟩) f1 f2 (t₁ := .array .byte) (t₂ := .byte) (by decide +kernel) (by decide +kernel) (by decide)
  have al := X8.warmed.alike.symm.trans X15.warmed.alike
  have n7 : T11.heap[s.heap.size]? = some N := by rw [q11]; exact n1.1
  exact ⟨T15, none, _, _, _, X15, by simp, rfl, by omega, (fun _ => rfl), ⟨rfl, _, N, bl15, ((Same.refl D _).set _ (by simp)).set _ (by simp), sl15, (Cell.slots_setSlot_ne _ ap).trans sl13, n1.keep al (p15.other hne (p13.other hne n7)), n2, by rw [al.findClass]; exact n3, n4, n5, fun y c h1 h2 => p15.other h1 (p13.other h1 (by rw [q11]; exact n6 y c h2)), by rw [p15.2.2, p13.2.2, q11]; exact z8⟩, fun fs hl => c16.trans (X15.returnOut hexec hret (hb hbytes d57) hl)⟩
end New4
namespace New1
def yN : MethodName := ⟨"java/lang/String", "<init>", "([C)V"⟩
abbrev yB : ByteArray := jdk_42_method_3_code
theorem d0 : decode yB 0 = .ok (.aload_n 0, 1) := by decide +kernel
theorem d1 : decode yB 1 = .ok (.aload_n 1, 1) := by decide +kernel
theorem d2 : decode yB 2 = .ok (.iconst 0, 1) := by decide +kernel
theorem d3 : decode yB 3 = .ok (.aload_n 1, 1) := by decide +kernel
theorem d4 : decode yB 4 = .ok (.arraylength, 1) := by decide +kernel
theorem d5 : decode yB 5 = .ok (.aconst_null, 1) := by decide +kernel
theorem d6 : decode yB 6 = .ok (.invokespecial 27, 3) := by decide +kernel
theorem d9 : decode yB 9 = .ok (.return_, 1) := by decide +kernel
def site : List Cond := [New4.tab] ++ initW "java/lang/String" 27 New4.yN
def tab : Cond := tabOf yN yB 2 none site
def P (a : Addr) (D : Cell) (fV fC : Field) (b : Addr) (A : Cell) (z : Int32) (args : Array Value) (s : State) : Prop := args = #[.ref a, .ref b] ∧ Blank "java/lang/String" a D s ∧ Found "java/lang/String" "value" "[B" fV s ∧ Found "java/lang/String" "coder" "B" fC s ∧ Ch b A s ∧ StaticIs s "java/lang/String" "COMPACT_STRINGS" "Z" (.int z) ∧ ¬ z = 0 ∧ 0 < A.slots.size ∧ A.slots.size ≤ 536870912 ∧ ∀ i, i < A.slots.size → ¬ 255 < cv A i
def E (a : Addr) (D : Cell) (fV fC : Field) (A : Cell) (r : Option Value) (s u : State) : Prop := Got a D fV fC A 0 A.slots.size r s u
/-- new String(chars), not empty, no char above 255: a Latin-1 String of their low bytes -/
theorem law (l : Launch) (a : Addr) (D : Cell) (fV fC : Field) (b : Addr) (A : Cell) (z : Int32) : Law l yN 2 1 3 52 yB 2 none site (P a D fV fC b A z) (E a D fV fC A) [⟨a, fC.slot⟩, ⟨a, fV.slot⟩] 1 A.slots.size := by
  refine Law.of_walk (plainFor_of_name (by decide +kernel)) (by decide +kernel) (by decide +kernel) (by decide) (fun _ _ h => by rw [h.1]; rfl) (fun _ U U' hal hh h => ⟨h.1, h.2.1.mv hal hh, h.2.2.1.al hal, h.2.2.2.1.al hal, h.2.2.2.2.1.mv hal hh, h.2.2.2.2.2.1.there hal hh, h.2.2.2.2.2.2⟩) (fun r U U' V V' h1 hal h2 h => Got.mv r U U' V V' h1 hal h2 h) ?_
  intro p e s m args below meth c s₁ X0 hexec hbytes hml hret hlk hnm hown hh0 W hP
  obtain ⟨rfl, hB, f1, f2, hA, s1, hz, l0, l2, hp⟩ := hP
  have c1 : Steps p.tables e below (s₁.setTop (entryFrame m #[.ref a, .ref b] 2)) (s₁.setTop (mkF m 0 #[.val (.ref a), .val (.ref b)] [])) := entry rfl
  have c2 : Steps p.tables e below (s₁.setTop (entryFrame m #[.ref a, .ref b] 2)) (s₁.setTop (mkF m 6 #[.val (.ref a), .val (.ref b)] [.null, .int (Int32.ofNat A.slots.size), .int 0, .ref b, .ref a])) := c1.trans (by
    refine XS.aloadN X0.here hexec rfl (hb hbytes d0) rfl rfl ?_
    refine XS.aloadN X0.here hexec rfl (hb hbytes d1) rfl rfl ?_
    refine iconstV X0.here hexec rfl 0 (hb hbytes d2) (by decide) ?_
    refine XS.aloadN X0.here hexec rfl (hb hbytes d3) rfl rfl ?_
    refine X0.alen hexec (hA.1.mv X0.warmed.alike hh0) rfl rfl (hb hbytes d4) ?_
    refine XS.aconstNull X0.here hexec rfl (hb hbytes d5) ?_
    exact Steps.refl _)
  obtain ⟨v3, T3, X3, E3, g3⟩ := X0.callN hexec (New4.law l a D fV fC b A z 0 A.slots.size) rfl hown (wks W (initW "java/lang/String" 27 New4.yN)) (W New4.tab (by simp only [site, List.mem_cons, List.mem_append, true_or, or_true])) (W := 0) (Nat.le_of_ble_eq_true rfl) (Nat.le_of_ble_eq_true rfl) (Nat.le_refl _) (by show 0 + A.slots.size ≤ A.slots.size; omega) (g := (mkF m 6 #[.val (.ref a), .val (.ref b)] [.null, .int (Int32.ofNat A.slots.size), .int (Int32.ofNat 0), .ref b, .ref a])) rfl (by rw [hml]; rfl) c2 (argsL := [.ref b, .int (Int32.ofNat 0), .int (Int32.ofNat A.slots.size), .null]) (rest := []) rfl rfl (by show 2 * 0 + 0 ≤ _; decide) (hb hbytes d6) (⟨rfl, hB.mv X0.warmed.alike hh0, f1.al X0.warmed.alike, f2.al X0.warmed.alike, hA.mv X0.warmed.alike hh0, s1.there X0.warmed.alike hh0, hz, l0, by omega, l2, fun i hi => by rw [Nat.zero_add]; exact hp i hi⟩)
  have e0 := Got.mv _ s₁ s _ _ hh0.symm (Vm.Alike.refl _) rfl E3
  obtain rfl := e0.1
  have c4 : Steps p.tables e below (s₁.setTop (entryFrame m #[.ref a, .ref b] 2)) (T3.setTop (mkF m 9 #[.val (.ref a), .val (.ref b)] [])) := g3
  exact ⟨T3, none, _, _, _, X3, by simp, rfl, by omega, (fun _ => rfl), e0, fun fs hl => c4.trans (X3.returnOut hexec hret (hb hbytes d9) hl)⟩
theorem pays {l : Launch} {R : Room} {p : Program} {e : Env} {below : List Frame} {s : State} {sargs : Array Value} {len W : Nat} (a : Addr) (D : Cell) (fV fC : Field) (b : Addr) (A : Cell) (z : Int32) (htab : tab.before sargs s = true) (hfr : 4 ≤ R.frames) (hlo : W + 65 ≤ R.locals) :
    Back l R p e below s sargs yN len W (fun A₁ a₁ => A₁.cells + 1 ≤ R.cells ∧ A₁.slots + A.slots.size ≤ R.slots ∧ P a D fV fC b A z a₁ A₁.U) (fun A₁ _ v₁ B₁ => E a D fV fC A v₁ A₁.U B₁.U ∧ B₁.locs = A₁.locs ++ [⟨a, fC.slot⟩, ⟨a, fV.slot⟩] ∧ B₁.cells = A₁.cells + 1 ∧ B₁.slots = A₁.slots + A.slots.size) :=
  (law l a D fV fC b A z).pays htab hfr (by omega)
end New1
/-- the byte, read back as charAt reads it, is the char -/
theorem lo8_mask {x : Int32} (h0 : ¬ x < 0) (h1 : ¬ 255 < x) : lo8 x &&& 255 = x := by
  have t : ∀ k : Fin 256, lo8 (Int32.ofNat k.val) &&& 255 = Int32.ofNat k.val := by decide +kernel
  rw [Int32.lt_iff_toInt_lt] at h0 h1
  have e0 : (0 : Int32).toInt = 0 := rfl
  have e1 : (255 : Int32).toInt = 255 := rfl
  obtain ⟨k, hk⟩ : ∃ k : Nat, x.toInt = k := ⟨x.toInt.toNat, by omega⟩
  have hx : x = Int32.ofNat k := Int32.toInt_inj.mp (by rw [hk, Int32.toInt_ofNat_small (by omega)])
  rw [hx]
  exact t ⟨k, by omega⟩
end StrChars
namespace StrChars.Road
open Jvm Sem ClassFile Op Lib Jvm.Stand Jvm.Free Jvm.Free.XT
open Jvm.Lib.Cold (StaticIs)
abbrev ST : String := "java/lang/String"
/-- every table word that New1's law asks, flat -/
abbrev words : List Jvm.Cond := [.code New1.yN New1.yB 2 none, .initialized ST, .methodLink ST 27 New4.yN, .instanceMethod New4.yN,
  .code New4.yN New4.yB 6 none, .fieldLink ST 38 ST "COMPACT_STRINGS" "Z", .laysFinal ST ST "value" "[B", .fieldLink ST 9 ST "value" "[B", .laysFinal ST ST "coder" "B", .fieldLink ST 15 ST "coder" "B",
  .methodLink ST 1 Lib.objectInit, .instanceMethod Lib.objectInit, .code Lib.objectInit ⟨#[0xb1]⟩ 1 none, .methodLink ST 177 Cmp3.yN, .static Cmp3.yN, .methodLink ST 47 CodL.yN, .static CodL.yN,
  .code Cmp3.yN Cmp3.yB 6 (some (.array .byte)), .initialized U16, .arrayClass .byte, .methodLink U16 115 Cmp5.yN, .static Cmp5.yN, .code Cmp5.yN Cmp5.yB 7 (some .int), .code CodL.yN CodL.yB 2 (some .byte)]
theorem tab_of {a : Array Value} {s : State} (h : ∀ w ∈ words, w.before a s = true) : New1.tab.before a s = true := by
  have h5 : Cmp5.tab.before a s = true := unparts (wk h (.code Cmp5.yN Cmp5.yB 7 (some .int))) (wks h (.initialized Cmp5.yN.cls :: Cmp5.site))
  have hc : CodL.tab.before a s = true := unparts (wk h (.code CodL.yN CodL.yB 2 (some .byte))) (wks h (.initialized CodL.yN.cls :: CodL.site))
  have q5 : ∀ w ∈ Cmp5.tab :: words, w.before a s = true := fun w hw => (List.mem_cons.mp hw).elim (fun e => e ▸ h5) (h w)
  have h3 : Cmp3.tab.before a s = true := unparts (wk q5 (.code Cmp3.yN Cmp3.yB 6 (some (.array .byte)))) (wks q5 (.initialized Cmp3.yN.cls :: Cmp3.site))
  have q3 : ∀ w ∈ Cmp3.tab :: CodL.tab :: words, w.before a s = true := fun w hw => (List.mem_cons.mp hw).elim (fun e => e ▸ h3) fun hw => (List.mem_cons.mp hw).elim (fun e => e ▸ hc) (h w)
  have h4 : New4.tab.before a s = true := unparts (wk q3 (.code New4.yN New4.yB 6 none)) (wks q3 (.initialized New4.yN.cls :: New4.site))
  have q4 : ∀ w ∈ New4.tab :: words, w.before a s = true := fun w hw => (List.mem_cons.mp hw).elim (fun e => e ▸ h4) (h w)
  exact unparts (wk q4 (.code New1.yN New1.yB 2 none)) (wks q4 (.initialized New1.yN.cls :: New1.site))
/-- the words ride from the start Z to the walk's own state -/
theorem moved {Z s : State} {a0 args : Array Value} (hZ : Z.Warmed39 s.vm) (hw : ∀ d ∈ words, d.before a0 Z = true) : ∀ d ∈ words, d.before args s = true := fun d hd => by
  have q := hw d hd
  have t : ∀ d ∈ words, d = .arrayClass .byte ∨ (d.onTables && d.keepsFace) = true := by decide +kernel
  rcases t d hd with rfl | t
  · exact RoadKit.mvA hZ q
  · exact RoadKit.mv hZ q t
/-- WHAT COMES BACK, over the tables of the start Z: h the heap at the call, h' behind it -/
def Q (Z : State) (x : Addr) (A : Cell) (h : Heap) (v : Option Value) (h' : Heap) (L : List Loc) : Prop := v = none ∧ (∀ y ∈ L, y.base = x) ∧ RoadKit.Keep h h' [x] ∧ h'.size = h.size + 1 ∧ RoadKit.Exa Z h' x ST ∧ RoadKit.Fld Z h' x ST "value" "[B" (.ref h.size) ∧ RoadKit.Fld Z h' x ST "coder" "B" (.int 0) ∧
  (∃ V : Cell, RoadKit.Arr Z h' h.size V .byte ∧ V.vm = .none ∧ Z.vm.findClass "[B" = some V.cls ∧ V.slots.size = A.slots.size ∧ ∀ j, j < A.slots.size → V.slots[j]? = some (.int (lo8 (cv A j)))) ∧
  ∀ (O n d : String) (w : Value), RoadKit.Fld Z h x O n d w → RoadKit.slotOf Z O n d ≠ RoadKit.slotOf Z ST "value" "[B" → RoadKit.slotOf Z O n d ≠ RoadKit.slotOf Z ST "coder" "B" → RoadKit.Fld Z h' x O n d w
/-- **new String(chars) AT A CALL, IN THE ROAD'S FORM**: for specialBack behind newO: x the fresh String, b the char[] with the cell A -/
theorem back {p : Program} {l : Launch} {e : Env} {R : Room} {s : State} {args : Array Value} {below : List Frame} {len W : Nat} {Z : State} {a0 : Array Value} {h : Heap} (hZ : Z.Warmed39 s.vm) (hw : ∀ d ∈ words, d.before a0 Z = true) {kI : Nat} (wi : (Jvm.Cond.instantiable ST kI).before a0 Z = true)
    {x b : Addr} {A : Cell} {z : Int32} {v0 c0 : Value} (E : RoadKit.Exa Z h x ST) (V : RoadKit.Fld Z h x ST "value" "[B" v0) (C : RoadKit.Fld Z h x ST "coder" "B" c0) (K : RoadKit.Arr Z h b A .char) (hty : Typed .char A) (S : RoadKit.Sta Z h ST "COMPACT_STRINGS" "Z" (.int z)) (hz : ¬ z = 0)
    (l0 : 0 < A.slots.size) (l2 : A.slots.size ≤ 536870912) (hp : ∀ i, i < A.slots.size → ¬ 255 < cv A i) (hfr : 4 ≤ R.frames) (hlo : W + 65 ≤ R.locals) :
    Back l R p e below s args New1.yN len W (fun P a => a = #[.ref x, .ref b] ∧ P.U.heap = h ∧ P.cells + 1 ≤ R.cells ∧ P.slots + A.slots.size ≤ R.slots)
      (fun P _ v B => ∃ L, Q Z x A h v B.U.heap L ∧ B.locs = P.locs ++ L ∧ B.cells = P.cells + 1 ∧ B.slots = P.slots + A.slots.size) := by
  intro m meth c P g ig mk a X hg hsize hdg hW hn hp'
  obtain ⟨rfl, rfl, r1, r2⟩ := hp'
  have al : Z.vm.Alike P.U.vm := hZ.alike.trans X.warmed.alike
  obtain ⟨D, cfV, kV, iV, fV, hD, gV, stV, knV, obV, asV, slV⟩ := id V
  obtain ⟨D', cfC, kC, iC, fC, hD', gC, stC, -, -, asC, slC⟩ := id C
  cases hD.symm.trans hD'
  obtain ⟨D2, kD, e1, e2, e3, e4, e5⟩ := id E
  cases hD.symm.trans e1
  obtain ⟨c2, k2, i1, i2, i3, -⟩ := Cond.instantiable_spec wi
  cases e2.symm.trans i1
  cases e3.symm.trans i2
  obtain ⟨kU, u1, u2⟩ := al.2.2 _ _ e3
  have hB : Blank ST x D P.U := ⟨hD, ⟨knV, fun q hq => by rw [hq] at obV; cases obV⟩, by rw [al.findClass]; exact e2, kU, u1, by rw [u2]; exact i3, by rw [u2]; exact e5 i3⟩
  have F1 : Found ST "value" "[B" fV P.U := ⟨SBG.found_only al ⟨cfV, kV, iV, gV⟩, stV⟩
  have F2 : Found ST "coder" "B" fC P.U := ⟨SBG.found_only al ⟨cfC, kC, iC, gC⟩, stC⟩
  have hA : Ch b A P.U := ⟨⟨K.1, State.isArrayOf_alike al K.2.1, K.2.2, by omega⟩, hty⟩
  have hS : StaticIs P.U ST "COMPACT_STRINGS" "Z" (.int z) := by
    obtain ⟨cfS, iS, kS, fS, st, cS, t1, t2, t3, t4, t5, t6, t7⟩ := S
    exact StaticIs.there (s := { Z with heap := P.U.heap }) ⟨cfS, iS, kS, fS, st, cS, t1, t2, t3, t4, t5, (fun q => by rw [q] at t6; cases t6), t7⟩ al rfl
  obtain ⟨v, B, X', ⟨⟨hv, E', V', q1, q2, q3, q4, q5, q6, q7, q8, q9, q10, q11⟩, hl, hc, hs⟩, st⟩ := New1.pays x D fV fC b A z (tab_of (moved hZ hw)) hfr hlo m meth c P g ig mk _ X hg hsize hdg hW hn ⟨r1, r2, rfl, hB, F1, F2, hA, hS, hz, l0, l2, hp⟩
  have al' : Z.vm.Alike B.U.vm := hZ.alike.trans X'.warmed.alike
  have hsz : E'.slots.size = D.slots.size := by
    obtain ⟨-, -, -, kB, w1, w2, w3⟩ := q1
    obtain ⟨kB', y1, y2⟩ := al'.2.2 _ _ e3
    rw [q2.2.1] at w1
    cases w1.symm.trans y1
    rw [w3, e5 i3, y2]
  refine ⟨v, B, X', ⟨_, ⟨hv, ?_, ⟨by omega, fun y cy hy hn' => q10 y cy (by simpa using hn') hy, fun y cy hy => ?_⟩, q11, ⟨E', _, q1.1, by rw [q2.2.1]; exact e2, by rw [q2.2.1]; exact e3, by rw [q2.1]; exact obV, fun _ => by rw [hsz]; exact e5 i3⟩,
    ⟨E', cfV, kV, iV, fV, q1.1, gV, stV, by rw [q2.1]; exact knV, by rw [q2.1]; exact obV, by rw [q2.2.1]; exact asV, q3⟩, ⟨E', cfC, kC, iC, fC, q1.1, gC, stC, by rw [q2.1]; exact knV, by rw [q2.1]; exact obV, by rw [q2.2.1]; exact asC, q4⟩,
    ⟨V', ⟨q5.1, State.isArrayOf_alike al'.symm q5.2.1, q5.2.2.1⟩, q6, by rw [← al'.findClass]; exact q7, q8, fun j hj => by have := q9 j hj; rwa [Nat.zero_add] at this⟩, fun O n d w F n1 n2 => ?_⟩, hl, hc, hs⟩, st⟩
  · intro y hy
    simp only [List.mem_cons, List.not_mem_nil, or_false] at hy
    rcases hy with rfl | rfl <;> rfl
  · by_cases q : y = x
    · subst q
      cases hD.symm.trans hy
      exact ⟨E', q1.1, q2.2.1, q2.1, hsz⟩
    · exact ⟨cy, q10 y cy q hy, rfl, rfl, rfl⟩
  · obtain ⟨D3, cf, k, i, f, g1, g2, g3, g4, g5, g6, g7⟩ := F
    cases hD.symm.trans g1
    simp only [RoadKit.slotOf, g2, gV, gC, Option.map_some, Option.getD_some] at n1 n2
    exact ⟨E', cf, k, i, f, q1.1, g2, g3, by rw [q2.1]; exact g4, by rw [q2.1]; exact g5, by rw [q2.2.1]; exact g6, by rw [q2.2.2 f.slot (by simp [n1, n2])]; exact g7⟩
end StrChars.Road
namespace StrChars.Road
open Jvm Sem ClassFile Op Lib Jvm.Stand Jvm.Free Jvm.Free.XT
/-- WHAT COMES BACK, the byte[] as a list of values -/
def QA (Z : State) (x : Addr) (zn : Int32) (cs : List Int32) (h : Heap) (v : Option Value) (h' : Heap) (L : List Loc) : Prop := v = none ∧ (∀ y ∈ L, y.base = x) ∧ RoadKit.Keep h h' [x] ∧ h'.size = h.size + 1 ∧ RoadKit.Exa Z h' x ST ∧ RoadKit.Fld Z h' x ST "value" "[B" (.ref h.size) ∧ RoadKit.Fld Z h' x ST "coder" "B" (.int 0) ∧
  (∃ kb, Z.vm.findClass "[B" = some kb ∧ RoadKit.Arv Z h' h.size kb .byte zn (cs.map fun c => .int (lo8 c)) (.int 0)) ∧
  ∀ (O n d : String) (w : Value), RoadKit.Fld Z h x O n d w → RoadKit.slotOf Z O n d ≠ RoadKit.slotOf Z ST "value" "[B" → RoadKit.slotOf Z O n d ≠ RoadKit.slotOf Z ST "coder" "B" → RoadKit.Fld Z h' x O n d w
/-- **new String(chars) AT A CALL, THE ARRAYS AS LISTS**: the char[] at b holds cs, not empty, no char above 255 -/
theorem backArv {p : Program} {l : Launch} {e : Env} {R : Room} {s : State} {args : Array Value} {below : List Frame} {len W : Nat} {Z : State} {a0 : Array Value} {h : Heap} (hZ : Z.Warmed39 s.vm) (hw : ∀ d ∈ words, d.before a0 Z = true) {kI : Nat} (wi : (Jvm.Cond.instantiable ST kI).before a0 Z = true)
    {x b : Addr} {k : ClassId} {zn z : Int32} {cs : List Int32} {dv v0 c0 : Value} (E : RoadKit.Exa Z h x ST) (V : RoadKit.Fld Z h x ST "value" "[B" v0) (C : RoadKit.Fld Z h x ST "coder" "B" c0) (K : RoadKit.Arv Z h b k .char zn (cs.map Value.int) dv) (S : RoadKit.Sta Z h ST "COMPACT_STRINGS" "Z" (.int z)) (hz : ¬ z = 0)
    (hlen : zn.toNatClampNeg = cs.length) (h0 : 0 < cs.length) (hbig : cs.length ≤ 536870912) (hall : ∀ c ∈ cs, ¬ 255 < c) (hfr : 4 ≤ R.frames) (hlo : W + 65 ≤ R.locals) :
    Back l R p e below s args New1.yN len W (fun P a => a = #[.ref x, .ref b] ∧ P.U.heap = h ∧ P.cells + 1 ≤ R.cells ∧ P.slots + cs.length ≤ R.slots)
      (fun P _ v B => ∃ L, QA Z x zn cs h v B.U.heap L ∧ B.locs = P.locs ++ L ∧ B.cells = P.cells + 1 ∧ B.slots = P.slots + cs.length) := by
  obtain ⟨A, K1, K2, K3, K4, K5, K6⟩ := K
  have e : A.slots.size = cs.length := K3.trans hlen
  have hat : ∀ (i : Nat) (hi : i < cs.length), A.slots[i]? = some (.int cs[i]) := fun i hi => by rw [K5 i (by omega)]; simp [List.getD_eq_getElem?_getD, hi]
  have hcv : ∀ (i : Nat) (hi : i < cs.length), cv A i = cs[i] := fun i hi => by unfold cv; rw [hat i hi]
  have hty : Typed .char A := fun i v hv => by
    have hi : i < A.slots.size := (Array.getElem?_eq_some_iff.mp hv).1
    have q := K5 i hi
    rw [hv] at q
    rw [Option.some.inj q]
    exact K6 i hi
  refine Back.mono (back hZ hw wi E V C K1 hty S hz (by omega) (by omega) (fun i hi => by rw [hcv i (by omega)]; exact hall _ (List.getElem_mem _)) hfr hlo) (fun P a hp => ⟨hp.1, hp.2.1, hp.2.2.1, by rw [e]; exact hp.2.2.2⟩) (fun P a v B hp hq => ?_)
  obtain ⟨L, ⟨q1, q2, q3, q4, q5, q6, q7, ⟨V', v1, v2, v3, v4, v5⟩, q9⟩, hl, hc, hs⟩ := hq
  refine ⟨L, ⟨q1, q2, q3, q4, q5, q6, q7, ⟨V'.cls, v3, V', v1, rfl, by rw [v4, e, hlen], K4, fun i hi => ?_, fun i hi => ?_⟩, q9⟩, hl, hc, by rw [hs, e]⟩
  · have hi' : i < cs.length := by omega
    rw [v5 i (by omega), hcv i hi']; simp [List.getD_eq_getElem?_getD, hi']
  · have hi' : i < cs.length := by omega
    simp only [List.getD_eq_getElem?_getD, List.getElem?_map, List.getElem?_eq_getElem hi', Option.map_some, Option.getD_some]
    exact fits_lo8 _
end StrChars.Road
namespace StrChars.Road
open Jvm Sem ClassFile Op Lib Jvm.Stand Jvm.Free Jvm.Free.XT
/-- WHAT COMES BACK, in the writer's own shape -/
def QV (Z : State) (x : Addr) (N : Int32) (bs : List Int32) (h : Heap) (n0 : Nat) (v : Option Value) (h' : Heap) (L : List Loc) : Prop := v = none ∧ RoadKit.Fr n0 L ∧ RoadKit.Keep h h' [x] ∧ RoadKit.Exa Z h' x ST ∧ RoadKit.Fld Z h' x ST "coder" "B" (.int 0) ∧
  ∃ (t : Addr) (kb : ClassId), n0 ≤ t ∧ h.size ≤ t ∧ ¬ t = x ∧ RoadKit.Fld Z h' x ST "value" "[B" (.ref t) ∧ RoadKit.Arv Z h' t kb .byte N (bs.map Value.int) (.int 0)
/-- **new String(chars) AT A CALL, FOR THE WRITER**: a char[] of n known ints, each 0 to 255 -/
theorem backV {p : Program} {l : Launch} {e : Env} {R : Room} {s : State} {args : Array Value} {below : List Frame} {len W : Nat} {Z : State} {a0 : Array Value} {h : Heap} (hZ : Z.Warmed39 s.vm) (hw : ∀ d ∈ words, d.before a0 Z = true) {kI : Nat} (wi : (Jvm.Cond.instantiable ST kI).before a0 Z = true)
    {x b : Addr} {kC : ClassId} {cs bs : List Int32} {d v0 c0 : Value} {z N : Int32} {n n0 : Nat} (hx0 : n0 ≤ x) (hh0 : n0 ≤ h.size) (E : RoadKit.Exa Z h x ST) (V : RoadKit.Fld Z h x ST "value" "[B" v0) (C : RoadKit.Fld Z h x ST "coder" "B" c0) (K : RoadKit.Arv Z h b kC .char N (cs.map Value.int) d) (S : RoadKit.Sta Z h ST "COMPACT_STRINGS" "Z" (.int z)) (hz : ¬ z = 0)
    (hn : cs.length = n) (hN : N = Int32.ofNat n) (l0 : 0 < n) (l2 : n ≤ 4000) (hp : ∀ c ∈ cs, ¬ c < 0 ∧ ¬ (255 : Int32) < c) (hb : bs = cs.map (fun c => c.toInt8.toInt32)) (hfr : 4 ≤ R.frames) (hlo : W + 65 ≤ R.locals) :
    Back l R p e below s args (⟨"java/lang/String", "<init>", "([C)V"⟩ : MethodName) len W (fun P a => a = #[.ref x, .ref b] ∧ P.U.heap = h ∧ P.cells + 1 ≤ R.cells ∧ P.slots + n ≤ R.slots)
      (fun P _ v B => ∃ L, QV Z x N bs h n0 v B.U.heap L ∧ B.locs = P.locs ++ L ∧ B.cells = P.cells + 1 ∧ B.slots = P.slots + n) := by
  subst hn hN hb
  refine Back.mono (backArv hZ hw wi E V C K S hz (n32 (by omega)) l0 (by omega) (fun c hc => (hp c hc).2) hfr hlo) (fun P a hp => hp) (fun P a v B hp hq => ?_)
  obtain ⟨L, ⟨q1, q2, q3, q4, q5, q6, q7, ⟨kb, v1, v2⟩, q9⟩, hl, hc, hs⟩ := hq
  exact ⟨L, ⟨q1, fun y hy => by rw [q2 y hy]; exact hx0, q3, q5, q7, h.size, kb, hh0, Nat.le_refl _, Nat.ne_of_gt E.lt, q6, by rw [List.map_map]; exact v2⟩, hl, hc, hs⟩
end StrChars.Road
namespace StrChars
open Jvm Sem ClassFile Op Lib Jvm.Stand Jvm.Free.XT Jvm.Free.ALB Jvm.Free.JM Jvm.Free
open Jvm.Lib.Cold (StaticIs)
def hi8 (x : Int32) : Int32 := lo8 (x >>> ((8 : Int32) &&& 31))
/-- what StringUTF16.getChar makes of two bytes -/
def pairCh (u v : Int32) : Int32 := (((u &&& 255) <<< ((0 : Int32) &&& 31)) ||| ((v &&& 255) <<< ((8 : Int32) &&& 31))).toUInt32.toUInt16.toUInt32.toInt32
theorem shr0 (c : Int32) : c >>> ((0 : Int32) &&& 31) = c := by
  have e : ((0 : Int32) &&& 31) = 0 := by decide
  rw [e]
  apply Int32.toBitVec_inj.mp
  rw [Int32.toBitVec_shiftRight]
  have e1 : ((0 : Int32).toBitVec.smod 32) = 0#32 := by decide
  rw [e1, BitVec.sshiftRight_eq']
  exact BitVec.sshiftRight_zero
theorem lo8_and (x : Int32) : (lo8 x &&& 255).toBitVec.toNat = x.toBitVec.toNat % 256 := by
  have h : (lo8 x).toBitVec = (x.toBitVec.signExtend 8).signExtend 32 := by rw [lo8, Int8.toBitVec_toInt32, Int32.toBitVec_toInt8]
  rw [Int32.toBitVec_and, BitVec.toNat_and, h]
  have e : ((x.toBitVec.signExtend 8).signExtend 32).toNat % 256 = x.toBitVec.toNat % 256 := by
    rw [BitVec.toNat_signExtend]
    have hlt := x.toBitVec.isLt
    simp only [BitVec.toNat_setWidth, BitVec.toNat_signExtend]
    split <;> split <;> omega
  rw [← e]
  exact Nat.and_two_pow_sub_one_eq_mod _ 8
theorem pair_says {c : Int32} (h0 : ¬ c < 0) (h1 : ¬ 65535 < c) : pairCh (lo8 c) (hi8 c) = c := by
  rw [Int32.lt_iff_toInt_lt] at h0 h1
  have e0 : (0 : Int32).toInt = 0 := rfl
  have e1 : (65535 : Int32).toInt = 65535 := rfl
  have hc : c.toInt = c.toBitVec.toNat := by
    have := c.toBitVec.isLt
    have e : c.toInt = c.toBitVec.toInt := rfl
    rw [e] at h0 h1
    rw [e]
    rw [BitVec.toInt_eq_toNat_cond] at h0 h1 ⊢
    split at h0 <;> split <;> omega
  have hn : c.toBitVec.toNat < 65536 := by omega
  have a1 := lo8_and c
  have a2 : (hi8 c &&& 255).toBitVec.toNat = c.toBitVec.toNat / 256 := by
    rw [hi8, lo8_and]
    have e : ((8 : Int32) &&& 31) = 8 := by decide
    rw [e, Int32.toBitVec_shiftRight]
    have e2 : ((8 : Int32).toBitVec.smod 32) = 8#32 := by decide
    rw [e2, BitVec.sshiftRight_eq', BitVec.toNat_sshiftRight_of_msb_false (by rw [BitVec.msb_eq_false_iff_two_mul_lt]; omega)]
    show c.toBitVec.toNat >>> 8 % 256 = _
    rw [Nat.shiftRight_eq_div_pow]
    omega
  unfold pairCh
  apply Int32.toBitVec_inj.mp
  apply BitVec.eq_of_toNat_eq
  have f0 : ((0 : Int32) &&& 31) = 0 := by decide
  have f8 : ((8 : Int32) &&& 31) = 8 := by decide
  rw [f0, f8]
  have g : (((lo8 c &&& 255) <<< (0 : Int32)) ||| ((hi8 c &&& 255) <<< (8 : Int32))).toBitVec.toNat = c.toBitVec.toNat := by
    rw [Int32.toBitVec_or, Int32.toBitVec_shiftLeft, Int32.toBitVec_shiftLeft]
    have s0 : ((0 : Int32).toBitVec.smod 32) = 0#32 := by decide
    have s8 : ((8 : Int32).toBitVec.smod 32) = 8#32 := by decide
    rw [s0, s8, BitVec.toNat_or]
    simp only [BitVec.shiftLeft_eq', BitVec.toNat_shiftLeft, a1, a2]
    show (c.toBitVec.toNat % 256) <<< 0 % 2 ^ 32 ||| (c.toBitVec.toNat / 256) <<< 8 % 2 ^ 32 = _
    rw [Nat.shiftLeft_zero, Nat.mod_eq_of_lt (show c.toBitVec.toNat % 256 < 2 ^ 32 by omega), Nat.mod_eq_of_lt (show (c.toBitVec.toNat / 256) <<< 8 < 2 ^ 32 by rw [Nat.shiftLeft_eq]; omega), Nat.or_comm, ← Nat.shiftLeft_add_eq_or_of_lt (by omega), Nat.shiftLeft_eq]
    omega
  show BitVec.toNat (((((lo8 c &&& 255) <<< (0 : Int32)) ||| ((hi8 c &&& 255) <<< (8 : Int32))).toBitVec.setWidth 16).setWidth 32) = _
  rw [BitVec.toNat_setWidth, BitVec.toNat_setWidth, g]
  omega
end StrChars
namespace StrChars
open Jvm Sem ClassFile Op Lib Jvm.Stand Jvm.Free.XT Jvm.Free.ALB Jvm.Free.JM Jvm.Free
open Jvm.Lib.Cold (StaticIs)
theorem shr1 {n : Nat} (h : 2 * n < 2 ^ 31) : Int32.ofNat (2 * n) >>> ((1 : Int32) &&& 31) = Int32.ofNat n := by
  have e : ((1 : Int32) &&& 31) = 1 := by decide
  rw [e]
  apply Int32.toBitVec_inj.mp
  rw [Int32.toBitVec_shiftRight]
  have e1 : ((1 : Int32).toBitVec.smod 32) = 1#32 := by decide
  have hm : (BitVec.ofNat 32 (2 * n)).toNat = 2 * n := by rw [BitVec.toNat_ofNat, Nat.mod_eq_of_lt (by omega)]
  rw [e1, BitVec.sshiftRight_eq']
  apply BitVec.eq_of_toNat_eq
  show ((BitVec.ofNat 32 (2 * n)).sshiftRight 1).toNat = (BitVec.ofNat 32 n).toNat
  rw [BitVec.toNat_sshiftRight_of_msb_false (by rw [BitVec.msb_eq_false_iff_two_mul_lt, hm]; omega), hm, BitVec.toNat_ofNat, Nat.shiftRight_eq_div_pow]
  omega
/-- the array's cell V codes the n chars f 0 .. f (n - 1) by the coder cd, as the JDK does: coder 1 just where some char is above 255 -/
def Cod (cd : Int32) (n : Nat) (f : Nat → Int32) (V : Cell) : Prop := (cd = 0 ∧ V.slots.size = n ∧ ∀ j, j < n → V.slots[j]? = some (.int (lo8 (f j))) ∧ ¬ 255 < f j) ∨ (cd = 1 ∧ V.slots.size = 2 * n ∧ (∀ j, j < n → V.slots[2 * j]? = some (.int (lo8 (f j))) ∧ V.slots[2 * j + 1]? = some (.int (hi8 (f j)))) ∧ ∃ j, j < n ∧ 255 < f j)
theorem Cod.cd {cd : Int32} {n : Nat} {f : Nat → Int32} {V : Cell} (h : Cod cd n f V) : cd = 0 ∨ cd = 1 := h.imp (fun q => q.1) fun q => q.1
theorem Cod.len {cd : Int32} {n : Nat} {f : Nat → Int32} {V : Cell} (h : Cod cd n f V) (hs : V.slots.size < 2 ^ 31) : Int32.ofNat V.slots.size >>> (cd &&& 31) = Int32.ofNat n := by
  rcases h with ⟨rfl, h, -⟩ | ⟨rfl, h, -⟩
  · rw [shr0, h]
  · rw [h, shr1 (by omega)]
/-- **x is a String of the n chars f 0 .. f (n - 1)**, Latin-1 or UTF-16; its array at t has the cell V -/
def Txt (x t : Addr) (V : Cell) (cd : Int32) (n : Nat) (f : Nat → Int32) (U : State) : Prop := Exact "java/lang/String" x U ∧ Has x "java/lang/String" "value" "[B" (.ref t) U ∧ Has x "java/lang/String" "coder" "B" (.int cd) U ∧ XT.Arr .byte t V U ∧ Cod cd n f V ∧ ∀ j, j < n → ¬ f j < 0 ∧ ¬ 65535 < f j
theorem Txt.mv {x t : Addr} {V : Cell} {cd : Int32} {n : Nat} {f : Nat → Int32} {U U' : State} (h : Txt x t V cd n f U) (hal : U.vm.Alike U'.vm) (hh : U'.heap = U.heap) : Txt x t V cd n f U' := ⟨h.1.mv hal hh, h.2.1.mv hal hh, h.2.2.1.mv hal hh, h.2.2.2.1.mv hal hh, h.2.2.2.2⟩
namespace Cdr
def yN : MethodName := ⟨"java/lang/String", "coder", "()B"⟩
abbrev yB : ByteArray := jdk_42_method_152_code
theorem d0 : decode yB 0 = .ok (.getstatic 38, 3) := by decide +kernel
theorem d3 : decode yB 3 = .ok (.ifCond (.eq) 10, 3) := by decide +kernel
theorem d6 : decode yB 6 = .ok (.aload_n 0, 1) := by decide +kernel
theorem d7 : decode yB 7 = .ok (.getfield 15, 3) := by decide +kernel
theorem d10 : decode yB 10 = .ok (.goto 4, 3) := by decide +kernel
theorem d14 : decode yB 14 = .ok (.ireturn, 1) := by decide +kernel
def site : List Cond := [.fieldLink "java/lang/String" 38 "java/lang/String" "COMPACT_STRINGS" "Z", .fieldLink "java/lang/String" 15 "java/lang/String" "coder" "B"]
def tab : Cond := tabOf yN yB 1 (some .byte) site
def P (x : Addr) (cd z : Int32) (args : Array Value) (s : State) : Prop := args = #[.ref x] ∧ Has x "java/lang/String" "coder" "B" (.int cd) s ∧ (cd = 0 ∨ cd = 1) ∧ StaticIs s "java/lang/String" "COMPACT_STRINGS" "Z" (.int z) ∧ ¬ z = 0
def E (cd : Int32) (r : Option Value) (s u : State) : Prop := XT.PureE (some (.int cd)) r s u
theorem law (l : Launch) (x : Addr) (cd z : Int32) : Law l yN 1 0 0 0 yB 1 (some .byte) site (P x cd z) (E cd) [] 0 0 := by
  refine Law.of_walk (plainFor_of_name (by decide +kernel)) (by decide +kernel) (by decide +kernel) (by decide) (fun _ _ h => by rw [h.1]; rfl) (fun _ U U' hal hh h => ⟨h.1, h.2.1.mv hal hh, h.2.2.1, h.2.2.2.1.there hal hh, h.2.2.2.2⟩) (fun r U U' V V' h1 hal h2 h => XT.PureE.mv r U U' V V' h1 hal h2 h) ?_
  intro p e s m args below meth c s₁ X0 hexec hbytes hml hret hlk hnm hown hh0 W hP
  obtain ⟨rfl, hx, hc, s1, hz⟩ := hP
  have c1 : Steps p.tables e below (s₁.setTop (entryFrame m #[.ref x] 1)) (s₁.setTop (mkF m 0 #[.val (.ref x)] [])) := entry rfl
  obtain ⟨T2, X2, q2, st2⟩ := X0.sget hexec hown (wk W (.fieldLink "java/lang/String" 38 "java/lang/String" "COMPACT_STRINGS" "Z")) s1 (fun _ _ h => by rw [hh0]; exact h) (g := (mkF m 0 #[.val (.ref x)] [])) rfl (hb hbytes d0)
  have hh2 := q2.trans hh0
  have c3 : Steps p.tables e below (s₁.setTop (entryFrame m #[.ref x] 1)) (T2.setTop (mkF m 7 #[.val (.ref x)] [.ref x])) := (c1.trans (st2 _ (Steps.refl _))).trans (by
    refine XS.ifNo X2.here hexec rfl (hb hbytes d3) rfl (i0_eq_f hz) ?_
    refine XS.aloadN X2.here hexec rfl (hb hbytes d6) rfl rfl ?_
    exact Steps.refl _)
  obtain ⟨T4, X4, q4, st4⟩ := X2.hget hexec hown (wk W (.fieldLink "java/lang/String" 15 "java/lang/String" "coder" "B")) (hx.mv X2.warmed.alike hh2) (g := (mkF m 7 #[.val (.ref x)] [.ref x])) rfl (rest := []) rfl (hb hbytes d7)
  have c5 : Steps p.tables e below (s₁.setTop (entryFrame m #[.ref x] 1)) (T4.setTop (mkF m 14 #[.val (.ref x)] [.int cd])) := (c3.trans (st4 _ (Steps.refl _))).trans (by
    refine XS.goto X4.here hexec rfl (pc0 := 10) rfl (hb hbytes d10) (by decide) rfl ?_
    exact Steps.refl _)
  exact ⟨T4, some (.int cd), _, _, _, X4, rfl, rfl, rfl, (fun h => by cases h), ⟨rfl, q4.trans hh2⟩, fun fs hl => c5.trans (X4.ireturnOut hexec hret (by rcases hc with rfl | rfl <;> rfl) (Or.inr (Or.inr (Or.inl rfl))) (hb hbytes d14) hl)⟩
end Cdr
namespace Len
def yN : MethodName := ⟨"java/lang/String", "length", "()I"⟩
abbrev yB : ByteArray := jdk_42_method_54_code
theorem d0 : decode yB 0 = .ok (.aload_n 0, 1) := by decide +kernel
theorem d1 : decode yB 1 = .ok (.getfield 9, 3) := by decide +kernel
theorem d4 : decode yB 4 = .ok (.arraylength, 1) := by decide +kernel
theorem d5 : decode yB 5 = .ok (.aload_n 0, 1) := by decide +kernel
theorem d6 : decode yB 6 = .ok (.invokevirtual 335, 3) := by decide +kernel
theorem d9 : decode yB 9 = .ok (.ishr, 1) := by decide +kernel
theorem d10 : decode yB 10 = .ok (.ireturn, 1) := by decide +kernel
def site : List Cond := [.fieldLink "java/lang/String" 9 "java/lang/String" "value" "[B", Cdr.tab] ++ virtW "java/lang/String" 335 "java/lang/String" Cdr.yN Cdr.yN
def tab : Cond := tabOf yN yB 1 (some .int) site
def P (x t : Addr) (V : Cell) (cd : Int32) (n : Nat) (f : Nat → Int32) (z : Int32) (args : Array Value) (s : State) : Prop := args = #[.ref x] ∧ Txt x t V cd n f s ∧ StaticIs s "java/lang/String" "COMPACT_STRINGS" "Z" (.int z) ∧ ¬ z = 0
def E (n : Nat) (r : Option Value) (s u : State) : Prop := XT.PureE (some (.int (Int32.ofNat n))) r s u
/-- length() of a String of n chars, in either coding -/
theorem law (l : Launch) (x t : Addr) (V : Cell) (cd : Int32) (n : Nat) (f : Nat → Int32) (z : Int32) : Law l yN 1 0 1 13 yB 1 (some .int) site (P x t V cd n f z) (E n) [] 0 0 := by
  refine Law.of_walk (plainFor_of_name (by decide +kernel)) (by decide +kernel) (by decide +kernel) (by decide) (fun _ _ h => by rw [h.1]; rfl) (fun _ U U' hal hh h => ⟨h.1, h.2.1.mv hal hh, h.2.2.1.there hal hh, h.2.2.2⟩) (fun r U U' V V' h1 hal h2 h => XT.PureE.mv r U U' V V' h1 hal h2 h) ?_
  intro p e s m args below meth c s₁ X0 hexec hbytes hml hret hlk hnm hown hh0 W hP
  obtain ⟨rfl, hx, s1, hz⟩ := hP
  have v31 := hx.2.2.2.1.2.2.2
  have c1 : Steps p.tables e below (s₁.setTop (entryFrame m #[.ref x] 1)) (s₁.setTop (mkF m 1 #[.val (.ref x)] [.ref x])) := Steps.trans (entry rfl) (by
    show Steps p.tables e below (s₁.setTop (mkF m 0 #[.val (.ref x)] [])) _
    refine XS.aloadN X0.here hexec rfl (hb hbytes d0) rfl rfl ?_
    exact Steps.refl _)
  obtain ⟨T2, X2, q2, st2⟩ := X0.hget hexec hown (wk W (.fieldLink "java/lang/String" 9 "java/lang/String" "value" "[B")) (hx.mv X0.warmed.alike hh0).2.1 (g := (mkF m 1 #[.val (.ref x)] [.ref x])) rfl (rest := []) rfl (hb hbytes d1)
  have hh2 := q2.trans hh0
  have hx2 := hx.mv X2.warmed.alike hh2
  have c3 : Steps p.tables e below (s₁.setTop (entryFrame m #[.ref x] 1)) (T2.setTop (mkF m 6 #[.val (.ref x)] [.ref x, .int (Int32.ofNat V.slots.size)])) := (c1.trans (st2 _ (Steps.refl _))).trans (by
    refine X2.alen hexec hx2.2.2.2.1 rfl rfl (hb hbytes d4) ?_
    refine XS.aloadN X2.here hexec rfl (hb hbytes d5) rfl rfl ?_
    exact Steps.refl _)
  obtain ⟨v4, T4, X4, E4, g4⟩ := X2.callV hexec (Cdr.law l x cd z) hown (wks W (virtW "java/lang/String" 335 "java/lang/String" Cdr.yN Cdr.yN)) rfl (by decide) (wk W Cdr.tab) (W := 1) (Nat.le_of_ble_eq_true rfl) (Nat.le_of_ble_eq_true rfl) (Nat.le_refl _) (Nat.le_refl _) (hx2.1.fc X2.warmed.alike) hx2.1.is (g := (mkF m 6 #[.val (.ref x)] [.ref x, .int (Int32.ofNat V.slots.size)])) rfl (by rw [hml]; rfl) c3 (argsL := []) (rest := [.int (Int32.ofNat V.slots.size)]) rfl rfl (by show 2 * 0 + (1 + 0) ≤ _; decide) (hb hbytes d6) (⟨rfl, hx2.2.2.1, hx.2.2.2.2.1.cd, s1.there X2.warmed.alike hh2, hz⟩)
  obtain ⟨rfl, q4⟩ := E4
  have c5 : Steps p.tables e below (s₁.setTop (entryFrame m #[.ref x] 1)) (T4.setTop (mkF m 10 #[.val (.ref x)] [.int (Int32.ofNat V.slots.size >>> (cd &&& 31))])) := Steps.trans g4 (by
    refine ishr X4.here hexec rfl (hb hbytes d9) rfl ?_
    exact Steps.refl _)
  rw [hx.2.2.2.2.1.len v31] at c5
  exact ⟨T4, some (.int (Int32.ofNat n)), _, _, _, X4, rfl, rfl, rfl, (fun h => by cases h), ⟨rfl, q4.trans hh2⟩, fun fs hl => c5.trans (X4.ireturnOut hexec hret rfl (Or.inl rfl) (hb hbytes d10) hl)⟩
theorem pays {l : Launch} {R : Room} {p : Program} {e : Env} {below : List Frame} {s : State} {sargs : Array Value} {len W : Nat} (x t : Addr) (V : Cell) (cd : Int32) (n : Nat) (f : Nat → Int32) (z : Int32) (htab : tab.before sargs s = true) (hfr : 2 ≤ R.frames) (hlo : W + 25 ≤ R.locals) :
    Back l R p e below s sargs yN len W (fun A₁ a₁ => A₁.cells + 0 ≤ R.cells ∧ A₁.slots + 0 ≤ R.slots ∧ P x t V cd n f z a₁ A₁.U) (fun A₁ _ v₁ B₁ => E n v₁ A₁.U B₁.U ∧ B₁.locs = A₁.locs ++ [] ∧ B₁.cells = A₁.cells + 0 ∧ B₁.slots = A₁.slots + 0) :=
  (law l x t V cd n f z).pays htab hfr (by omega)
end Len
end StrChars
namespace StrChars.Road
open Jvm Sem ClassFile Op Lib Jvm.Stand Jvm.Free Jvm.Free.XT
open Jvm.Lib.Cold (StaticIs)
theorem consq {a : Array Value} {s : State} {c : Jvm.Cond} {L : List Jvm.Cond} (h0 : c.before a s = true) (h : ∀ w ∈ L, w.before a s = true) : ∀ w ∈ c :: L, w.before a s = true := fun w hw => (List.mem_cons.mp hw).elim (fun e => e ▸ h0) (h w)
/-- the words of String.length(), either coding -/
abbrev wordsLen : List Jvm.Cond := [.code Len.yN Len.yB 1 (some .int), .initialized ST, .fieldLink ST 9 ST "value" "[B", .fieldLink ST 38 ST "COMPACT_STRINGS" "Z", .fieldLink ST 15 ST "coder" "B", .code Cdr.yN Cdr.yB 1 (some .byte), .methodLink ST 335 Cdr.yN, .declares Cdr.yN, .selects ST Cdr.yN Cdr.yN, .instanceMethod Cdr.yN]
theorem tabLen_of {a : Array Value} {s : State} (h : ∀ w ∈ wordsLen, w.before a s = true) : Len.tab.before a s = true := by
  have hc : Cdr.tab.before a s = true := unparts (wk h (.code Cdr.yN Cdr.yB 1 (some .byte))) (wks h (.initialized Cdr.yN.cls :: Cdr.site))
  have q := consq hc h
  exact unparts (wk q (.code Len.yN Len.yB 1 (some .int))) (wks q (.initialized Len.yN.cls :: Len.site))
theorem movedLen {Z s : State} {a0 args : Array Value} (hZ : Z.Warmed39 s.vm) (hw : ∀ d ∈ wordsLen, d.before a0 Z = true) : ∀ d ∈ wordsLen, d.before args s = true := fun d hd => by
  have q := hw d hd
  have t : ∀ d ∈ wordsLen, d = .arrayClass .byte ∨ (d.onTables && d.keepsFace) = true := by decide +kernel
  rcases t d hd with rfl | t
  · exact RoadKit.mvA hZ q
  · exact RoadKit.mv hZ q t
/-- the bytes of the chars cs, low before high -/
def wideBytes : List Int32 → List Value
  | [] => []
  | c :: cs => .int (lo8 c) :: .int (hi8 c) :: wideBytes cs
theorem wide_lo (d : Value) : ∀ (cs : List Int32) (j : Nat), j < cs.length → (wideBytes cs).getD (2 * j) d = .int (lo8 (cs.getD j 0))
  | [], j, h => absurd h (Nat.not_lt_zero j)
  | c :: cs, 0, _ => rfl
  | c :: cs, j + 1, h => by
    have q := wide_lo d cs j (by simpa using h)
    rw [show 2 * (j + 1) = 2 * j + 1 + 1 from by omega]
    simpa [wideBytes] using q
theorem wide_hi (d : Value) : ∀ (cs : List Int32) (j : Nat), j < cs.length → (wideBytes cs).getD (2 * j + 1) d = .int (hi8 (cs.getD j 0))
  | [], j, h => absurd h (Nat.not_lt_zero j)
  | c :: cs, 0, _ => rfl
  | c :: cs, j + 1, h => by
    have q := wide_hi d cs j (by simpa using h)
    rw [show 2 * (j + 1) + 1 = 2 * j + 1 + 1 + 1 from by omega]
    simpa [wideBytes] using q
theorem low_at (d : Value) (cs : List Int32) (j : Nat) (h : j < cs.length) : (cs.map fun c => Value.int (lo8 c)).getD j d = .int (lo8 (cs.getD j 0)) := by
  simp [List.getD_eq_getElem?_getD, h]
/-- an array of N2 bytes vs codes the chars cs by the coder cd -/
def CodA (cs : List Int32) (cd N2 : Int32) (vs : List Value) : Prop := (cd = 0 ∧ N2 = Int32.ofNat cs.length ∧ vs = (cs.map fun c => Value.int (lo8 c)) ∧ ∀ c ∈ cs, ¬ 255 < c) ∨ (cd = 1 ∧ N2 = Int32.ofNat (2 * cs.length) ∧ vs = wideBytes cs ∧ ∃ c ∈ cs, 255 < c)
theorem CodA.cod {cs : List Int32} {cd N2 : Int32} {vs : List Value} {V : Cell} (h : CodA cs cd N2 vs) (hn : 2 * cs.length < 2 ^ 31) (hs : V.slots.size = N2.toNatClampNeg) (hv : RoadKit.Has V vs (.int 0)) : Cod cd cs.length (fun j => cs.getD j 0) V := by
  rcases h with ⟨rfl, rfl, rfl, h⟩ | ⟨rfl, rfl, rfl, c, hc, hw⟩
  · rw [n32 (by omega)] at hs
    exact Or.inl ⟨rfl, hs, fun j hj => ⟨by rw [hv j (by omega), low_at _ _ _ hj], by
      have e : cs.getD j 0 = cs[j] := by simp [List.getD_eq_getElem?_getD, hj]
      show ¬ 255 < cs.getD j 0
      rw [e]; exact h _ (List.getElem_mem _)⟩⟩
  · rw [n32 (by omega)] at hs
    obtain ⟨j, hj, rfl⟩ := List.getElem_of_mem hc
    exact Or.inr ⟨rfl, hs, fun j hj => ⟨by rw [hv _ (by omega), wide_lo _ _ _ hj], by rw [hv _ (by omega), wide_hi _ _ _ hj]⟩, j, hj, by
      have e : cs.getD j 0 = cs[j] := by simp [List.getD_eq_getElem?_getD, hj]
      show 255 < cs.getD j 0
      rw [e]; exact hw⟩
/-- an object of exactly java/lang/String, its two fields found: as the laws ask it -/
theorem strObj {Z U : State} {a0 : Array Value} {kI : Nat} (wi : (Jvm.Cond.instantiable ST kI).before a0 Z = true) (al : Z.vm.Alike U.vm) {x : Addr} {v0 c0 : Value} (E : RoadKit.Exa Z U.heap x ST) (V : RoadKit.Fld Z U.heap x ST "value" "[B" v0) (C : RoadKit.Fld Z U.heap x ST "coder" "B" c0) :
    ∃ (D : Cell) (fV fC : Field), Blank ST x D U ∧ Found ST "value" "[B" fV U ∧ Found ST "coder" "B" fC U ∧ D.slots[fV.slot]? = some v0 ∧ D.slots[fC.slot]? = some c0 ∧ RoadKit.slotOf Z ST "value" "[B" = fV.slot ∧ RoadKit.slotOf Z ST "coder" "B" = fC.slot := by
  obtain ⟨D, cfV, kV, iV, fV, hD, gV, stV, knV, obV, asV, slV⟩ := V
  obtain ⟨D', cfC, kC, iC, fC, hD', gC, stC, -, -, asC, slC⟩ := C
  cases hD.symm.trans hD'
  obtain ⟨D2, kD, e1, e2, e3, e4, e5⟩ := E
  cases hD.symm.trans e1
  obtain ⟨c2, k2, i1, i2, i3, -⟩ := Cond.instantiable_spec wi
  cases e2.symm.trans i1
  cases e3.symm.trans i2
  obtain ⟨kU, u1, u2⟩ := al.2.2 _ _ e3
  exact ⟨D, fV, fC, ⟨hD, ⟨knV, fun q hq => by rw [hq] at obV; cases obV⟩, by rw [al.findClass]; exact e2, kU, u1, by rw [u2]; exact i3, by rw [u2]; exact e5 i3⟩, ⟨SBG.found_only al ⟨cfV, kV, iV, gV⟩, stV⟩, ⟨SBG.found_only al ⟨cfC, kC, iC, gC⟩, stC⟩, slV, slC, by simp [RoadKit.slotOf, gV], by simp [RoadKit.slotOf, gC]⟩
theorem sta_is {Z U : State} (al : Z.vm.Alike U.vm) {C n d : String} {v : Value} (S : RoadKit.Sta Z U.heap C n d v) : StaticIs U C n d v := by
  obtain ⟨cfS, iS, kS, fS, st, cS, t1, t2, t3, t4, t5, t6, t7⟩ := S
  exact StaticIs.there (s := { Z with heap := U.heap }) ⟨cfS, iS, kS, fS, st, cS, t1, t2, t3, t4, t5, (fun q => by rw [q] at t6; cases t6), t7⟩ al rfl
/-- **length() OF SUCH A STRING** -/
theorem lenW {p : Program} {l : Launch} {e : Env} {R : Room} {s : State} {args : Array Value} {below : List Frame} {len W : Nat} {Z : State} {a0 : Array Value} {h : Heap} (hZ : Z.Warmed39 s.vm) (hw : ∀ d ∈ wordsLen, d.before a0 Z = true) {kI : Nat} (wi : (Jvm.Cond.instantiable ST kI).before a0 Z = true)
    {x t : Addr} {kb : ClassId} {cs : List Int32} {cd N2 z : Int32} {vs : List Value} (E : RoadKit.Exa Z h x ST) (V : RoadKit.Fld Z h x ST "value" "[B" (.ref t)) (C : RoadKit.Fld Z h x ST "coder" "B" (.int cd)) (K : RoadKit.Arv Z h t kb .byte N2 vs (.int 0)) (hc : CodA cs cd N2 vs) (hb : ∀ c ∈ cs, ¬ c < 0 ∧ ¬ (65535 : Int32) < c)
    (S : RoadKit.Sta Z h ST "COMPACT_STRINGS" "Z" (.int z)) (hz : ¬ z = 0) (l2 : cs.length ≤ 4000) (hfr : 2 ≤ R.frames) (hlo : W + 25 ≤ R.locals) :
    Back l R p e below s args (⟨"java/lang/String", "length", "()I"⟩ : MethodName) len W (fun P a => a = #[.ref x] ∧ P.U.heap = h ∧ P.cells + 0 ≤ R.cells ∧ P.slots + 0 ≤ R.slots)
      (fun P _ v B => ∃ L, (v = some (.int (Int32.ofNat cs.length)) ∧ L = [] ∧ B.U.heap = h) ∧ B.locs = P.locs ++ L ∧ B.cells = P.cells + 0 ∧ B.slots = P.slots + 0) := by
  obtain ⟨A, K1, K2, K3, K4, K5, K6⟩ := K
  have hcod := hc.cod (by omega) K3 K5
  intro m meth c P g ig mk a X hg hsize hdg hW hn hp'
  obtain ⟨rfl, rfl, r1, r2⟩ := hp'
  have al : Z.vm.Alike P.U.vm := hZ.alike.trans X.warmed.alike
  obtain ⟨D, fV, fC, hB, F1, F2, g1, g2, -, -⟩ := strObj wi al E V C
  have hx : Txt x t A cd cs.length (fun j => cs.getD j 0) P.U := ⟨⟨_, hB.2.2.1, D, hB.1, rfl, by cases q : D.vm <;> first | rfl | exact absurd q (hB.2.1.2 _)⟩, Has.of hB F1 g1, Has.of hB F2 g2, ⟨K1.1, State.isArrayOf_alike al K1.2.1, K1.2.2, by rcases hcod with ⟨-, q, -⟩ | ⟨-, q, -⟩ <;> omega⟩, hcod, fun j hj => by
    have e : cs.getD j 0 = cs[j] := by simp [List.getD_eq_getElem?_getD, hj]
    show ¬ cs.getD j 0 < 0 ∧ ¬ 65535 < cs.getD j 0
    rw [e]; exact hb _ (List.getElem_mem _)⟩
  obtain ⟨v, B, X', ⟨⟨hv, hh⟩, hl, hk, hs⟩, st⟩ := Len.pays x t A cd cs.length (fun j => cs.getD j 0) z (tabLen_of (movedLen hZ hw)) hfr hlo m meth c P g ig mk _ X hg hsize hdg hW hn ⟨r1, r2, rfl, hx, sta_is al S, hz⟩
  exact ⟨v, B, X', ⟨[], ⟨hv, rfl, hh⟩, hl, hk, hs⟩, st⟩
end StrChars.Road
namespace StrChars
open Jvm Sem ClassFile Op Lib Jvm.Stand Jvm.Free.XT Jvm.Free.ALB Jvm.Free.JM Jvm.Free
open Jvm.Lib.Cold (StaticIs)
/-- what place i of a byte[]'s cell holds -/
def yv (A : Cell) (i : Nat) : Int32 := match A.slots[i]? with | some (.int x) => x | _ => 0
theorem yv_get {a : Addr} {A : Cell} {U : State} (h : XT.Arr .byte a A U) (ht : Typed .byte A) {i : Nat} (hi : i < A.slots.size) : A.slots[i]? = some (.int (yv A i)) := by
  have e := Array.getElem?_eq_getElem hi
  have f := ht i _ e
  unfold yv; rw [e]
  generalize A.slots[i] = v at f
  cases v <;> simp [fits] at f ⊢
/-- the two arrays are equal, place for place -/
def EqC (A B : Cell) : Prop := A.slots.size = B.slots.size ∧ ∀ i, i < A.slots.size → yv A i = yv B i
/-- a boolean that says whether p -/
def Says01 (q : Prop) (r : Option Value) (s u : State) : Prop := ∃ v : Int32, r = some (.int v) ∧ u.heap = s.heap ∧ ((v = 1 ∧ q) ∨ (v = 0 ∧ ¬ q))
theorem Says01.mv {q : Prop} : ∀ r (U U' V V' : State), U'.heap = U.heap → V.vm.Alike V'.vm → V'.heap = V.heap → Says01 q r U V → Says01 q r U' V' :=
  fun r U U' V V' h1 _ h2 ⟨v, a, b, c⟩ => ⟨v, a, by rw [h1, h2]; exact b, c⟩
namespace LEq
def yN : MethodName := ⟨"java/lang/StringLatin1", "equals", "([B[B)Z"⟩
abbrev yB : ByteArray := jdk_43_method_13_code
theorem d0 : decode yB 0 = .ok (.aload_n 0, 1) := by decide +kernel
theorem d1 : decode yB 1 = .ok (.arraylength, 1) := by decide +kernel
theorem d2 : decode yB 2 = .ok (.aload_n 1, 1) := by decide +kernel
theorem d3 : decode yB 3 = .ok (.arraylength, 1) := by decide +kernel
theorem d4 : decode yB 4 = .ok (.if_icmp (.ne) 30, 3) := by decide +kernel
theorem d7 : decode yB 7 = .ok (.iconst 0, 1) := by decide +kernel
theorem d8 : decode yB 8 = .ok (.istore_n 2, 1) := by decide +kernel
theorem d9 : decode yB 9 = .ok (.iload_n 2, 1) := by decide +kernel
theorem d10 : decode yB 10 = .ok (.aload_n 0, 1) := by decide +kernel
theorem d11 : decode yB 11 = .ok (.arraylength, 1) := by decide +kernel
theorem d12 : decode yB 12 = .ok (.if_icmp (.ge) 20, 3) := by decide +kernel
theorem d15 : decode yB 15 = .ok (.aload_n 0, 1) := by decide +kernel
theorem d16 : decode yB 16 = .ok (.iload_n 2, 1) := by decide +kernel
theorem d17 : decode yB 17 = .ok (.baload, 1) := by decide +kernel
theorem d18 : decode yB 18 = .ok (.aload_n 1, 1) := by decide +kernel
theorem d19 : decode yB 19 = .ok (.iload_n 2, 1) := by decide +kernel
theorem d20 : decode yB 20 = .ok (.baload, 1) := by decide +kernel
theorem d21 : decode yB 21 = .ok (.if_icmp (.eq) 5, 3) := by decide +kernel
theorem d24 : decode yB 24 = .ok (.iconst 0, 1) := by decide +kernel
theorem d25 : decode yB 25 = .ok (.ireturn, 1) := by decide +kernel
theorem d26 : decode yB 26 = .ok (.iinc 2 1, 3) := by decide +kernel
theorem d29 : decode yB 29 = .ok (.goto (-20), 3) := by decide +kernel
theorem d32 : decode yB 32 = .ok (.iconst 1, 1) := by decide +kernel
theorem d33 : decode yB 33 = .ok (.ireturn, 1) := by decide +kernel
theorem d34 : decode yB 34 = .ok (.iconst 0, 1) := by decide +kernel
theorem d35 : decode yB 35 = .ok (.ireturn, 1) := by decide +kernel
def site : List Cond := []
def tab : Cond := tabOf yN yB 3 (some .boolean) site
def P (a : Addr) (A : Cell) (b : Addr) (B : Cell) (args : Array Value) (s : State) : Prop := args = #[.ref a, .ref b] ∧ XT.Arr .byte a A s ∧ Typed .byte A ∧ XT.Arr .byte b B s ∧ Typed .byte B
/-- whether two byte[] are equal, place for place -/
theorem law (l : Launch) (a : Addr) (A : Cell) (b : Addr) (B : Cell) : Law l yN 2 2 0 0 yB 3 (some .boolean) site (P a A b B) (Says01 (EqC A B)) [] 0 0 := by
  refine Law.of_walk (plainFor_of_name (by decide +kernel)) (by decide +kernel) (by decide +kernel) (by decide) (fun _ _ h => by rw [h.1]; rfl) (fun _ U U' hal hh h => ⟨h.1, h.2.1.mv hal hh, h.2.2.1, h.2.2.2.1.mv hal hh, h.2.2.2.2⟩) (fun r U U' V V' h1 hal h2 h => Says01.mv r U U' V V' h1 hal h2 h) ?_
  intro p e s m args below meth c s₁ X0 hexec hbytes hml hret hlk hnm hown hh0 W hP
  obtain ⟨rfl, hA, tA, hB, tB⟩ := hP
  have a31 := hA.2.2.2
  have b31 := hB.2.2.2
  have hA0 := hA.mv X0.warmed.alike hh0
  have hB0 := hB.mv X0.warmed.alike hh0
  have c1 : Steps p.tables e below (s₁.setTop (entryFrame m #[.ref a, .ref b] 3)) (s₁.setTop (mkF m 0 #[.val (.ref a), .val (.ref b), .unset] [])) := entry rfl
  have c2 : Steps p.tables e below (s₁.setTop (entryFrame m #[.ref a, .ref b] 3)) (s₁.setTop (mkF m 4 #[.val (.ref a), .val (.ref b), .unset] [.int (Int32.ofNat B.slots.size), .int (Int32.ofNat A.slots.size)])) := c1.trans (by
    refine XS.aloadN X0.here hexec rfl (hb hbytes d0) rfl rfl ?_
    refine X0.alen hexec hA0 rfl rfl (hb hbytes d1) ?_
    refine XS.aloadN X0.here hexec rfl (hb hbytes d2) rfl rfl ?_
    refine X0.alen hexec hB0 rfl rfl (hb hbytes d3) ?_
    exact Steps.refl _)
  by_cases hs : A.slots.size = B.slots.size
  · have c3 : Steps p.tables e below (s₁.setTop (entryFrame m #[.ref a, .ref b] 3)) (s₁.setTop (mkF m 9 #[.val (.ref a), .val (.ref b), .val (.int 0)] [])) := c2.trans (by
      refine XS.icmpNo X0.here hexec rfl (hb hbytes d4) rfl (ii_ne_f (by rw [hs])) ?_
      refine iconstV X0.here hexec rfl 0 (hb hbytes d7) (by decide) ?_
      refine XS.istoreN X0.here hexec rfl (hb hbytes d8) rfl rfl ?_
      exact Steps.refl _)
    have loop : ∀ (r i : Nat), i + r = A.slots.size → (∀ j, j < i → yv A j = yv B j) → Steps p.tables e below (s₁.setTop (entryFrame m #[.ref a, .ref b] 3)) (s₁.setTop (mkF m 9 #[.val (.ref a), .val (.ref b), .val (.int (Int32.ofNat i))] [])) → ∃ (pc : Nat) (Ls : Array Slot) (v : Int32), (pc = 25 ∨ pc = 33) ∧ ((v = 1 ∧ EqC A B) ∨ (v = 0 ∧ ¬ EqC A B)) ∧ Steps p.tables e below (s₁.setTop (entryFrame m #[.ref a, .ref b] 3)) (s₁.setTop (mkF m pc Ls [.int v])) := by
      intro r
      induction r with
      | zero =>
        intro i hi he cl
        exact ⟨33, _, 1, Or.inr rfl, Or.inl ⟨rfl, hs, fun j hj => he j (by omega)⟩, cl.trans (by
          refine XS.iloadN X0.here hexec rfl (hb hbytes d9) rfl ?_
          refine XS.aloadN X0.here hexec rfl (hb hbytes d10) rfl rfl ?_
          refine X0.alen hexec hA0 rfl rfl (hb hbytes d11) ?_
          refine XS.icmpYes X0.here hexec rfl (pc0 := 12) rfl (hb hbytes d12) rfl (ii_ge_t (nlt32 (by omega) (by omega))) (by decide) rfl ?_
          refine iconstV X0.here hexec rfl 1 (hb hbytes d32) (by decide) ?_
          exact Steps.refl _)⟩
      | succ r ih =>
        intro i hi he cl
        have c4 : Steps p.tables e below (s₁.setTop (entryFrame m #[.ref a, .ref b] 3)) (s₁.setTop (mkF m 21 #[.val (.ref a), .val (.ref b), .val (.int (Int32.ofNat i))] [.int (yv B i), .int (yv A i)])) := cl.trans (by
          refine XS.iloadN X0.here hexec rfl (hb hbytes d9) rfl ?_
          refine XS.aloadN X0.here hexec rfl (hb hbytes d10) rfl rfl ?_
          refine X0.alen hexec hA0 rfl rfl (hb hbytes d11) ?_
          refine XS.icmpNo X0.here hexec rfl (hb hbytes d12) rfl (ii_ge_f (lt32 (by omega) (by omega))) ?_
          refine XS.aloadN X0.here hexec rfl (hb hbytes d15) rfl rfl ?_
          refine XS.iloadN X0.here hexec rfl (hb hbytes d16) rfl ?_
          refine X0.aget hexec hA0 rfl (yv_get hA tA (i := i) (by omega)) rfl rfl (hb hbytes d17) ?_
          refine XS.aloadN X0.here hexec rfl (hb hbytes d18) rfl rfl ?_
          refine XS.iloadN X0.here hexec rfl (hb hbytes d19) rfl ?_
          refine X0.aget hexec hB0 rfl (yv_get hB tB (i := i) (by omega)) rfl rfl (hb hbytes d20) ?_
          exact Steps.refl _)
        by_cases hv : yv A i = yv B i
        · have c5 : Steps p.tables e below (s₁.setTop (entryFrame m #[.ref a, .ref b] 3)) (s₁.setTop (mkF m 9 #[.val (.ref a), .val (.ref b), .val (.int (Int32.ofNat i + 1))] [])) := c4.trans (by
            refine XS.icmpYes X0.here hexec rfl (pc0 := 21) rfl (hb hbytes d21) rfl (ii_eq_t hv) (by decide) rfl ?_
            refine iincV X0.here hexec rfl 1 (hb hbytes d26) (by decide) rfl rfl ?_
            refine XS.goto X0.here hexec rfl (pc0 := 29) rfl (hb hbytes d29) (by decide) rfl ?_
            exact Steps.refl _)
          rw [succ32] at c5
          exact ih (i + 1) (by omega) (fun j hj => by
            by_cases e : j = i
            · rw [e]; exact hv
            · exact he j (by omega)) c5
        · exact ⟨25, _, 0, Or.inl rfl, Or.inr ⟨rfl, fun q => hv (q.2 i (by omega))⟩, c4.trans (by
            refine XS.icmpNo X0.here hexec rfl (hb hbytes d21) rfl (ii_eq_f hv) ?_
            refine iconstV X0.here hexec rfl 0 (hb hbytes d24) (by decide) ?_
            exact Steps.refl _)⟩
    obtain ⟨pc, Ls, v, hpc, hv, cz⟩ := loop A.slots.size 0 (by omega) (fun j hj => absurd hj (Nat.not_lt_zero j)) c3
    have nv : narrow .boolean (.int v) = .int v := by rcases hv with ⟨rfl, -⟩ | ⟨rfl, -⟩ <;> rfl
    rcases hpc with rfl | rfl
    · exact ⟨s₁, some (.int v), _, _, _, X0, rfl, rfl, rfl, (fun h => by cases h), ⟨v, rfl, hh0, hv⟩, fun fs hl => cz.trans (X0.ireturnOut hexec hret nv (Or.inr (Or.inl rfl)) (hb hbytes d25) hl)⟩
    · exact ⟨s₁, some (.int v), _, _, _, X0, rfl, rfl, rfl, (fun h => by cases h), ⟨v, rfl, hh0, hv⟩, fun fs hl => cz.trans (X0.ireturnOut hexec hret nv (Or.inr (Or.inl rfl)) (hb hbytes d33) hl)⟩
  · have c3 : Steps p.tables e below (s₁.setTop (entryFrame m #[.ref a, .ref b] 3)) (s₁.setTop (mkF m 35 #[.val (.ref a), .val (.ref b), .unset] [.int 0])) := c2.trans (by
      refine XS.icmpYes X0.here hexec rfl (pc0 := 4) rfl (hb hbytes d4) rfl (ii_ne_t (ne32 a31 b31 hs)) (by decide) rfl ?_
      refine iconstV X0.here hexec rfl 0 (hb hbytes d34) (by decide) ?_
      exact Steps.refl _)
    exact ⟨s₁, some (.int 0), _, _, _, X0, rfl, rfl, rfl, (fun h => by cases h), ⟨0, rfl, hh0, Or.inr ⟨rfl, fun q => hs q.1⟩⟩, fun fs hl => c3.trans (X0.ireturnOut hexec hret rfl (Or.inr (Or.inl rfl)) (hb hbytes d35) hl)⟩
end LEq
theorem Cod.ty {cd : Int32} {n : Nat} {f : Nat → Int32} {V : Cell} (h : Cod cd n f V) : Typed .byte V := fun i v hv => by
  have hi : i < V.slots.size := (Array.getElem?_eq_some_iff.mp hv).1
  rcases h with ⟨-, k1, k2⟩ | ⟨-, k1, k2, -⟩
  · rw [(k2 i (by omega)).1] at hv; cases hv; exact fits_lo8 _
  · rcases Nat.mod_two_eq_zero_or_one i with e | e
    · obtain ⟨j, rfl⟩ : ∃ j, i = 2 * j := ⟨i / 2, by omega⟩
      rw [(k2 j (by omega)).1] at hv; cases hv; exact fits_lo8 _
    · obtain ⟨j, rfl⟩ : ∃ j, i = 2 * j + 1 := ⟨i / 2, by omega⟩
      rw [(k2 j (by omega)).2] at hv; cases hv; exact fits_lo8 _
/-- the same text -/
def SameT (n : Nat) (f : Nat → Int32) (k : Nat) (g : Nat → Int32) : Prop := n = k ∧ ∀ j, j < n → f j = g j
theorem lo8_inj {x y : Int32} (h0 : ¬ x < 0) (h1 : ¬ 255 < x) (k0 : ¬ y < 0) (k1 : ¬ 255 < y) (h : lo8 x = lo8 y) : x = y := by
  rw [← lo8_mask h0 h1, ← lo8_mask k0 k1, h]
/-- arrays coded by one coder are equal just where the texts are -/
theorem Cod.eqv {cd : Int32} {n k : Nat} {f g : Nat → Int32} {V V' : Cell} (h : Cod cd n f V) (h' : Cod cd k g V') (hf : ∀ j, j < n → ¬ f j < 0 ∧ ¬ 65535 < f j) (hg : ∀ j, j < k → ¬ g j < 0 ∧ ¬ 65535 < g j) : EqC V V' ↔ SameT n f k g := by
  have yvv : ∀ {W : Cell} {i : Nat} {x : Int32}, W.slots[i]? = some (.int x) → yv W i = x := fun q => by unfold yv; rw [q]
  rcases h with ⟨rfl, k1, k2⟩ | ⟨rfl, k1, k2, -⟩
  · rcases h' with ⟨-, m1, m2⟩ | ⟨e, -⟩
    · constructor
      · rintro ⟨e1, e2⟩
        refine ⟨by omega, fun j hj => ?_⟩
        have q := e2 j (by omega)
        rw [yvv (k2 j hj).1, yvv (m2 j (by omega)).1] at q
        exact lo8_inj (hf j hj).1 (k2 j hj).2 (hg j (by omega)).1 (m2 j (by omega)).2 q
      · rintro ⟨rfl, e2⟩
        refine ⟨by omega, fun j hj => ?_⟩
        rw [yvv (k2 j (by omega)).1, yvv (m2 j (by omega)).1, e2 j (by omega)]
    · exact absurd e (by decide)
  · rcases h' with ⟨e, -⟩ | ⟨-, m1, m2, -⟩
    · exact absurd e (by decide)
    · constructor
      · rintro ⟨e1, e2⟩
        refine ⟨by omega, fun j hj => ?_⟩
        have q1 := e2 (2 * j) (by omega)
        have q2 := e2 (2 * j + 1) (by omega)
        rw [yvv (k2 j hj).1, yvv (m2 j (by omega)).1] at q1
        rw [yvv (k2 j hj).2, yvv (m2 j (by omega)).2] at q2
        rw [← pair_says (hf j hj).1 (hf j hj).2, ← pair_says (hg j (by omega)).1 (hg j (by omega)).2, q1, q2]
      · rintro ⟨rfl, e2⟩
        refine ⟨by omega, fun i hi => ?_⟩
        rcases Nat.mod_two_eq_zero_or_one i with e | e
        · obtain ⟨j, rfl⟩ : ∃ j, i = 2 * j := ⟨i / 2, by omega⟩
          rw [yvv (k2 j (by omega)).1, yvv (m2 j (by omega)).1, e2 j (by omega)]
        · obtain ⟨j, rfl⟩ : ∃ j, i = 2 * j + 1 := ⟨i / 2, by omega⟩
          rw [yvv (k2 j (by omega)).2, yvv (m2 j (by omega)).2, e2 j (by omega)]
/-- two codings differ: so do the texts -/
theorem Cod.dif {cd cd' : Int32} {n k : Nat} {f g : Nat → Int32} {V V' : Cell} (h : Cod cd n f V) (h' : Cod cd' k g V') (hne : ¬ cd = cd') : ¬ SameT n f k g := by
  rintro ⟨rfl, e⟩
  rcases h with ⟨rfl, -, k2⟩ | ⟨rfl, -, -, j, hj, hw⟩
  · rcases h' with ⟨rfl, -⟩ | ⟨-, -, -, j, hj, hw⟩
    · exact hne rfl
    · exact (k2 j hj).2 (by rw [e j hj]; exact hw)
  · rcases h' with ⟨-, -, m2⟩ | ⟨rfl, -⟩
    · exact (m2 j hj).2 (by rw [← e j hj]; exact hw)
    · exact hne rfl
/-- an object of exactly C is an instance of C -/
theorem cinst {p : Program} {l : Launch} {e : Env} {R : Room} {s : State} {m : MethodId} {args : Array Value} {below : List Frame} {meth : Method} {c : Code} {T : State} {locs : List Loc} {cells slots : Nat} (X : Stand p l e R s m args below meth c T locs cells slots) (hexec : p.tables.exec = Jvm.exec) {own C : String} {index : Nat} (hown : s.vm.findClass own = some m.cls) (hlink : (Cond.classLink own index C).before args s = true) {a : Addr} (hE : Exact C a T)
    {g : JFrame} (hg : g.method = m) {rest : List Value} (hstack : g.stack = .ref a :: rest) (hdg : decode c.code g.pc = .ok (.instanceof index, 3)) :
    ∃ T', Stand p l e R s m args below meth c T' locs cells slots ∧ T'.heap = T.heap ∧ ∀ target, Steps p.tables e below (T'.setTop { g with pc := g.pc + 3, stack := .int 1 :: rest }) target → Steps p.tables e below (T.setTop g) target := by
  obtain ⟨cB, h1, D, h2, h3, h4⟩ := hE
  have h1' : s.vm.findClass C = some cB := by rw [← X.warmed.alike.findClass]; exact h1
  obtain ⟨vm', X', st⟩ := X.instanceofYes hexec hown hlink h2 h4 h1' (by rw [h3]; exact Jvm.Free.SB.assignable_self _ _) hg hstack hdg
  exact ⟨_, X', rfl, st⟩
theorem cself {p : Program} {l : Launch} {e : Env} {R : Room} {s : State} {m : MethodId} {args : Array Value} {below : List Frame} {meth : Method} {c : Code} {T : State} {locs : List Loc} {cells slots : Nat} (X : Stand p l e R s m args below meth c T locs cells slots) (hexec : p.tables.exec = Jvm.exec) {own C : String} {index : Nat} (hown : s.vm.findClass own = some m.cls) (hlink : (Cond.classLink own index C).before args s = true) {a : Addr} (hE : Exact C a T)
    {g : JFrame} (hg : g.method = m) {rest : List Value} (hstack : g.stack = .ref a :: rest) (hdg : decode c.code g.pc = .ok (.checkcast index, 3)) :
    ∃ T', Stand p l e R s m args below meth c T' locs cells slots ∧ T'.heap = T.heap ∧ ∀ target, Steps p.tables e below (T'.setTop { g with pc := g.pc + 3, stack := .ref a :: rest }) target → Steps p.tables e below (T.setTop g) target := by
  obtain ⟨cB, h1, D, h2, h3, h4⟩ := hE
  have h1' : s.vm.findClass C = some cB := by rw [← X.warmed.alike.findClass]; exact h1
  obtain ⟨vm', X', st⟩ := X.checkcastYes hexec hown hlink h2 h4 h1' (by rw [h3]; exact Jvm.Free.SB.assignable_self _ _) hg hstack hdg
  exact ⟨_, X', rfl, fun t h => st t (by rw [← hstack] at h; exact h)⟩
namespace SEq
def yN : MethodName := ⟨"java/lang/String", "equals", "(Ljava/lang/Object;)Z"⟩
abbrev yB : ByteArray := jdk_42_method_66_code
theorem d0 : decode yB 0 = .ok (.aload_n 0, 1) := by decide +kernel
theorem d1 : decode yB 1 = .ok (.aload_n 1, 1) := by decide +kernel
theorem d2 : decode yB 2 = .ok (.if_acmp (.ne) 5, 3) := by decide +kernel
theorem d5 : decode yB 5 = .ok (.iconst 1, 1) := by decide +kernel
theorem d6 : decode yB 6 = .ok (.ireturn, 1) := by decide +kernel
theorem d7 : decode yB 7 = .ok (.aload_n 1, 1) := by decide +kernel
theorem d8 : decode yB 8 = .ok (.instanceof 10, 3) := by decide +kernel
theorem d11 : decode yB 11 = .ok (.ifCond (.eq) 43, 3) := by decide +kernel
theorem d14 : decode yB 14 = .ok (.aload_n 1, 1) := by decide +kernel
theorem d15 : decode yB 15 = .ok (.checkcast 10, 3) := by decide +kernel
theorem d18 : decode yB 18 = .ok (.astore_n 2, 1) := by decide +kernel
theorem d19 : decode yB 19 = .ok (.getstatic 38, 3) := by decide +kernel
theorem d22 : decode yB 22 = .ok (.ifCond (.eq) 14, 3) := by decide +kernel
theorem d25 : decode yB 25 = .ok (.aload_n 0, 1) := by decide +kernel
theorem d26 : decode yB 26 = .ok (.getfield 15, 3) := by decide +kernel
theorem d29 : decode yB 29 = .ok (.aload_n 2, 1) := by decide +kernel
theorem d30 : decode yB 30 = .ok (.getfield 15, 3) := by decide +kernel
theorem d33 : decode yB 33 = .ok (.if_icmp (.ne) 21, 3) := by decide +kernel
theorem d36 : decode yB 36 = .ok (.aload_n 0, 1) := by decide +kernel
theorem d37 : decode yB 37 = .ok (.getfield 9, 3) := by decide +kernel
theorem d40 : decode yB 40 = .ok (.aload_n 2, 1) := by decide +kernel
theorem d41 : decode yB 41 = .ok (.getfield 9, 3) := by decide +kernel
theorem d44 : decode yB 44 = .ok (.invokestatic 541, 3) := by decide +kernel
theorem d47 : decode yB 47 = .ok (.ifCond (.eq) 7, 3) := by decide +kernel
theorem d50 : decode yB 50 = .ok (.iconst 1, 1) := by decide +kernel
theorem d51 : decode yB 51 = .ok (.goto 4, 3) := by decide +kernel
theorem d54 : decode yB 54 = .ok (.iconst 0, 1) := by decide +kernel
theorem d55 : decode yB 55 = .ok (.ireturn, 1) := by decide +kernel
def site : List Cond := [.classLink "java/lang/String" 10 "java/lang/String", .fieldLink "java/lang/String" 38 "java/lang/String" "COMPACT_STRINGS" "Z", .fieldLink "java/lang/String" 15 "java/lang/String" "coder" "B", .fieldLink "java/lang/String" 9 "java/lang/String" "value" "[B", LEq.tab] ++ staticW "java/lang/String" 541 LEq.yN
def tab : Cond := tabOf yN yB 3 (some .boolean) site
def P (x t : Addr) (V : Cell) (cd : Int32) (n : Nat) (f : Nat → Int32) (y t' : Addr) (V' : Cell) (cd' : Int32) (k : Nat) (g : Nat → Int32) (z : Int32) (args : Array Value) (s : State) : Prop := args = #[.ref x, .ref y] ∧ Txt x t V cd n f s ∧ Txt y t' V' cd' k g s ∧ StaticIs s "java/lang/String" "COMPACT_STRINGS" "Z" (.int z) ∧ ¬ z = 0
/-- equals(Object) of two Strings: whether the texts are the same -/
theorem law (l : Launch) (x t : Addr) (V : Cell) (cd : Int32) (n : Nat) (f : Nat → Int32) (y t' : Addr) (V' : Cell) (cd' : Int32) (k : Nat) (g : Nat → Int32) (z : Int32) : Law l yN 2 1 1 14 yB 3 (some .boolean) site (P x t V cd n f y t' V' cd' k g z) (Says01 (SameT n f k g)) [] 0 0 := by
  refine Law.of_walk (plainFor_of_name (by decide +kernel)) (by decide +kernel) (by decide +kernel) (by decide) (fun _ _ h => by rw [h.1]; rfl) (fun _ U U' hal hh h => ⟨h.1, h.2.1.mv hal hh, h.2.2.1.mv hal hh, h.2.2.2.1.there hal hh, h.2.2.2.2⟩) (fun r U U' V V' h1 hal h2 h => Says01.mv r U U' V V' h1 hal h2 h) ?_
  intro p e s m args below meth c s₁ X0 hexec hbytes hml hret hlk hnm hown hh0 W hP
  obtain ⟨rfl, hx, hy, s1, hz⟩ := hP
  have c1 : Steps p.tables e below (s₁.setTop (entryFrame m #[.ref x, .ref y] 3)) (s₁.setTop (mkF m 2 #[.val (.ref x), .val (.ref y), .unset] [.ref y, .ref x])) := Steps.trans (entry rfl) (by
    show Steps p.tables e below (s₁.setTop (mkF m 0 #[.val (.ref x), .val (.ref y), .unset] [])) _
    refine XS.aloadN X0.here hexec rfl (hb hbytes d0) rfl rfl ?_
    refine XS.aloadN X0.here hexec rfl (hb hbytes d1) rfl rfl ?_
    exact Steps.refl _)
  by_cases hxy : x = y
  · have c2 : Steps p.tables e below (s₁.setTop (entryFrame m #[.ref x, .ref y] 3)) (s₁.setTop (mkF m 6 #[.val (.ref x), .val (.ref y), .unset] [.int 1])) := c1.trans (by
      refine acmpNo X0.here hexec rfl (hb hbytes d2) rfl rfl rfl (by simp [acmp, hxy]) ?_
      refine iconstV X0.here hexec rfl 1 (hb hbytes d5) (by decide) ?_
      exact Steps.refl _)
    subst hxy
    have ec : cd = cd' := by
      obtain ⟨D, fd, a1, a2, a3⟩ := hx.2.2.1
      obtain ⟨D', fd', b1, b2, b3⟩ := hy.2.2.1
      cases a1.symm.trans b1
      obtain ⟨q1, q2, q3, q4⟩ := a2.1
      obtain ⟨r1, r2, r3, r4⟩ := b2.1
      cases q4.symm.trans r4
      cases a3.symm.trans b3; rfl
    have et : t = t' := by
      obtain ⟨D, fd, a1, a2, a3⟩ := hx.2.1
      obtain ⟨D', fd', b1, b2, b3⟩ := hy.2.1
      cases a1.symm.trans b1
      obtain ⟨q1, q2, q3, q4⟩ := a2.1
      obtain ⟨r1, r2, r3, r4⟩ := b2.1
      cases q4.symm.trans r4
      cases a3.symm.trans b3; rfl
    subst ec et
    have ev : V = V' := by cases hx.2.2.2.1.1.symm.trans hy.2.2.2.1.1; rfl
    subst ev
    have hs : SameT n f k g := (Cod.eqv hx.2.2.2.2.1 hy.2.2.2.2.1 hx.2.2.2.2.2 hy.2.2.2.2.2).mp ⟨rfl, fun _ _ => rfl⟩
    exact ⟨s₁, some (.int 1), _, _, _, X0, rfl, rfl, rfl, (fun h => by cases h), ⟨1, rfl, hh0, Or.inl ⟨rfl, hs⟩⟩, fun fs hl => c2.trans (X0.ireturnOut hexec hret rfl (Or.inr (Or.inl rfl)) (hb hbytes d6) hl)⟩
  · have c2 : Steps p.tables e below (s₁.setTop (entryFrame m #[.ref x, .ref y] 3)) (s₁.setTop (mkF m 8 #[.val (.ref x), .val (.ref y), .unset] [.ref y])) := c1.trans (by
      refine acmpYes X0.here hexec rfl (pc0 := 2) rfl (hb hbytes d2) rfl rfl rfl (by simp [acmp, hxy]) (by decide) rfl ?_
      refine XS.aloadN X0.here hexec rfl (hb hbytes d7) rfl rfl ?_
      exact Steps.refl _)
    obtain ⟨T3, X3, q3, st3⟩ := cinst X0 hexec hown (wk W (.classLink "java/lang/String" 10 "java/lang/String")) (hy.mv X0.warmed.alike hh0).1 (g := (mkF m 8 #[.val (.ref x), .val (.ref y), .unset] [.ref y])) rfl (rest := []) rfl (hb hbytes d8)
    have hh3 := q3.trans hh0
    have c4 : Steps p.tables e below (s₁.setTop (entryFrame m #[.ref x, .ref y] 3)) (T3.setTop (mkF m 15 #[.val (.ref x), .val (.ref y), .unset] [.ref y])) := (c2.trans (st3 _ (Steps.refl _))).trans (by
      refine XS.ifNo X3.here hexec rfl (hb hbytes d11) rfl (i0_eq_f (by decide)) ?_
      refine XS.aloadN X3.here hexec rfl (hb hbytes d14) rfl rfl ?_
      exact Steps.refl _)
    obtain ⟨T5, X5, q5, st5⟩ := cself X3 hexec hown (wk W (.classLink "java/lang/String" 10 "java/lang/String")) (hy.mv X3.warmed.alike hh3).1 (g := (mkF m 15 #[.val (.ref x), .val (.ref y), .unset] [.ref y])) rfl (rest := []) rfl (hb hbytes d15)
    have hh5 := q5.trans hh3
    have c6 : Steps p.tables e below (s₁.setTop (entryFrame m #[.ref x, .ref y] 3)) (T5.setTop (mkF m 19 #[.val (.ref x), .val (.ref y), .val (.ref y)] [])) := (c4.trans (st5 _ (Steps.refl _))).trans (by
      refine XS.astoreN X5.here hexec rfl (hb hbytes d18) rfl rfl rfl ?_
      exact Steps.refl _)
    obtain ⟨T7, X7, q7, st7⟩ := X5.sget hexec hown (wk W (.fieldLink "java/lang/String" 38 "java/lang/String" "COMPACT_STRINGS" "Z")) s1 (fun _ _ h => by rw [hh5]; exact h) (g := (mkF m 19 #[.val (.ref x), .val (.ref y), .val (.ref y)] [])) rfl (hb hbytes d19)
    have hh7 := q7.trans hh5
    have c8 : Steps p.tables e below (s₁.setTop (entryFrame m #[.ref x, .ref y] 3)) (T7.setTop (mkF m 26 #[.val (.ref x), .val (.ref y), .val (.ref y)] [.ref x])) := (c6.trans (st7 _ (Steps.refl _))).trans (by
      refine XS.ifNo X7.here hexec rfl (hb hbytes d22) rfl (i0_eq_f hz) ?_
      refine XS.aloadN X7.here hexec rfl (hb hbytes d25) rfl rfl ?_
      exact Steps.refl _)
    obtain ⟨T9, X9, q9, st9⟩ := X7.hget hexec hown (wk W (.fieldLink "java/lang/String" 15 "java/lang/String" "coder" "B")) (hx.mv X7.warmed.alike hh7).2.2.1 (g := (mkF m 26 #[.val (.ref x), .val (.ref y), .val (.ref y)] [.ref x])) rfl (rest := []) rfl (hb hbytes d26)
    have hh9 := q9.trans hh7
    have c10 : Steps p.tables e below (s₁.setTop (entryFrame m #[.ref x, .ref y] 3)) (T9.setTop (mkF m 30 #[.val (.ref x), .val (.ref y), .val (.ref y)] [.ref y, .int cd])) := (c8.trans (st9 _ (Steps.refl _))).trans (by
      refine XS.aloadN X9.here hexec rfl (hb hbytes d29) rfl rfl ?_
      exact Steps.refl _)
    obtain ⟨T11, X11, q11, st11⟩ := X9.hget hexec hown (wk W (.fieldLink "java/lang/String" 15 "java/lang/String" "coder" "B")) (hy.mv X9.warmed.alike hh9).2.2.1 (g := (mkF m 30 #[.val (.ref x), .val (.ref y), .val (.ref y)] [.ref y, .int cd])) rfl (rest := [.int cd]) rfl (hb hbytes d30)
    have hh11 := q11.trans hh9
    have c12 : Steps p.tables e below (s₁.setTop (entryFrame m #[.ref x, .ref y] 3)) (T11.setTop (mkF m 33 #[.val (.ref x), .val (.ref y), .val (.ref y)] [.int cd', .int cd])) := c10.trans (st11 _ (Steps.refl _))
    by_cases hcd : cd = cd'
    · subst hcd
      have c13 : Steps p.tables e below (s₁.setTop (entryFrame m #[.ref x, .ref y] 3)) (T11.setTop (mkF m 37 #[.val (.ref x), .val (.ref y), .val (.ref y)] [.ref x])) := c12.trans (by
        refine XS.icmpNo X11.here hexec rfl (hb hbytes d33) rfl (ii_ne_f rfl) ?_
        refine XS.aloadN X11.here hexec rfl (hb hbytes d36) rfl rfl ?_
        exact Steps.refl _)
      obtain ⟨T14, X14, q14, st14⟩ := X11.hget hexec hown (wk W (.fieldLink "java/lang/String" 9 "java/lang/String" "value" "[B")) (hx.mv X11.warmed.alike hh11).2.1 (g := (mkF m 37 #[.val (.ref x), .val (.ref y), .val (.ref y)] [.ref x])) rfl (rest := []) rfl (hb hbytes d37)
      have hh14 := q14.trans hh11
      have c15 : Steps p.tables e below (s₁.setTop (entryFrame m #[.ref x, .ref y] 3)) (T14.setTop (mkF m 41 #[.val (.ref x), .val (.ref y), .val (.ref y)] [.ref y, .ref t])) := (c13.trans (st14 _ (Steps.refl _))).trans (by
        refine XS.aloadN X14.here hexec rfl (hb hbytes d40) rfl rfl ?_
        exact Steps.refl _)
      obtain ⟨T16, X16, q16, st16⟩ := X14.hget hexec hown (wk W (.fieldLink "java/lang/String" 9 "java/lang/String" "value" "[B")) (hy.mv X14.warmed.alike hh14).2.1 (g := (mkF m 41 #[.val (.ref x), .val (.ref y), .val (.ref y)] [.ref y, .ref t])) rfl (rest := [.ref t]) rfl (hb hbytes d41)
      have hh16 := q16.trans hh14
      have c17 : Steps p.tables e below (s₁.setTop (entryFrame m #[.ref x, .ref y] 3)) (T16.setTop (mkF m 44 #[.val (.ref x), .val (.ref y), .val (.ref y)] [.ref t', .ref t])) := c15.trans (st16 _ (Steps.refl _))
      obtain ⟨v18, T18, X18, E18, g18⟩ := X16.callS hexec (LEq.law l t V t' V') hown (wks W (staticW "java/lang/String" 541 LEq.yN)) (wk W LEq.tab) (W := 0) (Nat.le_of_ble_eq_true rfl) (Nat.le_of_ble_eq_true rfl) (Nat.le_refl _) (Nat.le_refl _) (g := (mkF m 44 #[.val (.ref x), .val (.ref y), .val (.ref y)] [.ref t', .ref t])) rfl (by rw [hml]; rfl) c17 (argsL := [.ref t, .ref t']) (rest := []) rfl rfl (by show 2 * 0 + 0 ≤ _; decide) (hb hbytes d44) (⟨rfl, hx.2.2.2.1.mv X16.warmed.alike hh16, hx.2.2.2.2.1.ty, hy.2.2.2.1.mv X16.warmed.alike hh16, hy.2.2.2.2.1.ty⟩)
      obtain ⟨v, rfl, q18, hv⟩ := E18
      have iff := Cod.eqv hx.2.2.2.2.1 hy.2.2.2.2.1 hx.2.2.2.2.2 hy.2.2.2.2.2
      rcases hv with ⟨rfl, he⟩ | ⟨rfl, he⟩
      · have c19 : Steps p.tables e below (s₁.setTop (entryFrame m #[.ref x, .ref y] 3)) (T18.setTop (mkF m 55 #[.val (.ref x), .val (.ref y), .val (.ref y)] [.int 1])) := Steps.trans g18 (by
          refine XS.ifNo X18.here hexec rfl (hb hbytes d47) rfl (i0_eq_f (by decide)) ?_
          refine iconstV X18.here hexec rfl 1 (hb hbytes d50) (by decide) ?_
          refine XS.goto X18.here hexec rfl (pc0 := 51) rfl (hb hbytes d51) (by decide) rfl ?_
          exact Steps.refl _)
        exact ⟨T18, some (.int 1), _, _, _, X18, rfl, rfl, rfl, (fun h => by cases h), ⟨1, rfl, q18.trans hh16, Or.inl ⟨rfl, iff.mp he⟩⟩, fun fs hl => c19.trans (X18.ireturnOut hexec hret rfl (Or.inr (Or.inl rfl)) (hb hbytes d55) hl)⟩
      · have c19 : Steps p.tables e below (s₁.setTop (entryFrame m #[.ref x, .ref y] 3)) (T18.setTop (mkF m 55 #[.val (.ref x), .val (.ref y), .val (.ref y)] [.int 0])) := Steps.trans g18 (by
          refine XS.ifYes X18.here hexec rfl (pc0 := 47) rfl (hb hbytes d47) rfl (i0_eq_t rfl) (by decide) rfl ?_
          refine iconstV X18.here hexec rfl 0 (hb hbytes d54) (by decide) ?_
          exact Steps.refl _)
        exact ⟨T18, some (.int 0), _, _, _, X18, rfl, rfl, rfl, (fun h => by cases h), ⟨0, rfl, q18.trans hh16, Or.inr ⟨rfl, fun q => he (iff.mpr q)⟩⟩, fun fs hl => c19.trans (X18.ireturnOut hexec hret rfl (Or.inr (Or.inl rfl)) (hb hbytes d55) hl)⟩
    · have c13 : Steps p.tables e below (s₁.setTop (entryFrame m #[.ref x, .ref y] 3)) (T11.setTop (mkF m 55 #[.val (.ref x), .val (.ref y), .val (.ref y)] [.int 0])) := c12.trans (by
        refine XS.icmpYes X11.here hexec rfl (pc0 := 33) rfl (hb hbytes d33) rfl (ii_ne_t hcd) (by decide) rfl ?_
        refine iconstV X11.here hexec rfl 0 (hb hbytes d54) (by decide) ?_
        exact Steps.refl _)
      exact ⟨T11, some (.int 0), _, _, _, X11, rfl, rfl, rfl, (fun h => by cases h), ⟨0, rfl, hh11, Or.inr ⟨rfl, Cod.dif hx.2.2.2.2.1 hy.2.2.2.2.1 hcd⟩⟩, fun fs hl => c13.trans (X11.ireturnOut hexec hret rfl (Or.inr (Or.inl rfl)) (hb hbytes d55) hl)⟩
theorem pays {l : Launch} {R : Room} {p : Program} {e : Env} {below : List Frame} {s : State} {sargs : Array Value} {len W : Nat} (x t : Addr) (V : Cell) (cd : Int32) (n : Nat) (f : Nat → Int32) (y t' : Addr) (V' : Cell) (cd' : Int32) (k : Nat) (g : Nat → Int32) (z : Int32) (htab : tab.before sargs s = true) (hfr : 2 ≤ R.frames) (hlo : W + 28 ≤ R.locals) :
    Back l R p e below s sargs yN len W (fun A₁ a₁ => A₁.cells + 0 ≤ R.cells ∧ A₁.slots + 0 ≤ R.slots ∧ P x t V cd n f y t' V' cd' k g z a₁ A₁.U) (fun A₁ _ v₁ B₁ => Says01 (SameT n f k g) v₁ A₁.U B₁.U ∧ B₁.locs = A₁.locs ++ [] ∧ B₁.cells = A₁.cells + 0 ∧ B₁.slots = A₁.slots + 0) :=
  (law l x t V cd n f y t' V' cd' k g z).pays htab hfr (by omega)
end SEq
end StrChars
namespace StrChars.Road
open Jvm Sem ClassFile Op Lib Jvm.Stand Jvm.Free Jvm.Free.XT
open Jvm.Lib.Cold (StaticIs)
/-- the words of String.equals(Object) -/
abbrev wordsEq : List Jvm.Cond := [.code SEq.yN SEq.yB 3 (some .boolean), .initialized ST, .classLink ST 10 ST, .fieldLink ST 38 ST "COMPACT_STRINGS" "Z", .fieldLink ST 15 ST "coder" "B", .fieldLink ST 9 ST "value" "[B", .methodLink ST 541 LEq.yN, .static LEq.yN, .code LEq.yN LEq.yB 3 (some .boolean), .initialized "java/lang/StringLatin1"]
theorem tabEq_of {a : Array Value} {s : State} (h : ∀ w ∈ wordsEq, w.before a s = true) : SEq.tab.before a s = true := by
  have hl : LEq.tab.before a s = true := unparts (wk h (.code LEq.yN LEq.yB 3 (some .boolean))) (wks h (.initialized LEq.yN.cls :: LEq.site))
  have q := consq hl h
  exact unparts (wk q (.code SEq.yN SEq.yB 3 (some .boolean))) (wks q (.initialized SEq.yN.cls :: SEq.site))
theorem movedEq {Z s : State} {a0 args : Array Value} (hZ : Z.Warmed39 s.vm) (hw : ∀ d ∈ wordsEq, d.before a0 Z = true) : ∀ d ∈ wordsEq, d.before args s = true := fun d hd => by
  have t : ∀ d ∈ wordsEq, (d.onTables && d.keepsFace) = true := by decide +kernel
  exact RoadKit.mv hZ (hw d hd) (t d hd)
/-- the road's facts of a String, as the laws ask it -/
theorem txt_of {Z U : State} {a0 : Array Value} {kI : Nat} (wi : (Jvm.Cond.instantiable ST kI).before a0 Z = true) (al : Z.vm.Alike U.vm) {x t : Addr} {kb : ClassId} {cs : List Int32} {cd N2 : Int32} {vs : List Value} (E : RoadKit.Exa Z U.heap x ST) (V : RoadKit.Fld Z U.heap x ST "value" "[B" (.ref t)) (C : RoadKit.Fld Z U.heap x ST "coder" "B" (.int cd)) (K : RoadKit.Arv Z U.heap t kb .byte N2 vs (.int 0)) (hc : CodA cs cd N2 vs) (hb : ∀ c ∈ cs, ¬ c < 0 ∧ ¬ (65535 : Int32) < c) (l2 : cs.length ≤ 4000) :
    ∃ A, Txt x t A cd cs.length (fun j => cs.getD j 0) U := by
  obtain ⟨A, K1, K2, K3, K4, K5, K6⟩ := K
  have hcod := hc.cod (by omega) K3 K5
  obtain ⟨D, fV, fC, hB, F1, F2, g1, g2, -, -⟩ := strObj wi al E V C
  exact ⟨A, ⟨_, hB.2.2.1, D, hB.1, rfl, by cases q : D.vm <;> first | rfl | exact absurd q (hB.2.1.2 _)⟩, Has.of hB F1 g1, Has.of hB F2 g2, ⟨K1.1, State.isArrayOf_alike al K1.2.1, K1.2.2, by rcases hcod with ⟨-, q, -⟩ | ⟨-, q, -⟩ <;> omega⟩, hcod, fun j hj => by
    have e : cs.getD j 0 = cs[j] := by simp [List.getD_eq_getElem?_getD, hj]
    show ¬ cs.getD j 0 < 0 ∧ ¬ 65535 < cs.getD j 0
    rw [e]; exact hb _ (List.getElem_mem _)⟩
theorem same_list (cs ds : List Int32) : SameT cs.length (fun j => cs.getD j 0) ds.length (fun j => ds.getD j 0) ↔ cs = ds := by
  constructor
  · rintro ⟨e, q⟩
    refine List.ext_getElem e fun j h1 h2 => ?_
    have := q j h1
    simpa [List.getD_eq_getElem?_getD, h1, h2] using this
  · rintro rfl
    exact ⟨rfl, fun _ _ => rfl⟩
/-- **equals(Object) OF TWO SUCH STRINGS**: 1 just where the chars are the same -/
theorem eqW {p : Program} {l : Launch} {e : Env} {R : Room} {s : State} {args : Array Value} {below : List Frame} {len W : Nat} {Z : State} {a0 : Array Value} {h : Heap} (hZ : Z.Warmed39 s.vm) (hw : ∀ d ∈ wordsEq, d.before a0 Z = true) {kI : Nat} (wi : (Jvm.Cond.instantiable ST kI).before a0 Z = true)
    {x t : Addr} {kb : ClassId} {cs : List Int32} {cd N2 : Int32} {vs : List Value} (E : RoadKit.Exa Z h x ST) (V : RoadKit.Fld Z h x ST "value" "[B" (.ref t)) (C : RoadKit.Fld Z h x ST "coder" "B" (.int cd)) (K : RoadKit.Arv Z h t kb .byte N2 vs (.int 0)) (hc : CodA cs cd N2 vs) (hb : ∀ c ∈ cs, ¬ c < 0 ∧ ¬ (65535 : Int32) < c) (l2 : cs.length ≤ 4000)
    {y t' : Addr} {kb' : ClassId} {ds : List Int32} {cd' N2' : Int32} {vs' : List Value} (E' : RoadKit.Exa Z h y ST) (V' : RoadKit.Fld Z h y ST "value" "[B" (.ref t')) (C' : RoadKit.Fld Z h y ST "coder" "B" (.int cd')) (K' : RoadKit.Arv Z h t' kb' .byte N2' vs' (.int 0)) (hc' : CodA ds cd' N2' vs') (hb' : ∀ c ∈ ds, ¬ c < 0 ∧ ¬ (65535 : Int32) < c) (l2' : ds.length ≤ 4000)
    {z : Int32} (S : RoadKit.Sta Z h ST "COMPACT_STRINGS" "Z" (.int z)) (hz : ¬ z = 0) (hfr : 2 ≤ R.frames) (hlo : W + 28 ≤ R.locals) :
    Back l R p e below s args (⟨"java/lang/String", "equals", "(Ljava/lang/Object;)Z"⟩ : MethodName) len W (fun P a => a = #[.ref x, .ref y] ∧ P.U.heap = h ∧ P.cells + 0 ≤ R.cells ∧ P.slots + 0 ≤ R.slots)
      (fun P _ v B => ∃ L, (((v = some (.int 1) ∧ cs = ds) ∨ (v = some (.int 0) ∧ ¬ cs = ds)) ∧ L = [] ∧ B.U.heap = h) ∧ B.locs = P.locs ++ L ∧ B.cells = P.cells + 0 ∧ B.slots = P.slots + 0) := by
  intro m meth c P g ig mk a X hg hsize hdg hW hn hp'
  obtain ⟨rfl, rfl, r1, r2⟩ := hp'
  have al : Z.vm.Alike P.U.vm := hZ.alike.trans X.warmed.alike
  obtain ⟨A, hx⟩ := txt_of wi al E V C K hc hb l2
  obtain ⟨A', hy⟩ := txt_of wi al E' V' C' K' hc' hb' l2'
  obtain ⟨v, B, X', ⟨⟨w, hv, hh, hq⟩, hl, hk, hs⟩, st⟩ := SEq.pays x t A cd cs.length (fun j => cs.getD j 0) y t' A' cd' ds.length (fun j => ds.getD j 0) z (tabEq_of (movedEq hZ hw)) hfr hlo m meth c P g ig mk _ X hg hsize hdg hW hn ⟨r1, r2, rfl, hx, hy, sta_is al S, hz⟩
  refine ⟨v, B, X', ⟨[], ⟨?_, rfl, hh⟩, hl, hk, hs⟩, st⟩
  rcases hq with ⟨rfl, q⟩ | ⟨rfl, q⟩
  · exact Or.inl ⟨hv, (same_list cs ds).mp q⟩
  · exact Or.inr ⟨hv, fun e => q ((same_list cs ds).mpr e)⟩
end StrChars.Road
namespace StrChars.Road
open Jvm Sem ClassFile Op Lib Jvm.Stand Jvm.Free Jvm.Free.XT
open Jvm.Lib.Cold (StaticIs)
/-- what backV says of its String, as the contracts of this text ask it: cs's low bytes, coder 0 -/
theorem codOf {cs : List Int32} {n : Nat} (hn : cs.length = n) (hb : ∀ c ∈ cs, ¬ 255 < c) : CodA cs 0 (Int32.ofNat n) ((cs.map lo8).map Value.int) := Or.inl ⟨rfl, by rw [hn], by simp [List.map_map, Function.comp_def], hb⟩
end StrChars.Road
end Jvm.Pilot.@@N@@
@@BLOCK:TracedD.lean.txt@@
namespace Jvm.Pilot.@@N@@
open Jvm Jvm.ClassFile Sem Op Lib Jvm.Free Jvm.Stand Jvm.LawKit Jvm.RoadKit Bundle Jvm.Pilot.@@N@@.Jvm.D
def own_Str (Z : State) (h : Heap) (x t : Addr) (cs : List Int32) : Prop := Exa Z h x "java/lang/String" ∧ Fld Z h x "java/lang/String" "coder" "B" (.int (0 : Int32)) ∧ Fld Z h x "java/lang/String" "value" "[B" (.ref t) ∧ (∃ kb : ClassId, Arv Z h t kb .byte (Int32.ofNat cs.length) ((cs.map fun c => c.toInt8.toInt32).map Value.int) (.int (0 : Int32))) ∧ (∀ c ∈ cs, ¬ c < 0 ∧ ¬ (255 : Int32) < c) ∧ cs.length ≤ 4000
section OwnStr
variable {Z : State} {h h' : Heap} {x t a : Addr} {cs ds : List Int32} {sl : Nat} {v : Value} {ws : List Addr}
theorem own_Str.ext (F : own_Str Z h x t cs) (E : Ext h h') : own_Str Z h' x t cs := by obtain ⟨h1, h2, h3, ⟨kb, h4⟩, r⟩ := F; exact ⟨h1.ext E, h2.ext E, h3.ext E, ⟨kb, h4.ext E⟩, r⟩
theorem own_Str.keep (F : own_Str Z h x t cs) (K : Keep h h' ws) (q1 : x ∉ ws) (q2 : t ∉ ws) : own_Str Z h' x t cs := by obtain ⟨h1, h2, h3, ⟨kb, h4⟩, r⟩ := F; exact ⟨h1.keep K, h2.keep K q1, h3.keep K q1, ⟨kb, h4.keep K q2⟩, r⟩
theorem own_Str.other (F : own_Str Z h x t cs) (W : Wr h h' a sl v) (q1 : x ≠ a) (q2 : t ≠ a) : own_Str Z h' x t cs := F.keep (Keep.of_wr W) (ninS q1 nin0) (ninS q2 nin0)
theorem own_Str.lt (F : own_Str Z h x t cs) : x < h.size := F.1.lt
theorem own_Str.lt2 (F : own_Str Z h x t cs) : t < h.size := by obtain ⟨kb, h4⟩ := F.2.2.2.1; exact h4.lt
theorem own_Str.ne1 {C : String} (F : own_Str Z h x t cs) (E : Exa Z h a C) (hC : C ≠ "java/lang/String") : x ≠ a := Exa.ne F.1 E (Ne.symm hC)
theorem own_Str.ne2 {C : String} {a0 : Array Value} {n : Nat} (F : own_Str Z h x t cs) (E : Exa Z h a C) (wi : (Cond.instantiable C n).before a0 Z = true) : t ≠ a := by obtain ⟨kb, K⟩ := F.2.2.2.1; exact Ne.symm (Exa.neArv E K wi)
theorem own_Str.up (F : own_Str Z h x t cs) : ∀ c ∈ cs, ¬ c < 0 ∧ ¬ (65535 : Int32) < c := fun c hc => ⟨(F.2.2.2.2.1 c hc).1, fun q => (F.2.2.2.2.1 c hc).2 (by rw [Int32.lt_iff_toInt_lt] at q ⊢; have e1 : (65535 : Int32).toInt = 65535 := rfl; have e2 : (255 : Int32).toInt = 255 := rfl; omega)⟩
theorem own_Str.cod (F : own_Str Z h x t cs) : StrChars.Road.CodA cs 0 (Int32.ofNat cs.length) ((cs.map (fun c => c.toInt8.toInt32)).map Value.int) := StrChars.Road.codOf rfl (fun c hc => (F.2.2.2.2.1 c hc).2)
end OwnStr
section OwnBack
variable {p : Program} {l : Launch} {e : Env} {R : Room} {s : State} {args : Array Value} {below : List Frame} {len W : Nat} {Z : State} {a0 : Array Value} {h : Heap} {x t x' t' : Addr} {cs ds : List Int32} {G1 : Int32} {n0 : Nat}
theorem own_lenB (hZ : Z.Warmed39 s.vm) (hw : ∀ d ∈ tables_1, d.before a0 Z = true) (F : own_Str Z h x t cs) (O2 : Sta Z Z.heap "java/lang/String" "COMPACT_STRINGS" "Z" (.int G1)) (P5 : ¬ (G1 = (0 : Int32))) (X : Old Z n0 h) (hfr : 2 ≤ R.frames) (hlo : W + 25 ≤ R.locals) :
    Back l R p e below s args (⟨"java/lang/String", "length", "()I"⟩ : MethodName) len W (fun P a => a = #[.ref x] ∧ P.U.heap = h ∧ P.cells + 0 ≤ R.cells ∧ P.slots + 0 ≤ R.slots) (fun P _ v B => ∃ L, (v = some (.int (Int32.ofNat cs.length)) ∧ L = [] ∧ B.U.heap = h) ∧ B.locs = P.locs ++ L ∧ B.cells = P.cells + 0 ∧ B.slots = P.slots + 0) := by
  obtain ⟨kb, K⟩ := F.2.2.2.1
  exact StrChars.Road.lenW hZ (fun d hd => hw d ((by decide +kernel : ∀ d ∈ StrChars.Road.wordsLen, d ∈ tables_1) d hd)) (kI := 4) (hw _ (List.mem_of_getElem? (i := 1) rfl)) F.1 F.2.2.1 F.2.1 K F.cod F.up (O2.ext X.2) P5 F.2.2.2.2.2 hfr hlo
theorem own_eqB (hZ : Z.Warmed39 s.vm) (hw : ∀ d ∈ tables_1, d.before a0 Z = true) (F : own_Str Z h x t cs) (F' : own_Str Z h x' t' cs) (O2 : Sta Z Z.heap "java/lang/String" "COMPACT_STRINGS" "Z" (.int G1)) (P5 : ¬ (G1 = (0 : Int32))) (X : Old Z n0 h) (hfr : 2 ≤ R.frames) (hlo : W + 28 ≤ R.locals) :
    Back l R p e below s args (⟨"java/lang/String", "equals", "(Ljava/lang/Object;)Z"⟩ : MethodName) len W (fun P a => a = #[.ref x, .ref x'] ∧ P.U.heap = h ∧ P.cells + 0 ≤ R.cells ∧ P.slots + 0 ≤ R.slots) (fun P _ v B => ∃ L, (v = some (.int 1) ∧ L = [] ∧ B.U.heap = h) ∧ B.locs = P.locs ++ L ∧ B.cells = P.cells + 0 ∧ B.slots = P.slots + 0) := by
  obtain ⟨kb, K⟩ := F.2.2.2.1
  obtain ⟨kb', K'⟩ := F'.2.2.2.1
  refine Back.mono (StrChars.Road.eqW hZ (fun d hd => hw d ((by decide +kernel : ∀ d ∈ StrChars.Road.wordsEq, d ∈ tables_1) d hd)) (kI := 4) (hw _ (List.mem_of_getElem? (i := 1) rfl)) F.1 F.2.2.1 F.2.1 K F.cod F.up F.2.2.2.2.2 F'.1 F'.2.2.1 F'.2.1 K' F'.cod F'.up F'.2.2.2.2.2 (O2.ext X.2) P5 hfr hlo) (fun P a hp => hp) (fun P a v B hp hq => ?_)
  obtain ⟨L, ⟨⟨hv, -⟩ | ⟨-, hne⟩, h2, h3⟩, h4⟩ := hq
  · exact ⟨L, ⟨hv, h2, h3⟩, h4⟩
  · exact absurd rfl hne
theorem own_newB {b : Addr} {kC : ClassId} {N : Int32} {d v0 c0 : Value} (hZ : Z.Warmed39 s.vm) (hw : ∀ d ∈ tables_1, d.before a0 Z = true) (hx0 : n0 ≤ x) (hh0 : n0 ≤ h.size) (E : Exa Z h x "java/lang/String") (V : Fld Z h x "java/lang/String" "value" "[B" v0) (C : Fld Z h x "java/lang/String" "coder" "B" c0) (K : Arv Z h b kC .char N (cs.map Value.int) d) (O2 : Sta Z Z.heap "java/lang/String" "COMPACT_STRINGS" "Z" (.int G1)) (P5 : ¬ (G1 = (0 : Int32))) (X : Old Z n0 h)
    {n : Nat} (hn : cs.length = n) (hN : N = Int32.ofNat n) (l0 : 0 < n) (l2 : n ≤ 4000) (hp : ∀ c ∈ cs, ¬ c < 0 ∧ ¬ (255 : Int32) < c) (hfr : 4 ≤ R.frames) (hlo : W + 65 ≤ R.locals) :
    Back l R p e below s args (⟨"java/lang/String", "<init>", "([C)V"⟩ : MethodName) len W (fun P a => a = #[.ref x, .ref b] ∧ P.U.heap = h ∧ P.cells + 1 ≤ R.cells ∧ P.slots + n ≤ R.slots)
      (fun P _ v B => ∃ L, (∃ t : Addr, v = none ∧ Fr n0 L ∧ Keep h B.U.heap [x] ∧ h.size ≤ t ∧ own_Str Z B.U.heap x t cs) ∧ B.locs = P.locs ++ L ∧ B.cells = P.cells + 1 ∧ B.slots = P.slots + n) := by
  subst hn
  refine Back.mono (StrChars.Road.backV hZ (fun d hd => hw d ((by decide +kernel : ∀ d ∈ StrChars.Road.words, d ∈ tables_1) d hd)) (kI := 4) (hw _ (List.mem_of_getElem? (i := 1) rfl)) (cs := cs) (bs := cs.map (fun c => c.toInt8.toInt32)) (n := cs.length) hx0 hh0 E V C K (O2.ext X.2) P5 rfl hN l0 l2 hp rfl hfr hlo) (fun P a hp => hp) (fun P a v B hpp hq => ?_)
  obtain ⟨L, ⟨q1, q2, q3, q4, q5, t, kb, q6, q7, q8, q9, q10⟩, hl, hc, hs⟩ := hq
  subst hN
  exact ⟨L, ⟨t, q1, q2, q3, q7, q4, q5, q9, ⟨kb, q10⟩, hp, l2⟩, hl, hc, hs⟩
end OwnBack
def own_by (cs : List Int32) : List Value := (cs.map fun c => c.toInt8.toInt32).map Value.int
def own_pad (cs : List Int32) (cap : Nat) : List Value := own_by cs ++ List.replicate (cap - cs.length) (.int (0 : Int32))
theorem own_by_len (cs : List Int32) : (own_by cs).length = cs.length := by simp [own_by]
theorem own_by_app (cs ds : List Int32) : own_by (cs ++ ds) = own_by cs ++ own_by ds := by simp [own_by]
theorem own_pad_len {cs : List Int32} {cap : Nat} (h : cs.length ≤ cap) : (own_pad cs cap).length = cap := by simp [own_pad, own_by_len]; omega
theorem own_tn {n : Nat} (h : n ≤ 4000) : (Int32.ofNat n).toNatClampNeg = n := by
  have e : (Int32.ofNat n).toInt = n := Int32.toInt_ofNat_of_lt (by omega)
  simp [Int32.toNatClampNeg, e]
theorem own_nn {n : Nat} (h : n ≤ 4000) : ¬ (Int32.ofNat n) < 0 := by
  have e : (Int32.ofNat n).toInt = n := Int32.toInt_ofNat_of_lt (by omega)
  rw [Int32.lt_iff_toInt_lt, e]; have : (0 : Int32).toInt = 0 := rfl; omega
theorem own_ltn {a b : Nat} (hb : b ≤ 4000) (h : a < b) : (Int32.ofNat a) < (Int32.ofNat b) := by
  have e : (Int32.ofNat a).toInt = a := Int32.toInt_ofNat_of_lt (by omega)
  have e2 : (Int32.ofNat b).toInt = b := Int32.toInt_ofNat_of_lt (by omega)
  rw [Int32.lt_iff_toInt_lt, e, e2]; omega
theorem own_nlt {a b : Nat} (hb : a ≤ 4000) (h : b ≤ a) : ¬ (Int32.ofNat a) < (Int32.ofNat b) := by
  have e : (Int32.ofNat a).toInt = a := Int32.toInt_ofNat_of_lt (by omega)
  have e2 : (Int32.ofNat b).toInt = b := Int32.toInt_ofNat_of_lt (by omega)
  rw [Int32.lt_iff_toInt_lt, e, e2]; omega
theorem own_nen {a b : Nat} (hb : b ≤ 4000) (h : a < b) : ¬ (Int32.ofNat a) = (Int32.ofNat b) := fun q => by
  have := own_ltn hb h; rw [q] at this; exact absurd this (Int32.lt_irrefl)
theorem own_addn (a b : Nat) : Int32.ofNat a + Int32.ofNat b = Int32.ofNat (a + b) := (Int32.ofNat_add a b).symm
theorem own_addl (cs ds : List Int32) : Int32.ofNat cs.length + Int32.ofNat ds.length = Int32.ofNat (cs ++ ds).length := by rw [own_addn, List.length_append]
theorem own_shl0 (x : Int32) : x <<< ((0 : Int32) &&& 31) = x := by
  have e : ((0 : Int32) &&& 31) = 0 := rfl
  rw [e]; apply Int32.toBitVec_inj.mp; simp
theorem own_shr0 (x : Int32) : x >>> ((0 : Int32) &&& 31) = x := by
  have e : ((0 : Int32) &&& 31) = 0 := rfl
  rw [e]; apply Int32.toBitVec_inj.mp; simp
theorem own_sub0 (x : Int32) : x - 0 = x := by simp
theorem own_le {a b : Nat} (hb : b ≤ 4000) (h : a ≤ b) : ¬ (0 : Int32) < (Int32.ofNat a - Int32.ofNat b) := by
  have e : (Int32.ofNat a).toInt = a := Int32.toInt_ofNat_of_lt (by omega)
  have e2 : (Int32.ofNat b).toInt = b := Int32.toInt_ofNat_of_lt (by omega)
  rw [Int32.lt_iff_toInt_lt, Int32.toInt_sub, e, e2, Int.bmod_eq_of_le (by omega) (by omega)]
  have : (0 : Int32).toInt = 0 := rfl
  omega
theorem own_h4 (z : Int32) : (0 : Int32).toNatClampNeg + z.toNatClampNeg ≤ z.toNatClampNeg := Nat.le_of_eq (Nat.zero_add _)
theorem own_h5 {a b c : Nat} (h : a + b ≤ c) (hc : c ≤ 4000) : (Int32.ofNat a).toNatClampNeg + (Int32.ofNat b).toNatClampNeg ≤ (Int32.ofNat c).toNatClampNeg := by
  rw [own_tn (by omega), own_tn (by omega), own_tn hc]; exact h
theorem own_h50 {b c : Nat} (h : b ≤ c) (hc : c ≤ 4000) : (0 : Int32).toNatClampNeg + (Int32.ofNat b).toNatClampNeg ≤ (Int32.ofNat c).toNatClampNeg := own_h5 (a := 0) (by omega) hc
theorem own_rng (vs : List Value) (dv : Value) (n : Nat) (h : n ≤ vs.length) : (List.range n).map (fun i => vs.getD (0 + i) dv) = vs.take n := by
  apply List.ext_getElem?
  intro i
  by_cases hi : i < n
  · have : i < vs.length := by omega
    simp [List.getElem?_take, hi, List.getD_eq_getElem?_getD, List.getElem?_eq_getElem this]
  · simp [List.getElem?_take, hi]
theorem own_us {ds : List Int32} (dv : Value) (h : ds.length ≤ 4000) : own_by ds = (List.range (Int32.ofNat ds.length).toNatClampNeg).map fun i => (own_by ds).getD ((0 : Int32).toNatClampNeg + i) dv := by
  rw [own_tn h]
  have e := own_rng (own_by ds) dv ds.length (by rw [own_by_len]; omega)
  rw [show ((0 : Int32).toNatClampNeg) = 0 from rfl, e, ← own_by_len ds, List.take_length]
theorem own_us2 {ds : List Int32} {cap : Nat} (dv : Value) (h : ds.length ≤ 4000) : own_by ds = (List.range (Int32.ofNat ds.length).toNatClampNeg).map fun i => (own_pad ds cap).getD ((0 : Int32).toNatClampNeg + i) dv := by
  rw [own_tn h]
  have e := own_rng (own_pad ds cap) dv ds.length (by simp [own_pad, own_by_len])
  rw [show ((0 : Int32).toNatClampNeg) = 0 from rfl, e, own_pad, ← own_by_len ds, List.take_left]
theorem own_hl {es ds : List Int32} {cap : Nat} (h : es.length + ds.length ≤ cap) (hc : cap ≤ 4000) : (Int32.ofNat es.length).toNatClampNeg + (Int32.ofNat ds.length).toNatClampNeg ≤ (own_pad es cap).length := by
  rw [own_tn (by omega), own_tn (by omega), own_pad_len (by omega)]; exact h
theorem own_cat {es ds : List Int32} {cap : Nat} (h : es.length + ds.length ≤ cap) (hc : cap ≤ 4000) : (own_pad es cap).take (Int32.ofNat es.length).toNatClampNeg ++ own_by ds ++ (own_pad es cap).drop ((Int32.ofNat es.length).toNatClampNeg + (Int32.ofNat ds.length).toNatClampNeg) = own_pad (es ++ ds) cap := by
  rw [own_tn (by omega), own_tn (by omega)]
  simp only [own_pad, own_by_app, List.length_append]
  rw [List.take_left' (own_by_len es), List.drop_append, own_by_len]
  rw [List.drop_eq_nil_of_le (by rw [own_by_len]; omega)]
  simp only [List.nil_append, List.drop_replicate]
  have e : cap - es.length - (es.length + ds.length - es.length) = cap - (es.length + ds.length) := by omega
  rw [e]
theorem own_cat0 {ds : List Int32} (h : ds.length ≤ 4000) (d : Value) : (List.replicate ds.length d).take (0 : Int32).toNatClampNeg ++ own_by ds ++ (List.replicate ds.length d).drop ((0 : Int32).toNatClampNeg + (Int32.ofNat ds.length).toNatClampNeg) = own_by ds := by
  rw [own_tn h, show ((0 : Int32).toNatClampNeg) = 0 from rfl]
  simp
theorem own_hl0 {ds : List Int32} (h : ds.length ≤ 4000) (d : Value) : (0 : Int32).toNatClampNeg + (Int32.ofNat ds.length).toNatClampNeg ≤ (List.replicate ds.length d).length := by
  rw [own_tn h, show ((0 : Int32).toNatClampNeg) = 0 from rfl]; simp
theorem own_g (ds : List Int32) {n : Nat} (h : ds.length = n) : Int32.ofNat ([] : List Int32).length + Int32.ofNat ds.length = Int32.ofNat n := by rw [own_addn, ← h]; simp
theorem own_safe0 {Z : State} {EL : List (String × Nat)} {vm : Vm} {h : Heap} {x : Addr} (hal : Z.vm.Alike vm) (E : Exa Z h x "java/lang/String") (F : Fld Z h x "java/lang/String" "value" "[B" .null) : Safe Z EL vm h x := fun B => by
  obtain ⟨p, -, u, a, -, q, -, S, rfl | rfl⟩ := B
  · have e1 := S.ha
    obtain ⟨cS, ⟨⟨-, -, -, ⟨c1, k1, i1, f1, -⟩, -, -, -, v1, -⟩, -⟩, -⟩ := S
    obtain ⟨cell, cf, kf, i, f, g1, g2, g3, g4, g5, g6, g7⟩ := F
    cases (show h[q.sa]? = some q.sC from e1).symm.trans g1
    obtain ⟨k3, e3, -⟩ := State.fieldFound?_setVm (s := Z) hal g2
    have e4 := (show (Wst Z vm h).fieldFound? _ _ _ = _ from e3).symm.trans f1
    simp only [Option.some.injEq, Prod.mk.injEq] at e4
    rw [← e4.2.2.2, g7] at v1
    simp at v1
  · obtain ⟨cell, k, e1, e2, e3, -, -⟩ := E
    cases (show h[q.sd]? = some q.SA from S.hd).symm.trans e1
    obtain ⟨cS, -, -, f, -⟩ := S
    have f' : Z.vm.findClass "[B" = some q.SA.cls := by rw [← hal.findClass]; exact f
    obtain ⟨k1, q1, q2⟩ := Vm.findClass_spec f'
    obtain ⟨k2, q3, q4⟩ := Vm.findClass_spec e2
    cases q1.symm.trans q3
    exact absurd (q2.symm.trans q4) (by decide)
theorem own_gcB {p : Program} {l : Launch} {e : Env} {R : Room} {s : State} {args : Array Value} {below : List Frame} {len W : Nat} {Z : State} {a0 : Array Value} {h : Heap} {a : Addr} (hZ : Z.Warmed39 s.vm) (wc : (Cond.codeSync Jvm.RoadKit.gcN gcB 1 (some (.object tN))).before a0 Z = true) (wi : (Cond.instanceMethod Jvm.RoadKit.gcN).before a0 Z = true) (wz : (Cond.initialized tN).before a0 Z = true) (wf : (Cond.fieldLink tN 7 tN "cause" Jvm.Free.Exc.thD).before a0 Z = true)
    (N : Unt h a) (F : Fld Z h a tN "cause" Jvm.Free.Exc.thD (.ref a)) (hf : 1 ≤ R.frames) (hl : W + 12 ≤ R.locals) :
    Back l R p e below s args (⟨"java/lang/Throwable", "getCause", "()Ljava/lang/Throwable;"⟩ : MethodName) len W (fun P as => as = #[.ref a] ∧ P.U.heap = h ∧ P.cells + 0 ≤ R.cells ∧ P.slots + 0 ≤ R.slots)
      (fun P _ v B => ∃ L, (v = some .null ∧ L = [] ∧ B.U.heap = h) ∧ B.locs = P.locs ++ L ∧ B.cells = P.cells + 0 ∧ B.slots = P.slots + 0) := by
  refine Back.mono (gcBackPure (rm := { frames := 0, cells := 0, slots := 0, locals := 0 }) hZ wc wi wz wf N F rfl hf hl) (fun P a hp => hp) (fun P as v B hp hq => ?_)
  obtain ⟨h1, h2, h3, h4, h5⟩ := hq
  rw [gcv_self] at h1
  exact ⟨[], ⟨h1, rfl, h2⟩, by rw [List.append_nil]; exact h3, h4, h5⟩
section OwnFill
open LibCode.Throwable Jvm.Free.Exc
def own_ws (rc : String) : List Cond := [.native tFill0, .initialized tN, .superclass tN "java/lang/Object", .instanceMethod tFill, .codeSync tFill Fill.code 1 (some (.object tN)), .instanceMethod tFill0, .instanceMethod oInit, .code oInit ⟨#[0xb1]⟩ 1 none,
  .methodLink tN 1 oInit, .methodLink tN 27 tFill, .methodLink tN 202 tFill0, .fieldLink tN 7 tN "cause" thD, .fieldLink tN 17 tN "stackTrace" steD, .fieldLink tN 24 tN "suppressedExceptions" listD, .fieldLink tN 13 tN "UNASSIGNED_STACK" steD, .fieldLink tN 20 tN "SUPPRESSED_SENTINEL" listD,
  .laysStatic tN "UNASSIGNED_STACK" steD, .laysStatic tN "SUPPRESSED_SENTINEL" listD, .lays rc tN "cause" thD, .lays rc tN "stackTrace" steD, .lays rc tN "suppressedExceptions" listD, .lays rc tN "detailMessage" msgD, .lays rc tN "backtrace" obD, .lays rc tN "depth" "I",
  .fieldLink tN 198 tN "backtrace" obD, .arrayOver (.object "java/lang/Object"), .soleField tN "backtrace", .soleField tN "depth", .selects rc tFill0 tFill0]
theorem own_ws_ok (rc : String) : (own_ws rc).all xOk = true := rfl
theorem own_par {d : String} {sg : MethodDescriptor} {ps : List FieldType} {r : Option FieldType} (h : parseMethodDescriptor d = some sg) (h' : parseMethodDescriptor d = some ⟨ps, r⟩) : sg.parameters = ps := by
  rw [h'] at h; rw [← Option.some.inj h]
/-- the tables of Throwable, out of the words (each field's place by the word on rc) -/
theorem own_TC {args : Array Value} {s : State} {pl : Platform} {rc : String} {cX : ClassId} {kX : Class} (howns : pl.frameOwnsMonitors = true) (hfin : pl.finalization = false) (hpl : pl.magicAccessors = ({} : Platform).magicAccessors)
    (W : ∀ d ∈ own_ws rc, d.before args s = true) (hX : s.vm.findClass rc = some cX) (hkX : s.vm.classes[cX]? = some kX) :
    ∃ T : ThrowableC, T.Links pl s ∧ s.vm.findClass tN = some T.cT ∧ s.methodNamed? tFill = some T.fill ∧ s.methodNamed? tFill0 = some T.fill0 ∧ s.fieldFound? tN "stackTrace" steD = some (T.cT, T.kT, T.i17, T.fStack) ∧ T.fStack.type = .array (.object "java/lang/StackTraceElement") ∧ T.fStack.name = "stackTrace" ∧
      s.fieldFound? tN "UNASSIGNED_STACK" steD = some (T.cT, T.kT, T.i13, T.fUnassigned) := by
  have w : ∀ (i : Nat) {d : Cond}, (own_ws rc)[i]? = some d → d.before args s = true := fun i d h => W d (List.mem_of_getElem? h)
  obtain ⟨⟨c, i0⟩, m0, n0, r0, x1, x2, x3, x4⟩ := Cond.native_spec (w 0 rfl)
  have hc : s.vm.findClass tN = some c := findClass_of_methodNamed n0
  obtain ⟨k, hk, hname⟩ := Vm.findClass_spec hc
  obtain ⟨_, k', _, _, hk', _, _, -, -, hni⟩ := Cond.superclass_spec hc (w 2 rfl)
  cases hk.symm.trans hk'
  obtain ⟨iF, mF, nF, rF, aF, sF, bF, -, -⟩ := Cond.ownMethod (x := tFill) hc hk (w 3 rfl)
  obtain ⟨_, cF, rF', y1, y2, y3, y4, y5, -, y6⟩ := Cond.codeSync_spec nF (w 4 rfl)
  cases rF.symm.trans rF'
  obtain ⟨j0, m0', n0', r0', a0, s0, b0, e0, f0⟩ := Cond.ownMethod (x := tFill0) hc hk (w 5 rfl)
  cases n0.symm.trans n0'
  cases r0.symm.trans r0'
  obtain ⟨mo, mO, nO, rO, sO, bO⟩ := Cond.instanceMethod_spec (w 6 rfl)
  obtain ⟨_, cO, rO', z1, z2, z3, -, z4, -, z5⟩ := Cond.code_spec nO (w 7 rfl)
  cases rO.symm.trans rO'
  obtain ⟨kO, hkO, nmO⟩ := Vm.findClass_spec (findClass_of_methodNamed nO)
  obtain ⟨u1, u2⟩ := name_of_methodNamed nO rO
  obtain ⟨c1, t1, cf, l1, g1, hcf, p1⟩ := Cond.linkedMethod hc hk nO (w 8 rfl) pl hpl
  obtain ⟨c27, t27, cf', l27, g27, hcf', p27⟩ := Cond.linkedMethod hc hk nF (w 9 rfl) pl hpl
  cases hcf.symm.trans hcf'
  obtain ⟨c202, t202, cf', l202, g202, hcf', p202⟩ := Cond.linkedMethod hc hk n0 (w 10 rfl) pl hpl
  cases hcf.symm.trans hcf'
  obtain ⟨c7, i7, f7, l7, g7, a7, s7, v7, -, -, -⟩ := Cond.ownField (t := .object tN) hc hk (by decide +kernel) (w 11 rfl) (w 18 rfl) pl hpl
  obtain ⟨c17, i17, f17, l17, g17, a17, s17, v17, q17, y17, d17⟩ := Cond.ownField (t := .array (.object "java/lang/StackTraceElement")) hc hk (by decide +kernel) (w 12 rfl) (w 19 rfl) pl hpl
  obtain ⟨c24, i24, f24, l24, g24, a24, s24, v24, q24, -, d24⟩ := Cond.ownField (t := .object "java/util/List") hc hk (by decide +kernel) (w 13 rfl) (w 20 rfl) pl hpl
  obtain ⟨c13, i13, f13, st, cell, l13, g13, a13, s13, -, -, hst, -, -, -, -, d13⟩ := Cond.ownStatic (t := .array (.object "java/lang/StackTraceElement")) hc hk (by decide +kernel) (w 14 rfl) (w 16 rfl) pl hpl
  obtain ⟨c20, i20, f20, _, _, l20, g20, a20, s20, -⟩ := Cond.ownStatic (t := .object "java/util/List") hc hk (by decide +kernel) (w 15 rfl) (w 17 rfl) pl hpl
  obtain ⟨_, _, _, _, _, fM, _, _, _, sM, vM, _⟩ := Cond.lays_spec (w 21 rfl)
  have apart : f17.slot ≠ f24.slot := by
    obtain ⟨-, d1, h1, h2⟩ := Cond.laysAt hX hkX d17 (w 19 rfl)
    obtain ⟨-, d2, h3, h4⟩ := Cond.laysAt hX hkX d24 (w 20 rfl)
    exact Cond.laysApart h1 h3 h2 h4 (by rw [q17, q24]; decide)
  let T : ThrowableC := { cT := c, kT := k, cO := c, aS := st, fillIdx := iF, fill0Idx := i0, initSIdx := iF, obj := mo, kObj := kO, methFill := mF, methFill0 := m0, methInitS := mF, methObj := mO, codeFill := cF, codeInitS := cF, codeObj := cO, fBack := f7, fDepth := f7, fStack := f17, fCause := f7, fSupp := f24, fMsg := fM, fUnassigned := f13, fSentinel := f20, cfT := cf, ci1 := c1, n1 := t1, ci27 := c27, n27 := t27, ci202 := c202, n202 := t202, ci7 := c7, i7 := i7, ci13 := c13, i13 := i13, ci17 := c17, i17 := i17, ci20 := c20, i20 := i20, ci24 := c24, i24 := i24 }
  refine ⟨T, ?_, hc, nF, n0, d17, y17, q17, d13⟩
  constructor <;> first | assumption | exact Vm.findClass_boot hc hk | exact Cond.initialized_spec hc hk (w 1 rfl) | exact own_par y6 (r := some (.object tN)) (by decide +kernel) | exact own_par x4 (r := some (.object tN)) (by decide +kernel) | (show mO.sig.parameters.length = 0; rw [own_par z5 (ps := []) (r := none) (by decide +kernel)]; rfl) | (show lookupSpecial s.vm mo.cls "<init>" mO.desc = .method mo; rw [u2]; exact lookupSpecial_of_named nO rO sO)
def own_F (Z : State) (h h' : Heap) (a : Addr) : Prop := ∃ c c' : Cell, h[a]? = some c ∧ h'[a]? = some c' ∧ c'.cls = c.cls ∧ c'.vm = c.vm ∧ c'.slots.size = c.slots.size ∧ ∀ i, i ≠ Jvm.RoadKit.slotOf Z tN "backtrace" obD → i ≠ Jvm.RoadKit.slotOf Z tN "depth" "I" → i ≠ Jvm.RoadKit.slotOf Z tN "stackTrace" steD → c'.slots[i]? = c.slots[i]?
theorem own_F.exa {Z : State} {h h' : Heap} {a : Addr} {C : String} (F : own_F Z h h' a) (E : Exa Z h a C) : Exa Z h' a C := by
  obtain ⟨c, c', h1, h2, h3, h4, h5, -⟩ := F
  obtain ⟨cell, k, e1, e2, e3, e4, e5⟩ := E
  cases h1.symm.trans e1
  exact ⟨c', k, h2, by rw [h3]; exact e2, by rw [h3]; exact e3, by rw [h4]; exact e4, by rw [h5]; exact e5⟩
theorem own_F.fld {Z : State} {h h' : Heap} {a : Addr} {C n d : String} {v : Value} (F : own_F Z h h' a) (L : Fld Z h a C n d v) (q1 : Jvm.RoadKit.slotOf Z C n d ≠ Jvm.RoadKit.slotOf Z tN "backtrace" obD) (q2 : Jvm.RoadKit.slotOf Z C n d ≠ Jvm.RoadKit.slotOf Z tN "depth" "I") (q3 : Jvm.RoadKit.slotOf Z C n d ≠ Jvm.RoadKit.slotOf Z tN "stackTrace" steD) : Fld Z h' a C n d v := by
  obtain ⟨c, c', h1, h2, h3, h4, -, h6⟩ := F
  obtain ⟨cell, cf, k, i, f, e1, e2, e3, e4, e5, e6, e7⟩ := L
  cases h1.symm.trans e1
  have es : Jvm.RoadKit.slotOf Z C n d = f.slot := by simp [Jvm.RoadKit.slotOf, e2]
  rw [es] at q1 q2 q3
  exact ⟨c', cf, k, i, f, h2, e2, e3, by rw [h4]; exact e4, by rw [h4]; exact e5, by rw [h3]; exact e6, by rw [h6 _ q1 q2 q3]; exact e7⟩
theorem own_slot {Z s : State} (hZ : Z.Warmed39 s.vm) {C n d : String} {c i : Nat} {k : Class} {f : Field} (h : s.fieldFound? C n d = some (c, k, i, f)) : Jvm.RoadKit.slotOf Z C n d = f.slot := by
  obtain ⟨c', k', i', h'⟩ := Jvm.Free.BdW.found_ride (U := s) (U' := Z) hZ.alike.symm ⟨c, k, i, h⟩
  simp [Jvm.RoadKit.slotOf, h']
/-- Throwable.fillInStackTrace() on an object of class rc that the walk has made -/
theorem own_fillB {p : Program} {l : Launch} {e : Env} {R : Room} {s : State} {args : Array Value} {below : List Frame} {len W n : Nat} {Z : State} {a0 : Array Value} {h : Heap} {a : Addr} {rc : String} {u : Value} (hx : p.tables.exec = Jvm.exec) (hadm : l.admits e) (hl : l.stackTraces = true) (hZ : Z.Warmed39 s.vm)
    (ws : ∀ d ∈ own_ws rc, d.before args s = true) (wi : (Cond.instantiable rc n).before a0 Z = true) (E : Exa Z h a rc) (N : Unt h a) (FS : Fld Z h a tN "stackTrace" steD u) (hu : u.isRef = true) (FB : Fld Z h a tN "backtrace" obD .null) (SU : Sta Z h tN "UNASSIGNED_STACK" steD u)
    (hTK : s.vm.MethodsKnown) (hBelow : s.vm.FramesKnown below) (hf : 3 ≤ R.frames) (hlo : W + 42 ≤ R.locals) :
    Back l R p e below s args tFill len W (fun A as => as = #[.ref a] ∧ A.U.heap = h ∧ A.cells + 1 ≤ R.cells ∧ A.slots + 2752 ≤ R.slots)
      (fun A _ v B => v = some (.ref a) ∧ own_F Z h B.U.heap a ∧ ∃ (L : List Loc) (n : Nat), n ≤ 2752 ∧ (∀ x ∈ L, x.base = a) ∧ B.locs = A.locs ++ L ∧ B.cells = A.cells + 1 ∧ B.slots = A.slots + n) := by
  have w : ∀ (i : Nat) {d : Cond}, (own_ws rc)[i]? = some d → d.before args s = true := fun i d q => ws d (List.mem_of_getElem? q)
  obtain ⟨cell, kX, e1, e2, e3, e4, e5⟩ := E
  obtain ⟨_, n1, n2, n3⟩ := N
  cases e1.symm.trans n1
  have hX : s.vm.findClass rc = some cell.cls := by rw [hZ.alike.findClass]; exact e2
  obtain ⟨kX', hkX, ek⟩ := hZ.alike.2.2 _ _ e3
  have hord : kX'.kind = .ordinary := by
    obtain ⟨c4, k4, i1, i2, i3, -⟩ := Cond.instantiable_spec wi
    cases i1.symm.trans e2
    cases i2.symm.trans e3
    rw [ek]; exact i3
  have hsz : cell.slots.size = kX'.instanceTypes.size := by
    have := e5 (by rw [ek] at hord; exact hord)
    rw [ek]; exact this
  have hpl : e.platform.magicAccessors = ({} : Platform).magicAccessors := by rw [hadm.platform]
  obtain ⟨T, L, tc, tf, tf0, tS, tyS, nS, tU⟩ := own_TC (args := args) (pl := e.platform) (by rw [hadm.platform]) (by rw [hadm.platform]) hpl ws hX hkX
  have tk : ∀ {f : Field} {v : Value}, kX'.instanceTypes[f.slot]? = some f.type → fits f.type v = true → Jvm.Takes s cell f v := fun {f v} q1 q2 => by
    obtain ⟨r1, r2⟩ := Takes.of_laid (v := v) hkX hord q1 q2
    exact ⟨by rw [hsz]; simpa using r1, by rw [n2]; exact r2⟩
  obtain ⟨cB, iB, fB, l198, g198, a198, sB, -, nB, yB, dB⟩ := Cond.ownField (t := .object "java/lang/Object") tc L.cls (by decide +kernel) (w 24 rfl) (w 22 rfl) e.platform hpl
  obtain ⟨_, _, cD, kD, iD, fD, -, -, dD, sD, -⟩ := Cond.lays_spec (w 23 rfl)
  cases Option.some.inj ((Cond.lays_declared (w 23 rfl) dD).symm.trans tc)
  obtain ⟨hkD, aD⟩ := State.fieldFound?_spec dD
  cases Option.some.inj (hkD.symm.trans L.cls)
  obtain ⟨nD, yD⟩ := State.fieldFound?_type dD (t := .int) (by decide +kernel)
  have fb := Cond.soleField_find tc L.cls (w 26 rfl) a198 nB sB
  have fd := Cond.soleField_find tc L.cls (w 27 rfl) aD nD sD
  obtain ⟨comp, cO, kO, -, -, hkO, kindO, hO⟩ := Cond.arrayOver_spec (w 25 rfl)
  have tyB := (Cond.laysAt hX hkX dB (w 22 rfl)).1
  have tyD := (Cond.laysAt hX hkX dD (w 23 rfl)).1
  have tySt := (Cond.laysAt hX hkX tS (w 19 rfl)).1
  have sel0 : selectMethod e.platform s.vm cell.cls T.fill0 = .method T.fill0 := by
    obtain ⟨c2, r2, m2, q1, q2, q3, q4, -⟩ := Cond.selects_spec (w 28 rfl)
    cases Option.some.inj (q1.symm.trans hX)
    cases Option.some.inj (q2.symm.trans (State.methodFound?_of_named tf0 (by decide)))
    cases Option.some.inj (q3.symm.trans tf0)
    rw [Launch.admits_selectMethod hadm]; exact q4
  have rd : ∀ {x : Cell} {v : Value} {F D : String} {c i : Nat} {k : Class} {f : Field}, s.fieldFound? tN F D = some (c, k, i, f) → x.slots[Jvm.RoadKit.slotOf Z tN F D]? = some v → x.slots[f.slot]? = some v := fun {x v F D c i k f} q r => by rw [← own_slot hZ q]; exact r
  have vS : cell.slots[T.fStack.slot]? = some u := by
    obtain ⟨_, _, _, _, f, f1, f2, -, -, -, -, f7⟩ := FS
    cases e1.symm.trans f1
    exact rd tS (by simpa [Jvm.RoadKit.slotOf, f2] using f7)
  have vB : cell.slots[fB.slot]? = some .null := by
    obtain ⟨_, _, _, _, f, f1, f2, -, -, -, -, f7⟩ := FB
    cases e1.symm.trans f1
    exact rd dB (by simpa [Jvm.RoadKit.slotOf, f2] using f7)
  obtain ⟨cf, i, k, f, st, cS, u1, u2, u3, u4, u5, u6, u7⟩ := SU
  have hst : T.aS = st := by
    obtain ⟨k2, q1, q2⟩ := State.fieldFound?_setVm (s := Z) hZ.alike u1
    have q3 := (show s.fieldFound? tN "UNASSIGNED_STACK" steD = _ from (by simpa [State.fieldFound?] using q1)).symm.trans tU
    simp only [Option.some.injEq, Prod.mk.injEq] at q3
    have q4 := L.statics
    rw [← q3.2.1, q2] at q4
    exact (Option.some.inj (u4.symm.trans q4)).symm
  have vU : cS.slots[T.fUnassigned.slot]? = some u := rd tU (by simpa [Jvm.RoadKit.slotOf, u1] using u7)
  have ne : T.aS ≠ a := fun q => by
    rw [hst] at q; subst q
    cases e1.symm.trans u5
    rw [u6] at e4; cases e4
  have bS : Jvm.RoadKit.slotOf Z tN "backtrace" obD = fB.slot := own_slot hZ dB
  have bD : Jvm.RoadKit.slotOf Z tN "depth" "I" = fD.slot := own_slot hZ dD
  have bT : Jvm.RoadKit.slotOf Z tN "stackTrace" steD = T.fStack.slot := own_slot hZ tS
  refine Back.mono (fillPaysAny (l := l) (R := R) (len := len) (W := W) (sargs := args) hx (by rw [hadm.platform]; exact hl) T L tf (u0 := ⟨u, hu⟩) (self := a) (cell := cell) (cellS := cS) (fun _ => by rw [n2]; simp) (by rw [n2]; simp) (by rw [n3]) (by rw [n3]) vS sel0 ne (fun q => by rw [q] at u6; cases u6) vU (tk tySt (by rw [tyS]; exact fits_refV_array _ ⟨u, hu⟩))
    ⟨{ ci198 := cB, i198 := iB, fBack := fB }, ⟨l198, g198, a198, sB⟩, vB⟩ hTK hBelow tc hO hkO kindO fb fd (fun x => tk tyB (by rw [yB]; rfl)) (fun x => tk tyD (by rw [yD]; rfl)) (by omega) (by omega))
    (fun A as hp => ⟨hp.1, hp.2.2.1, hp.2.2.2, by rw [hp.2.1]; exact e1, by rw [hp.2.1, hst]; exact u5⟩) (fun A as v B hp hq => ?_)
  obtain ⟨hv, C, n, hn, q1, q2, q3, q4, q5, q6, q7, q8⟩ := hq
  refine ⟨hv, ⟨cell, C, e1, q1, q2, q3, q4, fun i r1 r2 r3 => q5 i (by rw [← bS]; exact r1) (by rw [← bD]; exact r2) (by rw [← bT]; exact r3)⟩, _, n, hn, ?_, q6, q7, q8⟩
  intro x hx
  simp only [List.mem_cons, List.not_mem_nil, or_false] at hx
  rcases hx with rfl | rfl | rfl <;> rfl
/-- what a frame's end says of the heap, where every place written is of a -/
theorem own_end {s t : State} {L : List Loc} {k n : Nat} {a : Addr} (q : s.sameButNew t L k n) (hL : ∀ x ∈ L, x.base = a) : Keep s.heap t.heap [a] ∧ (Unt s.heap a → Unt t.heap a) := by
  have K := q.2.2.2.2.2
  refine ⟨⟨q.2.1, fun x c hc hx => ?_, fun x c hc => ?_⟩, fun N => ?_⟩
  · obtain ⟨c', h1, h2, h3, h4⟩ := K x c hc
    have : c'.slots = c.slots := Array.ext_getElem? fun i => h4 i fun hm => hx (by rw [← hL _ hm]; exact List.mem_singleton.mpr rfl)
    rw [h1, h2, this]
  · obtain ⟨c', h1, h2, h3, -⟩ := K x c hc
    exact ⟨c', h1, by rw [h2], by rw [h2], h3⟩
  · obtain ⟨c, u1, u2, u3⟩ := N
    obtain ⟨c', h1, h2, -⟩ := K a c u1
    exact ⟨c', h1, by rw [h2]; exact u2, by rw [h2]; exact u3⟩
theorem own_bl {a : Addr} {L : List Loc} (h : ∀ x ∈ L, x.base = a) (i j k n : Nat) : ∀ x ∈ ((((([] : List Loc) ++ [⟨a, i⟩]) ++ [⟨a, j⟩]) ++ [⟨a, k⟩]) ++ L) ++ [⟨a, n⟩], x.base = a := by
  intro x hx
  simp only [List.mem_append, List.mem_singleton, List.not_mem_nil, false_or] at hx
  rcases hx with (((hx | hx) | hx) | hx) | hx
  · rw [hx]
  · rw [hx]
  · rw [hx]
  · exact h x hx
  · rw [hx]
end OwnFill
theorem own_decl {y : MethodName} {a0 : Array Value} {Z : State} {bytes : ByteArray} {mx : Nat} {rt : Option FieldType} (wi : (Cond.instanceMethod y).before a0 Z = true) (wc : (Cond.code y bytes mx rt).before a0 Z = true) : (Cond.declares y).before a0 Z = true := by
  obtain ⟨mk, methM, hnamed, hmethM, hst, -⟩ := Cond.instanceMethod_spec wi
  obtain ⟨m2, cM, q1, -, -, -, -, -, -, hsig⟩ := Cond.code_spec hnamed wc
  cases hmethM.symm.trans q1
  simp [Cond.before, Cond.holds, Cond.value, hnamed, hmethM, hst, hsig]
theorem own_same {y x2 y2 : MethodName} {C : String} {a0 : Array Value} {Z : State} (wi : (Cond.instanceMethod y).before a0 Z = true) (ws : (Cond.selects C x2 y2).before a0 Z = true) (hc : y2.cls = y.cls ∧ y.cls ≠ "java/lang/invoke/MethodHandle" ∧ y.cls ≠ "java/lang/invoke/VarHandle") : (Cond.sameMethod y.cls y.cls y.name y.desc).before a0 Z = true := by
  obtain ⟨mk, methM, hnamed, -, -, -⟩ := Cond.instanceMethod_spec wi
  obtain ⟨c2, r2, m2, -, -, q3, -, kP, hkP, hkPi⟩ := Cond.selects_spec ws
  have h1 := findClass_of_methodNamed hnamed
  have h2 := findClass_of_methodNamed q3
  rw [hc.1, h1] at h2
  rw [← Option.some.inj h2] at hkP
  have h3 := State.methodFound?_of_named hnamed hc.2
  have h4 : Z.methodNamed? ⟨y.cls, y.name, y.desc⟩ = some mk := hnamed
  simp [Cond.before, Cond.holds, Cond.value, h1, h3, h4, hkP, hkPi]
theorem own_nf {y x2 y2 : MethodName} {C : String} {a0 : Array Value} {s : State} (ws : (Cond.selects C x2 y2).before a0 s = true) (hc : y2.cls = y.cls) : NotFace s y := fun r0 h0 => by
  obtain ⟨c2, r2, m2, -, -, q3, -, kP, hkP, hkPi⟩ := Cond.selects_spec ws
  have h1 := findClass_of_methodNamed h0
  have h2 := findClass_of_methodNamed q3
  rw [hc, h1] at h2
  rw [← Option.some.inj h2] at hkP
  exact ⟨kP, hkP, hkPi⟩
theorem own_since0 (s : State) (n : Nat) : s.Since s.vm n := State.WarmedH.since (State.WarmedH.refl s) n
theorem own_REW {s t : State} {o : Outcome} {L : List Loc} {k n k' n' : Nat} (h : ReturnedEndW s o t L k n) (hk : k ≤ k') (hn : n ≤ n') : ReturnedEndW s o t L k' n' := ⟨h.1, h.2.1, h.2.2.1, h.2.2.2.mono hk hn⟩
theorem own_and255 (x : Int32) : ¬ nar .char ((x &&& (255 : Int32)).toUInt32.toUInt16.toUInt32.toInt32) < 0 ∧ ¬ (255 : Int32) < nar .char ((x &&& (255 : Int32)).toUInt32.toUInt16.toUInt32.toInt32) := by
  have t : ∀ k : Fin 256, ¬ nar .char ((Int32.ofNat k.val).toUInt32.toUInt16.toUInt32.toInt32) < 0 ∧ ¬ (255 : Int32) < nar .char ((Int32.ofNat k.val).toUInt32.toUInt16.toUInt32.toInt32) := by decide +kernel
  have h : (x &&& 255).toBitVec.toNat < 256 := by
    simp only [Int32.toBitVec_and, BitVec.toNat_and]
    exact Nat.lt_succ_of_le Nat.and_le_right
  have e : (x &&& 255) = Int32.ofNat (x &&& 255).toBitVec.toNat := by
    apply Int32.toBitVec_inj.mp
    show _ = BitVec.ofNat 32 _
    rw [BitVec.ofNat_toNat]; simp
  rw [e]
  exact t ⟨_, h⟩
theorem d10_0 : decode jdk_42_method_152_code 0 = .ok (.getstatic 38, 3) := by decide +kernel
theorem d10_3 : decode jdk_42_method_152_code 3 = .ok (.ifCond .eq 10, 3) := by decide +kernel
theorem d10_6 : decode jdk_42_method_152_code 6 = .ok (.aload_n 0, 1) := by decide +kernel
theorem d10_7 : decode jdk_42_method_152_code 7 = .ok (.getfield 15, 3) := by decide +kernel
theorem d10_10 : decode jdk_42_method_152_code 10 = .ok (.goto 4, 3) := by decide +kernel
theorem d10_14 : decode jdk_42_method_152_code 14 = .ok (.ireturn, 1) := by decide +kernel
theorem pn_java_lang_String : plainName "java/lang/String" = true := by first | (simp [plainName, overriddenIn]; done) | decide +kernel
theorem ef_sbCoder (m : MethodId) (x0 : Addr) : entryFrame m #[(.ref x0)] 1 = mkF m 0 #[.val (.ref x0)] [] := by first | (simp [entryFrame, mkF, argsToLocals, Value.category]; done) | rfl
def Q_sbCoder (Z : State) (x1 : Addr) (t1 : Addr) (ds : List Int32) (G1 : Int32) (h0 : Heap) (n0 : Nat) (v : Option Value) (h : Heap) (L : List Loc) : Prop := v = some (.int (0 : Int32)) ∧ Fr n0 L ∧ h = h0
set_option maxRecDepth 65536 in
set_option maxHeartbeats 40000000 in
theorem sbCoder (l : Launch) (Z : State) (a0 : Array Value) (hw : ∀ d ∈ tables_1, d.before a0 Z = true) (ws : List Jvm.Cond) (x1 : Addr) (t1 : Addr) (ds : List Int32) (G1 : Int32) (h0 : Heap) (n0 : Nat) (Z0 : n0 ≤ h0.size) (S1 : own_Str Z h0 x1 t1 ds) (T1 : Sta Z Z.heap "java/lang/String" "COMPACT_STRINGS" "Z" (.int G1)) (P5 : ¬ (G1 = (0 : Int32))) (O1 : Old Z n0 h0) :
    MetFree l (⟨"java/lang/String", "coder", "()B"⟩ : MethodName) (head1 (Jvm.Cond.code (⟨"java/lang/String", "coder", "()B"⟩ : MethodName) jdk_42_method_152_code 1 (some .byte) :: ws) ({ frames := 0, cells := 0, slots := 0, locals := 0 } : Room)) (fun a U => a = #[(.ref x1)] ∧ Z.Warmed39 U.vm ∧ U.heap = h0) (fun _ _ _ _ _ => True) (fun _ U o U' => ∃ v L, o = .returned v ∧ Q_sbCoder Z x1 t1 ds G1 h0 n0 v U'.heap L ∧ FrameEnd U o U' L ({ frames := 0, cells := 0, slots := 0, locals := 0 } : Room).cells ({ frames := 0, cells := 0, slots := 0, locals := 0 } : Room).slots) := by
  refine MetFree.of_bodySF (plainFor_of_name pn_java_lang_String) hisR ?_
  intro p e s m args below meth c s₁ Bd hml0 hP hK
  obtain ⟨rfl, hZ, hh⟩ := hP
  have hx := Bd.exec
  have hby := Bd.bytes
  have hml : c.maxLocals = 1 := hml0
  have hown : s.vm.findClass "java/lang/String" = some m.cls := findClass_of_methodNamed Bd.named
  have hnm := (name_of_methodNamed Bd.named Bd.method).1
  have X0 : Stand p l e ({ frames := 0, cells := 0, slots := 0, locals := 0 } : Room) s m #[(.ref x1)] below meth c s₁ [] 0 0 := Stand.of_body Bd
  have e0 : s₁.heap = h0 := by rw [← hh, Bd.state]; rfl
  have N0 := Fr.nil n0
  have pre0 : ∀ t, Steps p.tables e below (s₁.setTop (mkF m 0 #[.val (.ref x1)] [])) t → Steps p.tables e below (s₁.setTop (entryFrame m #[(.ref x1)] 1)) t := fun t k => castTop (ef_sbCoder m x1) k
  obtain ⟨T1_, X1_, e1_, st1_⟩ := getS2 X0 hx hZ hown (host := "") (Or.inl (hw _ (List.mem_of_getElem? (i := 67) rfl))) Via.refl e0 (T1.ext O1.2) (g := (mkF m 0 #[.val (.ref x1)] [])) rfl (hb hby d10_0)
  obtain ⟨T2_, X2_, e2_, st2_⟩ := getF X1_ hx hZ hown (host := "") (Or.inl (hw _ (List.mem_of_getElem? (i := 21) rfl))) Via.refl e1_ S1.2.1 (g := (mkF m 7 #[.val (.ref x1)] [(.ref x1)])) rfl rfl (hb hby d10_7)
  obtain ⟨fs, hr, hrun, hended, hW, hsame⟩ := X2_.leave (v := some (.int (0 : Int32))) (fun h => by first | rfl | (rw [Bd.returns] at h; cases h))
  refine ⟨_, _, pre0 _ ?_, hrun, hended, _, _, rfl, ?_, ⟨_, rfl⟩, hW, hsame.mono (by exact Nat.le_of_ble_eq_true rfl) (by exact Nat.le_of_ble_eq_true rfl)⟩
  · show Steps p.tables e below (s₁.setTop (mkF m 0 #[.val (.ref x1)] [])) _
    refine st1_ _ ?_
    show Steps p.tables e below (T1_.setTop (mkF m 3 #[.val (.ref x1)] [(.int G1)])) _
    refine XS.ifNo X1_.here hx rfl (hb hby d10_3) rfl ((if0 _ _).trans (feq (P5 : ¬ (G1 = (0 : Int32)))).1) ?_
    show Steps p.tables e below (T1_.setTop (mkF m 6 #[.val (.ref x1)] [])) _
    refine XS.aloadN X1_.here hx rfl (hb hby d10_6) rfl rfl ?_
    refine st2_ _ ?_
    show Steps p.tables e below (T2_.setTop (mkF m 10 #[.val (.ref x1)] [(.int (0 : Int32))])) _
    refine XS.goto X2_.here hx rfl (pc0 := 10) (pc' := 14) rfl (hb hby d10_10) (by decide) (by decide) ?_
    show Steps p.tables e below (T2_.setTop (mkF m 14 #[.val (.ref x1)] [(.int (0 : Int32))])) _
    exact retN X2_ hx (t := .byte) Bd.returns (by simp) (hb hby d10_14) hr
  · show Q_sbCoder Z x1 t1 ds G1 h0 n0 _ T2_.heap _
    rw [e2_]
    exact ⟨rfl, N0, rfl⟩
theorem d19_0 : decode jdk_42_method_147_code 0 = .ok (.aload_n 0, 1) := by decide +kernel
theorem d19_1 : decode jdk_42_method_147_code 1 = .ok (.invokevirtual 335, 3) := by decide +kernel
theorem pd_qzB : parseMethodDescriptor "()B" = some ⟨[], some .byte⟩ := by decide +kernel
theorem d19_4 : decode jdk_42_method_147_code 4 = .ok (.iload_n 3, 1) := by decide +kernel
theorem d19_5 : decode jdk_42_method_147_code 5 = .ok (.if_icmp .ne 23, 3) := by decide +kernel
theorem d19_8 : decode jdk_42_method_147_code 8 = .ok (.aload_n 0, 1) := by decide +kernel
theorem d19_9 : decode jdk_42_method_147_code 9 = .ok (.getfield 9, 3) := by decide +kernel
theorem d19_12 : decode jdk_42_method_147_code 12 = .ok (.iconst 0, 1) := by decide +kernel
theorem d19_13 : decode jdk_42_method_147_code 13 = .ok (.aload_n 1, 1) := by decide +kernel
theorem d19_14 : decode jdk_42_method_147_code 14 = .ok (.iload_n 2, 1) := by decide +kernel
theorem d19_15 : decode jdk_42_method_147_code 15 = .ok (.iload_n 3, 1) := by decide +kernel
theorem d19_16 : decode jdk_42_method_147_code 16 = .ok (.ishl, 1) := by decide +kernel
theorem d19_17 : decode jdk_42_method_147_code 17 = .ok (.aload_n 0, 1) := by decide +kernel
theorem d19_18 : decode jdk_42_method_147_code 18 = .ok (.getfield 9, 3) := by decide +kernel
theorem d19_21 : decode jdk_42_method_147_code 21 = .ok (.arraylength, 1) := by decide +kernel
theorem d19_22 : decode jdk_42_method_147_code 22 = .ok (.invokestatic 212, 3) := by decide +kernel
theorem d19_25 : decode jdk_42_method_147_code 25 = .ok (.goto 18, 3) := by decide +kernel
theorem d19_43 : decode jdk_42_method_147_code 43 = .ok (.return_, 1) := by decide +kernel
theorem ef_sbGet (m : MethodId) (x0 : Addr) (x1 : Addr) (x2 : Int32) (x3 : Int32) : entryFrame m #[(.ref x0), (.ref x1), (.int x2), (.int x3)] 4 = mkF m 0 #[.val (.ref x0), .val (.ref x1), .val (.int x2), .val (.int x3)] [] := by first | (simp [entryFrame, mkF, argsToLocals, Value.category]; done) | rfl
def Q_sbGet (Z : State) (x1 : Addr) (v1 : Addr) (t1 : Addr) (ds : List Int32) (kv : ClassId) (es : List Int32) (cap : Nat) (G1 : Int32) (h0 : Heap) (n0 : Nat) (v : Option Value) (h : Heap) (L : List Loc) : Prop := v = none ∧ Fr n0 L ∧ Keep h0 h [v1] ∧ (Arv Z h v1 kv .byte (Int32.ofNat cap) (own_pad (es ++ ds) cap) (.int (0 : Int32)))
set_option maxRecDepth 65536 in
set_option maxHeartbeats 40000000 in
theorem sbGet (l : Launch) (Z : State) (a0 : Array Value) (hw : ∀ d ∈ tables_1, d.before a0 Z = true) (ws : List Jvm.Cond) (x1 : Addr) (v1 : Addr) (t1 : Addr) (ds : List Int32) (kv : ClassId) (es : List Int32) (cap : Nat) (G1 : Int32) (h0 : Heap) (n0 : Nat) (Z0 : n0 ≤ h0.size) (S1 : own_Str Z h0 x1 t1 ds) (V1 : Arv Z h0 v1 kv .byte (Int32.ofNat cap) (own_pad es cap) (.int (0 : Int32))) (T1 : Sta Z Z.heap "java/lang/String" "COMPACT_STRINGS" "Z" (.int G1)) (P5 : ¬ (G1 = (0 : Int32))) (O1 : Old Z n0 h0) (g1 : n0 ≤ v1) (ne1 : t1 ≠ v1) (le1 : es.length + ds.length ≤ cap) (lc1 : cap ≤ 4000) :
    MetFree l (⟨"java/lang/String", "getBytes", "([BIB)V"⟩ : MethodName) (head1 (Jvm.Cond.code (⟨"java/lang/String", "getBytes", "([BIB)V"⟩ : MethodName) jdk_42_method_147_code 4 none :: ws) ({ frames := 1, cells := 0, slots := 0, locals := 18 } : Room)) (fun a U => a = #[(.ref x1), (.ref v1), (.int (Int32.ofNat es.length)), (.int (0 : Int32))] ∧ Z.Warmed39 U.vm ∧ U.heap = h0) (fun _ _ _ _ _ => True) (fun _ U o U' => ∃ v L, o = .returned v ∧ Q_sbGet Z x1 v1 t1 ds kv es cap G1 h0 n0 v U'.heap L ∧ FrameEnd U o U' L ({ frames := 1, cells := 0, slots := 0, locals := 18 } : Room).cells ({ frames := 1, cells := 0, slots := 0, locals := 18 } : Room).slots) := by
  refine MetFree.of_bodySF (plainFor_of_name pn_java_lang_String) hisR ?_
  intro p e s m args below meth c s₁ Bd hml0 hP hK
  obtain ⟨rfl, hZ, hh⟩ := hP
  have hx := Bd.exec
  have hby := Bd.bytes
  have hml : c.maxLocals = 4 := hml0
  have hown : s.vm.findClass "java/lang/String" = some m.cls := findClass_of_methodNamed Bd.named
  have hnm := (name_of_methodNamed Bd.named Bd.method).1
  have X0 : Stand p l e ({ frames := 1, cells := 0, slots := 0, locals := 18 } : Room) s m #[(.ref x1), (.ref v1), (.int (Int32.ofNat es.length)), (.int (0 : Int32))] below meth c s₁ [] 0 0 := Stand.of_body Bd
  have e0 : s₁.heap = h0 := by rw [← hh, Bd.state]; rfl
  have N0 := Fr.nil n0
  have pre0 : ∀ t, Steps p.tables e below (s₁.setTop (mkF m 0 #[.val (.ref x1), .val (.ref v1), .val (.int (Int32.ofNat es.length)), .val (.int (0 : Int32))] [])) t → Steps p.tables e below (s₁.setTop (entryFrame m #[(.ref x1), (.ref v1), (.int (Int32.ofNat es.length)), (.int (0 : Int32))] 4)) t := fun t k => castTop (ef_sbGet m x1 v1 (Int32.ofNat es.length) (0 : Int32)) k
  obtain ⟨-, -, -, ⟨kb_, K1_⟩, hlat_, hlen_⟩ := id S1
  have K2_ : Arv Z h0 t1 kb_ .byte (Int32.ofNat ds.length) (own_by ds) (.int (0 : Int32)) := K1_
  obtain ⟨cq2_, kq2_, qa2_, qb2_, qc2_⟩ := isOf hZ e0 S1.1
  obtain ⟨_, _, ⟨T1_, L1_, k1_, n1_⟩, -, X1_, ⟨Lc1_, hQ1_, l1_, y1_, z1_⟩, st1_⟩ := X0.virtualBack hx (y := (⟨"java/lang/String", "coder", "()B"⟩ : MethodName)) (z := (⟨"java/lang/String", "coder", "()B"⟩ : MethodName)) hown (mvT hZ (hw _ (List.mem_of_getElem? (i := 62) rfl))) (mvT hZ (hw _ (List.mem_of_getElem? (i := 63) rfl))) (notFace_of_selects (args := #[]) (mvT hZ (hw _ (List.mem_of_getElem? (i := 65) rfl)))) (mvT hZ (hw _ (List.mem_of_getElem? (i := 65) rfl))) (mvT hZ (hw _ (List.mem_of_getElem? (i := 64) rfl))) (by decide) (backOf (W := 0) (sbCoder l Z a0 hw [] x1 t1 ds G1 h0 n0 Z0 S1 T1 P5 O1) hZ (hw _ (List.mem_of_getElem? (i := 66) rfl)) (hw _ (List.mem_of_getElem? (i := 2) rfl)) (by decide) (by decide)) qa2_ qc2_ (g := (mkF m 1 #[.val (.ref x1), .val (.ref v1), .val (.int (Int32.ofNat es.length)), .val (.int (0 : Int32))] [(.ref x1)])) rfl (by rw [hml]; rfl) (Steps.refl _) (argsL := []) (rest := []) (lenOf pd_qzB rfl) rfl (by show 2 * 0 + _ ≤ _; exact Nat.le_of_eq rfl) (hb hby d19_1) (fun _ _ => ⟨rfl, e0, (by exact Nat.le_of_ble_eq_true rfl), (by exact Nat.le_of_ble_eq_true rfl)⟩)
  dsimp only [Pt.U, Pt.locs, Pt.cells, Pt.slots] at X1_ l1_ y1_ z1_ st1_ hQ1_
  subst L1_ k1_ n1_
  obtain ⟨rfl, Nq1_, ek1_⟩ := hQ1_
  have N1_ := Fr.app N0 Nq1_
  obtain ⟨T3_, X3_, e3_, st3_⟩ := getF X1_ hx hZ hown (host := "") (Or.inl (hw _ (List.mem_of_getElem? (i := 20) rfl))) Via.refl ek1_ S1.2.2.1 (g := (mkF m 9 #[.val (.ref x1), .val (.ref v1), .val (.int (Int32.ofNat es.length)), .val (.int (0 : Int32))] [(.ref x1)])) rfl rfl (hb hby d19_9)
  obtain ⟨T4_, X4_, e4_, st4_⟩ := getF X3_ hx hZ hown (host := "") (Or.inl (hw _ (List.mem_of_getElem? (i := 20) rfl))) Via.refl e3_ S1.2.2.1 (g := (mkF m 18 #[.val (.ref x1), .val (.ref v1), .val (.int (Int32.ofNat es.length)), .val (.int (0 : Int32))] [(.ref x1), (.int (Int32.ofNat es.length)), (.ref v1), (.int (0 : Int32)), (.ref t1)])) rfl rfl (hb hby d19_18)
  obtain ⟨cl5_, Ar5_, q5_, S5_, M5_, Hs5_, G5_⟩ := id K2_
  obtain ⟨T6_, h6_, L6_, X6_, e6_, N6_, K6_, V6_, st6_⟩ := cpA X4_ hx hZ hown (hw _ (List.mem_of_getElem? (i := 117) rfl)) (hw _ (List.mem_of_getElem? (i := 100) rfl)) (hw _ (List.mem_of_getElem? (i := 98) rfl)) (hw _ (List.mem_of_getElem? (i := 99) rfl)) e4_ K2_ V1 (us := (own_by ds)) (Or.inl ⟨rfl, rfl⟩) (by decide) (own_nn (by omega)) (own_nn hlen_) (own_h4 _) (own_h5 le1 lc1) (own_us _ hlen_) (own_hl le1 lc1) N1_ g1 (g := (mkF m 22 #[.val (.ref x1), .val (.ref v1), .val (.int (Int32.ofNat es.length)), .val (.int (0 : Int32))] [(.int (Int32.ofNat ds.length)), (.int (Int32.ofNat es.length)), (.ref v1), (.int (0 : Int32)), (.ref t1)])) rfl (by rw [hml]; rfl) rfl (hb hby d19_22) (by decide) (W := 0) (by show 2 * 0 + _ ≤ _; exact Nat.le_of_eq rfl) (by decide)
  have v6_ : Arv Z h6_ v1 kv .byte (Int32.ofNat cap) (own_pad (es ++ ds) cap) (.int (0 : Int32)) := (by rw [← own_cat le1 lc1]; exact V6_)
  have k7_ : Keep h0 h6_ [v1] := (Keep.refl h0 [v1]).trans K6_ (allS (Or.inl (List.mem_of_getElem? (i := 0) rfl)) all0)
  obtain ⟨fs, hr, hrun, hended, hW, hsame⟩ := X6_.leave (v := none) (fun h => by first | rfl | (rw [Bd.returns] at h; cases h))
  refine ⟨_, _, pre0 _ ?_, hrun, hended, _, _, rfl, ?_, ⟨_, rfl⟩, hW, hsame.mono (by exact Nat.le_of_ble_eq_true rfl) (by exact Nat.le_of_ble_eq_true rfl)⟩
  · show Steps p.tables e below (s₁.setTop (mkF m 0 #[.val (.ref x1), .val (.ref v1), .val (.int (Int32.ofNat es.length)), .val (.int (0 : Int32))] [])) _
    refine XS.aloadN X0.here hx rfl (hb hby d19_0) rfl rfl ?_
    refine st1_.trans ?_
    show Steps p.tables e below (T1_.setTop (mkF m 4 #[.val (.ref x1), .val (.ref v1), .val (.int (Int32.ofNat es.length)), .val (.int (0 : Int32))] [(.int (0 : Int32))])) _
    refine XS.iloadN X1_.here hx rfl (hb hby d19_4) rfl ?_
    refine XS.icmpNo X1_.here hx rfl (hb hby d19_5) rfl (teq ((by decide) : (0 : Int32) = (0 : Int32))).2 ?_
    show Steps p.tables e below (T1_.setTop (mkF m 8 #[.val (.ref x1), .val (.ref v1), .val (.int (Int32.ofNat es.length)), .val (.int (0 : Int32))] [])) _
    refine XS.aloadN X1_.here hx rfl (hb hby d19_8) rfl rfl ?_
    refine st3_ _ ?_
    show Steps p.tables e below (T3_.setTop (mkF m 12 #[.val (.ref x1), .val (.ref v1), .val (.int (Int32.ofNat es.length)), .val (.int (0 : Int32))] [(.ref t1)])) _
    refine XS.iconst X3_.here hx rfl (hb hby d19_12) ?_
    refine XS.aloadN X3_.here hx rfl (hb hby d19_13) rfl rfl ?_
    refine XS.iloadN X3_.here hx rfl (hb hby d19_14) rfl ?_
    refine XS.iloadN X3_.here hx rfl (hb hby d19_15) rfl ?_
    refine XS.ishl X3_.here hx rfl (hb hby d19_16) rfl ?_
    show Steps p.tables e below (T3_.setTop (mkF m 17 #[.val (.ref x1), .val (.ref v1), .val (.int (Int32.ofNat es.length)), .val (.int (0 : Int32))] [(.int ((Int32.ofNat es.length) <<< ((0 : Int32) &&& 31))), (.ref v1), (.int (0 : Int32)), (.ref t1)])) _
    rw [own_shl0]
    show Steps p.tables e below (T3_.setTop (mkF m 17 #[.val (.ref x1), .val (.ref v1), .val (.int (Int32.ofNat es.length)), .val (.int (0 : Int32))] [(.int (Int32.ofNat es.length)), (.ref v1), (.int (0 : Int32)), (.ref t1)])) _
    refine XS.aloadN X3_.here hx rfl (hb hby d19_17) rfl rfl ?_
    refine st4_ _ ?_
    show Steps p.tables e below (T4_.setTop (mkF m 21 #[.val (.ref x1), .val (.ref v1), .val (.int (Int32.ofNat es.length)), .val (.int (0 : Int32))] [(.ref t1), (.int (Int32.ofNat es.length)), (.ref v1), (.int (0 : Int32)), (.ref t1)])) _
    refine X4_.arraylength hx (by rw [e4_]; exact Ar5_.1) (State.isArrayOf_alike (State.Warmed39.alike hZ) Ar5_.2.1) (g := (mkF m 21 #[.val (.ref x1), .val (.ref v1), .val (.int (Int32.ofNat es.length)), .val (.int (0 : Int32))] [(.ref t1), (.int (Int32.ofNat es.length)), (.ref v1), (.int (0 : Int32)), (.ref t1)])) rfl rfl (hb hby d19_21) _ ?_
    rw [len_of S5_ M5_]
    show Steps p.tables e below (T4_.setTop (mkF m 22 #[.val (.ref x1), .val (.ref v1), .val (.int (Int32.ofNat es.length)), .val (.int (0 : Int32))] [(.int (Int32.ofNat ds.length)), (.int (Int32.ofNat es.length)), (.ref v1), (.int (0 : Int32)), (.ref t1)])) _
    refine st6_ _ ?_
    show Steps p.tables e below (T6_.setTop (mkF m 25 #[.val (.ref x1), .val (.ref v1), .val (.int (Int32.ofNat es.length)), .val (.int (0 : Int32))] [])) _
    refine XS.goto X6_.here hx rfl (pc0 := 25) (pc' := 43) rfl (hb hby d19_25) (by decide) (by decide) ?_
    show Steps p.tables e below (T6_.setTop (mkF m 43 #[.val (.ref x1), .val (.ref v1), .val (.int (Int32.ofNat es.length)), .val (.int (0 : Int32))] [])) _
    exact X6_.returnOut hx Bd.returns (hb hby d19_43) hr
  · show Q_sbGet Z x1 v1 t1 ds kv es cap G1 h0 n0 _ T6_.heap _
    rw [e6_]
    exact ⟨rfl, N6_, k7_, v6_⟩
theorem d18_0 : decode jdk_68_method_71_code 0 = .ok (.getstatic 18, 3) := by decide +kernel
theorem d18_3 : decode jdk_68_method_71_code 3 = .ok (.ifCond .eq 18, 3) := by decide +kernel
theorem d18_6 : decode jdk_68_method_71_code 6 = .ok (.aload_n 0, 1) := by decide +kernel
theorem d18_7 : decode jdk_68_method_71_code 7 = .ok (.getfield 22, 3) := by decide +kernel
theorem d18_10 : decode jdk_68_method_71_code 10 = .ok (.aload_n 1, 1) := by decide +kernel
theorem d18_11 : decode jdk_68_method_71_code 11 = .ok (.invokevirtual 40, 3) := by decide +kernel
theorem d18_14 : decode jdk_68_method_71_code 14 = .ok (.if_icmp .eq 7, 3) := by decide +kernel
theorem d18_21 : decode jdk_68_method_71_code 21 = .ok (.return_, 1) := by decide +kernel
theorem pn_java_lang_AbstractStringBuilder : plainName "java/lang/AbstractStringBuilder" = true := by first | (simp [plainName, overriddenIn]; done) | decide +kernel
theorem ef_sbInf (m : MethodId) (x0 : Addr) (x1 : Addr) : entryFrame m #[(.ref x0), (.ref x1)] 2 = mkF m 0 #[.val (.ref x0), .val (.ref x1)] [] := by first | (simp [entryFrame, mkF, argsToLocals, Value.category]; done) | rfl
def Q_sbInf (Z : State) (b1 : Addr) (x1 : Addr) (t1 : Addr) (ds : List Int32) (G1 : Int32) (h0 : Heap) (n0 : Nat) (v : Option Value) (h : Heap) (L : List Loc) : Prop := v = none ∧ Fr n0 L ∧ h = h0
set_option maxRecDepth 65536 in
set_option maxHeartbeats 40000000 in
theorem sbInf (l : Launch) (Z : State) (a0 : Array Value) (hw : ∀ d ∈ tables_1, d.before a0 Z = true) (ws : List Jvm.Cond) (b1 : Addr) (x1 : Addr) (t1 : Addr) (ds : List Int32) (G1 : Int32) (h0 : Heap) (n0 : Nat) (Z0 : n0 ≤ h0.size) (S1 : own_Str Z h0 x1 t1 ds) (F1 : Fld Z h0 b1 "java/lang/AbstractStringBuilder" "coder" "B" (.int (0 : Int32))) (T1 : Sta Z Z.heap "java/lang/String" "COMPACT_STRINGS" "Z" (.int G1)) (P5 : ¬ (G1 = (0 : Int32))) (O1 : Old Z n0 h0) :
    MetFree l (⟨"java/lang/AbstractStringBuilder", "inflateIfNeededFor", "(Ljava/lang/String;)V"⟩ : MethodName) (head1 (Jvm.Cond.code (⟨"java/lang/AbstractStringBuilder", "inflateIfNeededFor", "(Ljava/lang/String;)V"⟩ : MethodName) jdk_68_method_71_code 2 none :: ws) ({ frames := 1, cells := 0, slots := 0, locals := 13 } : Room)) (fun a U => a = #[(.ref b1), (.ref x1)] ∧ Z.Warmed39 U.vm ∧ U.heap = h0) (fun _ _ _ _ _ => True) (fun _ U o U' => ∃ v L, o = .returned v ∧ Q_sbInf Z b1 x1 t1 ds G1 h0 n0 v U'.heap L ∧ FrameEnd U o U' L ({ frames := 1, cells := 0, slots := 0, locals := 13 } : Room).cells ({ frames := 1, cells := 0, slots := 0, locals := 13 } : Room).slots) := by
  refine MetFree.of_bodySF (plainFor_of_name pn_java_lang_AbstractStringBuilder) hisR ?_
  intro p e s m args below meth c s₁ Bd hml0 hP hK
  obtain ⟨rfl, hZ, hh⟩ := hP
  have hx := Bd.exec
  have hby := Bd.bytes
  have hml : c.maxLocals = 2 := hml0
  have hown : s.vm.findClass "java/lang/AbstractStringBuilder" = some m.cls := findClass_of_methodNamed Bd.named
  have hnm := (name_of_methodNamed Bd.named Bd.method).1
  have X0 : Stand p l e ({ frames := 1, cells := 0, slots := 0, locals := 13 } : Room) s m #[(.ref b1), (.ref x1)] below meth c s₁ [] 0 0 := Stand.of_body Bd
  have e0 : s₁.heap = h0 := by rw [← hh, Bd.state]; rfl
  have N0 := Fr.nil n0
  have pre0 : ∀ t, Steps p.tables e below (s₁.setTop (mkF m 0 #[.val (.ref b1), .val (.ref x1)] [])) t → Steps p.tables e below (s₁.setTop (entryFrame m #[(.ref b1), (.ref x1)] 2)) t := fun t k => castTop (ef_sbInf m b1 x1) k
  obtain ⟨T1_, X1_, e1_, st1_⟩ := getS2 X0 hx hZ hown (host := "") (Or.inl (hw _ (List.mem_of_getElem? (i := 41) rfl))) Via.refl e0 (T1.ext O1.2) (g := (mkF m 0 #[.val (.ref b1), .val (.ref x1)] [])) rfl (hb hby d18_0)
  obtain ⟨T2_, X2_, e2_, st2_⟩ := getF X1_ hx hZ hown (host := "") (Or.inl (hw _ (List.mem_of_getElem? (i := 44) rfl))) Via.refl e1_ F1 (g := (mkF m 7 #[.val (.ref b1), .val (.ref x1)] [(.ref b1)])) rfl rfl (hb hby d18_7)
  obtain ⟨cq4_, kq4_, qa4_, qb4_, qc4_⟩ := isOf hZ e2_ S1.1
  obtain ⟨_, _, ⟨T3_, L3_, k3_, n3_⟩, -, X3_, ⟨Lc3_, hQ3_, l3_, y3_, z3_⟩, st3_⟩ := X2_.virtualBack hx (y := (⟨"java/lang/String", "coder", "()B"⟩ : MethodName)) (z := (⟨"java/lang/String", "coder", "()B"⟩ : MethodName)) hown (mvT hZ (hw _ (List.mem_of_getElem? (i := 111) rfl))) (mvT hZ (hw _ (List.mem_of_getElem? (i := 63) rfl))) (notFace_of_selects (args := #[]) (mvT hZ (hw _ (List.mem_of_getElem? (i := 65) rfl)))) (mvT hZ (hw _ (List.mem_of_getElem? (i := 65) rfl))) (mvT hZ (hw _ (List.mem_of_getElem? (i := 64) rfl))) (by decide) (backOf (W := 1) (sbCoder l Z a0 hw [] x1 t1 ds G1 h0 n0 Z0 S1 T1 P5 O1) hZ (hw _ (List.mem_of_getElem? (i := 66) rfl)) (hw _ (List.mem_of_getElem? (i := 2) rfl)) (by decide) (by decide)) qa4_ qc4_ (g := (mkF m 11 #[.val (.ref b1), .val (.ref x1)] [(.ref x1), (.int (0 : Int32))])) rfl (by rw [hml]; rfl) (Steps.refl _) (argsL := []) (rest := [(.int (0 : Int32))]) (lenOf pd_qzB rfl) rfl (by show 2 * 0 + _ ≤ _; exact Nat.le_of_eq rfl) (hb hby d18_11) (fun _ _ => ⟨rfl, e2_, (by exact Nat.le_of_ble_eq_true rfl), (by exact Nat.le_of_ble_eq_true rfl)⟩)
  dsimp only [Pt.U, Pt.locs, Pt.cells, Pt.slots] at X3_ l3_ y3_ z3_ st3_ hQ3_
  subst L3_ k3_ n3_
  obtain ⟨rfl, Nq3_, ek3_⟩ := hQ3_
  have N3_ := Fr.app N0 Nq3_
  obtain ⟨fs, hr, hrun, hended, hW, hsame⟩ := X3_.leave (v := none) (fun h => by first | rfl | (rw [Bd.returns] at h; cases h))
  refine ⟨_, _, pre0 _ ?_, hrun, hended, _, _, rfl, ?_, ⟨_, rfl⟩, hW, hsame.mono (by exact Nat.le_of_ble_eq_true rfl) (by exact Nat.le_of_ble_eq_true rfl)⟩
  · show Steps p.tables e below (s₁.setTop (mkF m 0 #[.val (.ref b1), .val (.ref x1)] [])) _
    refine st1_ _ ?_
    show Steps p.tables e below (T1_.setTop (mkF m 3 #[.val (.ref b1), .val (.ref x1)] [(.int G1)])) _
    refine XS.ifNo X1_.here hx rfl (hb hby d18_3) rfl ((if0 _ _).trans (feq (P5 : ¬ (G1 = (0 : Int32)))).1) ?_
    show Steps p.tables e below (T1_.setTop (mkF m 6 #[.val (.ref b1), .val (.ref x1)] [])) _
    refine XS.aloadN X1_.here hx rfl (hb hby d18_6) rfl rfl ?_
    refine st2_ _ ?_
    show Steps p.tables e below (T2_.setTop (mkF m 10 #[.val (.ref b1), .val (.ref x1)] [(.int (0 : Int32))])) _
    refine XS.aloadN X2_.here hx rfl (hb hby d18_10) rfl rfl ?_
    refine st3_.trans ?_
    show Steps p.tables e below (T3_.setTop (mkF m 14 #[.val (.ref b1), .val (.ref x1)] [(.int (0 : Int32)), (.int (0 : Int32))])) _
    refine XS.icmpYes X3_.here hx rfl (pc0 := 14) (pc' := 21) rfl (hb hby d18_14) rfl (teq ((by decide) : (0 : Int32) = (0 : Int32))).1 (by decide) (by decide) ?_
    show Steps p.tables e below (T3_.setTop (mkF m 21 #[.val (.ref b1), .val (.ref x1)] [])) _
    exact X3_.returnOut hx Bd.returns (hb hby d18_21) hr
  · show Q_sbInf Z b1 x1 t1 ds G1 h0 n0 _ T3_.heap _
    rw [ek3_]
    exact ⟨rfl, N3_, rfl⟩
theorem d17_0 : decode jdk_68_method_73_code 0 = .ok (.aload_n 0, 1) := by decide +kernel
theorem d17_1 : decode jdk_68_method_73_code 1 = .ok (.aload_n 2, 1) := by decide +kernel
theorem d17_2 : decode jdk_68_method_73_code 2 = .ok (.invokevirtual 397, 3) := by decide +kernel
theorem pd_qLjava_lang_StringzV : parseMethodDescriptor "(Ljava/lang/String;)V" = some ⟨[(.object "java/lang/String")], none⟩ := by decide +kernel
theorem d17_5 : decode jdk_68_method_73_code 5 = .ok (.aload_n 2, 1) := by decide +kernel
theorem d17_6 : decode jdk_68_method_73_code 6 = .ok (.aload_n 0, 1) := by decide +kernel
theorem d17_7 : decode jdk_68_method_73_code 7 = .ok (.getfield 15, 3) := by decide +kernel
theorem d17_10 : decode jdk_68_method_73_code 10 = .ok (.iload_n 1, 1) := by decide +kernel
theorem d17_11 : decode jdk_68_method_73_code 11 = .ok (.aload_n 0, 1) := by decide +kernel
theorem d17_12 : decode jdk_68_method_73_code 12 = .ok (.getfield 22, 3) := by decide +kernel
theorem d17_15 : decode jdk_68_method_73_code 15 = .ok (.invokevirtual 399, 3) := by decide +kernel
theorem pd_qaBIBzV : parseMethodDescriptor "([BIB)V" = some ⟨[(.array .byte), .int, .byte], none⟩ := by decide +kernel
theorem d17_18 : decode jdk_68_method_73_code 18 = .ok (.return_, 1) := by decide +kernel
theorem ef_sbPut (m : MethodId) (x0 : Addr) (x1 : Int32) (x2 : Addr) : entryFrame m #[(.ref x0), (.int x1), (.ref x2)] 3 = mkF m 0 #[.val (.ref x0), .val (.int x1), .val (.ref x2)] [] := by first | (simp [entryFrame, mkF, argsToLocals, Value.category]; done) | rfl
def Q_sbPut (Z : State) (b1 : Addr) (x1 : Addr) (t1 : Addr) (ds : List Int32) (v1 : Addr) (kv : ClassId) (es : List Int32) (cap : Nat) (G1 : Int32) (h0 : Heap) (n0 : Nat) (v : Option Value) (h : Heap) (L : List Loc) : Prop := v = none ∧ Fr n0 L ∧ Keep h0 h [v1] ∧ (Arv Z h v1 kv .byte (Int32.ofNat cap) (own_pad (es ++ ds) cap) (.int (0 : Int32)))
set_option maxRecDepth 65536 in
set_option maxHeartbeats 40000000 in
theorem sbPut (l : Launch) (Z : State) (a0 : Array Value) (hw : ∀ d ∈ tables_1, d.before a0 Z = true) (ws : List Jvm.Cond) (b1 : Addr) (x1 : Addr) (t1 : Addr) (ds : List Int32) (v1 : Addr) (kv : ClassId) (es : List Int32) (cap : Nat) (G1 : Int32) (h0 : Heap) (n0 : Nat) (Z0 : n0 ≤ h0.size) (S1 : own_Str Z h0 x1 t1 ds) (E1 : Exa Z h0 b1 "java/lang/StringBuilder") (F1 : Fld Z h0 b1 "java/lang/AbstractStringBuilder" "coder" "B" (.int (0 : Int32))) (F2 : Fld Z h0 b1 "java/lang/AbstractStringBuilder" "value" "[B" (.ref v1)) (V1 : Arv Z h0 v1 kv .byte (Int32.ofNat cap) (own_pad es cap) (.int (0 : Int32))) (T1 : Sta Z Z.heap "java/lang/String" "COMPACT_STRINGS" "Z" (.int G1)) (P5 : ¬ (G1 = (0 : Int32))) (O1 : Old Z n0 h0) (g1 : n0 ≤ v1) (ne1 : t1 ≠ v1) (le1 : es.length + ds.length ≤ cap) (lc1 : cap ≤ 4000) :
    MetFree l (⟨"java/lang/AbstractStringBuilder", "putStringAt", "(ILjava/lang/String;)V"⟩ : MethodName) (head1 (Jvm.Cond.code (⟨"java/lang/AbstractStringBuilder", "putStringAt", "(ILjava/lang/String;)V"⟩ : MethodName) jdk_68_method_73_code 3 none :: ws) ({ frames := 2, cells := 0, slots := 0, locals := 33 } : Room)) (fun a U => a = #[(.ref b1), (.int (Int32.ofNat es.length)), (.ref x1)] ∧ Z.Warmed39 U.vm ∧ U.heap = h0) (fun _ _ _ _ _ => True) (fun _ U o U' => ∃ v L, o = .returned v ∧ Q_sbPut Z b1 x1 t1 ds v1 kv es cap G1 h0 n0 v U'.heap L ∧ FrameEnd U o U' L ({ frames := 2, cells := 0, slots := 0, locals := 33 } : Room).cells ({ frames := 2, cells := 0, slots := 0, locals := 33 } : Room).slots) := by
  refine MetFree.of_bodySF (plainFor_of_name pn_java_lang_AbstractStringBuilder) hisR ?_
  intro p e s m args below meth c s₁ Bd hml0 hP hK
  obtain ⟨rfl, hZ, hh⟩ := hP
  have hx := Bd.exec
  have hby := Bd.bytes
  have hml : c.maxLocals = 3 := hml0
  have hown : s.vm.findClass "java/lang/AbstractStringBuilder" = some m.cls := findClass_of_methodNamed Bd.named
  have hnm := (name_of_methodNamed Bd.named Bd.method).1
  have X0 : Stand p l e ({ frames := 2, cells := 0, slots := 0, locals := 33 } : Room) s m #[(.ref b1), (.int (Int32.ofNat es.length)), (.ref x1)] below meth c s₁ [] 0 0 := Stand.of_body Bd
  have e0 : s₁.heap = h0 := by rw [← hh, Bd.state]; rfl
  have N0 := Fr.nil n0
  have pre0 : ∀ t, Steps p.tables e below (s₁.setTop (mkF m 0 #[.val (.ref b1), .val (.int (Int32.ofNat es.length)), .val (.ref x1)] [])) t → Steps p.tables e below (s₁.setTop (entryFrame m #[(.ref b1), (.int (Int32.ofNat es.length)), (.ref x1)] 3)) t := fun t k => castTop (ef_sbPut m b1 (Int32.ofNat es.length) x1) k
  obtain ⟨cq2_, kq2_, qa2_, qb2_, qc2_⟩ := isOf hZ e0 E1
  obtain ⟨_, _, ⟨T1_, L1_, k1_, n1_⟩, -, X1_, ⟨Lc1_, hQ1_, l1_, y1_, z1_⟩, st1_⟩ := X0.virtualBack hx (y := (⟨"java/lang/AbstractStringBuilder", "inflateIfNeededFor", "(Ljava/lang/String;)V"⟩ : MethodName)) (z := (⟨"java/lang/AbstractStringBuilder", "inflateIfNeededFor", "(Ljava/lang/String;)V"⟩ : MethodName)) hown (mvT hZ (hw _ (List.mem_of_getElem? (i := 106) rfl))) (mvT hZ (own_decl (hw _ (List.mem_of_getElem? (i := 107) rfl)) (hw _ (List.mem_of_getElem? (i := 110) rfl)))) (notFace_of_selects (args := #[]) (mvT hZ (hw _ (List.mem_of_getElem? (i := 109) rfl)))) (mvT hZ (hw _ (List.mem_of_getElem? (i := 109) rfl))) (mvT hZ (hw _ (List.mem_of_getElem? (i := 107) rfl))) (by decide) (backOf (W := 0) (sbInf l Z a0 hw [] b1 x1 t1 ds G1 h0 n0 Z0 S1 F1 T1 P5 O1) hZ (hw _ (List.mem_of_getElem? (i := 110) rfl)) (hw _ (List.mem_of_getElem? (i := 38) rfl)) (by decide) (by decide)) qa2_ qc2_ (g := (mkF m 2 #[.val (.ref b1), .val (.int (Int32.ofNat es.length)), .val (.ref x1)] [(.ref x1), (.ref b1)])) rfl (by rw [hml]; rfl) (Steps.refl _) (argsL := [(.ref x1)]) (rest := []) (lenOf pd_qLjava_lang_StringzV rfl) rfl (by show 2 * 0 + _ ≤ _; exact Nat.le_of_eq rfl) (hb hby d17_2) (fun _ _ => ⟨rfl, e0, (by exact Nat.le_of_ble_eq_true rfl), (by exact Nat.le_of_ble_eq_true rfl)⟩)
  dsimp only [Pt.U, Pt.locs, Pt.cells, Pt.slots] at X1_ l1_ y1_ z1_ st1_ hQ1_
  subst L1_ k1_ n1_
  obtain ⟨rfl, Nq1_, ek1_⟩ := hQ1_
  have N1_ := Fr.app N0 Nq1_
  obtain ⟨T3_, X3_, e3_, st3_⟩ := getF X1_ hx hZ hown (host := "") (Or.inl (hw _ (List.mem_of_getElem? (i := 42) rfl))) Via.refl ek1_ F2 (g := (mkF m 7 #[.val (.ref b1), .val (.int (Int32.ofNat es.length)), .val (.ref x1)] [(.ref b1), (.ref x1)])) rfl rfl (hb hby d17_7)
  obtain ⟨T4_, X4_, e4_, st4_⟩ := getF X3_ hx hZ hown (host := "") (Or.inl (hw _ (List.mem_of_getElem? (i := 44) rfl))) Via.refl e3_ F1 (g := (mkF m 12 #[.val (.ref b1), .val (.int (Int32.ofNat es.length)), .val (.ref x1)] [(.ref b1), (.int (Int32.ofNat es.length)), (.ref v1), (.ref x1)])) rfl rfl (hb hby d17_12)
  obtain ⟨cq6_, kq6_, qa6_, qb6_, qc6_⟩ := isOf hZ e4_ S1.1
  obtain ⟨_, _, ⟨T5_, L5_, k5_, n5_⟩, -, X5_, ⟨Lc5_, hQ5_, l5_, y5_, z5_⟩, st5_⟩ := X4_.virtualBack hx (y := (⟨"java/lang/String", "getBytes", "([BIB)V"⟩ : MethodName)) (z := (⟨"java/lang/String", "getBytes", "([BIB)V"⟩ : MethodName)) hown (mvT hZ (hw _ (List.mem_of_getElem? (i := 112) rfl))) (mvT hZ (hw _ (List.mem_of_getElem? (i := 113) rfl))) (notFace_of_selects (args := #[]) (mvT hZ (hw _ (List.mem_of_getElem? (i := 115) rfl)))) (mvT hZ (hw _ (List.mem_of_getElem? (i := 115) rfl))) (mvT hZ (hw _ (List.mem_of_getElem? (i := 114) rfl))) (by decide) (backOf (W := 0) (sbGet l Z a0 hw [] x1 v1 t1 ds kv es cap G1 h0 n0 Z0 S1 V1 T1 P5 O1 g1 ne1 le1 lc1) hZ (hw _ (List.mem_of_getElem? (i := 116) rfl)) (hw _ (List.mem_of_getElem? (i := 2) rfl)) (by decide) (by decide)) qa6_ qc6_ (g := (mkF m 15 #[.val (.ref b1), .val (.int (Int32.ofNat es.length)), .val (.ref x1)] [(.int (0 : Int32)), (.int (Int32.ofNat es.length)), (.ref v1), (.ref x1)])) rfl (by rw [hml]; rfl) (Steps.refl _) (argsL := [(.ref v1), (.int (Int32.ofNat es.length)), (.int (0 : Int32))]) (rest := []) (lenOf pd_qaBIBzV rfl) rfl (by show 2 * 0 + _ ≤ _; exact Nat.le_of_eq rfl) (hb hby d17_15) (fun _ _ => ⟨rfl, e4_, (by exact Nat.le_of_ble_eq_true rfl), (by exact Nat.le_of_ble_eq_true rfl)⟩)
  dsimp only [Pt.U, Pt.locs, Pt.cells, Pt.slots] at X5_ l5_ y5_ z5_ st5_ hQ5_
  subst L5_ k5_ n5_
  obtain ⟨rfl, Nq5_, ek5_, p5__0⟩ := hQ5_
  have N5_ := Fr.app N1_ Nq5_
  have k7_ : Keep h0 T5_.heap [v1] := (Keep.refl h0 [v1]).trans ek5_ (allS (Or.inl (List.mem_of_getElem? (i := 0) rfl)) all0)
  obtain ⟨fs, hr, hrun, hended, hW, hsame⟩ := X5_.leave (v := none) (fun h => by first | rfl | (rw [Bd.returns] at h; cases h))
  refine ⟨_, _, pre0 _ ?_, hrun, hended, _, _, rfl, ?_, ⟨_, rfl⟩, hW, hsame.mono (by exact Nat.le_of_ble_eq_true rfl) (by exact Nat.le_of_ble_eq_true rfl)⟩
  · show Steps p.tables e below (s₁.setTop (mkF m 0 #[.val (.ref b1), .val (.int (Int32.ofNat es.length)), .val (.ref x1)] [])) _
    refine XS.aloadN X0.here hx rfl (hb hby d17_0) rfl rfl ?_
    refine XS.aloadN X0.here hx rfl (hb hby d17_1) rfl rfl ?_
    refine st1_.trans ?_
    show Steps p.tables e below (T1_.setTop (mkF m 5 #[.val (.ref b1), .val (.int (Int32.ofNat es.length)), .val (.ref x1)] [])) _
    refine XS.aloadN X1_.here hx rfl (hb hby d17_5) rfl rfl ?_
    refine XS.aloadN X1_.here hx rfl (hb hby d17_6) rfl rfl ?_
    refine st3_ _ ?_
    show Steps p.tables e below (T3_.setTop (mkF m 10 #[.val (.ref b1), .val (.int (Int32.ofNat es.length)), .val (.ref x1)] [(.ref v1), (.ref x1)])) _
    refine XS.iloadN X3_.here hx rfl (hb hby d17_10) rfl ?_
    refine XS.aloadN X3_.here hx rfl (hb hby d17_11) rfl rfl ?_
    refine st4_ _ ?_
    show Steps p.tables e below (T4_.setTop (mkF m 15 #[.val (.ref b1), .val (.int (Int32.ofNat es.length)), .val (.ref x1)] [(.int (0 : Int32)), (.int (Int32.ofNat es.length)), (.ref v1), (.ref x1)])) _
    refine st5_.trans ?_
    show Steps p.tables e below (T5_.setTop (mkF m 18 #[.val (.ref b1), .val (.int (Int32.ofNat es.length)), .val (.ref x1)] [])) _
    exact X5_.returnOut hx Bd.returns (hb hby d17_18) hr
  · show Q_sbPut Z b1 x1 t1 ds v1 kv es cap G1 h0 n0 _ T5_.heap _
    skip
    exact ⟨rfl, N5_, k7_, p5__0⟩
theorem d11_0 : decode jdk_68_method_9_code 0 = .ok (.aload_n 0, 1) := by decide +kernel
theorem d11_1 : decode jdk_68_method_9_code 1 = .ok (.getfield 15, 3) := by decide +kernel
theorem d11_4 : decode jdk_68_method_9_code 4 = .ok (.arraylength, 1) := by decide +kernel
theorem d11_5 : decode jdk_68_method_9_code 5 = .ok (.aload_n 0, 1) := by decide +kernel
theorem d11_6 : decode jdk_68_method_9_code 6 = .ok (.getfield 22, 3) := by decide +kernel
theorem d11_9 : decode jdk_68_method_9_code 9 = .ok (.ishr, 1) := by decide +kernel
theorem d11_10 : decode jdk_68_method_9_code 10 = .ok (.istore_n 2, 1) := by decide +kernel
theorem d11_11 : decode jdk_68_method_9_code 11 = .ok (.iload_n 1, 1) := by decide +kernel
theorem d11_12 : decode jdk_68_method_9_code 12 = .ok (.iload_n 2, 1) := by decide +kernel
theorem d11_13 : decode jdk_68_method_9_code 13 = .ok (.isub, 1) := by decide +kernel
theorem d11_14 : decode jdk_68_method_9_code 14 = .ok (.ifCond .le 24, 3) := by decide +kernel
theorem d11_38 : decode jdk_68_method_9_code 38 = .ok (.return_, 1) := by decide +kernel
theorem ef_sbEns (m : MethodId) (x0 : Addr) (x1 : Int32) : entryFrame m #[(.ref x0), (.int x1)] 3 = mkF m 0 #[.val (.ref x0), .val (.int x1), .unset] [] := by first | (simp [entryFrame, mkF, argsToLocals, Value.category]; done) | rfl
def Q_sbEns (Z : State) (b1 : Addr) (p1 : Int32) (v1 : Addr) (kv : ClassId) (es : List Int32) (cap : Nat) (h0 : Heap) (n0 : Nat) (v : Option Value) (h : Heap) (L : List Loc) : Prop := v = none ∧ Fr n0 L ∧ h = h0
set_option maxRecDepth 65536 in
set_option maxHeartbeats 40000000 in
theorem sbEns (l : Launch) (Z : State) (a0 : Array Value) (hw : ∀ d ∈ tables_1, d.before a0 Z = true) (ws : List Jvm.Cond) (b1 : Addr) (p1 : Int32) (v1 : Addr) (kv : ClassId) (es : List Int32) (cap : Nat) (h0 : Heap) (n0 : Nat) (Z0 : n0 ≤ h0.size) (F1 : Fld Z h0 b1 "java/lang/AbstractStringBuilder" "coder" "B" (.int (0 : Int32))) (F2 : Fld Z h0 b1 "java/lang/AbstractStringBuilder" "value" "[B" (.ref v1)) (V1 : Arv Z h0 v1 kv .byte (Int32.ofNat cap) (own_pad es cap) (.int (0 : Int32))) (hge : ¬ ((0 : Int32) < (p1 - (Int32.ofNat cap)))) :
    MetFree l (⟨"java/lang/AbstractStringBuilder", "ensureCapacityInternal", "(I)V"⟩ : MethodName) (head1 (Jvm.Cond.code (⟨"java/lang/AbstractStringBuilder", "ensureCapacityInternal", "(I)V"⟩ : MethodName) jdk_68_method_9_code 3 none :: ws) ({ frames := 0, cells := 0, slots := 0, locals := 0 } : Room)) (fun a U => a = #[(.ref b1), (.int p1)] ∧ Z.Warmed39 U.vm ∧ U.heap = h0) (fun _ _ _ _ _ => True) (fun _ U o U' => ∃ v L, o = .returned v ∧ Q_sbEns Z b1 p1 v1 kv es cap h0 n0 v U'.heap L ∧ FrameEnd U o U' L ({ frames := 0, cells := 0, slots := 0, locals := 0 } : Room).cells ({ frames := 0, cells := 0, slots := 0, locals := 0 } : Room).slots) := by
  refine MetFree.of_bodySF (plainFor_of_name pn_java_lang_AbstractStringBuilder) hisR ?_
  intro p e s m args below meth c s₁ Bd hml0 hP hK
  obtain ⟨rfl, hZ, hh⟩ := hP
  have hx := Bd.exec
  have hby := Bd.bytes
  have hml : c.maxLocals = 3 := hml0
  have hown : s.vm.findClass "java/lang/AbstractStringBuilder" = some m.cls := findClass_of_methodNamed Bd.named
  have hnm := (name_of_methodNamed Bd.named Bd.method).1
  have X0 : Stand p l e ({ frames := 0, cells := 0, slots := 0, locals := 0 } : Room) s m #[(.ref b1), (.int p1)] below meth c s₁ [] 0 0 := Stand.of_body Bd
  have e0 : s₁.heap = h0 := by rw [← hh, Bd.state]; rfl
  have N0 := Fr.nil n0
  have pre0 : ∀ t, Steps p.tables e below (s₁.setTop (mkF m 0 #[.val (.ref b1), .val (.int p1), .unset] [])) t → Steps p.tables e below (s₁.setTop (entryFrame m #[(.ref b1), (.int p1)] 3)) t := fun t k => castTop (ef_sbEns m b1 p1) k
  obtain ⟨T1_, X1_, e1_, st1_⟩ := getF X0 hx hZ hown (host := "") (Or.inl (hw _ (List.mem_of_getElem? (i := 42) rfl))) Via.refl e0 F2 (g := (mkF m 1 #[.val (.ref b1), .val (.int p1), .unset] [(.ref b1)])) rfl rfl (hb hby d11_1)
  obtain ⟨cl2_, Ar2_, q2_, S2_, M2_, Hs2_, G2_⟩ := id V1
  obtain ⟨T3_, X3_, e3_, st3_⟩ := getF X1_ hx hZ hown (host := "") (Or.inl (hw _ (List.mem_of_getElem? (i := 44) rfl))) Via.refl e1_ F1 (g := (mkF m 6 #[.val (.ref b1), .val (.int p1), .unset] [(.ref b1), (.int (Int32.ofNat cap))])) rfl rfl (hb hby d11_6)
  obtain ⟨fs, hr, hrun, hended, hW, hsame⟩ := X3_.leave (v := none) (fun h => by first | rfl | (rw [Bd.returns] at h; cases h))
  refine ⟨_, _, pre0 _ ?_, hrun, hended, _, _, rfl, ?_, ⟨_, rfl⟩, hW, hsame.mono (by exact Nat.le_of_ble_eq_true rfl) (by exact Nat.le_of_ble_eq_true rfl)⟩
  · show Steps p.tables e below (s₁.setTop (mkF m 0 #[.val (.ref b1), .val (.int p1), .unset] [])) _
    refine XS.aloadN X0.here hx rfl (hb hby d11_0) rfl rfl ?_
    refine st1_ _ ?_
    show Steps p.tables e below (T1_.setTop (mkF m 4 #[.val (.ref b1), .val (.int p1), .unset] [(.ref v1)])) _
    refine X1_.arraylength hx (by rw [e1_]; exact Ar2_.1) (State.isArrayOf_alike (State.Warmed39.alike hZ) Ar2_.2.1) (g := (mkF m 4 #[.val (.ref b1), .val (.int p1), .unset] [(.ref v1)])) rfl rfl (hb hby d11_4) _ ?_
    rw [len_of S2_ M2_]
    show Steps p.tables e below (T1_.setTop (mkF m 5 #[.val (.ref b1), .val (.int p1), .unset] [(.int (Int32.ofNat cap))])) _
    refine XS.aloadN X1_.here hx rfl (hb hby d11_5) rfl rfl ?_
    refine st3_ _ ?_
    show Steps p.tables e below (T3_.setTop (mkF m 9 #[.val (.ref b1), .val (.int p1), .unset] [(.int (0 : Int32)), (.int (Int32.ofNat cap))])) _
    refine XS.ishr X3_.here hx rfl (hb hby d11_9) rfl ?_
    show Steps p.tables e below (T3_.setTop (mkF m 10 #[.val (.ref b1), .val (.int p1), .unset] [(.int ((Int32.ofNat cap) >>> ((0 : Int32) &&& 31)))])) _
    rw [own_shr0]
    show Steps p.tables e below (T3_.setTop (mkF m 10 #[.val (.ref b1), .val (.int p1), .unset] [(.int (Int32.ofNat cap))])) _
    refine XS.istoreN X3_.here hx rfl (hb hby d11_10) rfl (l' := #[.val (.ref b1), .val (.int p1), .val (.int (Int32.ofNat cap))]) rfl ?_
    show Steps p.tables e below (T3_.setTop (mkF m 11 #[.val (.ref b1), .val (.int p1), .val (.int (Int32.ofNat cap))] [])) _
    refine XS.iloadN X3_.here hx rfl (hb hby d11_11) rfl ?_
    refine XS.iloadN X3_.here hx rfl (hb hby d11_12) rfl ?_
    refine XS.isub X3_.here hx rfl (hb hby d11_13) rfl ?_
    show Steps p.tables e below (T3_.setTop (mkF m 14 #[.val (.ref b1), .val (.int p1), .val (.int (Int32.ofNat cap))] [(.int (p1 - (Int32.ofNat cap)))])) _
    refine XS.ifYes X3_.here hx rfl (pc0 := 14) (pc' := 38) rfl (hb hby d11_14) rfl ((if0 _ _).trans (flt (hge : ¬ ((0 : Int32) < (p1 - (Int32.ofNat cap))))).2.2.2) (by decide) (by decide) ?_
    show Steps p.tables e below (T3_.setTop (mkF m 38 #[.val (.ref b1), .val (.int p1), .val (.int (Int32.ofNat cap))] [])) _
    exact X3_.returnOut hx Bd.returns (hb hby d11_38) hr
  · show Q_sbEns Z b1 p1 v1 kv es cap h0 n0 _ T3_.heap _
    rw [e3_]
    exact ⟨rfl, N0, rfl⟩
theorem d8_0 : decode jdk_68_method_22_code 0 = .ok (.aload_n 1, 1) := by decide +kernel
theorem d8_1 : decode jdk_68_method_22_code 1 = .ok (.ifnonnull 8, 3) := by decide +kernel
theorem d8_9 : decode jdk_68_method_22_code 9 = .ok (.aload_n 1, 1) := by decide +kernel
theorem d8_10 : decode jdk_68_method_22_code 10 = .ok (.invokevirtual 32, 3) := by decide +kernel
theorem pd_qzI : parseMethodDescriptor "()I" = some ⟨[], some .int⟩ := by decide +kernel
theorem d8_13 : decode jdk_68_method_22_code 13 = .ok (.istore_n 2, 1) := by decide +kernel
theorem d8_14 : decode jdk_68_method_22_code 14 = .ok (.aload_n 0, 1) := by decide +kernel
theorem d8_15 : decode jdk_68_method_22_code 15 = .ok (.aload_n 0, 1) := by decide +kernel
theorem d8_16 : decode jdk_68_method_22_code 16 = .ok (.getfield 79, 3) := by decide +kernel
theorem d8_19 : decode jdk_68_method_22_code 19 = .ok (.iload_n 2, 1) := by decide +kernel
theorem d8_20 : decode jdk_68_method_22_code 20 = .ok (.iadd, 1) := by decide +kernel
theorem d8_21 : decode jdk_68_method_22_code 21 = .ok (.invokevirtual 100, 3) := by decide +kernel
theorem pd_qIzV : parseMethodDescriptor "(I)V" = some ⟨[.int], none⟩ := by decide +kernel
theorem d8_24 : decode jdk_68_method_22_code 24 = .ok (.aload_n 0, 1) := by decide +kernel
theorem d8_25 : decode jdk_68_method_22_code 25 = .ok (.aload_n 0, 1) := by decide +kernel
theorem d8_26 : decode jdk_68_method_22_code 26 = .ok (.getfield 79, 3) := by decide +kernel
theorem d8_29 : decode jdk_68_method_22_code 29 = .ok (.aload_n 1, 1) := by decide +kernel
theorem d8_30 : decode jdk_68_method_22_code 30 = .ok (.invokevirtual 208, 3) := by decide +kernel
theorem pd_qILjava_lang_StringzV : parseMethodDescriptor "(ILjava/lang/String;)V" = some ⟨[.int, (.object "java/lang/String")], none⟩ := by decide +kernel
theorem d8_33 : decode jdk_68_method_22_code 33 = .ok (.aload_n 0, 1) := by decide +kernel
theorem d8_34 : decode jdk_68_method_22_code 34 = .ok (.dup, 1) := by decide +kernel
theorem d8_35 : decode jdk_68_method_22_code 35 = .ok (.getfield 79, 3) := by decide +kernel
theorem d8_38 : decode jdk_68_method_22_code 38 = .ok (.iload_n 2, 1) := by decide +kernel
theorem d8_39 : decode jdk_68_method_22_code 39 = .ok (.iadd, 1) := by decide +kernel
theorem d8_40 : decode jdk_68_method_22_code 40 = .ok (.putfield 79, 3) := by decide +kernel
theorem d8_43 : decode jdk_68_method_22_code 43 = .ok (.aload_n 0, 1) := by decide +kernel
theorem d8_44 : decode jdk_68_method_22_code 44 = .ok (.areturn, 1) := by decide +kernel
theorem ef_sbApp (m : MethodId) (x0 : Addr) (x1 : Addr) : entryFrame m #[(.ref x0), (.ref x1)] 3 = mkF m 0 #[.val (.ref x0), .val (.ref x1), .unset] [] := by first | (simp [entryFrame, mkF, argsToLocals, Value.category]; done) | rfl
def Q_sbApp (Z : State) (b1 : Addr) (x1 : Addr) (t1 : Addr) (ds : List Int32) (v1 : Addr) (kv : ClassId) (es : List Int32) (cap : Nat) (G1 : Int32) (h0 : Heap) (n0 : Nat) (v : Option Value) (h : Heap) (L : List Loc) : Prop := v = some (.ref b1) ∧ Fr n0 L ∧ Keep h0 h [b1, v1] ∧ (Fld Z h b1 "java/lang/AbstractStringBuilder" "coder" "B" (.int (0 : Int32))) ∧ (Fld Z h b1 "java/lang/AbstractStringBuilder" "value" "[B" (.ref v1)) ∧ (Fld Z h b1 "java/lang/AbstractStringBuilder" "count" "I" (.int (Int32.ofNat (es ++ ds).length))) ∧ (Arv Z h v1 kv .byte (Int32.ofNat cap) (own_pad (es ++ ds) cap) (.int (0 : Int32)))
set_option maxRecDepth 65536 in
set_option maxHeartbeats 40000000 in
theorem sbApp (l : Launch) (Z : State) (a0 : Array Value) (hw : ∀ d ∈ tables_1, d.before a0 Z = true) (ws : List Jvm.Cond) (b1 : Addr) (x1 : Addr) (t1 : Addr) (ds : List Int32) (v1 : Addr) (kv : ClassId) (es : List Int32) (cap : Nat) (G1 : Int32) (h0 : Heap) (n0 : Nat) (Z0 : n0 ≤ h0.size) (S1 : own_Str Z h0 x1 t1 ds) (E1 : Exa Z h0 b1 "java/lang/StringBuilder") (F1 : Fld Z h0 b1 "java/lang/AbstractStringBuilder" "coder" "B" (.int (0 : Int32))) (F2 : Fld Z h0 b1 "java/lang/AbstractStringBuilder" "value" "[B" (.ref v1)) (F3 : Fld Z h0 b1 "java/lang/AbstractStringBuilder" "count" "I" (.int (Int32.ofNat es.length))) (V1 : Arv Z h0 v1 kv .byte (Int32.ofNat cap) (own_pad es cap) (.int (0 : Int32))) (T1 : Sta Z Z.heap "java/lang/String" "COMPACT_STRINGS" "Z" (.int G1)) (P5 : ¬ (G1 = (0 : Int32))) (O1 : Old Z n0 h0) (g1 : n0 ≤ v1) (g2 : n0 ≤ b1) (ne1 : t1 ≠ v1) (le1 : es.length + ds.length ≤ cap) (lc1 : cap ≤ 4000) :
    MetFree l (⟨"java/lang/AbstractStringBuilder", "append", "(Ljava/lang/String;)Ljava/lang/AbstractStringBuilder;"⟩ : MethodName) (head1 (Jvm.Cond.code (⟨"java/lang/AbstractStringBuilder", "append", "(Ljava/lang/String;)Ljava/lang/AbstractStringBuilder;"⟩ : MethodName) jdk_68_method_22_code 3 (some (.object "java/lang/AbstractStringBuilder")) :: ws) ({ frames := 3, cells := 0, slots := 0, locals := 47 } : Room)) (fun a U => a = #[(.ref b1), (.ref x1)] ∧ Z.Warmed39 U.vm ∧ U.heap = h0) (fun _ _ _ _ _ => True) (fun _ U o U' => ∃ v L, o = .returned v ∧ Q_sbApp Z b1 x1 t1 ds v1 kv es cap G1 h0 n0 v U'.heap L ∧ FrameEnd U o U' L ({ frames := 3, cells := 0, slots := 0, locals := 47 } : Room).cells ({ frames := 3, cells := 0, slots := 0, locals := 47 } : Room).slots) := by
  refine MetFree.of_bodySF (plainFor_of_name pn_java_lang_AbstractStringBuilder) hisR ?_
  intro p e s m args below meth c s₁ Bd hml0 hP hK
  obtain ⟨rfl, hZ, hh⟩ := hP
  have hx := Bd.exec
  have hby := Bd.bytes
  have hml : c.maxLocals = 3 := hml0
  have hown : s.vm.findClass "java/lang/AbstractStringBuilder" = some m.cls := findClass_of_methodNamed Bd.named
  have hnm := (name_of_methodNamed Bd.named Bd.method).1
  have X0 : Stand p l e ({ frames := 3, cells := 0, slots := 0, locals := 47 } : Room) s m #[(.ref b1), (.ref x1)] below meth c s₁ [] 0 0 := Stand.of_body Bd
  have e0 : s₁.heap = h0 := by rw [← hh, Bd.state]; rfl
  have N0 := Fr.nil n0
  have pre0 : ∀ t, Steps p.tables e below (s₁.setTop (mkF m 0 #[.val (.ref b1), .val (.ref x1), .unset] [])) t → Steps p.tables e below (s₁.setTop (entryFrame m #[(.ref b1), (.ref x1)] 3)) t := fun t k => castTop (ef_sbApp m b1 x1) k
  obtain ⟨cq2_, kq2_, qa2_, qb2_, qc2_⟩ := isOf hZ e0 S1.1
  obtain ⟨_, _, ⟨T1_, L1_, k1_, n1_⟩, -, X1_, ⟨Lc1_, hQ1_, l1_, y1_, z1_⟩, st1_⟩ := X0.virtualBack hx (y := (⟨"java/lang/String", "length", "()I"⟩ : MethodName)) (z := (⟨"java/lang/String", "length", "()I"⟩ : MethodName)) hown (mvT hZ (hw _ (List.mem_of_getElem? (i := 57) rfl))) (mvT hZ (hw _ (List.mem_of_getElem? (i := 58) rfl))) (notFace_of_selects (args := #[]) (mvT hZ (hw _ (List.mem_of_getElem? (i := 60) rfl)))) (mvT hZ (hw _ (List.mem_of_getElem? (i := 60) rfl))) (mvT hZ (hw _ (List.mem_of_getElem? (i := 59) rfl))) (by decide) (own_lenB (W := 0) hZ hw S1 T1 P5 O1 (by decide) (by decide)) qa2_ qc2_ (g := (mkF m 10 #[.val (.ref b1), .val (.ref x1), .unset] [(.ref x1)])) rfl (by rw [hml]; rfl) (Steps.refl _) (argsL := []) (rest := []) (lenOf pd_qzI rfl) rfl (by show 2 * 0 + _ ≤ _; exact Nat.le_of_eq rfl) (hb hby d8_10) (fun _ _ => ⟨rfl, e0, (by exact Nat.le_of_ble_eq_true rfl), (by exact Nat.le_of_ble_eq_true rfl)⟩)
  dsimp only [Pt.U, Pt.locs, Pt.cells, Pt.slots] at X1_ l1_ y1_ z1_ st1_ hQ1_
  subst L1_ k1_ n1_
  obtain ⟨rfl, rfl, ek1_⟩ := hQ1_
  have N1_ := Fr.app N0 (Fr.nil n0)
  obtain ⟨T3_, X3_, e3_, st3_⟩ := getF X1_ hx hZ hown (host := "") (Or.inl (hw _ (List.mem_of_getElem? (i := 68) rfl))) Via.refl ek1_ F3 (g := (mkF m 16 #[.val (.ref b1), .val (.ref x1), .val (.int (Int32.ofNat ds.length))] [(.ref b1), (.ref b1)])) rfl rfl (hb hby d8_16)
  obtain ⟨cq5_, kq5_, qa5_, qb5_, qc5_⟩ := isOf hZ e3_ E1
  obtain ⟨_, _, ⟨T4_, L4_, k4_, n4_⟩, -, X4_, ⟨Lc4_, hQ4_, l4_, y4_, z4_⟩, st4_⟩ := X3_.virtualBack hx (y := (⟨"java/lang/AbstractStringBuilder", "ensureCapacityInternal", "(I)V"⟩ : MethodName)) (z := (⟨"java/lang/AbstractStringBuilder", "ensureCapacityInternal", "(I)V"⟩ : MethodName)) hown (mvT hZ (hw _ (List.mem_of_getElem? (i := 70) rfl))) (mvT hZ (own_decl (hw _ (List.mem_of_getElem? (i := 71) rfl)) (hw _ (List.mem_of_getElem? (i := 74) rfl)))) (notFace_of_selects (args := #[]) (mvT hZ (hw _ (List.mem_of_getElem? (i := 73) rfl)))) (mvT hZ (hw _ (List.mem_of_getElem? (i := 73) rfl))) (mvT hZ (hw _ (List.mem_of_getElem? (i := 71) rfl))) (by decide) (backOf (W := 0) (sbEns l Z a0 hw [] b1 (Int32.ofNat (es ++ ds).length) v1 kv es cap h0 n0 Z0 F1 F2 V1 (own_le lc1 (by rw [List.length_append]; exact le1))) hZ (hw _ (List.mem_of_getElem? (i := 74) rfl)) (hw _ (List.mem_of_getElem? (i := 38) rfl)) (by decide) (by decide)) qa5_ qc5_ (g := (mkF m 21 #[.val (.ref b1), .val (.ref x1), .val (.int (Int32.ofNat ds.length))] [(.int (Int32.ofNat (es ++ ds).length)), (.ref b1)])) rfl (by rw [hml]; rfl) (Steps.refl _) (argsL := [(.int (Int32.ofNat (es ++ ds).length))]) (rest := []) (lenOf pd_qIzV rfl) rfl (by show 2 * 0 + _ ≤ _; exact Nat.le_of_eq rfl) (hb hby d8_21) (fun _ _ => ⟨rfl, e3_, (by exact Nat.le_of_ble_eq_true rfl), (by exact Nat.le_of_ble_eq_true rfl)⟩)
  dsimp only [Pt.U, Pt.locs, Pt.cells, Pt.slots] at X4_ l4_ y4_ z4_ st4_ hQ4_
  subst L4_ k4_ n4_
  obtain ⟨rfl, Nq4_, ek4_⟩ := hQ4_
  have N4_ := Fr.app N1_ Nq4_
  obtain ⟨T6_, X6_, e6_, st6_⟩ := getF X4_ hx hZ hown (host := "") (Or.inl (hw _ (List.mem_of_getElem? (i := 68) rfl))) Via.refl ek4_ F3 (g := (mkF m 26 #[.val (.ref b1), .val (.ref x1), .val (.int (Int32.ofNat ds.length))] [(.ref b1), (.ref b1)])) rfl rfl (hb hby d8_26)
  obtain ⟨cq8_, kq8_, qa8_, qb8_, qc8_⟩ := isOf hZ e6_ E1
  obtain ⟨_, _, ⟨T7_, L7_, k7_, n7_⟩, -, X7_, ⟨Lc7_, hQ7_, l7_, y7_, z7_⟩, st7_⟩ := X6_.virtualBack hx (y := (⟨"java/lang/AbstractStringBuilder", "putStringAt", "(ILjava/lang/String;)V"⟩ : MethodName)) (z := (⟨"java/lang/AbstractStringBuilder", "putStringAt", "(ILjava/lang/String;)V"⟩ : MethodName)) hown (mvT hZ (hw _ (List.mem_of_getElem? (i := 101) rfl))) (mvT hZ (own_decl (hw _ (List.mem_of_getElem? (i := 102) rfl)) (hw _ (List.mem_of_getElem? (i := 105) rfl)))) (notFace_of_selects (args := #[]) (mvT hZ (hw _ (List.mem_of_getElem? (i := 104) rfl)))) (mvT hZ (hw _ (List.mem_of_getElem? (i := 104) rfl))) (mvT hZ (hw _ (List.mem_of_getElem? (i := 102) rfl))) (by decide) (backOf (W := 0) (sbPut l Z a0 hw [] b1 x1 t1 ds v1 kv es cap G1 h0 n0 Z0 S1 E1 F1 F2 V1 T1 P5 O1 g1 ne1 le1 lc1) hZ (hw _ (List.mem_of_getElem? (i := 105) rfl)) (hw _ (List.mem_of_getElem? (i := 38) rfl)) (by decide) (by decide)) qa8_ qc8_ (g := (mkF m 30 #[.val (.ref b1), .val (.ref x1), .val (.int (Int32.ofNat ds.length))] [(.ref x1), (.int (Int32.ofNat es.length)), (.ref b1)])) rfl (by rw [hml]; rfl) (Steps.refl _) (argsL := [(.int (Int32.ofNat es.length)), (.ref x1)]) (rest := []) (lenOf pd_qILjava_lang_StringzV rfl) rfl (by show 2 * 0 + _ ≤ _; exact Nat.le_of_eq rfl) (hb hby d8_30) (fun _ _ => ⟨rfl, e6_, (by exact Nat.le_of_ble_eq_true rfl), (by exact Nat.le_of_ble_eq_true rfl)⟩)
  dsimp only [Pt.U, Pt.locs, Pt.cells, Pt.slots] at X7_ l7_ y7_ z7_ st7_ hQ7_
  subst L7_ k7_ n7_
  obtain ⟨rfl, Nq7_, ek7_, p7__0⟩ := hQ7_
  have N7_ := Fr.app N4_ Nq7_
  have f9_ : Fld Z T7_.heap b1 "java/lang/AbstractStringBuilder" "count" "I" (.int (Int32.ofNat es.length)) := (F3.keep ek7_ (ninS (Exa.neArv E1 V1 (hw _ (List.mem_of_getElem? (i := 29) rfl))) nin0))
  obtain ⟨T10_, X10_, e10_, st10_⟩ := getF X7_ hx hZ hown (host := "") (Or.inl (hw _ (List.mem_of_getElem? (i := 68) rfl))) Via.refl rfl f9_ (g := (mkF m 35 #[.val (.ref b1), .val (.ref x1), .val (.int (Int32.ofNat ds.length))] [(.ref b1), (.ref b1)])) rfl rfl (hb hby d8_35)
  have f11_ : Exa Z T7_.heap b1 "java/lang/StringBuilder" := (E1.keep ek7_)
  obtain ⟨T12_, h12_, X12_, e12_, W12_, st12_⟩ := putF X10_ hx hZ hown (host := "") (Or.inl (hw _ (List.mem_of_getElem? (i := 68) rfl))) Via.refl e10_ f9_ f11_ (Or.inl (hw _ (List.mem_of_getElem? (i := 69) rfl))) (hw _ (List.mem_of_getElem? (i := 29) rfl)) (ty := .int) (by decide) rfl rfl (g := (mkF m 40 #[.val (.ref b1), .val (.ref x1), .val (.int (Int32.ofNat ds.length))] [(.int (Int32.ofNat (es ++ ds).length)), (.ref b1)])) rfl rfl (hb hby d8_40)
  have w12_ : Fld Z h12_ b1 "java/lang/AbstractStringBuilder" "count" "I" (.int (Int32.ofNat (es ++ ds).length)) := f9_.same W12_
  have N12_ := Fr.snoc X12_ N7_ g2
  have f13_ : Fld Z h12_ b1 "java/lang/AbstractStringBuilder" "coder" "B" (.int (0 : Int32)) := ((F1.keep ek7_ (ninS (Exa.neArv E1 V1 (hw _ (List.mem_of_getElem? (i := 29) rfl))) nin0)).other W12_ (Or.inr (slot_ne (Or.inl (hw _ (List.mem_of_getElem? (i := 45) rfl))) (Or.inl (hw _ (List.mem_of_getElem? (i := 69) rfl))) (by decide) (t := .byte) (t' := .int) (by decide) (by decide))))
  have f14_ : Fld Z h12_ b1 "java/lang/AbstractStringBuilder" "value" "[B" (.ref v1) := ((F2.keep ek7_ (ninS (Exa.neArv E1 V1 (hw _ (List.mem_of_getElem? (i := 29) rfl))) nin0)).other W12_ (Or.inr (slot_ne (Or.inl (hw _ (List.mem_of_getElem? (i := 43) rfl))) (Or.inl (hw _ (List.mem_of_getElem? (i := 69) rfl))) (by decide) (t := (.array .byte)) (t' := .int) (by decide) (by decide))))
  have f15_ : Arv Z h12_ v1 kv .byte (Int32.ofNat cap) (own_pad (es ++ ds) cap) (.int (0 : Int32)) := (p7__0.other W12_ (Ne.symm (Exa.neArv f11_ p7__0 (hw _ (List.mem_of_getElem? (i := 29) rfl)))))
  have k16_ : Keep h0 T7_.heap [b1, v1] := (Keep.refl h0 [b1, v1]).trans ek7_ (allS (Or.inl (List.mem_of_getElem? (i := 1) rfl)) all0)
  have k17_ : Keep h0 h12_ [b1, v1] := k16_.wr W12_ (Or.inl (List.mem_of_getElem? (i := 0) rfl))
  obtain ⟨fs, hr, hrun, hended, hW, hsame⟩ := X12_.leave (v := some (.ref b1)) (fun h => by first | rfl | (rw [Bd.returns] at h; cases h))
  refine ⟨_, _, pre0 _ ?_, hrun, hended, _, _, rfl, ?_, ⟨_, rfl⟩, hW, hsame.mono (by exact Nat.le_of_ble_eq_true rfl) (by exact Nat.le_of_ble_eq_true rfl)⟩
  · show Steps p.tables e below (s₁.setTop (mkF m 0 #[.val (.ref b1), .val (.ref x1), .unset] [])) _
    refine XS.aloadN X0.here hx rfl (hb hby d8_0) rfl rfl ?_
    refine XS.ifnonnullYes X0.here hx rfl (pc0 := 1) (pc' := 9) rfl (hb hby d8_1) rfl (by decide) (by decide) ?_
    show Steps p.tables e below (s₁.setTop (mkF m 9 #[.val (.ref b1), .val (.ref x1), .unset] [])) _
    refine XS.aloadN X0.here hx rfl (hb hby d8_9) rfl rfl ?_
    refine st1_.trans ?_
    show Steps p.tables e below (T1_.setTop (mkF m 13 #[.val (.ref b1), .val (.ref x1), .unset] [(.int (Int32.ofNat ds.length))])) _
    refine XS.istoreN X1_.here hx rfl (hb hby d8_13) rfl (l' := #[.val (.ref b1), .val (.ref x1), .val (.int (Int32.ofNat ds.length))]) rfl ?_
    show Steps p.tables e below (T1_.setTop (mkF m 14 #[.val (.ref b1), .val (.ref x1), .val (.int (Int32.ofNat ds.length))] [])) _
    refine XS.aloadN X1_.here hx rfl (hb hby d8_14) rfl rfl ?_
    refine XS.aloadN X1_.here hx rfl (hb hby d8_15) rfl rfl ?_
    refine st3_ _ ?_
    show Steps p.tables e below (T3_.setTop (mkF m 19 #[.val (.ref b1), .val (.ref x1), .val (.int (Int32.ofNat ds.length))] [(.int (Int32.ofNat es.length)), (.ref b1)])) _
    refine XS.iloadN X3_.here hx rfl (hb hby d8_19) rfl ?_
    refine XS.iadd X3_.here hx rfl (hb hby d8_20) rfl ?_
    show Steps p.tables e below (T3_.setTop (mkF m 21 #[.val (.ref b1), .val (.ref x1), .val (.int (Int32.ofNat ds.length))] [(.int ((Int32.ofNat es.length) + (Int32.ofNat ds.length))), (.ref b1)])) _
    rw [own_addl es ds]
    show Steps p.tables e below (T3_.setTop (mkF m 21 #[.val (.ref b1), .val (.ref x1), .val (.int (Int32.ofNat ds.length))] [(.int (Int32.ofNat (es ++ ds).length)), (.ref b1)])) _
    refine st4_.trans ?_
    show Steps p.tables e below (T4_.setTop (mkF m 24 #[.val (.ref b1), .val (.ref x1), .val (.int (Int32.ofNat ds.length))] [])) _
    refine XS.aloadN X4_.here hx rfl (hb hby d8_24) rfl rfl ?_
    refine XS.aloadN X4_.here hx rfl (hb hby d8_25) rfl rfl ?_
    refine st6_ _ ?_
    show Steps p.tables e below (T6_.setTop (mkF m 29 #[.val (.ref b1), .val (.ref x1), .val (.int (Int32.ofNat ds.length))] [(.int (Int32.ofNat es.length)), (.ref b1)])) _
    refine XS.aloadN X6_.here hx rfl (hb hby d8_29) rfl rfl ?_
    refine st7_.trans ?_
    show Steps p.tables e below (T7_.setTop (mkF m 33 #[.val (.ref b1), .val (.ref x1), .val (.int (Int32.ofNat ds.length))] [])) _
    refine XS.aloadN X7_.here hx rfl (hb hby d8_33) rfl rfl ?_
    refine XS.dup X7_.here hx rfl (hb hby d8_34) rfl rfl ?_
    show Steps p.tables e below (T7_.setTop (mkF m 35 #[.val (.ref b1), .val (.ref x1), .val (.int (Int32.ofNat ds.length))] [(.ref b1), (.ref b1)])) _
    refine st10_ _ ?_
    show Steps p.tables e below (T10_.setTop (mkF m 38 #[.val (.ref b1), .val (.ref x1), .val (.int (Int32.ofNat ds.length))] [(.int (Int32.ofNat es.length)), (.ref b1)])) _
    refine XS.iloadN X10_.here hx rfl (hb hby d8_38) rfl ?_
    refine XS.iadd X10_.here hx rfl (hb hby d8_39) rfl ?_
    show Steps p.tables e below (T10_.setTop (mkF m 40 #[.val (.ref b1), .val (.ref x1), .val (.int (Int32.ofNat ds.length))] [(.int ((Int32.ofNat es.length) + (Int32.ofNat ds.length))), (.ref b1)])) _
    rw [own_addl es ds]
    show Steps p.tables e below (T10_.setTop (mkF m 40 #[.val (.ref b1), .val (.ref x1), .val (.int (Int32.ofNat ds.length))] [(.int (Int32.ofNat (es ++ ds).length)), (.ref b1)])) _
    refine st12_ _ ?_
    show Steps p.tables e below (T12_.setTop (mkF m 43 #[.val (.ref b1), .val (.ref x1), .val (.int (Int32.ofNat ds.length))] [])) _
    refine XS.aloadN X12_.here hx rfl (hb hby d8_43) rfl rfl ?_
    exact retR X12_ hx Bd.returns rfl rfl rfl (hb hby d8_44) hr
  · show Q_sbApp Z b1 x1 t1 ds v1 kv es cap G1 h0 n0 _ T12_.heap _
    rw [e12_]
    exact ⟨rfl, N12_, k17_, f13_, f14_, w12_, f15_⟩
theorem d7_0 : decode jdk_67_method_7_code 0 = .ok (.aload_n 0, 1) := by decide +kernel
theorem d7_1 : decode jdk_67_method_7_code 1 = .ok (.aload_n 1, 1) := by decide +kernel
theorem d7_2 : decode jdk_67_method_7_code 2 = .ok (.invokespecial 29, 3) := by decide +kernel
theorem pd_qLjava_lang_StringzLjava_lang_AbstractStringBuilder : parseMethodDescriptor "(Ljava/lang/String;)Ljava/lang/AbstractStringBuilder;" = some ⟨[(.object "java/lang/String")], some (.object "java/lang/AbstractStringBuilder")⟩ := by decide +kernel
theorem d7_5 : decode jdk_67_method_7_code 5 = .ok (.pop, 1) := by decide +kernel
theorem d7_6 : decode jdk_67_method_7_code 6 = .ok (.aload_n 0, 1) := by decide +kernel
theorem d7_7 : decode jdk_67_method_7_code 7 = .ok (.areturn, 1) := by decide +kernel
theorem pn_java_lang_StringBuilder : plainName "java/lang/StringBuilder" = true := by first | (simp [plainName, overriddenIn]; done) | decide +kernel
theorem ef_sbApp2 (m : MethodId) (x0 : Addr) (x1 : Addr) : entryFrame m #[(.ref x0), (.ref x1)] 2 = mkF m 0 #[.val (.ref x0), .val (.ref x1)] [] := by first | (simp [entryFrame, mkF, argsToLocals, Value.category]; done) | rfl
def Q_sbApp2 (Z : State) (b1 : Addr) (x1 : Addr) (t1 : Addr) (ds : List Int32) (v1 : Addr) (kv : ClassId) (es : List Int32) (cap : Nat) (G1 : Int32) (h0 : Heap) (n0 : Nat) (v : Option Value) (h : Heap) (L : List Loc) : Prop := v = some (.ref b1) ∧ Fr n0 L ∧ Keep h0 h [b1, v1] ∧ (Fld Z h b1 "java/lang/AbstractStringBuilder" "coder" "B" (.int (0 : Int32))) ∧ (Fld Z h b1 "java/lang/AbstractStringBuilder" "value" "[B" (.ref v1)) ∧ (Fld Z h b1 "java/lang/AbstractStringBuilder" "count" "I" (.int (Int32.ofNat (es ++ ds).length))) ∧ (Arv Z h v1 kv .byte (Int32.ofNat cap) (own_pad (es ++ ds) cap) (.int (0 : Int32)))
set_option maxRecDepth 65536 in
set_option maxHeartbeats 40000000 in
theorem sbApp2 (l : Launch) (Z : State) (a0 : Array Value) (hw : ∀ d ∈ tables_1, d.before a0 Z = true) (ws : List Jvm.Cond) (b1 : Addr) (x1 : Addr) (t1 : Addr) (ds : List Int32) (v1 : Addr) (kv : ClassId) (es : List Int32) (cap : Nat) (G1 : Int32) (h0 : Heap) (n0 : Nat) (Z0 : n0 ≤ h0.size) (S1 : own_Str Z h0 x1 t1 ds) (E1 : Exa Z h0 b1 "java/lang/StringBuilder") (F1 : Fld Z h0 b1 "java/lang/AbstractStringBuilder" "coder" "B" (.int (0 : Int32))) (F2 : Fld Z h0 b1 "java/lang/AbstractStringBuilder" "value" "[B" (.ref v1)) (F3 : Fld Z h0 b1 "java/lang/AbstractStringBuilder" "count" "I" (.int (Int32.ofNat es.length))) (V1 : Arv Z h0 v1 kv .byte (Int32.ofNat cap) (own_pad es cap) (.int (0 : Int32))) (T1 : Sta Z Z.heap "java/lang/String" "COMPACT_STRINGS" "Z" (.int G1)) (P5 : ¬ (G1 = (0 : Int32))) (O1 : Old Z n0 h0) (g1 : n0 ≤ v1) (g2 : n0 ≤ b1) (ne1 : t1 ≠ v1) (le1 : es.length + ds.length ≤ cap) (lc1 : cap ≤ 4000) :
    MetFree l (⟨"java/lang/StringBuilder", "append", "(Ljava/lang/String;)Ljava/lang/StringBuilder;"⟩ : MethodName) (head1 (Jvm.Cond.code (⟨"java/lang/StringBuilder", "append", "(Ljava/lang/String;)Ljava/lang/StringBuilder;"⟩ : MethodName) jdk_67_method_7_code 2 (some (.object "java/lang/StringBuilder")) :: ws) ({ frames := 4, cells := 0, slots := 0, locals := 61 } : Room)) (fun a U => a = #[(.ref b1), (.ref x1)] ∧ Z.Warmed39 U.vm ∧ U.heap = h0) (fun _ _ _ _ _ => True) (fun _ U o U' => ∃ v L, o = .returned v ∧ Q_sbApp2 Z b1 x1 t1 ds v1 kv es cap G1 h0 n0 v U'.heap L ∧ FrameEnd U o U' L ({ frames := 4, cells := 0, slots := 0, locals := 61 } : Room).cells ({ frames := 4, cells := 0, slots := 0, locals := 61 } : Room).slots) := by
  refine MetFree.of_bodySF (plainFor_of_name pn_java_lang_StringBuilder) hisR ?_
  intro p e s m args below meth c s₁ Bd hml0 hP hK
  obtain ⟨rfl, hZ, hh⟩ := hP
  have hx := Bd.exec
  have hby := Bd.bytes
  have hml : c.maxLocals = 2 := hml0
  have hown : s.vm.findClass "java/lang/StringBuilder" = some m.cls := findClass_of_methodNamed Bd.named
  have hnm := (name_of_methodNamed Bd.named Bd.method).1
  have X0 : Stand p l e ({ frames := 4, cells := 0, slots := 0, locals := 61 } : Room) s m #[(.ref b1), (.ref x1)] below meth c s₁ [] 0 0 := Stand.of_body Bd
  have e0 : s₁.heap = h0 := by rw [← hh, Bd.state]; rfl
  have N0 := Fr.nil n0
  have pre0 : ∀ t, Steps p.tables e below (s₁.setTop (mkF m 0 #[.val (.ref b1), .val (.ref x1)] [])) t → Steps p.tables e below (s₁.setTop (entryFrame m #[(.ref b1), (.ref x1)] 2)) t := fun t k => castTop (ef_sbApp2 m b1 x1) k
  obtain ⟨_, _, ⟨T1_, L1_, k1_, n1_⟩, -, X1_, ⟨Lc1_, hQ1_, l1_, y1_, z1_⟩, st1_⟩ := superBack X0 hx hZ (y := (⟨"java/lang/AbstractStringBuilder", "append", "(Ljava/lang/String;)Ljava/lang/AbstractStringBuilder;"⟩ : MethodName)) hown (hw _ (List.mem_of_getElem? (i := 52) rfl)) (own_same (hw _ (List.mem_of_getElem? (i := 53) rfl)) (hw _ (List.mem_of_getElem? (i := 73) rfl)) (by decide)) (hw _ (List.mem_of_getElem? (i := 53) rfl)) (hw _ (List.mem_of_getElem? (i := 54) rfl)) (by decide) (backOf (W := 0) (sbApp l Z a0 hw [] b1 x1 t1 ds v1 kv es cap G1 h0 n0 Z0 S1 E1 F1 F2 F3 V1 T1 P5 O1 g1 g2 ne1 le1 lc1) hZ (hw _ (List.mem_of_getElem? (i := 56) rfl)) (hw _ (List.mem_of_getElem? (i := 38) rfl)) (by decide) (by decide)) e0 (Ins.self E1) (g := (mkF m 2 #[.val (.ref b1), .val (.ref x1)] [(.ref x1), (.ref b1)])) rfl (by rw [hml]; rfl) (hw _ (List.mem_of_getElem? (i := 56) rfl)) (argsL := [(.ref x1)]) (rest := []) (lenOf pd_qLjava_lang_StringzLjava_lang_AbstractStringBuilder rfl) rfl (by show 2 * 0 + _ ≤ _; exact Nat.le_of_eq rfl) (hb hby d7_2) (fun _ _ => ⟨rfl, e0, (by exact Nat.le_of_ble_eq_true rfl), (by exact Nat.le_of_ble_eq_true rfl)⟩)
  dsimp only [Pt.U, Pt.locs, Pt.cells, Pt.slots] at X1_ l1_ y1_ z1_ st1_ hQ1_
  subst L1_ k1_ n1_
  obtain ⟨rfl, Nq1_, ek1_, p1__0, p1__1, p1__2, p1__3⟩ := hQ1_
  have N1_ := Fr.app N0 Nq1_
  have k2_ : Keep h0 T1_.heap [b1, v1] := (Keep.refl h0 [b1, v1]).trans ek1_ (allS (Or.inl (List.mem_of_getElem? (i := 0) rfl)) (allS (Or.inl (List.mem_of_getElem? (i := 1) rfl)) all0))
  obtain ⟨fs, hr, hrun, hended, hW, hsame⟩ := X1_.leave (v := some (.ref b1)) (fun h => by first | rfl | (rw [Bd.returns] at h; cases h))
  refine ⟨_, _, pre0 _ ?_, hrun, hended, _, _, rfl, ?_, ⟨_, rfl⟩, hW, hsame.mono (by exact Nat.le_of_ble_eq_true rfl) (by exact Nat.le_of_ble_eq_true rfl)⟩
  · show Steps p.tables e below (s₁.setTop (mkF m 0 #[.val (.ref b1), .val (.ref x1)] [])) _
    refine XS.aloadN X0.here hx rfl (hb hby d7_0) rfl rfl ?_
    refine XS.aloadN X0.here hx rfl (hb hby d7_1) rfl rfl ?_
    refine st1_.trans ?_
    show Steps p.tables e below (T1_.setTop (mkF m 5 #[.val (.ref b1), .val (.ref x1)] [(.ref b1)])) _
    refine XS.pop X1_.here hx rfl (hb hby d7_5) rfl rfl ?_
    show Steps p.tables e below (T1_.setTop (mkF m 6 #[.val (.ref b1), .val (.ref x1)] [])) _
    refine XS.aloadN X1_.here hx rfl (hb hby d7_6) rfl rfl ?_
    exact retR X1_ hx Bd.returns rfl rfl rfl (hb hby d7_7) hr
  · show Q_sbApp2 Z b1 x1 t1 ds v1 kv es cap G1 h0 n0 _ T1_.heap _
    skip
    exact ⟨rfl, N1_, k2_, p1__0, p1__1, p1__2, p1__3⟩
theorem d14_0 : decode jdk_29_method_65_code 0 = .ok (.iload_n 0, 1) := by decide +kernel
theorem d14_1 : decode jdk_29_method_65_code 1 = .ok (.iload_n 1, 1) := by decide +kernel
theorem d14_2 : decode jdk_29_method_65_code 2 = .ok (.if_icmp .lt 7, 3) := by decide +kernel
theorem d14_9 : decode jdk_29_method_65_code 9 = .ok (.iload_n 1, 1) := by decide +kernel
theorem d14_10 : decode jdk_29_method_65_code 10 = .ok (.ireturn, 1) := by decide +kernel
theorem ef_sbMax (m : MethodId) (x0 : Int32) (x1 : Int32) : entryFrame m #[(.int x0), (.int x1)] 2 = mkF m 0 #[.val (.int x0), .val (.int x1)] [] := by first | (simp [entryFrame, mkF, argsToLocals, Value.category]; done) | rfl
def Q_sbMax (Z : State) (p1 : Int32) (p2 : Int32) (h0 : Heap) (n0 : Nat) (v : Option Value) (h : Heap) (L : List Loc) : Prop := v = some (.int p2) ∧ Fr n0 L ∧ h = h0
set_option maxRecDepth 65536 in
set_option maxHeartbeats 40000000 in
theorem sbMax (l : Launch) (Z : State) (a0 : Array Value) (hw : ∀ d ∈ tables_1, d.before a0 Z = true) (ws : List Jvm.Cond) (p1 : Int32) (p2 : Int32) (h0 : Heap) (n0 : Nat) (Z0 : n0 ≤ h0.size) (hp : p1 < p2) :
    MetFree l (⟨"java/lang/Math", "max", "(II)I"⟩ : MethodName) (head1 (Jvm.Cond.code (⟨"java/lang/Math", "max", "(II)I"⟩ : MethodName) jdk_29_method_65_code 2 (some .int) :: ws) ({ frames := 0, cells := 0, slots := 0, locals := 0 } : Room)) (fun a U => a = #[(.int p1), (.int p2)] ∧ Z.Warmed39 U.vm ∧ U.heap = h0) (fun _ _ _ _ _ => True) (fun _ U o U' => ∃ v L, o = .returned v ∧ Q_sbMax Z p1 p2 h0 n0 v U'.heap L ∧ FrameEnd U o U' L ({ frames := 0, cells := 0, slots := 0, locals := 0 } : Room).cells ({ frames := 0, cells := 0, slots := 0, locals := 0 } : Room).slots) := by
  refine MetFree.of_bodySF (Jvm.Free.JP.mathPlain rfl (by decide +kernel)) hisR ?_
  intro p e s m args below meth c s₁ Bd hml0 hP hK
  obtain ⟨rfl, hZ, hh⟩ := hP
  have hx := Bd.exec
  have hby := Bd.bytes
  have hml : c.maxLocals = 2 := hml0
  have hown : s.vm.findClass "java/lang/Math" = some m.cls := findClass_of_methodNamed Bd.named
  have hnm := (name_of_methodNamed Bd.named Bd.method).1
  have X0 : Stand p l e ({ frames := 0, cells := 0, slots := 0, locals := 0 } : Room) s m #[(.int p1), (.int p2)] below meth c s₁ [] 0 0 := Stand.of_body Bd
  have e0 : s₁.heap = h0 := by rw [← hh, Bd.state]; rfl
  have N0 := Fr.nil n0
  have pre0 : ∀ t, Steps p.tables e below (s₁.setTop (mkF m 0 #[.val (.int p1), .val (.int p2)] [])) t → Steps p.tables e below (s₁.setTop (entryFrame m #[(.int p1), (.int p2)] 2)) t := fun t k => castTop (ef_sbMax m p1 p2) k
  obtain ⟨fs, hr, hrun, hended, hW, hsame⟩ := X0.leave (v := some (.int p2)) (fun h => by first | rfl | (rw [Bd.returns] at h; cases h))
  refine ⟨_, _, pre0 _ ?_, hrun, hended, _, _, rfl, ?_, ⟨_, rfl⟩, hW, hsame.mono (by exact Nat.le_of_ble_eq_true rfl) (by exact Nat.le_of_ble_eq_true rfl)⟩
  · show Steps p.tables e below (s₁.setTop (mkF m 0 #[.val (.int p1), .val (.int p2)] [])) _
    refine XS.iloadN X0.here hx rfl (hb hby d14_0) rfl ?_
    refine XS.iloadN X0.here hx rfl (hb hby d14_1) rfl ?_
    refine XS.icmpYes X0.here hx rfl (pc0 := 2) (pc' := 9) rfl (hb hby d14_2) rfl (tlt (hp : p1 < p2)).1 (by decide) (by decide) ?_
    show Steps p.tables e below (s₁.setTop (mkF m 9 #[.val (.int p1), .val (.int p2)] [])) _
    refine XS.iloadN X0.here hx rfl (hb hby d14_9) rfl ?_
    exact retI X0 hx Bd.returns (hb hby d14_10) hr
  · show Q_sbMax Z p1 p2 h0 n0 _ s₁.heap _
    rw [e0]
    exact ⟨rfl, N0, rfl⟩
theorem d13_0 : decode jdk_48_method_27_code 0 = .ok (.iload_n 0, 1) := by decide +kernel
theorem d13_1 : decode jdk_48_method_27_code 1 = .ok (.iload_n 1, 1) := by decide +kernel
theorem d13_2 : decode jdk_48_method_27_code 2 = .ok (.iload_n 2, 1) := by decide +kernel
theorem d13_3 : decode jdk_48_method_27_code 3 = .ok (.invokestatic 194, 3) := by decide +kernel
theorem pd_qIIzI : parseMethodDescriptor "(II)I" = some ⟨[.int, .int], some .int⟩ := by decide +kernel
theorem d13_6 : decode jdk_48_method_27_code 6 = .ok (.iadd, 1) := by decide +kernel
theorem d13_7 : decode jdk_48_method_27_code 7 = .ok (.istore_n 3, 1) := by decide +kernel
theorem d13_8 : decode jdk_48_method_27_code 8 = .ok (.iconst 0, 1) := by decide +kernel
theorem d13_9 : decode jdk_48_method_27_code 9 = .ok (.iload_n 3, 1) := by decide +kernel
theorem d13_10 : decode jdk_48_method_27_code 10 = .ok (.if_icmp .ge 11, 3) := by decide +kernel
theorem d13_13 : decode jdk_48_method_27_code 13 = .ok (.iload_n 3, 1) := by decide +kernel
theorem d13_14 : decode jdk_48_method_27_code 14 = .ok (.ldc 200, 2) := by decide +kernel
theorem d13_16 : decode jdk_48_method_27_code 16 = .ok (.if_icmp .gt 5, 3) := by decide +kernel
theorem d13_19 : decode jdk_48_method_27_code 19 = .ok (.iload_n 3, 1) := by decide +kernel
theorem d13_20 : decode jdk_48_method_27_code 20 = .ok (.ireturn, 1) := by decide +kernel
theorem pn_jdk_internal_util_ArraysSupport : plainName "jdk/internal/util/ArraysSupport" = true := by first | (simp [plainName, overriddenIn]; done) | decide +kernel
theorem ef_sbNewLen (m : MethodId) (x0 : Int32) (x1 : Int32) (x2 : Int32) : entryFrame m #[(.int x0), (.int x1), (.int x2)] 4 = mkF m 0 #[.val (.int x0), .val (.int x1), .val (.int x2), .unset] [] := by first | (simp [entryFrame, mkF, argsToLocals, Value.category]; done) | rfl
def Q_sbNewLen (Z : State)  (h0 : Heap) (n0 : Nat) (v : Option Value) (h : Heap) (L : List Loc) : Prop := v = some (.int (34 : Int32)) ∧ Fr n0 L ∧ h = h0
set_option maxRecDepth 65536 in
set_option maxHeartbeats 40000000 in
theorem sbNewLen (l : Launch) (Z : State) (a0 : Array Value) (hw : ∀ d ∈ tables_1, d.before a0 Z = true) (ws : List Jvm.Cond)  (h0 : Heap) (n0 : Nat) (Z0 : n0 ≤ h0.size)  :
    MetFree l (⟨"jdk/internal/util/ArraysSupport", "newLength", "(III)I"⟩ : MethodName) (head1 (Jvm.Cond.code (⟨"jdk/internal/util/ArraysSupport", "newLength", "(III)I"⟩ : MethodName) jdk_48_method_27_code 4 (some .int) :: ws) ({ frames := 1, cells := 0, slots := 0, locals := 14 } : Room)) (fun a U => a = #[(.int (16 : Int32)), (.int (9 : Int32)), (.int (18 : Int32))] ∧ Z.Warmed39 U.vm ∧ U.heap = h0) (fun _ _ _ _ _ => True) (fun _ U o U' => ∃ v L, o = .returned v ∧ Q_sbNewLen Z  h0 n0 v U'.heap L ∧ FrameEnd U o U' L ({ frames := 1, cells := 0, slots := 0, locals := 14 } : Room).cells ({ frames := 1, cells := 0, slots := 0, locals := 14 } : Room).slots) := by
  refine MetFree.of_bodySF (plainFor_of_name pn_jdk_internal_util_ArraysSupport) hisR ?_
  intro p e s m args below meth c s₁ Bd hml0 hP hK
  obtain ⟨rfl, hZ, hh⟩ := hP
  have hx := Bd.exec
  have hby := Bd.bytes
  have hml : c.maxLocals = 4 := hml0
  have hown : s.vm.findClass "jdk/internal/util/ArraysSupport" = some m.cls := findClass_of_methodNamed Bd.named
  have hnm := (name_of_methodNamed Bd.named Bd.method).1
  have X0 : Stand p l e ({ frames := 1, cells := 0, slots := 0, locals := 14 } : Room) s m #[(.int (16 : Int32)), (.int (9 : Int32)), (.int (18 : Int32))] below meth c s₁ [] 0 0 := Stand.of_body Bd
  have e0 : s₁.heap = h0 := by rw [← hh, Bd.state]; rfl
  have N0 := Fr.nil n0
  have pre0 : ∀ t, Steps p.tables e below (s₁.setTop (mkF m 0 #[.val (.int (16 : Int32)), .val (.int (9 : Int32)), .val (.int (18 : Int32)), .unset] [])) t → Steps p.tables e below (s₁.setTop (entryFrame m #[(.int (16 : Int32)), (.int (9 : Int32)), (.int (18 : Int32))] 4)) t := fun t k => castTop (ef_sbNewLen m (16 : Int32) (9 : Int32) (18 : Int32)) k
  obtain ⟨_, _, ⟨T1_, L1_, k1_, n1_⟩, -, X1_, ⟨Lc1_, hQ1_, l1_, y1_, z1_⟩, st1_⟩ := Jvm.LawKit.callS X0 hx (y := (⟨"java/lang/Math", "max", "(II)I"⟩ : MethodName)) hown (mvT hZ (hw _ (List.mem_of_getElem? (i := 84) rfl))) (mvT hZ (hw _ (List.mem_of_getElem? (i := 85) rfl))) (mvT hZ (hw _ (List.mem_of_getElem? (i := 86) rfl))) (mvT hZ (hw _ (List.mem_of_getElem? (i := 87) rfl))) (by decide) (backOf (W := 1) (sbMax l Z a0 hw [] (9 : Int32) (18 : Int32) h0 n0 Z0 (by decide)) hZ (hw _ (List.mem_of_getElem? (i := 87) rfl)) (hw _ (List.mem_of_getElem? (i := 86) rfl)) (by decide) (by decide)) (g := (mkF m 3 #[.val (.int (16 : Int32)), .val (.int (9 : Int32)), .val (.int (18 : Int32)), .unset] [(.int (18 : Int32)), (.int (9 : Int32)), (.int (16 : Int32))])) rfl (by rw [hml]; rfl) (argsL := [(.int (9 : Int32)), (.int (18 : Int32))]) (rest := [(.int (16 : Int32))]) (lenOf pd_qIIzI rfl) rfl (by show 2 * 0 + _ ≤ _; exact Nat.le_of_eq rfl) (hb hby d13_3) (fun _ _ => ⟨rfl, e0, (by exact Nat.le_of_ble_eq_true rfl), (by exact Nat.le_of_ble_eq_true rfl)⟩)
  dsimp only [Pt.U, Pt.locs, Pt.cells, Pt.slots] at X1_ l1_ y1_ z1_ st1_ hQ1_
  subst L1_ k1_ n1_
  obtain ⟨rfl, Nq1_, ek1_⟩ := hQ1_
  have N1_ := Fr.app N0 Nq1_
  obtain ⟨fs, hr, hrun, hended, hW, hsame⟩ := X1_.leave (v := some (.int (34 : Int32))) (fun h => by first | rfl | (rw [Bd.returns] at h; cases h))
  refine ⟨_, _, pre0 _ ?_, hrun, hended, _, _, rfl, ?_, ⟨_, rfl⟩, hW, hsame.mono (by exact Nat.le_of_ble_eq_true rfl) (by exact Nat.le_of_ble_eq_true rfl)⟩
  · show Steps p.tables e below (s₁.setTop (mkF m 0 #[.val (.int (16 : Int32)), .val (.int (9 : Int32)), .val (.int (18 : Int32)), .unset] [])) _
    refine XS.iloadN X0.here hx rfl (hb hby d13_0) rfl ?_
    refine XS.iloadN X0.here hx rfl (hb hby d13_1) rfl ?_
    refine XS.iloadN X0.here hx rfl (hb hby d13_2) rfl ?_
    refine st1_ _ ?_
    show Steps p.tables e below (T1_.setTop (mkF m 6 #[.val (.int (16 : Int32)), .val (.int (9 : Int32)), .val (.int (18 : Int32)), .unset] [(.int (18 : Int32)), (.int (16 : Int32))])) _
    refine XS.iadd X1_.here hx rfl (hb hby d13_6) rfl ?_
    show Steps p.tables e below (T1_.setTop (mkF m 7 #[.val (.int (16 : Int32)), .val (.int (9 : Int32)), .val (.int (18 : Int32)), .unset] [(.int (34 : Int32))])) _
    refine XS.istoreN X1_.here hx rfl (hb hby d13_7) rfl (l' := #[.val (.int (16 : Int32)), .val (.int (9 : Int32)), .val (.int (18 : Int32)), .val (.int (34 : Int32))]) rfl ?_
    show Steps p.tables e below (T1_.setTop (mkF m 8 #[.val (.int (16 : Int32)), .val (.int (9 : Int32)), .val (.int (18 : Int32)), .val (.int (34 : Int32))] [])) _
    refine XS.iconst X1_.here hx rfl (hb hby d13_8) ?_
    refine XS.iloadN X1_.here hx rfl (hb hby d13_9) rfl ?_
    refine XS.icmpNo X1_.here hx rfl (hb hby d13_10) rfl (tlt ((by decide) : (0 : Int32) < (34 : Int32))).2.1 ?_
    show Steps p.tables e below (T1_.setTop (mkF m 13 #[.val (.int (16 : Int32)), .val (.int (9 : Int32)), .val (.int (18 : Int32)), .val (.int (34 : Int32))] [])) _
    refine XS.iloadN X1_.here hx rfl (hb hby d13_13) rfl ?_
    refine X1_.ldcInt hx hown (mvT hZ (hw _ (List.mem_of_getElem? (i := 88) rfl))) (g := (mkF m 14 #[.val (.int (16 : Int32)), .val (.int (9 : Int32)), .val (.int (18 : Int32)), .val (.int (34 : Int32))] [(.int (34 : Int32))])) rfl (hb hby d13_14) _ ?_
    show Steps p.tables e below (T1_.setTop (mkF m 16 #[.val (.int (16 : Int32)), .val (.int (9 : Int32)), .val (.int (18 : Int32)), .val (.int (34 : Int32))] [(.int (2147483639 : Int32)), (.int (34 : Int32))])) _
    refine XS.icmpNo X1_.here hx rfl (hb hby d13_16) rfl (flt ((by decide) : ¬ ((2147483639 : Int32) < (34 : Int32)))).2.2.1 ?_
    show Steps p.tables e below (T1_.setTop (mkF m 19 #[.val (.int (16 : Int32)), .val (.int (9 : Int32)), .val (.int (18 : Int32)), .val (.int (34 : Int32))] [])) _
    refine XS.iloadN X1_.here hx rfl (hb hby d13_19) rfl ?_
    exact retI X1_ hx Bd.returns (hb hby d13_20) hr
  · show Q_sbNewLen Z  h0 n0 _ T1_.heap _
    rw [ek1_]
    exact ⟨rfl, N1_, rfl⟩
theorem d12_0 : decode jdk_68_method_10_code 0 = .ok (.aload_n 0, 1) := by decide +kernel
theorem d12_1 : decode jdk_68_method_10_code 1 = .ok (.getfield 15, 3) := by decide +kernel
theorem d12_4 : decode jdk_68_method_10_code 4 = .ok (.arraylength, 1) := by decide +kernel
theorem d12_5 : decode jdk_68_method_10_code 5 = .ok (.istore_n 2, 1) := by decide +kernel
theorem d12_6 : decode jdk_68_method_10_code 6 = .ok (.iload_n 1, 1) := by decide +kernel
theorem d12_7 : decode jdk_68_method_10_code 7 = .ok (.aload_n 0, 1) := by decide +kernel
theorem d12_8 : decode jdk_68_method_10_code 8 = .ok (.getfield 22, 3) := by decide +kernel
theorem d12_11 : decode jdk_68_method_10_code 11 = .ok (.ishl, 1) := by decide +kernel
theorem d12_12 : decode jdk_68_method_10_code 12 = .ok (.istore_n 3, 1) := by decide +kernel
theorem d12_13 : decode jdk_68_method_10_code 13 = .ok (.iload_n 3, 1) := by decide +kernel
theorem d12_14 : decode jdk_68_method_10_code 14 = .ok (.iload_n 2, 1) := by decide +kernel
theorem d12_15 : decode jdk_68_method_10_code 15 = .ok (.isub, 1) := by decide +kernel
theorem d12_16 : decode jdk_68_method_10_code 16 = .ok (.istore 4, 2) := by decide +kernel
theorem d12_18 : decode jdk_68_method_10_code 18 = .ok (.iload_n 2, 1) := by decide +kernel
theorem d12_19 : decode jdk_68_method_10_code 19 = .ok (.iload 4, 2) := by decide +kernel
theorem d12_21 : decode jdk_68_method_10_code 21 = .ok (.iload_n 2, 1) := by decide +kernel
theorem d12_22 : decode jdk_68_method_10_code 22 = .ok (.iconst 2, 1) := by decide +kernel
theorem d12_23 : decode jdk_68_method_10_code 23 = .ok (.aload_n 0, 1) := by decide +kernel
theorem d12_24 : decode jdk_68_method_10_code 24 = .ok (.getfield 22, 3) := by decide +kernel
theorem d12_27 : decode jdk_68_method_10_code 27 = .ok (.ishl, 1) := by decide +kernel
theorem d12_28 : decode jdk_68_method_10_code 28 = .ok (.iadd, 1) := by decide +kernel
theorem d12_29 : decode jdk_68_method_10_code 29 = .ok (.invokestatic 114, 3) := by decide +kernel
theorem pd_qIIIzI : parseMethodDescriptor "(III)I" = some ⟨[.int, .int, .int], some .int⟩ := by decide +kernel
theorem d12_32 : decode jdk_68_method_10_code 32 = .ok (.istore 5, 2) := by decide +kernel
theorem d12_34 : decode jdk_68_method_10_code 34 = .ok (.iload 5, 2) := by decide +kernel
theorem d12_36 : decode jdk_68_method_10_code 36 = .ok (.ldc 39, 2) := by decide +kernel
theorem d12_38 : decode jdk_68_method_10_code 38 = .ok (.if_icmp .ne 13, 3) := by decide +kernel
theorem d12_51 : decode jdk_68_method_10_code 51 = .ok (.iload 5, 2) := by decide +kernel
theorem d12_53 : decode jdk_68_method_10_code 53 = .ok (.aload_n 0, 1) := by decide +kernel
theorem d12_54 : decode jdk_68_method_10_code 54 = .ok (.getfield 22, 3) := by decide +kernel
theorem d12_57 : decode jdk_68_method_10_code 57 = .ok (.ishr, 1) := by decide +kernel
theorem d12_58 : decode jdk_68_method_10_code 58 = .ok (.ireturn, 1) := by decide +kernel
theorem ef_sbNewCap (m : MethodId) (x0 : Addr) (x1 : Int32) : entryFrame m #[(.ref x0), (.int x1)] 6 = mkF m 0 #[.val (.ref x0), .val (.int x1), .unset, .unset, .unset, .unset] [] := by first | (simp [entryFrame, mkF, argsToLocals, Value.category]; done) | rfl
def Q_sbNewCap (Z : State) (b1 : Addr) (v1 : Addr) (kv : ClassId) (h0 : Heap) (n0 : Nat) (v : Option Value) (h : Heap) (L : List Loc) : Prop := v = some (.int (34 : Int32)) ∧ Fr n0 L ∧ h = h0
set_option maxRecDepth 65536 in
set_option maxHeartbeats 40000000 in
theorem sbNewCap (l : Launch) (Z : State) (a0 : Array Value) (hw : ∀ d ∈ tables_1, d.before a0 Z = true) (ws : List Jvm.Cond) (b1 : Addr) (v1 : Addr) (kv : ClassId) (h0 : Heap) (n0 : Nat) (Z0 : n0 ≤ h0.size) (F1 : Fld Z h0 b1 "java/lang/AbstractStringBuilder" "coder" "B" (.int (0 : Int32))) (F2 : Fld Z h0 b1 "java/lang/AbstractStringBuilder" "value" "[B" (.ref v1)) (V1 : Arv Z h0 v1 kv .byte (16 : Int32) [(.int (0 : Int32)), (.int (0 : Int32)), (.int (0 : Int32)), (.int (0 : Int32)), (.int (0 : Int32)), (.int (0 : Int32)), (.int (0 : Int32)), (.int (0 : Int32)), (.int (0 : Int32)), (.int (0 : Int32)), (.int (0 : Int32)), (.int (0 : Int32)), (.int (0 : Int32)), (.int (0 : Int32)), (.int (0 : Int32)), (.int (0 : Int32))] (.int (0 : Int32))) :
    MetFree l (⟨"java/lang/AbstractStringBuilder", "newCapacity", "(I)I"⟩ : MethodName) (head1 (Jvm.Cond.code (⟨"java/lang/AbstractStringBuilder", "newCapacity", "(I)I"⟩ : MethodName) jdk_68_method_10_code 6 (some .int) :: ws) ({ frames := 2, cells := 0, slots := 0, locals := 29 } : Room)) (fun a U => a = #[(.ref b1), (.int (25 : Int32))] ∧ Z.Warmed39 U.vm ∧ U.heap = h0) (fun _ _ _ _ _ => True) (fun _ U o U' => ∃ v L, o = .returned v ∧ Q_sbNewCap Z b1 v1 kv h0 n0 v U'.heap L ∧ FrameEnd U o U' L ({ frames := 2, cells := 0, slots := 0, locals := 29 } : Room).cells ({ frames := 2, cells := 0, slots := 0, locals := 29 } : Room).slots) := by
  refine MetFree.of_bodySF (plainFor_of_name pn_java_lang_AbstractStringBuilder) hisR ?_
  intro p e s m args below meth c s₁ Bd hml0 hP hK
  obtain ⟨rfl, hZ, hh⟩ := hP
  have hx := Bd.exec
  have hby := Bd.bytes
  have hml : c.maxLocals = 6 := hml0
  have hown : s.vm.findClass "java/lang/AbstractStringBuilder" = some m.cls := findClass_of_methodNamed Bd.named
  have hnm := (name_of_methodNamed Bd.named Bd.method).1
  have X0 : Stand p l e ({ frames := 2, cells := 0, slots := 0, locals := 29 } : Room) s m #[(.ref b1), (.int (25 : Int32))] below meth c s₁ [] 0 0 := Stand.of_body Bd
  have e0 : s₁.heap = h0 := by rw [← hh, Bd.state]; rfl
  have N0 := Fr.nil n0
  have pre0 : ∀ t, Steps p.tables e below (s₁.setTop (mkF m 0 #[.val (.ref b1), .val (.int (25 : Int32)), .unset, .unset, .unset, .unset] [])) t → Steps p.tables e below (s₁.setTop (entryFrame m #[(.ref b1), (.int (25 : Int32))] 6)) t := fun t k => castTop (ef_sbNewCap m b1 (25 : Int32)) k
  obtain ⟨T1_, X1_, e1_, st1_⟩ := getF X0 hx hZ hown (host := "") (Or.inl (hw _ (List.mem_of_getElem? (i := 42) rfl))) Via.refl e0 F2 (g := (mkF m 1 #[.val (.ref b1), .val (.int (25 : Int32)), .unset, .unset, .unset, .unset] [(.ref b1)])) rfl rfl (hb hby d12_1)
  obtain ⟨cl2_, Ar2_, q2_, S2_, M2_, Hs2_, G2_⟩ := id V1
  obtain ⟨T3_, X3_, e3_, st3_⟩ := getF X1_ hx hZ hown (host := "") (Or.inl (hw _ (List.mem_of_getElem? (i := 44) rfl))) Via.refl e1_ F1 (g := (mkF m 8 #[.val (.ref b1), .val (.int (25 : Int32)), .val (.int (16 : Int32)), .unset, .unset, .unset] [(.ref b1), (.int (25 : Int32))])) rfl rfl (hb hby d12_8)
  obtain ⟨T4_, X4_, e4_, st4_⟩ := getF X3_ hx hZ hown (host := "") (Or.inl (hw _ (List.mem_of_getElem? (i := 44) rfl))) Via.refl e3_ F1 (g := (mkF m 24 #[.val (.ref b1), .val (.int (25 : Int32)), .val (.int (16 : Int32)), .val (.int (25 : Int32)), .val (.int (9 : Int32)), .unset] [(.ref b1), (.int (2 : Int32)), (.int (16 : Int32)), (.int (9 : Int32)), (.int (16 : Int32))])) rfl rfl (hb hby d12_24)
  obtain ⟨_, _, ⟨T5_, L5_, k5_, n5_⟩, -, X5_, ⟨Lc5_, hQ5_, l5_, y5_, z5_⟩, st5_⟩ := Jvm.LawKit.callS X4_ hx (y := (⟨"jdk/internal/util/ArraysSupport", "newLength", "(III)I"⟩ : MethodName)) hown (mvT hZ (hw _ (List.mem_of_getElem? (i := 80) rfl))) (mvT hZ (hw _ (List.mem_of_getElem? (i := 81) rfl))) (mvT hZ (hw _ (List.mem_of_getElem? (i := 82) rfl))) (mvT hZ (hw _ (List.mem_of_getElem? (i := 83) rfl))) (by decide) (backOf (W := 0) (sbNewLen l Z a0 hw []  h0 n0 Z0 ) hZ (hw _ (List.mem_of_getElem? (i := 83) rfl)) (hw _ (List.mem_of_getElem? (i := 82) rfl)) (by decide) (by decide)) (g := (mkF m 29 #[.val (.ref b1), .val (.int (25 : Int32)), .val (.int (16 : Int32)), .val (.int (25 : Int32)), .val (.int (9 : Int32)), .unset] [(.int (18 : Int32)), (.int (9 : Int32)), (.int (16 : Int32))])) rfl (by rw [hml]; rfl) (argsL := [(.int (16 : Int32)), (.int (9 : Int32)), (.int (18 : Int32))]) (rest := []) (lenOf pd_qIIIzI rfl) rfl (by show 2 * 0 + _ ≤ _; exact Nat.le_of_eq rfl) (hb hby d12_29) (fun _ _ => ⟨rfl, e4_, (by exact Nat.le_of_ble_eq_true rfl), (by exact Nat.le_of_ble_eq_true rfl)⟩)
  dsimp only [Pt.U, Pt.locs, Pt.cells, Pt.slots] at X5_ l5_ y5_ z5_ st5_ hQ5_
  subst L5_ k5_ n5_
  obtain ⟨rfl, Nq5_, ek5_⟩ := hQ5_
  have N5_ := Fr.app N0 Nq5_
  obtain ⟨T6_, X6_, e6_, st6_⟩ := getF X5_ hx hZ hown (host := "") (Or.inl (hw _ (List.mem_of_getElem? (i := 44) rfl))) Via.refl ek5_ F1 (g := (mkF m 54 #[.val (.ref b1), .val (.int (25 : Int32)), .val (.int (16 : Int32)), .val (.int (25 : Int32)), .val (.int (9 : Int32)), .val (.int (34 : Int32))] [(.ref b1), (.int (34 : Int32))])) rfl rfl (hb hby d12_54)
  obtain ⟨fs, hr, hrun, hended, hW, hsame⟩ := X6_.leave (v := some (.int (34 : Int32))) (fun h => by first | rfl | (rw [Bd.returns] at h; cases h))
  refine ⟨_, _, pre0 _ ?_, hrun, hended, _, _, rfl, ?_, ⟨_, rfl⟩, hW, hsame.mono (by exact Nat.le_of_ble_eq_true rfl) (by exact Nat.le_of_ble_eq_true rfl)⟩
  · show Steps p.tables e below (s₁.setTop (mkF m 0 #[.val (.ref b1), .val (.int (25 : Int32)), .unset, .unset, .unset, .unset] [])) _
    refine XS.aloadN X0.here hx rfl (hb hby d12_0) rfl rfl ?_
    refine st1_ _ ?_
    show Steps p.tables e below (T1_.setTop (mkF m 4 #[.val (.ref b1), .val (.int (25 : Int32)), .unset, .unset, .unset, .unset] [(.ref v1)])) _
    refine X1_.arraylength hx (by rw [e1_]; exact Ar2_.1) (State.isArrayOf_alike (State.Warmed39.alike hZ) Ar2_.2.1) (g := (mkF m 4 #[.val (.ref b1), .val (.int (25 : Int32)), .unset, .unset, .unset, .unset] [(.ref v1)])) rfl rfl (hb hby d12_4) _ ?_
    rw [len_of S2_ M2_]
    show Steps p.tables e below (T1_.setTop (mkF m 5 #[.val (.ref b1), .val (.int (25 : Int32)), .unset, .unset, .unset, .unset] [(.int (16 : Int32))])) _
    refine XS.istoreN X1_.here hx rfl (hb hby d12_5) rfl (l' := #[.val (.ref b1), .val (.int (25 : Int32)), .val (.int (16 : Int32)), .unset, .unset, .unset]) rfl ?_
    show Steps p.tables e below (T1_.setTop (mkF m 6 #[.val (.ref b1), .val (.int (25 : Int32)), .val (.int (16 : Int32)), .unset, .unset, .unset] [])) _
    refine XS.iloadN X1_.here hx rfl (hb hby d12_6) rfl ?_
    refine XS.aloadN X1_.here hx rfl (hb hby d12_7) rfl rfl ?_
    refine st3_ _ ?_
    show Steps p.tables e below (T3_.setTop (mkF m 11 #[.val (.ref b1), .val (.int (25 : Int32)), .val (.int (16 : Int32)), .unset, .unset, .unset] [(.int (0 : Int32)), (.int (25 : Int32))])) _
    refine XS.ishl X3_.here hx rfl (hb hby d12_11) rfl ?_
    show Steps p.tables e below (T3_.setTop (mkF m 12 #[.val (.ref b1), .val (.int (25 : Int32)), .val (.int (16 : Int32)), .unset, .unset, .unset] [(.int ((25 : Int32) <<< ((0 : Int32) &&& 31)))])) _
    rw [own_shl0]
    show Steps p.tables e below (T3_.setTop (mkF m 12 #[.val (.ref b1), .val (.int (25 : Int32)), .val (.int (16 : Int32)), .unset, .unset, .unset] [(.int (25 : Int32))])) _
    refine XS.istoreN X3_.here hx rfl (hb hby d12_12) rfl (l' := #[.val (.ref b1), .val (.int (25 : Int32)), .val (.int (16 : Int32)), .val (.int (25 : Int32)), .unset, .unset]) rfl ?_
    show Steps p.tables e below (T3_.setTop (mkF m 13 #[.val (.ref b1), .val (.int (25 : Int32)), .val (.int (16 : Int32)), .val (.int (25 : Int32)), .unset, .unset] [])) _
    refine XS.iloadN X3_.here hx rfl (hb hby d12_13) rfl ?_
    refine XS.iloadN X3_.here hx rfl (hb hby d12_14) rfl ?_
    refine XS.isub X3_.here hx rfl (hb hby d12_15) rfl ?_
    show Steps p.tables e below (T3_.setTop (mkF m 16 #[.val (.ref b1), .val (.int (25 : Int32)), .val (.int (16 : Int32)), .val (.int (25 : Int32)), .unset, .unset] [(.int (9 : Int32))])) _
    refine XS.istore X3_.here hx rfl (hb hby d12_16) rfl (l' := #[.val (.ref b1), .val (.int (25 : Int32)), .val (.int (16 : Int32)), .val (.int (25 : Int32)), .val (.int (9 : Int32)), .unset]) rfl ?_
    show Steps p.tables e below (T3_.setTop (mkF m 18 #[.val (.ref b1), .val (.int (25 : Int32)), .val (.int (16 : Int32)), .val (.int (25 : Int32)), .val (.int (9 : Int32)), .unset] [])) _
    refine XS.iloadN X3_.here hx rfl (hb hby d12_18) rfl ?_
    refine XS.iload X3_.here hx rfl (hb hby d12_19) rfl ?_
    refine XS.iloadN X3_.here hx rfl (hb hby d12_21) rfl ?_
    refine XS.iconst X3_.here hx rfl (hb hby d12_22) ?_
    refine XS.aloadN X3_.here hx rfl (hb hby d12_23) rfl rfl ?_
    refine st4_ _ ?_
    show Steps p.tables e below (T4_.setTop (mkF m 27 #[.val (.ref b1), .val (.int (25 : Int32)), .val (.int (16 : Int32)), .val (.int (25 : Int32)), .val (.int (9 : Int32)), .unset] [(.int (0 : Int32)), (.int (2 : Int32)), (.int (16 : Int32)), (.int (9 : Int32)), (.int (16 : Int32))])) _
    refine XS.ishl X4_.here hx rfl (hb hby d12_27) rfl ?_
    show Steps p.tables e below (T4_.setTop (mkF m 28 #[.val (.ref b1), .val (.int (25 : Int32)), .val (.int (16 : Int32)), .val (.int (25 : Int32)), .val (.int (9 : Int32)), .unset] [(.int ((2 : Int32) <<< ((0 : Int32) &&& 31))), (.int (16 : Int32)), (.int (9 : Int32)), (.int (16 : Int32))])) _
    rw [own_shl0]
    show Steps p.tables e below (T4_.setTop (mkF m 28 #[.val (.ref b1), .val (.int (25 : Int32)), .val (.int (16 : Int32)), .val (.int (25 : Int32)), .val (.int (9 : Int32)), .unset] [(.int (2 : Int32)), (.int (16 : Int32)), (.int (9 : Int32)), (.int (16 : Int32))])) _
    refine XS.iadd X4_.here hx rfl (hb hby d12_28) rfl ?_
    show Steps p.tables e below (T4_.setTop (mkF m 29 #[.val (.ref b1), .val (.int (25 : Int32)), .val (.int (16 : Int32)), .val (.int (25 : Int32)), .val (.int (9 : Int32)), .unset] [(.int (18 : Int32)), (.int (9 : Int32)), (.int (16 : Int32))])) _
    refine st5_ _ ?_
    show Steps p.tables e below (T5_.setTop (mkF m 32 #[.val (.ref b1), .val (.int (25 : Int32)), .val (.int (16 : Int32)), .val (.int (25 : Int32)), .val (.int (9 : Int32)), .unset] [(.int (34 : Int32))])) _
    refine XS.istore X5_.here hx rfl (hb hby d12_32) rfl (l' := #[.val (.ref b1), .val (.int (25 : Int32)), .val (.int (16 : Int32)), .val (.int (25 : Int32)), .val (.int (9 : Int32)), .val (.int (34 : Int32))]) rfl ?_
    show Steps p.tables e below (T5_.setTop (mkF m 34 #[.val (.ref b1), .val (.int (25 : Int32)), .val (.int (16 : Int32)), .val (.int (25 : Int32)), .val (.int (9 : Int32)), .val (.int (34 : Int32))] [])) _
    refine XS.iload X5_.here hx rfl (hb hby d12_34) rfl ?_
    refine X5_.ldcInt hx hown (mvT hZ (hw _ (List.mem_of_getElem? (i := 89) rfl))) (g := (mkF m 36 #[.val (.ref b1), .val (.int (25 : Int32)), .val (.int (16 : Int32)), .val (.int (25 : Int32)), .val (.int (9 : Int32)), .val (.int (34 : Int32))] [(.int (34 : Int32))])) rfl (hb hby d12_36) _ ?_
    show Steps p.tables e below (T5_.setTop (mkF m 38 #[.val (.ref b1), .val (.int (25 : Int32)), .val (.int (16 : Int32)), .val (.int (25 : Int32)), .val (.int (9 : Int32)), .val (.int (34 : Int32))] [(.int (2147483647 : Int32)), (.int (34 : Int32))])) _
    refine XS.icmpYes X5_.here hx rfl (pc0 := 38) (pc' := 51) rfl (hb hby d12_38) rfl (feq ((by decide) : ¬ ((34 : Int32) = (2147483647 : Int32)))).2 (by decide) (by decide) ?_
    show Steps p.tables e below (T5_.setTop (mkF m 51 #[.val (.ref b1), .val (.int (25 : Int32)), .val (.int (16 : Int32)), .val (.int (25 : Int32)), .val (.int (9 : Int32)), .val (.int (34 : Int32))] [])) _
    refine XS.iload X5_.here hx rfl (hb hby d12_51) rfl ?_
    refine XS.aloadN X5_.here hx rfl (hb hby d12_53) rfl rfl ?_
    refine st6_ _ ?_
    show Steps p.tables e below (T6_.setTop (mkF m 57 #[.val (.ref b1), .val (.int (25 : Int32)), .val (.int (16 : Int32)), .val (.int (25 : Int32)), .val (.int (9 : Int32)), .val (.int (34 : Int32))] [(.int (0 : Int32)), (.int (34 : Int32))])) _
    refine XS.ishr X6_.here hx rfl (hb hby d12_57) rfl ?_
    show Steps p.tables e below (T6_.setTop (mkF m 58 #[.val (.ref b1), .val (.int (25 : Int32)), .val (.int (16 : Int32)), .val (.int (25 : Int32)), .val (.int (9 : Int32)), .val (.int (34 : Int32))] [(.int ((34 : Int32) >>> ((0 : Int32) &&& 31)))])) _
    rw [own_shr0]
    show Steps p.tables e below (T6_.setTop (mkF m 58 #[.val (.ref b1), .val (.int (25 : Int32)), .val (.int (16 : Int32)), .val (.int (25 : Int32)), .val (.int (9 : Int32)), .val (.int (34 : Int32))] [(.int (34 : Int32))])) _
    exact retI X6_ hx Bd.returns (hb hby d12_58) hr
  · show Q_sbNewCap Z b1 v1 kv h0 n0 _ T6_.heap _
    rw [e6_]
    exact ⟨rfl, N5_, rfl⟩
theorem d16_0 : decode jdk_29_method_69_code 0 = .ok (.iload_n 0, 1) := by decide +kernel
theorem d16_1 : decode jdk_29_method_69_code 1 = .ok (.iload_n 1, 1) := by decide +kernel
theorem d16_2 : decode jdk_29_method_69_code 2 = .ok (.if_icmp .gt 7, 3) := by decide +kernel
theorem d16_5 : decode jdk_29_method_69_code 5 = .ok (.iload_n 0, 1) := by decide +kernel
theorem d16_6 : decode jdk_29_method_69_code 6 = .ok (.goto 4, 3) := by decide +kernel
theorem d16_10 : decode jdk_29_method_69_code 10 = .ok (.ireturn, 1) := by decide +kernel
theorem ef_sbMinA (m : MethodId) (x0 : Int32) (x1 : Int32) : entryFrame m #[(.int x0), (.int x1)] 2 = mkF m 0 #[.val (.int x0), .val (.int x1)] [] := by first | (simp [entryFrame, mkF, argsToLocals, Value.category]; done) | rfl
def Q_sbMinA (Z : State) (p1 : Int32) (p2 : Int32) (h0 : Heap) (n0 : Nat) (v : Option Value) (h : Heap) (L : List Loc) : Prop := v = some (.int p1) ∧ Fr n0 L ∧ h = h0
set_option maxRecDepth 65536 in
set_option maxHeartbeats 40000000 in
theorem sbMinA (l : Launch) (Z : State) (a0 : Array Value) (hw : ∀ d ∈ tables_1, d.before a0 Z = true) (ws : List Jvm.Cond) (p1 : Int32) (p2 : Int32) (h0 : Heap) (n0 : Nat) (Z0 : n0 ≤ h0.size) (hp : ¬ (p2 < p1)) :
    MetFree l (⟨"java/lang/Math", "min", "(II)I"⟩ : MethodName) (head1 (Jvm.Cond.code (⟨"java/lang/Math", "min", "(II)I"⟩ : MethodName) jdk_29_method_69_code 2 (some .int) :: ws) ({ frames := 0, cells := 0, slots := 0, locals := 0 } : Room)) (fun a U => a = #[(.int p1), (.int p2)] ∧ Z.Warmed39 U.vm ∧ U.heap = h0) (fun _ _ _ _ _ => True) (fun _ U o U' => ∃ v L, o = .returned v ∧ Q_sbMinA Z p1 p2 h0 n0 v U'.heap L ∧ FrameEnd U o U' L ({ frames := 0, cells := 0, slots := 0, locals := 0 } : Room).cells ({ frames := 0, cells := 0, slots := 0, locals := 0 } : Room).slots) := by
  refine MetFree.of_bodySF (Jvm.Free.JP.mathPlain rfl (by decide +kernel)) hisR ?_
  intro p e s m args below meth c s₁ Bd hml0 hP hK
  obtain ⟨rfl, hZ, hh⟩ := hP
  have hx := Bd.exec
  have hby := Bd.bytes
  have hml : c.maxLocals = 2 := hml0
  have hown : s.vm.findClass "java/lang/Math" = some m.cls := findClass_of_methodNamed Bd.named
  have hnm := (name_of_methodNamed Bd.named Bd.method).1
  have X0 : Stand p l e ({ frames := 0, cells := 0, slots := 0, locals := 0 } : Room) s m #[(.int p1), (.int p2)] below meth c s₁ [] 0 0 := Stand.of_body Bd
  have e0 : s₁.heap = h0 := by rw [← hh, Bd.state]; rfl
  have N0 := Fr.nil n0
  have pre0 : ∀ t, Steps p.tables e below (s₁.setTop (mkF m 0 #[.val (.int p1), .val (.int p2)] [])) t → Steps p.tables e below (s₁.setTop (entryFrame m #[(.int p1), (.int p2)] 2)) t := fun t k => castTop (ef_sbMinA m p1 p2) k
  obtain ⟨fs, hr, hrun, hended, hW, hsame⟩ := X0.leave (v := some (.int p1)) (fun h => by first | rfl | (rw [Bd.returns] at h; cases h))
  refine ⟨_, _, pre0 _ ?_, hrun, hended, _, _, rfl, ?_, ⟨_, rfl⟩, hW, hsame.mono (by exact Nat.le_of_ble_eq_true rfl) (by exact Nat.le_of_ble_eq_true rfl)⟩
  · show Steps p.tables e below (s₁.setTop (mkF m 0 #[.val (.int p1), .val (.int p2)] [])) _
    refine XS.iloadN X0.here hx rfl (hb hby d16_0) rfl ?_
    refine XS.iloadN X0.here hx rfl (hb hby d16_1) rfl ?_
    refine XS.icmpNo X0.here hx rfl (hb hby d16_2) rfl (flt (hp : ¬ (p2 < p1))).2.2.1 ?_
    show Steps p.tables e below (s₁.setTop (mkF m 5 #[.val (.int p1), .val (.int p2)] [])) _
    refine XS.iloadN X0.here hx rfl (hb hby d16_5) rfl ?_
    refine XS.goto X0.here hx rfl (pc0 := 6) (pc' := 10) rfl (hb hby d16_6) (by decide) (by decide) ?_
    show Steps p.tables e below (s₁.setTop (mkF m 10 #[.val (.int p1), .val (.int p2)] [(.int p1)])) _
    exact retI X0 hx Bd.returns (hb hby d16_10) hr
  · show Q_sbMinA Z p1 p2 h0 n0 _ s₁.heap _
    rw [e0]
    exact ⟨rfl, N0, rfl⟩
theorem d15_0 : decode jdk_65_method_121_code 0 = .ok (.iload_n 1, 1) := by decide +kernel
theorem d15_1 : decode jdk_65_method_121_code 1 = .ok (.aload_n 0, 1) := by decide +kernel
theorem d15_2 : decode jdk_65_method_121_code 2 = .ok (.arraylength, 1) := by decide +kernel
theorem d15_3 : decode jdk_65_method_121_code 3 = .ok (.if_icmp .ne 11, 3) := by decide +kernel
theorem d15_14 : decode jdk_65_method_121_code 14 = .ok (.iload_n 1, 1) := by decide +kernel
theorem d15_15 : decode jdk_65_method_121_code 15 = .ok (.newarray .byte, 2) := by decide +kernel
theorem d15_17 : decode jdk_65_method_121_code 17 = .ok (.astore_n 2, 1) := by decide +kernel
theorem d15_18 : decode jdk_65_method_121_code 18 = .ok (.aload_n 0, 1) := by decide +kernel
theorem d15_19 : decode jdk_65_method_121_code 19 = .ok (.iconst 0, 1) := by decide +kernel
theorem d15_20 : decode jdk_65_method_121_code 20 = .ok (.aload_n 2, 1) := by decide +kernel
theorem d15_21 : decode jdk_65_method_121_code 21 = .ok (.iconst 0, 1) := by decide +kernel
theorem d15_22 : decode jdk_65_method_121_code 22 = .ok (.aload_n 0, 1) := by decide +kernel
theorem d15_23 : decode jdk_65_method_121_code 23 = .ok (.arraylength, 1) := by decide +kernel
theorem d15_24 : decode jdk_65_method_121_code 24 = .ok (.iload_n 1, 1) := by decide +kernel
theorem d15_25 : decode jdk_65_method_121_code 25 = .ok (.invokestatic 304, 3) := by decide +kernel
theorem d15_28 : decode jdk_65_method_121_code 28 = .ok (.invokestatic 150, 3) := by decide +kernel
theorem d15_31 : decode jdk_65_method_121_code 31 = .ok (.aload_n 2, 1) := by decide +kernel
theorem d15_32 : decode jdk_65_method_121_code 32 = .ok (.areturn, 1) := by decide +kernel
theorem pn_java_util_Arrays : plainName "java/util/Arrays" = true := by first | (simp [plainName, overriddenIn]; done) | decide +kernel
theorem ef_sbCopyOf (m : MethodId) (x0 : Addr) (x1 : Int32) : entryFrame m #[(.ref x0), (.int x1)] 3 = mkF m 0 #[.val (.ref x0), .val (.int x1), .unset] [] := by first | (simp [entryFrame, mkF, argsToLocals, Value.category]; done) | rfl
def Q_sbCopyOf (Z : State) (v1 : Addr) (kv : ClassId) (h0 : Heap) (n0 : Nat) (v : Option Value) (h : Heap) (L : List Loc) : Prop := ∃ (v2 : Addr) (k2 : ClassId), v = some (.ref v2) ∧ Fr n0 L ∧ Keep h0 h [] ∧ (Arv Z h v2 k2 .byte (34 : Int32) [(.int (0 : Int32)), (.int (0 : Int32)), (.int (0 : Int32)), (.int (0 : Int32)), (.int (0 : Int32)), (.int (0 : Int32)), (.int (0 : Int32)), (.int (0 : Int32)), (.int (0 : Int32)), (.int (0 : Int32)), (.int (0 : Int32)), (.int (0 : Int32)), (.int (0 : Int32)), (.int (0 : Int32)), (.int (0 : Int32)), (.int (0 : Int32)), (.int (0 : Int32)), (.int (0 : Int32)), (.int (0 : Int32)), (.int (0 : Int32)), (.int (0 : Int32)), (.int (0 : Int32)), (.int (0 : Int32)), (.int (0 : Int32)), (.int (0 : Int32)), (.int (0 : Int32)), (.int (0 : Int32)), (.int (0 : Int32)), (.int (0 : Int32)), (.int (0 : Int32)), (.int (0 : Int32)), (.int (0 : Int32)), (.int (0 : Int32)), (.int (0 : Int32))] (.int (0 : Int32))) ∧ (h0.size ≤ v2)
set_option maxRecDepth 65536 in
set_option maxHeartbeats 40000000 in
theorem sbCopyOf (l : Launch) (Z : State) (a0 : Array Value) (hw : ∀ d ∈ tables_1, d.before a0 Z = true) (ws : List Jvm.Cond) (v1 : Addr) (kv : ClassId) (h0 : Heap) (n0 : Nat) (Z0 : n0 ≤ h0.size) (V1 : Arv Z h0 v1 kv .byte (16 : Int32) [(.int (0 : Int32)), (.int (0 : Int32)), (.int (0 : Int32)), (.int (0 : Int32)), (.int (0 : Int32)), (.int (0 : Int32)), (.int (0 : Int32)), (.int (0 : Int32)), (.int (0 : Int32)), (.int (0 : Int32)), (.int (0 : Int32)), (.int (0 : Int32)), (.int (0 : Int32)), (.int (0 : Int32)), (.int (0 : Int32)), (.int (0 : Int32))] (.int (0 : Int32))) :
    MetFree l (⟨"java/util/Arrays", "copyOf", "([BI)[B"⟩ : MethodName) (head1 (Jvm.Cond.code (⟨"java/util/Arrays", "copyOf", "([BI)[B"⟩ : MethodName) jdk_65_method_121_code 3 (some (.array .byte)) :: ws) ({ frames := 1, cells := 1, slots := 34, locals := 18 } : Room)) (fun a U => a = #[(.ref v1), (.int (34 : Int32))] ∧ Z.Warmed39 U.vm ∧ U.heap = h0) (fun _ _ _ _ _ => True) (fun _ U o U' => ∃ v L, o = .returned v ∧ Q_sbCopyOf Z v1 kv h0 n0 v U'.heap L ∧ FrameEnd U o U' L ({ frames := 1, cells := 1, slots := 34, locals := 18 } : Room).cells ({ frames := 1, cells := 1, slots := 34, locals := 18 } : Room).slots) := by
  refine MetFree.of_bodySF (plainFor_of_name pn_java_util_Arrays) hisR ?_
  intro p e s m args below meth c s₁ Bd hml0 hP hK
  obtain ⟨rfl, hZ, hh⟩ := hP
  have hx := Bd.exec
  have hby := Bd.bytes
  have hml : c.maxLocals = 3 := hml0
  have hown : s.vm.findClass "java/util/Arrays" = some m.cls := findClass_of_methodNamed Bd.named
  have hnm := (name_of_methodNamed Bd.named Bd.method).1
  have X0 : Stand p l e ({ frames := 1, cells := 1, slots := 34, locals := 18 } : Room) s m #[(.ref v1), (.int (34 : Int32))] below meth c s₁ [] 0 0 := Stand.of_body Bd
  have e0 : s₁.heap = h0 := by rw [← hh, Bd.state]; rfl
  have N0 := Fr.nil n0
  have pre0 : ∀ t, Steps p.tables e below (s₁.setTop (mkF m 0 #[.val (.ref v1), .val (.int (34 : Int32)), .unset] [])) t → Steps p.tables e below (s₁.setTop (entryFrame m #[(.ref v1), (.int (34 : Int32))] 3)) t := fun t k => castTop (ef_sbCopyOf m v1 (34 : Int32)) k
  obtain ⟨cl1_, Ar1_, q1_, S1_, M1_, Hs1_, G1_⟩ := id V1
  obtain ⟨T2_, h2_, k2_, X2_, e2_, E2_, A2_, st2_⟩ := newP X0 hx hZ (hw _ (List.mem_of_getElem? (i := 15) rfl)) e0 (g := (mkF m 15 #[.val (.ref v1), .val (.int (34 : Int32)), .unset] [(.int (34 : Int32))])) rfl (hb hby d15_15) rfl (by decide) (cap := 34) (by decide) (by decide) (by exact Nat.le_of_ble_eq_true rfl) (by exact Nat.le_of_ble_eq_true rfl)
  obtain ⟨b2_, g2_⟩ : ∃ z, z = h0.size := ⟨_, rfl⟩
  rw [← g2_] at A2_ st2_
  have v2_ : Arv Z h2_ b2_ k2_ .byte (34 : Int32) [(.int (0 : Int32)), (.int (0 : Int32)), (.int (0 : Int32)), (.int (0 : Int32)), (.int (0 : Int32)), (.int (0 : Int32)), (.int (0 : Int32)), (.int (0 : Int32)), (.int (0 : Int32)), (.int (0 : Int32)), (.int (0 : Int32)), (.int (0 : Int32)), (.int (0 : Int32)), (.int (0 : Int32)), (.int (0 : Int32)), (.int (0 : Int32)), (.int (0 : Int32)), (.int (0 : Int32)), (.int (0 : Int32)), (.int (0 : Int32)), (.int (0 : Int32)), (.int (0 : Int32)), (.int (0 : Int32)), (.int (0 : Int32)), (.int (0 : Int32)), (.int (0 : Int32)), (.int (0 : Int32)), (.int (0 : Int32)), (.int (0 : Int32)), (.int (0 : Int32)), (.int (0 : Int32)), (.int (0 : Int32)), (.int (0 : Int32)), (.int (0 : Int32))] (.int (0 : Int32)) := (Arv.new A2_ (by decide)).pad (pad_rep [] (.int (0 : Int32)) 34)
  have f3_ : Arv Z h2_ v1 kv .byte (16 : Int32) [(.int (0 : Int32)), (.int (0 : Int32)), (.int (0 : Int32)), (.int (0 : Int32)), (.int (0 : Int32)), (.int (0 : Int32)), (.int (0 : Int32)), (.int (0 : Int32)), (.int (0 : Int32)), (.int (0 : Int32)), (.int (0 : Int32)), (.int (0 : Int32)), (.int (0 : Int32)), (.int (0 : Int32)), (.int (0 : Int32)), (.int (0 : Int32))] (.int (0 : Int32)) := (V1.ext E2_)
  obtain ⟨cl4_, Ar4_, q4_, S4_, M4_, Hs4_, G4_⟩ := id f3_
  have z6_ : n0 ≤ h2_.size := Nat.le_trans Z0 E2_.1
  obtain ⟨_, _, ⟨T5_, L5_, k5_, n5_⟩, -, X5_, ⟨Lc5_, hQ5_, l5_, y5_, z5_⟩, st5_⟩ := Jvm.LawKit.callS X2_ hx (y := (⟨"java/lang/Math", "min", "(II)I"⟩ : MethodName)) hown (mvT hZ (hw _ (List.mem_of_getElem? (i := 94) rfl))) (mvT hZ (hw _ (List.mem_of_getElem? (i := 95) rfl))) (mvT hZ (hw _ (List.mem_of_getElem? (i := 86) rfl))) (mvT hZ (hw _ (List.mem_of_getElem? (i := 96) rfl))) (by decide) (backOf (W := 4) (sbMinA l Z a0 hw [] (16 : Int32) (34 : Int32) h2_ n0 z6_ (by decide)) hZ (hw _ (List.mem_of_getElem? (i := 96) rfl)) (hw _ (List.mem_of_getElem? (i := 86) rfl)) (by decide) (by decide)) (g := (mkF m 25 #[.val (.ref v1), .val (.int (34 : Int32)), .val (.ref b2_)] [(.int (34 : Int32)), (.int (16 : Int32)), (.int (0 : Int32)), (.ref b2_), (.int (0 : Int32)), (.ref v1)])) rfl (by rw [hml]; rfl) (argsL := [(.int (16 : Int32)), (.int (34 : Int32))]) (rest := [(.int (0 : Int32)), (.ref b2_), (.int (0 : Int32)), (.ref v1)]) (lenOf pd_qIIzI rfl) rfl (by show 2 * 0 + _ ≤ _; exact Nat.le_of_eq rfl) (hb hby d15_25) (fun _ _ => ⟨rfl, e2_, (by exact Nat.le_of_ble_eq_true rfl), (by exact Nat.le_of_ble_eq_true rfl)⟩)
  dsimp only [Pt.U, Pt.locs, Pt.cells, Pt.slots] at X5_ l5_ y5_ z5_ st5_ hQ5_
  subst L5_ k5_ n5_
  obtain ⟨rfl, Nq5_, ek5_⟩ := hQ5_
  have N5_ := Fr.app N0 Nq5_
  have g8_ : n0 ≤ b2_ := Nat.le_trans Z0 (Nat.le_of_eq g2_.symm)
  obtain ⟨T7_, h7_, L7_, X7_, e7_, N7_, K7_, V7_, st7_⟩ := cpA X5_ hx hZ hown (hw _ (List.mem_of_getElem? (i := 97) rfl)) (hw _ (List.mem_of_getElem? (i := 100) rfl)) (hw _ (List.mem_of_getElem? (i := 98) rfl)) (hw _ (List.mem_of_getElem? (i := 99) rfl)) ek5_ f3_ v2_ (us := [(.int (0 : Int32)), (.int (0 : Int32)), (.int (0 : Int32)), (.int (0 : Int32)), (.int (0 : Int32)), (.int (0 : Int32)), (.int (0 : Int32)), (.int (0 : Int32)), (.int (0 : Int32)), (.int (0 : Int32)), (.int (0 : Int32)), (.int (0 : Int32)), (.int (0 : Int32)), (.int (0 : Int32)), (.int (0 : Int32)), (.int (0 : Int32))]) (Or.inl ⟨rfl, rfl⟩) (by decide) (by decide) (by decide) (by decide) (by decide) rfl (by decide) N5_ g8_ (g := (mkF m 28 #[.val (.ref v1), .val (.int (34 : Int32)), .val (.ref b2_)] [(.int (16 : Int32)), (.int (0 : Int32)), (.ref b2_), (.int (0 : Int32)), (.ref v1)])) rfl (by rw [hml]; rfl) rfl (hb hby d15_28) (by decide) (W := 0) (by show 2 * 0 + _ ≤ _; exact Nat.le_of_eq rfl) (by decide)
  have v7_ : Arv Z h7_ b2_ k2_ .byte (34 : Int32) [(.int (0 : Int32)), (.int (0 : Int32)), (.int (0 : Int32)), (.int (0 : Int32)), (.int (0 : Int32)), (.int (0 : Int32)), (.int (0 : Int32)), (.int (0 : Int32)), (.int (0 : Int32)), (.int (0 : Int32)), (.int (0 : Int32)), (.int (0 : Int32)), (.int (0 : Int32)), (.int (0 : Int32)), (.int (0 : Int32)), (.int (0 : Int32)), (.int (0 : Int32)), (.int (0 : Int32)), (.int (0 : Int32)), (.int (0 : Int32)), (.int (0 : Int32)), (.int (0 : Int32)), (.int (0 : Int32)), (.int (0 : Int32)), (.int (0 : Int32)), (.int (0 : Int32)), (.int (0 : Int32)), (.int (0 : Int32)), (.int (0 : Int32)), (.int (0 : Int32)), (.int (0 : Int32)), (.int (0 : Int32)), (.int (0 : Int32)), (.int (0 : Int32))] (.int (0 : Int32)) := V7_
  have k9_ : Keep h0 h2_ [] := (Keep.refl h0 []).ext E2_
  have k10_ : Keep h0 h7_ [] := k9_.trans K7_ (allS (Or.inr (Nat.le_trans (Keep.refl h0 []).1 (Nat.le_of_eq g2_.symm))) all0)
  obtain ⟨fs, hr, hrun, hended, hW, hsame⟩ := X7_.leave (v := some (.ref b2_)) (fun h => by first | rfl | (rw [Bd.returns] at h; cases h))
  refine ⟨_, _, pre0 _ ?_, hrun, hended, _, _, rfl, ?_, ⟨_, rfl⟩, hW, hsame.mono (by exact Nat.le_of_ble_eq_true rfl) (by exact Nat.le_of_ble_eq_true rfl)⟩
  · show Steps p.tables e below (s₁.setTop (mkF m 0 #[.val (.ref v1), .val (.int (34 : Int32)), .unset] [])) _
    refine XS.iloadN X0.here hx rfl (hb hby d15_0) rfl ?_
    refine XS.aloadN X0.here hx rfl (hb hby d15_1) rfl rfl ?_
    refine X0.arraylength hx (by rw [e0]; exact Ar1_.1) (State.isArrayOf_alike (State.Warmed39.alike hZ) Ar1_.2.1) (g := (mkF m 2 #[.val (.ref v1), .val (.int (34 : Int32)), .unset] [(.ref v1), (.int (34 : Int32))])) rfl rfl (hb hby d15_2) _ ?_
    rw [len_of S1_ M1_]
    show Steps p.tables e below (s₁.setTop (mkF m 3 #[.val (.ref v1), .val (.int (34 : Int32)), .unset] [(.int (16 : Int32)), (.int (34 : Int32))])) _
    refine XS.icmpYes X0.here hx rfl (pc0 := 3) (pc' := 14) rfl (hb hby d15_3) rfl (feq ((by decide) : ¬ ((34 : Int32) = (16 : Int32)))).2 (by decide) (by decide) ?_
    show Steps p.tables e below (s₁.setTop (mkF m 14 #[.val (.ref v1), .val (.int (34 : Int32)), .unset] [])) _
    refine XS.iloadN X0.here hx rfl (hb hby d15_14) rfl ?_
    refine st2_ _ ?_
    show Steps p.tables e below (T2_.setTop (mkF m 17 #[.val (.ref v1), .val (.int (34 : Int32)), .unset] [(.ref b2_)])) _
    refine XS.astoreN X2_.here hx rfl (hb hby d15_17) rfl rfl (l' := #[.val (.ref v1), .val (.int (34 : Int32)), .val (.ref b2_)]) rfl ?_
    show Steps p.tables e below (T2_.setTop (mkF m 18 #[.val (.ref v1), .val (.int (34 : Int32)), .val (.ref b2_)] [])) _
    refine XS.aloadN X2_.here hx rfl (hb hby d15_18) rfl rfl ?_
    refine XS.iconst X2_.here hx rfl (hb hby d15_19) ?_
    refine XS.aloadN X2_.here hx rfl (hb hby d15_20) rfl rfl ?_
    refine XS.iconst X2_.here hx rfl (hb hby d15_21) ?_
    refine XS.aloadN X2_.here hx rfl (hb hby d15_22) rfl rfl ?_
    refine X2_.arraylength hx (by rw [e2_]; exact Ar4_.1) (State.isArrayOf_alike (State.Warmed39.alike hZ) Ar4_.2.1) (g := (mkF m 23 #[.val (.ref v1), .val (.int (34 : Int32)), .val (.ref b2_)] [(.ref v1), (.int (0 : Int32)), (.ref b2_), (.int (0 : Int32)), (.ref v1)])) rfl rfl (hb hby d15_23) _ ?_
    rw [len_of S4_ M4_]
    show Steps p.tables e below (T2_.setTop (mkF m 24 #[.val (.ref v1), .val (.int (34 : Int32)), .val (.ref b2_)] [(.int (16 : Int32)), (.int (0 : Int32)), (.ref b2_), (.int (0 : Int32)), (.ref v1)])) _
    refine XS.iloadN X2_.here hx rfl (hb hby d15_24) rfl ?_
    refine st5_ _ ?_
    show Steps p.tables e below (T5_.setTop (mkF m 28 #[.val (.ref v1), .val (.int (34 : Int32)), .val (.ref b2_)] [(.int (16 : Int32)), (.int (0 : Int32)), (.ref b2_), (.int (0 : Int32)), (.ref v1)])) _
    refine st7_ _ ?_
    show Steps p.tables e below (T7_.setTop (mkF m 31 #[.val (.ref v1), .val (.int (34 : Int32)), .val (.ref b2_)] [])) _
    refine XS.aloadN X7_.here hx rfl (hb hby d15_31) rfl rfl ?_
    exact retR X7_ hx Bd.returns rfl rfl rfl (hb hby d15_32) hr
  · show Q_sbCopyOf Z v1 kv h0 n0 _ T7_.heap _
    rw [e7_]
    exact ⟨b2_, k2_, rfl, N7_, k10_, v7_, (Nat.le_trans (Keep.refl h0 []).1 (Nat.le_of_eq g2_.symm))⟩
theorem d11_17 : decode jdk_68_method_9_code 17 = .ok (.aload_n 0, 1) := by decide +kernel
theorem d11_18 : decode jdk_68_method_9_code 18 = .ok (.aload_n 0, 1) := by decide +kernel
theorem d11_19 : decode jdk_68_method_9_code 19 = .ok (.getfield 15, 3) := by decide +kernel
theorem d11_22 : decode jdk_68_method_9_code 22 = .ok (.aload_n 0, 1) := by decide +kernel
theorem d11_23 : decode jdk_68_method_9_code 23 = .ok (.iload_n 1, 1) := by decide +kernel
theorem d11_24 : decode jdk_68_method_9_code 24 = .ok (.invokevirtual 104, 3) := by decide +kernel
theorem pd_qIzI : parseMethodDescriptor "(I)I" = some ⟨[.int], some .int⟩ := by decide +kernel
theorem d11_27 : decode jdk_68_method_9_code 27 = .ok (.aload_n 0, 1) := by decide +kernel
theorem d11_28 : decode jdk_68_method_9_code 28 = .ok (.getfield 22, 3) := by decide +kernel
theorem d11_31 : decode jdk_68_method_9_code 31 = .ok (.ishl, 1) := by decide +kernel
theorem d11_32 : decode jdk_68_method_9_code 32 = .ok (.invokestatic 108, 3) := by decide +kernel
theorem pd_qaBIzaB : parseMethodDescriptor "([BI)[B" = some ⟨[(.array .byte), .int], some (.array .byte)⟩ := by decide +kernel
theorem d11_35 : decode jdk_68_method_9_code 35 = .ok (.putfield 15, 3) := by decide +kernel
theorem ef_sbEnsG (m : MethodId) (x0 : Addr) (x1 : Int32) : entryFrame m #[(.ref x0), (.int x1)] 3 = mkF m 0 #[.val (.ref x0), .val (.int x1), .unset] [] := by first | (simp [entryFrame, mkF, argsToLocals, Value.category]; done) | rfl
def Q_sbEnsG (Z : State) (b1 : Addr) (v1 : Addr) (kv : ClassId) (h0 : Heap) (n0 : Nat) (v : Option Value) (h : Heap) (L : List Loc) : Prop := ∃ (v2 : Addr) (k2 : ClassId), v = none ∧ Fr n0 L ∧ Keep h0 h [b1] ∧ (Fld Z h b1 "java/lang/AbstractStringBuilder" "coder" "B" (.int (0 : Int32))) ∧ (Fld Z h b1 "java/lang/AbstractStringBuilder" "value" "[B" (.ref v2)) ∧ (Fld Z h b1 "java/lang/AbstractStringBuilder" "count" "I" (.int (Int32.ofNat ([] : List Int32).length))) ∧ (Arv Z h v2 k2 .byte (Int32.ofNat 34) (own_pad ([] : List Int32) 34) (.int (0 : Int32))) ∧ (h0.size ≤ v2)
set_option maxRecDepth 65536 in
set_option maxHeartbeats 40000000 in
theorem sbEnsG (l : Launch) (Z : State) (a0 : Array Value) (hw : ∀ d ∈ tables_1, d.before a0 Z = true) (ws : List Jvm.Cond) (b1 : Addr) (v1 : Addr) (kv : ClassId) (h0 : Heap) (n0 : Nat) (Z0 : n0 ≤ h0.size) (E1 : Exa Z h0 b1 "java/lang/StringBuilder") (F1 : Fld Z h0 b1 "java/lang/AbstractStringBuilder" "coder" "B" (.int (0 : Int32))) (F2 : Fld Z h0 b1 "java/lang/AbstractStringBuilder" "value" "[B" (.ref v1)) (F3 : Fld Z h0 b1 "java/lang/AbstractStringBuilder" "count" "I" (.int (Int32.ofNat ([] : List Int32).length))) (V0 : Arv Z h0 v1 kv .byte (Int32.ofNat 16) (own_pad ([] : List Int32) 16) (.int (0 : Int32))) (g2 : n0 ≤ b1) :
    MetFree l (⟨"java/lang/AbstractStringBuilder", "ensureCapacityInternal", "(I)V"⟩ : MethodName) (head1 (Jvm.Cond.code (⟨"java/lang/AbstractStringBuilder", "ensureCapacityInternal", "(I)V"⟩ : MethodName) jdk_68_method_9_code 3 none :: ws) ({ frames := 3, cells := 1, slots := 34, locals := 48 } : Room)) (fun a U => a = #[(.ref b1), (.int (25 : Int32))] ∧ Z.Warmed39 U.vm ∧ U.heap = h0) (fun _ _ _ _ _ => True) (fun _ U o U' => ∃ v L, o = .returned v ∧ Q_sbEnsG Z b1 v1 kv h0 n0 v U'.heap L ∧ FrameEnd U o U' L ({ frames := 3, cells := 1, slots := 34, locals := 48 } : Room).cells ({ frames := 3, cells := 1, slots := 34, locals := 48 } : Room).slots) := by
  refine MetFree.of_bodySF (plainFor_of_name pn_java_lang_AbstractStringBuilder) hisR ?_
  intro p e s m args below meth c s₁ Bd hml0 hP hK
  obtain ⟨rfl, hZ, hh⟩ := hP
  have hx := Bd.exec
  have hby := Bd.bytes
  have hml : c.maxLocals = 3 := hml0
  have hown : s.vm.findClass "java/lang/AbstractStringBuilder" = some m.cls := findClass_of_methodNamed Bd.named
  have hnm := (name_of_methodNamed Bd.named Bd.method).1
  have X0 : Stand p l e ({ frames := 3, cells := 1, slots := 34, locals := 48 } : Room) s m #[(.ref b1), (.int (25 : Int32))] below meth c s₁ [] 0 0 := Stand.of_body Bd
  have e0 : s₁.heap = h0 := by rw [← hh, Bd.state]; rfl
  have N0 := Fr.nil n0
  have pre0 : ∀ t, Steps p.tables e below (s₁.setTop (mkF m 0 #[.val (.ref b1), .val (.int (25 : Int32)), .unset] [])) t → Steps p.tables e below (s₁.setTop (entryFrame m #[(.ref b1), (.int (25 : Int32))] 3)) t := fun t k => castTop (ef_sbEnsG m b1 (25 : Int32)) k
  have V1_ : Arv Z h0 v1 kv .byte (16 : Int32) [(.int (0 : Int32)), (.int (0 : Int32)), (.int (0 : Int32)), (.int (0 : Int32)), (.int (0 : Int32)), (.int (0 : Int32)), (.int (0 : Int32)), (.int (0 : Int32)), (.int (0 : Int32)), (.int (0 : Int32)), (.int (0 : Int32)), (.int (0 : Int32)), (.int (0 : Int32)), (.int (0 : Int32)), (.int (0 : Int32)), (.int (0 : Int32))] (.int (0 : Int32)) := V0
  obtain ⟨T1_, X1_, e1_, st1_⟩ := getF X0 hx hZ hown (host := "") (Or.inl (hw _ (List.mem_of_getElem? (i := 42) rfl))) Via.refl e0 F2 (g := (mkF m 1 #[.val (.ref b1), .val (.int (25 : Int32)), .unset] [(.ref b1)])) rfl rfl (hb hby d11_1)
  obtain ⟨cl2_, Ar2_, q2_, S2_, M2_, Hs2_, G2_⟩ := id V1_
  obtain ⟨T3_, X3_, e3_, st3_⟩ := getF X1_ hx hZ hown (host := "") (Or.inl (hw _ (List.mem_of_getElem? (i := 44) rfl))) Via.refl e1_ F1 (g := (mkF m 6 #[.val (.ref b1), .val (.int (25 : Int32)), .unset] [(.ref b1), (.int (16 : Int32))])) rfl rfl (hb hby d11_6)
  obtain ⟨T4_, X4_, e4_, st4_⟩ := getF X3_ hx hZ hown (host := "") (Or.inl (hw _ (List.mem_of_getElem? (i := 42) rfl))) Via.refl e3_ F2 (g := (mkF m 19 #[.val (.ref b1), .val (.int (25 : Int32)), .val (.int (16 : Int32))] [(.ref b1), (.ref b1)])) rfl rfl (hb hby d11_19)
  obtain ⟨cq6_, kq6_, qa6_, qb6_, qc6_⟩ := isOf hZ e4_ E1
  obtain ⟨_, _, ⟨T5_, L5_, k5_, n5_⟩, -, X5_, ⟨Lc5_, hQ5_, l5_, y5_, z5_⟩, st5_⟩ := X4_.virtualBack hx (y := (⟨"java/lang/AbstractStringBuilder", "newCapacity", "(I)I"⟩ : MethodName)) (z := (⟨"java/lang/AbstractStringBuilder", "newCapacity", "(I)I"⟩ : MethodName)) hown (mvT hZ (hw _ (List.mem_of_getElem? (i := 75) rfl))) (mvT hZ (own_decl (hw _ (List.mem_of_getElem? (i := 76) rfl)) (hw _ (List.mem_of_getElem? (i := 79) rfl)))) (notFace_of_selects (args := #[]) (mvT hZ (hw _ (List.mem_of_getElem? (i := 78) rfl)))) (mvT hZ (hw _ (List.mem_of_getElem? (i := 78) rfl))) (mvT hZ (hw _ (List.mem_of_getElem? (i := 76) rfl))) (by decide) (backOf (W := 2) (sbNewCap l Z a0 hw [] b1 v1 kv h0 n0 Z0 F1 F2 V1_) hZ (hw _ (List.mem_of_getElem? (i := 79) rfl)) (hw _ (List.mem_of_getElem? (i := 38) rfl)) (by decide) (by decide)) qa6_ qc6_ (g := (mkF m 24 #[.val (.ref b1), .val (.int (25 : Int32)), .val (.int (16 : Int32))] [(.int (25 : Int32)), (.ref b1), (.ref v1), (.ref b1)])) rfl (by rw [hml]; rfl) (Steps.refl _) (argsL := [(.int (25 : Int32))]) (rest := [(.ref v1), (.ref b1)]) (lenOf pd_qIzI rfl) rfl (by show 2 * 0 + _ ≤ _; exact Nat.le_of_eq rfl) (hb hby d11_24) (fun _ _ => ⟨rfl, e4_, (by exact Nat.le_of_ble_eq_true rfl), (by exact Nat.le_of_ble_eq_true rfl)⟩)
  dsimp only [Pt.U, Pt.locs, Pt.cells, Pt.slots] at X5_ l5_ y5_ z5_ st5_ hQ5_
  subst L5_ k5_ n5_
  obtain ⟨rfl, Nq5_, ek5_⟩ := hQ5_
  have N5_ := Fr.app N0 Nq5_
  obtain ⟨T7_, X7_, e7_, st7_⟩ := getF X5_ hx hZ hown (host := "") (Or.inl (hw _ (List.mem_of_getElem? (i := 44) rfl))) Via.refl ek5_ F1 (g := (mkF m 28 #[.val (.ref b1), .val (.int (25 : Int32)), .val (.int (16 : Int32))] [(.ref b1), (.int (34 : Int32)), (.ref v1), (.ref b1)])) rfl rfl (hb hby d11_28)
  obtain ⟨_, _, ⟨T8_, L8_, k8_, n8_⟩, -, X8_, ⟨Lc8_, hQ8_, l8_, y8_, z8_⟩, st8_⟩ := Jvm.LawKit.callS X7_ hx (y := (⟨"java/util/Arrays", "copyOf", "([BI)[B"⟩ : MethodName)) hown (mvT hZ (hw _ (List.mem_of_getElem? (i := 90) rfl))) (mvT hZ (hw _ (List.mem_of_getElem? (i := 91) rfl))) (mvT hZ (hw _ (List.mem_of_getElem? (i := 92) rfl))) (mvT hZ (hw _ (List.mem_of_getElem? (i := 93) rfl))) (by decide) (backOf (W := 1) (sbCopyOf l Z a0 hw [] v1 kv h0 n0 Z0 V1_) hZ (hw _ (List.mem_of_getElem? (i := 93) rfl)) (hw _ (List.mem_of_getElem? (i := 92) rfl)) (by decide) (by decide)) (g := (mkF m 32 #[.val (.ref b1), .val (.int (25 : Int32)), .val (.int (16 : Int32))] [(.int (34 : Int32)), (.ref v1), (.ref b1)])) rfl (by rw [hml]; rfl) (argsL := [(.ref v1), (.int (34 : Int32))]) (rest := [(.ref b1)]) (lenOf pd_qaBIzaB rfl) rfl (by show 2 * 0 + _ ≤ _; exact Nat.le_of_eq rfl) (hb hby d11_32) (fun _ _ => ⟨rfl, e7_, (by exact Nat.le_of_ble_eq_true rfl), (by exact Nat.le_of_ble_eq_true rfl)⟩)
  dsimp only [Pt.U, Pt.locs, Pt.cells, Pt.slots] at X8_ l8_ y8_ z8_ st8_ hQ8_
  subst L8_ k8_ n8_
  obtain ⟨v2_8_, k2_8_, rfl, Nq8_, ek8_, p8__0, p8__1⟩ := hQ8_
  have N8_ := Fr.app N5_ Nq8_
  have f9_ : Exa Z T8_.heap b1 "java/lang/StringBuilder" := (E1.keep ek8_)
  have f10_ : Fld Z T8_.heap b1 "java/lang/AbstractStringBuilder" "value" "[B" (.ref v1) := (F2.keep ek8_ nin0)
  obtain ⟨T11_, h11_, X11_, e11_, W11_, st11_⟩ := putF X8_ hx hZ hown (host := "") (Or.inl (hw _ (List.mem_of_getElem? (i := 42) rfl))) Via.refl rfl f10_ f9_ (Or.inl (hw _ (List.mem_of_getElem? (i := 43) rfl))) (hw _ (List.mem_of_getElem? (i := 29) rfl)) (ty := (.array .byte)) (by decide) rfl rfl (g := (mkF m 35 #[.val (.ref b1), .val (.int (25 : Int32)), .val (.int (16 : Int32))] [(.ref v2_8_), (.ref b1)])) rfl rfl (hb hby d11_35)
  have w11_ : Fld Z h11_ b1 "java/lang/AbstractStringBuilder" "value" "[B" (.ref v2_8_) := f10_.same W11_
  have N11_ := Fr.snoc X11_ N8_ g2
  have f12_ : Fld Z h11_ b1 "java/lang/AbstractStringBuilder" "coder" "B" (.int (0 : Int32)) := ((F1.keep ek8_ nin0).other W11_ (Or.inr (slot_ne (Or.inl (hw _ (List.mem_of_getElem? (i := 45) rfl))) (Or.inl (hw _ (List.mem_of_getElem? (i := 43) rfl))) (by decide) (t := .byte) (t' := (.array .byte)) (by decide) (by decide))))
  have f13_ : Fld Z h11_ b1 "java/lang/AbstractStringBuilder" "count" "I" (.int (Int32.ofNat ([] : List Int32).length)) := ((F3.keep ek8_ nin0).other W11_ (Or.inr (slot_ne (Or.inl (hw _ (List.mem_of_getElem? (i := 69) rfl))) (Or.inl (hw _ (List.mem_of_getElem? (i := 43) rfl))) (by decide) (t := .int) (t' := (.array .byte)) (by decide) (by decide))))
  have f14_ : Arv Z h11_ v2_8_ k2_8_ .byte (34 : Int32) [(.int (0 : Int32)), (.int (0 : Int32)), (.int (0 : Int32)), (.int (0 : Int32)), (.int (0 : Int32)), (.int (0 : Int32)), (.int (0 : Int32)), (.int (0 : Int32)), (.int (0 : Int32)), (.int (0 : Int32)), (.int (0 : Int32)), (.int (0 : Int32)), (.int (0 : Int32)), (.int (0 : Int32)), (.int (0 : Int32)), (.int (0 : Int32)), (.int (0 : Int32)), (.int (0 : Int32)), (.int (0 : Int32)), (.int (0 : Int32)), (.int (0 : Int32)), (.int (0 : Int32)), (.int (0 : Int32)), (.int (0 : Int32)), (.int (0 : Int32)), (.int (0 : Int32)), (.int (0 : Int32)), (.int (0 : Int32)), (.int (0 : Int32)), (.int (0 : Int32)), (.int (0 : Int32)), (.int (0 : Int32)), (.int (0 : Int32)), (.int (0 : Int32))] (.int (0 : Int32)) := (p8__0.other W11_ (Ne.symm (Nat.ne_of_lt (Nat.lt_of_lt_of_le E1.lt p8__1))))
  have k15_ : Keep h0 T8_.heap [b1] := (Keep.refl h0 [b1]).trans ek8_ all0
  have k16_ : Keep h0 h11_ [b1] := k15_.wr W11_ (Or.inl (List.mem_of_getElem? (i := 0) rfl))
  obtain ⟨fs, hr, hrun, hended, hW, hsame⟩ := X11_.leave (v := none) (fun h => by first | rfl | (rw [Bd.returns] at h; cases h))
  refine ⟨_, _, pre0 _ ?_, hrun, hended, _, _, rfl, ?_, ⟨_, rfl⟩, hW, hsame.mono (by exact Nat.le_of_ble_eq_true rfl) (by exact Nat.le_of_ble_eq_true rfl)⟩
  · show Steps p.tables e below (s₁.setTop (mkF m 0 #[.val (.ref b1), .val (.int (25 : Int32)), .unset] [])) _
    refine XS.aloadN X0.here hx rfl (hb hby d11_0) rfl rfl ?_
    refine st1_ _ ?_
    show Steps p.tables e below (T1_.setTop (mkF m 4 #[.val (.ref b1), .val (.int (25 : Int32)), .unset] [(.ref v1)])) _
    refine X1_.arraylength hx (by rw [e1_]; exact Ar2_.1) (State.isArrayOf_alike (State.Warmed39.alike hZ) Ar2_.2.1) (g := (mkF m 4 #[.val (.ref b1), .val (.int (25 : Int32)), .unset] [(.ref v1)])) rfl rfl (hb hby d11_4) _ ?_
    rw [len_of S2_ M2_]
    show Steps p.tables e below (T1_.setTop (mkF m 5 #[.val (.ref b1), .val (.int (25 : Int32)), .unset] [(.int (16 : Int32))])) _
    refine XS.aloadN X1_.here hx rfl (hb hby d11_5) rfl rfl ?_
    refine st3_ _ ?_
    show Steps p.tables e below (T3_.setTop (mkF m 9 #[.val (.ref b1), .val (.int (25 : Int32)), .unset] [(.int (0 : Int32)), (.int (16 : Int32))])) _
    refine XS.ishr X3_.here hx rfl (hb hby d11_9) rfl ?_
    show Steps p.tables e below (T3_.setTop (mkF m 10 #[.val (.ref b1), .val (.int (25 : Int32)), .unset] [(.int ((16 : Int32) >>> ((0 : Int32) &&& 31)))])) _
    rw [own_shr0]
    show Steps p.tables e below (T3_.setTop (mkF m 10 #[.val (.ref b1), .val (.int (25 : Int32)), .unset] [(.int (16 : Int32))])) _
    refine XS.istoreN X3_.here hx rfl (hb hby d11_10) rfl (l' := #[.val (.ref b1), .val (.int (25 : Int32)), .val (.int (16 : Int32))]) rfl ?_
    show Steps p.tables e below (T3_.setTop (mkF m 11 #[.val (.ref b1), .val (.int (25 : Int32)), .val (.int (16 : Int32))] [])) _
    refine XS.iloadN X3_.here hx rfl (hb hby d11_11) rfl ?_
    refine XS.iloadN X3_.here hx rfl (hb hby d11_12) rfl ?_
    refine XS.isub X3_.here hx rfl (hb hby d11_13) rfl ?_
    show Steps p.tables e below (T3_.setTop (mkF m 14 #[.val (.ref b1), .val (.int (25 : Int32)), .val (.int (16 : Int32))] [(.int (9 : Int32))])) _
    refine XS.ifNo X3_.here hx rfl (hb hby d11_14) rfl ((if0 _ _).trans (tlt ((by decide) : (0 : Int32) < (9 : Int32))).2.2.2) ?_
    show Steps p.tables e below (T3_.setTop (mkF m 17 #[.val (.ref b1), .val (.int (25 : Int32)), .val (.int (16 : Int32))] [])) _
    refine XS.aloadN X3_.here hx rfl (hb hby d11_17) rfl rfl ?_
    refine XS.aloadN X3_.here hx rfl (hb hby d11_18) rfl rfl ?_
    refine st4_ _ ?_
    show Steps p.tables e below (T4_.setTop (mkF m 22 #[.val (.ref b1), .val (.int (25 : Int32)), .val (.int (16 : Int32))] [(.ref v1), (.ref b1)])) _
    refine XS.aloadN X4_.here hx rfl (hb hby d11_22) rfl rfl ?_
    refine XS.iloadN X4_.here hx rfl (hb hby d11_23) rfl ?_
    refine st5_.trans ?_
    show Steps p.tables e below (T5_.setTop (mkF m 27 #[.val (.ref b1), .val (.int (25 : Int32)), .val (.int (16 : Int32))] [(.int (34 : Int32)), (.ref v1), (.ref b1)])) _
    refine XS.aloadN X5_.here hx rfl (hb hby d11_27) rfl rfl ?_
    refine st7_ _ ?_
    show Steps p.tables e below (T7_.setTop (mkF m 31 #[.val (.ref b1), .val (.int (25 : Int32)), .val (.int (16 : Int32))] [(.int (0 : Int32)), (.int (34 : Int32)), (.ref v1), (.ref b1)])) _
    refine XS.ishl X7_.here hx rfl (hb hby d11_31) rfl ?_
    show Steps p.tables e below (T7_.setTop (mkF m 32 #[.val (.ref b1), .val (.int (25 : Int32)), .val (.int (16 : Int32))] [(.int ((34 : Int32) <<< ((0 : Int32) &&& 31))), (.ref v1), (.ref b1)])) _
    rw [own_shl0]
    show Steps p.tables e below (T7_.setTop (mkF m 32 #[.val (.ref b1), .val (.int (25 : Int32)), .val (.int (16 : Int32))] [(.int (34 : Int32)), (.ref v1), (.ref b1)])) _
    refine st8_ _ ?_
    show Steps p.tables e below (T8_.setTop (mkF m 35 #[.val (.ref b1), .val (.int (25 : Int32)), .val (.int (16 : Int32))] [(.ref v2_8_), (.ref b1)])) _
    refine st11_ _ ?_
    show Steps p.tables e below (T11_.setTop (mkF m 38 #[.val (.ref b1), .val (.int (25 : Int32)), .val (.int (16 : Int32))] [])) _
    exact X11_.returnOut hx Bd.returns (hb hby d11_38) hr
  · show Q_sbEnsG Z b1 v1 kv h0 n0 _ T11_.heap _
    rw [e11_]
    exact ⟨v2_8_, k2_8_, rfl, N11_, k16_, f12_, w11_, f13_, f14_, (Nat.le_trans (Keep.refl h0 [b1]).1 p8__1)⟩
theorem ef_sbAppG (m : MethodId) (x0 : Addr) (x1 : Addr) : entryFrame m #[(.ref x0), (.ref x1)] 3 = mkF m 0 #[.val (.ref x0), .val (.ref x1), .unset] [] := by first | (simp [entryFrame, mkF, argsToLocals, Value.category]; done) | rfl
def Q_sbAppG (Z : State) (b1 : Addr) (x1 : Addr) (t1 : Addr) (ds : List Int32) (v1 : Addr) (kv : ClassId) (G1 : Int32) (h0 : Heap) (n0 : Nat) (v : Option Value) (h : Heap) (L : List Loc) : Prop := ∃ (v2 : Addr) (k2 : ClassId), v = some (.ref b1) ∧ Fr n0 L ∧ Keep h0 h [b1] ∧ (Fld Z h b1 "java/lang/AbstractStringBuilder" "coder" "B" (.int (0 : Int32))) ∧ (Fld Z h b1 "java/lang/AbstractStringBuilder" "value" "[B" (.ref v2)) ∧ (Fld Z h b1 "java/lang/AbstractStringBuilder" "count" "I" (.int (Int32.ofNat (([] : List Int32) ++ ds).length))) ∧ (Arv Z h v2 k2 .byte (Int32.ofNat 34) (own_pad (([] : List Int32) ++ ds) 34) (.int (0 : Int32))) ∧ (h0.size ≤ v2)
set_option maxRecDepth 65536 in
set_option maxHeartbeats 40000000 in
theorem sbAppG (l : Launch) (Z : State) (a0 : Array Value) (hw : ∀ d ∈ tables_1, d.before a0 Z = true) (ws : List Jvm.Cond) (b1 : Addr) (x1 : Addr) (t1 : Addr) (ds : List Int32) (v1 : Addr) (kv : ClassId) (G1 : Int32) (h0 : Heap) (n0 : Nat) (Z0 : n0 ≤ h0.size) (S1 : own_Str Z h0 x1 t1 ds) (E1 : Exa Z h0 b1 "java/lang/StringBuilder") (F1 : Fld Z h0 b1 "java/lang/AbstractStringBuilder" "coder" "B" (.int (0 : Int32))) (F2 : Fld Z h0 b1 "java/lang/AbstractStringBuilder" "value" "[B" (.ref v1)) (F3 : Fld Z h0 b1 "java/lang/AbstractStringBuilder" "count" "I" (.int (Int32.ofNat ([] : List Int32).length))) (V1 : Arv Z h0 v1 kv .byte (Int32.ofNat 16) (own_pad ([] : List Int32) 16) (.int (0 : Int32))) (T1 : Sta Z Z.heap "java/lang/String" "COMPACT_STRINGS" "Z" (.int G1)) (P5 : ¬ (G1 = (0 : Int32))) (O1 : Old Z n0 h0) (g2 : n0 ≤ b1) (hd : ds.length = 25) :
    MetFree l (⟨"java/lang/AbstractStringBuilder", "append", "(Ljava/lang/String;)Ljava/lang/AbstractStringBuilder;"⟩ : MethodName) (head1 (Jvm.Cond.code (⟨"java/lang/AbstractStringBuilder", "append", "(Ljava/lang/String;)Ljava/lang/AbstractStringBuilder;"⟩ : MethodName) jdk_68_method_22_code 3 (some (.object "java/lang/AbstractStringBuilder")) :: ws) ({ frames := 4, cells := 1, slots := 34, locals := 62 } : Room)) (fun a U => a = #[(.ref b1), (.ref x1)] ∧ Z.Warmed39 U.vm ∧ U.heap = h0) (fun _ _ _ _ _ => True) (fun _ U o U' => ∃ v L, o = .returned v ∧ Q_sbAppG Z b1 x1 t1 ds v1 kv G1 h0 n0 v U'.heap L ∧ FrameEnd U o U' L ({ frames := 4, cells := 1, slots := 34, locals := 62 } : Room).cells ({ frames := 4, cells := 1, slots := 34, locals := 62 } : Room).slots) := by
  refine MetFree.of_bodySF (plainFor_of_name pn_java_lang_AbstractStringBuilder) hisR ?_
  intro p e s m args below meth c s₁ Bd hml0 hP hK
  obtain ⟨rfl, hZ, hh⟩ := hP
  have hx := Bd.exec
  have hby := Bd.bytes
  have hml : c.maxLocals = 3 := hml0
  have hown : s.vm.findClass "java/lang/AbstractStringBuilder" = some m.cls := findClass_of_methodNamed Bd.named
  have hnm := (name_of_methodNamed Bd.named Bd.method).1
  have X0 : Stand p l e ({ frames := 4, cells := 1, slots := 34, locals := 62 } : Room) s m #[(.ref b1), (.ref x1)] below meth c s₁ [] 0 0 := Stand.of_body Bd
  have e0 : s₁.heap = h0 := by rw [← hh, Bd.state]; rfl
  have N0 := Fr.nil n0
  have pre0 : ∀ t, Steps p.tables e below (s₁.setTop (mkF m 0 #[.val (.ref b1), .val (.ref x1), .unset] [])) t → Steps p.tables e below (s₁.setTop (entryFrame m #[(.ref b1), (.ref x1)] 3)) t := fun t k => castTop (ef_sbAppG m b1 x1) k
  obtain ⟨cq2_, kq2_, qa2_, qb2_, qc2_⟩ := isOf hZ e0 S1.1
  obtain ⟨_, _, ⟨T1_, L1_, k1_, n1_⟩, -, X1_, ⟨Lc1_, hQ1_, l1_, y1_, z1_⟩, st1_⟩ := X0.virtualBack hx (y := (⟨"java/lang/String", "length", "()I"⟩ : MethodName)) (z := (⟨"java/lang/String", "length", "()I"⟩ : MethodName)) hown (mvT hZ (hw _ (List.mem_of_getElem? (i := 57) rfl))) (mvT hZ (hw _ (List.mem_of_getElem? (i := 58) rfl))) (notFace_of_selects (args := #[]) (mvT hZ (hw _ (List.mem_of_getElem? (i := 60) rfl)))) (mvT hZ (hw _ (List.mem_of_getElem? (i := 60) rfl))) (mvT hZ (hw _ (List.mem_of_getElem? (i := 59) rfl))) (by decide) (own_lenB (W := 0) hZ hw S1 T1 P5 O1 (by decide) (by decide)) qa2_ qc2_ (g := (mkF m 10 #[.val (.ref b1), .val (.ref x1), .unset] [(.ref x1)])) rfl (by rw [hml]; rfl) (Steps.refl _) (argsL := []) (rest := []) (lenOf pd_qzI rfl) rfl (by show 2 * 0 + _ ≤ _; exact Nat.le_of_eq rfl) (hb hby d8_10) (fun _ _ => ⟨rfl, e0, (by exact Nat.le_of_ble_eq_true rfl), (by exact Nat.le_of_ble_eq_true rfl)⟩)
  dsimp only [Pt.U, Pt.locs, Pt.cells, Pt.slots] at X1_ l1_ y1_ z1_ st1_ hQ1_
  subst L1_ k1_ n1_
  obtain ⟨rfl, rfl, ek1_⟩ := hQ1_
  have N1_ := Fr.app N0 (Fr.nil n0)
  obtain ⟨T3_, X3_, e3_, st3_⟩ := getF X1_ hx hZ hown (host := "") (Or.inl (hw _ (List.mem_of_getElem? (i := 68) rfl))) Via.refl ek1_ F3 (g := (mkF m 16 #[.val (.ref b1), .val (.ref x1), .val (.int (Int32.ofNat ds.length))] [(.ref b1), (.ref b1)])) rfl rfl (hb hby d8_16)
  obtain ⟨cq5_, kq5_, qa5_, qb5_, qc5_⟩ := isOf hZ e3_ E1
  obtain ⟨_, _, ⟨T4_, L4_, k4_, n4_⟩, -, X4_, ⟨Lc4_, hQ4_, l4_, y4_, z4_⟩, st4_⟩ := X3_.virtualBack hx (y := (⟨"java/lang/AbstractStringBuilder", "ensureCapacityInternal", "(I)V"⟩ : MethodName)) (z := (⟨"java/lang/AbstractStringBuilder", "ensureCapacityInternal", "(I)V"⟩ : MethodName)) hown (mvT hZ (hw _ (List.mem_of_getElem? (i := 70) rfl))) (mvT hZ (own_decl (hw _ (List.mem_of_getElem? (i := 71) rfl)) (hw _ (List.mem_of_getElem? (i := 74) rfl)))) (notFace_of_selects (args := #[]) (mvT hZ (hw _ (List.mem_of_getElem? (i := 73) rfl)))) (mvT hZ (hw _ (List.mem_of_getElem? (i := 73) rfl))) (mvT hZ (hw _ (List.mem_of_getElem? (i := 71) rfl))) (by decide) (backOf (W := 0) (sbEnsG l Z a0 hw [] b1 v1 kv h0 n0 Z0 E1 F1 F2 F3 V1 g2) hZ (hw _ (List.mem_of_getElem? (i := 74) rfl)) (hw _ (List.mem_of_getElem? (i := 38) rfl)) (by decide) (by decide)) qa5_ qc5_ (g := (mkF m 21 #[.val (.ref b1), .val (.ref x1), .val (.int (Int32.ofNat ds.length))] [(.int (25 : Int32)), (.ref b1)])) rfl (by rw [hml]; rfl) (Steps.refl _) (argsL := [(.int (25 : Int32))]) (rest := []) (lenOf pd_qIzV rfl) rfl (by show 2 * 0 + _ ≤ _; exact Nat.le_of_eq rfl) (hb hby d8_21) (fun _ _ => ⟨rfl, e3_, (by exact Nat.le_of_ble_eq_true rfl), (by exact Nat.le_of_ble_eq_true rfl)⟩)
  dsimp only [Pt.U, Pt.locs, Pt.cells, Pt.slots] at X4_ l4_ y4_ z4_ st4_ hQ4_
  subst L4_ k4_ n4_
  obtain ⟨v2_4_, k2_4_, rfl, Nq4_, ek4_, p4__0, p4__1, p4__2, p4__3, p4__4⟩ := hQ4_
  have N4_ := Fr.app N1_ Nq4_
  obtain ⟨T6_, X6_, e6_, st6_⟩ := getF X4_ hx hZ hown (host := "") (Or.inl (hw _ (List.mem_of_getElem? (i := 68) rfl))) Via.refl rfl p4__2 (g := (mkF m 26 #[.val (.ref b1), .val (.ref x1), .val (.int (Int32.ofNat ds.length))] [(.ref b1), (.ref b1)])) rfl rfl (hb hby d8_26)
  have f8_ : own_Str Z T4_.heap x1 t1 ds := (S1.keep ek4_ (ninS (own_Str.ne1 S1 E1 (by decide)) nin0) (ninS (own_Str.ne2 S1 E1 (hw _ (List.mem_of_getElem? (i := 29) rfl))) nin0))
  have f9_ : Exa Z T4_.heap b1 "java/lang/StringBuilder" := (E1.keep ek4_)
  have f10_ : Old Z n0 T4_.heap := (O1.keep ek4_ (allS g2 all0))
  have g11_ : n0 ≤ v2_4_ := Nat.le_trans Z0 p4__4
  have z12_ : n0 ≤ T4_.heap.size := Nat.le_trans Z0 ek4_.1
  obtain ⟨cq13_, kq13_, qa13_, qb13_, qc13_⟩ := isOf hZ e6_ f9_
  obtain ⟨_, _, ⟨T7_, L7_, k7_, n7_⟩, -, X7_, ⟨Lc7_, hQ7_, l7_, y7_, z7_⟩, st7_⟩ := X6_.virtualBack hx (y := (⟨"java/lang/AbstractStringBuilder", "putStringAt", "(ILjava/lang/String;)V"⟩ : MethodName)) (z := (⟨"java/lang/AbstractStringBuilder", "putStringAt", "(ILjava/lang/String;)V"⟩ : MethodName)) hown (mvT hZ (hw _ (List.mem_of_getElem? (i := 101) rfl))) (mvT hZ (own_decl (hw _ (List.mem_of_getElem? (i := 102) rfl)) (hw _ (List.mem_of_getElem? (i := 105) rfl)))) (notFace_of_selects (args := #[]) (mvT hZ (hw _ (List.mem_of_getElem? (i := 104) rfl)))) (mvT hZ (hw _ (List.mem_of_getElem? (i := 104) rfl))) (mvT hZ (hw _ (List.mem_of_getElem? (i := 102) rfl))) (by decide) (backOf (W := 0) (sbPut l Z a0 hw [] b1 x1 t1 ds v2_4_ k2_4_ ([] : List Int32) 34 G1 T4_.heap n0 z12_ f8_ f9_ p4__0 p4__1 p4__3 T1 P5 f10_ g11_ (Nat.ne_of_lt (Nat.lt_of_lt_of_le (own_Str.lt2 S1) p4__4)) (by rw [hd]; decide) (by decide)) hZ (hw _ (List.mem_of_getElem? (i := 105) rfl)) (hw _ (List.mem_of_getElem? (i := 38) rfl)) (by decide) (by decide)) qa13_ qc13_ (g := (mkF m 30 #[.val (.ref b1), .val (.ref x1), .val (.int (Int32.ofNat ds.length))] [(.ref x1), (.int (Int32.ofNat ([] : List Int32).length)), (.ref b1)])) rfl (by rw [hml]; rfl) (Steps.refl _) (argsL := [(.int (Int32.ofNat ([] : List Int32).length)), (.ref x1)]) (rest := []) (lenOf pd_qILjava_lang_StringzV rfl) rfl (by show 2 * 0 + _ ≤ _; exact Nat.le_of_eq rfl) (hb hby d8_30) (fun _ _ => ⟨rfl, e6_, (by exact Nat.le_of_ble_eq_true rfl), (by exact Nat.le_of_ble_eq_true rfl)⟩)
  dsimp only [Pt.U, Pt.locs, Pt.cells, Pt.slots] at X7_ l7_ y7_ z7_ st7_ hQ7_
  subst L7_ k7_ n7_
  obtain ⟨rfl, Nq7_, ek7_, p7__0⟩ := hQ7_
  have N7_ := Fr.app N4_ Nq7_
  have f14_ : Fld Z T7_.heap b1 "java/lang/AbstractStringBuilder" "count" "I" (.int (Int32.ofNat ([] : List Int32).length)) := (p4__2.keep ek7_ (ninS (Nat.ne_of_lt (Nat.lt_of_lt_of_le E1.lt p4__4)) nin0))
  obtain ⟨T15_, X15_, e15_, st15_⟩ := getF X7_ hx hZ hown (host := "") (Or.inl (hw _ (List.mem_of_getElem? (i := 68) rfl))) Via.refl rfl f14_ (g := (mkF m 35 #[.val (.ref b1), .val (.ref x1), .val (.int (Int32.ofNat ds.length))] [(.ref b1), (.ref b1)])) rfl rfl (hb hby d8_35)
  have f16_ : Exa Z T7_.heap b1 "java/lang/StringBuilder" := (f9_.keep ek7_)
  obtain ⟨T17_, h17_, X17_, e17_, W17_, st17_⟩ := putF X15_ hx hZ hown (host := "") (Or.inl (hw _ (List.mem_of_getElem? (i := 68) rfl))) Via.refl e15_ f14_ f16_ (Or.inl (hw _ (List.mem_of_getElem? (i := 69) rfl))) (hw _ (List.mem_of_getElem? (i := 29) rfl)) (ty := .int) (by decide) rfl rfl (g := (mkF m 40 #[.val (.ref b1), .val (.ref x1), .val (.int (Int32.ofNat ds.length))] [(.int (Int32.ofNat (([] : List Int32) ++ ds).length)), (.ref b1)])) rfl rfl (hb hby d8_40)
  have w17_ : Fld Z h17_ b1 "java/lang/AbstractStringBuilder" "count" "I" (.int (Int32.ofNat (([] : List Int32) ++ ds).length)) := f14_.same W17_
  have N17_ := Fr.snoc X17_ N7_ g2
  have f18_ : Fld Z h17_ b1 "java/lang/AbstractStringBuilder" "coder" "B" (.int (0 : Int32)) := ((p4__0.keep ek7_ (ninS (Nat.ne_of_lt (Nat.lt_of_lt_of_le E1.lt p4__4)) nin0)).other W17_ (Or.inr (slot_ne (Or.inl (hw _ (List.mem_of_getElem? (i := 45) rfl))) (Or.inl (hw _ (List.mem_of_getElem? (i := 69) rfl))) (by decide) (t := .byte) (t' := .int) (by decide) (by decide))))
  have f19_ : Fld Z h17_ b1 "java/lang/AbstractStringBuilder" "value" "[B" (.ref v2_4_) := ((p4__1.keep ek7_ (ninS (Nat.ne_of_lt (Nat.lt_of_lt_of_le E1.lt p4__4)) nin0)).other W17_ (Or.inr (slot_ne (Or.inl (hw _ (List.mem_of_getElem? (i := 43) rfl))) (Or.inl (hw _ (List.mem_of_getElem? (i := 69) rfl))) (by decide) (t := (.array .byte)) (t' := .int) (by decide) (by decide))))
  have f20_ : Arv Z h17_ v2_4_ k2_4_ .byte (Int32.ofNat 34) (own_pad (([] : List Int32) ++ ds) 34) (.int (0 : Int32)) := (p7__0.other W17_ (Ne.symm (Nat.ne_of_lt (Nat.lt_of_lt_of_le E1.lt p4__4))))
  have k21_ : Keep h0 T4_.heap [b1] := (Keep.refl h0 [b1]).trans ek4_ (allS (Or.inl (List.mem_of_getElem? (i := 0) rfl)) all0)
  have k22_ : Keep h0 T7_.heap [b1] := k21_.trans ek7_ (allS (Or.inr (Nat.le_trans (Keep.refl h0 [b1]).1 p4__4)) all0)
  have k23_ : Keep h0 h17_ [b1] := k22_.wr W17_ (Or.inl (List.mem_of_getElem? (i := 0) rfl))
  obtain ⟨fs, hr, hrun, hended, hW, hsame⟩ := X17_.leave (v := some (.ref b1)) (fun h => by first | rfl | (rw [Bd.returns] at h; cases h))
  refine ⟨_, _, pre0 _ ?_, hrun, hended, _, _, rfl, ?_, ⟨_, rfl⟩, hW, hsame.mono (by exact Nat.le_of_ble_eq_true rfl) (by exact Nat.le_of_ble_eq_true rfl)⟩
  · show Steps p.tables e below (s₁.setTop (mkF m 0 #[.val (.ref b1), .val (.ref x1), .unset] [])) _
    refine XS.aloadN X0.here hx rfl (hb hby d8_0) rfl rfl ?_
    refine XS.ifnonnullYes X0.here hx rfl (pc0 := 1) (pc' := 9) rfl (hb hby d8_1) rfl (by decide) (by decide) ?_
    show Steps p.tables e below (s₁.setTop (mkF m 9 #[.val (.ref b1), .val (.ref x1), .unset] [])) _
    refine XS.aloadN X0.here hx rfl (hb hby d8_9) rfl rfl ?_
    refine st1_.trans ?_
    show Steps p.tables e below (T1_.setTop (mkF m 13 #[.val (.ref b1), .val (.ref x1), .unset] [(.int (Int32.ofNat ds.length))])) _
    refine XS.istoreN X1_.here hx rfl (hb hby d8_13) rfl (l' := #[.val (.ref b1), .val (.ref x1), .val (.int (Int32.ofNat ds.length))]) rfl ?_
    show Steps p.tables e below (T1_.setTop (mkF m 14 #[.val (.ref b1), .val (.ref x1), .val (.int (Int32.ofNat ds.length))] [])) _
    refine XS.aloadN X1_.here hx rfl (hb hby d8_14) rfl rfl ?_
    refine XS.aloadN X1_.here hx rfl (hb hby d8_15) rfl rfl ?_
    refine st3_ _ ?_
    show Steps p.tables e below (T3_.setTop (mkF m 19 #[.val (.ref b1), .val (.ref x1), .val (.int (Int32.ofNat ds.length))] [(.int (Int32.ofNat ([] : List Int32).length)), (.ref b1)])) _
    refine XS.iloadN X3_.here hx rfl (hb hby d8_19) rfl ?_
    refine XS.iadd X3_.here hx rfl (hb hby d8_20) rfl ?_
    show Steps p.tables e below (T3_.setTop (mkF m 21 #[.val (.ref b1), .val (.ref x1), .val (.int (Int32.ofNat ds.length))] [(.int ((Int32.ofNat ([] : List Int32).length) + (Int32.ofNat ds.length))), (.ref b1)])) _
    rw [own_g ds hd]
    show Steps p.tables e below (T3_.setTop (mkF m 21 #[.val (.ref b1), .val (.ref x1), .val (.int (Int32.ofNat ds.length))] [(.int (25 : Int32)), (.ref b1)])) _
    refine st4_.trans ?_
    show Steps p.tables e below (T4_.setTop (mkF m 24 #[.val (.ref b1), .val (.ref x1), .val (.int (Int32.ofNat ds.length))] [])) _
    refine XS.aloadN X4_.here hx rfl (hb hby d8_24) rfl rfl ?_
    refine XS.aloadN X4_.here hx rfl (hb hby d8_25) rfl rfl ?_
    refine st6_ _ ?_
    show Steps p.tables e below (T6_.setTop (mkF m 29 #[.val (.ref b1), .val (.ref x1), .val (.int (Int32.ofNat ds.length))] [(.int (Int32.ofNat ([] : List Int32).length)), (.ref b1)])) _
    refine XS.aloadN X6_.here hx rfl (hb hby d8_29) rfl rfl ?_
    refine st7_.trans ?_
    show Steps p.tables e below (T7_.setTop (mkF m 33 #[.val (.ref b1), .val (.ref x1), .val (.int (Int32.ofNat ds.length))] [])) _
    refine XS.aloadN X7_.here hx rfl (hb hby d8_33) rfl rfl ?_
    refine XS.dup X7_.here hx rfl (hb hby d8_34) rfl rfl ?_
    show Steps p.tables e below (T7_.setTop (mkF m 35 #[.val (.ref b1), .val (.ref x1), .val (.int (Int32.ofNat ds.length))] [(.ref b1), (.ref b1)])) _
    refine st15_ _ ?_
    show Steps p.tables e below (T15_.setTop (mkF m 38 #[.val (.ref b1), .val (.ref x1), .val (.int (Int32.ofNat ds.length))] [(.int (Int32.ofNat ([] : List Int32).length)), (.ref b1)])) _
    refine XS.iloadN X15_.here hx rfl (hb hby d8_38) rfl ?_
    refine XS.iadd X15_.here hx rfl (hb hby d8_39) rfl ?_
    show Steps p.tables e below (T15_.setTop (mkF m 40 #[.val (.ref b1), .val (.ref x1), .val (.int (Int32.ofNat ds.length))] [(.int ((Int32.ofNat ([] : List Int32).length) + (Int32.ofNat ds.length))), (.ref b1)])) _
    rw [own_addl ([] : List Int32) ds]
    show Steps p.tables e below (T15_.setTop (mkF m 40 #[.val (.ref b1), .val (.ref x1), .val (.int (Int32.ofNat ds.length))] [(.int (Int32.ofNat (([] : List Int32) ++ ds).length)), (.ref b1)])) _
    refine st17_ _ ?_
    show Steps p.tables e below (T17_.setTop (mkF m 43 #[.val (.ref b1), .val (.ref x1), .val (.int (Int32.ofNat ds.length))] [])) _
    refine XS.aloadN X17_.here hx rfl (hb hby d8_43) rfl rfl ?_
    exact retR X17_ hx Bd.returns rfl rfl rfl (hb hby d8_44) hr
  · show Q_sbAppG Z b1 x1 t1 ds v1 kv G1 h0 n0 _ T17_.heap _
    rw [e17_]
    exact ⟨v2_4_, k2_4_, rfl, N17_, k23_, f18_, f19_, w17_, f20_, (Nat.le_trans (Keep.refl h0 [b1]).1 p4__4)⟩
theorem ef_sbApp2G (m : MethodId) (x0 : Addr) (x1 : Addr) : entryFrame m #[(.ref x0), (.ref x1)] 2 = mkF m 0 #[.val (.ref x0), .val (.ref x1)] [] := by first | (simp [entryFrame, mkF, argsToLocals, Value.category]; done) | rfl
def Q_sbApp2G (Z : State) (b1 : Addr) (x1 : Addr) (t1 : Addr) (ds : List Int32) (v1 : Addr) (kv : ClassId) (G1 : Int32) (h0 : Heap) (n0 : Nat) (v : Option Value) (h : Heap) (L : List Loc) : Prop := ∃ (v2 : Addr) (k2 : ClassId), v = some (.ref b1) ∧ Fr n0 L ∧ Keep h0 h [b1] ∧ (Fld Z h b1 "java/lang/AbstractStringBuilder" "coder" "B" (.int (0 : Int32))) ∧ (Fld Z h b1 "java/lang/AbstractStringBuilder" "value" "[B" (.ref v2)) ∧ (Fld Z h b1 "java/lang/AbstractStringBuilder" "count" "I" (.int (Int32.ofNat (([] : List Int32) ++ ds).length))) ∧ (Arv Z h v2 k2 .byte (Int32.ofNat 34) (own_pad (([] : List Int32) ++ ds) 34) (.int (0 : Int32))) ∧ (h0.size ≤ v2)
set_option maxRecDepth 65536 in
set_option maxHeartbeats 40000000 in
theorem sbApp2G (l : Launch) (Z : State) (a0 : Array Value) (hw : ∀ d ∈ tables_1, d.before a0 Z = true) (ws : List Jvm.Cond) (b1 : Addr) (x1 : Addr) (t1 : Addr) (ds : List Int32) (v1 : Addr) (kv : ClassId) (G1 : Int32) (h0 : Heap) (n0 : Nat) (Z0 : n0 ≤ h0.size) (S1 : own_Str Z h0 x1 t1 ds) (E1 : Exa Z h0 b1 "java/lang/StringBuilder") (F1 : Fld Z h0 b1 "java/lang/AbstractStringBuilder" "coder" "B" (.int (0 : Int32))) (F2 : Fld Z h0 b1 "java/lang/AbstractStringBuilder" "value" "[B" (.ref v1)) (F3 : Fld Z h0 b1 "java/lang/AbstractStringBuilder" "count" "I" (.int (Int32.ofNat ([] : List Int32).length))) (V1 : Arv Z h0 v1 kv .byte (Int32.ofNat 16) (own_pad ([] : List Int32) 16) (.int (0 : Int32))) (T1 : Sta Z Z.heap "java/lang/String" "COMPACT_STRINGS" "Z" (.int G1)) (P5 : ¬ (G1 = (0 : Int32))) (O1 : Old Z n0 h0) (g2 : n0 ≤ b1) (hd : ds.length = 25) :
    MetFree l (⟨"java/lang/StringBuilder", "append", "(Ljava/lang/String;)Ljava/lang/StringBuilder;"⟩ : MethodName) (head1 (Jvm.Cond.code (⟨"java/lang/StringBuilder", "append", "(Ljava/lang/String;)Ljava/lang/StringBuilder;"⟩ : MethodName) jdk_67_method_7_code 2 (some (.object "java/lang/StringBuilder")) :: ws) ({ frames := 5, cells := 1, slots := 34, locals := 76 } : Room)) (fun a U => a = #[(.ref b1), (.ref x1)] ∧ Z.Warmed39 U.vm ∧ U.heap = h0) (fun _ _ _ _ _ => True) (fun _ U o U' => ∃ v L, o = .returned v ∧ Q_sbApp2G Z b1 x1 t1 ds v1 kv G1 h0 n0 v U'.heap L ∧ FrameEnd U o U' L ({ frames := 5, cells := 1, slots := 34, locals := 76 } : Room).cells ({ frames := 5, cells := 1, slots := 34, locals := 76 } : Room).slots) := by
  refine MetFree.of_bodySF (plainFor_of_name pn_java_lang_StringBuilder) hisR ?_
  intro p e s m args below meth c s₁ Bd hml0 hP hK
  obtain ⟨rfl, hZ, hh⟩ := hP
  have hx := Bd.exec
  have hby := Bd.bytes
  have hml : c.maxLocals = 2 := hml0
  have hown : s.vm.findClass "java/lang/StringBuilder" = some m.cls := findClass_of_methodNamed Bd.named
  have hnm := (name_of_methodNamed Bd.named Bd.method).1
  have X0 : Stand p l e ({ frames := 5, cells := 1, slots := 34, locals := 76 } : Room) s m #[(.ref b1), (.ref x1)] below meth c s₁ [] 0 0 := Stand.of_body Bd
  have e0 : s₁.heap = h0 := by rw [← hh, Bd.state]; rfl
  have N0 := Fr.nil n0
  have pre0 : ∀ t, Steps p.tables e below (s₁.setTop (mkF m 0 #[.val (.ref b1), .val (.ref x1)] [])) t → Steps p.tables e below (s₁.setTop (entryFrame m #[(.ref b1), (.ref x1)] 2)) t := fun t k => castTop (ef_sbApp2G m b1 x1) k
  obtain ⟨_, _, ⟨T1_, L1_, k1_, n1_⟩, -, X1_, ⟨Lc1_, hQ1_, l1_, y1_, z1_⟩, st1_⟩ := superBack X0 hx hZ (y := (⟨"java/lang/AbstractStringBuilder", "append", "(Ljava/lang/String;)Ljava/lang/AbstractStringBuilder;"⟩ : MethodName)) hown (hw _ (List.mem_of_getElem? (i := 52) rfl)) (own_same (hw _ (List.mem_of_getElem? (i := 53) rfl)) (hw _ (List.mem_of_getElem? (i := 73) rfl)) (by decide)) (hw _ (List.mem_of_getElem? (i := 53) rfl)) (hw _ (List.mem_of_getElem? (i := 54) rfl)) (by decide) (backOf (W := 0) (sbAppG l Z a0 hw [] b1 x1 t1 ds v1 kv G1 h0 n0 Z0 S1 E1 F1 F2 F3 V1 T1 P5 O1 g2 hd) hZ (hw _ (List.mem_of_getElem? (i := 56) rfl)) (hw _ (List.mem_of_getElem? (i := 38) rfl)) (by decide) (by decide)) e0 (Ins.self E1) (g := (mkF m 2 #[.val (.ref b1), .val (.ref x1)] [(.ref x1), (.ref b1)])) rfl (by rw [hml]; rfl) (hw _ (List.mem_of_getElem? (i := 56) rfl)) (argsL := [(.ref x1)]) (rest := []) (lenOf pd_qLjava_lang_StringzLjava_lang_AbstractStringBuilder rfl) rfl (by show 2 * 0 + _ ≤ _; exact Nat.le_of_eq rfl) (hb hby d7_2) (fun _ _ => ⟨rfl, e0, (by exact Nat.le_of_ble_eq_true rfl), (by exact Nat.le_of_ble_eq_true rfl)⟩)
  dsimp only [Pt.U, Pt.locs, Pt.cells, Pt.slots] at X1_ l1_ y1_ z1_ st1_ hQ1_
  subst L1_ k1_ n1_
  obtain ⟨v2_1_, k2_1_, rfl, Nq1_, ek1_, p1__0, p1__1, p1__2, p1__3, p1__4⟩ := hQ1_
  have N1_ := Fr.app N0 Nq1_
  have k2_ : Keep h0 T1_.heap [b1] := (Keep.refl h0 [b1]).trans ek1_ (allS (Or.inl (List.mem_of_getElem? (i := 0) rfl)) all0)
  obtain ⟨fs, hr, hrun, hended, hW, hsame⟩ := X1_.leave (v := some (.ref b1)) (fun h => by first | rfl | (rw [Bd.returns] at h; cases h))
  refine ⟨_, _, pre0 _ ?_, hrun, hended, _, _, rfl, ?_, ⟨_, rfl⟩, hW, hsame.mono (by exact Nat.le_of_ble_eq_true rfl) (by exact Nat.le_of_ble_eq_true rfl)⟩
  · show Steps p.tables e below (s₁.setTop (mkF m 0 #[.val (.ref b1), .val (.ref x1)] [])) _
    refine XS.aloadN X0.here hx rfl (hb hby d7_0) rfl rfl ?_
    refine XS.aloadN X0.here hx rfl (hb hby d7_1) rfl rfl ?_
    refine st1_.trans ?_
    show Steps p.tables e below (T1_.setTop (mkF m 5 #[.val (.ref b1), .val (.ref x1)] [(.ref b1)])) _
    refine XS.pop X1_.here hx rfl (hb hby d7_5) rfl rfl ?_
    show Steps p.tables e below (T1_.setTop (mkF m 6 #[.val (.ref b1), .val (.ref x1)] [])) _
    refine XS.aloadN X1_.here hx rfl (hb hby d7_6) rfl rfl ?_
    exact retR X1_ hx Bd.returns rfl rfl rfl (hb hby d7_7) hr
  · show Q_sbApp2G Z b1 x1 t1 ds v1 kv G1 h0 n0 _ T1_.heap _
    skip
    exact ⟨v2_1_, k2_1_, rfl, N1_, k2_, p1__0, p1__1, p1__2, p1__3, (Nat.le_trans (Keep.refl h0 [b1]).1 p1__4)⟩
theorem d6_0 : decode jdk_68_method_2_code 0 = .ok (.aload_n 0, 1) := by decide +kernel
theorem d6_1 : decode jdk_68_method_2_code 1 = .ok (.invokespecial 3, 3) := by decide +kernel
theorem d6_4 : decode jdk_68_method_2_code 4 = .ok (.getstatic 18, 3) := by decide +kernel
theorem d6_7 : decode jdk_68_method_2_code 7 = .ok (.ifCond .eq 18, 3) := by decide +kernel
theorem d6_10 : decode jdk_68_method_2_code 10 = .ok (.aload_n 0, 1) := by decide +kernel
theorem d6_11 : decode jdk_68_method_2_code 11 = .ok (.iload_n 1, 1) := by decide +kernel
theorem d6_12 : decode jdk_68_method_2_code 12 = .ok (.newarray .byte, 2) := by decide +kernel
theorem d6_14 : decode jdk_68_method_2_code 14 = .ok (.putfield 15, 3) := by decide +kernel
theorem d6_17 : decode jdk_68_method_2_code 17 = .ok (.aload_n 0, 1) := by decide +kernel
theorem d6_18 : decode jdk_68_method_2_code 18 = .ok (.iconst 0, 1) := by decide +kernel
theorem d6_19 : decode jdk_68_method_2_code 19 = .ok (.putfield 22, 3) := by decide +kernel
theorem d6_22 : decode jdk_68_method_2_code 22 = .ok (.goto 16, 3) := by decide +kernel
theorem d6_38 : decode jdk_68_method_2_code 38 = .ok (.return_, 1) := by decide +kernel
theorem ef_sbInit (m : MethodId) (x0 : Addr) (x1 : Int32) : entryFrame m #[(.ref x0), (.int x1)] 2 = mkF m 0 #[.val (.ref x0), .val (.int x1)] [] := by first | (simp [entryFrame, mkF, argsToLocals, Value.category]; done) | rfl
def Q_sbInit (Z : State) (b1 : Addr) (G1 : Int32) (h0 : Heap) (n0 : Nat) (v : Option Value) (h : Heap) (L : List Loc) : Prop := ∃ (v2 : Addr) (k2 : ClassId), v = none ∧ Fr n0 L ∧ Keep h0 h [b1] ∧ (Fld Z h b1 "java/lang/AbstractStringBuilder" "coder" "B" (.int (0 : Int32))) ∧ (Fld Z h b1 "java/lang/AbstractStringBuilder" "value" "[B" (.ref v2)) ∧ (Fld Z h b1 "java/lang/AbstractStringBuilder" "count" "I" (.int (Int32.ofNat ([] : List Int32).length))) ∧ (Arv Z h v2 k2 .byte (Int32.ofNat 16) (own_pad ([] : List Int32) 16) (.int (0 : Int32))) ∧ (h0.size ≤ v2)
set_option maxRecDepth 65536 in
set_option maxHeartbeats 40000000 in
theorem sbInit (l : Launch) (Z : State) (a0 : Array Value) (hw : ∀ d ∈ tables_1, d.before a0 Z = true) (ws : List Jvm.Cond) (b1 : Addr) (G1 : Int32) (h0 : Heap) (n0 : Nat) (Z0 : n0 ≤ h0.size) (E1 : Exa Z h0 b1 "java/lang/StringBuilder") (F1 : Fld Z h0 b1 "java/lang/AbstractStringBuilder" "coder" "B" (.int (0 : Int32))) (F2 : Fld Z h0 b1 "java/lang/AbstractStringBuilder" "value" "[B" .null) (F3 : Fld Z h0 b1 "java/lang/AbstractStringBuilder" "count" "I" (.int (0 : Int32))) (g2 : n0 ≤ b1) (T1 : Sta Z Z.heap "java/lang/String" "COMPACT_STRINGS" "Z" (.int G1)) (P5 : ¬ (G1 = (0 : Int32))) (O1 : Old Z n0 h0) :
    MetFree l (⟨"java/lang/AbstractStringBuilder", "<init>", "(I)V"⟩ : MethodName) (head1 (Jvm.Cond.code (⟨"java/lang/AbstractStringBuilder", "<init>", "(I)V"⟩ : MethodName) jdk_68_method_2_code 2 none :: ws) ({ frames := 1, cells := 1, slots := 16, locals := 12 } : Room)) (fun a U => a = #[(.ref b1), (.int (16 : Int32))] ∧ Z.Warmed39 U.vm ∧ U.heap = h0) (fun _ _ _ _ _ => True) (fun _ U o U' => ∃ v L, o = .returned v ∧ Q_sbInit Z b1 G1 h0 n0 v U'.heap L ∧ FrameEnd U o U' L ({ frames := 1, cells := 1, slots := 16, locals := 12 } : Room).cells ({ frames := 1, cells := 1, slots := 16, locals := 12 } : Room).slots) := by
  refine MetFree.of_bodySF (plainFor_of_name pn_java_lang_AbstractStringBuilder) hisR ?_
  intro p e s m args below meth c s₁ Bd hml0 hP hK
  obtain ⟨rfl, hZ, hh⟩ := hP
  have hx := Bd.exec
  have hby := Bd.bytes
  have hml : c.maxLocals = 2 := hml0
  have hown : s.vm.findClass "java/lang/AbstractStringBuilder" = some m.cls := findClass_of_methodNamed Bd.named
  have hnm := (name_of_methodNamed Bd.named Bd.method).1
  have X0 : Stand p l e ({ frames := 1, cells := 1, slots := 16, locals := 12 } : Room) s m #[(.ref b1), (.int (16 : Int32))] below meth c s₁ [] 0 0 := Stand.of_body Bd
  have e0 : s₁.heap = h0 := by rw [← hh, Bd.state]; rfl
  have N0 := Fr.nil n0
  have pre0 : ∀ t, Steps p.tables e below (s₁.setTop (mkF m 0 #[.val (.ref b1), .val (.int (16 : Int32))] [])) t → Steps p.tables e below (s₁.setTop (entryFrame m #[(.ref b1), (.int (16 : Int32))] 2)) t := fun t k => castTop (ef_sbInit m b1 (16 : Int32)) k
  obtain ⟨T1_, X1_, e1_, st1_⟩ := initO X0 hx hZ hown (hw _ (List.mem_of_getElem? (i := 40) rfl)) (hw _ (List.mem_of_getElem? (i := 12) rfl)) (hw _ (List.mem_of_getElem? (i := 13) rfl)) e0 (g := (mkF m 1 #[.val (.ref b1), .val (.int (16 : Int32))] [(.ref b1)])) rfl (by rw [hml]; rfl) rfl (hb hby d6_1) (by decide) (W := 0) (by show 2 * 0 + _ ≤ _; exact Nat.le_of_eq rfl) (by decide)
  obtain ⟨T2_, X2_, e2_, st2_⟩ := getS2 X1_ hx hZ hown (host := "") (Or.inl (hw _ (List.mem_of_getElem? (i := 41) rfl))) Via.refl e1_ (T1.ext O1.2) (g := (mkF m 4 #[.val (.ref b1), .val (.int (16 : Int32))] [])) rfl (hb hby d6_4)
  obtain ⟨T3_, h3_, k3_, X3_, e3_, E3_, A3_, st3_⟩ := newP X2_ hx hZ (hw _ (List.mem_of_getElem? (i := 15) rfl)) e2_ (g := (mkF m 12 #[.val (.ref b1), .val (.int (16 : Int32))] [(.int (16 : Int32)), (.ref b1)])) rfl (hb hby d6_12) rfl (by decide) (cap := 16) (by decide) (by decide) (by exact Nat.le_of_ble_eq_true rfl) (by exact Nat.le_of_ble_eq_true rfl)
  obtain ⟨b3_, g3_⟩ : ∃ z, z = h0.size := ⟨_, rfl⟩
  rw [← g3_] at A3_ st3_
  have v3_ : Arv Z h3_ b3_ k3_ .byte (16 : Int32) [(.int (0 : Int32)), (.int (0 : Int32)), (.int (0 : Int32)), (.int (0 : Int32)), (.int (0 : Int32)), (.int (0 : Int32)), (.int (0 : Int32)), (.int (0 : Int32)), (.int (0 : Int32)), (.int (0 : Int32)), (.int (0 : Int32)), (.int (0 : Int32)), (.int (0 : Int32)), (.int (0 : Int32)), (.int (0 : Int32)), (.int (0 : Int32))] (.int (0 : Int32)) := (Arv.new A3_ (by decide)).pad (pad_rep [] (.int (0 : Int32)) 16)
  have f4_ : Exa Z h3_ b1 "java/lang/StringBuilder" := (E1.ext E3_)
  have f5_ : Fld Z h3_ b1 "java/lang/AbstractStringBuilder" "value" "[B" .null := (F2.ext E3_)
  obtain ⟨T6_, h6_, X6_, e6_, W6_, st6_⟩ := putF X3_ hx hZ hown (host := "") (Or.inl (hw _ (List.mem_of_getElem? (i := 42) rfl))) Via.refl e3_ f5_ f4_ (Or.inl (hw _ (List.mem_of_getElem? (i := 43) rfl))) (hw _ (List.mem_of_getElem? (i := 29) rfl)) (ty := (.array .byte)) (by decide) rfl rfl (g := (mkF m 14 #[.val (.ref b1), .val (.int (16 : Int32))] [(.ref b3_), (.ref b1)])) rfl rfl (hb hby d6_14)
  have w6_ : Fld Z h6_ b1 "java/lang/AbstractStringBuilder" "value" "[B" (.ref b3_) := f5_.same W6_
  have N6_ := Fr.snoc X6_ N0 g2
  have f7_ : Exa Z h6_ b1 "java/lang/StringBuilder" := (f4_.wr W6_)
  have f8_ : Fld Z h6_ b1 "java/lang/AbstractStringBuilder" "coder" "B" (.int (0 : Int32)) := ((F1.ext E3_).other W6_ (Or.inr (slot_ne (Or.inl (hw _ (List.mem_of_getElem? (i := 45) rfl))) (Or.inl (hw _ (List.mem_of_getElem? (i := 43) rfl))) (by decide) (t := .byte) (t' := (.array .byte)) (by decide) (by decide))))
  obtain ⟨T9_, h9_, X9_, e9_, W9_, st9_⟩ := putFN X6_ hx hZ hown (hw _ (List.mem_of_getElem? (i := 44) rfl)) Via.refl e6_ f8_ f7_ (Or.inl (hw _ (List.mem_of_getElem? (i := 45) rfl))) (hw _ (List.mem_of_getElem? (i := 29) rfl)) (ty := .byte) (v' := (.int (0 : Int32))) (by decide) rfl rfl (g := (mkF m 19 #[.val (.ref b1), .val (.int (16 : Int32))] [(.int (0 : Int32)), (.ref b1)])) rfl rfl (hb hby d6_19)
  have w9_ : Fld Z h9_ b1 "java/lang/AbstractStringBuilder" "coder" "B" (.int (0 : Int32)) := f8_.same W9_
  have N9_ := Fr.snoc X9_ N6_ g2
  have f10_ : Fld Z h9_ b1 "java/lang/AbstractStringBuilder" "value" "[B" (.ref b3_) := (w6_.other W9_ (Or.inr (slot_ne (Or.inl (hw _ (List.mem_of_getElem? (i := 43) rfl))) (Or.inl (hw _ (List.mem_of_getElem? (i := 45) rfl))) (by decide) (t := (.array .byte)) (t' := .byte) (by decide) (by decide))))
  have f11_ : Fld Z h9_ b1 "java/lang/AbstractStringBuilder" "count" "I" (.int (0 : Int32)) := (((F3.ext E3_).other W6_ (Or.inr (slot_ne (Or.inl (hw _ (List.mem_of_getElem? (i := 69) rfl))) (Or.inl (hw _ (List.mem_of_getElem? (i := 43) rfl))) (by decide) (t := .int) (t' := (.array .byte)) (by decide) (by decide)))).other W9_ (Or.inr (slot_ne (Or.inl (hw _ (List.mem_of_getElem? (i := 69) rfl))) (Or.inl (hw _ (List.mem_of_getElem? (i := 45) rfl))) (by decide) (t := .int) (t' := .byte) (by decide) (by decide))))
  have f12_ : Arv Z h9_ b3_ k3_ .byte (16 : Int32) [(.int (0 : Int32)), (.int (0 : Int32)), (.int (0 : Int32)), (.int (0 : Int32)), (.int (0 : Int32)), (.int (0 : Int32)), (.int (0 : Int32)), (.int (0 : Int32)), (.int (0 : Int32)), (.int (0 : Int32)), (.int (0 : Int32)), (.int (0 : Int32)), (.int (0 : Int32)), (.int (0 : Int32)), (.int (0 : Int32)), (.int (0 : Int32))] (.int (0 : Int32)) := ((v3_.other W6_ (Ne.symm (Nat.ne_of_lt (Nat.lt_of_lt_of_le E1.lt (Nat.le_of_eq g3_.symm))))).other W9_ (Ne.symm (Nat.ne_of_lt (Nat.lt_of_lt_of_le E1.lt (Nat.le_of_eq g3_.symm)))))
  have k13_ : Keep h0 h3_ [b1] := (Keep.refl h0 [b1]).ext E3_
  have k14_ : Keep h0 h6_ [b1] := k13_.wr W6_ (Or.inl (List.mem_of_getElem? (i := 0) rfl))
  have k15_ : Keep h0 h9_ [b1] := k14_.wr W9_ (Or.inl (List.mem_of_getElem? (i := 0) rfl))
  obtain ⟨fs, hr, hrun, hended, hW, hsame⟩ := X9_.leave (v := none) (fun h => by first | rfl | (rw [Bd.returns] at h; cases h))
  refine ⟨_, _, pre0 _ ?_, hrun, hended, _, _, rfl, ?_, ⟨_, rfl⟩, hW, hsame.mono (by exact Nat.le_of_ble_eq_true rfl) (by exact Nat.le_of_ble_eq_true rfl)⟩
  · show Steps p.tables e below (s₁.setTop (mkF m 0 #[.val (.ref b1), .val (.int (16 : Int32))] [])) _
    refine XS.aloadN X0.here hx rfl (hb hby d6_0) rfl rfl ?_
    refine st1_ _ ?_
    show Steps p.tables e below (T1_.setTop (mkF m 4 #[.val (.ref b1), .val (.int (16 : Int32))] [])) _
    refine st2_ _ ?_
    show Steps p.tables e below (T2_.setTop (mkF m 7 #[.val (.ref b1), .val (.int (16 : Int32))] [(.int G1)])) _
    refine XS.ifNo X2_.here hx rfl (hb hby d6_7) rfl ((if0 _ _).trans (feq (P5 : ¬ (G1 = (0 : Int32)))).1) ?_
    show Steps p.tables e below (T2_.setTop (mkF m 10 #[.val (.ref b1), .val (.int (16 : Int32))] [])) _
    refine XS.aloadN X2_.here hx rfl (hb hby d6_10) rfl rfl ?_
    refine XS.iloadN X2_.here hx rfl (hb hby d6_11) rfl ?_
    refine st3_ _ ?_
    show Steps p.tables e below (T3_.setTop (mkF m 14 #[.val (.ref b1), .val (.int (16 : Int32))] [(.ref b3_), (.ref b1)])) _
    refine st6_ _ ?_
    show Steps p.tables e below (T6_.setTop (mkF m 17 #[.val (.ref b1), .val (.int (16 : Int32))] [])) _
    refine XS.aloadN X6_.here hx rfl (hb hby d6_17) rfl rfl ?_
    refine XS.iconst X6_.here hx rfl (hb hby d6_18) ?_
    refine st9_ _ ?_
    show Steps p.tables e below (T9_.setTop (mkF m 22 #[.val (.ref b1), .val (.int (16 : Int32))] [])) _
    refine XS.goto X9_.here hx rfl (pc0 := 22) (pc' := 38) rfl (hb hby d6_22) (by decide) (by decide) ?_
    show Steps p.tables e below (T9_.setTop (mkF m 38 #[.val (.ref b1), .val (.int (16 : Int32))] [])) _
    exact X9_.returnOut hx Bd.returns (hb hby d6_38) hr
  · show Q_sbInit Z b1 G1 h0 n0 _ T9_.heap _
    rw [e9_]
    exact ⟨b3_, k3_, rfl, N9_, k15_, w9_, f10_, f11_, f12_, (Nat.le_trans (Keep.refl h0 [b1]).1 (Nat.le_of_eq g3_.symm))⟩
theorem d5_0 : decode jdk_67_method_1_code 0 = .ok (.aload_n 0, 1) := by decide +kernel
theorem d5_1 : decode jdk_67_method_1_code 1 = .ok (.bipush 16, 2) := by decide +kernel
theorem d5_3 : decode jdk_67_method_1_code 3 = .ok (.invokespecial 1, 3) := by decide +kernel
theorem d5_6 : decode jdk_67_method_1_code 6 = .ok (.return_, 1) := by decide +kernel
theorem ef_sbInit2 (m : MethodId) (x0 : Addr) : entryFrame m #[(.ref x0)] 1 = mkF m 0 #[.val (.ref x0)] [] := by first | (simp [entryFrame, mkF, argsToLocals, Value.category]; done) | rfl
def Q_sbInit2 (Z : State) (b1 : Addr) (G1 : Int32) (h0 : Heap) (n0 : Nat) (v : Option Value) (h : Heap) (L : List Loc) : Prop := ∃ (v2 : Addr) (k2 : ClassId), v = none ∧ Fr n0 L ∧ Keep h0 h [b1] ∧ (Fld Z h b1 "java/lang/AbstractStringBuilder" "coder" "B" (.int (0 : Int32))) ∧ (Fld Z h b1 "java/lang/AbstractStringBuilder" "value" "[B" (.ref v2)) ∧ (Fld Z h b1 "java/lang/AbstractStringBuilder" "count" "I" (.int (Int32.ofNat ([] : List Int32).length))) ∧ (Arv Z h v2 k2 .byte (Int32.ofNat 16) (own_pad ([] : List Int32) 16) (.int (0 : Int32))) ∧ (h0.size ≤ v2)
set_option maxRecDepth 65536 in
set_option maxHeartbeats 40000000 in
theorem sbInit2 (l : Launch) (Z : State) (a0 : Array Value) (hw : ∀ d ∈ tables_1, d.before a0 Z = true) (ws : List Jvm.Cond) (b1 : Addr) (G1 : Int32) (h0 : Heap) (n0 : Nat) (Z0 : n0 ≤ h0.size) (E1 : Exa Z h0 b1 "java/lang/StringBuilder") (F1 : Fld Z h0 b1 "java/lang/AbstractStringBuilder" "coder" "B" (.int (0 : Int32))) (F2 : Fld Z h0 b1 "java/lang/AbstractStringBuilder" "value" "[B" .null) (F3 : Fld Z h0 b1 "java/lang/AbstractStringBuilder" "count" "I" (.int (0 : Int32))) (g2 : n0 ≤ b1) (T1 : Sta Z Z.heap "java/lang/String" "COMPACT_STRINGS" "Z" (.int G1)) (P5 : ¬ (G1 = (0 : Int32))) (O1 : Old Z n0 h0) :
    MetFree l (⟨"java/lang/StringBuilder", "<init>", "()V"⟩ : MethodName) (head1 (Jvm.Cond.code (⟨"java/lang/StringBuilder", "<init>", "()V"⟩ : MethodName) jdk_67_method_1_code 1 none :: ws) ({ frames := 2, cells := 1, slots := 16, locals := 25 } : Room)) (fun a U => a = #[(.ref b1)] ∧ Z.Warmed39 U.vm ∧ U.heap = h0) (fun _ _ _ _ _ => True) (fun _ U o U' => ∃ v L, o = .returned v ∧ Q_sbInit2 Z b1 G1 h0 n0 v U'.heap L ∧ FrameEnd U o U' L ({ frames := 2, cells := 1, slots := 16, locals := 25 } : Room).cells ({ frames := 2, cells := 1, slots := 16, locals := 25 } : Room).slots) := by
  refine MetFree.of_bodySF (plainFor_of_name pn_java_lang_StringBuilder) hisR ?_
  intro p e s m args below meth c s₁ Bd hml0 hP hK
  obtain ⟨rfl, hZ, hh⟩ := hP
  have hx := Bd.exec
  have hby := Bd.bytes
  have hml : c.maxLocals = 1 := hml0
  have hown : s.vm.findClass "java/lang/StringBuilder" = some m.cls := findClass_of_methodNamed Bd.named
  have hnm := (name_of_methodNamed Bd.named Bd.method).1
  have X0 : Stand p l e ({ frames := 2, cells := 1, slots := 16, locals := 25 } : Room) s m #[(.ref b1)] below meth c s₁ [] 0 0 := Stand.of_body Bd
  have e0 : s₁.heap = h0 := by rw [← hh, Bd.state]; rfl
  have N0 := Fr.nil n0
  have pre0 : ∀ t, Steps p.tables e below (s₁.setTop (mkF m 0 #[.val (.ref b1)] [])) t → Steps p.tables e below (s₁.setTop (entryFrame m #[(.ref b1)] 1)) t := fun t k => castTop (ef_sbInit2 m b1) k
  obtain ⟨_, _, ⟨T1_, L1_, k1_, n1_⟩, -, X1_, ⟨Lc1_, hQ1_, l1_, y1_, z1_⟩, st1_⟩ := X0.specialBack hx (y := (⟨"java/lang/AbstractStringBuilder", "<init>", "(I)V"⟩ : MethodName)) rfl hown (mvT hZ (hw _ (List.mem_of_getElem? (i := 34) rfl))) (mvT hZ (hw _ (List.mem_of_getElem? (i := 35) rfl))) (mvT hZ (hw _ (List.mem_of_getElem? (i := 39) rfl))) (by decide) (backOf (W := 0) (sbInit l Z a0 hw [] b1 G1 h0 n0 Z0 E1 F1 F2 F3 g2 T1 P5 O1) hZ (hw _ (List.mem_of_getElem? (i := 39) rfl)) (hw _ (List.mem_of_getElem? (i := 38) rfl)) (by decide) (by decide)) (g := (mkF m 3 #[.val (.ref b1)] [(.int (16 : Int32)), (.ref b1)])) rfl (by rw [hml]; rfl) (Steps.refl _) (a := b1) (argsL := [(.int (16 : Int32))]) (rest := []) (lenOf pd_qIzV rfl) rfl (by show 2 * 0 + _ ≤ _; exact Nat.le_of_eq rfl) (hb hby d5_3) (fun _ _ => ⟨rfl, e0, (by exact Nat.le_of_ble_eq_true rfl), (by exact Nat.le_of_ble_eq_true rfl)⟩)
  dsimp only [Pt.U, Pt.locs, Pt.cells, Pt.slots] at X1_ l1_ y1_ z1_ st1_ hQ1_
  subst L1_ k1_ n1_
  obtain ⟨v2_1_, k2_1_, rfl, Nq1_, ek1_, p1__0, p1__1, p1__2, p1__3, p1__4⟩ := hQ1_
  have N1_ := Fr.app N0 Nq1_
  have k2_ : Keep h0 T1_.heap [b1] := (Keep.refl h0 [b1]).trans ek1_ (allS (Or.inl (List.mem_of_getElem? (i := 0) rfl)) all0)
  obtain ⟨fs, hr, hrun, hended, hW, hsame⟩ := X1_.leave (v := none) (fun h => by first | rfl | (rw [Bd.returns] at h; cases h))
  refine ⟨_, _, pre0 _ ?_, hrun, hended, _, _, rfl, ?_, ⟨_, rfl⟩, hW, hsame.mono (by exact Nat.le_of_ble_eq_true rfl) (by exact Nat.le_of_ble_eq_true rfl)⟩
  · show Steps p.tables e below (s₁.setTop (mkF m 0 #[.val (.ref b1)] [])) _
    refine XS.aloadN X0.here hx rfl (hb hby d5_0) rfl rfl ?_
    refine XS.bipush X0.here hx rfl (hb hby d5_1) ?_
    refine st1_.trans ?_
    show Steps p.tables e below (T1_.setTop (mkF m 6 #[.val (.ref b1)] [])) _
    exact X1_.returnOut hx Bd.returns (hb hby d5_6) hr
  · show Q_sbInit2 Z b1 G1 h0 n0 _ T1_.heap _
    skip
    exact ⟨v2_1_, k2_1_, rfl, N1_, k2_, p1__0, p1__1, p1__2, p1__3, (Nat.le_trans (Keep.refl h0 [b1]).1 p1__4)⟩
theorem d29_0 : decode jdk_65_method_131_code 0 = .ok (.iload_n 1, 1) := by decide +kernel
theorem d29_1 : decode jdk_65_method_131_code 1 = .ok (.iload_n 0, 1) := by decide +kernel
theorem d29_2 : decode jdk_65_method_131_code 2 = .ok (.if_icmp .ge 35, 3) := by decide +kernel
theorem d29_37 : decode jdk_65_method_131_code 37 = .ok (.return_, 1) := by decide +kernel
theorem ef_sbChk (m : MethodId) (x0 : Int32) (x1 : Int32) : entryFrame m #[(.int x0), (.int x1)] 2 = mkF m 0 #[.val (.int x0), .val (.int x1)] [] := by first | (simp [entryFrame, mkF, argsToLocals, Value.category]; done) | rfl
def Q_sbChk (Z : State) (p1 : Int32) (p2 : Int32) (h0 : Heap) (n0 : Nat) (v : Option Value) (h : Heap) (L : List Loc) : Prop := v = none ∧ Fr n0 L ∧ h = h0
set_option maxRecDepth 65536 in
set_option maxHeartbeats 40000000 in
theorem sbChk (l : Launch) (Z : State) (a0 : Array Value) (hw : ∀ d ∈ tables_1, d.before a0 Z = true) (ws : List Jvm.Cond) (p1 : Int32) (p2 : Int32) (h0 : Heap) (n0 : Nat) (Z0 : n0 ≤ h0.size) (hp : ¬ (p2 < p1)) :
    MetFree l (⟨"java/util/Arrays", "checkLength", "(II)V"⟩ : MethodName) (head1 (Jvm.Cond.code (⟨"java/util/Arrays", "checkLength", "(II)V"⟩ : MethodName) jdk_65_method_131_code 2 none :: ws) ({ frames := 0, cells := 0, slots := 0, locals := 0 } : Room)) (fun a U => a = #[(.int p1), (.int p2)] ∧ Z.Warmed39 U.vm ∧ U.heap = h0) (fun _ _ _ _ _ => True) (fun _ U o U' => ∃ v L, o = .returned v ∧ Q_sbChk Z p1 p2 h0 n0 v U'.heap L ∧ FrameEnd U o U' L ({ frames := 0, cells := 0, slots := 0, locals := 0 } : Room).cells ({ frames := 0, cells := 0, slots := 0, locals := 0 } : Room).slots) := by
  refine MetFree.of_bodySF (plainFor_of_name pn_java_util_Arrays) hisR ?_
  intro p e s m args below meth c s₁ Bd hml0 hP hK
  obtain ⟨rfl, hZ, hh⟩ := hP
  have hx := Bd.exec
  have hby := Bd.bytes
  have hml : c.maxLocals = 2 := hml0
  have hown : s.vm.findClass "java/util/Arrays" = some m.cls := findClass_of_methodNamed Bd.named
  have hnm := (name_of_methodNamed Bd.named Bd.method).1
  have X0 : Stand p l e ({ frames := 0, cells := 0, slots := 0, locals := 0 } : Room) s m #[(.int p1), (.int p2)] below meth c s₁ [] 0 0 := Stand.of_body Bd
  have e0 : s₁.heap = h0 := by rw [← hh, Bd.state]; rfl
  have N0 := Fr.nil n0
  have pre0 : ∀ t, Steps p.tables e below (s₁.setTop (mkF m 0 #[.val (.int p1), .val (.int p2)] [])) t → Steps p.tables e below (s₁.setTop (entryFrame m #[(.int p1), (.int p2)] 2)) t := fun t k => castTop (ef_sbChk m p1 p2) k
  obtain ⟨fs, hr, hrun, hended, hW, hsame⟩ := X0.leave (v := none) (fun h => by first | rfl | (rw [Bd.returns] at h; cases h))
  refine ⟨_, _, pre0 _ ?_, hrun, hended, _, _, rfl, ?_, ⟨_, rfl⟩, hW, hsame.mono (by exact Nat.le_of_ble_eq_true rfl) (by exact Nat.le_of_ble_eq_true rfl)⟩
  · show Steps p.tables e below (s₁.setTop (mkF m 0 #[.val (.int p1), .val (.int p2)] [])) _
    refine XS.iloadN X0.here hx rfl (hb hby d29_0) rfl ?_
    refine XS.iloadN X0.here hx rfl (hb hby d29_1) rfl ?_
    refine XS.icmpYes X0.here hx rfl (pc0 := 2) (pc' := 37) rfl (hb hby d29_2) rfl (flt (hp : ¬ (p2 < p1))).2.1 (by decide) (by decide) ?_
    show Steps p.tables e below (s₁.setTop (mkF m 37 #[.val (.int p1), .val (.int p2)] [])) _
    exact X0.returnOut hx Bd.returns (hb hby d29_37) hr
  · show Q_sbChk Z p1 p2 h0 n0 _ s₁.heap _
    rw [e0]
    exact ⟨rfl, N0, rfl⟩
theorem d16_9 : decode jdk_29_method_69_code 9 = .ok (.iload_n 1, 1) := by decide +kernel
theorem ef_sbMinB (m : MethodId) (x0 : Int32) (x1 : Int32) : entryFrame m #[(.int x0), (.int x1)] 2 = mkF m 0 #[.val (.int x0), .val (.int x1)] [] := by first | (simp [entryFrame, mkF, argsToLocals, Value.category]; done) | rfl
def Q_sbMinB (Z : State) (p1 : Int32) (p2 : Int32) (h0 : Heap) (n0 : Nat) (v : Option Value) (h : Heap) (L : List Loc) : Prop := v = some (.int p2) ∧ Fr n0 L ∧ h = h0
set_option maxRecDepth 65536 in
set_option maxHeartbeats 40000000 in
theorem sbMinB (l : Launch) (Z : State) (a0 : Array Value) (hw : ∀ d ∈ tables_1, d.before a0 Z = true) (ws : List Jvm.Cond) (p1 : Int32) (p2 : Int32) (h0 : Heap) (n0 : Nat) (Z0 : n0 ≤ h0.size) (hp : p2 < p1) :
    MetFree l (⟨"java/lang/Math", "min", "(II)I"⟩ : MethodName) (head1 (Jvm.Cond.code (⟨"java/lang/Math", "min", "(II)I"⟩ : MethodName) jdk_29_method_69_code 2 (some .int) :: ws) ({ frames := 0, cells := 0, slots := 0, locals := 0 } : Room)) (fun a U => a = #[(.int p1), (.int p2)] ∧ Z.Warmed39 U.vm ∧ U.heap = h0) (fun _ _ _ _ _ => True) (fun _ U o U' => ∃ v L, o = .returned v ∧ Q_sbMinB Z p1 p2 h0 n0 v U'.heap L ∧ FrameEnd U o U' L ({ frames := 0, cells := 0, slots := 0, locals := 0 } : Room).cells ({ frames := 0, cells := 0, slots := 0, locals := 0 } : Room).slots) := by
  refine MetFree.of_bodySF (Jvm.Free.JP.mathPlain rfl (by decide +kernel)) hisR ?_
  intro p e s m args below meth c s₁ Bd hml0 hP hK
  obtain ⟨rfl, hZ, hh⟩ := hP
  have hx := Bd.exec
  have hby := Bd.bytes
  have hml : c.maxLocals = 2 := hml0
  have hown : s.vm.findClass "java/lang/Math" = some m.cls := findClass_of_methodNamed Bd.named
  have hnm := (name_of_methodNamed Bd.named Bd.method).1
  have X0 : Stand p l e ({ frames := 0, cells := 0, slots := 0, locals := 0 } : Room) s m #[(.int p1), (.int p2)] below meth c s₁ [] 0 0 := Stand.of_body Bd
  have e0 : s₁.heap = h0 := by rw [← hh, Bd.state]; rfl
  have N0 := Fr.nil n0
  have pre0 : ∀ t, Steps p.tables e below (s₁.setTop (mkF m 0 #[.val (.int p1), .val (.int p2)] [])) t → Steps p.tables e below (s₁.setTop (entryFrame m #[(.int p1), (.int p2)] 2)) t := fun t k => castTop (ef_sbMinB m p1 p2) k
  obtain ⟨fs, hr, hrun, hended, hW, hsame⟩ := X0.leave (v := some (.int p2)) (fun h => by first | rfl | (rw [Bd.returns] at h; cases h))
  refine ⟨_, _, pre0 _ ?_, hrun, hended, _, _, rfl, ?_, ⟨_, rfl⟩, hW, hsame.mono (by exact Nat.le_of_ble_eq_true rfl) (by exact Nat.le_of_ble_eq_true rfl)⟩
  · show Steps p.tables e below (s₁.setTop (mkF m 0 #[.val (.int p1), .val (.int p2)] [])) _
    refine XS.iloadN X0.here hx rfl (hb hby d16_0) rfl ?_
    refine XS.iloadN X0.here hx rfl (hb hby d16_1) rfl ?_
    refine XS.icmpYes X0.here hx rfl (pc0 := 2) (pc' := 9) rfl (hb hby d16_2) rfl (tlt (hp : p2 < p1)).2.2.1 (by decide) (by decide) ?_
    show Steps p.tables e below (s₁.setTop (mkF m 9 #[.val (.int p1), .val (.int p2)] [])) _
    refine XS.iloadN X0.here hx rfl (hb hby d16_9) rfl ?_
    exact retI X0 hx Bd.returns (hb hby d16_10) hr
  · show Q_sbMinB Z p1 p2 h0 n0 _ s₁.heap _
    rw [e0]
    exact ⟨rfl, N0, rfl⟩
theorem d28_0 : decode jdk_65_method_133_code 0 = .ok (.iload_n 1, 1) := by decide +kernel
theorem d28_1 : decode jdk_65_method_133_code 1 = .ok (.iload_n 2, 1) := by decide +kernel
theorem d28_2 : decode jdk_65_method_133_code 2 = .ok (.invokestatic 343, 3) := by decide +kernel
theorem pd_qIIzV : parseMethodDescriptor "(II)V" = some ⟨[.int, .int], none⟩ := by decide +kernel
theorem d28_5 : decode jdk_65_method_133_code 5 = .ok (.iload_n 2, 1) := by decide +kernel
theorem d28_6 : decode jdk_65_method_133_code 6 = .ok (.iload_n 1, 1) := by decide +kernel
theorem d28_7 : decode jdk_65_method_133_code 7 = .ok (.isub, 1) := by decide +kernel
theorem d28_8 : decode jdk_65_method_133_code 8 = .ok (.istore_n 3, 1) := by decide +kernel
theorem d28_9 : decode jdk_65_method_133_code 9 = .ok (.iload_n 3, 1) := by decide +kernel
theorem d28_10 : decode jdk_65_method_133_code 10 = .ok (.newarray .byte, 2) := by decide +kernel
theorem d28_12 : decode jdk_65_method_133_code 12 = .ok (.astore 4, 2) := by decide +kernel
theorem d28_14 : decode jdk_65_method_133_code 14 = .ok (.aload_n 0, 1) := by decide +kernel
theorem d28_15 : decode jdk_65_method_133_code 15 = .ok (.iload_n 1, 1) := by decide +kernel
theorem d28_16 : decode jdk_65_method_133_code 16 = .ok (.aload 4, 2) := by decide +kernel
theorem d28_18 : decode jdk_65_method_133_code 18 = .ok (.iconst 0, 1) := by decide +kernel
theorem d28_19 : decode jdk_65_method_133_code 19 = .ok (.aload_n 0, 1) := by decide +kernel
theorem d28_20 : decode jdk_65_method_133_code 20 = .ok (.arraylength, 1) := by decide +kernel
theorem d28_21 : decode jdk_65_method_133_code 21 = .ok (.iload_n 1, 1) := by decide +kernel
theorem d28_22 : decode jdk_65_method_133_code 22 = .ok (.isub, 1) := by decide +kernel
theorem d28_23 : decode jdk_65_method_133_code 23 = .ok (.iload_n 3, 1) := by decide +kernel
theorem d28_24 : decode jdk_65_method_133_code 24 = .ok (.invokestatic 304, 3) := by decide +kernel
theorem d28_27 : decode jdk_65_method_133_code 27 = .ok (.invokestatic 150, 3) := by decide +kernel
theorem d28_30 : decode jdk_65_method_133_code 30 = .ok (.aload 4, 2) := by decide +kernel
theorem d28_32 : decode jdk_65_method_133_code 32 = .ok (.areturn, 1) := by decide +kernel
theorem ef_sbRangeB (m : MethodId) (x0 : Addr) (x1 : Int32) (x2 : Int32) : entryFrame m #[(.ref x0), (.int x1), (.int x2)] 5 = mkF m 0 #[.val (.ref x0), .val (.int x1), .val (.int x2), .unset, .unset] [] := by first | (simp [entryFrame, mkF, argsToLocals, Value.category]; done) | rfl
def Q_sbRangeB (Z : State) (v1 : Addr) (kv : ClassId) (es : List Int32) (cap : Nat) (h0 : Heap) (n0 : Nat) (v : Option Value) (h : Heap) (L : List Loc) : Prop := ∃ (t1 : Addr) (k1 : ClassId), v = some (.ref t1) ∧ Fr n0 L ∧ Keep h0 h [] ∧ (Arv Z h t1 k1 .byte (Int32.ofNat es.length) (own_by es) (.int (0 : Int32))) ∧ (h0.size ≤ t1)
set_option maxRecDepth 65536 in
set_option maxHeartbeats 40000000 in
theorem sbRangeB (l : Launch) (Z : State) (a0 : Array Value) (hw : ∀ d ∈ tables_1, d.before a0 Z = true) (ws : List Jvm.Cond) (v1 : Addr) (kv : ClassId) (es : List Int32) (cap : Nat) (h0 : Heap) (n0 : Nat) (Z0 : n0 ≤ h0.size) (V1 : Arv Z h0 v1 kv .byte (Int32.ofNat cap) (own_pad es cap) (.int (0 : Int32))) (lt1 : es.length < cap) (lc1 : cap ≤ 34) :
    MetFree l (⟨"java/util/Arrays", "copyOfRangeByte", "([BII)[B"⟩ : MethodName) (head1 (Jvm.Cond.code (⟨"java/util/Arrays", "copyOfRangeByte", "([BII)[B"⟩ : MethodName) jdk_65_method_133_code 5 (some (.array .byte)) :: ws) ({ frames := 1, cells := 1, slots := 34, locals := 18 } : Room)) (fun a U => a = #[(.ref v1), (.int (0 : Int32)), (.int (Int32.ofNat es.length))] ∧ Z.Warmed39 U.vm ∧ U.heap = h0) (fun _ _ _ _ _ => True) (fun _ U o U' => ∃ v L, o = .returned v ∧ Q_sbRangeB Z v1 kv es cap h0 n0 v U'.heap L ∧ FrameEnd U o U' L ({ frames := 1, cells := 1, slots := 34, locals := 18 } : Room).cells ({ frames := 1, cells := 1, slots := 34, locals := 18 } : Room).slots) := by
  refine MetFree.of_bodySF (plainFor_of_name pn_java_util_Arrays) hisR ?_
  intro p e s m args below meth c s₁ Bd hml0 hP hK
  obtain ⟨rfl, hZ, hh⟩ := hP
  have hx := Bd.exec
  have hby := Bd.bytes
  have hml : c.maxLocals = 5 := hml0
  have hown : s.vm.findClass "java/util/Arrays" = some m.cls := findClass_of_methodNamed Bd.named
  have hnm := (name_of_methodNamed Bd.named Bd.method).1
  have X0 : Stand p l e ({ frames := 1, cells := 1, slots := 34, locals := 18 } : Room) s m #[(.ref v1), (.int (0 : Int32)), (.int (Int32.ofNat es.length))] below meth c s₁ [] 0 0 := Stand.of_body Bd
  have e0 : s₁.heap = h0 := by rw [← hh, Bd.state]; rfl
  have N0 := Fr.nil n0
  have pre0 : ∀ t, Steps p.tables e below (s₁.setTop (mkF m 0 #[.val (.ref v1), .val (.int (0 : Int32)), .val (.int (Int32.ofNat es.length)), .unset, .unset] [])) t → Steps p.tables e below (s₁.setTop (entryFrame m #[(.ref v1), (.int (0 : Int32)), (.int (Int32.ofNat es.length))] 5)) t := fun t k => castTop (ef_sbRangeB m v1 (0 : Int32) (Int32.ofNat es.length)) k
  obtain ⟨_, _, ⟨T1_, L1_, k1_, n1_⟩, -, X1_, ⟨Lc1_, hQ1_, l1_, y1_, z1_⟩, st1_⟩ := Jvm.LawKit.callS X0 hx (y := (⟨"java/util/Arrays", "checkLength", "(II)V"⟩ : MethodName)) hown (mvT hZ (hw _ (List.mem_of_getElem? (i := 155) rfl))) (mvT hZ (hw _ (List.mem_of_getElem? (i := 156) rfl))) (mvT hZ (hw _ (List.mem_of_getElem? (i := 92) rfl))) (mvT hZ (hw _ (List.mem_of_getElem? (i := 157) rfl))) (by decide) (backOf (W := 0) (sbChk l Z a0 hw [] (0 : Int32) (Int32.ofNat es.length) h0 n0 Z0 (own_nn (by omega))) hZ (hw _ (List.mem_of_getElem? (i := 157) rfl)) (hw _ (List.mem_of_getElem? (i := 92) rfl)) (by decide) (by decide)) (g := (mkF m 2 #[.val (.ref v1), .val (.int (0 : Int32)), .val (.int (Int32.ofNat es.length)), .unset, .unset] [(.int (Int32.ofNat es.length)), (.int (0 : Int32))])) rfl (by rw [hml]; rfl) (argsL := [(.int (0 : Int32)), (.int (Int32.ofNat es.length))]) (rest := []) (lenOf pd_qIIzV rfl) rfl (by show 2 * 0 + _ ≤ _; exact Nat.le_of_eq rfl) (hb hby d28_2) (fun _ _ => ⟨rfl, e0, (by exact Nat.le_of_ble_eq_true rfl), (by exact Nat.le_of_ble_eq_true rfl)⟩)
  dsimp only [Pt.U, Pt.locs, Pt.cells, Pt.slots] at X1_ l1_ y1_ z1_ st1_ hQ1_
  subst L1_ k1_ n1_
  obtain ⟨rfl, Nq1_, ek1_⟩ := hQ1_
  have N1_ := Fr.app N0 Nq1_
  obtain ⟨T2_, h2_, k2_, X2_, e2_, E2_, A2_, st2_⟩ := newP X1_ hx hZ (hw _ (List.mem_of_getElem? (i := 15) rfl)) ek1_ (g := (mkF m 10 #[.val (.ref v1), .val (.int (0 : Int32)), .val (.int (Int32.ofNat es.length)), .val (.int (Int32.ofNat es.length)), .unset] [(.int (Int32.ofNat es.length))])) rfl (hb hby d28_10) rfl (own_nn (by omega)) (cap := 34) (by rw [own_tn (by omega)]; omega) (by decide) (by exact Nat.le_of_ble_eq_true rfl) (by exact Nat.le_of_ble_eq_true rfl)
  obtain ⟨b2_, g2_⟩ : ∃ z, z = h0.size := ⟨_, rfl⟩
  rw [← g2_] at A2_ st2_
  have v2_ : Arv Z h2_ b2_ k2_ .byte (Int32.ofNat es.length) [] (.int (0 : Int32)) := Arv.new A2_ (own_nn (by omega))
  have vp_ : Arv Z h2_ b2_ k2_ .byte (Int32.ofNat es.length) (List.replicate es.length (.int (0 : Int32))) (.int (0 : Int32)) := (v2_).pad (pad_rep [] (.int (0 : Int32)) es.length)
  have f3_ : Arv Z h2_ v1 kv .byte (Int32.ofNat cap) (own_pad es cap) (.int (0 : Int32)) := (V1.ext E2_)
  obtain ⟨cl4_, Ar4_, q4_, S4_, M4_, Hs4_, G4_⟩ := id f3_
  have z6_ : n0 ≤ h2_.size := Nat.le_trans Z0 E2_.1
  obtain ⟨_, _, ⟨T5_, L5_, k5_, n5_⟩, -, X5_, ⟨Lc5_, hQ5_, l5_, y5_, z5_⟩, st5_⟩ := Jvm.LawKit.callS X2_ hx (y := (⟨"java/lang/Math", "min", "(II)I"⟩ : MethodName)) hown (mvT hZ (hw _ (List.mem_of_getElem? (i := 94) rfl))) (mvT hZ (hw _ (List.mem_of_getElem? (i := 95) rfl))) (mvT hZ (hw _ (List.mem_of_getElem? (i := 86) rfl))) (mvT hZ (hw _ (List.mem_of_getElem? (i := 96) rfl))) (by decide) (backOf (W := 4) (sbMinB l Z a0 hw [] (Int32.ofNat cap) (Int32.ofNat es.length) h2_ n0 z6_ (own_ltn (by omega) lt1)) hZ (hw _ (List.mem_of_getElem? (i := 96) rfl)) (hw _ (List.mem_of_getElem? (i := 86) rfl)) (by decide) (by decide)) (g := (mkF m 24 #[.val (.ref v1), .val (.int (0 : Int32)), .val (.int (Int32.ofNat es.length)), .val (.int (Int32.ofNat es.length)), .val (.ref b2_)] [(.int (Int32.ofNat es.length)), (.int (Int32.ofNat cap)), (.int (0 : Int32)), (.ref b2_), (.int (0 : Int32)), (.ref v1)])) rfl (by rw [hml]; rfl) (argsL := [(.int (Int32.ofNat cap)), (.int (Int32.ofNat es.length))]) (rest := [(.int (0 : Int32)), (.ref b2_), (.int (0 : Int32)), (.ref v1)]) (lenOf pd_qIIzI rfl) rfl (by show 2 * 0 + _ ≤ _; exact Nat.le_of_eq rfl) (hb hby d28_24) (fun _ _ => ⟨rfl, e2_, (by exact Nat.le_of_ble_eq_true rfl), (by exact Nat.le_of_ble_eq_true rfl)⟩)
  dsimp only [Pt.U, Pt.locs, Pt.cells, Pt.slots] at X5_ l5_ y5_ z5_ st5_ hQ5_
  subst L5_ k5_ n5_
  obtain ⟨rfl, Nq5_, ek5_⟩ := hQ5_
  have N5_ := Fr.app N1_ Nq5_
  have g8_ : n0 ≤ b2_ := Nat.le_trans Z0 (Nat.le_of_eq g2_.symm)
  obtain ⟨T7_, h7_, L7_, X7_, e7_, N7_, K7_, V7_, st7_⟩ := cpA X5_ hx hZ hown (hw _ (List.mem_of_getElem? (i := 97) rfl)) (hw _ (List.mem_of_getElem? (i := 100) rfl)) (hw _ (List.mem_of_getElem? (i := 98) rfl)) (hw _ (List.mem_of_getElem? (i := 99) rfl)) ek5_ f3_ vp_ (us := (own_by es)) (Or.inl ⟨rfl, rfl⟩) (by decide) (by decide) (own_nn (by omega)) (own_h50 (by omega) (by omega)) (own_h4 _) (own_us2 _ (by omega)) (own_hl0 (by omega) _) N5_ g8_ (g := (mkF m 27 #[.val (.ref v1), .val (.int (0 : Int32)), .val (.int (Int32.ofNat es.length)), .val (.int (Int32.ofNat es.length)), .val (.ref b2_)] [(.int (Int32.ofNat es.length)), (.int (0 : Int32)), (.ref b2_), (.int (0 : Int32)), (.ref v1)])) rfl (by rw [hml]; rfl) rfl (hb hby d28_27) (by decide) (W := 0) (by show 2 * 0 + _ ≤ _; exact Nat.le_of_eq rfl) (by decide)
  have v7_ : Arv Z h7_ b2_ k2_ .byte (Int32.ofNat es.length) (own_by es) (.int (0 : Int32)) := (by have q_ := V7_; rw [own_cat0 (by omega)] at q_; exact q_)
  have k9_ : Keep h0 h2_ [] := (Keep.refl h0 []).ext E2_
  have k10_ : Keep h0 h7_ [] := k9_.trans K7_ (allS (Or.inr (Nat.le_trans (Keep.refl h0 []).1 (Nat.le_of_eq g2_.symm))) all0)
  obtain ⟨fs, hr, hrun, hended, hW, hsame⟩ := X7_.leave (v := some (.ref b2_)) (fun h => by first | rfl | (rw [Bd.returns] at h; cases h))
  refine ⟨_, _, pre0 _ ?_, hrun, hended, _, _, rfl, ?_, ⟨_, rfl⟩, hW, hsame.mono (by exact Nat.le_of_ble_eq_true rfl) (by exact Nat.le_of_ble_eq_true rfl)⟩
  · show Steps p.tables e below (s₁.setTop (mkF m 0 #[.val (.ref v1), .val (.int (0 : Int32)), .val (.int (Int32.ofNat es.length)), .unset, .unset] [])) _
    refine XS.iloadN X0.here hx rfl (hb hby d28_0) rfl ?_
    refine XS.iloadN X0.here hx rfl (hb hby d28_1) rfl ?_
    refine st1_ _ ?_
    show Steps p.tables e below (T1_.setTop (mkF m 5 #[.val (.ref v1), .val (.int (0 : Int32)), .val (.int (Int32.ofNat es.length)), .unset, .unset] [])) _
    refine XS.iloadN X1_.here hx rfl (hb hby d28_5) rfl ?_
    refine XS.iloadN X1_.here hx rfl (hb hby d28_6) rfl ?_
    refine XS.isub X1_.here hx rfl (hb hby d28_7) rfl ?_
    show Steps p.tables e below (T1_.setTop (mkF m 8 #[.val (.ref v1), .val (.int (0 : Int32)), .val (.int (Int32.ofNat es.length)), .unset, .unset] [(.int ((Int32.ofNat es.length) - (0 : Int32)))])) _
    rw [own_sub0]
    show Steps p.tables e below (T1_.setTop (mkF m 8 #[.val (.ref v1), .val (.int (0 : Int32)), .val (.int (Int32.ofNat es.length)), .unset, .unset] [(.int (Int32.ofNat es.length))])) _
    refine XS.istoreN X1_.here hx rfl (hb hby d28_8) rfl (l' := #[.val (.ref v1), .val (.int (0 : Int32)), .val (.int (Int32.ofNat es.length)), .val (.int (Int32.ofNat es.length)), .unset]) rfl ?_
    show Steps p.tables e below (T1_.setTop (mkF m 9 #[.val (.ref v1), .val (.int (0 : Int32)), .val (.int (Int32.ofNat es.length)), .val (.int (Int32.ofNat es.length)), .unset] [])) _
    refine XS.iloadN X1_.here hx rfl (hb hby d28_9) rfl ?_
    refine st2_ _ ?_
    show Steps p.tables e below (T2_.setTop (mkF m 12 #[.val (.ref v1), .val (.int (0 : Int32)), .val (.int (Int32.ofNat es.length)), .val (.int (Int32.ofNat es.length)), .unset] [(.ref b2_)])) _
    refine XS.astore X2_.here hx rfl (hb hby d28_12) rfl rfl (l' := #[.val (.ref v1), .val (.int (0 : Int32)), .val (.int (Int32.ofNat es.length)), .val (.int (Int32.ofNat es.length)), .val (.ref b2_)]) rfl ?_
    show Steps p.tables e below (T2_.setTop (mkF m 14 #[.val (.ref v1), .val (.int (0 : Int32)), .val (.int (Int32.ofNat es.length)), .val (.int (Int32.ofNat es.length)), .val (.ref b2_)] [])) _
    refine XS.aloadN X2_.here hx rfl (hb hby d28_14) rfl rfl ?_
    refine XS.iloadN X2_.here hx rfl (hb hby d28_15) rfl ?_
    refine XS.aload X2_.here hx rfl (hb hby d28_16) rfl rfl ?_
    refine XS.iconst X2_.here hx rfl (hb hby d28_18) ?_
    refine XS.aloadN X2_.here hx rfl (hb hby d28_19) rfl rfl ?_
    refine X2_.arraylength hx (by rw [e2_]; exact Ar4_.1) (State.isArrayOf_alike (State.Warmed39.alike hZ) Ar4_.2.1) (g := (mkF m 20 #[.val (.ref v1), .val (.int (0 : Int32)), .val (.int (Int32.ofNat es.length)), .val (.int (Int32.ofNat es.length)), .val (.ref b2_)] [(.ref v1), (.int (0 : Int32)), (.ref b2_), (.int (0 : Int32)), (.ref v1)])) rfl rfl (hb hby d28_20) _ ?_
    rw [len_of S4_ M4_]
    show Steps p.tables e below (T2_.setTop (mkF m 21 #[.val (.ref v1), .val (.int (0 : Int32)), .val (.int (Int32.ofNat es.length)), .val (.int (Int32.ofNat es.length)), .val (.ref b2_)] [(.int (Int32.ofNat cap)), (.int (0 : Int32)), (.ref b2_), (.int (0 : Int32)), (.ref v1)])) _
    refine XS.iloadN X2_.here hx rfl (hb hby d28_21) rfl ?_
    refine XS.isub X2_.here hx rfl (hb hby d28_22) rfl ?_
    show Steps p.tables e below (T2_.setTop (mkF m 23 #[.val (.ref v1), .val (.int (0 : Int32)), .val (.int (Int32.ofNat es.length)), .val (.int (Int32.ofNat es.length)), .val (.ref b2_)] [(.int ((Int32.ofNat cap) - (0 : Int32))), (.int (0 : Int32)), (.ref b2_), (.int (0 : Int32)), (.ref v1)])) _
    rw [own_sub0]
    show Steps p.tables e below (T2_.setTop (mkF m 23 #[.val (.ref v1), .val (.int (0 : Int32)), .val (.int (Int32.ofNat es.length)), .val (.int (Int32.ofNat es.length)), .val (.ref b2_)] [(.int (Int32.ofNat cap)), (.int (0 : Int32)), (.ref b2_), (.int (0 : Int32)), (.ref v1)])) _
    refine XS.iloadN X2_.here hx rfl (hb hby d28_23) rfl ?_
    refine st5_ _ ?_
    show Steps p.tables e below (T5_.setTop (mkF m 27 #[.val (.ref v1), .val (.int (0 : Int32)), .val (.int (Int32.ofNat es.length)), .val (.int (Int32.ofNat es.length)), .val (.ref b2_)] [(.int (Int32.ofNat es.length)), (.int (0 : Int32)), (.ref b2_), (.int (0 : Int32)), (.ref v1)])) _
    refine st7_ _ ?_
    show Steps p.tables e below (T7_.setTop (mkF m 30 #[.val (.ref v1), .val (.int (0 : Int32)), .val (.int (Int32.ofNat es.length)), .val (.int (Int32.ofNat es.length)), .val (.ref b2_)] [])) _
    refine XS.aload X7_.here hx rfl (hb hby d28_30) rfl rfl ?_
    exact retR X7_ hx Bd.returns rfl rfl rfl (hb hby d28_32) hr
  · show Q_sbRangeB Z v1 kv es cap h0 n0 _ T7_.heap _
    rw [e7_]
    exact ⟨b2_, k2_, rfl, N7_, k10_, v7_, (Nat.le_trans (Keep.refl h0 []).1 (Nat.le_of_eq g2_.symm))⟩
theorem d27_0 : decode jdk_65_method_132_code 0 = .ok (.iload_n 1, 1) := by decide +kernel
theorem d27_1 : decode jdk_65_method_132_code 1 = .ok (.ifCond .ne 9, 3) := by decide +kernel
theorem d27_4 : decode jdk_65_method_132_code 4 = .ok (.iload_n 2, 1) := by decide +kernel
theorem d27_5 : decode jdk_65_method_132_code 5 = .ok (.aload_n 0, 1) := by decide +kernel
theorem d27_6 : decode jdk_65_method_132_code 6 = .ok (.arraylength, 1) := by decide +kernel
theorem d27_7 : decode jdk_65_method_132_code 7 = .ok (.if_icmp .eq 10, 3) := by decide +kernel
theorem d27_10 : decode jdk_65_method_132_code 10 = .ok (.aload_n 0, 1) := by decide +kernel
theorem d27_11 : decode jdk_65_method_132_code 11 = .ok (.iload_n 1, 1) := by decide +kernel
theorem d27_12 : decode jdk_65_method_132_code 12 = .ok (.iload_n 2, 1) := by decide +kernel
theorem d27_13 : decode jdk_65_method_132_code 13 = .ok (.invokestatic 339, 3) := by decide +kernel
theorem pd_qaBIIzaB : parseMethodDescriptor "([BII)[B" = some ⟨[(.array .byte), .int, .int], some (.array .byte)⟩ := by decide +kernel
theorem d27_16 : decode jdk_65_method_132_code 16 = .ok (.areturn, 1) := by decide +kernel
theorem ef_sbRange (m : MethodId) (x0 : Addr) (x1 : Int32) (x2 : Int32) : entryFrame m #[(.ref x0), (.int x1), (.int x2)] 3 = mkF m 0 #[.val (.ref x0), .val (.int x1), .val (.int x2)] [] := by first | (simp [entryFrame, mkF, argsToLocals, Value.category]; done) | rfl
def Q_sbRange (Z : State) (v1 : Addr) (kv : ClassId) (es : List Int32) (cap : Nat) (h0 : Heap) (n0 : Nat) (v : Option Value) (h : Heap) (L : List Loc) : Prop := ∃ (t1 : Addr) (k1 : ClassId), v = some (.ref t1) ∧ Fr n0 L ∧ Keep h0 h [] ∧ (Arv Z h t1 k1 .byte (Int32.ofNat es.length) (own_by es) (.int (0 : Int32))) ∧ (h0.size ≤ t1)
set_option maxRecDepth 65536 in
set_option maxHeartbeats 40000000 in
theorem sbRange (l : Launch) (Z : State) (a0 : Array Value) (hw : ∀ d ∈ tables_1, d.before a0 Z = true) (ws : List Jvm.Cond) (v1 : Addr) (kv : ClassId) (es : List Int32) (cap : Nat) (h0 : Heap) (n0 : Nat) (Z0 : n0 ≤ h0.size) (V1 : Arv Z h0 v1 kv .byte (Int32.ofNat cap) (own_pad es cap) (.int (0 : Int32))) (lt1 : es.length < cap) (lc1 : cap ≤ 34) :
    MetFree l (⟨"java/util/Arrays", "copyOfRange", "([BII)[B"⟩ : MethodName) (head1 (Jvm.Cond.code (⟨"java/util/Arrays", "copyOfRange", "([BII)[B"⟩ : MethodName) jdk_65_method_132_code 3 (some (.array .byte)) :: ws) ({ frames := 2, cells := 1, slots := 34, locals := 34 } : Room)) (fun a U => a = #[(.ref v1), (.int (0 : Int32)), (.int (Int32.ofNat es.length))] ∧ Z.Warmed39 U.vm ∧ U.heap = h0) (fun _ _ _ _ _ => True) (fun _ U o U' => ∃ v L, o = .returned v ∧ Q_sbRange Z v1 kv es cap h0 n0 v U'.heap L ∧ FrameEnd U o U' L ({ frames := 2, cells := 1, slots := 34, locals := 34 } : Room).cells ({ frames := 2, cells := 1, slots := 34, locals := 34 } : Room).slots) := by
  refine MetFree.of_bodySF (plainFor_of_name pn_java_util_Arrays) hisR ?_
  intro p e s m args below meth c s₁ Bd hml0 hP hK
  obtain ⟨rfl, hZ, hh⟩ := hP
  have hx := Bd.exec
  have hby := Bd.bytes
  have hml : c.maxLocals = 3 := hml0
  have hown : s.vm.findClass "java/util/Arrays" = some m.cls := findClass_of_methodNamed Bd.named
  have hnm := (name_of_methodNamed Bd.named Bd.method).1
  have X0 : Stand p l e ({ frames := 2, cells := 1, slots := 34, locals := 34 } : Room) s m #[(.ref v1), (.int (0 : Int32)), (.int (Int32.ofNat es.length))] below meth c s₁ [] 0 0 := Stand.of_body Bd
  have e0 : s₁.heap = h0 := by rw [← hh, Bd.state]; rfl
  have N0 := Fr.nil n0
  have pre0 : ∀ t, Steps p.tables e below (s₁.setTop (mkF m 0 #[.val (.ref v1), .val (.int (0 : Int32)), .val (.int (Int32.ofNat es.length))] [])) t → Steps p.tables e below (s₁.setTop (entryFrame m #[(.ref v1), (.int (0 : Int32)), (.int (Int32.ofNat es.length))] 3)) t := fun t k => castTop (ef_sbRange m v1 (0 : Int32) (Int32.ofNat es.length)) k
  obtain ⟨cl1_, Ar1_, q1_, S1_, M1_, Hs1_, G1_⟩ := id V1
  obtain ⟨_, _, ⟨T2_, L2_, k2_, n2_⟩, -, X2_, ⟨Lc2_, hQ2_, l2_, y2_, z2_⟩, st2_⟩ := Jvm.LawKit.callS X0 hx (y := (⟨"java/util/Arrays", "copyOfRangeByte", "([BII)[B"⟩ : MethodName)) hown (mvT hZ (hw _ (List.mem_of_getElem? (i := 152) rfl))) (mvT hZ (hw _ (List.mem_of_getElem? (i := 153) rfl))) (mvT hZ (hw _ (List.mem_of_getElem? (i := 92) rfl))) (mvT hZ (hw _ (List.mem_of_getElem? (i := 154) rfl))) (by decide) (backOf (W := 0) (sbRangeB l Z a0 hw [] v1 kv es cap h0 n0 Z0 V1 lt1 lc1) hZ (hw _ (List.mem_of_getElem? (i := 154) rfl)) (hw _ (List.mem_of_getElem? (i := 92) rfl)) (by decide) (by decide)) (g := (mkF m 13 #[.val (.ref v1), .val (.int (0 : Int32)), .val (.int (Int32.ofNat es.length))] [(.int (Int32.ofNat es.length)), (.int (0 : Int32)), (.ref v1)])) rfl (by rw [hml]; rfl) (argsL := [(.ref v1), (.int (0 : Int32)), (.int (Int32.ofNat es.length))]) (rest := []) (lenOf pd_qaBIIzaB rfl) rfl (by show 2 * 0 + _ ≤ _; exact Nat.le_of_eq rfl) (hb hby d27_13) (fun _ _ => ⟨rfl, e0, (by exact Nat.le_of_ble_eq_true rfl), (by exact Nat.le_of_ble_eq_true rfl)⟩)
  dsimp only [Pt.U, Pt.locs, Pt.cells, Pt.slots] at X2_ l2_ y2_ z2_ st2_ hQ2_
  subst L2_ k2_ n2_
  obtain ⟨t1_2_, k1_2_, rfl, Nq2_, ek2_, p2__0, p2__1⟩ := hQ2_
  have N2_ := Fr.app N0 Nq2_
  have k3_ : Keep h0 T2_.heap [] := (Keep.refl h0 []).trans ek2_ all0
  obtain ⟨fs, hr, hrun, hended, hW, hsame⟩ := X2_.leave (v := some (.ref t1_2_)) (fun h => by first | rfl | (rw [Bd.returns] at h; cases h))
  refine ⟨_, _, pre0 _ ?_, hrun, hended, _, _, rfl, ?_, ⟨_, rfl⟩, hW, hsame.mono (by exact Nat.le_of_ble_eq_true rfl) (by exact Nat.le_of_ble_eq_true rfl)⟩
  · show Steps p.tables e below (s₁.setTop (mkF m 0 #[.val (.ref v1), .val (.int (0 : Int32)), .val (.int (Int32.ofNat es.length))] [])) _
    refine XS.iloadN X0.here hx rfl (hb hby d27_0) rfl ?_
    refine XS.ifNo X0.here hx rfl (hb hby d27_1) rfl ((if0 _ _).trans (teq ((by decide) : (0 : Int32) = (0 : Int32))).2) ?_
    show Steps p.tables e below (s₁.setTop (mkF m 4 #[.val (.ref v1), .val (.int (0 : Int32)), .val (.int (Int32.ofNat es.length))] [])) _
    refine XS.iloadN X0.here hx rfl (hb hby d27_4) rfl ?_
    refine XS.aloadN X0.here hx rfl (hb hby d27_5) rfl rfl ?_
    refine X0.arraylength hx (by rw [e0]; exact Ar1_.1) (State.isArrayOf_alike (State.Warmed39.alike hZ) Ar1_.2.1) (g := (mkF m 6 #[.val (.ref v1), .val (.int (0 : Int32)), .val (.int (Int32.ofNat es.length))] [(.ref v1), (.int (Int32.ofNat es.length))])) rfl rfl (hb hby d27_6) _ ?_
    rw [len_of S1_ M1_]
    show Steps p.tables e below (s₁.setTop (mkF m 7 #[.val (.ref v1), .val (.int (0 : Int32)), .val (.int (Int32.ofNat es.length))] [(.int (Int32.ofNat cap)), (.int (Int32.ofNat es.length))])) _
    refine XS.icmpNo X0.here hx rfl (hb hby d27_7) rfl (feq ((own_nen (by omega) lt1) : ¬ ((Int32.ofNat es.length) = (Int32.ofNat cap)))).1 ?_
    show Steps p.tables e below (s₁.setTop (mkF m 10 #[.val (.ref v1), .val (.int (0 : Int32)), .val (.int (Int32.ofNat es.length))] [])) _
    refine XS.aloadN X0.here hx rfl (hb hby d27_10) rfl rfl ?_
    refine XS.iloadN X0.here hx rfl (hb hby d27_11) rfl ?_
    refine XS.iloadN X0.here hx rfl (hb hby d27_12) rfl ?_
    refine st2_ _ ?_
    show Steps p.tables e below (T2_.setTop (mkF m 16 #[.val (.ref v1), .val (.int (0 : Int32)), .val (.int (Int32.ofNat es.length))] [(.ref t1_2_)])) _
    exact retR X2_ hx Bd.returns rfl rfl rfl (hb hby d27_16) hr
  · show Q_sbRange Z v1 kv es cap h0 n0 _ T2_.heap _
    skip
    exact ⟨t1_2_, k1_2_, rfl, N2_, k3_, p2__0, (Nat.le_trans (Keep.refl h0 []).1 p2__1)⟩
theorem d23_0 : decode jdk_68_method_64_code 0 = .ok (.aload_n 0, 1) := by decide +kernel
theorem d23_1 : decode jdk_68_method_64_code 1 = .ok (.getfield 15, 3) := by decide +kernel
theorem d23_4 : decode jdk_68_method_64_code 4 = .ok (.areturn, 1) := by decide +kernel
theorem ef_sbVal (m : MethodId) (x0 : Addr) : entryFrame m #[(.ref x0)] 1 = mkF m 0 #[.val (.ref x0)] [] := by first | (simp [entryFrame, mkF, argsToLocals, Value.category]; done) | rfl
def Q_sbVal (Z : State) (b1 : Addr) (v1 : Addr) (h0 : Heap) (n0 : Nat) (v : Option Value) (h : Heap) (L : List Loc) : Prop := v = some (.ref v1) ∧ Fr n0 L ∧ h = h0
set_option maxRecDepth 65536 in
set_option maxHeartbeats 40000000 in
theorem sbVal (l : Launch) (Z : State) (a0 : Array Value) (hw : ∀ d ∈ tables_1, d.before a0 Z = true) (ws : List Jvm.Cond) (b1 : Addr) (v1 : Addr) (h0 : Heap) (n0 : Nat) (Z0 : n0 ≤ h0.size) (F2 : Fld Z h0 b1 "java/lang/AbstractStringBuilder" "value" "[B" (.ref v1)) :
    MetFree l (⟨"java/lang/AbstractStringBuilder", "getValue", "()[B"⟩ : MethodName) (head1 (Jvm.Cond.code (⟨"java/lang/AbstractStringBuilder", "getValue", "()[B"⟩ : MethodName) jdk_68_method_64_code 1 (some (.array .byte)) :: ws) ({ frames := 0, cells := 0, slots := 0, locals := 0 } : Room)) (fun a U => a = #[(.ref b1)] ∧ Z.Warmed39 U.vm ∧ U.heap = h0) (fun _ _ _ _ _ => True) (fun _ U o U' => ∃ v L, o = .returned v ∧ Q_sbVal Z b1 v1 h0 n0 v U'.heap L ∧ FrameEnd U o U' L ({ frames := 0, cells := 0, slots := 0, locals := 0 } : Room).cells ({ frames := 0, cells := 0, slots := 0, locals := 0 } : Room).slots) := by
  refine MetFree.of_bodySF (plainFor_of_name pn_java_lang_AbstractStringBuilder) hisR ?_
  intro p e s m args below meth c s₁ Bd hml0 hP hK
  obtain ⟨rfl, hZ, hh⟩ := hP
  have hx := Bd.exec
  have hby := Bd.bytes
  have hml : c.maxLocals = 1 := hml0
  have hown : s.vm.findClass "java/lang/AbstractStringBuilder" = some m.cls := findClass_of_methodNamed Bd.named
  have hnm := (name_of_methodNamed Bd.named Bd.method).1
  have X0 : Stand p l e ({ frames := 0, cells := 0, slots := 0, locals := 0 } : Room) s m #[(.ref b1)] below meth c s₁ [] 0 0 := Stand.of_body Bd
  have e0 : s₁.heap = h0 := by rw [← hh, Bd.state]; rfl
  have N0 := Fr.nil n0
  have pre0 : ∀ t, Steps p.tables e below (s₁.setTop (mkF m 0 #[.val (.ref b1)] [])) t → Steps p.tables e below (s₁.setTop (entryFrame m #[(.ref b1)] 1)) t := fun t k => castTop (ef_sbVal m b1) k
  obtain ⟨T1_, X1_, e1_, st1_⟩ := getF X0 hx hZ hown (host := "") (Or.inl (hw _ (List.mem_of_getElem? (i := 42) rfl))) Via.refl e0 F2 (g := (mkF m 1 #[.val (.ref b1)] [(.ref b1)])) rfl rfl (hb hby d23_1)
  obtain ⟨fs, hr, hrun, hended, hW, hsame⟩ := X1_.leave (v := some (.ref v1)) (fun h => by first | rfl | (rw [Bd.returns] at h; cases h))
  refine ⟨_, _, pre0 _ ?_, hrun, hended, _, _, rfl, ?_, ⟨_, rfl⟩, hW, hsame.mono (by exact Nat.le_of_ble_eq_true rfl) (by exact Nat.le_of_ble_eq_true rfl)⟩
  · show Steps p.tables e below (s₁.setTop (mkF m 0 #[.val (.ref b1)] [])) _
    refine XS.aloadN X0.here hx rfl (hb hby d23_0) rfl rfl ?_
    refine st1_ _ ?_
    show Steps p.tables e below (T1_.setTop (mkF m 4 #[.val (.ref b1)] [(.ref v1)])) _
    exact retR X1_ hx Bd.returns rfl rfl rfl (hb hby d23_4) hr
  · show Q_sbVal Z b1 v1 h0 n0 _ T1_.heap _
    rw [e1_]
    exact ⟨rfl, N0, rfl⟩
theorem d25_0 : decode jdk_68_method_6_code 0 = .ok (.aload_n 0, 1) := by decide +kernel
theorem d25_1 : decode jdk_68_method_6_code 1 = .ok (.getfield 79, 3) := by decide +kernel
theorem d25_4 : decode jdk_68_method_6_code 4 = .ok (.ireturn, 1) := by decide +kernel
theorem ef_sbLen (m : MethodId) (x0 : Addr) : entryFrame m #[(.ref x0)] 1 = mkF m 0 #[.val (.ref x0)] [] := by first | (simp [entryFrame, mkF, argsToLocals, Value.category]; done) | rfl
def Q_sbLen (Z : State) (b1 : Addr) (es : List Int32) (h0 : Heap) (n0 : Nat) (v : Option Value) (h : Heap) (L : List Loc) : Prop := v = some (.int (Int32.ofNat es.length)) ∧ Fr n0 L ∧ h = h0
set_option maxRecDepth 65536 in
set_option maxHeartbeats 40000000 in
theorem sbLen (l : Launch) (Z : State) (a0 : Array Value) (hw : ∀ d ∈ tables_1, d.before a0 Z = true) (ws : List Jvm.Cond) (b1 : Addr) (es : List Int32) (h0 : Heap) (n0 : Nat) (Z0 : n0 ≤ h0.size) (F3 : Fld Z h0 b1 "java/lang/AbstractStringBuilder" "count" "I" (.int (Int32.ofNat es.length))) :
    MetFree l (⟨"java/lang/AbstractStringBuilder", "length", "()I"⟩ : MethodName) (head1 (Jvm.Cond.code (⟨"java/lang/AbstractStringBuilder", "length", "()I"⟩ : MethodName) jdk_68_method_6_code 1 (some .int) :: ws) ({ frames := 0, cells := 0, slots := 0, locals := 0 } : Room)) (fun a U => a = #[(.ref b1)] ∧ Z.Warmed39 U.vm ∧ U.heap = h0) (fun _ _ _ _ _ => True) (fun _ U o U' => ∃ v L, o = .returned v ∧ Q_sbLen Z b1 es h0 n0 v U'.heap L ∧ FrameEnd U o U' L ({ frames := 0, cells := 0, slots := 0, locals := 0 } : Room).cells ({ frames := 0, cells := 0, slots := 0, locals := 0 } : Room).slots) := by
  refine MetFree.of_bodySF (plainFor_of_name pn_java_lang_AbstractStringBuilder) hisR ?_
  intro p e s m args below meth c s₁ Bd hml0 hP hK
  obtain ⟨rfl, hZ, hh⟩ := hP
  have hx := Bd.exec
  have hby := Bd.bytes
  have hml : c.maxLocals = 1 := hml0
  have hown : s.vm.findClass "java/lang/AbstractStringBuilder" = some m.cls := findClass_of_methodNamed Bd.named
  have hnm := (name_of_methodNamed Bd.named Bd.method).1
  have X0 : Stand p l e ({ frames := 0, cells := 0, slots := 0, locals := 0 } : Room) s m #[(.ref b1)] below meth c s₁ [] 0 0 := Stand.of_body Bd
  have e0 : s₁.heap = h0 := by rw [← hh, Bd.state]; rfl
  have N0 := Fr.nil n0
  have pre0 : ∀ t, Steps p.tables e below (s₁.setTop (mkF m 0 #[.val (.ref b1)] [])) t → Steps p.tables e below (s₁.setTop (entryFrame m #[(.ref b1)] 1)) t := fun t k => castTop (ef_sbLen m b1) k
  obtain ⟨T1_, X1_, e1_, st1_⟩ := getF X0 hx hZ hown (host := "") (Or.inl (hw _ (List.mem_of_getElem? (i := 68) rfl))) Via.refl e0 F3 (g := (mkF m 1 #[.val (.ref b1)] [(.ref b1)])) rfl rfl (hb hby d25_1)
  obtain ⟨fs, hr, hrun, hended, hW, hsame⟩ := X1_.leave (v := some (.int (Int32.ofNat es.length))) (fun h => by first | rfl | (rw [Bd.returns] at h; cases h))
  refine ⟨_, _, pre0 _ ?_, hrun, hended, _, _, rfl, ?_, ⟨_, rfl⟩, hW, hsame.mono (by exact Nat.le_of_ble_eq_true rfl) (by exact Nat.le_of_ble_eq_true rfl)⟩
  · show Steps p.tables e below (s₁.setTop (mkF m 0 #[.val (.ref b1)] [])) _
    refine XS.aloadN X0.here hx rfl (hb hby d25_0) rfl rfl ?_
    refine st1_ _ ?_
    show Steps p.tables e below (T1_.setTop (mkF m 4 #[.val (.ref b1)] [(.int (Int32.ofNat es.length))])) _
    exact retI X1_ hx Bd.returns (hb hby d25_4) hr
  · show Q_sbLen Z b1 es h0 n0 _ T1_.heap _
    rw [e1_]
    exact ⟨rfl, N0, rfl⟩
theorem d24_0 : decode jdk_67_method_93_code 0 = .ok (.aload_n 0, 1) := by decide +kernel
theorem d24_1 : decode jdk_67_method_93_code 1 = .ok (.invokespecial 343, 3) := by decide +kernel
theorem d24_4 : decode jdk_67_method_93_code 4 = .ok (.ireturn, 1) := by decide +kernel
theorem ef_sbLen2 (m : MethodId) (x0 : Addr) : entryFrame m #[(.ref x0)] 1 = mkF m 0 #[.val (.ref x0)] [] := by first | (simp [entryFrame, mkF, argsToLocals, Value.category]; done) | rfl
def Q_sbLen2 (Z : State) (b1 : Addr) (es : List Int32) (h0 : Heap) (n0 : Nat) (v : Option Value) (h : Heap) (L : List Loc) : Prop := v = some (.int (Int32.ofNat es.length)) ∧ Fr n0 L ∧ h = h0
set_option maxRecDepth 65536 in
set_option maxHeartbeats 40000000 in
theorem sbLen2 (l : Launch) (Z : State) (a0 : Array Value) (hw : ∀ d ∈ tables_1, d.before a0 Z = true) (ws : List Jvm.Cond) (b1 : Addr) (es : List Int32) (h0 : Heap) (n0 : Nat) (Z0 : n0 ≤ h0.size) (E1 : Exa Z h0 b1 "java/lang/StringBuilder") (F3 : Fld Z h0 b1 "java/lang/AbstractStringBuilder" "count" "I" (.int (Int32.ofNat es.length))) :
    MetFree l (⟨"java/lang/StringBuilder", "length", "()I"⟩ : MethodName) (head1 (Jvm.Cond.code (⟨"java/lang/StringBuilder", "length", "()I"⟩ : MethodName) jdk_67_method_93_code 1 (some .int) :: ws) ({ frames := 1, cells := 0, slots := 0, locals := 12 } : Room)) (fun a U => a = #[(.ref b1)] ∧ Z.Warmed39 U.vm ∧ U.heap = h0) (fun _ _ _ _ _ => True) (fun _ U o U' => ∃ v L, o = .returned v ∧ Q_sbLen2 Z b1 es h0 n0 v U'.heap L ∧ FrameEnd U o U' L ({ frames := 1, cells := 0, slots := 0, locals := 12 } : Room).cells ({ frames := 1, cells := 0, slots := 0, locals := 12 } : Room).slots) := by
  refine MetFree.of_bodySF (plainFor_of_name pn_java_lang_StringBuilder) hisR ?_
  intro p e s m args below meth c s₁ Bd hml0 hP hK
  obtain ⟨rfl, hZ, hh⟩ := hP
  have hx := Bd.exec
  have hby := Bd.bytes
  have hml : c.maxLocals = 1 := hml0
  have hown : s.vm.findClass "java/lang/StringBuilder" = some m.cls := findClass_of_methodNamed Bd.named
  have hnm := (name_of_methodNamed Bd.named Bd.method).1
  have X0 : Stand p l e ({ frames := 1, cells := 0, slots := 0, locals := 12 } : Room) s m #[(.ref b1)] below meth c s₁ [] 0 0 := Stand.of_body Bd
  have e0 : s₁.heap = h0 := by rw [← hh, Bd.state]; rfl
  have N0 := Fr.nil n0
  have pre0 : ∀ t, Steps p.tables e below (s₁.setTop (mkF m 0 #[.val (.ref b1)] [])) t → Steps p.tables e below (s₁.setTop (entryFrame m #[(.ref b1)] 1)) t := fun t k => castTop (ef_sbLen2 m b1) k
  obtain ⟨_, _, ⟨T1_, L1_, k1_, n1_⟩, -, X1_, ⟨Lc1_, hQ1_, l1_, y1_, z1_⟩, st1_⟩ := superBack X0 hx hZ (y := (⟨"java/lang/AbstractStringBuilder", "length", "()I"⟩ : MethodName)) hown (hw _ (List.mem_of_getElem? (i := 142) rfl)) (own_same (hw _ (List.mem_of_getElem? (i := 138) rfl)) (hw _ (List.mem_of_getElem? (i := 73) rfl)) (by decide)) (hw _ (List.mem_of_getElem? (i := 138) rfl)) (hw _ (List.mem_of_getElem? (i := 54) rfl)) (by decide) (backOf (W := 0) (sbLen l Z a0 hw [] b1 es h0 n0 Z0 F3) hZ (hw _ (List.mem_of_getElem? (i := 143) rfl)) (hw _ (List.mem_of_getElem? (i := 38) rfl)) (by decide) (by decide)) e0 (Ins.self E1) (g := (mkF m 1 #[.val (.ref b1)] [(.ref b1)])) rfl (by rw [hml]; rfl) (hw _ (List.mem_of_getElem? (i := 143) rfl)) (argsL := []) (rest := []) (lenOf pd_qzI rfl) rfl (by show 2 * 0 + _ ≤ _; exact Nat.le_of_eq rfl) (hb hby d24_1) (fun _ _ => ⟨rfl, e0, (by exact Nat.le_of_ble_eq_true rfl), (by exact Nat.le_of_ble_eq_true rfl)⟩)
  dsimp only [Pt.U, Pt.locs, Pt.cells, Pt.slots] at X1_ l1_ y1_ z1_ st1_ hQ1_
  subst L1_ k1_ n1_
  obtain ⟨rfl, Nq1_, ek1_⟩ := hQ1_
  have N1_ := Fr.app N0 Nq1_
  obtain ⟨fs, hr, hrun, hended, hW, hsame⟩ := X1_.leave (v := some (.int (Int32.ofNat es.length))) (fun h => by first | rfl | (rw [Bd.returns] at h; cases h))
  refine ⟨_, _, pre0 _ ?_, hrun, hended, _, _, rfl, ?_, ⟨_, rfl⟩, hW, hsame.mono (by exact Nat.le_of_ble_eq_true rfl) (by exact Nat.le_of_ble_eq_true rfl)⟩
  · show Steps p.tables e below (s₁.setTop (mkF m 0 #[.val (.ref b1)] [])) _
    refine XS.aloadN X0.here hx rfl (hb hby d24_0) rfl rfl ?_
    refine st1_.trans ?_
    show Steps p.tables e below (T1_.setTop (mkF m 4 #[.val (.ref b1)] [(.int (Int32.ofNat es.length))])) _
    exact retI X1_ hx Bd.returns (hb hby d24_4) hr
  · show Q_sbLen2 Z b1 es h0 n0 _ T1_.heap _
    rw [ek1_]
    exact ⟨rfl, N1_, rfl⟩
theorem d26_0 : decode jdk_68_method_68_code 0 = .ok (.getstatic 18, 3) := by decide +kernel
theorem d26_3 : decode jdk_68_method_68_code 3 = .ok (.ifCond .eq 14, 3) := by decide +kernel
theorem d26_6 : decode jdk_68_method_68_code 6 = .ok (.aload_n 0, 1) := by decide +kernel
theorem d26_7 : decode jdk_68_method_68_code 7 = .ok (.getfield 22, 3) := by decide +kernel
theorem d26_10 : decode jdk_68_method_68_code 10 = .ok (.ifCond .ne 7, 3) := by decide +kernel
theorem d26_13 : decode jdk_68_method_68_code 13 = .ok (.iconst 1, 1) := by decide +kernel
theorem d26_14 : decode jdk_68_method_68_code 14 = .ok (.goto 4, 3) := by decide +kernel
theorem d26_18 : decode jdk_68_method_68_code 18 = .ok (.ireturn, 1) := by decide +kernel
theorem ef_sbLat (m : MethodId) (x0 : Addr) : entryFrame m #[(.ref x0)] 1 = mkF m 0 #[.val (.ref x0)] [] := by first | (simp [entryFrame, mkF, argsToLocals, Value.category]; done) | rfl
def Q_sbLat (Z : State) (b1 : Addr) (G1 : Int32) (h0 : Heap) (n0 : Nat) (v : Option Value) (h : Heap) (L : List Loc) : Prop := v = some (.int (1 : Int32)) ∧ Fr n0 L ∧ h = h0
set_option maxRecDepth 65536 in
set_option maxHeartbeats 40000000 in
theorem sbLat (l : Launch) (Z : State) (a0 : Array Value) (hw : ∀ d ∈ tables_1, d.before a0 Z = true) (ws : List Jvm.Cond) (b1 : Addr) (G1 : Int32) (h0 : Heap) (n0 : Nat) (Z0 : n0 ≤ h0.size) (F1 : Fld Z h0 b1 "java/lang/AbstractStringBuilder" "coder" "B" (.int (0 : Int32))) (T1 : Sta Z Z.heap "java/lang/String" "COMPACT_STRINGS" "Z" (.int G1)) (P5 : ¬ (G1 = (0 : Int32))) (O1 : Old Z n0 h0) :
    MetFree l (⟨"java/lang/AbstractStringBuilder", "isLatin1", "()Z"⟩ : MethodName) (head1 (Jvm.Cond.code (⟨"java/lang/AbstractStringBuilder", "isLatin1", "()Z"⟩ : MethodName) jdk_68_method_68_code 1 (some .boolean) :: ws) ({ frames := 0, cells := 0, slots := 0, locals := 0 } : Room)) (fun a U => a = #[(.ref b1)] ∧ Z.Warmed39 U.vm ∧ U.heap = h0) (fun _ _ _ _ _ => True) (fun _ U o U' => ∃ v L, o = .returned v ∧ Q_sbLat Z b1 G1 h0 n0 v U'.heap L ∧ FrameEnd U o U' L ({ frames := 0, cells := 0, slots := 0, locals := 0 } : Room).cells ({ frames := 0, cells := 0, slots := 0, locals := 0 } : Room).slots) := by
  refine MetFree.of_bodySF (plainFor_of_name pn_java_lang_AbstractStringBuilder) hisR ?_
  intro p e s m args below meth c s₁ Bd hml0 hP hK
  obtain ⟨rfl, hZ, hh⟩ := hP
  have hx := Bd.exec
  have hby := Bd.bytes
  have hml : c.maxLocals = 1 := hml0
  have hown : s.vm.findClass "java/lang/AbstractStringBuilder" = some m.cls := findClass_of_methodNamed Bd.named
  have hnm := (name_of_methodNamed Bd.named Bd.method).1
  have X0 : Stand p l e ({ frames := 0, cells := 0, slots := 0, locals := 0 } : Room) s m #[(.ref b1)] below meth c s₁ [] 0 0 := Stand.of_body Bd
  have e0 : s₁.heap = h0 := by rw [← hh, Bd.state]; rfl
  have N0 := Fr.nil n0
  have pre0 : ∀ t, Steps p.tables e below (s₁.setTop (mkF m 0 #[.val (.ref b1)] [])) t → Steps p.tables e below (s₁.setTop (entryFrame m #[(.ref b1)] 1)) t := fun t k => castTop (ef_sbLat m b1) k
  obtain ⟨T1_, X1_, e1_, st1_⟩ := getS2 X0 hx hZ hown (host := "") (Or.inl (hw _ (List.mem_of_getElem? (i := 41) rfl))) Via.refl e0 (T1.ext O1.2) (g := (mkF m 0 #[.val (.ref b1)] [])) rfl (hb hby d26_0)
  obtain ⟨T2_, X2_, e2_, st2_⟩ := getF X1_ hx hZ hown (host := "") (Or.inl (hw _ (List.mem_of_getElem? (i := 44) rfl))) Via.refl e1_ F1 (g := (mkF m 7 #[.val (.ref b1)] [(.ref b1)])) rfl rfl (hb hby d26_7)
  obtain ⟨fs, hr, hrun, hended, hW, hsame⟩ := X2_.leave (v := some (.int (1 : Int32))) (fun h => by first | rfl | (rw [Bd.returns] at h; cases h))
  refine ⟨_, _, pre0 _ ?_, hrun, hended, _, _, rfl, ?_, ⟨_, rfl⟩, hW, hsame.mono (by exact Nat.le_of_ble_eq_true rfl) (by exact Nat.le_of_ble_eq_true rfl)⟩
  · show Steps p.tables e below (s₁.setTop (mkF m 0 #[.val (.ref b1)] [])) _
    refine st1_ _ ?_
    show Steps p.tables e below (T1_.setTop (mkF m 3 #[.val (.ref b1)] [(.int G1)])) _
    refine XS.ifNo X1_.here hx rfl (hb hby d26_3) rfl ((if0 _ _).trans (feq (P5 : ¬ (G1 = (0 : Int32)))).1) ?_
    show Steps p.tables e below (T1_.setTop (mkF m 6 #[.val (.ref b1)] [])) _
    refine XS.aloadN X1_.here hx rfl (hb hby d26_6) rfl rfl ?_
    refine st2_ _ ?_
    show Steps p.tables e below (T2_.setTop (mkF m 10 #[.val (.ref b1)] [(.int (0 : Int32))])) _
    refine XS.ifNo X2_.here hx rfl (hb hby d26_10) rfl ((if0 _ _).trans (teq ((by decide) : (0 : Int32) = (0 : Int32))).2) ?_
    show Steps p.tables e below (T2_.setTop (mkF m 13 #[.val (.ref b1)] [])) _
    refine XS.iconst X2_.here hx rfl (hb hby d26_13) ?_
    refine XS.goto X2_.here hx rfl (pc0 := 14) (pc' := 18) rfl (hb hby d26_14) (by decide) (by decide) ?_
    show Steps p.tables e below (T2_.setTop (mkF m 18 #[.val (.ref b1)] [(.int (1 : Int32))])) _
    exact retN X2_ hx (t := .boolean) Bd.returns (by simp) (hb hby d26_18) hr
  · show Q_sbLat Z b1 G1 h0 n0 _ T2_.heap _
    rw [e2_]
    exact ⟨rfl, N0, rfl⟩
theorem d22_0 : decode jdk_42_method_150_code 0 = .ok (.aload_n 0, 1) := by decide +kernel
theorem d22_1 : decode jdk_42_method_150_code 1 = .ok (.invokespecial 1, 3) := by decide +kernel
theorem d22_4 : decode jdk_42_method_150_code 4 = .ok (.aload_n 1, 1) := by decide +kernel
theorem d22_5 : decode jdk_42_method_150_code 5 = .ok (.invokevirtual 552, 3) := by decide +kernel
theorem pd_qzaB : parseMethodDescriptor "()[B" = some ⟨[], some (.array .byte)⟩ := by decide +kernel
theorem d22_8 : decode jdk_42_method_150_code 8 = .ok (.astore_n 3, 1) := by decide +kernel
theorem d22_9 : decode jdk_42_method_150_code 9 = .ok (.aload_n 1, 1) := by decide +kernel
theorem d22_10 : decode jdk_42_method_150_code 10 = .ok (.invokevirtual 549, 3) := by decide +kernel
theorem d22_13 : decode jdk_42_method_150_code 13 = .ok (.istore 4, 2) := by decide +kernel
theorem d22_15 : decode jdk_42_method_150_code 15 = .ok (.aload_n 1, 1) := by decide +kernel
theorem d22_16 : decode jdk_42_method_150_code 16 = .ok (.invokevirtual 1047, 3) := by decide +kernel
theorem pd_qzZ : parseMethodDescriptor "()Z" = some ⟨[], some .boolean⟩ := by decide +kernel
theorem d22_19 : decode jdk_42_method_150_code 19 = .ok (.ifCond .eq 22, 3) := by decide +kernel
theorem d22_22 : decode jdk_42_method_150_code 22 = .ok (.aload_n 0, 1) := by decide +kernel
theorem d22_23 : decode jdk_42_method_150_code 23 = .ok (.iconst 0, 1) := by decide +kernel
theorem d22_24 : decode jdk_42_method_150_code 24 = .ok (.putfield 15, 3) := by decide +kernel
theorem d22_27 : decode jdk_42_method_150_code 27 = .ok (.aload_n 0, 1) := by decide +kernel
theorem d22_28 : decode jdk_42_method_150_code 28 = .ok (.aload_n 3, 1) := by decide +kernel
theorem d22_29 : decode jdk_42_method_150_code 29 = .ok (.iconst 0, 1) := by decide +kernel
theorem d22_30 : decode jdk_42_method_150_code 30 = .ok (.iload 4, 2) := by decide +kernel
theorem d22_32 : decode jdk_42_method_150_code 32 = .ok (.invokestatic 54, 3) := by decide +kernel
theorem d22_35 : decode jdk_42_method_150_code 35 = .ok (.putfield 9, 3) := by decide +kernel
theorem d22_38 : decode jdk_42_method_150_code 38 = .ok (.goto 59, 3) := by decide +kernel
theorem d22_97 : decode jdk_42_method_150_code 97 = .ok (.return_, 1) := by decide +kernel
theorem ef_sbStr (m : MethodId) (x0 : Addr) (x1 : Addr) : entryFrame m #[(.ref x0), (.ref x1), .null] 5 = mkF m 0 #[.val (.ref x0), .val (.ref x1), .val .null, .unset, .unset] [] := by first | (simp [entryFrame, mkF, argsToLocals, Value.category]; done) | rfl
def Q_sbStr (Z : State) (x1 : Addr) (b1 : Addr) (v1 : Addr) (kv : ClassId) (es : List Int32) (cap : Nat) (G1 : Int32) (h0 : Heap) (n0 : Nat) (v : Option Value) (h : Heap) (L : List Loc) : Prop := ∃ (t1 : Addr), v = none ∧ Fr n0 L ∧ Keep h0 h [x1] ∧ (own_Str Z h x1 t1 es) ∧ (h0.size ≤ t1)
set_option maxRecDepth 65536 in
set_option maxHeartbeats 40000000 in
theorem sbStr (l : Launch) (Z : State) (a0 : Array Value) (hw : ∀ d ∈ tables_1, d.before a0 Z = true) (ws : List Jvm.Cond) (x1 : Addr) (b1 : Addr) (v1 : Addr) (kv : ClassId) (es : List Int32) (cap : Nat) (G1 : Int32) (h0 : Heap) (n0 : Nat) (Z0 : n0 ≤ h0.size) (E1 : Exa Z h0 b1 "java/lang/StringBuilder") (F1 : Fld Z h0 b1 "java/lang/AbstractStringBuilder" "coder" "B" (.int (0 : Int32))) (F2 : Fld Z h0 b1 "java/lang/AbstractStringBuilder" "value" "[B" (.ref v1)) (F3 : Fld Z h0 b1 "java/lang/AbstractStringBuilder" "count" "I" (.int (Int32.ofNat es.length))) (V1 : Arv Z h0 v1 kv .byte (Int32.ofNat cap) (own_pad es cap) (.int (0 : Int32))) (T1 : Sta Z Z.heap "java/lang/String" "COMPACT_STRINGS" "Z" (.int G1)) (P5 : ¬ (G1 = (0 : Int32))) (O1 : Old Z n0 h0) (lt1 : es.length < cap) (lc1 : cap ≤ 34) (hlat : ∀ c ∈ es, ¬ c < 0 ∧ ¬ (255 : Int32) < c) (E2 : Exa Z h0 x1 "java/lang/String") (X1 : Fld Z h0 x1 "java/lang/String" "coder" "B" (.int (0 : Int32))) (X2 : Fld Z h0 x1 "java/lang/String" "value" "[B" .null) (g3 : n0 ≤ x1) :
    MetFree l (⟨"java/lang/String", "<init>", "(Ljava/lang/AbstractStringBuilder;Ljava/lang/Void;)V"⟩ : MethodName) (head1 (Jvm.Cond.code (⟨"java/lang/String", "<init>", "(Ljava/lang/AbstractStringBuilder;Ljava/lang/Void;)V"⟩ : MethodName) jdk_42_method_150_code 5 none :: ws) ({ frames := 3, cells := 1, slots := 34, locals := 49 } : Room)) (fun a U => a = #[(.ref x1), (.ref b1), .null] ∧ Z.Warmed39 U.vm ∧ U.heap = h0) (fun _ _ _ _ _ => True) (fun _ U o U' => ∃ v L, o = .returned v ∧ Q_sbStr Z x1 b1 v1 kv es cap G1 h0 n0 v U'.heap L ∧ FrameEnd U o U' L ({ frames := 3, cells := 1, slots := 34, locals := 49 } : Room).cells ({ frames := 3, cells := 1, slots := 34, locals := 49 } : Room).slots) := by
  refine MetFree.of_bodySF (plainFor_of_name pn_java_lang_String) hisR ?_
  intro p e s m args below meth c s₁ Bd hml0 hP hK
  obtain ⟨rfl, hZ, hh⟩ := hP
  have hx := Bd.exec
  have hby := Bd.bytes
  have hml : c.maxLocals = 5 := hml0
  have hown : s.vm.findClass "java/lang/String" = some m.cls := findClass_of_methodNamed Bd.named
  have hnm := (name_of_methodNamed Bd.named Bd.method).1
  have X0 : Stand p l e ({ frames := 3, cells := 1, slots := 34, locals := 49 } : Room) s m #[(.ref x1), (.ref b1), .null] below meth c s₁ [] 0 0 := Stand.of_body Bd
  have e0 : s₁.heap = h0 := by rw [← hh, Bd.state]; rfl
  have N0 := Fr.nil n0
  have pre0 : ∀ t, Steps p.tables e below (s₁.setTop (mkF m 0 #[.val (.ref x1), .val (.ref b1), .val .null, .unset, .unset] [])) t → Steps p.tables e below (s₁.setTop (entryFrame m #[(.ref x1), (.ref b1), .null] 5)) t := fun t k => castTop (ef_sbStr m x1 b1) k
  obtain ⟨T1_, X1_, e1_, st1_⟩ := initO X0 hx hZ hown (hw _ (List.mem_of_getElem? (i := 11) rfl)) (hw _ (List.mem_of_getElem? (i := 12) rfl)) (hw _ (List.mem_of_getElem? (i := 13) rfl)) e0 (g := (mkF m 1 #[.val (.ref x1), .val (.ref b1), .val .null, .unset, .unset] [(.ref x1)])) rfl (by rw [hml]; rfl) rfl (hb hby d22_1) (by decide) (W := 0) (by show 2 * 0 + _ ≤ _; exact Nat.le_of_eq rfl) (by decide)
  obtain ⟨cq3_, kq3_, qa3_, qb3_, qc3_⟩ := isOf hZ e1_ E1
  obtain ⟨_, _, ⟨T2_, L2_, k2_, n2_⟩, -, X2_, ⟨Lc2_, hQ2_, l2_, y2_, z2_⟩, st2_⟩ := X1_.virtualBack hx (y := (⟨"java/lang/AbstractStringBuilder", "getValue", "()[B"⟩ : MethodName)) (z := (⟨"java/lang/AbstractStringBuilder", "getValue", "()[B"⟩ : MethodName)) hown (mvT hZ (hw _ (List.mem_of_getElem? (i := 131) rfl))) (mvT hZ (hw _ (List.mem_of_getElem? (i := 132) rfl))) (notFace_of_selects (args := #[]) (mvT hZ (hw _ (List.mem_of_getElem? (i := 134) rfl)))) (mvT hZ (hw _ (List.mem_of_getElem? (i := 134) rfl))) (mvT hZ (hw _ (List.mem_of_getElem? (i := 133) rfl))) (by decide) (backOf (W := 0) (sbVal l Z a0 hw [] b1 v1 h0 n0 Z0 F2) hZ (hw _ (List.mem_of_getElem? (i := 135) rfl)) (hw _ (List.mem_of_getElem? (i := 38) rfl)) (by decide) (by decide)) qa3_ qc3_ (g := (mkF m 5 #[.val (.ref x1), .val (.ref b1), .val .null, .unset, .unset] [(.ref b1)])) rfl (by rw [hml]; rfl) (Steps.refl _) (argsL := []) (rest := []) (lenOf pd_qzaB rfl) rfl (by show 2 * 0 + _ ≤ _; exact Nat.le_of_eq rfl) (hb hby d22_5) (fun _ _ => ⟨rfl, e1_, (by exact Nat.le_of_ble_eq_true rfl), (by exact Nat.le_of_ble_eq_true rfl)⟩)
  dsimp only [Pt.U, Pt.locs, Pt.cells, Pt.slots] at X2_ l2_ y2_ z2_ st2_ hQ2_
  subst L2_ k2_ n2_
  obtain ⟨rfl, Nq2_, ek2_⟩ := hQ2_
  have N2_ := Fr.app N0 Nq2_
  obtain ⟨cq5_, kq5_, qa5_, qb5_, qc5_⟩ := isOf hZ ek2_ E1
  obtain ⟨_, _, ⟨T4_, L4_, k4_, n4_⟩, -, X4_, ⟨Lc4_, hQ4_, l4_, y4_, z4_⟩, st4_⟩ := X2_.virtualBack hx (y := (⟨"java/lang/AbstractStringBuilder", "length", "()I"⟩ : MethodName)) (z := (⟨"java/lang/StringBuilder", "length", "()I"⟩ : MethodName)) hown (mvT hZ (hw _ (List.mem_of_getElem? (i := 136) rfl))) (mvT hZ (hw _ (List.mem_of_getElem? (i := 137) rfl))) (own_nf (a0 := #[]) (mvT hZ (hw _ (List.mem_of_getElem? (i := 73) rfl))) (by decide)) (mvT hZ (hw _ (List.mem_of_getElem? (i := 139) rfl))) (mvT hZ (hw _ (List.mem_of_getElem? (i := 140) rfl))) (by decide) (backOf (W := 0) (sbLen2 l Z a0 hw [] b1 es h0 n0 Z0 E1 F3) hZ (hw _ (List.mem_of_getElem? (i := 141) rfl)) (hw _ (List.mem_of_getElem? (i := 30) rfl)) (by decide) (by decide)) qa5_ qc5_ (g := (mkF m 10 #[.val (.ref x1), .val (.ref b1), .val .null, .val (.ref v1), .unset] [(.ref b1)])) rfl (by rw [hml]; rfl) (Steps.refl _) (argsL := []) (rest := []) (lenOf pd_qzI rfl) rfl (by show 2 * 0 + _ ≤ _; exact Nat.le_of_eq rfl) (hb hby d22_10) (fun _ _ => ⟨rfl, ek2_, (by exact Nat.le_of_ble_eq_true rfl), (by exact Nat.le_of_ble_eq_true rfl)⟩)
  dsimp only [Pt.U, Pt.locs, Pt.cells, Pt.slots] at X4_ l4_ y4_ z4_ st4_ hQ4_
  subst L4_ k4_ n4_
  obtain ⟨rfl, Nq4_, ek4_⟩ := hQ4_
  have N4_ := Fr.app N2_ Nq4_
  obtain ⟨cq7_, kq7_, qa7_, qb7_, qc7_⟩ := isOf hZ ek4_ E1
  obtain ⟨_, _, ⟨T6_, L6_, k6_, n6_⟩, -, X6_, ⟨Lc6_, hQ6_, l6_, y6_, z6_⟩, st6_⟩ := X4_.virtualBack hx (y := (⟨"java/lang/AbstractStringBuilder", "isLatin1", "()Z"⟩ : MethodName)) (z := (⟨"java/lang/AbstractStringBuilder", "isLatin1", "()Z"⟩ : MethodName)) hown (mvT hZ (hw _ (List.mem_of_getElem? (i := 144) rfl))) (mvT hZ (hw _ (List.mem_of_getElem? (i := 145) rfl))) (notFace_of_selects (args := #[]) (mvT hZ (hw _ (List.mem_of_getElem? (i := 147) rfl)))) (mvT hZ (hw _ (List.mem_of_getElem? (i := 147) rfl))) (mvT hZ (hw _ (List.mem_of_getElem? (i := 146) rfl))) (by decide) (backOf (W := 0) (sbLat l Z a0 hw [] b1 G1 h0 n0 Z0 F1 T1 P5 O1) hZ (hw _ (List.mem_of_getElem? (i := 148) rfl)) (hw _ (List.mem_of_getElem? (i := 38) rfl)) (by decide) (by decide)) qa7_ qc7_ (g := (mkF m 16 #[.val (.ref x1), .val (.ref b1), .val .null, .val (.ref v1), .val (.int (Int32.ofNat es.length))] [(.ref b1)])) rfl (by rw [hml]; rfl) (Steps.refl _) (argsL := []) (rest := []) (lenOf pd_qzZ rfl) rfl (by show 2 * 0 + _ ≤ _; exact Nat.le_of_eq rfl) (hb hby d22_16) (fun _ _ => ⟨rfl, ek4_, (by exact Nat.le_of_ble_eq_true rfl), (by exact Nat.le_of_ble_eq_true rfl)⟩)
  dsimp only [Pt.U, Pt.locs, Pt.cells, Pt.slots] at X6_ l6_ y6_ z6_ st6_ hQ6_
  subst L6_ k6_ n6_
  obtain ⟨rfl, Nq6_, ek6_⟩ := hQ6_
  have N6_ := Fr.app N4_ Nq6_
  obtain ⟨T8_, h8_, X8_, e8_, W8_, st8_⟩ := putFN X6_ hx hZ hown (hw _ (List.mem_of_getElem? (i := 21) rfl)) Via.refl ek6_ X1 E2 (Or.inr ⟨(hw _ (List.mem_of_getElem? (i := 17) rfl)), rfl, hnm⟩) (hw _ (List.mem_of_getElem? (i := 1) rfl)) (ty := .byte) (v' := (.int (0 : Int32))) (by decide) rfl rfl (g := (mkF m 24 #[.val (.ref x1), .val (.ref b1), .val .null, .val (.ref v1), .val (.int (Int32.ofNat es.length))] [(.int (0 : Int32)), (.ref x1)])) rfl rfl (hb hby d22_24)
  have w8_ : Fld Z h8_ x1 "java/lang/String" "coder" "B" (.int (0 : Int32)) := X1.same W8_
  have N8_ := Fr.snoc X8_ N6_ g3
  have f10_ : Arv Z h8_ v1 kv .byte (Int32.ofNat cap) (own_pad es cap) (.int (0 : Int32)) := (V1.other W8_ (Ne.symm (Exa.neArv E2 V1 (hw _ (List.mem_of_getElem? (i := 1) rfl)))))
  have z11_ : n0 ≤ h8_.size := Nat.le_trans Z0 (Keep.of_wr W8_).1
  obtain ⟨_, _, ⟨T9_, L9_, k9_, n9_⟩, -, X9_, ⟨Lc9_, hQ9_, l9_, y9_, z9_⟩, st9_⟩ := Jvm.LawKit.callS X8_ hx (y := (⟨"java/util/Arrays", "copyOfRange", "([BII)[B"⟩ : MethodName)) hown (mvT hZ (hw _ (List.mem_of_getElem? (i := 149) rfl))) (mvT hZ (hw _ (List.mem_of_getElem? (i := 150) rfl))) (mvT hZ (hw _ (List.mem_of_getElem? (i := 92) rfl))) (mvT hZ (hw _ (List.mem_of_getElem? (i := 151) rfl))) (by decide) (backOf (W := 1) (sbRange l Z a0 hw [] v1 kv es cap h8_ n0 z11_ f10_ lt1 lc1) hZ (hw _ (List.mem_of_getElem? (i := 151) rfl)) (hw _ (List.mem_of_getElem? (i := 92) rfl)) (by decide) (by decide)) (g := (mkF m 32 #[.val (.ref x1), .val (.ref b1), .val .null, .val (.ref v1), .val (.int (Int32.ofNat es.length))] [(.int (Int32.ofNat es.length)), (.int (0 : Int32)), (.ref v1), (.ref x1)])) rfl (by rw [hml]; rfl) (argsL := [(.ref v1), (.int (0 : Int32)), (.int (Int32.ofNat es.length))]) (rest := [(.ref x1)]) (lenOf pd_qaBIIzaB rfl) rfl (by show 2 * 0 + _ ≤ _; exact Nat.le_of_eq rfl) (hb hby d22_32) (fun _ _ => ⟨rfl, e8_, (by exact Nat.le_of_ble_eq_true rfl), (by exact Nat.le_of_ble_eq_true rfl)⟩)
  dsimp only [Pt.U, Pt.locs, Pt.cells, Pt.slots] at X9_ l9_ y9_ z9_ st9_ hQ9_
  subst L9_ k9_ n9_
  obtain ⟨t1_9_, k1_9_, rfl, Nq9_, ek9_, p9__0, p9__1⟩ := hQ9_
  have N9_ := Fr.app N8_ Nq9_
  have f12_ : Exa Z T9_.heap x1 "java/lang/String" := ((E2.wr W8_).keep ek9_)
  have f13_ : Fld Z T9_.heap x1 "java/lang/String" "value" "[B" .null := ((X2.other W8_ (Or.inr (slot_ne (Or.inr (hw _ (List.mem_of_getElem? (i := 16) rfl))) (Or.inr (hw _ (List.mem_of_getElem? (i := 17) rfl))) (by decide) (t := (.array .byte)) (t' := .byte) (by decide) (by decide)))).keep ek9_ nin0)
  obtain ⟨T14_, h14_, X14_, e14_, W14_, st14_⟩ := putF X9_ hx hZ hown (host := "") (Or.inl (hw _ (List.mem_of_getElem? (i := 20) rfl))) Via.refl rfl f13_ f12_ (Or.inr ⟨(hw _ (List.mem_of_getElem? (i := 16) rfl)), rfl, hnm⟩) (hw _ (List.mem_of_getElem? (i := 1) rfl)) (ty := (.array .byte)) (by decide) rfl rfl (g := (mkF m 35 #[.val (.ref x1), .val (.ref b1), .val .null, .val (.ref v1), .val (.int (Int32.ofNat es.length))] [(.ref t1_9_), (.ref x1)])) rfl rfl (hb hby d22_35)
  have w14_ : Fld Z h14_ x1 "java/lang/String" "value" "[B" (.ref t1_9_) := f13_.same W14_
  have N14_ := Fr.snoc X14_ N9_ g3
  have f15_ : Exa Z h14_ x1 "java/lang/String" := (f12_.wr W14_)
  have f16_ : Fld Z h14_ x1 "java/lang/String" "coder" "B" (.int (0 : Int32)) := ((w8_.keep ek9_ nin0).other W14_ (Or.inr (slot_ne (Or.inr (hw _ (List.mem_of_getElem? (i := 17) rfl))) (Or.inr (hw _ (List.mem_of_getElem? (i := 16) rfl))) (by decide) (t := .byte) (t' := (.array .byte)) (by decide) (by decide))))
  have f17_ : Arv Z h14_ t1_9_ k1_9_ .byte (Int32.ofNat es.length) (own_by es) (.int (0 : Int32)) := (p9__0.other W14_ (Ne.symm (Nat.ne_of_lt (Nat.lt_of_lt_of_le (E2.wr W8_).lt p9__1))))
  have str_ : own_Str Z h14_ x1 t1_9_ es := ⟨f15_, f16_, w14_, ⟨_, f17_⟩, hlat, by omega⟩
  have k18_ : Keep h0 h8_ [x1] := (Keep.refl h0 [x1]).wr W8_ (Or.inl (List.mem_of_getElem? (i := 0) rfl))
  have k19_ : Keep h0 T9_.heap [x1] := k18_.trans ek9_ all0
  have k20_ : Keep h0 h14_ [x1] := k19_.wr W14_ (Or.inl (List.mem_of_getElem? (i := 0) rfl))
  obtain ⟨fs, hr, hrun, hended, hW, hsame⟩ := X14_.leave (v := none) (fun h => by first | rfl | (rw [Bd.returns] at h; cases h))
  refine ⟨_, _, pre0 _ ?_, hrun, hended, _, _, rfl, ?_, ⟨_, rfl⟩, hW, hsame.mono (by exact Nat.le_of_ble_eq_true rfl) (by exact Nat.le_of_ble_eq_true rfl)⟩
  · show Steps p.tables e below (s₁.setTop (mkF m 0 #[.val (.ref x1), .val (.ref b1), .val .null, .unset, .unset] [])) _
    refine XS.aloadN X0.here hx rfl (hb hby d22_0) rfl rfl ?_
    refine st1_ _ ?_
    show Steps p.tables e below (T1_.setTop (mkF m 4 #[.val (.ref x1), .val (.ref b1), .val .null, .unset, .unset] [])) _
    refine XS.aloadN X1_.here hx rfl (hb hby d22_4) rfl rfl ?_
    refine st2_.trans ?_
    show Steps p.tables e below (T2_.setTop (mkF m 8 #[.val (.ref x1), .val (.ref b1), .val .null, .unset, .unset] [(.ref v1)])) _
    refine XS.astoreN X2_.here hx rfl (hb hby d22_8) rfl rfl (l' := #[.val (.ref x1), .val (.ref b1), .val .null, .val (.ref v1), .unset]) rfl ?_
    show Steps p.tables e below (T2_.setTop (mkF m 9 #[.val (.ref x1), .val (.ref b1), .val .null, .val (.ref v1), .unset] [])) _
    refine XS.aloadN X2_.here hx rfl (hb hby d22_9) rfl rfl ?_
    refine st4_.trans ?_
    show Steps p.tables e below (T4_.setTop (mkF m 13 #[.val (.ref x1), .val (.ref b1), .val .null, .val (.ref v1), .unset] [(.int (Int32.ofNat es.length))])) _
    refine XS.istore X4_.here hx rfl (hb hby d22_13) rfl (l' := #[.val (.ref x1), .val (.ref b1), .val .null, .val (.ref v1), .val (.int (Int32.ofNat es.length))]) rfl ?_
    show Steps p.tables e below (T4_.setTop (mkF m 15 #[.val (.ref x1), .val (.ref b1), .val .null, .val (.ref v1), .val (.int (Int32.ofNat es.length))] [])) _
    refine XS.aloadN X4_.here hx rfl (hb hby d22_15) rfl rfl ?_
    refine st6_.trans ?_
    show Steps p.tables e below (T6_.setTop (mkF m 19 #[.val (.ref x1), .val (.ref b1), .val .null, .val (.ref v1), .val (.int (Int32.ofNat es.length))] [(.int (1 : Int32))])) _
    refine XS.ifNo X6_.here hx rfl (hb hby d22_19) rfl ((if0 _ _).trans (feq ((by decide) : ¬ ((1 : Int32) = (0 : Int32)))).1) ?_
    show Steps p.tables e below (T6_.setTop (mkF m 22 #[.val (.ref x1), .val (.ref b1), .val .null, .val (.ref v1), .val (.int (Int32.ofNat es.length))] [])) _
    refine XS.aloadN X6_.here hx rfl (hb hby d22_22) rfl rfl ?_
    refine XS.iconst X6_.here hx rfl (hb hby d22_23) ?_
    refine st8_ _ ?_
    show Steps p.tables e below (T8_.setTop (mkF m 27 #[.val (.ref x1), .val (.ref b1), .val .null, .val (.ref v1), .val (.int (Int32.ofNat es.length))] [])) _
    refine XS.aloadN X8_.here hx rfl (hb hby d22_27) rfl rfl ?_
    refine XS.aloadN X8_.here hx rfl (hb hby d22_28) rfl rfl ?_
    refine XS.iconst X8_.here hx rfl (hb hby d22_29) ?_
    refine XS.iload X8_.here hx rfl (hb hby d22_30) rfl ?_
    refine st9_ _ ?_
    show Steps p.tables e below (T9_.setTop (mkF m 35 #[.val (.ref x1), .val (.ref b1), .val .null, .val (.ref v1), .val (.int (Int32.ofNat es.length))] [(.ref t1_9_), (.ref x1)])) _
    refine st14_ _ ?_
    show Steps p.tables e below (T14_.setTop (mkF m 38 #[.val (.ref x1), .val (.ref b1), .val .null, .val (.ref v1), .val (.int (Int32.ofNat es.length))] [])) _
    refine XS.goto X14_.here hx rfl (pc0 := 38) (pc' := 97) rfl (hb hby d22_38) (by decide) (by decide) ?_
    show Steps p.tables e below (T14_.setTop (mkF m 97 #[.val (.ref x1), .val (.ref b1), .val .null, .val (.ref v1), .val (.int (Int32.ofNat es.length))] [])) _
    exact X14_.returnOut hx Bd.returns (hb hby d22_97) hr
  · show Q_sbStr Z x1 b1 v1 kv es cap G1 h0 n0 _ T14_.heap _
    rw [e14_]
    exact ⟨t1_9_, rfl, N14_, k20_, str_, (Nat.le_trans k18_.1 p9__1)⟩
theorem d21_0 : decode jdk_42_method_53_code 0 = .ok (.aload_n 0, 1) := by decide +kernel
theorem d21_1 : decode jdk_42_method_53_code 1 = .ok (.aload_n 1, 1) := by decide +kernel
theorem d21_2 : decode jdk_42_method_53_code 2 = .ok (.aconst_null, 1) := by decide +kernel
theorem d21_3 : decode jdk_42_method_53_code 3 = .ok (.invokespecial 489, 3) := by decide +kernel
theorem pd_qLjava_lang_AbstractStringBuilderLjava_lang_VoidzV : parseMethodDescriptor "(Ljava/lang/AbstractStringBuilder;Ljava/lang/Void;)V" = some ⟨[(.object "java/lang/AbstractStringBuilder"), (.object "java/lang/Void")], none⟩ := by decide +kernel
theorem d21_6 : decode jdk_42_method_53_code 6 = .ok (.return_, 1) := by decide +kernel
theorem ef_sbStr2 (m : MethodId) (x0 : Addr) (x1 : Addr) : entryFrame m #[(.ref x0), (.ref x1)] 2 = mkF m 0 #[.val (.ref x0), .val (.ref x1)] [] := by first | (simp [entryFrame, mkF, argsToLocals, Value.category]; done) | rfl
def Q_sbStr2 (Z : State) (x1 : Addr) (b1 : Addr) (v1 : Addr) (kv : ClassId) (es : List Int32) (cap : Nat) (G1 : Int32) (h0 : Heap) (n0 : Nat) (v : Option Value) (h : Heap) (L : List Loc) : Prop := ∃ (t1 : Addr), v = none ∧ Fr n0 L ∧ Keep h0 h [x1] ∧ (own_Str Z h x1 t1 es) ∧ (h0.size ≤ t1)
set_option maxRecDepth 65536 in
set_option maxHeartbeats 40000000 in
theorem sbStr2 (l : Launch) (Z : State) (a0 : Array Value) (hw : ∀ d ∈ tables_1, d.before a0 Z = true) (ws : List Jvm.Cond) (x1 : Addr) (b1 : Addr) (v1 : Addr) (kv : ClassId) (es : List Int32) (cap : Nat) (G1 : Int32) (h0 : Heap) (n0 : Nat) (Z0 : n0 ≤ h0.size) (E1 : Exa Z h0 b1 "java/lang/StringBuilder") (F1 : Fld Z h0 b1 "java/lang/AbstractStringBuilder" "coder" "B" (.int (0 : Int32))) (F2 : Fld Z h0 b1 "java/lang/AbstractStringBuilder" "value" "[B" (.ref v1)) (F3 : Fld Z h0 b1 "java/lang/AbstractStringBuilder" "count" "I" (.int (Int32.ofNat es.length))) (V1 : Arv Z h0 v1 kv .byte (Int32.ofNat cap) (own_pad es cap) (.int (0 : Int32))) (T1 : Sta Z Z.heap "java/lang/String" "COMPACT_STRINGS" "Z" (.int G1)) (P5 : ¬ (G1 = (0 : Int32))) (O1 : Old Z n0 h0) (lt1 : es.length < cap) (lc1 : cap ≤ 34) (hlat : ∀ c ∈ es, ¬ c < 0 ∧ ¬ (255 : Int32) < c) (E2 : Exa Z h0 x1 "java/lang/String") (X1 : Fld Z h0 x1 "java/lang/String" "coder" "B" (.int (0 : Int32))) (X2 : Fld Z h0 x1 "java/lang/String" "value" "[B" .null) (g3 : n0 ≤ x1) :
    MetFree l (⟨"java/lang/String", "<init>", "(Ljava/lang/StringBuilder;)V"⟩ : MethodName) (head1 (Jvm.Cond.code (⟨"java/lang/String", "<init>", "(Ljava/lang/StringBuilder;)V"⟩ : MethodName) jdk_42_method_53_code 2 none :: ws) ({ frames := 4, cells := 1, slots := 34, locals := 65 } : Room)) (fun a U => a = #[(.ref x1), (.ref b1)] ∧ Z.Warmed39 U.vm ∧ U.heap = h0) (fun _ _ _ _ _ => True) (fun _ U o U' => ∃ v L, o = .returned v ∧ Q_sbStr2 Z x1 b1 v1 kv es cap G1 h0 n0 v U'.heap L ∧ FrameEnd U o U' L ({ frames := 4, cells := 1, slots := 34, locals := 65 } : Room).cells ({ frames := 4, cells := 1, slots := 34, locals := 65 } : Room).slots) := by
  refine MetFree.of_bodySF (plainFor_of_name pn_java_lang_String) hisR ?_
  intro p e s m args below meth c s₁ Bd hml0 hP hK
  obtain ⟨rfl, hZ, hh⟩ := hP
  have hx := Bd.exec
  have hby := Bd.bytes
  have hml : c.maxLocals = 2 := hml0
  have hown : s.vm.findClass "java/lang/String" = some m.cls := findClass_of_methodNamed Bd.named
  have hnm := (name_of_methodNamed Bd.named Bd.method).1
  have X0 : Stand p l e ({ frames := 4, cells := 1, slots := 34, locals := 65 } : Room) s m #[(.ref x1), (.ref b1)] below meth c s₁ [] 0 0 := Stand.of_body Bd
  have e0 : s₁.heap = h0 := by rw [← hh, Bd.state]; rfl
  have N0 := Fr.nil n0
  have pre0 : ∀ t, Steps p.tables e below (s₁.setTop (mkF m 0 #[.val (.ref x1), .val (.ref b1)] [])) t → Steps p.tables e below (s₁.setTop (entryFrame m #[(.ref x1), (.ref b1)] 2)) t := fun t k => castTop (ef_sbStr2 m x1 b1) k
  obtain ⟨_, _, ⟨T1_, L1_, k1_, n1_⟩, -, X1_, ⟨Lc1_, hQ1_, l1_, y1_, z1_⟩, st1_⟩ := X0.specialBack hx (y := (⟨"java/lang/String", "<init>", "(Ljava/lang/AbstractStringBuilder;Ljava/lang/Void;)V"⟩ : MethodName)) rfl hown (mvT hZ (hw _ (List.mem_of_getElem? (i := 128) rfl))) (mvT hZ (hw _ (List.mem_of_getElem? (i := 129) rfl))) (mvT hZ (hw _ (List.mem_of_getElem? (i := 130) rfl))) (by decide) (backOf (W := 0) (sbStr l Z a0 hw [] x1 b1 v1 kv es cap G1 h0 n0 Z0 E1 F1 F2 F3 V1 T1 P5 O1 lt1 lc1 hlat E2 X1 X2 g3) hZ (hw _ (List.mem_of_getElem? (i := 130) rfl)) (hw _ (List.mem_of_getElem? (i := 2) rfl)) (by decide) (by decide)) (g := (mkF m 3 #[.val (.ref x1), .val (.ref b1)] [.null, (.ref b1), (.ref x1)])) rfl (by rw [hml]; rfl) (Steps.refl _) (a := x1) (argsL := [(.ref b1), .null]) (rest := []) (lenOf pd_qLjava_lang_AbstractStringBuilderLjava_lang_VoidzV rfl) rfl (by show 2 * 0 + _ ≤ _; exact Nat.le_of_eq rfl) (hb hby d21_3) (fun _ _ => ⟨rfl, e0, (by exact Nat.le_of_ble_eq_true rfl), (by exact Nat.le_of_ble_eq_true rfl)⟩)
  dsimp only [Pt.U, Pt.locs, Pt.cells, Pt.slots] at X1_ l1_ y1_ z1_ st1_ hQ1_
  subst L1_ k1_ n1_
  obtain ⟨t1_1_, rfl, Nq1_, ek1_, p1__0, p1__1⟩ := hQ1_
  have N1_ := Fr.app N0 Nq1_
  have k2_ : Keep h0 T1_.heap [x1] := (Keep.refl h0 [x1]).trans ek1_ (allS (Or.inl (List.mem_of_getElem? (i := 0) rfl)) all0)
  obtain ⟨fs, hr, hrun, hended, hW, hsame⟩ := X1_.leave (v := none) (fun h => by first | rfl | (rw [Bd.returns] at h; cases h))
  refine ⟨_, _, pre0 _ ?_, hrun, hended, _, _, rfl, ?_, ⟨_, rfl⟩, hW, hsame.mono (by exact Nat.le_of_ble_eq_true rfl) (by exact Nat.le_of_ble_eq_true rfl)⟩
  · show Steps p.tables e below (s₁.setTop (mkF m 0 #[.val (.ref x1), .val (.ref b1)] [])) _
    refine XS.aloadN X0.here hx rfl (hb hby d21_0) rfl rfl ?_
    refine XS.aloadN X0.here hx rfl (hb hby d21_1) rfl rfl ?_
    refine XS.aconstNull X0.here hx rfl (hb hby d21_2) ?_
    show Steps p.tables e below (s₁.setTop (mkF m 3 #[.val (.ref x1), .val (.ref b1)] [.null, (.ref b1), (.ref x1)])) _
    refine st1_.trans ?_
    show Steps p.tables e below (T1_.setTop (mkF m 6 #[.val (.ref x1), .val (.ref b1)] [])) _
    exact X1_.returnOut hx Bd.returns (hb hby d21_6) hr
  · show Q_sbStr2 Z x1 b1 v1 kv es cap G1 h0 n0 _ T1_.heap _
    skip
    exact ⟨t1_1_, rfl, N1_, k2_, p1__0, (Nat.le_trans (Keep.refl h0 [x1]).1 p1__1)⟩
theorem d20_0 : decode jdk_67_method_42_code 0 = .ok (.new 18, 3) := by decide +kernel
theorem d20_3 : decode jdk_67_method_42_code 3 = .ok (.dup, 1) := by decide +kernel
theorem d20_4 : decode jdk_67_method_42_code 4 = .ok (.aload_n 0, 1) := by decide +kernel
theorem d20_5 : decode jdk_67_method_42_code 5 = .ok (.invokespecial 137, 3) := by decide +kernel
theorem pd_qLjava_lang_StringBuilderzV : parseMethodDescriptor "(Ljava/lang/StringBuilder;)V" = some ⟨[(.object "java/lang/StringBuilder")], none⟩ := by decide +kernel
theorem d20_8 : decode jdk_67_method_42_code 8 = .ok (.areturn, 1) := by decide +kernel
theorem ef_sbToS (m : MethodId) (x0 : Addr) : entryFrame m #[(.ref x0)] 1 = mkF m 0 #[.val (.ref x0)] [] := by first | (simp [entryFrame, mkF, argsToLocals, Value.category]; done) | rfl
def Q_sbToS (Z : State) (b1 : Addr) (v1 : Addr) (kv : ClassId) (es : List Int32) (cap : Nat) (G1 : Int32) (h0 : Heap) (n0 : Nat) (v : Option Value) (h : Heap) (L : List Loc) : Prop := ∃ (x1 : Addr) (t1 : Addr), v = some (.ref x1) ∧ Fr n0 L ∧ Keep h0 h [] ∧ (own_Str Z h x1 t1 es) ∧ (h0.size ≤ t1) ∧ (h0.size ≤ x1)
set_option maxRecDepth 65536 in
set_option maxHeartbeats 40000000 in
theorem sbToS (l : Launch) (Z : State) (a0 : Array Value) (hw : ∀ d ∈ tables_1, d.before a0 Z = true) (ws : List Jvm.Cond) (b1 : Addr) (v1 : Addr) (kv : ClassId) (es : List Int32) (cap : Nat) (G1 : Int32) (h0 : Heap) (n0 : Nat) (Z0 : n0 ≤ h0.size) (E1 : Exa Z h0 b1 "java/lang/StringBuilder") (F1 : Fld Z h0 b1 "java/lang/AbstractStringBuilder" "coder" "B" (.int (0 : Int32))) (F2 : Fld Z h0 b1 "java/lang/AbstractStringBuilder" "value" "[B" (.ref v1)) (F3 : Fld Z h0 b1 "java/lang/AbstractStringBuilder" "count" "I" (.int (Int32.ofNat es.length))) (V1 : Arv Z h0 v1 kv .byte (Int32.ofNat cap) (own_pad es cap) (.int (0 : Int32))) (T1 : Sta Z Z.heap "java/lang/String" "COMPACT_STRINGS" "Z" (.int G1)) (P5 : ¬ (G1 = (0 : Int32))) (O1 : Old Z n0 h0) (lt1 : es.length < cap) (lc1 : cap ≤ 34) (hlat : ∀ c ∈ es, ¬ c < 0 ∧ ¬ (255 : Int32) < c) :
    MetFree l (⟨"java/lang/StringBuilder", "toString", "()Ljava/lang/String;"⟩ : MethodName) (head1 (Jvm.Cond.code (⟨"java/lang/StringBuilder", "toString", "()Ljava/lang/String;"⟩ : MethodName) jdk_67_method_42_code 1 (some (.object "java/lang/String")) :: ws) ({ frames := 5, cells := 2, slots := 38, locals := 79 } : Room)) (fun a U => a = #[(.ref b1)] ∧ Z.Warmed39 U.vm ∧ U.heap = h0) (fun _ _ _ _ _ => True) (fun _ U o U' => ∃ v L, o = .returned v ∧ Q_sbToS Z b1 v1 kv es cap G1 h0 n0 v U'.heap L ∧ FrameEnd U o U' L ({ frames := 5, cells := 2, slots := 38, locals := 79 } : Room).cells ({ frames := 5, cells := 2, slots := 38, locals := 79 } : Room).slots) := by
  refine MetFree.of_bodySF (plainFor_of_name pn_java_lang_StringBuilder) hisR ?_
  intro p e s m args below meth c s₁ Bd hml0 hP hK
  obtain ⟨rfl, hZ, hh⟩ := hP
  have hx := Bd.exec
  have hby := Bd.bytes
  have hml : c.maxLocals = 1 := hml0
  have hown : s.vm.findClass "java/lang/StringBuilder" = some m.cls := findClass_of_methodNamed Bd.named
  have hnm := (name_of_methodNamed Bd.named Bd.method).1
  have X0 : Stand p l e ({ frames := 5, cells := 2, slots := 38, locals := 79 } : Room) s m #[(.ref b1)] below meth c s₁ [] 0 0 := Stand.of_body Bd
  have e0 : s₁.heap = h0 := by rw [← hh, Bd.state]; rfl
  have N0 := Fr.nil n0
  have pre0 : ∀ t, Steps p.tables e below (s₁.setTop (mkF m 0 #[.val (.ref b1)] [])) t → Steps p.tables e below (s₁.setTop (entryFrame m #[(.ref b1)] 1)) t := fun t k => castTop (ef_sbToS m b1) k
  obtain ⟨T1_, h1_, X1_, e1_, E1_, A1_, D1_, U1_, st1_⟩ := newO X0 hx hZ hown (hw _ (List.mem_of_getElem? (i := 124) rfl)) (hw _ (List.mem_of_getElem? (i := 1) rfl)) (hw _ (List.mem_of_getElem? (i := 2) rfl)) e0 (g := (mkF m 0 #[.val (.ref b1)] [])) rfl (hb hby d20_0) (by exact Nat.le_of_ble_eq_true rfl) (by exact Nat.le_of_ble_eq_true rfl)
  obtain ⟨b1_, g1_⟩ : ∃ z, z = h0.size := ⟨_, rfl⟩
  rw [← g1_] at A1_ D1_ U1_ st1_
  have F1__value : Fld Z h1_ b1_ "java/lang/String" "value" "[B" .null := D1_ (Or.inr (hw _ (List.mem_of_getElem? (i := 16) rfl))) (ty := (.array .byte)) (by decide)
  have F1__coder : Fld Z h1_ b1_ "java/lang/String" "coder" "B" (.int (0 : Int32)) := D1_ (Or.inr (hw _ (List.mem_of_getElem? (i := 17) rfl))) (ty := .byte) (by decide)
  have f3_ : Exa Z h1_ b1 "java/lang/StringBuilder" := (E1.ext E1_)
  have f4_ : Fld Z h1_ b1 "java/lang/AbstractStringBuilder" "coder" "B" (.int (0 : Int32)) := (F1.ext E1_)
  have f5_ : Fld Z h1_ b1 "java/lang/AbstractStringBuilder" "value" "[B" (.ref v1) := (F2.ext E1_)
  have f6_ : Fld Z h1_ b1 "java/lang/AbstractStringBuilder" "count" "I" (.int (Int32.ofNat es.length)) := (F3.ext E1_)
  have f7_ : Arv Z h1_ v1 kv .byte (Int32.ofNat cap) (own_pad es cap) (.int (0 : Int32)) := (V1.ext E1_)
  have f8_ : Old Z n0 h1_ := (O1.ext E1_)
  have g9_ : n0 ≤ b1_ := Nat.le_trans Z0 (Nat.le_of_eq g1_.symm)
  have z10_ : n0 ≤ h1_.size := Nat.le_trans Z0 E1_.1
  obtain ⟨_, _, ⟨T2_, L2_, k2_, n2_⟩, -, X2_, ⟨Lc2_, hQ2_, l2_, y2_, z2_⟩, st2_⟩ := X1_.specialBack hx (y := (⟨"java/lang/String", "<init>", "(Ljava/lang/StringBuilder;)V"⟩ : MethodName)) rfl hown (mvT hZ (hw _ (List.mem_of_getElem? (i := 125) rfl))) (mvT hZ (hw _ (List.mem_of_getElem? (i := 126) rfl))) (mvT hZ (hw _ (List.mem_of_getElem? (i := 127) rfl))) (by decide) (backOf (W := 1) (sbStr2 l Z a0 hw [] b1_ b1 v1 kv es cap G1 h1_ n0 z10_ f3_ f4_ f5_ f6_ f7_ T1 P5 f8_ lt1 lc1 hlat A1_ F1__coder F1__value g9_) hZ (hw _ (List.mem_of_getElem? (i := 127) rfl)) (hw _ (List.mem_of_getElem? (i := 2) rfl)) (by decide) (by decide)) (g := (mkF m 5 #[.val (.ref b1)] [(.ref b1), (.ref b1_), (.ref b1_)])) rfl (by rw [hml]; rfl) (Steps.refl _) (a := b1_) (argsL := [(.ref b1)]) (rest := [(.ref b1_)]) (lenOf pd_qLjava_lang_StringBuilderzV rfl) rfl (by show 2 * 0 + _ ≤ _; exact Nat.le_of_eq rfl) (hb hby d20_5) (fun _ _ => ⟨rfl, e1_, (by exact Nat.le_of_ble_eq_true rfl), (by exact Nat.le_of_ble_eq_true rfl)⟩)
  dsimp only [Pt.U, Pt.locs, Pt.cells, Pt.slots] at X2_ l2_ y2_ z2_ st2_ hQ2_
  subst L2_ k2_ n2_
  obtain ⟨t1_2_, rfl, Nq2_, ek2_, p2__0, p2__1⟩ := hQ2_
  have N2_ := Fr.app N0 Nq2_
  have k11_ : Keep h0 h1_ [] := (Keep.refl h0 []).ext E1_
  have k12_ : Keep h0 T2_.heap [] := k11_.trans ek2_ (allS (Or.inr (Nat.le_trans (Keep.refl h0 []).1 (Nat.le_of_eq g1_.symm))) all0)
  obtain ⟨fs, hr, hrun, hended, hW, hsame⟩ := X2_.leave (v := some (.ref b1_)) (fun h => by first | rfl | (rw [Bd.returns] at h; cases h))
  refine ⟨_, _, pre0 _ ?_, hrun, hended, _, _, rfl, ?_, ⟨_, rfl⟩, hW, hsame.mono (by exact Nat.le_of_ble_eq_true rfl) (by exact Nat.le_of_ble_eq_true rfl)⟩
  · show Steps p.tables e below (s₁.setTop (mkF m 0 #[.val (.ref b1)] [])) _
    refine st1_ _ ?_
    show Steps p.tables e below (T1_.setTop (mkF m 3 #[.val (.ref b1)] [(.ref b1_)])) _
    refine XS.dup X1_.here hx rfl (hb hby d20_3) rfl rfl ?_
    show Steps p.tables e below (T1_.setTop (mkF m 4 #[.val (.ref b1)] [(.ref b1_), (.ref b1_)])) _
    refine XS.aloadN X1_.here hx rfl (hb hby d20_4) rfl rfl ?_
    refine st2_.trans ?_
    show Steps p.tables e below (T2_.setTop (mkF m 8 #[.val (.ref b1)] [(.ref b1_)])) _
    exact retR X2_ hx Bd.returns rfl rfl rfl (hb hby d20_8) hr
  · show Q_sbToS Z b1 v1 kv es cap G1 h0 n0 _ T2_.heap _
    skip
    exact ⟨b1_, t1_2_, rfl, N2_, k12_, p2__0, (Nat.le_trans k11_.1 p2__1), (Nat.le_trans (Keep.refl h0 []).1 (Nat.le_of_eq g1_.symm))⟩
theorem d2_0 : decode jdk_42_method_149_code 0 = .ok (.aload_n 0, 1) := by decide +kernel
theorem d2_1 : decode jdk_42_method_149_code 1 = .ok (.invokespecial 1, 3) := by decide +kernel
theorem d2_4 : decode jdk_42_method_149_code 4 = .ok (.iload_n 3, 1) := by decide +kernel
theorem d2_5 : decode jdk_42_method_149_code 5 = .ok (.ifCond .ne 22, 3) := by decide +kernel
theorem d2_8 : decode jdk_42_method_149_code 8 = .ok (.aload_n 0, 1) := by decide +kernel
theorem d2_9 : decode jdk_42_method_149_code 9 = .ok (.ldc 7, 2) := by decide +kernel
theorem d2_11 : decode jdk_42_method_149_code 11 = .ok (.getfield 9, 3) := by decide +kernel
theorem d2_14 : decode jdk_42_method_149_code 14 = .ok (.putfield 9, 3) := by decide +kernel
theorem d2_17 : decode jdk_42_method_149_code 17 = .ok (.aload_n 0, 1) := by decide +kernel
theorem d2_18 : decode jdk_42_method_149_code 18 = .ok (.ldc 7, 2) := by decide +kernel
theorem d2_20 : decode jdk_42_method_149_code 20 = .ok (.getfield 15, 3) := by decide +kernel
theorem d2_23 : decode jdk_42_method_149_code 23 = .ok (.putfield 15, 3) := by decide +kernel
theorem d2_26 : decode jdk_42_method_149_code 26 = .ok (.return_, 1) := by decide +kernel
theorem ef_emA (m : MethodId) (x0 : Addr) (x1 : Addr) (x2 : Int32) (x3 : Int32) : entryFrame m #[(.ref x0), (.ref x1), (.int x2), (.int x3), .null] 6 = mkF m 0 #[.val (.ref x0), .val (.ref x1), .val (.int x2), .val (.int x3), .val .null, .unset] [] := by first | (simp [entryFrame, mkF, argsToLocals, Value.category]; done) | rfl
def Q_emA (Z : State) (x1 : Addr) (c1 : Addr) (h0 : Heap) (n0 : Nat) (v : Option Value) (h : Heap) (L : List Loc) : Prop := ∃ (t1 : Addr), v = none ∧ Fr n0 L ∧ Keep h0 h [x1] ∧ (own_Str Z h x1 t1 ([] : List Int32))
set_option maxRecDepth 65536 in
set_option maxHeartbeats 40000000 in
theorem emA (l : Launch) (Z : State) (a0 : Array Value) (hw : ∀ d ∈ tables_1, d.before a0 Z = true) (hEL : EW Z a0 consts_1) (ws : List Jvm.Cond) (x1 : Addr) (c1 : Addr) (h0 : Heap) (n0 : Nat) (Z0 : n0 ≤ h0.size) (E1 : Exa Z h0 x1 "java/lang/String") (X1 : Fld Z h0 x1 "java/lang/String" "coder" "B" (.int (0 : Int32))) (X2 : Fld Z h0 x1 "java/lang/String" "value" "[B" .null) (g1 : n0 ≤ x1) :
    MetFree l (⟨"java/lang/String", "<init>", "([CIILjava/lang/Void;)V"⟩ : MethodName) (head1 (Jvm.Cond.code (⟨"java/lang/String", "<init>", "([CIILjava/lang/Void;)V"⟩ : MethodName) jdk_42_method_149_code 6 none :: ws) ({ frames := 1, cells := 4, slots := 8, locals := 12 } : Room)) (fun a U => a = #[(.ref x1), (.ref c1), (.int (0 : Int32)), (.int (0 : Int32)), .null] ∧ Z.Warmed39 U.vm ∧ U.heap = h0 ∧ CHv Z consts_1 U.vm h0) (fun _ _ _ _ _ => True) (fun _ U o U' => ∃ v L, o = .returned v ∧ Q_emA Z x1 c1 h0 n0 v U'.heap L ∧ CHr Z consts_1 U.vm U.heap U'.vm U'.heap ∧ ReturnedEndW U o U' L ({ frames := 1, cells := 4, slots := 8, locals := 12 } : Room).cells ({ frames := 1, cells := 4, slots := 8, locals := 12 } : Room).slots) := by
  refine MetFree.of_bodySF (plainFor_of_name pn_java_lang_String) hisR ?_
  intro p e s m args below meth c s₁ Bd hml0 hP hK
  obtain ⟨rfl, hZ, hh, H0'⟩ := hP
  have hx := Bd.exec
  have hby := Bd.bytes
  have hml : c.maxLocals = 6 := hml0
  have hown : s.vm.findClass "java/lang/String" = some m.cls := findClass_of_methodNamed Bd.named
  have hnm := (name_of_methodNamed Bd.named Bd.method).1
  have X0 : Stand p l e ({ frames := 1, cells := 4, slots := 8, locals := 12 } : Room) (s.setVm s.vm) m #[(.ref x1), (.ref c1), (.int (0 : Int32)), (.int (0 : Int32)), .null] below meth c s₁ [] 0 0 := Stand.of_body Bd
  have e0 : s₁.heap = h0 := by rw [← hh, Bd.state]; rfl
  have N0 := Fr.nil n0
  have hS0 : s.Since s.vm h0.size := own_since0 s _
  have hk0 : h0.size ≤ h0.size := Nat.le_refl _
  have H0 : CHv Z consts_1 s.vm h0 := H0'
  have wS : ∀ a ∈ Bundle.stringAtoms, a.before a0 Z = true := fun a ha => hw a ((by decide +kernel : ∀ a ∈ Bundle.stringAtoms, a ∈ tables_1) a ha)
  have pre0 : ∀ t, Steps p.tables e below (s₁.setTop (mkF m 0 #[.val (.ref x1), .val (.ref c1), .val (.int (0 : Int32)), .val (.int (0 : Int32)), .val .null, .unset] [])) t → Steps p.tables e below (s₁.setTop (entryFrame m #[(.ref x1), (.ref c1), (.int (0 : Int32)), (.int (0 : Int32)), .null] 6)) t := fun t k => castTop (ef_emA m x1 c1 (0 : Int32) (0 : Int32)) k
  have sf_ : Safe Z consts_1 s.vm h0 x1 := own_safe0 (State.Warmed39.alike hZ) E1 X2
  obtain ⟨T1_, X1_, e1_, st1_⟩ := initO X0 hx hZ hown (hw _ (List.mem_of_getElem? (i := 11) rfl)) (hw _ (List.mem_of_getElem? (i := 12) rfl)) (hw _ (List.mem_of_getElem? (i := 13) rfl)) e0 (g := (mkF m 1 #[.val (.ref x1), .val (.ref c1), .val (.int (0 : Int32)), .val (.int (0 : Int32)), .val .null, .unset] [(.ref x1)])) rfl (by rw [hml]; rfl) rfl (hb hby d2_1) (by decide) (W := 0) (by show 2 * 0 + _ ≤ _; exact Nat.le_of_eq rfl) (by decide)
  obtain ⟨c2_, T2_, h2_, kk2_, c2_d, c2_k, X2_, e2_, E2_, hS2_, hk2_, hZ2_, hown2_, le2_, lc2_, lv2_, la2_, lx2_, ly2_, chr2_, lit2_, ls2_, st2_⟩ := ldcCH X1_ hx hZ hown (hw _ (List.mem_of_getElem? (i := 14) rfl)) wS e1_ hS0 hk0 hEL (List.mem_of_getElem? (i := 3) rfl) H0 (vs := []) (z := (0 : Int32)) ⟨by decide, by decide⟩ (by decide) (by decide) (g := (mkF m 9 #[.val (.ref x1), .val (.ref c1), .val (.int (0 : Int32)), .val (.int (0 : Int32)), .val .null, .unset] [(.ref x1)])) rfl (hb hby d2_9) (n := 0) (by decide) (by decide) (by exact Nat.le_of_ble_eq_true rfl) (by exact Nat.le_of_ble_eq_true rfl)
  have K2_ : Keep h0 h2_ [] := (Keep.refl _ _).ext E2_
  have cr3_ := (CHr.refl H0).trans chr2_
  have ch2_ := chr2_.1
  have str2_ : own_Str Z h2_ c2_ c2_d ([] : List Int32) := ⟨le2_, lc2_, lv2_, ⟨_, la2_⟩, by decide, by decide⟩
  obtain ⟨T4_, X4_, e4_, st4_⟩ := getF X2_ hx hZ2_ hown2_ (host := "") (Or.inl (hw _ (List.mem_of_getElem? (i := 20) rfl))) Via.refl e2_ str2_.2.2.1 (g := (mkF m 11 #[.val (.ref x1), .val (.ref c1), .val (.int (0 : Int32)), .val (.int (0 : Int32)), .val .null, .unset] [(.ref c2_), (.ref x1)])) rfl rfl (hb hby d2_11)
  have f5_ : Exa Z h2_ x1 "java/lang/String" := (E1.keep K2_)
  have f6_ : Fld Z h2_ x1 "java/lang/String" "value" "[B" .null := (X2.keep K2_ nin0)
  have f8_ : Safe Z consts_1 T2_.vm h2_ x1 := (chr2_.safe E1.lt sf_)
  obtain ⟨T7_, h7_, X7_, e7_, W7_, st7_⟩ := putF X4_ hx hZ2_ hown2_ (host := "") (Or.inl (hw _ (List.mem_of_getElem? (i := 20) rfl))) Via.refl e4_ f6_ f5_ (Or.inr ⟨(hw _ (List.mem_of_getElem? (i := 16) rfl)), rfl, hnm⟩) (hw _ (List.mem_of_getElem? (i := 1) rfl)) (ty := (.array .byte)) (by decide) rfl rfl (g := (mkF m 14 #[.val (.ref x1), .val (.ref c1), .val (.int (0 : Int32)), .val (.int (0 : Int32)), .val .null, .unset] [(.ref c2_d), (.ref x1)])) rfl rfl (hb hby d2_14)
  have ch9_ : CHv Z consts_1 T2_.vm h7_ := CHv.wr W7_ f8_ ch2_
  have cr10_ := cr3_.trans (CHr.wr W7_ f8_ ch2_)
  have w7_ : Fld Z h7_ x1 "java/lang/String" "value" "[B" (.ref c2_d) := f6_.same W7_
  have N7_ := Fr.snoc X7_ N0 g1
  obtain ⟨c11_, T11_, h11_, kk11_, c11_d, c11_k, X11_, e11_, E11_, hS11_, hk11_, hZ11_, hown11_, le11_, lc11_, lv11_, la11_, lx11_, ly11_, chr11_, lit11_, ls11_, st11_⟩ := ldcCH X7_ hx hZ2_ hown2_ (hw _ (List.mem_of_getElem? (i := 14) rfl)) wS e7_ hS2_ (Nat.le_trans hk2_ (Keep.of_wr W7_).1) hEL (List.mem_of_getElem? (i := 3) rfl) ch9_ (vs := []) (z := (0 : Int32)) ⟨by decide, by decide⟩ (by decide) (by decide) (g := (mkF m 18 #[.val (.ref x1), .val (.ref c1), .val (.int (0 : Int32)), .val (.int (0 : Int32)), .val .null, .unset] [(.ref x1)])) rfl (hb hby d2_18) (n := 0) (by decide) (by decide) (by exact Nat.le_of_ble_eq_true rfl) (by exact Nat.le_of_ble_eq_true rfl)
  have K11_ : Keep h7_ h11_ [] := (Keep.refl _ _).ext E11_
  have cr12_ := cr10_.trans chr11_
  have ch11_ := chr11_.1
  have str11_ : own_Str Z h11_ c11_ c11_d ([] : List Int32) := ⟨le11_, lc11_, lv11_, ⟨_, la11_⟩, by decide, by decide⟩
  obtain ⟨T13_, X13_, e13_, st13_⟩ := getF X11_ hx hZ11_ hown11_ (host := "") (Or.inl (hw _ (List.mem_of_getElem? (i := 21) rfl))) Via.refl e11_ str11_.2.1 (g := (mkF m 20 #[.val (.ref x1), .val (.ref c1), .val (.int (0 : Int32)), .val (.int (0 : Int32)), .val .null, .unset] [(.ref c11_), (.ref x1)])) rfl rfl (hb hby d2_20)
  have f14_ : Exa Z h11_ x1 "java/lang/String" := ((f5_.wr W7_).keep K11_)
  have f15_ : Fld Z h11_ x1 "java/lang/String" "coder" "B" (.int (0 : Int32)) := (((X1.keep K2_ nin0).other W7_ (Or.inr (slot_ne (Or.inr (hw _ (List.mem_of_getElem? (i := 17) rfl))) (Or.inr (hw _ (List.mem_of_getElem? (i := 16) rfl))) (by decide) (t := .byte) (t' := (.array .byte)) (by decide) (by decide)))).keep K11_ nin0)
  have f17_ : Safe Z consts_1 T11_.vm h11_ x1 := (chr11_.safe (f5_.wr W7_).lt (Safe.wr W7_ f8_ ch2_ f8_))
  obtain ⟨T16_, h16_, X16_, e16_, W16_, st16_⟩ := putFN X13_ hx hZ11_ hown11_ (hw _ (List.mem_of_getElem? (i := 21) rfl)) Via.refl e13_ f15_ f14_ (Or.inr ⟨(hw _ (List.mem_of_getElem? (i := 17) rfl)), rfl, hnm⟩) (hw _ (List.mem_of_getElem? (i := 1) rfl)) (ty := .byte) (v' := (.int (0 : Int32))) (by decide) rfl rfl (g := (mkF m 23 #[.val (.ref x1), .val (.ref c1), .val (.int (0 : Int32)), .val (.int (0 : Int32)), .val .null, .unset] [(.int (0 : Int32)), (.ref x1)])) rfl rfl (hb hby d2_23)
  have ch18_ : CHv Z consts_1 T11_.vm h16_ := CHv.wr W16_ f17_ ch11_
  have cr19_ := cr12_.trans (CHr.wr W16_ f17_ ch11_)
  have w16_ : Fld Z h16_ x1 "java/lang/String" "coder" "B" (.int (0 : Int32)) := f15_.same W16_
  have N16_ := Fr.snoc X16_ N7_ g1
  have f20_ : Exa Z h16_ x1 "java/lang/String" := (f14_.wr W16_)
  have f21_ : Fld Z h16_ x1 "java/lang/String" "value" "[B" (.ref c2_d) := ((w7_.keep K11_ nin0).other W16_ (Or.inr (slot_ne (Or.inr (hw _ (List.mem_of_getElem? (i := 16) rfl))) (Or.inr (hw _ (List.mem_of_getElem? (i := 17) rfl))) (by decide) (t := (.array .byte)) (t' := .byte) (by decide) (by decide))))
  have f22_ : own_Str Z h16_ c2_ c2_d ([] : List Int32) := (((str2_.other W7_ (Ne.symm (ls2_ _ f8_).1) (Ne.symm (ls2_ _ f8_).2)).keep K11_ nin0 nin0).other W16_ (Ne.symm (ls2_ _ f8_).1) (Ne.symm (ls2_ _ f8_).2))
  have str_ : own_Str Z h16_ x1 c2_d ([] : List Int32) := ⟨f20_, w16_, f21_, f22_.2.2.2⟩
  have k23_ : Keep h0 h2_ [x1] := (Keep.refl h0 [x1]).trans K2_ all0
  have k24_ : Keep h0 h7_ [x1] := k23_.wr W7_ (Or.inl (List.mem_of_getElem? (i := 0) rfl))
  have k25_ : Keep h0 h11_ [x1] := k24_.trans K11_ all0
  have k26_ : Keep h0 h16_ [x1] := k25_.wr W16_ (Or.inl (List.mem_of_getElem? (i := 0) rfl))
  obtain ⟨fs, hr, hrun, hended, hREW⟩ := X16_.leaveW hS11_ (Nat.le_trans (Nat.le_trans hk11_ (Keep.of_wr W16_).1) (Nat.le_of_eq (congrArg Array.size e16_.symm))) (v := none) (fun h => by first | rfl | (rw [Bd.returns] at h; cases h))
  refine ⟨_, _, pre0 _ ?_, hrun, hended, _, _, rfl, ?_, ?_, own_REW hREW (by exact Nat.le_of_ble_eq_true rfl) (by exact Nat.le_of_ble_eq_true rfl)⟩
  · show Steps p.tables e below (s₁.setTop (mkF m 0 #[.val (.ref x1), .val (.ref c1), .val (.int (0 : Int32)), .val (.int (0 : Int32)), .val .null, .unset] [])) _
    refine XS.aloadN X0.here hx rfl (hb hby d2_0) rfl rfl ?_
    refine st1_ _ ?_
    show Steps p.tables e below (T1_.setTop (mkF m 4 #[.val (.ref x1), .val (.ref c1), .val (.int (0 : Int32)), .val (.int (0 : Int32)), .val .null, .unset] [])) _
    refine XS.iloadN X1_.here hx rfl (hb hby d2_4) rfl ?_
    refine XS.ifNo X1_.here hx rfl (hb hby d2_5) rfl ((if0 _ _).trans (teq ((by decide) : (0 : Int32) = (0 : Int32))).2) ?_
    show Steps p.tables e below (T1_.setTop (mkF m 8 #[.val (.ref x1), .val (.ref c1), .val (.int (0 : Int32)), .val (.int (0 : Int32)), .val .null, .unset] [])) _
    refine XS.aloadN X1_.here hx rfl (hb hby d2_8) rfl rfl ?_
    refine st2_ _ ?_
    show Steps p.tables e below (T2_.setTop (mkF m 11 #[.val (.ref x1), .val (.ref c1), .val (.int (0 : Int32)), .val (.int (0 : Int32)), .val .null, .unset] [(.ref c2_), (.ref x1)])) _
    refine st4_ _ ?_
    show Steps p.tables e below (T4_.setTop (mkF m 14 #[.val (.ref x1), .val (.ref c1), .val (.int (0 : Int32)), .val (.int (0 : Int32)), .val .null, .unset] [(.ref c2_d), (.ref x1)])) _
    refine st7_ _ ?_
    show Steps p.tables e below (T7_.setTop (mkF m 17 #[.val (.ref x1), .val (.ref c1), .val (.int (0 : Int32)), .val (.int (0 : Int32)), .val .null, .unset] [])) _
    refine XS.aloadN X7_.here hx rfl (hb hby d2_17) rfl rfl ?_
    refine st11_ _ ?_
    show Steps p.tables e below (T11_.setTop (mkF m 20 #[.val (.ref x1), .val (.ref c1), .val (.int (0 : Int32)), .val (.int (0 : Int32)), .val .null, .unset] [(.ref c11_), (.ref x1)])) _
    refine st13_ _ ?_
    show Steps p.tables e below (T13_.setTop (mkF m 23 #[.val (.ref x1), .val (.ref c1), .val (.int (0 : Int32)), .val (.int (0 : Int32)), .val .null, .unset] [(.int (0 : Int32)), (.ref x1)])) _
    refine st16_ _ ?_
    show Steps p.tables e below (T16_.setTop (mkF m 26 #[.val (.ref x1), .val (.ref c1), .val (.int (0 : Int32)), .val (.int (0 : Int32)), .val .null, .unset] [])) _
    exact X16_.returnOut hx Bd.returns (hb hby d2_26) hr
  · show Q_emA Z x1 c1 h0 n0 _ T16_.heap _
    rw [e16_]
    exact ⟨c2_d, rfl, N16_, k26_, str_⟩
  · show CHr Z consts_1 s.vm s.heap T16_.vm T16_.heap
    rw [hh]
    rw [e16_]
    exact cr19_.trans (CHv.at X16_ hZ11_ hEL ch18_)
theorem d1_0 : decode jdk_42_method_3_code 0 = .ok (.aload_n 0, 1) := by decide +kernel
theorem d1_1 : decode jdk_42_method_3_code 1 = .ok (.aload_n 1, 1) := by decide +kernel
theorem d1_2 : decode jdk_42_method_3_code 2 = .ok (.iconst 0, 1) := by decide +kernel
theorem d1_3 : decode jdk_42_method_3_code 3 = .ok (.aload_n 1, 1) := by decide +kernel
theorem d1_4 : decode jdk_42_method_3_code 4 = .ok (.arraylength, 1) := by decide +kernel
theorem d1_5 : decode jdk_42_method_3_code 5 = .ok (.aconst_null, 1) := by decide +kernel
theorem d1_6 : decode jdk_42_method_3_code 6 = .ok (.invokespecial 27, 3) := by decide +kernel
theorem pd_qaCIILjava_lang_VoidzV : parseMethodDescriptor "([CIILjava/lang/Void;)V" = some ⟨[(.array .char), .int, .int, (.object "java/lang/Void")], none⟩ := by decide +kernel
theorem d1_9 : decode jdk_42_method_3_code 9 = .ok (.return_, 1) := by decide +kernel
theorem ef_emB (m : MethodId) (x0 : Addr) (x1 : Addr) : entryFrame m #[(.ref x0), (.ref x1)] 2 = mkF m 0 #[.val (.ref x0), .val (.ref x1)] [] := by first | (simp [entryFrame, mkF, argsToLocals, Value.category]; done) | rfl
def Q_emB (Z : State) (x1 : Addr) (c1 : Addr) (kc : ClassId) (h0 : Heap) (n0 : Nat) (v : Option Value) (h : Heap) (L : List Loc) : Prop := ∃ (t1 : Addr), v = none ∧ Fr n0 L ∧ Keep h0 h [x1] ∧ (own_Str Z h x1 t1 ([] : List Int32))
set_option maxRecDepth 65536 in
set_option maxHeartbeats 40000000 in
theorem emB (l : Launch) (Z : State) (a0 : Array Value) (hw : ∀ d ∈ tables_1, d.before a0 Z = true) (hEL : EW Z a0 consts_1) (ws : List Jvm.Cond) (x1 : Addr) (c1 : Addr) (kc : ClassId) (h0 : Heap) (n0 : Nat) (Z0 : n0 ≤ h0.size) (E1 : Exa Z h0 x1 "java/lang/String") (X1 : Fld Z h0 x1 "java/lang/String" "coder" "B" (.int (0 : Int32))) (X2 : Fld Z h0 x1 "java/lang/String" "value" "[B" .null) (g1 : n0 ≤ x1) (V1 : Arv Z h0 c1 kc .char (0 : Int32) [] (.int (0 : Int32))) :
    MetFree l (⟨"java/lang/String", "<init>", "([C)V"⟩ : MethodName) (head1 (Jvm.Cond.code (⟨"java/lang/String", "<init>", "([C)V"⟩ : MethodName) jdk_42_method_3_code 2 none :: ws) ({ frames := 2, cells := 4, slots := 8, locals := 29 } : Room)) (fun a U => a = #[(.ref x1), (.ref c1)] ∧ Z.Warmed39 U.vm ∧ U.heap = h0 ∧ CHv Z consts_1 U.vm h0) (fun _ _ _ _ _ => True) (fun _ U o U' => ∃ v L, o = .returned v ∧ Q_emB Z x1 c1 kc h0 n0 v U'.heap L ∧ CHr Z consts_1 U.vm U.heap U'.vm U'.heap ∧ ReturnedEndW U o U' L ({ frames := 2, cells := 4, slots := 8, locals := 29 } : Room).cells ({ frames := 2, cells := 4, slots := 8, locals := 29 } : Room).slots) := by
  refine MetFree.of_bodySF (plainFor_of_name pn_java_lang_String) hisR ?_
  intro p e s m args below meth c s₁ Bd hml0 hP hK
  obtain ⟨rfl, hZ, hh, H0'⟩ := hP
  have hx := Bd.exec
  have hby := Bd.bytes
  have hml : c.maxLocals = 2 := hml0
  have hown : s.vm.findClass "java/lang/String" = some m.cls := findClass_of_methodNamed Bd.named
  have hnm := (name_of_methodNamed Bd.named Bd.method).1
  have X0 : Stand p l e ({ frames := 2, cells := 4, slots := 8, locals := 29 } : Room) (s.setVm s.vm) m #[(.ref x1), (.ref c1)] below meth c s₁ [] 0 0 := Stand.of_body Bd
  have e0 : s₁.heap = h0 := by rw [← hh, Bd.state]; rfl
  have N0 := Fr.nil n0
  have hS0 : s.Since s.vm h0.size := own_since0 s _
  have hk0 : h0.size ≤ h0.size := Nat.le_refl _
  have H0 : CHv Z consts_1 s.vm h0 := H0'
  have wS : ∀ a ∈ Bundle.stringAtoms, a.before a0 Z = true := fun a ha => hw a ((by decide +kernel : ∀ a ∈ Bundle.stringAtoms, a ∈ tables_1) a ha)
  have pre0 : ∀ t, Steps p.tables e below (s₁.setTop (mkF m 0 #[.val (.ref x1), .val (.ref c1)] [])) t → Steps p.tables e below (s₁.setTop (entryFrame m #[(.ref x1), (.ref c1)] 2)) t := fun t k => castTop (ef_emB m x1 c1) k
  have sf_ : Safe Z consts_1 s.vm h0 x1 := own_safe0 (State.Warmed39.alike hZ) E1 X2
  obtain ⟨cl1_, Ar1_, q1_, S1_, M1_, Hs1_, G1_⟩ := id V1
  obtain ⟨_, _, ⟨T2_, L2_, k2_, n2_⟩, -, Xs2_, Ss2_, Sg2_, ⟨Lc2_, hQ2_, l2_, y2_, z2_, chr2_⟩, st2_⟩ := X0.specialBackS hx (y := (⟨"java/lang/String", "<init>", "([CIILjava/lang/Void;)V"⟩ : MethodName)) rfl hown (mvT hZ (hw _ (List.mem_of_getElem? (i := 7) rfl))) (mvT hZ (hw _ (List.mem_of_getElem? (i := 8) rfl))) (mvT hZ (hw _ (List.mem_of_getElem? (i := 10) rfl))) (by decide) (backOfSH (W := 0) (emA l Z a0 hw hEL [] x1 c1 h0 n0 Z0 E1 X1 X2 g1) hZ (hw _ (List.mem_of_getElem? (i := 10) rfl)) (hw _ (List.mem_of_getElem? (i := 2) rfl)) (by decide) (by decide) hEL H0) (g := (mkF m 6 #[.val (.ref x1), .val (.ref c1)] [.null, (.int (0 : Int32)), (.int (0 : Int32)), (.ref c1), (.ref x1)])) rfl (by rw [hml]; rfl) (Steps.refl _) (a := x1) (argsL := [(.ref c1), (.int (0 : Int32)), (.int (0 : Int32)), .null]) (rest := []) (lenOf pd_qaCIILjava_lang_VoidzV rfl) rfl (by show 2 * 0 + _ ≤ _; exact Nat.le_of_eq rfl) (hb hby d1_6) (fun _ _ => ⟨rfl, e0, (by exact Nat.le_of_ble_eq_true rfl), (by exact Nat.le_of_ble_eq_true rfl)⟩)
  dsimp only [Pt.U, Pt.locs, Pt.cells, Pt.slots] at Xs2_ Ss2_ Sg2_ l2_ y2_ z2_ st2_ hQ2_ chr2_
  subst L2_ k2_ n2_
  obtain ⟨X2_, hS2_, hZ2_, hown2_⟩ := rebS hS0 hk0 Xs2_ Ss2_ (Nat.le_trans (Nat.le_of_eq (congrArg Array.size e0.symm)) Sg2_) hZ hown
  obtain ⟨t1_2_, rfl, Nq2_, ek2_, p2__0⟩ := hQ2_
  have N2_ := Fr.app N0 Nq2_
  have cr3_ := (CHr.refl H0).trans chr2_
  have ch2_ := chr2_.1
  have k4_ : Keep h0 T2_.heap [x1] := (Keep.refl h0 [x1]).trans ek2_ (allS (Or.inl (List.mem_of_getElem? (i := 0) rfl)) all0)
  obtain ⟨fs, hr, hrun, hended, hREW⟩ := X2_.leaveW hS2_ (Nat.le_trans (Nat.le_refl _) (Nat.le_of_eq (congrArg Array.size (rfl : T2_.heap = _).symm))) (v := none) (fun h => by first | rfl | (rw [Bd.returns] at h; cases h))
  refine ⟨_, _, pre0 _ ?_, hrun, hended, _, _, rfl, ?_, ?_, own_REW hREW (by exact Nat.le_of_ble_eq_true rfl) (by exact Nat.le_of_ble_eq_true rfl)⟩
  · show Steps p.tables e below (s₁.setTop (mkF m 0 #[.val (.ref x1), .val (.ref c1)] [])) _
    refine XS.aloadN X0.here hx rfl (hb hby d1_0) rfl rfl ?_
    refine XS.aloadN X0.here hx rfl (hb hby d1_1) rfl rfl ?_
    refine XS.iconst X0.here hx rfl (hb hby d1_2) ?_
    refine XS.aloadN X0.here hx rfl (hb hby d1_3) rfl rfl ?_
    refine X0.arraylength hx (by rw [e0]; exact Ar1_.1) (State.isArrayOf_alike (State.Warmed39.alike hZ) Ar1_.2.1) (g := (mkF m 4 #[.val (.ref x1), .val (.ref c1)] [(.ref c1), (.int (0 : Int32)), (.ref c1), (.ref x1)])) rfl rfl (hb hby d1_4) _ ?_
    rw [len_of S1_ M1_]
    show Steps p.tables e below (s₁.setTop (mkF m 5 #[.val (.ref x1), .val (.ref c1)] [(.int (0 : Int32)), (.int (0 : Int32)), (.ref c1), (.ref x1)])) _
    refine XS.aconstNull X0.here hx rfl (hb hby d1_5) ?_
    show Steps p.tables e below (s₁.setTop (mkF m 6 #[.val (.ref x1), .val (.ref c1)] [.null, (.int (0 : Int32)), (.int (0 : Int32)), (.ref c1), (.ref x1)])) _
    refine st2_.trans ?_
    show Steps p.tables e below (T2_.setTop (mkF m 9 #[.val (.ref x1), .val (.ref c1)] [])) _
    exact X2_.returnOut hx Bd.returns (hb hby d1_9) hr
  · show Q_emB Z x1 c1 kc h0 n0 _ T2_.heap _
    skip
    exact ⟨t1_2_, rfl, N2_, k4_, p2__0⟩
  · show CHr Z consts_1 s.vm s.heap T2_.vm T2_.heap
    rw [hh]
    exact cr3_.trans (CHv.at X2_ hZ2_ hEL ch2_)
theorem own_win : ∀ d ∈ own_ws "com/example/hyacinth/hyacinth/error/BeanDefinitionStoreException", d ∈ tables_1 := by decide +kernel
theorem d34_0 : decode jdk_78_method_2_code 0 = .ok (.aload_n 0, 1) := by decide +kernel
theorem d34_1 : decode jdk_78_method_2_code 1 = .ok (.invokespecial 1, 3) := by decide +kernel
theorem d34_4 : decode jdk_78_method_2_code 4 = .ok (.aload_n 0, 1) := by decide +kernel
theorem d34_5 : decode jdk_78_method_2_code 5 = .ok (.aload_n 0, 1) := by decide +kernel
theorem d34_6 : decode jdk_78_method_2_code 6 = .ok (.putfield 7, 3) := by decide +kernel
theorem d34_9 : decode jdk_78_method_2_code 9 = .ok (.aload_n 0, 1) := by decide +kernel
theorem d34_10 : decode jdk_78_method_2_code 10 = .ok (.getstatic 13, 3) := by decide +kernel
theorem d34_13 : decode jdk_78_method_2_code 13 = .ok (.putfield 17, 3) := by decide +kernel
theorem d34_16 : decode jdk_78_method_2_code 16 = .ok (.aload_n 0, 1) := by decide +kernel
theorem d34_17 : decode jdk_78_method_2_code 17 = .ok (.getstatic 20, 3) := by decide +kernel
theorem d34_20 : decode jdk_78_method_2_code 20 = .ok (.putfield 24, 3) := by decide +kernel
theorem d34_23 : decode jdk_78_method_2_code 23 = .ok (.aload_n 0, 1) := by decide +kernel
theorem d34_24 : decode jdk_78_method_2_code 24 = .ok (.invokevirtual 27, 3) := by decide +kernel
theorem pd_qzLjava_lang_Throwable : parseMethodDescriptor "()Ljava/lang/Throwable;" = some ⟨[], some (.object "java/lang/Throwable")⟩ := by decide +kernel
theorem d34_27 : decode jdk_78_method_2_code 27 = .ok (.pop, 1) := by decide +kernel
theorem d34_28 : decode jdk_78_method_2_code 28 = .ok (.aload_n 0, 1) := by decide +kernel
theorem d34_29 : decode jdk_78_method_2_code 29 = .ok (.aload_n 1, 1) := by decide +kernel
theorem d34_30 : decode jdk_78_method_2_code 30 = .ok (.putfield 31, 3) := by decide +kernel
theorem d34_33 : decode jdk_78_method_2_code 33 = .ok (.return_, 1) := by decide +kernel
theorem pn_java_lang_Throwable : plainName "java/lang/Throwable" = true := by first | (simp [plainName, overriddenIn]; done) | decide +kernel
theorem ef_exT (m : MethodId) (x0 : Addr) (x1 : Addr) : entryFrame m #[(.ref x0), (.ref x1)] 2 = mkF m 0 #[.val (.ref x0), .val (.ref x1)] [] := by first | (simp [entryFrame, mkF, argsToLocals, Value.category]; done) | rfl
def Q_exT (Z : State) (a1 : Addr) (x1 : Addr) (vU : Value) (vS : Value) (h0 : Heap) (n0 : Nat) (v : Option Value) (h : Heap) (L : List Loc) : Prop := v = none ∧ Fr n0 L ∧ Keep h0 h [a1] ∧ (Exa Z h a1 "com/example/hyacinth/hyacinth/error/BeanDefinitionStoreException") ∧ (Unt h a1) ∧ (Fld Z h a1 "java/lang/Throwable" "detailMessage" "Ljava/lang/String;" (.ref x1)) ∧ (Fld Z h a1 "java/lang/Throwable" "cause" "Ljava/lang/Throwable;" (.ref a1))
set_option maxRecDepth 65536 in
set_option maxHeartbeats 40000000 in
theorem exT (l : Launch) (Z : State) (a0 : Array Value) (hw : ∀ d ∈ tables_1, d.before a0 Z = true) (ws : List Jvm.Cond) (a1 : Addr) (x1 : Addr) (vU : Value) (vS : Value) (h0 : Heap) (n0 : Nat) (Z0 : n0 ≤ h0.size) (E1 : Exa Z h0 a1 "com/example/hyacinth/hyacinth/error/BeanDefinitionStoreException") (U1 : Unt h0 a1) (Nu0 : Fld Z h0 a1 "java/lang/Throwable" "cause" "Ljava/lang/Throwable;" .null) (Nu1 : Fld Z h0 a1 "java/lang/Throwable" "stackTrace" "[Ljava/lang/StackTraceElement;" .null) (Nu2 : Fld Z h0 a1 "java/lang/Throwable" "suppressedExceptions" "Ljava/util/List;" .null) (Nu3 : Fld Z h0 a1 "java/lang/Throwable" "backtrace" "Ljava/lang/Object;" .null) (Nu4 : Fld Z h0 a1 "java/lang/Throwable" "detailMessage" "Ljava/lang/String;" .null) (g1 : n0 ≤ a1) (TU : Sta Z Z.heap "java/lang/Throwable" "UNASSIGNED_STACK" "[Ljava/lang/StackTraceElement;" vU) (rU : vU.isRef = true) (TS : Sta Z Z.heap "java/lang/Throwable" "SUPPRESSED_SENTINEL" "Ljava/util/List;" vS) (rS : vS.isRef = true) (O1 : Old Z n0 h0) (hl : l.stackTraces = true) :
    MetFree l (⟨"java/lang/Throwable", "<init>", "(Ljava/lang/String;)V"⟩ : MethodName) (head1 (Jvm.Cond.code (⟨"java/lang/Throwable", "<init>", "(Ljava/lang/String;)V"⟩ : MethodName) jdk_78_method_2_code 2 none :: ws) ({ frames := 3, cells := 1, slots := 2752, locals := 42 } : Room)) (fun a U => a = #[(.ref a1), (.ref x1)] ∧ Z.Warmed39 U.vm ∧ U.heap = h0) (fun _ _ bl s _ => s.vm.MethodsKnown ∧ s.vm.FramesKnown bl) (fun _ U o U' => ∃ v L, o = .returned v ∧ Q_exT Z a1 x1 vU vS h0 n0 v U'.heap L ∧ FrameEnd U o U' L ({ frames := 3, cells := 1, slots := 2752, locals := 42 } : Room).cells ({ frames := 3, cells := 1, slots := 2752, locals := 42 } : Room).slots) := by
  refine MetFree.of_bodySF (plainFor_of_name pn_java_lang_Throwable) hisR ?_
  intro p e s m args below meth c s₁ Bd hml0 hP hK
  obtain ⟨rfl, hZ, hh⟩ := hP
  have hx := Bd.exec
  have hby := Bd.bytes
  have hml : c.maxLocals = 2 := hml0
  have hown : s.vm.findClass "java/lang/Throwable" = some m.cls := findClass_of_methodNamed Bd.named
  have hnm := (name_of_methodNamed Bd.named Bd.method).1
  have X0 : Stand p l e ({ frames := 3, cells := 1, slots := 2752, locals := 42 } : Room) s m #[(.ref a1), (.ref x1)] below meth c s₁ [] 0 0 := Stand.of_body Bd
  have e0 : s₁.heap = h0 := by rw [← hh, Bd.state]; rfl
  have N0 := Fr.nil n0
  have pre0 : ∀ t, Steps p.tables e below (s₁.setTop (mkF m 0 #[.val (.ref a1), .val (.ref x1)] [])) t → Steps p.tables e below (s₁.setTop (entryFrame m #[(.ref a1), (.ref x1)] 2)) t := fun t k => castTop (ef_exT m a1 x1) k
  obtain ⟨T1_, X1_, e1_, st1_⟩ := initO X0 hx hZ hown (hw _ (List.mem_of_getElem? (i := 183) rfl)) (hw _ (List.mem_of_getElem? (i := 12) rfl)) (hw _ (List.mem_of_getElem? (i := 13) rfl)) e0 (g := (mkF m 1 #[.val (.ref a1), .val (.ref x1)] [(.ref a1)])) rfl (by rw [hml]; rfl) rfl (hb hby d34_1) (by decide) (W := 0) (by show 2 * 0 + _ ≤ _; exact Nat.le_of_eq rfl) (by decide)
  obtain ⟨T2_, h2_, X2_, e2_, W2_, st2_⟩ := putF X1_ hx hZ hown (host := "") (Or.inl (hw _ (List.mem_of_getElem? (i := 184) rfl))) Via.refl e1_ Nu0 E1 (Or.inl (hw _ (List.mem_of_getElem? (i := 185) rfl))) (hw _ (List.mem_of_getElem? (i := 27) rfl)) (ty := (.object "java/lang/Throwable")) (by decide) rfl rfl (g := (mkF m 6 #[.val (.ref a1), .val (.ref x1)] [(.ref a1), (.ref a1)])) rfl rfl (hb hby d34_6)
  have w2_ : Fld Z h2_ a1 "java/lang/Throwable" "cause" "Ljava/lang/Throwable;" (.ref a1) := Nu0.same W2_
  have N2_ := Fr.snoc X2_ N0 g1
  have f4_ : Old Z n0 h2_ := (O1.wr W2_ g1)
  obtain ⟨T3_, X3_, e3_, st3_⟩ := getS2 X2_ hx hZ hown (host := "") (Or.inl (hw _ (List.mem_of_getElem? (i := 186) rfl))) Via.refl e2_ (TU.ext f4_.2) (g := (mkF m 10 #[.val (.ref a1), .val (.ref x1)] [(.ref a1)])) rfl (hb hby d34_10)
  have f5_ : Exa Z h2_ a1 "com/example/hyacinth/hyacinth/error/BeanDefinitionStoreException" := (E1.wr W2_)
  have f6_ : Fld Z h2_ a1 "java/lang/Throwable" "stackTrace" "[Ljava/lang/StackTraceElement;" .null := (Nu1.other W2_ (Or.inr (slot_ne (Or.inl (hw _ (List.mem_of_getElem? (i := 188) rfl))) (Or.inl (hw _ (List.mem_of_getElem? (i := 185) rfl))) (by decide) (t := (.array (.object "java/lang/StackTraceElement"))) (t' := (.object "java/lang/Throwable")) (by decide) (by decide))))
  obtain ⟨T7_, h7_, X7_, e7_, W7_, st7_⟩ := putF X3_ hx hZ hown (host := "") (Or.inl (hw _ (List.mem_of_getElem? (i := 187) rfl))) Via.refl e3_ f6_ f5_ (Or.inl (hw _ (List.mem_of_getElem? (i := 188) rfl))) (hw _ (List.mem_of_getElem? (i := 27) rfl)) (ty := (.array (.object "java/lang/StackTraceElement"))) (by decide) (narrow_refV _ ⟨vU, rU⟩) (fits_refV_array _ ⟨vU, rU⟩) (g := (mkF m 13 #[.val (.ref a1), .val (.ref x1)] [vU, (.ref a1)])) rfl rfl (hb hby d34_13)
  have w7_ : Fld Z h7_ a1 "java/lang/Throwable" "stackTrace" "[Ljava/lang/StackTraceElement;" vU := f6_.same W7_
  have N7_ := Fr.snoc X7_ N2_ g1
  have f9_ : Old Z n0 h7_ := (f4_.wr W7_ g1)
  obtain ⟨T8_, X8_, e8_, st8_⟩ := getS2 X7_ hx hZ hown (host := "") (Or.inl (hw _ (List.mem_of_getElem? (i := 189) rfl))) Via.refl e7_ (TS.ext f9_.2) (g := (mkF m 17 #[.val (.ref a1), .val (.ref x1)] [(.ref a1)])) rfl (hb hby d34_17)
  have f10_ : Exa Z h7_ a1 "com/example/hyacinth/hyacinth/error/BeanDefinitionStoreException" := (f5_.wr W7_)
  have f11_ : Fld Z h7_ a1 "java/lang/Throwable" "suppressedExceptions" "Ljava/util/List;" .null := ((Nu2.other W2_ (Or.inr (slot_ne (Or.inl (hw _ (List.mem_of_getElem? (i := 191) rfl))) (Or.inl (hw _ (List.mem_of_getElem? (i := 185) rfl))) (by decide) (t := (.object "java/util/List")) (t' := (.object "java/lang/Throwable")) (by decide) (by decide)))).other W7_ (Or.inr (slot_ne (Or.inl (hw _ (List.mem_of_getElem? (i := 191) rfl))) (Or.inl (hw _ (List.mem_of_getElem? (i := 188) rfl))) (by decide) (t := (.object "java/util/List")) (t' := (.array (.object "java/lang/StackTraceElement"))) (by decide) (by decide))))
  obtain ⟨T12_, h12_, X12_, e12_, W12_, st12_⟩ := putF X8_ hx hZ hown (host := "") (Or.inl (hw _ (List.mem_of_getElem? (i := 190) rfl))) Via.refl e8_ f11_ f10_ (Or.inl (hw _ (List.mem_of_getElem? (i := 191) rfl))) (hw _ (List.mem_of_getElem? (i := 27) rfl)) (ty := (.object "java/util/List")) (by decide) (narrow_refV _ ⟨vS, rS⟩) (fits_refV_object _ ⟨vS, rS⟩) (g := (mkF m 20 #[.val (.ref a1), .val (.ref x1)] [vS, (.ref a1)])) rfl rfl (hb hby d34_20)
  have w12_ : Fld Z h12_ a1 "java/lang/Throwable" "suppressedExceptions" "Ljava/util/List;" vS := f11_.same W12_
  have N12_ := Fr.snoc X12_ N7_ g1
  have f15_ : Fld Z h12_ a1 "java/lang/Throwable" "cause" "Ljava/lang/Throwable;" (.ref a1) := ((w2_.other W7_ (Or.inr (slot_ne (Or.inl (hw _ (List.mem_of_getElem? (i := 185) rfl))) (Or.inl (hw _ (List.mem_of_getElem? (i := 188) rfl))) (by decide) (t := (.object "java/lang/Throwable")) (t' := (.array (.object "java/lang/StackTraceElement"))) (by decide) (by decide)))).other W12_ (Or.inr (slot_ne (Or.inl (hw _ (List.mem_of_getElem? (i := 185) rfl))) (Or.inl (hw _ (List.mem_of_getElem? (i := 191) rfl))) (by decide) (t := (.object "java/lang/Throwable")) (t' := (.object "java/util/List")) (by decide) (by decide))))
  have f16_ : Fld Z h12_ a1 "java/lang/Throwable" "detailMessage" "Ljava/lang/String;" .null := (((Nu4.other W2_ (Or.inr (slot_ne (Or.inl (hw _ (List.mem_of_getElem? (i := 215) rfl))) (Or.inl (hw _ (List.mem_of_getElem? (i := 185) rfl))) (by decide) (t := (.object "java/lang/String")) (t' := (.object "java/lang/Throwable")) (by decide) (by decide)))).other W7_ (Or.inr (slot_ne (Or.inl (hw _ (List.mem_of_getElem? (i := 215) rfl))) (Or.inl (hw _ (List.mem_of_getElem? (i := 188) rfl))) (by decide) (t := (.object "java/lang/String")) (t' := (.array (.object "java/lang/StackTraceElement"))) (by decide) (by decide)))).other W12_ (Or.inr (slot_ne (Or.inl (hw _ (List.mem_of_getElem? (i := 215) rfl))) (Or.inl (hw _ (List.mem_of_getElem? (i := 191) rfl))) (by decide) (t := (.object "java/lang/String")) (t' := (.object "java/util/List")) (by decide) (by decide))))
  have f17_ : Exa Z h12_ a1 "com/example/hyacinth/hyacinth/error/BeanDefinitionStoreException" := (f10_.wr W12_)
  obtain ⟨cq14_, kq14_, qa14_, qb14_, qc14_⟩ := isOf hZ e12_ f17_
  have hTs_ : ThS Z s.heap := by rw [hh]; exact ThS.ext O1.2 ThS.start
  have f18_ : Unt h12_ a1 := (Unt.wr W12_ (Unt.wr W7_ (Unt.wr W2_ U1)))
  have f19_ : Fld Z h12_ a1 "java/lang/Throwable" "stackTrace" "[Ljava/lang/StackTraceElement;" vU := (w7_.other W12_ (Or.inr (slot_ne (Or.inl (hw _ (List.mem_of_getElem? (i := 188) rfl))) (Or.inl (hw _ (List.mem_of_getElem? (i := 191) rfl))) (by decide) (t := (.array (.object "java/lang/StackTraceElement"))) (t' := (.object "java/util/List")) (by decide) (by decide))))
  have f20_ : Fld Z h12_ a1 "java/lang/Throwable" "backtrace" "Ljava/lang/Object;" .null := (((Nu3.other W2_ (Or.inr (slot_ne (Or.inl (hw _ (List.mem_of_getElem? (i := 216) rfl))) (Or.inl (hw _ (List.mem_of_getElem? (i := 185) rfl))) (by decide) (t := (.object "java/lang/Object")) (t' := (.object "java/lang/Throwable")) (by decide) (by decide)))).other W7_ (Or.inr (slot_ne (Or.inl (hw _ (List.mem_of_getElem? (i := 216) rfl))) (Or.inl (hw _ (List.mem_of_getElem? (i := 188) rfl))) (by decide) (t := (.object "java/lang/Object")) (t' := (.array (.object "java/lang/StackTraceElement"))) (by decide) (by decide)))).other W12_ (Or.inr (slot_ne (Or.inl (hw _ (List.mem_of_getElem? (i := 216) rfl))) (Or.inl (hw _ (List.mem_of_getElem? (i := 191) rfl))) (by decide) (t := (.object "java/lang/Object")) (t' := (.object "java/util/List")) (by decide) (by decide))))
  have f21_ : Old Z n0 h12_ := (f9_.wr W12_ g1)
  obtain ⟨_, _, ⟨T13_, L13_, k13_, n13_⟩, -, Xr13_, ⟨rfl, F13_, Lc13_, m13_, hm13_, hL13_, l13_, y13_, z13_⟩, st13_⟩ := X12_.virtualBack hx (y := (⟨"java/lang/Throwable", "fillInStackTrace", "()Ljava/lang/Throwable;"⟩ : MethodName)) (z := (⟨"java/lang/Throwable", "fillInStackTrace", "()Ljava/lang/Throwable;"⟩ : MethodName)) hown (mvT hZ (hw _ (List.mem_of_getElem? (i := 192) rfl))) (mvT hZ (hw _ (List.mem_of_getElem? (i := 193) rfl))) (notFace_of_selects (args := #[]) (mvT hZ (hw _ (List.mem_of_getElem? (i := 195) rfl)))) (mvT hZ (hw _ (List.mem_of_getElem? (i := 195) rfl))) (mvT hZ (hw _ (List.mem_of_getElem? (i := 194) rfl))) (by decide) (own_fillB (W := 0) (rc := "com/example/hyacinth/hyacinth/error/BeanDefinitionStoreException") hx X12_.admits hl hZ (fun d hd => mvX hTs_ hZ (List.all_eq_true.mp (own_ws_ok "com/example/hyacinth/hyacinth/error/BeanDefinitionStoreException") d hd) (hw d (own_win d hd))) (hw _ (List.mem_of_getElem? (i := 27) rfl)) f17_ f18_ f19_ rU f20_ (TU.ext f21_.2) (Vm.MethodsKnown.alikeC ((State.Warmed39.alike hZ).symm.trans (State.Warmed39.alike hZ)) hK.1) (Vm.FramesKnown.alikeC ((State.Warmed39.alike hZ).symm.trans (State.Warmed39.alike hZ)) hK.2) (by decide) (by decide)) qa14_ qc14_ (g := (mkF m 24 #[.val (.ref a1), .val (.ref x1)] [(.ref a1)])) rfl (by rw [hml]; rfl) (Steps.refl _) (argsL := []) (rest := []) (lenOf pd_qzLjava_lang_Throwable rfl) rfl (by show 2 * 0 + _ ≤ _; exact Nat.le_of_eq rfl) (hb hby d34_24) (fun _ _ => ⟨rfl, e12_, (by exact Nat.le_of_ble_eq_true rfl), (by exact Nat.le_of_ble_eq_true rfl)⟩)
  dsimp only [Pt.U, Pt.locs, Pt.cells, Pt.slots] at Xr13_ F13_ l13_ y13_ z13_ st13_
  subst L13_ k13_ n13_
  have X13_ := Xr13_.more (Nat.le_refl _) (Nat.add_le_add_left hm13_ _)
  have N13_ := Fr.app N12_ (fun y hy => by rw [hL13_ y hy]; exact g1)
  have f22_ : Fld Z T13_.heap a1 "java/lang/Throwable" "cause" "Ljava/lang/Throwable;" (.ref a1) := own_F.fld F13_ f15_ (slot_ne (Or.inl (hw _ (List.mem_of_getElem? (i := 185) rfl))) (Or.inl (hw _ (List.mem_of_getElem? (i := 216) rfl))) (by decide) (t := (.object "java/lang/Throwable")) (t' := (.object "java/lang/Object")) (by decide) (by decide)) (slot_ne (Or.inl (hw _ (List.mem_of_getElem? (i := 185) rfl))) (Or.inl (hw _ (List.mem_of_getElem? (i := 217) rfl))) (by decide) (t := (.object "java/lang/Throwable")) (t' := .int) (by decide) (by decide)) (slot_ne (Or.inl (hw _ (List.mem_of_getElem? (i := 185) rfl))) (Or.inl (hw _ (List.mem_of_getElem? (i := 188) rfl))) (by decide) (t := (.object "java/lang/Throwable")) (t' := (.array (.object "java/lang/StackTraceElement"))) (by decide) (by decide))
  have f23_ : Fld Z T13_.heap a1 "java/lang/Throwable" "detailMessage" "Ljava/lang/String;" .null := own_F.fld F13_ f16_ (slot_ne (Or.inl (hw _ (List.mem_of_getElem? (i := 215) rfl))) (Or.inl (hw _ (List.mem_of_getElem? (i := 216) rfl))) (by decide) (t := (.object "java/lang/String")) (t' := (.object "java/lang/Object")) (by decide) (by decide)) (slot_ne (Or.inl (hw _ (List.mem_of_getElem? (i := 215) rfl))) (Or.inl (hw _ (List.mem_of_getElem? (i := 217) rfl))) (by decide) (t := (.object "java/lang/String")) (t' := .int) (by decide) (by decide)) (slot_ne (Or.inl (hw _ (List.mem_of_getElem? (i := 215) rfl))) (Or.inl (hw _ (List.mem_of_getElem? (i := 188) rfl))) (by decide) (t := (.object "java/lang/String")) (t' := (.array (.object "java/lang/StackTraceElement"))) (by decide) (by decide))
  obtain ⟨T24_, h24_, X24_, e24_, W24_, st24_⟩ := putF X13_ hx hZ hown (host := "") (Or.inl (hw _ (List.mem_of_getElem? (i := 219) rfl))) Via.refl rfl f23_ (own_F.exa F13_ f17_) (Or.inl (hw _ (List.mem_of_getElem? (i := 215) rfl))) (hw _ (List.mem_of_getElem? (i := 27) rfl)) (ty := (.object "java/lang/String")) (by decide) rfl rfl (g := (mkF m 30 #[.val (.ref a1), .val (.ref x1)] [(.ref x1), (.ref a1)])) rfl rfl (hb hby d34_30)
  have w24_ : Fld Z h24_ a1 "java/lang/Throwable" "detailMessage" "Ljava/lang/String;" (.ref x1) := f23_.same W24_
  have N24_ := Fr.snoc X24_ N13_ g1
  have f25_ : Exa Z h24_ a1 "com/example/hyacinth/hyacinth/error/BeanDefinitionStoreException" := ((own_F.exa F13_ f17_).wr W24_)
  have f26_ : Fld Z h24_ a1 "java/lang/Throwable" "cause" "Ljava/lang/Throwable;" (.ref a1) := (f22_.other W24_ (Or.inr (slot_ne (Or.inl (hw _ (List.mem_of_getElem? (i := 185) rfl))) (Or.inl (hw _ (List.mem_of_getElem? (i := 215) rfl))) (by decide) (t := (.object "java/lang/Throwable")) (t' := (.object "java/lang/String")) (by decide) (by decide))))
  obtain ⟨fs, hr, hrun, hended, hW, hsame⟩ := X24_.leave (v := none) (fun h => by first | rfl | (rw [Bd.returns] at h; cases h))
  have kE_ : Keep h0 h24_ [a1] := by rw [← hh, ← e24_]; exact (own_end hsame (own_bl hL13_ _ _ _ _)).1
  have uE_ : Unt h24_ a1 := by rw [← e24_]; exact (own_end hsame (own_bl hL13_ _ _ _ _)).2 (by rw [hh]; exact U1)
  refine ⟨_, _, pre0 _ ?_, hrun, hended, _, _, rfl, ?_, ⟨_, rfl⟩, hW, hsame.mono (by exact Nat.le_of_ble_eq_true rfl) (by exact Nat.le_of_ble_eq_true rfl)⟩
  · show Steps p.tables e below (s₁.setTop (mkF m 0 #[.val (.ref a1), .val (.ref x1)] [])) _
    refine XS.aloadN X0.here hx rfl (hb hby d34_0) rfl rfl ?_
    refine st1_ _ ?_
    show Steps p.tables e below (T1_.setTop (mkF m 4 #[.val (.ref a1), .val (.ref x1)] [])) _
    refine XS.aloadN X1_.here hx rfl (hb hby d34_4) rfl rfl ?_
    refine XS.aloadN X1_.here hx rfl (hb hby d34_5) rfl rfl ?_
    refine st2_ _ ?_
    show Steps p.tables e below (T2_.setTop (mkF m 9 #[.val (.ref a1), .val (.ref x1)] [])) _
    refine XS.aloadN X2_.here hx rfl (hb hby d34_9) rfl rfl ?_
    refine st3_ _ ?_
    show Steps p.tables e below (T3_.setTop (mkF m 13 #[.val (.ref a1), .val (.ref x1)] [vU, (.ref a1)])) _
    refine st7_ _ ?_
    show Steps p.tables e below (T7_.setTop (mkF m 16 #[.val (.ref a1), .val (.ref x1)] [])) _
    refine XS.aloadN X7_.here hx rfl (hb hby d34_16) rfl rfl ?_
    refine st8_ _ ?_
    show Steps p.tables e below (T8_.setTop (mkF m 20 #[.val (.ref a1), .val (.ref x1)] [vS, (.ref a1)])) _
    refine st12_ _ ?_
    show Steps p.tables e below (T12_.setTop (mkF m 23 #[.val (.ref a1), .val (.ref x1)] [])) _
    refine XS.aloadN X12_.here hx rfl (hb hby d34_23) rfl rfl ?_
    refine st13_.trans ?_
    show Steps p.tables e below (T13_.setTop (mkF m 27 #[.val (.ref a1), .val (.ref x1)] [(.ref a1)])) _
    refine XS.pop X13_.here hx rfl (hb hby d34_27) rfl rfl ?_
    show Steps p.tables e below (T13_.setTop (mkF m 28 #[.val (.ref a1), .val (.ref x1)] [])) _
    refine XS.aloadN X13_.here hx rfl (hb hby d34_28) rfl rfl ?_
    refine XS.aloadN X13_.here hx rfl (hb hby d34_29) rfl rfl ?_
    refine st24_ _ ?_
    show Steps p.tables e below (T24_.setTop (mkF m 33 #[.val (.ref a1), .val (.ref x1)] [])) _
    exact X24_.returnOut hx Bd.returns (hb hby d34_33) hr
  · show Q_exT Z a1 x1 vU vS h0 n0 _ T24_.heap _
    rw [e24_]
    exact ⟨rfl, N24_, kE_, f25_, uE_, w24_, f26_⟩
theorem d33_0 : decode jdk_59_method_2_code 0 = .ok (.aload_n 0, 1) := by decide +kernel
theorem d33_1 : decode jdk_59_method_2_code 1 = .ok (.aload_n 1, 1) := by decide +kernel
theorem d33_2 : decode jdk_59_method_2_code 2 = .ok (.invokespecial 7, 3) := by decide +kernel
theorem d33_5 : decode jdk_59_method_2_code 5 = .ok (.return_, 1) := by decide +kernel
theorem pn_java_lang_Exception : plainName "java/lang/Exception" = true := by first | (simp [plainName, overriddenIn]; done) | decide +kernel
theorem ef_exException (m : MethodId) (x0 : Addr) (x1 : Addr) : entryFrame m #[(.ref x0), (.ref x1)] 2 = mkF m 0 #[.val (.ref x0), .val (.ref x1)] [] := by first | (simp [entryFrame, mkF, argsToLocals, Value.category]; done) | rfl
def Q_exException (Z : State) (a1 : Addr) (x1 : Addr) (vU : Value) (vS : Value) (h0 : Heap) (n0 : Nat) (v : Option Value) (h : Heap) (L : List Loc) : Prop := v = none ∧ Fr n0 L ∧ Keep h0 h [a1] ∧ (Exa Z h a1 "com/example/hyacinth/hyacinth/error/BeanDefinitionStoreException") ∧ (Unt h a1) ∧ (Fld Z h a1 "java/lang/Throwable" "detailMessage" "Ljava/lang/String;" (.ref x1)) ∧ (Fld Z h a1 "java/lang/Throwable" "cause" "Ljava/lang/Throwable;" (.ref a1))
set_option maxRecDepth 65536 in
set_option maxHeartbeats 40000000 in
theorem exException (l : Launch) (Z : State) (a0 : Array Value) (hw : ∀ d ∈ tables_1, d.before a0 Z = true) (ws : List Jvm.Cond) (a1 : Addr) (x1 : Addr) (vU : Value) (vS : Value) (h0 : Heap) (n0 : Nat) (Z0 : n0 ≤ h0.size) (E1 : Exa Z h0 a1 "com/example/hyacinth/hyacinth/error/BeanDefinitionStoreException") (U1 : Unt h0 a1) (Nu0 : Fld Z h0 a1 "java/lang/Throwable" "cause" "Ljava/lang/Throwable;" .null) (Nu1 : Fld Z h0 a1 "java/lang/Throwable" "stackTrace" "[Ljava/lang/StackTraceElement;" .null) (Nu2 : Fld Z h0 a1 "java/lang/Throwable" "suppressedExceptions" "Ljava/util/List;" .null) (Nu3 : Fld Z h0 a1 "java/lang/Throwable" "backtrace" "Ljava/lang/Object;" .null) (Nu4 : Fld Z h0 a1 "java/lang/Throwable" "detailMessage" "Ljava/lang/String;" .null) (g1 : n0 ≤ a1) (TU : Sta Z Z.heap "java/lang/Throwable" "UNASSIGNED_STACK" "[Ljava/lang/StackTraceElement;" vU) (rU : vU.isRef = true) (TS : Sta Z Z.heap "java/lang/Throwable" "SUPPRESSED_SENTINEL" "Ljava/util/List;" vS) (rS : vS.isRef = true) (O1 : Old Z n0 h0) (hl : l.stackTraces = true) :
    MetFree l (⟨"java/lang/Exception", "<init>", "(Ljava/lang/String;)V"⟩ : MethodName) (head1 (Jvm.Cond.code (⟨"java/lang/Exception", "<init>", "(Ljava/lang/String;)V"⟩ : MethodName) jdk_59_method_2_code 2 none :: ws) ({ frames := 4, cells := 1, slots := 2752, locals := 55 } : Room)) (fun a U => a = #[(.ref a1), (.ref x1)] ∧ Z.Warmed39 U.vm ∧ U.heap = h0) (fun _ _ bl s _ => s.vm.MethodsKnown ∧ s.vm.FramesKnown bl) (fun _ U o U' => ∃ v L, o = .returned v ∧ Q_exException Z a1 x1 vU vS h0 n0 v U'.heap L ∧ FrameEnd U o U' L ({ frames := 4, cells := 1, slots := 2752, locals := 55 } : Room).cells ({ frames := 4, cells := 1, slots := 2752, locals := 55 } : Room).slots) := by
  refine MetFree.of_bodySF (plainFor_of_name pn_java_lang_Exception) hisR ?_
  intro p e s m args below meth c s₁ Bd hml0 hP hK
  obtain ⟨rfl, hZ, hh⟩ := hP
  have hx := Bd.exec
  have hby := Bd.bytes
  have hml : c.maxLocals = 2 := hml0
  have hown : s.vm.findClass "java/lang/Exception" = some m.cls := findClass_of_methodNamed Bd.named
  have hnm := (name_of_methodNamed Bd.named Bd.method).1
  have X0 : Stand p l e ({ frames := 4, cells := 1, slots := 2752, locals := 55 } : Room) s m #[(.ref a1), (.ref x1)] below meth c s₁ [] 0 0 := Stand.of_body Bd
  have e0 : s₁.heap = h0 := by rw [← hh, Bd.state]; rfl
  have N0 := Fr.nil n0
  have pre0 : ∀ t, Steps p.tables e below (s₁.setTop (mkF m 0 #[.val (.ref a1), .val (.ref x1)] [])) t → Steps p.tables e below (s₁.setTop (entryFrame m #[(.ref a1), (.ref x1)] 2)) t := fun t k => castTop (ef_exException m a1 x1) k
  obtain ⟨_, _, ⟨T1_, L1_, k1_, n1_⟩, -, X1_, ⟨Lc1_, hQ1_, l1_, y1_, z1_⟩, st1_⟩ := X0.specialBack hx (y := (⟨"java/lang/Throwable", "<init>", "(Ljava/lang/String;)V"⟩ : MethodName)) rfl hown (mvT hZ (hw _ (List.mem_of_getElem? (i := 177) rfl))) (mvT hZ (hw _ (List.mem_of_getElem? (i := 178) rfl))) (mvT hZ (hw _ (List.mem_of_getElem? (i := 182) rfl))) (by decide) (backOfKL (W := 0) (exT l Z a0 hw [] a1 x1 vU vS h0 n0 Z0 E1 U1 Nu0 Nu1 Nu2 Nu3 Nu4 g1 TU rU TS rS O1 hl) hZ (hw _ (List.mem_of_getElem? (i := 182) rfl)) (hw _ (List.mem_of_getElem? (i := 181) rfl)) (by decide) (by decide) (Vm.MethodsKnown.alikeC ((State.Warmed39.alike hZ).symm.trans (State.Warmed39.alike hZ)) hK.1) (Vm.FramesKnown.alikeC ((State.Warmed39.alike hZ).symm.trans (State.Warmed39.alike hZ)) hK.2)) (g := (mkF m 2 #[.val (.ref a1), .val (.ref x1)] [(.ref x1), (.ref a1)])) rfl (by rw [hml]; rfl) (Steps.refl _) (a := a1) (argsL := [(.ref x1)]) (rest := []) (lenOf pd_qLjava_lang_StringzV rfl) rfl (by show 2 * 0 + _ ≤ _; exact Nat.le_of_eq rfl) (hb hby d33_2) (fun _ _ => ⟨rfl, e0, (by exact Nat.le_of_ble_eq_true rfl), (by exact Nat.le_of_ble_eq_true rfl)⟩)
  dsimp only [Pt.U, Pt.locs, Pt.cells, Pt.slots] at X1_ l1_ y1_ z1_ st1_ hQ1_
  subst L1_ k1_ n1_
  obtain ⟨rfl, Nq1_, ek1_, p1__0, p1__1, p1__2, p1__3⟩ := hQ1_
  have N1_ := Fr.app N0 Nq1_
  have k2_ : Keep h0 T1_.heap [a1] := (Keep.refl h0 [a1]).trans ek1_ (allS (Or.inl (List.mem_of_getElem? (i := 0) rfl)) all0)
  obtain ⟨fs, hr, hrun, hended, hW, hsame⟩ := X1_.leave (v := none) (fun h => by first | rfl | (rw [Bd.returns] at h; cases h))
  refine ⟨_, _, pre0 _ ?_, hrun, hended, _, _, rfl, ?_, ⟨_, rfl⟩, hW, hsame.mono (by exact Nat.le_of_ble_eq_true rfl) (by exact Nat.le_of_ble_eq_true rfl)⟩
  · show Steps p.tables e below (s₁.setTop (mkF m 0 #[.val (.ref a1), .val (.ref x1)] [])) _
    refine XS.aloadN X0.here hx rfl (hb hby d33_0) rfl rfl ?_
    refine XS.aloadN X0.here hx rfl (hb hby d33_1) rfl rfl ?_
    refine st1_.trans ?_
    show Steps p.tables e below (T1_.setTop (mkF m 5 #[.val (.ref a1), .val (.ref x1)] [])) _
    exact X1_.returnOut hx Bd.returns (hb hby d33_5) hr
  · show Q_exException Z a1 x1 vU vS h0 n0 _ T1_.heap _
    skip
    exact ⟨rfl, N1_, k2_, p1__0, p1__1, p1__2, p1__3⟩
theorem d32_0 : decode jdk_58_method_2_code 0 = .ok (.aload_n 0, 1) := by decide +kernel
theorem d32_1 : decode jdk_58_method_2_code 1 = .ok (.aload_n 1, 1) := by decide +kernel
theorem d32_2 : decode jdk_58_method_2_code 2 = .ok (.invokespecial 7, 3) := by decide +kernel
theorem d32_5 : decode jdk_58_method_2_code 5 = .ok (.return_, 1) := by decide +kernel
theorem pn_java_lang_RuntimeException : plainName "java/lang/RuntimeException" = true := by first | (simp [plainName, overriddenIn]; done) | decide +kernel
theorem ef_exRuntimeException (m : MethodId) (x0 : Addr) (x1 : Addr) : entryFrame m #[(.ref x0), (.ref x1)] 2 = mkF m 0 #[.val (.ref x0), .val (.ref x1)] [] := by first | (simp [entryFrame, mkF, argsToLocals, Value.category]; done) | rfl
def Q_exRuntimeException (Z : State) (a1 : Addr) (x1 : Addr) (vU : Value) (vS : Value) (h0 : Heap) (n0 : Nat) (v : Option Value) (h : Heap) (L : List Loc) : Prop := v = none ∧ Fr n0 L ∧ Keep h0 h [a1] ∧ (Exa Z h a1 "com/example/hyacinth/hyacinth/error/BeanDefinitionStoreException") ∧ (Unt h a1) ∧ (Fld Z h a1 "java/lang/Throwable" "detailMessage" "Ljava/lang/String;" (.ref x1)) ∧ (Fld Z h a1 "java/lang/Throwable" "cause" "Ljava/lang/Throwable;" (.ref a1))
set_option maxRecDepth 65536 in
set_option maxHeartbeats 40000000 in
theorem exRuntimeException (l : Launch) (Z : State) (a0 : Array Value) (hw : ∀ d ∈ tables_1, d.before a0 Z = true) (ws : List Jvm.Cond) (a1 : Addr) (x1 : Addr) (vU : Value) (vS : Value) (h0 : Heap) (n0 : Nat) (Z0 : n0 ≤ h0.size) (E1 : Exa Z h0 a1 "com/example/hyacinth/hyacinth/error/BeanDefinitionStoreException") (U1 : Unt h0 a1) (Nu0 : Fld Z h0 a1 "java/lang/Throwable" "cause" "Ljava/lang/Throwable;" .null) (Nu1 : Fld Z h0 a1 "java/lang/Throwable" "stackTrace" "[Ljava/lang/StackTraceElement;" .null) (Nu2 : Fld Z h0 a1 "java/lang/Throwable" "suppressedExceptions" "Ljava/util/List;" .null) (Nu3 : Fld Z h0 a1 "java/lang/Throwable" "backtrace" "Ljava/lang/Object;" .null) (Nu4 : Fld Z h0 a1 "java/lang/Throwable" "detailMessage" "Ljava/lang/String;" .null) (g1 : n0 ≤ a1) (TU : Sta Z Z.heap "java/lang/Throwable" "UNASSIGNED_STACK" "[Ljava/lang/StackTraceElement;" vU) (rU : vU.isRef = true) (TS : Sta Z Z.heap "java/lang/Throwable" "SUPPRESSED_SENTINEL" "Ljava/util/List;" vS) (rS : vS.isRef = true) (O1 : Old Z n0 h0) (hl : l.stackTraces = true) :
    MetFree l (⟨"java/lang/RuntimeException", "<init>", "(Ljava/lang/String;)V"⟩ : MethodName) (head1 (Jvm.Cond.code (⟨"java/lang/RuntimeException", "<init>", "(Ljava/lang/String;)V"⟩ : MethodName) jdk_58_method_2_code 2 none :: ws) ({ frames := 5, cells := 1, slots := 2752, locals := 68 } : Room)) (fun a U => a = #[(.ref a1), (.ref x1)] ∧ Z.Warmed39 U.vm ∧ U.heap = h0) (fun _ _ bl s _ => s.vm.MethodsKnown ∧ s.vm.FramesKnown bl) (fun _ U o U' => ∃ v L, o = .returned v ∧ Q_exRuntimeException Z a1 x1 vU vS h0 n0 v U'.heap L ∧ FrameEnd U o U' L ({ frames := 5, cells := 1, slots := 2752, locals := 68 } : Room).cells ({ frames := 5, cells := 1, slots := 2752, locals := 68 } : Room).slots) := by
  refine MetFree.of_bodySF (plainFor_of_name pn_java_lang_RuntimeException) hisR ?_
  intro p e s m args below meth c s₁ Bd hml0 hP hK
  obtain ⟨rfl, hZ, hh⟩ := hP
  have hx := Bd.exec
  have hby := Bd.bytes
  have hml : c.maxLocals = 2 := hml0
  have hown : s.vm.findClass "java/lang/RuntimeException" = some m.cls := findClass_of_methodNamed Bd.named
  have hnm := (name_of_methodNamed Bd.named Bd.method).1
  have X0 : Stand p l e ({ frames := 5, cells := 1, slots := 2752, locals := 68 } : Room) s m #[(.ref a1), (.ref x1)] below meth c s₁ [] 0 0 := Stand.of_body Bd
  have e0 : s₁.heap = h0 := by rw [← hh, Bd.state]; rfl
  have N0 := Fr.nil n0
  have pre0 : ∀ t, Steps p.tables e below (s₁.setTop (mkF m 0 #[.val (.ref a1), .val (.ref x1)] [])) t → Steps p.tables e below (s₁.setTop (entryFrame m #[(.ref a1), (.ref x1)] 2)) t := fun t k => castTop (ef_exRuntimeException m a1 x1) k
  obtain ⟨_, _, ⟨T1_, L1_, k1_, n1_⟩, -, X1_, ⟨Lc1_, hQ1_, l1_, y1_, z1_⟩, st1_⟩ := X0.specialBack hx (y := (⟨"java/lang/Exception", "<init>", "(Ljava/lang/String;)V"⟩ : MethodName)) rfl hown (mvT hZ (hw _ (List.mem_of_getElem? (i := 171) rfl))) (mvT hZ (hw _ (List.mem_of_getElem? (i := 172) rfl))) (mvT hZ (hw _ (List.mem_of_getElem? (i := 176) rfl))) (by decide) (backOfKL (W := 0) (exException l Z a0 hw [] a1 x1 vU vS h0 n0 Z0 E1 U1 Nu0 Nu1 Nu2 Nu3 Nu4 g1 TU rU TS rS O1 hl) hZ (hw _ (List.mem_of_getElem? (i := 176) rfl)) (hw _ (List.mem_of_getElem? (i := 175) rfl)) (by decide) (by decide) (Vm.MethodsKnown.alikeC ((State.Warmed39.alike hZ).symm.trans (State.Warmed39.alike hZ)) hK.1) (Vm.FramesKnown.alikeC ((State.Warmed39.alike hZ).symm.trans (State.Warmed39.alike hZ)) hK.2)) (g := (mkF m 2 #[.val (.ref a1), .val (.ref x1)] [(.ref x1), (.ref a1)])) rfl (by rw [hml]; rfl) (Steps.refl _) (a := a1) (argsL := [(.ref x1)]) (rest := []) (lenOf pd_qLjava_lang_StringzV rfl) rfl (by show 2 * 0 + _ ≤ _; exact Nat.le_of_eq rfl) (hb hby d32_2) (fun _ _ => ⟨rfl, e0, (by exact Nat.le_of_ble_eq_true rfl), (by exact Nat.le_of_ble_eq_true rfl)⟩)
  dsimp only [Pt.U, Pt.locs, Pt.cells, Pt.slots] at X1_ l1_ y1_ z1_ st1_ hQ1_
  subst L1_ k1_ n1_
  obtain ⟨rfl, Nq1_, ek1_, p1__0, p1__1, p1__2, p1__3⟩ := hQ1_
  have N1_ := Fr.app N0 Nq1_
  have k2_ : Keep h0 T1_.heap [a1] := (Keep.refl h0 [a1]).trans ek1_ (allS (Or.inl (List.mem_of_getElem? (i := 0) rfl)) all0)
  obtain ⟨fs, hr, hrun, hended, hW, hsame⟩ := X1_.leave (v := none) (fun h => by first | rfl | (rw [Bd.returns] at h; cases h))
  refine ⟨_, _, pre0 _ ?_, hrun, hended, _, _, rfl, ?_, ⟨_, rfl⟩, hW, hsame.mono (by exact Nat.le_of_ble_eq_true rfl) (by exact Nat.le_of_ble_eq_true rfl)⟩
  · show Steps p.tables e below (s₁.setTop (mkF m 0 #[.val (.ref a1), .val (.ref x1)] [])) _
    refine XS.aloadN X0.here hx rfl (hb hby d32_0) rfl rfl ?_
    refine XS.aloadN X0.here hx rfl (hb hby d32_1) rfl rfl ?_
    refine st1_.trans ?_
    show Steps p.tables e below (T1_.setTop (mkF m 5 #[.val (.ref a1), .val (.ref x1)] [])) _
    exact X1_.returnOut hx Bd.returns (hb hby d32_5) hr
  · show Q_exRuntimeException Z a1 x1 vU vS h0 n0 _ T1_.heap _
    skip
    exact ⟨rfl, N1_, k2_, p1__0, p1__1, p1__2, p1__3⟩
theorem d31_0 : decode prog_20_method_1_code 0 = .ok (.aload_n 0, 1) := by decide +kernel
theorem d31_1 : decode prog_20_method_1_code 1 = .ok (.aload_n 1, 1) := by decide +kernel
theorem d31_2 : decode prog_20_method_1_code 2 = .ok (.invokespecial 1, 3) := by decide +kernel
theorem d31_5 : decode prog_20_method_1_code 5 = .ok (.return_, 1) := by decide +kernel
theorem pn_com_example_hyacinth_hyacinth_error_BeansException : plainName "com/example/hyacinth/hyacinth/error/BeansException" = true := by first | (simp [plainName, overriddenIn]; done) | decide +kernel
theorem ef_exBeansException (m : MethodId) (x0 : Addr) (x1 : Addr) : entryFrame m #[(.ref x0), (.ref x1)] 2 = mkF m 0 #[.val (.ref x0), .val (.ref x1)] [] := by first | (simp [entryFrame, mkF, argsToLocals, Value.category]; done) | rfl
def Q_exBeansException (Z : State) (a1 : Addr) (x1 : Addr) (vU : Value) (vS : Value) (h0 : Heap) (n0 : Nat) (v : Option Value) (h : Heap) (L : List Loc) : Prop := v = none ∧ Fr n0 L ∧ Keep h0 h [a1] ∧ (Exa Z h a1 "com/example/hyacinth/hyacinth/error/BeanDefinitionStoreException") ∧ (Unt h a1) ∧ (Fld Z h a1 "java/lang/Throwable" "detailMessage" "Ljava/lang/String;" (.ref x1)) ∧ (Fld Z h a1 "java/lang/Throwable" "cause" "Ljava/lang/Throwable;" (.ref a1))
set_option maxRecDepth 65536 in
set_option maxHeartbeats 40000000 in
theorem exBeansException (l : Launch) (Z : State) (a0 : Array Value) (hw : ∀ d ∈ tables_1, d.before a0 Z = true) (ws : List Jvm.Cond) (a1 : Addr) (x1 : Addr) (vU : Value) (vS : Value) (h0 : Heap) (n0 : Nat) (Z0 : n0 ≤ h0.size) (E1 : Exa Z h0 a1 "com/example/hyacinth/hyacinth/error/BeanDefinitionStoreException") (U1 : Unt h0 a1) (Nu0 : Fld Z h0 a1 "java/lang/Throwable" "cause" "Ljava/lang/Throwable;" .null) (Nu1 : Fld Z h0 a1 "java/lang/Throwable" "stackTrace" "[Ljava/lang/StackTraceElement;" .null) (Nu2 : Fld Z h0 a1 "java/lang/Throwable" "suppressedExceptions" "Ljava/util/List;" .null) (Nu3 : Fld Z h0 a1 "java/lang/Throwable" "backtrace" "Ljava/lang/Object;" .null) (Nu4 : Fld Z h0 a1 "java/lang/Throwable" "detailMessage" "Ljava/lang/String;" .null) (g1 : n0 ≤ a1) (TU : Sta Z Z.heap "java/lang/Throwable" "UNASSIGNED_STACK" "[Ljava/lang/StackTraceElement;" vU) (rU : vU.isRef = true) (TS : Sta Z Z.heap "java/lang/Throwable" "SUPPRESSED_SENTINEL" "Ljava/util/List;" vS) (rS : vS.isRef = true) (O1 : Old Z n0 h0) (hl : l.stackTraces = true) :
    MetFree l (⟨"com/example/hyacinth/hyacinth/error/BeansException", "<init>", "(Ljava/lang/String;)V"⟩ : MethodName) (head1 (Jvm.Cond.code (⟨"com/example/hyacinth/hyacinth/error/BeansException", "<init>", "(Ljava/lang/String;)V"⟩ : MethodName) prog_20_method_1_code 2 none :: ws) ({ frames := 6, cells := 1, slots := 2752, locals := 81 } : Room)) (fun a U => a = #[(.ref a1), (.ref x1)] ∧ Z.Warmed39 U.vm ∧ U.heap = h0) (fun _ _ bl s _ => s.vm.MethodsKnown ∧ s.vm.FramesKnown bl) (fun _ U o U' => ∃ v L, o = .returned v ∧ Q_exBeansException Z a1 x1 vU vS h0 n0 v U'.heap L ∧ FrameEnd U o U' L ({ frames := 6, cells := 1, slots := 2752, locals := 81 } : Room).cells ({ frames := 6, cells := 1, slots := 2752, locals := 81 } : Room).slots) := by
  refine MetFree.of_bodySF (plainFor_of_name pn_com_example_hyacinth_hyacinth_error_BeansException) hisR ?_
  intro p e s m args below meth c s₁ Bd hml0 hP hK
  obtain ⟨rfl, hZ, hh⟩ := hP
  have hx := Bd.exec
  have hby := Bd.bytes
  have hml : c.maxLocals = 2 := hml0
  have hown : s.vm.findClass "com/example/hyacinth/hyacinth/error/BeansException" = some m.cls := findClass_of_methodNamed Bd.named
  have hnm := (name_of_methodNamed Bd.named Bd.method).1
  have X0 : Stand p l e ({ frames := 6, cells := 1, slots := 2752, locals := 81 } : Room) s m #[(.ref a1), (.ref x1)] below meth c s₁ [] 0 0 := Stand.of_body Bd
  have e0 : s₁.heap = h0 := by rw [← hh, Bd.state]; rfl
  have N0 := Fr.nil n0
  have pre0 : ∀ t, Steps p.tables e below (s₁.setTop (mkF m 0 #[.val (.ref a1), .val (.ref x1)] [])) t → Steps p.tables e below (s₁.setTop (entryFrame m #[(.ref a1), (.ref x1)] 2)) t := fun t k => castTop (ef_exBeansException m a1 x1) k
  obtain ⟨_, _, ⟨T1_, L1_, k1_, n1_⟩, -, X1_, ⟨Lc1_, hQ1_, l1_, y1_, z1_⟩, st1_⟩ := X0.specialBack hx (y := (⟨"java/lang/RuntimeException", "<init>", "(Ljava/lang/String;)V"⟩ : MethodName)) rfl hown (mvT hZ (hw _ (List.mem_of_getElem? (i := 166) rfl))) (mvT hZ (hw _ (List.mem_of_getElem? (i := 167) rfl))) (mvT hZ (hw _ (List.mem_of_getElem? (i := 170) rfl))) (by decide) (backOfKL (W := 0) (exRuntimeException l Z a0 hw [] a1 x1 vU vS h0 n0 Z0 E1 U1 Nu0 Nu1 Nu2 Nu3 Nu4 g1 TU rU TS rS O1 hl) hZ (hw _ (List.mem_of_getElem? (i := 170) rfl)) (hw _ (List.mem_of_getElem? (i := 169) rfl)) (by decide) (by decide) (Vm.MethodsKnown.alikeC ((State.Warmed39.alike hZ).symm.trans (State.Warmed39.alike hZ)) hK.1) (Vm.FramesKnown.alikeC ((State.Warmed39.alike hZ).symm.trans (State.Warmed39.alike hZ)) hK.2)) (g := (mkF m 2 #[.val (.ref a1), .val (.ref x1)] [(.ref x1), (.ref a1)])) rfl (by rw [hml]; rfl) (Steps.refl _) (a := a1) (argsL := [(.ref x1)]) (rest := []) (lenOf pd_qLjava_lang_StringzV rfl) rfl (by show 2 * 0 + _ ≤ _; exact Nat.le_of_eq rfl) (hb hby d31_2) (fun _ _ => ⟨rfl, e0, (by exact Nat.le_of_ble_eq_true rfl), (by exact Nat.le_of_ble_eq_true rfl)⟩)
  dsimp only [Pt.U, Pt.locs, Pt.cells, Pt.slots] at X1_ l1_ y1_ z1_ st1_ hQ1_
  subst L1_ k1_ n1_
  obtain ⟨rfl, Nq1_, ek1_, p1__0, p1__1, p1__2, p1__3⟩ := hQ1_
  have N1_ := Fr.app N0 Nq1_
  have k2_ : Keep h0 T1_.heap [a1] := (Keep.refl h0 [a1]).trans ek1_ (allS (Or.inl (List.mem_of_getElem? (i := 0) rfl)) all0)
  obtain ⟨fs, hr, hrun, hended, hW, hsame⟩ := X1_.leave (v := none) (fun h => by first | rfl | (rw [Bd.returns] at h; cases h))
  refine ⟨_, _, pre0 _ ?_, hrun, hended, _, _, rfl, ?_, ⟨_, rfl⟩, hW, hsame.mono (by exact Nat.le_of_ble_eq_true rfl) (by exact Nat.le_of_ble_eq_true rfl)⟩
  · show Steps p.tables e below (s₁.setTop (mkF m 0 #[.val (.ref a1), .val (.ref x1)] [])) _
    refine XS.aloadN X0.here hx rfl (hb hby d31_0) rfl rfl ?_
    refine XS.aloadN X0.here hx rfl (hb hby d31_1) rfl rfl ?_
    refine st1_.trans ?_
    show Steps p.tables e below (T1_.setTop (mkF m 5 #[.val (.ref a1), .val (.ref x1)] [])) _
    exact X1_.returnOut hx Bd.returns (hb hby d31_5) hr
  · show Q_exBeansException Z a1 x1 vU vS h0 n0 _ T1_.heap _
    skip
    exact ⟨rfl, N1_, k2_, p1__0, p1__1, p1__2, p1__3⟩
theorem d30_0 : decode prog_15_method_2_code 0 = .ok (.aload_n 0, 1) := by decide +kernel
theorem d30_1 : decode prog_15_method_2_code 1 = .ok (.aload_n 1, 1) := by decide +kernel
theorem d30_2 : decode prog_15_method_2_code 2 = .ok (.invokespecial 24, 3) := by decide +kernel
theorem d30_5 : decode prog_15_method_2_code 5 = .ok (.return_, 1) := by decide +kernel
theorem pn_com_example_hyacinth_hyacinth_error_BeanDefinitionStoreException : plainName "com/example/hyacinth/hyacinth/error/BeanDefinitionStoreException" = true := by first | (simp [plainName, overriddenIn]; done) | decide +kernel
theorem ef_exBeanDefinitionStoreException (m : MethodId) (x0 : Addr) (x1 : Addr) : entryFrame m #[(.ref x0), (.ref x1)] 2 = mkF m 0 #[.val (.ref x0), .val (.ref x1)] [] := by first | (simp [entryFrame, mkF, argsToLocals, Value.category]; done) | rfl
def Q_exBeanDefinitionStoreException (Z : State) (a1 : Addr) (x1 : Addr) (vU : Value) (vS : Value) (h0 : Heap) (n0 : Nat) (v : Option Value) (h : Heap) (L : List Loc) : Prop := v = none ∧ Fr n0 L ∧ Keep h0 h [a1] ∧ (Exa Z h a1 "com/example/hyacinth/hyacinth/error/BeanDefinitionStoreException") ∧ (Unt h a1) ∧ (Fld Z h a1 "java/lang/Throwable" "detailMessage" "Ljava/lang/String;" (.ref x1)) ∧ (Fld Z h a1 "java/lang/Throwable" "cause" "Ljava/lang/Throwable;" (.ref a1))
set_option maxRecDepth 65536 in
set_option maxHeartbeats 40000000 in
theorem exBeanDefinitionStoreException (l : Launch) (Z : State) (a0 : Array Value) (hw : ∀ d ∈ tables_1, d.before a0 Z = true) (ws : List Jvm.Cond) (a1 : Addr) (x1 : Addr) (vU : Value) (vS : Value) (h0 : Heap) (n0 : Nat) (Z0 : n0 ≤ h0.size) (E1 : Exa Z h0 a1 "com/example/hyacinth/hyacinth/error/BeanDefinitionStoreException") (U1 : Unt h0 a1) (Nu0 : Fld Z h0 a1 "java/lang/Throwable" "cause" "Ljava/lang/Throwable;" .null) (Nu1 : Fld Z h0 a1 "java/lang/Throwable" "stackTrace" "[Ljava/lang/StackTraceElement;" .null) (Nu2 : Fld Z h0 a1 "java/lang/Throwable" "suppressedExceptions" "Ljava/util/List;" .null) (Nu3 : Fld Z h0 a1 "java/lang/Throwable" "backtrace" "Ljava/lang/Object;" .null) (Nu4 : Fld Z h0 a1 "java/lang/Throwable" "detailMessage" "Ljava/lang/String;" .null) (g1 : n0 ≤ a1) (TU : Sta Z Z.heap "java/lang/Throwable" "UNASSIGNED_STACK" "[Ljava/lang/StackTraceElement;" vU) (rU : vU.isRef = true) (TS : Sta Z Z.heap "java/lang/Throwable" "SUPPRESSED_SENTINEL" "Ljava/util/List;" vS) (rS : vS.isRef = true) (O1 : Old Z n0 h0) (hl : l.stackTraces = true) :
    MetFree l (⟨"com/example/hyacinth/hyacinth/error/BeanDefinitionStoreException", "<init>", "(Ljava/lang/String;)V"⟩ : MethodName) (head1 (Jvm.Cond.code (⟨"com/example/hyacinth/hyacinth/error/BeanDefinitionStoreException", "<init>", "(Ljava/lang/String;)V"⟩ : MethodName) prog_15_method_2_code 2 none :: ws) ({ frames := 7, cells := 1, slots := 2752, locals := 94 } : Room)) (fun a U => a = #[(.ref a1), (.ref x1)] ∧ Z.Warmed39 U.vm ∧ U.heap = h0) (fun _ _ bl s _ => s.vm.MethodsKnown ∧ s.vm.FramesKnown bl) (fun _ U o U' => ∃ v L, o = .returned v ∧ Q_exBeanDefinitionStoreException Z a1 x1 vU vS h0 n0 v U'.heap L ∧ FrameEnd U o U' L ({ frames := 7, cells := 1, slots := 2752, locals := 94 } : Room).cells ({ frames := 7, cells := 1, slots := 2752, locals := 94 } : Room).slots) := by
  refine MetFree.of_bodySF (plainFor_of_name pn_com_example_hyacinth_hyacinth_error_BeanDefinitionStoreException) hisR ?_
  intro p e s m args below meth c s₁ Bd hml0 hP hK
  obtain ⟨rfl, hZ, hh⟩ := hP
  have hx := Bd.exec
  have hby := Bd.bytes
  have hml : c.maxLocals = 2 := hml0
  have hown : s.vm.findClass "com/example/hyacinth/hyacinth/error/BeanDefinitionStoreException" = some m.cls := findClass_of_methodNamed Bd.named
  have hnm := (name_of_methodNamed Bd.named Bd.method).1
  have X0 : Stand p l e ({ frames := 7, cells := 1, slots := 2752, locals := 94 } : Room) s m #[(.ref a1), (.ref x1)] below meth c s₁ [] 0 0 := Stand.of_body Bd
  have e0 : s₁.heap = h0 := by rw [← hh, Bd.state]; rfl
  have N0 := Fr.nil n0
  have pre0 : ∀ t, Steps p.tables e below (s₁.setTop (mkF m 0 #[.val (.ref a1), .val (.ref x1)] [])) t → Steps p.tables e below (s₁.setTop (entryFrame m #[(.ref a1), (.ref x1)] 2)) t := fun t k => castTop (ef_exBeanDefinitionStoreException m a1 x1) k
  obtain ⟨_, _, ⟨T1_, L1_, k1_, n1_⟩, -, X1_, ⟨Lc1_, hQ1_, l1_, y1_, z1_⟩, st1_⟩ := X0.specialBack hx (y := (⟨"com/example/hyacinth/hyacinth/error/BeansException", "<init>", "(Ljava/lang/String;)V"⟩ : MethodName)) rfl hown (mvT hZ (hw _ (List.mem_of_getElem? (i := 161) rfl))) (mvT hZ (hw _ (List.mem_of_getElem? (i := 162) rfl))) (mvT hZ (hw _ (List.mem_of_getElem? (i := 165) rfl))) (by decide) (backOfKL (W := 0) (exBeansException l Z a0 hw [] a1 x1 vU vS h0 n0 Z0 E1 U1 Nu0 Nu1 Nu2 Nu3 Nu4 g1 TU rU TS rS O1 hl) hZ (hw _ (List.mem_of_getElem? (i := 165) rfl)) (hw _ (List.mem_of_getElem? (i := 164) rfl)) (by decide) (by decide) (Vm.MethodsKnown.alikeC ((State.Warmed39.alike hZ).symm.trans (State.Warmed39.alike hZ)) hK.1) (Vm.FramesKnown.alikeC ((State.Warmed39.alike hZ).symm.trans (State.Warmed39.alike hZ)) hK.2)) (g := (mkF m 2 #[.val (.ref a1), .val (.ref x1)] [(.ref x1), (.ref a1)])) rfl (by rw [hml]; rfl) (Steps.refl _) (a := a1) (argsL := [(.ref x1)]) (rest := []) (lenOf pd_qLjava_lang_StringzV rfl) rfl (by show 2 * 0 + _ ≤ _; exact Nat.le_of_eq rfl) (hb hby d30_2) (fun _ _ => ⟨rfl, e0, (by exact Nat.le_of_ble_eq_true rfl), (by exact Nat.le_of_ble_eq_true rfl)⟩)
  dsimp only [Pt.U, Pt.locs, Pt.cells, Pt.slots] at X1_ l1_ y1_ z1_ st1_ hQ1_
  subst L1_ k1_ n1_
  obtain ⟨rfl, Nq1_, ek1_, p1__0, p1__1, p1__2, p1__3⟩ := hQ1_
  have N1_ := Fr.app N0 Nq1_
  have k2_ : Keep h0 T1_.heap [a1] := (Keep.refl h0 [a1]).trans ek1_ (allS (Or.inl (List.mem_of_getElem? (i := 0) rfl)) all0)
  obtain ⟨fs, hr, hrun, hended, hW, hsame⟩ := X1_.leave (v := none) (fun h => by first | rfl | (rw [Bd.returns] at h; cases h))
  refine ⟨_, _, pre0 _ ?_, hrun, hended, _, _, rfl, ?_, ⟨_, rfl⟩, hW, hsame.mono (by exact Nat.le_of_ble_eq_true rfl) (by exact Nat.le_of_ble_eq_true rfl)⟩
  · show Steps p.tables e below (s₁.setTop (mkF m 0 #[.val (.ref a1), .val (.ref x1)] [])) _
    refine XS.aloadN X0.here hx rfl (hb hby d30_0) rfl rfl ?_
    refine XS.aloadN X0.here hx rfl (hb hby d30_1) rfl rfl ?_
    refine st1_.trans ?_
    show Steps p.tables e below (T1_.setTop (mkF m 5 #[.val (.ref a1), .val (.ref x1)] [])) _
    exact X1_.returnOut hx Bd.returns (hb hby d30_5) hr
  · show Q_exBeanDefinitionStoreException Z a1 x1 vU vS h0 n0 _ T1_.heap _
    skip
    exact ⟨rfl, N1_, k2_, p1__0, p1__1, p1__2, p1__3⟩
theorem d4_0 : decode prog_15_method_3_code 0 = .ok (.new 20, 3) := by decide +kernel
theorem d4_3 : decode prog_15_method_3_code 3 = .ok (.dup, 1) := by decide +kernel
theorem d4_4 : decode prog_15_method_3_code 4 = .ok (.new 1, 3) := by decide +kernel
theorem d4_7 : decode prog_15_method_3_code 7 = .ok (.dup, 1) := by decide +kernel
theorem d4_8 : decode prog_15_method_3_code 8 = .ok (.invokespecial 3, 3) := by decide +kernel
theorem pd_qzV : parseMethodDescriptor "()V" = some ⟨[], none⟩ := by decide +kernel
theorem d4_11 : decode prog_15_method_3_code 11 = .ok (.ldc 27, 2) := by decide +kernel
theorem d4_13 : decode prog_15_method_3_code 13 = .ok (.invokevirtual 9, 3) := by decide +kernel
theorem pd_qLjava_lang_StringzLjava_lang_StringBuilder : parseMethodDescriptor "(Ljava/lang/String;)Ljava/lang/StringBuilder;" = some ⟨[(.object "java/lang/String")], some (.object "java/lang/StringBuilder")⟩ := by decide +kernel
theorem d4_16 : decode prog_15_method_3_code 16 = .ok (.aload_n 0, 1) := by decide +kernel
theorem d4_17 : decode prog_15_method_3_code 17 = .ok (.invokevirtual 9, 3) := by decide +kernel
theorem d4_20 : decode prog_15_method_3_code 20 = .ok (.ldc 13, 2) := by decide +kernel
theorem d4_22 : decode prog_15_method_3_code 22 = .ok (.invokevirtual 9, 3) := by decide +kernel
theorem d4_25 : decode prog_15_method_3_code 25 = .ok (.aload_n 1, 1) := by decide +kernel
theorem d4_26 : decode prog_15_method_3_code 26 = .ok (.invokevirtual 9, 3) := by decide +kernel
theorem d4_29 : decode prog_15_method_3_code 29 = .ok (.invokevirtual 15, 3) := by decide +kernel
theorem pd_qzLjava_lang_String : parseMethodDescriptor "()Ljava/lang/String;" = some ⟨[], some (.object "java/lang/String")⟩ := by decide +kernel
theorem d4_32 : decode prog_15_method_3_code 32 = .ok (.invokespecial 19, 3) := by decide +kernel
theorem d4_35 : decode prog_15_method_3_code 35 = .ok (.areturn, 1) := by decide +kernel
theorem ef_rmInv (m : MethodId) (x0 : Addr) (x1 : Addr) : entryFrame m #[(.ref x0), (.ref x1)] 2 = mkF m 0 #[.val (.ref x0), .val (.ref x1)] [] := by first | (simp [entryFrame, mkF, argsToLocals, Value.category]; done) | rfl
def Q_rmInv (Z : State) (x1 : Addr) (x2 : Addr) (t1 : Addr) (cs1 : List Int32) (t2 : Addr) (cs2 : List Int32) (G1 : Int32) (vU : Value) (vS : Value) (h0 : Heap) (n0 : Nat) (v : Option Value) (h : Heap) (L : List Loc) : Prop := ∃ (ea : Addr) (xm : Addr) (tm : Addr), v = some (.ref ea) ∧ Fr n0 L ∧ Keep h0 h [] ∧ (Exa Z h ea "com/example/hyacinth/hyacinth/error/BeanDefinitionStoreException") ∧ (Unt h ea) ∧ (Fld Z h ea "java/lang/Throwable" "detailMessage" "Ljava/lang/String;" (.ref xm)) ∧ (Fld Z h ea "java/lang/Throwable" "cause" "Ljava/lang/Throwable;" (.ref ea)) ∧ (own_Str Z h xm tm ((((([] : List Int32) ++ ([(105 : Int32), (110 : Int32), (118 : Int32), (97 : Int32), (108 : Int32), (105 : Int32), (100 : Int32), (32 : Int32), (98 : Int32), (101 : Int32), (97 : Int32), (110 : Int32), (32 : Int32), (100 : Int32), (101 : Int32), (102 : Int32), (105 : Int32), (110 : Int32), (105 : Int32), (116 : Int32), (105 : Int32), (111 : Int32), (110 : Int32), (32 : Int32), (39 : Int32)] : List Int32)) ++ cs1) ++ ([(39 : Int32), (58 : Int32), (32 : Int32)] : List Int32)) ++ cs2))
set_option maxRecDepth 65536 in
set_option maxHeartbeats 40000000 in
theorem rmInv (l : Launch) (Z : State) (a0 : Array Value) (hw : ∀ d ∈ tables_1, d.before a0 Z = true) (hEL : EW Z a0 consts_1) (ws : List Jvm.Cond) (x1 : Addr) (x2 : Addr) (t1 : Addr) (cs1 : List Int32) (t2 : Addr) (cs2 : List Int32) (G1 : Int32) (vU : Value) (vS : Value) (h0 : Heap) (n0 : Nat) (Z0 : n0 ≤ h0.size) (S1 : own_Str Z h0 x1 t1 cs1) (S2 : own_Str Z h0 x2 t2 cs2) (T1 : Sta Z Z.heap "java/lang/String" "COMPACT_STRINGS" "Z" (.int G1)) (P5 : ¬ (G1 = (0 : Int32))) (O1 : Old Z n0 h0) (TU : Sta Z Z.heap "java/lang/Throwable" "UNASSIGNED_STACK" "[Ljava/lang/StackTraceElement;" vU) (rU : vU.isRef = true) (TS : Sta Z Z.heap "java/lang/Throwable" "SUPPRESSED_SENTINEL" "Ljava/util/List;" vS) (rS : vS.isRef = true) (hl : l.stackTraces = true) (hn1 : cs1.length ≤ 2) (hn2 : cs2.length ≤ 2) :
    MetFree l (⟨"com/example/hyacinth/hyacinth/error/BeanDefinitionStoreException", "invalidDefinition", "(Ljava/lang/String;Ljava/lang/String;)Lcom/example/hyacinth/hyacinth/error/BeanDefinitionStoreException;"⟩ : MethodName) (head1 (Jvm.Cond.code (⟨"com/example/hyacinth/hyacinth/error/BeanDefinitionStoreException", "invalidDefinition", "(Ljava/lang/String;Ljava/lang/String;)Lcom/example/hyacinth/hyacinth/error/BeanDefinitionStoreException;"⟩ : MethodName) prog_15_method_3_code 2 (some (.object "com/example/hyacinth/hyacinth/error/BeanDefinitionStoreException")) :: ws) ({ frames := 8, cells := 11, slots := 2970, locals := 108 } : Room)) (fun a U => a = #[(.ref x1), (.ref x2)] ∧ Z.Warmed39 U.vm ∧ U.heap = h0 ∧ CHv Z consts_1 U.vm h0) (fun _ _ bl s _ => s.vm.MethodsKnown ∧ s.vm.FramesKnown bl) (fun _ U o U' => ∃ v L, o = .returned v ∧ Q_rmInv Z x1 x2 t1 cs1 t2 cs2 G1 vU vS h0 n0 v U'.heap L ∧ CHr Z consts_1 U.vm U.heap U'.vm U'.heap ∧ ReturnedEndW U o U' L ({ frames := 8, cells := 11, slots := 2970, locals := 108 } : Room).cells ({ frames := 8, cells := 11, slots := 2970, locals := 108 } : Room).slots) := by
  refine MetFree.of_bodySF (plainFor_of_name pn_com_example_hyacinth_hyacinth_error_BeanDefinitionStoreException) hisR ?_
  intro p e s m args below meth c s₁ Bd hml0 hP hK
  obtain ⟨rfl, hZ, hh, H0'⟩ := hP
  have hx := Bd.exec
  have hby := Bd.bytes
  have hml : c.maxLocals = 2 := hml0
  have hown : s.vm.findClass "com/example/hyacinth/hyacinth/error/BeanDefinitionStoreException" = some m.cls := findClass_of_methodNamed Bd.named
  have hnm := (name_of_methodNamed Bd.named Bd.method).1
  have X0 : Stand p l e ({ frames := 8, cells := 11, slots := 2970, locals := 108 } : Room) (s.setVm s.vm) m #[(.ref x1), (.ref x2)] below meth c s₁ [] 0 0 := Stand.of_body Bd
  have e0 : s₁.heap = h0 := by rw [← hh, Bd.state]; rfl
  have N0 := Fr.nil n0
  have hS0 : s.Since s.vm h0.size := own_since0 s _
  have hk0 : h0.size ≤ h0.size := Nat.le_refl _
  have H0 : CHv Z consts_1 s.vm h0 := H0'
  have wS : ∀ a ∈ Bundle.stringAtoms, a.before a0 Z = true := fun a ha => hw a ((by decide +kernel : ∀ a ∈ Bundle.stringAtoms, a ∈ tables_1) a ha)
  have pre0 : ∀ t, Steps p.tables e below (s₁.setTop (mkF m 0 #[.val (.ref x1), .val (.ref x2)] [])) t → Steps p.tables e below (s₁.setTop (entryFrame m #[(.ref x1), (.ref x2)] 2)) t := fun t k => castTop (ef_rmInv m x1 x2) k
  obtain ⟨T1_, h1_, X1_, e1_, E1_, A1_, D1_, U1_, st1_⟩ := newO X0 hx hZ hown (hw _ (List.mem_of_getElem? (i := 26) rfl)) (hw _ (List.mem_of_getElem? (i := 27) rfl)) (hw _ (List.mem_of_getElem? (i := 24) rfl)) e0 (g := (mkF m 0 #[.val (.ref x1), .val (.ref x2)] [])) rfl (hb hby d4_0) (by exact Nat.le_of_ble_eq_true rfl) (by exact Nat.le_of_ble_eq_true rfl)
  obtain ⟨b1_, g1_⟩ : ∃ z, z = h0.size := ⟨_, rfl⟩
  rw [← g1_] at A1_ D1_ U1_ st1_
  have sf1_ : Safe Z consts_1 s.vm h0 b1_ := Safe.new (Nat.le_of_eq g1_.symm)
  have ch2_ : CHv Z consts_1 s.vm h1_ := CHv.ext E1_ H0
  have cr3_ := (CHr.refl H0).trans (CHr.ext E1_ H0)
  have F1__cause : Fld Z h1_ b1_ "java/lang/Throwable" "cause" "Ljava/lang/Throwable;" .null := D1_ (Or.inl (hw _ (List.mem_of_getElem? (i := 185) rfl))) (ty := (.object "java/lang/Throwable")) (by decide)
  have F1__stackTrace : Fld Z h1_ b1_ "java/lang/Throwable" "stackTrace" "[Ljava/lang/StackTraceElement;" .null := D1_ (Or.inl (hw _ (List.mem_of_getElem? (i := 188) rfl))) (ty := (.array (.object "java/lang/StackTraceElement"))) (by decide)
  have F1__suppressedExceptions : Fld Z h1_ b1_ "java/lang/Throwable" "suppressedExceptions" "Ljava/util/List;" .null := D1_ (Or.inl (hw _ (List.mem_of_getElem? (i := 191) rfl))) (ty := (.object "java/util/List")) (by decide)
  have F1__detailMessage : Fld Z h1_ b1_ "java/lang/Throwable" "detailMessage" "Ljava/lang/String;" .null := D1_ (Or.inl (hw _ (List.mem_of_getElem? (i := 215) rfl))) (ty := (.object "java/lang/String")) (by decide)
  have F1__backtrace : Fld Z h1_ b1_ "java/lang/Throwable" "backtrace" "Ljava/lang/Object;" .null := D1_ (Or.inl (hw _ (List.mem_of_getElem? (i := 216) rfl))) (ty := (.object "java/lang/Object")) (by decide)
  have F1__depth : Fld Z h1_ b1_ "java/lang/Throwable" "depth" "I" (.int (0 : Int32)) := D1_ (Or.inl (hw _ (List.mem_of_getElem? (i := 217) rfl))) (ty := .int) (by decide)
  obtain ⟨T4_, h4_, X4_, e4_, E4_, A4_, D4_, U4_, st4_⟩ := newO X1_ hx hZ hown (hw _ (List.mem_of_getElem? (i := 28) rfl)) (hw _ (List.mem_of_getElem? (i := 29) rfl)) (hw _ (List.mem_of_getElem? (i := 30) rfl)) e1_ (g := (mkF m 4 #[.val (.ref x1), .val (.ref x2)] [(.ref b1_), (.ref b1_)])) rfl (hb hby d4_4) (by exact Nat.le_of_ble_eq_true rfl) (by exact Nat.le_of_ble_eq_true rfl)
  obtain ⟨b4_, g4_⟩ : ∃ z, z = h1_.size := ⟨_, rfl⟩
  rw [← g4_] at A4_ D4_ U4_ st4_
  have sf4_ : Safe Z consts_1 s.vm h1_ b4_ := Safe.new (Nat.le_of_eq g4_.symm)
  have ch5_ : CHv Z consts_1 s.vm h4_ := CHv.ext E4_ ch2_
  have cr6_ := cr3_.trans (CHr.ext E4_ ch2_)
  have F4__value : Fld Z h4_ b4_ "java/lang/AbstractStringBuilder" "value" "[B" .null := D4_ (Or.inl (hw _ (List.mem_of_getElem? (i := 43) rfl))) (ty := (.array .byte)) (by decide)
  have F4__coder : Fld Z h4_ b4_ "java/lang/AbstractStringBuilder" "coder" "B" (.int (0 : Int32)) := D4_ (Or.inl (hw _ (List.mem_of_getElem? (i := 45) rfl))) (ty := .byte) (by decide)
  have F4__count : Fld Z h4_ b4_ "java/lang/AbstractStringBuilder" "count" "I" (.int (0 : Int32)) := D4_ (Or.inl (hw _ (List.mem_of_getElem? (i := 69) rfl))) (ty := .int) (by decide)
  have z9_ : n0 ≤ h1_.size := Nat.le_trans Z0 E1_.1
  have g8_ : n0 ≤ b4_ := Nat.le_trans z9_ (Nat.le_of_eq g4_.symm)
  have f10_ : Old Z n0 h4_ := ((O1.ext E1_).ext E4_)
  have z11_ : n0 ≤ h4_.size := Nat.le_trans z9_ E4_.1
  obtain ⟨_, _, ⟨T7_, L7_, k7_, n7_⟩, -, X7_, ⟨Lc7_, hQ7_, l7_, y7_, z7_⟩, st7_⟩ := X4_.specialBack hx (y := (⟨"java/lang/StringBuilder", "<init>", "()V"⟩ : MethodName)) rfl hown (mvT hZ (hw _ (List.mem_of_getElem? (i := 31) rfl))) (mvT hZ (hw _ (List.mem_of_getElem? (i := 32) rfl))) (mvT hZ (hw _ (List.mem_of_getElem? (i := 33) rfl))) (by decide) (backOf (W := 3) (sbInit2 l Z a0 hw [] b4_ G1 h4_ n0 z11_ A4_ F4__coder F4__value F4__count g8_ T1 P5 f10_) hZ (hw _ (List.mem_of_getElem? (i := 33) rfl)) (hw _ (List.mem_of_getElem? (i := 30) rfl)) (by decide) (by decide)) (g := (mkF m 8 #[.val (.ref x1), .val (.ref x2)] [(.ref b4_), (.ref b4_), (.ref b1_), (.ref b1_)])) rfl (by rw [hml]; rfl) (Steps.refl _) (a := b4_) (argsL := []) (rest := [(.ref b4_), (.ref b1_), (.ref b1_)]) (lenOf pd_qzV rfl) rfl (by show 2 * 0 + _ ≤ _; exact Nat.le_of_eq rfl) (hb hby d4_8) (fun _ _ => ⟨rfl, e4_, (by exact Nat.le_of_ble_eq_true rfl), (by exact Nat.le_of_ble_eq_true rfl)⟩)
  dsimp only [Pt.U, Pt.locs, Pt.cells, Pt.slots] at X7_ l7_ y7_ z7_ st7_ hQ7_
  subst L7_ k7_ n7_
  obtain ⟨v2_7_, k2_7_, rfl, Nq7_, ek7_, p7__0, p7__1, p7__2, p7__3, p7__4⟩ := hQ7_
  have N7_ := Fr.app N0 Nq7_
  have f12_ : Safe Z consts_1 s.vm h4_ b4_ := (Safe.ext E4_ ch2_ sf4_)
  have ch13_ : CHv Z consts_1 s.vm T7_.heap := CHv.keep ek7_ (sfS f12_ sf0) ch5_
  have cr14_ := cr6_.trans (CHr.keep ek7_ (sfS f12_ sf0) ch5_)
  obtain ⟨c15_, T15_, h15_, kk15_, c15_d, c15_k, X15_, e15_, E15_, hS15_, hk15_, hZ15_, hown15_, le15_, lc15_, lv15_, la15_, lx15_, ly15_, chr15_, lit15_, ls15_, st15_⟩ := ldcCH X7_ hx hZ hown (hw _ (List.mem_of_getElem? (i := 46) rfl)) wS rfl hS0 (Nat.le_trans (Nat.le_trans (Nat.le_trans hk0 E1_.1) E4_.1) ek7_.1) hEL (List.mem_of_getElem? (i := 1) rfl) ch13_ (vs := [(.int (105 : Int32)), (.int (110 : Int32)), (.int (118 : Int32)), (.int (97 : Int32)), (.int (108 : Int32)), (.int (105 : Int32)), (.int (100 : Int32)), (.int (32 : Int32)), (.int (98 : Int32)), (.int (101 : Int32)), (.int (97 : Int32)), (.int (110 : Int32)), (.int (32 : Int32)), (.int (100 : Int32)), (.int (101 : Int32)), (.int (102 : Int32)), (.int (105 : Int32)), (.int (110 : Int32)), (.int (105 : Int32)), (.int (116 : Int32)), (.int (105 : Int32)), (.int (111 : Int32)), (.int (110 : Int32)), (.int (32 : Int32)), (.int (39 : Int32))]) (z := (25 : Int32)) ⟨by decide, by decide⟩ (by decide) (by decide) (g := (mkF m 11 #[.val (.ref x1), .val (.ref x2)] [(.ref b4_), (.ref b1_), (.ref b1_)])) rfl (hb hby d4_11) (n := 100) (by decide) (by decide) (by exact Nat.le_of_ble_eq_true rfl) (by exact Nat.le_of_ble_eq_true rfl)
  have K15_ : Keep T7_.heap h15_ [] := (Keep.refl _ _).ext E15_
  have cr16_ := cr14_.trans chr15_
  have ch15_ := chr15_.1
  have str15_ : own_Str Z h15_ c15_ c15_d ([(105 : Int32), (110 : Int32), (118 : Int32), (97 : Int32), (108 : Int32), (105 : Int32), (100 : Int32), (32 : Int32), (98 : Int32), (101 : Int32), (97 : Int32), (110 : Int32), (32 : Int32), (100 : Int32), (101 : Int32), (102 : Int32), (105 : Int32), (110 : Int32), (105 : Int32), (116 : Int32), (105 : Int32), (111 : Int32), (110 : Int32), (32 : Int32), (39 : Int32)] : List Int32) := ⟨le15_, lc15_, lv15_, ⟨_, la15_⟩, by decide, by decide⟩
  have f18_ : Exa Z h15_ b4_ "java/lang/StringBuilder" := ((A4_.keep ek7_).keep K15_)
  have f19_ : Fld Z h15_ b4_ "java/lang/AbstractStringBuilder" "coder" "B" (.int (0 : Int32)) := (p7__0.keep K15_ nin0)
  have f20_ : Fld Z h15_ b4_ "java/lang/AbstractStringBuilder" "value" "[B" (.ref v2_7_) := (p7__1.keep K15_ nin0)
  have f21_ : Fld Z h15_ b4_ "java/lang/AbstractStringBuilder" "count" "I" (.int (Int32.ofNat ([] : List Int32).length)) := (p7__2.keep K15_ nin0)
  have f22_ : Arv Z h15_ v2_7_ k2_7_ .byte (Int32.ofNat 16) (own_pad ([] : List Int32) 16) (.int (0 : Int32)) := (p7__3.keep K15_ nin0)
  have f23_ : Old Z n0 h15_ := ((f10_.keep ek7_ (allS g8_ all0)).keep K15_ all0)
  have z24_ : n0 ≤ T7_.heap.size := Nat.le_trans z11_ ek7_.1
  have z25_ : n0 ≤ h15_.size := Nat.le_trans z24_ K15_.1
  obtain ⟨cq26_, kq26_, qa26_, qb26_, qc26_⟩ := isOf hZ15_ e15_ f18_
  obtain ⟨_, _, ⟨T17_, L17_, k17_, n17_⟩, -, X17_, ⟨Lc17_, hQ17_, l17_, y17_, z17_⟩, st17_⟩ := X15_.virtualBack hx (y := (⟨"java/lang/StringBuilder", "append", "(Ljava/lang/String;)Ljava/lang/StringBuilder;"⟩ : MethodName)) (z := (⟨"java/lang/StringBuilder", "append", "(Ljava/lang/String;)Ljava/lang/StringBuilder;"⟩ : MethodName)) hown15_ (mvT hZ15_ (hw _ (List.mem_of_getElem? (i := 47) rfl))) (mvT hZ15_ (hw _ (List.mem_of_getElem? (i := 48) rfl))) (notFace_of_selects (args := #[]) (mvT hZ15_ (hw _ (List.mem_of_getElem? (i := 50) rfl)))) (mvT hZ15_ (hw _ (List.mem_of_getElem? (i := 50) rfl))) (mvT hZ15_ (hw _ (List.mem_of_getElem? (i := 49) rfl))) (by decide) (backOf (W := 2) (sbApp2G l Z a0 hw [] b4_ c15_ c15_d ([(105 : Int32), (110 : Int32), (118 : Int32), (97 : Int32), (108 : Int32), (105 : Int32), (100 : Int32), (32 : Int32), (98 : Int32), (101 : Int32), (97 : Int32), (110 : Int32), (32 : Int32), (100 : Int32), (101 : Int32), (102 : Int32), (105 : Int32), (110 : Int32), (105 : Int32), (116 : Int32), (105 : Int32), (111 : Int32), (110 : Int32), (32 : Int32), (39 : Int32)] : List Int32) v2_7_ k2_7_ G1 h15_ n0 z25_ str15_ f18_ f19_ f20_ f21_ f22_ T1 P5 f23_ g8_ rfl) hZ15_ (hw _ (List.mem_of_getElem? (i := 51) rfl)) (hw _ (List.mem_of_getElem? (i := 30) rfl)) (by decide) (by decide)) qa26_ qc26_ (g := (mkF m 13 #[.val (.ref x1), .val (.ref x2)] [(.ref c15_), (.ref b4_), (.ref b1_), (.ref b1_)])) rfl (by rw [hml]; rfl) (Steps.refl _) (argsL := [(.ref c15_)]) (rest := [(.ref b1_), (.ref b1_)]) (lenOf pd_qLjava_lang_StringzLjava_lang_StringBuilder rfl) rfl (by show 2 * 0 + _ ≤ _; exact Nat.le_of_eq rfl) (hb hby d4_13) (fun _ _ => ⟨rfl, e15_, (by exact Nat.le_of_ble_eq_true rfl), (by exact Nat.le_of_ble_eq_true rfl)⟩)
  dsimp only [Pt.U, Pt.locs, Pt.cells, Pt.slots] at X17_ l17_ y17_ z17_ st17_ hQ17_
  subst L17_ k17_ n17_
  obtain ⟨v2_17_, k2_17_, rfl, Nq17_, ek17_, p17__0, p17__1, p17__2, p17__3, p17__4⟩ := hQ17_
  have N17_ := Fr.app N7_ Nq17_
  have f27_ : Safe Z consts_1 T15_.vm h15_ b4_ := (chr15_.safe (A4_.keep ek7_).lt (Safe.keep ek7_ (sfS f12_ sf0) ch5_ f12_))
  have ch28_ : CHv Z consts_1 T15_.vm T17_.heap := CHv.keep ek17_ (sfS f27_ sf0) ch15_
  have cr29_ := cr16_.trans (CHr.keep ek17_ (sfS f27_ sf0) ch15_)
  have f31_ : own_Str Z T17_.heap x1 t1 cs1 := (((((S1.ext E1_).ext E4_).keep ek7_ (ninS (Nat.ne_of_lt (Nat.lt_of_lt_of_le (own_Str.lt (S1.ext E1_)) (Nat.le_of_eq g4_.symm))) nin0) (ninS (Nat.ne_of_lt (Nat.lt_of_lt_of_le (own_Str.lt2 (S1.ext E1_)) (Nat.le_of_eq g4_.symm))) nin0)).keep K15_ nin0 nin0).keep ek17_ (ninS (Nat.ne_of_lt (Nat.lt_of_lt_of_le (own_Str.lt (S1.ext E1_)) (Nat.le_of_eq g4_.symm))) nin0) (ninS (Nat.ne_of_lt (Nat.lt_of_lt_of_le (own_Str.lt2 (S1.ext E1_)) (Nat.le_of_eq g4_.symm))) nin0))
  have f32_ : Exa Z T17_.heap b4_ "java/lang/StringBuilder" := (f18_.keep ek17_)
  have f33_ : Old Z n0 T17_.heap := (f23_.keep ek17_ (allS g8_ all0))
  have g34_ : n0 ≤ v2_17_ := Nat.le_trans z25_ p17__4
  have z35_ : n0 ≤ T17_.heap.size := Nat.le_trans z25_ ek17_.1
  obtain ⟨cq36_, kq36_, qa36_, qb36_, qc36_⟩ := isOf hZ15_ rfl f32_
  obtain ⟨_, _, ⟨T30_, L30_, k30_, n30_⟩, -, X30_, ⟨Lc30_, hQ30_, l30_, y30_, z30_⟩, st30_⟩ := X17_.virtualBack hx (y := (⟨"java/lang/StringBuilder", "append", "(Ljava/lang/String;)Ljava/lang/StringBuilder;"⟩ : MethodName)) (z := (⟨"java/lang/StringBuilder", "append", "(Ljava/lang/String;)Ljava/lang/StringBuilder;"⟩ : MethodName)) hown15_ (mvT hZ15_ (hw _ (List.mem_of_getElem? (i := 47) rfl))) (mvT hZ15_ (hw _ (List.mem_of_getElem? (i := 48) rfl))) (notFace_of_selects (args := #[]) (mvT hZ15_ (hw _ (List.mem_of_getElem? (i := 50) rfl)))) (mvT hZ15_ (hw _ (List.mem_of_getElem? (i := 50) rfl))) (mvT hZ15_ (hw _ (List.mem_of_getElem? (i := 49) rfl))) (by decide) (backOf (W := 2) (sbApp2 l Z a0 hw [] b4_ x1 t1 cs1 v2_17_ k2_17_ (([] : List Int32) ++ ([(105 : Int32), (110 : Int32), (118 : Int32), (97 : Int32), (108 : Int32), (105 : Int32), (100 : Int32), (32 : Int32), (98 : Int32), (101 : Int32), (97 : Int32), (110 : Int32), (32 : Int32), (100 : Int32), (101 : Int32), (102 : Int32), (105 : Int32), (110 : Int32), (105 : Int32), (116 : Int32), (105 : Int32), (111 : Int32), (110 : Int32), (32 : Int32), (39 : Int32)] : List Int32)) 34 G1 T17_.heap n0 z35_ f31_ f32_ p17__0 p17__1 p17__2 p17__3 T1 P5 f33_ g34_ g8_ (Nat.ne_of_lt (Nat.lt_of_lt_of_le (own_Str.lt2 ((((S1.ext E1_).ext E4_).keep ek7_ (ninS (Nat.ne_of_lt (Nat.lt_of_lt_of_le (own_Str.lt (S1.ext E1_)) (Nat.le_of_eq g4_.symm))) nin0) (ninS (Nat.ne_of_lt (Nat.lt_of_lt_of_le (own_Str.lt2 (S1.ext E1_)) (Nat.le_of_eq g4_.symm))) nin0)).keep K15_ nin0 nin0)) p17__4)) (by simp only [List.length_append, List.length_cons, List.length_nil]; omega) (by decide)) hZ15_ (hw _ (List.mem_of_getElem? (i := 51) rfl)) (hw _ (List.mem_of_getElem? (i := 30) rfl)) (by decide) (by decide)) qa36_ qc36_ (g := (mkF m 17 #[.val (.ref x1), .val (.ref x2)] [(.ref x1), (.ref b4_), (.ref b1_), (.ref b1_)])) rfl (by rw [hml]; rfl) (Steps.refl _) (argsL := [(.ref x1)]) (rest := [(.ref b1_), (.ref b1_)]) (lenOf pd_qLjava_lang_StringzLjava_lang_StringBuilder rfl) rfl (by show 2 * 0 + _ ≤ _; exact Nat.le_of_eq rfl) (hb hby d4_17) (fun _ _ => ⟨rfl, rfl, (by exact Nat.le_of_ble_eq_true rfl), (by exact Nat.le_of_ble_eq_true rfl)⟩)
  dsimp only [Pt.U, Pt.locs, Pt.cells, Pt.slots] at X30_ l30_ y30_ z30_ st30_ hQ30_
  subst L30_ k30_ n30_
  obtain ⟨rfl, Nq30_, ek30_, p30__0, p30__1, p30__2, p30__3⟩ := hQ30_
  have N30_ := Fr.app N17_ Nq30_
  have f37_ : Safe Z consts_1 T15_.vm T17_.heap v2_17_ := (Safe.keep ek17_ (sfS f27_ sf0) ch15_ (Safe.new p17__4))
  have f38_ : Safe Z consts_1 T15_.vm T17_.heap b4_ := (Safe.keep ek17_ (sfS f27_ sf0) ch15_ f27_)
  have ch39_ : CHv Z consts_1 T15_.vm T30_.heap := CHv.keep ek30_ (sfS f38_ (sfS f37_ sf0)) ch28_
  have cr40_ := cr29_.trans (CHr.keep ek30_ (sfS f38_ (sfS f37_ sf0)) ch28_)
  obtain ⟨c41_, T41_, h41_, kk41_, c41_d, c41_k, X41_, e41_, E41_, hS41_, hk41_, hZ41_, hown41_, le41_, lc41_, lv41_, la41_, lx41_, ly41_, chr41_, lit41_, ls41_, st41_⟩ := ldcCH X30_ hx hZ15_ hown15_ (hw _ (List.mem_of_getElem? (i := 118) rfl)) wS rfl hS15_ (Nat.le_trans (Nat.le_trans hk15_ ek17_.1) ek30_.1) hEL (List.mem_of_getElem? (i := 0) rfl) ch39_ (vs := [(.int (39 : Int32)), (.int (58 : Int32)), (.int (32 : Int32))]) (z := (3 : Int32)) ⟨by decide, by decide⟩ (by decide) (by decide) (g := (mkF m 20 #[.val (.ref x1), .val (.ref x2)] [(.ref b4_), (.ref b1_), (.ref b1_)])) rfl (hb hby d4_20) (n := 12) (by decide) (by decide) (by exact Nat.le_of_ble_eq_true rfl) (by exact Nat.le_of_ble_eq_true rfl)
  have K41_ : Keep T30_.heap h41_ [] := (Keep.refl _ _).ext E41_
  have cr42_ := cr40_.trans chr41_
  have ch41_ := chr41_.1
  have str41_ : own_Str Z h41_ c41_ c41_d ([(39 : Int32), (58 : Int32), (32 : Int32)] : List Int32) := ⟨le41_, lc41_, lv41_, ⟨_, la41_⟩, by decide, by decide⟩
  have f44_ : Exa Z h41_ b4_ "java/lang/StringBuilder" := ((f32_.keep ek30_).keep K41_)
  have f45_ : Fld Z h41_ b4_ "java/lang/AbstractStringBuilder" "coder" "B" (.int (0 : Int32)) := (p30__0.keep K41_ nin0)
  have f46_ : Fld Z h41_ b4_ "java/lang/AbstractStringBuilder" "value" "[B" (.ref v2_17_) := (p30__1.keep K41_ nin0)
  have f47_ : Fld Z h41_ b4_ "java/lang/AbstractStringBuilder" "count" "I" (.int (Int32.ofNat ((([] : List Int32) ++ ([(105 : Int32), (110 : Int32), (118 : Int32), (97 : Int32), (108 : Int32), (105 : Int32), (100 : Int32), (32 : Int32), (98 : Int32), (101 : Int32), (97 : Int32), (110 : Int32), (32 : Int32), (100 : Int32), (101 : Int32), (102 : Int32), (105 : Int32), (110 : Int32), (105 : Int32), (116 : Int32), (105 : Int32), (111 : Int32), (110 : Int32), (32 : Int32), (39 : Int32)] : List Int32)) ++ cs1).length)) := (p30__2.keep K41_ nin0)
  have f48_ : Arv Z h41_ v2_17_ k2_17_ .byte (Int32.ofNat 34) (own_pad ((([] : List Int32) ++ ([(105 : Int32), (110 : Int32), (118 : Int32), (97 : Int32), (108 : Int32), (105 : Int32), (100 : Int32), (32 : Int32), (98 : Int32), (101 : Int32), (97 : Int32), (110 : Int32), (32 : Int32), (100 : Int32), (101 : Int32), (102 : Int32), (105 : Int32), (110 : Int32), (105 : Int32), (116 : Int32), (105 : Int32), (111 : Int32), (110 : Int32), (32 : Int32), (39 : Int32)] : List Int32)) ++ cs1) 34) (.int (0 : Int32)) := (p30__3.keep K41_ nin0)
  have f49_ : Old Z n0 h41_ := ((f33_.keep ek30_ (allS g8_ (allS g34_ all0))).keep K41_ all0)
  have z50_ : n0 ≤ T30_.heap.size := Nat.le_trans z35_ ek30_.1
  have z51_ : n0 ≤ h41_.size := Nat.le_trans z50_ K41_.1
  obtain ⟨cq52_, kq52_, qa52_, qb52_, qc52_⟩ := isOf hZ41_ e41_ f44_
  obtain ⟨_, _, ⟨T43_, L43_, k43_, n43_⟩, -, X43_, ⟨Lc43_, hQ43_, l43_, y43_, z43_⟩, st43_⟩ := X41_.virtualBack hx (y := (⟨"java/lang/StringBuilder", "append", "(Ljava/lang/String;)Ljava/lang/StringBuilder;"⟩ : MethodName)) (z := (⟨"java/lang/StringBuilder", "append", "(Ljava/lang/String;)Ljava/lang/StringBuilder;"⟩ : MethodName)) hown41_ (mvT hZ41_ (hw _ (List.mem_of_getElem? (i := 47) rfl))) (mvT hZ41_ (hw _ (List.mem_of_getElem? (i := 48) rfl))) (notFace_of_selects (args := #[]) (mvT hZ41_ (hw _ (List.mem_of_getElem? (i := 50) rfl)))) (mvT hZ41_ (hw _ (List.mem_of_getElem? (i := 50) rfl))) (mvT hZ41_ (hw _ (List.mem_of_getElem? (i := 49) rfl))) (by decide) (backOf (W := 2) (sbApp2 l Z a0 hw [] b4_ c41_ c41_d ([(39 : Int32), (58 : Int32), (32 : Int32)] : List Int32) v2_17_ k2_17_ ((([] : List Int32) ++ ([(105 : Int32), (110 : Int32), (118 : Int32), (97 : Int32), (108 : Int32), (105 : Int32), (100 : Int32), (32 : Int32), (98 : Int32), (101 : Int32), (97 : Int32), (110 : Int32), (32 : Int32), (100 : Int32), (101 : Int32), (102 : Int32), (105 : Int32), (110 : Int32), (105 : Int32), (116 : Int32), (105 : Int32), (111 : Int32), (110 : Int32), (32 : Int32), (39 : Int32)] : List Int32)) ++ cs1) 34 G1 h41_ n0 z51_ str41_ f44_ f45_ f46_ f47_ f48_ T1 P5 f49_ g34_ g8_ (Ne.symm (ls41_ _ (chr41_.safe p30__3.lt (Safe.keep ek30_ (sfS f38_ (sfS f37_ sf0)) ch28_ f37_))).2) (by simp only [List.length_append, List.length_cons, List.length_nil]; omega) (by decide)) hZ41_ (hw _ (List.mem_of_getElem? (i := 51) rfl)) (hw _ (List.mem_of_getElem? (i := 30) rfl)) (by decide) (by decide)) qa52_ qc52_ (g := (mkF m 22 #[.val (.ref x1), .val (.ref x2)] [(.ref c41_), (.ref b4_), (.ref b1_), (.ref b1_)])) rfl (by rw [hml]; rfl) (Steps.refl _) (argsL := [(.ref c41_)]) (rest := [(.ref b1_), (.ref b1_)]) (lenOf pd_qLjava_lang_StringzLjava_lang_StringBuilder rfl) rfl (by show 2 * 0 + _ ≤ _; exact Nat.le_of_eq rfl) (hb hby d4_22) (fun _ _ => ⟨rfl, e41_, (by exact Nat.le_of_ble_eq_true rfl), (by exact Nat.le_of_ble_eq_true rfl)⟩)
  dsimp only [Pt.U, Pt.locs, Pt.cells, Pt.slots] at X43_ l43_ y43_ z43_ st43_ hQ43_
  subst L43_ k43_ n43_
  obtain ⟨rfl, Nq43_, ek43_, p43__0, p43__1, p43__2, p43__3⟩ := hQ43_
  have N43_ := Fr.app N30_ Nq43_
  have f53_ : Safe Z consts_1 T41_.vm h41_ v2_17_ := (chr41_.safe p30__3.lt (Safe.keep ek30_ (sfS f38_ (sfS f37_ sf0)) ch28_ f37_))
  have f54_ : Safe Z consts_1 T41_.vm h41_ b4_ := (chr41_.safe (f32_.keep ek30_).lt (Safe.keep ek30_ (sfS f38_ (sfS f37_ sf0)) ch28_ f38_))
  have ch55_ : CHv Z consts_1 T41_.vm T43_.heap := CHv.keep ek43_ (sfS f54_ (sfS f53_ sf0)) ch41_
  have cr56_ := cr42_.trans (CHr.keep ek43_ (sfS f54_ (sfS f53_ sf0)) ch41_)
  have f58_ : own_Str Z T43_.heap x2 t2 cs2 := ((((((((S2.ext E1_).ext E4_).keep ek7_ (ninS (Nat.ne_of_lt (Nat.lt_of_lt_of_le (own_Str.lt (S2.ext E1_)) (Nat.le_of_eq g4_.symm))) nin0) (ninS (Nat.ne_of_lt (Nat.lt_of_lt_of_le (own_Str.lt2 (S2.ext E1_)) (Nat.le_of_eq g4_.symm))) nin0)).keep K15_ nin0 nin0).keep ek17_ (ninS (Nat.ne_of_lt (Nat.lt_of_lt_of_le (own_Str.lt (S2.ext E1_)) (Nat.le_of_eq g4_.symm))) nin0) (ninS (Nat.ne_of_lt (Nat.lt_of_lt_of_le (own_Str.lt2 (S2.ext E1_)) (Nat.le_of_eq g4_.symm))) nin0)).keep ek30_ (ninS (Nat.ne_of_lt (Nat.lt_of_lt_of_le (own_Str.lt (S2.ext E1_)) (Nat.le_of_eq g4_.symm))) (ninS (Nat.ne_of_lt (Nat.lt_of_lt_of_le (own_Str.lt ((((S2.ext E1_).ext E4_).keep ek7_ (ninS (Nat.ne_of_lt (Nat.lt_of_lt_of_le (own_Str.lt (S2.ext E1_)) (Nat.le_of_eq g4_.symm))) nin0) (ninS (Nat.ne_of_lt (Nat.lt_of_lt_of_le (own_Str.lt2 (S2.ext E1_)) (Nat.le_of_eq g4_.symm))) nin0)).keep K15_ nin0 nin0)) p17__4)) nin0)) (ninS (Nat.ne_of_lt (Nat.lt_of_lt_of_le (own_Str.lt2 (S2.ext E1_)) (Nat.le_of_eq g4_.symm))) (ninS (Nat.ne_of_lt (Nat.lt_of_lt_of_le (own_Str.lt2 ((((S2.ext E1_).ext E4_).keep ek7_ (ninS (Nat.ne_of_lt (Nat.lt_of_lt_of_le (own_Str.lt (S2.ext E1_)) (Nat.le_of_eq g4_.symm))) nin0) (ninS (Nat.ne_of_lt (Nat.lt_of_lt_of_le (own_Str.lt2 (S2.ext E1_)) (Nat.le_of_eq g4_.symm))) nin0)).keep K15_ nin0 nin0)) p17__4)) nin0))).keep K41_ nin0 nin0).keep ek43_ (ninS (Nat.ne_of_lt (Nat.lt_of_lt_of_le (own_Str.lt (S2.ext E1_)) (Nat.le_of_eq g4_.symm))) (ninS (Nat.ne_of_lt (Nat.lt_of_lt_of_le (own_Str.lt ((((S2.ext E1_).ext E4_).keep ek7_ (ninS (Nat.ne_of_lt (Nat.lt_of_lt_of_le (own_Str.lt (S2.ext E1_)) (Nat.le_of_eq g4_.symm))) nin0) (ninS (Nat.ne_of_lt (Nat.lt_of_lt_of_le (own_Str.lt2 (S2.ext E1_)) (Nat.le_of_eq g4_.symm))) nin0)).keep K15_ nin0 nin0)) p17__4)) nin0)) (ninS (Nat.ne_of_lt (Nat.lt_of_lt_of_le (own_Str.lt2 (S2.ext E1_)) (Nat.le_of_eq g4_.symm))) (ninS (Nat.ne_of_lt (Nat.lt_of_lt_of_le (own_Str.lt2 ((((S2.ext E1_).ext E4_).keep ek7_ (ninS (Nat.ne_of_lt (Nat.lt_of_lt_of_le (own_Str.lt (S2.ext E1_)) (Nat.le_of_eq g4_.symm))) nin0) (ninS (Nat.ne_of_lt (Nat.lt_of_lt_of_le (own_Str.lt2 (S2.ext E1_)) (Nat.le_of_eq g4_.symm))) nin0)).keep K15_ nin0 nin0)) p17__4)) nin0)))
  have f59_ : Exa Z T43_.heap b4_ "java/lang/StringBuilder" := (f44_.keep ek43_)
  have f60_ : Old Z n0 T43_.heap := (f49_.keep ek43_ (allS g8_ (allS g34_ all0)))
  have z61_ : n0 ≤ T43_.heap.size := Nat.le_trans z51_ ek43_.1
  obtain ⟨cq62_, kq62_, qa62_, qb62_, qc62_⟩ := isOf hZ41_ rfl f59_
  obtain ⟨_, _, ⟨T57_, L57_, k57_, n57_⟩, -, X57_, ⟨Lc57_, hQ57_, l57_, y57_, z57_⟩, st57_⟩ := X43_.virtualBack hx (y := (⟨"java/lang/StringBuilder", "append", "(Ljava/lang/String;)Ljava/lang/StringBuilder;"⟩ : MethodName)) (z := (⟨"java/lang/StringBuilder", "append", "(Ljava/lang/String;)Ljava/lang/StringBuilder;"⟩ : MethodName)) hown41_ (mvT hZ41_ (hw _ (List.mem_of_getElem? (i := 47) rfl))) (mvT hZ41_ (hw _ (List.mem_of_getElem? (i := 48) rfl))) (notFace_of_selects (args := #[]) (mvT hZ41_ (hw _ (List.mem_of_getElem? (i := 50) rfl)))) (mvT hZ41_ (hw _ (List.mem_of_getElem? (i := 50) rfl))) (mvT hZ41_ (hw _ (List.mem_of_getElem? (i := 49) rfl))) (by decide) (backOf (W := 2) (sbApp2 l Z a0 hw [] b4_ x2 t2 cs2 v2_17_ k2_17_ (((([] : List Int32) ++ ([(105 : Int32), (110 : Int32), (118 : Int32), (97 : Int32), (108 : Int32), (105 : Int32), (100 : Int32), (32 : Int32), (98 : Int32), (101 : Int32), (97 : Int32), (110 : Int32), (32 : Int32), (100 : Int32), (101 : Int32), (102 : Int32), (105 : Int32), (110 : Int32), (105 : Int32), (116 : Int32), (105 : Int32), (111 : Int32), (110 : Int32), (32 : Int32), (39 : Int32)] : List Int32)) ++ cs1) ++ ([(39 : Int32), (58 : Int32), (32 : Int32)] : List Int32)) 34 G1 T43_.heap n0 z61_ f58_ f59_ p43__0 p43__1 p43__2 p43__3 T1 P5 f60_ g34_ g8_ (Nat.ne_of_lt (Nat.lt_of_lt_of_le (own_Str.lt2 ((((S2.ext E1_).ext E4_).keep ek7_ (ninS (Nat.ne_of_lt (Nat.lt_of_lt_of_le (own_Str.lt (S2.ext E1_)) (Nat.le_of_eq g4_.symm))) nin0) (ninS (Nat.ne_of_lt (Nat.lt_of_lt_of_le (own_Str.lt2 (S2.ext E1_)) (Nat.le_of_eq g4_.symm))) nin0)).keep K15_ nin0 nin0)) p17__4)) (by simp only [List.length_append, List.length_cons, List.length_nil]; omega) (by decide)) hZ41_ (hw _ (List.mem_of_getElem? (i := 51) rfl)) (hw _ (List.mem_of_getElem? (i := 30) rfl)) (by decide) (by decide)) qa62_ qc62_ (g := (mkF m 26 #[.val (.ref x1), .val (.ref x2)] [(.ref x2), (.ref b4_), (.ref b1_), (.ref b1_)])) rfl (by rw [hml]; rfl) (Steps.refl _) (argsL := [(.ref x2)]) (rest := [(.ref b1_), (.ref b1_)]) (lenOf pd_qLjava_lang_StringzLjava_lang_StringBuilder rfl) rfl (by show 2 * 0 + _ ≤ _; exact Nat.le_of_eq rfl) (hb hby d4_26) (fun _ _ => ⟨rfl, rfl, (by exact Nat.le_of_ble_eq_true rfl), (by exact Nat.le_of_ble_eq_true rfl)⟩)
  dsimp only [Pt.U, Pt.locs, Pt.cells, Pt.slots] at X57_ l57_ y57_ z57_ st57_ hQ57_
  subst L57_ k57_ n57_
  obtain ⟨rfl, Nq57_, ek57_, p57__0, p57__1, p57__2, p57__3⟩ := hQ57_
  have N57_ := Fr.app N43_ Nq57_
  have f63_ : Safe Z consts_1 T41_.vm T43_.heap v2_17_ := (Safe.keep ek43_ (sfS f54_ (sfS f53_ sf0)) ch41_ f53_)
  have f64_ : Safe Z consts_1 T41_.vm T43_.heap b4_ := (Safe.keep ek43_ (sfS f54_ (sfS f53_ sf0)) ch41_ f54_)
  have ch65_ : CHv Z consts_1 T41_.vm T57_.heap := CHv.keep ek57_ (sfS f64_ (sfS f63_ sf0)) ch55_
  have cr66_ := cr56_.trans (CHr.keep ek57_ (sfS f64_ (sfS f63_ sf0)) ch55_)
  have hlat_ : ∀ c ∈ ((((([] : List Int32) ++ ([(105 : Int32), (110 : Int32), (118 : Int32), (97 : Int32), (108 : Int32), (105 : Int32), (100 : Int32), (32 : Int32), (98 : Int32), (101 : Int32), (97 : Int32), (110 : Int32), (32 : Int32), (100 : Int32), (101 : Int32), (102 : Int32), (105 : Int32), (110 : Int32), (105 : Int32), (116 : Int32), (105 : Int32), (111 : Int32), (110 : Int32), (32 : Int32), (39 : Int32)] : List Int32)) ++ cs1) ++ ([(39 : Int32), (58 : Int32), (32 : Int32)] : List Int32)) ++ cs2), ¬ c < 0 ∧ ¬ (255 : Int32) < c := by
    intro c hc
    simp only [List.mem_append] at hc
    rcases hc with (((hc | hc) | hc) | hc) | hc
    · cases hc
    · exact (by decide : ∀ c ∈ ([(105 : Int32), (110 : Int32), (118 : Int32), (97 : Int32), (108 : Int32), (105 : Int32), (100 : Int32), (32 : Int32), (98 : Int32), (101 : Int32), (97 : Int32), (110 : Int32), (32 : Int32), (100 : Int32), (101 : Int32), (102 : Int32), (105 : Int32), (110 : Int32), (105 : Int32), (116 : Int32), (105 : Int32), (111 : Int32), (110 : Int32), (32 : Int32), (39 : Int32)] : List Int32), ¬ c < 0 ∧ ¬ (255 : Int32) < c) c hc
    · exact S1.2.2.2.2.1 c hc
    · exact (by decide : ∀ c ∈ ([(39 : Int32), (58 : Int32), (32 : Int32)] : List Int32), ¬ c < 0 ∧ ¬ (255 : Int32) < c) c hc
    · exact S2.2.2.2.2.1 c hc
  have f68_ : Exa Z T57_.heap b4_ "java/lang/StringBuilder" := (f59_.keep ek57_)
  have f69_ : Old Z n0 T57_.heap := (f60_.keep ek57_ (allS g8_ (allS g34_ all0)))
  have z70_ : n0 ≤ T57_.heap.size := Nat.le_trans z61_ ek57_.1
  obtain ⟨cq71_, kq71_, qa71_, qb71_, qc71_⟩ := isOf hZ41_ rfl f68_
  obtain ⟨_, _, ⟨T67_, L67_, k67_, n67_⟩, -, X67_, ⟨Lc67_, hQ67_, l67_, y67_, z67_⟩, st67_⟩ := X57_.virtualBack hx (y := (⟨"java/lang/StringBuilder", "toString", "()Ljava/lang/String;"⟩ : MethodName)) (z := (⟨"java/lang/StringBuilder", "toString", "()Ljava/lang/String;"⟩ : MethodName)) hown41_ (mvT hZ41_ (hw _ (List.mem_of_getElem? (i := 119) rfl))) (mvT hZ41_ (hw _ (List.mem_of_getElem? (i := 120) rfl))) (notFace_of_selects (args := #[]) (mvT hZ41_ (hw _ (List.mem_of_getElem? (i := 122) rfl)))) (mvT hZ41_ (hw _ (List.mem_of_getElem? (i := 122) rfl))) (mvT hZ41_ (hw _ (List.mem_of_getElem? (i := 121) rfl))) (by decide) (backOf (W := 2) (sbToS l Z a0 hw [] b4_ v2_17_ k2_17_ ((((([] : List Int32) ++ ([(105 : Int32), (110 : Int32), (118 : Int32), (97 : Int32), (108 : Int32), (105 : Int32), (100 : Int32), (32 : Int32), (98 : Int32), (101 : Int32), (97 : Int32), (110 : Int32), (32 : Int32), (100 : Int32), (101 : Int32), (102 : Int32), (105 : Int32), (110 : Int32), (105 : Int32), (116 : Int32), (105 : Int32), (111 : Int32), (110 : Int32), (32 : Int32), (39 : Int32)] : List Int32)) ++ cs1) ++ ([(39 : Int32), (58 : Int32), (32 : Int32)] : List Int32)) ++ cs2) 34 G1 T57_.heap n0 z70_ f68_ p57__0 p57__1 p57__2 p57__3 T1 P5 f69_ (by simp only [List.length_append, List.length_cons, List.length_nil]; omega) (by decide) hlat_) hZ41_ (hw _ (List.mem_of_getElem? (i := 123) rfl)) (hw _ (List.mem_of_getElem? (i := 30) rfl)) (by decide) (by decide)) qa71_ qc71_ (g := (mkF m 29 #[.val (.ref x1), .val (.ref x2)] [(.ref b4_), (.ref b1_), (.ref b1_)])) rfl (by rw [hml]; rfl) (Steps.refl _) (argsL := []) (rest := [(.ref b1_), (.ref b1_)]) (lenOf pd_qzLjava_lang_String rfl) rfl (by show 2 * 0 + _ ≤ _; exact Nat.le_of_eq rfl) (hb hby d4_29) (fun _ _ => ⟨rfl, rfl, (by exact Nat.le_of_ble_eq_true rfl), (by exact Nat.le_of_ble_eq_true rfl)⟩)
  dsimp only [Pt.U, Pt.locs, Pt.cells, Pt.slots] at X67_ l67_ y67_ z67_ st67_ hQ67_
  subst L67_ k67_ n67_
  obtain ⟨x1_67_, t1_67_, rfl, Nq67_, ek67_, p67__0, p67__1, p67__2⟩ := hQ67_
  have N67_ := Fr.app N57_ Nq67_
  have ch72_ : CHv Z consts_1 T41_.vm T67_.heap := CHv.keep ek67_ sf0 ch65_
  have cr73_ := cr66_.trans (CHr.keep ek67_ sf0 ch65_)
  have f75_ : Exa Z T67_.heap b1_ "com/example/hyacinth/hyacinth/error/BeanDefinitionStoreException" := (((((((((A1_.ext E4_).keep ek7_).keep K15_).keep ek17_).keep ek30_).keep K41_).keep ek43_).keep ek57_).keep ek67_)
  have f76_ : Unt T67_.heap b1_ := (Unt.keep ek67_ nin0 (Unt.keep ek57_ (ninS (Nat.ne_of_lt (Nat.lt_of_lt_of_le A1_.lt (Nat.le_of_eq g4_.symm))) (ninS (Nat.ne_of_lt (Nat.lt_of_lt_of_le (((A1_.ext E4_).keep ek7_).keep K15_).lt p17__4)) nin0)) (Unt.keep ek43_ (ninS (Nat.ne_of_lt (Nat.lt_of_lt_of_le A1_.lt (Nat.le_of_eq g4_.symm))) (ninS (Nat.ne_of_lt (Nat.lt_of_lt_of_le (((A1_.ext E4_).keep ek7_).keep K15_).lt p17__4)) nin0)) (Unt.keep K41_ nin0 (Unt.keep ek30_ (ninS (Nat.ne_of_lt (Nat.lt_of_lt_of_le A1_.lt (Nat.le_of_eq g4_.symm))) (ninS (Nat.ne_of_lt (Nat.lt_of_lt_of_le (((A1_.ext E4_).keep ek7_).keep K15_).lt p17__4)) nin0)) (Unt.keep ek17_ (ninS (Nat.ne_of_lt (Nat.lt_of_lt_of_le A1_.lt (Nat.le_of_eq g4_.symm))) nin0) (Unt.keep K15_ nin0 (Unt.keep ek7_ (ninS (Nat.ne_of_lt (Nat.lt_of_lt_of_le A1_.lt (Nat.le_of_eq g4_.symm))) nin0) (Unt.ext E4_ U1_)))))))))
  have f77_ : Fld Z T67_.heap b1_ "java/lang/Throwable" "cause" "Ljava/lang/Throwable;" .null := (((((((((F1__cause.ext E4_).keep ek7_ (ninS (Nat.ne_of_lt (Nat.lt_of_lt_of_le A1_.lt (Nat.le_of_eq g4_.symm))) nin0)).keep K15_ nin0).keep ek17_ (ninS (Nat.ne_of_lt (Nat.lt_of_lt_of_le A1_.lt (Nat.le_of_eq g4_.symm))) nin0)).keep ek30_ (ninS (Nat.ne_of_lt (Nat.lt_of_lt_of_le A1_.lt (Nat.le_of_eq g4_.symm))) (ninS (Nat.ne_of_lt (Nat.lt_of_lt_of_le (((A1_.ext E4_).keep ek7_).keep K15_).lt p17__4)) nin0))).keep K41_ nin0).keep ek43_ (ninS (Nat.ne_of_lt (Nat.lt_of_lt_of_le A1_.lt (Nat.le_of_eq g4_.symm))) (ninS (Nat.ne_of_lt (Nat.lt_of_lt_of_le (((A1_.ext E4_).keep ek7_).keep K15_).lt p17__4)) nin0))).keep ek57_ (ninS (Nat.ne_of_lt (Nat.lt_of_lt_of_le A1_.lt (Nat.le_of_eq g4_.symm))) (ninS (Nat.ne_of_lt (Nat.lt_of_lt_of_le (((A1_.ext E4_).keep ek7_).keep K15_).lt p17__4)) nin0))).keep ek67_ nin0)
  have f78_ : Fld Z T67_.heap b1_ "java/lang/Throwable" "stackTrace" "[Ljava/lang/StackTraceElement;" .null := (((((((((F1__stackTrace.ext E4_).keep ek7_ (ninS (Nat.ne_of_lt (Nat.lt_of_lt_of_le A1_.lt (Nat.le_of_eq g4_.symm))) nin0)).keep K15_ nin0).keep ek17_ (ninS (Nat.ne_of_lt (Nat.lt_of_lt_of_le A1_.lt (Nat.le_of_eq g4_.symm))) nin0)).keep ek30_ (ninS (Nat.ne_of_lt (Nat.lt_of_lt_of_le A1_.lt (Nat.le_of_eq g4_.symm))) (ninS (Nat.ne_of_lt (Nat.lt_of_lt_of_le (((A1_.ext E4_).keep ek7_).keep K15_).lt p17__4)) nin0))).keep K41_ nin0).keep ek43_ (ninS (Nat.ne_of_lt (Nat.lt_of_lt_of_le A1_.lt (Nat.le_of_eq g4_.symm))) (ninS (Nat.ne_of_lt (Nat.lt_of_lt_of_le (((A1_.ext E4_).keep ek7_).keep K15_).lt p17__4)) nin0))).keep ek57_ (ninS (Nat.ne_of_lt (Nat.lt_of_lt_of_le A1_.lt (Nat.le_of_eq g4_.symm))) (ninS (Nat.ne_of_lt (Nat.lt_of_lt_of_le (((A1_.ext E4_).keep ek7_).keep K15_).lt p17__4)) nin0))).keep ek67_ nin0)
  have f79_ : Fld Z T67_.heap b1_ "java/lang/Throwable" "suppressedExceptions" "Ljava/util/List;" .null := (((((((((F1__suppressedExceptions.ext E4_).keep ek7_ (ninS (Nat.ne_of_lt (Nat.lt_of_lt_of_le A1_.lt (Nat.le_of_eq g4_.symm))) nin0)).keep K15_ nin0).keep ek17_ (ninS (Nat.ne_of_lt (Nat.lt_of_lt_of_le A1_.lt (Nat.le_of_eq g4_.symm))) nin0)).keep ek30_ (ninS (Nat.ne_of_lt (Nat.lt_of_lt_of_le A1_.lt (Nat.le_of_eq g4_.symm))) (ninS (Nat.ne_of_lt (Nat.lt_of_lt_of_le (((A1_.ext E4_).keep ek7_).keep K15_).lt p17__4)) nin0))).keep K41_ nin0).keep ek43_ (ninS (Nat.ne_of_lt (Nat.lt_of_lt_of_le A1_.lt (Nat.le_of_eq g4_.symm))) (ninS (Nat.ne_of_lt (Nat.lt_of_lt_of_le (((A1_.ext E4_).keep ek7_).keep K15_).lt p17__4)) nin0))).keep ek57_ (ninS (Nat.ne_of_lt (Nat.lt_of_lt_of_le A1_.lt (Nat.le_of_eq g4_.symm))) (ninS (Nat.ne_of_lt (Nat.lt_of_lt_of_le (((A1_.ext E4_).keep ek7_).keep K15_).lt p17__4)) nin0))).keep ek67_ nin0)
  have f80_ : Fld Z T67_.heap b1_ "java/lang/Throwable" "backtrace" "Ljava/lang/Object;" .null := (((((((((F1__backtrace.ext E4_).keep ek7_ (ninS (Nat.ne_of_lt (Nat.lt_of_lt_of_le A1_.lt (Nat.le_of_eq g4_.symm))) nin0)).keep K15_ nin0).keep ek17_ (ninS (Nat.ne_of_lt (Nat.lt_of_lt_of_le A1_.lt (Nat.le_of_eq g4_.symm))) nin0)).keep ek30_ (ninS (Nat.ne_of_lt (Nat.lt_of_lt_of_le A1_.lt (Nat.le_of_eq g4_.symm))) (ninS (Nat.ne_of_lt (Nat.lt_of_lt_of_le (((A1_.ext E4_).keep ek7_).keep K15_).lt p17__4)) nin0))).keep K41_ nin0).keep ek43_ (ninS (Nat.ne_of_lt (Nat.lt_of_lt_of_le A1_.lt (Nat.le_of_eq g4_.symm))) (ninS (Nat.ne_of_lt (Nat.lt_of_lt_of_le (((A1_.ext E4_).keep ek7_).keep K15_).lt p17__4)) nin0))).keep ek57_ (ninS (Nat.ne_of_lt (Nat.lt_of_lt_of_le A1_.lt (Nat.le_of_eq g4_.symm))) (ninS (Nat.ne_of_lt (Nat.lt_of_lt_of_le (((A1_.ext E4_).keep ek7_).keep K15_).lt p17__4)) nin0))).keep ek67_ nin0)
  have f81_ : Fld Z T67_.heap b1_ "java/lang/Throwable" "detailMessage" "Ljava/lang/String;" .null := (((((((((F1__detailMessage.ext E4_).keep ek7_ (ninS (Nat.ne_of_lt (Nat.lt_of_lt_of_le A1_.lt (Nat.le_of_eq g4_.symm))) nin0)).keep K15_ nin0).keep ek17_ (ninS (Nat.ne_of_lt (Nat.lt_of_lt_of_le A1_.lt (Nat.le_of_eq g4_.symm))) nin0)).keep ek30_ (ninS (Nat.ne_of_lt (Nat.lt_of_lt_of_le A1_.lt (Nat.le_of_eq g4_.symm))) (ninS (Nat.ne_of_lt (Nat.lt_of_lt_of_le (((A1_.ext E4_).keep ek7_).keep K15_).lt p17__4)) nin0))).keep K41_ nin0).keep ek43_ (ninS (Nat.ne_of_lt (Nat.lt_of_lt_of_le A1_.lt (Nat.le_of_eq g4_.symm))) (ninS (Nat.ne_of_lt (Nat.lt_of_lt_of_le (((A1_.ext E4_).keep ek7_).keep K15_).lt p17__4)) nin0))).keep ek57_ (ninS (Nat.ne_of_lt (Nat.lt_of_lt_of_le A1_.lt (Nat.le_of_eq g4_.symm))) (ninS (Nat.ne_of_lt (Nat.lt_of_lt_of_le (((A1_.ext E4_).keep ek7_).keep K15_).lt p17__4)) nin0))).keep ek67_ nin0)
  have g82_ : n0 ≤ b1_ := Nat.le_trans Z0 (Nat.le_of_eq g1_.symm)
  have f83_ : Old Z n0 T67_.heap := (f69_.keep ek67_ all0)
  have z84_ : n0 ≤ T67_.heap.size := Nat.le_trans z70_ ek67_.1
  obtain ⟨_, _, ⟨T74_, L74_, k74_, n74_⟩, -, X74_, ⟨Lc74_, hQ74_, l74_, y74_, z74_⟩, st74_⟩ := X67_.specialBack hx (y := (⟨"com/example/hyacinth/hyacinth/error/BeanDefinitionStoreException", "<init>", "(Ljava/lang/String;)V"⟩ : MethodName)) rfl hown41_ (mvT hZ41_ (hw _ (List.mem_of_getElem? (i := 158) rfl))) (mvT hZ41_ (hw _ (List.mem_of_getElem? (i := 159) rfl))) (mvT hZ41_ (hw _ (List.mem_of_getElem? (i := 160) rfl))) (by decide) (backOfKL (W := 1) (exBeanDefinitionStoreException l Z a0 hw [] b1_ x1_67_ vU vS T67_.heap n0 z84_ f75_ f76_ f77_ f78_ f79_ f80_ f81_ g82_ TU rU TS rS f83_ hl) hZ41_ (hw _ (List.mem_of_getElem? (i := 160) rfl)) (hw _ (List.mem_of_getElem? (i := 24) rfl)) (by decide) (by decide) (Vm.MethodsKnown.alikeC ((State.Warmed39.alike hZ).symm.trans (State.Warmed39.alike hZ41_)) hK.1) (Vm.FramesKnown.alikeC ((State.Warmed39.alike hZ).symm.trans (State.Warmed39.alike hZ41_)) hK.2)) (g := (mkF m 32 #[.val (.ref x1), .val (.ref x2)] [(.ref x1_67_), (.ref b1_), (.ref b1_)])) rfl (by rw [hml]; rfl) (Steps.refl _) (a := b1_) (argsL := [(.ref x1_67_)]) (rest := [(.ref b1_)]) (lenOf pd_qLjava_lang_StringzV rfl) rfl (by show 2 * 0 + _ ≤ _; exact Nat.le_of_eq rfl) (hb hby d4_32) (fun _ _ => ⟨rfl, rfl, (by exact Nat.le_of_ble_eq_true rfl), (by exact Nat.le_of_ble_eq_true rfl)⟩)
  dsimp only [Pt.U, Pt.locs, Pt.cells, Pt.slots] at X74_ l74_ y74_ z74_ st74_ hQ74_
  subst L74_ k74_ n74_
  obtain ⟨rfl, Nq74_, ek74_, p74__0, p74__1, p74__2, p74__3⟩ := hQ74_
  have N74_ := Fr.app N67_ Nq74_
  have f85_ : Safe Z consts_1 T41_.vm T67_.heap b1_ := (Safe.keep ek67_ sf0 ch65_ (Safe.keep ek57_ (sfS f64_ (sfS f63_ sf0)) ch55_ (Safe.keep ek43_ (sfS f54_ (sfS f53_ sf0)) ch41_ (chr41_.safe (((((A1_.ext E4_).keep ek7_).keep K15_).keep ek17_).keep ek30_).lt (Safe.keep ek30_ (sfS f38_ (sfS f37_ sf0)) ch28_ (Safe.keep ek17_ (sfS f27_ sf0) ch15_ (chr15_.safe ((A1_.ext E4_).keep ek7_).lt (Safe.keep ek7_ (sfS f12_ sf0) ch5_ (Safe.ext E4_ ch2_ (Safe.ext E1_ H0 sf1_))))))))))
  have ch86_ : CHv Z consts_1 T41_.vm T74_.heap := CHv.keep ek74_ (sfS f85_ sf0) ch72_
  have cr87_ := cr73_.trans (CHr.keep ek74_ (sfS f85_ sf0) ch72_)
  have f88_ : own_Str Z T74_.heap x1_67_ t1_67_ ((((([] : List Int32) ++ ([(105 : Int32), (110 : Int32), (118 : Int32), (97 : Int32), (108 : Int32), (105 : Int32), (100 : Int32), (32 : Int32), (98 : Int32), (101 : Int32), (97 : Int32), (110 : Int32), (32 : Int32), (100 : Int32), (101 : Int32), (102 : Int32), (105 : Int32), (110 : Int32), (105 : Int32), (116 : Int32), (105 : Int32), (111 : Int32), (110 : Int32), (32 : Int32), (39 : Int32)] : List Int32)) ++ cs1) ++ ([(39 : Int32), (58 : Int32), (32 : Int32)] : List Int32)) ++ cs2) := (p67__0.keep ek74_ (ninS (Ne.symm (Nat.ne_of_lt (Nat.lt_of_lt_of_le ((((((((A1_.ext E4_).keep ek7_).keep K15_).keep ek17_).keep ek30_).keep K41_).keep ek43_).keep ek57_).lt p67__2))) nin0) (ninS (Ne.symm (Nat.ne_of_lt (Nat.lt_of_lt_of_le ((((((((A1_.ext E4_).keep ek7_).keep K15_).keep ek17_).keep ek30_).keep K41_).keep ek43_).keep ek57_).lt p67__1))) nin0))
  have k89_ : Keep h0 h1_ [] := (Keep.refl h0 []).ext E1_
  have k90_ : Keep h0 h4_ [] := k89_.ext E4_
  have k91_ : Keep h0 T7_.heap [] := k90_.trans ek7_ (allS (Or.inr (Nat.le_trans k89_.1 (Nat.le_of_eq g4_.symm))) all0)
  have k92_ : Keep h0 h15_ [] := k91_.trans K15_ all0
  have k93_ : Keep h0 T17_.heap [] := k92_.trans ek17_ (allS (Or.inr (Nat.le_trans k89_.1 (Nat.le_of_eq g4_.symm))) all0)
  have k94_ : Keep h0 T30_.heap [] := k93_.trans ek30_ (allS (Or.inr (Nat.le_trans k89_.1 (Nat.le_of_eq g4_.symm))) (allS (Or.inr (Nat.le_trans k92_.1 p17__4)) all0))
  have k95_ : Keep h0 h41_ [] := k94_.trans K41_ all0
  have k96_ : Keep h0 T43_.heap [] := k95_.trans ek43_ (allS (Or.inr (Nat.le_trans k89_.1 (Nat.le_of_eq g4_.symm))) (allS (Or.inr (Nat.le_trans k92_.1 p17__4)) all0))
  have k97_ : Keep h0 T57_.heap [] := k96_.trans ek57_ (allS (Or.inr (Nat.le_trans k89_.1 (Nat.le_of_eq g4_.symm))) (allS (Or.inr (Nat.le_trans k92_.1 p17__4)) all0))
  have k98_ : Keep h0 T67_.heap [] := k97_.trans ek67_ all0
  have k99_ : Keep h0 T74_.heap [] := k98_.trans ek74_ (allS (Or.inr (Nat.le_trans (Keep.refl h0 []).1 (Nat.le_of_eq g1_.symm))) all0)
  obtain ⟨fs, hr, hrun, hended, hREW⟩ := X74_.leaveW hS41_ (Nat.le_trans (Nat.le_trans (Nat.le_trans (Nat.le_trans (Nat.le_trans hk41_ ek43_.1) ek57_.1) ek67_.1) ek74_.1) (Nat.le_of_eq (congrArg Array.size (rfl : T74_.heap = _).symm))) (v := some (.ref b1_)) (fun h => by first | rfl | (rw [Bd.returns] at h; cases h))
  refine ⟨_, _, pre0 _ ?_, hrun, hended, _, _, rfl, ?_, ?_, own_REW hREW (by exact Nat.le_of_ble_eq_true rfl) (by exact Nat.le_of_ble_eq_true rfl)⟩
  · show Steps p.tables e below (s₁.setTop (mkF m 0 #[.val (.ref x1), .val (.ref x2)] [])) _
    refine st1_ _ ?_
    show Steps p.tables e below (T1_.setTop (mkF m 3 #[.val (.ref x1), .val (.ref x2)] [(.ref b1_)])) _
    refine XS.dup X1_.here hx rfl (hb hby d4_3) rfl rfl ?_
    show Steps p.tables e below (T1_.setTop (mkF m 4 #[.val (.ref x1), .val (.ref x2)] [(.ref b1_), (.ref b1_)])) _
    refine st4_ _ ?_
    show Steps p.tables e below (T4_.setTop (mkF m 7 #[.val (.ref x1), .val (.ref x2)] [(.ref b4_), (.ref b1_), (.ref b1_)])) _
    refine XS.dup X4_.here hx rfl (hb hby d4_7) rfl rfl ?_
    show Steps p.tables e below (T4_.setTop (mkF m 8 #[.val (.ref x1), .val (.ref x2)] [(.ref b4_), (.ref b4_), (.ref b1_), (.ref b1_)])) _
    refine st7_.trans ?_
    show Steps p.tables e below (T7_.setTop (mkF m 11 #[.val (.ref x1), .val (.ref x2)] [(.ref b4_), (.ref b1_), (.ref b1_)])) _
    refine st15_ _ ?_
    show Steps p.tables e below (T15_.setTop (mkF m 13 #[.val (.ref x1), .val (.ref x2)] [(.ref c15_), (.ref b4_), (.ref b1_), (.ref b1_)])) _
    refine st17_.trans ?_
    show Steps p.tables e below (T17_.setTop (mkF m 16 #[.val (.ref x1), .val (.ref x2)] [(.ref b4_), (.ref b1_), (.ref b1_)])) _
    refine XS.aloadN X17_.here hx rfl (hb hby d4_16) rfl rfl ?_
    refine st30_.trans ?_
    show Steps p.tables e below (T30_.setTop (mkF m 20 #[.val (.ref x1), .val (.ref x2)] [(.ref b4_), (.ref b1_), (.ref b1_)])) _
    refine st41_ _ ?_
    show Steps p.tables e below (T41_.setTop (mkF m 22 #[.val (.ref x1), .val (.ref x2)] [(.ref c41_), (.ref b4_), (.ref b1_), (.ref b1_)])) _
    refine st43_.trans ?_
    show Steps p.tables e below (T43_.setTop (mkF m 25 #[.val (.ref x1), .val (.ref x2)] [(.ref b4_), (.ref b1_), (.ref b1_)])) _
    refine XS.aloadN X43_.here hx rfl (hb hby d4_25) rfl rfl ?_
    refine st57_.trans ?_
    show Steps p.tables e below (T57_.setTop (mkF m 29 #[.val (.ref x1), .val (.ref x2)] [(.ref b4_), (.ref b1_), (.ref b1_)])) _
    refine st67_.trans ?_
    show Steps p.tables e below (T67_.setTop (mkF m 32 #[.val (.ref x1), .val (.ref x2)] [(.ref x1_67_), (.ref b1_), (.ref b1_)])) _
    refine st74_.trans ?_
    show Steps p.tables e below (T74_.setTop (mkF m 35 #[.val (.ref x1), .val (.ref x2)] [(.ref b1_)])) _
    exact retR X74_ hx Bd.returns rfl rfl rfl (hb hby d4_35) hr
  · show Q_rmInv Z x1 x2 t1 cs1 t2 cs2 G1 vU vS h0 n0 _ T74_.heap _
    skip
    exact ⟨b1_, x1_67_, t1_67_, rfl, N74_, k99_, p74__0, p74__1, p74__2, p74__3, f88_⟩
  · show CHr Z consts_1 s.vm s.heap T74_.vm T74_.heap
    rw [hh]
    exact cr87_.trans (CHv.at X74_ hZ41_ hEL ch86_)
theorem d38_0 : decode jdk_78_method_6_code 0 = .ok (.aload_n 0, 1) := by decide +kernel
theorem d38_1 : decode jdk_78_method_6_code 1 = .ok (.getfield 31, 3) := by decide +kernel
theorem d38_4 : decode jdk_78_method_6_code 4 = .ok (.areturn, 1) := by decide +kernel
theorem ef_rmGM (m : MethodId) (x0 : Addr) : entryFrame m #[(.ref x0)] 1 = mkF m 0 #[.val (.ref x0)] [] := by first | (simp [entryFrame, mkF, argsToLocals, Value.category]; done) | rfl
def Q_rmGM (Z : State) (a1 : Addr) (xm : Addr) (h0 : Heap) (n0 : Nat) (v : Option Value) (h : Heap) (L : List Loc) : Prop := v = some (.ref xm) ∧ Fr n0 L ∧ h = h0
set_option maxRecDepth 65536 in
set_option maxHeartbeats 40000000 in
theorem rmGM (l : Launch) (Z : State) (a0 : Array Value) (hw : ∀ d ∈ tables_1, d.before a0 Z = true) (ws : List Jvm.Cond) (a1 : Addr) (xm : Addr) (h0 : Heap) (n0 : Nat) (Z0 : n0 ≤ h0.size) (F1 : Fld Z h0 a1 "java/lang/Throwable" "detailMessage" "Ljava/lang/String;" (.ref xm)) :
    MetFree l (⟨"java/lang/Throwable", "getMessage", "()Ljava/lang/String;"⟩ : MethodName) (head1 (Jvm.Cond.code (⟨"java/lang/Throwable", "getMessage", "()Ljava/lang/String;"⟩ : MethodName) jdk_78_method_6_code 1 (some (.object "java/lang/String")) :: ws) ({ frames := 0, cells := 0, slots := 0, locals := 0 } : Room)) (fun a U => a = #[(.ref a1)] ∧ Z.Warmed39 U.vm ∧ U.heap = h0) (fun _ _ _ _ _ => True) (fun _ U o U' => ∃ v L, o = .returned v ∧ Q_rmGM Z a1 xm h0 n0 v U'.heap L ∧ FrameEnd U o U' L ({ frames := 0, cells := 0, slots := 0, locals := 0 } : Room).cells ({ frames := 0, cells := 0, slots := 0, locals := 0 } : Room).slots) := by
  refine MetFree.of_bodySF (plainFor_of_name pn_java_lang_Throwable) hisR ?_
  intro p e s m args below meth c s₁ Bd hml0 hP hK
  obtain ⟨rfl, hZ, hh⟩ := hP
  have hx := Bd.exec
  have hby := Bd.bytes
  have hml : c.maxLocals = 1 := hml0
  have hown : s.vm.findClass "java/lang/Throwable" = some m.cls := findClass_of_methodNamed Bd.named
  have hnm := (name_of_methodNamed Bd.named Bd.method).1
  have X0 : Stand p l e ({ frames := 0, cells := 0, slots := 0, locals := 0 } : Room) s m #[(.ref a1)] below meth c s₁ [] 0 0 := Stand.of_body Bd
  have e0 : s₁.heap = h0 := by rw [← hh, Bd.state]; rfl
  have N0 := Fr.nil n0
  have pre0 : ∀ t, Steps p.tables e below (s₁.setTop (mkF m 0 #[.val (.ref a1)] [])) t → Steps p.tables e below (s₁.setTop (entryFrame m #[(.ref a1)] 1)) t := fun t k => castTop (ef_rmGM m a1) k
  obtain ⟨T1_, X1_, e1_, st1_⟩ := getF X0 hx hZ hown (host := "") (Or.inl (hw _ (List.mem_of_getElem? (i := 219) rfl))) Via.refl e0 F1 (g := (mkF m 1 #[.val (.ref a1)] [(.ref a1)])) rfl rfl (hb hby d38_1)
  obtain ⟨fs, hr, hrun, hended, hW, hsame⟩ := X1_.leave (v := some (.ref xm)) (fun h => by first | rfl | (rw [Bd.returns] at h; cases h))
  refine ⟨_, _, pre0 _ ?_, hrun, hended, _, _, rfl, ?_, ⟨_, rfl⟩, hW, hsame.mono (by exact Nat.le_of_ble_eq_true rfl) (by exact Nat.le_of_ble_eq_true rfl)⟩
  · show Steps p.tables e below (s₁.setTop (mkF m 0 #[.val (.ref a1)] [])) _
    refine XS.aloadN X0.here hx rfl (hb hby d38_0) rfl rfl ?_
    refine st1_ _ ?_
    show Steps p.tables e below (T1_.setTop (mkF m 4 #[.val (.ref a1)] [(.ref xm)])) _
    exact retR X1_ hx Bd.returns rfl rfl rfl (hb hby d38_4) hr
  · show Q_rmGM Z a1 xm h0 n0 _ T1_.heap _
    rw [e1_]
    exact ⟨rfl, N0, rfl⟩
theorem pd_qaCzV : parseMethodDescriptor "([C)V" = some ⟨[(.array .char)], none⟩ := by decide +kernel
theorem pd_qLjava_lang_StringLjava_lang_StringzLcom_example_hyacinth_hyacinth_error_BeanDefinitionStoreException : parseMethodDescriptor "(Ljava/lang/String;Ljava/lang/String;)Lcom/example/hyacinth/hyacinth/error/BeanDefinitionStoreException;" = some ⟨[(.object "java/lang/String"), (.object "java/lang/String")], some (.object "com/example/hyacinth/hyacinth/error/BeanDefinitionStoreException")⟩ := by decide +kernel
theorem pd_qLjava_lang_ObjectzZ : parseMethodDescriptor "(Ljava/lang/Object;)Z" = some ⟨[(.object "java/lang/Object")], some .boolean⟩ := by decide +kernel
theorem pn_com_example_hyacinth_hyacinth_error_BeanDefinitionStoreExceptionInvalidDefinitionPinLaw : plainName "com/example/hyacinth/hyacinth/error/BeanDefinitionStoreExceptionInvalidDefinitionPinLaw" = true := by first | (simp [plainName, overriddenIn]; done) | decide +kernel
theorem ef_rm0a (m : MethodId) (x0 : Int32) (x1 : Int32) (x2 : Int32) : entryFrame m #[(.int x0), (.int x1), (.int x2)] maxLocals = mkF m 0 #[.val (.int x0), .val (.int x1), .val (.int x2), .unset, .unset, .unset, .unset, .unset, .unset, .unset, .unset] [] := by first | (simp [entryFrame, mkF, argsToLocals, Value.category, maxLocals]; done) | rfl
def Q_rm0a (Z : State) (p0 : Int32) (p1 : Int32) (p2 : Int32) (G1 : Int32) (vU : Value) (vS : Value) (h0 : Heap) (n0 : Nat) (v : Option Value) (h : Heap) (L : List Loc) : Prop := v = some (.int (1 : Int32)) ∧ Fr n0 L
set_option maxRecDepth 65536 in
set_option maxHeartbeats 40000000 in
theorem rm0a (l : Launch) (Z : State) (a0 : Array Value) (hw : ∀ d ∈ tables_1, d.before a0 Z = true) (hEL : EW Z a0 consts_1) (ws : List Jvm.Cond) (p0 : Int32) (p1 : Int32) (p2 : Int32) (G1 : Int32) (vU : Value) (vS : Value) (h0 : Heap) (n0 : Nat) (Z0 : n0 ≤ h0.size) (T1 : Sta Z Z.heap "java/lang/String" "COMPACT_STRINGS" "Z" (.int G1)) (P5 : ¬ (G1 = (0 : Int32))) (O1 : Old Z n0 h0) (TU : Sta Z Z.heap "java/lang/Throwable" "UNASSIGNED_STACK" "[Ljava/lang/StackTraceElement;" vU) (rU : vU.isRef = true) (TS : Sta Z Z.heap "java/lang/Throwable" "SUPPRESSED_SENTINEL" "Ljava/util/List;" vS) (rS : vS.isRef = true) (hl : l.stackTraces = true) (hm : (p0 &&& (1 : Int32)) = (0 : Int32)) :
    MetFree l x (head1 (Jvm.Cond.code x code maxLocals ret :: ws) room_1) (fun a U => a = #[(.int p0), (.int p1), (.int p2)] ∧ Z.Warmed39 U.vm ∧ U.heap = h0 ∧ CHv Z consts_1 U.vm h0) (fun _ _ bl s _ => s.vm.MethodsKnown ∧ s.vm.FramesKnown bl) (fun _ U o U' => ∃ v L, o = .returned v ∧ Q_rm0a Z p0 p1 p2 G1 vU vS h0 n0 v U'.heap L ∧ CHr Z consts_1 U.vm U.heap U'.vm U'.heap ∧ ReturnedEndW U o U' L room_1.cells room_1.slots) := by
  refine MetFree.of_bodySF (plainFor_of_name pn_com_example_hyacinth_hyacinth_error_BeanDefinitionStoreExceptionInvalidDefinitionPinLaw) hisR ?_
  intro p e s m args below meth c s₁ Bd hml0 hP hK
  obtain ⟨rfl, hZ, hh, H0'⟩ := hP
  have hx := Bd.exec
  have hby := Bd.bytes
  have hml : c.maxLocals = 11 := hml0
  have hown : s.vm.findClass "com/example/hyacinth/hyacinth/error/BeanDefinitionStoreExceptionInvalidDefinitionPinLaw" = some m.cls := findClass_of_methodNamed Bd.named
  have hnm := (name_of_methodNamed Bd.named Bd.method).1
  have X0 : Stand p l e room_1 (s.setVm s.vm) m #[(.int p0), (.int p1), (.int p2)] below meth c s₁ [] 0 0 := Stand.of_body Bd
  have e0 : s₁.heap = h0 := by rw [← hh, Bd.state]; rfl
  have N0 := Fr.nil n0
  have hS0 : s.Since s.vm h0.size := own_since0 s _
  have hk0 : h0.size ≤ h0.size := Nat.le_refl _
  have H0 : CHv Z consts_1 s.vm h0 := H0'
  have wS : ∀ a ∈ Bundle.stringAtoms, a.before a0 Z = true := fun a ha => hw a ((by decide +kernel : ∀ a ∈ Bundle.stringAtoms, a ∈ tables_1) a ha)
  have pre0 : ∀ t, Steps p.tables e below (s₁.setTop (mkF m 0 #[.val (.int p0), .val (.int p1), .val (.int p2), .unset, .unset, .unset, .unset, .unset, .unset, .unset, .unset] [])) t → Steps p.tables e below (s₁.setTop (entryFrame m #[(.int p0), (.int p1), (.int p2)] maxLocals)) t := fun t k => castTop (ef_rm0a m p0 p1 p2) k
  obtain ⟨T1_, h1_, X1_, e1_, E1_, A1_, D1_, U1_, st1_⟩ := newO X0 hx hZ hown (hw _ (List.mem_of_getElem? (i := 0) rfl)) (hw _ (List.mem_of_getElem? (i := 1) rfl)) (hw _ (List.mem_of_getElem? (i := 2) rfl)) e0 (g := (mkF m 43 #[.val (.int p0), .val (.int p1), .val (.int p2), .val (.int ((p1 &&& (255 : Int32)).toUInt32.toUInt16.toUInt32.toInt32)), .val (.int ((((p1.toUInt32 >>> ((8 : Int32) &&& 31).toUInt32).toInt32) &&& (255 : Int32)).toUInt32.toUInt16.toUInt32.toInt32)), .val (.int ((p2 &&& (255 : Int32)).toUInt32.toUInt16.toUInt32.toInt32)), .val (.int ((((p2.toUInt32 >>> ((8 : Int32) &&& 31).toUInt32).toInt32) &&& (255 : Int32)).toUInt32.toUInt16.toUInt32.toInt32)), .unset, .unset, .unset, .unset] [])) rfl (hb hby at_43) (by exact Nat.le_of_ble_eq_true rfl) (by exact Nat.le_of_ble_eq_true rfl)
  obtain ⟨b1_, g1_⟩ : ∃ z, z = h0.size := ⟨_, rfl⟩
  rw [← g1_] at A1_ D1_ U1_ st1_
  have sf1_ : Safe Z consts_1 s.vm h0 b1_ := Safe.new (Nat.le_of_eq g1_.symm)
  have ch2_ : CHv Z consts_1 s.vm h1_ := CHv.ext E1_ H0
  have cr3_ := (CHr.refl H0).trans (CHr.ext E1_ H0)
  have F1__value : Fld Z h1_ b1_ "java/lang/String" "value" "[B" .null := D1_ (Or.inr (hw _ (List.mem_of_getElem? (i := 16) rfl))) (ty := (.array .byte)) (by decide)
  have F1__coder : Fld Z h1_ b1_ "java/lang/String" "coder" "B" (.int (0 : Int32)) := D1_ (Or.inr (hw _ (List.mem_of_getElem? (i := 17) rfl))) (ty := .byte) (by decide)
  obtain ⟨T4_, h4_, k4_, X4_, e4_, E4_, A4_, st4_⟩ := newP X1_ hx hZ (hw _ (List.mem_of_getElem? (i := 3) rfl)) e1_ (g := (mkF m 48 #[.val (.int p0), .val (.int p1), .val (.int p2), .val (.int ((p1 &&& (255 : Int32)).toUInt32.toUInt16.toUInt32.toInt32)), .val (.int ((((p1.toUInt32 >>> ((8 : Int32) &&& 31).toUInt32).toInt32) &&& (255 : Int32)).toUInt32.toUInt16.toUInt32.toInt32)), .val (.int ((p2 &&& (255 : Int32)).toUInt32.toUInt16.toUInt32.toInt32)), .val (.int ((((p2.toUInt32 >>> ((8 : Int32) &&& 31).toUInt32).toInt32) &&& (255 : Int32)).toUInt32.toUInt16.toUInt32.toInt32)), .unset, .unset, .unset, .unset] [(.int (0 : Int32)), (.ref b1_), (.ref b1_)])) rfl (hb hby at_48) rfl (by decide) (cap := 0) (by decide) (by decide) (by exact Nat.le_of_ble_eq_true rfl) (by exact Nat.le_of_ble_eq_true rfl)
  obtain ⟨b4_, g4_⟩ : ∃ z, z = h1_.size := ⟨_, rfl⟩
  rw [← g4_] at A4_ st4_
  have sf4_ : Safe Z consts_1 s.vm h1_ b4_ := Safe.new (Nat.le_of_eq g4_.symm)
  have ch5_ : CHv Z consts_1 s.vm h4_ := CHv.ext E4_ ch2_
  have cr6_ := cr3_.trans (CHr.ext E4_ ch2_)
  have v4_ : Arv Z h4_ b4_ k4_ .char (0 : Int32) [] (.int (0 : Int32)) := (Arv.new A4_ (by decide)).pad (pad_rep [] (.int (0 : Int32)) 0)
  have f8_ : Exa Z h4_ b1_ "java/lang/String" := (A1_.ext E4_)
  have f9_ : Fld Z h4_ b1_ "java/lang/String" "coder" "B" (.int (0 : Int32)) := (F1__coder.ext E4_)
  have f10_ : Fld Z h4_ b1_ "java/lang/String" "value" "[B" .null := (F1__value.ext E4_)
  have g11_ : n0 ≤ b1_ := Nat.le_trans Z0 (Nat.le_of_eq g1_.symm)
  have z12_ : n0 ≤ h1_.size := Nat.le_trans Z0 E1_.1
  have z13_ : n0 ≤ h4_.size := Nat.le_trans z12_ E4_.1
  obtain ⟨_, _, ⟨T7_, L7_, k7_, n7_⟩, -, Xs7_, Ss7_, Sg7_, ⟨Lc7_, hQ7_, l7_, y7_, z7_, chr7_⟩, st7_⟩ := X4_.specialBackS hx (y := (⟨"java/lang/String", "<init>", "([C)V"⟩ : MethodName)) rfl hown (mvT hZ (hw _ (List.mem_of_getElem? (i := 4) rfl))) (mvT hZ (hw _ (List.mem_of_getElem? (i := 5) rfl))) (mvT hZ (hw _ (List.mem_of_getElem? (i := 6) rfl))) (by decide) (backOfSH (W := 1) (emB l Z a0 hw hEL [] b1_ b4_ k4_ h4_ n0 z13_ f8_ f9_ f10_ g11_ v4_) hZ (hw _ (List.mem_of_getElem? (i := 6) rfl)) (hw _ (List.mem_of_getElem? (i := 2) rfl)) (by decide) (by decide) hEL ch5_) (g := (mkF m 50 #[.val (.int p0), .val (.int p1), .val (.int p2), .val (.int ((p1 &&& (255 : Int32)).toUInt32.toUInt16.toUInt32.toInt32)), .val (.int ((((p1.toUInt32 >>> ((8 : Int32) &&& 31).toUInt32).toInt32) &&& (255 : Int32)).toUInt32.toUInt16.toUInt32.toInt32)), .val (.int ((p2 &&& (255 : Int32)).toUInt32.toUInt16.toUInt32.toInt32)), .val (.int ((((p2.toUInt32 >>> ((8 : Int32) &&& 31).toUInt32).toInt32) &&& (255 : Int32)).toUInt32.toUInt16.toUInt32.toInt32)), .unset, .unset, .unset, .unset] [(.ref b4_), (.ref b1_), (.ref b1_)])) rfl (by rw [hml]; rfl) (Steps.refl _) (a := b1_) (argsL := [(.ref b4_)]) (rest := [(.ref b1_)]) (lenOf pd_qaCzV rfl) rfl (by show 2 * 0 + _ ≤ _; exact Nat.le_of_eq rfl) (hb hby at_50) (fun _ _ => ⟨rfl, e4_, (by exact Nat.le_of_ble_eq_true rfl), (by exact Nat.le_of_ble_eq_true rfl)⟩)
  dsimp only [Pt.U, Pt.locs, Pt.cells, Pt.slots] at Xs7_ Ss7_ Sg7_ l7_ y7_ z7_ st7_ hQ7_ chr7_
  subst L7_ k7_ n7_
  obtain ⟨X7_, hS7_, hZ7_, hown7_⟩ := rebS hS0 (Nat.le_trans (Nat.le_trans hk0 E1_.1) E4_.1) Xs7_ Ss7_ (Nat.le_trans (Nat.le_of_eq (congrArg Array.size e4_.symm)) Sg7_) hZ hown
  obtain ⟨t1_7_, rfl, Nq7_, ek7_, p7__0⟩ := hQ7_
  have N7_ := Fr.app N0 Nq7_
  have cr14_ := cr6_.trans chr7_
  have ch7_ := chr7_.1
  obtain ⟨T15_, h15_, X15_, e15_, E15_, A15_, D15_, U15_, st15_⟩ := newO X7_ hx hZ7_ hown7_ (hw _ (List.mem_of_getElem? (i := 0) rfl)) (hw _ (List.mem_of_getElem? (i := 1) rfl)) (hw _ (List.mem_of_getElem? (i := 2) rfl)) rfl (g := (mkF m 53 #[.val (.int p0), .val (.int p1), .val (.int p2), .val (.int ((p1 &&& (255 : Int32)).toUInt32.toUInt16.toUInt32.toInt32)), .val (.int ((((p1.toUInt32 >>> ((8 : Int32) &&& 31).toUInt32).toInt32) &&& (255 : Int32)).toUInt32.toUInt16.toUInt32.toInt32)), .val (.int ((p2 &&& (255 : Int32)).toUInt32.toUInt16.toUInt32.toInt32)), .val (.int ((((p2.toUInt32 >>> ((8 : Int32) &&& 31).toUInt32).toInt32) &&& (255 : Int32)).toUInt32.toUInt16.toUInt32.toInt32)), .unset, .unset, .unset, .unset] [(.ref b1_)])) rfl (hb hby at_53) (by exact Nat.le_of_ble_eq_true rfl) (by exact Nat.le_of_ble_eq_true rfl)
  obtain ⟨b15_, g15_⟩ : ∃ z, z = T7_.heap.size := ⟨_, rfl⟩
  rw [← g15_] at A15_ D15_ U15_ st15_
  have sf15_ : Safe Z consts_1 T7_.vm T7_.heap b15_ := Safe.new (Nat.le_of_eq g15_.symm)
  have ch16_ : CHv Z consts_1 T7_.vm h15_ := CHv.ext E15_ ch7_
  have cr17_ := cr14_.trans (CHr.ext E15_ ch7_)
  have F15__value : Fld Z h15_ b15_ "java/lang/String" "value" "[B" .null := D15_ (Or.inr (hw _ (List.mem_of_getElem? (i := 16) rfl))) (ty := (.array .byte)) (by decide)
  have F15__coder : Fld Z h15_ b15_ "java/lang/String" "coder" "B" (.int (0 : Int32)) := D15_ (Or.inr (hw _ (List.mem_of_getElem? (i := 17) rfl))) (ty := .byte) (by decide)
  obtain ⟨T18_, h18_, k18_, X18_, e18_, E18_, A18_, st18_⟩ := newP X15_ hx hZ7_ (hw _ (List.mem_of_getElem? (i := 3) rfl)) e15_ (g := (mkF m 58 #[.val (.int p0), .val (.int p1), .val (.int p2), .val (.int ((p1 &&& (255 : Int32)).toUInt32.toUInt16.toUInt32.toInt32)), .val (.int ((((p1.toUInt32 >>> ((8 : Int32) &&& 31).toUInt32).toInt32) &&& (255 : Int32)).toUInt32.toUInt16.toUInt32.toInt32)), .val (.int ((p2 &&& (255 : Int32)).toUInt32.toUInt16.toUInt32.toInt32)), .val (.int ((((p2.toUInt32 >>> ((8 : Int32) &&& 31).toUInt32).toInt32) &&& (255 : Int32)).toUInt32.toUInt16.toUInt32.toInt32)), .unset, .unset, .unset, .unset] [(.int (0 : Int32)), (.ref b15_), (.ref b15_), (.ref b1_)])) rfl (hb hby at_58) rfl (by decide) (cap := 0) (by decide) (by decide) (by exact Nat.le_of_ble_eq_true rfl) (by exact Nat.le_of_ble_eq_true rfl)
  obtain ⟨b18_, g18_⟩ : ∃ z, z = h15_.size := ⟨_, rfl⟩
  rw [← g18_] at A18_ st18_
  have sf18_ : Safe Z consts_1 T7_.vm h15_ b18_ := Safe.new (Nat.le_of_eq g18_.symm)
  have ch19_ : CHv Z consts_1 T7_.vm h18_ := CHv.ext E18_ ch16_
  have cr20_ := cr17_.trans (CHr.ext E18_ ch16_)
  have v18_ : Arv Z h18_ b18_ k18_ .char (0 : Int32) [] (.int (0 : Int32)) := (Arv.new A18_ (by decide)).pad (pad_rep [] (.int (0 : Int32)) 0)
  have f22_ : Exa Z h18_ b15_ "java/lang/String" := (A15_.ext E18_)
  have f23_ : Fld Z h18_ b15_ "java/lang/String" "coder" "B" (.int (0 : Int32)) := (F15__coder.ext E18_)
  have f24_ : Fld Z h18_ b15_ "java/lang/String" "value" "[B" .null := (F15__value.ext E18_)
  have z26_ : n0 ≤ T7_.heap.size := Nat.le_trans z13_ ek7_.1
  have g25_ : n0 ≤ b15_ := Nat.le_trans z26_ (Nat.le_of_eq g15_.symm)
  have z27_ : n0 ≤ h15_.size := Nat.le_trans z26_ E15_.1
  have z28_ : n0 ≤ h18_.size := Nat.le_trans z27_ E18_.1
  obtain ⟨_, _, ⟨T21_, L21_, k21_, n21_⟩, -, Xs21_, Ss21_, Sg21_, ⟨Lc21_, hQ21_, l21_, y21_, z21_, chr21_⟩, st21_⟩ := X18_.specialBackS hx (y := (⟨"java/lang/String", "<init>", "([C)V"⟩ : MethodName)) rfl hown7_ (mvT hZ7_ (hw _ (List.mem_of_getElem? (i := 4) rfl))) (mvT hZ7_ (hw _ (List.mem_of_getElem? (i := 5) rfl))) (mvT hZ7_ (hw _ (List.mem_of_getElem? (i := 6) rfl))) (by decide) (backOfSH (W := 2) (emB l Z a0 hw hEL [] b15_ b18_ k18_ h18_ n0 z28_ f22_ f23_ f24_ g25_ v18_) hZ7_ (hw _ (List.mem_of_getElem? (i := 6) rfl)) (hw _ (List.mem_of_getElem? (i := 2) rfl)) (by decide) (by decide) hEL ch19_) (g := (mkF m 60 #[.val (.int p0), .val (.int p1), .val (.int p2), .val (.int ((p1 &&& (255 : Int32)).toUInt32.toUInt16.toUInt32.toInt32)), .val (.int ((((p1.toUInt32 >>> ((8 : Int32) &&& 31).toUInt32).toInt32) &&& (255 : Int32)).toUInt32.toUInt16.toUInt32.toInt32)), .val (.int ((p2 &&& (255 : Int32)).toUInt32.toUInt16.toUInt32.toInt32)), .val (.int ((((p2.toUInt32 >>> ((8 : Int32) &&& 31).toUInt32).toInt32) &&& (255 : Int32)).toUInt32.toUInt16.toUInt32.toInt32)), .unset, .unset, .unset, .unset] [(.ref b18_), (.ref b15_), (.ref b15_), (.ref b1_)])) rfl (by rw [hml]; rfl) (Steps.refl _) (a := b15_) (argsL := [(.ref b18_)]) (rest := [(.ref b15_), (.ref b1_)]) (lenOf pd_qaCzV rfl) rfl (by show 2 * 0 + _ ≤ _; exact Nat.le_of_eq rfl) (hb hby at_60) (fun _ _ => ⟨rfl, e18_, (by exact Nat.le_of_ble_eq_true rfl), (by exact Nat.le_of_ble_eq_true rfl)⟩)
  dsimp only [Pt.U, Pt.locs, Pt.cells, Pt.slots] at Xs21_ Ss21_ Sg21_ l21_ y21_ z21_ st21_ hQ21_ chr21_
  subst L21_ k21_ n21_
  obtain ⟨X21_, hS21_, hZ21_, hown21_⟩ := rebS hS7_ (Nat.le_trans (Nat.le_trans (Nat.le_refl _) E15_.1) E18_.1) Xs21_ Ss21_ (Nat.le_trans (Nat.le_of_eq (congrArg Array.size e18_.symm)) Sg21_) hZ7_ hown7_
  obtain ⟨t1_21_, rfl, Nq21_, ek21_, p21__0⟩ := hQ21_
  have N21_ := Fr.app N7_ Nq21_
  have cr29_ := cr20_.trans chr21_
  have ch21_ := chr21_.1
  have f31_ : own_Str Z T21_.heap b1_ t1_7_ ([] : List Int32) := (((p7__0.ext E15_).ext E18_).keep ek21_ (ninS (Nat.ne_of_lt (Nat.lt_of_lt_of_le (own_Str.lt p7__0) (Nat.le_of_eq g15_.symm))) nin0) (ninS (Nat.ne_of_lt (Nat.lt_of_lt_of_le (own_Str.lt2 p7__0) (Nat.le_of_eq g15_.symm))) nin0))
  have f32_ : Old Z n0 T21_.heap := ((((((O1.ext E1_).ext E4_).keep ek7_ (allS g11_ all0)).ext E15_).ext E18_).keep ek21_ (allS g25_ all0))
  have z33_ : n0 ≤ T21_.heap.size := Nat.le_trans z28_ ek21_.1
  obtain ⟨_, _, ⟨T30_, L30_, k30_, n30_⟩, -, Xs30_, Ss30_, Sg30_, ⟨Lc30_, hQ30_, l30_, y30_, z30_, chr30_⟩, st30_⟩ := Jvm.RoadKit.callSS X21_ hx (y := (⟨"com/example/hyacinth/hyacinth/error/BeanDefinitionStoreException", "invalidDefinition", "(Ljava/lang/String;Ljava/lang/String;)Lcom/example/hyacinth/hyacinth/error/BeanDefinitionStoreException;"⟩ : MethodName)) hown21_ (mvT hZ21_ (hw _ (List.mem_of_getElem? (i := 22) rfl))) (mvT hZ21_ (hw _ (List.mem_of_getElem? (i := 23) rfl))) (mvT hZ21_ (hw _ (List.mem_of_getElem? (i := 24) rfl))) (mvT hZ21_ (hw _ (List.mem_of_getElem? (i := 25) rfl))) (by decide) (backOfSKH (W := 0) (rmInv l Z a0 hw hEL [] b1_ b15_ t1_7_ ([] : List Int32) t1_21_ ([] : List Int32) G1 vU vS T21_.heap n0 z33_ f31_ p21__0 T1 P5 f32_ TU rU TS rS hl (by decide) (by decide)) hZ21_ (hw _ (List.mem_of_getElem? (i := 25) rfl)) (hw _ (List.mem_of_getElem? (i := 24) rfl)) (by decide) (by decide) hEL ch21_ (Vm.MethodsKnown.alikeC ((State.Warmed39.alike hZ).symm.trans (State.Warmed39.alike hZ21_)) hK.1) (Vm.FramesKnown.alikeC ((State.Warmed39.alike hZ).symm.trans (State.Warmed39.alike hZ21_)) hK.2)) (g := (mkF m 63 #[.val (.int p0), .val (.int p1), .val (.int p2), .val (.int ((p1 &&& (255 : Int32)).toUInt32.toUInt16.toUInt32.toInt32)), .val (.int ((((p1.toUInt32 >>> ((8 : Int32) &&& 31).toUInt32).toInt32) &&& (255 : Int32)).toUInt32.toUInt16.toUInt32.toInt32)), .val (.int ((p2 &&& (255 : Int32)).toUInt32.toUInt16.toUInt32.toInt32)), .val (.int ((((p2.toUInt32 >>> ((8 : Int32) &&& 31).toUInt32).toInt32) &&& (255 : Int32)).toUInt32.toUInt16.toUInt32.toInt32)), .unset, .unset, .unset, .unset] [(.ref b15_), (.ref b1_)])) rfl (by rw [hml]; rfl) (argsL := [(.ref b1_), (.ref b15_)]) (rest := []) (lenOf pd_qLjava_lang_StringLjava_lang_StringzLcom_example_hyacinth_hyacinth_error_BeanDefinitionStoreException rfl) rfl (by show 2 * 0 + _ ≤ _; exact Nat.le_of_eq rfl) (hb hby at_63) (fun _ _ => ⟨rfl, rfl, (by exact Nat.le_of_ble_eq_true rfl), (by exact Nat.le_of_ble_eq_true rfl)⟩)
  dsimp only [Pt.U, Pt.locs, Pt.cells, Pt.slots] at Xs30_ Ss30_ Sg30_ l30_ y30_ z30_ st30_ hQ30_ chr30_
  subst L30_ k30_ n30_
  obtain ⟨X30_, hS30_, hZ30_, hown30_⟩ := rebS hS21_ (Nat.le_refl _) Xs30_ Ss30_ (Nat.le_trans (Nat.le_of_eq (congrArg Array.size (rfl : T21_.heap = _).symm)) Sg30_) hZ21_ hown21_
  obtain ⟨ea_30_, xm_30_, tm_30_, rfl, Nq30_, ek30_, p30__0, p30__1, p30__2, p30__3, p30__4⟩ := hQ30_
  have N30_ := Fr.app N21_ Nq30_
  have cr34_ := cr29_.trans chr30_
  have ch30_ := chr30_.1
  obtain ⟨cq36_, kq36_, qa36_, qb36_, qc36_⟩ := isOf hZ30_ rfl p30__0
  obtain ⟨_, _, ⟨T35_, L35_, k35_, n35_⟩, -, X35_, ⟨Lc35_, hQ35_, l35_, y35_, z35_⟩, st35_⟩ := X30_.virtualBackUp hx (owner := "java/lang/Throwable") (x := (⟨"com/example/hyacinth/hyacinth/error/BeanDefinitionStoreException", "getCause", "()Ljava/lang/Throwable;"⟩ : MethodName)) (y := (⟨"java/lang/Throwable", "getCause", "()Ljava/lang/Throwable;"⟩ : MethodName)) hown30_ (mvT hZ30_ (hw _ (List.mem_of_getElem? (i := 220) rfl))) (mvT hZ30_ (hw _ (List.mem_of_getElem? (i := 221) rfl))) (mvT hZ30_ (hw _ (List.mem_of_getElem? (i := 222) rfl))) (by decide) (mvT hZ30_ (hw _ (List.mem_of_getElem? (i := 224) rfl))) (mvT hZ30_ (hw _ (List.mem_of_getElem? (i := 223) rfl))) (own_gcB (W := 0) hZ30_ (hw _ (List.mem_of_getElem? (i := 225) rfl)) (hw _ (List.mem_of_getElem? (i := 223) rfl)) (hw _ (List.mem_of_getElem? (i := 181) rfl)) (hw _ (List.mem_of_getElem? (i := 184) rfl)) p30__1 p30__3 (by decide) (by decide)) qa36_ qc36_ (g := (mkF m 70 #[.val (.int p0), .val (.int p1), .val (.int p2), .val (.int ((p1 &&& (255 : Int32)).toUInt32.toUInt16.toUInt32.toInt32)), .val (.int ((((p1.toUInt32 >>> ((8 : Int32) &&& 31).toUInt32).toInt32) &&& (255 : Int32)).toUInt32.toUInt16.toUInt32.toInt32)), .val (.int ((p2 &&& (255 : Int32)).toUInt32.toUInt16.toUInt32.toInt32)), .val (.int ((((p2.toUInt32 >>> ((8 : Int32) &&& 31).toUInt32).toInt32) &&& (255 : Int32)).toUInt32.toUInt16.toUInt32.toInt32)), .val (.ref ea_30_), .unset, .unset, .unset] [(.ref ea_30_)])) rfl (by rw [hml]; rfl) (Steps.refl _) (argsL := []) (rest := []) (lenOf pd_qzLjava_lang_Throwable rfl) rfl (by show 2 * 0 + _ ≤ _; exact Nat.le_of_eq rfl) (hb hby at_70) (fun _ _ => ⟨rfl, rfl, (by exact Nat.le_of_ble_eq_true rfl), (by exact Nat.le_of_ble_eq_true rfl)⟩)
  dsimp only [Pt.U, Pt.locs, Pt.cells, Pt.slots] at X35_ l35_ y35_ z35_ st35_ hQ35_
  subst L35_ k35_ n35_
  obtain ⟨rfl, rfl, ek35_⟩ := hQ35_
  have N35_ := Fr.app N30_ (Fr.nil n0)
  obtain ⟨c37_, T37_, h37_, kk37_, c37_d, c37_k, X37_, e37_, E37_, hS37_, hk37_, hZ37_, hown37_, le37_, lc37_, lv37_, la37_, lx37_, ly37_, chr37_, lit37_, ls37_, st37_⟩ := ldcCH X35_ hx hZ30_ hown30_ (hw _ (List.mem_of_getElem? (i := 226) rfl)) wS ek35_ hS30_ (Nat.le_refl _) hEL (List.mem_of_getElem? (i := 2) rfl) ch30_ (vs := [(.int (105 : Int32)), (.int (110 : Int32)), (.int (118 : Int32)), (.int (97 : Int32)), (.int (108 : Int32)), (.int (105 : Int32)), (.int (100 : Int32)), (.int (32 : Int32)), (.int (98 : Int32)), (.int (101 : Int32)), (.int (97 : Int32)), (.int (110 : Int32)), (.int (32 : Int32)), (.int (100 : Int32)), (.int (101 : Int32)), (.int (102 : Int32)), (.int (105 : Int32)), (.int (110 : Int32)), (.int (105 : Int32)), (.int (116 : Int32)), (.int (105 : Int32)), (.int (111 : Int32)), (.int (110 : Int32)), (.int (32 : Int32)), (.int (39 : Int32)), (.int (39 : Int32)), (.int (58 : Int32)), (.int (32 : Int32))]) (z := (28 : Int32)) ⟨by decide, by decide⟩ (by decide) (by decide) (g := (mkF m 76 #[.val (.int p0), .val (.int p1), .val (.int p2), .val (.int ((p1 &&& (255 : Int32)).toUInt32.toUInt16.toUInt32.toInt32)), .val (.int ((((p1.toUInt32 >>> ((8 : Int32) &&& 31).toUInt32).toInt32) &&& (255 : Int32)).toUInt32.toUInt16.toUInt32.toInt32)), .val (.int ((p2 &&& (255 : Int32)).toUInt32.toUInt16.toUInt32.toInt32)), .val (.int ((((p2.toUInt32 >>> ((8 : Int32) &&& 31).toUInt32).toInt32) &&& (255 : Int32)).toUInt32.toUInt16.toUInt32.toInt32)), .val (.ref ea_30_), .unset, .unset, .unset] [])) rfl (hb hby at_76) (n := 112) (by decide) (by decide) (by exact Nat.le_of_ble_eq_true rfl) (by exact Nat.le_of_ble_eq_true rfl)
  have K37_ : Keep T30_.heap h37_ [] := (Keep.refl _ _).ext E37_
  have cr38_ := cr34_.trans chr37_
  have ch37_ := chr37_.1
  have str37_ : own_Str Z h37_ c37_ c37_d ([(105 : Int32), (110 : Int32), (118 : Int32), (97 : Int32), (108 : Int32), (105 : Int32), (100 : Int32), (32 : Int32), (98 : Int32), (101 : Int32), (97 : Int32), (110 : Int32), (32 : Int32), (100 : Int32), (101 : Int32), (102 : Int32), (105 : Int32), (110 : Int32), (105 : Int32), (116 : Int32), (105 : Int32), (111 : Int32), (110 : Int32), (32 : Int32), (39 : Int32), (39 : Int32), (58 : Int32), (32 : Int32)] : List Int32) := ⟨le37_, lc37_, lv37_, ⟨_, la37_⟩, by decide, by decide⟩
  have f40_ : Fld Z h37_ ea_30_ "java/lang/Throwable" "detailMessage" "Ljava/lang/String;" (.ref xm_30_) := (p30__2.keep K37_ nin0)
  have z41_ : n0 ≤ T30_.heap.size := Nat.le_trans z33_ ek30_.1
  have z42_ : n0 ≤ h37_.size := Nat.le_trans z41_ K37_.1
  have f44_ : Exa Z h37_ ea_30_ "com/example/hyacinth/hyacinth/error/BeanDefinitionStoreException" := (p30__0.keep K37_)
  obtain ⟨cq43_, kq43_, qa43_, qb43_, qc43_⟩ := isOf hZ37_ e37_ f44_
  obtain ⟨_, _, ⟨T39_, L39_, k39_, n39_⟩, -, X39_, ⟨Lc39_, hQ39_, l39_, y39_, z39_⟩, st39_⟩ := X37_.virtualBackUp hx (owner := "java/lang/Throwable") (x := (⟨"com/example/hyacinth/hyacinth/error/BeanDefinitionStoreException", "getMessage", "()Ljava/lang/String;"⟩ : MethodName)) (y := (⟨"java/lang/Throwable", "getMessage", "()Ljava/lang/String;"⟩ : MethodName)) hown37_ (mvT hZ37_ (hw _ (List.mem_of_getElem? (i := 227) rfl))) (mvT hZ37_ (hw _ (List.mem_of_getElem? (i := 228) rfl))) (mvT hZ37_ (hw _ (List.mem_of_getElem? (i := 229) rfl))) (by decide) (mvT hZ37_ (hw _ (List.mem_of_getElem? (i := 231) rfl))) (mvT hZ37_ (hw _ (List.mem_of_getElem? (i := 230) rfl))) (backOf (W := 1) (rmGM l Z a0 hw [] ea_30_ xm_30_ h37_ n0 z42_ f40_) hZ37_ (hw _ (List.mem_of_getElem? (i := 232) rfl)) (hw _ (List.mem_of_getElem? (i := 181) rfl)) (by decide) (by decide)) qa43_ qc43_ (g := (mkF m 80 #[.val (.int p0), .val (.int p1), .val (.int p2), .val (.int ((p1 &&& (255 : Int32)).toUInt32.toUInt16.toUInt32.toInt32)), .val (.int ((((p1.toUInt32 >>> ((8 : Int32) &&& 31).toUInt32).toInt32) &&& (255 : Int32)).toUInt32.toUInt16.toUInt32.toInt32)), .val (.int ((p2 &&& (255 : Int32)).toUInt32.toUInt16.toUInt32.toInt32)), .val (.int ((((p2.toUInt32 >>> ((8 : Int32) &&& 31).toUInt32).toInt32) &&& (255 : Int32)).toUInt32.toUInt16.toUInt32.toInt32)), .val (.ref ea_30_), .unset, .unset, .unset] [(.ref ea_30_), (.ref c37_)])) rfl (by rw [hml]; rfl) (Steps.refl _) (argsL := []) (rest := [(.ref c37_)]) (lenOf pd_qzLjava_lang_String rfl) rfl (by show 2 * 0 + _ ≤ _; exact Nat.le_of_eq rfl) (hb hby at_80) (fun _ _ => ⟨rfl, e37_, (by exact Nat.le_of_ble_eq_true rfl), (by exact Nat.le_of_ble_eq_true rfl)⟩)
  dsimp only [Pt.U, Pt.locs, Pt.cells, Pt.slots] at X39_ l39_ y39_ z39_ st39_ hQ39_
  subst L39_ k39_ n39_
  obtain ⟨rfl, Nq39_, ek39_⟩ := hQ39_
  have N39_ := Fr.app N35_ Nq39_
  have f46_ : own_Str Z h37_ xm_30_ tm_30_ ((((([] : List Int32) ++ ([(105 : Int32), (110 : Int32), (118 : Int32), (97 : Int32), (108 : Int32), (105 : Int32), (100 : Int32), (32 : Int32), (98 : Int32), (101 : Int32), (97 : Int32), (110 : Int32), (32 : Int32), (100 : Int32), (101 : Int32), (102 : Int32), (105 : Int32), (110 : Int32), (105 : Int32), (116 : Int32), (105 : Int32), (111 : Int32), (110 : Int32), (32 : Int32), (39 : Int32)] : List Int32)) ++ ([] : List Int32)) ++ ([(39 : Int32), (58 : Int32), (32 : Int32)] : List Int32)) ++ ([] : List Int32)) := (p30__4.keep K37_ nin0 nin0)
  have eq45_ : ((((([] : List Int32) ++ ([(105 : Int32), (110 : Int32), (118 : Int32), (97 : Int32), (108 : Int32), (105 : Int32), (100 : Int32), (32 : Int32), (98 : Int32), (101 : Int32), (97 : Int32), (110 : Int32), (32 : Int32), (100 : Int32), (101 : Int32), (102 : Int32), (105 : Int32), (110 : Int32), (105 : Int32), (116 : Int32), (105 : Int32), (111 : Int32), (110 : Int32), (32 : Int32), (39 : Int32)] : List Int32)) ++ ([] : List Int32)) ++ ([(39 : Int32), (58 : Int32), (32 : Int32)] : List Int32)) ++ ([] : List Int32)) = ([(105 : Int32), (110 : Int32), (118 : Int32), (97 : Int32), (108 : Int32), (105 : Int32), (100 : Int32), (32 : Int32), (98 : Int32), (101 : Int32), (97 : Int32), (110 : Int32), (32 : Int32), (100 : Int32), (101 : Int32), (102 : Int32), (105 : Int32), (110 : Int32), (105 : Int32), (116 : Int32), (105 : Int32), (111 : Int32), (110 : Int32), (32 : Int32), (39 : Int32), (39 : Int32), (58 : Int32), (32 : Int32)] : List Int32) := by
    rfl
  have sm45_ : own_Str Z h37_ xm_30_ tm_30_ ([(105 : Int32), (110 : Int32), (118 : Int32), (97 : Int32), (108 : Int32), (105 : Int32), (100 : Int32), (32 : Int32), (98 : Int32), (101 : Int32), (97 : Int32), (110 : Int32), (32 : Int32), (100 : Int32), (101 : Int32), (102 : Int32), (105 : Int32), (110 : Int32), (105 : Int32), (116 : Int32), (105 : Int32), (111 : Int32), (110 : Int32), (32 : Int32), (39 : Int32), (39 : Int32), (58 : Int32), (32 : Int32)] : List Int32) := by
    rw [← eq45_]; exact f46_
  have f48_ : Old Z n0 h37_ := ((f32_.keep ek30_ all0).keep K37_ all0)
  obtain ⟨cq49_, kq49_, qa49_, qb49_, qc49_⟩ := isOf hZ37_ ek39_ str37_.1
  obtain ⟨_, _, ⟨T47_, L47_, k47_, n47_⟩, -, X47_, ⟨Lc47_, hQ47_, l47_, y47_, z47_⟩, st47_⟩ := X39_.virtualBack hx (y := (⟨"java/lang/String", "equals", "(Ljava/lang/Object;)Z"⟩ : MethodName)) (z := (⟨"java/lang/String", "equals", "(Ljava/lang/Object;)Z"⟩ : MethodName)) hown37_ (mvT hZ37_ (hw _ (List.mem_of_getElem? (i := 233) rfl))) (mvT hZ37_ (hw _ (List.mem_of_getElem? (i := 234) rfl))) (notFace_of_selects (args := #[]) (mvT hZ37_ (hw _ (List.mem_of_getElem? (i := 236) rfl)))) (mvT hZ37_ (hw _ (List.mem_of_getElem? (i := 236) rfl))) (mvT hZ37_ (hw _ (List.mem_of_getElem? (i := 235) rfl))) (by decide) (own_eqB (W := 0) hZ37_ hw str37_ sm45_ T1 P5 f48_ (by decide) (by decide)) qa49_ qc49_ (g := (mkF m 83 #[.val (.int p0), .val (.int p1), .val (.int p2), .val (.int ((p1 &&& (255 : Int32)).toUInt32.toUInt16.toUInt32.toInt32)), .val (.int ((((p1.toUInt32 >>> ((8 : Int32) &&& 31).toUInt32).toInt32) &&& (255 : Int32)).toUInt32.toUInt16.toUInt32.toInt32)), .val (.int ((p2 &&& (255 : Int32)).toUInt32.toUInt16.toUInt32.toInt32)), .val (.int ((((p2.toUInt32 >>> ((8 : Int32) &&& 31).toUInt32).toInt32) &&& (255 : Int32)).toUInt32.toUInt16.toUInt32.toInt32)), .val (.ref ea_30_), .unset, .unset, .unset] [(.ref xm_30_), (.ref c37_)])) rfl (by rw [hml]; rfl) (Steps.refl _) (argsL := [(.ref xm_30_)]) (rest := []) (lenOf pd_qLjava_lang_ObjectzZ rfl) rfl (by show 2 * 0 + _ ≤ _; exact Nat.le_of_eq rfl) (hb hby at_83) (fun _ _ => ⟨rfl, ek39_, (by exact Nat.le_of_ble_eq_true rfl), (by exact Nat.le_of_ble_eq_true rfl)⟩)
  dsimp only [Pt.U, Pt.locs, Pt.cells, Pt.slots] at X47_ l47_ y47_ z47_ st47_ hQ47_
  subst L47_ k47_ n47_
  obtain ⟨rfl, rfl, ek47_⟩ := hQ47_
  have N47_ := Fr.app N39_ (Fr.nil n0)
  obtain ⟨fs, hr, hrun, hended, hREW⟩ := X47_.leaveW hS37_ (Nat.le_trans hk37_ (Nat.le_of_eq (congrArg Array.size ek47_.symm))) (v := some (.int (1 : Int32))) (fun h => by first | rfl | (rw [Bd.returns] at h; cases h))
  refine ⟨_, _, pre0 _ ?_, hrun, hended, _, _, rfl, ?_, ?_, own_REW hREW (by exact Nat.le_of_ble_eq_true rfl) (by exact Nat.le_of_ble_eq_true rfl)⟩
  · show Steps p.tables e below (s₁.setTop (mkF m 0 #[.val (.int p0), .val (.int p1), .val (.int p2), .unset, .unset, .unset, .unset, .unset, .unset, .unset, .unset] [])) _
    refine XS.iloadN X0.here hx rfl (hb hby at_0) rfl ?_
    refine XS.sipush X0.here hx rfl (hb hby at_1) ?_
    refine XS.iand X0.here hx rfl (hb hby at_4) rfl ?_
    show Steps p.tables e below (s₁.setTop (mkF m 5 #[.val (.int p0), .val (.int p1), .val (.int p2), .unset, .unset, .unset, .unset, .unset, .unset, .unset, .unset] [(.int (p1 &&& (255 : Int32)))])) _
    refine XS.i2c X0.here hx rfl (hb hby at_5) rfl ?_
    show Steps p.tables e below (s₁.setTop (mkF m 6 #[.val (.int p0), .val (.int p1), .val (.int p2), .unset, .unset, .unset, .unset, .unset, .unset, .unset, .unset] [(.int ((p1 &&& (255 : Int32)).toUInt32.toUInt16.toUInt32.toInt32))])) _
    refine XS.istoreN X0.here hx rfl (hb hby at_6) rfl (l' := #[.val (.int p0), .val (.int p1), .val (.int p2), .val (.int ((p1 &&& (255 : Int32)).toUInt32.toUInt16.toUInt32.toInt32)), .unset, .unset, .unset, .unset, .unset, .unset, .unset]) rfl ?_
    show Steps p.tables e below (s₁.setTop (mkF m 7 #[.val (.int p0), .val (.int p1), .val (.int p2), .val (.int ((p1 &&& (255 : Int32)).toUInt32.toUInt16.toUInt32.toInt32)), .unset, .unset, .unset, .unset, .unset, .unset, .unset] [])) _
    refine XS.iloadN X0.here hx rfl (hb hby at_7) rfl ?_
    refine XS.bipush X0.here hx rfl (hb hby at_8) ?_
    refine XS.iushr X0.here hx rfl (hb hby at_10) rfl ?_
    show Steps p.tables e below (s₁.setTop (mkF m 11 #[.val (.int p0), .val (.int p1), .val (.int p2), .val (.int ((p1 &&& (255 : Int32)).toUInt32.toUInt16.toUInt32.toInt32)), .unset, .unset, .unset, .unset, .unset, .unset, .unset] [(.int ((p1.toUInt32 >>> ((8 : Int32) &&& 31).toUInt32).toInt32))])) _
    refine XS.sipush X0.here hx rfl (hb hby at_11) ?_
    refine XS.iand X0.here hx rfl (hb hby at_14) rfl ?_
    show Steps p.tables e below (s₁.setTop (mkF m 15 #[.val (.int p0), .val (.int p1), .val (.int p2), .val (.int ((p1 &&& (255 : Int32)).toUInt32.toUInt16.toUInt32.toInt32)), .unset, .unset, .unset, .unset, .unset, .unset, .unset] [(.int (((p1.toUInt32 >>> ((8 : Int32) &&& 31).toUInt32).toInt32) &&& (255 : Int32)))])) _
    refine XS.i2c X0.here hx rfl (hb hby at_15) rfl ?_
    show Steps p.tables e below (s₁.setTop (mkF m 16 #[.val (.int p0), .val (.int p1), .val (.int p2), .val (.int ((p1 &&& (255 : Int32)).toUInt32.toUInt16.toUInt32.toInt32)), .unset, .unset, .unset, .unset, .unset, .unset, .unset] [(.int ((((p1.toUInt32 >>> ((8 : Int32) &&& 31).toUInt32).toInt32) &&& (255 : Int32)).toUInt32.toUInt16.toUInt32.toInt32))])) _
    refine XS.istore X0.here hx rfl (hb hby at_16) rfl (l' := #[.val (.int p0), .val (.int p1), .val (.int p2), .val (.int ((p1 &&& (255 : Int32)).toUInt32.toUInt16.toUInt32.toInt32)), .val (.int ((((p1.toUInt32 >>> ((8 : Int32) &&& 31).toUInt32).toInt32) &&& (255 : Int32)).toUInt32.toUInt16.toUInt32.toInt32)), .unset, .unset, .unset, .unset, .unset, .unset]) rfl ?_
    show Steps p.tables e below (s₁.setTop (mkF m 18 #[.val (.int p0), .val (.int p1), .val (.int p2), .val (.int ((p1 &&& (255 : Int32)).toUInt32.toUInt16.toUInt32.toInt32)), .val (.int ((((p1.toUInt32 >>> ((8 : Int32) &&& 31).toUInt32).toInt32) &&& (255 : Int32)).toUInt32.toUInt16.toUInt32.toInt32)), .unset, .unset, .unset, .unset, .unset, .unset] [])) _
    refine XS.iloadN X0.here hx rfl (hb hby at_18) rfl ?_
    refine XS.sipush X0.here hx rfl (hb hby at_19) ?_
    refine XS.iand X0.here hx rfl (hb hby at_22) rfl ?_
    show Steps p.tables e below (s₁.setTop (mkF m 23 #[.val (.int p0), .val (.int p1), .val (.int p2), .val (.int ((p1 &&& (255 : Int32)).toUInt32.toUInt16.toUInt32.toInt32)), .val (.int ((((p1.toUInt32 >>> ((8 : Int32) &&& 31).toUInt32).toInt32) &&& (255 : Int32)).toUInt32.toUInt16.toUInt32.toInt32)), .unset, .unset, .unset, .unset, .unset, .unset] [(.int (p2 &&& (255 : Int32)))])) _
    refine XS.i2c X0.here hx rfl (hb hby at_23) rfl ?_
    show Steps p.tables e below (s₁.setTop (mkF m 24 #[.val (.int p0), .val (.int p1), .val (.int p2), .val (.int ((p1 &&& (255 : Int32)).toUInt32.toUInt16.toUInt32.toInt32)), .val (.int ((((p1.toUInt32 >>> ((8 : Int32) &&& 31).toUInt32).toInt32) &&& (255 : Int32)).toUInt32.toUInt16.toUInt32.toInt32)), .unset, .unset, .unset, .unset, .unset, .unset] [(.int ((p2 &&& (255 : Int32)).toUInt32.toUInt16.toUInt32.toInt32))])) _
    refine XS.istore X0.here hx rfl (hb hby at_24) rfl (l' := #[.val (.int p0), .val (.int p1), .val (.int p2), .val (.int ((p1 &&& (255 : Int32)).toUInt32.toUInt16.toUInt32.toInt32)), .val (.int ((((p1.toUInt32 >>> ((8 : Int32) &&& 31).toUInt32).toInt32) &&& (255 : Int32)).toUInt32.toUInt16.toUInt32.toInt32)), .val (.int ((p2 &&& (255 : Int32)).toUInt32.toUInt16.toUInt32.toInt32)), .unset, .unset, .unset, .unset, .unset]) rfl ?_
    show Steps p.tables e below (s₁.setTop (mkF m 26 #[.val (.int p0), .val (.int p1), .val (.int p2), .val (.int ((p1 &&& (255 : Int32)).toUInt32.toUInt16.toUInt32.toInt32)), .val (.int ((((p1.toUInt32 >>> ((8 : Int32) &&& 31).toUInt32).toInt32) &&& (255 : Int32)).toUInt32.toUInt16.toUInt32.toInt32)), .val (.int ((p2 &&& (255 : Int32)).toUInt32.toUInt16.toUInt32.toInt32)), .unset, .unset, .unset, .unset, .unset] [])) _
    refine XS.iloadN X0.here hx rfl (hb hby at_26) rfl ?_
    refine XS.bipush X0.here hx rfl (hb hby at_27) ?_
    refine XS.iushr X0.here hx rfl (hb hby at_29) rfl ?_
    show Steps p.tables e below (s₁.setTop (mkF m 30 #[.val (.int p0), .val (.int p1), .val (.int p2), .val (.int ((p1 &&& (255 : Int32)).toUInt32.toUInt16.toUInt32.toInt32)), .val (.int ((((p1.toUInt32 >>> ((8 : Int32) &&& 31).toUInt32).toInt32) &&& (255 : Int32)).toUInt32.toUInt16.toUInt32.toInt32)), .val (.int ((p2 &&& (255 : Int32)).toUInt32.toUInt16.toUInt32.toInt32)), .unset, .unset, .unset, .unset, .unset] [(.int ((p2.toUInt32 >>> ((8 : Int32) &&& 31).toUInt32).toInt32))])) _
    refine XS.sipush X0.here hx rfl (hb hby at_30) ?_
    refine XS.iand X0.here hx rfl (hb hby at_33) rfl ?_
    show Steps p.tables e below (s₁.setTop (mkF m 34 #[.val (.int p0), .val (.int p1), .val (.int p2), .val (.int ((p1 &&& (255 : Int32)).toUInt32.toUInt16.toUInt32.toInt32)), .val (.int ((((p1.toUInt32 >>> ((8 : Int32) &&& 31).toUInt32).toInt32) &&& (255 : Int32)).toUInt32.toUInt16.toUInt32.toInt32)), .val (.int ((p2 &&& (255 : Int32)).toUInt32.toUInt16.toUInt32.toInt32)), .unset, .unset, .unset, .unset, .unset] [(.int (((p2.toUInt32 >>> ((8 : Int32) &&& 31).toUInt32).toInt32) &&& (255 : Int32)))])) _
    refine XS.i2c X0.here hx rfl (hb hby at_34) rfl ?_
    show Steps p.tables e below (s₁.setTop (mkF m 35 #[.val (.int p0), .val (.int p1), .val (.int p2), .val (.int ((p1 &&& (255 : Int32)).toUInt32.toUInt16.toUInt32.toInt32)), .val (.int ((((p1.toUInt32 >>> ((8 : Int32) &&& 31).toUInt32).toInt32) &&& (255 : Int32)).toUInt32.toUInt16.toUInt32.toInt32)), .val (.int ((p2 &&& (255 : Int32)).toUInt32.toUInt16.toUInt32.toInt32)), .unset, .unset, .unset, .unset, .unset] [(.int ((((p2.toUInt32 >>> ((8 : Int32) &&& 31).toUInt32).toInt32) &&& (255 : Int32)).toUInt32.toUInt16.toUInt32.toInt32))])) _
    refine XS.istore X0.here hx rfl (hb hby at_35) rfl (l' := #[.val (.int p0), .val (.int p1), .val (.int p2), .val (.int ((p1 &&& (255 : Int32)).toUInt32.toUInt16.toUInt32.toInt32)), .val (.int ((((p1.toUInt32 >>> ((8 : Int32) &&& 31).toUInt32).toInt32) &&& (255 : Int32)).toUInt32.toUInt16.toUInt32.toInt32)), .val (.int ((p2 &&& (255 : Int32)).toUInt32.toUInt16.toUInt32.toInt32)), .val (.int ((((p2.toUInt32 >>> ((8 : Int32) &&& 31).toUInt32).toInt32) &&& (255 : Int32)).toUInt32.toUInt16.toUInt32.toInt32)), .unset, .unset, .unset, .unset]) rfl ?_
    show Steps p.tables e below (s₁.setTop (mkF m 37 #[.val (.int p0), .val (.int p1), .val (.int p2), .val (.int ((p1 &&& (255 : Int32)).toUInt32.toUInt16.toUInt32.toInt32)), .val (.int ((((p1.toUInt32 >>> ((8 : Int32) &&& 31).toUInt32).toInt32) &&& (255 : Int32)).toUInt32.toUInt16.toUInt32.toInt32)), .val (.int ((p2 &&& (255 : Int32)).toUInt32.toUInt16.toUInt32.toInt32)), .val (.int ((((p2.toUInt32 >>> ((8 : Int32) &&& 31).toUInt32).toInt32) &&& (255 : Int32)).toUInt32.toUInt16.toUInt32.toInt32)), .unset, .unset, .unset, .unset] [])) _
    refine XS.iloadN X0.here hx rfl (hb hby at_37) rfl ?_
    refine XS.iconst X0.here hx rfl (hb hby at_38) ?_
    refine XS.iand X0.here hx rfl (hb hby at_39) rfl ?_
    show Steps p.tables e below (s₁.setTop (mkF m 40 #[.val (.int p0), .val (.int p1), .val (.int p2), .val (.int ((p1 &&& (255 : Int32)).toUInt32.toUInt16.toUInt32.toInt32)), .val (.int ((((p1.toUInt32 >>> ((8 : Int32) &&& 31).toUInt32).toInt32) &&& (255 : Int32)).toUInt32.toUInt16.toUInt32.toInt32)), .val (.int ((p2 &&& (255 : Int32)).toUInt32.toUInt16.toUInt32.toInt32)), .val (.int ((((p2.toUInt32 >>> ((8 : Int32) &&& 31).toUInt32).toInt32) &&& (255 : Int32)).toUInt32.toUInt16.toUInt32.toInt32)), .unset, .unset, .unset, .unset] [(.int (p0 &&& (1 : Int32)))])) _
    refine XS.ifNo X0.here hx rfl (hb hby at_40) rfl ((if0 _ _).trans (teq (hm : (p0 &&& (1 : Int32)) = (0 : Int32))).2) ?_
    show Steps p.tables e below (s₁.setTop (mkF m 43 #[.val (.int p0), .val (.int p1), .val (.int p2), .val (.int ((p1 &&& (255 : Int32)).toUInt32.toUInt16.toUInt32.toInt32)), .val (.int ((((p1.toUInt32 >>> ((8 : Int32) &&& 31).toUInt32).toInt32) &&& (255 : Int32)).toUInt32.toUInt16.toUInt32.toInt32)), .val (.int ((p2 &&& (255 : Int32)).toUInt32.toUInt16.toUInt32.toInt32)), .val (.int ((((p2.toUInt32 >>> ((8 : Int32) &&& 31).toUInt32).toInt32) &&& (255 : Int32)).toUInt32.toUInt16.toUInt32.toInt32)), .unset, .unset, .unset, .unset] [])) _
    refine st1_ _ ?_
    show Steps p.tables e below (T1_.setTop (mkF m 46 #[.val (.int p0), .val (.int p1), .val (.int p2), .val (.int ((p1 &&& (255 : Int32)).toUInt32.toUInt16.toUInt32.toInt32)), .val (.int ((((p1.toUInt32 >>> ((8 : Int32) &&& 31).toUInt32).toInt32) &&& (255 : Int32)).toUInt32.toUInt16.toUInt32.toInt32)), .val (.int ((p2 &&& (255 : Int32)).toUInt32.toUInt16.toUInt32.toInt32)), .val (.int ((((p2.toUInt32 >>> ((8 : Int32) &&& 31).toUInt32).toInt32) &&& (255 : Int32)).toUInt32.toUInt16.toUInt32.toInt32)), .unset, .unset, .unset, .unset] [(.ref b1_)])) _
    refine XS.dup X1_.here hx rfl (hb hby at_46) rfl rfl ?_
    show Steps p.tables e below (T1_.setTop (mkF m 47 #[.val (.int p0), .val (.int p1), .val (.int p2), .val (.int ((p1 &&& (255 : Int32)).toUInt32.toUInt16.toUInt32.toInt32)), .val (.int ((((p1.toUInt32 >>> ((8 : Int32) &&& 31).toUInt32).toInt32) &&& (255 : Int32)).toUInt32.toUInt16.toUInt32.toInt32)), .val (.int ((p2 &&& (255 : Int32)).toUInt32.toUInt16.toUInt32.toInt32)), .val (.int ((((p2.toUInt32 >>> ((8 : Int32) &&& 31).toUInt32).toInt32) &&& (255 : Int32)).toUInt32.toUInt16.toUInt32.toInt32)), .unset, .unset, .unset, .unset] [(.ref b1_), (.ref b1_)])) _
    refine XS.iconst X1_.here hx rfl (hb hby at_47) ?_
    refine st4_ _ ?_
    show Steps p.tables e below (T4_.setTop (mkF m 50 #[.val (.int p0), .val (.int p1), .val (.int p2), .val (.int ((p1 &&& (255 : Int32)).toUInt32.toUInt16.toUInt32.toInt32)), .val (.int ((((p1.toUInt32 >>> ((8 : Int32) &&& 31).toUInt32).toInt32) &&& (255 : Int32)).toUInt32.toUInt16.toUInt32.toInt32)), .val (.int ((p2 &&& (255 : Int32)).toUInt32.toUInt16.toUInt32.toInt32)), .val (.int ((((p2.toUInt32 >>> ((8 : Int32) &&& 31).toUInt32).toInt32) &&& (255 : Int32)).toUInt32.toUInt16.toUInt32.toInt32)), .unset, .unset, .unset, .unset] [(.ref b4_), (.ref b1_), (.ref b1_)])) _
    refine st7_.trans ?_
    show Steps p.tables e below (T7_.setTop (mkF m 53 #[.val (.int p0), .val (.int p1), .val (.int p2), .val (.int ((p1 &&& (255 : Int32)).toUInt32.toUInt16.toUInt32.toInt32)), .val (.int ((((p1.toUInt32 >>> ((8 : Int32) &&& 31).toUInt32).toInt32) &&& (255 : Int32)).toUInt32.toUInt16.toUInt32.toInt32)), .val (.int ((p2 &&& (255 : Int32)).toUInt32.toUInt16.toUInt32.toInt32)), .val (.int ((((p2.toUInt32 >>> ((8 : Int32) &&& 31).toUInt32).toInt32) &&& (255 : Int32)).toUInt32.toUInt16.toUInt32.toInt32)), .unset, .unset, .unset, .unset] [(.ref b1_)])) _
    refine st15_ _ ?_
    show Steps p.tables e below (T15_.setTop (mkF m 56 #[.val (.int p0), .val (.int p1), .val (.int p2), .val (.int ((p1 &&& (255 : Int32)).toUInt32.toUInt16.toUInt32.toInt32)), .val (.int ((((p1.toUInt32 >>> ((8 : Int32) &&& 31).toUInt32).toInt32) &&& (255 : Int32)).toUInt32.toUInt16.toUInt32.toInt32)), .val (.int ((p2 &&& (255 : Int32)).toUInt32.toUInt16.toUInt32.toInt32)), .val (.int ((((p2.toUInt32 >>> ((8 : Int32) &&& 31).toUInt32).toInt32) &&& (255 : Int32)).toUInt32.toUInt16.toUInt32.toInt32)), .unset, .unset, .unset, .unset] [(.ref b15_), (.ref b1_)])) _
    refine XS.dup X15_.here hx rfl (hb hby at_56) rfl rfl ?_
    show Steps p.tables e below (T15_.setTop (mkF m 57 #[.val (.int p0), .val (.int p1), .val (.int p2), .val (.int ((p1 &&& (255 : Int32)).toUInt32.toUInt16.toUInt32.toInt32)), .val (.int ((((p1.toUInt32 >>> ((8 : Int32) &&& 31).toUInt32).toInt32) &&& (255 : Int32)).toUInt32.toUInt16.toUInt32.toInt32)), .val (.int ((p2 &&& (255 : Int32)).toUInt32.toUInt16.toUInt32.toInt32)), .val (.int ((((p2.toUInt32 >>> ((8 : Int32) &&& 31).toUInt32).toInt32) &&& (255 : Int32)).toUInt32.toUInt16.toUInt32.toInt32)), .unset, .unset, .unset, .unset] [(.ref b15_), (.ref b15_), (.ref b1_)])) _
    refine XS.iconst X15_.here hx rfl (hb hby at_57) ?_
    refine st18_ _ ?_
    show Steps p.tables e below (T18_.setTop (mkF m 60 #[.val (.int p0), .val (.int p1), .val (.int p2), .val (.int ((p1 &&& (255 : Int32)).toUInt32.toUInt16.toUInt32.toInt32)), .val (.int ((((p1.toUInt32 >>> ((8 : Int32) &&& 31).toUInt32).toInt32) &&& (255 : Int32)).toUInt32.toUInt16.toUInt32.toInt32)), .val (.int ((p2 &&& (255 : Int32)).toUInt32.toUInt16.toUInt32.toInt32)), .val (.int ((((p2.toUInt32 >>> ((8 : Int32) &&& 31).toUInt32).toInt32) &&& (255 : Int32)).toUInt32.toUInt16.toUInt32.toInt32)), .unset, .unset, .unset, .unset] [(.ref b18_), (.ref b15_), (.ref b15_), (.ref b1_)])) _
    refine st21_.trans ?_
    show Steps p.tables e below (T21_.setTop (mkF m 63 #[.val (.int p0), .val (.int p1), .val (.int p2), .val (.int ((p1 &&& (255 : Int32)).toUInt32.toUInt16.toUInt32.toInt32)), .val (.int ((((p1.toUInt32 >>> ((8 : Int32) &&& 31).toUInt32).toInt32) &&& (255 : Int32)).toUInt32.toUInt16.toUInt32.toInt32)), .val (.int ((p2 &&& (255 : Int32)).toUInt32.toUInt16.toUInt32.toInt32)), .val (.int ((((p2.toUInt32 >>> ((8 : Int32) &&& 31).toUInt32).toInt32) &&& (255 : Int32)).toUInt32.toUInt16.toUInt32.toInt32)), .unset, .unset, .unset, .unset] [(.ref b15_), (.ref b1_)])) _
    refine st30_.trans ?_
    show Steps p.tables e below (T30_.setTop (mkF m 66 #[.val (.int p0), .val (.int p1), .val (.int p2), .val (.int ((p1 &&& (255 : Int32)).toUInt32.toUInt16.toUInt32.toInt32)), .val (.int ((((p1.toUInt32 >>> ((8 : Int32) &&& 31).toUInt32).toInt32) &&& (255 : Int32)).toUInt32.toUInt16.toUInt32.toInt32)), .val (.int ((p2 &&& (255 : Int32)).toUInt32.toUInt16.toUInt32.toInt32)), .val (.int ((((p2.toUInt32 >>> ((8 : Int32) &&& 31).toUInt32).toInt32) &&& (255 : Int32)).toUInt32.toUInt16.toUInt32.toInt32)), .unset, .unset, .unset, .unset] [(.ref ea_30_)])) _
    refine XS.astore X30_.here hx rfl (hb hby at_66) rfl rfl (l' := #[.val (.int p0), .val (.int p1), .val (.int p2), .val (.int ((p1 &&& (255 : Int32)).toUInt32.toUInt16.toUInt32.toInt32)), .val (.int ((((p1.toUInt32 >>> ((8 : Int32) &&& 31).toUInt32).toInt32) &&& (255 : Int32)).toUInt32.toUInt16.toUInt32.toInt32)), .val (.int ((p2 &&& (255 : Int32)).toUInt32.toUInt16.toUInt32.toInt32)), .val (.int ((((p2.toUInt32 >>> ((8 : Int32) &&& 31).toUInt32).toInt32) &&& (255 : Int32)).toUInt32.toUInt16.toUInt32.toInt32)), .val (.ref ea_30_), .unset, .unset, .unset]) rfl ?_
    show Steps p.tables e below (T30_.setTop (mkF m 68 #[.val (.int p0), .val (.int p1), .val (.int p2), .val (.int ((p1 &&& (255 : Int32)).toUInt32.toUInt16.toUInt32.toInt32)), .val (.int ((((p1.toUInt32 >>> ((8 : Int32) &&& 31).toUInt32).toInt32) &&& (255 : Int32)).toUInt32.toUInt16.toUInt32.toInt32)), .val (.int ((p2 &&& (255 : Int32)).toUInt32.toUInt16.toUInt32.toInt32)), .val (.int ((((p2.toUInt32 >>> ((8 : Int32) &&& 31).toUInt32).toInt32) &&& (255 : Int32)).toUInt32.toUInt16.toUInt32.toInt32)), .val (.ref ea_30_), .unset, .unset, .unset] [])) _
    refine XS.aload X30_.here hx rfl (hb hby at_68) rfl rfl ?_
    refine st35_.trans ?_
    show Steps p.tables e below (T35_.setTop (mkF m 73 #[.val (.int p0), .val (.int p1), .val (.int p2), .val (.int ((p1 &&& (255 : Int32)).toUInt32.toUInt16.toUInt32.toInt32)), .val (.int ((((p1.toUInt32 >>> ((8 : Int32) &&& 31).toUInt32).toInt32) &&& (255 : Int32)).toUInt32.toUInt16.toUInt32.toInt32)), .val (.int ((p2 &&& (255 : Int32)).toUInt32.toUInt16.toUInt32.toInt32)), .val (.int ((((p2.toUInt32 >>> ((8 : Int32) &&& 31).toUInt32).toInt32) &&& (255 : Int32)).toUInt32.toUInt16.toUInt32.toInt32)), .val (.ref ea_30_), .unset, .unset, .unset] [.null])) _
    refine XS.ifnonnullNo X35_.here hx rfl (hb hby at_73) rfl ?_
    show Steps p.tables e below (T35_.setTop (mkF m 76 #[.val (.int p0), .val (.int p1), .val (.int p2), .val (.int ((p1 &&& (255 : Int32)).toUInt32.toUInt16.toUInt32.toInt32)), .val (.int ((((p1.toUInt32 >>> ((8 : Int32) &&& 31).toUInt32).toInt32) &&& (255 : Int32)).toUInt32.toUInt16.toUInt32.toInt32)), .val (.int ((p2 &&& (255 : Int32)).toUInt32.toUInt16.toUInt32.toInt32)), .val (.int ((((p2.toUInt32 >>> ((8 : Int32) &&& 31).toUInt32).toInt32) &&& (255 : Int32)).toUInt32.toUInt16.toUInt32.toInt32)), .val (.ref ea_30_), .unset, .unset, .unset] [])) _
    refine st37_ _ ?_
    show Steps p.tables e below (T37_.setTop (mkF m 78 #[.val (.int p0), .val (.int p1), .val (.int p2), .val (.int ((p1 &&& (255 : Int32)).toUInt32.toUInt16.toUInt32.toInt32)), .val (.int ((((p1.toUInt32 >>> ((8 : Int32) &&& 31).toUInt32).toInt32) &&& (255 : Int32)).toUInt32.toUInt16.toUInt32.toInt32)), .val (.int ((p2 &&& (255 : Int32)).toUInt32.toUInt16.toUInt32.toInt32)), .val (.int ((((p2.toUInt32 >>> ((8 : Int32) &&& 31).toUInt32).toInt32) &&& (255 : Int32)).toUInt32.toUInt16.toUInt32.toInt32)), .val (.ref ea_30_), .unset, .unset, .unset] [(.ref c37_)])) _
    refine XS.aload X37_.here hx rfl (hb hby at_78) rfl rfl ?_
    refine st39_.trans ?_
    show Steps p.tables e below (T39_.setTop (mkF m 83 #[.val (.int p0), .val (.int p1), .val (.int p2), .val (.int ((p1 &&& (255 : Int32)).toUInt32.toUInt16.toUInt32.toInt32)), .val (.int ((((p1.toUInt32 >>> ((8 : Int32) &&& 31).toUInt32).toInt32) &&& (255 : Int32)).toUInt32.toUInt16.toUInt32.toInt32)), .val (.int ((p2 &&& (255 : Int32)).toUInt32.toUInt16.toUInt32.toInt32)), .val (.int ((((p2.toUInt32 >>> ((8 : Int32) &&& 31).toUInt32).toInt32) &&& (255 : Int32)).toUInt32.toUInt16.toUInt32.toInt32)), .val (.ref ea_30_), .unset, .unset, .unset] [(.ref xm_30_), (.ref c37_)])) _
    refine st47_.trans ?_
    show Steps p.tables e below (T47_.setTop (mkF m 86 #[.val (.int p0), .val (.int p1), .val (.int p2), .val (.int ((p1 &&& (255 : Int32)).toUInt32.toUInt16.toUInt32.toInt32)), .val (.int ((((p1.toUInt32 >>> ((8 : Int32) &&& 31).toUInt32).toInt32) &&& (255 : Int32)).toUInt32.toUInt16.toUInt32.toInt32)), .val (.int ((p2 &&& (255 : Int32)).toUInt32.toUInt16.toUInt32.toInt32)), .val (.int ((((p2.toUInt32 >>> ((8 : Int32) &&& 31).toUInt32).toInt32) &&& (255 : Int32)).toUInt32.toUInt16.toUInt32.toInt32)), .val (.ref ea_30_), .unset, .unset, .unset] [(.int (1 : Int32))])) _
    refine XS.ifNo X47_.here hx rfl (hb hby at_86) rfl ((if0 _ _).trans (feq ((by decide) : ¬ ((1 : Int32) = (0 : Int32)))).1) ?_
    show Steps p.tables e below (T47_.setTop (mkF m 89 #[.val (.int p0), .val (.int p1), .val (.int p2), .val (.int ((p1 &&& (255 : Int32)).toUInt32.toUInt16.toUInt32.toInt32)), .val (.int ((((p1.toUInt32 >>> ((8 : Int32) &&& 31).toUInt32).toInt32) &&& (255 : Int32)).toUInt32.toUInt16.toUInt32.toInt32)), .val (.int ((p2 &&& (255 : Int32)).toUInt32.toUInt16.toUInt32.toInt32)), .val (.int ((((p2.toUInt32 >>> ((8 : Int32) &&& 31).toUInt32).toInt32) &&& (255 : Int32)).toUInt32.toUInt16.toUInt32.toInt32)), .val (.ref ea_30_), .unset, .unset, .unset] [])) _
    refine XS.iconst X47_.here hx rfl (hb hby at_89) ?_
    refine XS.goto X47_.here hx rfl (pc0 := 90) (pc' := 94) rfl (hb hby at_90) (by decide) (by decide) ?_
    show Steps p.tables e below (T47_.setTop (mkF m 94 #[.val (.int p0), .val (.int p1), .val (.int p2), .val (.int ((p1 &&& (255 : Int32)).toUInt32.toUInt16.toUInt32.toInt32)), .val (.int ((((p1.toUInt32 >>> ((8 : Int32) &&& 31).toUInt32).toInt32) &&& (255 : Int32)).toUInt32.toUInt16.toUInt32.toInt32)), .val (.int ((p2 &&& (255 : Int32)).toUInt32.toUInt16.toUInt32.toInt32)), .val (.int ((((p2.toUInt32 >>> ((8 : Int32) &&& 31).toUInt32).toInt32) &&& (255 : Int32)).toUInt32.toUInt16.toUInt32.toInt32)), .val (.ref ea_30_), .unset, .unset, .unset] [(.int (1 : Int32))])) _
    exact retN X47_ hx (t := .boolean) Bd.returns (by simp) (hb hby at_94) hr
  · show Q_rm0a Z p0 p1 p2 G1 vU vS h0 n0 _ T47_.heap _
    rw [ek47_]
    exact ⟨rfl, N47_⟩
  · show CHr Z consts_1 s.vm s.heap T47_.vm T47_.heap
    rw [hh]
    rw [ek47_]
    exact cr38_.trans (CHv.at X47_ hZ37_ hEL ch37_)
theorem ef_rm0b (m : MethodId) (x0 : Int32) (x1 : Int32) (x2 : Int32) : entryFrame m #[(.int x0), (.int x1), (.int x2)] maxLocals = mkF m 0 #[.val (.int x0), .val (.int x1), .val (.int x2), .unset, .unset, .unset, .unset, .unset, .unset, .unset, .unset] [] := by first | (simp [entryFrame, mkF, argsToLocals, Value.category, maxLocals]; done) | rfl
def Q_rm0b (Z : State) (p0 : Int32) (p1 : Int32) (p2 : Int32) (G1 : Int32) (vU : Value) (vS : Value) (h0 : Heap) (n0 : Nat) (v : Option Value) (h : Heap) (L : List Loc) : Prop := v = some (.int (1 : Int32)) ∧ Fr n0 L
set_option maxRecDepth 65536 in
set_option maxHeartbeats 40000000 in
theorem rm0b (l : Launch) (Z : State) (a0 : Array Value) (hw : ∀ d ∈ tables_1, d.before a0 Z = true) (hEL : EW Z a0 consts_1) (ws : List Jvm.Cond) (p0 : Int32) (p1 : Int32) (p2 : Int32) (G1 : Int32) (vU : Value) (vS : Value) (h0 : Heap) (n0 : Nat) (Z0 : n0 ≤ h0.size) (T1 : Sta Z Z.heap "java/lang/String" "COMPACT_STRINGS" "Z" (.int G1)) (P5 : ¬ (G1 = (0 : Int32))) (O1 : Old Z n0 h0) (TU : Sta Z Z.heap "java/lang/Throwable" "UNASSIGNED_STACK" "[Ljava/lang/StackTraceElement;" vU) (rU : vU.isRef = true) (TS : Sta Z Z.heap "java/lang/Throwable" "SUPPRESSED_SENTINEL" "Ljava/util/List;" vS) (rS : vS.isRef = true) (hl : l.stackTraces = true) (hm : ¬ ((p0 &&& (1 : Int32)) = (0 : Int32))) :
    MetFree l x (head1 (Jvm.Cond.code x code maxLocals ret :: ws) room_1) (fun a U => a = #[(.int p0), (.int p1), (.int p2)] ∧ Z.Warmed39 U.vm ∧ U.heap = h0 ∧ CHv Z consts_1 U.vm h0) (fun _ _ bl s _ => s.vm.MethodsKnown ∧ s.vm.FramesKnown bl) (fun _ U o U' => ∃ v L, o = .returned v ∧ Q_rm0b Z p0 p1 p2 G1 vU vS h0 n0 v U'.heap L ∧ CHr Z consts_1 U.vm U.heap U'.vm U'.heap ∧ ReturnedEndW U o U' L room_1.cells room_1.slots) := by
  refine MetFree.of_bodySF (plainFor_of_name pn_com_example_hyacinth_hyacinth_error_BeanDefinitionStoreExceptionInvalidDefinitionPinLaw) hisR ?_
  intro p e s m args below meth c s₁ Bd hml0 hP hK
  obtain ⟨rfl, hZ, hh, H0'⟩ := hP
  have hx := Bd.exec
  have hby := Bd.bytes
  have hml : c.maxLocals = 11 := hml0
  have hown : s.vm.findClass "com/example/hyacinth/hyacinth/error/BeanDefinitionStoreExceptionInvalidDefinitionPinLaw" = some m.cls := findClass_of_methodNamed Bd.named
  have hnm := (name_of_methodNamed Bd.named Bd.method).1
  have X0 : Stand p l e room_1 (s.setVm s.vm) m #[(.int p0), (.int p1), (.int p2)] below meth c s₁ [] 0 0 := Stand.of_body Bd
  have e0 : s₁.heap = h0 := by rw [← hh, Bd.state]; rfl
  have N0 := Fr.nil n0
  have hS0 : s.Since s.vm h0.size := own_since0 s _
  have hk0 : h0.size ≤ h0.size := Nat.le_refl _
  have H0 : CHv Z consts_1 s.vm h0 := H0'
  have wS : ∀ a ∈ Bundle.stringAtoms, a.before a0 Z = true := fun a ha => hw a ((by decide +kernel : ∀ a ∈ Bundle.stringAtoms, a ∈ tables_1) a ha)
  have pre0 : ∀ t, Steps p.tables e below (s₁.setTop (mkF m 0 #[.val (.int p0), .val (.int p1), .val (.int p2), .unset, .unset, .unset, .unset, .unset, .unset, .unset, .unset] [])) t → Steps p.tables e below (s₁.setTop (entryFrame m #[(.int p0), (.int p1), (.int p2)] maxLocals)) t := fun t k => castTop (ef_rm0b m p0 p1 p2) k
  obtain ⟨T1_, h1_, X1_, e1_, E1_, A1_, D1_, U1_, st1_⟩ := newO X0 hx hZ hown (hw _ (List.mem_of_getElem? (i := 0) rfl)) (hw _ (List.mem_of_getElem? (i := 1) rfl)) (hw _ (List.mem_of_getElem? (i := 2) rfl)) e0 (g := (mkF m 95 #[.val (.int p0), .val (.int p1), .val (.int p2), .val (.int ((p1 &&& (255 : Int32)).toUInt32.toUInt16.toUInt32.toInt32)), .val (.int ((((p1.toUInt32 >>> ((8 : Int32) &&& 31).toUInt32).toInt32) &&& (255 : Int32)).toUInt32.toUInt16.toUInt32.toInt32)), .val (.int ((p2 &&& (255 : Int32)).toUInt32.toUInt16.toUInt32.toInt32)), .val (.int ((((p2.toUInt32 >>> ((8 : Int32) &&& 31).toUInt32).toInt32) &&& (255 : Int32)).toUInt32.toUInt16.toUInt32.toInt32)), .unset, .unset, .unset, .unset] [])) rfl (hb hby at_95) (by exact Nat.le_of_ble_eq_true rfl) (by exact Nat.le_of_ble_eq_true rfl)
  obtain ⟨b1_, g1_⟩ : ∃ z, z = h0.size := ⟨_, rfl⟩
  rw [← g1_] at A1_ D1_ U1_ st1_
  have sf1_ : Safe Z consts_1 s.vm h0 b1_ := Safe.new (Nat.le_of_eq g1_.symm)
  have ch2_ : CHv Z consts_1 s.vm h1_ := CHv.ext E1_ H0
  have cr3_ := (CHr.refl H0).trans (CHr.ext E1_ H0)
  have F1__value : Fld Z h1_ b1_ "java/lang/String" "value" "[B" .null := D1_ (Or.inr (hw _ (List.mem_of_getElem? (i := 16) rfl))) (ty := (.array .byte)) (by decide)
  have F1__coder : Fld Z h1_ b1_ "java/lang/String" "coder" "B" (.int (0 : Int32)) := D1_ (Or.inr (hw _ (List.mem_of_getElem? (i := 17) rfl))) (ty := .byte) (by decide)
  obtain ⟨T4_, h4_, k4_, X4_, e4_, E4_, A4_, st4_⟩ := newP X1_ hx hZ (hw _ (List.mem_of_getElem? (i := 3) rfl)) e1_ (g := (mkF m 100 #[.val (.int p0), .val (.int p1), .val (.int p2), .val (.int ((p1 &&& (255 : Int32)).toUInt32.toUInt16.toUInt32.toInt32)), .val (.int ((((p1.toUInt32 >>> ((8 : Int32) &&& 31).toUInt32).toInt32) &&& (255 : Int32)).toUInt32.toUInt16.toUInt32.toInt32)), .val (.int ((p2 &&& (255 : Int32)).toUInt32.toUInt16.toUInt32.toInt32)), .val (.int ((((p2.toUInt32 >>> ((8 : Int32) &&& 31).toUInt32).toInt32) &&& (255 : Int32)).toUInt32.toUInt16.toUInt32.toInt32)), .unset, .unset, .unset, .unset] [(.int (2 : Int32)), (.ref b1_), (.ref b1_)])) rfl (hb hby at_100) rfl (by decide) (cap := 2) (by decide) (by decide) (by exact Nat.le_of_ble_eq_true rfl) (by exact Nat.le_of_ble_eq_true rfl)
  obtain ⟨b4_, g4_⟩ : ∃ z, z = h1_.size := ⟨_, rfl⟩
  rw [← g4_] at A4_ st4_
  have sf4_ : Safe Z consts_1 s.vm h1_ b4_ := Safe.new (Nat.le_of_eq g4_.symm)
  have ch5_ : CHv Z consts_1 s.vm h4_ := CHv.ext E4_ ch2_
  have cr6_ := cr3_.trans (CHr.ext E4_ ch2_)
  have v4_ : Arv Z h4_ b4_ k4_ .char (2 : Int32) [(.int (0 : Int32)), (.int (0 : Int32))] (.int (0 : Int32)) := (Arv.new A4_ (by decide)).pad (pad_rep [] (.int (0 : Int32)) 2)
  have z9_ : n0 ≤ h1_.size := Nat.le_trans Z0 E1_.1
  have g8_ : n0 ≤ b4_ := Nat.le_trans z9_ (Nat.le_of_eq g4_.symm)
  have f10_ : Safe Z consts_1 s.vm h4_ b4_ := (Safe.ext E4_ ch2_ sf4_)
  obtain ⟨cl7_, Ar7_, q7_, S7_, M7_, Hs7_, G7_⟩ := id v4_
  have in7_ : ¬ ((0 : Int32) < 0 ∨ cl7_.slots.size ≤ ((0 : Int32)).toNatClampNeg) := inb_of S7_ ⟨by decide, by decide⟩
  obtain ⟨T7_, h7_, X7_, e7_, W7_, st7_⟩ := stC X4_ hx hZ e4_ Ar7_ (j := (0 : Int32)) in7_ (g := (mkF m 105 #[.val (.int p0), .val (.int p1), .val (.int p2), .val (.int ((p1 &&& (255 : Int32)).toUInt32.toUInt16.toUInt32.toInt32)), .val (.int ((((p1.toUInt32 >>> ((8 : Int32) &&& 31).toUInt32).toInt32) &&& (255 : Int32)).toUInt32.toUInt16.toUInt32.toInt32)), .val (.int ((p2 &&& (255 : Int32)).toUInt32.toUInt16.toUInt32.toInt32)), .val (.int ((((p2.toUInt32 >>> ((8 : Int32) &&& 31).toUInt32).toInt32) &&& (255 : Int32)).toUInt32.toUInt16.toUInt32.toInt32)), .unset, .unset, .unset, .unset] [(.int ((p1 &&& (255 : Int32)).toUInt32.toUInt16.toUInt32.toInt32)), (.int (0 : Int32)), (.ref b4_), (.ref b4_), (.ref b1_), (.ref b1_)])) rfl rfl (hb hby at_105)
  have ch11_ : CHv Z consts_1 s.vm h7_ := CHv.wr W7_ f10_ ch5_
  have cr12_ := cr6_.trans (CHr.wr W7_ f10_ ch5_)
  have v7_ : Arv Z h7_ b4_ k4_ .char (2 : Int32) [(.int (nar .char ((p1 &&& (255 : Int32)).toUInt32.toUInt16.toUInt32.toInt32))), (.int (0 : Int32))] (.int (0 : Int32)) := Arv.set Ar7_ q7_ S7_ M7_ Hs7_ G7_ (fits_nar_char _) W7_ 0 rfl (Nat.le_of_ble_eq_true rfl)
  have N7_ := Fr.snoc X7_ N0 g8_
  have f14_ : Safe Z consts_1 s.vm h7_ b4_ := (Safe.wr W7_ f10_ ch5_ f10_)
  obtain ⟨cl13_, Ar13_, q13_, S13_, M13_, Hs13_, G13_⟩ := id v7_
  have in13_ : ¬ ((1 : Int32) < 0 ∨ cl13_.slots.size ≤ ((1 : Int32)).toNatClampNeg) := inb_of S13_ ⟨by decide, by decide⟩
  obtain ⟨T13_, h13_, X13_, e13_, W13_, st13_⟩ := stC X7_ hx hZ e7_ Ar13_ (j := (1 : Int32)) in13_ (g := (mkF m 110 #[.val (.int p0), .val (.int p1), .val (.int p2), .val (.int ((p1 &&& (255 : Int32)).toUInt32.toUInt16.toUInt32.toInt32)), .val (.int ((((p1.toUInt32 >>> ((8 : Int32) &&& 31).toUInt32).toInt32) &&& (255 : Int32)).toUInt32.toUInt16.toUInt32.toInt32)), .val (.int ((p2 &&& (255 : Int32)).toUInt32.toUInt16.toUInt32.toInt32)), .val (.int ((((p2.toUInt32 >>> ((8 : Int32) &&& 31).toUInt32).toInt32) &&& (255 : Int32)).toUInt32.toUInt16.toUInt32.toInt32)), .unset, .unset, .unset, .unset] [(.int ((((p1.toUInt32 >>> ((8 : Int32) &&& 31).toUInt32).toInt32) &&& (255 : Int32)).toUInt32.toUInt16.toUInt32.toInt32)), (.int (1 : Int32)), (.ref b4_), (.ref b4_), (.ref b1_), (.ref b1_)])) rfl rfl (hb hby at_110)
  have ch15_ : CHv Z consts_1 s.vm h13_ := CHv.wr W13_ f14_ ch11_
  have cr16_ := cr12_.trans (CHr.wr W13_ f14_ ch11_)
  have v13_ : Arv Z h13_ b4_ k4_ .char (2 : Int32) [(.int (nar .char ((p1 &&& (255 : Int32)).toUInt32.toUInt16.toUInt32.toInt32))), (.int (nar .char ((((p1.toUInt32 >>> ((8 : Int32) &&& 31).toUInt32).toInt32) &&& (255 : Int32)).toUInt32.toUInt16.toUInt32.toInt32)))] (.int (0 : Int32)) := Arv.set Ar13_ q13_ S13_ M13_ Hs13_ G13_ (fits_nar_char _) W13_ 1 rfl (Nat.le_of_ble_eq_true rfl)
  have N13_ := Fr.snoc X13_ N7_ g8_
  have hp17_ : ∀ c ∈ ([(nar .char ((p1 &&& (255 : Int32)).toUInt32.toUInt16.toUInt32.toInt32)), (nar .char ((((p1.toUInt32 >>> ((8 : Int32) &&& 31).toUInt32).toInt32) &&& (255 : Int32)).toUInt32.toUInt16.toUInt32.toInt32))] : List Int32), ¬ c < 0 ∧ ¬ (255 : Int32) < c := by
    intro c hc
    simp only [List.mem_cons, List.not_mem_nil, or_false] at hc
    rcases hc with rfl | rfl
    · exact (own_and255 _)
    · exact (own_and255 _)
  have g18_ : n0 ≤ b1_ := Nat.le_trans Z0 (Nat.le_of_eq g1_.symm)
  have z19_ : n0 ≤ h4_.size := Nat.le_trans z9_ E4_.1
  have z20_ : n0 ≤ h7_.size := Nat.le_trans z19_ (Keep.of_wr W7_).1
  have z21_ : n0 ≤ h13_.size := Nat.le_trans z20_ (Keep.of_wr W13_).1
  have f22_ : Exa Z h13_ b1_ "java/lang/String" := (((A1_.ext E4_).wr W7_).wr W13_)
  have f23_ : Fld Z h13_ b1_ "java/lang/String" "value" "[B" .null := (((F1__value.ext E4_).other W7_ (Or.inl (Nat.ne_of_lt (Nat.lt_of_lt_of_le A1_.lt (Nat.le_of_eq g4_.symm))))).other W13_ (Or.inl (Nat.ne_of_lt (Nat.lt_of_lt_of_le A1_.lt (Nat.le_of_eq g4_.symm)))))
  have f24_ : Fld Z h13_ b1_ "java/lang/String" "coder" "B" (.int (0 : Int32)) := (((F1__coder.ext E4_).other W7_ (Or.inl (Nat.ne_of_lt (Nat.lt_of_lt_of_le A1_.lt (Nat.le_of_eq g4_.symm))))).other W13_ (Or.inl (Nat.ne_of_lt (Nat.lt_of_lt_of_le A1_.lt (Nat.le_of_eq g4_.symm)))))
  have f25_ : Old Z n0 h13_ := ((((O1.ext E1_).ext E4_).wr W7_ g8_).wr W13_ g8_)
  obtain ⟨_, _, ⟨T17_, L17_, k17_, n17_⟩, -, X17_, ⟨Lc17_, hQ17_, l17_, y17_, z17_⟩, st17_⟩ := X13_.specialBack hx (y := (⟨"java/lang/String", "<init>", "([C)V"⟩ : MethodName)) rfl hown (mvT hZ (hw _ (List.mem_of_getElem? (i := 4) rfl))) (mvT hZ (hw _ (List.mem_of_getElem? (i := 5) rfl))) (mvT hZ (hw _ (List.mem_of_getElem? (i := 6) rfl))) (by decide) (own_newB (W := 1) (n0 := n0) (cs := ([(nar .char ((p1 &&& (255 : Int32)).toUInt32.toUInt16.toUInt32.toInt32)), (nar .char ((((p1.toUInt32 >>> ((8 : Int32) &&& 31).toUInt32).toInt32) &&& (255 : Int32)).toUInt32.toUInt16.toUInt32.toInt32))] : List Int32)) hZ hw g18_ z21_ f22_ f23_ f24_ v13_ T1 P5 f25_ (n := 2) rfl rfl (by decide) (by decide) hp17_ (by decide) (by decide)) (g := (mkF m 111 #[.val (.int p0), .val (.int p1), .val (.int p2), .val (.int ((p1 &&& (255 : Int32)).toUInt32.toUInt16.toUInt32.toInt32)), .val (.int ((((p1.toUInt32 >>> ((8 : Int32) &&& 31).toUInt32).toInt32) &&& (255 : Int32)).toUInt32.toUInt16.toUInt32.toInt32)), .val (.int ((p2 &&& (255 : Int32)).toUInt32.toUInt16.toUInt32.toInt32)), .val (.int ((((p2.toUInt32 >>> ((8 : Int32) &&& 31).toUInt32).toInt32) &&& (255 : Int32)).toUInt32.toUInt16.toUInt32.toInt32)), .unset, .unset, .unset, .unset] [(.ref b4_), (.ref b1_), (.ref b1_)])) rfl (by rw [hml]; rfl) (Steps.refl _) (a := b1_) (argsL := [(.ref b4_)]) (rest := [(.ref b1_)]) (lenOf pd_qaCzV rfl) rfl (by show 2 * 0 + _ ≤ _; exact Nat.le_of_eq rfl) (hb hby at_111) (fun _ _ => ⟨rfl, e13_, (by exact Nat.le_of_ble_eq_true rfl), (by exact Nat.le_of_ble_eq_true rfl)⟩)
  dsimp only [Pt.U, Pt.locs, Pt.cells, Pt.slots] at X17_ l17_ y17_ z17_ st17_ hQ17_
  subst L17_ k17_ n17_
  obtain ⟨t17_, rfl, Nq17_, ek17_, lb17_, str17_⟩ := hQ17_
  have N17_ := Fr.app N13_ Nq17_
  have f26_ : Safe Z consts_1 s.vm h13_ b1_ := (Safe.wr W13_ f14_ ch11_ (Safe.wr W7_ f10_ ch5_ (Safe.ext E4_ ch2_ (Safe.ext E1_ H0 sf1_))))
  have ch27_ : CHv Z consts_1 s.vm T17_.heap := CHv.keep ek17_ (sfS f26_ sf0) ch15_
  have cr28_ := cr16_.trans (CHr.keep ek17_ (sfS f26_ sf0) ch15_)
  obtain ⟨T29_, h29_, X29_, e29_, E29_, A29_, D29_, U29_, st29_⟩ := newO X17_ hx hZ hown (hw _ (List.mem_of_getElem? (i := 0) rfl)) (hw _ (List.mem_of_getElem? (i := 1) rfl)) (hw _ (List.mem_of_getElem? (i := 2) rfl)) rfl (g := (mkF m 116 #[.val (.int p0), .val (.int p1), .val (.int p2), .val (.int ((p1 &&& (255 : Int32)).toUInt32.toUInt16.toUInt32.toInt32)), .val (.int ((((p1.toUInt32 >>> ((8 : Int32) &&& 31).toUInt32).toInt32) &&& (255 : Int32)).toUInt32.toUInt16.toUInt32.toInt32)), .val (.int ((p2 &&& (255 : Int32)).toUInt32.toUInt16.toUInt32.toInt32)), .val (.int ((((p2.toUInt32 >>> ((8 : Int32) &&& 31).toUInt32).toInt32) &&& (255 : Int32)).toUInt32.toUInt16.toUInt32.toInt32)), .val (.ref b1_), .unset, .unset, .unset] [])) rfl (hb hby at_116) (by exact Nat.le_of_ble_eq_true rfl) (by exact Nat.le_of_ble_eq_true rfl)
  obtain ⟨b29_, g29_⟩ : ∃ z, z = T17_.heap.size := ⟨_, rfl⟩
  rw [← g29_] at A29_ D29_ U29_ st29_
  have sf29_ : Safe Z consts_1 s.vm T17_.heap b29_ := Safe.new (Nat.le_of_eq g29_.symm)
  have ch30_ : CHv Z consts_1 s.vm h29_ := CHv.ext E29_ ch27_
  have cr31_ := cr28_.trans (CHr.ext E29_ ch27_)
  have F29__value : Fld Z h29_ b29_ "java/lang/String" "value" "[B" .null := D29_ (Or.inr (hw _ (List.mem_of_getElem? (i := 16) rfl))) (ty := (.array .byte)) (by decide)
  have F29__coder : Fld Z h29_ b29_ "java/lang/String" "coder" "B" (.int (0 : Int32)) := D29_ (Or.inr (hw _ (List.mem_of_getElem? (i := 17) rfl))) (ty := .byte) (by decide)
  obtain ⟨T32_, h32_, k32_, X32_, e32_, E32_, A32_, st32_⟩ := newP X29_ hx hZ (hw _ (List.mem_of_getElem? (i := 3) rfl)) e29_ (g := (mkF m 121 #[.val (.int p0), .val (.int p1), .val (.int p2), .val (.int ((p1 &&& (255 : Int32)).toUInt32.toUInt16.toUInt32.toInt32)), .val (.int ((((p1.toUInt32 >>> ((8 : Int32) &&& 31).toUInt32).toInt32) &&& (255 : Int32)).toUInt32.toUInt16.toUInt32.toInt32)), .val (.int ((p2 &&& (255 : Int32)).toUInt32.toUInt16.toUInt32.toInt32)), .val (.int ((((p2.toUInt32 >>> ((8 : Int32) &&& 31).toUInt32).toInt32) &&& (255 : Int32)).toUInt32.toUInt16.toUInt32.toInt32)), .val (.ref b1_), .unset, .unset, .unset] [(.int (2 : Int32)), (.ref b29_), (.ref b29_)])) rfl (hb hby at_121) rfl (by decide) (cap := 2) (by decide) (by decide) (by exact Nat.le_of_ble_eq_true rfl) (by exact Nat.le_of_ble_eq_true rfl)
  obtain ⟨b32_, g32_⟩ : ∃ z, z = h29_.size := ⟨_, rfl⟩
  rw [← g32_] at A32_ st32_
  have sf32_ : Safe Z consts_1 s.vm h29_ b32_ := Safe.new (Nat.le_of_eq g32_.symm)
  have ch33_ : CHv Z consts_1 s.vm h32_ := CHv.ext E32_ ch30_
  have cr34_ := cr31_.trans (CHr.ext E32_ ch30_)
  have v32_ : Arv Z h32_ b32_ k32_ .char (2 : Int32) [(.int (0 : Int32)), (.int (0 : Int32))] (.int (0 : Int32)) := (Arv.new A32_ (by decide)).pad (pad_rep [] (.int (0 : Int32)) 2)
  have z37_ : n0 ≤ T17_.heap.size := Nat.le_trans z21_ ek17_.1
  have z38_ : n0 ≤ h29_.size := Nat.le_trans z37_ E29_.1
  have g36_ : n0 ≤ b32_ := Nat.le_trans z38_ (Nat.le_of_eq g32_.symm)
  have f39_ : Safe Z consts_1 s.vm h32_ b32_ := (Safe.ext E32_ ch30_ sf32_)
  obtain ⟨cl35_, Ar35_, q35_, S35_, M35_, Hs35_, G35_⟩ := id v32_
  have in35_ : ¬ ((0 : Int32) < 0 ∨ cl35_.slots.size ≤ ((0 : Int32)).toNatClampNeg) := inb_of S35_ ⟨by decide, by decide⟩
  obtain ⟨T35_, h35_, X35_, e35_, W35_, st35_⟩ := stC X32_ hx hZ e32_ Ar35_ (j := (0 : Int32)) in35_ (g := (mkF m 127 #[.val (.int p0), .val (.int p1), .val (.int p2), .val (.int ((p1 &&& (255 : Int32)).toUInt32.toUInt16.toUInt32.toInt32)), .val (.int ((((p1.toUInt32 >>> ((8 : Int32) &&& 31).toUInt32).toInt32) &&& (255 : Int32)).toUInt32.toUInt16.toUInt32.toInt32)), .val (.int ((p2 &&& (255 : Int32)).toUInt32.toUInt16.toUInt32.toInt32)), .val (.int ((((p2.toUInt32 >>> ((8 : Int32) &&& 31).toUInt32).toInt32) &&& (255 : Int32)).toUInt32.toUInt16.toUInt32.toInt32)), .val (.ref b1_), .unset, .unset, .unset] [(.int ((p2 &&& (255 : Int32)).toUInt32.toUInt16.toUInt32.toInt32)), (.int (0 : Int32)), (.ref b32_), (.ref b32_), (.ref b29_), (.ref b29_)])) rfl rfl (hb hby at_127)
  have ch40_ : CHv Z consts_1 s.vm h35_ := CHv.wr W35_ f39_ ch33_
  have cr41_ := cr34_.trans (CHr.wr W35_ f39_ ch33_)
  have v35_ : Arv Z h35_ b32_ k32_ .char (2 : Int32) [(.int (nar .char ((p2 &&& (255 : Int32)).toUInt32.toUInt16.toUInt32.toInt32))), (.int (0 : Int32))] (.int (0 : Int32)) := Arv.set Ar35_ q35_ S35_ M35_ Hs35_ G35_ (fits_nar_char _) W35_ 0 rfl (Nat.le_of_ble_eq_true rfl)
  have N35_ := Fr.snoc X35_ N17_ g36_
  have f43_ : Safe Z consts_1 s.vm h35_ b32_ := (Safe.wr W35_ f39_ ch33_ f39_)
  obtain ⟨cl42_, Ar42_, q42_, S42_, M42_, Hs42_, G42_⟩ := id v35_
  have in42_ : ¬ ((1 : Int32) < 0 ∨ cl42_.slots.size ≤ ((1 : Int32)).toNatClampNeg) := inb_of S42_ ⟨by decide, by decide⟩
  obtain ⟨T42_, h42_, X42_, e42_, W42_, st42_⟩ := stC X35_ hx hZ e35_ Ar42_ (j := (1 : Int32)) in42_ (g := (mkF m 132 #[.val (.int p0), .val (.int p1), .val (.int p2), .val (.int ((p1 &&& (255 : Int32)).toUInt32.toUInt16.toUInt32.toInt32)), .val (.int ((((p1.toUInt32 >>> ((8 : Int32) &&& 31).toUInt32).toInt32) &&& (255 : Int32)).toUInt32.toUInt16.toUInt32.toInt32)), .val (.int ((p2 &&& (255 : Int32)).toUInt32.toUInt16.toUInt32.toInt32)), .val (.int ((((p2.toUInt32 >>> ((8 : Int32) &&& 31).toUInt32).toInt32) &&& (255 : Int32)).toUInt32.toUInt16.toUInt32.toInt32)), .val (.ref b1_), .unset, .unset, .unset] [(.int ((((p2.toUInt32 >>> ((8 : Int32) &&& 31).toUInt32).toInt32) &&& (255 : Int32)).toUInt32.toUInt16.toUInt32.toInt32)), (.int (1 : Int32)), (.ref b32_), (.ref b32_), (.ref b29_), (.ref b29_)])) rfl rfl (hb hby at_132)
  have ch44_ : CHv Z consts_1 s.vm h42_ := CHv.wr W42_ f43_ ch40_
  have cr45_ := cr41_.trans (CHr.wr W42_ f43_ ch40_)
  have v42_ : Arv Z h42_ b32_ k32_ .char (2 : Int32) [(.int (nar .char ((p2 &&& (255 : Int32)).toUInt32.toUInt16.toUInt32.toInt32))), (.int (nar .char ((((p2.toUInt32 >>> ((8 : Int32) &&& 31).toUInt32).toInt32) &&& (255 : Int32)).toUInt32.toUInt16.toUInt32.toInt32)))] (.int (0 : Int32)) := Arv.set Ar42_ q42_ S42_ M42_ Hs42_ G42_ (fits_nar_char _) W42_ 1 rfl (Nat.le_of_ble_eq_true rfl)
  have N42_ := Fr.snoc X42_ N35_ g36_
  have hp46_ : ∀ c ∈ ([(nar .char ((p2 &&& (255 : Int32)).toUInt32.toUInt16.toUInt32.toInt32)), (nar .char ((((p2.toUInt32 >>> ((8 : Int32) &&& 31).toUInt32).toInt32) &&& (255 : Int32)).toUInt32.toUInt16.toUInt32.toInt32))] : List Int32), ¬ c < 0 ∧ ¬ (255 : Int32) < c := by
    intro c hc
    simp only [List.mem_cons, List.not_mem_nil, or_false] at hc
    rcases hc with rfl | rfl
    · exact (own_and255 _)
    · exact (own_and255 _)
  have g47_ : n0 ≤ b29_ := Nat.le_trans z37_ (Nat.le_of_eq g29_.symm)
  have z48_ : n0 ≤ h32_.size := Nat.le_trans z38_ E32_.1
  have z49_ : n0 ≤ h35_.size := Nat.le_trans z48_ (Keep.of_wr W35_).1
  have z50_ : n0 ≤ h42_.size := Nat.le_trans z49_ (Keep.of_wr W42_).1
  have f51_ : Exa Z h42_ b29_ "java/lang/String" := (((A29_.ext E32_).wr W35_).wr W42_)
  have f52_ : Fld Z h42_ b29_ "java/lang/String" "value" "[B" .null := (((F29__value.ext E32_).other W35_ (Or.inl (Nat.ne_of_lt (Nat.lt_of_lt_of_le A29_.lt (Nat.le_of_eq g32_.symm))))).other W42_ (Or.inl (Nat.ne_of_lt (Nat.lt_of_lt_of_le A29_.lt (Nat.le_of_eq g32_.symm)))))
  have f53_ : Fld Z h42_ b29_ "java/lang/String" "coder" "B" (.int (0 : Int32)) := (((F29__coder.ext E32_).other W35_ (Or.inl (Nat.ne_of_lt (Nat.lt_of_lt_of_le A29_.lt (Nat.le_of_eq g32_.symm))))).other W42_ (Or.inl (Nat.ne_of_lt (Nat.lt_of_lt_of_le A29_.lt (Nat.le_of_eq g32_.symm)))))
  have f54_ : Old Z n0 h42_ := (((((f25_.keep ek17_ (allS g18_ all0)).ext E29_).ext E32_).wr W35_ g36_).wr W42_ g36_)
  obtain ⟨_, _, ⟨T46_, L46_, k46_, n46_⟩, -, X46_, ⟨Lc46_, hQ46_, l46_, y46_, z46_⟩, st46_⟩ := X42_.specialBack hx (y := (⟨"java/lang/String", "<init>", "([C)V"⟩ : MethodName)) rfl hown (mvT hZ (hw _ (List.mem_of_getElem? (i := 4) rfl))) (mvT hZ (hw _ (List.mem_of_getElem? (i := 5) rfl))) (mvT hZ (hw _ (List.mem_of_getElem? (i := 6) rfl))) (by decide) (own_newB (W := 1) (n0 := n0) (cs := ([(nar .char ((p2 &&& (255 : Int32)).toUInt32.toUInt16.toUInt32.toInt32)), (nar .char ((((p2.toUInt32 >>> ((8 : Int32) &&& 31).toUInt32).toInt32) &&& (255 : Int32)).toUInt32.toUInt16.toUInt32.toInt32))] : List Int32)) hZ hw g47_ z50_ f51_ f52_ f53_ v42_ T1 P5 f54_ (n := 2) rfl rfl (by decide) (by decide) hp46_ (by decide) (by decide)) (g := (mkF m 133 #[.val (.int p0), .val (.int p1), .val (.int p2), .val (.int ((p1 &&& (255 : Int32)).toUInt32.toUInt16.toUInt32.toInt32)), .val (.int ((((p1.toUInt32 >>> ((8 : Int32) &&& 31).toUInt32).toInt32) &&& (255 : Int32)).toUInt32.toUInt16.toUInt32.toInt32)), .val (.int ((p2 &&& (255 : Int32)).toUInt32.toUInt16.toUInt32.toInt32)), .val (.int ((((p2.toUInt32 >>> ((8 : Int32) &&& 31).toUInt32).toInt32) &&& (255 : Int32)).toUInt32.toUInt16.toUInt32.toInt32)), .val (.ref b1_), .unset, .unset, .unset] [(.ref b32_), (.ref b29_), (.ref b29_)])) rfl (by rw [hml]; rfl) (Steps.refl _) (a := b29_) (argsL := [(.ref b32_)]) (rest := [(.ref b29_)]) (lenOf pd_qaCzV rfl) rfl (by show 2 * 0 + _ ≤ _; exact Nat.le_of_eq rfl) (hb hby at_133) (fun _ _ => ⟨rfl, e42_, (by exact Nat.le_of_ble_eq_true rfl), (by exact Nat.le_of_ble_eq_true rfl)⟩)
  dsimp only [Pt.U, Pt.locs, Pt.cells, Pt.slots] at X46_ l46_ y46_ z46_ st46_ hQ46_
  subst L46_ k46_ n46_
  obtain ⟨t46_, rfl, Nq46_, ek46_, lb46_, str46_⟩ := hQ46_
  have N46_ := Fr.app N42_ Nq46_
  have f55_ : Safe Z consts_1 s.vm h42_ b29_ := (Safe.wr W42_ f43_ ch40_ (Safe.wr W35_ f39_ ch33_ (Safe.ext E32_ ch30_ (Safe.ext E29_ ch27_ sf29_))))
  have ch56_ : CHv Z consts_1 s.vm T46_.heap := CHv.keep ek46_ (sfS f55_ sf0) ch44_
  have cr57_ := cr45_.trans (CHr.keep ek46_ (sfS f55_ sf0) ch44_)
  have f59_ : own_Str Z T46_.heap b1_ t17_ ([(nar .char ((p1 &&& (255 : Int32)).toUInt32.toUInt16.toUInt32.toInt32)), (nar .char ((((p1.toUInt32 >>> ((8 : Int32) &&& 31).toUInt32).toInt32) &&& (255 : Int32)).toUInt32.toUInt16.toUInt32.toInt32))] : List Int32) := (((((str17_.ext E29_).ext E32_).other W35_ (Nat.ne_of_lt (Nat.lt_of_lt_of_le (own_Str.lt (str17_.ext E29_)) (Nat.le_of_eq g32_.symm))) (Nat.ne_of_lt (Nat.lt_of_lt_of_le (own_Str.lt2 (str17_.ext E29_)) (Nat.le_of_eq g32_.symm)))).other W42_ (Nat.ne_of_lt (Nat.lt_of_lt_of_le (own_Str.lt (str17_.ext E29_)) (Nat.le_of_eq g32_.symm))) (Nat.ne_of_lt (Nat.lt_of_lt_of_le (own_Str.lt2 (str17_.ext E29_)) (Nat.le_of_eq g32_.symm)))).keep ek46_ (ninS (Nat.ne_of_lt (Nat.lt_of_lt_of_le (own_Str.lt str17_) (Nat.le_of_eq g29_.symm))) nin0) (ninS (Nat.ne_of_lt (Nat.lt_of_lt_of_le (own_Str.lt2 str17_) (Nat.le_of_eq g29_.symm))) nin0))
  have f60_ : Old Z n0 T46_.heap := (f54_.keep ek46_ (allS g47_ all0))
  have z61_ : n0 ≤ T46_.heap.size := Nat.le_trans z50_ ek46_.1
  obtain ⟨_, _, ⟨T58_, L58_, k58_, n58_⟩, -, Xs58_, Ss58_, Sg58_, ⟨Lc58_, hQ58_, l58_, y58_, z58_, chr58_⟩, st58_⟩ := Jvm.RoadKit.callSS X46_ hx (y := (⟨"com/example/hyacinth/hyacinth/error/BeanDefinitionStoreException", "invalidDefinition", "(Ljava/lang/String;Ljava/lang/String;)Lcom/example/hyacinth/hyacinth/error/BeanDefinitionStoreException;"⟩ : MethodName)) hown (mvT hZ (hw _ (List.mem_of_getElem? (i := 22) rfl))) (mvT hZ (hw _ (List.mem_of_getElem? (i := 23) rfl))) (mvT hZ (hw _ (List.mem_of_getElem? (i := 24) rfl))) (mvT hZ (hw _ (List.mem_of_getElem? (i := 25) rfl))) (by decide) (backOfSKH (W := 0) (rmInv l Z a0 hw hEL [] b1_ b29_ t17_ ([(nar .char ((p1 &&& (255 : Int32)).toUInt32.toUInt16.toUInt32.toInt32)), (nar .char ((((p1.toUInt32 >>> ((8 : Int32) &&& 31).toUInt32).toInt32) &&& (255 : Int32)).toUInt32.toUInt16.toUInt32.toInt32))] : List Int32) t46_ ([(nar .char ((p2 &&& (255 : Int32)).toUInt32.toUInt16.toUInt32.toInt32)), (nar .char ((((p2.toUInt32 >>> ((8 : Int32) &&& 31).toUInt32).toInt32) &&& (255 : Int32)).toUInt32.toUInt16.toUInt32.toInt32))] : List Int32) G1 vU vS T46_.heap n0 z61_ f59_ str46_ T1 P5 f60_ TU rU TS rS hl (by exact Nat.le_of_ble_eq_true rfl) (by exact Nat.le_of_ble_eq_true rfl)) hZ (hw _ (List.mem_of_getElem? (i := 25) rfl)) (hw _ (List.mem_of_getElem? (i := 24) rfl)) (by decide) (by decide) hEL ch56_ (Vm.MethodsKnown.alikeC ((State.Warmed39.alike hZ).symm.trans (State.Warmed39.alike hZ)) hK.1) (Vm.FramesKnown.alikeC ((State.Warmed39.alike hZ).symm.trans (State.Warmed39.alike hZ)) hK.2)) (g := (mkF m 142 #[.val (.int p0), .val (.int p1), .val (.int p2), .val (.int ((p1 &&& (255 : Int32)).toUInt32.toUInt16.toUInt32.toInt32)), .val (.int ((((p1.toUInt32 >>> ((8 : Int32) &&& 31).toUInt32).toInt32) &&& (255 : Int32)).toUInt32.toUInt16.toUInt32.toInt32)), .val (.int ((p2 &&& (255 : Int32)).toUInt32.toUInt16.toUInt32.toInt32)), .val (.int ((((p2.toUInt32 >>> ((8 : Int32) &&& 31).toUInt32).toInt32) &&& (255 : Int32)).toUInt32.toUInt16.toUInt32.toInt32)), .val (.ref b1_), .val (.ref b29_), .unset, .unset] [(.ref b29_), (.ref b1_)])) rfl (by rw [hml]; rfl) (argsL := [(.ref b1_), (.ref b29_)]) (rest := []) (lenOf pd_qLjava_lang_StringLjava_lang_StringzLcom_example_hyacinth_hyacinth_error_BeanDefinitionStoreException rfl) rfl (by show 2 * 0 + _ ≤ _; exact Nat.le_of_eq rfl) (hb hby at_142) (fun _ _ => ⟨rfl, rfl, (by exact Nat.le_of_ble_eq_true rfl), (by exact Nat.le_of_ble_eq_true rfl)⟩)
  dsimp only [Pt.U, Pt.locs, Pt.cells, Pt.slots] at Xs58_ Ss58_ Sg58_ l58_ y58_ z58_ st58_ hQ58_ chr58_
  subst L58_ k58_ n58_
  obtain ⟨X58_, hS58_, hZ58_, hown58_⟩ := rebS hS0 (Nat.le_trans (Nat.le_trans (Nat.le_trans (Nat.le_trans (Nat.le_trans (Nat.le_trans (Nat.le_trans (Nat.le_trans (Nat.le_trans (Nat.le_trans hk0 E1_.1) E4_.1) (Keep.of_wr W7_).1) (Keep.of_wr W13_).1) ek17_.1) E29_.1) E32_.1) (Keep.of_wr W35_).1) (Keep.of_wr W42_).1) ek46_.1) Xs58_ Ss58_ (Nat.le_trans (Nat.le_of_eq (congrArg Array.size (rfl : T46_.heap = _).symm)) Sg58_) hZ hown
  obtain ⟨ea_58_, xm_58_, tm_58_, rfl, Nq58_, ek58_, p58__0, p58__1, p58__2, p58__3, p58__4⟩ := hQ58_
  have N58_ := Fr.app N46_ Nq58_
  have cr62_ := cr57_.trans chr58_
  have ch58_ := chr58_.1
  obtain ⟨T63_, h63_, X63_, e63_, E63_, A63_, D63_, U63_, st63_⟩ := newO X58_ hx hZ58_ hown58_ (hw _ (List.mem_of_getElem? (i := 0) rfl)) (hw _ (List.mem_of_getElem? (i := 1) rfl)) (hw _ (List.mem_of_getElem? (i := 2) rfl)) rfl (g := (mkF m 147 #[.val (.int p0), .val (.int p1), .val (.int p2), .val (.int ((p1 &&& (255 : Int32)).toUInt32.toUInt16.toUInt32.toInt32)), .val (.int ((((p1.toUInt32 >>> ((8 : Int32) &&& 31).toUInt32).toInt32) &&& (255 : Int32)).toUInt32.toUInt16.toUInt32.toInt32)), .val (.int ((p2 &&& (255 : Int32)).toUInt32.toUInt16.toUInt32.toInt32)), .val (.int ((((p2.toUInt32 >>> ((8 : Int32) &&& 31).toUInt32).toInt32) &&& (255 : Int32)).toUInt32.toUInt16.toUInt32.toInt32)), .val (.ref b1_), .val (.ref b29_), .val (.ref ea_58_), .unset] [])) rfl (hb hby at_147) (by exact Nat.le_of_ble_eq_true rfl) (by exact Nat.le_of_ble_eq_true rfl)
  obtain ⟨b63_, g63_⟩ : ∃ z, z = T58_.heap.size := ⟨_, rfl⟩
  rw [← g63_] at A63_ D63_ U63_ st63_
  have sf63_ : Safe Z consts_1 T58_.vm T58_.heap b63_ := Safe.new (Nat.le_of_eq g63_.symm)
  have ch64_ : CHv Z consts_1 T58_.vm h63_ := CHv.ext E63_ ch58_
  have cr65_ := cr62_.trans (CHr.ext E63_ ch58_)
  have F63__value : Fld Z h63_ b63_ "java/lang/String" "value" "[B" .null := D63_ (Or.inr (hw _ (List.mem_of_getElem? (i := 16) rfl))) (ty := (.array .byte)) (by decide)
  have F63__coder : Fld Z h63_ b63_ "java/lang/String" "coder" "B" (.int (0 : Int32)) := D63_ (Or.inr (hw _ (List.mem_of_getElem? (i := 17) rfl))) (ty := .byte) (by decide)
  obtain ⟨T66_, h66_, k66_, X66_, e66_, E66_, A66_, st66_⟩ := newP X63_ hx hZ58_ (hw _ (List.mem_of_getElem? (i := 3) rfl)) e63_ (g := (mkF m 153 #[.val (.int p0), .val (.int p1), .val (.int p2), .val (.int ((p1 &&& (255 : Int32)).toUInt32.toUInt16.toUInt32.toInt32)), .val (.int ((((p1.toUInt32 >>> ((8 : Int32) &&& 31).toUInt32).toInt32) &&& (255 : Int32)).toUInt32.toUInt16.toUInt32.toInt32)), .val (.int ((p2 &&& (255 : Int32)).toUInt32.toUInt16.toUInt32.toInt32)), .val (.int ((((p2.toUInt32 >>> ((8 : Int32) &&& 31).toUInt32).toInt32) &&& (255 : Int32)).toUInt32.toUInt16.toUInt32.toInt32)), .val (.ref b1_), .val (.ref b29_), .val (.ref ea_58_), .unset] [(.int (32 : Int32)), (.ref b63_), (.ref b63_)])) rfl (hb hby at_153) rfl (by decide) (cap := 32) (by decide) (by decide) (by exact Nat.le_of_ble_eq_true rfl) (by exact Nat.le_of_ble_eq_true rfl)
  obtain ⟨b66_, g66_⟩ : ∃ z, z = h63_.size := ⟨_, rfl⟩
  rw [← g66_] at A66_ st66_
  have sf66_ : Safe Z consts_1 T58_.vm h63_ b66_ := Safe.new (Nat.le_of_eq g66_.symm)
  have ch67_ : CHv Z consts_1 T58_.vm h66_ := CHv.ext E66_ ch64_
  have cr68_ := cr65_.trans (CHr.ext E66_ ch64_)
  have v66_ : Arv Z h66_ b66_ k66_ .char (32 : Int32) [(.int (0 : Int32)), (.int (0 : Int32)), (.int (0 : Int32)), (.int (0 : Int32)), (.int (0 : Int32)), (.int (0 : Int32)), (.int (0 : Int32)), (.int (0 : Int32)), (.int (0 : Int32)), (.int (0 : Int32)), (.int (0 : Int32)), (.int (0 : Int32)), (.int (0 : Int32)), (.int (0 : Int32)), (.int (0 : Int32)), (.int (0 : Int32)), (.int (0 : Int32)), (.int (0 : Int32)), (.int (0 : Int32)), (.int (0 : Int32)), (.int (0 : Int32)), (.int (0 : Int32)), (.int (0 : Int32)), (.int (0 : Int32)), (.int (0 : Int32)), (.int (0 : Int32)), (.int (0 : Int32)), (.int (0 : Int32)), (.int (0 : Int32)), (.int (0 : Int32)), (.int (0 : Int32)), (.int (0 : Int32))] (.int (0 : Int32)) := (Arv.new A66_ (by decide)).pad (pad_rep [] (.int (0 : Int32)) 32)
  have z71_ : n0 ≤ T58_.heap.size := Nat.le_trans z61_ ek58_.1
  have z72_ : n0 ≤ h63_.size := Nat.le_trans z71_ E63_.1
  have g70_ : n0 ≤ b66_ := Nat.le_trans z72_ (Nat.le_of_eq g66_.symm)
  have f73_ : Safe Z consts_1 T58_.vm h66_ b66_ := (Safe.ext E66_ ch64_ sf66_)
  obtain ⟨cl69_, Ar69_, q69_, S69_, M69_, Hs69_, G69_⟩ := id v66_
  have in69_ : ¬ ((0 : Int32) < 0 ∨ cl69_.slots.size ≤ ((0 : Int32)).toNatClampNeg) := inb_of S69_ ⟨by decide, by decide⟩
  obtain ⟨T69_, h69_, X69_, e69_, W69_, st69_⟩ := stC X66_ hx hZ58_ e66_ Ar69_ (j := (0 : Int32)) in69_ (g := (mkF m 159 #[.val (.int p0), .val (.int p1), .val (.int p2), .val (.int ((p1 &&& (255 : Int32)).toUInt32.toUInt16.toUInt32.toInt32)), .val (.int ((((p1.toUInt32 >>> ((8 : Int32) &&& 31).toUInt32).toInt32) &&& (255 : Int32)).toUInt32.toUInt16.toUInt32.toInt32)), .val (.int ((p2 &&& (255 : Int32)).toUInt32.toUInt16.toUInt32.toInt32)), .val (.int ((((p2.toUInt32 >>> ((8 : Int32) &&& 31).toUInt32).toInt32) &&& (255 : Int32)).toUInt32.toUInt16.toUInt32.toInt32)), .val (.ref b1_), .val (.ref b29_), .val (.ref ea_58_), .unset] [(.int (105 : Int32)), (.int (0 : Int32)), (.ref b66_), (.ref b66_), (.ref b63_), (.ref b63_)])) rfl rfl (hb hby at_159)
  have ch74_ : CHv Z consts_1 T58_.vm h69_ := CHv.wr W69_ f73_ ch67_
  have cr75_ := cr68_.trans (CHr.wr W69_ f73_ ch67_)
  have v69_ : Arv Z h69_ b66_ k66_ .char (32 : Int32) [(.int (nar .char (105 : Int32))), (.int (0 : Int32)), (.int (0 : Int32)), (.int (0 : Int32)), (.int (0 : Int32)), (.int (0 : Int32)), (.int (0 : Int32)), (.int (0 : Int32)), (.int (0 : Int32)), (.int (0 : Int32)), (.int (0 : Int32)), (.int (0 : Int32)), (.int (0 : Int32)), (.int (0 : Int32)), (.int (0 : Int32)), (.int (0 : Int32)), (.int (0 : Int32)), (.int (0 : Int32)), (.int (0 : Int32)), (.int (0 : Int32)), (.int (0 : Int32)), (.int (0 : Int32)), (.int (0 : Int32)), (.int (0 : Int32)), (.int (0 : Int32)), (.int (0 : Int32)), (.int (0 : Int32)), (.int (0 : Int32)), (.int (0 : Int32)), (.int (0 : Int32)), (.int (0 : Int32)), (.int (0 : Int32))] (.int (0 : Int32)) := Arv.set Ar69_ q69_ S69_ M69_ Hs69_ G69_ (fits_nar_char _) W69_ 0 rfl (Nat.le_of_ble_eq_true rfl)
  have N69_ := Fr.snoc X69_ N58_ g70_
  have f77_ : Safe Z consts_1 T58_.vm h69_ b66_ := (Safe.wr W69_ f73_ ch67_ f73_)
  obtain ⟨cl76_, Ar76_, q76_, S76_, M76_, Hs76_, G76_⟩ := id v69_
  have in76_ : ¬ ((1 : Int32) < 0 ∨ cl76_.slots.size ≤ ((1 : Int32)).toNatClampNeg) := inb_of S76_ ⟨by decide, by decide⟩
  obtain ⟨T76_, h76_, X76_, e76_, W76_, st76_⟩ := stC X69_ hx hZ58_ e69_ Ar76_ (j := (1 : Int32)) in76_ (g := (mkF m 164 #[.val (.int p0), .val (.int p1), .val (.int p2), .val (.int ((p1 &&& (255 : Int32)).toUInt32.toUInt16.toUInt32.toInt32)), .val (.int ((((p1.toUInt32 >>> ((8 : Int32) &&& 31).toUInt32).toInt32) &&& (255 : Int32)).toUInt32.toUInt16.toUInt32.toInt32)), .val (.int ((p2 &&& (255 : Int32)).toUInt32.toUInt16.toUInt32.toInt32)), .val (.int ((((p2.toUInt32 >>> ((8 : Int32) &&& 31).toUInt32).toInt32) &&& (255 : Int32)).toUInt32.toUInt16.toUInt32.toInt32)), .val (.ref b1_), .val (.ref b29_), .val (.ref ea_58_), .unset] [(.int (110 : Int32)), (.int (1 : Int32)), (.ref b66_), (.ref b66_), (.ref b63_), (.ref b63_)])) rfl rfl (hb hby at_164)
  have ch78_ : CHv Z consts_1 T58_.vm h76_ := CHv.wr W76_ f77_ ch74_
  have cr79_ := cr75_.trans (CHr.wr W76_ f77_ ch74_)
  have v76_ : Arv Z h76_ b66_ k66_ .char (32 : Int32) [(.int (nar .char (105 : Int32))), (.int (nar .char (110 : Int32))), (.int (0 : Int32)), (.int (0 : Int32)), (.int (0 : Int32)), (.int (0 : Int32)), (.int (0 : Int32)), (.int (0 : Int32)), (.int (0 : Int32)), (.int (0 : Int32)), (.int (0 : Int32)), (.int (0 : Int32)), (.int (0 : Int32)), (.int (0 : Int32)), (.int (0 : Int32)), (.int (0 : Int32)), (.int (0 : Int32)), (.int (0 : Int32)), (.int (0 : Int32)), (.int (0 : Int32)), (.int (0 : Int32)), (.int (0 : Int32)), (.int (0 : Int32)), (.int (0 : Int32)), (.int (0 : Int32)), (.int (0 : Int32)), (.int (0 : Int32)), (.int (0 : Int32)), (.int (0 : Int32)), (.int (0 : Int32)), (.int (0 : Int32)), (.int (0 : Int32))] (.int (0 : Int32)) := Arv.set Ar76_ q76_ S76_ M76_ Hs76_ G76_ (fits_nar_char _) W76_ 1 rfl (Nat.le_of_ble_eq_true rfl)
  have N76_ := Fr.snoc X76_ N69_ g70_
  have f81_ : Safe Z consts_1 T58_.vm h76_ b66_ := (Safe.wr W76_ f77_ ch74_ f77_)
  obtain ⟨cl80_, Ar80_, q80_, S80_, M80_, Hs80_, G80_⟩ := id v76_
  have in80_ : ¬ ((2 : Int32) < 0 ∨ cl80_.slots.size ≤ ((2 : Int32)).toNatClampNeg) := inb_of S80_ ⟨by decide, by decide⟩
  obtain ⟨T80_, h80_, X80_, e80_, W80_, st80_⟩ := stC X76_ hx hZ58_ e76_ Ar80_ (j := (2 : Int32)) in80_ (g := (mkF m 169 #[.val (.int p0), .val (.int p1), .val (.int p2), .val (.int ((p1 &&& (255 : Int32)).toUInt32.toUInt16.toUInt32.toInt32)), .val (.int ((((p1.toUInt32 >>> ((8 : Int32) &&& 31).toUInt32).toInt32) &&& (255 : Int32)).toUInt32.toUInt16.toUInt32.toInt32)), .val (.int ((p2 &&& (255 : Int32)).toUInt32.toUInt16.toUInt32.toInt32)), .val (.int ((((p2.toUInt32 >>> ((8 : Int32) &&& 31).toUInt32).toInt32) &&& (255 : Int32)).toUInt32.toUInt16.toUInt32.toInt32)), .val (.ref b1_), .val (.ref b29_), .val (.ref ea_58_), .unset] [(.int (118 : Int32)), (.int (2 : Int32)), (.ref b66_), (.ref b66_), (.ref b63_), (.ref b63_)])) rfl rfl (hb hby at_169)
  have ch82_ : CHv Z consts_1 T58_.vm h80_ := CHv.wr W80_ f81_ ch78_
  have cr83_ := cr79_.trans (CHr.wr W80_ f81_ ch78_)
  have v80_ : Arv Z h80_ b66_ k66_ .char (32 : Int32) [(.int (nar .char (105 : Int32))), (.int (nar .char (110 : Int32))), (.int (nar .char (118 : Int32))), (.int (0 : Int32)), (.int (0 : Int32)), (.int (0 : Int32)), (.int (0 : Int32)), (.int (0 : Int32)), (.int (0 : Int32)), (.int (0 : Int32)), (.int (0 : Int32)), (.int (0 : Int32)), (.int (0 : Int32)), (.int (0 : Int32)), (.int (0 : Int32)), (.int (0 : Int32)), (.int (0 : Int32)), (.int (0 : Int32)), (.int (0 : Int32)), (.int (0 : Int32)), (.int (0 : Int32)), (.int (0 : Int32)), (.int (0 : Int32)), (.int (0 : Int32)), (.int (0 : Int32)), (.int (0 : Int32)), (.int (0 : Int32)), (.int (0 : Int32)), (.int (0 : Int32)), (.int (0 : Int32)), (.int (0 : Int32)), (.int (0 : Int32))] (.int (0 : Int32)) := Arv.set Ar80_ q80_ S80_ M80_ Hs80_ G80_ (fits_nar_char _) W80_ 2 rfl (Nat.le_of_ble_eq_true rfl)
  have N80_ := Fr.snoc X80_ N76_ g70_
  have f85_ : Safe Z consts_1 T58_.vm h80_ b66_ := (Safe.wr W80_ f81_ ch78_ f81_)
  obtain ⟨cl84_, Ar84_, q84_, S84_, M84_, Hs84_, G84_⟩ := id v80_
  have in84_ : ¬ ((3 : Int32) < 0 ∨ cl84_.slots.size ≤ ((3 : Int32)).toNatClampNeg) := inb_of S84_ ⟨by decide, by decide⟩
  obtain ⟨T84_, h84_, X84_, e84_, W84_, st84_⟩ := stC X80_ hx hZ58_ e80_ Ar84_ (j := (3 : Int32)) in84_ (g := (mkF m 174 #[.val (.int p0), .val (.int p1), .val (.int p2), .val (.int ((p1 &&& (255 : Int32)).toUInt32.toUInt16.toUInt32.toInt32)), .val (.int ((((p1.toUInt32 >>> ((8 : Int32) &&& 31).toUInt32).toInt32) &&& (255 : Int32)).toUInt32.toUInt16.toUInt32.toInt32)), .val (.int ((p2 &&& (255 : Int32)).toUInt32.toUInt16.toUInt32.toInt32)), .val (.int ((((p2.toUInt32 >>> ((8 : Int32) &&& 31).toUInt32).toInt32) &&& (255 : Int32)).toUInt32.toUInt16.toUInt32.toInt32)), .val (.ref b1_), .val (.ref b29_), .val (.ref ea_58_), .unset] [(.int (97 : Int32)), (.int (3 : Int32)), (.ref b66_), (.ref b66_), (.ref b63_), (.ref b63_)])) rfl rfl (hb hby at_174)
  have ch86_ : CHv Z consts_1 T58_.vm h84_ := CHv.wr W84_ f85_ ch82_
  have cr87_ := cr83_.trans (CHr.wr W84_ f85_ ch82_)
  have v84_ : Arv Z h84_ b66_ k66_ .char (32 : Int32) [(.int (nar .char (105 : Int32))), (.int (nar .char (110 : Int32))), (.int (nar .char (118 : Int32))), (.int (nar .char (97 : Int32))), (.int (0 : Int32)), (.int (0 : Int32)), (.int (0 : Int32)), (.int (0 : Int32)), (.int (0 : Int32)), (.int (0 : Int32)), (.int (0 : Int32)), (.int (0 : Int32)), (.int (0 : Int32)), (.int (0 : Int32)), (.int (0 : Int32)), (.int (0 : Int32)), (.int (0 : Int32)), (.int (0 : Int32)), (.int (0 : Int32)), (.int (0 : Int32)), (.int (0 : Int32)), (.int (0 : Int32)), (.int (0 : Int32)), (.int (0 : Int32)), (.int (0 : Int32)), (.int (0 : Int32)), (.int (0 : Int32)), (.int (0 : Int32)), (.int (0 : Int32)), (.int (0 : Int32)), (.int (0 : Int32)), (.int (0 : Int32))] (.int (0 : Int32)) := Arv.set Ar84_ q84_ S84_ M84_ Hs84_ G84_ (fits_nar_char _) W84_ 3 rfl (Nat.le_of_ble_eq_true rfl)
  have N84_ := Fr.snoc X84_ N80_ g70_
  have f89_ : Safe Z consts_1 T58_.vm h84_ b66_ := (Safe.wr W84_ f85_ ch82_ f85_)
  obtain ⟨cl88_, Ar88_, q88_, S88_, M88_, Hs88_, G88_⟩ := id v84_
  have in88_ : ¬ ((4 : Int32) < 0 ∨ cl88_.slots.size ≤ ((4 : Int32)).toNatClampNeg) := inb_of S88_ ⟨by decide, by decide⟩
  obtain ⟨T88_, h88_, X88_, e88_, W88_, st88_⟩ := stC X84_ hx hZ58_ e84_ Ar88_ (j := (4 : Int32)) in88_ (g := (mkF m 179 #[.val (.int p0), .val (.int p1), .val (.int p2), .val (.int ((p1 &&& (255 : Int32)).toUInt32.toUInt16.toUInt32.toInt32)), .val (.int ((((p1.toUInt32 >>> ((8 : Int32) &&& 31).toUInt32).toInt32) &&& (255 : Int32)).toUInt32.toUInt16.toUInt32.toInt32)), .val (.int ((p2 &&& (255 : Int32)).toUInt32.toUInt16.toUInt32.toInt32)), .val (.int ((((p2.toUInt32 >>> ((8 : Int32) &&& 31).toUInt32).toInt32) &&& (255 : Int32)).toUInt32.toUInt16.toUInt32.toInt32)), .val (.ref b1_), .val (.ref b29_), .val (.ref ea_58_), .unset] [(.int (108 : Int32)), (.int (4 : Int32)), (.ref b66_), (.ref b66_), (.ref b63_), (.ref b63_)])) rfl rfl (hb hby at_179)
  have ch90_ : CHv Z consts_1 T58_.vm h88_ := CHv.wr W88_ f89_ ch86_
  have cr91_ := cr87_.trans (CHr.wr W88_ f89_ ch86_)
  have v88_ : Arv Z h88_ b66_ k66_ .char (32 : Int32) [(.int (nar .char (105 : Int32))), (.int (nar .char (110 : Int32))), (.int (nar .char (118 : Int32))), (.int (nar .char (97 : Int32))), (.int (nar .char (108 : Int32))), (.int (0 : Int32)), (.int (0 : Int32)), (.int (0 : Int32)), (.int (0 : Int32)), (.int (0 : Int32)), (.int (0 : Int32)), (.int (0 : Int32)), (.int (0 : Int32)), (.int (0 : Int32)), (.int (0 : Int32)), (.int (0 : Int32)), (.int (0 : Int32)), (.int (0 : Int32)), (.int (0 : Int32)), (.int (0 : Int32)), (.int (0 : Int32)), (.int (0 : Int32)), (.int (0 : Int32)), (.int (0 : Int32)), (.int (0 : Int32)), (.int (0 : Int32)), (.int (0 : Int32)), (.int (0 : Int32)), (.int (0 : Int32)), (.int (0 : Int32)), (.int (0 : Int32)), (.int (0 : Int32))] (.int (0 : Int32)) := Arv.set Ar88_ q88_ S88_ M88_ Hs88_ G88_ (fits_nar_char _) W88_ 4 rfl (Nat.le_of_ble_eq_true rfl)
  have N88_ := Fr.snoc X88_ N84_ g70_
  have f93_ : Safe Z consts_1 T58_.vm h88_ b66_ := (Safe.wr W88_ f89_ ch86_ f89_)
  obtain ⟨cl92_, Ar92_, q92_, S92_, M92_, Hs92_, G92_⟩ := id v88_
  have in92_ : ¬ ((5 : Int32) < 0 ∨ cl92_.slots.size ≤ ((5 : Int32)).toNatClampNeg) := inb_of S92_ ⟨by decide, by decide⟩
  obtain ⟨T92_, h92_, X92_, e92_, W92_, st92_⟩ := stC X88_ hx hZ58_ e88_ Ar92_ (j := (5 : Int32)) in92_ (g := (mkF m 184 #[.val (.int p0), .val (.int p1), .val (.int p2), .val (.int ((p1 &&& (255 : Int32)).toUInt32.toUInt16.toUInt32.toInt32)), .val (.int ((((p1.toUInt32 >>> ((8 : Int32) &&& 31).toUInt32).toInt32) &&& (255 : Int32)).toUInt32.toUInt16.toUInt32.toInt32)), .val (.int ((p2 &&& (255 : Int32)).toUInt32.toUInt16.toUInt32.toInt32)), .val (.int ((((p2.toUInt32 >>> ((8 : Int32) &&& 31).toUInt32).toInt32) &&& (255 : Int32)).toUInt32.toUInt16.toUInt32.toInt32)), .val (.ref b1_), .val (.ref b29_), .val (.ref ea_58_), .unset] [(.int (105 : Int32)), (.int (5 : Int32)), (.ref b66_), (.ref b66_), (.ref b63_), (.ref b63_)])) rfl rfl (hb hby at_184)
  have ch94_ : CHv Z consts_1 T58_.vm h92_ := CHv.wr W92_ f93_ ch90_
  have cr95_ := cr91_.trans (CHr.wr W92_ f93_ ch90_)
  have v92_ : Arv Z h92_ b66_ k66_ .char (32 : Int32) [(.int (nar .char (105 : Int32))), (.int (nar .char (110 : Int32))), (.int (nar .char (118 : Int32))), (.int (nar .char (97 : Int32))), (.int (nar .char (108 : Int32))), (.int (nar .char (105 : Int32))), (.int (0 : Int32)), (.int (0 : Int32)), (.int (0 : Int32)), (.int (0 : Int32)), (.int (0 : Int32)), (.int (0 : Int32)), (.int (0 : Int32)), (.int (0 : Int32)), (.int (0 : Int32)), (.int (0 : Int32)), (.int (0 : Int32)), (.int (0 : Int32)), (.int (0 : Int32)), (.int (0 : Int32)), (.int (0 : Int32)), (.int (0 : Int32)), (.int (0 : Int32)), (.int (0 : Int32)), (.int (0 : Int32)), (.int (0 : Int32)), (.int (0 : Int32)), (.int (0 : Int32)), (.int (0 : Int32)), (.int (0 : Int32)), (.int (0 : Int32)), (.int (0 : Int32))] (.int (0 : Int32)) := Arv.set Ar92_ q92_ S92_ M92_ Hs92_ G92_ (fits_nar_char _) W92_ 5 rfl (Nat.le_of_ble_eq_true rfl)
  have N92_ := Fr.snoc X92_ N88_ g70_
  have f97_ : Safe Z consts_1 T58_.vm h92_ b66_ := (Safe.wr W92_ f93_ ch90_ f93_)
  obtain ⟨cl96_, Ar96_, q96_, S96_, M96_, Hs96_, G96_⟩ := id v92_
  have in96_ : ¬ ((6 : Int32) < 0 ∨ cl96_.slots.size ≤ ((6 : Int32)).toNatClampNeg) := inb_of S96_ ⟨by decide, by decide⟩
  obtain ⟨T96_, h96_, X96_, e96_, W96_, st96_⟩ := stC X92_ hx hZ58_ e92_ Ar96_ (j := (6 : Int32)) in96_ (g := (mkF m 190 #[.val (.int p0), .val (.int p1), .val (.int p2), .val (.int ((p1 &&& (255 : Int32)).toUInt32.toUInt16.toUInt32.toInt32)), .val (.int ((((p1.toUInt32 >>> ((8 : Int32) &&& 31).toUInt32).toInt32) &&& (255 : Int32)).toUInt32.toUInt16.toUInt32.toInt32)), .val (.int ((p2 &&& (255 : Int32)).toUInt32.toUInt16.toUInt32.toInt32)), .val (.int ((((p2.toUInt32 >>> ((8 : Int32) &&& 31).toUInt32).toInt32) &&& (255 : Int32)).toUInt32.toUInt16.toUInt32.toInt32)), .val (.ref b1_), .val (.ref b29_), .val (.ref ea_58_), .unset] [(.int (100 : Int32)), (.int (6 : Int32)), (.ref b66_), (.ref b66_), (.ref b63_), (.ref b63_)])) rfl rfl (hb hby at_190)
  have ch98_ : CHv Z consts_1 T58_.vm h96_ := CHv.wr W96_ f97_ ch94_
  have cr99_ := cr95_.trans (CHr.wr W96_ f97_ ch94_)
  have v96_ : Arv Z h96_ b66_ k66_ .char (32 : Int32) [(.int (nar .char (105 : Int32))), (.int (nar .char (110 : Int32))), (.int (nar .char (118 : Int32))), (.int (nar .char (97 : Int32))), (.int (nar .char (108 : Int32))), (.int (nar .char (105 : Int32))), (.int (nar .char (100 : Int32))), (.int (0 : Int32)), (.int (0 : Int32)), (.int (0 : Int32)), (.int (0 : Int32)), (.int (0 : Int32)), (.int (0 : Int32)), (.int (0 : Int32)), (.int (0 : Int32)), (.int (0 : Int32)), (.int (0 : Int32)), (.int (0 : Int32)), (.int (0 : Int32)), (.int (0 : Int32)), (.int (0 : Int32)), (.int (0 : Int32)), (.int (0 : Int32)), (.int (0 : Int32)), (.int (0 : Int32)), (.int (0 : Int32)), (.int (0 : Int32)), (.int (0 : Int32)), (.int (0 : Int32)), (.int (0 : Int32)), (.int (0 : Int32)), (.int (0 : Int32))] (.int (0 : Int32)) := Arv.set Ar96_ q96_ S96_ M96_ Hs96_ G96_ (fits_nar_char _) W96_ 6 rfl (Nat.le_of_ble_eq_true rfl)
  have N96_ := Fr.snoc X96_ N92_ g70_
  have f101_ : Safe Z consts_1 T58_.vm h96_ b66_ := (Safe.wr W96_ f97_ ch94_ f97_)
  obtain ⟨cl100_, Ar100_, q100_, S100_, M100_, Hs100_, G100_⟩ := id v96_
  have in100_ : ¬ ((7 : Int32) < 0 ∨ cl100_.slots.size ≤ ((7 : Int32)).toNatClampNeg) := inb_of S100_ ⟨by decide, by decide⟩
  obtain ⟨T100_, h100_, X100_, e100_, W100_, st100_⟩ := stC X96_ hx hZ58_ e96_ Ar100_ (j := (7 : Int32)) in100_ (g := (mkF m 196 #[.val (.int p0), .val (.int p1), .val (.int p2), .val (.int ((p1 &&& (255 : Int32)).toUInt32.toUInt16.toUInt32.toInt32)), .val (.int ((((p1.toUInt32 >>> ((8 : Int32) &&& 31).toUInt32).toInt32) &&& (255 : Int32)).toUInt32.toUInt16.toUInt32.toInt32)), .val (.int ((p2 &&& (255 : Int32)).toUInt32.toUInt16.toUInt32.toInt32)), .val (.int ((((p2.toUInt32 >>> ((8 : Int32) &&& 31).toUInt32).toInt32) &&& (255 : Int32)).toUInt32.toUInt16.toUInt32.toInt32)), .val (.ref b1_), .val (.ref b29_), .val (.ref ea_58_), .unset] [(.int (32 : Int32)), (.int (7 : Int32)), (.ref b66_), (.ref b66_), (.ref b63_), (.ref b63_)])) rfl rfl (hb hby at_196)
  have ch102_ : CHv Z consts_1 T58_.vm h100_ := CHv.wr W100_ f101_ ch98_
  have cr103_ := cr99_.trans (CHr.wr W100_ f101_ ch98_)
  have v100_ : Arv Z h100_ b66_ k66_ .char (32 : Int32) [(.int (nar .char (105 : Int32))), (.int (nar .char (110 : Int32))), (.int (nar .char (118 : Int32))), (.int (nar .char (97 : Int32))), (.int (nar .char (108 : Int32))), (.int (nar .char (105 : Int32))), (.int (nar .char (100 : Int32))), (.int (nar .char (32 : Int32))), (.int (0 : Int32)), (.int (0 : Int32)), (.int (0 : Int32)), (.int (0 : Int32)), (.int (0 : Int32)), (.int (0 : Int32)), (.int (0 : Int32)), (.int (0 : Int32)), (.int (0 : Int32)), (.int (0 : Int32)), (.int (0 : Int32)), (.int (0 : Int32)), (.int (0 : Int32)), (.int (0 : Int32)), (.int (0 : Int32)), (.int (0 : Int32)), (.int (0 : Int32)), (.int (0 : Int32)), (.int (0 : Int32)), (.int (0 : Int32)), (.int (0 : Int32)), (.int (0 : Int32)), (.int (0 : Int32)), (.int (0 : Int32))] (.int (0 : Int32)) := Arv.set Ar100_ q100_ S100_ M100_ Hs100_ G100_ (fits_nar_char _) W100_ 7 rfl (Nat.le_of_ble_eq_true rfl)
  have N100_ := Fr.snoc X100_ N96_ g70_
  have f105_ : Safe Z consts_1 T58_.vm h100_ b66_ := (Safe.wr W100_ f101_ ch98_ f101_)
  obtain ⟨cl104_, Ar104_, q104_, S104_, M104_, Hs104_, G104_⟩ := id v100_
  have in104_ : ¬ ((8 : Int32) < 0 ∨ cl104_.slots.size ≤ ((8 : Int32)).toNatClampNeg) := inb_of S104_ ⟨by decide, by decide⟩
  obtain ⟨T104_, h104_, X104_, e104_, W104_, st104_⟩ := stC X100_ hx hZ58_ e100_ Ar104_ (j := (8 : Int32)) in104_ (g := (mkF m 202 #[.val (.int p0), .val (.int p1), .val (.int p2), .val (.int ((p1 &&& (255 : Int32)).toUInt32.toUInt16.toUInt32.toInt32)), .val (.int ((((p1.toUInt32 >>> ((8 : Int32) &&& 31).toUInt32).toInt32) &&& (255 : Int32)).toUInt32.toUInt16.toUInt32.toInt32)), .val (.int ((p2 &&& (255 : Int32)).toUInt32.toUInt16.toUInt32.toInt32)), .val (.int ((((p2.toUInt32 >>> ((8 : Int32) &&& 31).toUInt32).toInt32) &&& (255 : Int32)).toUInt32.toUInt16.toUInt32.toInt32)), .val (.ref b1_), .val (.ref b29_), .val (.ref ea_58_), .unset] [(.int (98 : Int32)), (.int (8 : Int32)), (.ref b66_), (.ref b66_), (.ref b63_), (.ref b63_)])) rfl rfl (hb hby at_202)
  have ch106_ : CHv Z consts_1 T58_.vm h104_ := CHv.wr W104_ f105_ ch102_
  have cr107_ := cr103_.trans (CHr.wr W104_ f105_ ch102_)
  have v104_ : Arv Z h104_ b66_ k66_ .char (32 : Int32) [(.int (nar .char (105 : Int32))), (.int (nar .char (110 : Int32))), (.int (nar .char (118 : Int32))), (.int (nar .char (97 : Int32))), (.int (nar .char (108 : Int32))), (.int (nar .char (105 : Int32))), (.int (nar .char (100 : Int32))), (.int (nar .char (32 : Int32))), (.int (nar .char (98 : Int32))), (.int (0 : Int32)), (.int (0 : Int32)), (.int (0 : Int32)), (.int (0 : Int32)), (.int (0 : Int32)), (.int (0 : Int32)), (.int (0 : Int32)), (.int (0 : Int32)), (.int (0 : Int32)), (.int (0 : Int32)), (.int (0 : Int32)), (.int (0 : Int32)), (.int (0 : Int32)), (.int (0 : Int32)), (.int (0 : Int32)), (.int (0 : Int32)), (.int (0 : Int32)), (.int (0 : Int32)), (.int (0 : Int32)), (.int (0 : Int32)), (.int (0 : Int32)), (.int (0 : Int32)), (.int (0 : Int32))] (.int (0 : Int32)) := Arv.set Ar104_ q104_ S104_ M104_ Hs104_ G104_ (fits_nar_char _) W104_ 8 rfl (Nat.le_of_ble_eq_true rfl)
  have N104_ := Fr.snoc X104_ N100_ g70_
  have f109_ : Safe Z consts_1 T58_.vm h104_ b66_ := (Safe.wr W104_ f105_ ch102_ f105_)
  obtain ⟨cl108_, Ar108_, q108_, S108_, M108_, Hs108_, G108_⟩ := id v104_
  have in108_ : ¬ ((9 : Int32) < 0 ∨ cl108_.slots.size ≤ ((9 : Int32)).toNatClampNeg) := inb_of S108_ ⟨by decide, by decide⟩
  obtain ⟨T108_, h108_, X108_, e108_, W108_, st108_⟩ := stC X104_ hx hZ58_ e104_ Ar108_ (j := (9 : Int32)) in108_ (g := (mkF m 208 #[.val (.int p0), .val (.int p1), .val (.int p2), .val (.int ((p1 &&& (255 : Int32)).toUInt32.toUInt16.toUInt32.toInt32)), .val (.int ((((p1.toUInt32 >>> ((8 : Int32) &&& 31).toUInt32).toInt32) &&& (255 : Int32)).toUInt32.toUInt16.toUInt32.toInt32)), .val (.int ((p2 &&& (255 : Int32)).toUInt32.toUInt16.toUInt32.toInt32)), .val (.int ((((p2.toUInt32 >>> ((8 : Int32) &&& 31).toUInt32).toInt32) &&& (255 : Int32)).toUInt32.toUInt16.toUInt32.toInt32)), .val (.ref b1_), .val (.ref b29_), .val (.ref ea_58_), .unset] [(.int (101 : Int32)), (.int (9 : Int32)), (.ref b66_), (.ref b66_), (.ref b63_), (.ref b63_)])) rfl rfl (hb hby at_208)
  have ch110_ : CHv Z consts_1 T58_.vm h108_ := CHv.wr W108_ f109_ ch106_
  have cr111_ := cr107_.trans (CHr.wr W108_ f109_ ch106_)
  have v108_ : Arv Z h108_ b66_ k66_ .char (32 : Int32) [(.int (nar .char (105 : Int32))), (.int (nar .char (110 : Int32))), (.int (nar .char (118 : Int32))), (.int (nar .char (97 : Int32))), (.int (nar .char (108 : Int32))), (.int (nar .char (105 : Int32))), (.int (nar .char (100 : Int32))), (.int (nar .char (32 : Int32))), (.int (nar .char (98 : Int32))), (.int (nar .char (101 : Int32))), (.int (0 : Int32)), (.int (0 : Int32)), (.int (0 : Int32)), (.int (0 : Int32)), (.int (0 : Int32)), (.int (0 : Int32)), (.int (0 : Int32)), (.int (0 : Int32)), (.int (0 : Int32)), (.int (0 : Int32)), (.int (0 : Int32)), (.int (0 : Int32)), (.int (0 : Int32)), (.int (0 : Int32)), (.int (0 : Int32)), (.int (0 : Int32)), (.int (0 : Int32)), (.int (0 : Int32)), (.int (0 : Int32)), (.int (0 : Int32)), (.int (0 : Int32)), (.int (0 : Int32))] (.int (0 : Int32)) := Arv.set Ar108_ q108_ S108_ M108_ Hs108_ G108_ (fits_nar_char _) W108_ 9 rfl (Nat.le_of_ble_eq_true rfl)
  have N108_ := Fr.snoc X108_ N104_ g70_
  have f113_ : Safe Z consts_1 T58_.vm h108_ b66_ := (Safe.wr W108_ f109_ ch106_ f109_)
  obtain ⟨cl112_, Ar112_, q112_, S112_, M112_, Hs112_, G112_⟩ := id v108_
  have in112_ : ¬ ((10 : Int32) < 0 ∨ cl112_.slots.size ≤ ((10 : Int32)).toNatClampNeg) := inb_of S112_ ⟨by decide, by decide⟩
  obtain ⟨T112_, h112_, X112_, e112_, W112_, st112_⟩ := stC X108_ hx hZ58_ e108_ Ar112_ (j := (10 : Int32)) in112_ (g := (mkF m 214 #[.val (.int p0), .val (.int p1), .val (.int p2), .val (.int ((p1 &&& (255 : Int32)).toUInt32.toUInt16.toUInt32.toInt32)), .val (.int ((((p1.toUInt32 >>> ((8 : Int32) &&& 31).toUInt32).toInt32) &&& (255 : Int32)).toUInt32.toUInt16.toUInt32.toInt32)), .val (.int ((p2 &&& (255 : Int32)).toUInt32.toUInt16.toUInt32.toInt32)), .val (.int ((((p2.toUInt32 >>> ((8 : Int32) &&& 31).toUInt32).toInt32) &&& (255 : Int32)).toUInt32.toUInt16.toUInt32.toInt32)), .val (.ref b1_), .val (.ref b29_), .val (.ref ea_58_), .unset] [(.int (97 : Int32)), (.int (10 : Int32)), (.ref b66_), (.ref b66_), (.ref b63_), (.ref b63_)])) rfl rfl (hb hby at_214)
  have ch114_ : CHv Z consts_1 T58_.vm h112_ := CHv.wr W112_ f113_ ch110_
  have cr115_ := cr111_.trans (CHr.wr W112_ f113_ ch110_)
  have v112_ : Arv Z h112_ b66_ k66_ .char (32 : Int32) [(.int (nar .char (105 : Int32))), (.int (nar .char (110 : Int32))), (.int (nar .char (118 : Int32))), (.int (nar .char (97 : Int32))), (.int (nar .char (108 : Int32))), (.int (nar .char (105 : Int32))), (.int (nar .char (100 : Int32))), (.int (nar .char (32 : Int32))), (.int (nar .char (98 : Int32))), (.int (nar .char (101 : Int32))), (.int (nar .char (97 : Int32))), (.int (0 : Int32)), (.int (0 : Int32)), (.int (0 : Int32)), (.int (0 : Int32)), (.int (0 : Int32)), (.int (0 : Int32)), (.int (0 : Int32)), (.int (0 : Int32)), (.int (0 : Int32)), (.int (0 : Int32)), (.int (0 : Int32)), (.int (0 : Int32)), (.int (0 : Int32)), (.int (0 : Int32)), (.int (0 : Int32)), (.int (0 : Int32)), (.int (0 : Int32)), (.int (0 : Int32)), (.int (0 : Int32)), (.int (0 : Int32)), (.int (0 : Int32))] (.int (0 : Int32)) := Arv.set Ar112_ q112_ S112_ M112_ Hs112_ G112_ (fits_nar_char _) W112_ 10 rfl (Nat.le_of_ble_eq_true rfl)
  have N112_ := Fr.snoc X112_ N108_ g70_
  have f117_ : Safe Z consts_1 T58_.vm h112_ b66_ := (Safe.wr W112_ f113_ ch110_ f113_)
  obtain ⟨cl116_, Ar116_, q116_, S116_, M116_, Hs116_, G116_⟩ := id v112_
  have in116_ : ¬ ((11 : Int32) < 0 ∨ cl116_.slots.size ≤ ((11 : Int32)).toNatClampNeg) := inb_of S116_ ⟨by decide, by decide⟩
  obtain ⟨T116_, h116_, X116_, e116_, W116_, st116_⟩ := stC X112_ hx hZ58_ e112_ Ar116_ (j := (11 : Int32)) in116_ (g := (mkF m 220 #[.val (.int p0), .val (.int p1), .val (.int p2), .val (.int ((p1 &&& (255 : Int32)).toUInt32.toUInt16.toUInt32.toInt32)), .val (.int ((((p1.toUInt32 >>> ((8 : Int32) &&& 31).toUInt32).toInt32) &&& (255 : Int32)).toUInt32.toUInt16.toUInt32.toInt32)), .val (.int ((p2 &&& (255 : Int32)).toUInt32.toUInt16.toUInt32.toInt32)), .val (.int ((((p2.toUInt32 >>> ((8 : Int32) &&& 31).toUInt32).toInt32) &&& (255 : Int32)).toUInt32.toUInt16.toUInt32.toInt32)), .val (.ref b1_), .val (.ref b29_), .val (.ref ea_58_), .unset] [(.int (110 : Int32)), (.int (11 : Int32)), (.ref b66_), (.ref b66_), (.ref b63_), (.ref b63_)])) rfl rfl (hb hby at_220)
  have ch118_ : CHv Z consts_1 T58_.vm h116_ := CHv.wr W116_ f117_ ch114_
  have cr119_ := cr115_.trans (CHr.wr W116_ f117_ ch114_)
  have v116_ : Arv Z h116_ b66_ k66_ .char (32 : Int32) [(.int (nar .char (105 : Int32))), (.int (nar .char (110 : Int32))), (.int (nar .char (118 : Int32))), (.int (nar .char (97 : Int32))), (.int (nar .char (108 : Int32))), (.int (nar .char (105 : Int32))), (.int (nar .char (100 : Int32))), (.int (nar .char (32 : Int32))), (.int (nar .char (98 : Int32))), (.int (nar .char (101 : Int32))), (.int (nar .char (97 : Int32))), (.int (nar .char (110 : Int32))), (.int (0 : Int32)), (.int (0 : Int32)), (.int (0 : Int32)), (.int (0 : Int32)), (.int (0 : Int32)), (.int (0 : Int32)), (.int (0 : Int32)), (.int (0 : Int32)), (.int (0 : Int32)), (.int (0 : Int32)), (.int (0 : Int32)), (.int (0 : Int32)), (.int (0 : Int32)), (.int (0 : Int32)), (.int (0 : Int32)), (.int (0 : Int32)), (.int (0 : Int32)), (.int (0 : Int32)), (.int (0 : Int32)), (.int (0 : Int32))] (.int (0 : Int32)) := Arv.set Ar116_ q116_ S116_ M116_ Hs116_ G116_ (fits_nar_char _) W116_ 11 rfl (Nat.le_of_ble_eq_true rfl)
  have N116_ := Fr.snoc X116_ N112_ g70_
  have f121_ : Safe Z consts_1 T58_.vm h116_ b66_ := (Safe.wr W116_ f117_ ch114_ f117_)
  obtain ⟨cl120_, Ar120_, q120_, S120_, M120_, Hs120_, G120_⟩ := id v116_
  have in120_ : ¬ ((12 : Int32) < 0 ∨ cl120_.slots.size ≤ ((12 : Int32)).toNatClampNeg) := inb_of S120_ ⟨by decide, by decide⟩
  obtain ⟨T120_, h120_, X120_, e120_, W120_, st120_⟩ := stC X116_ hx hZ58_ e116_ Ar120_ (j := (12 : Int32)) in120_ (g := (mkF m 226 #[.val (.int p0), .val (.int p1), .val (.int p2), .val (.int ((p1 &&& (255 : Int32)).toUInt32.toUInt16.toUInt32.toInt32)), .val (.int ((((p1.toUInt32 >>> ((8 : Int32) &&& 31).toUInt32).toInt32) &&& (255 : Int32)).toUInt32.toUInt16.toUInt32.toInt32)), .val (.int ((p2 &&& (255 : Int32)).toUInt32.toUInt16.toUInt32.toInt32)), .val (.int ((((p2.toUInt32 >>> ((8 : Int32) &&& 31).toUInt32).toInt32) &&& (255 : Int32)).toUInt32.toUInt16.toUInt32.toInt32)), .val (.ref b1_), .val (.ref b29_), .val (.ref ea_58_), .unset] [(.int (32 : Int32)), (.int (12 : Int32)), (.ref b66_), (.ref b66_), (.ref b63_), (.ref b63_)])) rfl rfl (hb hby at_226)
  have ch122_ : CHv Z consts_1 T58_.vm h120_ := CHv.wr W120_ f121_ ch118_
  have cr123_ := cr119_.trans (CHr.wr W120_ f121_ ch118_)
  have v120_ : Arv Z h120_ b66_ k66_ .char (32 : Int32) [(.int (nar .char (105 : Int32))), (.int (nar .char (110 : Int32))), (.int (nar .char (118 : Int32))), (.int (nar .char (97 : Int32))), (.int (nar .char (108 : Int32))), (.int (nar .char (105 : Int32))), (.int (nar .char (100 : Int32))), (.int (nar .char (32 : Int32))), (.int (nar .char (98 : Int32))), (.int (nar .char (101 : Int32))), (.int (nar .char (97 : Int32))), (.int (nar .char (110 : Int32))), (.int (nar .char (32 : Int32))), (.int (0 : Int32)), (.int (0 : Int32)), (.int (0 : Int32)), (.int (0 : Int32)), (.int (0 : Int32)), (.int (0 : Int32)), (.int (0 : Int32)), (.int (0 : Int32)), (.int (0 : Int32)), (.int (0 : Int32)), (.int (0 : Int32)), (.int (0 : Int32)), (.int (0 : Int32)), (.int (0 : Int32)), (.int (0 : Int32)), (.int (0 : Int32)), (.int (0 : Int32)), (.int (0 : Int32)), (.int (0 : Int32))] (.int (0 : Int32)) := Arv.set Ar120_ q120_ S120_ M120_ Hs120_ G120_ (fits_nar_char _) W120_ 12 rfl (Nat.le_of_ble_eq_true rfl)
  have N120_ := Fr.snoc X120_ N116_ g70_
  have f125_ : Safe Z consts_1 T58_.vm h120_ b66_ := (Safe.wr W120_ f121_ ch118_ f121_)
  obtain ⟨cl124_, Ar124_, q124_, S124_, M124_, Hs124_, G124_⟩ := id v120_
  have in124_ : ¬ ((13 : Int32) < 0 ∨ cl124_.slots.size ≤ ((13 : Int32)).toNatClampNeg) := inb_of S124_ ⟨by decide, by decide⟩
  obtain ⟨T124_, h124_, X124_, e124_, W124_, st124_⟩ := stC X120_ hx hZ58_ e120_ Ar124_ (j := (13 : Int32)) in124_ (g := (mkF m 232 #[.val (.int p0), .val (.int p1), .val (.int p2), .val (.int ((p1 &&& (255 : Int32)).toUInt32.toUInt16.toUInt32.toInt32)), .val (.int ((((p1.toUInt32 >>> ((8 : Int32) &&& 31).toUInt32).toInt32) &&& (255 : Int32)).toUInt32.toUInt16.toUInt32.toInt32)), .val (.int ((p2 &&& (255 : Int32)).toUInt32.toUInt16.toUInt32.toInt32)), .val (.int ((((p2.toUInt32 >>> ((8 : Int32) &&& 31).toUInt32).toInt32) &&& (255 : Int32)).toUInt32.toUInt16.toUInt32.toInt32)), .val (.ref b1_), .val (.ref b29_), .val (.ref ea_58_), .unset] [(.int (100 : Int32)), (.int (13 : Int32)), (.ref b66_), (.ref b66_), (.ref b63_), (.ref b63_)])) rfl rfl (hb hby at_232)
  have ch126_ : CHv Z consts_1 T58_.vm h124_ := CHv.wr W124_ f125_ ch122_
  have cr127_ := cr123_.trans (CHr.wr W124_ f125_ ch122_)
  have v124_ : Arv Z h124_ b66_ k66_ .char (32 : Int32) [(.int (nar .char (105 : Int32))), (.int (nar .char (110 : Int32))), (.int (nar .char (118 : Int32))), (.int (nar .char (97 : Int32))), (.int (nar .char (108 : Int32))), (.int (nar .char (105 : Int32))), (.int (nar .char (100 : Int32))), (.int (nar .char (32 : Int32))), (.int (nar .char (98 : Int32))), (.int (nar .char (101 : Int32))), (.int (nar .char (97 : Int32))), (.int (nar .char (110 : Int32))), (.int (nar .char (32 : Int32))), (.int (nar .char (100 : Int32))), (.int (0 : Int32)), (.int (0 : Int32)), (.int (0 : Int32)), (.int (0 : Int32)), (.int (0 : Int32)), (.int (0 : Int32)), (.int (0 : Int32)), (.int (0 : Int32)), (.int (0 : Int32)), (.int (0 : Int32)), (.int (0 : Int32)), (.int (0 : Int32)), (.int (0 : Int32)), (.int (0 : Int32)), (.int (0 : Int32)), (.int (0 : Int32)), (.int (0 : Int32)), (.int (0 : Int32))] (.int (0 : Int32)) := Arv.set Ar124_ q124_ S124_ M124_ Hs124_ G124_ (fits_nar_char _) W124_ 13 rfl (Nat.le_of_ble_eq_true rfl)
  have N124_ := Fr.snoc X124_ N120_ g70_
  have f129_ : Safe Z consts_1 T58_.vm h124_ b66_ := (Safe.wr W124_ f125_ ch122_ f125_)
  obtain ⟨cl128_, Ar128_, q128_, S128_, M128_, Hs128_, G128_⟩ := id v124_
  have in128_ : ¬ ((14 : Int32) < 0 ∨ cl128_.slots.size ≤ ((14 : Int32)).toNatClampNeg) := inb_of S128_ ⟨by decide, by decide⟩
  obtain ⟨T128_, h128_, X128_, e128_, W128_, st128_⟩ := stC X124_ hx hZ58_ e124_ Ar128_ (j := (14 : Int32)) in128_ (g := (mkF m 238 #[.val (.int p0), .val (.int p1), .val (.int p2), .val (.int ((p1 &&& (255 : Int32)).toUInt32.toUInt16.toUInt32.toInt32)), .val (.int ((((p1.toUInt32 >>> ((8 : Int32) &&& 31).toUInt32).toInt32) &&& (255 : Int32)).toUInt32.toUInt16.toUInt32.toInt32)), .val (.int ((p2 &&& (255 : Int32)).toUInt32.toUInt16.toUInt32.toInt32)), .val (.int ((((p2.toUInt32 >>> ((8 : Int32) &&& 31).toUInt32).toInt32) &&& (255 : Int32)).toUInt32.toUInt16.toUInt32.toInt32)), .val (.ref b1_), .val (.ref b29_), .val (.ref ea_58_), .unset] [(.int (101 : Int32)), (.int (14 : Int32)), (.ref b66_), (.ref b66_), (.ref b63_), (.ref b63_)])) rfl rfl (hb hby at_238)
  have ch130_ : CHv Z consts_1 T58_.vm h128_ := CHv.wr W128_ f129_ ch126_
  have cr131_ := cr127_.trans (CHr.wr W128_ f129_ ch126_)
  have v128_ : Arv Z h128_ b66_ k66_ .char (32 : Int32) [(.int (nar .char (105 : Int32))), (.int (nar .char (110 : Int32))), (.int (nar .char (118 : Int32))), (.int (nar .char (97 : Int32))), (.int (nar .char (108 : Int32))), (.int (nar .char (105 : Int32))), (.int (nar .char (100 : Int32))), (.int (nar .char (32 : Int32))), (.int (nar .char (98 : Int32))), (.int (nar .char (101 : Int32))), (.int (nar .char (97 : Int32))), (.int (nar .char (110 : Int32))), (.int (nar .char (32 : Int32))), (.int (nar .char (100 : Int32))), (.int (nar .char (101 : Int32))), (.int (0 : Int32)), (.int (0 : Int32)), (.int (0 : Int32)), (.int (0 : Int32)), (.int (0 : Int32)), (.int (0 : Int32)), (.int (0 : Int32)), (.int (0 : Int32)), (.int (0 : Int32)), (.int (0 : Int32)), (.int (0 : Int32)), (.int (0 : Int32)), (.int (0 : Int32)), (.int (0 : Int32)), (.int (0 : Int32)), (.int (0 : Int32)), (.int (0 : Int32))] (.int (0 : Int32)) := Arv.set Ar128_ q128_ S128_ M128_ Hs128_ G128_ (fits_nar_char _) W128_ 14 rfl (Nat.le_of_ble_eq_true rfl)
  have N128_ := Fr.snoc X128_ N124_ g70_
  have f133_ : Safe Z consts_1 T58_.vm h128_ b66_ := (Safe.wr W128_ f129_ ch126_ f129_)
  obtain ⟨cl132_, Ar132_, q132_, S132_, M132_, Hs132_, G132_⟩ := id v128_
  have in132_ : ¬ ((15 : Int32) < 0 ∨ cl132_.slots.size ≤ ((15 : Int32)).toNatClampNeg) := inb_of S132_ ⟨by decide, by decide⟩
  obtain ⟨T132_, h132_, X132_, e132_, W132_, st132_⟩ := stC X128_ hx hZ58_ e128_ Ar132_ (j := (15 : Int32)) in132_ (g := (mkF m 244 #[.val (.int p0), .val (.int p1), .val (.int p2), .val (.int ((p1 &&& (255 : Int32)).toUInt32.toUInt16.toUInt32.toInt32)), .val (.int ((((p1.toUInt32 >>> ((8 : Int32) &&& 31).toUInt32).toInt32) &&& (255 : Int32)).toUInt32.toUInt16.toUInt32.toInt32)), .val (.int ((p2 &&& (255 : Int32)).toUInt32.toUInt16.toUInt32.toInt32)), .val (.int ((((p2.toUInt32 >>> ((8 : Int32) &&& 31).toUInt32).toInt32) &&& (255 : Int32)).toUInt32.toUInt16.toUInt32.toInt32)), .val (.ref b1_), .val (.ref b29_), .val (.ref ea_58_), .unset] [(.int (102 : Int32)), (.int (15 : Int32)), (.ref b66_), (.ref b66_), (.ref b63_), (.ref b63_)])) rfl rfl (hb hby at_244)
  have ch134_ : CHv Z consts_1 T58_.vm h132_ := CHv.wr W132_ f133_ ch130_
  have cr135_ := cr131_.trans (CHr.wr W132_ f133_ ch130_)
  have v132_ : Arv Z h132_ b66_ k66_ .char (32 : Int32) [(.int (nar .char (105 : Int32))), (.int (nar .char (110 : Int32))), (.int (nar .char (118 : Int32))), (.int (nar .char (97 : Int32))), (.int (nar .char (108 : Int32))), (.int (nar .char (105 : Int32))), (.int (nar .char (100 : Int32))), (.int (nar .char (32 : Int32))), (.int (nar .char (98 : Int32))), (.int (nar .char (101 : Int32))), (.int (nar .char (97 : Int32))), (.int (nar .char (110 : Int32))), (.int (nar .char (32 : Int32))), (.int (nar .char (100 : Int32))), (.int (nar .char (101 : Int32))), (.int (nar .char (102 : Int32))), (.int (0 : Int32)), (.int (0 : Int32)), (.int (0 : Int32)), (.int (0 : Int32)), (.int (0 : Int32)), (.int (0 : Int32)), (.int (0 : Int32)), (.int (0 : Int32)), (.int (0 : Int32)), (.int (0 : Int32)), (.int (0 : Int32)), (.int (0 : Int32)), (.int (0 : Int32)), (.int (0 : Int32)), (.int (0 : Int32)), (.int (0 : Int32))] (.int (0 : Int32)) := Arv.set Ar132_ q132_ S132_ M132_ Hs132_ G132_ (fits_nar_char _) W132_ 15 rfl (Nat.le_of_ble_eq_true rfl)
  have N132_ := Fr.snoc X132_ N128_ g70_
  have f137_ : Safe Z consts_1 T58_.vm h132_ b66_ := (Safe.wr W132_ f133_ ch130_ f133_)
  obtain ⟨cl136_, Ar136_, q136_, S136_, M136_, Hs136_, G136_⟩ := id v132_
  have in136_ : ¬ ((16 : Int32) < 0 ∨ cl136_.slots.size ≤ ((16 : Int32)).toNatClampNeg) := inb_of S136_ ⟨by decide, by decide⟩
  obtain ⟨T136_, h136_, X136_, e136_, W136_, st136_⟩ := stC X132_ hx hZ58_ e132_ Ar136_ (j := (16 : Int32)) in136_ (g := (mkF m 250 #[.val (.int p0), .val (.int p1), .val (.int p2), .val (.int ((p1 &&& (255 : Int32)).toUInt32.toUInt16.toUInt32.toInt32)), .val (.int ((((p1.toUInt32 >>> ((8 : Int32) &&& 31).toUInt32).toInt32) &&& (255 : Int32)).toUInt32.toUInt16.toUInt32.toInt32)), .val (.int ((p2 &&& (255 : Int32)).toUInt32.toUInt16.toUInt32.toInt32)), .val (.int ((((p2.toUInt32 >>> ((8 : Int32) &&& 31).toUInt32).toInt32) &&& (255 : Int32)).toUInt32.toUInt16.toUInt32.toInt32)), .val (.ref b1_), .val (.ref b29_), .val (.ref ea_58_), .unset] [(.int (105 : Int32)), (.int (16 : Int32)), (.ref b66_), (.ref b66_), (.ref b63_), (.ref b63_)])) rfl rfl (hb hby at_250)
  have ch138_ : CHv Z consts_1 T58_.vm h136_ := CHv.wr W136_ f137_ ch134_
  have cr139_ := cr135_.trans (CHr.wr W136_ f137_ ch134_)
  have v136_ : Arv Z h136_ b66_ k66_ .char (32 : Int32) [(.int (nar .char (105 : Int32))), (.int (nar .char (110 : Int32))), (.int (nar .char (118 : Int32))), (.int (nar .char (97 : Int32))), (.int (nar .char (108 : Int32))), (.int (nar .char (105 : Int32))), (.int (nar .char (100 : Int32))), (.int (nar .char (32 : Int32))), (.int (nar .char (98 : Int32))), (.int (nar .char (101 : Int32))), (.int (nar .char (97 : Int32))), (.int (nar .char (110 : Int32))), (.int (nar .char (32 : Int32))), (.int (nar .char (100 : Int32))), (.int (nar .char (101 : Int32))), (.int (nar .char (102 : Int32))), (.int (nar .char (105 : Int32))), (.int (0 : Int32)), (.int (0 : Int32)), (.int (0 : Int32)), (.int (0 : Int32)), (.int (0 : Int32)), (.int (0 : Int32)), (.int (0 : Int32)), (.int (0 : Int32)), (.int (0 : Int32)), (.int (0 : Int32)), (.int (0 : Int32)), (.int (0 : Int32)), (.int (0 : Int32)), (.int (0 : Int32)), (.int (0 : Int32))] (.int (0 : Int32)) := Arv.set Ar136_ q136_ S136_ M136_ Hs136_ G136_ (fits_nar_char _) W136_ 16 rfl (Nat.le_of_ble_eq_true rfl)
  have N136_ := Fr.snoc X136_ N132_ g70_
  have f141_ : Safe Z consts_1 T58_.vm h136_ b66_ := (Safe.wr W136_ f137_ ch134_ f137_)
  obtain ⟨cl140_, Ar140_, q140_, S140_, M140_, Hs140_, G140_⟩ := id v136_
  have in140_ : ¬ ((17 : Int32) < 0 ∨ cl140_.slots.size ≤ ((17 : Int32)).toNatClampNeg) := inb_of S140_ ⟨by decide, by decide⟩
  obtain ⟨T140_, h140_, X140_, e140_, W140_, st140_⟩ := stC X136_ hx hZ58_ e136_ Ar140_ (j := (17 : Int32)) in140_ (g := (mkF m 256 #[.val (.int p0), .val (.int p1), .val (.int p2), .val (.int ((p1 &&& (255 : Int32)).toUInt32.toUInt16.toUInt32.toInt32)), .val (.int ((((p1.toUInt32 >>> ((8 : Int32) &&& 31).toUInt32).toInt32) &&& (255 : Int32)).toUInt32.toUInt16.toUInt32.toInt32)), .val (.int ((p2 &&& (255 : Int32)).toUInt32.toUInt16.toUInt32.toInt32)), .val (.int ((((p2.toUInt32 >>> ((8 : Int32) &&& 31).toUInt32).toInt32) &&& (255 : Int32)).toUInt32.toUInt16.toUInt32.toInt32)), .val (.ref b1_), .val (.ref b29_), .val (.ref ea_58_), .unset] [(.int (110 : Int32)), (.int (17 : Int32)), (.ref b66_), (.ref b66_), (.ref b63_), (.ref b63_)])) rfl rfl (hb hby at_256)
  have ch142_ : CHv Z consts_1 T58_.vm h140_ := CHv.wr W140_ f141_ ch138_
  have cr143_ := cr139_.trans (CHr.wr W140_ f141_ ch138_)
  have v140_ : Arv Z h140_ b66_ k66_ .char (32 : Int32) [(.int (nar .char (105 : Int32))), (.int (nar .char (110 : Int32))), (.int (nar .char (118 : Int32))), (.int (nar .char (97 : Int32))), (.int (nar .char (108 : Int32))), (.int (nar .char (105 : Int32))), (.int (nar .char (100 : Int32))), (.int (nar .char (32 : Int32))), (.int (nar .char (98 : Int32))), (.int (nar .char (101 : Int32))), (.int (nar .char (97 : Int32))), (.int (nar .char (110 : Int32))), (.int (nar .char (32 : Int32))), (.int (nar .char (100 : Int32))), (.int (nar .char (101 : Int32))), (.int (nar .char (102 : Int32))), (.int (nar .char (105 : Int32))), (.int (nar .char (110 : Int32))), (.int (0 : Int32)), (.int (0 : Int32)), (.int (0 : Int32)), (.int (0 : Int32)), (.int (0 : Int32)), (.int (0 : Int32)), (.int (0 : Int32)), (.int (0 : Int32)), (.int (0 : Int32)), (.int (0 : Int32)), (.int (0 : Int32)), (.int (0 : Int32)), (.int (0 : Int32)), (.int (0 : Int32))] (.int (0 : Int32)) := Arv.set Ar140_ q140_ S140_ M140_ Hs140_ G140_ (fits_nar_char _) W140_ 17 rfl (Nat.le_of_ble_eq_true rfl)
  have N140_ := Fr.snoc X140_ N136_ g70_
  have f145_ : Safe Z consts_1 T58_.vm h140_ b66_ := (Safe.wr W140_ f141_ ch138_ f141_)
  obtain ⟨cl144_, Ar144_, q144_, S144_, M144_, Hs144_, G144_⟩ := id v140_
  have in144_ : ¬ ((18 : Int32) < 0 ∨ cl144_.slots.size ≤ ((18 : Int32)).toNatClampNeg) := inb_of S144_ ⟨by decide, by decide⟩
  obtain ⟨T144_, h144_, X144_, e144_, W144_, st144_⟩ := stC X140_ hx hZ58_ e140_ Ar144_ (j := (18 : Int32)) in144_ (g := (mkF m 262 #[.val (.int p0), .val (.int p1), .val (.int p2), .val (.int ((p1 &&& (255 : Int32)).toUInt32.toUInt16.toUInt32.toInt32)), .val (.int ((((p1.toUInt32 >>> ((8 : Int32) &&& 31).toUInt32).toInt32) &&& (255 : Int32)).toUInt32.toUInt16.toUInt32.toInt32)), .val (.int ((p2 &&& (255 : Int32)).toUInt32.toUInt16.toUInt32.toInt32)), .val (.int ((((p2.toUInt32 >>> ((8 : Int32) &&& 31).toUInt32).toInt32) &&& (255 : Int32)).toUInt32.toUInt16.toUInt32.toInt32)), .val (.ref b1_), .val (.ref b29_), .val (.ref ea_58_), .unset] [(.int (105 : Int32)), (.int (18 : Int32)), (.ref b66_), (.ref b66_), (.ref b63_), (.ref b63_)])) rfl rfl (hb hby at_262)
  have ch146_ : CHv Z consts_1 T58_.vm h144_ := CHv.wr W144_ f145_ ch142_
  have cr147_ := cr143_.trans (CHr.wr W144_ f145_ ch142_)
  have v144_ : Arv Z h144_ b66_ k66_ .char (32 : Int32) [(.int (nar .char (105 : Int32))), (.int (nar .char (110 : Int32))), (.int (nar .char (118 : Int32))), (.int (nar .char (97 : Int32))), (.int (nar .char (108 : Int32))), (.int (nar .char (105 : Int32))), (.int (nar .char (100 : Int32))), (.int (nar .char (32 : Int32))), (.int (nar .char (98 : Int32))), (.int (nar .char (101 : Int32))), (.int (nar .char (97 : Int32))), (.int (nar .char (110 : Int32))), (.int (nar .char (32 : Int32))), (.int (nar .char (100 : Int32))), (.int (nar .char (101 : Int32))), (.int (nar .char (102 : Int32))), (.int (nar .char (105 : Int32))), (.int (nar .char (110 : Int32))), (.int (nar .char (105 : Int32))), (.int (0 : Int32)), (.int (0 : Int32)), (.int (0 : Int32)), (.int (0 : Int32)), (.int (0 : Int32)), (.int (0 : Int32)), (.int (0 : Int32)), (.int (0 : Int32)), (.int (0 : Int32)), (.int (0 : Int32)), (.int (0 : Int32)), (.int (0 : Int32)), (.int (0 : Int32))] (.int (0 : Int32)) := Arv.set Ar144_ q144_ S144_ M144_ Hs144_ G144_ (fits_nar_char _) W144_ 18 rfl (Nat.le_of_ble_eq_true rfl)
  have N144_ := Fr.snoc X144_ N140_ g70_
  have f149_ : Safe Z consts_1 T58_.vm h144_ b66_ := (Safe.wr W144_ f145_ ch142_ f145_)
  obtain ⟨cl148_, Ar148_, q148_, S148_, M148_, Hs148_, G148_⟩ := id v144_
  have in148_ : ¬ ((19 : Int32) < 0 ∨ cl148_.slots.size ≤ ((19 : Int32)).toNatClampNeg) := inb_of S148_ ⟨by decide, by decide⟩
  obtain ⟨T148_, h148_, X148_, e148_, W148_, st148_⟩ := stC X144_ hx hZ58_ e144_ Ar148_ (j := (19 : Int32)) in148_ (g := (mkF m 268 #[.val (.int p0), .val (.int p1), .val (.int p2), .val (.int ((p1 &&& (255 : Int32)).toUInt32.toUInt16.toUInt32.toInt32)), .val (.int ((((p1.toUInt32 >>> ((8 : Int32) &&& 31).toUInt32).toInt32) &&& (255 : Int32)).toUInt32.toUInt16.toUInt32.toInt32)), .val (.int ((p2 &&& (255 : Int32)).toUInt32.toUInt16.toUInt32.toInt32)), .val (.int ((((p2.toUInt32 >>> ((8 : Int32) &&& 31).toUInt32).toInt32) &&& (255 : Int32)).toUInt32.toUInt16.toUInt32.toInt32)), .val (.ref b1_), .val (.ref b29_), .val (.ref ea_58_), .unset] [(.int (116 : Int32)), (.int (19 : Int32)), (.ref b66_), (.ref b66_), (.ref b63_), (.ref b63_)])) rfl rfl (hb hby at_268)
  have ch150_ : CHv Z consts_1 T58_.vm h148_ := CHv.wr W148_ f149_ ch146_
  have cr151_ := cr147_.trans (CHr.wr W148_ f149_ ch146_)
  have v148_ : Arv Z h148_ b66_ k66_ .char (32 : Int32) [(.int (nar .char (105 : Int32))), (.int (nar .char (110 : Int32))), (.int (nar .char (118 : Int32))), (.int (nar .char (97 : Int32))), (.int (nar .char (108 : Int32))), (.int (nar .char (105 : Int32))), (.int (nar .char (100 : Int32))), (.int (nar .char (32 : Int32))), (.int (nar .char (98 : Int32))), (.int (nar .char (101 : Int32))), (.int (nar .char (97 : Int32))), (.int (nar .char (110 : Int32))), (.int (nar .char (32 : Int32))), (.int (nar .char (100 : Int32))), (.int (nar .char (101 : Int32))), (.int (nar .char (102 : Int32))), (.int (nar .char (105 : Int32))), (.int (nar .char (110 : Int32))), (.int (nar .char (105 : Int32))), (.int (nar .char (116 : Int32))), (.int (0 : Int32)), (.int (0 : Int32)), (.int (0 : Int32)), (.int (0 : Int32)), (.int (0 : Int32)), (.int (0 : Int32)), (.int (0 : Int32)), (.int (0 : Int32)), (.int (0 : Int32)), (.int (0 : Int32)), (.int (0 : Int32)), (.int (0 : Int32))] (.int (0 : Int32)) := Arv.set Ar148_ q148_ S148_ M148_ Hs148_ G148_ (fits_nar_char _) W148_ 19 rfl (Nat.le_of_ble_eq_true rfl)
  have N148_ := Fr.snoc X148_ N144_ g70_
  have f153_ : Safe Z consts_1 T58_.vm h148_ b66_ := (Safe.wr W148_ f149_ ch146_ f149_)
  obtain ⟨cl152_, Ar152_, q152_, S152_, M152_, Hs152_, G152_⟩ := id v148_
  have in152_ : ¬ ((20 : Int32) < 0 ∨ cl152_.slots.size ≤ ((20 : Int32)).toNatClampNeg) := inb_of S152_ ⟨by decide, by decide⟩
  obtain ⟨T152_, h152_, X152_, e152_, W152_, st152_⟩ := stC X148_ hx hZ58_ e148_ Ar152_ (j := (20 : Int32)) in152_ (g := (mkF m 274 #[.val (.int p0), .val (.int p1), .val (.int p2), .val (.int ((p1 &&& (255 : Int32)).toUInt32.toUInt16.toUInt32.toInt32)), .val (.int ((((p1.toUInt32 >>> ((8 : Int32) &&& 31).toUInt32).toInt32) &&& (255 : Int32)).toUInt32.toUInt16.toUInt32.toInt32)), .val (.int ((p2 &&& (255 : Int32)).toUInt32.toUInt16.toUInt32.toInt32)), .val (.int ((((p2.toUInt32 >>> ((8 : Int32) &&& 31).toUInt32).toInt32) &&& (255 : Int32)).toUInt32.toUInt16.toUInt32.toInt32)), .val (.ref b1_), .val (.ref b29_), .val (.ref ea_58_), .unset] [(.int (105 : Int32)), (.int (20 : Int32)), (.ref b66_), (.ref b66_), (.ref b63_), (.ref b63_)])) rfl rfl (hb hby at_274)
  have ch154_ : CHv Z consts_1 T58_.vm h152_ := CHv.wr W152_ f153_ ch150_
  have cr155_ := cr151_.trans (CHr.wr W152_ f153_ ch150_)
  have v152_ : Arv Z h152_ b66_ k66_ .char (32 : Int32) [(.int (nar .char (105 : Int32))), (.int (nar .char (110 : Int32))), (.int (nar .char (118 : Int32))), (.int (nar .char (97 : Int32))), (.int (nar .char (108 : Int32))), (.int (nar .char (105 : Int32))), (.int (nar .char (100 : Int32))), (.int (nar .char (32 : Int32))), (.int (nar .char (98 : Int32))), (.int (nar .char (101 : Int32))), (.int (nar .char (97 : Int32))), (.int (nar .char (110 : Int32))), (.int (nar .char (32 : Int32))), (.int (nar .char (100 : Int32))), (.int (nar .char (101 : Int32))), (.int (nar .char (102 : Int32))), (.int (nar .char (105 : Int32))), (.int (nar .char (110 : Int32))), (.int (nar .char (105 : Int32))), (.int (nar .char (116 : Int32))), (.int (nar .char (105 : Int32))), (.int (0 : Int32)), (.int (0 : Int32)), (.int (0 : Int32)), (.int (0 : Int32)), (.int (0 : Int32)), (.int (0 : Int32)), (.int (0 : Int32)), (.int (0 : Int32)), (.int (0 : Int32)), (.int (0 : Int32)), (.int (0 : Int32))] (.int (0 : Int32)) := Arv.set Ar152_ q152_ S152_ M152_ Hs152_ G152_ (fits_nar_char _) W152_ 20 rfl (Nat.le_of_ble_eq_true rfl)
  have N152_ := Fr.snoc X152_ N148_ g70_
  have f157_ : Safe Z consts_1 T58_.vm h152_ b66_ := (Safe.wr W152_ f153_ ch150_ f153_)
  obtain ⟨cl156_, Ar156_, q156_, S156_, M156_, Hs156_, G156_⟩ := id v152_
  have in156_ : ¬ ((21 : Int32) < 0 ∨ cl156_.slots.size ≤ ((21 : Int32)).toNatClampNeg) := inb_of S156_ ⟨by decide, by decide⟩
  obtain ⟨T156_, h156_, X156_, e156_, W156_, st156_⟩ := stC X152_ hx hZ58_ e152_ Ar156_ (j := (21 : Int32)) in156_ (g := (mkF m 280 #[.val (.int p0), .val (.int p1), .val (.int p2), .val (.int ((p1 &&& (255 : Int32)).toUInt32.toUInt16.toUInt32.toInt32)), .val (.int ((((p1.toUInt32 >>> ((8 : Int32) &&& 31).toUInt32).toInt32) &&& (255 : Int32)).toUInt32.toUInt16.toUInt32.toInt32)), .val (.int ((p2 &&& (255 : Int32)).toUInt32.toUInt16.toUInt32.toInt32)), .val (.int ((((p2.toUInt32 >>> ((8 : Int32) &&& 31).toUInt32).toInt32) &&& (255 : Int32)).toUInt32.toUInt16.toUInt32.toInt32)), .val (.ref b1_), .val (.ref b29_), .val (.ref ea_58_), .unset] [(.int (111 : Int32)), (.int (21 : Int32)), (.ref b66_), (.ref b66_), (.ref b63_), (.ref b63_)])) rfl rfl (hb hby at_280)
  have ch158_ : CHv Z consts_1 T58_.vm h156_ := CHv.wr W156_ f157_ ch154_
  have cr159_ := cr155_.trans (CHr.wr W156_ f157_ ch154_)
  have v156_ : Arv Z h156_ b66_ k66_ .char (32 : Int32) [(.int (nar .char (105 : Int32))), (.int (nar .char (110 : Int32))), (.int (nar .char (118 : Int32))), (.int (nar .char (97 : Int32))), (.int (nar .char (108 : Int32))), (.int (nar .char (105 : Int32))), (.int (nar .char (100 : Int32))), (.int (nar .char (32 : Int32))), (.int (nar .char (98 : Int32))), (.int (nar .char (101 : Int32))), (.int (nar .char (97 : Int32))), (.int (nar .char (110 : Int32))), (.int (nar .char (32 : Int32))), (.int (nar .char (100 : Int32))), (.int (nar .char (101 : Int32))), (.int (nar .char (102 : Int32))), (.int (nar .char (105 : Int32))), (.int (nar .char (110 : Int32))), (.int (nar .char (105 : Int32))), (.int (nar .char (116 : Int32))), (.int (nar .char (105 : Int32))), (.int (nar .char (111 : Int32))), (.int (0 : Int32)), (.int (0 : Int32)), (.int (0 : Int32)), (.int (0 : Int32)), (.int (0 : Int32)), (.int (0 : Int32)), (.int (0 : Int32)), (.int (0 : Int32)), (.int (0 : Int32)), (.int (0 : Int32))] (.int (0 : Int32)) := Arv.set Ar156_ q156_ S156_ M156_ Hs156_ G156_ (fits_nar_char _) W156_ 21 rfl (Nat.le_of_ble_eq_true rfl)
  have N156_ := Fr.snoc X156_ N152_ g70_
  have f161_ : Safe Z consts_1 T58_.vm h156_ b66_ := (Safe.wr W156_ f157_ ch154_ f157_)
  obtain ⟨cl160_, Ar160_, q160_, S160_, M160_, Hs160_, G160_⟩ := id v156_
  have in160_ : ¬ ((22 : Int32) < 0 ∨ cl160_.slots.size ≤ ((22 : Int32)).toNatClampNeg) := inb_of S160_ ⟨by decide, by decide⟩
  obtain ⟨T160_, h160_, X160_, e160_, W160_, st160_⟩ := stC X156_ hx hZ58_ e156_ Ar160_ (j := (22 : Int32)) in160_ (g := (mkF m 286 #[.val (.int p0), .val (.int p1), .val (.int p2), .val (.int ((p1 &&& (255 : Int32)).toUInt32.toUInt16.toUInt32.toInt32)), .val (.int ((((p1.toUInt32 >>> ((8 : Int32) &&& 31).toUInt32).toInt32) &&& (255 : Int32)).toUInt32.toUInt16.toUInt32.toInt32)), .val (.int ((p2 &&& (255 : Int32)).toUInt32.toUInt16.toUInt32.toInt32)), .val (.int ((((p2.toUInt32 >>> ((8 : Int32) &&& 31).toUInt32).toInt32) &&& (255 : Int32)).toUInt32.toUInt16.toUInt32.toInt32)), .val (.ref b1_), .val (.ref b29_), .val (.ref ea_58_), .unset] [(.int (110 : Int32)), (.int (22 : Int32)), (.ref b66_), (.ref b66_), (.ref b63_), (.ref b63_)])) rfl rfl (hb hby at_286)
  have ch162_ : CHv Z consts_1 T58_.vm h160_ := CHv.wr W160_ f161_ ch158_
  have cr163_ := cr159_.trans (CHr.wr W160_ f161_ ch158_)
  have v160_ : Arv Z h160_ b66_ k66_ .char (32 : Int32) [(.int (nar .char (105 : Int32))), (.int (nar .char (110 : Int32))), (.int (nar .char (118 : Int32))), (.int (nar .char (97 : Int32))), (.int (nar .char (108 : Int32))), (.int (nar .char (105 : Int32))), (.int (nar .char (100 : Int32))), (.int (nar .char (32 : Int32))), (.int (nar .char (98 : Int32))), (.int (nar .char (101 : Int32))), (.int (nar .char (97 : Int32))), (.int (nar .char (110 : Int32))), (.int (nar .char (32 : Int32))), (.int (nar .char (100 : Int32))), (.int (nar .char (101 : Int32))), (.int (nar .char (102 : Int32))), (.int (nar .char (105 : Int32))), (.int (nar .char (110 : Int32))), (.int (nar .char (105 : Int32))), (.int (nar .char (116 : Int32))), (.int (nar .char (105 : Int32))), (.int (nar .char (111 : Int32))), (.int (nar .char (110 : Int32))), (.int (0 : Int32)), (.int (0 : Int32)), (.int (0 : Int32)), (.int (0 : Int32)), (.int (0 : Int32)), (.int (0 : Int32)), (.int (0 : Int32)), (.int (0 : Int32)), (.int (0 : Int32))] (.int (0 : Int32)) := Arv.set Ar160_ q160_ S160_ M160_ Hs160_ G160_ (fits_nar_char _) W160_ 22 rfl (Nat.le_of_ble_eq_true rfl)
  have N160_ := Fr.snoc X160_ N156_ g70_
  have f165_ : Safe Z consts_1 T58_.vm h160_ b66_ := (Safe.wr W160_ f161_ ch158_ f161_)
  obtain ⟨cl164_, Ar164_, q164_, S164_, M164_, Hs164_, G164_⟩ := id v160_
  have in164_ : ¬ ((23 : Int32) < 0 ∨ cl164_.slots.size ≤ ((23 : Int32)).toNatClampNeg) := inb_of S164_ ⟨by decide, by decide⟩
  obtain ⟨T164_, h164_, X164_, e164_, W164_, st164_⟩ := stC X160_ hx hZ58_ e160_ Ar164_ (j := (23 : Int32)) in164_ (g := (mkF m 292 #[.val (.int p0), .val (.int p1), .val (.int p2), .val (.int ((p1 &&& (255 : Int32)).toUInt32.toUInt16.toUInt32.toInt32)), .val (.int ((((p1.toUInt32 >>> ((8 : Int32) &&& 31).toUInt32).toInt32) &&& (255 : Int32)).toUInt32.toUInt16.toUInt32.toInt32)), .val (.int ((p2 &&& (255 : Int32)).toUInt32.toUInt16.toUInt32.toInt32)), .val (.int ((((p2.toUInt32 >>> ((8 : Int32) &&& 31).toUInt32).toInt32) &&& (255 : Int32)).toUInt32.toUInt16.toUInt32.toInt32)), .val (.ref b1_), .val (.ref b29_), .val (.ref ea_58_), .unset] [(.int (32 : Int32)), (.int (23 : Int32)), (.ref b66_), (.ref b66_), (.ref b63_), (.ref b63_)])) rfl rfl (hb hby at_292)
  have ch166_ : CHv Z consts_1 T58_.vm h164_ := CHv.wr W164_ f165_ ch162_
  have cr167_ := cr163_.trans (CHr.wr W164_ f165_ ch162_)
  have v164_ : Arv Z h164_ b66_ k66_ .char (32 : Int32) [(.int (nar .char (105 : Int32))), (.int (nar .char (110 : Int32))), (.int (nar .char (118 : Int32))), (.int (nar .char (97 : Int32))), (.int (nar .char (108 : Int32))), (.int (nar .char (105 : Int32))), (.int (nar .char (100 : Int32))), (.int (nar .char (32 : Int32))), (.int (nar .char (98 : Int32))), (.int (nar .char (101 : Int32))), (.int (nar .char (97 : Int32))), (.int (nar .char (110 : Int32))), (.int (nar .char (32 : Int32))), (.int (nar .char (100 : Int32))), (.int (nar .char (101 : Int32))), (.int (nar .char (102 : Int32))), (.int (nar .char (105 : Int32))), (.int (nar .char (110 : Int32))), (.int (nar .char (105 : Int32))), (.int (nar .char (116 : Int32))), (.int (nar .char (105 : Int32))), (.int (nar .char (111 : Int32))), (.int (nar .char (110 : Int32))), (.int (nar .char (32 : Int32))), (.int (0 : Int32)), (.int (0 : Int32)), (.int (0 : Int32)), (.int (0 : Int32)), (.int (0 : Int32)), (.int (0 : Int32)), (.int (0 : Int32)), (.int (0 : Int32))] (.int (0 : Int32)) := Arv.set Ar164_ q164_ S164_ M164_ Hs164_ G164_ (fits_nar_char _) W164_ 23 rfl (Nat.le_of_ble_eq_true rfl)
  have N164_ := Fr.snoc X164_ N160_ g70_
  have f169_ : Safe Z consts_1 T58_.vm h164_ b66_ := (Safe.wr W164_ f165_ ch162_ f165_)
  obtain ⟨cl168_, Ar168_, q168_, S168_, M168_, Hs168_, G168_⟩ := id v164_
  have in168_ : ¬ ((24 : Int32) < 0 ∨ cl168_.slots.size ≤ ((24 : Int32)).toNatClampNeg) := inb_of S168_ ⟨by decide, by decide⟩
  obtain ⟨T168_, h168_, X168_, e168_, W168_, st168_⟩ := stC X164_ hx hZ58_ e164_ Ar168_ (j := (24 : Int32)) in168_ (g := (mkF m 298 #[.val (.int p0), .val (.int p1), .val (.int p2), .val (.int ((p1 &&& (255 : Int32)).toUInt32.toUInt16.toUInt32.toInt32)), .val (.int ((((p1.toUInt32 >>> ((8 : Int32) &&& 31).toUInt32).toInt32) &&& (255 : Int32)).toUInt32.toUInt16.toUInt32.toInt32)), .val (.int ((p2 &&& (255 : Int32)).toUInt32.toUInt16.toUInt32.toInt32)), .val (.int ((((p2.toUInt32 >>> ((8 : Int32) &&& 31).toUInt32).toInt32) &&& (255 : Int32)).toUInt32.toUInt16.toUInt32.toInt32)), .val (.ref b1_), .val (.ref b29_), .val (.ref ea_58_), .unset] [(.int (39 : Int32)), (.int (24 : Int32)), (.ref b66_), (.ref b66_), (.ref b63_), (.ref b63_)])) rfl rfl (hb hby at_298)
  have ch170_ : CHv Z consts_1 T58_.vm h168_ := CHv.wr W168_ f169_ ch166_
  have cr171_ := cr167_.trans (CHr.wr W168_ f169_ ch166_)
  have v168_ : Arv Z h168_ b66_ k66_ .char (32 : Int32) [(.int (nar .char (105 : Int32))), (.int (nar .char (110 : Int32))), (.int (nar .char (118 : Int32))), (.int (nar .char (97 : Int32))), (.int (nar .char (108 : Int32))), (.int (nar .char (105 : Int32))), (.int (nar .char (100 : Int32))), (.int (nar .char (32 : Int32))), (.int (nar .char (98 : Int32))), (.int (nar .char (101 : Int32))), (.int (nar .char (97 : Int32))), (.int (nar .char (110 : Int32))), (.int (nar .char (32 : Int32))), (.int (nar .char (100 : Int32))), (.int (nar .char (101 : Int32))), (.int (nar .char (102 : Int32))), (.int (nar .char (105 : Int32))), (.int (nar .char (110 : Int32))), (.int (nar .char (105 : Int32))), (.int (nar .char (116 : Int32))), (.int (nar .char (105 : Int32))), (.int (nar .char (111 : Int32))), (.int (nar .char (110 : Int32))), (.int (nar .char (32 : Int32))), (.int (nar .char (39 : Int32))), (.int (0 : Int32)), (.int (0 : Int32)), (.int (0 : Int32)), (.int (0 : Int32)), (.int (0 : Int32)), (.int (0 : Int32)), (.int (0 : Int32))] (.int (0 : Int32)) := Arv.set Ar168_ q168_ S168_ M168_ Hs168_ G168_ (fits_nar_char _) W168_ 24 rfl (Nat.le_of_ble_eq_true rfl)
  have N168_ := Fr.snoc X168_ N164_ g70_
  have f173_ : Safe Z consts_1 T58_.vm h168_ b66_ := (Safe.wr W168_ f169_ ch166_ f169_)
  obtain ⟨cl172_, Ar172_, q172_, S172_, M172_, Hs172_, G172_⟩ := id v168_
  have in172_ : ¬ ((25 : Int32) < 0 ∨ cl172_.slots.size ≤ ((25 : Int32)).toNatClampNeg) := inb_of S172_ ⟨by decide, by decide⟩
  obtain ⟨T172_, h172_, X172_, e172_, W172_, st172_⟩ := stC X168_ hx hZ58_ e168_ Ar172_ (j := (25 : Int32)) in172_ (g := (mkF m 303 #[.val (.int p0), .val (.int p1), .val (.int p2), .val (.int ((p1 &&& (255 : Int32)).toUInt32.toUInt16.toUInt32.toInt32)), .val (.int ((((p1.toUInt32 >>> ((8 : Int32) &&& 31).toUInt32).toInt32) &&& (255 : Int32)).toUInt32.toUInt16.toUInt32.toInt32)), .val (.int ((p2 &&& (255 : Int32)).toUInt32.toUInt16.toUInt32.toInt32)), .val (.int ((((p2.toUInt32 >>> ((8 : Int32) &&& 31).toUInt32).toInt32) &&& (255 : Int32)).toUInt32.toUInt16.toUInt32.toInt32)), .val (.ref b1_), .val (.ref b29_), .val (.ref ea_58_), .unset] [(.int ((p1 &&& (255 : Int32)).toUInt32.toUInt16.toUInt32.toInt32)), (.int (25 : Int32)), (.ref b66_), (.ref b66_), (.ref b63_), (.ref b63_)])) rfl rfl (hb hby at_303)
  have ch174_ : CHv Z consts_1 T58_.vm h172_ := CHv.wr W172_ f173_ ch170_
  have cr175_ := cr171_.trans (CHr.wr W172_ f173_ ch170_)
  have v172_ : Arv Z h172_ b66_ k66_ .char (32 : Int32) [(.int (nar .char (105 : Int32))), (.int (nar .char (110 : Int32))), (.int (nar .char (118 : Int32))), (.int (nar .char (97 : Int32))), (.int (nar .char (108 : Int32))), (.int (nar .char (105 : Int32))), (.int (nar .char (100 : Int32))), (.int (nar .char (32 : Int32))), (.int (nar .char (98 : Int32))), (.int (nar .char (101 : Int32))), (.int (nar .char (97 : Int32))), (.int (nar .char (110 : Int32))), (.int (nar .char (32 : Int32))), (.int (nar .char (100 : Int32))), (.int (nar .char (101 : Int32))), (.int (nar .char (102 : Int32))), (.int (nar .char (105 : Int32))), (.int (nar .char (110 : Int32))), (.int (nar .char (105 : Int32))), (.int (nar .char (116 : Int32))), (.int (nar .char (105 : Int32))), (.int (nar .char (111 : Int32))), (.int (nar .char (110 : Int32))), (.int (nar .char (32 : Int32))), (.int (nar .char (39 : Int32))), (.int (nar .char ((p1 &&& (255 : Int32)).toUInt32.toUInt16.toUInt32.toInt32))), (.int (0 : Int32)), (.int (0 : Int32)), (.int (0 : Int32)), (.int (0 : Int32)), (.int (0 : Int32)), (.int (0 : Int32))] (.int (0 : Int32)) := Arv.set Ar172_ q172_ S172_ M172_ Hs172_ G172_ (fits_nar_char _) W172_ 25 rfl (Nat.le_of_ble_eq_true rfl)
  have N172_ := Fr.snoc X172_ N168_ g70_
  have f177_ : Safe Z consts_1 T58_.vm h172_ b66_ := (Safe.wr W172_ f173_ ch170_ f173_)
  obtain ⟨cl176_, Ar176_, q176_, S176_, M176_, Hs176_, G176_⟩ := id v172_
  have in176_ : ¬ ((26 : Int32) < 0 ∨ cl176_.slots.size ≤ ((26 : Int32)).toNatClampNeg) := inb_of S176_ ⟨by decide, by decide⟩
  obtain ⟨T176_, h176_, X176_, e176_, W176_, st176_⟩ := stC X172_ hx hZ58_ e172_ Ar176_ (j := (26 : Int32)) in176_ (g := (mkF m 309 #[.val (.int p0), .val (.int p1), .val (.int p2), .val (.int ((p1 &&& (255 : Int32)).toUInt32.toUInt16.toUInt32.toInt32)), .val (.int ((((p1.toUInt32 >>> ((8 : Int32) &&& 31).toUInt32).toInt32) &&& (255 : Int32)).toUInt32.toUInt16.toUInt32.toInt32)), .val (.int ((p2 &&& (255 : Int32)).toUInt32.toUInt16.toUInt32.toInt32)), .val (.int ((((p2.toUInt32 >>> ((8 : Int32) &&& 31).toUInt32).toInt32) &&& (255 : Int32)).toUInt32.toUInt16.toUInt32.toInt32)), .val (.ref b1_), .val (.ref b29_), .val (.ref ea_58_), .unset] [(.int ((((p1.toUInt32 >>> ((8 : Int32) &&& 31).toUInt32).toInt32) &&& (255 : Int32)).toUInt32.toUInt16.toUInt32.toInt32)), (.int (26 : Int32)), (.ref b66_), (.ref b66_), (.ref b63_), (.ref b63_)])) rfl rfl (hb hby at_309)
  have ch178_ : CHv Z consts_1 T58_.vm h176_ := CHv.wr W176_ f177_ ch174_
  have cr179_ := cr175_.trans (CHr.wr W176_ f177_ ch174_)
  have v176_ : Arv Z h176_ b66_ k66_ .char (32 : Int32) [(.int (nar .char (105 : Int32))), (.int (nar .char (110 : Int32))), (.int (nar .char (118 : Int32))), (.int (nar .char (97 : Int32))), (.int (nar .char (108 : Int32))), (.int (nar .char (105 : Int32))), (.int (nar .char (100 : Int32))), (.int (nar .char (32 : Int32))), (.int (nar .char (98 : Int32))), (.int (nar .char (101 : Int32))), (.int (nar .char (97 : Int32))), (.int (nar .char (110 : Int32))), (.int (nar .char (32 : Int32))), (.int (nar .char (100 : Int32))), (.int (nar .char (101 : Int32))), (.int (nar .char (102 : Int32))), (.int (nar .char (105 : Int32))), (.int (nar .char (110 : Int32))), (.int (nar .char (105 : Int32))), (.int (nar .char (116 : Int32))), (.int (nar .char (105 : Int32))), (.int (nar .char (111 : Int32))), (.int (nar .char (110 : Int32))), (.int (nar .char (32 : Int32))), (.int (nar .char (39 : Int32))), (.int (nar .char ((p1 &&& (255 : Int32)).toUInt32.toUInt16.toUInt32.toInt32))), (.int (nar .char ((((p1.toUInt32 >>> ((8 : Int32) &&& 31).toUInt32).toInt32) &&& (255 : Int32)).toUInt32.toUInt16.toUInt32.toInt32))), (.int (0 : Int32)), (.int (0 : Int32)), (.int (0 : Int32)), (.int (0 : Int32)), (.int (0 : Int32))] (.int (0 : Int32)) := Arv.set Ar176_ q176_ S176_ M176_ Hs176_ G176_ (fits_nar_char _) W176_ 26 rfl (Nat.le_of_ble_eq_true rfl)
  have N176_ := Fr.snoc X176_ N172_ g70_
  have f181_ : Safe Z consts_1 T58_.vm h176_ b66_ := (Safe.wr W176_ f177_ ch174_ f177_)
  obtain ⟨cl180_, Ar180_, q180_, S180_, M180_, Hs180_, G180_⟩ := id v176_
  have in180_ : ¬ ((27 : Int32) < 0 ∨ cl180_.slots.size ≤ ((27 : Int32)).toNatClampNeg) := inb_of S180_ ⟨by decide, by decide⟩
  obtain ⟨T180_, h180_, X180_, e180_, W180_, st180_⟩ := stC X176_ hx hZ58_ e176_ Ar180_ (j := (27 : Int32)) in180_ (g := (mkF m 315 #[.val (.int p0), .val (.int p1), .val (.int p2), .val (.int ((p1 &&& (255 : Int32)).toUInt32.toUInt16.toUInt32.toInt32)), .val (.int ((((p1.toUInt32 >>> ((8 : Int32) &&& 31).toUInt32).toInt32) &&& (255 : Int32)).toUInt32.toUInt16.toUInt32.toInt32)), .val (.int ((p2 &&& (255 : Int32)).toUInt32.toUInt16.toUInt32.toInt32)), .val (.int ((((p2.toUInt32 >>> ((8 : Int32) &&& 31).toUInt32).toInt32) &&& (255 : Int32)).toUInt32.toUInt16.toUInt32.toInt32)), .val (.ref b1_), .val (.ref b29_), .val (.ref ea_58_), .unset] [(.int (39 : Int32)), (.int (27 : Int32)), (.ref b66_), (.ref b66_), (.ref b63_), (.ref b63_)])) rfl rfl (hb hby at_315)
  have ch182_ : CHv Z consts_1 T58_.vm h180_ := CHv.wr W180_ f181_ ch178_
  have cr183_ := cr179_.trans (CHr.wr W180_ f181_ ch178_)
  have v180_ : Arv Z h180_ b66_ k66_ .char (32 : Int32) [(.int (nar .char (105 : Int32))), (.int (nar .char (110 : Int32))), (.int (nar .char (118 : Int32))), (.int (nar .char (97 : Int32))), (.int (nar .char (108 : Int32))), (.int (nar .char (105 : Int32))), (.int (nar .char (100 : Int32))), (.int (nar .char (32 : Int32))), (.int (nar .char (98 : Int32))), (.int (nar .char (101 : Int32))), (.int (nar .char (97 : Int32))), (.int (nar .char (110 : Int32))), (.int (nar .char (32 : Int32))), (.int (nar .char (100 : Int32))), (.int (nar .char (101 : Int32))), (.int (nar .char (102 : Int32))), (.int (nar .char (105 : Int32))), (.int (nar .char (110 : Int32))), (.int (nar .char (105 : Int32))), (.int (nar .char (116 : Int32))), (.int (nar .char (105 : Int32))), (.int (nar .char (111 : Int32))), (.int (nar .char (110 : Int32))), (.int (nar .char (32 : Int32))), (.int (nar .char (39 : Int32))), (.int (nar .char ((p1 &&& (255 : Int32)).toUInt32.toUInt16.toUInt32.toInt32))), (.int (nar .char ((((p1.toUInt32 >>> ((8 : Int32) &&& 31).toUInt32).toInt32) &&& (255 : Int32)).toUInt32.toUInt16.toUInt32.toInt32))), (.int (nar .char (39 : Int32))), (.int (0 : Int32)), (.int (0 : Int32)), (.int (0 : Int32)), (.int (0 : Int32))] (.int (0 : Int32)) := Arv.set Ar180_ q180_ S180_ M180_ Hs180_ G180_ (fits_nar_char _) W180_ 27 rfl (Nat.le_of_ble_eq_true rfl)
  have N180_ := Fr.snoc X180_ N176_ g70_
  have f185_ : Safe Z consts_1 T58_.vm h180_ b66_ := (Safe.wr W180_ f181_ ch178_ f181_)
  obtain ⟨cl184_, Ar184_, q184_, S184_, M184_, Hs184_, G184_⟩ := id v180_
  have in184_ : ¬ ((28 : Int32) < 0 ∨ cl184_.slots.size ≤ ((28 : Int32)).toNatClampNeg) := inb_of S184_ ⟨by decide, by decide⟩
  obtain ⟨T184_, h184_, X184_, e184_, W184_, st184_⟩ := stC X180_ hx hZ58_ e180_ Ar184_ (j := (28 : Int32)) in184_ (g := (mkF m 321 #[.val (.int p0), .val (.int p1), .val (.int p2), .val (.int ((p1 &&& (255 : Int32)).toUInt32.toUInt16.toUInt32.toInt32)), .val (.int ((((p1.toUInt32 >>> ((8 : Int32) &&& 31).toUInt32).toInt32) &&& (255 : Int32)).toUInt32.toUInt16.toUInt32.toInt32)), .val (.int ((p2 &&& (255 : Int32)).toUInt32.toUInt16.toUInt32.toInt32)), .val (.int ((((p2.toUInt32 >>> ((8 : Int32) &&& 31).toUInt32).toInt32) &&& (255 : Int32)).toUInt32.toUInt16.toUInt32.toInt32)), .val (.ref b1_), .val (.ref b29_), .val (.ref ea_58_), .unset] [(.int (58 : Int32)), (.int (28 : Int32)), (.ref b66_), (.ref b66_), (.ref b63_), (.ref b63_)])) rfl rfl (hb hby at_321)
  have ch186_ : CHv Z consts_1 T58_.vm h184_ := CHv.wr W184_ f185_ ch182_
  have cr187_ := cr183_.trans (CHr.wr W184_ f185_ ch182_)
  have v184_ : Arv Z h184_ b66_ k66_ .char (32 : Int32) [(.int (nar .char (105 : Int32))), (.int (nar .char (110 : Int32))), (.int (nar .char (118 : Int32))), (.int (nar .char (97 : Int32))), (.int (nar .char (108 : Int32))), (.int (nar .char (105 : Int32))), (.int (nar .char (100 : Int32))), (.int (nar .char (32 : Int32))), (.int (nar .char (98 : Int32))), (.int (nar .char (101 : Int32))), (.int (nar .char (97 : Int32))), (.int (nar .char (110 : Int32))), (.int (nar .char (32 : Int32))), (.int (nar .char (100 : Int32))), (.int (nar .char (101 : Int32))), (.int (nar .char (102 : Int32))), (.int (nar .char (105 : Int32))), (.int (nar .char (110 : Int32))), (.int (nar .char (105 : Int32))), (.int (nar .char (116 : Int32))), (.int (nar .char (105 : Int32))), (.int (nar .char (111 : Int32))), (.int (nar .char (110 : Int32))), (.int (nar .char (32 : Int32))), (.int (nar .char (39 : Int32))), (.int (nar .char ((p1 &&& (255 : Int32)).toUInt32.toUInt16.toUInt32.toInt32))), (.int (nar .char ((((p1.toUInt32 >>> ((8 : Int32) &&& 31).toUInt32).toInt32) &&& (255 : Int32)).toUInt32.toUInt16.toUInt32.toInt32))), (.int (nar .char (39 : Int32))), (.int (nar .char (58 : Int32))), (.int (0 : Int32)), (.int (0 : Int32)), (.int (0 : Int32))] (.int (0 : Int32)) := Arv.set Ar184_ q184_ S184_ M184_ Hs184_ G184_ (fits_nar_char _) W184_ 28 rfl (Nat.le_of_ble_eq_true rfl)
  have N184_ := Fr.snoc X184_ N180_ g70_
  have f189_ : Safe Z consts_1 T58_.vm h184_ b66_ := (Safe.wr W184_ f185_ ch182_ f185_)
  obtain ⟨cl188_, Ar188_, q188_, S188_, M188_, Hs188_, G188_⟩ := id v184_
  have in188_ : ¬ ((29 : Int32) < 0 ∨ cl188_.slots.size ≤ ((29 : Int32)).toNatClampNeg) := inb_of S188_ ⟨by decide, by decide⟩
  obtain ⟨T188_, h188_, X188_, e188_, W188_, st188_⟩ := stC X184_ hx hZ58_ e184_ Ar188_ (j := (29 : Int32)) in188_ (g := (mkF m 327 #[.val (.int p0), .val (.int p1), .val (.int p2), .val (.int ((p1 &&& (255 : Int32)).toUInt32.toUInt16.toUInt32.toInt32)), .val (.int ((((p1.toUInt32 >>> ((8 : Int32) &&& 31).toUInt32).toInt32) &&& (255 : Int32)).toUInt32.toUInt16.toUInt32.toInt32)), .val (.int ((p2 &&& (255 : Int32)).toUInt32.toUInt16.toUInt32.toInt32)), .val (.int ((((p2.toUInt32 >>> ((8 : Int32) &&& 31).toUInt32).toInt32) &&& (255 : Int32)).toUInt32.toUInt16.toUInt32.toInt32)), .val (.ref b1_), .val (.ref b29_), .val (.ref ea_58_), .unset] [(.int (32 : Int32)), (.int (29 : Int32)), (.ref b66_), (.ref b66_), (.ref b63_), (.ref b63_)])) rfl rfl (hb hby at_327)
  have ch190_ : CHv Z consts_1 T58_.vm h188_ := CHv.wr W188_ f189_ ch186_
  have cr191_ := cr187_.trans (CHr.wr W188_ f189_ ch186_)
  have v188_ : Arv Z h188_ b66_ k66_ .char (32 : Int32) [(.int (nar .char (105 : Int32))), (.int (nar .char (110 : Int32))), (.int (nar .char (118 : Int32))), (.int (nar .char (97 : Int32))), (.int (nar .char (108 : Int32))), (.int (nar .char (105 : Int32))), (.int (nar .char (100 : Int32))), (.int (nar .char (32 : Int32))), (.int (nar .char (98 : Int32))), (.int (nar .char (101 : Int32))), (.int (nar .char (97 : Int32))), (.int (nar .char (110 : Int32))), (.int (nar .char (32 : Int32))), (.int (nar .char (100 : Int32))), (.int (nar .char (101 : Int32))), (.int (nar .char (102 : Int32))), (.int (nar .char (105 : Int32))), (.int (nar .char (110 : Int32))), (.int (nar .char (105 : Int32))), (.int (nar .char (116 : Int32))), (.int (nar .char (105 : Int32))), (.int (nar .char (111 : Int32))), (.int (nar .char (110 : Int32))), (.int (nar .char (32 : Int32))), (.int (nar .char (39 : Int32))), (.int (nar .char ((p1 &&& (255 : Int32)).toUInt32.toUInt16.toUInt32.toInt32))), (.int (nar .char ((((p1.toUInt32 >>> ((8 : Int32) &&& 31).toUInt32).toInt32) &&& (255 : Int32)).toUInt32.toUInt16.toUInt32.toInt32))), (.int (nar .char (39 : Int32))), (.int (nar .char (58 : Int32))), (.int (nar .char (32 : Int32))), (.int (0 : Int32)), (.int (0 : Int32))] (.int (0 : Int32)) := Arv.set Ar188_ q188_ S188_ M188_ Hs188_ G188_ (fits_nar_char _) W188_ 29 rfl (Nat.le_of_ble_eq_true rfl)
  have N188_ := Fr.snoc X188_ N184_ g70_
  have f193_ : Safe Z consts_1 T58_.vm h188_ b66_ := (Safe.wr W188_ f189_ ch186_ f189_)
  obtain ⟨cl192_, Ar192_, q192_, S192_, M192_, Hs192_, G192_⟩ := id v188_
  have in192_ : ¬ ((30 : Int32) < 0 ∨ cl192_.slots.size ≤ ((30 : Int32)).toNatClampNeg) := inb_of S192_ ⟨by decide, by decide⟩
  obtain ⟨T192_, h192_, X192_, e192_, W192_, st192_⟩ := stC X188_ hx hZ58_ e188_ Ar192_ (j := (30 : Int32)) in192_ (g := (mkF m 333 #[.val (.int p0), .val (.int p1), .val (.int p2), .val (.int ((p1 &&& (255 : Int32)).toUInt32.toUInt16.toUInt32.toInt32)), .val (.int ((((p1.toUInt32 >>> ((8 : Int32) &&& 31).toUInt32).toInt32) &&& (255 : Int32)).toUInt32.toUInt16.toUInt32.toInt32)), .val (.int ((p2 &&& (255 : Int32)).toUInt32.toUInt16.toUInt32.toInt32)), .val (.int ((((p2.toUInt32 >>> ((8 : Int32) &&& 31).toUInt32).toInt32) &&& (255 : Int32)).toUInt32.toUInt16.toUInt32.toInt32)), .val (.ref b1_), .val (.ref b29_), .val (.ref ea_58_), .unset] [(.int ((p2 &&& (255 : Int32)).toUInt32.toUInt16.toUInt32.toInt32)), (.int (30 : Int32)), (.ref b66_), (.ref b66_), (.ref b63_), (.ref b63_)])) rfl rfl (hb hby at_333)
  have ch194_ : CHv Z consts_1 T58_.vm h192_ := CHv.wr W192_ f193_ ch190_
  have cr195_ := cr191_.trans (CHr.wr W192_ f193_ ch190_)
  have v192_ : Arv Z h192_ b66_ k66_ .char (32 : Int32) [(.int (nar .char (105 : Int32))), (.int (nar .char (110 : Int32))), (.int (nar .char (118 : Int32))), (.int (nar .char (97 : Int32))), (.int (nar .char (108 : Int32))), (.int (nar .char (105 : Int32))), (.int (nar .char (100 : Int32))), (.int (nar .char (32 : Int32))), (.int (nar .char (98 : Int32))), (.int (nar .char (101 : Int32))), (.int (nar .char (97 : Int32))), (.int (nar .char (110 : Int32))), (.int (nar .char (32 : Int32))), (.int (nar .char (100 : Int32))), (.int (nar .char (101 : Int32))), (.int (nar .char (102 : Int32))), (.int (nar .char (105 : Int32))), (.int (nar .char (110 : Int32))), (.int (nar .char (105 : Int32))), (.int (nar .char (116 : Int32))), (.int (nar .char (105 : Int32))), (.int (nar .char (111 : Int32))), (.int (nar .char (110 : Int32))), (.int (nar .char (32 : Int32))), (.int (nar .char (39 : Int32))), (.int (nar .char ((p1 &&& (255 : Int32)).toUInt32.toUInt16.toUInt32.toInt32))), (.int (nar .char ((((p1.toUInt32 >>> ((8 : Int32) &&& 31).toUInt32).toInt32) &&& (255 : Int32)).toUInt32.toUInt16.toUInt32.toInt32))), (.int (nar .char (39 : Int32))), (.int (nar .char (58 : Int32))), (.int (nar .char (32 : Int32))), (.int (nar .char ((p2 &&& (255 : Int32)).toUInt32.toUInt16.toUInt32.toInt32))), (.int (0 : Int32))] (.int (0 : Int32)) := Arv.set Ar192_ q192_ S192_ M192_ Hs192_ G192_ (fits_nar_char _) W192_ 30 rfl (Nat.le_of_ble_eq_true rfl)
  have N192_ := Fr.snoc X192_ N188_ g70_
  have f197_ : Safe Z consts_1 T58_.vm h192_ b66_ := (Safe.wr W192_ f193_ ch190_ f193_)
  obtain ⟨cl196_, Ar196_, q196_, S196_, M196_, Hs196_, G196_⟩ := id v192_
  have in196_ : ¬ ((31 : Int32) < 0 ∨ cl196_.slots.size ≤ ((31 : Int32)).toNatClampNeg) := inb_of S196_ ⟨by decide, by decide⟩
  obtain ⟨T196_, h196_, X196_, e196_, W196_, st196_⟩ := stC X192_ hx hZ58_ e192_ Ar196_ (j := (31 : Int32)) in196_ (g := (mkF m 339 #[.val (.int p0), .val (.int p1), .val (.int p2), .val (.int ((p1 &&& (255 : Int32)).toUInt32.toUInt16.toUInt32.toInt32)), .val (.int ((((p1.toUInt32 >>> ((8 : Int32) &&& 31).toUInt32).toInt32) &&& (255 : Int32)).toUInt32.toUInt16.toUInt32.toInt32)), .val (.int ((p2 &&& (255 : Int32)).toUInt32.toUInt16.toUInt32.toInt32)), .val (.int ((((p2.toUInt32 >>> ((8 : Int32) &&& 31).toUInt32).toInt32) &&& (255 : Int32)).toUInt32.toUInt16.toUInt32.toInt32)), .val (.ref b1_), .val (.ref b29_), .val (.ref ea_58_), .unset] [(.int ((((p2.toUInt32 >>> ((8 : Int32) &&& 31).toUInt32).toInt32) &&& (255 : Int32)).toUInt32.toUInt16.toUInt32.toInt32)), (.int (31 : Int32)), (.ref b66_), (.ref b66_), (.ref b63_), (.ref b63_)])) rfl rfl (hb hby at_339)
  have ch198_ : CHv Z consts_1 T58_.vm h196_ := CHv.wr W196_ f197_ ch194_
  have cr199_ := cr195_.trans (CHr.wr W196_ f197_ ch194_)
  have v196_ : Arv Z h196_ b66_ k66_ .char (32 : Int32) [(.int (nar .char (105 : Int32))), (.int (nar .char (110 : Int32))), (.int (nar .char (118 : Int32))), (.int (nar .char (97 : Int32))), (.int (nar .char (108 : Int32))), (.int (nar .char (105 : Int32))), (.int (nar .char (100 : Int32))), (.int (nar .char (32 : Int32))), (.int (nar .char (98 : Int32))), (.int (nar .char (101 : Int32))), (.int (nar .char (97 : Int32))), (.int (nar .char (110 : Int32))), (.int (nar .char (32 : Int32))), (.int (nar .char (100 : Int32))), (.int (nar .char (101 : Int32))), (.int (nar .char (102 : Int32))), (.int (nar .char (105 : Int32))), (.int (nar .char (110 : Int32))), (.int (nar .char (105 : Int32))), (.int (nar .char (116 : Int32))), (.int (nar .char (105 : Int32))), (.int (nar .char (111 : Int32))), (.int (nar .char (110 : Int32))), (.int (nar .char (32 : Int32))), (.int (nar .char (39 : Int32))), (.int (nar .char ((p1 &&& (255 : Int32)).toUInt32.toUInt16.toUInt32.toInt32))), (.int (nar .char ((((p1.toUInt32 >>> ((8 : Int32) &&& 31).toUInt32).toInt32) &&& (255 : Int32)).toUInt32.toUInt16.toUInt32.toInt32))), (.int (nar .char (39 : Int32))), (.int (nar .char (58 : Int32))), (.int (nar .char (32 : Int32))), (.int (nar .char ((p2 &&& (255 : Int32)).toUInt32.toUInt16.toUInt32.toInt32))), (.int (nar .char ((((p2.toUInt32 >>> ((8 : Int32) &&& 31).toUInt32).toInt32) &&& (255 : Int32)).toUInt32.toUInt16.toUInt32.toInt32)))] (.int (0 : Int32)) := Arv.set Ar196_ q196_ S196_ M196_ Hs196_ G196_ (fits_nar_char _) W196_ 31 rfl (Nat.le_of_ble_eq_true rfl)
  have N196_ := Fr.snoc X196_ N192_ g70_
  have hp200_ : ∀ c ∈ ([(nar .char (105 : Int32)), (nar .char (110 : Int32)), (nar .char (118 : Int32)), (nar .char (97 : Int32)), (nar .char (108 : Int32)), (nar .char (105 : Int32)), (nar .char (100 : Int32)), (nar .char (32 : Int32)), (nar .char (98 : Int32)), (nar .char (101 : Int32)), (nar .char (97 : Int32)), (nar .char (110 : Int32)), (nar .char (32 : Int32)), (nar .char (100 : Int32)), (nar .char (101 : Int32)), (nar .char (102 : Int32)), (nar .char (105 : Int32)), (nar .char (110 : Int32)), (nar .char (105 : Int32)), (nar .char (116 : Int32)), (nar .char (105 : Int32)), (nar .char (111 : Int32)), (nar .char (110 : Int32)), (nar .char (32 : Int32)), (nar .char (39 : Int32)), (nar .char ((p1 &&& (255 : Int32)).toUInt32.toUInt16.toUInt32.toInt32)), (nar .char ((((p1.toUInt32 >>> ((8 : Int32) &&& 31).toUInt32).toInt32) &&& (255 : Int32)).toUInt32.toUInt16.toUInt32.toInt32)), (nar .char (39 : Int32)), (nar .char (58 : Int32)), (nar .char (32 : Int32)), (nar .char ((p2 &&& (255 : Int32)).toUInt32.toUInt16.toUInt32.toInt32)), (nar .char ((((p2.toUInt32 >>> ((8 : Int32) &&& 31).toUInt32).toInt32) &&& (255 : Int32)).toUInt32.toUInt16.toUInt32.toInt32))] : List Int32), ¬ c < 0 ∧ ¬ (255 : Int32) < c := by
    intro c hc
    simp only [List.mem_cons, List.not_mem_nil, or_false] at hc
    rcases hc with rfl | rfl | rfl | rfl | rfl | rfl | rfl | rfl | rfl | rfl | rfl | rfl | rfl | rfl | rfl | rfl | rfl | rfl | rfl | rfl | rfl | rfl | rfl | rfl | rfl | rfl | rfl | rfl | rfl | rfl | rfl | rfl
    · exact ⟨by decide, by decide⟩
    · exact ⟨by decide, by decide⟩
    · exact ⟨by decide, by decide⟩
    · exact ⟨by decide, by decide⟩
    · exact ⟨by decide, by decide⟩
    · exact ⟨by decide, by decide⟩
    · exact ⟨by decide, by decide⟩
    · exact ⟨by decide, by decide⟩
    · exact ⟨by decide, by decide⟩
    · exact ⟨by decide, by decide⟩
    · exact ⟨by decide, by decide⟩
    · exact ⟨by decide, by decide⟩
    · exact ⟨by decide, by decide⟩
    · exact ⟨by decide, by decide⟩
    · exact ⟨by decide, by decide⟩
    · exact ⟨by decide, by decide⟩
    · exact ⟨by decide, by decide⟩
    · exact ⟨by decide, by decide⟩
    · exact ⟨by decide, by decide⟩
    · exact ⟨by decide, by decide⟩
    · exact ⟨by decide, by decide⟩
    · exact ⟨by decide, by decide⟩
    · exact ⟨by decide, by decide⟩
    · exact ⟨by decide, by decide⟩
    · exact ⟨by decide, by decide⟩
    · exact (own_and255 _)
    · exact (own_and255 _)
    · exact ⟨by decide, by decide⟩
    · exact ⟨by decide, by decide⟩
    · exact ⟨by decide, by decide⟩
    · exact (own_and255 _)
    · exact (own_and255 _)
  have g201_ : n0 ≤ b63_ := Nat.le_trans z71_ (Nat.le_of_eq g63_.symm)
  have z202_ : n0 ≤ h66_.size := Nat.le_trans z72_ E66_.1
  have z203_ : n0 ≤ h69_.size := Nat.le_trans z202_ (Keep.of_wr W69_).1
  have z204_ : n0 ≤ h76_.size := Nat.le_trans z203_ (Keep.of_wr W76_).1
  have z205_ : n0 ≤ h80_.size := Nat.le_trans z204_ (Keep.of_wr W80_).1
  have z206_ : n0 ≤ h84_.size := Nat.le_trans z205_ (Keep.of_wr W84_).1
  have z207_ : n0 ≤ h88_.size := Nat.le_trans z206_ (Keep.of_wr W88_).1
  have z208_ : n0 ≤ h92_.size := Nat.le_trans z207_ (Keep.of_wr W92_).1
  have z209_ : n0 ≤ h96_.size := Nat.le_trans z208_ (Keep.of_wr W96_).1
  have z210_ : n0 ≤ h100_.size := Nat.le_trans z209_ (Keep.of_wr W100_).1
  have z211_ : n0 ≤ h104_.size := Nat.le_trans z210_ (Keep.of_wr W104_).1
  have z212_ : n0 ≤ h108_.size := Nat.le_trans z211_ (Keep.of_wr W108_).1
  have z213_ : n0 ≤ h112_.size := Nat.le_trans z212_ (Keep.of_wr W112_).1
  have z214_ : n0 ≤ h116_.size := Nat.le_trans z213_ (Keep.of_wr W116_).1
  have z215_ : n0 ≤ h120_.size := Nat.le_trans z214_ (Keep.of_wr W120_).1
  have z216_ : n0 ≤ h124_.size := Nat.le_trans z215_ (Keep.of_wr W124_).1
  have z217_ : n0 ≤ h128_.size := Nat.le_trans z216_ (Keep.of_wr W128_).1
  have z218_ : n0 ≤ h132_.size := Nat.le_trans z217_ (Keep.of_wr W132_).1
  have z219_ : n0 ≤ h136_.size := Nat.le_trans z218_ (Keep.of_wr W136_).1
  have z220_ : n0 ≤ h140_.size := Nat.le_trans z219_ (Keep.of_wr W140_).1
  have z221_ : n0 ≤ h144_.size := Nat.le_trans z220_ (Keep.of_wr W144_).1
  have z222_ : n0 ≤ h148_.size := Nat.le_trans z221_ (Keep.of_wr W148_).1
  have z223_ : n0 ≤ h152_.size := Nat.le_trans z222_ (Keep.of_wr W152_).1
  have z224_ : n0 ≤ h156_.size := Nat.le_trans z223_ (Keep.of_wr W156_).1
  have z225_ : n0 ≤ h160_.size := Nat.le_trans z224_ (Keep.of_wr W160_).1
  have z226_ : n0 ≤ h164_.size := Nat.le_trans z225_ (Keep.of_wr W164_).1
  have z227_ : n0 ≤ h168_.size := Nat.le_trans z226_ (Keep.of_wr W168_).1
  have z228_ : n0 ≤ h172_.size := Nat.le_trans z227_ (Keep.of_wr W172_).1
  have z229_ : n0 ≤ h176_.size := Nat.le_trans z228_ (Keep.of_wr W176_).1
  have z230_ : n0 ≤ h180_.size := Nat.le_trans z229_ (Keep.of_wr W180_).1
  have z231_ : n0 ≤ h184_.size := Nat.le_trans z230_ (Keep.of_wr W184_).1
  have z232_ : n0 ≤ h188_.size := Nat.le_trans z231_ (Keep.of_wr W188_).1
  have z233_ : n0 ≤ h192_.size := Nat.le_trans z232_ (Keep.of_wr W192_).1
  have z234_ : n0 ≤ h196_.size := Nat.le_trans z233_ (Keep.of_wr W196_).1
  have f235_ : Exa Z h196_ b63_ "java/lang/String" := (((((((((((((((((((((((((((((((((A63_.ext E66_).wr W69_).wr W76_).wr W80_).wr W84_).wr W88_).wr W92_).wr W96_).wr W100_).wr W104_).wr W108_).wr W112_).wr W116_).wr W120_).wr W124_).wr W128_).wr W132_).wr W136_).wr W140_).wr W144_).wr W148_).wr W152_).wr W156_).wr W160_).wr W164_).wr W168_).wr W172_).wr W176_).wr W180_).wr W184_).wr W188_).wr W192_).wr W196_)
  have f236_ : Fld Z h196_ b63_ "java/lang/String" "value" "[B" .null := (((((((((((((((((((((((((((((((((F63__value.ext E66_).other W69_ (Or.inl (Nat.ne_of_lt (Nat.lt_of_lt_of_le A63_.lt (Nat.le_of_eq g66_.symm))))).other W76_ (Or.inl (Nat.ne_of_lt (Nat.lt_of_lt_of_le A63_.lt (Nat.le_of_eq g66_.symm))))).other W80_ (Or.inl (Nat.ne_of_lt (Nat.lt_of_lt_of_le A63_.lt (Nat.le_of_eq g66_.symm))))).other W84_ (Or.inl (Nat.ne_of_lt (Nat.lt_of_lt_of_le A63_.lt (Nat.le_of_eq g66_.symm))))).other W88_ (Or.inl (Nat.ne_of_lt (Nat.lt_of_lt_of_le A63_.lt (Nat.le_of_eq g66_.symm))))).other W92_ (Or.inl (Nat.ne_of_lt (Nat.lt_of_lt_of_le A63_.lt (Nat.le_of_eq g66_.symm))))).other W96_ (Or.inl (Nat.ne_of_lt (Nat.lt_of_lt_of_le A63_.lt (Nat.le_of_eq g66_.symm))))).other W100_ (Or.inl (Nat.ne_of_lt (Nat.lt_of_lt_of_le A63_.lt (Nat.le_of_eq g66_.symm))))).other W104_ (Or.inl (Nat.ne_of_lt (Nat.lt_of_lt_of_le A63_.lt (Nat.le_of_eq g66_.symm))))).other W108_ (Or.inl (Nat.ne_of_lt (Nat.lt_of_lt_of_le A63_.lt (Nat.le_of_eq g66_.symm))))).other W112_ (Or.inl (Nat.ne_of_lt (Nat.lt_of_lt_of_le A63_.lt (Nat.le_of_eq g66_.symm))))).other W116_ (Or.inl (Nat.ne_of_lt (Nat.lt_of_lt_of_le A63_.lt (Nat.le_of_eq g66_.symm))))).other W120_ (Or.inl (Nat.ne_of_lt (Nat.lt_of_lt_of_le A63_.lt (Nat.le_of_eq g66_.symm))))).other W124_ (Or.inl (Nat.ne_of_lt (Nat.lt_of_lt_of_le A63_.lt (Nat.le_of_eq g66_.symm))))).other W128_ (Or.inl (Nat.ne_of_lt (Nat.lt_of_lt_of_le A63_.lt (Nat.le_of_eq g66_.symm))))).other W132_ (Or.inl (Nat.ne_of_lt (Nat.lt_of_lt_of_le A63_.lt (Nat.le_of_eq g66_.symm))))).other W136_ (Or.inl (Nat.ne_of_lt (Nat.lt_of_lt_of_le A63_.lt (Nat.le_of_eq g66_.symm))))).other W140_ (Or.inl (Nat.ne_of_lt (Nat.lt_of_lt_of_le A63_.lt (Nat.le_of_eq g66_.symm))))).other W144_ (Or.inl (Nat.ne_of_lt (Nat.lt_of_lt_of_le A63_.lt (Nat.le_of_eq g66_.symm))))).other W148_ (Or.inl (Nat.ne_of_lt (Nat.lt_of_lt_of_le A63_.lt (Nat.le_of_eq g66_.symm))))).other W152_ (Or.inl (Nat.ne_of_lt (Nat.lt_of_lt_of_le A63_.lt (Nat.le_of_eq g66_.symm))))).other W156_ (Or.inl (Nat.ne_of_lt (Nat.lt_of_lt_of_le A63_.lt (Nat.le_of_eq g66_.symm))))).other W160_ (Or.inl (Nat.ne_of_lt (Nat.lt_of_lt_of_le A63_.lt (Nat.le_of_eq g66_.symm))))).other W164_ (Or.inl (Nat.ne_of_lt (Nat.lt_of_lt_of_le A63_.lt (Nat.le_of_eq g66_.symm))))).other W168_ (Or.inl (Nat.ne_of_lt (Nat.lt_of_lt_of_le A63_.lt (Nat.le_of_eq g66_.symm))))).other W172_ (Or.inl (Nat.ne_of_lt (Nat.lt_of_lt_of_le A63_.lt (Nat.le_of_eq g66_.symm))))).other W176_ (Or.inl (Nat.ne_of_lt (Nat.lt_of_lt_of_le A63_.lt (Nat.le_of_eq g66_.symm))))).other W180_ (Or.inl (Nat.ne_of_lt (Nat.lt_of_lt_of_le A63_.lt (Nat.le_of_eq g66_.symm))))).other W184_ (Or.inl (Nat.ne_of_lt (Nat.lt_of_lt_of_le A63_.lt (Nat.le_of_eq g66_.symm))))).other W188_ (Or.inl (Nat.ne_of_lt (Nat.lt_of_lt_of_le A63_.lt (Nat.le_of_eq g66_.symm))))).other W192_ (Or.inl (Nat.ne_of_lt (Nat.lt_of_lt_of_le A63_.lt (Nat.le_of_eq g66_.symm))))).other W196_ (Or.inl (Nat.ne_of_lt (Nat.lt_of_lt_of_le A63_.lt (Nat.le_of_eq g66_.symm)))))
  have f237_ : Fld Z h196_ b63_ "java/lang/String" "coder" "B" (.int (0 : Int32)) := (((((((((((((((((((((((((((((((((F63__coder.ext E66_).other W69_ (Or.inl (Nat.ne_of_lt (Nat.lt_of_lt_of_le A63_.lt (Nat.le_of_eq g66_.symm))))).other W76_ (Or.inl (Nat.ne_of_lt (Nat.lt_of_lt_of_le A63_.lt (Nat.le_of_eq g66_.symm))))).other W80_ (Or.inl (Nat.ne_of_lt (Nat.lt_of_lt_of_le A63_.lt (Nat.le_of_eq g66_.symm))))).other W84_ (Or.inl (Nat.ne_of_lt (Nat.lt_of_lt_of_le A63_.lt (Nat.le_of_eq g66_.symm))))).other W88_ (Or.inl (Nat.ne_of_lt (Nat.lt_of_lt_of_le A63_.lt (Nat.le_of_eq g66_.symm))))).other W92_ (Or.inl (Nat.ne_of_lt (Nat.lt_of_lt_of_le A63_.lt (Nat.le_of_eq g66_.symm))))).other W96_ (Or.inl (Nat.ne_of_lt (Nat.lt_of_lt_of_le A63_.lt (Nat.le_of_eq g66_.symm))))).other W100_ (Or.inl (Nat.ne_of_lt (Nat.lt_of_lt_of_le A63_.lt (Nat.le_of_eq g66_.symm))))).other W104_ (Or.inl (Nat.ne_of_lt (Nat.lt_of_lt_of_le A63_.lt (Nat.le_of_eq g66_.symm))))).other W108_ (Or.inl (Nat.ne_of_lt (Nat.lt_of_lt_of_le A63_.lt (Nat.le_of_eq g66_.symm))))).other W112_ (Or.inl (Nat.ne_of_lt (Nat.lt_of_lt_of_le A63_.lt (Nat.le_of_eq g66_.symm))))).other W116_ (Or.inl (Nat.ne_of_lt (Nat.lt_of_lt_of_le A63_.lt (Nat.le_of_eq g66_.symm))))).other W120_ (Or.inl (Nat.ne_of_lt (Nat.lt_of_lt_of_le A63_.lt (Nat.le_of_eq g66_.symm))))).other W124_ (Or.inl (Nat.ne_of_lt (Nat.lt_of_lt_of_le A63_.lt (Nat.le_of_eq g66_.symm))))).other W128_ (Or.inl (Nat.ne_of_lt (Nat.lt_of_lt_of_le A63_.lt (Nat.le_of_eq g66_.symm))))).other W132_ (Or.inl (Nat.ne_of_lt (Nat.lt_of_lt_of_le A63_.lt (Nat.le_of_eq g66_.symm))))).other W136_ (Or.inl (Nat.ne_of_lt (Nat.lt_of_lt_of_le A63_.lt (Nat.le_of_eq g66_.symm))))).other W140_ (Or.inl (Nat.ne_of_lt (Nat.lt_of_lt_of_le A63_.lt (Nat.le_of_eq g66_.symm))))).other W144_ (Or.inl (Nat.ne_of_lt (Nat.lt_of_lt_of_le A63_.lt (Nat.le_of_eq g66_.symm))))).other W148_ (Or.inl (Nat.ne_of_lt (Nat.lt_of_lt_of_le A63_.lt (Nat.le_of_eq g66_.symm))))).other W152_ (Or.inl (Nat.ne_of_lt (Nat.lt_of_lt_of_le A63_.lt (Nat.le_of_eq g66_.symm))))).other W156_ (Or.inl (Nat.ne_of_lt (Nat.lt_of_lt_of_le A63_.lt (Nat.le_of_eq g66_.symm))))).other W160_ (Or.inl (Nat.ne_of_lt (Nat.lt_of_lt_of_le A63_.lt (Nat.le_of_eq g66_.symm))))).other W164_ (Or.inl (Nat.ne_of_lt (Nat.lt_of_lt_of_le A63_.lt (Nat.le_of_eq g66_.symm))))).other W168_ (Or.inl (Nat.ne_of_lt (Nat.lt_of_lt_of_le A63_.lt (Nat.le_of_eq g66_.symm))))).other W172_ (Or.inl (Nat.ne_of_lt (Nat.lt_of_lt_of_le A63_.lt (Nat.le_of_eq g66_.symm))))).other W176_ (Or.inl (Nat.ne_of_lt (Nat.lt_of_lt_of_le A63_.lt (Nat.le_of_eq g66_.symm))))).other W180_ (Or.inl (Nat.ne_of_lt (Nat.lt_of_lt_of_le A63_.lt (Nat.le_of_eq g66_.symm))))).other W184_ (Or.inl (Nat.ne_of_lt (Nat.lt_of_lt_of_le A63_.lt (Nat.le_of_eq g66_.symm))))).other W188_ (Or.inl (Nat.ne_of_lt (Nat.lt_of_lt_of_le A63_.lt (Nat.le_of_eq g66_.symm))))).other W192_ (Or.inl (Nat.ne_of_lt (Nat.lt_of_lt_of_le A63_.lt (Nat.le_of_eq g66_.symm))))).other W196_ (Or.inl (Nat.ne_of_lt (Nat.lt_of_lt_of_le A63_.lt (Nat.le_of_eq g66_.symm)))))
  have f238_ : Old Z n0 h196_ := (((((((((((((((((((((((((((((((((((f60_.keep ek58_ all0).ext E63_).ext E66_).wr W69_ g70_).wr W76_ g70_).wr W80_ g70_).wr W84_ g70_).wr W88_ g70_).wr W92_ g70_).wr W96_ g70_).wr W100_ g70_).wr W104_ g70_).wr W108_ g70_).wr W112_ g70_).wr W116_ g70_).wr W120_ g70_).wr W124_ g70_).wr W128_ g70_).wr W132_ g70_).wr W136_ g70_).wr W140_ g70_).wr W144_ g70_).wr W148_ g70_).wr W152_ g70_).wr W156_ g70_).wr W160_ g70_).wr W164_ g70_).wr W168_ g70_).wr W172_ g70_).wr W176_ g70_).wr W180_ g70_).wr W184_ g70_).wr W188_ g70_).wr W192_ g70_).wr W196_ g70_)
  obtain ⟨_, _, ⟨T200_, L200_, k200_, n200_⟩, -, X200_, ⟨Lc200_, hQ200_, l200_, y200_, z200_⟩, st200_⟩ := X196_.specialBack hx (y := (⟨"java/lang/String", "<init>", "([C)V"⟩ : MethodName)) rfl hown58_ (mvT hZ58_ (hw _ (List.mem_of_getElem? (i := 4) rfl))) (mvT hZ58_ (hw _ (List.mem_of_getElem? (i := 5) rfl))) (mvT hZ58_ (hw _ (List.mem_of_getElem? (i := 6) rfl))) (by decide) (own_newB (W := 1) (n0 := n0) (cs := ([(nar .char (105 : Int32)), (nar .char (110 : Int32)), (nar .char (118 : Int32)), (nar .char (97 : Int32)), (nar .char (108 : Int32)), (nar .char (105 : Int32)), (nar .char (100 : Int32)), (nar .char (32 : Int32)), (nar .char (98 : Int32)), (nar .char (101 : Int32)), (nar .char (97 : Int32)), (nar .char (110 : Int32)), (nar .char (32 : Int32)), (nar .char (100 : Int32)), (nar .char (101 : Int32)), (nar .char (102 : Int32)), (nar .char (105 : Int32)), (nar .char (110 : Int32)), (nar .char (105 : Int32)), (nar .char (116 : Int32)), (nar .char (105 : Int32)), (nar .char (111 : Int32)), (nar .char (110 : Int32)), (nar .char (32 : Int32)), (nar .char (39 : Int32)), (nar .char ((p1 &&& (255 : Int32)).toUInt32.toUInt16.toUInt32.toInt32)), (nar .char ((((p1.toUInt32 >>> ((8 : Int32) &&& 31).toUInt32).toInt32) &&& (255 : Int32)).toUInt32.toUInt16.toUInt32.toInt32)), (nar .char (39 : Int32)), (nar .char (58 : Int32)), (nar .char (32 : Int32)), (nar .char ((p2 &&& (255 : Int32)).toUInt32.toUInt16.toUInt32.toInt32)), (nar .char ((((p2.toUInt32 >>> ((8 : Int32) &&& 31).toUInt32).toInt32) &&& (255 : Int32)).toUInt32.toUInt16.toUInt32.toInt32))] : List Int32)) hZ58_ hw g201_ z234_ f235_ f236_ f237_ v196_ T1 P5 f238_ (n := 32) rfl rfl (by decide) (by decide) hp200_ (by decide) (by decide)) (g := (mkF m 340 #[.val (.int p0), .val (.int p1), .val (.int p2), .val (.int ((p1 &&& (255 : Int32)).toUInt32.toUInt16.toUInt32.toInt32)), .val (.int ((((p1.toUInt32 >>> ((8 : Int32) &&& 31).toUInt32).toInt32) &&& (255 : Int32)).toUInt32.toUInt16.toUInt32.toInt32)), .val (.int ((p2 &&& (255 : Int32)).toUInt32.toUInt16.toUInt32.toInt32)), .val (.int ((((p2.toUInt32 >>> ((8 : Int32) &&& 31).toUInt32).toInt32) &&& (255 : Int32)).toUInt32.toUInt16.toUInt32.toInt32)), .val (.ref b1_), .val (.ref b29_), .val (.ref ea_58_), .unset] [(.ref b66_), (.ref b63_), (.ref b63_)])) rfl (by rw [hml]; rfl) (Steps.refl _) (a := b63_) (argsL := [(.ref b66_)]) (rest := [(.ref b63_)]) (lenOf pd_qaCzV rfl) rfl (by show 2 * 0 + _ ≤ _; exact Nat.le_of_eq rfl) (hb hby at_340) (fun _ _ => ⟨rfl, e196_, (by exact Nat.le_of_ble_eq_true rfl), (by exact Nat.le_of_ble_eq_true rfl)⟩)
  dsimp only [Pt.U, Pt.locs, Pt.cells, Pt.slots] at X200_ l200_ y200_ z200_ st200_ hQ200_
  subst L200_ k200_ n200_
  obtain ⟨t200_, rfl, Nq200_, ek200_, lb200_, str200_⟩ := hQ200_
  have N200_ := Fr.app N196_ Nq200_
  have f239_ : Safe Z consts_1 T58_.vm h196_ b63_ := (Safe.wr W196_ f197_ ch194_ (Safe.wr W192_ f193_ ch190_ (Safe.wr W188_ f189_ ch186_ (Safe.wr W184_ f185_ ch182_ (Safe.wr W180_ f181_ ch178_ (Safe.wr W176_ f177_ ch174_ (Safe.wr W172_ f173_ ch170_ (Safe.wr W168_ f169_ ch166_ (Safe.wr W164_ f165_ ch162_ (Safe.wr W160_ f161_ ch158_ (Safe.wr W156_ f157_ ch154_ (Safe.wr W152_ f153_ ch150_ (Safe.wr W148_ f149_ ch146_ (Safe.wr W144_ f145_ ch142_ (Safe.wr W140_ f141_ ch138_ (Safe.wr W136_ f137_ ch134_ (Safe.wr W132_ f133_ ch130_ (Safe.wr W128_ f129_ ch126_ (Safe.wr W124_ f125_ ch122_ (Safe.wr W120_ f121_ ch118_ (Safe.wr W116_ f117_ ch114_ (Safe.wr W112_ f113_ ch110_ (Safe.wr W108_ f109_ ch106_ (Safe.wr W104_ f105_ ch102_ (Safe.wr W100_ f101_ ch98_ (Safe.wr W96_ f97_ ch94_ (Safe.wr W92_ f93_ ch90_ (Safe.wr W88_ f89_ ch86_ (Safe.wr W84_ f85_ ch82_ (Safe.wr W80_ f81_ ch78_ (Safe.wr W76_ f77_ ch74_ (Safe.wr W69_ f73_ ch67_ (Safe.ext E66_ ch64_ (Safe.ext E63_ ch58_ sf63_))))))))))))))))))))))))))))))))))
  have ch240_ : CHv Z consts_1 T58_.vm T200_.heap := CHv.keep ek200_ (sfS f239_ sf0) ch198_
  have cr241_ := cr199_.trans (CHr.keep ek200_ (sfS f239_ sf0) ch198_)
  have f243_ : Unt T200_.heap ea_58_ := (Unt.keep ek200_ (ninS (Nat.ne_of_lt (Nat.lt_of_lt_of_le p58__0.lt (Nat.le_of_eq g63_.symm))) nin0) (Unt.wr W196_ (Unt.wr W192_ (Unt.wr W188_ (Unt.wr W184_ (Unt.wr W180_ (Unt.wr W176_ (Unt.wr W172_ (Unt.wr W168_ (Unt.wr W164_ (Unt.wr W160_ (Unt.wr W156_ (Unt.wr W152_ (Unt.wr W148_ (Unt.wr W144_ (Unt.wr W140_ (Unt.wr W136_ (Unt.wr W132_ (Unt.wr W128_ (Unt.wr W124_ (Unt.wr W120_ (Unt.wr W116_ (Unt.wr W112_ (Unt.wr W108_ (Unt.wr W104_ (Unt.wr W100_ (Unt.wr W96_ (Unt.wr W92_ (Unt.wr W88_ (Unt.wr W84_ (Unt.wr W80_ (Unt.wr W76_ (Unt.wr W69_ (Unt.ext E66_ (Unt.ext E63_ p58__1)))))))))))))))))))))))))))))))))))
  have f244_ : Fld Z T200_.heap ea_58_ "java/lang/Throwable" "cause" "Ljava/lang/Throwable;" (.ref ea_58_) := (((((((((((((((((((((((((((((((((((p58__3.ext E63_).ext E66_).other W69_ (Or.inl (Nat.ne_of_lt (Nat.lt_of_lt_of_le (p58__0.ext E63_).lt (Nat.le_of_eq g66_.symm))))).other W76_ (Or.inl (Nat.ne_of_lt (Nat.lt_of_lt_of_le (p58__0.ext E63_).lt (Nat.le_of_eq g66_.symm))))).other W80_ (Or.inl (Nat.ne_of_lt (Nat.lt_of_lt_of_le (p58__0.ext E63_).lt (Nat.le_of_eq g66_.symm))))).other W84_ (Or.inl (Nat.ne_of_lt (Nat.lt_of_lt_of_le (p58__0.ext E63_).lt (Nat.le_of_eq g66_.symm))))).other W88_ (Or.inl (Nat.ne_of_lt (Nat.lt_of_lt_of_le (p58__0.ext E63_).lt (Nat.le_of_eq g66_.symm))))).other W92_ (Or.inl (Nat.ne_of_lt (Nat.lt_of_lt_of_le (p58__0.ext E63_).lt (Nat.le_of_eq g66_.symm))))).other W96_ (Or.inl (Nat.ne_of_lt (Nat.lt_of_lt_of_le (p58__0.ext E63_).lt (Nat.le_of_eq g66_.symm))))).other W100_ (Or.inl (Nat.ne_of_lt (Nat.lt_of_lt_of_le (p58__0.ext E63_).lt (Nat.le_of_eq g66_.symm))))).other W104_ (Or.inl (Nat.ne_of_lt (Nat.lt_of_lt_of_le (p58__0.ext E63_).lt (Nat.le_of_eq g66_.symm))))).other W108_ (Or.inl (Nat.ne_of_lt (Nat.lt_of_lt_of_le (p58__0.ext E63_).lt (Nat.le_of_eq g66_.symm))))).other W112_ (Or.inl (Nat.ne_of_lt (Nat.lt_of_lt_of_le (p58__0.ext E63_).lt (Nat.le_of_eq g66_.symm))))).other W116_ (Or.inl (Nat.ne_of_lt (Nat.lt_of_lt_of_le (p58__0.ext E63_).lt (Nat.le_of_eq g66_.symm))))).other W120_ (Or.inl (Nat.ne_of_lt (Nat.lt_of_lt_of_le (p58__0.ext E63_).lt (Nat.le_of_eq g66_.symm))))).other W124_ (Or.inl (Nat.ne_of_lt (Nat.lt_of_lt_of_le (p58__0.ext E63_).lt (Nat.le_of_eq g66_.symm))))).other W128_ (Or.inl (Nat.ne_of_lt (Nat.lt_of_lt_of_le (p58__0.ext E63_).lt (Nat.le_of_eq g66_.symm))))).other W132_ (Or.inl (Nat.ne_of_lt (Nat.lt_of_lt_of_le (p58__0.ext E63_).lt (Nat.le_of_eq g66_.symm))))).other W136_ (Or.inl (Nat.ne_of_lt (Nat.lt_of_lt_of_le (p58__0.ext E63_).lt (Nat.le_of_eq g66_.symm))))).other W140_ (Or.inl (Nat.ne_of_lt (Nat.lt_of_lt_of_le (p58__0.ext E63_).lt (Nat.le_of_eq g66_.symm))))).other W144_ (Or.inl (Nat.ne_of_lt (Nat.lt_of_lt_of_le (p58__0.ext E63_).lt (Nat.le_of_eq g66_.symm))))).other W148_ (Or.inl (Nat.ne_of_lt (Nat.lt_of_lt_of_le (p58__0.ext E63_).lt (Nat.le_of_eq g66_.symm))))).other W152_ (Or.inl (Nat.ne_of_lt (Nat.lt_of_lt_of_le (p58__0.ext E63_).lt (Nat.le_of_eq g66_.symm))))).other W156_ (Or.inl (Nat.ne_of_lt (Nat.lt_of_lt_of_le (p58__0.ext E63_).lt (Nat.le_of_eq g66_.symm))))).other W160_ (Or.inl (Nat.ne_of_lt (Nat.lt_of_lt_of_le (p58__0.ext E63_).lt (Nat.le_of_eq g66_.symm))))).other W164_ (Or.inl (Nat.ne_of_lt (Nat.lt_of_lt_of_le (p58__0.ext E63_).lt (Nat.le_of_eq g66_.symm))))).other W168_ (Or.inl (Nat.ne_of_lt (Nat.lt_of_lt_of_le (p58__0.ext E63_).lt (Nat.le_of_eq g66_.symm))))).other W172_ (Or.inl (Nat.ne_of_lt (Nat.lt_of_lt_of_le (p58__0.ext E63_).lt (Nat.le_of_eq g66_.symm))))).other W176_ (Or.inl (Nat.ne_of_lt (Nat.lt_of_lt_of_le (p58__0.ext E63_).lt (Nat.le_of_eq g66_.symm))))).other W180_ (Or.inl (Nat.ne_of_lt (Nat.lt_of_lt_of_le (p58__0.ext E63_).lt (Nat.le_of_eq g66_.symm))))).other W184_ (Or.inl (Nat.ne_of_lt (Nat.lt_of_lt_of_le (p58__0.ext E63_).lt (Nat.le_of_eq g66_.symm))))).other W188_ (Or.inl (Nat.ne_of_lt (Nat.lt_of_lt_of_le (p58__0.ext E63_).lt (Nat.le_of_eq g66_.symm))))).other W192_ (Or.inl (Nat.ne_of_lt (Nat.lt_of_lt_of_le (p58__0.ext E63_).lt (Nat.le_of_eq g66_.symm))))).other W196_ (Or.inl (Nat.ne_of_lt (Nat.lt_of_lt_of_le (p58__0.ext E63_).lt (Nat.le_of_eq g66_.symm))))).keep ek200_ (ninS (Nat.ne_of_lt (Nat.lt_of_lt_of_le p58__0.lt (Nat.le_of_eq g63_.symm))) nin0))
  have f246_ : Exa Z T200_.heap ea_58_ "com/example/hyacinth/hyacinth/error/BeanDefinitionStoreException" := (((((((((((((((((((((((((((((((((((p58__0.ext E63_).ext E66_).wr W69_).wr W76_).wr W80_).wr W84_).wr W88_).wr W92_).wr W96_).wr W100_).wr W104_).wr W108_).wr W112_).wr W116_).wr W120_).wr W124_).wr W128_).wr W132_).wr W136_).wr W140_).wr W144_).wr W148_).wr W152_).wr W156_).wr W160_).wr W164_).wr W168_).wr W172_).wr W176_).wr W180_).wr W184_).wr W188_).wr W192_).wr W196_).keep ek200_)
  obtain ⟨cq245_, kq245_, qa245_, qb245_, qc245_⟩ := isOf hZ58_ rfl f246_
  obtain ⟨_, _, ⟨T242_, L242_, k242_, n242_⟩, -, X242_, ⟨Lc242_, hQ242_, l242_, y242_, z242_⟩, st242_⟩ := X200_.virtualBackUp hx (owner := "java/lang/Throwable") (x := (⟨"com/example/hyacinth/hyacinth/error/BeanDefinitionStoreException", "getCause", "()Ljava/lang/Throwable;"⟩ : MethodName)) (y := (⟨"java/lang/Throwable", "getCause", "()Ljava/lang/Throwable;"⟩ : MethodName)) hown58_ (mvT hZ58_ (hw _ (List.mem_of_getElem? (i := 220) rfl))) (mvT hZ58_ (hw _ (List.mem_of_getElem? (i := 221) rfl))) (mvT hZ58_ (hw _ (List.mem_of_getElem? (i := 222) rfl))) (by decide) (mvT hZ58_ (hw _ (List.mem_of_getElem? (i := 224) rfl))) (mvT hZ58_ (hw _ (List.mem_of_getElem? (i := 223) rfl))) (own_gcB (W := 0) hZ58_ (hw _ (List.mem_of_getElem? (i := 225) rfl)) (hw _ (List.mem_of_getElem? (i := 223) rfl)) (hw _ (List.mem_of_getElem? (i := 181) rfl)) (hw _ (List.mem_of_getElem? (i := 184) rfl)) f243_ f244_ (by decide) (by decide)) qa245_ qc245_ (g := (mkF m 347 #[.val (.int p0), .val (.int p1), .val (.int p2), .val (.int ((p1 &&& (255 : Int32)).toUInt32.toUInt16.toUInt32.toInt32)), .val (.int ((((p1.toUInt32 >>> ((8 : Int32) &&& 31).toUInt32).toInt32) &&& (255 : Int32)).toUInt32.toUInt16.toUInt32.toInt32)), .val (.int ((p2 &&& (255 : Int32)).toUInt32.toUInt16.toUInt32.toInt32)), .val (.int ((((p2.toUInt32 >>> ((8 : Int32) &&& 31).toUInt32).toInt32) &&& (255 : Int32)).toUInt32.toUInt16.toUInt32.toInt32)), .val (.ref b1_), .val (.ref b29_), .val (.ref ea_58_), .val (.ref b63_)] [(.ref ea_58_)])) rfl (by rw [hml]; rfl) (Steps.refl _) (argsL := []) (rest := []) (lenOf pd_qzLjava_lang_Throwable rfl) rfl (by show 2 * 0 + _ ≤ _; exact Nat.le_of_eq rfl) (hb hby at_347) (fun _ _ => ⟨rfl, rfl, (by exact Nat.le_of_ble_eq_true rfl), (by exact Nat.le_of_ble_eq_true rfl)⟩)
  dsimp only [Pt.U, Pt.locs, Pt.cells, Pt.slots] at X242_ l242_ y242_ z242_ st242_ hQ242_
  subst L242_ k242_ n242_
  obtain ⟨rfl, rfl, ek242_⟩ := hQ242_
  have N242_ := Fr.app N200_ (Fr.nil n0)
  have f248_ : Fld Z T200_.heap ea_58_ "java/lang/Throwable" "detailMessage" "Ljava/lang/String;" (.ref xm_58_) := (((((((((((((((((((((((((((((((((((p58__2.ext E63_).ext E66_).other W69_ (Or.inl (Nat.ne_of_lt (Nat.lt_of_lt_of_le (p58__0.ext E63_).lt (Nat.le_of_eq g66_.symm))))).other W76_ (Or.inl (Nat.ne_of_lt (Nat.lt_of_lt_of_le (p58__0.ext E63_).lt (Nat.le_of_eq g66_.symm))))).other W80_ (Or.inl (Nat.ne_of_lt (Nat.lt_of_lt_of_le (p58__0.ext E63_).lt (Nat.le_of_eq g66_.symm))))).other W84_ (Or.inl (Nat.ne_of_lt (Nat.lt_of_lt_of_le (p58__0.ext E63_).lt (Nat.le_of_eq g66_.symm))))).other W88_ (Or.inl (Nat.ne_of_lt (Nat.lt_of_lt_of_le (p58__0.ext E63_).lt (Nat.le_of_eq g66_.symm))))).other W92_ (Or.inl (Nat.ne_of_lt (Nat.lt_of_lt_of_le (p58__0.ext E63_).lt (Nat.le_of_eq g66_.symm))))).other W96_ (Or.inl (Nat.ne_of_lt (Nat.lt_of_lt_of_le (p58__0.ext E63_).lt (Nat.le_of_eq g66_.symm))))).other W100_ (Or.inl (Nat.ne_of_lt (Nat.lt_of_lt_of_le (p58__0.ext E63_).lt (Nat.le_of_eq g66_.symm))))).other W104_ (Or.inl (Nat.ne_of_lt (Nat.lt_of_lt_of_le (p58__0.ext E63_).lt (Nat.le_of_eq g66_.symm))))).other W108_ (Or.inl (Nat.ne_of_lt (Nat.lt_of_lt_of_le (p58__0.ext E63_).lt (Nat.le_of_eq g66_.symm))))).other W112_ (Or.inl (Nat.ne_of_lt (Nat.lt_of_lt_of_le (p58__0.ext E63_).lt (Nat.le_of_eq g66_.symm))))).other W116_ (Or.inl (Nat.ne_of_lt (Nat.lt_of_lt_of_le (p58__0.ext E63_).lt (Nat.le_of_eq g66_.symm))))).other W120_ (Or.inl (Nat.ne_of_lt (Nat.lt_of_lt_of_le (p58__0.ext E63_).lt (Nat.le_of_eq g66_.symm))))).other W124_ (Or.inl (Nat.ne_of_lt (Nat.lt_of_lt_of_le (p58__0.ext E63_).lt (Nat.le_of_eq g66_.symm))))).other W128_ (Or.inl (Nat.ne_of_lt (Nat.lt_of_lt_of_le (p58__0.ext E63_).lt (Nat.le_of_eq g66_.symm))))).other W132_ (Or.inl (Nat.ne_of_lt (Nat.lt_of_lt_of_le (p58__0.ext E63_).lt (Nat.le_of_eq g66_.symm))))).other W136_ (Or.inl (Nat.ne_of_lt (Nat.lt_of_lt_of_le (p58__0.ext E63_).lt (Nat.le_of_eq g66_.symm))))).other W140_ (Or.inl (Nat.ne_of_lt (Nat.lt_of_lt_of_le (p58__0.ext E63_).lt (Nat.le_of_eq g66_.symm))))).other W144_ (Or.inl (Nat.ne_of_lt (Nat.lt_of_lt_of_le (p58__0.ext E63_).lt (Nat.le_of_eq g66_.symm))))).other W148_ (Or.inl (Nat.ne_of_lt (Nat.lt_of_lt_of_le (p58__0.ext E63_).lt (Nat.le_of_eq g66_.symm))))).other W152_ (Or.inl (Nat.ne_of_lt (Nat.lt_of_lt_of_le (p58__0.ext E63_).lt (Nat.le_of_eq g66_.symm))))).other W156_ (Or.inl (Nat.ne_of_lt (Nat.lt_of_lt_of_le (p58__0.ext E63_).lt (Nat.le_of_eq g66_.symm))))).other W160_ (Or.inl (Nat.ne_of_lt (Nat.lt_of_lt_of_le (p58__0.ext E63_).lt (Nat.le_of_eq g66_.symm))))).other W164_ (Or.inl (Nat.ne_of_lt (Nat.lt_of_lt_of_le (p58__0.ext E63_).lt (Nat.le_of_eq g66_.symm))))).other W168_ (Or.inl (Nat.ne_of_lt (Nat.lt_of_lt_of_le (p58__0.ext E63_).lt (Nat.le_of_eq g66_.symm))))).other W172_ (Or.inl (Nat.ne_of_lt (Nat.lt_of_lt_of_le (p58__0.ext E63_).lt (Nat.le_of_eq g66_.symm))))).other W176_ (Or.inl (Nat.ne_of_lt (Nat.lt_of_lt_of_le (p58__0.ext E63_).lt (Nat.le_of_eq g66_.symm))))).other W180_ (Or.inl (Nat.ne_of_lt (Nat.lt_of_lt_of_le (p58__0.ext E63_).lt (Nat.le_of_eq g66_.symm))))).other W184_ (Or.inl (Nat.ne_of_lt (Nat.lt_of_lt_of_le (p58__0.ext E63_).lt (Nat.le_of_eq g66_.symm))))).other W188_ (Or.inl (Nat.ne_of_lt (Nat.lt_of_lt_of_le (p58__0.ext E63_).lt (Nat.le_of_eq g66_.symm))))).other W192_ (Or.inl (Nat.ne_of_lt (Nat.lt_of_lt_of_le (p58__0.ext E63_).lt (Nat.le_of_eq g66_.symm))))).other W196_ (Or.inl (Nat.ne_of_lt (Nat.lt_of_lt_of_le (p58__0.ext E63_).lt (Nat.le_of_eq g66_.symm))))).keep ek200_ (ninS (Nat.ne_of_lt (Nat.lt_of_lt_of_le p58__0.lt (Nat.le_of_eq g63_.symm))) nin0))
  have z249_ : n0 ≤ T200_.heap.size := Nat.le_trans z234_ ek200_.1
  obtain ⟨cq250_, kq250_, qa250_, qb250_, qc250_⟩ := isOf hZ58_ ek242_ f246_
  obtain ⟨_, _, ⟨T247_, L247_, k247_, n247_⟩, -, X247_, ⟨Lc247_, hQ247_, l247_, y247_, z247_⟩, st247_⟩ := X242_.virtualBackUp hx (owner := "java/lang/Throwable") (x := (⟨"com/example/hyacinth/hyacinth/error/BeanDefinitionStoreException", "getMessage", "()Ljava/lang/String;"⟩ : MethodName)) (y := (⟨"java/lang/Throwable", "getMessage", "()Ljava/lang/String;"⟩ : MethodName)) hown58_ (mvT hZ58_ (hw _ (List.mem_of_getElem? (i := 227) rfl))) (mvT hZ58_ (hw _ (List.mem_of_getElem? (i := 228) rfl))) (mvT hZ58_ (hw _ (List.mem_of_getElem? (i := 229) rfl))) (by decide) (mvT hZ58_ (hw _ (List.mem_of_getElem? (i := 231) rfl))) (mvT hZ58_ (hw _ (List.mem_of_getElem? (i := 230) rfl))) (backOf (W := 1) (rmGM l Z a0 hw [] ea_58_ xm_58_ T200_.heap n0 z249_ f248_) hZ58_ (hw _ (List.mem_of_getElem? (i := 232) rfl)) (hw _ (List.mem_of_getElem? (i := 181) rfl)) (by decide) (by decide)) qa250_ qc250_ (g := (mkF m 357 #[.val (.int p0), .val (.int p1), .val (.int p2), .val (.int ((p1 &&& (255 : Int32)).toUInt32.toUInt16.toUInt32.toInt32)), .val (.int ((((p1.toUInt32 >>> ((8 : Int32) &&& 31).toUInt32).toInt32) &&& (255 : Int32)).toUInt32.toUInt16.toUInt32.toInt32)), .val (.int ((p2 &&& (255 : Int32)).toUInt32.toUInt16.toUInt32.toInt32)), .val (.int ((((p2.toUInt32 >>> ((8 : Int32) &&& 31).toUInt32).toInt32) &&& (255 : Int32)).toUInt32.toUInt16.toUInt32.toInt32)), .val (.ref b1_), .val (.ref b29_), .val (.ref ea_58_), .val (.ref b63_)] [(.ref ea_58_), (.ref b63_)])) rfl (by rw [hml]; rfl) (Steps.refl _) (argsL := []) (rest := [(.ref b63_)]) (lenOf pd_qzLjava_lang_String rfl) rfl (by show 2 * 0 + _ ≤ _; exact Nat.le_of_eq rfl) (hb hby at_357) (fun _ _ => ⟨rfl, ek242_, (by exact Nat.le_of_ble_eq_true rfl), (by exact Nat.le_of_ble_eq_true rfl)⟩)
  dsimp only [Pt.U, Pt.locs, Pt.cells, Pt.slots] at X247_ l247_ y247_ z247_ st247_ hQ247_
  subst L247_ k247_ n247_
  obtain ⟨rfl, Nq247_, ek247_⟩ := hQ247_
  have N247_ := Fr.app N242_ Nq247_
  have f252_ : own_Str Z T200_.heap xm_58_ tm_58_ ((((([] : List Int32) ++ ([(105 : Int32), (110 : Int32), (118 : Int32), (97 : Int32), (108 : Int32), (105 : Int32), (100 : Int32), (32 : Int32), (98 : Int32), (101 : Int32), (97 : Int32), (110 : Int32), (32 : Int32), (100 : Int32), (101 : Int32), (102 : Int32), (105 : Int32), (110 : Int32), (105 : Int32), (116 : Int32), (105 : Int32), (111 : Int32), (110 : Int32), (32 : Int32), (39 : Int32)] : List Int32)) ++ ([(nar .char ((p1 &&& (255 : Int32)).toUInt32.toUInt16.toUInt32.toInt32)), (nar .char ((((p1.toUInt32 >>> ((8 : Int32) &&& 31).toUInt32).toInt32) &&& (255 : Int32)).toUInt32.toUInt16.toUInt32.toInt32))] : List Int32)) ++ ([(39 : Int32), (58 : Int32), (32 : Int32)] : List Int32)) ++ ([(nar .char ((p2 &&& (255 : Int32)).toUInt32.toUInt16.toUInt32.toInt32)), (nar .char ((((p2.toUInt32 >>> ((8 : Int32) &&& 31).toUInt32).toInt32) &&& (255 : Int32)).toUInt32.toUInt16.toUInt32.toInt32))] : List Int32)) := (((((((((((((((((((((((((((((((((((p58__4.ext E63_).ext E66_).other W69_ (Nat.ne_of_lt (Nat.lt_of_lt_of_le (own_Str.lt (p58__4.ext E63_)) (Nat.le_of_eq g66_.symm))) (Nat.ne_of_lt (Nat.lt_of_lt_of_le (own_Str.lt2 (p58__4.ext E63_)) (Nat.le_of_eq g66_.symm)))).other W76_ (Nat.ne_of_lt (Nat.lt_of_lt_of_le (own_Str.lt (p58__4.ext E63_)) (Nat.le_of_eq g66_.symm))) (Nat.ne_of_lt (Nat.lt_of_lt_of_le (own_Str.lt2 (p58__4.ext E63_)) (Nat.le_of_eq g66_.symm)))).other W80_ (Nat.ne_of_lt (Nat.lt_of_lt_of_le (own_Str.lt (p58__4.ext E63_)) (Nat.le_of_eq g66_.symm))) (Nat.ne_of_lt (Nat.lt_of_lt_of_le (own_Str.lt2 (p58__4.ext E63_)) (Nat.le_of_eq g66_.symm)))).other W84_ (Nat.ne_of_lt (Nat.lt_of_lt_of_le (own_Str.lt (p58__4.ext E63_)) (Nat.le_of_eq g66_.symm))) (Nat.ne_of_lt (Nat.lt_of_lt_of_le (own_Str.lt2 (p58__4.ext E63_)) (Nat.le_of_eq g66_.symm)))).other W88_ (Nat.ne_of_lt (Nat.lt_of_lt_of_le (own_Str.lt (p58__4.ext E63_)) (Nat.le_of_eq g66_.symm))) (Nat.ne_of_lt (Nat.lt_of_lt_of_le (own_Str.lt2 (p58__4.ext E63_)) (Nat.le_of_eq g66_.symm)))).other W92_ (Nat.ne_of_lt (Nat.lt_of_lt_of_le (own_Str.lt (p58__4.ext E63_)) (Nat.le_of_eq g66_.symm))) (Nat.ne_of_lt (Nat.lt_of_lt_of_le (own_Str.lt2 (p58__4.ext E63_)) (Nat.le_of_eq g66_.symm)))).other W96_ (Nat.ne_of_lt (Nat.lt_of_lt_of_le (own_Str.lt (p58__4.ext E63_)) (Nat.le_of_eq g66_.symm))) (Nat.ne_of_lt (Nat.lt_of_lt_of_le (own_Str.lt2 (p58__4.ext E63_)) (Nat.le_of_eq g66_.symm)))).other W100_ (Nat.ne_of_lt (Nat.lt_of_lt_of_le (own_Str.lt (p58__4.ext E63_)) (Nat.le_of_eq g66_.symm))) (Nat.ne_of_lt (Nat.lt_of_lt_of_le (own_Str.lt2 (p58__4.ext E63_)) (Nat.le_of_eq g66_.symm)))).other W104_ (Nat.ne_of_lt (Nat.lt_of_lt_of_le (own_Str.lt (p58__4.ext E63_)) (Nat.le_of_eq g66_.symm))) (Nat.ne_of_lt (Nat.lt_of_lt_of_le (own_Str.lt2 (p58__4.ext E63_)) (Nat.le_of_eq g66_.symm)))).other W108_ (Nat.ne_of_lt (Nat.lt_of_lt_of_le (own_Str.lt (p58__4.ext E63_)) (Nat.le_of_eq g66_.symm))) (Nat.ne_of_lt (Nat.lt_of_lt_of_le (own_Str.lt2 (p58__4.ext E63_)) (Nat.le_of_eq g66_.symm)))).other W112_ (Nat.ne_of_lt (Nat.lt_of_lt_of_le (own_Str.lt (p58__4.ext E63_)) (Nat.le_of_eq g66_.symm))) (Nat.ne_of_lt (Nat.lt_of_lt_of_le (own_Str.lt2 (p58__4.ext E63_)) (Nat.le_of_eq g66_.symm)))).other W116_ (Nat.ne_of_lt (Nat.lt_of_lt_of_le (own_Str.lt (p58__4.ext E63_)) (Nat.le_of_eq g66_.symm))) (Nat.ne_of_lt (Nat.lt_of_lt_of_le (own_Str.lt2 (p58__4.ext E63_)) (Nat.le_of_eq g66_.symm)))).other W120_ (Nat.ne_of_lt (Nat.lt_of_lt_of_le (own_Str.lt (p58__4.ext E63_)) (Nat.le_of_eq g66_.symm))) (Nat.ne_of_lt (Nat.lt_of_lt_of_le (own_Str.lt2 (p58__4.ext E63_)) (Nat.le_of_eq g66_.symm)))).other W124_ (Nat.ne_of_lt (Nat.lt_of_lt_of_le (own_Str.lt (p58__4.ext E63_)) (Nat.le_of_eq g66_.symm))) (Nat.ne_of_lt (Nat.lt_of_lt_of_le (own_Str.lt2 (p58__4.ext E63_)) (Nat.le_of_eq g66_.symm)))).other W128_ (Nat.ne_of_lt (Nat.lt_of_lt_of_le (own_Str.lt (p58__4.ext E63_)) (Nat.le_of_eq g66_.symm))) (Nat.ne_of_lt (Nat.lt_of_lt_of_le (own_Str.lt2 (p58__4.ext E63_)) (Nat.le_of_eq g66_.symm)))).other W132_ (Nat.ne_of_lt (Nat.lt_of_lt_of_le (own_Str.lt (p58__4.ext E63_)) (Nat.le_of_eq g66_.symm))) (Nat.ne_of_lt (Nat.lt_of_lt_of_le (own_Str.lt2 (p58__4.ext E63_)) (Nat.le_of_eq g66_.symm)))).other W136_ (Nat.ne_of_lt (Nat.lt_of_lt_of_le (own_Str.lt (p58__4.ext E63_)) (Nat.le_of_eq g66_.symm))) (Nat.ne_of_lt (Nat.lt_of_lt_of_le (own_Str.lt2 (p58__4.ext E63_)) (Nat.le_of_eq g66_.symm)))).other W140_ (Nat.ne_of_lt (Nat.lt_of_lt_of_le (own_Str.lt (p58__4.ext E63_)) (Nat.le_of_eq g66_.symm))) (Nat.ne_of_lt (Nat.lt_of_lt_of_le (own_Str.lt2 (p58__4.ext E63_)) (Nat.le_of_eq g66_.symm)))).other W144_ (Nat.ne_of_lt (Nat.lt_of_lt_of_le (own_Str.lt (p58__4.ext E63_)) (Nat.le_of_eq g66_.symm))) (Nat.ne_of_lt (Nat.lt_of_lt_of_le (own_Str.lt2 (p58__4.ext E63_)) (Nat.le_of_eq g66_.symm)))).other W148_ (Nat.ne_of_lt (Nat.lt_of_lt_of_le (own_Str.lt (p58__4.ext E63_)) (Nat.le_of_eq g66_.symm))) (Nat.ne_of_lt (Nat.lt_of_lt_of_le (own_Str.lt2 (p58__4.ext E63_)) (Nat.le_of_eq g66_.symm)))).other W152_ (Nat.ne_of_lt (Nat.lt_of_lt_of_le (own_Str.lt (p58__4.ext E63_)) (Nat.le_of_eq g66_.symm))) (Nat.ne_of_lt (Nat.lt_of_lt_of_le (own_Str.lt2 (p58__4.ext E63_)) (Nat.le_of_eq g66_.symm)))).other W156_ (Nat.ne_of_lt (Nat.lt_of_lt_of_le (own_Str.lt (p58__4.ext E63_)) (Nat.le_of_eq g66_.symm))) (Nat.ne_of_lt (Nat.lt_of_lt_of_le (own_Str.lt2 (p58__4.ext E63_)) (Nat.le_of_eq g66_.symm)))).other W160_ (Nat.ne_of_lt (Nat.lt_of_lt_of_le (own_Str.lt (p58__4.ext E63_)) (Nat.le_of_eq g66_.symm))) (Nat.ne_of_lt (Nat.lt_of_lt_of_le (own_Str.lt2 (p58__4.ext E63_)) (Nat.le_of_eq g66_.symm)))).other W164_ (Nat.ne_of_lt (Nat.lt_of_lt_of_le (own_Str.lt (p58__4.ext E63_)) (Nat.le_of_eq g66_.symm))) (Nat.ne_of_lt (Nat.lt_of_lt_of_le (own_Str.lt2 (p58__4.ext E63_)) (Nat.le_of_eq g66_.symm)))).other W168_ (Nat.ne_of_lt (Nat.lt_of_lt_of_le (own_Str.lt (p58__4.ext E63_)) (Nat.le_of_eq g66_.symm))) (Nat.ne_of_lt (Nat.lt_of_lt_of_le (own_Str.lt2 (p58__4.ext E63_)) (Nat.le_of_eq g66_.symm)))).other W172_ (Nat.ne_of_lt (Nat.lt_of_lt_of_le (own_Str.lt (p58__4.ext E63_)) (Nat.le_of_eq g66_.symm))) (Nat.ne_of_lt (Nat.lt_of_lt_of_le (own_Str.lt2 (p58__4.ext E63_)) (Nat.le_of_eq g66_.symm)))).other W176_ (Nat.ne_of_lt (Nat.lt_of_lt_of_le (own_Str.lt (p58__4.ext E63_)) (Nat.le_of_eq g66_.symm))) (Nat.ne_of_lt (Nat.lt_of_lt_of_le (own_Str.lt2 (p58__4.ext E63_)) (Nat.le_of_eq g66_.symm)))).other W180_ (Nat.ne_of_lt (Nat.lt_of_lt_of_le (own_Str.lt (p58__4.ext E63_)) (Nat.le_of_eq g66_.symm))) (Nat.ne_of_lt (Nat.lt_of_lt_of_le (own_Str.lt2 (p58__4.ext E63_)) (Nat.le_of_eq g66_.symm)))).other W184_ (Nat.ne_of_lt (Nat.lt_of_lt_of_le (own_Str.lt (p58__4.ext E63_)) (Nat.le_of_eq g66_.symm))) (Nat.ne_of_lt (Nat.lt_of_lt_of_le (own_Str.lt2 (p58__4.ext E63_)) (Nat.le_of_eq g66_.symm)))).other W188_ (Nat.ne_of_lt (Nat.lt_of_lt_of_le (own_Str.lt (p58__4.ext E63_)) (Nat.le_of_eq g66_.symm))) (Nat.ne_of_lt (Nat.lt_of_lt_of_le (own_Str.lt2 (p58__4.ext E63_)) (Nat.le_of_eq g66_.symm)))).other W192_ (Nat.ne_of_lt (Nat.lt_of_lt_of_le (own_Str.lt (p58__4.ext E63_)) (Nat.le_of_eq g66_.symm))) (Nat.ne_of_lt (Nat.lt_of_lt_of_le (own_Str.lt2 (p58__4.ext E63_)) (Nat.le_of_eq g66_.symm)))).other W196_ (Nat.ne_of_lt (Nat.lt_of_lt_of_le (own_Str.lt (p58__4.ext E63_)) (Nat.le_of_eq g66_.symm))) (Nat.ne_of_lt (Nat.lt_of_lt_of_le (own_Str.lt2 (p58__4.ext E63_)) (Nat.le_of_eq g66_.symm)))).keep ek200_ (ninS (Nat.ne_of_lt (Nat.lt_of_lt_of_le (own_Str.lt p58__4) (Nat.le_of_eq g63_.symm))) nin0) (ninS (Nat.ne_of_lt (Nat.lt_of_lt_of_le (own_Str.lt2 p58__4) (Nat.le_of_eq g63_.symm))) nin0))
  have eq251_ : ((((([] : List Int32) ++ ([(105 : Int32), (110 : Int32), (118 : Int32), (97 : Int32), (108 : Int32), (105 : Int32), (100 : Int32), (32 : Int32), (98 : Int32), (101 : Int32), (97 : Int32), (110 : Int32), (32 : Int32), (100 : Int32), (101 : Int32), (102 : Int32), (105 : Int32), (110 : Int32), (105 : Int32), (116 : Int32), (105 : Int32), (111 : Int32), (110 : Int32), (32 : Int32), (39 : Int32)] : List Int32)) ++ ([(nar .char ((p1 &&& (255 : Int32)).toUInt32.toUInt16.toUInt32.toInt32)), (nar .char ((((p1.toUInt32 >>> ((8 : Int32) &&& 31).toUInt32).toInt32) &&& (255 : Int32)).toUInt32.toUInt16.toUInt32.toInt32))] : List Int32)) ++ ([(39 : Int32), (58 : Int32), (32 : Int32)] : List Int32)) ++ ([(nar .char ((p2 &&& (255 : Int32)).toUInt32.toUInt16.toUInt32.toInt32)), (nar .char ((((p2.toUInt32 >>> ((8 : Int32) &&& 31).toUInt32).toInt32) &&& (255 : Int32)).toUInt32.toUInt16.toUInt32.toInt32))] : List Int32)) = ([(nar .char (105 : Int32)), (nar .char (110 : Int32)), (nar .char (118 : Int32)), (nar .char (97 : Int32)), (nar .char (108 : Int32)), (nar .char (105 : Int32)), (nar .char (100 : Int32)), (nar .char (32 : Int32)), (nar .char (98 : Int32)), (nar .char (101 : Int32)), (nar .char (97 : Int32)), (nar .char (110 : Int32)), (nar .char (32 : Int32)), (nar .char (100 : Int32)), (nar .char (101 : Int32)), (nar .char (102 : Int32)), (nar .char (105 : Int32)), (nar .char (110 : Int32)), (nar .char (105 : Int32)), (nar .char (116 : Int32)), (nar .char (105 : Int32)), (nar .char (111 : Int32)), (nar .char (110 : Int32)), (nar .char (32 : Int32)), (nar .char (39 : Int32)), (nar .char ((p1 &&& (255 : Int32)).toUInt32.toUInt16.toUInt32.toInt32)), (nar .char ((((p1.toUInt32 >>> ((8 : Int32) &&& 31).toUInt32).toInt32) &&& (255 : Int32)).toUInt32.toUInt16.toUInt32.toInt32)), (nar .char (39 : Int32)), (nar .char (58 : Int32)), (nar .char (32 : Int32)), (nar .char ((p2 &&& (255 : Int32)).toUInt32.toUInt16.toUInt32.toInt32)), (nar .char ((((p2.toUInt32 >>> ((8 : Int32) &&& 31).toUInt32).toInt32) &&& (255 : Int32)).toUInt32.toUInt16.toUInt32.toInt32))] : List Int32) := by
    rw [show nar .char (32 : Int32) = (32 : Int32) from rfl, show nar .char (39 : Int32) = (39 : Int32) from rfl, show nar .char (58 : Int32) = (58 : Int32) from rfl, show nar .char (97 : Int32) = (97 : Int32) from rfl, show nar .char (98 : Int32) = (98 : Int32) from rfl, show nar .char (100 : Int32) = (100 : Int32) from rfl, show nar .char (101 : Int32) = (101 : Int32) from rfl, show nar .char (102 : Int32) = (102 : Int32) from rfl, show nar .char (105 : Int32) = (105 : Int32) from rfl, show nar .char (108 : Int32) = (108 : Int32) from rfl, show nar .char (110 : Int32) = (110 : Int32) from rfl, show nar .char (111 : Int32) = (111 : Int32) from rfl, show nar .char (116 : Int32) = (116 : Int32) from rfl, show nar .char (118 : Int32) = (118 : Int32) from rfl]
    rfl
  have sm251_ : own_Str Z T200_.heap xm_58_ tm_58_ ([(nar .char (105 : Int32)), (nar .char (110 : Int32)), (nar .char (118 : Int32)), (nar .char (97 : Int32)), (nar .char (108 : Int32)), (nar .char (105 : Int32)), (nar .char (100 : Int32)), (nar .char (32 : Int32)), (nar .char (98 : Int32)), (nar .char (101 : Int32)), (nar .char (97 : Int32)), (nar .char (110 : Int32)), (nar .char (32 : Int32)), (nar .char (100 : Int32)), (nar .char (101 : Int32)), (nar .char (102 : Int32)), (nar .char (105 : Int32)), (nar .char (110 : Int32)), (nar .char (105 : Int32)), (nar .char (116 : Int32)), (nar .char (105 : Int32)), (nar .char (111 : Int32)), (nar .char (110 : Int32)), (nar .char (32 : Int32)), (nar .char (39 : Int32)), (nar .char ((p1 &&& (255 : Int32)).toUInt32.toUInt16.toUInt32.toInt32)), (nar .char ((((p1.toUInt32 >>> ((8 : Int32) &&& 31).toUInt32).toInt32) &&& (255 : Int32)).toUInt32.toUInt16.toUInt32.toInt32)), (nar .char (39 : Int32)), (nar .char (58 : Int32)), (nar .char (32 : Int32)), (nar .char ((p2 &&& (255 : Int32)).toUInt32.toUInt16.toUInt32.toInt32)), (nar .char ((((p2.toUInt32 >>> ((8 : Int32) &&& 31).toUInt32).toInt32) &&& (255 : Int32)).toUInt32.toUInt16.toUInt32.toInt32))] : List Int32) := by
    rw [← eq251_]; exact f252_
  have f254_ : Old Z n0 T200_.heap := (f238_.keep ek200_ (allS g201_ all0))
  have f256_ : Exa Z T200_.heap b63_ "java/lang/String" := (f235_.keep ek200_)
  obtain ⟨cq255_, kq255_, qa255_, qb255_, qc255_⟩ := isOf hZ58_ ek247_ f256_
  obtain ⟨_, _, ⟨T253_, L253_, k253_, n253_⟩, -, X253_, ⟨Lc253_, hQ253_, l253_, y253_, z253_⟩, st253_⟩ := X247_.virtualBack hx (y := (⟨"java/lang/String", "equals", "(Ljava/lang/Object;)Z"⟩ : MethodName)) (z := (⟨"java/lang/String", "equals", "(Ljava/lang/Object;)Z"⟩ : MethodName)) hown58_ (mvT hZ58_ (hw _ (List.mem_of_getElem? (i := 233) rfl))) (mvT hZ58_ (hw _ (List.mem_of_getElem? (i := 234) rfl))) (notFace_of_selects (args := #[]) (mvT hZ58_ (hw _ (List.mem_of_getElem? (i := 236) rfl)))) (mvT hZ58_ (hw _ (List.mem_of_getElem? (i := 236) rfl))) (mvT hZ58_ (hw _ (List.mem_of_getElem? (i := 235) rfl))) (by decide) (own_eqB (W := 0) hZ58_ hw str200_ sm251_ T1 P5 f254_ (by decide) (by decide)) qa255_ qc255_ (g := (mkF m 360 #[.val (.int p0), .val (.int p1), .val (.int p2), .val (.int ((p1 &&& (255 : Int32)).toUInt32.toUInt16.toUInt32.toInt32)), .val (.int ((((p1.toUInt32 >>> ((8 : Int32) &&& 31).toUInt32).toInt32) &&& (255 : Int32)).toUInt32.toUInt16.toUInt32.toInt32)), .val (.int ((p2 &&& (255 : Int32)).toUInt32.toUInt16.toUInt32.toInt32)), .val (.int ((((p2.toUInt32 >>> ((8 : Int32) &&& 31).toUInt32).toInt32) &&& (255 : Int32)).toUInt32.toUInt16.toUInt32.toInt32)), .val (.ref b1_), .val (.ref b29_), .val (.ref ea_58_), .val (.ref b63_)] [(.ref xm_58_), (.ref b63_)])) rfl (by rw [hml]; rfl) (Steps.refl _) (argsL := [(.ref xm_58_)]) (rest := []) (lenOf pd_qLjava_lang_ObjectzZ rfl) rfl (by show 2 * 0 + _ ≤ _; exact Nat.le_of_eq rfl) (hb hby at_360) (fun _ _ => ⟨rfl, ek247_, (by exact Nat.le_of_ble_eq_true rfl), (by exact Nat.le_of_ble_eq_true rfl)⟩)
  dsimp only [Pt.U, Pt.locs, Pt.cells, Pt.slots] at X253_ l253_ y253_ z253_ st253_ hQ253_
  subst L253_ k253_ n253_
  obtain ⟨rfl, rfl, ek253_⟩ := hQ253_
  have N253_ := Fr.app N247_ (Fr.nil n0)
  obtain ⟨fs, hr, hrun, hended, hREW⟩ := X253_.leaveW hS58_ (Nat.le_trans (Nat.le_trans (Nat.le_trans (Nat.le_trans (Nat.le_trans (Nat.le_trans (Nat.le_trans (Nat.le_trans (Nat.le_trans (Nat.le_trans (Nat.le_trans (Nat.le_trans (Nat.le_trans (Nat.le_trans (Nat.le_trans (Nat.le_trans (Nat.le_trans (Nat.le_trans (Nat.le_trans (Nat.le_trans (Nat.le_trans (Nat.le_trans (Nat.le_trans (Nat.le_trans (Nat.le_trans (Nat.le_trans (Nat.le_trans (Nat.le_trans (Nat.le_trans (Nat.le_trans (Nat.le_trans (Nat.le_trans (Nat.le_trans (Nat.le_trans (Nat.le_trans (Nat.le_trans (Nat.le_refl _) E63_.1) E66_.1) (Keep.of_wr W69_).1) (Keep.of_wr W76_).1) (Keep.of_wr W80_).1) (Keep.of_wr W84_).1) (Keep.of_wr W88_).1) (Keep.of_wr W92_).1) (Keep.of_wr W96_).1) (Keep.of_wr W100_).1) (Keep.of_wr W104_).1) (Keep.of_wr W108_).1) (Keep.of_wr W112_).1) (Keep.of_wr W116_).1) (Keep.of_wr W120_).1) (Keep.of_wr W124_).1) (Keep.of_wr W128_).1) (Keep.of_wr W132_).1) (Keep.of_wr W136_).1) (Keep.of_wr W140_).1) (Keep.of_wr W144_).1) (Keep.of_wr W148_).1) (Keep.of_wr W152_).1) (Keep.of_wr W156_).1) (Keep.of_wr W160_).1) (Keep.of_wr W164_).1) (Keep.of_wr W168_).1) (Keep.of_wr W172_).1) (Keep.of_wr W176_).1) (Keep.of_wr W180_).1) (Keep.of_wr W184_).1) (Keep.of_wr W188_).1) (Keep.of_wr W192_).1) (Keep.of_wr W196_).1) ek200_.1) (Nat.le_of_eq (congrArg Array.size ek253_.symm))) (v := some (.int (1 : Int32))) (fun h => by first | rfl | (rw [Bd.returns] at h; cases h))
  refine ⟨_, _, pre0 _ ?_, hrun, hended, _, _, rfl, ?_, ?_, own_REW hREW (by exact Nat.le_of_ble_eq_true rfl) (by exact Nat.le_of_ble_eq_true rfl)⟩
  · show Steps p.tables e below (s₁.setTop (mkF m 0 #[.val (.int p0), .val (.int p1), .val (.int p2), .unset, .unset, .unset, .unset, .unset, .unset, .unset, .unset] [])) _
    refine XS.iloadN X0.here hx rfl (hb hby at_0) rfl ?_
    refine XS.sipush X0.here hx rfl (hb hby at_1) ?_
    refine XS.iand X0.here hx rfl (hb hby at_4) rfl ?_
    show Steps p.tables e below (s₁.setTop (mkF m 5 #[.val (.int p0), .val (.int p1), .val (.int p2), .unset, .unset, .unset, .unset, .unset, .unset, .unset, .unset] [(.int (p1 &&& (255 : Int32)))])) _
    refine XS.i2c X0.here hx rfl (hb hby at_5) rfl ?_
    show Steps p.tables e below (s₁.setTop (mkF m 6 #[.val (.int p0), .val (.int p1), .val (.int p2), .unset, .unset, .unset, .unset, .unset, .unset, .unset, .unset] [(.int ((p1 &&& (255 : Int32)).toUInt32.toUInt16.toUInt32.toInt32))])) _
    refine XS.istoreN X0.here hx rfl (hb hby at_6) rfl (l' := #[.val (.int p0), .val (.int p1), .val (.int p2), .val (.int ((p1 &&& (255 : Int32)).toUInt32.toUInt16.toUInt32.toInt32)), .unset, .unset, .unset, .unset, .unset, .unset, .unset]) rfl ?_
    show Steps p.tables e below (s₁.setTop (mkF m 7 #[.val (.int p0), .val (.int p1), .val (.int p2), .val (.int ((p1 &&& (255 : Int32)).toUInt32.toUInt16.toUInt32.toInt32)), .unset, .unset, .unset, .unset, .unset, .unset, .unset] [])) _
    refine XS.iloadN X0.here hx rfl (hb hby at_7) rfl ?_
    refine XS.bipush X0.here hx rfl (hb hby at_8) ?_
    refine XS.iushr X0.here hx rfl (hb hby at_10) rfl ?_
    show Steps p.tables e below (s₁.setTop (mkF m 11 #[.val (.int p0), .val (.int p1), .val (.int p2), .val (.int ((p1 &&& (255 : Int32)).toUInt32.toUInt16.toUInt32.toInt32)), .unset, .unset, .unset, .unset, .unset, .unset, .unset] [(.int ((p1.toUInt32 >>> ((8 : Int32) &&& 31).toUInt32).toInt32))])) _
    refine XS.sipush X0.here hx rfl (hb hby at_11) ?_
    refine XS.iand X0.here hx rfl (hb hby at_14) rfl ?_
    show Steps p.tables e below (s₁.setTop (mkF m 15 #[.val (.int p0), .val (.int p1), .val (.int p2), .val (.int ((p1 &&& (255 : Int32)).toUInt32.toUInt16.toUInt32.toInt32)), .unset, .unset, .unset, .unset, .unset, .unset, .unset] [(.int (((p1.toUInt32 >>> ((8 : Int32) &&& 31).toUInt32).toInt32) &&& (255 : Int32)))])) _
    refine XS.i2c X0.here hx rfl (hb hby at_15) rfl ?_
    show Steps p.tables e below (s₁.setTop (mkF m 16 #[.val (.int p0), .val (.int p1), .val (.int p2), .val (.int ((p1 &&& (255 : Int32)).toUInt32.toUInt16.toUInt32.toInt32)), .unset, .unset, .unset, .unset, .unset, .unset, .unset] [(.int ((((p1.toUInt32 >>> ((8 : Int32) &&& 31).toUInt32).toInt32) &&& (255 : Int32)).toUInt32.toUInt16.toUInt32.toInt32))])) _
    refine XS.istore X0.here hx rfl (hb hby at_16) rfl (l' := #[.val (.int p0), .val (.int p1), .val (.int p2), .val (.int ((p1 &&& (255 : Int32)).toUInt32.toUInt16.toUInt32.toInt32)), .val (.int ((((p1.toUInt32 >>> ((8 : Int32) &&& 31).toUInt32).toInt32) &&& (255 : Int32)).toUInt32.toUInt16.toUInt32.toInt32)), .unset, .unset, .unset, .unset, .unset, .unset]) rfl ?_
    show Steps p.tables e below (s₁.setTop (mkF m 18 #[.val (.int p0), .val (.int p1), .val (.int p2), .val (.int ((p1 &&& (255 : Int32)).toUInt32.toUInt16.toUInt32.toInt32)), .val (.int ((((p1.toUInt32 >>> ((8 : Int32) &&& 31).toUInt32).toInt32) &&& (255 : Int32)).toUInt32.toUInt16.toUInt32.toInt32)), .unset, .unset, .unset, .unset, .unset, .unset] [])) _
    refine XS.iloadN X0.here hx rfl (hb hby at_18) rfl ?_
    refine XS.sipush X0.here hx rfl (hb hby at_19) ?_
    refine XS.iand X0.here hx rfl (hb hby at_22) rfl ?_
    show Steps p.tables e below (s₁.setTop (mkF m 23 #[.val (.int p0), .val (.int p1), .val (.int p2), .val (.int ((p1 &&& (255 : Int32)).toUInt32.toUInt16.toUInt32.toInt32)), .val (.int ((((p1.toUInt32 >>> ((8 : Int32) &&& 31).toUInt32).toInt32) &&& (255 : Int32)).toUInt32.toUInt16.toUInt32.toInt32)), .unset, .unset, .unset, .unset, .unset, .unset] [(.int (p2 &&& (255 : Int32)))])) _
    refine XS.i2c X0.here hx rfl (hb hby at_23) rfl ?_
    show Steps p.tables e below (s₁.setTop (mkF m 24 #[.val (.int p0), .val (.int p1), .val (.int p2), .val (.int ((p1 &&& (255 : Int32)).toUInt32.toUInt16.toUInt32.toInt32)), .val (.int ((((p1.toUInt32 >>> ((8 : Int32) &&& 31).toUInt32).toInt32) &&& (255 : Int32)).toUInt32.toUInt16.toUInt32.toInt32)), .unset, .unset, .unset, .unset, .unset, .unset] [(.int ((p2 &&& (255 : Int32)).toUInt32.toUInt16.toUInt32.toInt32))])) _
    refine XS.istore X0.here hx rfl (hb hby at_24) rfl (l' := #[.val (.int p0), .val (.int p1), .val (.int p2), .val (.int ((p1 &&& (255 : Int32)).toUInt32.toUInt16.toUInt32.toInt32)), .val (.int ((((p1.toUInt32 >>> ((8 : Int32) &&& 31).toUInt32).toInt32) &&& (255 : Int32)).toUInt32.toUInt16.toUInt32.toInt32)), .val (.int ((p2 &&& (255 : Int32)).toUInt32.toUInt16.toUInt32.toInt32)), .unset, .unset, .unset, .unset, .unset]) rfl ?_
    show Steps p.tables e below (s₁.setTop (mkF m 26 #[.val (.int p0), .val (.int p1), .val (.int p2), .val (.int ((p1 &&& (255 : Int32)).toUInt32.toUInt16.toUInt32.toInt32)), .val (.int ((((p1.toUInt32 >>> ((8 : Int32) &&& 31).toUInt32).toInt32) &&& (255 : Int32)).toUInt32.toUInt16.toUInt32.toInt32)), .val (.int ((p2 &&& (255 : Int32)).toUInt32.toUInt16.toUInt32.toInt32)), .unset, .unset, .unset, .unset, .unset] [])) _
    refine XS.iloadN X0.here hx rfl (hb hby at_26) rfl ?_
    refine XS.bipush X0.here hx rfl (hb hby at_27) ?_
    refine XS.iushr X0.here hx rfl (hb hby at_29) rfl ?_
    show Steps p.tables e below (s₁.setTop (mkF m 30 #[.val (.int p0), .val (.int p1), .val (.int p2), .val (.int ((p1 &&& (255 : Int32)).toUInt32.toUInt16.toUInt32.toInt32)), .val (.int ((((p1.toUInt32 >>> ((8 : Int32) &&& 31).toUInt32).toInt32) &&& (255 : Int32)).toUInt32.toUInt16.toUInt32.toInt32)), .val (.int ((p2 &&& (255 : Int32)).toUInt32.toUInt16.toUInt32.toInt32)), .unset, .unset, .unset, .unset, .unset] [(.int ((p2.toUInt32 >>> ((8 : Int32) &&& 31).toUInt32).toInt32))])) _
    refine XS.sipush X0.here hx rfl (hb hby at_30) ?_
    refine XS.iand X0.here hx rfl (hb hby at_33) rfl ?_
    show Steps p.tables e below (s₁.setTop (mkF m 34 #[.val (.int p0), .val (.int p1), .val (.int p2), .val (.int ((p1 &&& (255 : Int32)).toUInt32.toUInt16.toUInt32.toInt32)), .val (.int ((((p1.toUInt32 >>> ((8 : Int32) &&& 31).toUInt32).toInt32) &&& (255 : Int32)).toUInt32.toUInt16.toUInt32.toInt32)), .val (.int ((p2 &&& (255 : Int32)).toUInt32.toUInt16.toUInt32.toInt32)), .unset, .unset, .unset, .unset, .unset] [(.int (((p2.toUInt32 >>> ((8 : Int32) &&& 31).toUInt32).toInt32) &&& (255 : Int32)))])) _
    refine XS.i2c X0.here hx rfl (hb hby at_34) rfl ?_
    show Steps p.tables e below (s₁.setTop (mkF m 35 #[.val (.int p0), .val (.int p1), .val (.int p2), .val (.int ((p1 &&& (255 : Int32)).toUInt32.toUInt16.toUInt32.toInt32)), .val (.int ((((p1.toUInt32 >>> ((8 : Int32) &&& 31).toUInt32).toInt32) &&& (255 : Int32)).toUInt32.toUInt16.toUInt32.toInt32)), .val (.int ((p2 &&& (255 : Int32)).toUInt32.toUInt16.toUInt32.toInt32)), .unset, .unset, .unset, .unset, .unset] [(.int ((((p2.toUInt32 >>> ((8 : Int32) &&& 31).toUInt32).toInt32) &&& (255 : Int32)).toUInt32.toUInt16.toUInt32.toInt32))])) _
    refine XS.istore X0.here hx rfl (hb hby at_35) rfl (l' := #[.val (.int p0), .val (.int p1), .val (.int p2), .val (.int ((p1 &&& (255 : Int32)).toUInt32.toUInt16.toUInt32.toInt32)), .val (.int ((((p1.toUInt32 >>> ((8 : Int32) &&& 31).toUInt32).toInt32) &&& (255 : Int32)).toUInt32.toUInt16.toUInt32.toInt32)), .val (.int ((p2 &&& (255 : Int32)).toUInt32.toUInt16.toUInt32.toInt32)), .val (.int ((((p2.toUInt32 >>> ((8 : Int32) &&& 31).toUInt32).toInt32) &&& (255 : Int32)).toUInt32.toUInt16.toUInt32.toInt32)), .unset, .unset, .unset, .unset]) rfl ?_
    show Steps p.tables e below (s₁.setTop (mkF m 37 #[.val (.int p0), .val (.int p1), .val (.int p2), .val (.int ((p1 &&& (255 : Int32)).toUInt32.toUInt16.toUInt32.toInt32)), .val (.int ((((p1.toUInt32 >>> ((8 : Int32) &&& 31).toUInt32).toInt32) &&& (255 : Int32)).toUInt32.toUInt16.toUInt32.toInt32)), .val (.int ((p2 &&& (255 : Int32)).toUInt32.toUInt16.toUInt32.toInt32)), .val (.int ((((p2.toUInt32 >>> ((8 : Int32) &&& 31).toUInt32).toInt32) &&& (255 : Int32)).toUInt32.toUInt16.toUInt32.toInt32)), .unset, .unset, .unset, .unset] [])) _
    refine XS.iloadN X0.here hx rfl (hb hby at_37) rfl ?_
    refine XS.iconst X0.here hx rfl (hb hby at_38) ?_
    refine XS.iand X0.here hx rfl (hb hby at_39) rfl ?_
    show Steps p.tables e below (s₁.setTop (mkF m 40 #[.val (.int p0), .val (.int p1), .val (.int p2), .val (.int ((p1 &&& (255 : Int32)).toUInt32.toUInt16.toUInt32.toInt32)), .val (.int ((((p1.toUInt32 >>> ((8 : Int32) &&& 31).toUInt32).toInt32) &&& (255 : Int32)).toUInt32.toUInt16.toUInt32.toInt32)), .val (.int ((p2 &&& (255 : Int32)).toUInt32.toUInt16.toUInt32.toInt32)), .val (.int ((((p2.toUInt32 >>> ((8 : Int32) &&& 31).toUInt32).toInt32) &&& (255 : Int32)).toUInt32.toUInt16.toUInt32.toInt32)), .unset, .unset, .unset, .unset] [(.int (p0 &&& (1 : Int32)))])) _
    refine XS.ifYes X0.here hx rfl (pc0 := 40) (pc' := 95) rfl (hb hby at_40) rfl ((if0 _ _).trans (feq (hm : ¬ ((p0 &&& (1 : Int32)) = (0 : Int32)))).2) (by decide) (by decide) ?_
    show Steps p.tables e below (s₁.setTop (mkF m 95 #[.val (.int p0), .val (.int p1), .val (.int p2), .val (.int ((p1 &&& (255 : Int32)).toUInt32.toUInt16.toUInt32.toInt32)), .val (.int ((((p1.toUInt32 >>> ((8 : Int32) &&& 31).toUInt32).toInt32) &&& (255 : Int32)).toUInt32.toUInt16.toUInt32.toInt32)), .val (.int ((p2 &&& (255 : Int32)).toUInt32.toUInt16.toUInt32.toInt32)), .val (.int ((((p2.toUInt32 >>> ((8 : Int32) &&& 31).toUInt32).toInt32) &&& (255 : Int32)).toUInt32.toUInt16.toUInt32.toInt32)), .unset, .unset, .unset, .unset] [])) _
    refine st1_ _ ?_
    show Steps p.tables e below (T1_.setTop (mkF m 98 #[.val (.int p0), .val (.int p1), .val (.int p2), .val (.int ((p1 &&& (255 : Int32)).toUInt32.toUInt16.toUInt32.toInt32)), .val (.int ((((p1.toUInt32 >>> ((8 : Int32) &&& 31).toUInt32).toInt32) &&& (255 : Int32)).toUInt32.toUInt16.toUInt32.toInt32)), .val (.int ((p2 &&& (255 : Int32)).toUInt32.toUInt16.toUInt32.toInt32)), .val (.int ((((p2.toUInt32 >>> ((8 : Int32) &&& 31).toUInt32).toInt32) &&& (255 : Int32)).toUInt32.toUInt16.toUInt32.toInt32)), .unset, .unset, .unset, .unset] [(.ref b1_)])) _
    refine XS.dup X1_.here hx rfl (hb hby at_98) rfl rfl ?_
    show Steps p.tables e below (T1_.setTop (mkF m 99 #[.val (.int p0), .val (.int p1), .val (.int p2), .val (.int ((p1 &&& (255 : Int32)).toUInt32.toUInt16.toUInt32.toInt32)), .val (.int ((((p1.toUInt32 >>> ((8 : Int32) &&& 31).toUInt32).toInt32) &&& (255 : Int32)).toUInt32.toUInt16.toUInt32.toInt32)), .val (.int ((p2 &&& (255 : Int32)).toUInt32.toUInt16.toUInt32.toInt32)), .val (.int ((((p2.toUInt32 >>> ((8 : Int32) &&& 31).toUInt32).toInt32) &&& (255 : Int32)).toUInt32.toUInt16.toUInt32.toInt32)), .unset, .unset, .unset, .unset] [(.ref b1_), (.ref b1_)])) _
    refine XS.iconst X1_.here hx rfl (hb hby at_99) ?_
    refine st4_ _ ?_
    show Steps p.tables e below (T4_.setTop (mkF m 102 #[.val (.int p0), .val (.int p1), .val (.int p2), .val (.int ((p1 &&& (255 : Int32)).toUInt32.toUInt16.toUInt32.toInt32)), .val (.int ((((p1.toUInt32 >>> ((8 : Int32) &&& 31).toUInt32).toInt32) &&& (255 : Int32)).toUInt32.toUInt16.toUInt32.toInt32)), .val (.int ((p2 &&& (255 : Int32)).toUInt32.toUInt16.toUInt32.toInt32)), .val (.int ((((p2.toUInt32 >>> ((8 : Int32) &&& 31).toUInt32).toInt32) &&& (255 : Int32)).toUInt32.toUInt16.toUInt32.toInt32)), .unset, .unset, .unset, .unset] [(.ref b4_), (.ref b1_), (.ref b1_)])) _
    refine XS.dup X4_.here hx rfl (hb hby at_102) rfl rfl ?_
    show Steps p.tables e below (T4_.setTop (mkF m 103 #[.val (.int p0), .val (.int p1), .val (.int p2), .val (.int ((p1 &&& (255 : Int32)).toUInt32.toUInt16.toUInt32.toInt32)), .val (.int ((((p1.toUInt32 >>> ((8 : Int32) &&& 31).toUInt32).toInt32) &&& (255 : Int32)).toUInt32.toUInt16.toUInt32.toInt32)), .val (.int ((p2 &&& (255 : Int32)).toUInt32.toUInt16.toUInt32.toInt32)), .val (.int ((((p2.toUInt32 >>> ((8 : Int32) &&& 31).toUInt32).toInt32) &&& (255 : Int32)).toUInt32.toUInt16.toUInt32.toInt32)), .unset, .unset, .unset, .unset] [(.ref b4_), (.ref b4_), (.ref b1_), (.ref b1_)])) _
    refine XS.iconst X4_.here hx rfl (hb hby at_103) ?_
    refine XS.iloadN X4_.here hx rfl (hb hby at_104) rfl ?_
    refine st7_ _ ?_
    show Steps p.tables e below (T7_.setTop (mkF m 106 #[.val (.int p0), .val (.int p1), .val (.int p2), .val (.int ((p1 &&& (255 : Int32)).toUInt32.toUInt16.toUInt32.toInt32)), .val (.int ((((p1.toUInt32 >>> ((8 : Int32) &&& 31).toUInt32).toInt32) &&& (255 : Int32)).toUInt32.toUInt16.toUInt32.toInt32)), .val (.int ((p2 &&& (255 : Int32)).toUInt32.toUInt16.toUInt32.toInt32)), .val (.int ((((p2.toUInt32 >>> ((8 : Int32) &&& 31).toUInt32).toInt32) &&& (255 : Int32)).toUInt32.toUInt16.toUInt32.toInt32)), .unset, .unset, .unset, .unset] [(.ref b4_), (.ref b1_), (.ref b1_)])) _
    refine XS.dup X7_.here hx rfl (hb hby at_106) rfl rfl ?_
    show Steps p.tables e below (T7_.setTop (mkF m 107 #[.val (.int p0), .val (.int p1), .val (.int p2), .val (.int ((p1 &&& (255 : Int32)).toUInt32.toUInt16.toUInt32.toInt32)), .val (.int ((((p1.toUInt32 >>> ((8 : Int32) &&& 31).toUInt32).toInt32) &&& (255 : Int32)).toUInt32.toUInt16.toUInt32.toInt32)), .val (.int ((p2 &&& (255 : Int32)).toUInt32.toUInt16.toUInt32.toInt32)), .val (.int ((((p2.toUInt32 >>> ((8 : Int32) &&& 31).toUInt32).toInt32) &&& (255 : Int32)).toUInt32.toUInt16.toUInt32.toInt32)), .unset, .unset, .unset, .unset] [(.ref b4_), (.ref b4_), (.ref b1_), (.ref b1_)])) _
    refine XS.iconst X7_.here hx rfl (hb hby at_107) ?_
    refine XS.iload X7_.here hx rfl (hb hby at_108) rfl ?_
    refine st13_ _ ?_
    show Steps p.tables e below (T13_.setTop (mkF m 111 #[.val (.int p0), .val (.int p1), .val (.int p2), .val (.int ((p1 &&& (255 : Int32)).toUInt32.toUInt16.toUInt32.toInt32)), .val (.int ((((p1.toUInt32 >>> ((8 : Int32) &&& 31).toUInt32).toInt32) &&& (255 : Int32)).toUInt32.toUInt16.toUInt32.toInt32)), .val (.int ((p2 &&& (255 : Int32)).toUInt32.toUInt16.toUInt32.toInt32)), .val (.int ((((p2.toUInt32 >>> ((8 : Int32) &&& 31).toUInt32).toInt32) &&& (255 : Int32)).toUInt32.toUInt16.toUInt32.toInt32)), .unset, .unset, .unset, .unset] [(.ref b4_), (.ref b1_), (.ref b1_)])) _
    refine st17_.trans ?_
    show Steps p.tables e below (T17_.setTop (mkF m 114 #[.val (.int p0), .val (.int p1), .val (.int p2), .val (.int ((p1 &&& (255 : Int32)).toUInt32.toUInt16.toUInt32.toInt32)), .val (.int ((((p1.toUInt32 >>> ((8 : Int32) &&& 31).toUInt32).toInt32) &&& (255 : Int32)).toUInt32.toUInt16.toUInt32.toInt32)), .val (.int ((p2 &&& (255 : Int32)).toUInt32.toUInt16.toUInt32.toInt32)), .val (.int ((((p2.toUInt32 >>> ((8 : Int32) &&& 31).toUInt32).toInt32) &&& (255 : Int32)).toUInt32.toUInt16.toUInt32.toInt32)), .unset, .unset, .unset, .unset] [(.ref b1_)])) _
    refine XS.astore X17_.here hx rfl (hb hby at_114) rfl rfl (l' := #[.val (.int p0), .val (.int p1), .val (.int p2), .val (.int ((p1 &&& (255 : Int32)).toUInt32.toUInt16.toUInt32.toInt32)), .val (.int ((((p1.toUInt32 >>> ((8 : Int32) &&& 31).toUInt32).toInt32) &&& (255 : Int32)).toUInt32.toUInt16.toUInt32.toInt32)), .val (.int ((p2 &&& (255 : Int32)).toUInt32.toUInt16.toUInt32.toInt32)), .val (.int ((((p2.toUInt32 >>> ((8 : Int32) &&& 31).toUInt32).toInt32) &&& (255 : Int32)).toUInt32.toUInt16.toUInt32.toInt32)), .val (.ref b1_), .unset, .unset, .unset]) rfl ?_
    show Steps p.tables e below (T17_.setTop (mkF m 116 #[.val (.int p0), .val (.int p1), .val (.int p2), .val (.int ((p1 &&& (255 : Int32)).toUInt32.toUInt16.toUInt32.toInt32)), .val (.int ((((p1.toUInt32 >>> ((8 : Int32) &&& 31).toUInt32).toInt32) &&& (255 : Int32)).toUInt32.toUInt16.toUInt32.toInt32)), .val (.int ((p2 &&& (255 : Int32)).toUInt32.toUInt16.toUInt32.toInt32)), .val (.int ((((p2.toUInt32 >>> ((8 : Int32) &&& 31).toUInt32).toInt32) &&& (255 : Int32)).toUInt32.toUInt16.toUInt32.toInt32)), .val (.ref b1_), .unset, .unset, .unset] [])) _
    refine st29_ _ ?_
    show Steps p.tables e below (T29_.setTop (mkF m 119 #[.val (.int p0), .val (.int p1), .val (.int p2), .val (.int ((p1 &&& (255 : Int32)).toUInt32.toUInt16.toUInt32.toInt32)), .val (.int ((((p1.toUInt32 >>> ((8 : Int32) &&& 31).toUInt32).toInt32) &&& (255 : Int32)).toUInt32.toUInt16.toUInt32.toInt32)), .val (.int ((p2 &&& (255 : Int32)).toUInt32.toUInt16.toUInt32.toInt32)), .val (.int ((((p2.toUInt32 >>> ((8 : Int32) &&& 31).toUInt32).toInt32) &&& (255 : Int32)).toUInt32.toUInt16.toUInt32.toInt32)), .val (.ref b1_), .unset, .unset, .unset] [(.ref b29_)])) _
    refine XS.dup X29_.here hx rfl (hb hby at_119) rfl rfl ?_
    show Steps p.tables e below (T29_.setTop (mkF m 120 #[.val (.int p0), .val (.int p1), .val (.int p2), .val (.int ((p1 &&& (255 : Int32)).toUInt32.toUInt16.toUInt32.toInt32)), .val (.int ((((p1.toUInt32 >>> ((8 : Int32) &&& 31).toUInt32).toInt32) &&& (255 : Int32)).toUInt32.toUInt16.toUInt32.toInt32)), .val (.int ((p2 &&& (255 : Int32)).toUInt32.toUInt16.toUInt32.toInt32)), .val (.int ((((p2.toUInt32 >>> ((8 : Int32) &&& 31).toUInt32).toInt32) &&& (255 : Int32)).toUInt32.toUInt16.toUInt32.toInt32)), .val (.ref b1_), .unset, .unset, .unset] [(.ref b29_), (.ref b29_)])) _
    refine XS.iconst X29_.here hx rfl (hb hby at_120) ?_
    refine st32_ _ ?_
    show Steps p.tables e below (T32_.setTop (mkF m 123 #[.val (.int p0), .val (.int p1), .val (.int p2), .val (.int ((p1 &&& (255 : Int32)).toUInt32.toUInt16.toUInt32.toInt32)), .val (.int ((((p1.toUInt32 >>> ((8 : Int32) &&& 31).toUInt32).toInt32) &&& (255 : Int32)).toUInt32.toUInt16.toUInt32.toInt32)), .val (.int ((p2 &&& (255 : Int32)).toUInt32.toUInt16.toUInt32.toInt32)), .val (.int ((((p2.toUInt32 >>> ((8 : Int32) &&& 31).toUInt32).toInt32) &&& (255 : Int32)).toUInt32.toUInt16.toUInt32.toInt32)), .val (.ref b1_), .unset, .unset, .unset] [(.ref b32_), (.ref b29_), (.ref b29_)])) _
    refine XS.dup X32_.here hx rfl (hb hby at_123) rfl rfl ?_
    show Steps p.tables e below (T32_.setTop (mkF m 124 #[.val (.int p0), .val (.int p1), .val (.int p2), .val (.int ((p1 &&& (255 : Int32)).toUInt32.toUInt16.toUInt32.toInt32)), .val (.int ((((p1.toUInt32 >>> ((8 : Int32) &&& 31).toUInt32).toInt32) &&& (255 : Int32)).toUInt32.toUInt16.toUInt32.toInt32)), .val (.int ((p2 &&& (255 : Int32)).toUInt32.toUInt16.toUInt32.toInt32)), .val (.int ((((p2.toUInt32 >>> ((8 : Int32) &&& 31).toUInt32).toInt32) &&& (255 : Int32)).toUInt32.toUInt16.toUInt32.toInt32)), .val (.ref b1_), .unset, .unset, .unset] [(.ref b32_), (.ref b32_), (.ref b29_), (.ref b29_)])) _
    refine XS.iconst X32_.here hx rfl (hb hby at_124) ?_
    refine XS.iload X32_.here hx rfl (hb hby at_125) rfl ?_
    refine st35_ _ ?_
    show Steps p.tables e below (T35_.setTop (mkF m 128 #[.val (.int p0), .val (.int p1), .val (.int p2), .val (.int ((p1 &&& (255 : Int32)).toUInt32.toUInt16.toUInt32.toInt32)), .val (.int ((((p1.toUInt32 >>> ((8 : Int32) &&& 31).toUInt32).toInt32) &&& (255 : Int32)).toUInt32.toUInt16.toUInt32.toInt32)), .val (.int ((p2 &&& (255 : Int32)).toUInt32.toUInt16.toUInt32.toInt32)), .val (.int ((((p2.toUInt32 >>> ((8 : Int32) &&& 31).toUInt32).toInt32) &&& (255 : Int32)).toUInt32.toUInt16.toUInt32.toInt32)), .val (.ref b1_), .unset, .unset, .unset] [(.ref b32_), (.ref b29_), (.ref b29_)])) _
    refine XS.dup X35_.here hx rfl (hb hby at_128) rfl rfl ?_
    show Steps p.tables e below (T35_.setTop (mkF m 129 #[.val (.int p0), .val (.int p1), .val (.int p2), .val (.int ((p1 &&& (255 : Int32)).toUInt32.toUInt16.toUInt32.toInt32)), .val (.int ((((p1.toUInt32 >>> ((8 : Int32) &&& 31).toUInt32).toInt32) &&& (255 : Int32)).toUInt32.toUInt16.toUInt32.toInt32)), .val (.int ((p2 &&& (255 : Int32)).toUInt32.toUInt16.toUInt32.toInt32)), .val (.int ((((p2.toUInt32 >>> ((8 : Int32) &&& 31).toUInt32).toInt32) &&& (255 : Int32)).toUInt32.toUInt16.toUInt32.toInt32)), .val (.ref b1_), .unset, .unset, .unset] [(.ref b32_), (.ref b32_), (.ref b29_), (.ref b29_)])) _
    refine XS.iconst X35_.here hx rfl (hb hby at_129) ?_
    refine XS.iload X35_.here hx rfl (hb hby at_130) rfl ?_
    refine st42_ _ ?_
    show Steps p.tables e below (T42_.setTop (mkF m 133 #[.val (.int p0), .val (.int p1), .val (.int p2), .val (.int ((p1 &&& (255 : Int32)).toUInt32.toUInt16.toUInt32.toInt32)), .val (.int ((((p1.toUInt32 >>> ((8 : Int32) &&& 31).toUInt32).toInt32) &&& (255 : Int32)).toUInt32.toUInt16.toUInt32.toInt32)), .val (.int ((p2 &&& (255 : Int32)).toUInt32.toUInt16.toUInt32.toInt32)), .val (.int ((((p2.toUInt32 >>> ((8 : Int32) &&& 31).toUInt32).toInt32) &&& (255 : Int32)).toUInt32.toUInt16.toUInt32.toInt32)), .val (.ref b1_), .unset, .unset, .unset] [(.ref b32_), (.ref b29_), (.ref b29_)])) _
    refine st46_.trans ?_
    show Steps p.tables e below (T46_.setTop (mkF m 136 #[.val (.int p0), .val (.int p1), .val (.int p2), .val (.int ((p1 &&& (255 : Int32)).toUInt32.toUInt16.toUInt32.toInt32)), .val (.int ((((p1.toUInt32 >>> ((8 : Int32) &&& 31).toUInt32).toInt32) &&& (255 : Int32)).toUInt32.toUInt16.toUInt32.toInt32)), .val (.int ((p2 &&& (255 : Int32)).toUInt32.toUInt16.toUInt32.toInt32)), .val (.int ((((p2.toUInt32 >>> ((8 : Int32) &&& 31).toUInt32).toInt32) &&& (255 : Int32)).toUInt32.toUInt16.toUInt32.toInt32)), .val (.ref b1_), .unset, .unset, .unset] [(.ref b29_)])) _
    refine XS.astore X46_.here hx rfl (hb hby at_136) rfl rfl (l' := #[.val (.int p0), .val (.int p1), .val (.int p2), .val (.int ((p1 &&& (255 : Int32)).toUInt32.toUInt16.toUInt32.toInt32)), .val (.int ((((p1.toUInt32 >>> ((8 : Int32) &&& 31).toUInt32).toInt32) &&& (255 : Int32)).toUInt32.toUInt16.toUInt32.toInt32)), .val (.int ((p2 &&& (255 : Int32)).toUInt32.toUInt16.toUInt32.toInt32)), .val (.int ((((p2.toUInt32 >>> ((8 : Int32) &&& 31).toUInt32).toInt32) &&& (255 : Int32)).toUInt32.toUInt16.toUInt32.toInt32)), .val (.ref b1_), .val (.ref b29_), .unset, .unset]) rfl ?_
    show Steps p.tables e below (T46_.setTop (mkF m 138 #[.val (.int p0), .val (.int p1), .val (.int p2), .val (.int ((p1 &&& (255 : Int32)).toUInt32.toUInt16.toUInt32.toInt32)), .val (.int ((((p1.toUInt32 >>> ((8 : Int32) &&& 31).toUInt32).toInt32) &&& (255 : Int32)).toUInt32.toUInt16.toUInt32.toInt32)), .val (.int ((p2 &&& (255 : Int32)).toUInt32.toUInt16.toUInt32.toInt32)), .val (.int ((((p2.toUInt32 >>> ((8 : Int32) &&& 31).toUInt32).toInt32) &&& (255 : Int32)).toUInt32.toUInt16.toUInt32.toInt32)), .val (.ref b1_), .val (.ref b29_), .unset, .unset] [])) _
    refine XS.aload X46_.here hx rfl (hb hby at_138) rfl rfl ?_
    refine XS.aload X46_.here hx rfl (hb hby at_140) rfl rfl ?_
    refine st58_.trans ?_
    show Steps p.tables e below (T58_.setTop (mkF m 145 #[.val (.int p0), .val (.int p1), .val (.int p2), .val (.int ((p1 &&& (255 : Int32)).toUInt32.toUInt16.toUInt32.toInt32)), .val (.int ((((p1.toUInt32 >>> ((8 : Int32) &&& 31).toUInt32).toInt32) &&& (255 : Int32)).toUInt32.toUInt16.toUInt32.toInt32)), .val (.int ((p2 &&& (255 : Int32)).toUInt32.toUInt16.toUInt32.toInt32)), .val (.int ((((p2.toUInt32 >>> ((8 : Int32) &&& 31).toUInt32).toInt32) &&& (255 : Int32)).toUInt32.toUInt16.toUInt32.toInt32)), .val (.ref b1_), .val (.ref b29_), .unset, .unset] [(.ref ea_58_)])) _
    refine XS.astore X58_.here hx rfl (hb hby at_145) rfl rfl (l' := #[.val (.int p0), .val (.int p1), .val (.int p2), .val (.int ((p1 &&& (255 : Int32)).toUInt32.toUInt16.toUInt32.toInt32)), .val (.int ((((p1.toUInt32 >>> ((8 : Int32) &&& 31).toUInt32).toInt32) &&& (255 : Int32)).toUInt32.toUInt16.toUInt32.toInt32)), .val (.int ((p2 &&& (255 : Int32)).toUInt32.toUInt16.toUInt32.toInt32)), .val (.int ((((p2.toUInt32 >>> ((8 : Int32) &&& 31).toUInt32).toInt32) &&& (255 : Int32)).toUInt32.toUInt16.toUInt32.toInt32)), .val (.ref b1_), .val (.ref b29_), .val (.ref ea_58_), .unset]) rfl ?_
    show Steps p.tables e below (T58_.setTop (mkF m 147 #[.val (.int p0), .val (.int p1), .val (.int p2), .val (.int ((p1 &&& (255 : Int32)).toUInt32.toUInt16.toUInt32.toInt32)), .val (.int ((((p1.toUInt32 >>> ((8 : Int32) &&& 31).toUInt32).toInt32) &&& (255 : Int32)).toUInt32.toUInt16.toUInt32.toInt32)), .val (.int ((p2 &&& (255 : Int32)).toUInt32.toUInt16.toUInt32.toInt32)), .val (.int ((((p2.toUInt32 >>> ((8 : Int32) &&& 31).toUInt32).toInt32) &&& (255 : Int32)).toUInt32.toUInt16.toUInt32.toInt32)), .val (.ref b1_), .val (.ref b29_), .val (.ref ea_58_), .unset] [])) _
    refine st63_ _ ?_
    show Steps p.tables e below (T63_.setTop (mkF m 150 #[.val (.int p0), .val (.int p1), .val (.int p2), .val (.int ((p1 &&& (255 : Int32)).toUInt32.toUInt16.toUInt32.toInt32)), .val (.int ((((p1.toUInt32 >>> ((8 : Int32) &&& 31).toUInt32).toInt32) &&& (255 : Int32)).toUInt32.toUInt16.toUInt32.toInt32)), .val (.int ((p2 &&& (255 : Int32)).toUInt32.toUInt16.toUInt32.toInt32)), .val (.int ((((p2.toUInt32 >>> ((8 : Int32) &&& 31).toUInt32).toInt32) &&& (255 : Int32)).toUInt32.toUInt16.toUInt32.toInt32)), .val (.ref b1_), .val (.ref b29_), .val (.ref ea_58_), .unset] [(.ref b63_)])) _
    refine XS.dup X63_.here hx rfl (hb hby at_150) rfl rfl ?_
    show Steps p.tables e below (T63_.setTop (mkF m 151 #[.val (.int p0), .val (.int p1), .val (.int p2), .val (.int ((p1 &&& (255 : Int32)).toUInt32.toUInt16.toUInt32.toInt32)), .val (.int ((((p1.toUInt32 >>> ((8 : Int32) &&& 31).toUInt32).toInt32) &&& (255 : Int32)).toUInt32.toUInt16.toUInt32.toInt32)), .val (.int ((p2 &&& (255 : Int32)).toUInt32.toUInt16.toUInt32.toInt32)), .val (.int ((((p2.toUInt32 >>> ((8 : Int32) &&& 31).toUInt32).toInt32) &&& (255 : Int32)).toUInt32.toUInt16.toUInt32.toInt32)), .val (.ref b1_), .val (.ref b29_), .val (.ref ea_58_), .unset] [(.ref b63_), (.ref b63_)])) _
    refine XS.bipush X63_.here hx rfl (hb hby at_151) ?_
    refine st66_ _ ?_
    show Steps p.tables e below (T66_.setTop (mkF m 155 #[.val (.int p0), .val (.int p1), .val (.int p2), .val (.int ((p1 &&& (255 : Int32)).toUInt32.toUInt16.toUInt32.toInt32)), .val (.int ((((p1.toUInt32 >>> ((8 : Int32) &&& 31).toUInt32).toInt32) &&& (255 : Int32)).toUInt32.toUInt16.toUInt32.toInt32)), .val (.int ((p2 &&& (255 : Int32)).toUInt32.toUInt16.toUInt32.toInt32)), .val (.int ((((p2.toUInt32 >>> ((8 : Int32) &&& 31).toUInt32).toInt32) &&& (255 : Int32)).toUInt32.toUInt16.toUInt32.toInt32)), .val (.ref b1_), .val (.ref b29_), .val (.ref ea_58_), .unset] [(.ref b66_), (.ref b63_), (.ref b63_)])) _
    refine XS.dup X66_.here hx rfl (hb hby at_155) rfl rfl ?_
    show Steps p.tables e below (T66_.setTop (mkF m 156 #[.val (.int p0), .val (.int p1), .val (.int p2), .val (.int ((p1 &&& (255 : Int32)).toUInt32.toUInt16.toUInt32.toInt32)), .val (.int ((((p1.toUInt32 >>> ((8 : Int32) &&& 31).toUInt32).toInt32) &&& (255 : Int32)).toUInt32.toUInt16.toUInt32.toInt32)), .val (.int ((p2 &&& (255 : Int32)).toUInt32.toUInt16.toUInt32.toInt32)), .val (.int ((((p2.toUInt32 >>> ((8 : Int32) &&& 31).toUInt32).toInt32) &&& (255 : Int32)).toUInt32.toUInt16.toUInt32.toInt32)), .val (.ref b1_), .val (.ref b29_), .val (.ref ea_58_), .unset] [(.ref b66_), (.ref b66_), (.ref b63_), (.ref b63_)])) _
    refine XS.iconst X66_.here hx rfl (hb hby at_156) ?_
    refine XS.bipush X66_.here hx rfl (hb hby at_157) ?_
    refine st69_ _ ?_
    show Steps p.tables e below (T69_.setTop (mkF m 160 #[.val (.int p0), .val (.int p1), .val (.int p2), .val (.int ((p1 &&& (255 : Int32)).toUInt32.toUInt16.toUInt32.toInt32)), .val (.int ((((p1.toUInt32 >>> ((8 : Int32) &&& 31).toUInt32).toInt32) &&& (255 : Int32)).toUInt32.toUInt16.toUInt32.toInt32)), .val (.int ((p2 &&& (255 : Int32)).toUInt32.toUInt16.toUInt32.toInt32)), .val (.int ((((p2.toUInt32 >>> ((8 : Int32) &&& 31).toUInt32).toInt32) &&& (255 : Int32)).toUInt32.toUInt16.toUInt32.toInt32)), .val (.ref b1_), .val (.ref b29_), .val (.ref ea_58_), .unset] [(.ref b66_), (.ref b63_), (.ref b63_)])) _
    refine XS.dup X69_.here hx rfl (hb hby at_160) rfl rfl ?_
    show Steps p.tables e below (T69_.setTop (mkF m 161 #[.val (.int p0), .val (.int p1), .val (.int p2), .val (.int ((p1 &&& (255 : Int32)).toUInt32.toUInt16.toUInt32.toInt32)), .val (.int ((((p1.toUInt32 >>> ((8 : Int32) &&& 31).toUInt32).toInt32) &&& (255 : Int32)).toUInt32.toUInt16.toUInt32.toInt32)), .val (.int ((p2 &&& (255 : Int32)).toUInt32.toUInt16.toUInt32.toInt32)), .val (.int ((((p2.toUInt32 >>> ((8 : Int32) &&& 31).toUInt32).toInt32) &&& (255 : Int32)).toUInt32.toUInt16.toUInt32.toInt32)), .val (.ref b1_), .val (.ref b29_), .val (.ref ea_58_), .unset] [(.ref b66_), (.ref b66_), (.ref b63_), (.ref b63_)])) _
    refine XS.iconst X69_.here hx rfl (hb hby at_161) ?_
    refine XS.bipush X69_.here hx rfl (hb hby at_162) ?_
    refine st76_ _ ?_
    show Steps p.tables e below (T76_.setTop (mkF m 165 #[.val (.int p0), .val (.int p1), .val (.int p2), .val (.int ((p1 &&& (255 : Int32)).toUInt32.toUInt16.toUInt32.toInt32)), .val (.int ((((p1.toUInt32 >>> ((8 : Int32) &&& 31).toUInt32).toInt32) &&& (255 : Int32)).toUInt32.toUInt16.toUInt32.toInt32)), .val (.int ((p2 &&& (255 : Int32)).toUInt32.toUInt16.toUInt32.toInt32)), .val (.int ((((p2.toUInt32 >>> ((8 : Int32) &&& 31).toUInt32).toInt32) &&& (255 : Int32)).toUInt32.toUInt16.toUInt32.toInt32)), .val (.ref b1_), .val (.ref b29_), .val (.ref ea_58_), .unset] [(.ref b66_), (.ref b63_), (.ref b63_)])) _
    refine XS.dup X76_.here hx rfl (hb hby at_165) rfl rfl ?_
    show Steps p.tables e below (T76_.setTop (mkF m 166 #[.val (.int p0), .val (.int p1), .val (.int p2), .val (.int ((p1 &&& (255 : Int32)).toUInt32.toUInt16.toUInt32.toInt32)), .val (.int ((((p1.toUInt32 >>> ((8 : Int32) &&& 31).toUInt32).toInt32) &&& (255 : Int32)).toUInt32.toUInt16.toUInt32.toInt32)), .val (.int ((p2 &&& (255 : Int32)).toUInt32.toUInt16.toUInt32.toInt32)), .val (.int ((((p2.toUInt32 >>> ((8 : Int32) &&& 31).toUInt32).toInt32) &&& (255 : Int32)).toUInt32.toUInt16.toUInt32.toInt32)), .val (.ref b1_), .val (.ref b29_), .val (.ref ea_58_), .unset] [(.ref b66_), (.ref b66_), (.ref b63_), (.ref b63_)])) _
    refine XS.iconst X76_.here hx rfl (hb hby at_166) ?_
    refine XS.bipush X76_.here hx rfl (hb hby at_167) ?_
    refine st80_ _ ?_
    show Steps p.tables e below (T80_.setTop (mkF m 170 #[.val (.int p0), .val (.int p1), .val (.int p2), .val (.int ((p1 &&& (255 : Int32)).toUInt32.toUInt16.toUInt32.toInt32)), .val (.int ((((p1.toUInt32 >>> ((8 : Int32) &&& 31).toUInt32).toInt32) &&& (255 : Int32)).toUInt32.toUInt16.toUInt32.toInt32)), .val (.int ((p2 &&& (255 : Int32)).toUInt32.toUInt16.toUInt32.toInt32)), .val (.int ((((p2.toUInt32 >>> ((8 : Int32) &&& 31).toUInt32).toInt32) &&& (255 : Int32)).toUInt32.toUInt16.toUInt32.toInt32)), .val (.ref b1_), .val (.ref b29_), .val (.ref ea_58_), .unset] [(.ref b66_), (.ref b63_), (.ref b63_)])) _
    refine XS.dup X80_.here hx rfl (hb hby at_170) rfl rfl ?_
    show Steps p.tables e below (T80_.setTop (mkF m 171 #[.val (.int p0), .val (.int p1), .val (.int p2), .val (.int ((p1 &&& (255 : Int32)).toUInt32.toUInt16.toUInt32.toInt32)), .val (.int ((((p1.toUInt32 >>> ((8 : Int32) &&& 31).toUInt32).toInt32) &&& (255 : Int32)).toUInt32.toUInt16.toUInt32.toInt32)), .val (.int ((p2 &&& (255 : Int32)).toUInt32.toUInt16.toUInt32.toInt32)), .val (.int ((((p2.toUInt32 >>> ((8 : Int32) &&& 31).toUInt32).toInt32) &&& (255 : Int32)).toUInt32.toUInt16.toUInt32.toInt32)), .val (.ref b1_), .val (.ref b29_), .val (.ref ea_58_), .unset] [(.ref b66_), (.ref b66_), (.ref b63_), (.ref b63_)])) _
    refine XS.iconst X80_.here hx rfl (hb hby at_171) ?_
    refine XS.bipush X80_.here hx rfl (hb hby at_172) ?_
    refine st84_ _ ?_
    show Steps p.tables e below (T84_.setTop (mkF m 175 #[.val (.int p0), .val (.int p1), .val (.int p2), .val (.int ((p1 &&& (255 : Int32)).toUInt32.toUInt16.toUInt32.toInt32)), .val (.int ((((p1.toUInt32 >>> ((8 : Int32) &&& 31).toUInt32).toInt32) &&& (255 : Int32)).toUInt32.toUInt16.toUInt32.toInt32)), .val (.int ((p2 &&& (255 : Int32)).toUInt32.toUInt16.toUInt32.toInt32)), .val (.int ((((p2.toUInt32 >>> ((8 : Int32) &&& 31).toUInt32).toInt32) &&& (255 : Int32)).toUInt32.toUInt16.toUInt32.toInt32)), .val (.ref b1_), .val (.ref b29_), .val (.ref ea_58_), .unset] [(.ref b66_), (.ref b63_), (.ref b63_)])) _
    refine XS.dup X84_.here hx rfl (hb hby at_175) rfl rfl ?_
    show Steps p.tables e below (T84_.setTop (mkF m 176 #[.val (.int p0), .val (.int p1), .val (.int p2), .val (.int ((p1 &&& (255 : Int32)).toUInt32.toUInt16.toUInt32.toInt32)), .val (.int ((((p1.toUInt32 >>> ((8 : Int32) &&& 31).toUInt32).toInt32) &&& (255 : Int32)).toUInt32.toUInt16.toUInt32.toInt32)), .val (.int ((p2 &&& (255 : Int32)).toUInt32.toUInt16.toUInt32.toInt32)), .val (.int ((((p2.toUInt32 >>> ((8 : Int32) &&& 31).toUInt32).toInt32) &&& (255 : Int32)).toUInt32.toUInt16.toUInt32.toInt32)), .val (.ref b1_), .val (.ref b29_), .val (.ref ea_58_), .unset] [(.ref b66_), (.ref b66_), (.ref b63_), (.ref b63_)])) _
    refine XS.iconst X84_.here hx rfl (hb hby at_176) ?_
    refine XS.bipush X84_.here hx rfl (hb hby at_177) ?_
    refine st88_ _ ?_
    show Steps p.tables e below (T88_.setTop (mkF m 180 #[.val (.int p0), .val (.int p1), .val (.int p2), .val (.int ((p1 &&& (255 : Int32)).toUInt32.toUInt16.toUInt32.toInt32)), .val (.int ((((p1.toUInt32 >>> ((8 : Int32) &&& 31).toUInt32).toInt32) &&& (255 : Int32)).toUInt32.toUInt16.toUInt32.toInt32)), .val (.int ((p2 &&& (255 : Int32)).toUInt32.toUInt16.toUInt32.toInt32)), .val (.int ((((p2.toUInt32 >>> ((8 : Int32) &&& 31).toUInt32).toInt32) &&& (255 : Int32)).toUInt32.toUInt16.toUInt32.toInt32)), .val (.ref b1_), .val (.ref b29_), .val (.ref ea_58_), .unset] [(.ref b66_), (.ref b63_), (.ref b63_)])) _
    refine XS.dup X88_.here hx rfl (hb hby at_180) rfl rfl ?_
    show Steps p.tables e below (T88_.setTop (mkF m 181 #[.val (.int p0), .val (.int p1), .val (.int p2), .val (.int ((p1 &&& (255 : Int32)).toUInt32.toUInt16.toUInt32.toInt32)), .val (.int ((((p1.toUInt32 >>> ((8 : Int32) &&& 31).toUInt32).toInt32) &&& (255 : Int32)).toUInt32.toUInt16.toUInt32.toInt32)), .val (.int ((p2 &&& (255 : Int32)).toUInt32.toUInt16.toUInt32.toInt32)), .val (.int ((((p2.toUInt32 >>> ((8 : Int32) &&& 31).toUInt32).toInt32) &&& (255 : Int32)).toUInt32.toUInt16.toUInt32.toInt32)), .val (.ref b1_), .val (.ref b29_), .val (.ref ea_58_), .unset] [(.ref b66_), (.ref b66_), (.ref b63_), (.ref b63_)])) _
    refine XS.iconst X88_.here hx rfl (hb hby at_181) ?_
    refine XS.bipush X88_.here hx rfl (hb hby at_182) ?_
    refine st92_ _ ?_
    show Steps p.tables e below (T92_.setTop (mkF m 185 #[.val (.int p0), .val (.int p1), .val (.int p2), .val (.int ((p1 &&& (255 : Int32)).toUInt32.toUInt16.toUInt32.toInt32)), .val (.int ((((p1.toUInt32 >>> ((8 : Int32) &&& 31).toUInt32).toInt32) &&& (255 : Int32)).toUInt32.toUInt16.toUInt32.toInt32)), .val (.int ((p2 &&& (255 : Int32)).toUInt32.toUInt16.toUInt32.toInt32)), .val (.int ((((p2.toUInt32 >>> ((8 : Int32) &&& 31).toUInt32).toInt32) &&& (255 : Int32)).toUInt32.toUInt16.toUInt32.toInt32)), .val (.ref b1_), .val (.ref b29_), .val (.ref ea_58_), .unset] [(.ref b66_), (.ref b63_), (.ref b63_)])) _
    refine XS.dup X92_.here hx rfl (hb hby at_185) rfl rfl ?_
    show Steps p.tables e below (T92_.setTop (mkF m 186 #[.val (.int p0), .val (.int p1), .val (.int p2), .val (.int ((p1 &&& (255 : Int32)).toUInt32.toUInt16.toUInt32.toInt32)), .val (.int ((((p1.toUInt32 >>> ((8 : Int32) &&& 31).toUInt32).toInt32) &&& (255 : Int32)).toUInt32.toUInt16.toUInt32.toInt32)), .val (.int ((p2 &&& (255 : Int32)).toUInt32.toUInt16.toUInt32.toInt32)), .val (.int ((((p2.toUInt32 >>> ((8 : Int32) &&& 31).toUInt32).toInt32) &&& (255 : Int32)).toUInt32.toUInt16.toUInt32.toInt32)), .val (.ref b1_), .val (.ref b29_), .val (.ref ea_58_), .unset] [(.ref b66_), (.ref b66_), (.ref b63_), (.ref b63_)])) _
    refine XS.bipush X92_.here hx rfl (hb hby at_186) ?_
    refine XS.bipush X92_.here hx rfl (hb hby at_188) ?_
    refine st96_ _ ?_
    show Steps p.tables e below (T96_.setTop (mkF m 191 #[.val (.int p0), .val (.int p1), .val (.int p2), .val (.int ((p1 &&& (255 : Int32)).toUInt32.toUInt16.toUInt32.toInt32)), .val (.int ((((p1.toUInt32 >>> ((8 : Int32) &&& 31).toUInt32).toInt32) &&& (255 : Int32)).toUInt32.toUInt16.toUInt32.toInt32)), .val (.int ((p2 &&& (255 : Int32)).toUInt32.toUInt16.toUInt32.toInt32)), .val (.int ((((p2.toUInt32 >>> ((8 : Int32) &&& 31).toUInt32).toInt32) &&& (255 : Int32)).toUInt32.toUInt16.toUInt32.toInt32)), .val (.ref b1_), .val (.ref b29_), .val (.ref ea_58_), .unset] [(.ref b66_), (.ref b63_), (.ref b63_)])) _
    refine XS.dup X96_.here hx rfl (hb hby at_191) rfl rfl ?_
    show Steps p.tables e below (T96_.setTop (mkF m 192 #[.val (.int p0), .val (.int p1), .val (.int p2), .val (.int ((p1 &&& (255 : Int32)).toUInt32.toUInt16.toUInt32.toInt32)), .val (.int ((((p1.toUInt32 >>> ((8 : Int32) &&& 31).toUInt32).toInt32) &&& (255 : Int32)).toUInt32.toUInt16.toUInt32.toInt32)), .val (.int ((p2 &&& (255 : Int32)).toUInt32.toUInt16.toUInt32.toInt32)), .val (.int ((((p2.toUInt32 >>> ((8 : Int32) &&& 31).toUInt32).toInt32) &&& (255 : Int32)).toUInt32.toUInt16.toUInt32.toInt32)), .val (.ref b1_), .val (.ref b29_), .val (.ref ea_58_), .unset] [(.ref b66_), (.ref b66_), (.ref b63_), (.ref b63_)])) _
    refine XS.bipush X96_.here hx rfl (hb hby at_192) ?_
    refine XS.bipush X96_.here hx rfl (hb hby at_194) ?_
    refine st100_ _ ?_
    show Steps p.tables e below (T100_.setTop (mkF m 197 #[.val (.int p0), .val (.int p1), .val (.int p2), .val (.int ((p1 &&& (255 : Int32)).toUInt32.toUInt16.toUInt32.toInt32)), .val (.int ((((p1.toUInt32 >>> ((8 : Int32) &&& 31).toUInt32).toInt32) &&& (255 : Int32)).toUInt32.toUInt16.toUInt32.toInt32)), .val (.int ((p2 &&& (255 : Int32)).toUInt32.toUInt16.toUInt32.toInt32)), .val (.int ((((p2.toUInt32 >>> ((8 : Int32) &&& 31).toUInt32).toInt32) &&& (255 : Int32)).toUInt32.toUInt16.toUInt32.toInt32)), .val (.ref b1_), .val (.ref b29_), .val (.ref ea_58_), .unset] [(.ref b66_), (.ref b63_), (.ref b63_)])) _
    refine XS.dup X100_.here hx rfl (hb hby at_197) rfl rfl ?_
    show Steps p.tables e below (T100_.setTop (mkF m 198 #[.val (.int p0), .val (.int p1), .val (.int p2), .val (.int ((p1 &&& (255 : Int32)).toUInt32.toUInt16.toUInt32.toInt32)), .val (.int ((((p1.toUInt32 >>> ((8 : Int32) &&& 31).toUInt32).toInt32) &&& (255 : Int32)).toUInt32.toUInt16.toUInt32.toInt32)), .val (.int ((p2 &&& (255 : Int32)).toUInt32.toUInt16.toUInt32.toInt32)), .val (.int ((((p2.toUInt32 >>> ((8 : Int32) &&& 31).toUInt32).toInt32) &&& (255 : Int32)).toUInt32.toUInt16.toUInt32.toInt32)), .val (.ref b1_), .val (.ref b29_), .val (.ref ea_58_), .unset] [(.ref b66_), (.ref b66_), (.ref b63_), (.ref b63_)])) _
    refine XS.bipush X100_.here hx rfl (hb hby at_198) ?_
    refine XS.bipush X100_.here hx rfl (hb hby at_200) ?_
    refine st104_ _ ?_
    show Steps p.tables e below (T104_.setTop (mkF m 203 #[.val (.int p0), .val (.int p1), .val (.int p2), .val (.int ((p1 &&& (255 : Int32)).toUInt32.toUInt16.toUInt32.toInt32)), .val (.int ((((p1.toUInt32 >>> ((8 : Int32) &&& 31).toUInt32).toInt32) &&& (255 : Int32)).toUInt32.toUInt16.toUInt32.toInt32)), .val (.int ((p2 &&& (255 : Int32)).toUInt32.toUInt16.toUInt32.toInt32)), .val (.int ((((p2.toUInt32 >>> ((8 : Int32) &&& 31).toUInt32).toInt32) &&& (255 : Int32)).toUInt32.toUInt16.toUInt32.toInt32)), .val (.ref b1_), .val (.ref b29_), .val (.ref ea_58_), .unset] [(.ref b66_), (.ref b63_), (.ref b63_)])) _
    refine XS.dup X104_.here hx rfl (hb hby at_203) rfl rfl ?_
    show Steps p.tables e below (T104_.setTop (mkF m 204 #[.val (.int p0), .val (.int p1), .val (.int p2), .val (.int ((p1 &&& (255 : Int32)).toUInt32.toUInt16.toUInt32.toInt32)), .val (.int ((((p1.toUInt32 >>> ((8 : Int32) &&& 31).toUInt32).toInt32) &&& (255 : Int32)).toUInt32.toUInt16.toUInt32.toInt32)), .val (.int ((p2 &&& (255 : Int32)).toUInt32.toUInt16.toUInt32.toInt32)), .val (.int ((((p2.toUInt32 >>> ((8 : Int32) &&& 31).toUInt32).toInt32) &&& (255 : Int32)).toUInt32.toUInt16.toUInt32.toInt32)), .val (.ref b1_), .val (.ref b29_), .val (.ref ea_58_), .unset] [(.ref b66_), (.ref b66_), (.ref b63_), (.ref b63_)])) _
    refine XS.bipush X104_.here hx rfl (hb hby at_204) ?_
    refine XS.bipush X104_.here hx rfl (hb hby at_206) ?_
    refine st108_ _ ?_
    show Steps p.tables e below (T108_.setTop (mkF m 209 #[.val (.int p0), .val (.int p1), .val (.int p2), .val (.int ((p1 &&& (255 : Int32)).toUInt32.toUInt16.toUInt32.toInt32)), .val (.int ((((p1.toUInt32 >>> ((8 : Int32) &&& 31).toUInt32).toInt32) &&& (255 : Int32)).toUInt32.toUInt16.toUInt32.toInt32)), .val (.int ((p2 &&& (255 : Int32)).toUInt32.toUInt16.toUInt32.toInt32)), .val (.int ((((p2.toUInt32 >>> ((8 : Int32) &&& 31).toUInt32).toInt32) &&& (255 : Int32)).toUInt32.toUInt16.toUInt32.toInt32)), .val (.ref b1_), .val (.ref b29_), .val (.ref ea_58_), .unset] [(.ref b66_), (.ref b63_), (.ref b63_)])) _
    refine XS.dup X108_.here hx rfl (hb hby at_209) rfl rfl ?_
    show Steps p.tables e below (T108_.setTop (mkF m 210 #[.val (.int p0), .val (.int p1), .val (.int p2), .val (.int ((p1 &&& (255 : Int32)).toUInt32.toUInt16.toUInt32.toInt32)), .val (.int ((((p1.toUInt32 >>> ((8 : Int32) &&& 31).toUInt32).toInt32) &&& (255 : Int32)).toUInt32.toUInt16.toUInt32.toInt32)), .val (.int ((p2 &&& (255 : Int32)).toUInt32.toUInt16.toUInt32.toInt32)), .val (.int ((((p2.toUInt32 >>> ((8 : Int32) &&& 31).toUInt32).toInt32) &&& (255 : Int32)).toUInt32.toUInt16.toUInt32.toInt32)), .val (.ref b1_), .val (.ref b29_), .val (.ref ea_58_), .unset] [(.ref b66_), (.ref b66_), (.ref b63_), (.ref b63_)])) _
    refine XS.bipush X108_.here hx rfl (hb hby at_210) ?_
    refine XS.bipush X108_.here hx rfl (hb hby at_212) ?_
    refine st112_ _ ?_
    show Steps p.tables e below (T112_.setTop (mkF m 215 #[.val (.int p0), .val (.int p1), .val (.int p2), .val (.int ((p1 &&& (255 : Int32)).toUInt32.toUInt16.toUInt32.toInt32)), .val (.int ((((p1.toUInt32 >>> ((8 : Int32) &&& 31).toUInt32).toInt32) &&& (255 : Int32)).toUInt32.toUInt16.toUInt32.toInt32)), .val (.int ((p2 &&& (255 : Int32)).toUInt32.toUInt16.toUInt32.toInt32)), .val (.int ((((p2.toUInt32 >>> ((8 : Int32) &&& 31).toUInt32).toInt32) &&& (255 : Int32)).toUInt32.toUInt16.toUInt32.toInt32)), .val (.ref b1_), .val (.ref b29_), .val (.ref ea_58_), .unset] [(.ref b66_), (.ref b63_), (.ref b63_)])) _
    refine XS.dup X112_.here hx rfl (hb hby at_215) rfl rfl ?_
    show Steps p.tables e below (T112_.setTop (mkF m 216 #[.val (.int p0), .val (.int p1), .val (.int p2), .val (.int ((p1 &&& (255 : Int32)).toUInt32.toUInt16.toUInt32.toInt32)), .val (.int ((((p1.toUInt32 >>> ((8 : Int32) &&& 31).toUInt32).toInt32) &&& (255 : Int32)).toUInt32.toUInt16.toUInt32.toInt32)), .val (.int ((p2 &&& (255 : Int32)).toUInt32.toUInt16.toUInt32.toInt32)), .val (.int ((((p2.toUInt32 >>> ((8 : Int32) &&& 31).toUInt32).toInt32) &&& (255 : Int32)).toUInt32.toUInt16.toUInt32.toInt32)), .val (.ref b1_), .val (.ref b29_), .val (.ref ea_58_), .unset] [(.ref b66_), (.ref b66_), (.ref b63_), (.ref b63_)])) _
    refine XS.bipush X112_.here hx rfl (hb hby at_216) ?_
    refine XS.bipush X112_.here hx rfl (hb hby at_218) ?_
    refine st116_ _ ?_
    show Steps p.tables e below (T116_.setTop (mkF m 221 #[.val (.int p0), .val (.int p1), .val (.int p2), .val (.int ((p1 &&& (255 : Int32)).toUInt32.toUInt16.toUInt32.toInt32)), .val (.int ((((p1.toUInt32 >>> ((8 : Int32) &&& 31).toUInt32).toInt32) &&& (255 : Int32)).toUInt32.toUInt16.toUInt32.toInt32)), .val (.int ((p2 &&& (255 : Int32)).toUInt32.toUInt16.toUInt32.toInt32)), .val (.int ((((p2.toUInt32 >>> ((8 : Int32) &&& 31).toUInt32).toInt32) &&& (255 : Int32)).toUInt32.toUInt16.toUInt32.toInt32)), .val (.ref b1_), .val (.ref b29_), .val (.ref ea_58_), .unset] [(.ref b66_), (.ref b63_), (.ref b63_)])) _
    refine XS.dup X116_.here hx rfl (hb hby at_221) rfl rfl ?_
    show Steps p.tables e below (T116_.setTop (mkF m 222 #[.val (.int p0), .val (.int p1), .val (.int p2), .val (.int ((p1 &&& (255 : Int32)).toUInt32.toUInt16.toUInt32.toInt32)), .val (.int ((((p1.toUInt32 >>> ((8 : Int32) &&& 31).toUInt32).toInt32) &&& (255 : Int32)).toUInt32.toUInt16.toUInt32.toInt32)), .val (.int ((p2 &&& (255 : Int32)).toUInt32.toUInt16.toUInt32.toInt32)), .val (.int ((((p2.toUInt32 >>> ((8 : Int32) &&& 31).toUInt32).toInt32) &&& (255 : Int32)).toUInt32.toUInt16.toUInt32.toInt32)), .val (.ref b1_), .val (.ref b29_), .val (.ref ea_58_), .unset] [(.ref b66_), (.ref b66_), (.ref b63_), (.ref b63_)])) _
    refine XS.bipush X116_.here hx rfl (hb hby at_222) ?_
    refine XS.bipush X116_.here hx rfl (hb hby at_224) ?_
    refine st120_ _ ?_
    show Steps p.tables e below (T120_.setTop (mkF m 227 #[.val (.int p0), .val (.int p1), .val (.int p2), .val (.int ((p1 &&& (255 : Int32)).toUInt32.toUInt16.toUInt32.toInt32)), .val (.int ((((p1.toUInt32 >>> ((8 : Int32) &&& 31).toUInt32).toInt32) &&& (255 : Int32)).toUInt32.toUInt16.toUInt32.toInt32)), .val (.int ((p2 &&& (255 : Int32)).toUInt32.toUInt16.toUInt32.toInt32)), .val (.int ((((p2.toUInt32 >>> ((8 : Int32) &&& 31).toUInt32).toInt32) &&& (255 : Int32)).toUInt32.toUInt16.toUInt32.toInt32)), .val (.ref b1_), .val (.ref b29_), .val (.ref ea_58_), .unset] [(.ref b66_), (.ref b63_), (.ref b63_)])) _
    refine XS.dup X120_.here hx rfl (hb hby at_227) rfl rfl ?_
    show Steps p.tables e below (T120_.setTop (mkF m 228 #[.val (.int p0), .val (.int p1), .val (.int p2), .val (.int ((p1 &&& (255 : Int32)).toUInt32.toUInt16.toUInt32.toInt32)), .val (.int ((((p1.toUInt32 >>> ((8 : Int32) &&& 31).toUInt32).toInt32) &&& (255 : Int32)).toUInt32.toUInt16.toUInt32.toInt32)), .val (.int ((p2 &&& (255 : Int32)).toUInt32.toUInt16.toUInt32.toInt32)), .val (.int ((((p2.toUInt32 >>> ((8 : Int32) &&& 31).toUInt32).toInt32) &&& (255 : Int32)).toUInt32.toUInt16.toUInt32.toInt32)), .val (.ref b1_), .val (.ref b29_), .val (.ref ea_58_), .unset] [(.ref b66_), (.ref b66_), (.ref b63_), (.ref b63_)])) _
    refine XS.bipush X120_.here hx rfl (hb hby at_228) ?_
    refine XS.bipush X120_.here hx rfl (hb hby at_230) ?_
    refine st124_ _ ?_
    show Steps p.tables e below (T124_.setTop (mkF m 233 #[.val (.int p0), .val (.int p1), .val (.int p2), .val (.int ((p1 &&& (255 : Int32)).toUInt32.toUInt16.toUInt32.toInt32)), .val (.int ((((p1.toUInt32 >>> ((8 : Int32) &&& 31).toUInt32).toInt32) &&& (255 : Int32)).toUInt32.toUInt16.toUInt32.toInt32)), .val (.int ((p2 &&& (255 : Int32)).toUInt32.toUInt16.toUInt32.toInt32)), .val (.int ((((p2.toUInt32 >>> ((8 : Int32) &&& 31).toUInt32).toInt32) &&& (255 : Int32)).toUInt32.toUInt16.toUInt32.toInt32)), .val (.ref b1_), .val (.ref b29_), .val (.ref ea_58_), .unset] [(.ref b66_), (.ref b63_), (.ref b63_)])) _
    refine XS.dup X124_.here hx rfl (hb hby at_233) rfl rfl ?_
    show Steps p.tables e below (T124_.setTop (mkF m 234 #[.val (.int p0), .val (.int p1), .val (.int p2), .val (.int ((p1 &&& (255 : Int32)).toUInt32.toUInt16.toUInt32.toInt32)), .val (.int ((((p1.toUInt32 >>> ((8 : Int32) &&& 31).toUInt32).toInt32) &&& (255 : Int32)).toUInt32.toUInt16.toUInt32.toInt32)), .val (.int ((p2 &&& (255 : Int32)).toUInt32.toUInt16.toUInt32.toInt32)), .val (.int ((((p2.toUInt32 >>> ((8 : Int32) &&& 31).toUInt32).toInt32) &&& (255 : Int32)).toUInt32.toUInt16.toUInt32.toInt32)), .val (.ref b1_), .val (.ref b29_), .val (.ref ea_58_), .unset] [(.ref b66_), (.ref b66_), (.ref b63_), (.ref b63_)])) _
    refine XS.bipush X124_.here hx rfl (hb hby at_234) ?_
    refine XS.bipush X124_.here hx rfl (hb hby at_236) ?_
    refine st128_ _ ?_
    show Steps p.tables e below (T128_.setTop (mkF m 239 #[.val (.int p0), .val (.int p1), .val (.int p2), .val (.int ((p1 &&& (255 : Int32)).toUInt32.toUInt16.toUInt32.toInt32)), .val (.int ((((p1.toUInt32 >>> ((8 : Int32) &&& 31).toUInt32).toInt32) &&& (255 : Int32)).toUInt32.toUInt16.toUInt32.toInt32)), .val (.int ((p2 &&& (255 : Int32)).toUInt32.toUInt16.toUInt32.toInt32)), .val (.int ((((p2.toUInt32 >>> ((8 : Int32) &&& 31).toUInt32).toInt32) &&& (255 : Int32)).toUInt32.toUInt16.toUInt32.toInt32)), .val (.ref b1_), .val (.ref b29_), .val (.ref ea_58_), .unset] [(.ref b66_), (.ref b63_), (.ref b63_)])) _
    refine XS.dup X128_.here hx rfl (hb hby at_239) rfl rfl ?_
    show Steps p.tables e below (T128_.setTop (mkF m 240 #[.val (.int p0), .val (.int p1), .val (.int p2), .val (.int ((p1 &&& (255 : Int32)).toUInt32.toUInt16.toUInt32.toInt32)), .val (.int ((((p1.toUInt32 >>> ((8 : Int32) &&& 31).toUInt32).toInt32) &&& (255 : Int32)).toUInt32.toUInt16.toUInt32.toInt32)), .val (.int ((p2 &&& (255 : Int32)).toUInt32.toUInt16.toUInt32.toInt32)), .val (.int ((((p2.toUInt32 >>> ((8 : Int32) &&& 31).toUInt32).toInt32) &&& (255 : Int32)).toUInt32.toUInt16.toUInt32.toInt32)), .val (.ref b1_), .val (.ref b29_), .val (.ref ea_58_), .unset] [(.ref b66_), (.ref b66_), (.ref b63_), (.ref b63_)])) _
    refine XS.bipush X128_.here hx rfl (hb hby at_240) ?_
    refine XS.bipush X128_.here hx rfl (hb hby at_242) ?_
    refine st132_ _ ?_
    show Steps p.tables e below (T132_.setTop (mkF m 245 #[.val (.int p0), .val (.int p1), .val (.int p2), .val (.int ((p1 &&& (255 : Int32)).toUInt32.toUInt16.toUInt32.toInt32)), .val (.int ((((p1.toUInt32 >>> ((8 : Int32) &&& 31).toUInt32).toInt32) &&& (255 : Int32)).toUInt32.toUInt16.toUInt32.toInt32)), .val (.int ((p2 &&& (255 : Int32)).toUInt32.toUInt16.toUInt32.toInt32)), .val (.int ((((p2.toUInt32 >>> ((8 : Int32) &&& 31).toUInt32).toInt32) &&& (255 : Int32)).toUInt32.toUInt16.toUInt32.toInt32)), .val (.ref b1_), .val (.ref b29_), .val (.ref ea_58_), .unset] [(.ref b66_), (.ref b63_), (.ref b63_)])) _
    refine XS.dup X132_.here hx rfl (hb hby at_245) rfl rfl ?_
    show Steps p.tables e below (T132_.setTop (mkF m 246 #[.val (.int p0), .val (.int p1), .val (.int p2), .val (.int ((p1 &&& (255 : Int32)).toUInt32.toUInt16.toUInt32.toInt32)), .val (.int ((((p1.toUInt32 >>> ((8 : Int32) &&& 31).toUInt32).toInt32) &&& (255 : Int32)).toUInt32.toUInt16.toUInt32.toInt32)), .val (.int ((p2 &&& (255 : Int32)).toUInt32.toUInt16.toUInt32.toInt32)), .val (.int ((((p2.toUInt32 >>> ((8 : Int32) &&& 31).toUInt32).toInt32) &&& (255 : Int32)).toUInt32.toUInt16.toUInt32.toInt32)), .val (.ref b1_), .val (.ref b29_), .val (.ref ea_58_), .unset] [(.ref b66_), (.ref b66_), (.ref b63_), (.ref b63_)])) _
    refine XS.bipush X132_.here hx rfl (hb hby at_246) ?_
    refine XS.bipush X132_.here hx rfl (hb hby at_248) ?_
    refine st136_ _ ?_
    show Steps p.tables e below (T136_.setTop (mkF m 251 #[.val (.int p0), .val (.int p1), .val (.int p2), .val (.int ((p1 &&& (255 : Int32)).toUInt32.toUInt16.toUInt32.toInt32)), .val (.int ((((p1.toUInt32 >>> ((8 : Int32) &&& 31).toUInt32).toInt32) &&& (255 : Int32)).toUInt32.toUInt16.toUInt32.toInt32)), .val (.int ((p2 &&& (255 : Int32)).toUInt32.toUInt16.toUInt32.toInt32)), .val (.int ((((p2.toUInt32 >>> ((8 : Int32) &&& 31).toUInt32).toInt32) &&& (255 : Int32)).toUInt32.toUInt16.toUInt32.toInt32)), .val (.ref b1_), .val (.ref b29_), .val (.ref ea_58_), .unset] [(.ref b66_), (.ref b63_), (.ref b63_)])) _
    refine XS.dup X136_.here hx rfl (hb hby at_251) rfl rfl ?_
    show Steps p.tables e below (T136_.setTop (mkF m 252 #[.val (.int p0), .val (.int p1), .val (.int p2), .val (.int ((p1 &&& (255 : Int32)).toUInt32.toUInt16.toUInt32.toInt32)), .val (.int ((((p1.toUInt32 >>> ((8 : Int32) &&& 31).toUInt32).toInt32) &&& (255 : Int32)).toUInt32.toUInt16.toUInt32.toInt32)), .val (.int ((p2 &&& (255 : Int32)).toUInt32.toUInt16.toUInt32.toInt32)), .val (.int ((((p2.toUInt32 >>> ((8 : Int32) &&& 31).toUInt32).toInt32) &&& (255 : Int32)).toUInt32.toUInt16.toUInt32.toInt32)), .val (.ref b1_), .val (.ref b29_), .val (.ref ea_58_), .unset] [(.ref b66_), (.ref b66_), (.ref b63_), (.ref b63_)])) _
    refine XS.bipush X136_.here hx rfl (hb hby at_252) ?_
    refine XS.bipush X136_.here hx rfl (hb hby at_254) ?_
    refine st140_ _ ?_
    show Steps p.tables e below (T140_.setTop (mkF m 257 #[.val (.int p0), .val (.int p1), .val (.int p2), .val (.int ((p1 &&& (255 : Int32)).toUInt32.toUInt16.toUInt32.toInt32)), .val (.int ((((p1.toUInt32 >>> ((8 : Int32) &&& 31).toUInt32).toInt32) &&& (255 : Int32)).toUInt32.toUInt16.toUInt32.toInt32)), .val (.int ((p2 &&& (255 : Int32)).toUInt32.toUInt16.toUInt32.toInt32)), .val (.int ((((p2.toUInt32 >>> ((8 : Int32) &&& 31).toUInt32).toInt32) &&& (255 : Int32)).toUInt32.toUInt16.toUInt32.toInt32)), .val (.ref b1_), .val (.ref b29_), .val (.ref ea_58_), .unset] [(.ref b66_), (.ref b63_), (.ref b63_)])) _
    refine XS.dup X140_.here hx rfl (hb hby at_257) rfl rfl ?_
    show Steps p.tables e below (T140_.setTop (mkF m 258 #[.val (.int p0), .val (.int p1), .val (.int p2), .val (.int ((p1 &&& (255 : Int32)).toUInt32.toUInt16.toUInt32.toInt32)), .val (.int ((((p1.toUInt32 >>> ((8 : Int32) &&& 31).toUInt32).toInt32) &&& (255 : Int32)).toUInt32.toUInt16.toUInt32.toInt32)), .val (.int ((p2 &&& (255 : Int32)).toUInt32.toUInt16.toUInt32.toInt32)), .val (.int ((((p2.toUInt32 >>> ((8 : Int32) &&& 31).toUInt32).toInt32) &&& (255 : Int32)).toUInt32.toUInt16.toUInt32.toInt32)), .val (.ref b1_), .val (.ref b29_), .val (.ref ea_58_), .unset] [(.ref b66_), (.ref b66_), (.ref b63_), (.ref b63_)])) _
    refine XS.bipush X140_.here hx rfl (hb hby at_258) ?_
    refine XS.bipush X140_.here hx rfl (hb hby at_260) ?_
    refine st144_ _ ?_
    show Steps p.tables e below (T144_.setTop (mkF m 263 #[.val (.int p0), .val (.int p1), .val (.int p2), .val (.int ((p1 &&& (255 : Int32)).toUInt32.toUInt16.toUInt32.toInt32)), .val (.int ((((p1.toUInt32 >>> ((8 : Int32) &&& 31).toUInt32).toInt32) &&& (255 : Int32)).toUInt32.toUInt16.toUInt32.toInt32)), .val (.int ((p2 &&& (255 : Int32)).toUInt32.toUInt16.toUInt32.toInt32)), .val (.int ((((p2.toUInt32 >>> ((8 : Int32) &&& 31).toUInt32).toInt32) &&& (255 : Int32)).toUInt32.toUInt16.toUInt32.toInt32)), .val (.ref b1_), .val (.ref b29_), .val (.ref ea_58_), .unset] [(.ref b66_), (.ref b63_), (.ref b63_)])) _
    refine XS.dup X144_.here hx rfl (hb hby at_263) rfl rfl ?_
    show Steps p.tables e below (T144_.setTop (mkF m 264 #[.val (.int p0), .val (.int p1), .val (.int p2), .val (.int ((p1 &&& (255 : Int32)).toUInt32.toUInt16.toUInt32.toInt32)), .val (.int ((((p1.toUInt32 >>> ((8 : Int32) &&& 31).toUInt32).toInt32) &&& (255 : Int32)).toUInt32.toUInt16.toUInt32.toInt32)), .val (.int ((p2 &&& (255 : Int32)).toUInt32.toUInt16.toUInt32.toInt32)), .val (.int ((((p2.toUInt32 >>> ((8 : Int32) &&& 31).toUInt32).toInt32) &&& (255 : Int32)).toUInt32.toUInt16.toUInt32.toInt32)), .val (.ref b1_), .val (.ref b29_), .val (.ref ea_58_), .unset] [(.ref b66_), (.ref b66_), (.ref b63_), (.ref b63_)])) _
    refine XS.bipush X144_.here hx rfl (hb hby at_264) ?_
    refine XS.bipush X144_.here hx rfl (hb hby at_266) ?_
    refine st148_ _ ?_
    show Steps p.tables e below (T148_.setTop (mkF m 269 #[.val (.int p0), .val (.int p1), .val (.int p2), .val (.int ((p1 &&& (255 : Int32)).toUInt32.toUInt16.toUInt32.toInt32)), .val (.int ((((p1.toUInt32 >>> ((8 : Int32) &&& 31).toUInt32).toInt32) &&& (255 : Int32)).toUInt32.toUInt16.toUInt32.toInt32)), .val (.int ((p2 &&& (255 : Int32)).toUInt32.toUInt16.toUInt32.toInt32)), .val (.int ((((p2.toUInt32 >>> ((8 : Int32) &&& 31).toUInt32).toInt32) &&& (255 : Int32)).toUInt32.toUInt16.toUInt32.toInt32)), .val (.ref b1_), .val (.ref b29_), .val (.ref ea_58_), .unset] [(.ref b66_), (.ref b63_), (.ref b63_)])) _
    refine XS.dup X148_.here hx rfl (hb hby at_269) rfl rfl ?_
    show Steps p.tables e below (T148_.setTop (mkF m 270 #[.val (.int p0), .val (.int p1), .val (.int p2), .val (.int ((p1 &&& (255 : Int32)).toUInt32.toUInt16.toUInt32.toInt32)), .val (.int ((((p1.toUInt32 >>> ((8 : Int32) &&& 31).toUInt32).toInt32) &&& (255 : Int32)).toUInt32.toUInt16.toUInt32.toInt32)), .val (.int ((p2 &&& (255 : Int32)).toUInt32.toUInt16.toUInt32.toInt32)), .val (.int ((((p2.toUInt32 >>> ((8 : Int32) &&& 31).toUInt32).toInt32) &&& (255 : Int32)).toUInt32.toUInt16.toUInt32.toInt32)), .val (.ref b1_), .val (.ref b29_), .val (.ref ea_58_), .unset] [(.ref b66_), (.ref b66_), (.ref b63_), (.ref b63_)])) _
    refine XS.bipush X148_.here hx rfl (hb hby at_270) ?_
    refine XS.bipush X148_.here hx rfl (hb hby at_272) ?_
    refine st152_ _ ?_
    show Steps p.tables e below (T152_.setTop (mkF m 275 #[.val (.int p0), .val (.int p1), .val (.int p2), .val (.int ((p1 &&& (255 : Int32)).toUInt32.toUInt16.toUInt32.toInt32)), .val (.int ((((p1.toUInt32 >>> ((8 : Int32) &&& 31).toUInt32).toInt32) &&& (255 : Int32)).toUInt32.toUInt16.toUInt32.toInt32)), .val (.int ((p2 &&& (255 : Int32)).toUInt32.toUInt16.toUInt32.toInt32)), .val (.int ((((p2.toUInt32 >>> ((8 : Int32) &&& 31).toUInt32).toInt32) &&& (255 : Int32)).toUInt32.toUInt16.toUInt32.toInt32)), .val (.ref b1_), .val (.ref b29_), .val (.ref ea_58_), .unset] [(.ref b66_), (.ref b63_), (.ref b63_)])) _
    refine XS.dup X152_.here hx rfl (hb hby at_275) rfl rfl ?_
    show Steps p.tables e below (T152_.setTop (mkF m 276 #[.val (.int p0), .val (.int p1), .val (.int p2), .val (.int ((p1 &&& (255 : Int32)).toUInt32.toUInt16.toUInt32.toInt32)), .val (.int ((((p1.toUInt32 >>> ((8 : Int32) &&& 31).toUInt32).toInt32) &&& (255 : Int32)).toUInt32.toUInt16.toUInt32.toInt32)), .val (.int ((p2 &&& (255 : Int32)).toUInt32.toUInt16.toUInt32.toInt32)), .val (.int ((((p2.toUInt32 >>> ((8 : Int32) &&& 31).toUInt32).toInt32) &&& (255 : Int32)).toUInt32.toUInt16.toUInt32.toInt32)), .val (.ref b1_), .val (.ref b29_), .val (.ref ea_58_), .unset] [(.ref b66_), (.ref b66_), (.ref b63_), (.ref b63_)])) _
    refine XS.bipush X152_.here hx rfl (hb hby at_276) ?_
    refine XS.bipush X152_.here hx rfl (hb hby at_278) ?_
    refine st156_ _ ?_
    show Steps p.tables e below (T156_.setTop (mkF m 281 #[.val (.int p0), .val (.int p1), .val (.int p2), .val (.int ((p1 &&& (255 : Int32)).toUInt32.toUInt16.toUInt32.toInt32)), .val (.int ((((p1.toUInt32 >>> ((8 : Int32) &&& 31).toUInt32).toInt32) &&& (255 : Int32)).toUInt32.toUInt16.toUInt32.toInt32)), .val (.int ((p2 &&& (255 : Int32)).toUInt32.toUInt16.toUInt32.toInt32)), .val (.int ((((p2.toUInt32 >>> ((8 : Int32) &&& 31).toUInt32).toInt32) &&& (255 : Int32)).toUInt32.toUInt16.toUInt32.toInt32)), .val (.ref b1_), .val (.ref b29_), .val (.ref ea_58_), .unset] [(.ref b66_), (.ref b63_), (.ref b63_)])) _
    refine XS.dup X156_.here hx rfl (hb hby at_281) rfl rfl ?_
    show Steps p.tables e below (T156_.setTop (mkF m 282 #[.val (.int p0), .val (.int p1), .val (.int p2), .val (.int ((p1 &&& (255 : Int32)).toUInt32.toUInt16.toUInt32.toInt32)), .val (.int ((((p1.toUInt32 >>> ((8 : Int32) &&& 31).toUInt32).toInt32) &&& (255 : Int32)).toUInt32.toUInt16.toUInt32.toInt32)), .val (.int ((p2 &&& (255 : Int32)).toUInt32.toUInt16.toUInt32.toInt32)), .val (.int ((((p2.toUInt32 >>> ((8 : Int32) &&& 31).toUInt32).toInt32) &&& (255 : Int32)).toUInt32.toUInt16.toUInt32.toInt32)), .val (.ref b1_), .val (.ref b29_), .val (.ref ea_58_), .unset] [(.ref b66_), (.ref b66_), (.ref b63_), (.ref b63_)])) _
    refine XS.bipush X156_.here hx rfl (hb hby at_282) ?_
    refine XS.bipush X156_.here hx rfl (hb hby at_284) ?_
    refine st160_ _ ?_
    show Steps p.tables e below (T160_.setTop (mkF m 287 #[.val (.int p0), .val (.int p1), .val (.int p2), .val (.int ((p1 &&& (255 : Int32)).toUInt32.toUInt16.toUInt32.toInt32)), .val (.int ((((p1.toUInt32 >>> ((8 : Int32) &&& 31).toUInt32).toInt32) &&& (255 : Int32)).toUInt32.toUInt16.toUInt32.toInt32)), .val (.int ((p2 &&& (255 : Int32)).toUInt32.toUInt16.toUInt32.toInt32)), .val (.int ((((p2.toUInt32 >>> ((8 : Int32) &&& 31).toUInt32).toInt32) &&& (255 : Int32)).toUInt32.toUInt16.toUInt32.toInt32)), .val (.ref b1_), .val (.ref b29_), .val (.ref ea_58_), .unset] [(.ref b66_), (.ref b63_), (.ref b63_)])) _
    refine XS.dup X160_.here hx rfl (hb hby at_287) rfl rfl ?_
    show Steps p.tables e below (T160_.setTop (mkF m 288 #[.val (.int p0), .val (.int p1), .val (.int p2), .val (.int ((p1 &&& (255 : Int32)).toUInt32.toUInt16.toUInt32.toInt32)), .val (.int ((((p1.toUInt32 >>> ((8 : Int32) &&& 31).toUInt32).toInt32) &&& (255 : Int32)).toUInt32.toUInt16.toUInt32.toInt32)), .val (.int ((p2 &&& (255 : Int32)).toUInt32.toUInt16.toUInt32.toInt32)), .val (.int ((((p2.toUInt32 >>> ((8 : Int32) &&& 31).toUInt32).toInt32) &&& (255 : Int32)).toUInt32.toUInt16.toUInt32.toInt32)), .val (.ref b1_), .val (.ref b29_), .val (.ref ea_58_), .unset] [(.ref b66_), (.ref b66_), (.ref b63_), (.ref b63_)])) _
    refine XS.bipush X160_.here hx rfl (hb hby at_288) ?_
    refine XS.bipush X160_.here hx rfl (hb hby at_290) ?_
    refine st164_ _ ?_
    show Steps p.tables e below (T164_.setTop (mkF m 293 #[.val (.int p0), .val (.int p1), .val (.int p2), .val (.int ((p1 &&& (255 : Int32)).toUInt32.toUInt16.toUInt32.toInt32)), .val (.int ((((p1.toUInt32 >>> ((8 : Int32) &&& 31).toUInt32).toInt32) &&& (255 : Int32)).toUInt32.toUInt16.toUInt32.toInt32)), .val (.int ((p2 &&& (255 : Int32)).toUInt32.toUInt16.toUInt32.toInt32)), .val (.int ((((p2.toUInt32 >>> ((8 : Int32) &&& 31).toUInt32).toInt32) &&& (255 : Int32)).toUInt32.toUInt16.toUInt32.toInt32)), .val (.ref b1_), .val (.ref b29_), .val (.ref ea_58_), .unset] [(.ref b66_), (.ref b63_), (.ref b63_)])) _
    refine XS.dup X164_.here hx rfl (hb hby at_293) rfl rfl ?_
    show Steps p.tables e below (T164_.setTop (mkF m 294 #[.val (.int p0), .val (.int p1), .val (.int p2), .val (.int ((p1 &&& (255 : Int32)).toUInt32.toUInt16.toUInt32.toInt32)), .val (.int ((((p1.toUInt32 >>> ((8 : Int32) &&& 31).toUInt32).toInt32) &&& (255 : Int32)).toUInt32.toUInt16.toUInt32.toInt32)), .val (.int ((p2 &&& (255 : Int32)).toUInt32.toUInt16.toUInt32.toInt32)), .val (.int ((((p2.toUInt32 >>> ((8 : Int32) &&& 31).toUInt32).toInt32) &&& (255 : Int32)).toUInt32.toUInt16.toUInt32.toInt32)), .val (.ref b1_), .val (.ref b29_), .val (.ref ea_58_), .unset] [(.ref b66_), (.ref b66_), (.ref b63_), (.ref b63_)])) _
    refine XS.bipush X164_.here hx rfl (hb hby at_294) ?_
    refine XS.bipush X164_.here hx rfl (hb hby at_296) ?_
    refine st168_ _ ?_
    show Steps p.tables e below (T168_.setTop (mkF m 299 #[.val (.int p0), .val (.int p1), .val (.int p2), .val (.int ((p1 &&& (255 : Int32)).toUInt32.toUInt16.toUInt32.toInt32)), .val (.int ((((p1.toUInt32 >>> ((8 : Int32) &&& 31).toUInt32).toInt32) &&& (255 : Int32)).toUInt32.toUInt16.toUInt32.toInt32)), .val (.int ((p2 &&& (255 : Int32)).toUInt32.toUInt16.toUInt32.toInt32)), .val (.int ((((p2.toUInt32 >>> ((8 : Int32) &&& 31).toUInt32).toInt32) &&& (255 : Int32)).toUInt32.toUInt16.toUInt32.toInt32)), .val (.ref b1_), .val (.ref b29_), .val (.ref ea_58_), .unset] [(.ref b66_), (.ref b63_), (.ref b63_)])) _
    refine XS.dup X168_.here hx rfl (hb hby at_299) rfl rfl ?_
    show Steps p.tables e below (T168_.setTop (mkF m 300 #[.val (.int p0), .val (.int p1), .val (.int p2), .val (.int ((p1 &&& (255 : Int32)).toUInt32.toUInt16.toUInt32.toInt32)), .val (.int ((((p1.toUInt32 >>> ((8 : Int32) &&& 31).toUInt32).toInt32) &&& (255 : Int32)).toUInt32.toUInt16.toUInt32.toInt32)), .val (.int ((p2 &&& (255 : Int32)).toUInt32.toUInt16.toUInt32.toInt32)), .val (.int ((((p2.toUInt32 >>> ((8 : Int32) &&& 31).toUInt32).toInt32) &&& (255 : Int32)).toUInt32.toUInt16.toUInt32.toInt32)), .val (.ref b1_), .val (.ref b29_), .val (.ref ea_58_), .unset] [(.ref b66_), (.ref b66_), (.ref b63_), (.ref b63_)])) _
    refine XS.bipush X168_.here hx rfl (hb hby at_300) ?_
    refine XS.iloadN X168_.here hx rfl (hb hby at_302) rfl ?_
    refine st172_ _ ?_
    show Steps p.tables e below (T172_.setTop (mkF m 304 #[.val (.int p0), .val (.int p1), .val (.int p2), .val (.int ((p1 &&& (255 : Int32)).toUInt32.toUInt16.toUInt32.toInt32)), .val (.int ((((p1.toUInt32 >>> ((8 : Int32) &&& 31).toUInt32).toInt32) &&& (255 : Int32)).toUInt32.toUInt16.toUInt32.toInt32)), .val (.int ((p2 &&& (255 : Int32)).toUInt32.toUInt16.toUInt32.toInt32)), .val (.int ((((p2.toUInt32 >>> ((8 : Int32) &&& 31).toUInt32).toInt32) &&& (255 : Int32)).toUInt32.toUInt16.toUInt32.toInt32)), .val (.ref b1_), .val (.ref b29_), .val (.ref ea_58_), .unset] [(.ref b66_), (.ref b63_), (.ref b63_)])) _
    refine XS.dup X172_.here hx rfl (hb hby at_304) rfl rfl ?_
    show Steps p.tables e below (T172_.setTop (mkF m 305 #[.val (.int p0), .val (.int p1), .val (.int p2), .val (.int ((p1 &&& (255 : Int32)).toUInt32.toUInt16.toUInt32.toInt32)), .val (.int ((((p1.toUInt32 >>> ((8 : Int32) &&& 31).toUInt32).toInt32) &&& (255 : Int32)).toUInt32.toUInt16.toUInt32.toInt32)), .val (.int ((p2 &&& (255 : Int32)).toUInt32.toUInt16.toUInt32.toInt32)), .val (.int ((((p2.toUInt32 >>> ((8 : Int32) &&& 31).toUInt32).toInt32) &&& (255 : Int32)).toUInt32.toUInt16.toUInt32.toInt32)), .val (.ref b1_), .val (.ref b29_), .val (.ref ea_58_), .unset] [(.ref b66_), (.ref b66_), (.ref b63_), (.ref b63_)])) _
    refine XS.bipush X172_.here hx rfl (hb hby at_305) ?_
    refine XS.iload X172_.here hx rfl (hb hby at_307) rfl ?_
    refine st176_ _ ?_
    show Steps p.tables e below (T176_.setTop (mkF m 310 #[.val (.int p0), .val (.int p1), .val (.int p2), .val (.int ((p1 &&& (255 : Int32)).toUInt32.toUInt16.toUInt32.toInt32)), .val (.int ((((p1.toUInt32 >>> ((8 : Int32) &&& 31).toUInt32).toInt32) &&& (255 : Int32)).toUInt32.toUInt16.toUInt32.toInt32)), .val (.int ((p2 &&& (255 : Int32)).toUInt32.toUInt16.toUInt32.toInt32)), .val (.int ((((p2.toUInt32 >>> ((8 : Int32) &&& 31).toUInt32).toInt32) &&& (255 : Int32)).toUInt32.toUInt16.toUInt32.toInt32)), .val (.ref b1_), .val (.ref b29_), .val (.ref ea_58_), .unset] [(.ref b66_), (.ref b63_), (.ref b63_)])) _
    refine XS.dup X176_.here hx rfl (hb hby at_310) rfl rfl ?_
    show Steps p.tables e below (T176_.setTop (mkF m 311 #[.val (.int p0), .val (.int p1), .val (.int p2), .val (.int ((p1 &&& (255 : Int32)).toUInt32.toUInt16.toUInt32.toInt32)), .val (.int ((((p1.toUInt32 >>> ((8 : Int32) &&& 31).toUInt32).toInt32) &&& (255 : Int32)).toUInt32.toUInt16.toUInt32.toInt32)), .val (.int ((p2 &&& (255 : Int32)).toUInt32.toUInt16.toUInt32.toInt32)), .val (.int ((((p2.toUInt32 >>> ((8 : Int32) &&& 31).toUInt32).toInt32) &&& (255 : Int32)).toUInt32.toUInt16.toUInt32.toInt32)), .val (.ref b1_), .val (.ref b29_), .val (.ref ea_58_), .unset] [(.ref b66_), (.ref b66_), (.ref b63_), (.ref b63_)])) _
    refine XS.bipush X176_.here hx rfl (hb hby at_311) ?_
    refine XS.bipush X176_.here hx rfl (hb hby at_313) ?_
    refine st180_ _ ?_
    show Steps p.tables e below (T180_.setTop (mkF m 316 #[.val (.int p0), .val (.int p1), .val (.int p2), .val (.int ((p1 &&& (255 : Int32)).toUInt32.toUInt16.toUInt32.toInt32)), .val (.int ((((p1.toUInt32 >>> ((8 : Int32) &&& 31).toUInt32).toInt32) &&& (255 : Int32)).toUInt32.toUInt16.toUInt32.toInt32)), .val (.int ((p2 &&& (255 : Int32)).toUInt32.toUInt16.toUInt32.toInt32)), .val (.int ((((p2.toUInt32 >>> ((8 : Int32) &&& 31).toUInt32).toInt32) &&& (255 : Int32)).toUInt32.toUInt16.toUInt32.toInt32)), .val (.ref b1_), .val (.ref b29_), .val (.ref ea_58_), .unset] [(.ref b66_), (.ref b63_), (.ref b63_)])) _
    refine XS.dup X180_.here hx rfl (hb hby at_316) rfl rfl ?_
    show Steps p.tables e below (T180_.setTop (mkF m 317 #[.val (.int p0), .val (.int p1), .val (.int p2), .val (.int ((p1 &&& (255 : Int32)).toUInt32.toUInt16.toUInt32.toInt32)), .val (.int ((((p1.toUInt32 >>> ((8 : Int32) &&& 31).toUInt32).toInt32) &&& (255 : Int32)).toUInt32.toUInt16.toUInt32.toInt32)), .val (.int ((p2 &&& (255 : Int32)).toUInt32.toUInt16.toUInt32.toInt32)), .val (.int ((((p2.toUInt32 >>> ((8 : Int32) &&& 31).toUInt32).toInt32) &&& (255 : Int32)).toUInt32.toUInt16.toUInt32.toInt32)), .val (.ref b1_), .val (.ref b29_), .val (.ref ea_58_), .unset] [(.ref b66_), (.ref b66_), (.ref b63_), (.ref b63_)])) _
    refine XS.bipush X180_.here hx rfl (hb hby at_317) ?_
    refine XS.bipush X180_.here hx rfl (hb hby at_319) ?_
    refine st184_ _ ?_
    show Steps p.tables e below (T184_.setTop (mkF m 322 #[.val (.int p0), .val (.int p1), .val (.int p2), .val (.int ((p1 &&& (255 : Int32)).toUInt32.toUInt16.toUInt32.toInt32)), .val (.int ((((p1.toUInt32 >>> ((8 : Int32) &&& 31).toUInt32).toInt32) &&& (255 : Int32)).toUInt32.toUInt16.toUInt32.toInt32)), .val (.int ((p2 &&& (255 : Int32)).toUInt32.toUInt16.toUInt32.toInt32)), .val (.int ((((p2.toUInt32 >>> ((8 : Int32) &&& 31).toUInt32).toInt32) &&& (255 : Int32)).toUInt32.toUInt16.toUInt32.toInt32)), .val (.ref b1_), .val (.ref b29_), .val (.ref ea_58_), .unset] [(.ref b66_), (.ref b63_), (.ref b63_)])) _
    refine XS.dup X184_.here hx rfl (hb hby at_322) rfl rfl ?_
    show Steps p.tables e below (T184_.setTop (mkF m 323 #[.val (.int p0), .val (.int p1), .val (.int p2), .val (.int ((p1 &&& (255 : Int32)).toUInt32.toUInt16.toUInt32.toInt32)), .val (.int ((((p1.toUInt32 >>> ((8 : Int32) &&& 31).toUInt32).toInt32) &&& (255 : Int32)).toUInt32.toUInt16.toUInt32.toInt32)), .val (.int ((p2 &&& (255 : Int32)).toUInt32.toUInt16.toUInt32.toInt32)), .val (.int ((((p2.toUInt32 >>> ((8 : Int32) &&& 31).toUInt32).toInt32) &&& (255 : Int32)).toUInt32.toUInt16.toUInt32.toInt32)), .val (.ref b1_), .val (.ref b29_), .val (.ref ea_58_), .unset] [(.ref b66_), (.ref b66_), (.ref b63_), (.ref b63_)])) _
    refine XS.bipush X184_.here hx rfl (hb hby at_323) ?_
    refine XS.bipush X184_.here hx rfl (hb hby at_325) ?_
    refine st188_ _ ?_
    show Steps p.tables e below (T188_.setTop (mkF m 328 #[.val (.int p0), .val (.int p1), .val (.int p2), .val (.int ((p1 &&& (255 : Int32)).toUInt32.toUInt16.toUInt32.toInt32)), .val (.int ((((p1.toUInt32 >>> ((8 : Int32) &&& 31).toUInt32).toInt32) &&& (255 : Int32)).toUInt32.toUInt16.toUInt32.toInt32)), .val (.int ((p2 &&& (255 : Int32)).toUInt32.toUInt16.toUInt32.toInt32)), .val (.int ((((p2.toUInt32 >>> ((8 : Int32) &&& 31).toUInt32).toInt32) &&& (255 : Int32)).toUInt32.toUInt16.toUInt32.toInt32)), .val (.ref b1_), .val (.ref b29_), .val (.ref ea_58_), .unset] [(.ref b66_), (.ref b63_), (.ref b63_)])) _
    refine XS.dup X188_.here hx rfl (hb hby at_328) rfl rfl ?_
    show Steps p.tables e below (T188_.setTop (mkF m 329 #[.val (.int p0), .val (.int p1), .val (.int p2), .val (.int ((p1 &&& (255 : Int32)).toUInt32.toUInt16.toUInt32.toInt32)), .val (.int ((((p1.toUInt32 >>> ((8 : Int32) &&& 31).toUInt32).toInt32) &&& (255 : Int32)).toUInt32.toUInt16.toUInt32.toInt32)), .val (.int ((p2 &&& (255 : Int32)).toUInt32.toUInt16.toUInt32.toInt32)), .val (.int ((((p2.toUInt32 >>> ((8 : Int32) &&& 31).toUInt32).toInt32) &&& (255 : Int32)).toUInt32.toUInt16.toUInt32.toInt32)), .val (.ref b1_), .val (.ref b29_), .val (.ref ea_58_), .unset] [(.ref b66_), (.ref b66_), (.ref b63_), (.ref b63_)])) _
    refine XS.bipush X188_.here hx rfl (hb hby at_329) ?_
    refine XS.iload X188_.here hx rfl (hb hby at_331) rfl ?_
    refine st192_ _ ?_
    show Steps p.tables e below (T192_.setTop (mkF m 334 #[.val (.int p0), .val (.int p1), .val (.int p2), .val (.int ((p1 &&& (255 : Int32)).toUInt32.toUInt16.toUInt32.toInt32)), .val (.int ((((p1.toUInt32 >>> ((8 : Int32) &&& 31).toUInt32).toInt32) &&& (255 : Int32)).toUInt32.toUInt16.toUInt32.toInt32)), .val (.int ((p2 &&& (255 : Int32)).toUInt32.toUInt16.toUInt32.toInt32)), .val (.int ((((p2.toUInt32 >>> ((8 : Int32) &&& 31).toUInt32).toInt32) &&& (255 : Int32)).toUInt32.toUInt16.toUInt32.toInt32)), .val (.ref b1_), .val (.ref b29_), .val (.ref ea_58_), .unset] [(.ref b66_), (.ref b63_), (.ref b63_)])) _
    refine XS.dup X192_.here hx rfl (hb hby at_334) rfl rfl ?_
    show Steps p.tables e below (T192_.setTop (mkF m 335 #[.val (.int p0), .val (.int p1), .val (.int p2), .val (.int ((p1 &&& (255 : Int32)).toUInt32.toUInt16.toUInt32.toInt32)), .val (.int ((((p1.toUInt32 >>> ((8 : Int32) &&& 31).toUInt32).toInt32) &&& (255 : Int32)).toUInt32.toUInt16.toUInt32.toInt32)), .val (.int ((p2 &&& (255 : Int32)).toUInt32.toUInt16.toUInt32.toInt32)), .val (.int ((((p2.toUInt32 >>> ((8 : Int32) &&& 31).toUInt32).toInt32) &&& (255 : Int32)).toUInt32.toUInt16.toUInt32.toInt32)), .val (.ref b1_), .val (.ref b29_), .val (.ref ea_58_), .unset] [(.ref b66_), (.ref b66_), (.ref b63_), (.ref b63_)])) _
    refine XS.bipush X192_.here hx rfl (hb hby at_335) ?_
    refine XS.iload X192_.here hx rfl (hb hby at_337) rfl ?_
    refine st196_ _ ?_
    show Steps p.tables e below (T196_.setTop (mkF m 340 #[.val (.int p0), .val (.int p1), .val (.int p2), .val (.int ((p1 &&& (255 : Int32)).toUInt32.toUInt16.toUInt32.toInt32)), .val (.int ((((p1.toUInt32 >>> ((8 : Int32) &&& 31).toUInt32).toInt32) &&& (255 : Int32)).toUInt32.toUInt16.toUInt32.toInt32)), .val (.int ((p2 &&& (255 : Int32)).toUInt32.toUInt16.toUInt32.toInt32)), .val (.int ((((p2.toUInt32 >>> ((8 : Int32) &&& 31).toUInt32).toInt32) &&& (255 : Int32)).toUInt32.toUInt16.toUInt32.toInt32)), .val (.ref b1_), .val (.ref b29_), .val (.ref ea_58_), .unset] [(.ref b66_), (.ref b63_), (.ref b63_)])) _
    refine st200_.trans ?_
    show Steps p.tables e below (T200_.setTop (mkF m 343 #[.val (.int p0), .val (.int p1), .val (.int p2), .val (.int ((p1 &&& (255 : Int32)).toUInt32.toUInt16.toUInt32.toInt32)), .val (.int ((((p1.toUInt32 >>> ((8 : Int32) &&& 31).toUInt32).toInt32) &&& (255 : Int32)).toUInt32.toUInt16.toUInt32.toInt32)), .val (.int ((p2 &&& (255 : Int32)).toUInt32.toUInt16.toUInt32.toInt32)), .val (.int ((((p2.toUInt32 >>> ((8 : Int32) &&& 31).toUInt32).toInt32) &&& (255 : Int32)).toUInt32.toUInt16.toUInt32.toInt32)), .val (.ref b1_), .val (.ref b29_), .val (.ref ea_58_), .unset] [(.ref b63_)])) _
    refine XS.astore X200_.here hx rfl (hb hby at_343) rfl rfl (l' := #[.val (.int p0), .val (.int p1), .val (.int p2), .val (.int ((p1 &&& (255 : Int32)).toUInt32.toUInt16.toUInt32.toInt32)), .val (.int ((((p1.toUInt32 >>> ((8 : Int32) &&& 31).toUInt32).toInt32) &&& (255 : Int32)).toUInt32.toUInt16.toUInt32.toInt32)), .val (.int ((p2 &&& (255 : Int32)).toUInt32.toUInt16.toUInt32.toInt32)), .val (.int ((((p2.toUInt32 >>> ((8 : Int32) &&& 31).toUInt32).toInt32) &&& (255 : Int32)).toUInt32.toUInt16.toUInt32.toInt32)), .val (.ref b1_), .val (.ref b29_), .val (.ref ea_58_), .val (.ref b63_)]) rfl ?_
    show Steps p.tables e below (T200_.setTop (mkF m 345 #[.val (.int p0), .val (.int p1), .val (.int p2), .val (.int ((p1 &&& (255 : Int32)).toUInt32.toUInt16.toUInt32.toInt32)), .val (.int ((((p1.toUInt32 >>> ((8 : Int32) &&& 31).toUInt32).toInt32) &&& (255 : Int32)).toUInt32.toUInt16.toUInt32.toInt32)), .val (.int ((p2 &&& (255 : Int32)).toUInt32.toUInt16.toUInt32.toInt32)), .val (.int ((((p2.toUInt32 >>> ((8 : Int32) &&& 31).toUInt32).toInt32) &&& (255 : Int32)).toUInt32.toUInt16.toUInt32.toInt32)), .val (.ref b1_), .val (.ref b29_), .val (.ref ea_58_), .val (.ref b63_)] [])) _
    refine XS.aload X200_.here hx rfl (hb hby at_345) rfl rfl ?_
    refine st242_.trans ?_
    show Steps p.tables e below (T242_.setTop (mkF m 350 #[.val (.int p0), .val (.int p1), .val (.int p2), .val (.int ((p1 &&& (255 : Int32)).toUInt32.toUInt16.toUInt32.toInt32)), .val (.int ((((p1.toUInt32 >>> ((8 : Int32) &&& 31).toUInt32).toInt32) &&& (255 : Int32)).toUInt32.toUInt16.toUInt32.toInt32)), .val (.int ((p2 &&& (255 : Int32)).toUInt32.toUInt16.toUInt32.toInt32)), .val (.int ((((p2.toUInt32 >>> ((8 : Int32) &&& 31).toUInt32).toInt32) &&& (255 : Int32)).toUInt32.toUInt16.toUInt32.toInt32)), .val (.ref b1_), .val (.ref b29_), .val (.ref ea_58_), .val (.ref b63_)] [.null])) _
    refine XS.ifnonnullNo X242_.here hx rfl (hb hby at_350) rfl ?_
    show Steps p.tables e below (T242_.setTop (mkF m 353 #[.val (.int p0), .val (.int p1), .val (.int p2), .val (.int ((p1 &&& (255 : Int32)).toUInt32.toUInt16.toUInt32.toInt32)), .val (.int ((((p1.toUInt32 >>> ((8 : Int32) &&& 31).toUInt32).toInt32) &&& (255 : Int32)).toUInt32.toUInt16.toUInt32.toInt32)), .val (.int ((p2 &&& (255 : Int32)).toUInt32.toUInt16.toUInt32.toInt32)), .val (.int ((((p2.toUInt32 >>> ((8 : Int32) &&& 31).toUInt32).toInt32) &&& (255 : Int32)).toUInt32.toUInt16.toUInt32.toInt32)), .val (.ref b1_), .val (.ref b29_), .val (.ref ea_58_), .val (.ref b63_)] [])) _
    refine XS.aload X242_.here hx rfl (hb hby at_353) rfl rfl ?_
    refine XS.aload X242_.here hx rfl (hb hby at_355) rfl rfl ?_
    refine st247_.trans ?_
    show Steps p.tables e below (T247_.setTop (mkF m 360 #[.val (.int p0), .val (.int p1), .val (.int p2), .val (.int ((p1 &&& (255 : Int32)).toUInt32.toUInt16.toUInt32.toInt32)), .val (.int ((((p1.toUInt32 >>> ((8 : Int32) &&& 31).toUInt32).toInt32) &&& (255 : Int32)).toUInt32.toUInt16.toUInt32.toInt32)), .val (.int ((p2 &&& (255 : Int32)).toUInt32.toUInt16.toUInt32.toInt32)), .val (.int ((((p2.toUInt32 >>> ((8 : Int32) &&& 31).toUInt32).toInt32) &&& (255 : Int32)).toUInt32.toUInt16.toUInt32.toInt32)), .val (.ref b1_), .val (.ref b29_), .val (.ref ea_58_), .val (.ref b63_)] [(.ref xm_58_), (.ref b63_)])) _
    refine st253_.trans ?_
    show Steps p.tables e below (T253_.setTop (mkF m 363 #[.val (.int p0), .val (.int p1), .val (.int p2), .val (.int ((p1 &&& (255 : Int32)).toUInt32.toUInt16.toUInt32.toInt32)), .val (.int ((((p1.toUInt32 >>> ((8 : Int32) &&& 31).toUInt32).toInt32) &&& (255 : Int32)).toUInt32.toUInt16.toUInt32.toInt32)), .val (.int ((p2 &&& (255 : Int32)).toUInt32.toUInt16.toUInt32.toInt32)), .val (.int ((((p2.toUInt32 >>> ((8 : Int32) &&& 31).toUInt32).toInt32) &&& (255 : Int32)).toUInt32.toUInt16.toUInt32.toInt32)), .val (.ref b1_), .val (.ref b29_), .val (.ref ea_58_), .val (.ref b63_)] [(.int (1 : Int32))])) _
    refine XS.ifNo X253_.here hx rfl (hb hby at_363) rfl ((if0 _ _).trans (feq ((by decide) : ¬ ((1 : Int32) = (0 : Int32)))).1) ?_
    show Steps p.tables e below (T253_.setTop (mkF m 366 #[.val (.int p0), .val (.int p1), .val (.int p2), .val (.int ((p1 &&& (255 : Int32)).toUInt32.toUInt16.toUInt32.toInt32)), .val (.int ((((p1.toUInt32 >>> ((8 : Int32) &&& 31).toUInt32).toInt32) &&& (255 : Int32)).toUInt32.toUInt16.toUInt32.toInt32)), .val (.int ((p2 &&& (255 : Int32)).toUInt32.toUInt16.toUInt32.toInt32)), .val (.int ((((p2.toUInt32 >>> ((8 : Int32) &&& 31).toUInt32).toInt32) &&& (255 : Int32)).toUInt32.toUInt16.toUInt32.toInt32)), .val (.ref b1_), .val (.ref b29_), .val (.ref ea_58_), .val (.ref b63_)] [])) _
    refine XS.iconst X253_.here hx rfl (hb hby at_366) ?_
    refine XS.goto X253_.here hx rfl (pc0 := 367) (pc' := 371) rfl (hb hby at_367) (by decide) (by decide) ?_
    show Steps p.tables e below (T253_.setTop (mkF m 371 #[.val (.int p0), .val (.int p1), .val (.int p2), .val (.int ((p1 &&& (255 : Int32)).toUInt32.toUInt16.toUInt32.toInt32)), .val (.int ((((p1.toUInt32 >>> ((8 : Int32) &&& 31).toUInt32).toInt32) &&& (255 : Int32)).toUInt32.toUInt16.toUInt32.toInt32)), .val (.int ((p2 &&& (255 : Int32)).toUInt32.toUInt16.toUInt32.toInt32)), .val (.int ((((p2.toUInt32 >>> ((8 : Int32) &&& 31).toUInt32).toInt32) &&& (255 : Int32)).toUInt32.toUInt16.toUInt32.toInt32)), .val (.ref b1_), .val (.ref b29_), .val (.ref ea_58_), .val (.ref b63_)] [(.int (1 : Int32))])) _
    exact retN X253_ hx (t := .boolean) Bd.returns (by simp) (hb hby at_371) hr
  · show Q_rm0b Z p0 p1 p2 G1 vU vS h0 n0 _ T253_.heap _
    rw [ek253_]
    exact ⟨rfl, N253_⟩
  · show CHr Z consts_1 s.vm s.heap T253_.vm T253_.heap
    rw [hh]
    rw [ek253_]
    exact cr241_.trans (CHv.at X253_ hZ58_ hEL ch240_)
set_option maxRecDepth 65536 in
set_option maxHeartbeats 40000000 in
theorem comes_1 {Post : Tables → Env → Array Value → State → Outcome → State → Prop} (hpost : ∀ tb e args s v u, (limb_1_1.after args s (.returned v) u = true ∧ limb_1_2.after args s (.returned v) u = true ∧ True) → ReturnedEndW s (.returned v) u (Jvm.fieldLocs frame_1_writes args s ++ Jvm.arrayLocs frame_1_arrays args s ++ Jvm.staticLocs frame_1_statics s) 48 10048 → Post tb e args s (.returned v) u) :
    ArmFor flags0 classFile x code maxLocals ret World_1 tables_1 room_1 Calls_1 rest_1 Pre_1 Post := by
  intro l hfl _ _ p e ha hc hk s m args below hf hA hF happ hP
  obtain ⟨hcalls, hrest, hpre⟩ := hP
  obtain ⟨-, -, -, hnamed, -, -, -, hat⟩ := (Spec.applies_iff hf).mp happ
  obtain ⟨hg, hn⟩ := and_e (Cond.before_iff.mp (show (Jvm.Cond.and given_1 narrow_1).before args s = true from hpre))
  obtain ⟨g0, r0⟩ := and_e hg
  obtain ⟨g1, r1⟩ := and_e r0
  obtain ⟨g2, r2⟩ := and_e r1
  have g3 := r2
  obtain ⟨w0, w1, w2, rfl⟩ : ∃ w0 w1 w2 : Value, args = #[w0, w1, w2] := by
    have hs : args.size = 3 := by simpa [Cond.value, given_1] using g0
    obtain ⟨L⟩ := args
    match L, hs with
    | [w0, w1, w2], _ => exact ⟨w0, w1, w2, rfl⟩
  have hw := fun d (hd : d ∈ tables_1) => atoms_spec (ws := Jvm.Cond.code x code maxLocals ret :: tables_1) hat d (List.mem_cons_of_mem _ hd)
  obtain ⟨hsets, hown0⟩ := atoms_of _ (rest_1_c_eq ▸ (show rest_1_c.before _ s = true from hrest))
  obtain ⟨i0, ei0⟩ := is_v g1
  obtain rfl : w0 = (.int i0) := Option.some.inj ei0
  obtain ⟨i1, ei1⟩ := is_v g2
  obtain rfl : w1 = (.int i1) := Option.some.inj ei1
  obtain ⟨i2, ei2⟩ := is_v g3
  obtain rfl : w2 = (.int i2) := Option.some.inj ei2
  have nC := not_v (Cond.before_iff.mp (hsets _ (List.mem_of_getElem? (i := 2) rfl)))
  obtain ⟨iC, eC⟩ := is_v (Cond.before_iff.mp (hsets _ (List.mem_of_getElem? (i := 1) rfl)))
  have SC : Sta s s.heap "java/lang/String" "COMPACT_STRINGS" "Z" (.int iC) := Sta.start eC (Or.inl (hsets _ (List.mem_of_getElem? (i := 0) rfl)))
  have cC : ¬ (iC = (0 : Int32)) := gotF (Cond.eq_ints eC (Term.int_eval (0))) nC
  have hEL : EW s _ consts_1 := (EW.cons (hw _ (List.mem_of_getElem? (i := 118) rfl)) (by decide) (EW.cons (hw _ (List.mem_of_getElem? (i := 46) rfl)) (by decide) (EW.cons (hw _ (List.mem_of_getElem? (i := 226) rfl)) (by decide) (EW.cons (hw _ (List.mem_of_getElem? (i := 14) rfl)) (by decide) EW.nil))))
  have CH0 : CHv s consts_1 s.vm s.heap := CHv.start hEL (fun p hp => hcalls.2.2.1 p hp) (hsets _ (List.mem_of_getElem? (i := 2) rfl)) (hw _ (List.mem_of_getElem? (i := 15) rfl)) (hw _ (List.mem_of_getElem? (i := 1) rfl))
  obtain ⟨vU, evU, rU⟩ := isR_v (Cond.before_iff.mp (hsets _ (List.mem_of_getElem? (i := 16) rfl)))
  have TU : Sta s s.heap "java/lang/Throwable" "UNASSIGNED_STACK" "[Ljava/lang/StackTraceElement;" vU := Sta.start evU (Or.inl (hsets _ (List.mem_of_getElem? (i := 15) rfl)))
  obtain ⟨vS, evS, rS⟩ := isR_v (Cond.before_iff.mp (hsets _ (List.mem_of_getElem? (i := 21) rfl)))
  have TS : Sta s s.heap "java/lang/Throwable" "SUPPRESSED_SENTINEL" "Ljava/util/List;" vS := Sta.start evS (Or.inl (hsets _ (List.mem_of_getElem? (i := 20) rfl)))
  have hl : l.stackTraces = true := by unfold Launch.stackTraces; rw [hfl]; decide
  by_cases k0 : (i0 &&& (1 : Int32)) = (0 : Int32)
  · obtain ⟨n, o, h1, h2, h3, _, L, rfl, ⟨rfl, N⟩, -, hq⟩ := rm0a l s _ hw hEL tables_1 i0 i1 i2 iC vU vS s.heap s.heap.size (Nat.le_refl _) SC cC (Old.start s) TU rU TS rS hl k0 p e ha hc hk s m _ below hf ((Spec.applies_iff_loose hf).mp happ).1 ⟨rfl, State.Warmed39.refl s, rfl, CH0⟩ ⟨MethodsKnown_of_tablesKnown hcalls.2.1, FramesKnown_of_framesKnown hcalls.1 hf⟩
    refine ⟨n, _, h1, h2, h3, hpost _ _ _ _ _ _ ⟨Cond.after_iff.mpr rfl, Cond.after_iff.mpr (eq_i res_at (Term.int_eval (1)) rfl), trivial⟩ ⟨hq.1, hq.2.1, hq.2.2.1, (hq.2.2.2.sift fun y hy => Or.inr (N y hy)).mono (by decide) (by decide)⟩⟩
  · obtain ⟨n, o, h1, h2, h3, _, L, rfl, ⟨rfl, N⟩, -, hq⟩ := rm0b l s _ hw hEL tables_1 i0 i1 i2 iC vU vS s.heap s.heap.size (Nat.le_refl _) SC cC (Old.start s) TU rU TS rS hl k0 p e ha hc hk s m _ below hf ((Spec.applies_iff_loose hf).mp happ).1 ⟨rfl, State.Warmed39.refl s, rfl, CH0⟩ ⟨MethodsKnown_of_tablesKnown hcalls.2.1, FramesKnown_of_framesKnown hcalls.1 hf⟩
    refine ⟨n, _, h1, h2, h3, hpost _ _ _ _ _ _ ⟨Cond.after_iff.mpr rfl, Cond.after_iff.mpr (eq_i res_at (Term.int_eval (1)) rfl), trivial⟩ ⟨hq.1, hq.2.1, hq.2.2.1, (hq.2.2.2.sift fun y hy => Or.inr (N y hy)).mono (by decide) (by decide)⟩⟩
theorem main_1_1 : Claimed_1_1 := comes_1 fun _ _ _ _ _ _ h hF => ⟨h.1, hF⟩
theorem main_1_2 : Claimed_1_2 := comes_1 fun _ _ _ _ _ _ h hF => ⟨h.2.1, hF⟩

end Jvm.Pilot.@@N@@
namespace Jvm.Pilot.@@N@@
open Jvm Jvm.ClassFile Sem Op Lib Jvm.Free Jvm.Stand Jvm.Pilot.@@N@@.Jvm.D
/-! MADE BY PROGRAM (witnessworld.py) out of the Statement's table words and the real class files: 43 classes; the members and pool entries that the words name. The judged class is class 1, her method 1. -/
namespace start1
open Jvm.ClassFile
def u (s : String) : CpInfo := .utf8 (stringToUtf16 s)
/-- a pool by its gaps: so many unusable entries, then the entry; so many at the end -/
def gap : Nat → List CpInfo → List CpInfo
  | 0, r => r
  | n + 1, r => .unusable :: gap n r
def poolList (es : List (Nat × CpInfo)) (last : Nat) : List CpInfo := es.foldr (fun e r => gap e.1 (e.2 :: r)) (gap last [])
def pool (es : List (Nat × CpInfo)) (last : Nat) : Array CpInfo := ⟨poolList es last⟩
def fileOf (pool : Array CpInfo) (this : Nat) (attrs : Array Attribute := #[]) (ms : Array MethodInfo := #[]) (fl : Nat := 33) (sup : Nat := 0) (ifs : Array Nat := #[]) (fds : Array FieldInfo := #[]) : ClassFile where
  minorVersion := 0
  majorVersion := 65
  constantPool := pool
  accessFlags := fl
  thisClass := this
  superClass := sup
  interfaces := ifs
  fields := fds
  methods := ms
  attributes := attrs
def plain (name : String) (sup : Option ClassId) : Class where
  name := name
  kind := .ordinary
  loader := none
  accessFlags := 33
  super := sup
  interfaces := #[]
  cf := none
  fields := #[]
  methods := #[]
  instanceTypes := #[]
  staticTypes := #[]
  resolved := #[]
  callSites := []
  init := .initialized
  statics := none
  mirror := none

def pool0 : Array CpInfo := pool [(5, u "<init>"), (0, u "()V"), (1, .class_ 10), (1, u "java/lang/Object")] 113

def k0c0 : Code := { maxStack := 0, maxLocals := 1, code := object_method_1_code, exceptionTable := #[], attributes := #[] }
def k0m0 : Method := { name := "<init>", desc := "()V", sig := { parameters := [], returnType := none }, accessFlags := 1, code := some k0c0 }
/-- java/lang/Object -/
def k0 : Class := { plain "java/lang/Object" none with
  accessFlags := 33
  interfaces := #[]
  cf := some (fileOf pool0 8 #[] #[{ accessFlags := 1, nameIndex := 5, descriptorIndex := 6, attributes := #[] }] 33 0 #[] #[])
  fields := #[]
  methods := #[k0m0]
  instanceTypes := #[]
  staticTypes := #[]
  resolved := Array.replicate 124 none
  statics := none }

def pool1 : Array CpInfo := pool [(2, .class_ 4), (1, u "java/lang/Object"), (0, u "<init>"), (0, u "()V"), (0, .class_ 8), (0, u "java/lang/String"), (0, .methodref 7 10), (0, .nameAndType 5 11), (0, u "([C)V"), (0, .methodref 13 14), (0, .class_ 15), (0, .nameAndType 16 17), (0, u "com/example/hyacinth/hyacinth/error/BeanDefinitionStoreException"), (0, u "invalidDefinition"), (0, u "(Ljava/lang/String;Ljava/lang/String;)Lcom/example/hyacinth/hyacinth/error/BeanDefinitionStoreException;"), (0, .methodref 13 19), (0, .nameAndType 20 21), (0, u "getCause"), (0, u "()Ljava/lang/Throwable;"), (0, .string 23), (0, u "invalid bean definition '': "), (0, .methodref 13 25), (0, .nameAndType 26 27), (0, u "getMessage"), (0, u "()Ljava/lang/String;"), (0, .methodref 7 29), (0, .nameAndType 30 31), (0, u "equals"), (0, u "(Ljava/lang/Object;)Z"), (0, .class_ 33), (0, u "com/example/hyacinth/hyacinth/error/BeanDefinitionStoreExceptionInvalidDefinitionPinLaw"), (2, u "law"), (0, u "(III)Z")] 3

def k1m0 : Method := { name := "<init>", desc := "()V", sig := { parameters := [], returnType := none }, accessFlags := 1, code := none }
def k1c1 : Code := { maxStack := 6, maxLocals := 11, code := code, exceptionTable := #[], attributes := #[] }
def k1m1 : Method := { name := "law", desc := "(III)Z", sig := { parameters := [.int, .int, .int], returnType := some .boolean }, accessFlags := 9, code := some k1c1 }
/-- com/example/hyacinth/hyacinth/error/BeanDefinitionStoreExceptionInvalidDefinitionPinLaw -/
def k1 : Class := { plain "com/example/hyacinth/hyacinth/error/BeanDefinitionStoreExceptionInvalidDefinitionPinLaw" (some 0) with
  accessFlags := 49
  interfaces := #[]
  cf := some (fileOf pool1 32 #[] #[{ accessFlags := 1, nameIndex := 5, descriptorIndex := 6, attributes := #[] }, { accessFlags := 9, nameIndex := 36, descriptorIndex := 37, attributes := #[] }] 49 2 #[] #[])
  fields := #[]
  methods := #[k1m0, k1m1]
  instanceTypes := #[]
  staticTypes := #[]
  resolved := Array.replicate 41 none
  statics := none }

def pool2 : Array CpInfo := pool [(1, .class_ 2), (0, u "java/io/Serializable"), (0, .class_ 4), (0, u "java/lang/Object")] 2

/-- java/io/Serializable -/
def k2 : Class := { plain "java/io/Serializable" (some 0) with
  accessFlags := 1537
  interfaces := #[]
  cf := some (fileOf pool2 1 #[] #[] 1537 3 #[] #[])
  fields := #[]
  methods := #[]
  instanceTypes := #[]
  staticTypes := #[]
  resolved := Array.replicate 7 none
  statics := none }

def pool3 : Array CpInfo := pool [(1, .class_ 2), (0, u "java/lang/Comparable"), (0, .class_ 4), (0, u "java/lang/Object")] 7

/-- java/lang/Comparable -/
def k3 : Class := { plain "java/lang/Comparable" (some 0) with
  accessFlags := 1537
  interfaces := #[]
  cf := some (fileOf pool3 1 #[] #[] 1537 3 #[] #[])
  fields := #[]
  methods := #[]
  instanceTypes := #[]
  staticTypes := #[]
  resolved := Array.replicate 12 none
  statics := none }

def pool4 : Array CpInfo := pool [(2, .class_ 4), (1, u "java/lang/CharSequence"), (42, .class_ 48), (0, u "java/lang/CharSequence$1CodePointIterator"), (10, .class_ 60), (0, u "java/lang/CharSequence$1CharIterator"), (5, .class_ 67), (0, u "java/lang/Object")] 63

/-- java/lang/CharSequence -/
def k4 : Class := { plain "java/lang/CharSequence" (some 0) with
  accessFlags := 1537
  interfaces := #[]
  cf := some (fileOf pool4 2 #[.nestMembers #[47, 59]] #[] 1537 66 #[] #[])
  fields := #[]
  methods := #[]
  instanceTypes := #[]
  staticTypes := #[]
  resolved := Array.replicate 131 none
  statics := none }

def pool5 : Array CpInfo := pool [(1, .class_ 2), (0, u "java/lang/constant/Constable"), (0, .class_ 4), (0, u "java/lang/Object")] 6

/-- java/lang/constant/Constable -/
def k5 : Class := { plain "java/lang/constant/Constable" (some 0) with
  accessFlags := 1537
  interfaces := #[]
  cf := some (fileOf pool5 1 #[] #[] 1537 3 #[] #[])
  fields := #[]
  methods := #[]
  instanceTypes := #[]
  staticTypes := #[]
  resolved := Array.replicate 11 none
  statics := none }

def pool6 : Array CpInfo := pool [(1, .class_ 2), (0, u "java/lang/constant/ConstantDesc"), (0, .class_ 4), (0, u "java/lang/Object")] 32

/-- java/lang/constant/ConstantDesc -/
def k6 : Class := { plain "java/lang/constant/ConstantDesc" (some 0) with
  accessFlags := 1537
  interfaces := #[]
  cf := some (fileOf pool6 1 #[] #[] 1537 3 #[] #[])
  fields := #[]
  methods := #[]
  instanceTypes := #[]
  staticTypes := #[]
  resolved := Array.replicate 37 none
  statics := none }

def pool7 : Array CpInfo := pool [(1, .methodref 2 3), (0, .class_ 4), (0, .nameAndType 5 6), (0, u "java/lang/Object"), (0, u "<init>"), (0, u "()V"), (0, .string 8), (0, u ""), (0, .fieldref 10 11), (0, .class_ 12), (0, .nameAndType 13 14), (0, u "java/lang/String"), (0, u "value"), (0, u "[B"), (0, .fieldref 10 16), (0, .nameAndType 17 18), (0, u "coder"), (0, u "B"), (2, u "hash"), (0, u "I"), (2, u "hashIsZero"), (0, u "Z"), (0, .methodref 10 28), (0, .nameAndType 5 29), (0, u "([CIILjava/lang/Void;)V"), (8, .fieldref 10 39), (0, .nameAndType 40 26), (0, u "COMPACT_STRINGS"), (1, .class_ 44), (1, u "java/lang/StringUTF16"), (0, u "compress"), (1, .methodref 42 48), (0, .nameAndType 49 50), (0, u "coderFromArrayLen"), (0, u "([BI)B"), (3, .methodref 55 56), (0, .class_ 57), (0, .nameAndType 58 59), (0, u "java/util/Arrays"), (0, u "copyOfRange"), (0, u "([BII)[B"), (47, .class_ 109), (1, u "java/lang/StringLatin1"), (32, u "()Z"), (34, .methodref 42 178), (0, .nameAndType 45 179), (0, u "([CII)[B"), (13, .class_ 195), (1, u "java/lang/System"), (16, .methodref 193 213), (0, .nameAndType 214 215), (0, u "arraycopy"), (0, u "(Ljava/lang/Object;ILjava/lang/Object;II)V"), (118, u "()I"), (0, .methodref 10 336), (0, .nameAndType 17 337), (0, u "()B"), (2, u "()[B"), (148, .methodref 10 490), (0, .nameAndType 5 491), (0, u "(Ljava/lang/AbstractStringBuilder;Ljava/lang/Void;)V"), (1, .nameAndType 494 142), (0, u "isLatin1"), (11, .nameAndType 507 334), (0, u "length"), (24, u "getBytes"), (8, .methodref 107 542), (0, .nameAndType 543 544), (0, u "equals"), (0, u "([B[B)Z"), (4, .methodref 550 506), (0, .class_ 551), (0, u "java/lang/AbstractStringBuilder"), (0, .methodref 550 553), (0, .nameAndType 554 340), (0, u "getValue"), (18, u "(Ljava/lang/Object;)Z"), (1, .class_ 576), (0, u "java/lang/CharSequence"), (22, u "CASE_INSENSITIVE_ORDER"), (0, u "Ljava/util/Comparator;"), (220, u "([BIB)V"), (188, u "([C)V"), (36, .methodref 550 493), (53, u "serialPersistentFields"), (0, u "[Ljava/io/ObjectStreamField;"), (0, .class_ 1104), (0, u "java/lang/String$CaseInsensitiveComparator"), (1, .class_ 1107), (0, u "java/io/Serializable"), (0, .class_ 1109), (0, u "java/lang/Comparable"), (0, .class_ 1111), (0, u "java/lang/constant/Constable"), (0, .class_ 1113), (0, u "java/lang/constant/ConstantDesc"), (2, u "serialVersionUID"), (0, u "J"), (3, u "REPL"), (0, u "C"), (2, u "LATIN1"), (1, u "UTF16"), (105, u "(Ljava/lang/StringBuilder;)V")] 217

def k7m0 : Method := { name := "<init>", desc := "()V", sig := { parameters := [], returnType := none }, accessFlags := 1, code := none }
def k7c1 : Code := { maxStack := 5, maxLocals := 2, code := jdk_42_method_3_code, exceptionTable := #[], attributes := #[] }
def k7m1 : Method := { name := "<init>", desc := "([C)V", sig := { parameters := [(.array .char)], returnType := none }, accessFlags := 1, code := some k7c1 }
def k7c2 : Code := { maxStack := 3, maxLocals := 2, code := jdk_42_method_53_code, exceptionTable := #[], attributes := #[] }
def k7m2 : Method := { name := "<init>", desc := "(Ljava/lang/StringBuilder;)V", sig := { parameters := [(.object "java/lang/StringBuilder")], returnType := none }, accessFlags := 1, code := some k7c2 }
def k7c3 : Code := { maxStack := 2, maxLocals := 1, code := jdk_42_method_54_code, exceptionTable := #[], attributes := #[] }
def k7m3 : Method := { name := "length", desc := "()I", sig := { parameters := [], returnType := some .int }, accessFlags := 1, code := some k7c3 }
def k7c4 : Code := { maxStack := 2, maxLocals := 3, code := jdk_42_method_66_code, exceptionTable := #[], attributes := #[] }
def k7m4 : Method := { name := "equals", desc := "(Ljava/lang/Object;)Z", sig := { parameters := [(.object "java/lang/Object")], returnType := some .boolean }, accessFlags := 1, code := some k7c4 }
def k7c5 : Code := { maxStack := 5, maxLocals := 4, code := jdk_42_method_147_code, exceptionTable := #[], attributes := #[] }
def k7m5 : Method := { name := "getBytes", desc := "([BIB)V", sig := { parameters := [(.array .byte), .int, .byte], returnType := none }, accessFlags := 0, code := some k7c5 }
def k7c6 : Code := { maxStack := 4, maxLocals := 6, code := jdk_42_method_149_code, exceptionTable := #[], attributes := #[] }
def k7m6 : Method := { name := "<init>", desc := "([CIILjava/lang/Void;)V", sig := { parameters := [(.array .char), .int, .int, (.object "java/lang/Void")], returnType := none }, accessFlags := 2, code := some k7c6 }
def k7c7 : Code := { maxStack := 5, maxLocals := 5, code := jdk_42_method_150_code, exceptionTable := #[], attributes := #[] }
def k7m7 : Method := { name := "<init>", desc := "(Ljava/lang/AbstractStringBuilder;Ljava/lang/Void;)V", sig := { parameters := [(.object "java/lang/AbstractStringBuilder"), (.object "java/lang/Void")], returnType := none }, accessFlags := 0, code := some k7c7 }
def k7c8 : Code := { maxStack := 1, maxLocals := 1, code := jdk_42_method_152_code, exceptionTable := #[], attributes := #[] }
def k7m8 : Method := { name := "coder", desc := "()B", sig := { parameters := [], returnType := some .byte }, accessFlags := 0, code := some k7c8 }
/-- java/lang/String -/
def k7 : Class := { plain "java/lang/String" (some 0) with
  accessFlags := 49
  interfaces := #[2, 3, 4, 5, 6]
  cf := some (fileOf pool7 10 #[.nestMembers #[1103]] #[{ accessFlags := 1, nameIndex := 5, descriptorIndex := 6, attributes := #[] }, { accessFlags := 1, nameIndex := 5, descriptorIndex := 1010, attributes := #[] }, { accessFlags := 1, nameIndex := 5, descriptorIndex := 1233, attributes := #[] }, { accessFlags := 1, nameIndex := 507, descriptorIndex := 334, attributes := #[] }, { accessFlags := 1, nameIndex := 543, descriptorIndex := 573, attributes := #[] }, { accessFlags := 0, nameIndex := 532, descriptorIndex := 821, attributes := #[] }, { accessFlags := 2, nameIndex := 5, descriptorIndex := 29, attributes := #[] }, { accessFlags := 0, nameIndex := 5, descriptorIndex := 491, attributes := #[] }, { accessFlags := 0, nameIndex := 17, descriptorIndex := 337, attributes := #[] }] 49 2 #[1106, 1108, 575, 1110, 1112] #[{ accessFlags := 18, nameIndex := 13, descriptorIndex := 14, attributes := #[] }, { accessFlags := 18, nameIndex := 17, descriptorIndex := 18, attributes := #[] }, { accessFlags := 2, nameIndex := 21, descriptorIndex := 22, attributes := #[] }, { accessFlags := 2, nameIndex := 25, descriptorIndex := 26, attributes := #[] }, { accessFlags := 26, nameIndex := 1116, descriptorIndex := 1117, attributes := #[] }, { accessFlags := 24, nameIndex := 40, descriptorIndex := 26, attributes := #[] }, { accessFlags := 26, nameIndex := 1101, descriptorIndex := 1102, attributes := #[] }, { accessFlags := 26, nameIndex := 1121, descriptorIndex := 1122, attributes := #[] }, { accessFlags := 25, nameIndex := 599, descriptorIndex := 600, attributes := #[] }, { accessFlags := 24, nameIndex := 1125, descriptorIndex := 18, attributes := #[] }, { accessFlags := 24, nameIndex := 1127, descriptorIndex := 18, attributes := #[] }])
  fields := #[{ name := "value", type := (.array .byte), accessFlags := 18, slot := 0, constantValue := 0 }, { name := "coder", type := .byte, accessFlags := 18, slot := 1, constantValue := 0 }, { name := "hash", type := .int, accessFlags := 2, slot := 2, constantValue := 0 }, { name := "hashIsZero", type := .boolean, accessFlags := 2, slot := 3, constantValue := 0 }, { name := "serialVersionUID", type := .long, accessFlags := 26, slot := 0, constantValue := 0 }, { name := "COMPACT_STRINGS", type := .boolean, accessFlags := 24, slot := 1, constantValue := 0 }, { name := "serialPersistentFields", type := (.array (.object "java/io/ObjectStreamField")), accessFlags := 26, slot := 2, constantValue := 0 }, { name := "REPL", type := .char, accessFlags := 26, slot := 3, constantValue := 0 }, { name := "CASE_INSENSITIVE_ORDER", type := (.object "java/util/Comparator"), accessFlags := 25, slot := 4, constantValue := 0 }, { name := "LATIN1", type := .byte, accessFlags := 24, slot := 5, constantValue := 0 }, { name := "UTF16", type := .byte, accessFlags := 24, slot := 6, constantValue := 0 }]
  methods := #[k7m0, k7m1, k7m2, k7m3, k7m4, k7m5, k7m6, k7m7, k7m8]
  instanceTypes := #[(.array .byte), .byte, .int, .boolean]
  staticTypes := #[.long, .boolean, (.array (.object "java/io/ObjectStreamField")), .char, (.object "java/util/Comparator"), .byte, .byte]
  resolved := Array.replicate 1451 none
  statics := some 0 }

def pool8 : Array CpInfo := pool [(1, .methodref 2 3), (0, .class_ 4), (0, .nameAndType 5 6), (0, u "java/lang/Object"), (0, u "<init>"), (0, u "()V"), (0, .fieldref 8 9), (0, .class_ 10), (0, .nameAndType 11 12), (0, u "java/lang/Throwable"), (0, u "cause"), (0, u "Ljava/lang/Throwable;"), (0, .fieldref 8 14), (0, .nameAndType 15 16), (0, u "UNASSIGNED_STACK"), (0, u "[Ljava/lang/StackTraceElement;"), (0, .fieldref 8 18), (0, .nameAndType 19 16), (0, u "stackTrace"), (0, .fieldref 8 21), (0, .nameAndType 22 23), (0, u "SUPPRESSED_SENTINEL"), (0, u "Ljava/util/List;"), (0, .fieldref 8 25), (0, .nameAndType 26 23), (0, u "suppressedExceptions"), (0, .methodref 8 28), (0, .nameAndType 29 30), (0, u "fillInStackTrace"), (0, u "()Ljava/lang/Throwable;"), (0, .fieldref 8 32), (0, .nameAndType 33 34), (0, u "detailMessage"), (0, u "Ljava/lang/String;"), (3, u "()Ljava/lang/String;"), (2, u "getMessage"), (51, .class_ 94), (0, u "java/lang/Throwable$WrappedPrintStream"), (6, .class_ 103), (1, u "java/lang/Throwable$PrintStreamOrWriter"), (54, u "getCause"), (6, u "$assertionsDisabled"), (0, u "Z"), (26, .class_ 194), (0, u "java/lang/Throwable$WrappedPrintWriter"), (3, .fieldref 8 199), (0, .nameAndType 200 201), (0, u "backtrace"), (0, u "Ljava/lang/Object;"), (0, .methodref 8 203), (0, .nameAndType 29 204), (0, u "(I)Ljava/lang/Throwable;"), (6, u "depth"), (0, u "I"), (10, u "(Ljava/lang/String;)V"), (45, .class_ 271), (1, u "java/lang/Throwable$SentinelHolder"), (32, u "EMPTY_THROWABLE_ARRAY"), (0, u "[Ljava/lang/Throwable;"), (12, .class_ 319), (0, u "java/io/Serializable"), (0, u "serialVersionUID"), (0, u "J"), (5, u "NULL_CAUSE_MESSAGE"), (0, u "SELF_SUPPRESSION_MESSAGE"), (0, u "CAUSE_CAPTION"), (0, u "SUPPRESSED_CAPTION")] 73

def k8c0 : Code := { maxStack := 2, maxLocals := 1, code := jdk_78_method_1_code, exceptionTable := #[], attributes := #[] }
def k8m0 : Method := { name := "<init>", desc := "()V", sig := { parameters := [], returnType := none }, accessFlags := 1, code := some k8c0 }
def k8c1 : Code := { maxStack := 2, maxLocals := 2, code := jdk_78_method_2_code, exceptionTable := #[], attributes := #[] }
def k8m1 : Method := { name := "<init>", desc := "(Ljava/lang/String;)V", sig := { parameters := [(.object "java/lang/String")], returnType := none }, accessFlags := 1, code := some k8c1 }
def k8c2 : Code := { maxStack := 1, maxLocals := 1, code := jdk_78_method_6_code, exceptionTable := #[], attributes := #[] }
def k8m2 : Method := { name := "getMessage", desc := "()Ljava/lang/String;", sig := { parameters := [], returnType := some (.object "java/lang/String") }, accessFlags := 1, code := some k8c2 }
def k8c3 : Code := { maxStack := 2, maxLocals := 1, code := ⟨#[0x2a, 0xb4, 0x00, 0x07, 0x2a, 0xa6, 0x00, 0x07, 0x01, 0xa7, 0x00, 0x07, 0x2a, 0xb4, 0x00, 0x07, 0xb0]⟩, exceptionTable := #[], attributes := #[] }
def k8m3 : Method := { name := "getCause", desc := "()Ljava/lang/Throwable;", sig := { parameters := [], returnType := some (.object "java/lang/Throwable") }, accessFlags := 33, code := some k8c3 }
def k8c4 : Code := { maxStack := 2, maxLocals := 1, code := ⟨#[0x2a, 0xb4, 0x00, 0x11, 0xc7, 0x00, 0x0a, 0x2a, 0xb4, 0x00, 0xc6, 0xc6, 0x00, 0x10, 0x2a, 0x03, 0xb6, 0x00, 0xca, 0x57, 0x2a, 0xb2, 0x00, 0x0d, 0xb5, 0x00, 0x11, 0x2a, 0xb0]⟩, exceptionTable := #[], attributes := #[] }
def k8m4 : Method := { name := "fillInStackTrace", desc := "()Ljava/lang/Throwable;", sig := { parameters := [], returnType := some (.object "java/lang/Throwable") }, accessFlags := 33, code := some k8c4 }
def k8m5 : Method := { name := "fillInStackTrace", desc := "(I)Ljava/lang/Throwable;", sig := { parameters := [.int], returnType := some (.object "java/lang/Throwable") }, accessFlags := 258, code := none }
/-- java/lang/Throwable -/
def k8 : Class := { plain "java/lang/Throwable" (some 0) with
  accessFlags := 33
  interfaces := #[2]
  cf := some (fileOf pool8 8 #[.nestMembers #[193, 93, 101, 269]] #[{ accessFlags := 1, nameIndex := 5, descriptorIndex := 6, attributes := #[] }, { accessFlags := 1, nameIndex := 5, descriptorIndex := 223, attributes := #[] }, { accessFlags := 1, nameIndex := 41, descriptorIndex := 38, attributes := #[] }, { accessFlags := 33, nameIndex := 158, descriptorIndex := 30, attributes := #[] }, { accessFlags := 33, nameIndex := 29, descriptorIndex := 30, attributes := #[] }, { accessFlags := 258, nameIndex := 29, descriptorIndex := 204, attributes := #[] }] 33 2 #[318] #[{ accessFlags := 26, nameIndex := 320, descriptorIndex := 321, attributes := #[] }, { accessFlags := 130, nameIndex := 200, descriptorIndex := 201, attributes := #[] }, { accessFlags := 2, nameIndex := 33, descriptorIndex := 34, attributes := #[] }, { accessFlags := 26, nameIndex := 15, descriptorIndex := 16, attributes := #[] }, { accessFlags := 2, nameIndex := 11, descriptorIndex := 12, attributes := #[] }, { accessFlags := 2, nameIndex := 19, descriptorIndex := 16, attributes := #[] }, { accessFlags := 130, nameIndex := 211, descriptorIndex := 212, attributes := #[] }, { accessFlags := 26, nameIndex := 22, descriptorIndex := 23, attributes := #[] }, { accessFlags := 2, nameIndex := 26, descriptorIndex := 23, attributes := #[] }, { accessFlags := 26, nameIndex := 327, descriptorIndex := 34, attributes := #[] }, { accessFlags := 26, nameIndex := 328, descriptorIndex := 34, attributes := #[] }, { accessFlags := 26, nameIndex := 329, descriptorIndex := 34, attributes := #[] }, { accessFlags := 26, nameIndex := 330, descriptorIndex := 34, attributes := #[] }, { accessFlags := 26, nameIndex := 304, descriptorIndex := 305, attributes := #[] }, { accessFlags := 4120, nameIndex := 165, descriptorIndex := 166, attributes := #[] }])
  fields := #[{ name := "serialVersionUID", type := .long, accessFlags := 26, slot := 0, constantValue := 0 }, { name := "backtrace", type := (.object "java/lang/Object"), accessFlags := 130, slot := 0, constantValue := 0 }, { name := "detailMessage", type := (.object "java/lang/String"), accessFlags := 2, slot := 1, constantValue := 0 }, { name := "UNASSIGNED_STACK", type := (.array (.object "java/lang/StackTraceElement")), accessFlags := 26, slot := 1, constantValue := 0 }, { name := "cause", type := (.object "java/lang/Throwable"), accessFlags := 2, slot := 2, constantValue := 0 }, { name := "stackTrace", type := (.array (.object "java/lang/StackTraceElement")), accessFlags := 2, slot := 3, constantValue := 0 }, { name := "depth", type := .int, accessFlags := 130, slot := 4, constantValue := 0 }, { name := "SUPPRESSED_SENTINEL", type := (.object "java/util/List"), accessFlags := 26, slot := 2, constantValue := 0 }, { name := "suppressedExceptions", type := (.object "java/util/List"), accessFlags := 2, slot := 5, constantValue := 0 }, { name := "NULL_CAUSE_MESSAGE", type := (.object "java/lang/String"), accessFlags := 26, slot := 3, constantValue := 0 }, { name := "SELF_SUPPRESSION_MESSAGE", type := (.object "java/lang/String"), accessFlags := 26, slot := 4, constantValue := 0 }, { name := "CAUSE_CAPTION", type := (.object "java/lang/String"), accessFlags := 26, slot := 5, constantValue := 0 }, { name := "SUPPRESSED_CAPTION", type := (.object "java/lang/String"), accessFlags := 26, slot := 6, constantValue := 0 }, { name := "EMPTY_THROWABLE_ARRAY", type := (.array (.object "java/lang/Throwable")), accessFlags := 26, slot := 7, constantValue := 0 }, { name := "$assertionsDisabled", type := .boolean, accessFlags := 4120, slot := 8, constantValue := 0 }]
  methods := #[k8m0, k8m1, k8m2, k8m3, k8m4, k8m5]
  instanceTypes := #[(.object "java/lang/Object"), (.object "java/lang/String"), (.object "java/lang/Throwable"), (.array (.object "java/lang/StackTraceElement")), .int, (.object "java/util/List")]
  staticTypes := #[.long, (.array (.object "java/lang/StackTraceElement")), (.object "java/util/List"), (.object "java/lang/String"), (.object "java/lang/String"), (.object "java/lang/String"), (.object "java/lang/String"), (.array (.object "java/lang/Throwable")), .boolean]
  resolved := Array.replicate 404 none
  statics := some 1 }

def pool9 : Array CpInfo := pool [(2, .class_ 4), (1, u "java/lang/Throwable"), (0, u "<init>"), (0, u "()V"), (0, .methodref 2 8), (0, .nameAndType 5 9), (0, u "(Ljava/lang/String;)V"), (9, .class_ 20), (0, u "java/lang/Exception"), (0, u "serialVersionUID"), (0, u "J")] 17

def k9m0 : Method := { name := "<init>", desc := "()V", sig := { parameters := [], returnType := none }, accessFlags := 1, code := none }
def k9c1 : Code := { maxStack := 2, maxLocals := 2, code := jdk_59_method_2_code, exceptionTable := #[], attributes := #[] }
def k9m1 : Method := { name := "<init>", desc := "(Ljava/lang/String;)V", sig := { parameters := [(.object "java/lang/String")], returnType := none }, accessFlags := 1, code := some k9c1 }
/-- java/lang/Exception -/
def k9 : Class := { plain "java/lang/Exception" (some 8) with
  accessFlags := 33
  interfaces := #[]
  cf := some (fileOf pool9 19 #[] #[{ accessFlags := 1, nameIndex := 5, descriptorIndex := 6, attributes := #[] }, { accessFlags := 1, nameIndex := 5, descriptorIndex := 9, attributes := #[] }] 33 2 #[] #[{ accessFlags := 24, nameIndex := 21, descriptorIndex := 22, attributes := #[] }])
  fields := #[{ name := "serialVersionUID", type := .long, accessFlags := 24, slot := 0, constantValue := 0 }]
  methods := #[k9m0, k9m1]
  instanceTypes := #[(.object "java/lang/Object"), (.object "java/lang/String"), (.object "java/lang/Throwable"), (.array (.object "java/lang/StackTraceElement")), .int, (.object "java/util/List")]
  staticTypes := #[.long]
  resolved := Array.replicate 40 none
  statics := none }

def pool10 : Array CpInfo := pool [(2, .class_ 4), (1, u "java/lang/Exception"), (0, u "<init>"), (0, u "()V"), (0, .methodref 2 8), (0, .nameAndType 5 9), (0, u "(Ljava/lang/String;)V"), (9, .class_ 20), (0, u "java/lang/RuntimeException"), (0, u "serialVersionUID"), (0, u "J")] 17

def k10m0 : Method := { name := "<init>", desc := "()V", sig := { parameters := [], returnType := none }, accessFlags := 1, code := none }
def k10c1 : Code := { maxStack := 2, maxLocals := 2, code := jdk_58_method_2_code, exceptionTable := #[], attributes := #[] }
def k10m1 : Method := { name := "<init>", desc := "(Ljava/lang/String;)V", sig := { parameters := [(.object "java/lang/String")], returnType := none }, accessFlags := 1, code := some k10c1 }
/-- java/lang/RuntimeException -/
def k10 : Class := { plain "java/lang/RuntimeException" (some 9) with
  accessFlags := 33
  interfaces := #[]
  cf := some (fileOf pool10 19 #[] #[{ accessFlags := 1, nameIndex := 5, descriptorIndex := 6, attributes := #[] }, { accessFlags := 1, nameIndex := 5, descriptorIndex := 9, attributes := #[] }] 33 2 #[] #[{ accessFlags := 24, nameIndex := 21, descriptorIndex := 22, attributes := #[] }])
  fields := #[{ name := "serialVersionUID", type := .long, accessFlags := 24, slot := 0, constantValue := 0 }]
  methods := #[k10m0, k10m1]
  instanceTypes := #[(.object "java/lang/Object"), (.object "java/lang/String"), (.object "java/lang/Throwable"), (.array (.object "java/lang/StackTraceElement")), .int, (.object "java/util/List")]
  staticTypes := #[.long]
  resolved := Array.replicate 40 none
  statics := none }

def pool11 : Array CpInfo := pool [(1, .methodref 2 3), (0, .class_ 4), (0, .nameAndType 5 6), (0, u "java/lang/RuntimeException"), (0, u "<init>"), (0, u "(Ljava/lang/String;)V"), (3, .class_ 11), (0, u "com/example/hyacinth/hyacinth/error/BeansException"), (0, u "serialVersionUID"), (0, u "J")] 7

def k11c0 : Code := { maxStack := 2, maxLocals := 2, code := prog_20_method_1_code, exceptionTable := #[], attributes := #[] }
def k11m0 : Method := { name := "<init>", desc := "(Ljava/lang/String;)V", sig := { parameters := [(.object "java/lang/String")], returnType := none }, accessFlags := 4, code := some k11c0 }
/-- com/example/hyacinth/hyacinth/error/BeansException -/
def k11 : Class := { plain "com/example/hyacinth/hyacinth/error/BeansException" (some 10) with
  accessFlags := 1057
  interfaces := #[]
  cf := some (fileOf pool11 10 #[] #[{ accessFlags := 4, nameIndex := 5, descriptorIndex := 6, attributes := #[] }] 1057 2 #[] #[{ accessFlags := 26, nameIndex := 12, descriptorIndex := 13, attributes := #[] }])
  fields := #[{ name := "serialVersionUID", type := .long, accessFlags := 26, slot := 0, constantValue := 0 }]
  methods := #[k11m0]
  instanceTypes := #[(.object "java/lang/Object"), (.object "java/lang/String"), (.object "java/lang/Throwable"), (.array (.object "java/lang/StackTraceElement")), .int, (.object "java/util/List")]
  staticTypes := #[.long]
  resolved := Array.replicate 21 none
  statics := none }

def pool12 : Array CpInfo := pool [(1, .class_ 2), (0, u "java/lang/StringBuilder"), (0, .methodref 1 4), (0, .nameAndType 5 6), (0, u "<init>"), (0, u "()V"), (2, .methodref 1 10), (0, .nameAndType 11 12), (0, u "append"), (0, u "(Ljava/lang/String;)Ljava/lang/StringBuilder;"), (0, .string 14), (0, u "': "), (0, .methodref 1 16), (0, .nameAndType 17 18), (0, u "toString"), (0, u "()Ljava/lang/String;"), (0, .methodref 20 21), (0, .class_ 22), (0, .nameAndType 5 23), (0, u "com/example/hyacinth/hyacinth/error/BeanDefinitionStoreException"), (0, u "(Ljava/lang/String;)V"), (0, .methodref 25 21), (0, .class_ 26), (0, u "com/example/hyacinth/hyacinth/error/BeansException"), (0, .string 28), (0, u "invalid bean definition '"), (0, u "serialVersionUID"), (0, u "J"), (6, u "invalidDefinition"), (0, u "(Ljava/lang/String;Ljava/lang/String;)Lcom/example/hyacinth/hyacinth/error/BeanDefinitionStoreException;")] 2

def k12c0 : Code := { maxStack := 2, maxLocals := 2, code := prog_15_method_2_code, exceptionTable := #[], attributes := #[] }
def k12m0 : Method := { name := "<init>", desc := "(Ljava/lang/String;)V", sig := { parameters := [(.object "java/lang/String")], returnType := none }, accessFlags := 2, code := some k12c0 }
def k12c1 : Code := { maxStack := 4, maxLocals := 2, code := prog_15_method_3_code, exceptionTable := #[], attributes := #[] }
def k12m1 : Method := { name := "invalidDefinition", desc := "(Ljava/lang/String;Ljava/lang/String;)Lcom/example/hyacinth/hyacinth/error/BeanDefinitionStoreException;", sig := { parameters := [(.object "java/lang/String"), (.object "java/lang/String")], returnType := some (.object "com/example/hyacinth/hyacinth/error/BeanDefinitionStoreException") }, accessFlags := 9, code := some k12c1 }
/-- com/example/hyacinth/hyacinth/error/BeanDefinitionStoreException -/
def k12 : Class := { plain "com/example/hyacinth/hyacinth/error/BeanDefinitionStoreException" (some 11) with
  accessFlags := 33
  interfaces := #[]
  cf := some (fileOf pool12 20 #[] #[{ accessFlags := 2, nameIndex := 5, descriptorIndex := 23, attributes := #[] }, { accessFlags := 9, nameIndex := 37, descriptorIndex := 38, attributes := #[] }] 33 25 #[] #[{ accessFlags := 26, nameIndex := 29, descriptorIndex := 30, attributes := #[] }])
  fields := #[{ name := "serialVersionUID", type := .long, accessFlags := 26, slot := 0, constantValue := 0 }]
  methods := #[k12m0, k12m1]
  instanceTypes := #[(.object "java/lang/Object"), (.object "java/lang/String"), (.object "java/lang/Throwable"), (.array (.object "java/lang/StackTraceElement")), .int, (.object "java/util/List")]
  staticTypes := #[.long]
  resolved := Array.replicate 41 none
  statics := none }

def pool13 : Array CpInfo := pool [(1, .class_ 2), (0, u "java/lang/Appendable"), (0, .class_ 4), (0, u "java/lang/Object")] 9

/-- java/lang/Appendable -/
def k13 : Class := { plain "java/lang/Appendable" (some 0) with
  accessFlags := 1537
  interfaces := #[]
  cf := some (fileOf pool13 1 #[] #[] 1537 3 #[] #[])
  fields := #[]
  methods := #[]
  instanceTypes := #[]
  staticTypes := #[]
  resolved := Array.replicate 14 none
  statics := none }

def pool14 : Array CpInfo := pool [(1, .class_ 2), (0, u "java/lang/String"), (0, .methodref 4 5), (0, .class_ 6), (0, .nameAndType 7 8), (0, u "java/lang/Object"), (0, u "<init>"), (0, u "()V"), (1, .class_ 12), (1, u "java/lang/AbstractStringBuilder"), (0, u "EMPTYVALUE"), (0, u "[B"), (0, .fieldref 10 16), (0, .nameAndType 17 14), (0, u "value"), (0, .fieldref 1 19), (0, .nameAndType 20 21), (0, u "COMPACT_STRINGS"), (0, u "Z"), (0, .fieldref 10 23), (0, .nameAndType 24 25), (0, u "coder"), (0, u "B"), (6, .methodref 1 33), (0, .nameAndType 34 35), (0, u "length"), (0, u "()I"), (3, .integer 2147483647), (0, .methodref 1 41), (0, .nameAndType 24 42), (0, u "()B"), (2, u "append"), (0, u "(Ljava/lang/String;)Ljava/lang/AbstractStringBuilder;"), (1, .class_ 49), (0, u "java/lang/CharSequence"), (19, u "(Ljava/lang/String;)V"), (5, u "maybeLatin1"), (3, .fieldref 10 80), (0, .nameAndType 81 82), (0, u "count"), (0, u "I"), (2, u "isLatin1"), (0, u "()Z"), (13, .methodref 10 101), (0, .nameAndType 102 103), (0, u "ensureCapacityInternal"), (0, u "(I)V"), (0, .methodref 10 105), (0, .nameAndType 106 107), (0, u "newCapacity"), (0, u "(I)I"), (0, .methodref 109 110), (0, .class_ 111), (0, .nameAndType 112 113), (0, u "java/util/Arrays"), (0, u "copyOf"), (0, u "([BI)[B"), (0, .methodref 115 116), (0, .class_ 117), (0, .nameAndType 118 119), (0, u "jdk/internal/util/ArraysSupport"), (0, u "newLength"), (0, u "(III)I"), (88, .methodref 10 209), (0, .nameAndType 210 211), (0, u "putStringAt"), (0, u "(ILjava/lang/String;)V"), (5, u "inflateIfNeededFor"), (2, .nameAndType 221 222), (0, u "getBytes"), (0, u "([BIB)V"), (174, .methodref 10 398), (0, .nameAndType 217 69), (0, .methodref 1 220), (3, u "()[B"), (40, .class_ 445), (0, u "java/lang/Appendable"), (106, u "getValue")] 56

def k14m0 : Method := { name := "<init>", desc := "()V", sig := { parameters := [], returnType := none }, accessFlags := 0, code := none }
def k14c1 : Code := { maxStack := 2, maxLocals := 2, code := jdk_68_method_2_code, exceptionTable := #[], attributes := #[] }
def k14m1 : Method := { name := "<init>", desc := "(I)V", sig := { parameters := [.int], returnType := none }, accessFlags := 0, code := some k14c1 }
def k14c2 : Code := { maxStack := 1, maxLocals := 1, code := jdk_68_method_6_code, exceptionTable := #[], attributes := #[] }
def k14m2 : Method := { name := "length", desc := "()I", sig := { parameters := [], returnType := some .int }, accessFlags := 1, code := some k14c2 }
def k14c3 : Code := { maxStack := 4, maxLocals := 3, code := jdk_68_method_9_code, exceptionTable := #[], attributes := #[] }
def k14m3 : Method := { name := "ensureCapacityInternal", desc := "(I)V", sig := { parameters := [.int], returnType := none }, accessFlags := 2, code := some k14c3 }
def k14c4 : Code := { maxStack := 5, maxLocals := 6, code := jdk_68_method_10_code, exceptionTable := #[], attributes := #[] }
def k14m4 : Method := { name := "newCapacity", desc := "(I)I", sig := { parameters := [.int], returnType := some .int }, accessFlags := 2, code := some k14c4 }
def k14c5 : Code := { maxStack := 3, maxLocals := 3, code := jdk_68_method_22_code, exceptionTable := #[], attributes := #[] }
def k14m5 : Method := { name := "append", desc := "(Ljava/lang/String;)Ljava/lang/AbstractStringBuilder;", sig := { parameters := [(.object "java/lang/String")], returnType := some (.object "java/lang/AbstractStringBuilder") }, accessFlags := 1, code := some k14c5 }
def k14c6 : Code := { maxStack := 1, maxLocals := 1, code := jdk_68_method_64_code, exceptionTable := #[], attributes := #[] }
def k14m6 : Method := { name := "getValue", desc := "()[B", sig := { parameters := [], returnType := some (.array .byte) }, accessFlags := 16, code := some k14c6 }
def k14c7 : Code := { maxStack := 1, maxLocals := 1, code := jdk_68_method_68_code, exceptionTable := #[], attributes := #[] }
def k14m7 : Method := { name := "isLatin1", desc := "()Z", sig := { parameters := [], returnType := some .boolean }, accessFlags := 16, code := some k14c7 }
def k14c8 : Code := { maxStack := 2, maxLocals := 2, code := jdk_68_method_71_code, exceptionTable := #[], attributes := #[] }
def k14m8 : Method := { name := "inflateIfNeededFor", desc := "(Ljava/lang/String;)V", sig := { parameters := [(.object "java/lang/String")], returnType := none }, accessFlags := 2, code := some k14c8 }
def k14c9 : Code := { maxStack := 4, maxLocals := 3, code := jdk_68_method_73_code, exceptionTable := #[], attributes := #[] }
def k14m9 : Method := { name := "putStringAt", desc := "(ILjava/lang/String;)V", sig := { parameters := [.int, (.object "java/lang/String")], returnType := none }, accessFlags := 2, code := some k14c9 }
/-- java/lang/AbstractStringBuilder -/
def k14 : Class := { plain "java/lang/AbstractStringBuilder" (some 0) with
  accessFlags := 1056
  interfaces := #[13, 4]
  cf := some (fileOf pool14 10 #[] #[{ accessFlags := 0, nameIndex := 7, descriptorIndex := 8, attributes := #[] }, { accessFlags := 0, nameIndex := 7, descriptorIndex := 103, attributes := #[] }, { accessFlags := 1, nameIndex := 34, descriptorIndex := 35, attributes := #[] }, { accessFlags := 2, nameIndex := 102, descriptorIndex := 103, attributes := #[] }, { accessFlags := 2, nameIndex := 106, descriptorIndex := 107, attributes := #[] }, { accessFlags := 1, nameIndex := 45, descriptorIndex := 46, attributes := #[] }, { accessFlags := 16, nameIndex := 552, descriptorIndex := 403, attributes := #[] }, { accessFlags := 16, nameIndex := 85, descriptorIndex := 86, attributes := #[] }, { accessFlags := 2, nameIndex := 217, descriptorIndex := 69, attributes := #[] }, { accessFlags := 2, nameIndex := 210, descriptorIndex := 211, attributes := #[] }] 1056 4 #[444, 48] #[{ accessFlags := 0, nameIndex := 17, descriptorIndex := 14, attributes := #[] }, { accessFlags := 0, nameIndex := 24, descriptorIndex := 25, attributes := #[] }, { accessFlags := 0, nameIndex := 75, descriptorIndex := 21, attributes := #[] }, { accessFlags := 0, nameIndex := 81, descriptorIndex := 82, attributes := #[] }, { accessFlags := 26, nameIndex := 13, descriptorIndex := 14, attributes := #[] }])
  fields := #[{ name := "value", type := (.array .byte), accessFlags := 0, slot := 0, constantValue := 0 }, { name := "coder", type := .byte, accessFlags := 0, slot := 1, constantValue := 0 }, { name := "maybeLatin1", type := .boolean, accessFlags := 0, slot := 2, constantValue := 0 }, { name := "count", type := .int, accessFlags := 0, slot := 3, constantValue := 0 }, { name := "EMPTYVALUE", type := (.array .byte), accessFlags := 26, slot := 0, constantValue := 0 }]
  methods := #[k14m0, k14m1, k14m2, k14m3, k14m4, k14m5, k14m6, k14m7, k14m8, k14m9]
  instanceTypes := #[(.array .byte), .byte, .boolean, .int]
  staticTypes := #[(.array .byte)]
  resolved := Array.replicate 609 none
  statics := none }

def pool15 : Array CpInfo := pool [(1, .methodref 2 3), (0, .class_ 4), (0, .nameAndType 5 6), (0, u "java/lang/AbstractStringBuilder"), (0, u "<init>"), (0, u "(I)V"), (11, .class_ 20), (1, u "java/lang/String"), (3, .class_ 26), (1, u "java/lang/StringBuilder"), (0, u "append"), (0, u "(Ljava/lang/String;)Ljava/lang/StringBuilder;"), (0, .methodref 2 30), (0, .nameAndType 27 31), (0, u "(Ljava/lang/String;)Ljava/lang/AbstractStringBuilder;"), (105, .methodref 18 138), (0, .nameAndType 5 139), (0, u "(Ljava/lang/StringBuilder;)V"), (5, u "()V"), (10, u "()I"), (186, .methodref 2 344), (0, .nameAndType 345 156), (0, u "length"), (3, .class_ 350), (0, u "java/lang/Appendable"), (0, .class_ 352), (0, u "java/io/Serializable"), (0, .class_ 354), (0, u "java/lang/Comparable"), (0, .class_ 356), (0, u "java/lang/CharSequence"), (0, u "serialVersionUID"), (0, u "J"), (40, u "toString"), (0, u "()Ljava/lang/String;")] 21

def k15c0 : Code := { maxStack := 2, maxLocals := 1, code := jdk_67_method_1_code, exceptionTable := #[], attributes := #[] }
def k15m0 : Method := { name := "<init>", desc := "()V", sig := { parameters := [], returnType := none }, accessFlags := 1, code := some k15c0 }
def k15c1 : Code := { maxStack := 2, maxLocals := 2, code := jdk_67_method_7_code, exceptionTable := #[], attributes := #[] }
def k15m1 : Method := { name := "append", desc := "(Ljava/lang/String;)Ljava/lang/StringBuilder;", sig := { parameters := [(.object "java/lang/String")], returnType := some (.object "java/lang/StringBuilder") }, accessFlags := 1, code := some k15c1 }
def k15c2 : Code := { maxStack := 3, maxLocals := 1, code := jdk_67_method_42_code, exceptionTable := #[], attributes := #[] }
def k15m2 : Method := { name := "toString", desc := "()Ljava/lang/String;", sig := { parameters := [], returnType := some (.object "java/lang/String") }, accessFlags := 1, code := some k15c2 }
def k15c3 : Code := { maxStack := 1, maxLocals := 1, code := jdk_67_method_93_code, exceptionTable := #[], attributes := #[] }
def k15m3 : Method := { name := "length", desc := "()I", sig := { parameters := [], returnType := some .int }, accessFlags := 4161, code := some k15c3 }
/-- java/lang/StringBuilder -/
def k15 : Class := { plain "java/lang/StringBuilder" (some 14) with
  accessFlags := 49
  interfaces := #[13, 2, 3, 4]
  cf := some (fileOf pool15 24 #[] #[{ accessFlags := 1, nameIndex := 5, descriptorIndex := 145, attributes := #[] }, { accessFlags := 1, nameIndex := 27, descriptorIndex := 28, attributes := #[] }, { accessFlags := 1, nameIndex := 399, descriptorIndex := 400, attributes := #[] }, { accessFlags := 4161, nameIndex := 345, descriptorIndex := 156, attributes := #[] }] 49 2 #[349, 351, 353, 355] #[{ accessFlags := 24, nameIndex := 357, descriptorIndex := 358, attributes := #[] }])
  fields := #[{ name := "serialVersionUID", type := .long, accessFlags := 24, slot := 0, constantValue := 0 }]
  methods := #[k15m0, k15m1, k15m2, k15m3]
  instanceTypes := #[(.array .byte), .byte, .boolean, .int]
  staticTypes := #[.long]
  resolved := Array.replicate 422 none
  statics := none }

def pool16 : Array CpInfo := pool [(9, u "<init>"), (6, .class_ 18), (1, u "java/lang/Object"), (0, u "()V"), (1, .class_ 23), (1, u "jdk/internal/util/ArraysSupport"), (0, u "LOG2_ARRAY_LONG_INDEX_SCALE"), (0, u "I"), (2, u "U"), (0, u "Ljdk/internal/misc/Unsafe;"), (8, u "BIG_ENDIAN"), (0, u "Z"), (8, u "LOG2_BYTE_BIT_SIZE"), (4, u "LOG2_ARRAY_INT_INDEX_SCALE"), (54, u "JLA"), (0, u "Ljdk/internal/access/JavaLangAccess;"), (11, u "LOG2_ARRAY_BOOLEAN_INDEX_SCALE"), (9, u "LOG2_ARRAY_BYTE_INDEX_SCALE"), (5, u "LOG2_ARRAY_CHAR_INDEX_SCALE"), (5, u "LOG2_ARRAY_SHORT_INDEX_SCALE"), (18, u "LOG2_ARRAY_FLOAT_INDEX_SCALE"), (24, u "LOG2_ARRAY_DOUBLE_INDEX_SCALE"), (6, .methodref 195 196), (0, .class_ 197), (0, .nameAndType 198 199), (0, u "java/lang/Math"), (0, u "max"), (0, u "(II)I"), (0, .integer 2147483639), (76, u "T_BOOLEAN"), (2, u "T_CHAR"), (1, u "T_FLOAT"), (1, u "T_DOUBLE"), (1, u "T_BYTE"), (1, u "T_SHORT"), (1, u "T_INT"), (1, u "T_LONG"), (1, u "SOFT_MAX_ARRAY_LENGTH"), (56, u "newLength"), (0, u "(III)I")] 25

def k16m0 : Method := { name := "<init>", desc := "()V", sig := { parameters := [], returnType := none }, accessFlags := 2, code := none }
def k16c1 : Code := { maxStack := 3, maxLocals := 4, code := jdk_48_method_27_code, exceptionTable := #[], attributes := #[] }
def k16m1 : Method := { name := "newLength", desc := "(III)I", sig := { parameters := [.int, .int, .int], returnType := some .int }, accessFlags := 9, code := some k16c1 }
/-- jdk/internal/util/ArraysSupport -/
def k16 : Class := { plain "jdk/internal/util/ArraysSupport" (some 0) with
  accessFlags := 33
  interfaces := #[]
  cf := some (fileOf pool16 21 #[] #[{ accessFlags := 2, nameIndex := 9, descriptorIndex := 19, attributes := #[] }, { accessFlags := 9, nameIndex := 351, descriptorIndex := 352, attributes := #[] }] 33 16 #[] #[{ accessFlags := 24, nameIndex := 28, descriptorIndex := 29, attributes := #[] }, { accessFlags := 26, nameIndex := 38, descriptorIndex := 39, attributes := #[] }, { accessFlags := 25, nameIndex := 121, descriptorIndex := 25, attributes := #[] }, { accessFlags := 25, nameIndex := 131, descriptorIndex := 25, attributes := #[] }, { accessFlags := 25, nameIndex := 137, descriptorIndex := 25, attributes := #[] }, { accessFlags := 25, nameIndex := 143, descriptorIndex := 25, attributes := #[] }, { accessFlags := 25, nameIndex := 53, descriptorIndex := 25, attributes := #[] }, { accessFlags := 25, nameIndex := 24, descriptorIndex := 25, attributes := #[] }, { accessFlags := 25, nameIndex := 162, descriptorIndex := 25, attributes := #[] }, { accessFlags := 25, nameIndex := 187, descriptorIndex := 25, attributes := #[] }, { accessFlags := 26, nameIndex := 48, descriptorIndex := 25, attributes := #[] }, { accessFlags := 25, nameIndex := 277, descriptorIndex := 25, attributes := #[] }, { accessFlags := 25, nameIndex := 280, descriptorIndex := 25, attributes := #[] }, { accessFlags := 25, nameIndex := 282, descriptorIndex := 25, attributes := #[] }, { accessFlags := 25, nameIndex := 284, descriptorIndex := 25, attributes := #[] }, { accessFlags := 25, nameIndex := 286, descriptorIndex := 25, attributes := #[] }, { accessFlags := 25, nameIndex := 288, descriptorIndex := 25, attributes := #[] }, { accessFlags := 25, nameIndex := 290, descriptorIndex := 25, attributes := #[] }, { accessFlags := 25, nameIndex := 292, descriptorIndex := 25, attributes := #[] }, { accessFlags := 26, nameIndex := 108, descriptorIndex := 109, attributes := #[] }, { accessFlags := 25, nameIndex := 294, descriptorIndex := 25, attributes := #[] }])
  fields := #[{ name := "U", type := (.object "jdk/internal/misc/Unsafe"), accessFlags := 24, slot := 0, constantValue := 0 }, { name := "BIG_ENDIAN", type := .boolean, accessFlags := 26, slot := 1, constantValue := 0 }, { name := "LOG2_ARRAY_BOOLEAN_INDEX_SCALE", type := .int, accessFlags := 25, slot := 2, constantValue := 0 }, { name := "LOG2_ARRAY_BYTE_INDEX_SCALE", type := .int, accessFlags := 25, slot := 3, constantValue := 0 }, { name := "LOG2_ARRAY_CHAR_INDEX_SCALE", type := .int, accessFlags := 25, slot := 4, constantValue := 0 }, { name := "LOG2_ARRAY_SHORT_INDEX_SCALE", type := .int, accessFlags := 25, slot := 5, constantValue := 0 }, { name := "LOG2_ARRAY_INT_INDEX_SCALE", type := .int, accessFlags := 25, slot := 6, constantValue := 0 }, { name := "LOG2_ARRAY_LONG_INDEX_SCALE", type := .int, accessFlags := 25, slot := 7, constantValue := 0 }, { name := "LOG2_ARRAY_FLOAT_INDEX_SCALE", type := .int, accessFlags := 25, slot := 8, constantValue := 0 }, { name := "LOG2_ARRAY_DOUBLE_INDEX_SCALE", type := .int, accessFlags := 25, slot := 9, constantValue := 0 }, { name := "LOG2_BYTE_BIT_SIZE", type := .int, accessFlags := 26, slot := 10, constantValue := 0 }, { name := "T_BOOLEAN", type := .int, accessFlags := 25, slot := 11, constantValue := 0 }, { name := "T_CHAR", type := .int, accessFlags := 25, slot := 12, constantValue := 0 }, { name := "T_FLOAT", type := .int, accessFlags := 25, slot := 13, constantValue := 0 }, { name := "T_DOUBLE", type := .int, accessFlags := 25, slot := 14, constantValue := 0 }, { name := "T_BYTE", type := .int, accessFlags := 25, slot := 15, constantValue := 0 }, { name := "T_SHORT", type := .int, accessFlags := 25, slot := 16, constantValue := 0 }, { name := "T_INT", type := .int, accessFlags := 25, slot := 17, constantValue := 0 }, { name := "T_LONG", type := .int, accessFlags := 25, slot := 18, constantValue := 0 }, { name := "JLA", type := (.object "jdk/internal/access/JavaLangAccess"), accessFlags := 26, slot := 19, constantValue := 0 }, { name := "SOFT_MAX_ARRAY_LENGTH", type := .int, accessFlags := 25, slot := 20, constantValue := 0 }]
  methods := #[k16m0, k16m1]
  instanceTypes := #[]
  staticTypes := #[(.object "jdk/internal/misc/Unsafe"), .boolean, .int, .int, .int, .int, .int, .int, .int, .int, .int, .int, .int, .int, .int, .int, .int, .int, .int, (.object "jdk/internal/access/JavaLangAccess"), .int]
  resolved := Array.replicate 378 none
  statics := none }

def pool17 : Array CpInfo := pool [(1, .class_ 2), (0, u "java/lang/Math"), (1, .class_ 6), (1, u "java/lang/Object"), (0, u "<init>"), (0, u "()V"), (89, .class_ 100), (1, u "java/lang/Math$RandomNumberGeneratorHolder"), (71, u "negativeZeroFloatBits"), (0, u "J"), (2, u "negativeZeroDoubleBits"), (21, u "max"), (2, u "min"), (43, u "$assertionsDisabled"), (0, u "Z"), (88, u "(II)I"), (2, u "twoToTheDoubleScaleDown"), (0, u "D"), (4, u "twoToTheDoubleScaleUp"), (9, u "E"), (3, u "PI"), (2, u "TAU"), (2, u "DEGREES_TO_RADIANS"), (0, u "RADIANS_TO_DEGREES")] 94

def k17m0 : Method := { name := "<init>", desc := "()V", sig := { parameters := [], returnType := none }, accessFlags := 2, code := none }
def k17c1 : Code := { maxStack := 2, maxLocals := 2, code := jdk_29_method_65_code, exceptionTable := #[], attributes := #[] }
def k17m1 : Method := { name := "max", desc := "(II)I", sig := { parameters := [.int, .int], returnType := some .int }, accessFlags := 9, code := some k17c1 }
def k17c2 : Code := { maxStack := 2, maxLocals := 2, code := jdk_29_method_69_code, exceptionTable := #[], attributes := #[] }
def k17m2 : Method := { name := "min", desc := "(II)I", sig := { parameters := [.int, .int], returnType := some .int }, accessFlags := 9, code := some k17c2 }
/-- java/lang/Math -/
def k17 : Class := { plain "java/lang/Math" (some 0) with
  accessFlags := 49
  interfaces := #[]
  cf := some (fileOf pool17 1 #[.nestMembers #[98]] #[{ accessFlags := 2, nameIndex := 7, descriptorIndex := 8, attributes := #[] }, { accessFlags := 9, nameIndex := 198, descriptorIndex := 335, attributes := #[] }, { accessFlags := 9, nameIndex := 201, descriptorIndex := 335, attributes := #[] }] 49 4 #[] #[{ accessFlags := 25, nameIndex := 354, descriptorIndex := 339, attributes := #[] }, { accessFlags := 25, nameIndex := 358, descriptorIndex := 339, attributes := #[] }, { accessFlags := 25, nameIndex := 361, descriptorIndex := 339, attributes := #[] }, { accessFlags := 26, nameIndex := 364, descriptorIndex := 339, attributes := #[] }, { accessFlags := 26, nameIndex := 365, descriptorIndex := 339, attributes := #[] }, { accessFlags := 26, nameIndex := 172, descriptorIndex := 173, attributes := #[] }, { accessFlags := 26, nameIndex := 176, descriptorIndex := 173, attributes := #[] }, { accessFlags := 8, nameIndex := 344, descriptorIndex := 339, attributes := #[] }, { accessFlags := 8, nameIndex := 338, descriptorIndex := 339, attributes := #[] }, { accessFlags := 4120, nameIndex := 245, descriptorIndex := 246, attributes := #[] }])
  fields := #[{ name := "E", type := .double, accessFlags := 25, slot := 0, constantValue := 0 }, { name := "PI", type := .double, accessFlags := 25, slot := 1, constantValue := 0 }, { name := "TAU", type := .double, accessFlags := 25, slot := 2, constantValue := 0 }, { name := "DEGREES_TO_RADIANS", type := .double, accessFlags := 26, slot := 3, constantValue := 0 }, { name := "RADIANS_TO_DEGREES", type := .double, accessFlags := 26, slot := 4, constantValue := 0 }, { name := "negativeZeroFloatBits", type := .long, accessFlags := 26, slot := 5, constantValue := 0 }, { name := "negativeZeroDoubleBits", type := .long, accessFlags := 26, slot := 6, constantValue := 0 }, { name := "twoToTheDoubleScaleUp", type := .double, accessFlags := 8, slot := 7, constantValue := 0 }, { name := "twoToTheDoubleScaleDown", type := .double, accessFlags := 8, slot := 8, constantValue := 0 }, { name := "$assertionsDisabled", type := .boolean, accessFlags := 4120, slot := 9, constantValue := 0 }]
  methods := #[k17m0, k17m1, k17m2]
  instanceTypes := #[]
  staticTypes := #[.double, .double, .double, .double, .double, .long, .long, .double, .double, .boolean]
  resolved := Array.replicate 460 none
  statics := none }

def pool18 : Array CpInfo := pool [(2, .class_ 4), (1, u "java/lang/Object"), (0, u "<init>"), (0, u "()V"), (7, .class_ 16), (1, u "java/util/Arrays"), (57, .class_ 76), (1, u "java/util/Arrays$NaturalOrder"), (36, .class_ 115), (1, u "java/util/Arrays$LegacyMergeSort"), (1, u "Z"), (21, u "copyOfRange"), (10, .methodref 151 152), (0, .class_ 153), (0, .nameAndType 154 155), (0, u "java/lang/System"), (0, u "arraycopy"), (0, u "(Ljava/lang/Object;ILjava/lang/Object;II)V"), (146, u "copyOf"), (1, .methodref 305 306), (0, .class_ 307), (0, .nameAndType 308 309), (0, u "java/lang/Math"), (0, u "min"), (0, u "(II)I"), (29, .methodref 14 340), (0, .nameAndType 341 342), (0, u "copyOfRangeByte"), (0, u "([BII)[B"), (0, .methodref 14 344), (0, .nameAndType 345 346), (0, u "checkLength"), (0, u "(II)V"), (28, .class_ 376), (0, u "java/util/Arrays$ArrayList"), (68, u "$assertionsDisabled"), (269, u "MIN_ARRAY_SORT_GRAN"), (0, u "I"), (2, u "INSERTIONSORT_THRESHOLD"), (149, u "([BI)[B"), (105, .class_ 976), (0, u "java/util/Arrays$ArrayItr")] 52

def k18m0 : Method := { name := "<init>", desc := "()V", sig := { parameters := [], returnType := none }, accessFlags := 2, code := none }
def k18c1 : Code := { maxStack := 6, maxLocals := 3, code := jdk_65_method_121_code, exceptionTable := #[], attributes := #[] }
def k18m1 : Method := { name := "copyOf", desc := "([BI)[B", sig := { parameters := [(.array .byte), .int], returnType := some (.array .byte) }, accessFlags := 9, code := some k18c1 }
def k18c2 : Code := { maxStack := 4, maxLocals := 2, code := jdk_65_method_131_code, exceptionTable := #[], attributes := #[] }
def k18m2 : Method := { name := "checkLength", desc := "(II)V", sig := { parameters := [.int, .int], returnType := none }, accessFlags := 10, code := some k18c2 }
def k18c3 : Code := { maxStack := 3, maxLocals := 3, code := jdk_65_method_132_code, exceptionTable := #[], attributes := #[] }
def k18m3 : Method := { name := "copyOfRange", desc := "([BII)[B", sig := { parameters := [(.array .byte), .int, .int], returnType := some (.array .byte) }, accessFlags := 9, code := some k18c3 }
def k18c4 : Code := { maxStack := 6, maxLocals := 5, code := jdk_65_method_133_code, exceptionTable := #[], attributes := #[] }
def k18m4 : Method := { name := "copyOfRangeByte", desc := "([BII)[B", sig := { parameters := [(.array .byte), .int, .int], returnType := some (.array .byte) }, accessFlags := 10, code := some k18c4 }
/-- java/util/Arrays -/
def k18 : Class := { plain "java/util/Arrays" (some 0) with
  accessFlags := 49
  interfaces := #[]
  cf := some (fileOf pool18 14 #[.nestMembers #[975, 375, 113, 74]] #[{ accessFlags := 2, nameIndex := 5, descriptorIndex := 6, attributes := #[] }, { accessFlags := 9, nameIndex := 302, descriptorIndex := 869, attributes := #[] }, { accessFlags := 10, nameIndex := 345, descriptorIndex := 346, attributes := #[] }, { accessFlags := 9, nameIndex := 139, descriptorIndex := 342, attributes := #[] }, { accessFlags := 10, nameIndex := 341, descriptorIndex := 342, attributes := #[] }] 49 2 #[] #[{ accessFlags := 26, nameIndex := 715, descriptorIndex := 716, attributes := #[] }, { accessFlags := 26, nameIndex := 719, descriptorIndex := 716, attributes := #[] }, { accessFlags := 4120, nameIndex := 445, descriptorIndex := 117, attributes := #[] }])
  fields := #[{ name := "MIN_ARRAY_SORT_GRAN", type := .int, accessFlags := 26, slot := 0, constantValue := 0 }, { name := "INSERTIONSORT_THRESHOLD", type := .int, accessFlags := 26, slot := 1, constantValue := 0 }, { name := "$assertionsDisabled", type := .boolean, accessFlags := 4120, slot := 2, constantValue := 0 }]
  methods := #[k18m0, k18m1, k18m2, k18m3, k18m4]
  instanceTypes := #[]
  staticTypes := #[.int, .int, .boolean]
  resolved := Array.replicate 1029 none
  statics := none }

def pool19 : Array CpInfo := pool [(2, .class_ 4), (1, u "java/lang/Object"), (0, u "<init>"), (0, u "()V"), (1, .class_ 10), (1, u "java/lang/System"), (0, u "allowSecurityManager"), (0, u "I"), (16, u "cons"), (0, u "Ljava/io/Console;"), (77, .class_ 110), (1, u "java/lang/System$CallersHolder"), (43, u "initialErrStream"), (0, u "Ljava/io/PrintStream;"), (19, u "security"), (0, u "Ljava/lang/SecurityManager;"), (31, .class_ 209), (0, u "java/lang/System$1"), (7, u "props"), (0, u "Ljava/util/Properties;"), (2, u "lineSeparator"), (0, u "Ljava/lang/String;"), (96, .class_ 321), (1, u "java/lang/System$LoggerFinder"), (5, .class_ 328), (0, u "java/lang/System$Logger"), (67, u "err"), (2, u "out"), (91, u "notSupportedJnuEncoding"), (15, u "in"), (17, u "initialIn"), (0, u "Ljava/io/InputStream;"), (35, u "bootLayer"), (0, u "Ljava/lang/ModuleLayer;"), (99, .class_ 664), (0, u "java/lang/System$2"), (9, u "NEVER"), (2, u "MAYBE"), (49, u "arraycopy"), (0, u "(Ljava/lang/Object;ILjava/lang/Object;II)V"), (72, .class_ 802), (0, u "java/lang/System$Logger$Level")] 31

def k19m0 : Method := { name := "<init>", desc := "()V", sig := { parameters := [], returnType := none }, accessFlags := 2, code := none }
def k19m1 : Method := { name := "arraycopy", desc := "(Ljava/lang/Object;ILjava/lang/Object;II)V", sig := { parameters := [(.object "java/lang/Object"), .int, (.object "java/lang/Object"), .int, .int], returnType := none }, accessFlags := 265, code := none }
/-- java/lang/System -/
def k19 : Class := { plain "java/lang/System" (some 0) with
  accessFlags := 49
  interfaces := #[]
  cf := some (fileOf pool19 8 #[.nestMembers #[319, 327, 801, 108, 663, 208]] #[{ accessFlags := 2, nameIndex := 5, descriptorIndex := 6, attributes := #[] }, { accessFlags := 265, nameIndex := 727, descriptorIndex := 728, attributes := #[] }] 49 2 #[] #[{ accessFlags := 25, nameIndex := 507, descriptorIndex := 526, attributes := #[] }, { accessFlags := 25, nameIndex := 399, descriptorIndex := 155, attributes := #[] }, { accessFlags := 25, nameIndex := 396, descriptorIndex := 155, attributes := #[] }, { accessFlags := 10, nameIndex := 525, descriptorIndex := 526, attributes := #[] }, { accessFlags := 26, nameIndex := 674, descriptorIndex := 12, attributes := #[] }, { accessFlags := 26, nameIndex := 677, descriptorIndex := 12, attributes := #[] }, { accessFlags := 10, nameIndex := 11, descriptorIndex := 12, attributes := #[] }, { accessFlags := 74, nameIndex := 175, descriptorIndex := 176, attributes := #[] }, { accessFlags := 10, nameIndex := 491, descriptorIndex := 222, attributes := #[] }, { accessFlags := 74, nameIndex := 29, descriptorIndex := 30, attributes := #[] }, { accessFlags := 74, nameIndex := 154, descriptorIndex := 155, attributes := #[] }, { accessFlags := 10, nameIndex := 217, descriptorIndex := 218, attributes := #[] }, { accessFlags := 10, nameIndex := 221, descriptorIndex := 222, attributes := #[] }, { accessFlags := 8, nameIndex := 562, descriptorIndex := 563, attributes := #[] }])
  fields := #[{ name := "in", type := (.object "java/io/InputStream"), accessFlags := 25, slot := 0, constantValue := 0 }, { name := "out", type := (.object "java/io/PrintStream"), accessFlags := 25, slot := 1, constantValue := 0 }, { name := "err", type := (.object "java/io/PrintStream"), accessFlags := 25, slot := 2, constantValue := 0 }, { name := "initialIn", type := (.object "java/io/InputStream"), accessFlags := 10, slot := 3, constantValue := 0 }, { name := "NEVER", type := .int, accessFlags := 26, slot := 4, constantValue := 0 }, { name := "MAYBE", type := .int, accessFlags := 26, slot := 5, constantValue := 0 }, { name := "allowSecurityManager", type := .int, accessFlags := 10, slot := 6, constantValue := 0 }, { name := "security", type := (.object "java/lang/SecurityManager"), accessFlags := 74, slot := 7, constantValue := 0 }, { name := "notSupportedJnuEncoding", type := (.object "java/lang/String"), accessFlags := 10, slot := 8, constantValue := 0 }, { name := "cons", type := (.object "java/io/Console"), accessFlags := 74, slot := 9, constantValue := 0 }, { name := "initialErrStream", type := (.object "java/io/PrintStream"), accessFlags := 74, slot := 10, constantValue := 0 }, { name := "props", type := (.object "java/util/Properties"), accessFlags := 10, slot := 11, constantValue := 0 }, { name := "lineSeparator", type := (.object "java/lang/String"), accessFlags := 10, slot := 12, constantValue := 0 }, { name := "bootLayer", type := (.object "java/lang/ModuleLayer"), accessFlags := 8, slot := 13, constantValue := 0 }]
  methods := #[k19m0, k19m1]
  instanceTypes := #[]
  staticTypes := #[(.object "java/io/InputStream"), (.object "java/io/PrintStream"), (.object "java/io/PrintStream"), (.object "java/io/InputStream"), .int, .int, .int, (.object "java/lang/SecurityManager"), (.object "java/lang/String"), (.object "java/io/Console"), (.object "java/io/PrintStream"), (.object "java/util/Properties"), (.object "java/lang/String"), (.object "java/lang/ModuleLayer")]
  resolved := Array.replicate 834 none
  statics := none }

def pool20 : Array CpInfo := pool [(4, .class_ 6), (1, u "java/lang/Object"), (0, u "<init>"), (0, u "()V"), (5, .class_ 16), (1, u "java/lang/StringLatin1"), (104, u "$assertionsDisabled"), (0, u "Z"), (98, .class_ 223), (1, u "java/lang/StringLatin1$LinesSpliterator"), (57, u "equals"), (0, u "([B[B)Z"), (107, .class_ 391), (0, u "java/lang/StringLatin1$CharsSpliterator")] 3

def k20m0 : Method := { name := "<init>", desc := "()V", sig := { parameters := [], returnType := none }, accessFlags := 0, code := none }
def k20c1 : Code := { maxStack := 3, maxLocals := 3, code := jdk_43_method_13_code, exceptionTable := #[], attributes := #[] }
def k20m1 : Method := { name := "equals", desc := "([B[B)Z", sig := { parameters := [(.array .byte), (.array .byte)], returnType := some .boolean }, accessFlags := 9, code := some k20c1 }
/-- java/lang/StringLatin1 -/
def k20 : Class := { plain "java/lang/StringLatin1" (some 0) with
  accessFlags := 48
  interfaces := #[]
  cf := some (fileOf pool20 14 #[.nestMembers #[390, 221]] #[{ accessFlags := 0, nameIndex := 7, descriptorIndex := 8, attributes := #[] }, { accessFlags := 9, nameIndex := 281, descriptorIndex := 282, attributes := #[] }] 48 4 #[] #[{ accessFlags := 4120, nameIndex := 121, descriptorIndex := 122, attributes := #[] }])
  fields := #[{ name := "$assertionsDisabled", type := .boolean, accessFlags := 4120, slot := 0, constantValue := 0 }]
  methods := #[k20m0, k20m1]
  instanceTypes := #[]
  staticTypes := #[.boolean]
  resolved := Array.replicate 395 none
  statics := none }

def pool21 : Array CpInfo := pool [(6, .class_ 8), (1, u "java/lang/Object"), (0, u "<init>"), (0, u "()V"), (1, .class_ 14), (1, u "java/lang/StringUTF16"), (31, u "$assertionsDisabled"), (0, u "Z"), (13, u "HI_BYTE_SHIFT"), (0, u "I"), (2, u "LO_BYTE_SHIFT"), (49, .methodref 12 116), (0, .nameAndType 117 118), (0, u "compress"), (0, u "([CI[BII)I"), (3, u "([CII)[B"), (138, u "coderFromArrayLen"), (0, u "([BI)B"), (106, .class_ 371), (1, u "java/lang/StringUTF16$LinesSpliterator"), (58, u "MAX_LENGTH"), (196, .class_ 628), (0, u "java/lang/StringUTF16$CodePointsSpliterator"), (0, .class_ 630), (0, u "java/lang/StringUTF16$CharsSpliterator")] 4

def k21m0 : Method := { name := "<init>", desc := "()V", sig := { parameters := [], returnType := none }, accessFlags := 0, code := none }
def k21c1 : Code := { maxStack := 2, maxLocals := 2, code := jdk_52_method_15_code, exceptionTable := #[], attributes := #[] }
def k21m1 : Method := { name := "coderFromArrayLen", desc := "([BI)B", sig := { parameters := [(.array .byte), .int], returnType := some .byte }, accessFlags := 8, code := some k21c1 }
def k21c2 : Code := { maxStack := 5, maxLocals := 6, code := jdk_52_method_16_code, exceptionTable := #[], attributes := #[] }
def k21m2 : Method := { name := "compress", desc := "([CII)[B", sig := { parameters := [(.array .char), .int, .int], returnType := some (.array .byte) }, accessFlags := 9, code := some k21c2 }
def k21c3 : Code := { maxStack := 3, maxLocals := 7, code := jdk_52_method_21_code, exceptionTable := #[], attributes := #[] }
def k21m3 : Method := { name := "compress", desc := "([CI[BII)I", sig := { parameters := [(.array .char), .int, (.array .byte), .int, .int], returnType := some .int }, accessFlags := 9, code := some k21c3 }
/-- java/lang/StringUTF16 -/
def k21 : Class := { plain "java/lang/StringUTF16" (some 0) with
  accessFlags := 48
  interfaces := #[]
  cf := some (fileOf pool21 12 #[.nestMembers #[627, 629, 369]] #[{ accessFlags := 0, nameIndex := 9, descriptorIndex := 10, attributes := #[] }, { accessFlags := 8, nameIndex := 261, descriptorIndex := 262, attributes := #[] }, { accessFlags := 9, nameIndex := 117, descriptorIndex := 122, attributes := #[] }, { accessFlags := 9, nameIndex := 117, descriptorIndex := 118, attributes := #[] }] 48 6 #[] #[{ accessFlags := 26, nameIndex := 61, descriptorIndex := 62, attributes := #[] }, { accessFlags := 26, nameIndex := 65, descriptorIndex := 62, attributes := #[] }, { accessFlags := 24, nameIndex := 430, descriptorIndex := 62, attributes := #[] }, { accessFlags := 4120, nameIndex := 46, descriptorIndex := 47, attributes := #[] }])
  fields := #[{ name := "HI_BYTE_SHIFT", type := .int, accessFlags := 26, slot := 0, constantValue := 0 }, { name := "LO_BYTE_SHIFT", type := .int, accessFlags := 26, slot := 1, constantValue := 0 }, { name := "MAX_LENGTH", type := .int, accessFlags := 24, slot := 2, constantValue := 0 }, { name := "$assertionsDisabled", type := .boolean, accessFlags := 4120, slot := 3, constantValue := 0 }]
  methods := #[k21m0, k21m1, k21m2, k21m3]
  instanceTypes := #[]
  staticTypes := #[.int, .int, .int, .boolean]
  resolved := Array.replicate 635 none
  statics := none }

def pool22 : Array CpInfo := pool [(2, .class_ 4), (1, u "java/lang/Object"), (0, u "<init>"), (0, u "()V"), (17, .class_ 26), (1, u "jdk/internal/util/Preconditions"), (28, .class_ 56), (0, u "jdk/internal/util/Preconditions$4"), (57, .class_ 115), (0, u "jdk/internal/util/Preconditions$1"), (7, u "SIOOBE_FORMATTER"), (0, u "Ljava/util/function/BiFunction;"), (0, .class_ 126), (0, u "jdk/internal/util/Preconditions$2"), (3, u "AIOOBE_FORMATTER"), (0, .class_ 132), (0, u "jdk/internal/util/Preconditions$3"), (3, u "IOOBE_FORMATTER")] 57

def k22m0 : Method := { name := "<init>", desc := "()V", sig := { parameters := [], returnType := none }, accessFlags := 1, code := none }
/-- jdk/internal/util/Preconditions -/
def k22 : Class := { plain "jdk/internal/util/Preconditions" (some 0) with
  accessFlags := 33
  interfaces := #[]
  cf := some (fileOf pool22 24 #[.nestMembers #[55, 131, 125, 114]] #[{ accessFlags := 1, nameIndex := 5, descriptorIndex := 6, attributes := #[] }] 33 2 #[] #[{ accessFlags := 25, nameIndex := 123, descriptorIndex := 124, attributes := #[] }, { accessFlags := 25, nameIndex := 130, descriptorIndex := 124, attributes := #[] }, { accessFlags := 25, nameIndex := 136, descriptorIndex := 124, attributes := #[] }])
  fields := #[{ name := "SIOOBE_FORMATTER", type := (.object "java/util/function/BiFunction"), accessFlags := 25, slot := 0, constantValue := 0 }, { name := "AIOOBE_FORMATTER", type := (.object "java/util/function/BiFunction"), accessFlags := 25, slot := 1, constantValue := 0 }, { name := "IOOBE_FORMATTER", type := (.object "java/util/function/BiFunction"), accessFlags := 25, slot := 2, constantValue := 0 }]
  methods := #[k22m0]
  instanceTypes := #[]
  staticTypes := #[(.object "java/util/function/BiFunction"), (.object "java/util/function/BiFunction"), (.object "java/util/function/BiFunction")]
  resolved := Array.replicate 194 none
  statics := some 2 }

def pool23 : Array CpInfo := pool [(2, .class_ 4), (1, u "java/lang/Object"), (0, u "<init>"), (0, u "()V"), (12, .class_ 20), (0, u "java/util/Collections"), (63, u "r"), (0, u "Ljava/util/Random;"), (80, .class_ 167), (0, u "java/util/Collections$UnmodifiableCollection"), (6, .class_ 175), (0, u "java/util/Collections$UnmodifiableSequencedCollection"), (6, .class_ 183), (0, u "java/util/Collections$UnmodifiableSet"), (6, .class_ 191), (0, u "java/util/Collections$UnmodifiableSequencedSet"), (6, .class_ 199), (0, u "java/util/Collections$UnmodifiableSortedSet"), (6, .class_ 207), (0, u "java/util/Collections$UnmodifiableNavigableSet"), (4, .class_ 213), (0, u "java/util/Collections$UnmodifiableList"), (1, .class_ 216), (0, u "java/util/Collections$UnmodifiableRandomAccessList"), (6, .class_ 224), (0, u "java/util/Collections$UnmodifiableMap"), (6, .class_ 232), (0, u "java/util/Collections$UnmodifiableSequencedMap"), (4, .class_ 238), (0, u "java/util/Collections$UnmodifiableSortedMap"), (6, .class_ 246), (0, u "java/util/Collections$UnmodifiableNavigableMap"), (3, .class_ 251), (0, u "java/util/Collections$SynchronizedCollection"), (4, .class_ 257), (0, u "java/util/Collections$SynchronizedSet"), (4, .class_ 263), (0, u "java/util/Collections$SynchronizedSortedSet"), (1, .class_ 266), (0, u "java/util/Collections$SynchronizedNavigableSet"), (1, .class_ 269), (0, u "java/util/Collections$SynchronizedRandomAccessList"), (1, .class_ 272), (0, u "java/util/Collections$SynchronizedList"), (5, .class_ 279), (0, u "java/util/Collections$SynchronizedMap"), (1, .class_ 282), (0, u "java/util/Collections$SynchronizedSortedMap"), (1, .class_ 285), (0, u "java/util/Collections$SynchronizedNavigableMap"), (1, .class_ 288), (0, u "java/util/Collections$CheckedCollection"), (11, .class_ 301), (0, u "java/util/Collections$CheckedQueue"), (3, .class_ 306), (0, u "java/util/Collections$CheckedSet"), (3, .class_ 311), (0, u "java/util/Collections$CheckedSortedSet"), (3, .class_ 316), (0, u "java/util/Collections$CheckedNavigableSet"), (3, .class_ 321), (0, u "java/util/Collections$CheckedRandomAccessList"), (3, .class_ 326), (0, u "java/util/Collections$CheckedList"), (1, .class_ 329), (0, u "java/util/Collections$CheckedMap"), (3, .class_ 334), (0, u "java/util/Collections$CheckedSortedMap"), (3, .class_ 339), (0, u "java/util/Collections$CheckedNavigableMap"), (4, .class_ 346), (1, u "java/util/Collections$EmptyIterator"), (3, .class_ 352), (1, u "java/util/Collections$EmptyListIterator"), (2, .class_ 357), (1, u "java/util/Collections$EmptyEnumeration"), (4, u "EMPTY_SET"), (0, u "Ljava/util/Set;"), (6, u "EMPTY_LIST"), (0, u "Ljava/util/List;"), (2, u "EMPTY_MAP"), (0, u "Ljava/util/Map;"), (4, .class_ 381), (0, u "java/util/Collections$SingletonSet"), (2, .class_ 385), (0, u "java/util/Collections$1"), (1, .class_ 388), (0, u "java/util/Collections$2"), (1, .class_ 391), (0, u "java/util/Collections$SingletonList"), (1, .class_ 394), (0, u "java/util/Collections$SingletonMap"), (22, .class_ 418), (0, u "java/util/Collections$CopiesList"), (4, .class_ 425), (1, u "java/util/Collections$ReverseComparator"), (8, .class_ 435), (0, u "java/util/Collections$ReverseComparator2"), (6, .class_ 443), (0, u "java/util/Collections$3"), (25, .class_ 470), (0, u "java/util/Collections$SetFromMap"), (2, .class_ 474), (0, u "java/util/Collections$SequencedSetFromMap"), (3, .class_ 479), (0, u "java/util/Collections$AsLIFOQueue"), (11, .class_ 492), (0, u "java/util/Collections$EmptySet"), (1, .class_ 495), (0, u "java/util/Collections$EmptyList"), (1, .class_ 498), (0, u "java/util/Collections$EmptyMap"), (1, u "BINARYSEARCH_THRESHOLD"), (0, u "I"), (2, u "REVERSE_THRESHOLD"), (1, u "SHUFFLE_THRESHOLD"), (1, u "FILL_THRESHOLD"), (1, u "ROTATE_THRESHOLD"), (1, u "COPY_THRESHOLD"), (1, u "REPLACEALL_THRESHOLD"), (1, u "INDEXOFSUBLIST_THRESHOLD"), (333, .class_ 851), (0, u "java/util/Collections$CheckedMap$CheckedEntrySet"), (0, .class_ 853), (0, u "java/util/Collections$CheckedMap$CheckedEntrySet$CheckedEntry"), (0, .class_ 855), (0, u "java/util/Collections$CheckedMap$CheckedEntrySet$1"), (0, .class_ 857), (0, u "java/util/Collections$CheckedList$1"), (0, .class_ 859), (0, u "java/util/Collections$CheckedCollection$1"), (0, .class_ 861), (0, u "java/util/Collections$UnmodifiableNavigableMap$EmptyNavigableMap"), (0, .class_ 863), (0, u "java/util/Collections$UnmodifiableMap$UnmodifiableEntrySet"), (0, .class_ 865), (0, u "java/util/Collections$UnmodifiableMap$UnmodifiableEntrySet$UnmodifiableEntry"), (0, .class_ 867), (0, u "java/util/Collections$UnmodifiableMap$UnmodifiableEntrySet$UnmodifiableEntrySetSpliterator"), (0, .class_ 869), (0, u "java/util/Collections$UnmodifiableMap$UnmodifiableEntrySet$1"), (0, .class_ 871), (0, u "java/util/Collections$UnmodifiableList$1"), (0, .class_ 873), (0, u "java/util/Collections$UnmodifiableNavigableSet$EmptyNavigableSet"), (0, .class_ 875), (0, u "java/util/Collections$UnmodifiableCollection$1")] 57

def k23m0 : Method := { name := "<init>", desc := "()V", sig := { parameters := [], returnType := none }, accessFlags := 2, code := none }
/-- java/util/Collections -/
def k23 : Class := { plain "java/util/Collections" (some 0) with
  accessFlags := 33
  interfaces := #[]
  cf := some (fileOf pool23 19 #[.nestMembers #[478, 473, 469, 434, 423, 417, 393, 390, 380, 497, 494, 491, 355, 350, 344, 338, 333, 328, 850, 852, 854, 320, 325, 856, 315, 310, 305, 300, 287, 858, 284, 281, 278, 268, 271, 265, 262, 256, 250, 245, 860, 237, 231, 223, 862, 864, 866, 868, 215, 212, 870, 206, 872, 198, 190, 182, 174, 166, 874, 442, 387, 384]] #[{ accessFlags := 2, nameIndex := 5, descriptorIndex := 6, attributes := #[] }] 33 2 #[] #[{ accessFlags := 26, nameIndex := 500, descriptorIndex := 501, attributes := #[] }, { accessFlags := 26, nameIndex := 504, descriptorIndex := 501, attributes := #[] }, { accessFlags := 26, nameIndex := 506, descriptorIndex := 501, attributes := #[] }, { accessFlags := 26, nameIndex := 508, descriptorIndex := 501, attributes := #[] }, { accessFlags := 26, nameIndex := 510, descriptorIndex := 501, attributes := #[] }, { accessFlags := 26, nameIndex := 512, descriptorIndex := 501, attributes := #[] }, { accessFlags := 26, nameIndex := 514, descriptorIndex := 501, attributes := #[] }, { accessFlags := 26, nameIndex := 516, descriptorIndex := 501, attributes := #[] }, { accessFlags := 10, nameIndex := 84, descriptorIndex := 85, attributes := #[] }, { accessFlags := 25, nameIndex := 362, descriptorIndex := 363, attributes := #[] }, { accessFlags := 25, nameIndex := 370, descriptorIndex := 371, attributes := #[] }, { accessFlags := 25, nameIndex := 374, descriptorIndex := 375, attributes := #[] }])
  fields := #[{ name := "BINARYSEARCH_THRESHOLD", type := .int, accessFlags := 26, slot := 0, constantValue := 0 }, { name := "REVERSE_THRESHOLD", type := .int, accessFlags := 26, slot := 1, constantValue := 0 }, { name := "SHUFFLE_THRESHOLD", type := .int, accessFlags := 26, slot := 2, constantValue := 0 }, { name := "FILL_THRESHOLD", type := .int, accessFlags := 26, slot := 3, constantValue := 0 }, { name := "ROTATE_THRESHOLD", type := .int, accessFlags := 26, slot := 4, constantValue := 0 }, { name := "COPY_THRESHOLD", type := .int, accessFlags := 26, slot := 5, constantValue := 0 }, { name := "REPLACEALL_THRESHOLD", type := .int, accessFlags := 26, slot := 6, constantValue := 0 }, { name := "INDEXOFSUBLIST_THRESHOLD", type := .int, accessFlags := 26, slot := 7, constantValue := 0 }, { name := "r", type := (.object "java/util/Random"), accessFlags := 10, slot := 8, constantValue := 0 }, { name := "EMPTY_SET", type := (.object "java/util/Set"), accessFlags := 25, slot := 9, constantValue := 0 }, { name := "EMPTY_LIST", type := (.object "java/util/List"), accessFlags := 25, slot := 10, constantValue := 0 }, { name := "EMPTY_MAP", type := (.object "java/util/Map"), accessFlags := 25, slot := 11, constantValue := 0 }]
  methods := #[k23m0]
  instanceTypes := #[]
  staticTypes := #[.int, .int, .int, .int, .int, .int, .int, .int, (.object "java/util/Random"), (.object "java/util/Set"), (.object "java/util/List"), (.object "java/util/Map")]
  resolved := Array.replicate 933 none
  statics := some 3 }

def pool24 : Array CpInfo := pool [(8, .class_ 10), (1, u "java/lang/Iterable"), (24, .class_ 36), (0, u "java/lang/Object")] 25

/-- java/lang/Iterable -/
def k24 : Class := { plain "java/lang/Iterable" (some 0) with
  accessFlags := 1537
  interfaces := #[]
  cf := some (fileOf pool24 8 #[] #[] 1537 35 #[] #[])
  fields := #[]
  methods := #[]
  instanceTypes := #[]
  staticTypes := #[]
  resolved := Array.replicate 62 none
  statics := none }

def pool25 : Array CpInfo := pool [(10, .class_ 12), (1, u "java/util/Collection"), (47, .class_ 61), (0, u "java/lang/Object"), (0, .class_ 63), (0, u "java/lang/Iterable")] 51

/-- java/util/Collection -/
def k25 : Class := { plain "java/util/Collection" (some 0) with
  accessFlags := 1537
  interfaces := #[24]
  cf := some (fileOf pool25 10 #[] #[] 1537 60 #[62] #[])
  fields := #[]
  methods := #[]
  instanceTypes := #[]
  staticTypes := #[]
  resolved := Array.replicate 115 none
  statics := none }

def pool26 : Array CpInfo := pool [(2, .class_ 4), (1, u "java/lang/Object"), (0, u "<init>"), (0, u "()V"), (1, .class_ 10), (1, u "java/util/AbstractCollection"), (66, .class_ 78), (0, u "java/util/Collection")] 81

def k26m0 : Method := { name := "<init>", desc := "()V", sig := { parameters := [], returnType := none }, accessFlags := 4, code := none }
/-- java/util/AbstractCollection -/
def k26 : Class := { plain "java/util/AbstractCollection" (some 0) with
  accessFlags := 1057
  interfaces := #[25]
  cf := some (fileOf pool26 8 #[] #[{ accessFlags := 4, nameIndex := 5, descriptorIndex := 6, attributes := #[] }] 1057 2 #[77] #[])
  fields := #[]
  methods := #[k26m0]
  instanceTypes := #[]
  staticTypes := #[]
  resolved := Array.replicate 160 none
  statics := none }

def pool27 : Array CpInfo := pool [(8, .class_ 10), (1, u "java/util/SequencedCollection"), (15, .class_ 27), (0, u "java/lang/Object"), (0, .class_ 29), (0, u "java/util/Collection")] 27

/-- java/util/SequencedCollection -/
def k27 : Class := { plain "java/util/SequencedCollection" (some 0) with
  accessFlags := 1537
  interfaces := #[25]
  cf := some (fileOf pool27 8 #[] #[] 1537 26 #[28] #[])
  fields := #[]
  methods := #[]
  instanceTypes := #[]
  staticTypes := #[]
  resolved := Array.replicate 57 none
  statics := none }

def pool28 : Array CpInfo := pool [(8, .class_ 10), (1, u "java/util/List"), (92, .class_ 104), (0, u "java/lang/Object"), (15, .class_ 121), (0, u "java/util/SequencedCollection")] 129

/-- java/util/List -/
def k28 : Class := { plain "java/util/List" (some 0) with
  accessFlags := 1537
  interfaces := #[27]
  cf := some (fileOf pool28 8 #[] #[] 1537 103 #[120] #[])
  fields := #[]
  methods := #[]
  instanceTypes := #[]
  staticTypes := #[]
  resolved := Array.replicate 251 none
  statics := none }

def pool29 : Array CpInfo := pool [(2, .class_ 4), (1, u "java/util/AbstractCollection"), (0, u "<init>"), (0, u "()V"), (1, .class_ 10), (1, u "java/util/AbstractList"), (0, u "modCount"), (0, u "I"), (64, .class_ 78), (0, u "java/util/AbstractList$Itr"), (3, .class_ 83), (0, u "java/util/AbstractList$ListItr"), (9, .class_ 94), (0, u "java/util/AbstractList$RandomAccessSubList"), (3, .class_ 99), (0, u "java/util/AbstractList$SubList"), (33, .class_ 134), (0, u "java/util/List"), (73, .class_ 209), (0, u "java/util/AbstractList$SubList$1"), (0, .class_ 211), (0, u "java/util/AbstractList$RandomAccessSpliterator")] 6

def k29m0 : Method := { name := "<init>", desc := "()V", sig := { parameters := [], returnType := none }, accessFlags := 4, code := none }
/-- java/util/AbstractList -/
def k29 : Class := { plain "java/util/AbstractList" (some 26) with
  accessFlags := 1057
  interfaces := #[28]
  cf := some (fileOf pool29 8 #[.nestMembers #[93, 98, 208, 210, 82, 77]] #[{ accessFlags := 4, nameIndex := 5, descriptorIndex := 6, attributes := #[] }] 1057 2 #[133] #[{ accessFlags := 132, nameIndex := 11, descriptorIndex := 12, attributes := #[] }])
  fields := #[{ name := "modCount", type := .int, accessFlags := 132, slot := 0, constantValue := 0 }]
  methods := #[k29m0]
  instanceTypes := #[.int]
  staticTypes := #[]
  resolved := Array.replicate 218 none
  statics := none }

def pool30 : Array CpInfo := pool [(1, .class_ 2), (0, u "java/util/RandomAccess"), (0, .class_ 4), (0, u "java/lang/Object")] 2

/-- java/util/RandomAccess -/
def k30 : Class := { plain "java/util/RandomAccess" (some 0) with
  accessFlags := 1537
  interfaces := #[]
  cf := some (fileOf pool30 1 #[] #[] 1537 3 #[] #[])
  fields := #[]
  methods := #[]
  instanceTypes := #[]
  staticTypes := #[]
  resolved := Array.replicate 7 none
  statics := none }

def pool31 : Array CpInfo := pool [(2, .class_ 4), (1, u "java/util/AbstractList"), (0, u "<init>"), (0, u "()V"), (1, .class_ 10), (1, u "java/util/Collections"), (54, .class_ 66), (0, u "java/util/Collections$EmptyList"), (0, .class_ 68), (0, u "java/util/RandomAccess"), (0, .class_ 70), (0, u "java/io/Serializable"), (0, u "serialVersionUID"), (0, u "J")] 77

def k31m0 : Method := { name := "<init>", desc := "()V", sig := { parameters := [], returnType := none }, accessFlags := 2, code := none }
/-- java/util/Collections$EmptyList -/
def k31 : Class := { plain "java/util/Collections$EmptyList" (some 29) with
  accessFlags := 32
  interfaces := #[30, 2]
  cf := some (fileOf pool31 65 #[.nestHost 8] #[{ accessFlags := 2, nameIndex := 5, descriptorIndex := 6, attributes := #[] }] 32 2 #[67, 69] #[{ accessFlags := 26, nameIndex := 71, descriptorIndex := 72, attributes := #[] }])
  fields := #[{ name := "serialVersionUID", type := .long, accessFlags := 26, slot := 0, constantValue := 0 }]
  methods := #[k31m0]
  instanceTypes := #[.int]
  staticTypes := #[.long]
  resolved := Array.replicate 150 none
  statics := none }

def pool32 : Array CpInfo := pool [(2, .class_ 4), (1, u "java/lang/StackTraceElement"), (0, u "<init>"), (2, .class_ 10), (1, u "java/lang/Object"), (0, u "()V"), (2, u "format"), (0, u "B"), (2, u "classLoaderName"), (0, u "Ljava/lang/String;"), (2, u "moduleName"), (2, u "moduleVersion"), (12, u "declaringClass"), (4, u "methodName"), (2, u "fileName"), (2, u "lineNumber"), (0, u "I"), (65, u "declaringClassObject"), (0, u "Ljava/lang/Class;"), (33, .class_ 153), (1, u "java/lang/StackTraceElement$HashedModules"), (17, .class_ 172), (0, u "java/io/Serializable"), (0, u "NATIVE_METHOD"), (1, u "UNKNOWN_SOURCE"), (2, u "BUILTIN_CLASS_LOADER"), (1, u "JDK_NON_UPGRADEABLE_MODULE"), (1, u "serialVersionUID"), (0, u "J")] 51

def k32m0 : Method := { name := "<init>", desc := "()V", sig := { parameters := [], returnType := none }, accessFlags := 2, code := none }
/-- java/lang/StackTraceElement -/
def k32 : Class := { plain "java/lang/StackTraceElement" (some 0) with
  accessFlags := 49
  interfaces := #[2]
  cf := some (fileOf pool32 2 #[.nestMembers #[151]] #[{ accessFlags := 2, nameIndex := 5, descriptorIndex := 11, attributes := #[] }] 49 8 #[171] #[{ accessFlags := 26, nameIndex := 173, descriptorIndex := 19, attributes := #[] }, { accessFlags := 26, nameIndex := 175, descriptorIndex := 19, attributes := #[] }, { accessFlags := 130, nameIndex := 116, descriptorIndex := 117, attributes := #[] }, { accessFlags := 2, nameIndex := 18, descriptorIndex := 19, attributes := #[] }, { accessFlags := 2, nameIndex := 22, descriptorIndex := 19, attributes := #[] }, { accessFlags := 2, nameIndex := 25, descriptorIndex := 19, attributes := #[] }, { accessFlags := 2, nameIndex := 38, descriptorIndex := 19, attributes := #[] }, { accessFlags := 2, nameIndex := 43, descriptorIndex := 19, attributes := #[] }, { accessFlags := 2, nameIndex := 46, descriptorIndex := 19, attributes := #[] }, { accessFlags := 2, nameIndex := 49, descriptorIndex := 50, attributes := #[] }, { accessFlags := 2, nameIndex := 14, descriptorIndex := 15, attributes := #[] }, { accessFlags := 26, nameIndex := 178, descriptorIndex := 15, attributes := #[] }, { accessFlags := 26, nameIndex := 180, descriptorIndex := 15, attributes := #[] }, { accessFlags := 26, nameIndex := 182, descriptorIndex := 183, attributes := #[] }])
  fields := #[{ name := "NATIVE_METHOD", type := (.object "java/lang/String"), accessFlags := 26, slot := 0, constantValue := 0 }, { name := "UNKNOWN_SOURCE", type := (.object "java/lang/String"), accessFlags := 26, slot := 1, constantValue := 0 }, { name := "declaringClassObject", type := (.object "java/lang/Class"), accessFlags := 130, slot := 0, constantValue := 0 }, { name := "classLoaderName", type := (.object "java/lang/String"), accessFlags := 2, slot := 1, constantValue := 0 }, { name := "moduleName", type := (.object "java/lang/String"), accessFlags := 2, slot := 2, constantValue := 0 }, { name := "moduleVersion", type := (.object "java/lang/String"), accessFlags := 2, slot := 3, constantValue := 0 }, { name := "declaringClass", type := (.object "java/lang/String"), accessFlags := 2, slot := 4, constantValue := 0 }, { name := "methodName", type := (.object "java/lang/String"), accessFlags := 2, slot := 5, constantValue := 0 }, { name := "fileName", type := (.object "java/lang/String"), accessFlags := 2, slot := 6, constantValue := 0 }, { name := "lineNumber", type := .int, accessFlags := 2, slot := 7, constantValue := 0 }, { name := "format", type := .byte, accessFlags := 2, slot := 8, constantValue := 0 }, { name := "BUILTIN_CLASS_LOADER", type := .byte, accessFlags := 26, slot := 2, constantValue := 0 }, { name := "JDK_NON_UPGRADEABLE_MODULE", type := .byte, accessFlags := 26, slot := 3, constantValue := 0 }, { name := "serialVersionUID", type := .long, accessFlags := 26, slot := 4, constantValue := 0 }]
  methods := #[k32m0]
  instanceTypes := #[(.object "java/lang/Class"), (.object "java/lang/String"), (.object "java/lang/String"), (.object "java/lang/String"), (.object "java/lang/String"), (.object "java/lang/String"), (.object "java/lang/String"), .int, .byte]
  staticTypes := #[(.object "java/lang/String"), (.object "java/lang/String"), .byte, .byte, .long]
  resolved := Array.replicate 235 none
  statics := none }

def pool33 : Array CpInfo := pool [(1, u "java/lang/Cloneable"), (0, .class_ 1), (0, u "java/lang/Object"), (0, .class_ 3)] 3

/-- java/lang/Cloneable -/
def k33 : Class := { plain "java/lang/Cloneable" (some 0) with
  accessFlags := 1537
  interfaces := #[]
  cf := some (fileOf pool33 2 #[] #[] 1537 4 #[] #[])
  fields := #[]
  methods := #[]
  instanceTypes := #[]
  staticTypes := #[]
  resolved := Array.replicate 8 none
  statics := none }

/-- the primitive byte -/
def k34 : Class := { plain "byte" none with kind := .primitive 'B', accessFlags := 0x411 }
/-- [B -/
def k35 : Class := { plain "[B" (some 0) with kind := .array 34 .byte, interfaces := #[33, 2], accessFlags := 1041 }

/-- the primitive char -/
def k36 : Class := { plain "char" none with kind := .primitive 'C', accessFlags := 0x411 }
/-- [C -/
def k37 : Class := { plain "[C" (some 0) with kind := .array 36 .char, interfaces := #[33, 2], accessFlags := 1041 }

/-- the primitive int -/
def k38 : Class := { plain "int" none with kind := .primitive 'I', accessFlags := 0x411 }
/-- [I -/
def k39 : Class := { plain "[I" (some 0) with kind := .array 38 .int, interfaces := #[33, 2], accessFlags := 1041 }

/-- [Ljava/lang/Object; -/
def k40 : Class := { plain "[Ljava/lang/Object;" (some 0) with kind := .array 0 (.object "java/lang/Object"), interfaces := #[33, 2], accessFlags := 1041 }

/-- [Ljava/lang/StackTraceElement; -/
def k41 : Class := { plain "[Ljava/lang/StackTraceElement;" (some 0) with kind := .array 32 (.object "java/lang/StackTraceElement"), interfaces := #[33, 2], accessFlags := 1041 }

/-- [Ljava/lang/Throwable; -/
def k42 : Class := { plain "[Ljava/lang/Throwable;" (some 0) with kind := .array 8 (.object "java/lang/Throwable"), interfaces := #[33, 2], accessFlags := 1041 }

def heap : Heap := #[{ cls := 7, slots := #[.long 0, .int 1, .null, .int 0, .null, .int 0, .int 0], vm := .statics 7 },
  { cls := 8, slots := #[.long 0, .ref 4, .ref 5, .null, .null, .null, .null, .ref 6, .int 1], vm := .statics 8 },
  { cls := 22, slots := #[.null, .null, .null], vm := .statics 22 },
  { cls := 23, slots := #[.int 0, .int 0, .int 0, .int 0, .int 0, .int 0, .int 0, .int 0, .null, .null, .ref 5, .null], vm := .statics 23 },
  { cls := 41, slots := #[], vm := .none },
  { cls := 31, slots := #[.int 0], vm := .none },
  { cls := 42, slots := #[], vm := .none }]
def classes : Array Class := #[k0, k1, k2, k3, k4, k5, k6, k7, k8, k9, k10, k11, k12, k13, k14, k15, k16, k17, k18, k19, k20, k21, k22, k23, k24, k25, k26, k27, k28, k29, k30, k31, k32, k33, k34, k35, k36, k37, k38, k39, k40, k41, k42]
def interned : List (Array UInt16 × Addr) := []
def slotsUsed : Nat := 32
def theMethod : MethodId := ⟨1, 1⟩
def args0 : Array Value := #[.int 5, .int 5, .int 5]
def aboutOver (below : List Frame) : State where
  vm := { classes := classes, interned := interned.toArray }
  heap := heap
  slotsUsed := slotsUsed
  threads := #[{ frames := .invoking theMethod args0 :: below }]
def below0 : List Frame := [.native { method := ⟨0, 0⟩, args := #[] }]
def about1 : State := aboutOver below0
def p0 : Program := .bare "" "" ""
def e0 : Env := launch0.env 0 0 0
theorem w_frames : about1.frames = Frame.invoking theMethod args0 :: below0 := rfl
set_option maxRecDepth 65536 in
theorem w_args : argsFit about1.vm theMethod args0 = true := by decide +kernel
set_option maxRecDepth 65536 in
theorem w_heap : heapFits about1 = true := by decide +kernel
set_option maxRecDepth 65536 in
theorem w_runnable : about1.curStatus? = some .runnable := by decide +kernel
set_option maxRecDepth 65536 in
theorem w_alone : about1.alone = true := by decide +kernel
set_option maxRecDepth 65536 in
theorem w_named : about1.methodNamed? x = some theMethod := by decide +kernel
set_option maxRecDepth 65536 in
theorem w_hears : about1.hears theMethod below0 = true := by decide +kernel
set_option maxRecDepth 65536 in
theorem w_ripe : about1.ripe theMethod args0 below0 = true := by decide +kernel
theorem w_running : about1.status = .running := rfl
set_option maxRecDepth 65536 in
theorem w_room : about1.hasRoom e0.platform room_1 = true :=
  launch0.hasRoom_least _ room_1 (by decide +kernel) (by decide +kernel) (by decide +kernel) (by decide +kernel) (by decide +kernel) (by decide +kernel)
theorem allAtoms_all (ts : List Jvm.Cond) (a : Array Jvm.Value) (st : Jvm.State) : (allAtoms ts).before a st = ts.all (fun c => c.before a st) := by
  induction ts with
  | nil => rfl
  | cons c t ih =>
    show (Jvm.Cond.and c (allAtoms t)).before a st = _
    rw [Jvm.Cond.before_and, ih, List.all_cons]
def words1 : List Jvm.Cond := Jvm.Cond.code x code maxLocals ret :: tables_1
/-- a 'code' word, met by the world's own term for the bytes: nothing is compared byte by byte -/
theorem code_word {y : MethodName} {bytes : ByteArray} {mx : Nat} {rt : Option FieldType} {a : Array Value} {s : State} {m : MethodId} {meth : Method} {c : Code} (h1 : s.methodNamed? y = some m) (h2 : s.vm.method? m = some meth) (h3 : meth.code = some c) (h4 : c.code = bytes)
    (h5 : (c.maxLocals == mx && c.exceptionTable.isEmpty && decide (c.maxStack ≤ mostOperands) && decide (meth.sig.returnType = rt) && !meth.locks && decide (parseMethodDescriptor y.desc = some meth.sig)) = true) : (Jvm.Cond.code y bytes mx rt).before a s = true := by
  simp only [Bool.and_eq_true, beq_iff_eq, Bool.not_eq_true', decide_eq_true_eq] at h5
  obtain ⟨⟨⟨⟨⟨g1, g2⟩, g3⟩, g4⟩, g5⟩, g6⟩ := h5
  simp [Cond.before, Cond.holds, Cond.value, h1, h2, h3, h4, g1, g2, g3, g4, g5, g6]
def isCode : Jvm.Cond → Bool
  | .code _ _ _ _ => true
  | _ => false
theorem all_split {L : List Jvm.Cond} {P : Jvm.Cond → Bool} (h1 : L.all (fun c => isCode c || P c) = true) (h2 : ∀ c ∈ L.filter isCode, P c = true) : L.all P = true := by
  refine List.all_eq_true.mpr fun c hc => ?_
  have h := List.all_eq_true.mp h1 c hc
  rcases Bool.eq_false_or_eq_true (isCode c) with hi | hi
  · exact h2 c (List.mem_filter.mpr ⟨hc, hi⟩)
  · simpa [hi] using h
set_option maxRecDepth 65536 in
theorem w_c0 : (Jvm.Cond.code x code maxLocals ret).before args0 about1 = true := code_word (m := ⟨1, 1⟩) (meth := k1m1) (c := k1c1) (by decide +kernel) rfl rfl rfl (by decide +kernel)
set_option maxRecDepth 65536 in
theorem w_c1 : (Jvm.Cond.code ({ cls := "java/lang/String", name := "<init>", desc := "([C)V" } : Jvm.MethodName) jdk_42_method_3_code (2 : Nat) (Option.none : Option Jvm.ClassFile.FieldType)).before args0 about1 = true := code_word (m := ⟨7, 1⟩) (meth := k7m1) (c := k7c1) (by decide +kernel) rfl rfl rfl (by decide +kernel)
set_option maxRecDepth 65536 in
theorem w_c2 : (Jvm.Cond.code ({ cls := "java/lang/String", name := "<init>", desc := "([CIILjava/lang/Void;)V" } : Jvm.MethodName) jdk_42_method_149_code (6 : Nat) (Option.none : Option Jvm.ClassFile.FieldType)).before args0 about1 = true := code_word (m := ⟨7, 6⟩) (meth := k7m6) (c := k7c6) (by decide +kernel) rfl rfl rfl (by decide +kernel)
set_option maxRecDepth 65536 in
theorem w_c3 : (Jvm.Cond.code ({ cls := "java/lang/Object", name := "<init>", desc := "()V" } : Jvm.MethodName) object_method_1_code (1 : Nat) (Option.none : Option Jvm.ClassFile.FieldType)).before args0 about1 = true := code_word (m := ⟨0, 0⟩) (meth := k0m0) (c := k0c0) (by decide +kernel) rfl rfl rfl (by decide +kernel)
set_option maxRecDepth 65536 in
theorem w_c4 : (Jvm.Cond.code ({ cls := "com/example/hyacinth/hyacinth/error/BeanDefinitionStoreException", name := "invalidDefinition", desc := "(Ljava/lang/String;Ljava/lang/String;)Lcom/example/hyacinth/hyacinth/error/BeanDefinitionStoreException;" } : Jvm.MethodName) prog_15_method_3_code (2 : Nat) (Option.some (Jvm.ClassFile.FieldType.object "com/example/hyacinth/hyacinth/error/BeanDefinitionStoreException"))).before args0 about1 = true := code_word (m := ⟨12, 1⟩) (meth := k12m1) (c := k12c1) (by decide +kernel) rfl rfl rfl (by decide +kernel)
set_option maxRecDepth 65536 in
theorem w_c5 : (Jvm.Cond.code ({ cls := "java/lang/StringBuilder", name := "<init>", desc := "()V" } : Jvm.MethodName) jdk_67_method_1_code (1 : Nat) (Option.none : Option Jvm.ClassFile.FieldType)).before args0 about1 = true := code_word (m := ⟨15, 0⟩) (meth := k15m0) (c := k15c0) (by decide +kernel) rfl rfl rfl (by decide +kernel)
set_option maxRecDepth 65536 in
theorem w_c6 : (Jvm.Cond.code ({ cls := "java/lang/AbstractStringBuilder", name := "<init>", desc := "(I)V" } : Jvm.MethodName) jdk_68_method_2_code (2 : Nat) (Option.none : Option Jvm.ClassFile.FieldType)).before args0 about1 = true := code_word (m := ⟨14, 1⟩) (meth := k14m1) (c := k14c1) (by decide +kernel) rfl rfl rfl (by decide +kernel)
set_option maxRecDepth 65536 in
theorem w_c7 : (Jvm.Cond.code ({ cls := "java/lang/StringBuilder", name := "append", desc := "(Ljava/lang/String;)Ljava/lang/StringBuilder;" } : Jvm.MethodName) jdk_67_method_7_code (2 : Nat) (Option.some (Jvm.ClassFile.FieldType.object "java/lang/StringBuilder"))).before args0 about1 = true := code_word (m := ⟨15, 1⟩) (meth := k15m1) (c := k15c1) (by decide +kernel) rfl rfl rfl (by decide +kernel)
set_option maxRecDepth 65536 in
theorem w_c8 : (Jvm.Cond.code ({ cls := "java/lang/AbstractStringBuilder", name := "append", desc := "(Ljava/lang/String;)Ljava/lang/AbstractStringBuilder;" } : Jvm.MethodName) jdk_68_method_22_code (3 : Nat) (Option.some (Jvm.ClassFile.FieldType.object "java/lang/AbstractStringBuilder"))).before args0 about1 = true := code_word (m := ⟨14, 5⟩) (meth := k14m5) (c := k14c5) (by decide +kernel) rfl rfl rfl (by decide +kernel)
set_option maxRecDepth 65536 in
theorem w_c9 : (Jvm.Cond.code ({ cls := "java/lang/String", name := "length", desc := "()I" } : Jvm.MethodName) jdk_42_method_54_code (1 : Nat) (Option.some Jvm.ClassFile.FieldType.int)).before args0 about1 = true := code_word (m := ⟨7, 3⟩) (meth := k7m3) (c := k7c3) (by decide +kernel) rfl rfl rfl (by decide +kernel)
set_option maxRecDepth 65536 in
theorem w_c10 : (Jvm.Cond.code ({ cls := "java/lang/String", name := "coder", desc := "()B" } : Jvm.MethodName) jdk_42_method_152_code (1 : Nat) (Option.some Jvm.ClassFile.FieldType.byte)).before args0 about1 = true := code_word (m := ⟨7, 8⟩) (meth := k7m8) (c := k7c8) (by decide +kernel) rfl rfl rfl (by decide +kernel)
set_option maxRecDepth 65536 in
theorem w_c11 : (Jvm.Cond.code ({ cls := "java/lang/AbstractStringBuilder", name := "ensureCapacityInternal", desc := "(I)V" } : Jvm.MethodName) jdk_68_method_9_code (3 : Nat) (Option.none : Option Jvm.ClassFile.FieldType)).before args0 about1 = true := code_word (m := ⟨14, 3⟩) (meth := k14m3) (c := k14c3) (by decide +kernel) rfl rfl rfl (by decide +kernel)
set_option maxRecDepth 65536 in
theorem w_c12 : (Jvm.Cond.code ({ cls := "java/lang/AbstractStringBuilder", name := "newCapacity", desc := "(I)I" } : Jvm.MethodName) jdk_68_method_10_code (6 : Nat) (Option.some Jvm.ClassFile.FieldType.int)).before args0 about1 = true := code_word (m := ⟨14, 4⟩) (meth := k14m4) (c := k14c4) (by decide +kernel) rfl rfl rfl (by decide +kernel)
set_option maxRecDepth 65536 in
theorem w_c13 : (Jvm.Cond.code ({ cls := "jdk/internal/util/ArraysSupport", name := "newLength", desc := "(III)I" } : Jvm.MethodName) jdk_48_method_27_code (4 : Nat) (Option.some Jvm.ClassFile.FieldType.int)).before args0 about1 = true := code_word (m := ⟨16, 1⟩) (meth := k16m1) (c := k16c1) (by decide +kernel) rfl rfl rfl (by decide +kernel)
set_option maxRecDepth 65536 in
theorem w_c14 : (Jvm.Cond.code ({ cls := "java/lang/Math", name := "max", desc := "(II)I" } : Jvm.MethodName) jdk_29_method_65_code (2 : Nat) (Option.some Jvm.ClassFile.FieldType.int)).before args0 about1 = true := code_word (m := ⟨17, 1⟩) (meth := k17m1) (c := k17c1) (by decide +kernel) rfl rfl rfl (by decide +kernel)
set_option maxRecDepth 65536 in
theorem w_c15 : (Jvm.Cond.code ({ cls := "java/util/Arrays", name := "copyOf", desc := "([BI)[B" } : Jvm.MethodName) jdk_65_method_121_code (3 : Nat) (Option.some (Jvm.ClassFile.FieldType.array Jvm.ClassFile.FieldType.byte))).before args0 about1 = true := code_word (m := ⟨18, 1⟩) (meth := k18m1) (c := k18c1) (by decide +kernel) rfl rfl rfl (by decide +kernel)
set_option maxRecDepth 65536 in
theorem w_c16 : (Jvm.Cond.code ({ cls := "java/lang/Math", name := "min", desc := "(II)I" } : Jvm.MethodName) jdk_29_method_69_code (2 : Nat) (Option.some Jvm.ClassFile.FieldType.int)).before args0 about1 = true := code_word (m := ⟨17, 2⟩) (meth := k17m2) (c := k17c2) (by decide +kernel) rfl rfl rfl (by decide +kernel)
set_option maxRecDepth 65536 in
theorem w_c17 : (Jvm.Cond.code ({ cls := "java/lang/AbstractStringBuilder", name := "putStringAt", desc := "(ILjava/lang/String;)V" } : Jvm.MethodName) jdk_68_method_73_code (3 : Nat) (Option.none : Option Jvm.ClassFile.FieldType)).before args0 about1 = true := code_word (m := ⟨14, 9⟩) (meth := k14m9) (c := k14c9) (by decide +kernel) rfl rfl rfl (by decide +kernel)
set_option maxRecDepth 65536 in
theorem w_c18 : (Jvm.Cond.code ({ cls := "java/lang/AbstractStringBuilder", name := "inflateIfNeededFor", desc := "(Ljava/lang/String;)V" } : Jvm.MethodName) jdk_68_method_71_code (2 : Nat) (Option.none : Option Jvm.ClassFile.FieldType)).before args0 about1 = true := code_word (m := ⟨14, 8⟩) (meth := k14m8) (c := k14c8) (by decide +kernel) rfl rfl rfl (by decide +kernel)
set_option maxRecDepth 65536 in
theorem w_c19 : (Jvm.Cond.code ({ cls := "java/lang/String", name := "getBytes", desc := "([BIB)V" } : Jvm.MethodName) jdk_42_method_147_code (4 : Nat) (Option.none : Option Jvm.ClassFile.FieldType)).before args0 about1 = true := code_word (m := ⟨7, 5⟩) (meth := k7m5) (c := k7c5) (by decide +kernel) rfl rfl rfl (by decide +kernel)
set_option maxRecDepth 65536 in
theorem w_c20 : (Jvm.Cond.code ({ cls := "java/lang/StringBuilder", name := "toString", desc := "()Ljava/lang/String;" } : Jvm.MethodName) jdk_67_method_42_code (1 : Nat) (Option.some (Jvm.ClassFile.FieldType.object "java/lang/String"))).before args0 about1 = true := code_word (m := ⟨15, 2⟩) (meth := k15m2) (c := k15c2) (by decide +kernel) rfl rfl rfl (by decide +kernel)
set_option maxRecDepth 65536 in
theorem w_c21 : (Jvm.Cond.code ({ cls := "java/lang/String", name := "<init>", desc := "(Ljava/lang/StringBuilder;)V" } : Jvm.MethodName) jdk_42_method_53_code (2 : Nat) (Option.none : Option Jvm.ClassFile.FieldType)).before args0 about1 = true := code_word (m := ⟨7, 2⟩) (meth := k7m2) (c := k7c2) (by decide +kernel) rfl rfl rfl (by decide +kernel)
set_option maxRecDepth 65536 in
theorem w_c22 : (Jvm.Cond.code ({ cls := "java/lang/String", name := "<init>", desc := "(Ljava/lang/AbstractStringBuilder;Ljava/lang/Void;)V" } : Jvm.MethodName) jdk_42_method_150_code (5 : Nat) (Option.none : Option Jvm.ClassFile.FieldType)).before args0 about1 = true := code_word (m := ⟨7, 7⟩) (meth := k7m7) (c := k7c7) (by decide +kernel) rfl rfl rfl (by decide +kernel)
set_option maxRecDepth 65536 in
theorem w_c23 : (Jvm.Cond.code ({ cls := "java/lang/AbstractStringBuilder", name := "getValue", desc := "()[B" } : Jvm.MethodName) jdk_68_method_64_code (1 : Nat) (Option.some (Jvm.ClassFile.FieldType.array Jvm.ClassFile.FieldType.byte))).before args0 about1 = true := code_word (m := ⟨14, 6⟩) (meth := k14m6) (c := k14c6) (by decide +kernel) rfl rfl rfl (by decide +kernel)
set_option maxRecDepth 65536 in
theorem w_c24 : (Jvm.Cond.code ({ cls := "java/lang/StringBuilder", name := "length", desc := "()I" } : Jvm.MethodName) jdk_67_method_93_code (1 : Nat) (Option.some Jvm.ClassFile.FieldType.int)).before args0 about1 = true := code_word (m := ⟨15, 3⟩) (meth := k15m3) (c := k15c3) (by decide +kernel) rfl rfl rfl (by decide +kernel)
set_option maxRecDepth 65536 in
theorem w_c25 : (Jvm.Cond.code ({ cls := "java/lang/AbstractStringBuilder", name := "length", desc := "()I" } : Jvm.MethodName) jdk_68_method_6_code (1 : Nat) (Option.some Jvm.ClassFile.FieldType.int)).before args0 about1 = true := code_word (m := ⟨14, 2⟩) (meth := k14m2) (c := k14c2) (by decide +kernel) rfl rfl rfl (by decide +kernel)
set_option maxRecDepth 65536 in
theorem w_c26 : (Jvm.Cond.code ({ cls := "java/lang/AbstractStringBuilder", name := "isLatin1", desc := "()Z" } : Jvm.MethodName) jdk_68_method_68_code (1 : Nat) (Option.some Jvm.ClassFile.FieldType.boolean)).before args0 about1 = true := code_word (m := ⟨14, 7⟩) (meth := k14m7) (c := k14c7) (by decide +kernel) rfl rfl rfl (by decide +kernel)
set_option maxRecDepth 65536 in
theorem w_c27 : (Jvm.Cond.code ({ cls := "java/util/Arrays", name := "copyOfRange", desc := "([BII)[B" } : Jvm.MethodName) jdk_65_method_132_code (3 : Nat) (Option.some (Jvm.ClassFile.FieldType.array Jvm.ClassFile.FieldType.byte))).before args0 about1 = true := code_word (m := ⟨18, 3⟩) (meth := k18m3) (c := k18c3) (by decide +kernel) rfl rfl rfl (by decide +kernel)
set_option maxRecDepth 65536 in
theorem w_c28 : (Jvm.Cond.code ({ cls := "java/util/Arrays", name := "copyOfRangeByte", desc := "([BII)[B" } : Jvm.MethodName) jdk_65_method_133_code (5 : Nat) (Option.some (Jvm.ClassFile.FieldType.array Jvm.ClassFile.FieldType.byte))).before args0 about1 = true := code_word (m := ⟨18, 4⟩) (meth := k18m4) (c := k18c4) (by decide +kernel) rfl rfl rfl (by decide +kernel)
set_option maxRecDepth 65536 in
theorem w_c29 : (Jvm.Cond.code ({ cls := "java/util/Arrays", name := "checkLength", desc := "(II)V" } : Jvm.MethodName) jdk_65_method_131_code (2 : Nat) (Option.none : Option Jvm.ClassFile.FieldType)).before args0 about1 = true := code_word (m := ⟨18, 2⟩) (meth := k18m2) (c := k18c2) (by decide +kernel) rfl rfl rfl (by decide +kernel)
set_option maxRecDepth 65536 in
theorem w_c30 : (Jvm.Cond.code ({ cls := "com/example/hyacinth/hyacinth/error/BeanDefinitionStoreException", name := "<init>", desc := "(Ljava/lang/String;)V" } : Jvm.MethodName) prog_15_method_2_code (2 : Nat) (Option.none : Option Jvm.ClassFile.FieldType)).before args0 about1 = true := code_word (m := ⟨12, 0⟩) (meth := k12m0) (c := k12c0) (by decide +kernel) rfl rfl rfl (by decide +kernel)
set_option maxRecDepth 65536 in
theorem w_c31 : (Jvm.Cond.code ({ cls := "com/example/hyacinth/hyacinth/error/BeansException", name := "<init>", desc := "(Ljava/lang/String;)V" } : Jvm.MethodName) prog_20_method_1_code (2 : Nat) (Option.none : Option Jvm.ClassFile.FieldType)).before args0 about1 = true := code_word (m := ⟨11, 0⟩) (meth := k11m0) (c := k11c0) (by decide +kernel) rfl rfl rfl (by decide +kernel)
set_option maxRecDepth 65536 in
theorem w_c32 : (Jvm.Cond.code ({ cls := "java/lang/RuntimeException", name := "<init>", desc := "(Ljava/lang/String;)V" } : Jvm.MethodName) jdk_58_method_2_code (2 : Nat) (Option.none : Option Jvm.ClassFile.FieldType)).before args0 about1 = true := code_word (m := ⟨10, 1⟩) (meth := k10m1) (c := k10c1) (by decide +kernel) rfl rfl rfl (by decide +kernel)
set_option maxRecDepth 65536 in
theorem w_c33 : (Jvm.Cond.code ({ cls := "java/lang/Exception", name := "<init>", desc := "(Ljava/lang/String;)V" } : Jvm.MethodName) jdk_59_method_2_code (2 : Nat) (Option.none : Option Jvm.ClassFile.FieldType)).before args0 about1 = true := code_word (m := ⟨9, 1⟩) (meth := k9m1) (c := k9c1) (by decide +kernel) rfl rfl rfl (by decide +kernel)
set_option maxRecDepth 65536 in
theorem w_c34 : (Jvm.Cond.code ({ cls := "java/lang/Throwable", name := "<init>", desc := "(Ljava/lang/String;)V" } : Jvm.MethodName) jdk_78_method_2_code (2 : Nat) (Option.none : Option Jvm.ClassFile.FieldType)).before args0 about1 = true := code_word (m := ⟨8, 1⟩) (meth := k8m1) (c := k8c1) (by decide +kernel) rfl rfl rfl (by decide +kernel)
set_option maxRecDepth 65536 in
theorem w_c35 : (Jvm.Cond.code ({ cls := "java/lang/Throwable", name := "<init>", desc := "()V" } : Jvm.MethodName) jdk_78_method_1_code (1 : Nat) (Option.none : Option Jvm.ClassFile.FieldType)).before args0 about1 = true := code_word (m := ⟨8, 0⟩) (meth := k8m0) (c := k8c0) (by decide +kernel) rfl rfl rfl (by decide +kernel)
set_option maxRecDepth 65536 in
theorem w_c36 : (Jvm.Cond.code ({ cls := "java/lang/Throwable", name := "getMessage", desc := "()Ljava/lang/String;" } : Jvm.MethodName) jdk_78_method_6_code (1 : Nat) (Option.some (Jvm.ClassFile.FieldType.object "java/lang/String"))).before args0 about1 = true := code_word (m := ⟨8, 2⟩) (meth := k8m2) (c := k8c2) (by decide +kernel) rfl rfl rfl (by decide +kernel)
set_option maxRecDepth 65536 in
theorem w_c37 : (Jvm.Cond.code ({ cls := "java/lang/String", name := "equals", desc := "(Ljava/lang/Object;)Z" } : Jvm.MethodName) jdk_42_method_66_code (3 : Nat) (Option.some Jvm.ClassFile.FieldType.boolean)).before args0 about1 = true := code_word (m := ⟨7, 4⟩) (meth := k7m4) (c := k7c4) (by decide +kernel) rfl rfl rfl (by decide +kernel)
set_option maxRecDepth 65536 in
theorem w_c38 : (Jvm.Cond.code ({ cls := "java/lang/StringLatin1", name := "equals", desc := "([B[B)Z" } : Jvm.MethodName) jdk_43_method_13_code (3 : Nat) (Option.some Jvm.ClassFile.FieldType.boolean)).before args0 about1 = true := code_word (m := ⟨20, 1⟩) (meth := k20m1) (c := k20c1) (by decide +kernel) rfl rfl rfl (by decide +kernel)
set_option maxRecDepth 65536 in
theorem w_c39 : (Jvm.Cond.code ({ cls := "java/lang/StringUTF16", name := "compress", desc := "([CII)[B" } : Jvm.MethodName) jdk_52_method_16_code (6 : Nat) (Option.some (Jvm.ClassFile.FieldType.array Jvm.ClassFile.FieldType.byte))).before args0 about1 = true := code_word (m := ⟨21, 2⟩) (meth := k21m2) (c := k21c2) (by decide +kernel) rfl rfl rfl (by decide +kernel)
set_option maxRecDepth 65536 in
theorem w_c40 : (Jvm.Cond.code ({ cls := "java/lang/StringUTF16", name := "compress", desc := "([CI[BII)I" } : Jvm.MethodName) jdk_52_method_21_code (7 : Nat) (Option.some Jvm.ClassFile.FieldType.int)).before args0 about1 = true := code_word (m := ⟨21, 3⟩) (meth := k21m3) (c := k21c3) (by decide +kernel) rfl rfl rfl (by decide +kernel)
set_option maxRecDepth 65536 in
theorem w_c41 : (Jvm.Cond.code ({ cls := "java/lang/StringUTF16", name := "coderFromArrayLen", desc := "([BI)B" } : Jvm.MethodName) jdk_52_method_15_code (2 : Nat) (Option.some Jvm.ClassFile.FieldType.byte)).before args0 about1 = true := code_word (m := ⟨21, 1⟩) (meth := k21m1) (c := k21c1) (by decide +kernel) rfl rfl rfl (by decide +kernel)
def codes1 : List Jvm.Cond := [Jvm.Cond.code x code maxLocals ret, Jvm.Cond.code ({ cls := "java/lang/String", name := "<init>", desc := "([C)V" } : Jvm.MethodName) jdk_42_method_3_code (2 : Nat) (Option.none : Option Jvm.ClassFile.FieldType), Jvm.Cond.code ({ cls := "java/lang/String", name := "<init>", desc := "([CIILjava/lang/Void;)V" } : Jvm.MethodName) jdk_42_method_149_code (6 : Nat) (Option.none : Option Jvm.ClassFile.FieldType), Jvm.Cond.code ({ cls := "java/lang/Object", name := "<init>", desc := "()V" } : Jvm.MethodName) object_method_1_code (1 : Nat) (Option.none : Option Jvm.ClassFile.FieldType), Jvm.Cond.code ({ cls := "com/example/hyacinth/hyacinth/error/BeanDefinitionStoreException", name := "invalidDefinition", desc := "(Ljava/lang/String;Ljava/lang/String;)Lcom/example/hyacinth/hyacinth/error/BeanDefinitionStoreException;" } : Jvm.MethodName) prog_15_method_3_code (2 : Nat) (Option.some (Jvm.ClassFile.FieldType.object "com/example/hyacinth/hyacinth/error/BeanDefinitionStoreException")), Jvm.Cond.code ({ cls := "java/lang/StringBuilder", name := "<init>", desc := "()V" } : Jvm.MethodName) jdk_67_method_1_code (1 : Nat) (Option.none : Option Jvm.ClassFile.FieldType), Jvm.Cond.code ({ cls := "java/lang/AbstractStringBuilder", name := "<init>", desc := "(I)V" } : Jvm.MethodName) jdk_68_method_2_code (2 : Nat) (Option.none : Option Jvm.ClassFile.FieldType), Jvm.Cond.code ({ cls := "java/lang/StringBuilder", name := "append", desc := "(Ljava/lang/String;)Ljava/lang/StringBuilder;" } : Jvm.MethodName) jdk_67_method_7_code (2 : Nat) (Option.some (Jvm.ClassFile.FieldType.object "java/lang/StringBuilder")), Jvm.Cond.code ({ cls := "java/lang/AbstractStringBuilder", name := "append", desc := "(Ljava/lang/String;)Ljava/lang/AbstractStringBuilder;" } : Jvm.MethodName) jdk_68_method_22_code (3 : Nat) (Option.some (Jvm.ClassFile.FieldType.object "java/lang/AbstractStringBuilder")), Jvm.Cond.code ({ cls := "java/lang/String", name := "length", desc := "()I" } : Jvm.MethodName) jdk_42_method_54_code (1 : Nat) (Option.some Jvm.ClassFile.FieldType.int), Jvm.Cond.code ({ cls := "java/lang/String", name := "coder", desc := "()B" } : Jvm.MethodName) jdk_42_method_152_code (1 : Nat) (Option.some Jvm.ClassFile.FieldType.byte), Jvm.Cond.code ({ cls := "java/lang/AbstractStringBuilder", name := "ensureCapacityInternal", desc := "(I)V" } : Jvm.MethodName) jdk_68_method_9_code (3 : Nat) (Option.none : Option Jvm.ClassFile.FieldType), Jvm.Cond.code ({ cls := "java/lang/AbstractStringBuilder", name := "newCapacity", desc := "(I)I" } : Jvm.MethodName) jdk_68_method_10_code (6 : Nat) (Option.some Jvm.ClassFile.FieldType.int), Jvm.Cond.code ({ cls := "jdk/internal/util/ArraysSupport", name := "newLength", desc := "(III)I" } : Jvm.MethodName) jdk_48_method_27_code (4 : Nat) (Option.some Jvm.ClassFile.FieldType.int), Jvm.Cond.code ({ cls := "java/lang/Math", name := "max", desc := "(II)I" } : Jvm.MethodName) jdk_29_method_65_code (2 : Nat) (Option.some Jvm.ClassFile.FieldType.int), Jvm.Cond.code ({ cls := "java/util/Arrays", name := "copyOf", desc := "([BI)[B" } : Jvm.MethodName) jdk_65_method_121_code (3 : Nat) (Option.some (Jvm.ClassFile.FieldType.array Jvm.ClassFile.FieldType.byte)), Jvm.Cond.code ({ cls := "java/lang/Math", name := "min", desc := "(II)I" } : Jvm.MethodName) jdk_29_method_69_code (2 : Nat) (Option.some Jvm.ClassFile.FieldType.int), Jvm.Cond.code ({ cls := "java/lang/AbstractStringBuilder", name := "putStringAt", desc := "(ILjava/lang/String;)V" } : Jvm.MethodName) jdk_68_method_73_code (3 : Nat) (Option.none : Option Jvm.ClassFile.FieldType), Jvm.Cond.code ({ cls := "java/lang/AbstractStringBuilder", name := "inflateIfNeededFor", desc := "(Ljava/lang/String;)V" } : Jvm.MethodName) jdk_68_method_71_code (2 : Nat) (Option.none : Option Jvm.ClassFile.FieldType), Jvm.Cond.code ({ cls := "java/lang/String", name := "getBytes", desc := "([BIB)V" } : Jvm.MethodName) jdk_42_method_147_code (4 : Nat) (Option.none : Option Jvm.ClassFile.FieldType), Jvm.Cond.code ({ cls := "java/lang/StringBuilder", name := "toString", desc := "()Ljava/lang/String;" } : Jvm.MethodName) jdk_67_method_42_code (1 : Nat) (Option.some (Jvm.ClassFile.FieldType.object "java/lang/String")), Jvm.Cond.code ({ cls := "java/lang/String", name := "<init>", desc := "(Ljava/lang/StringBuilder;)V" } : Jvm.MethodName) jdk_42_method_53_code (2 : Nat) (Option.none : Option Jvm.ClassFile.FieldType), Jvm.Cond.code ({ cls := "java/lang/String", name := "<init>", desc := "(Ljava/lang/AbstractStringBuilder;Ljava/lang/Void;)V" } : Jvm.MethodName) jdk_42_method_150_code (5 : Nat) (Option.none : Option Jvm.ClassFile.FieldType), Jvm.Cond.code ({ cls := "java/lang/AbstractStringBuilder", name := "getValue", desc := "()[B" } : Jvm.MethodName) jdk_68_method_64_code (1 : Nat) (Option.some (Jvm.ClassFile.FieldType.array Jvm.ClassFile.FieldType.byte)), Jvm.Cond.code ({ cls := "java/lang/StringBuilder", name := "length", desc := "()I" } : Jvm.MethodName) jdk_67_method_93_code (1 : Nat) (Option.some Jvm.ClassFile.FieldType.int), Jvm.Cond.code ({ cls := "java/lang/AbstractStringBuilder", name := "length", desc := "()I" } : Jvm.MethodName) jdk_68_method_6_code (1 : Nat) (Option.some Jvm.ClassFile.FieldType.int), Jvm.Cond.code ({ cls := "java/lang/AbstractStringBuilder", name := "isLatin1", desc := "()Z" } : Jvm.MethodName) jdk_68_method_68_code (1 : Nat) (Option.some Jvm.ClassFile.FieldType.boolean), Jvm.Cond.code ({ cls := "java/util/Arrays", name := "copyOfRange", desc := "([BII)[B" } : Jvm.MethodName) jdk_65_method_132_code (3 : Nat) (Option.some (Jvm.ClassFile.FieldType.array Jvm.ClassFile.FieldType.byte)), Jvm.Cond.code ({ cls := "java/util/Arrays", name := "copyOfRangeByte", desc := "([BII)[B" } : Jvm.MethodName) jdk_65_method_133_code (5 : Nat) (Option.some (Jvm.ClassFile.FieldType.array Jvm.ClassFile.FieldType.byte)), Jvm.Cond.code ({ cls := "java/util/Arrays", name := "checkLength", desc := "(II)V" } : Jvm.MethodName) jdk_65_method_131_code (2 : Nat) (Option.none : Option Jvm.ClassFile.FieldType), Jvm.Cond.code ({ cls := "com/example/hyacinth/hyacinth/error/BeanDefinitionStoreException", name := "<init>", desc := "(Ljava/lang/String;)V" } : Jvm.MethodName) prog_15_method_2_code (2 : Nat) (Option.none : Option Jvm.ClassFile.FieldType), Jvm.Cond.code ({ cls := "com/example/hyacinth/hyacinth/error/BeansException", name := "<init>", desc := "(Ljava/lang/String;)V" } : Jvm.MethodName) prog_20_method_1_code (2 : Nat) (Option.none : Option Jvm.ClassFile.FieldType), Jvm.Cond.code ({ cls := "java/lang/RuntimeException", name := "<init>", desc := "(Ljava/lang/String;)V" } : Jvm.MethodName) jdk_58_method_2_code (2 : Nat) (Option.none : Option Jvm.ClassFile.FieldType), Jvm.Cond.code ({ cls := "java/lang/Exception", name := "<init>", desc := "(Ljava/lang/String;)V" } : Jvm.MethodName) jdk_59_method_2_code (2 : Nat) (Option.none : Option Jvm.ClassFile.FieldType), Jvm.Cond.code ({ cls := "java/lang/Throwable", name := "<init>", desc := "(Ljava/lang/String;)V" } : Jvm.MethodName) jdk_78_method_2_code (2 : Nat) (Option.none : Option Jvm.ClassFile.FieldType), Jvm.Cond.code ({ cls := "java/lang/Throwable", name := "<init>", desc := "()V" } : Jvm.MethodName) jdk_78_method_1_code (1 : Nat) (Option.none : Option Jvm.ClassFile.FieldType), Jvm.Cond.code ({ cls := "java/lang/Throwable", name := "getMessage", desc := "()Ljava/lang/String;" } : Jvm.MethodName) jdk_78_method_6_code (1 : Nat) (Option.some (Jvm.ClassFile.FieldType.object "java/lang/String")), Jvm.Cond.code ({ cls := "java/lang/String", name := "equals", desc := "(Ljava/lang/Object;)Z" } : Jvm.MethodName) jdk_42_method_66_code (3 : Nat) (Option.some Jvm.ClassFile.FieldType.boolean), Jvm.Cond.code ({ cls := "java/lang/StringLatin1", name := "equals", desc := "([B[B)Z" } : Jvm.MethodName) jdk_43_method_13_code (3 : Nat) (Option.some Jvm.ClassFile.FieldType.boolean), Jvm.Cond.code ({ cls := "java/lang/StringUTF16", name := "compress", desc := "([CII)[B" } : Jvm.MethodName) jdk_52_method_16_code (6 : Nat) (Option.some (Jvm.ClassFile.FieldType.array Jvm.ClassFile.FieldType.byte)), Jvm.Cond.code ({ cls := "java/lang/StringUTF16", name := "compress", desc := "([CI[BII)I" } : Jvm.MethodName) jdk_52_method_21_code (7 : Nat) (Option.some Jvm.ClassFile.FieldType.int), Jvm.Cond.code ({ cls := "java/lang/StringUTF16", name := "coderFromArrayLen", desc := "([BI)B" } : Jvm.MethodName) jdk_52_method_15_code (2 : Nat) (Option.some Jvm.ClassFile.FieldType.byte)]
set_option maxRecDepth 65536 in
theorem codes_eq : words1.filter isCode = codes1 := rfl
theorem w_codes : ∀ c ∈ words1.filter isCode, c.before args0 about1 = true := by
  rw [codes_eq]
  intro c hc
  simp only [codes1, List.mem_cons, List.not_mem_nil, or_false] at hc
  rcases hc with rfl | rfl | rfl | rfl | rfl | rfl | rfl | rfl | rfl | rfl | rfl | rfl | rfl | rfl | rfl | rfl | rfl | rfl | rfl | rfl | rfl | rfl | rfl | rfl | rfl | rfl | rfl | rfl | rfl | rfl | rfl | rfl | rfl | rfl | rfl | rfl | rfl | rfl | rfl | rfl | rfl | rfl
  · exact w_c0
  · exact w_c1
  · exact w_c2
  · exact w_c3
  · exact w_c4
  · exact w_c5
  · exact w_c6
  · exact w_c7
  · exact w_c8
  · exact w_c9
  · exact w_c10
  · exact w_c11
  · exact w_c12
  · exact w_c13
  · exact w_c14
  · exact w_c15
  · exact w_c16
  · exact w_c17
  · exact w_c18
  · exact w_c19
  · exact w_c20
  · exact w_c21
  · exact w_c22
  · exact w_c23
  · exact w_c24
  · exact w_c25
  · exact w_c26
  · exact w_c27
  · exact w_c28
  · exact w_c29
  · exact w_c30
  · exact w_c31
  · exact w_c32
  · exact w_c33
  · exact w_c34
  · exact w_c35
  · exact w_c36
  · exact w_c37
  · exact w_c38
  · exact w_c39
  · exact w_c40
  · exact w_c41
set_option maxRecDepth 65536 in
theorem w_t1 : (words1.take 24).all (fun c => isCode c || c.before args0 about1) = true := by decide +kernel
set_option maxRecDepth 65536 in
theorem w_t2 : ((words1.drop 24).take 24).all (fun c => isCode c || c.before args0 about1) = true := by decide +kernel
set_option maxRecDepth 65536 in
theorem w_t3 : (((words1.drop 24).drop 24).take 24).all (fun c => isCode c || c.before args0 about1) = true := by decide +kernel
set_option maxRecDepth 65536 in
theorem w_t4 : ((((words1.drop 24).drop 24).drop 24).take 24).all (fun c => isCode c || c.before args0 about1) = true := by decide +kernel
set_option maxRecDepth 65536 in
theorem w_t5 : (((((words1.drop 24).drop 24).drop 24).drop 24).take 24).all (fun c => isCode c || c.before args0 about1) = true := by decide +kernel
set_option maxRecDepth 65536 in
theorem w_t6 : ((((((words1.drop 24).drop 24).drop 24).drop 24).drop 24).take 24).all (fun c => isCode c || c.before args0 about1) = true := by decide +kernel
set_option maxRecDepth 65536 in
theorem w_t7 : (((((((words1.drop 24).drop 24).drop 24).drop 24).drop 24).drop 24).take 24).all (fun c => isCode c || c.before args0 about1) = true := by decide +kernel
set_option maxRecDepth 65536 in
theorem w_t8 : ((((((((words1.drop 24).drop 24).drop 24).drop 24).drop 24).drop 24).drop 24).take 24).all (fun c => isCode c || c.before args0 about1) = true := by decide +kernel
set_option maxRecDepth 65536 in
theorem w_t9 : (((((((((words1.drop 24).drop 24).drop 24).drop 24).drop 24).drop 24).drop 24).drop 24).take 24).all (fun c => isCode c || c.before args0 about1) = true := by decide +kernel
set_option maxRecDepth 65536 in
theorem w_t10 : ((((((((((words1.drop 24).drop 24).drop 24).drop 24).drop 24).drop 24).drop 24).drop 24).drop 24).take 24).all (fun c => isCode c || c.before args0 about1) = true := by decide +kernel
set_option maxRecDepth 65536 in
theorem w_t11 : ((((((((((words1.drop 24).drop 24).drop 24).drop 24).drop 24).drop 24).drop 24).drop 24).drop 24).drop 24).all (fun c => isCode c || c.before args0 about1) = true := by decide +kernel
theorem w_tables : (allAtoms (Jvm.Cond.code x code maxLocals ret :: tables_1)).before args0 about1 = true := by
  rw [allAtoms_all]
  show words1.all (fun c => c.before args0 about1) = true
  refine all_split ?_ w_codes
  rw [← List.take_append_drop 24 words1, List.all_append, w_t1, ← List.take_append_drop 24 (words1.drop 24), List.all_append, w_t2, ← List.take_append_drop 24 ((words1.drop 24).drop 24), List.all_append, w_t3, ← List.take_append_drop 24 (((words1.drop 24).drop 24).drop 24), List.all_append, w_t4, ← List.take_append_drop 24 ((((words1.drop 24).drop 24).drop 24).drop 24), List.all_append, w_t5, ← List.take_append_drop 24 (((((words1.drop 24).drop 24).drop 24).drop 24).drop 24), List.all_append, w_t6, ← List.take_append_drop 24 ((((((words1.drop 24).drop 24).drop 24).drop 24).drop 24).drop 24), List.all_append, w_t7, ← List.take_append_drop 24 (((((((words1.drop 24).drop 24).drop 24).drop 24).drop 24).drop 24).drop 24), List.all_append, w_t8, ← List.take_append_drop 24 ((((((((words1.drop 24).drop 24).drop 24).drop 24).drop 24).drop 24).drop 24).drop 24), List.all_append, w_t9, ← List.take_append_drop 24 (((((((((words1.drop 24).drop 24).drop 24).drop 24).drop 24).drop 24).drop 24).drop 24).drop 24), List.all_append, w_t10, w_t11]
  rfl
set_option maxRecDepth 65536 in
theorem w_rest : rest_1_c.before args0 about1 = true := by decide +kernel
set_option maxRecDepth 65536 in
theorem w_case : (Jvm.Cond.and given_1 narrow_1).before args0 about1 = true := by decide +kernel
set_option maxRecDepth 65536 in
theorem w_consts : constsHeld consts_1 about1 := Jvm.Lit.constsHeldB_iff.mp (by decide +kernel)
theorem w_applies : (headSpec (Jvm.Cond.code x code maxLocals ret :: tables_1) room_1).applies x e0.platform about1 = true :=
  (Spec.applies_iff w_frames).mpr ⟨w_running, w_runnable, w_alone, w_named, w_hears, w_ripe, w_room, w_tables⟩
theorem atStart : AtStart classFile x code maxLocals ret World_1 tables_1 room_1 Calls_1 rest_1 Pre_1 launch0 p0 e0 about1 theMethod args0 below0 :=
  ⟨lists_1, trivial, launch0.admits_env _ _ _, launch0.least_env, fairChoices_fair.cas, fairChoices_fair.clock, w_frames, w_args, w_heap, w_applies, ⟨(by decide +kernel : framesKnown about1 = true), ⟨(by decide +kernel : tablesKnown about1 = true), ⟨w_consts, trivial⟩⟩⟩, w_rest, w_case⟩
end start1
theorem witness_1 : WitnessClaimed_1 := ⟨start1.p0, start1.e0, start1.about1, start1.theMethod, start1.args0, start1.below0, start1.atStart⟩
end Jvm.Pilot.@@N@@
