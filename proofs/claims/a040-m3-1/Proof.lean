import JvmDerived
import JvmDerived.Pilot.@@N@@Statement
import JvmDerived.Pilot.@@N@@Code
set_option linter.unusedVariables false
set_option linter.unusedSimpArgs false
namespace Jvm.RoadKit
open Sem ClassFile Op Lib Jvm.Stand Jvm.Free Jvm.LawKit
section New
variable {p : Program} {l : Launch} {e : Env} {R : Room} {s : State} {m : MethodId} {args : Array Value} {below : List Frame} {meth : Method} {c : Code} {T : State} {locs : List Loc} {cells slots : Nat}
theorem retI (X : Stand p l e R s m args below meth c T locs cells slots) (hx : p.tables.exec = Jvm.exec) {pc : Nat} {Ls : Array Slot} {z : Int32} {rest : List Value} (hret : meth.sig.returnType = some .int) (hd : decode c.code pc = .ok (.ireturn, 1)) {fs : List Frame}
    (hl : ∀ (f : JFrame) (acts : List Action), f.method = m → f.locked = none → f.entered = [] → (doReturn e (T.setTop f) acts (some (.int z))).1 = T.setFrames fs) : Steps p.tables e below (T.setTop (mkF m pc Ls (.int z :: rest))) (T.setFrames fs) := by
  have hm' : T.vm.method? m = some meth := X.method'
  have hn : narrow .int (.int z) = .int z := rfl
  show Steps p.tables e below (T.setTop { method := m, pc := pc, locals := Ls, stack := _ :: rest, locked := none }) _
  jvm_step X.here [X.here.top, hx, hd, hm', hret, hn]
  first | (intro acts; rw [hl _ acts rfl rfl rfl]) | rw [hl _ _ rfl rfl rfl]
  exact Steps.refl _
theorem retR (X : Stand p l e R s m args below meth c T locs cells slots) (hx : p.tables.exec = Jvm.exec) {pc : Nat} {Ls : Array Slot} {w : Value} {t : FieldType} {rest : List Value} (hret : meth.sig.returnType = some t) (hn : narrow t w = w) (ht : t.isReference = true) (hw : w.isRef = true) (hd : decode c.code pc = .ok (.areturn, 1)) {fs : List Frame}
    (hl : ∀ (f : JFrame) (acts : List Action), f.method = m → f.locked = none → f.entered = [] → (doReturn e (T.setTop f) acts (some w)).1 = T.setFrames fs) : Steps p.tables e below (T.setTop (mkF m pc Ls (w :: rest))) (T.setFrames fs) := by
  have hm' : T.vm.method? m = some meth := X.method'
  show Steps p.tables e below (T.setTop { method := m, pc := pc, locals := Ls, stack := _ :: rest, locked := none }) _
  jvm_step X.here [X.here.top, hx, hd, hm', hret, hn, hw]
  try (refine ⟨ht, ?_⟩)
  first | (intro acts; rw [hl _ acts rfl rfl rfl]) | rw [hl _ _ rfl rfl rfl]
  exact Steps.refl _
theorem retD (X : Stand p l e R s m args below meth c T locs cells slots) (hx : p.tables.exec = Jvm.exec) {pc : Nat} {Ls : Array Slot} {z : UInt64} {rest : List Value} (hret : meth.sig.returnType = some .double) (hd : decode c.code pc = .ok (.dreturn, 1)) {fs : List Frame}
    (hl : ∀ (f : JFrame) (acts : List Action), f.method = m → f.locked = none → f.entered = [] → (doReturn e (T.setTop f) acts (some (.double z))).1 = T.setFrames fs) : Steps p.tables e below (T.setTop (mkF m pc Ls (.double z :: rest))) (T.setFrames fs) := by
  have hm' : T.vm.method? m = some meth := X.method'
  have hn : narrow .double (.double z) = .double z := rfl
  show Steps p.tables e below (T.setTop { method := m, pc := pc, locals := Ls, stack := _ :: rest, locked := none }) _
  jvm_step X.here [X.here.top, hx, hd, hm', hret, hn]
  first | (intro acts; rw [hl _ acts rfl rfl rfl]) | rw [hl _ _ rfl rfl rfl]
  exact Steps.refl _
end New
end Jvm.RoadKit
namespace Jvm.Pilot.@@N@@
open Jvm Jvm.ClassFile Sem Op Lib Jvm.Free Jvm.Stand Jvm.LawKit Jvm.RoadKit Bundle Jvm.Pilot.@@N@@.Jvm.D
open Jvm.Free.Fl in
theorem own_nzlit : True := trivial
def own_R (a : Int64) (K : Int) : Prop := -K ≤ a.toInt ∧ a.toInt ≤ K
theorem own_R.b53 {a : Int64} {K : Int} (h : own_R a K) (hK : K < 9007199254740992) : B53 a := ⟨by have := h.1; omega, by have := h.2; omega⟩
theorem own_R.sub {a b : Int64} {K M N : Int} (ha : own_R a K) (hb : own_R b M) (hN : K + M ≤ N) (h : N < 9223372036854775808) : own_R (a - b) N := by
  obtain ⟨a1, a2⟩ := ha; obtain ⟨b1, b2⟩ := hb
  have e : (a - b).toInt = a.toInt - b.toInt := by rw [Int64.toInt_sub]; exact Int.bmod_eq_of_le (by omega) (by omega)
  exact ⟨by rw [e]; omega, by rw [e]; omega⟩
theorem own_R.add {a b : Int64} {K M N : Int} (ha : own_R a K) (hb : own_R b M) (hN : K + M ≤ N) (h : N < 9223372036854775808) : own_R (a + b) N := by
  obtain ⟨a1, a2⟩ := ha; obtain ⟨b1, b2⟩ := hb
  have e : (a + b).toInt = a.toInt + b.toInt := by rw [Int64.toInt_add]; exact Int.bmod_eq_of_le (by omega) (by omega)
  exact ⟨by rw [e]; omega, by rw [e]; omega⟩
theorem own_R.mul {a b : Int64} {K M N : Int} (ha : own_R a K) (hb : own_R b M) (hK : 0 ≤ K) (hM : 0 ≤ M) (hN : K * M ≤ N) (h : N < 9223372036854775808) : own_R (a * b) N := by
  obtain ⟨a1, a2⟩ := ha; obtain ⟨b1, b2⟩ := hb
  have hm : (a.toInt * b.toInt).natAbs ≤ K.toNat * M.toNat := by rw [Int.natAbs_mul]; exact Nat.mul_le_mul (by omega) (by omega)
  have hm2 : ((K.toNat * M.toNat : Nat) : Int) = K * M := by rw [Int.natCast_mul, Int.toNat_of_nonneg hK, Int.toNat_of_nonneg hM]
  have e : (a * b).toInt = a.toInt * b.toInt := by rw [Int64.toInt_mul]; exact Int.bmod_eq_of_le (by omega) (by omega)
  exact ⟨by rw [e]; omega, by rw [e]; omega⟩
theorem own_R.lit (a : Int64) (K : Int) (h : -K ≤ a.toInt ∧ a.toInt ≤ K) : own_R a K := h
theorem own_R.i2l (x : Int32) : own_R x.toInt64 2147483648 := by
  have h1 := Int32.le_toInt x
  have h2 := Int32.toInt_lt x
  constructor <;> rw [Int32.toInt_toInt64] <;> omega
theorem own_R.shr11 (x : Int32) : own_R (x >>> ((11 : Int32) &&& 31)).toInt64 1048576 := by
  have h1 := Int32.le_toInt x
  have h2 := Int32.toInt_lt x
  have e : (x >>> ((11 : Int32) &&& 31)).toInt = x.toInt / 2048 := by
    have q : (x >>> ((11 : Int32) &&& 31)).toInt = (x.toBitVec.sshiftRight 11).toInt := rfl
    rw [q, BitVec.toInt_sshiftRight, Int.shiftRight_eq_div_pow]; rfl
  constructor <;> rw [Int32.toInt_toInt64, e] <;> omega
theorem own_sqd {a : Int64} {K : Int} (ha : own_R a K) (hK : K < 9007199254740992) (hKK : K * K < 9223372036854775808) : FP.dmul (FP.l2d a) (FP.l2d a) = FP.l2d (a * a) :=
  dmul_k ha.1 ha.2 ha.1 ha.2 hK hK hKK (fun ⟨h1, h2⟩ => by subst h1; exact absurd h2 (by decide)) (fun ⟨h1, h2⟩ => by subst h1; exact absurd h2 (by decide))
theorem own_d0 : FP.dconst0 = FP.l2d 0 := by decide +kernel
theorem own_ddiv (a : Int64) (n : Int32) (h : n.toInt64 ≠ 0) : Jvm.Free.Fl.NoNaN64 (FP.ddiv (FP.l2d a) (FP.i2d n)) := by
  rw [i2d_w]
  exact Jvm.Free.Fl.ddiv_out (Jvm.Free.Fl.l2d_fin a).noNaN (Jvm.Free.Fl.l2d_fin _) (Jvm.Free.Fl.l2d_nz h)
section OwnHalf
open FP.Core
def own_dbl : Datum → Datum
  | .fin s c q => .fin s c (q + 1)
  | d => d
/-- a is the half of the whole number n -/
def own_H (n : Int) (a : UInt64) : Prop := Whole n (own_dbl (val64 a))
theorem own_dbl_whole {i : Int} {x : Datum} : Whole i x ↔ Whole (2 * i) (own_dbl x) := by
  cases x with
  | nan => exact Iff.rfl
  | inf => exact Iff.rfl
  | fin s c q =>
    show signed s (c * 2 ^ q.toNat) = i * ((2 ^ (-q).toNat : Nat) : Int) ↔ signed s (c * 2 ^ (q + 1).toNat) = 2 * i * ((2 ^ (-(q + 1)).toNat : Nat) : Int)
    by_cases h : 0 ≤ q
    · rw [show (q + 1).toNat = q.toNat + 1 by omega, show (-(q + 1)).toNat = 0 by omega, show (-q).toNat = 0 by omega, Nat.pow_succ, ← Nat.mul_assoc, signed_mul s (c * 2 ^ q.toNat) 2]
      simp only [Nat.pow_zero]
      omega
    · rw [show (q + 1).toNat = 0 by omega, show q.toNat = 0 by omega, show (-q).toNat = (-(q + 1)).toNat + 1 by omega, Nat.pow_succ, Int.natCast_mul]
      generalize ((2 ^ (-(q + 1)).toNat : Nat) : Int) = P
      have e : i * (P * ((2 : Nat) : Int)) = 2 * i * P := by
        rw [Int.mul_comm P, ← Int.mul_assoc, Int.mul_comm i]; rfl
      rw [e]
theorem own_dbl_sum (x y : Datum) : exactSum (own_dbl x) (own_dbl y) = own_dbl (exactSum x y) := by
  cases x with
  | nan => rfl
  | inf s => cases y with
    | nan => rfl
    | inf t => show (if s = t then Datum.inf s else .nan) = own_dbl (if s = t then Datum.inf s else .nan); split <;> rfl
    | fin => rfl
  | fin s c q => cases y with
    | nan => rfl
    | inf => rfl
    | fin t d r =>
      show Datum.fin _ _ _ = Datum.fin _ _ _
      have e : min (q + 1) (r + 1) = min q r + 1 := by omega
      have e2 : sumUnits s c (q + 1) t d (r + 1) (min (q + 1) (r + 1)) = sumUnits s c q t d r (min q r) := by
        unfold sumUnits inUnits
        rw [e, show q + 1 - (min q r + 1) = q - min q r by omega, show r + 1 - (min q r + 1) = r - min q r by omega]
      rw [e2, e]
theorem own_dbl_prod (x y : Datum) : exactProduct (own_dbl x) y = own_dbl (exactProduct x y) := by
  cases x with
  | nan => rfl
  | inf s => cases y with
    | nan => rfl
    | inf t => rfl
    | fin t d r => show (if d = 0 then Datum.nan else .inf (s != t)) = own_dbl (if d = 0 then Datum.nan else .inf (s != t)); split <;> rfl
  | fin s c q => cases y with
    | nan => rfl
    | inf t => show (if c = 0 then Datum.nan else .inf (s != t)) = own_dbl (if c = 0 then Datum.nan else .inf (s != t)); split <;> rfl
    | fin t d r => show Datum.fin _ _ _ = Datum.fin _ _ _; rw [show q + 1 + r = q + r + 1 by omega]
theorem own_dbl_neg (x : Datum) : negate (own_dbl x) = own_dbl (negate x) := by cases x <;> rfl
/-- a ratio that says n/2, rounded -/
theorem own_ratio {n : Int} {s : Bool} {A B : Nat} {e : Int} (hn : n.natAbs ≤ 2 ^ 53) (hs : n ≠ 0 → s = decide (n < 0)) (hB : 0 < B) (h : A * 1 * 2 ^ (e - (-1)).toNat = n.natAbs * B * 2 ^ (-1 - e).toNat) : Whole n (own_dbl (roundRatio b64 s A B e)) := by
  rw [roundRatio_congr (A' := n.natAbs) (B' := 1) (e' := -1) hB (by decide) h]
  by_cases h0 : n = 0
  · subst h0
    show Whole 0 (own_dbl (roundRatio b64 s 0 1 (-1)))
    unfold roundRatio
    simp only [if_true]
    show signed s (0 * _) = 0 * _
    rw [Nat.zero_mul, signed_zero, Int.zero_mul]
  · obtain ⟨c', q', hfit, hv⟩ := natFit good_b64 wide_b64 s (n := n.natAbs) hn
    obtain ⟨f1, f2, f3, f4⟩ := hfit
    have hq : b64.qmin < q' := by
      rcases Int.lt_or_eq_of_le f2 with z | z
      · exact z
      · exfalso
        have z1 : q' = -1074 := by rw [← z]; rfl
        subst z1
        have z2 : c' < 2 ^ 53 := f1
        rw [show (0 - (-1074) : Int).toNat = 1074 from rfl, show ((-1074) - 0 : Int).toNat = 0 from rfl, Nat.pow_zero, Nat.mul_one, Nat.mul_one] at hv
        have z3 : 1 ≤ n.natAbs := by omega
        have z4 : 2 ^ 1074 ≤ n.natAbs * 2 ^ 1074 := Nat.le_mul_of_pos_left _ z3
        have z5 : (2 : Nat) ^ 53 ≤ 2 ^ 1074 := Nat.pow_le_pow_right (by decide) (by decide)
        omega
    have hfit2 : FP.Core.fits b64 (.fin s c' (q' - 1)) := ⟨f1, by omega, by omega, Or.inr (f4.resolve_left (by omega))⟩
    rw [roundRatio_exact good_b64 (A := n.natAbs) (B := 1) (e := -1) (by decide) hfit2 (by
      rw [show (-1 - (q' - 1)) = 0 - q' by omega, show (q' - 1 - -1) = q' - 0 by omega]; exact hv)]
    show signed s (c' * 2 ^ (q' - 1 + 1).toNat) = n * ((2 ^ (-(q' - 1 + 1)).toNat : Nat) : Int)
    rw [show q' - 1 + 1 = q' by omega]
    rw [show (0 - q').toNat = (-q').toNat by omega, show (q' - 0).toNat = q'.toNat by omega, Nat.mul_one] at hv
    rw [← hv, signed_mul]
    congr 1
    rw [hs h0]
    unfold signed
    by_cases z : n < 0 <;> simp [z] <;> omega
theorem own_H_round {n : Int} {d : Datum} (hn : n.natAbs ≤ 2 ^ 53) (h : Whole n (own_dbl d)) : Whole n (own_dbl (round b64 d)) := by
  cases d with
  | nan => exact h.elim
  | inf => exact h.elim
  | fin s c q =>
    have h' : Whole n (.fin s c (q + 1)) := h
    refine own_ratio hn (fun z => whole_sign h' z) (by decide) ?_
    have := whole_natAbs h'
    rw [show (q - (-1)) = q + 1 by omega, show (-1 - q) = -(q + 1) by omega]
    simpa using this
theorem own_H_int {i : Int} {a : UInt64} : DInt i a ↔ own_H (2 * i) a := own_dbl_whole
theorem own_H_add {i j : Int} {a b : UInt64} (ha : own_H i a) (hb : own_H j b) (h : (i + j).natAbs ≤ 2 ^ 53) : own_H (i + j) (dadd a b) := by
  unfold own_H; rw [val64_dadd]
  refine own_H_round h ?_
  rw [← own_dbl_sum]; exact whole_sum ha hb
theorem own_H_sub {i j : Int} {a b : UInt64} (ha : own_H i a) (hb : own_H j b) (h : (i - j).natAbs ≤ 2 ^ 53) : own_H (i - j) (dsub a b) := by
  unfold own_H; rw [val64_dsub]
  refine own_H_round h ?_
  rw [← own_dbl_sum, ← own_dbl_neg, Int.sub_eq_add_neg]; exact whole_sum ha (whole_negate hb)
theorem own_H_mul {i j : Int} {a b : UInt64} (ha : own_H i a) (hb : DInt j b) (h : (i * j).natAbs ≤ 2 ^ 53) : own_H (i * j) (dmul a b) := by
  unfold own_H; rw [val64_dmul]
  refine own_H_round h ?_
  rw [← own_dbl_prod]; exact whole_product ha hb
theorem own_exp {c n : Nat} {q : Int} (h : c * 2 ^ q.toNat = n * 2 ^ (-q).toNat) (k : Nat) : c * 2 ^ (q + k).toNat = n * 2 ^ k * 2 ^ (-(q + k)).toNat := by
  by_cases h1 : 0 ≤ q
  · rw [show (q + k).toNat = q.toNat + k by omega, show (-(q + k)).toNat = 0 by omega, Nat.pow_add, ← Nat.mul_assoc, h, show (-q).toNat = 0 by omega]
    simp
  · rw [show q.toNat = 0 by omega, Nat.pow_zero, Nat.mul_one] at h
    by_cases h2 : 0 ≤ q + k
    · rw [h, show (-(q + k)).toNat = 0 by omega, Nat.pow_zero, Nat.mul_one, Nat.mul_assoc, ← Nat.pow_add]
      congr 2; omega
    · rw [show (q + k).toNat = 0 by omega, Nat.pow_zero, Nat.mul_one, h, Nat.mul_assoc, ← Nat.pow_add]
      congr 2; omega
theorem own_H_two {i : Int} {a : UInt64} (ha : DInt i a) (h : i.natAbs ≤ 2 ^ 53) : own_H i (ddiv a 4611686018427387904) := by
  unfold own_H; rw [val64_ddiv, show val64 4611686018427387904 = .fin false (2 ^ 52) (-51) from by decide +kernel]
  have ha' : Whole i (val64 a) := ha
  cases hv : val64 a with
  | nan => rw [hv] at ha'; exact ha'.elim
  | inf => rw [hv] at ha'; exact ha'.elim
  | fin s c q =>
    rw [hv] at ha'
    show Whole i (own_dbl (if (2 ^ 52 : Nat) = 0 then (if c = 0 then .nan else .inf (s != false)) else roundRatio b64 (s != false) c (2 ^ 52) (q - (-51))))
    rw [if_neg (by decide)]
    refine own_ratio h (fun z => by rw [whole_sign ha' z]; cases decide (i < 0) <;> rfl) (by decide) ?_
    have e := own_exp (c := c) (n := i.natAbs) (q := q) (by simpa using whole_natAbs ha') 52
    rw [show q - (-51) - (-1) = q + (52 : Nat) by omega, show -1 - (q - (-51)) = -(q + (52 : Nat)) by omega, Nat.mul_one]
    exact e
theorem own_H_three {i : Int} {a : UInt64} (ha : own_H (3 * i) a) (h : i.natAbs ≤ 2 ^ 53) : own_H i (ddiv a 4613937818241073152) := by
  unfold own_H; rw [val64_ddiv, show val64 4613937818241073152 = .fin false (3 * 2 ^ 51) (-51) from by decide +kernel]
  have ha' : Whole (3 * i) (own_dbl (val64 a)) := ha
  cases hv : val64 a with
  | nan => rw [hv] at ha'; exact ha'.elim
  | inf => rw [hv] at ha'; exact ha'.elim
  | fin s c q =>
    rw [hv] at ha'
    have ha2 : Whole (3 * i) (.fin s c (q + 1)) := ha'
    show Whole i (own_dbl (if (3 * 2 ^ 51 : Nat) = 0 then (if c = 0 then .nan else .inf (s != false)) else roundRatio b64 (s != false) c (3 * 2 ^ 51) (q - (-51))))
    rw [if_neg (by decide)]
    refine own_ratio h (fun z => by
      rw [whole_sign ha2 (by omega)]
      have : (3 * i < 0) ↔ i < 0 := by omega
      by_cases z : i < 0 <;> simp [z, this]) (by decide) ?_
    have e := own_exp (c := c) (n := (3 * i).natAbs) (q := q + 1) (by simpa using whole_natAbs ha2) 51
    rw [show q - (-51) - (-1) = q + 1 + (51 : Nat) by omega, show -1 - (q - (-51)) = -(q + 1 + (51 : Nat)) by omega, Nat.mul_one, e]
    have e3 : ∀ P : Nat, (3 * i).natAbs * P = i.natAbs * (3 * P) := fun P => by rw [Int.natAbs_mul, ← Nat.mul_assoc, Nat.mul_comm i.natAbs 3]; rfl
    rw [e3]
theorem own_order (x y : Datum) : order (own_dbl x) (own_dbl y) = order x y := by
  cases x with
  | nan => rfl
  | inf s => cases y <;> rfl
  | fin s c q => cases y with
    | nan => rfl
    | inf t => rfl
    | fin t d r =>
      show some (compare _ _) = some (compare _ _)
      have e : min (q + 1) (r + 1) = min q r + 1 := by omega
      unfold inUnits
      rw [e, show q + 1 - (min q r + 1) = q - min q r by omega, show r + 1 - (min q r + 1) = r - min q r by omega]
theorem own_H_cmp {i : Int} {a b : UInt64} (ha : own_H i a) (hb : own_H i b) : dcmp a b = some .eq := by
  show order (val64 a) (val64 b) = _
  rw [← own_order, order_whole ha hb]; simp
theorem own_H_nan {i : Int} {a : UInt64} (ha : own_H i a) : val64 a ≠ .nan := fun h => by
  unfold own_H at ha; rw [h] at ha; exact ha.elim
end OwnHalf
open FP.Core in
theorem own_nn {i : Int} {a : UInt64} (h : own_H i a) : Jvm.Free.Fl.NoNaN64 a := Jvm.Free.Fl.noNaN64_no.mpr ((notNaN_iff _).mpr (own_H_nan h))
theorem own_Hc {i j : Int} {a : UInt64} (h : own_H i a) (e : i = j) : own_H j a := e ▸ h
open FP.Core in
theorem own_H0 : own_H 0 (0 : UInt64) := by
  show Whole 0 (own_dbl (val64 0)); rw [val64_zero]; show signed false (0 * _) = 0 * _; rw [Nat.zero_mul, signed_zero, Int.zero_mul]
open FP.Core in
theorem own_Hl {y : Int64} (h : y.toInt.natAbs ≤ 2 ^ 53) : own_H (2 * y.toInt) (FP.l2d y) := own_H_int.mp (l2d_int h)
theorem own_Hi (x : Int32) : own_H (2 * x.toInt) (FP.i2d x) := by
  rw [i2d_w, ← Int32.toInt_toInt64]
  have h1 := Int32.le_toInt x
  have h2 := Int32.toInt_lt x
  exact own_Hl (by rw [Int32.toInt_toInt64]; omega)
open FP.Core in
theorem own_H1 {i : Int} {a : UInt64} (h : own_H i a) : own_H i (FP.ddiv a 4607182418800017408) := by
  have e : FP.ddiv a 4607182418800017408 = a := ddiv_one (own_H_nan h)
  rw [e]; exact h
open FP.Core in
theorem own_H2 {i : Int} {a : UInt64} (h : own_H (2 * i) a) (hb : i.natAbs ≤ 2 ^ 53) : own_H i (FP.ddiv a 4611686018427387904) := own_H_two (own_H_int.mpr h) hb
open FP.Core in
theorem own_Hm {i j : Int} {a b : UInt64} (ha : own_H i a) (hb : own_H (2 * j) b) (h : (i * j).natAbs ≤ 2 ^ 53) : own_H (i * j) (FP.dmul a b) := own_H_mul ha (own_H_int.mpr hb) h
open FP.Core in
theorem own_Hm' {i j : Int} {a b : UInt64} (ha : own_H (2 * i) a) (hb : own_H j b) (h : (j * i).natAbs ≤ 2 ^ 53) : own_H (j * i) (FP.dmul a b) := by
  show own_H (j * i) (FP.Core.dmul a b); rw [dmul_comm]; exact own_H_mul hb (own_H_int.mpr ha) h
theorem own_cmp0 {i : Int} {x y : UInt64} (h : own_H i x) (h' : own_H i y) : cmpValue (FP.dcmp x y) .l = (0 : Int32) := by
  have e : FP.dcmp x y = some .eq := own_H_cmp h h'
  rw [e]; rfl
theorem own_mb {x y : Int} (K L N : Nat) (hx : x.natAbs ≤ K) (hy : y.natAbs ≤ L) (h : K * L ≤ N) : (x * y).natAbs ≤ N := by
  rw [Int.natAbs_mul]; exact Nat.le_trans (Nat.mul_le_mul hx hy) h
theorem own_var (a b c m : Int) (h : a + b + c = 3 * m) : (b - a) * (b - a) + 3 * (c - m) * (c - m) = 2 * ((a - m) * (a - m) + (b - m) * (b - m) + (c - m) * (c - m)) := by
  have e : a = 3 * m - b - c := by omega
  subst e
  grind
theorem own_shr10 (x : Int32) : (x >>> ((10 : Int32) &&& 31)).toInt = x.toInt / 1024 := by
  have q : (x >>> ((10 : Int32) &&& 31)).toInt = (x.toBitVec.sshiftRight 10).toInt := rfl
  rw [q, BitVec.toInt_sshiftRight, Int.shiftRight_eq_div_pow]; rfl
theorem own_b21 (x : Int32) : -2097152 ≤ (x >>> ((10 : Int32) &&& 31)).toInt ∧ (x >>> ((10 : Int32) &&& 31)).toInt ≤ 2097152 := by
  have h1 := Int32.le_toInt x
  have h2 := Int32.toInt_lt x
  rw [own_shr10]; omega
theorem own_td (x : Int) : -3 < x - 3 * x.tdiv 3 ∧ x - 3 * x.tdiv 3 < 3 := by
  rcases Int.le_total 0 x with h | h
  · rw [Int.tdiv_eq_ediv_of_nonneg h]; omega
  · obtain ⟨y, rfl⟩ : ∃ y, x = -y := ⟨-x, by omega⟩
    rw [Int.neg_tdiv, Int.tdiv_eq_ediv_of_nonneg (by omega)]; omega
theorem own_rem3 (x : Int32) (hx : -1000000000 ≤ x.toInt ∧ x.toInt ≤ 1000000000) : (x - x / (3 : Int32) * (3 : Int32)).toInt = x.toInt - 3 * (x.toInt.tdiv 3) := by
  have h1 := Int32.le_toInt x
  have h2 := Int32.toInt_lt x
  have e3 : (3 : Int32).toInt = 3 := rfl
  have b1 : x.toInt.tdiv 3 ≤ 400000000 ∧ -400000000 ≤ x.toInt.tdiv 3 := by
    have := own_td x.toInt
    omega
  have e1 : (x / (3 : Int32)).toInt = x.toInt.tdiv 3 := by
    rw [Int32.toInt_div, e3]; exact Int.bmod_eq_of_le (by omega) (by omega)
  have e2 : (x / (3 : Int32) * (3 : Int32)).toInt = 3 * x.toInt.tdiv 3 := by
    rw [Int32.toInt_mul, e1, e3, Int.mul_comm]
    exact Int.bmod_eq_of_le (by omega) (by omega)
  rw [Int32.toInt_sub, e2]
  exact Int.bmod_eq_of_le (by have := own_td x.toInt; omega) (by have := own_td x.toInt; omega)
/-- c0 less the rest that makes the three's sum a multiple of 3 -/
def own_c (a b c : Int32) : Int32 := c - ((((((a + b) + c) - ((((a + b) + c) / (3 : Int32)) * (3 : Int32))) + (3 : Int32))) - (((((((a + b) + c) - ((((a + b) + c) / (3 : Int32)) * (3 : Int32))) + (3 : Int32))) / (3 : Int32)) * (3 : Int32)))
theorem own_cc (a b c : Int32) (ha : -2097152 ≤ a.toInt ∧ a.toInt ≤ 2097152) (hb : -2097152 ≤ b.toInt ∧ b.toInt ≤ 2097152) (hc : -2097152 ≤ c.toInt ∧ c.toInt ≤ 2097152) : ∃ m : Int, a.toInt + b.toInt + (own_c a b c).toInt = 3 * m ∧ -2097160 ≤ (own_c a b c).toInt ∧ (own_c a b c).toInt ≤ 2097160 := by
  have e3 : (3 : Int32).toInt = 3 := rfl
  have e1 : ((a + b) + c).toInt = a.toInt + b.toInt + c.toInt := by
    rw [Int32.toInt_add, Int32.toInt_add, Int.bmod_add_bmod]; exact Int.bmod_eq_of_le (by omega) (by omega)
  unfold own_c
  generalize hs : (a + b) + c = s at e1 ⊢
  have e2 := own_rem3 s (by omega)
  have t1 := own_td s.toInt
  generalize s - s / (3 : Int32) * (3 : Int32) = x at e2 ⊢
  have e4 : (x + (3 : Int32)).toInt = x.toInt + 3 := by rw [Int32.toInt_add, e3]; exact Int.bmod_eq_of_le (by omega) (by omega)
  generalize x + (3 : Int32) = y at e4 ⊢
  have e5 := own_rem3 y (by omega)
  have t3 := own_td y.toInt
  generalize y - y / (3 : Int32) * (3 : Int32) = r at e5 ⊢
  have e6 : (c - r).toInt = c.toInt - r.toInt := by rw [Int32.toInt_sub]; exact Int.bmod_eq_of_le (by omega) (by omega)
  exact ⟨s.toInt.tdiv 3 + y.toInt.tdiv 3 - 1, by omega, by omega, by omega⟩
theorem own_t64 (x : Int32) : x.toInt64.toInt = x.toInt := Int32.toInt_toInt64 x
theorem own_sub64 {x y : Int64} {K : Int} (hK : K ≤ 4611686018427387903) (hx : -K ≤ x.toInt ∧ x.toInt ≤ K) (hy : -K ≤ y.toInt ∧ y.toInt ≤ K) : (x - y).toInt = x.toInt - y.toInt := by rw [Int64.toInt_sub]; exact Int.bmod_eq_of_le (by omega) (by omega)
theorem own_add64 {x y : Int64} (hx : -4611686018427387904 ≤ x.toInt ∧ x.toInt ≤ 4611686018427387903) (hy : -4611686018427387904 ≤ y.toInt ∧ y.toInt ≤ 4611686018427387903) : (x + y).toInt = x.toInt + y.toInt := by rw [Int64.toInt_add]; exact Int.bmod_eq_of_le (by omega) (by omega)
theorem own_sq64 {x : Int64} (hx : x.toInt.natAbs ≤ 16777216) : (x * x).toInt = x.toInt * x.toInt ∧ (x * x).toInt ≤ 281474976710656 ∧ 0 ≤ (x * x).toInt := by
  have h := own_mb (x := x.toInt) (y := x.toInt) 16777216 16777216 281474976710656 hx hx (by decide)
  have h0 : 0 ≤ x.toInt * x.toInt := by rcases Int.le_total 0 x.toInt with z | z; exact Int.mul_nonneg z z; exact Int.mul_nonneg_of_nonpos_of_nonpos z z
  have e : (x * x).toInt = x.toInt * x.toInt := by rw [Int64.toInt_mul]; exact Int.bmod_eq_of_le (by omega) (by omega)
  omega
theorem own_mm {x : Int64} {m : Int} (h : x.toInt = 3 * m) (hb : -100000000 ≤ m ∧ m ≤ 100000000) : (x / (3 : Int64)).toInt = m := by
  have e3 : (3 : Int64).toInt = 3 := rfl
  rw [Int64.toInt_div, e3, h, Int.mul_tdiv_cancel_left _ (by decide)]
  exact Int.bmod_eq_of_le (by omega) (by omega)
theorem d1_0 : decode prog_28_method_1_code 0 = .ok (.aload_n 0, 1) := by decide +kernel
theorem d1_1 : decode prog_28_method_1_code 1 = .ok (.invokespecial 1, 3) := by decide +kernel
theorem d1_4 : decode prog_28_method_1_code 4 = .ok (.return_, 1) := by decide +kernel
theorem pn_com_example_whipstill_whipstill_RunningVariance : plainName "com/example/whipstill/whipstill/RunningVariance" = true := by first | (simp [plainName, overriddenIn]; done) | decide +kernel
theorem ef_rvInit (m : MethodId) (x0 : Addr) : entryFrame m #[(.ref x0)] 1 = mkF m 0 #[.val (.ref x0)] [] := by first | (simp [entryFrame, mkF, argsToLocals, Value.category]; done) | rfl
def Q_rvInit (Z : State) (o1 : Addr) (h0 : Heap) (n0 : Nat) (v : Option Value) (h : Heap) (L : List Loc) : Prop := v = none ∧ Fr n0 L ∧ h = h0
set_option maxRecDepth 65536 in
set_option maxHeartbeats 40000000 in
theorem rvInit (l : Launch) (Z : State) (a0 : Array Value) (hw : ∀ d ∈ tables_1, d.before a0 Z = true) (ws : List Jvm.Cond) (o1 : Addr) (h0 : Heap) (n0 : Nat) (Z0 : n0 ≤ h0.size)  :
    MetFree l (⟨"com/example/whipstill/whipstill/RunningVariance", "<init>", "()V"⟩ : MethodName) (head1 (Jvm.Cond.code (⟨"com/example/whipstill/whipstill/RunningVariance", "<init>", "()V"⟩ : MethodName) prog_28_method_1_code 1 none :: ws) ({ frames := 1, cells := 0, slots := 0, locals := 12 } : Room)) (fun a U => a = #[(.ref o1)] ∧ Z.Warmed39 U.vm ∧ U.heap = h0) (fun _ _ _ _ _ => True) (fun _ U o U' => ∃ v L, o = .returned v ∧ Q_rvInit Z o1 h0 n0 v U'.heap L ∧ FrameEnd U o U' L ({ frames := 1, cells := 0, slots := 0, locals := 12 } : Room).cells ({ frames := 1, cells := 0, slots := 0, locals := 12 } : Room).slots) := by
  refine MetFree.of_bodySF (plainFor_of_name pn_com_example_whipstill_whipstill_RunningVariance) hisR ?_
  intro p e s m args below meth c s₁ Bd hml0 hP hK
  obtain ⟨rfl, hZ, hh⟩ := hP
  have hx := Bd.exec
  have hby := Bd.bytes
  have hml : c.maxLocals = 1 := hml0
  have hown : s.vm.findClass "com/example/whipstill/whipstill/RunningVariance" = some m.cls := findClass_of_methodNamed Bd.named
  have hnm := (name_of_methodNamed Bd.named Bd.method).1
  have X0 : Stand p l e ({ frames := 1, cells := 0, slots := 0, locals := 12 } : Room) s m #[(.ref o1)] below meth c s₁ [] 0 0 := Stand.of_body Bd
  have e0 : s₁.heap = h0 := by rw [← hh, Bd.state]; rfl
  have N0 := Fr.nil n0
  have pre0 : ∀ t, Steps p.tables e below (s₁.setTop (mkF m 0 #[.val (.ref o1)] [])) t → Steps p.tables e below (s₁.setTop (entryFrame m #[(.ref o1)] 1)) t := fun t k => castTop (ef_rvInit m o1) k
  obtain ⟨T1_, X1_, e1_, st1_⟩ := initO X0 hx hZ hown (hw _ (List.mem_of_getElem? (i := 6) rfl)) (hw _ (List.mem_of_getElem? (i := 7) rfl)) (hw _ (List.mem_of_getElem? (i := 8) rfl)) e0 (g := (mkF m 1 #[.val (.ref o1)] [(.ref o1)])) rfl (by rw [hml]; rfl) rfl (hb hby d1_1) (by decide) (W := 0) (by show 2 * 0 + _ ≤ _; exact Nat.le_of_eq rfl) (by decide)
  obtain ⟨fs, hr, hrun, hended, hW, hsame⟩ := X1_.leave (v := none) (fun h => by first | rfl | (rw [Bd.returns] at h; cases h))
  refine ⟨_, _, pre0 _ ?_, hrun, hended, _, _, rfl, ?_, ⟨_, rfl⟩, hW, hsame.mono (by exact Nat.le_of_ble_eq_true rfl) (by exact Nat.le_of_ble_eq_true rfl)⟩
  · show Steps p.tables e below (s₁.setTop (mkF m 0 #[.val (.ref o1)] [])) _
    refine XS.aloadN X0.here hx rfl (hb hby d1_0) rfl rfl ?_
    refine st1_ _ ?_
    show Steps p.tables e below (T1_.setTop (mkF m 4 #[.val (.ref o1)] [])) _
    exact X1_.returnOut hx Bd.returns (hb hby d1_4) hr
  · show Q_rvInit Z o1 h0 n0 _ T1_.heap _
    rw [e1_]
    exact ⟨rfl, N0, rfl⟩
theorem d3_0 : decode prog_28_method_3_code 0 = .ok (.aload_n 0, 1) := by decide +kernel
theorem d3_1 : decode prog_28_method_3_code 1 = .ok (.dup, 1) := by decide +kernel
theorem d3_2 : decode prog_28_method_3_code 2 = .ok (.getfield 36, 3) := by decide +kernel
theorem d3_5 : decode prog_28_method_3_code 5 = .ok (.lconst 1, 1) := by decide +kernel
theorem d3_6 : decode prog_28_method_3_code 6 = .ok (.ladd, 1) := by decide +kernel
theorem d3_7 : decode prog_28_method_3_code 7 = .ok (.putfield 36, 3) := by decide +kernel
theorem d3_10 : decode prog_28_method_3_code 10 = .ok (.dload_n 1, 1) := by decide +kernel
theorem d3_11 : decode prog_28_method_3_code 11 = .ok (.aload_n 0, 1) := by decide +kernel
theorem d3_12 : decode prog_28_method_3_code 12 = .ok (.getfield 40, 3) := by decide +kernel
theorem d3_15 : decode prog_28_method_3_code 15 = .ok (.dsub, 1) := by decide +kernel
theorem d3_16 : decode prog_28_method_3_code 16 = .ok (.dstore_n 3, 1) := by decide +kernel
theorem d3_17 : decode prog_28_method_3_code 17 = .ok (.aload_n 0, 1) := by decide +kernel
theorem d3_18 : decode prog_28_method_3_code 18 = .ok (.dup, 1) := by decide +kernel
theorem d3_19 : decode prog_28_method_3_code 19 = .ok (.getfield 40, 3) := by decide +kernel
theorem d3_22 : decode prog_28_method_3_code 22 = .ok (.dload_n 3, 1) := by decide +kernel
theorem d3_23 : decode prog_28_method_3_code 23 = .ok (.aload_n 0, 1) := by decide +kernel
theorem d3_24 : decode prog_28_method_3_code 24 = .ok (.getfield 36, 3) := by decide +kernel
theorem d3_27 : decode prog_28_method_3_code 27 = .ok (.l2d, 1) := by decide +kernel
theorem d3_28 : decode prog_28_method_3_code 28 = .ok (.ddiv, 1) := by decide +kernel
theorem d3_29 : decode prog_28_method_3_code 29 = .ok (.dadd, 1) := by decide +kernel
theorem d3_30 : decode prog_28_method_3_code 30 = .ok (.putfield 40, 3) := by decide +kernel
theorem d3_33 : decode prog_28_method_3_code 33 = .ok (.aload_n 0, 1) := by decide +kernel
theorem d3_34 : decode prog_28_method_3_code 34 = .ok (.dup, 1) := by decide +kernel
theorem d3_35 : decode prog_28_method_3_code 35 = .ok (.getfield 44, 3) := by decide +kernel
theorem d3_38 : decode prog_28_method_3_code 38 = .ok (.dload_n 3, 1) := by decide +kernel
theorem d3_39 : decode prog_28_method_3_code 39 = .ok (.dload_n 1, 1) := by decide +kernel
theorem d3_40 : decode prog_28_method_3_code 40 = .ok (.aload_n 0, 1) := by decide +kernel
theorem d3_41 : decode prog_28_method_3_code 41 = .ok (.getfield 40, 3) := by decide +kernel
theorem d3_44 : decode prog_28_method_3_code 44 = .ok (.dsub, 1) := by decide +kernel
theorem d3_45 : decode prog_28_method_3_code 45 = .ok (.dmul, 1) := by decide +kernel
theorem d3_46 : decode prog_28_method_3_code 46 = .ok (.dadd, 1) := by decide +kernel
theorem d3_47 : decode prog_28_method_3_code 47 = .ok (.putfield 44, 3) := by decide +kernel
theorem d3_50 : decode prog_28_method_3_code 50 = .ok (.return_, 1) := by decide +kernel
theorem ef_rvAdd1 (m : MethodId) (x0 : Addr) (x1 : UInt64) : entryFrame m #[(.ref x0), (.double x1)] 5 = mkF m 0 #[.val (.ref x0), .val (.double x1), .second, .unset, .unset] [] := by first | (simp [entryFrame, mkF, argsToLocals, Value.category]; done) | rfl
def Q_rvAdd1 (Z : State) (o1 : Addr) (x1 : UInt64) (ia : Int) (h0 : Heap) (n0 : Nat) (v : Option Value) (h : Heap) (L : List Loc) : Prop := ∃ (m2 : UInt64) (s2 : UInt64), v = none ∧ Fr n0 L ∧ Keep h0 h [o1] ∧ (Fld Z h o1 "com/example/whipstill/whipstill/RunningVariance" "count" "J" (.long (1 : Int64))) ∧ (Fld Z h o1 "com/example/whipstill/whipstill/RunningVariance" "mean" "D" (.double m2)) ∧ (Fld Z h o1 "com/example/whipstill/whipstill/RunningVariance" "squares" "D" (.double s2)) ∧ (own_H (2 * ia) m2) ∧ (own_H (0) s2)
set_option maxRecDepth 65536 in
set_option maxHeartbeats 40000000 in
theorem rvAdd1 (l : Launch) (Z : State) (a0 : Array Value) (hw : ∀ d ∈ tables_1, d.before a0 Z = true) (ws : List Jvm.Cond) (o1 : Addr) (x1 : UInt64) (ia : Int) (h0 : Heap) (n0 : Nat) (Z0 : n0 ≤ h0.size) (E1 : Exa Z h0 o1 "com/example/whipstill/whipstill/RunningVariance") (F1 : Fld Z h0 o1 "com/example/whipstill/whipstill/RunningVariance" "count" "J" (.long (0 : Int64))) (F2 : Fld Z h0 o1 "com/example/whipstill/whipstill/RunningVariance" "mean" "D" (.double (0 : UInt64))) (F3 : Fld Z h0 o1 "com/example/whipstill/whipstill/RunningVariance" "squares" "D" (.double (0 : UInt64))) (vx : own_H (2 * ia) x1) (bnd : -2097160 ≤ ia ∧ ia ≤ 2097160) (g1 : n0 ≤ o1) :
    MetFree l (⟨"com/example/whipstill/whipstill/RunningVariance", "add", "(D)V"⟩ : MethodName) (head1 (Jvm.Cond.code (⟨"com/example/whipstill/whipstill/RunningVariance", "add", "(D)V"⟩ : MethodName) prog_28_method_3_code 5 none :: ws) ({ frames := 0, cells := 0, slots := 0, locals := 0 } : Room)) (fun a U => a = #[(.ref o1), (.double x1)] ∧ Z.Warmed39 U.vm ∧ U.heap = h0) (fun _ _ _ _ _ => True) (fun _ U o U' => ∃ v L, o = .returned v ∧ Q_rvAdd1 Z o1 x1 ia h0 n0 v U'.heap L ∧ FrameEnd U o U' L ({ frames := 0, cells := 0, slots := 0, locals := 0 } : Room).cells ({ frames := 0, cells := 0, slots := 0, locals := 0 } : Room).slots) := by
  refine MetFree.of_bodySF (plainFor_of_name pn_com_example_whipstill_whipstill_RunningVariance) hisR ?_
  intro p e s m args below meth c s₁ Bd hml0 hP hK
  obtain ⟨rfl, hZ, hh⟩ := hP
  have hx := Bd.exec
  have hby := Bd.bytes
  have hml : c.maxLocals = 5 := hml0
  have hown : s.vm.findClass "com/example/whipstill/whipstill/RunningVariance" = some m.cls := findClass_of_methodNamed Bd.named
  have hnm := (name_of_methodNamed Bd.named Bd.method).1
  have X0 : Stand p l e ({ frames := 0, cells := 0, slots := 0, locals := 0 } : Room) s m #[(.ref o1), (.double x1)] below meth c s₁ [] 0 0 := Stand.of_body Bd
  have e0 : s₁.heap = h0 := by rw [← hh, Bd.state]; rfl
  have N0 := Fr.nil n0
  have pre0 : ∀ t, Steps p.tables e below (s₁.setTop (mkF m 0 #[.val (.ref o1), .val (.double x1), .second, .unset, .unset] [])) t → Steps p.tables e below (s₁.setTop (entryFrame m #[(.ref o1), (.double x1)] 5)) t := fun t k => castTop (ef_rvAdd1 m o1 x1) k
  obtain ⟨T1_, X1_, e1_, st1_⟩ := getF X0 hx hZ hown (host := "") (Or.inl (hw _ (List.mem_of_getElem? (i := 14) rfl))) Via.refl e0 F1 (g := (mkF m 2 #[.val (.ref o1), .val (.double x1), .second, .unset, .unset] [(.ref o1), (.ref o1)])) rfl rfl (hb hby d3_2)
  obtain ⟨T2_, h2_, X2_, e2_, W2_, st2_⟩ := putF X1_ hx hZ hown (host := "") (Or.inl (hw _ (List.mem_of_getElem? (i := 14) rfl))) Via.refl e1_ F1 E1 (Or.inl (hw _ (List.mem_of_getElem? (i := 15) rfl))) (hw _ (List.mem_of_getElem? (i := 1) rfl)) (ty := .long) (by decide) rfl rfl (g := (mkF m 7 #[.val (.ref o1), .val (.double x1), .second, .unset, .unset] [(.long (1 : Int64)), (.ref o1)])) rfl rfl (hb hby d3_7)
  have w2_ : Fld Z h2_ o1 "com/example/whipstill/whipstill/RunningVariance" "count" "J" (.long (1 : Int64)) := F1.same W2_
  have N2_ := Fr.snoc X2_ N0 g1
  have f3_ : Fld Z h2_ o1 "com/example/whipstill/whipstill/RunningVariance" "mean" "D" (.double (0 : UInt64)) := (F2.other W2_ (Or.inr (slot_ne (Or.inl (hw _ (List.mem_of_getElem? (i := 17) rfl))) (Or.inl (hw _ (List.mem_of_getElem? (i := 15) rfl))) (by decide) (t := .double) (t' := .long) (by decide) (by decide))))
  obtain ⟨T4_, X4_, e4_, st4_⟩ := getF X2_ hx hZ hown (host := "") (Or.inl (hw _ (List.mem_of_getElem? (i := 16) rfl))) Via.refl e2_ f3_ (g := (mkF m 12 #[.val (.ref o1), .val (.double x1), .second, .unset, .unset] [(.ref o1), (.double x1)])) rfl rfl (hb hby d3_12)
  have p5_ : own_H (2 * ia) (FP.dsub x1 (0 : UInt64)) := (own_Hc (own_H_sub vx own_H0 (by omega)) (by omega))
  have nn5_ := own_nn p5_
  obtain ⟨d5_, hd5_⟩ : ∃ z, (FP.dsub x1 (0 : UInt64)) = z := ⟨_, rfl⟩
  rw [hd5_] at p5_
  obtain ⟨T6_, X6_, e6_, st6_⟩ := getF X4_ hx hZ hown (host := "") (Or.inl (hw _ (List.mem_of_getElem? (i := 16) rfl))) Via.refl e4_ f3_ (g := (mkF m 19 #[.val (.ref o1), .val (.double x1), .second, .val (.double d5_), .second] [(.ref o1), (.ref o1)])) rfl rfl (hb hby d3_19)
  obtain ⟨T7_, X7_, e7_, st7_⟩ := getF X6_ hx hZ hown (host := "") (Or.inl (hw _ (List.mem_of_getElem? (i := 14) rfl))) Via.refl e6_ w2_ (g := (mkF m 24 #[.val (.ref o1), .val (.double x1), .second, .val (.double d5_), .second] [(.ref o1), (.double d5_), (.double (0 : UInt64)), (.ref o1)])) rfl rfl (hb hby d3_24)
  have p8_ : own_H (2 * ia) (FP.ddiv d5_ (4607182418800017408 : UInt64)) := (own_H1 p5_)
  have nn8_ := own_nn p8_
  obtain ⟨d8_, hd8_⟩ : ∃ z, (FP.ddiv d5_ (4607182418800017408 : UInt64)) = z := ⟨_, rfl⟩
  rw [hd8_] at p8_
  have p9_ : own_H (2 * ia) (FP.dadd (0 : UInt64) d8_) := (own_Hc (own_H_add own_H0 p8_ (by omega)) (by omega))
  have nn9_ := own_nn p9_
  obtain ⟨d9_, hd9_⟩ : ∃ z, (FP.dadd (0 : UInt64) d8_) = z := ⟨_, rfl⟩
  rw [hd9_] at p9_
  have f10_ : Exa Z h2_ o1 "com/example/whipstill/whipstill/RunningVariance" := (E1.wr W2_)
  obtain ⟨T11_, h11_, X11_, e11_, W11_, st11_⟩ := putF X7_ hx hZ hown (host := "") (Or.inl (hw _ (List.mem_of_getElem? (i := 16) rfl))) Via.refl e7_ f3_ f10_ (Or.inl (hw _ (List.mem_of_getElem? (i := 17) rfl))) (hw _ (List.mem_of_getElem? (i := 1) rfl)) (ty := .double) (by decide) rfl rfl (g := (mkF m 30 #[.val (.ref o1), .val (.double x1), .second, .val (.double d5_), .second] [(.double d9_), (.ref o1)])) rfl rfl (hb hby d3_30)
  have w11_ : Fld Z h11_ o1 "com/example/whipstill/whipstill/RunningVariance" "mean" "D" (.double d9_) := f3_.same W11_
  have N11_ := Fr.snoc X11_ N2_ g1
  have f12_ : Fld Z h11_ o1 "com/example/whipstill/whipstill/RunningVariance" "squares" "D" (.double (0 : UInt64)) := ((F3.other W2_ (Or.inr (slot_ne (Or.inl (hw _ (List.mem_of_getElem? (i := 19) rfl))) (Or.inl (hw _ (List.mem_of_getElem? (i := 15) rfl))) (by decide) (t := .double) (t' := .long) (by decide) (by decide)))).other W11_ (Or.inr (slot_ne (Or.inl (hw _ (List.mem_of_getElem? (i := 19) rfl))) (Or.inl (hw _ (List.mem_of_getElem? (i := 17) rfl))) (by decide) (t := .double) (t' := .double) (by decide) (by decide))))
  obtain ⟨T13_, X13_, e13_, st13_⟩ := getF X11_ hx hZ hown (host := "") (Or.inl (hw _ (List.mem_of_getElem? (i := 18) rfl))) Via.refl e11_ f12_ (g := (mkF m 35 #[.val (.ref o1), .val (.double x1), .second, .val (.double d5_), .second] [(.ref o1), (.ref o1)])) rfl rfl (hb hby d3_35)
  obtain ⟨T14_, X14_, e14_, st14_⟩ := getF X13_ hx hZ hown (host := "") (Or.inl (hw _ (List.mem_of_getElem? (i := 16) rfl))) Via.refl e13_ w11_ (g := (mkF m 41 #[.val (.ref o1), .val (.double x1), .second, .val (.double d5_), .second] [(.ref o1), (.double x1), (.double d5_), (.double (0 : UInt64)), (.ref o1)])) rfl rfl (hb hby d3_41)
  have p15_ : own_H (2 * 0) (FP.dsub x1 d9_) := (own_Hc (own_H_sub vx p9_ (by omega)) (by omega))
  have nn15_ := own_nn p15_
  obtain ⟨d15_, hd15_⟩ : ∃ z, (FP.dsub x1 d9_) = z := ⟨_, rfl⟩
  rw [hd15_] at p15_
  have p16_ : own_H (0) (FP.dmul d5_ d15_) := (own_Hc (own_Hm p5_ p15_ (by simp)) (by simp))
  have nn16_ := own_nn p16_
  obtain ⟨d16_, hd16_⟩ : ∃ z, (FP.dmul d5_ d15_) = z := ⟨_, rfl⟩
  rw [hd16_] at p16_
  have p17_ : own_H (0) (FP.dadd (0 : UInt64) d16_) := (own_Hc (own_H_add own_H0 p16_ (by omega)) (by omega))
  have nn17_ := own_nn p17_
  obtain ⟨d17_, hd17_⟩ : ∃ z, (FP.dadd (0 : UInt64) d16_) = z := ⟨_, rfl⟩
  rw [hd17_] at p17_
  have f18_ : Exa Z h11_ o1 "com/example/whipstill/whipstill/RunningVariance" := (f10_.wr W11_)
  obtain ⟨T19_, h19_, X19_, e19_, W19_, st19_⟩ := putF X14_ hx hZ hown (host := "") (Or.inl (hw _ (List.mem_of_getElem? (i := 18) rfl))) Via.refl e14_ f12_ f18_ (Or.inl (hw _ (List.mem_of_getElem? (i := 19) rfl))) (hw _ (List.mem_of_getElem? (i := 1) rfl)) (ty := .double) (by decide) rfl rfl (g := (mkF m 47 #[.val (.ref o1), .val (.double x1), .second, .val (.double d5_), .second] [(.double d17_), (.ref o1)])) rfl rfl (hb hby d3_47)
  have w19_ : Fld Z h19_ o1 "com/example/whipstill/whipstill/RunningVariance" "squares" "D" (.double d17_) := f12_.same W19_
  have N19_ := Fr.snoc X19_ N11_ g1
  have f20_ : Fld Z h19_ o1 "com/example/whipstill/whipstill/RunningVariance" "count" "J" (.long (1 : Int64)) := ((w2_.other W11_ (Or.inr (slot_ne (Or.inl (hw _ (List.mem_of_getElem? (i := 15) rfl))) (Or.inl (hw _ (List.mem_of_getElem? (i := 17) rfl))) (by decide) (t := .long) (t' := .double) (by decide) (by decide)))).other W19_ (Or.inr (slot_ne (Or.inl (hw _ (List.mem_of_getElem? (i := 15) rfl))) (Or.inl (hw _ (List.mem_of_getElem? (i := 19) rfl))) (by decide) (t := .long) (t' := .double) (by decide) (by decide))))
  have f21_ : Fld Z h19_ o1 "com/example/whipstill/whipstill/RunningVariance" "mean" "D" (.double d9_) := (w11_.other W19_ (Or.inr (slot_ne (Or.inl (hw _ (List.mem_of_getElem? (i := 17) rfl))) (Or.inl (hw _ (List.mem_of_getElem? (i := 19) rfl))) (by decide) (t := .double) (t' := .double) (by decide) (by decide))))
  have k22_ : Keep h0 h2_ [o1] := (Keep.refl h0 [o1]).wr W2_ (Or.inl (List.mem_of_getElem? (i := 0) rfl))
  have k23_ : Keep h0 h11_ [o1] := k22_.wr W11_ (Or.inl (List.mem_of_getElem? (i := 0) rfl))
  have k24_ : Keep h0 h19_ [o1] := k23_.wr W19_ (Or.inl (List.mem_of_getElem? (i := 0) rfl))
  obtain ⟨fs, hr, hrun, hended, hW, hsame⟩ := X19_.leave (v := none) (fun h => by first | rfl | (rw [Bd.returns] at h; cases h))
  refine ⟨_, _, pre0 _ ?_, hrun, hended, _, _, rfl, ?_, ⟨_, rfl⟩, hW, hsame.mono (by exact Nat.le_of_ble_eq_true rfl) (by exact Nat.le_of_ble_eq_true rfl)⟩
  · show Steps p.tables e below (s₁.setTop (mkF m 0 #[.val (.ref o1), .val (.double x1), .second, .unset, .unset] [])) _
    refine XS.aloadN X0.here hx rfl (hb hby d3_0) rfl rfl ?_
    refine XS.dup X0.here hx rfl (hb hby d3_1) rfl rfl ?_
    show Steps p.tables e below (s₁.setTop (mkF m 2 #[.val (.ref o1), .val (.double x1), .second, .unset, .unset] [(.ref o1), (.ref o1)])) _
    refine st1_ _ ?_
    show Steps p.tables e below (T1_.setTop (mkF m 5 #[.val (.ref o1), .val (.double x1), .second, .unset, .unset] [(.long (0 : Int64)), (.ref o1)])) _
    refine XS.lconst X1_.here hx rfl (hb hby d3_5) ?_
    refine XS.ladd X1_.here hx rfl (hb hby d3_6) rfl ?_
    show Steps p.tables e below (T1_.setTop (mkF m 7 #[.val (.ref o1), .val (.double x1), .second, .unset, .unset] [(.long (1 : Int64)), (.ref o1)])) _
    refine st2_ _ ?_
    show Steps p.tables e below (T2_.setTop (mkF m 10 #[.val (.ref o1), .val (.double x1), .second, .unset, .unset] [])) _
    refine XS.dloadN X2_.here hx rfl (hb hby d3_10) rfl ?_
    refine XS.aloadN X2_.here hx rfl (hb hby d3_11) rfl rfl ?_
    refine st4_ _ ?_
    show Steps p.tables e below (T4_.setTop (mkF m 15 #[.val (.ref o1), .val (.double x1), .second, .unset, .unset] [(.double (0 : UInt64)), (.double x1)])) _
    refine XS.dsubS X4_.here hx rfl (hb hby d3_15) rfl nn5_ (v := d5_) hd5_ ?_
    show Steps p.tables e below (T4_.setTop (mkF m 16 #[.val (.ref o1), .val (.double x1), .second, .unset, .unset] [(.double d5_)])) _
    refine XS.dstoreN X4_.here hx rfl (hb hby d3_16) rfl (l' := #[.val (.ref o1), .val (.double x1), .second, .val (.double d5_), .second]) rfl ?_
    show Steps p.tables e below (T4_.setTop (mkF m 17 #[.val (.ref o1), .val (.double x1), .second, .val (.double d5_), .second] [])) _
    refine XS.aloadN X4_.here hx rfl (hb hby d3_17) rfl rfl ?_
    refine XS.dup X4_.here hx rfl (hb hby d3_18) rfl rfl ?_
    show Steps p.tables e below (T4_.setTop (mkF m 19 #[.val (.ref o1), .val (.double x1), .second, .val (.double d5_), .second] [(.ref o1), (.ref o1)])) _
    refine st6_ _ ?_
    show Steps p.tables e below (T6_.setTop (mkF m 22 #[.val (.ref o1), .val (.double x1), .second, .val (.double d5_), .second] [(.double (0 : UInt64)), (.ref o1)])) _
    refine XS.dloadN X6_.here hx rfl (hb hby d3_22) rfl ?_
    refine XS.aloadN X6_.here hx rfl (hb hby d3_23) rfl rfl ?_
    refine st7_ _ ?_
    show Steps p.tables e below (T7_.setTop (mkF m 27 #[.val (.ref o1), .val (.double x1), .second, .val (.double d5_), .second] [(.long (1 : Int64)), (.double d5_), (.double (0 : UInt64)), (.ref o1)])) _
    refine XS.l2dS X7_.here hx rfl (hb hby d3_27) rfl (v := (4607182418800017408 : UInt64)) (by decide +kernel) ?_
    show Steps p.tables e below (T7_.setTop (mkF m 28 #[.val (.ref o1), .val (.double x1), .second, .val (.double d5_), .second] [(.double (4607182418800017408 : UInt64)), (.double d5_), (.double (0 : UInt64)), (.ref o1)])) _
    refine XS.ddivS X7_.here hx rfl (hb hby d3_28) rfl nn8_ (v := d8_) hd8_ ?_
    show Steps p.tables e below (T7_.setTop (mkF m 29 #[.val (.ref o1), .val (.double x1), .second, .val (.double d5_), .second] [(.double d8_), (.double (0 : UInt64)), (.ref o1)])) _
    refine XS.daddS X7_.here hx rfl (hb hby d3_29) rfl nn9_ (v := d9_) hd9_ ?_
    show Steps p.tables e below (T7_.setTop (mkF m 30 #[.val (.ref o1), .val (.double x1), .second, .val (.double d5_), .second] [(.double d9_), (.ref o1)])) _
    refine st11_ _ ?_
    show Steps p.tables e below (T11_.setTop (mkF m 33 #[.val (.ref o1), .val (.double x1), .second, .val (.double d5_), .second] [])) _
    refine XS.aloadN X11_.here hx rfl (hb hby d3_33) rfl rfl ?_
    refine XS.dup X11_.here hx rfl (hb hby d3_34) rfl rfl ?_
    show Steps p.tables e below (T11_.setTop (mkF m 35 #[.val (.ref o1), .val (.double x1), .second, .val (.double d5_), .second] [(.ref o1), (.ref o1)])) _
    refine st13_ _ ?_
    show Steps p.tables e below (T13_.setTop (mkF m 38 #[.val (.ref o1), .val (.double x1), .second, .val (.double d5_), .second] [(.double (0 : UInt64)), (.ref o1)])) _
    refine XS.dloadN X13_.here hx rfl (hb hby d3_38) rfl ?_
    refine XS.dloadN X13_.here hx rfl (hb hby d3_39) rfl ?_
    refine XS.aloadN X13_.here hx rfl (hb hby d3_40) rfl rfl ?_
    refine st14_ _ ?_
    show Steps p.tables e below (T14_.setTop (mkF m 44 #[.val (.ref o1), .val (.double x1), .second, .val (.double d5_), .second] [(.double d9_), (.double x1), (.double d5_), (.double (0 : UInt64)), (.ref o1)])) _
    refine XS.dsubS X14_.here hx rfl (hb hby d3_44) rfl nn15_ (v := d15_) hd15_ ?_
    show Steps p.tables e below (T14_.setTop (mkF m 45 #[.val (.ref o1), .val (.double x1), .second, .val (.double d5_), .second] [(.double d15_), (.double d5_), (.double (0 : UInt64)), (.ref o1)])) _
    refine XS.dmulS X14_.here hx rfl (hb hby d3_45) rfl nn16_ (v := d16_) hd16_ ?_
    show Steps p.tables e below (T14_.setTop (mkF m 46 #[.val (.ref o1), .val (.double x1), .second, .val (.double d5_), .second] [(.double d16_), (.double (0 : UInt64)), (.ref o1)])) _
    refine XS.daddS X14_.here hx rfl (hb hby d3_46) rfl nn17_ (v := d17_) hd17_ ?_
    show Steps p.tables e below (T14_.setTop (mkF m 47 #[.val (.ref o1), .val (.double x1), .second, .val (.double d5_), .second] [(.double d17_), (.ref o1)])) _
    refine st19_ _ ?_
    show Steps p.tables e below (T19_.setTop (mkF m 50 #[.val (.ref o1), .val (.double x1), .second, .val (.double d5_), .second] [])) _
    exact X19_.returnOut hx Bd.returns (hb hby d3_50) hr
  · show Q_rvAdd1 Z o1 x1 ia h0 n0 _ T19_.heap _
    rw [e19_]
    exact ⟨d9_, d17_, rfl, N19_, k24_, f20_, f21_, w19_, p9_, p17_⟩
theorem ef_rvAdd2 (m : MethodId) (x0 : Addr) (x1 : UInt64) : entryFrame m #[(.ref x0), (.double x1)] 5 = mkF m 0 #[.val (.ref x0), .val (.double x1), .second, .unset, .unset] [] := by first | (simp [entryFrame, mkF, argsToLocals, Value.category]; done) | rfl
def Q_rvAdd2 (Z : State) (o1 : Addr) (x1 : UInt64) (ia : Int) (ib : Int) (mu : UInt64) (sq : UInt64) (h0 : Heap) (n0 : Nat) (v : Option Value) (h : Heap) (L : List Loc) : Prop := ∃ (m2 : UInt64) (s2 : UInt64), v = none ∧ Fr n0 L ∧ Keep h0 h [o1] ∧ (Fld Z h o1 "com/example/whipstill/whipstill/RunningVariance" "count" "J" (.long (2 : Int64))) ∧ (Fld Z h o1 "com/example/whipstill/whipstill/RunningVariance" "mean" "D" (.double m2)) ∧ (Fld Z h o1 "com/example/whipstill/whipstill/RunningVariance" "squares" "D" (.double s2)) ∧ (own_H (ia + ib) m2) ∧ (own_H (((ib - ia) * (ib - ia))) s2)
set_option maxRecDepth 65536 in
set_option maxHeartbeats 40000000 in
theorem rvAdd2 (l : Launch) (Z : State) (a0 : Array Value) (hw : ∀ d ∈ tables_1, d.before a0 Z = true) (ws : List Jvm.Cond) (o1 : Addr) (x1 : UInt64) (ia : Int) (ib : Int) (mu : UInt64) (sq : UInt64) (h0 : Heap) (n0 : Nat) (Z0 : n0 ≤ h0.size) (E1 : Exa Z h0 o1 "com/example/whipstill/whipstill/RunningVariance") (F1 : Fld Z h0 o1 "com/example/whipstill/whipstill/RunningVariance" "count" "J" (.long (1 : Int64))) (F2 : Fld Z h0 o1 "com/example/whipstill/whipstill/RunningVariance" "mean" "D" (.double mu)) (F3 : Fld Z h0 o1 "com/example/whipstill/whipstill/RunningVariance" "squares" "D" (.double sq)) (vx : own_H (2 * ib) x1) (vmu : own_H (2 * ia) mu) (vsq : own_H (0) sq) (bnd : -2097160 ≤ ia ∧ ia ≤ 2097160) (bnd2 : -2097160 ≤ ib ∧ ib ≤ 2097160) (g1 : n0 ≤ o1) :
    MetFree l (⟨"com/example/whipstill/whipstill/RunningVariance", "add", "(D)V"⟩ : MethodName) (head1 (Jvm.Cond.code (⟨"com/example/whipstill/whipstill/RunningVariance", "add", "(D)V"⟩ : MethodName) prog_28_method_3_code 5 none :: ws) ({ frames := 0, cells := 0, slots := 0, locals := 0 } : Room)) (fun a U => a = #[(.ref o1), (.double x1)] ∧ Z.Warmed39 U.vm ∧ U.heap = h0) (fun _ _ _ _ _ => True) (fun _ U o U' => ∃ v L, o = .returned v ∧ Q_rvAdd2 Z o1 x1 ia ib mu sq h0 n0 v U'.heap L ∧ FrameEnd U o U' L ({ frames := 0, cells := 0, slots := 0, locals := 0 } : Room).cells ({ frames := 0, cells := 0, slots := 0, locals := 0 } : Room).slots) := by
  refine MetFree.of_bodySF (plainFor_of_name pn_com_example_whipstill_whipstill_RunningVariance) hisR ?_
  intro p e s m args below meth c s₁ Bd hml0 hP hK
  obtain ⟨rfl, hZ, hh⟩ := hP
  have hx := Bd.exec
  have hby := Bd.bytes
  have hml : c.maxLocals = 5 := hml0
  have hown : s.vm.findClass "com/example/whipstill/whipstill/RunningVariance" = some m.cls := findClass_of_methodNamed Bd.named
  have hnm := (name_of_methodNamed Bd.named Bd.method).1
  have X0 : Stand p l e ({ frames := 0, cells := 0, slots := 0, locals := 0 } : Room) s m #[(.ref o1), (.double x1)] below meth c s₁ [] 0 0 := Stand.of_body Bd
  have e0 : s₁.heap = h0 := by rw [← hh, Bd.state]; rfl
  have N0 := Fr.nil n0
  have pre0 : ∀ t, Steps p.tables e below (s₁.setTop (mkF m 0 #[.val (.ref o1), .val (.double x1), .second, .unset, .unset] [])) t → Steps p.tables e below (s₁.setTop (entryFrame m #[(.ref o1), (.double x1)] 5)) t := fun t k => castTop (ef_rvAdd2 m o1 x1) k
  obtain ⟨T1_, X1_, e1_, st1_⟩ := getF X0 hx hZ hown (host := "") (Or.inl (hw _ (List.mem_of_getElem? (i := 14) rfl))) Via.refl e0 F1 (g := (mkF m 2 #[.val (.ref o1), .val (.double x1), .second, .unset, .unset] [(.ref o1), (.ref o1)])) rfl rfl (hb hby d3_2)
  obtain ⟨T2_, h2_, X2_, e2_, W2_, st2_⟩ := putF X1_ hx hZ hown (host := "") (Or.inl (hw _ (List.mem_of_getElem? (i := 14) rfl))) Via.refl e1_ F1 E1 (Or.inl (hw _ (List.mem_of_getElem? (i := 15) rfl))) (hw _ (List.mem_of_getElem? (i := 1) rfl)) (ty := .long) (by decide) rfl rfl (g := (mkF m 7 #[.val (.ref o1), .val (.double x1), .second, .unset, .unset] [(.long (2 : Int64)), (.ref o1)])) rfl rfl (hb hby d3_7)
  have w2_ : Fld Z h2_ o1 "com/example/whipstill/whipstill/RunningVariance" "count" "J" (.long (2 : Int64)) := F1.same W2_
  have N2_ := Fr.snoc X2_ N0 g1
  have f3_ : Fld Z h2_ o1 "com/example/whipstill/whipstill/RunningVariance" "mean" "D" (.double mu) := (F2.other W2_ (Or.inr (slot_ne (Or.inl (hw _ (List.mem_of_getElem? (i := 17) rfl))) (Or.inl (hw _ (List.mem_of_getElem? (i := 15) rfl))) (by decide) (t := .double) (t' := .long) (by decide) (by decide))))
  obtain ⟨T4_, X4_, e4_, st4_⟩ := getF X2_ hx hZ hown (host := "") (Or.inl (hw _ (List.mem_of_getElem? (i := 16) rfl))) Via.refl e2_ f3_ (g := (mkF m 12 #[.val (.ref o1), .val (.double x1), .second, .unset, .unset] [(.ref o1), (.double x1)])) rfl rfl (hb hby d3_12)
  have p5_ : own_H (2 * (ib - ia)) (FP.dsub x1 mu) := (own_Hc (own_H_sub vx vmu (by omega)) (by omega))
  have nn5_ := own_nn p5_
  obtain ⟨d5_, hd5_⟩ : ∃ z, (FP.dsub x1 mu) = z := ⟨_, rfl⟩
  rw [hd5_] at p5_
  obtain ⟨T6_, X6_, e6_, st6_⟩ := getF X4_ hx hZ hown (host := "") (Or.inl (hw _ (List.mem_of_getElem? (i := 16) rfl))) Via.refl e4_ f3_ (g := (mkF m 19 #[.val (.ref o1), .val (.double x1), .second, .val (.double d5_), .second] [(.ref o1), (.ref o1)])) rfl rfl (hb hby d3_19)
  obtain ⟨T7_, X7_, e7_, st7_⟩ := getF X6_ hx hZ hown (host := "") (Or.inl (hw _ (List.mem_of_getElem? (i := 14) rfl))) Via.refl e6_ w2_ (g := (mkF m 24 #[.val (.ref o1), .val (.double x1), .second, .val (.double d5_), .second] [(.ref o1), (.double d5_), (.double mu), (.ref o1)])) rfl rfl (hb hby d3_24)
  have p8_ : own_H (ib - ia) (FP.ddiv d5_ (4611686018427387904 : UInt64)) := (own_H2 p5_ (by omega))
  have nn8_ := own_nn p8_
  obtain ⟨d8_, hd8_⟩ : ∃ z, (FP.ddiv d5_ (4611686018427387904 : UInt64)) = z := ⟨_, rfl⟩
  rw [hd8_] at p8_
  have p9_ : own_H (ia + ib) (FP.dadd mu d8_) := (own_Hc (own_H_add vmu p8_ (by omega)) (by omega))
  have nn9_ := own_nn p9_
  obtain ⟨d9_, hd9_⟩ : ∃ z, (FP.dadd mu d8_) = z := ⟨_, rfl⟩
  rw [hd9_] at p9_
  have f10_ : Exa Z h2_ o1 "com/example/whipstill/whipstill/RunningVariance" := (E1.wr W2_)
  obtain ⟨T11_, h11_, X11_, e11_, W11_, st11_⟩ := putF X7_ hx hZ hown (host := "") (Or.inl (hw _ (List.mem_of_getElem? (i := 16) rfl))) Via.refl e7_ f3_ f10_ (Or.inl (hw _ (List.mem_of_getElem? (i := 17) rfl))) (hw _ (List.mem_of_getElem? (i := 1) rfl)) (ty := .double) (by decide) rfl rfl (g := (mkF m 30 #[.val (.ref o1), .val (.double x1), .second, .val (.double d5_), .second] [(.double d9_), (.ref o1)])) rfl rfl (hb hby d3_30)
  have w11_ : Fld Z h11_ o1 "com/example/whipstill/whipstill/RunningVariance" "mean" "D" (.double d9_) := f3_.same W11_
  have N11_ := Fr.snoc X11_ N2_ g1
  have f12_ : Fld Z h11_ o1 "com/example/whipstill/whipstill/RunningVariance" "squares" "D" (.double sq) := ((F3.other W2_ (Or.inr (slot_ne (Or.inl (hw _ (List.mem_of_getElem? (i := 19) rfl))) (Or.inl (hw _ (List.mem_of_getElem? (i := 15) rfl))) (by decide) (t := .double) (t' := .long) (by decide) (by decide)))).other W11_ (Or.inr (slot_ne (Or.inl (hw _ (List.mem_of_getElem? (i := 19) rfl))) (Or.inl (hw _ (List.mem_of_getElem? (i := 17) rfl))) (by decide) (t := .double) (t' := .double) (by decide) (by decide))))
  obtain ⟨T13_, X13_, e13_, st13_⟩ := getF X11_ hx hZ hown (host := "") (Or.inl (hw _ (List.mem_of_getElem? (i := 18) rfl))) Via.refl e11_ f12_ (g := (mkF m 35 #[.val (.ref o1), .val (.double x1), .second, .val (.double d5_), .second] [(.ref o1), (.ref o1)])) rfl rfl (hb hby d3_35)
  obtain ⟨T14_, X14_, e14_, st14_⟩ := getF X13_ hx hZ hown (host := "") (Or.inl (hw _ (List.mem_of_getElem? (i := 16) rfl))) Via.refl e13_ w11_ (g := (mkF m 41 #[.val (.ref o1), .val (.double x1), .second, .val (.double d5_), .second] [(.ref o1), (.double x1), (.double d5_), (.double sq), (.ref o1)])) rfl rfl (hb hby d3_41)
  have p15_ : own_H (ib - ia) (FP.dsub x1 d9_) := (own_Hc (own_H_sub vx p9_ (by omega)) (by omega))
  have nn15_ := own_nn p15_
  obtain ⟨d15_, hd15_⟩ : ∃ z, (FP.dsub x1 d9_) = z := ⟨_, rfl⟩
  rw [hd15_] at p15_
  have p16_ : own_H (((ib - ia) * (ib - ia))) (FP.dmul d5_ d15_) := (own_Hm' p5_ p15_ (own_mb 8388608 8388608 _ (by omega) (by omega) (by decide)))
  have nn16_ := own_nn p16_
  obtain ⟨d16_, hd16_⟩ : ∃ z, (FP.dmul d5_ d15_) = z := ⟨_, rfl⟩
  rw [hd16_] at p16_
  have p17_ : own_H (((ib - ia) * (ib - ia))) (FP.dadd sq d16_) := (own_Hc (own_H_add vsq p16_ (by rw [Int.zero_add]; exact (own_mb 8388608 8388608 _ (by omega) (by omega) (by decide)))) (Int.zero_add _))
  have nn17_ := own_nn p17_
  obtain ⟨d17_, hd17_⟩ : ∃ z, (FP.dadd sq d16_) = z := ⟨_, rfl⟩
  rw [hd17_] at p17_
  have f18_ : Exa Z h11_ o1 "com/example/whipstill/whipstill/RunningVariance" := (f10_.wr W11_)
  obtain ⟨T19_, h19_, X19_, e19_, W19_, st19_⟩ := putF X14_ hx hZ hown (host := "") (Or.inl (hw _ (List.mem_of_getElem? (i := 18) rfl))) Via.refl e14_ f12_ f18_ (Or.inl (hw _ (List.mem_of_getElem? (i := 19) rfl))) (hw _ (List.mem_of_getElem? (i := 1) rfl)) (ty := .double) (by decide) rfl rfl (g := (mkF m 47 #[.val (.ref o1), .val (.double x1), .second, .val (.double d5_), .second] [(.double d17_), (.ref o1)])) rfl rfl (hb hby d3_47)
  have w19_ : Fld Z h19_ o1 "com/example/whipstill/whipstill/RunningVariance" "squares" "D" (.double d17_) := f12_.same W19_
  have N19_ := Fr.snoc X19_ N11_ g1
  have f20_ : Fld Z h19_ o1 "com/example/whipstill/whipstill/RunningVariance" "count" "J" (.long (2 : Int64)) := ((w2_.other W11_ (Or.inr (slot_ne (Or.inl (hw _ (List.mem_of_getElem? (i := 15) rfl))) (Or.inl (hw _ (List.mem_of_getElem? (i := 17) rfl))) (by decide) (t := .long) (t' := .double) (by decide) (by decide)))).other W19_ (Or.inr (slot_ne (Or.inl (hw _ (List.mem_of_getElem? (i := 15) rfl))) (Or.inl (hw _ (List.mem_of_getElem? (i := 19) rfl))) (by decide) (t := .long) (t' := .double) (by decide) (by decide))))
  have f21_ : Fld Z h19_ o1 "com/example/whipstill/whipstill/RunningVariance" "mean" "D" (.double d9_) := (w11_.other W19_ (Or.inr (slot_ne (Or.inl (hw _ (List.mem_of_getElem? (i := 17) rfl))) (Or.inl (hw _ (List.mem_of_getElem? (i := 19) rfl))) (by decide) (t := .double) (t' := .double) (by decide) (by decide))))
  have k22_ : Keep h0 h2_ [o1] := (Keep.refl h0 [o1]).wr W2_ (Or.inl (List.mem_of_getElem? (i := 0) rfl))
  have k23_ : Keep h0 h11_ [o1] := k22_.wr W11_ (Or.inl (List.mem_of_getElem? (i := 0) rfl))
  have k24_ : Keep h0 h19_ [o1] := k23_.wr W19_ (Or.inl (List.mem_of_getElem? (i := 0) rfl))
  obtain ⟨fs, hr, hrun, hended, hW, hsame⟩ := X19_.leave (v := none) (fun h => by first | rfl | (rw [Bd.returns] at h; cases h))
  refine ⟨_, _, pre0 _ ?_, hrun, hended, _, _, rfl, ?_, ⟨_, rfl⟩, hW, hsame.mono (by exact Nat.le_of_ble_eq_true rfl) (by exact Nat.le_of_ble_eq_true rfl)⟩
  · show Steps p.tables e below (s₁.setTop (mkF m 0 #[.val (.ref o1), .val (.double x1), .second, .unset, .unset] [])) _
    refine XS.aloadN X0.here hx rfl (hb hby d3_0) rfl rfl ?_
    refine XS.dup X0.here hx rfl (hb hby d3_1) rfl rfl ?_
    show Steps p.tables e below (s₁.setTop (mkF m 2 #[.val (.ref o1), .val (.double x1), .second, .unset, .unset] [(.ref o1), (.ref o1)])) _
    refine st1_ _ ?_
    show Steps p.tables e below (T1_.setTop (mkF m 5 #[.val (.ref o1), .val (.double x1), .second, .unset, .unset] [(.long (1 : Int64)), (.ref o1)])) _
    refine XS.lconst X1_.here hx rfl (hb hby d3_5) ?_
    refine XS.ladd X1_.here hx rfl (hb hby d3_6) rfl ?_
    show Steps p.tables e below (T1_.setTop (mkF m 7 #[.val (.ref o1), .val (.double x1), .second, .unset, .unset] [(.long (2 : Int64)), (.ref o1)])) _
    refine st2_ _ ?_
    show Steps p.tables e below (T2_.setTop (mkF m 10 #[.val (.ref o1), .val (.double x1), .second, .unset, .unset] [])) _
    refine XS.dloadN X2_.here hx rfl (hb hby d3_10) rfl ?_
    refine XS.aloadN X2_.here hx rfl (hb hby d3_11) rfl rfl ?_
    refine st4_ _ ?_
    show Steps p.tables e below (T4_.setTop (mkF m 15 #[.val (.ref o1), .val (.double x1), .second, .unset, .unset] [(.double mu), (.double x1)])) _
    refine XS.dsubS X4_.here hx rfl (hb hby d3_15) rfl nn5_ (v := d5_) hd5_ ?_
    show Steps p.tables e below (T4_.setTop (mkF m 16 #[.val (.ref o1), .val (.double x1), .second, .unset, .unset] [(.double d5_)])) _
    refine XS.dstoreN X4_.here hx rfl (hb hby d3_16) rfl (l' := #[.val (.ref o1), .val (.double x1), .second, .val (.double d5_), .second]) rfl ?_
    show Steps p.tables e below (T4_.setTop (mkF m 17 #[.val (.ref o1), .val (.double x1), .second, .val (.double d5_), .second] [])) _
    refine XS.aloadN X4_.here hx rfl (hb hby d3_17) rfl rfl ?_
    refine XS.dup X4_.here hx rfl (hb hby d3_18) rfl rfl ?_
    show Steps p.tables e below (T4_.setTop (mkF m 19 #[.val (.ref o1), .val (.double x1), .second, .val (.double d5_), .second] [(.ref o1), (.ref o1)])) _
    refine st6_ _ ?_
    show Steps p.tables e below (T6_.setTop (mkF m 22 #[.val (.ref o1), .val (.double x1), .second, .val (.double d5_), .second] [(.double mu), (.ref o1)])) _
    refine XS.dloadN X6_.here hx rfl (hb hby d3_22) rfl ?_
    refine XS.aloadN X6_.here hx rfl (hb hby d3_23) rfl rfl ?_
    refine st7_ _ ?_
    show Steps p.tables e below (T7_.setTop (mkF m 27 #[.val (.ref o1), .val (.double x1), .second, .val (.double d5_), .second] [(.long (2 : Int64)), (.double d5_), (.double mu), (.ref o1)])) _
    refine XS.l2dS X7_.here hx rfl (hb hby d3_27) rfl (v := (4611686018427387904 : UInt64)) (by decide +kernel) ?_
    show Steps p.tables e below (T7_.setTop (mkF m 28 #[.val (.ref o1), .val (.double x1), .second, .val (.double d5_), .second] [(.double (4611686018427387904 : UInt64)), (.double d5_), (.double mu), (.ref o1)])) _
    refine XS.ddivS X7_.here hx rfl (hb hby d3_28) rfl nn8_ (v := d8_) hd8_ ?_
    show Steps p.tables e below (T7_.setTop (mkF m 29 #[.val (.ref o1), .val (.double x1), .second, .val (.double d5_), .second] [(.double d8_), (.double mu), (.ref o1)])) _
    refine XS.daddS X7_.here hx rfl (hb hby d3_29) rfl nn9_ (v := d9_) hd9_ ?_
    show Steps p.tables e below (T7_.setTop (mkF m 30 #[.val (.ref o1), .val (.double x1), .second, .val (.double d5_), .second] [(.double d9_), (.ref o1)])) _
    refine st11_ _ ?_
    show Steps p.tables e below (T11_.setTop (mkF m 33 #[.val (.ref o1), .val (.double x1), .second, .val (.double d5_), .second] [])) _
    refine XS.aloadN X11_.here hx rfl (hb hby d3_33) rfl rfl ?_
    refine XS.dup X11_.here hx rfl (hb hby d3_34) rfl rfl ?_
    show Steps p.tables e below (T11_.setTop (mkF m 35 #[.val (.ref o1), .val (.double x1), .second, .val (.double d5_), .second] [(.ref o1), (.ref o1)])) _
    refine st13_ _ ?_
    show Steps p.tables e below (T13_.setTop (mkF m 38 #[.val (.ref o1), .val (.double x1), .second, .val (.double d5_), .second] [(.double sq), (.ref o1)])) _
    refine XS.dloadN X13_.here hx rfl (hb hby d3_38) rfl ?_
    refine XS.dloadN X13_.here hx rfl (hb hby d3_39) rfl ?_
    refine XS.aloadN X13_.here hx rfl (hb hby d3_40) rfl rfl ?_
    refine st14_ _ ?_
    show Steps p.tables e below (T14_.setTop (mkF m 44 #[.val (.ref o1), .val (.double x1), .second, .val (.double d5_), .second] [(.double d9_), (.double x1), (.double d5_), (.double sq), (.ref o1)])) _
    refine XS.dsubS X14_.here hx rfl (hb hby d3_44) rfl nn15_ (v := d15_) hd15_ ?_
    show Steps p.tables e below (T14_.setTop (mkF m 45 #[.val (.ref o1), .val (.double x1), .second, .val (.double d5_), .second] [(.double d15_), (.double d5_), (.double sq), (.ref o1)])) _
    refine XS.dmulS X14_.here hx rfl (hb hby d3_45) rfl nn16_ (v := d16_) hd16_ ?_
    show Steps p.tables e below (T14_.setTop (mkF m 46 #[.val (.ref o1), .val (.double x1), .second, .val (.double d5_), .second] [(.double d16_), (.double sq), (.ref o1)])) _
    refine XS.daddS X14_.here hx rfl (hb hby d3_46) rfl nn17_ (v := d17_) hd17_ ?_
    show Steps p.tables e below (T14_.setTop (mkF m 47 #[.val (.ref o1), .val (.double x1), .second, .val (.double d5_), .second] [(.double d17_), (.ref o1)])) _
    refine st19_ _ ?_
    show Steps p.tables e below (T19_.setTop (mkF m 50 #[.val (.ref o1), .val (.double x1), .second, .val (.double d5_), .second] [])) _
    exact X19_.returnOut hx Bd.returns (hb hby d3_50) hr
  · show Q_rvAdd2 Z o1 x1 ia ib mu sq h0 n0 _ T19_.heap _
    rw [e19_]
    exact ⟨d9_, d17_, rfl, N19_, k24_, f20_, f21_, w19_, p9_, p17_⟩
theorem ef_rvAdd3 (m : MethodId) (x0 : Addr) (x1 : UInt64) : entryFrame m #[(.ref x0), (.double x1)] 5 = mkF m 0 #[.val (.ref x0), .val (.double x1), .second, .unset, .unset] [] := by first | (simp [entryFrame, mkF, argsToLocals, Value.category]; done) | rfl
def Q_rvAdd3 (Z : State) (o1 : Addr) (x1 : UInt64) (ia : Int) (ib : Int) (ic : Int) (im : Int) (mu : UInt64) (sq : UInt64) (h0 : Heap) (n0 : Nat) (v : Option Value) (h : Heap) (L : List Loc) : Prop := ∃ (m2 : UInt64) (s2 : UInt64), v = none ∧ Fr n0 L ∧ Keep h0 h [o1] ∧ (Fld Z h o1 "com/example/whipstill/whipstill/RunningVariance" "count" "J" (.long (3 : Int64))) ∧ (Fld Z h o1 "com/example/whipstill/whipstill/RunningVariance" "mean" "D" (.double m2)) ∧ (Fld Z h o1 "com/example/whipstill/whipstill/RunningVariance" "squares" "D" (.double s2)) ∧ (own_H (2 * im) m2) ∧ (own_H (2 * ((ia - im) * (ia - im) + (ib - im) * (ib - im) + (ic - im) * (ic - im))) s2)
set_option maxRecDepth 65536 in
set_option maxHeartbeats 40000000 in
theorem rvAdd3 (l : Launch) (Z : State) (a0 : Array Value) (hw : ∀ d ∈ tables_1, d.before a0 Z = true) (ws : List Jvm.Cond) (o1 : Addr) (x1 : UInt64) (ia : Int) (ib : Int) (ic : Int) (im : Int) (mu : UInt64) (sq : UInt64) (h0 : Heap) (n0 : Nat) (Z0 : n0 ≤ h0.size) (E1 : Exa Z h0 o1 "com/example/whipstill/whipstill/RunningVariance") (F1 : Fld Z h0 o1 "com/example/whipstill/whipstill/RunningVariance" "count" "J" (.long (2 : Int64))) (F2 : Fld Z h0 o1 "com/example/whipstill/whipstill/RunningVariance" "mean" "D" (.double mu)) (F3 : Fld Z h0 o1 "com/example/whipstill/whipstill/RunningVariance" "squares" "D" (.double sq)) (vx : own_H (2 * ic) x1) (vmu : own_H (ia + ib) mu) (vsq : own_H (((ib - ia) * (ib - ia))) sq) (bnd : -2097160 ≤ ia ∧ ia ≤ 2097160) (bnd2 : -2097160 ≤ ib ∧ ib ≤ 2097160) (bnd3 : -2097160 ≤ ic ∧ ic ≤ 2097160) (hM : ia + ib + ic = 3 * im) (g1 : n0 ≤ o1) :
    MetFree l (⟨"com/example/whipstill/whipstill/RunningVariance", "add", "(D)V"⟩ : MethodName) (head1 (Jvm.Cond.code (⟨"com/example/whipstill/whipstill/RunningVariance", "add", "(D)V"⟩ : MethodName) prog_28_method_3_code 5 none :: ws) ({ frames := 0, cells := 0, slots := 0, locals := 0 } : Room)) (fun a U => a = #[(.ref o1), (.double x1)] ∧ Z.Warmed39 U.vm ∧ U.heap = h0) (fun _ _ _ _ _ => True) (fun _ U o U' => ∃ v L, o = .returned v ∧ Q_rvAdd3 Z o1 x1 ia ib ic im mu sq h0 n0 v U'.heap L ∧ FrameEnd U o U' L ({ frames := 0, cells := 0, slots := 0, locals := 0 } : Room).cells ({ frames := 0, cells := 0, slots := 0, locals := 0 } : Room).slots) := by
  refine MetFree.of_bodySF (plainFor_of_name pn_com_example_whipstill_whipstill_RunningVariance) hisR ?_
  intro p e s m args below meth c s₁ Bd hml0 hP hK
  obtain ⟨rfl, hZ, hh⟩ := hP
  have hx := Bd.exec
  have hby := Bd.bytes
  have hml : c.maxLocals = 5 := hml0
  have hown : s.vm.findClass "com/example/whipstill/whipstill/RunningVariance" = some m.cls := findClass_of_methodNamed Bd.named
  have hnm := (name_of_methodNamed Bd.named Bd.method).1
  have X0 : Stand p l e ({ frames := 0, cells := 0, slots := 0, locals := 0 } : Room) s m #[(.ref o1), (.double x1)] below meth c s₁ [] 0 0 := Stand.of_body Bd
  have e0 : s₁.heap = h0 := by rw [← hh, Bd.state]; rfl
  have N0 := Fr.nil n0
  have pre0 : ∀ t, Steps p.tables e below (s₁.setTop (mkF m 0 #[.val (.ref o1), .val (.double x1), .second, .unset, .unset] [])) t → Steps p.tables e below (s₁.setTop (entryFrame m #[(.ref o1), (.double x1)] 5)) t := fun t k => castTop (ef_rvAdd3 m o1 x1) k
  obtain ⟨T1_, X1_, e1_, st1_⟩ := getF X0 hx hZ hown (host := "") (Or.inl (hw _ (List.mem_of_getElem? (i := 14) rfl))) Via.refl e0 F1 (g := (mkF m 2 #[.val (.ref o1), .val (.double x1), .second, .unset, .unset] [(.ref o1), (.ref o1)])) rfl rfl (hb hby d3_2)
  obtain ⟨T2_, h2_, X2_, e2_, W2_, st2_⟩ := putF X1_ hx hZ hown (host := "") (Or.inl (hw _ (List.mem_of_getElem? (i := 14) rfl))) Via.refl e1_ F1 E1 (Or.inl (hw _ (List.mem_of_getElem? (i := 15) rfl))) (hw _ (List.mem_of_getElem? (i := 1) rfl)) (ty := .long) (by decide) rfl rfl (g := (mkF m 7 #[.val (.ref o1), .val (.double x1), .second, .unset, .unset] [(.long (3 : Int64)), (.ref o1)])) rfl rfl (hb hby d3_7)
  have w2_ : Fld Z h2_ o1 "com/example/whipstill/whipstill/RunningVariance" "count" "J" (.long (3 : Int64)) := F1.same W2_
  have N2_ := Fr.snoc X2_ N0 g1
  have f3_ : Fld Z h2_ o1 "com/example/whipstill/whipstill/RunningVariance" "mean" "D" (.double mu) := (F2.other W2_ (Or.inr (slot_ne (Or.inl (hw _ (List.mem_of_getElem? (i := 17) rfl))) (Or.inl (hw _ (List.mem_of_getElem? (i := 15) rfl))) (by decide) (t := .double) (t' := .long) (by decide) (by decide))))
  obtain ⟨T4_, X4_, e4_, st4_⟩ := getF X2_ hx hZ hown (host := "") (Or.inl (hw _ (List.mem_of_getElem? (i := 16) rfl))) Via.refl e2_ f3_ (g := (mkF m 12 #[.val (.ref o1), .val (.double x1), .second, .unset, .unset] [(.ref o1), (.double x1)])) rfl rfl (hb hby d3_12)
  have p5_ : own_H (3 * (ic - im)) (FP.dsub x1 mu) := (own_Hc (own_H_sub vx vmu (by omega)) (by omega))
  have nn5_ := own_nn p5_
  obtain ⟨d5_, hd5_⟩ : ∃ z, (FP.dsub x1 mu) = z := ⟨_, rfl⟩
  rw [hd5_] at p5_
  obtain ⟨T6_, X6_, e6_, st6_⟩ := getF X4_ hx hZ hown (host := "") (Or.inl (hw _ (List.mem_of_getElem? (i := 16) rfl))) Via.refl e4_ f3_ (g := (mkF m 19 #[.val (.ref o1), .val (.double x1), .second, .val (.double d5_), .second] [(.ref o1), (.ref o1)])) rfl rfl (hb hby d3_19)
  obtain ⟨T7_, X7_, e7_, st7_⟩ := getF X6_ hx hZ hown (host := "") (Or.inl (hw _ (List.mem_of_getElem? (i := 14) rfl))) Via.refl e6_ w2_ (g := (mkF m 24 #[.val (.ref o1), .val (.double x1), .second, .val (.double d5_), .second] [(.ref o1), (.double d5_), (.double mu), (.ref o1)])) rfl rfl (hb hby d3_24)
  have p8_ : own_H (ic - im) (FP.ddiv d5_ (4613937818241073152 : UInt64)) := (own_H_three p5_ (by omega))
  have nn8_ := own_nn p8_
  obtain ⟨d8_, hd8_⟩ : ∃ z, (FP.ddiv d5_ (4613937818241073152 : UInt64)) = z := ⟨_, rfl⟩
  rw [hd8_] at p8_
  have p9_ : own_H (2 * im) (FP.dadd mu d8_) := (own_Hc (own_H_add vmu p8_ (by omega)) (by omega))
  have nn9_ := own_nn p9_
  obtain ⟨d9_, hd9_⟩ : ∃ z, (FP.dadd mu d8_) = z := ⟨_, rfl⟩
  rw [hd9_] at p9_
  have f10_ : Exa Z h2_ o1 "com/example/whipstill/whipstill/RunningVariance" := (E1.wr W2_)
  obtain ⟨T11_, h11_, X11_, e11_, W11_, st11_⟩ := putF X7_ hx hZ hown (host := "") (Or.inl (hw _ (List.mem_of_getElem? (i := 16) rfl))) Via.refl e7_ f3_ f10_ (Or.inl (hw _ (List.mem_of_getElem? (i := 17) rfl))) (hw _ (List.mem_of_getElem? (i := 1) rfl)) (ty := .double) (by decide) rfl rfl (g := (mkF m 30 #[.val (.ref o1), .val (.double x1), .second, .val (.double d5_), .second] [(.double d9_), (.ref o1)])) rfl rfl (hb hby d3_30)
  have w11_ : Fld Z h11_ o1 "com/example/whipstill/whipstill/RunningVariance" "mean" "D" (.double d9_) := f3_.same W11_
  have N11_ := Fr.snoc X11_ N2_ g1
  have f12_ : Fld Z h11_ o1 "com/example/whipstill/whipstill/RunningVariance" "squares" "D" (.double sq) := ((F3.other W2_ (Or.inr (slot_ne (Or.inl (hw _ (List.mem_of_getElem? (i := 19) rfl))) (Or.inl (hw _ (List.mem_of_getElem? (i := 15) rfl))) (by decide) (t := .double) (t' := .long) (by decide) (by decide)))).other W11_ (Or.inr (slot_ne (Or.inl (hw _ (List.mem_of_getElem? (i := 19) rfl))) (Or.inl (hw _ (List.mem_of_getElem? (i := 17) rfl))) (by decide) (t := .double) (t' := .double) (by decide) (by decide))))
  obtain ⟨T13_, X13_, e13_, st13_⟩ := getF X11_ hx hZ hown (host := "") (Or.inl (hw _ (List.mem_of_getElem? (i := 18) rfl))) Via.refl e11_ f12_ (g := (mkF m 35 #[.val (.ref o1), .val (.double x1), .second, .val (.double d5_), .second] [(.ref o1), (.ref o1)])) rfl rfl (hb hby d3_35)
  obtain ⟨T14_, X14_, e14_, st14_⟩ := getF X13_ hx hZ hown (host := "") (Or.inl (hw _ (List.mem_of_getElem? (i := 16) rfl))) Via.refl e13_ w11_ (g := (mkF m 41 #[.val (.ref o1), .val (.double x1), .second, .val (.double d5_), .second] [(.ref o1), (.double x1), (.double d5_), (.double sq), (.ref o1)])) rfl rfl (hb hby d3_41)
  have p15_ : own_H (2 * (ic - im)) (FP.dsub x1 d9_) := (own_Hc (own_H_sub vx p9_ (by omega)) (by omega))
  have nn15_ := own_nn p15_
  obtain ⟨d15_, hd15_⟩ : ∃ z, (FP.dsub x1 d9_) = z := ⟨_, rfl⟩
  rw [hd15_] at p15_
  have p16_ : own_H (3 * (ic - im) * (ic - im)) (FP.dmul d5_ d15_) := (own_Hm p5_ p15_ (own_mb 33554432 16777216 _ (by omega) (by omega) (by decide)))
  have nn16_ := own_nn p16_
  obtain ⟨d16_, hd16_⟩ : ∃ z, (FP.dmul d5_ d15_) = z := ⟨_, rfl⟩
  rw [hd16_] at p16_
  have p17_ : own_H (2 * ((ia - im) * (ia - im) + (ib - im) * (ib - im) + (ic - im) * (ic - im))) (FP.dadd sq d16_) := (own_Hc (own_H_add vsq p16_ (by have q1_ := own_mb (x := ib - ia) (y := ib - ia) 8388608 8388608 70368744177664 (by omega) (by omega) (by decide); have q2_ := own_mb (x := 3 * (ic - im)) (y := ic - im) 33554432 16777216 562949953421312 (by omega) (by omega) (by decide); omega)) (own_var ia ib ic im hM))
  have nn17_ := own_nn p17_
  obtain ⟨d17_, hd17_⟩ : ∃ z, (FP.dadd sq d16_) = z := ⟨_, rfl⟩
  rw [hd17_] at p17_
  have f18_ : Exa Z h11_ o1 "com/example/whipstill/whipstill/RunningVariance" := (f10_.wr W11_)
  obtain ⟨T19_, h19_, X19_, e19_, W19_, st19_⟩ := putF X14_ hx hZ hown (host := "") (Or.inl (hw _ (List.mem_of_getElem? (i := 18) rfl))) Via.refl e14_ f12_ f18_ (Or.inl (hw _ (List.mem_of_getElem? (i := 19) rfl))) (hw _ (List.mem_of_getElem? (i := 1) rfl)) (ty := .double) (by decide) rfl rfl (g := (mkF m 47 #[.val (.ref o1), .val (.double x1), .second, .val (.double d5_), .second] [(.double d17_), (.ref o1)])) rfl rfl (hb hby d3_47)
  have w19_ : Fld Z h19_ o1 "com/example/whipstill/whipstill/RunningVariance" "squares" "D" (.double d17_) := f12_.same W19_
  have N19_ := Fr.snoc X19_ N11_ g1
  have f20_ : Fld Z h19_ o1 "com/example/whipstill/whipstill/RunningVariance" "count" "J" (.long (3 : Int64)) := ((w2_.other W11_ (Or.inr (slot_ne (Or.inl (hw _ (List.mem_of_getElem? (i := 15) rfl))) (Or.inl (hw _ (List.mem_of_getElem? (i := 17) rfl))) (by decide) (t := .long) (t' := .double) (by decide) (by decide)))).other W19_ (Or.inr (slot_ne (Or.inl (hw _ (List.mem_of_getElem? (i := 15) rfl))) (Or.inl (hw _ (List.mem_of_getElem? (i := 19) rfl))) (by decide) (t := .long) (t' := .double) (by decide) (by decide))))
  have f21_ : Fld Z h19_ o1 "com/example/whipstill/whipstill/RunningVariance" "mean" "D" (.double d9_) := (w11_.other W19_ (Or.inr (slot_ne (Or.inl (hw _ (List.mem_of_getElem? (i := 17) rfl))) (Or.inl (hw _ (List.mem_of_getElem? (i := 19) rfl))) (by decide) (t := .double) (t' := .double) (by decide) (by decide))))
  have k22_ : Keep h0 h2_ [o1] := (Keep.refl h0 [o1]).wr W2_ (Or.inl (List.mem_of_getElem? (i := 0) rfl))
  have k23_ : Keep h0 h11_ [o1] := k22_.wr W11_ (Or.inl (List.mem_of_getElem? (i := 0) rfl))
  have k24_ : Keep h0 h19_ [o1] := k23_.wr W19_ (Or.inl (List.mem_of_getElem? (i := 0) rfl))
  obtain ⟨fs, hr, hrun, hended, hW, hsame⟩ := X19_.leave (v := none) (fun h => by first | rfl | (rw [Bd.returns] at h; cases h))
  refine ⟨_, _, pre0 _ ?_, hrun, hended, _, _, rfl, ?_, ⟨_, rfl⟩, hW, hsame.mono (by exact Nat.le_of_ble_eq_true rfl) (by exact Nat.le_of_ble_eq_true rfl)⟩
  · show Steps p.tables e below (s₁.setTop (mkF m 0 #[.val (.ref o1), .val (.double x1), .second, .unset, .unset] [])) _
    refine XS.aloadN X0.here hx rfl (hb hby d3_0) rfl rfl ?_
    refine XS.dup X0.here hx rfl (hb hby d3_1) rfl rfl ?_
    show Steps p.tables e below (s₁.setTop (mkF m 2 #[.val (.ref o1), .val (.double x1), .second, .unset, .unset] [(.ref o1), (.ref o1)])) _
    refine st1_ _ ?_
    show Steps p.tables e below (T1_.setTop (mkF m 5 #[.val (.ref o1), .val (.double x1), .second, .unset, .unset] [(.long (2 : Int64)), (.ref o1)])) _
    refine XS.lconst X1_.here hx rfl (hb hby d3_5) ?_
    refine XS.ladd X1_.here hx rfl (hb hby d3_6) rfl ?_
    show Steps p.tables e below (T1_.setTop (mkF m 7 #[.val (.ref o1), .val (.double x1), .second, .unset, .unset] [(.long (3 : Int64)), (.ref o1)])) _
    refine st2_ _ ?_
    show Steps p.tables e below (T2_.setTop (mkF m 10 #[.val (.ref o1), .val (.double x1), .second, .unset, .unset] [])) _
    refine XS.dloadN X2_.here hx rfl (hb hby d3_10) rfl ?_
    refine XS.aloadN X2_.here hx rfl (hb hby d3_11) rfl rfl ?_
    refine st4_ _ ?_
    show Steps p.tables e below (T4_.setTop (mkF m 15 #[.val (.ref o1), .val (.double x1), .second, .unset, .unset] [(.double mu), (.double x1)])) _
    refine XS.dsubS X4_.here hx rfl (hb hby d3_15) rfl nn5_ (v := d5_) hd5_ ?_
    show Steps p.tables e below (T4_.setTop (mkF m 16 #[.val (.ref o1), .val (.double x1), .second, .unset, .unset] [(.double d5_)])) _
    refine XS.dstoreN X4_.here hx rfl (hb hby d3_16) rfl (l' := #[.val (.ref o1), .val (.double x1), .second, .val (.double d5_), .second]) rfl ?_
    show Steps p.tables e below (T4_.setTop (mkF m 17 #[.val (.ref o1), .val (.double x1), .second, .val (.double d5_), .second] [])) _
    refine XS.aloadN X4_.here hx rfl (hb hby d3_17) rfl rfl ?_
    refine XS.dup X4_.here hx rfl (hb hby d3_18) rfl rfl ?_
    show Steps p.tables e below (T4_.setTop (mkF m 19 #[.val (.ref o1), .val (.double x1), .second, .val (.double d5_), .second] [(.ref o1), (.ref o1)])) _
    refine st6_ _ ?_
    show Steps p.tables e below (T6_.setTop (mkF m 22 #[.val (.ref o1), .val (.double x1), .second, .val (.double d5_), .second] [(.double mu), (.ref o1)])) _
    refine XS.dloadN X6_.here hx rfl (hb hby d3_22) rfl ?_
    refine XS.aloadN X6_.here hx rfl (hb hby d3_23) rfl rfl ?_
    refine st7_ _ ?_
    show Steps p.tables e below (T7_.setTop (mkF m 27 #[.val (.ref o1), .val (.double x1), .second, .val (.double d5_), .second] [(.long (3 : Int64)), (.double d5_), (.double mu), (.ref o1)])) _
    refine XS.l2dS X7_.here hx rfl (hb hby d3_27) rfl (v := (4613937818241073152 : UInt64)) (by decide +kernel) ?_
    show Steps p.tables e below (T7_.setTop (mkF m 28 #[.val (.ref o1), .val (.double x1), .second, .val (.double d5_), .second] [(.double (4613937818241073152 : UInt64)), (.double d5_), (.double mu), (.ref o1)])) _
    refine XS.ddivS X7_.here hx rfl (hb hby d3_28) rfl nn8_ (v := d8_) hd8_ ?_
    show Steps p.tables e below (T7_.setTop (mkF m 29 #[.val (.ref o1), .val (.double x1), .second, .val (.double d5_), .second] [(.double d8_), (.double mu), (.ref o1)])) _
    refine XS.daddS X7_.here hx rfl (hb hby d3_29) rfl nn9_ (v := d9_) hd9_ ?_
    show Steps p.tables e below (T7_.setTop (mkF m 30 #[.val (.ref o1), .val (.double x1), .second, .val (.double d5_), .second] [(.double d9_), (.ref o1)])) _
    refine st11_ _ ?_
    show Steps p.tables e below (T11_.setTop (mkF m 33 #[.val (.ref o1), .val (.double x1), .second, .val (.double d5_), .second] [])) _
    refine XS.aloadN X11_.here hx rfl (hb hby d3_33) rfl rfl ?_
    refine XS.dup X11_.here hx rfl (hb hby d3_34) rfl rfl ?_
    show Steps p.tables e below (T11_.setTop (mkF m 35 #[.val (.ref o1), .val (.double x1), .second, .val (.double d5_), .second] [(.ref o1), (.ref o1)])) _
    refine st13_ _ ?_
    show Steps p.tables e below (T13_.setTop (mkF m 38 #[.val (.ref o1), .val (.double x1), .second, .val (.double d5_), .second] [(.double sq), (.ref o1)])) _
    refine XS.dloadN X13_.here hx rfl (hb hby d3_38) rfl ?_
    refine XS.dloadN X13_.here hx rfl (hb hby d3_39) rfl ?_
    refine XS.aloadN X13_.here hx rfl (hb hby d3_40) rfl rfl ?_
    refine st14_ _ ?_
    show Steps p.tables e below (T14_.setTop (mkF m 44 #[.val (.ref o1), .val (.double x1), .second, .val (.double d5_), .second] [(.double d9_), (.double x1), (.double d5_), (.double sq), (.ref o1)])) _
    refine XS.dsubS X14_.here hx rfl (hb hby d3_44) rfl nn15_ (v := d15_) hd15_ ?_
    show Steps p.tables e below (T14_.setTop (mkF m 45 #[.val (.ref o1), .val (.double x1), .second, .val (.double d5_), .second] [(.double d15_), (.double d5_), (.double sq), (.ref o1)])) _
    refine XS.dmulS X14_.here hx rfl (hb hby d3_45) rfl nn16_ (v := d16_) hd16_ ?_
    show Steps p.tables e below (T14_.setTop (mkF m 46 #[.val (.ref o1), .val (.double x1), .second, .val (.double d5_), .second] [(.double d16_), (.double sq), (.ref o1)])) _
    refine XS.daddS X14_.here hx rfl (hb hby d3_46) rfl nn17_ (v := d17_) hd17_ ?_
    show Steps p.tables e below (T14_.setTop (mkF m 47 #[.val (.ref o1), .val (.double x1), .second, .val (.double d5_), .second] [(.double d17_), (.ref o1)])) _
    refine st19_ _ ?_
    show Steps p.tables e below (T19_.setTop (mkF m 50 #[.val (.ref o1), .val (.double x1), .second, .val (.double d5_), .second] [])) _
    exact X19_.returnOut hx Bd.returns (hb hby d3_50) hr
  · show Q_rvAdd3 Z o1 x1 ia ib ic im mu sq h0 n0 _ T19_.heap _
    rw [e19_]
    exact ⟨d9_, d17_, rfl, N19_, k24_, f20_, f21_, w19_, p9_, p17_⟩
theorem d4_0 : decode prog_28_method_4_code 0 = .ok (.aload_n 0, 1) := by decide +kernel
theorem d4_1 : decode prog_28_method_4_code 1 = .ok (.getfield 36, 3) := by decide +kernel
theorem d4_4 : decode prog_28_method_4_code 4 = .ok (.lconst 0, 1) := by decide +kernel
theorem d4_5 : decode prog_28_method_4_code 5 = .ok (.lcmp, 1) := by decide +kernel
theorem d4_6 : decode prog_28_method_4_code 6 = .ok (.ifCond .ne 9, 3) := by decide +kernel
theorem d4_15 : decode prog_28_method_4_code 15 = .ok (.aload_n 0, 1) := by decide +kernel
theorem d4_16 : decode prog_28_method_4_code 16 = .ok (.getfield 40, 3) := by decide +kernel
theorem d4_19 : decode prog_28_method_4_code 19 = .ok (.dreturn, 1) := by decide +kernel
theorem ef_rvMean1 (m : MethodId) (x0 : Addr) : entryFrame m #[(.ref x0)] 1 = mkF m 0 #[.val (.ref x0)] [] := by first | (simp [entryFrame, mkF, argsToLocals, Value.category]; done) | rfl
def Q_rvMean1 (Z : State) (o1 : Addr) (mu : UInt64) (h0 : Heap) (n0 : Nat) (v : Option Value) (h : Heap) (L : List Loc) : Prop := v = some (.double mu) ∧ Fr n0 L ∧ h = h0
set_option maxRecDepth 65536 in
set_option maxHeartbeats 40000000 in
theorem rvMean1 (l : Launch) (Z : State) (a0 : Array Value) (hw : ∀ d ∈ tables_1, d.before a0 Z = true) (ws : List Jvm.Cond) (o1 : Addr) (mu : UInt64) (h0 : Heap) (n0 : Nat) (Z0 : n0 ≤ h0.size) (F1 : Fld Z h0 o1 "com/example/whipstill/whipstill/RunningVariance" "count" "J" (.long (1 : Int64))) (F2 : Fld Z h0 o1 "com/example/whipstill/whipstill/RunningVariance" "mean" "D" (.double mu)) :
    MetFree l (⟨"com/example/whipstill/whipstill/RunningVariance", "mean", "()D"⟩ : MethodName) (head1 (Jvm.Cond.code (⟨"com/example/whipstill/whipstill/RunningVariance", "mean", "()D"⟩ : MethodName) prog_28_method_4_code 1 (some .double) :: ws) ({ frames := 0, cells := 0, slots := 0, locals := 0 } : Room)) (fun a U => a = #[(.ref o1)] ∧ Z.Warmed39 U.vm ∧ U.heap = h0) (fun _ _ _ _ _ => True) (fun _ U o U' => ∃ v L, o = .returned v ∧ Q_rvMean1 Z o1 mu h0 n0 v U'.heap L ∧ FrameEnd U o U' L ({ frames := 0, cells := 0, slots := 0, locals := 0 } : Room).cells ({ frames := 0, cells := 0, slots := 0, locals := 0 } : Room).slots) := by
  refine MetFree.of_bodySF (plainFor_of_name pn_com_example_whipstill_whipstill_RunningVariance) hisR ?_
  intro p e s m args below meth c s₁ Bd hml0 hP hK
  obtain ⟨rfl, hZ, hh⟩ := hP
  have hx := Bd.exec
  have hby := Bd.bytes
  have hml : c.maxLocals = 1 := hml0
  have hown : s.vm.findClass "com/example/whipstill/whipstill/RunningVariance" = some m.cls := findClass_of_methodNamed Bd.named
  have hnm := (name_of_methodNamed Bd.named Bd.method).1
  have X0 : Stand p l e ({ frames := 0, cells := 0, slots := 0, locals := 0 } : Room) s m #[(.ref o1)] below meth c s₁ [] 0 0 := Stand.of_body Bd
  have e0 : s₁.heap = h0 := by rw [← hh, Bd.state]; rfl
  have N0 := Fr.nil n0
  have pre0 : ∀ t, Steps p.tables e below (s₁.setTop (mkF m 0 #[.val (.ref o1)] [])) t → Steps p.tables e below (s₁.setTop (entryFrame m #[(.ref o1)] 1)) t := fun t k => castTop (ef_rvMean1 m o1) k
  obtain ⟨T1_, X1_, e1_, st1_⟩ := getF X0 hx hZ hown (host := "") (Or.inl (hw _ (List.mem_of_getElem? (i := 14) rfl))) Via.refl e0 F1 (g := (mkF m 1 #[.val (.ref o1)] [(.ref o1)])) rfl rfl (hb hby d4_1)
  obtain ⟨T2_, X2_, e2_, st2_⟩ := getF X1_ hx hZ hown (host := "") (Or.inl (hw _ (List.mem_of_getElem? (i := 16) rfl))) Via.refl e1_ F2 (g := (mkF m 16 #[.val (.ref o1)] [(.ref o1)])) rfl rfl (hb hby d4_16)
  obtain ⟨fs, hr, hrun, hended, hW, hsame⟩ := X2_.leave (v := some (.double mu)) (fun h => by first | rfl | (rw [Bd.returns] at h; cases h))
  refine ⟨_, _, pre0 _ ?_, hrun, hended, _, _, rfl, ?_, ⟨_, rfl⟩, hW, hsame.mono (by exact Nat.le_of_ble_eq_true rfl) (by exact Nat.le_of_ble_eq_true rfl)⟩
  · show Steps p.tables e below (s₁.setTop (mkF m 0 #[.val (.ref o1)] [])) _
    refine XS.aloadN X0.here hx rfl (hb hby d4_0) rfl rfl ?_
    refine st1_ _ ?_
    show Steps p.tables e below (T1_.setTop (mkF m 4 #[.val (.ref o1)] [(.long (1 : Int64))])) _
    refine XS.lconst X1_.here hx rfl (hb hby d4_4) ?_
    refine XS.lcmp X1_.here hx rfl (hb hby d4_5) rfl ?_
    show Steps p.tables e below (T1_.setTop (mkF m 6 #[.val (.ref o1)] [(.int (lcmpW (1 : Int64) (0 : Int64)))])) _
    refine XS.ifYes X1_.here hx rfl (pc0 := 6) (pc' := 15) rfl (hb hby d4_6) rfl ((if0 _ _).trans (feq ((by decide) : ¬ ((lcmpW (1 : Int64) (0 : Int64)) = (0 : Int32)))).2) (by decide) (by decide) ?_
    show Steps p.tables e below (T1_.setTop (mkF m 15 #[.val (.ref o1)] [])) _
    refine XS.aloadN X1_.here hx rfl (hb hby d4_15) rfl rfl ?_
    refine st2_ _ ?_
    show Steps p.tables e below (T2_.setTop (mkF m 19 #[.val (.ref o1)] [(.double mu)])) _
    exact retD X2_ hx Bd.returns (hb hby d4_19) hr
  · show Q_rvMean1 Z o1 mu h0 n0 _ T2_.heap _
    rw [e2_]
    exact ⟨rfl, N0, rfl⟩
theorem d5_0 : decode prog_28_method_5_code 0 = .ok (.aload_n 0, 1) := by decide +kernel
theorem d5_1 : decode prog_28_method_5_code 1 = .ok (.getfield 36, 3) := by decide +kernel
theorem d5_4 : decode prog_28_method_5_code 4 = .ok (.ldc2_w 51, 3) := by decide +kernel
theorem d5_7 : decode prog_28_method_5_code 7 = .ok (.lcmp, 1) := by decide +kernel
theorem d5_8 : decode prog_28_method_5_code 8 = .ok (.ifCond .ge 9, 3) := by decide +kernel
theorem d5_11 : decode prog_28_method_5_code 11 = .ok (.ldc2_w 49, 3) := by decide +kernel
theorem d5_14 : decode prog_28_method_5_code 14 = .ok (.goto 15, 3) := by decide +kernel
theorem d5_29 : decode prog_28_method_5_code 29 = .ok (.dreturn, 1) := by decide +kernel
theorem ef_rvVar1 (m : MethodId) (x0 : Addr) : entryFrame m #[(.ref x0)] 1 = mkF m 0 #[.val (.ref x0)] [] := by first | (simp [entryFrame, mkF, argsToLocals, Value.category]; done) | rfl
def Q_rvVar1 (Z : State) (o1 : Addr) (h0 : Heap) (n0 : Nat) (v : Option Value) (h : Heap) (L : List Loc) : Prop := v = some (.double (9221120237041090560 : UInt64)) ∧ Fr n0 L ∧ h = h0
set_option maxRecDepth 65536 in
set_option maxHeartbeats 40000000 in
theorem rvVar1 (l : Launch) (Z : State) (a0 : Array Value) (hw : ∀ d ∈ tables_1, d.before a0 Z = true) (ws : List Jvm.Cond) (o1 : Addr) (h0 : Heap) (n0 : Nat) (Z0 : n0 ≤ h0.size) (F1 : Fld Z h0 o1 "com/example/whipstill/whipstill/RunningVariance" "count" "J" (.long (1 : Int64))) :
    MetFree l (⟨"com/example/whipstill/whipstill/RunningVariance", "sampleVariance", "()D"⟩ : MethodName) (head1 (Jvm.Cond.code (⟨"com/example/whipstill/whipstill/RunningVariance", "sampleVariance", "()D"⟩ : MethodName) prog_28_method_5_code 1 (some .double) :: ws) ({ frames := 0, cells := 0, slots := 0, locals := 0 } : Room)) (fun a U => a = #[(.ref o1)] ∧ Z.Warmed39 U.vm ∧ U.heap = h0) (fun _ _ _ _ _ => True) (fun _ U o U' => ∃ v L, o = .returned v ∧ Q_rvVar1 Z o1 h0 n0 v U'.heap L ∧ FrameEnd U o U' L ({ frames := 0, cells := 0, slots := 0, locals := 0 } : Room).cells ({ frames := 0, cells := 0, slots := 0, locals := 0 } : Room).slots) := by
  refine MetFree.of_bodySF (plainFor_of_name pn_com_example_whipstill_whipstill_RunningVariance) hisR ?_
  intro p e s m args below meth c s₁ Bd hml0 hP hK
  obtain ⟨rfl, hZ, hh⟩ := hP
  have hx := Bd.exec
  have hby := Bd.bytes
  have hml : c.maxLocals = 1 := hml0
  have hown : s.vm.findClass "com/example/whipstill/whipstill/RunningVariance" = some m.cls := findClass_of_methodNamed Bd.named
  have hnm := (name_of_methodNamed Bd.named Bd.method).1
  have X0 : Stand p l e ({ frames := 0, cells := 0, slots := 0, locals := 0 } : Room) s m #[(.ref o1)] below meth c s₁ [] 0 0 := Stand.of_body Bd
  have e0 : s₁.heap = h0 := by rw [← hh, Bd.state]; rfl
  have N0 := Fr.nil n0
  have pre0 : ∀ t, Steps p.tables e below (s₁.setTop (mkF m 0 #[.val (.ref o1)] [])) t → Steps p.tables e below (s₁.setTop (entryFrame m #[(.ref o1)] 1)) t := fun t k => castTop (ef_rvVar1 m o1) k
  obtain ⟨T1_, X1_, e1_, st1_⟩ := getF X0 hx hZ hown (host := "") (Or.inl (hw _ (List.mem_of_getElem? (i := 14) rfl))) Via.refl e0 F1 (g := (mkF m 1 #[.val (.ref o1)] [(.ref o1)])) rfl rfl (hb hby d5_1)
  obtain ⟨fs, hr, hrun, hended, hW, hsame⟩ := X1_.leave (v := some (.double (9221120237041090560 : UInt64))) (fun h => by first | rfl | (rw [Bd.returns] at h; cases h))
  refine ⟨_, _, pre0 _ ?_, hrun, hended, _, _, rfl, ?_, ⟨_, rfl⟩, hW, hsame.mono (by exact Nat.le_of_ble_eq_true rfl) (by exact Nat.le_of_ble_eq_true rfl)⟩
  · show Steps p.tables e below (s₁.setTop (mkF m 0 #[.val (.ref o1)] [])) _
    refine XS.aloadN X0.here hx rfl (hb hby d5_0) rfl rfl ?_
    refine st1_ _ ?_
    show Steps p.tables e below (T1_.setTop (mkF m 4 #[.val (.ref o1)] [(.long (1 : Int64))])) _
    refine X1_.ldc2Long hx hown (mvT hZ (hw _ (List.mem_of_getElem? (i := 30) rfl))) (g := (mkF m 4 #[.val (.ref o1)] [(.long (1 : Int64))])) rfl (hb hby d5_4) _ ?_
    show Steps p.tables e below (T1_.setTop (mkF m 7 #[.val (.ref o1)] [(.long (2 : Int64)), (.long (1 : Int64))])) _
    refine XS.lcmp X1_.here hx rfl (hb hby d5_7) rfl ?_
    show Steps p.tables e below (T1_.setTop (mkF m 8 #[.val (.ref o1)] [(.int (lcmpW (1 : Int64) (2 : Int64)))])) _
    refine XS.ifNo X1_.here hx rfl (hb hby d5_8) rfl ((if0 _ _).trans (tlt ((by decide) : (lcmpW (1 : Int64) (2 : Int64)) < (0 : Int32))).2.1) ?_
    show Steps p.tables e below (T1_.setTop (mkF m 11 #[.val (.ref o1)] [])) _
    refine X1_.ldc2DoubleC hx hown (mvT hZ (hw _ (List.mem_of_getElem? (i := 31) rfl))) (g := (mkF m 11 #[.val (.ref o1)] [])) rfl (hb hby d5_11) _ ?_
    show Steps p.tables e below (T1_.setTop (mkF m 14 #[.val (.ref o1)] [(.double (9221120237041090560 : UInt64))])) _
    refine XS.goto X1_.here hx rfl (pc0 := 14) (pc' := 29) rfl (hb hby d5_14) (by decide) (by decide) ?_
    show Steps p.tables e below (T1_.setTop (mkF m 29 #[.val (.ref o1)] [(.double (9221120237041090560 : UInt64))])) _
    exact retD X1_ hx Bd.returns (hb hby d5_29) hr
  · show Q_rvVar1 Z o1 h0 n0 _ T1_.heap _
    rw [e1_]
    exact ⟨rfl, N0, rfl⟩
theorem ef_rvMean2 (m : MethodId) (x0 : Addr) : entryFrame m #[(.ref x0)] 1 = mkF m 0 #[.val (.ref x0)] [] := by first | (simp [entryFrame, mkF, argsToLocals, Value.category]; done) | rfl
def Q_rvMean2 (Z : State) (o1 : Addr) (mu : UInt64) (h0 : Heap) (n0 : Nat) (v : Option Value) (h : Heap) (L : List Loc) : Prop := v = some (.double mu) ∧ Fr n0 L ∧ h = h0
set_option maxRecDepth 65536 in
set_option maxHeartbeats 40000000 in
theorem rvMean2 (l : Launch) (Z : State) (a0 : Array Value) (hw : ∀ d ∈ tables_1, d.before a0 Z = true) (ws : List Jvm.Cond) (o1 : Addr) (mu : UInt64) (h0 : Heap) (n0 : Nat) (Z0 : n0 ≤ h0.size) (F1 : Fld Z h0 o1 "com/example/whipstill/whipstill/RunningVariance" "count" "J" (.long (2 : Int64))) (F2 : Fld Z h0 o1 "com/example/whipstill/whipstill/RunningVariance" "mean" "D" (.double mu)) :
    MetFree l (⟨"com/example/whipstill/whipstill/RunningVariance", "mean", "()D"⟩ : MethodName) (head1 (Jvm.Cond.code (⟨"com/example/whipstill/whipstill/RunningVariance", "mean", "()D"⟩ : MethodName) prog_28_method_4_code 1 (some .double) :: ws) ({ frames := 0, cells := 0, slots := 0, locals := 0 } : Room)) (fun a U => a = #[(.ref o1)] ∧ Z.Warmed39 U.vm ∧ U.heap = h0) (fun _ _ _ _ _ => True) (fun _ U o U' => ∃ v L, o = .returned v ∧ Q_rvMean2 Z o1 mu h0 n0 v U'.heap L ∧ FrameEnd U o U' L ({ frames := 0, cells := 0, slots := 0, locals := 0 } : Room).cells ({ frames := 0, cells := 0, slots := 0, locals := 0 } : Room).slots) := by
  refine MetFree.of_bodySF (plainFor_of_name pn_com_example_whipstill_whipstill_RunningVariance) hisR ?_
  intro p e s m args below meth c s₁ Bd hml0 hP hK
  obtain ⟨rfl, hZ, hh⟩ := hP
  have hx := Bd.exec
  have hby := Bd.bytes
  have hml : c.maxLocals = 1 := hml0
  have hown : s.vm.findClass "com/example/whipstill/whipstill/RunningVariance" = some m.cls := findClass_of_methodNamed Bd.named
  have hnm := (name_of_methodNamed Bd.named Bd.method).1
  have X0 : Stand p l e ({ frames := 0, cells := 0, slots := 0, locals := 0 } : Room) s m #[(.ref o1)] below meth c s₁ [] 0 0 := Stand.of_body Bd
  have e0 : s₁.heap = h0 := by rw [← hh, Bd.state]; rfl
  have N0 := Fr.nil n0
  have pre0 : ∀ t, Steps p.tables e below (s₁.setTop (mkF m 0 #[.val (.ref o1)] [])) t → Steps p.tables e below (s₁.setTop (entryFrame m #[(.ref o1)] 1)) t := fun t k => castTop (ef_rvMean2 m o1) k
  obtain ⟨T1_, X1_, e1_, st1_⟩ := getF X0 hx hZ hown (host := "") (Or.inl (hw _ (List.mem_of_getElem? (i := 14) rfl))) Via.refl e0 F1 (g := (mkF m 1 #[.val (.ref o1)] [(.ref o1)])) rfl rfl (hb hby d4_1)
  obtain ⟨T2_, X2_, e2_, st2_⟩ := getF X1_ hx hZ hown (host := "") (Or.inl (hw _ (List.mem_of_getElem? (i := 16) rfl))) Via.refl e1_ F2 (g := (mkF m 16 #[.val (.ref o1)] [(.ref o1)])) rfl rfl (hb hby d4_16)
  obtain ⟨fs, hr, hrun, hended, hW, hsame⟩ := X2_.leave (v := some (.double mu)) (fun h => by first | rfl | (rw [Bd.returns] at h; cases h))
  refine ⟨_, _, pre0 _ ?_, hrun, hended, _, _, rfl, ?_, ⟨_, rfl⟩, hW, hsame.mono (by exact Nat.le_of_ble_eq_true rfl) (by exact Nat.le_of_ble_eq_true rfl)⟩
  · show Steps p.tables e below (s₁.setTop (mkF m 0 #[.val (.ref o1)] [])) _
    refine XS.aloadN X0.here hx rfl (hb hby d4_0) rfl rfl ?_
    refine st1_ _ ?_
    show Steps p.tables e below (T1_.setTop (mkF m 4 #[.val (.ref o1)] [(.long (2 : Int64))])) _
    refine XS.lconst X1_.here hx rfl (hb hby d4_4) ?_
    refine XS.lcmp X1_.here hx rfl (hb hby d4_5) rfl ?_
    show Steps p.tables e below (T1_.setTop (mkF m 6 #[.val (.ref o1)] [(.int (lcmpW (2 : Int64) (0 : Int64)))])) _
    refine XS.ifYes X1_.here hx rfl (pc0 := 6) (pc' := 15) rfl (hb hby d4_6) rfl ((if0 _ _).trans (feq ((by decide) : ¬ ((lcmpW (2 : Int64) (0 : Int64)) = (0 : Int32)))).2) (by decide) (by decide) ?_
    show Steps p.tables e below (T1_.setTop (mkF m 15 #[.val (.ref o1)] [])) _
    refine XS.aloadN X1_.here hx rfl (hb hby d4_15) rfl rfl ?_
    refine st2_ _ ?_
    show Steps p.tables e below (T2_.setTop (mkF m 19 #[.val (.ref o1)] [(.double mu)])) _
    exact retD X2_ hx Bd.returns (hb hby d4_19) hr
  · show Q_rvMean2 Z o1 mu h0 n0 _ T2_.heap _
    rw [e2_]
    exact ⟨rfl, N0, rfl⟩
theorem d5_17 : decode prog_28_method_5_code 17 = .ok (.aload_n 0, 1) := by decide +kernel
theorem d5_18 : decode prog_28_method_5_code 18 = .ok (.getfield 44, 3) := by decide +kernel
theorem d5_21 : decode prog_28_method_5_code 21 = .ok (.aload_n 0, 1) := by decide +kernel
theorem d5_22 : decode prog_28_method_5_code 22 = .ok (.getfield 36, 3) := by decide +kernel
theorem d5_25 : decode prog_28_method_5_code 25 = .ok (.lconst 1, 1) := by decide +kernel
theorem d5_26 : decode prog_28_method_5_code 26 = .ok (.lsub, 1) := by decide +kernel
theorem d5_27 : decode prog_28_method_5_code 27 = .ok (.l2d, 1) := by decide +kernel
theorem d5_28 : decode prog_28_method_5_code 28 = .ok (.ddiv, 1) := by decide +kernel
theorem ef_rvVar2 (m : MethodId) (x0 : Addr) : entryFrame m #[(.ref x0)] 1 = mkF m 0 #[.val (.ref x0)] [] := by first | (simp [entryFrame, mkF, argsToLocals, Value.category]; done) | rfl
def Q_rvVar2 (Z : State) (o1 : Addr) (s1 : UInt64) (ee : Int) (h0 : Heap) (n0 : Nat) (v : Option Value) (h : Heap) (L : List Loc) : Prop := ∃ (rr : UInt64), v = some (.double rr) ∧ Fr n0 L ∧ h = h0 ∧ (own_H (ee) rr)
set_option maxRecDepth 65536 in
set_option maxHeartbeats 40000000 in
theorem rvVar2 (l : Launch) (Z : State) (a0 : Array Value) (hw : ∀ d ∈ tables_1, d.before a0 Z = true) (ws : List Jvm.Cond) (o1 : Addr) (s1 : UInt64) (ee : Int) (h0 : Heap) (n0 : Nat) (Z0 : n0 ≤ h0.size) (F1 : Fld Z h0 o1 "com/example/whipstill/whipstill/RunningVariance" "count" "J" (.long (2 : Int64))) (F2 : Fld Z h0 o1 "com/example/whipstill/whipstill/RunningVariance" "squares" "D" (.double s1)) (vsq : own_H (ee) s1) :
    MetFree l (⟨"com/example/whipstill/whipstill/RunningVariance", "sampleVariance", "()D"⟩ : MethodName) (head1 (Jvm.Cond.code (⟨"com/example/whipstill/whipstill/RunningVariance", "sampleVariance", "()D"⟩ : MethodName) prog_28_method_5_code 1 (some .double) :: ws) ({ frames := 0, cells := 0, slots := 0, locals := 0 } : Room)) (fun a U => a = #[(.ref o1)] ∧ Z.Warmed39 U.vm ∧ U.heap = h0) (fun _ _ _ _ _ => True) (fun _ U o U' => ∃ v L, o = .returned v ∧ Q_rvVar2 Z o1 s1 ee h0 n0 v U'.heap L ∧ FrameEnd U o U' L ({ frames := 0, cells := 0, slots := 0, locals := 0 } : Room).cells ({ frames := 0, cells := 0, slots := 0, locals := 0 } : Room).slots) := by
  refine MetFree.of_bodySF (plainFor_of_name pn_com_example_whipstill_whipstill_RunningVariance) hisR ?_
  intro p e s m args below meth c s₁ Bd hml0 hP hK
  obtain ⟨rfl, hZ, hh⟩ := hP
  have hx := Bd.exec
  have hby := Bd.bytes
  have hml : c.maxLocals = 1 := hml0
  have hown : s.vm.findClass "com/example/whipstill/whipstill/RunningVariance" = some m.cls := findClass_of_methodNamed Bd.named
  have hnm := (name_of_methodNamed Bd.named Bd.method).1
  have X0 : Stand p l e ({ frames := 0, cells := 0, slots := 0, locals := 0 } : Room) s m #[(.ref o1)] below meth c s₁ [] 0 0 := Stand.of_body Bd
  have e0 : s₁.heap = h0 := by rw [← hh, Bd.state]; rfl
  have N0 := Fr.nil n0
  have pre0 : ∀ t, Steps p.tables e below (s₁.setTop (mkF m 0 #[.val (.ref o1)] [])) t → Steps p.tables e below (s₁.setTop (entryFrame m #[(.ref o1)] 1)) t := fun t k => castTop (ef_rvVar2 m o1) k
  obtain ⟨T1_, X1_, e1_, st1_⟩ := getF X0 hx hZ hown (host := "") (Or.inl (hw _ (List.mem_of_getElem? (i := 14) rfl))) Via.refl e0 F1 (g := (mkF m 1 #[.val (.ref o1)] [(.ref o1)])) rfl rfl (hb hby d5_1)
  obtain ⟨T2_, X2_, e2_, st2_⟩ := getF X1_ hx hZ hown (host := "") (Or.inl (hw _ (List.mem_of_getElem? (i := 18) rfl))) Via.refl e1_ F2 (g := (mkF m 18 #[.val (.ref o1)] [(.ref o1)])) rfl rfl (hb hby d5_18)
  obtain ⟨T3_, X3_, e3_, st3_⟩ := getF X2_ hx hZ hown (host := "") (Or.inl (hw _ (List.mem_of_getElem? (i := 14) rfl))) Via.refl e2_ F1 (g := (mkF m 22 #[.val (.ref o1)] [(.ref o1), (.double s1)])) rfl rfl (hb hby d5_22)
  have p4_ : own_H (ee) (FP.ddiv s1 (4607182418800017408 : UInt64)) := (own_H1 vsq)
  have nn4_ := own_nn p4_
  obtain ⟨d4_, hd4_⟩ : ∃ z, (FP.ddiv s1 (4607182418800017408 : UInt64)) = z := ⟨_, rfl⟩
  rw [hd4_] at p4_
  obtain ⟨fs, hr, hrun, hended, hW, hsame⟩ := X3_.leave (v := some (.double d4_)) (fun h => by first | rfl | (rw [Bd.returns] at h; cases h))
  refine ⟨_, _, pre0 _ ?_, hrun, hended, _, _, rfl, ?_, ⟨_, rfl⟩, hW, hsame.mono (by exact Nat.le_of_ble_eq_true rfl) (by exact Nat.le_of_ble_eq_true rfl)⟩
  · show Steps p.tables e below (s₁.setTop (mkF m 0 #[.val (.ref o1)] [])) _
    refine XS.aloadN X0.here hx rfl (hb hby d5_0) rfl rfl ?_
    refine st1_ _ ?_
    show Steps p.tables e below (T1_.setTop (mkF m 4 #[.val (.ref o1)] [(.long (2 : Int64))])) _
    refine X1_.ldc2Long hx hown (mvT hZ (hw _ (List.mem_of_getElem? (i := 30) rfl))) (g := (mkF m 4 #[.val (.ref o1)] [(.long (2 : Int64))])) rfl (hb hby d5_4) _ ?_
    show Steps p.tables e below (T1_.setTop (mkF m 7 #[.val (.ref o1)] [(.long (2 : Int64)), (.long (2 : Int64))])) _
    refine XS.lcmp X1_.here hx rfl (hb hby d5_7) rfl ?_
    show Steps p.tables e below (T1_.setTop (mkF m 8 #[.val (.ref o1)] [(.int (lcmpW (2 : Int64) (2 : Int64)))])) _
    refine XS.ifYes X1_.here hx rfl (pc0 := 8) (pc' := 17) rfl (hb hby d5_8) rfl ((if0 _ _).trans (flt ((by decide) : ¬ ((lcmpW (2 : Int64) (2 : Int64)) < (0 : Int32)))).2.1) (by decide) (by decide) ?_
    show Steps p.tables e below (T1_.setTop (mkF m 17 #[.val (.ref o1)] [])) _
    refine XS.aloadN X1_.here hx rfl (hb hby d5_17) rfl rfl ?_
    refine st2_ _ ?_
    show Steps p.tables e below (T2_.setTop (mkF m 21 #[.val (.ref o1)] [(.double s1)])) _
    refine XS.aloadN X2_.here hx rfl (hb hby d5_21) rfl rfl ?_
    refine st3_ _ ?_
    show Steps p.tables e below (T3_.setTop (mkF m 25 #[.val (.ref o1)] [(.long (2 : Int64)), (.double s1)])) _
    refine XS.lconst X3_.here hx rfl (hb hby d5_25) ?_
    refine XS.lsub X3_.here hx rfl (hb hby d5_26) rfl ?_
    show Steps p.tables e below (T3_.setTop (mkF m 27 #[.val (.ref o1)] [(.long (1 : Int64)), (.double s1)])) _
    refine XS.l2dS X3_.here hx rfl (hb hby d5_27) rfl (v := (4607182418800017408 : UInt64)) (by decide +kernel) ?_
    show Steps p.tables e below (T3_.setTop (mkF m 28 #[.val (.ref o1)] [(.double (4607182418800017408 : UInt64)), (.double s1)])) _
    refine XS.ddivS X3_.here hx rfl (hb hby d5_28) rfl nn4_ (v := d4_) hd4_ ?_
    show Steps p.tables e below (T3_.setTop (mkF m 29 #[.val (.ref o1)] [(.double d4_)])) _
    exact retD X3_ hx Bd.returns (hb hby d5_29) hr
  · show Q_rvVar2 Z o1 s1 ee h0 n0 _ T3_.heap _
    rw [e3_]
    exact ⟨d4_, rfl, N0, rfl, p4_⟩
theorem ef_rvMean3 (m : MethodId) (x0 : Addr) : entryFrame m #[(.ref x0)] 1 = mkF m 0 #[.val (.ref x0)] [] := by first | (simp [entryFrame, mkF, argsToLocals, Value.category]; done) | rfl
def Q_rvMean3 (Z : State) (o1 : Addr) (mu : UInt64) (h0 : Heap) (n0 : Nat) (v : Option Value) (h : Heap) (L : List Loc) : Prop := v = some (.double mu) ∧ Fr n0 L ∧ h = h0
set_option maxRecDepth 65536 in
set_option maxHeartbeats 40000000 in
theorem rvMean3 (l : Launch) (Z : State) (a0 : Array Value) (hw : ∀ d ∈ tables_1, d.before a0 Z = true) (ws : List Jvm.Cond) (o1 : Addr) (mu : UInt64) (h0 : Heap) (n0 : Nat) (Z0 : n0 ≤ h0.size) (F1 : Fld Z h0 o1 "com/example/whipstill/whipstill/RunningVariance" "count" "J" (.long (3 : Int64))) (F2 : Fld Z h0 o1 "com/example/whipstill/whipstill/RunningVariance" "mean" "D" (.double mu)) :
    MetFree l (⟨"com/example/whipstill/whipstill/RunningVariance", "mean", "()D"⟩ : MethodName) (head1 (Jvm.Cond.code (⟨"com/example/whipstill/whipstill/RunningVariance", "mean", "()D"⟩ : MethodName) prog_28_method_4_code 1 (some .double) :: ws) ({ frames := 0, cells := 0, slots := 0, locals := 0 } : Room)) (fun a U => a = #[(.ref o1)] ∧ Z.Warmed39 U.vm ∧ U.heap = h0) (fun _ _ _ _ _ => True) (fun _ U o U' => ∃ v L, o = .returned v ∧ Q_rvMean3 Z o1 mu h0 n0 v U'.heap L ∧ FrameEnd U o U' L ({ frames := 0, cells := 0, slots := 0, locals := 0 } : Room).cells ({ frames := 0, cells := 0, slots := 0, locals := 0 } : Room).slots) := by
  refine MetFree.of_bodySF (plainFor_of_name pn_com_example_whipstill_whipstill_RunningVariance) hisR ?_
  intro p e s m args below meth c s₁ Bd hml0 hP hK
  obtain ⟨rfl, hZ, hh⟩ := hP
  have hx := Bd.exec
  have hby := Bd.bytes
  have hml : c.maxLocals = 1 := hml0
  have hown : s.vm.findClass "com/example/whipstill/whipstill/RunningVariance" = some m.cls := findClass_of_methodNamed Bd.named
  have hnm := (name_of_methodNamed Bd.named Bd.method).1
  have X0 : Stand p l e ({ frames := 0, cells := 0, slots := 0, locals := 0 } : Room) s m #[(.ref o1)] below meth c s₁ [] 0 0 := Stand.of_body Bd
  have e0 : s₁.heap = h0 := by rw [← hh, Bd.state]; rfl
  have N0 := Fr.nil n0
  have pre0 : ∀ t, Steps p.tables e below (s₁.setTop (mkF m 0 #[.val (.ref o1)] [])) t → Steps p.tables e below (s₁.setTop (entryFrame m #[(.ref o1)] 1)) t := fun t k => castTop (ef_rvMean3 m o1) k
  obtain ⟨T1_, X1_, e1_, st1_⟩ := getF X0 hx hZ hown (host := "") (Or.inl (hw _ (List.mem_of_getElem? (i := 14) rfl))) Via.refl e0 F1 (g := (mkF m 1 #[.val (.ref o1)] [(.ref o1)])) rfl rfl (hb hby d4_1)
  obtain ⟨T2_, X2_, e2_, st2_⟩ := getF X1_ hx hZ hown (host := "") (Or.inl (hw _ (List.mem_of_getElem? (i := 16) rfl))) Via.refl e1_ F2 (g := (mkF m 16 #[.val (.ref o1)] [(.ref o1)])) rfl rfl (hb hby d4_16)
  obtain ⟨fs, hr, hrun, hended, hW, hsame⟩ := X2_.leave (v := some (.double mu)) (fun h => by first | rfl | (rw [Bd.returns] at h; cases h))
  refine ⟨_, _, pre0 _ ?_, hrun, hended, _, _, rfl, ?_, ⟨_, rfl⟩, hW, hsame.mono (by exact Nat.le_of_ble_eq_true rfl) (by exact Nat.le_of_ble_eq_true rfl)⟩
  · show Steps p.tables e below (s₁.setTop (mkF m 0 #[.val (.ref o1)] [])) _
    refine XS.aloadN X0.here hx rfl (hb hby d4_0) rfl rfl ?_
    refine st1_ _ ?_
    show Steps p.tables e below (T1_.setTop (mkF m 4 #[.val (.ref o1)] [(.long (3 : Int64))])) _
    refine XS.lconst X1_.here hx rfl (hb hby d4_4) ?_
    refine XS.lcmp X1_.here hx rfl (hb hby d4_5) rfl ?_
    show Steps p.tables e below (T1_.setTop (mkF m 6 #[.val (.ref o1)] [(.int (lcmpW (3 : Int64) (0 : Int64)))])) _
    refine XS.ifYes X1_.here hx rfl (pc0 := 6) (pc' := 15) rfl (hb hby d4_6) rfl ((if0 _ _).trans (feq ((by decide) : ¬ ((lcmpW (3 : Int64) (0 : Int64)) = (0 : Int32)))).2) (by decide) (by decide) ?_
    show Steps p.tables e below (T1_.setTop (mkF m 15 #[.val (.ref o1)] [])) _
    refine XS.aloadN X1_.here hx rfl (hb hby d4_15) rfl rfl ?_
    refine st2_ _ ?_
    show Steps p.tables e below (T2_.setTop (mkF m 19 #[.val (.ref o1)] [(.double mu)])) _
    exact retD X2_ hx Bd.returns (hb hby d4_19) hr
  · show Q_rvMean3 Z o1 mu h0 n0 _ T2_.heap _
    rw [e2_]
    exact ⟨rfl, N0, rfl⟩
theorem ef_rvVar3 (m : MethodId) (x0 : Addr) : entryFrame m #[(.ref x0)] 1 = mkF m 0 #[.val (.ref x0)] [] := by first | (simp [entryFrame, mkF, argsToLocals, Value.category]; done) | rfl
def Q_rvVar3 (Z : State) (o1 : Addr) (s1 : UInt64) (ee : Int) (h0 : Heap) (n0 : Nat) (v : Option Value) (h : Heap) (L : List Loc) : Prop := ∃ (rr : UInt64), v = some (.double rr) ∧ Fr n0 L ∧ h = h0 ∧ (own_H (ee) rr)
set_option maxRecDepth 65536 in
set_option maxHeartbeats 40000000 in
theorem rvVar3 (l : Launch) (Z : State) (a0 : Array Value) (hw : ∀ d ∈ tables_1, d.before a0 Z = true) (ws : List Jvm.Cond) (o1 : Addr) (s1 : UInt64) (ee : Int) (h0 : Heap) (n0 : Nat) (Z0 : n0 ≤ h0.size) (F1 : Fld Z h0 o1 "com/example/whipstill/whipstill/RunningVariance" "count" "J" (.long (3 : Int64))) (F2 : Fld Z h0 o1 "com/example/whipstill/whipstill/RunningVariance" "squares" "D" (.double s1)) (vsq : own_H (2 * ee) s1) (bnd : ee.natAbs ≤ 2 ^ 53) :
    MetFree l (⟨"com/example/whipstill/whipstill/RunningVariance", "sampleVariance", "()D"⟩ : MethodName) (head1 (Jvm.Cond.code (⟨"com/example/whipstill/whipstill/RunningVariance", "sampleVariance", "()D"⟩ : MethodName) prog_28_method_5_code 1 (some .double) :: ws) ({ frames := 0, cells := 0, slots := 0, locals := 0 } : Room)) (fun a U => a = #[(.ref o1)] ∧ Z.Warmed39 U.vm ∧ U.heap = h0) (fun _ _ _ _ _ => True) (fun _ U o U' => ∃ v L, o = .returned v ∧ Q_rvVar3 Z o1 s1 ee h0 n0 v U'.heap L ∧ FrameEnd U o U' L ({ frames := 0, cells := 0, slots := 0, locals := 0 } : Room).cells ({ frames := 0, cells := 0, slots := 0, locals := 0 } : Room).slots) := by
  refine MetFree.of_bodySF (plainFor_of_name pn_com_example_whipstill_whipstill_RunningVariance) hisR ?_
  intro p e s m args below meth c s₁ Bd hml0 hP hK
  obtain ⟨rfl, hZ, hh⟩ := hP
  have hx := Bd.exec
  have hby := Bd.bytes
  have hml : c.maxLocals = 1 := hml0
  have hown : s.vm.findClass "com/example/whipstill/whipstill/RunningVariance" = some m.cls := findClass_of_methodNamed Bd.named
  have hnm := (name_of_methodNamed Bd.named Bd.method).1
  have X0 : Stand p l e ({ frames := 0, cells := 0, slots := 0, locals := 0 } : Room) s m #[(.ref o1)] below meth c s₁ [] 0 0 := Stand.of_body Bd
  have e0 : s₁.heap = h0 := by rw [← hh, Bd.state]; rfl
  have N0 := Fr.nil n0
  have pre0 : ∀ t, Steps p.tables e below (s₁.setTop (mkF m 0 #[.val (.ref o1)] [])) t → Steps p.tables e below (s₁.setTop (entryFrame m #[(.ref o1)] 1)) t := fun t k => castTop (ef_rvVar3 m o1) k
  obtain ⟨T1_, X1_, e1_, st1_⟩ := getF X0 hx hZ hown (host := "") (Or.inl (hw _ (List.mem_of_getElem? (i := 14) rfl))) Via.refl e0 F1 (g := (mkF m 1 #[.val (.ref o1)] [(.ref o1)])) rfl rfl (hb hby d5_1)
  obtain ⟨T2_, X2_, e2_, st2_⟩ := getF X1_ hx hZ hown (host := "") (Or.inl (hw _ (List.mem_of_getElem? (i := 18) rfl))) Via.refl e1_ F2 (g := (mkF m 18 #[.val (.ref o1)] [(.ref o1)])) rfl rfl (hb hby d5_18)
  obtain ⟨T3_, X3_, e3_, st3_⟩ := getF X2_ hx hZ hown (host := "") (Or.inl (hw _ (List.mem_of_getElem? (i := 14) rfl))) Via.refl e2_ F1 (g := (mkF m 22 #[.val (.ref o1)] [(.ref o1), (.double s1)])) rfl rfl (hb hby d5_22)
  have p4_ : own_H (ee) (FP.ddiv s1 (4611686018427387904 : UInt64)) := (own_H2 vsq bnd)
  have nn4_ := own_nn p4_
  obtain ⟨d4_, hd4_⟩ : ∃ z, (FP.ddiv s1 (4611686018427387904 : UInt64)) = z := ⟨_, rfl⟩
  rw [hd4_] at p4_
  obtain ⟨fs, hr, hrun, hended, hW, hsame⟩ := X3_.leave (v := some (.double d4_)) (fun h => by first | rfl | (rw [Bd.returns] at h; cases h))
  refine ⟨_, _, pre0 _ ?_, hrun, hended, _, _, rfl, ?_, ⟨_, rfl⟩, hW, hsame.mono (by exact Nat.le_of_ble_eq_true rfl) (by exact Nat.le_of_ble_eq_true rfl)⟩
  · show Steps p.tables e below (s₁.setTop (mkF m 0 #[.val (.ref o1)] [])) _
    refine XS.aloadN X0.here hx rfl (hb hby d5_0) rfl rfl ?_
    refine st1_ _ ?_
    show Steps p.tables e below (T1_.setTop (mkF m 4 #[.val (.ref o1)] [(.long (3 : Int64))])) _
    refine X1_.ldc2Long hx hown (mvT hZ (hw _ (List.mem_of_getElem? (i := 30) rfl))) (g := (mkF m 4 #[.val (.ref o1)] [(.long (3 : Int64))])) rfl (hb hby d5_4) _ ?_
    show Steps p.tables e below (T1_.setTop (mkF m 7 #[.val (.ref o1)] [(.long (2 : Int64)), (.long (3 : Int64))])) _
    refine XS.lcmp X1_.here hx rfl (hb hby d5_7) rfl ?_
    show Steps p.tables e below (T1_.setTop (mkF m 8 #[.val (.ref o1)] [(.int (lcmpW (3 : Int64) (2 : Int64)))])) _
    refine XS.ifYes X1_.here hx rfl (pc0 := 8) (pc' := 17) rfl (hb hby d5_8) rfl ((if0 _ _).trans (flt ((by decide) : ¬ ((lcmpW (3 : Int64) (2 : Int64)) < (0 : Int32)))).2.1) (by decide) (by decide) ?_
    show Steps p.tables e below (T1_.setTop (mkF m 17 #[.val (.ref o1)] [])) _
    refine XS.aloadN X1_.here hx rfl (hb hby d5_17) rfl rfl ?_
    refine st2_ _ ?_
    show Steps p.tables e below (T2_.setTop (mkF m 21 #[.val (.ref o1)] [(.double s1)])) _
    refine XS.aloadN X2_.here hx rfl (hb hby d5_21) rfl rfl ?_
    refine st3_ _ ?_
    show Steps p.tables e below (T3_.setTop (mkF m 25 #[.val (.ref o1)] [(.long (3 : Int64)), (.double s1)])) _
    refine XS.lconst X3_.here hx rfl (hb hby d5_25) ?_
    refine XS.lsub X3_.here hx rfl (hb hby d5_26) rfl ?_
    show Steps p.tables e below (T3_.setTop (mkF m 27 #[.val (.ref o1)] [(.long (2 : Int64)), (.double s1)])) _
    refine XS.l2dS X3_.here hx rfl (hb hby d5_27) rfl (v := (4611686018427387904 : UInt64)) (by decide +kernel) ?_
    show Steps p.tables e below (T3_.setTop (mkF m 28 #[.val (.ref o1)] [(.double (4611686018427387904 : UInt64)), (.double s1)])) _
    refine XS.ddivS X3_.here hx rfl (hb hby d5_28) rfl nn4_ (v := d4_) hd4_ ?_
    show Steps p.tables e below (T3_.setTop (mkF m 29 #[.val (.ref o1)] [(.double d4_)])) _
    exact retD X3_ hx Bd.returns (hb hby d5_29) hr
  · show Q_rvVar3 Z o1 s1 ee h0 n0 _ T3_.heap _
    rw [e3_]
    exact ⟨d4_, rfl, N0, rfl, p4_⟩
theorem pd_qzV : parseMethodDescriptor "()V" = some ⟨[], none⟩ := by decide +kernel
theorem pd_qDzV : parseMethodDescriptor "(D)V" = some ⟨[.double], none⟩ := by decide +kernel
theorem pd_qzD : parseMethodDescriptor "()D" = some ⟨[], some .double⟩ := by decide +kernel
theorem pn_com_example_whipstill_whipstill_RunningVarianceAddPinLaw : plainName "com/example/whipstill/whipstill/RunningVarianceAddPinLaw" = true := by first | (simp [plainName, overriddenIn]; done) | decide +kernel
theorem ef_rm0 (m : MethodId) (x0 : Int32) (x1 : Int32) (x2 : Int32) : entryFrame m #[(.int x0), (.int x1), (.int x2)] maxLocals = mkF m 0 #[.val (.int x0), .val (.int x1), .val (.int x2), .unset, .unset, .unset, .unset, .unset, .unset, .unset, .unset, .unset, .unset, .unset, .unset, .unset, .unset, .unset, .unset, .unset, .unset, .unset, .unset, .unset, .unset, .unset, .unset, .unset, .unset, .unset, .unset, .unset, .unset, .unset, .unset, .unset] [] := by first | (simp [entryFrame, mkF, argsToLocals, Value.category, maxLocals]; done) | rfl
def Q_rm0 (Z : State) (p0 : Int32) (p1 : Int32) (p2 : Int32) (a1 : Int32) (b1 : Int32) (c0 : Int32) (c1 : Int32) (im : Int) (h0 : Heap) (n0 : Nat) (v : Option Value) (h : Heap) (L : List Loc) : Prop := v = some (.int (1 : Int32)) ∧ Fr n0 L
set_option maxRecDepth 65536 in
set_option maxHeartbeats 40000000 in
theorem rm0 (l : Launch) (Z : State) (a0 : Array Value) (hw : ∀ d ∈ tables_1, d.before a0 Z = true) (ws : List Jvm.Cond) (p0 : Int32) (p1 : Int32) (p2 : Int32) (a1 : Int32) (b1 : Int32) (c0 : Int32) (c1 : Int32) (im : Int) (h0 : Heap) (n0 : Nat) (Z0 : n0 ≤ h0.size) (ha1 : ((p0 <<< ((10 : Int32) &&& 31)) >>> ((10 : Int32) &&& 31)) = a1) (hb1 : ((p1 <<< ((10 : Int32) &&& 31)) >>> ((10 : Int32) &&& 31)) = b1) (hc0 : ((p2 <<< ((10 : Int32) &&& 31)) >>> ((10 : Int32) &&& 31)) = c0) (hc1 : (c0 - (((((a1 + b1) + c0) - ((((a1 + b1) + c0) / (3 : Int32)) * (3 : Int32))) + (3 : Int32)) - ((((((a1 + b1) + c0) - ((((a1 + b1) + c0) / (3 : Int32)) * (3 : Int32))) + (3 : Int32)) / (3 : Int32)) * (3 : Int32)))) = c1) (hA : -2097152 ≤ a1.toInt ∧ a1.toInt ≤ 2097152) (hB : -2097152 ≤ b1.toInt ∧ b1.toInt ≤ 2097152) (hC : -2097160 ≤ c1.toInt ∧ c1.toInt ≤ 2097160) (hM : a1.toInt + b1.toInt + c1.toInt = 3 * im) :
    MetFree l x (head1 (Jvm.Cond.code x code maxLocals ret :: ws) room_1) (fun a U => a = #[(.int p0), (.int p1), (.int p2)] ∧ Z.Warmed39 U.vm ∧ U.heap = h0) (fun _ _ _ _ _ => True) (fun _ U o U' => ∃ v L, o = .returned v ∧ Q_rm0 Z p0 p1 p2 a1 b1 c0 c1 im h0 n0 v U'.heap L ∧ FrameEnd U o U' L room_1.cells room_1.slots) := by
  refine MetFree.of_bodySF (plainFor_of_name pn_com_example_whipstill_whipstill_RunningVarianceAddPinLaw) hisR ?_
  intro p e s m args below meth c s₁ Bd hml0 hP hK
  obtain ⟨rfl, hZ, hh⟩ := hP
  have hx := Bd.exec
  have hby := Bd.bytes
  have hml : c.maxLocals = 36 := hml0
  have hown : s.vm.findClass "com/example/whipstill/whipstill/RunningVarianceAddPinLaw" = some m.cls := findClass_of_methodNamed Bd.named
  have hnm := (name_of_methodNamed Bd.named Bd.method).1
  have X0 : Stand p l e room_1 s m #[(.int p0), (.int p1), (.int p2)] below meth c s₁ [] 0 0 := Stand.of_body Bd
  have e0 : s₁.heap = h0 := by rw [← hh, Bd.state]; rfl
  have N0 := Fr.nil n0
  have pre0 : ∀ t, Steps p.tables e below (s₁.setTop (mkF m 0 #[.val (.int p0), .val (.int p1), .val (.int p2), .unset, .unset, .unset, .unset, .unset, .unset, .unset, .unset, .unset, .unset, .unset, .unset, .unset, .unset, .unset, .unset, .unset, .unset, .unset, .unset, .unset, .unset, .unset, .unset, .unset, .unset, .unset, .unset, .unset, .unset, .unset, .unset, .unset] [])) t → Steps p.tables e below (s₁.setTop (entryFrame m #[(.int p0), (.int p1), (.int p2)] maxLocals)) t := fun t k => castTop (ef_rm0 m p0 p1 p2) k
  obtain ⟨T1_, h1_, X1_, e1_, E1_, A1_, D1_, U1_, st1_⟩ := newO X0 hx hZ hown (hw _ (List.mem_of_getElem? (i := 0) rfl)) (hw _ (List.mem_of_getElem? (i := 1) rfl)) (hw _ (List.mem_of_getElem? (i := 2) rfl)) e0 (g := (mkF m 48 #[.val (.int p0), .val (.int p1), .val (.int p2), .val (.int a1), .val (.int b1), .val (.int c0), .val (.int (((((a1 + b1) + c0) - ((((a1 + b1) + c0) / (3 : Int32)) * (3 : Int32))) + (3 : Int32)) - ((((((a1 + b1) + c0) - ((((a1 + b1) + c0) / (3 : Int32)) * (3 : Int32))) + (3 : Int32)) / (3 : Int32)) * (3 : Int32)))), .val (.int c1), .unset, .unset, .unset, .unset, .unset, .unset, .unset, .unset, .unset, .unset, .unset, .unset, .unset, .unset, .unset, .unset, .unset, .unset, .unset, .unset, .unset, .unset, .unset, .unset, .unset, .unset, .unset, .unset] [])) rfl (hb hby at_48) (by exact Nat.le_of_ble_eq_true rfl) (by exact Nat.le_of_ble_eq_true rfl)
  obtain ⟨b1_, g1_⟩ : ∃ z, z = h0.size := ⟨_, rfl⟩
  rw [← g1_] at A1_ D1_ U1_ st1_
  have F1__count : Fld Z h1_ b1_ "com/example/whipstill/whipstill/RunningVariance" "count" "J" (.long (0 : Int64)) := D1_ (Or.inl (hw _ (List.mem_of_getElem? (i := 15) rfl))) (ty := .long) (by decide)
  have F1__mean : Fld Z h1_ b1_ "com/example/whipstill/whipstill/RunningVariance" "mean" "D" (.double (0 : UInt64)) := D1_ (Or.inl (hw _ (List.mem_of_getElem? (i := 17) rfl))) (ty := .double) (by decide)
  have F1__squares : Fld Z h1_ b1_ "com/example/whipstill/whipstill/RunningVariance" "squares" "D" (.double (0 : UInt64)) := D1_ (Or.inl (hw _ (List.mem_of_getElem? (i := 19) rfl))) (ty := .double) (by decide)
  have z3_ : n0 ≤ h1_.size := Nat.le_trans Z0 E1_.1
  obtain ⟨_, _, ⟨T2_, L2_, k2_, n2_⟩, -, X2_, ⟨Lc2_, hQ2_, l2_, y2_, z2_⟩, st2_⟩ := X1_.specialBack hx (y := (⟨"com/example/whipstill/whipstill/RunningVariance", "<init>", "()V"⟩ : MethodName)) rfl hown (mvT hZ (hw _ (List.mem_of_getElem? (i := 3) rfl))) (mvT hZ (hw _ (List.mem_of_getElem? (i := 4) rfl))) (mvT hZ (hw _ (List.mem_of_getElem? (i := 5) rfl))) (by decide) (backOf (W := 1) (rvInit l Z a0 hw [] b1_ h1_ n0 z3_ ) hZ (hw _ (List.mem_of_getElem? (i := 5) rfl)) (hw _ (List.mem_of_getElem? (i := 2) rfl)) (by decide) (by decide)) (g := (mkF m 52 #[.val (.int p0), .val (.int p1), .val (.int p2), .val (.int a1), .val (.int b1), .val (.int c0), .val (.int (((((a1 + b1) + c0) - ((((a1 + b1) + c0) / (3 : Int32)) * (3 : Int32))) + (3 : Int32)) - ((((((a1 + b1) + c0) - ((((a1 + b1) + c0) / (3 : Int32)) * (3 : Int32))) + (3 : Int32)) / (3 : Int32)) * (3 : Int32)))), .val (.int c1), .unset, .unset, .unset, .unset, .unset, .unset, .unset, .unset, .unset, .unset, .unset, .unset, .unset, .unset, .unset, .unset, .unset, .unset, .unset, .unset, .unset, .unset, .unset, .unset, .unset, .unset, .unset, .unset] [(.ref b1_), (.ref b1_)])) rfl (by rw [hml]; rfl) (Steps.refl _) (a := b1_) (argsL := []) (rest := [(.ref b1_)]) (lenOf pd_qzV rfl) rfl (by show 2 * 0 + _ ≤ _; exact Nat.le_of_eq rfl) (hb hby at_52) (fun _ _ => ⟨rfl, e1_, (by exact Nat.le_of_ble_eq_true rfl), (by exact Nat.le_of_ble_eq_true rfl)⟩)
  dsimp only [Pt.U, Pt.locs, Pt.cells, Pt.slots] at X2_ l2_ y2_ z2_ st2_ hQ2_
  subst L2_ k2_ n2_
  obtain ⟨rfl, Nq2_, ek2_⟩ := hQ2_
  have N2_ := Fr.app N0 Nq2_
  have p4_ : own_H (2 * a1.toInt) (FP.i2d a1) := (own_Hi a1)
  have nn4_ := own_nn p4_
  obtain ⟨d4_, hd4_⟩ : ∃ z, (FP.i2d a1) = z := ⟨_, rfl⟩
  rw [hd4_] at p4_
  have g6_ : n0 ≤ b1_ := Nat.le_trans Z0 (Nat.le_of_eq g1_.symm)
  obtain ⟨cq7_, kq7_, qa7_, qb7_, qc7_⟩ := isOf hZ ek2_ A1_
  obtain ⟨_, _, ⟨T5_, L5_, k5_, n5_⟩, -, X5_, ⟨Lc5_, hQ5_, l5_, y5_, z5_⟩, st5_⟩ := X2_.virtualBack hx (y := (⟨"com/example/whipstill/whipstill/RunningVariance", "add", "(D)V"⟩ : MethodName)) (z := (⟨"com/example/whipstill/whipstill/RunningVariance", "add", "(D)V"⟩ : MethodName)) hown (mvT hZ (hw _ (List.mem_of_getElem? (i := 9) rfl))) (mvT hZ (hw _ (List.mem_of_getElem? (i := 10) rfl))) (notFace_of_selects (args := #[]) (mvT hZ (hw _ (List.mem_of_getElem? (i := 12) rfl)))) (mvT hZ (hw _ (List.mem_of_getElem? (i := 12) rfl))) (mvT hZ (hw _ (List.mem_of_getElem? (i := 11) rfl))) (by decide) (backOf (W := 0) (rvAdd1 l Z a0 hw [] b1_ d4_ a1.toInt h1_ n0 z3_ A1_ F1__count F1__mean F1__squares p4_ (by omega) g6_) hZ (hw _ (List.mem_of_getElem? (i := 13) rfl)) (hw _ (List.mem_of_getElem? (i := 2) rfl)) (by decide) (by decide)) qa7_ qc7_ (g := (mkF m 61 #[.val (.int p0), .val (.int p1), .val (.int p2), .val (.int a1), .val (.int b1), .val (.int c0), .val (.int (((((a1 + b1) + c0) - ((((a1 + b1) + c0) / (3 : Int32)) * (3 : Int32))) + (3 : Int32)) - ((((((a1 + b1) + c0) - ((((a1 + b1) + c0) / (3 : Int32)) * (3 : Int32))) + (3 : Int32)) / (3 : Int32)) * (3 : Int32)))), .val (.int c1), .val (.ref b1_), .unset, .unset, .unset, .unset, .unset, .unset, .unset, .unset, .unset, .unset, .unset, .unset, .unset, .unset, .unset, .unset, .unset, .unset, .unset, .unset, .unset, .unset, .unset, .unset, .unset, .unset, .unset] [(.double d4_), (.ref b1_)])) rfl (by rw [hml]; rfl) (Steps.refl _) (argsL := [(.double d4_)]) (rest := []) (lenOf pd_qDzV rfl) rfl (by show 2 * 0 + _ ≤ _; exact Nat.le_of_eq rfl) (hb hby at_61) (fun _ _ => ⟨rfl, ek2_, (by exact Nat.le_of_ble_eq_true rfl), (by exact Nat.le_of_ble_eq_true rfl)⟩)
  dsimp only [Pt.U, Pt.locs, Pt.cells, Pt.slots] at X5_ l5_ y5_ z5_ st5_ hQ5_
  subst L5_ k5_ n5_
  obtain ⟨m2_5_, s2_5_, rfl, Nq5_, ek5_, p5__0, p5__1, p5__2, p5__3, p5__4⟩ := hQ5_
  have N5_ := Fr.app N2_ Nq5_
  have z9_ : n0 ≤ T5_.heap.size := Nat.le_trans z3_ ek5_.1
  have f11_ : Exa Z T5_.heap b1_ "com/example/whipstill/whipstill/RunningVariance" := (A1_.keep ek5_)
  obtain ⟨cq10_, kq10_, qa10_, qb10_, qc10_⟩ := isOf hZ rfl f11_
  obtain ⟨_, _, ⟨T8_, L8_, k8_, n8_⟩, -, X8_, ⟨Lc8_, hQ8_, l8_, y8_, z8_⟩, st8_⟩ := X5_.virtualBack hx (y := (⟨"com/example/whipstill/whipstill/RunningVariance", "mean", "()D"⟩ : MethodName)) (z := (⟨"com/example/whipstill/whipstill/RunningVariance", "mean", "()D"⟩ : MethodName)) hown (mvT hZ (hw _ (List.mem_of_getElem? (i := 20) rfl))) (mvT hZ (hw _ (List.mem_of_getElem? (i := 21) rfl))) (notFace_of_selects (args := #[]) (mvT hZ (hw _ (List.mem_of_getElem? (i := 23) rfl)))) (mvT hZ (hw _ (List.mem_of_getElem? (i := 23) rfl))) (mvT hZ (hw _ (List.mem_of_getElem? (i := 22) rfl))) (by decide) (backOf (W := 0) (rvMean1 l Z a0 hw [] b1_ m2_5_ T5_.heap n0 z9_ p5__0 p5__1) hZ (hw _ (List.mem_of_getElem? (i := 24) rfl)) (hw _ (List.mem_of_getElem? (i := 2) rfl)) (by decide) (by decide)) qa10_ qc10_ (g := (mkF m 66 #[.val (.int p0), .val (.int p1), .val (.int p2), .val (.int a1), .val (.int b1), .val (.int c0), .val (.int (((((a1 + b1) + c0) - ((((a1 + b1) + c0) / (3 : Int32)) * (3 : Int32))) + (3 : Int32)) - ((((((a1 + b1) + c0) - ((((a1 + b1) + c0) / (3 : Int32)) * (3 : Int32))) + (3 : Int32)) / (3 : Int32)) * (3 : Int32)))), .val (.int c1), .val (.ref b1_), .unset, .unset, .unset, .unset, .unset, .unset, .unset, .unset, .unset, .unset, .unset, .unset, .unset, .unset, .unset, .unset, .unset, .unset, .unset, .unset, .unset, .unset, .unset, .unset, .unset, .unset, .unset] [(.ref b1_)])) rfl (by rw [hml]; rfl) (Steps.refl _) (argsL := []) (rest := []) (lenOf pd_qzD rfl) rfl (by show 2 * 0 + _ ≤ _; exact Nat.le_of_eq rfl) (hb hby at_66) (fun _ _ => ⟨rfl, rfl, (by exact Nat.le_of_ble_eq_true rfl), (by exact Nat.le_of_ble_eq_true rfl)⟩)
  dsimp only [Pt.U, Pt.locs, Pt.cells, Pt.slots] at X8_ l8_ y8_ z8_ st8_ hQ8_
  subst L8_ k8_ n8_
  obtain ⟨rfl, Nq8_, ek8_⟩ := hQ8_
  have N8_ := Fr.app N5_ Nq8_
  obtain ⟨cq13_, kq13_, qa13_, qb13_, qc13_⟩ := isOf hZ ek8_ f11_
  obtain ⟨_, _, ⟨T12_, L12_, k12_, n12_⟩, -, X12_, ⟨Lc12_, hQ12_, l12_, y12_, z12_⟩, st12_⟩ := X8_.virtualBack hx (y := (⟨"com/example/whipstill/whipstill/RunningVariance", "sampleVariance", "()D"⟩ : MethodName)) (z := (⟨"com/example/whipstill/whipstill/RunningVariance", "sampleVariance", "()D"⟩ : MethodName)) hown (mvT hZ (hw _ (List.mem_of_getElem? (i := 25) rfl))) (mvT hZ (hw _ (List.mem_of_getElem? (i := 26) rfl))) (notFace_of_selects (args := #[]) (mvT hZ (hw _ (List.mem_of_getElem? (i := 28) rfl)))) (mvT hZ (hw _ (List.mem_of_getElem? (i := 28) rfl))) (mvT hZ (hw _ (List.mem_of_getElem? (i := 27) rfl))) (by decide) (backOf (W := 0) (rvVar1 l Z a0 hw [] b1_ T5_.heap n0 z9_ p5__0) hZ (hw _ (List.mem_of_getElem? (i := 29) rfl)) (hw _ (List.mem_of_getElem? (i := 2) rfl)) (by decide) (by decide)) qa13_ qc13_ (g := (mkF m 73 #[.val (.int p0), .val (.int p1), .val (.int p2), .val (.int a1), .val (.int b1), .val (.int c0), .val (.int (((((a1 + b1) + c0) - ((((a1 + b1) + c0) / (3 : Int32)) * (3 : Int32))) + (3 : Int32)) - ((((((a1 + b1) + c0) - ((((a1 + b1) + c0) / (3 : Int32)) * (3 : Int32))) + (3 : Int32)) / (3 : Int32)) * (3 : Int32)))), .val (.int c1), .val (.ref b1_), .val (.double m2_5_), .second, .unset, .unset, .unset, .unset, .unset, .unset, .unset, .unset, .unset, .unset, .unset, .unset, .unset, .unset, .unset, .unset, .unset, .unset, .unset, .unset, .unset, .unset, .unset, .unset, .unset] [(.ref b1_)])) rfl (by rw [hml]; rfl) (Steps.refl _) (argsL := []) (rest := []) (lenOf pd_qzD rfl) rfl (by show 2 * 0 + _ ≤ _; exact Nat.le_of_eq rfl) (hb hby at_73) (fun _ _ => ⟨rfl, ek8_, (by exact Nat.le_of_ble_eq_true rfl), (by exact Nat.le_of_ble_eq_true rfl)⟩)
  dsimp only [Pt.U, Pt.locs, Pt.cells, Pt.slots] at X12_ l12_ y12_ z12_ st12_ hQ12_
  subst L12_ k12_ n12_
  obtain ⟨rfl, Nq12_, ek12_⟩ := hQ12_
  have N12_ := Fr.app N8_ Nq12_
  have p14_ : own_H (2 * b1.toInt) (FP.i2d b1) := (own_Hi b1)
  have nn14_ := own_nn p14_
  obtain ⟨d14_, hd14_⟩ : ∃ z, (FP.i2d b1) = z := ⟨_, rfl⟩
  rw [hd14_] at p14_
  obtain ⟨cq16_, kq16_, qa16_, qb16_, qc16_⟩ := isOf hZ ek12_ f11_
  obtain ⟨_, _, ⟨T15_, L15_, k15_, n15_⟩, -, X15_, ⟨Lc15_, hQ15_, l15_, y15_, z15_⟩, st15_⟩ := X12_.virtualBack hx (y := (⟨"com/example/whipstill/whipstill/RunningVariance", "add", "(D)V"⟩ : MethodName)) (z := (⟨"com/example/whipstill/whipstill/RunningVariance", "add", "(D)V"⟩ : MethodName)) hown (mvT hZ (hw _ (List.mem_of_getElem? (i := 9) rfl))) (mvT hZ (hw _ (List.mem_of_getElem? (i := 10) rfl))) (notFace_of_selects (args := #[]) (mvT hZ (hw _ (List.mem_of_getElem? (i := 12) rfl)))) (mvT hZ (hw _ (List.mem_of_getElem? (i := 12) rfl))) (mvT hZ (hw _ (List.mem_of_getElem? (i := 11) rfl))) (by decide) (backOf (W := 0) (rvAdd2 l Z a0 hw [] b1_ d14_ a1.toInt b1.toInt m2_5_ s2_5_ T5_.heap n0 z9_ f11_ p5__0 p5__1 p5__2 p14_ p5__3 p5__4 (by omega) (by omega) g6_) hZ (hw _ (List.mem_of_getElem? (i := 13) rfl)) (hw _ (List.mem_of_getElem? (i := 2) rfl)) (by decide) (by decide)) qa16_ qc16_ (g := (mkF m 83 #[.val (.int p0), .val (.int p1), .val (.int p2), .val (.int a1), .val (.int b1), .val (.int c0), .val (.int (((((a1 + b1) + c0) - ((((a1 + b1) + c0) / (3 : Int32)) * (3 : Int32))) + (3 : Int32)) - ((((((a1 + b1) + c0) - ((((a1 + b1) + c0) / (3 : Int32)) * (3 : Int32))) + (3 : Int32)) / (3 : Int32)) * (3 : Int32)))), .val (.int c1), .val (.ref b1_), .val (.double m2_5_), .second, .val (.double (9221120237041090560 : UInt64)), .second, .unset, .unset, .unset, .unset, .unset, .unset, .unset, .unset, .unset, .unset, .unset, .unset, .unset, .unset, .unset, .unset, .unset, .unset, .unset, .unset, .unset, .unset, .unset] [(.double d14_), (.ref b1_)])) rfl (by rw [hml]; rfl) (Steps.refl _) (argsL := [(.double d14_)]) (rest := []) (lenOf pd_qDzV rfl) rfl (by show 2 * 0 + _ ≤ _; exact Nat.le_of_eq rfl) (hb hby at_83) (fun _ _ => ⟨rfl, ek12_, (by exact Nat.le_of_ble_eq_true rfl), (by exact Nat.le_of_ble_eq_true rfl)⟩)
  dsimp only [Pt.U, Pt.locs, Pt.cells, Pt.slots] at X15_ l15_ y15_ z15_ st15_ hQ15_
  subst L15_ k15_ n15_
  obtain ⟨m2_15_, s2_15_, rfl, Nq15_, ek15_, p15__0, p15__1, p15__2, p15__3, p15__4⟩ := hQ15_
  have N15_ := Fr.app N12_ Nq15_
  have z18_ : n0 ≤ T15_.heap.size := Nat.le_trans z9_ ek15_.1
  have f20_ : Exa Z T15_.heap b1_ "com/example/whipstill/whipstill/RunningVariance" := (f11_.keep ek15_)
  obtain ⟨cq19_, kq19_, qa19_, qb19_, qc19_⟩ := isOf hZ rfl f20_
  obtain ⟨_, _, ⟨T17_, L17_, k17_, n17_⟩, -, X17_, ⟨Lc17_, hQ17_, l17_, y17_, z17_⟩, st17_⟩ := X15_.virtualBack hx (y := (⟨"com/example/whipstill/whipstill/RunningVariance", "mean", "()D"⟩ : MethodName)) (z := (⟨"com/example/whipstill/whipstill/RunningVariance", "mean", "()D"⟩ : MethodName)) hown (mvT hZ (hw _ (List.mem_of_getElem? (i := 20) rfl))) (mvT hZ (hw _ (List.mem_of_getElem? (i := 21) rfl))) (notFace_of_selects (args := #[]) (mvT hZ (hw _ (List.mem_of_getElem? (i := 23) rfl)))) (mvT hZ (hw _ (List.mem_of_getElem? (i := 23) rfl))) (mvT hZ (hw _ (List.mem_of_getElem? (i := 22) rfl))) (by decide) (backOf (W := 0) (rvMean2 l Z a0 hw [] b1_ m2_15_ T15_.heap n0 z18_ p15__0 p15__1) hZ (hw _ (List.mem_of_getElem? (i := 24) rfl)) (hw _ (List.mem_of_getElem? (i := 2) rfl)) (by decide) (by decide)) qa19_ qc19_ (g := (mkF m 88 #[.val (.int p0), .val (.int p1), .val (.int p2), .val (.int a1), .val (.int b1), .val (.int c0), .val (.int (((((a1 + b1) + c0) - ((((a1 + b1) + c0) / (3 : Int32)) * (3 : Int32))) + (3 : Int32)) - ((((((a1 + b1) + c0) - ((((a1 + b1) + c0) / (3 : Int32)) * (3 : Int32))) + (3 : Int32)) / (3 : Int32)) * (3 : Int32)))), .val (.int c1), .val (.ref b1_), .val (.double m2_5_), .second, .val (.double (9221120237041090560 : UInt64)), .second, .unset, .unset, .unset, .unset, .unset, .unset, .unset, .unset, .unset, .unset, .unset, .unset, .unset, .unset, .unset, .unset, .unset, .unset, .unset, .unset, .unset, .unset, .unset] [(.ref b1_)])) rfl (by rw [hml]; rfl) (Steps.refl _) (argsL := []) (rest := []) (lenOf pd_qzD rfl) rfl (by show 2 * 0 + _ ≤ _; exact Nat.le_of_eq rfl) (hb hby at_88) (fun _ _ => ⟨rfl, rfl, (by exact Nat.le_of_ble_eq_true rfl), (by exact Nat.le_of_ble_eq_true rfl)⟩)
  dsimp only [Pt.U, Pt.locs, Pt.cells, Pt.slots] at X17_ l17_ y17_ z17_ st17_ hQ17_
  subst L17_ k17_ n17_
  obtain ⟨rfl, Nq17_, ek17_⟩ := hQ17_
  have N17_ := Fr.app N15_ Nq17_
  obtain ⟨cq22_, kq22_, qa22_, qb22_, qc22_⟩ := isOf hZ ek17_ f20_
  obtain ⟨_, _, ⟨T21_, L21_, k21_, n21_⟩, -, X21_, ⟨Lc21_, hQ21_, l21_, y21_, z21_⟩, st21_⟩ := X17_.virtualBack hx (y := (⟨"com/example/whipstill/whipstill/RunningVariance", "sampleVariance", "()D"⟩ : MethodName)) (z := (⟨"com/example/whipstill/whipstill/RunningVariance", "sampleVariance", "()D"⟩ : MethodName)) hown (mvT hZ (hw _ (List.mem_of_getElem? (i := 25) rfl))) (mvT hZ (hw _ (List.mem_of_getElem? (i := 26) rfl))) (notFace_of_selects (args := #[]) (mvT hZ (hw _ (List.mem_of_getElem? (i := 28) rfl)))) (mvT hZ (hw _ (List.mem_of_getElem? (i := 28) rfl))) (mvT hZ (hw _ (List.mem_of_getElem? (i := 27) rfl))) (by decide) (backOf (W := 0) (rvVar2 l Z a0 hw [] b1_ s2_15_ ((b1.toInt - a1.toInt) * (b1.toInt - a1.toInt)) T15_.heap n0 z18_ p15__0 p15__2 p15__4) hZ (hw _ (List.mem_of_getElem? (i := 29) rfl)) (hw _ (List.mem_of_getElem? (i := 2) rfl)) (by decide) (by decide)) qa22_ qc22_ (g := (mkF m 95 #[.val (.int p0), .val (.int p1), .val (.int p2), .val (.int a1), .val (.int b1), .val (.int c0), .val (.int (((((a1 + b1) + c0) - ((((a1 + b1) + c0) / (3 : Int32)) * (3 : Int32))) + (3 : Int32)) - ((((((a1 + b1) + c0) - ((((a1 + b1) + c0) / (3 : Int32)) * (3 : Int32))) + (3 : Int32)) / (3 : Int32)) * (3 : Int32)))), .val (.int c1), .val (.ref b1_), .val (.double m2_5_), .second, .val (.double (9221120237041090560 : UInt64)), .second, .val (.double m2_15_), .second, .unset, .unset, .unset, .unset, .unset, .unset, .unset, .unset, .unset, .unset, .unset, .unset, .unset, .unset, .unset, .unset, .unset, .unset, .unset, .unset, .unset] [(.ref b1_)])) rfl (by rw [hml]; rfl) (Steps.refl _) (argsL := []) (rest := []) (lenOf pd_qzD rfl) rfl (by show 2 * 0 + _ ≤ _; exact Nat.le_of_eq rfl) (hb hby at_95) (fun _ _ => ⟨rfl, ek17_, (by exact Nat.le_of_ble_eq_true rfl), (by exact Nat.le_of_ble_eq_true rfl)⟩)
  dsimp only [Pt.U, Pt.locs, Pt.cells, Pt.slots] at X21_ l21_ y21_ z21_ st21_ hQ21_
  subst L21_ k21_ n21_
  obtain ⟨rr_21_, rfl, Nq21_, ek21_, p21__0⟩ := hQ21_
  have N21_ := Fr.app N17_ Nq21_
  have p23_ : own_H (2 * c1.toInt) (FP.i2d c1) := (own_Hi c1)
  have nn23_ := own_nn p23_
  obtain ⟨d23_, hd23_⟩ : ∃ z, (FP.i2d c1) = z := ⟨_, rfl⟩
  rw [hd23_] at p23_
  obtain ⟨cq25_, kq25_, qa25_, qb25_, qc25_⟩ := isOf hZ ek21_ f20_
  obtain ⟨_, _, ⟨T24_, L24_, k24_, n24_⟩, -, X24_, ⟨Lc24_, hQ24_, l24_, y24_, z24_⟩, st24_⟩ := X21_.virtualBack hx (y := (⟨"com/example/whipstill/whipstill/RunningVariance", "add", "(D)V"⟩ : MethodName)) (z := (⟨"com/example/whipstill/whipstill/RunningVariance", "add", "(D)V"⟩ : MethodName)) hown (mvT hZ (hw _ (List.mem_of_getElem? (i := 9) rfl))) (mvT hZ (hw _ (List.mem_of_getElem? (i := 10) rfl))) (notFace_of_selects (args := #[]) (mvT hZ (hw _ (List.mem_of_getElem? (i := 12) rfl)))) (mvT hZ (hw _ (List.mem_of_getElem? (i := 12) rfl))) (mvT hZ (hw _ (List.mem_of_getElem? (i := 11) rfl))) (by decide) (backOf (W := 0) (rvAdd3 l Z a0 hw [] b1_ d23_ a1.toInt b1.toInt c1.toInt im m2_15_ s2_15_ T15_.heap n0 z18_ f20_ p15__0 p15__1 p15__2 p23_ p15__3 p15__4 (by omega) (by omega) (by omega) hM g6_) hZ (hw _ (List.mem_of_getElem? (i := 13) rfl)) (hw _ (List.mem_of_getElem? (i := 2) rfl)) (by decide) (by decide)) qa25_ qc25_ (g := (mkF m 105 #[.val (.int p0), .val (.int p1), .val (.int p2), .val (.int a1), .val (.int b1), .val (.int c0), .val (.int (((((a1 + b1) + c0) - ((((a1 + b1) + c0) / (3 : Int32)) * (3 : Int32))) + (3 : Int32)) - ((((((a1 + b1) + c0) - ((((a1 + b1) + c0) / (3 : Int32)) * (3 : Int32))) + (3 : Int32)) / (3 : Int32)) * (3 : Int32)))), .val (.int c1), .val (.ref b1_), .val (.double m2_5_), .second, .val (.double (9221120237041090560 : UInt64)), .second, .val (.double m2_15_), .second, .val (.double rr_21_), .second, .unset, .unset, .unset, .unset, .unset, .unset, .unset, .unset, .unset, .unset, .unset, .unset, .unset, .unset, .unset, .unset, .unset, .unset, .unset] [(.double d23_), (.ref b1_)])) rfl (by rw [hml]; rfl) (Steps.refl _) (argsL := [(.double d23_)]) (rest := []) (lenOf pd_qDzV rfl) rfl (by show 2 * 0 + _ ≤ _; exact Nat.le_of_eq rfl) (hb hby at_105) (fun _ _ => ⟨rfl, ek21_, (by exact Nat.le_of_ble_eq_true rfl), (by exact Nat.le_of_ble_eq_true rfl)⟩)
  dsimp only [Pt.U, Pt.locs, Pt.cells, Pt.slots] at X24_ l24_ y24_ z24_ st24_ hQ24_
  subst L24_ k24_ n24_
  obtain ⟨m2_24_, s2_24_, rfl, Nq24_, ek24_, p24__0, p24__1, p24__2, p24__3, p24__4⟩ := hQ24_
  have N24_ := Fr.app N21_ Nq24_
  have z27_ : n0 ≤ T24_.heap.size := Nat.le_trans z18_ ek24_.1
  have f29_ : Exa Z T24_.heap b1_ "com/example/whipstill/whipstill/RunningVariance" := (f20_.keep ek24_)
  obtain ⟨cq28_, kq28_, qa28_, qb28_, qc28_⟩ := isOf hZ rfl f29_
  obtain ⟨_, _, ⟨T26_, L26_, k26_, n26_⟩, -, X26_, ⟨Lc26_, hQ26_, l26_, y26_, z26_⟩, st26_⟩ := X24_.virtualBack hx (y := (⟨"com/example/whipstill/whipstill/RunningVariance", "mean", "()D"⟩ : MethodName)) (z := (⟨"com/example/whipstill/whipstill/RunningVariance", "mean", "()D"⟩ : MethodName)) hown (mvT hZ (hw _ (List.mem_of_getElem? (i := 20) rfl))) (mvT hZ (hw _ (List.mem_of_getElem? (i := 21) rfl))) (notFace_of_selects (args := #[]) (mvT hZ (hw _ (List.mem_of_getElem? (i := 23) rfl)))) (mvT hZ (hw _ (List.mem_of_getElem? (i := 23) rfl))) (mvT hZ (hw _ (List.mem_of_getElem? (i := 22) rfl))) (by decide) (backOf (W := 0) (rvMean3 l Z a0 hw [] b1_ m2_24_ T24_.heap n0 z27_ p24__0 p24__1) hZ (hw _ (List.mem_of_getElem? (i := 24) rfl)) (hw _ (List.mem_of_getElem? (i := 2) rfl)) (by decide) (by decide)) qa28_ qc28_ (g := (mkF m 110 #[.val (.int p0), .val (.int p1), .val (.int p2), .val (.int a1), .val (.int b1), .val (.int c0), .val (.int (((((a1 + b1) + c0) - ((((a1 + b1) + c0) / (3 : Int32)) * (3 : Int32))) + (3 : Int32)) - ((((((a1 + b1) + c0) - ((((a1 + b1) + c0) / (3 : Int32)) * (3 : Int32))) + (3 : Int32)) / (3 : Int32)) * (3 : Int32)))), .val (.int c1), .val (.ref b1_), .val (.double m2_5_), .second, .val (.double (9221120237041090560 : UInt64)), .second, .val (.double m2_15_), .second, .val (.double rr_21_), .second, .unset, .unset, .unset, .unset, .unset, .unset, .unset, .unset, .unset, .unset, .unset, .unset, .unset, .unset, .unset, .unset, .unset, .unset, .unset] [(.ref b1_)])) rfl (by rw [hml]; rfl) (Steps.refl _) (argsL := []) (rest := []) (lenOf pd_qzD rfl) rfl (by show 2 * 0 + _ ≤ _; exact Nat.le_of_eq rfl) (hb hby at_110) (fun _ _ => ⟨rfl, rfl, (by exact Nat.le_of_ble_eq_true rfl), (by exact Nat.le_of_ble_eq_true rfl)⟩)
  dsimp only [Pt.U, Pt.locs, Pt.cells, Pt.slots] at X26_ l26_ y26_ z26_ st26_ hQ26_
  subst L26_ k26_ n26_
  obtain ⟨rfl, Nq26_, ek26_⟩ := hQ26_
  have N26_ := Fr.app N24_ Nq26_
  obtain ⟨cq31_, kq31_, qa31_, qb31_, qc31_⟩ := isOf hZ ek26_ f29_
  obtain ⟨_, _, ⟨T30_, L30_, k30_, n30_⟩, -, X30_, ⟨Lc30_, hQ30_, l30_, y30_, z30_⟩, st30_⟩ := X26_.virtualBack hx (y := (⟨"com/example/whipstill/whipstill/RunningVariance", "sampleVariance", "()D"⟩ : MethodName)) (z := (⟨"com/example/whipstill/whipstill/RunningVariance", "sampleVariance", "()D"⟩ : MethodName)) hown (mvT hZ (hw _ (List.mem_of_getElem? (i := 25) rfl))) (mvT hZ (hw _ (List.mem_of_getElem? (i := 26) rfl))) (notFace_of_selects (args := #[]) (mvT hZ (hw _ (List.mem_of_getElem? (i := 28) rfl)))) (mvT hZ (hw _ (List.mem_of_getElem? (i := 28) rfl))) (mvT hZ (hw _ (List.mem_of_getElem? (i := 27) rfl))) (by decide) (backOf (W := 0) (rvVar3 l Z a0 hw [] b1_ s2_24_ ((a1.toInt - im) * (a1.toInt - im) + (b1.toInt - im) * (b1.toInt - im) + (c1.toInt - im) * (c1.toInt - im)) T24_.heap n0 z27_ p24__0 p24__2 p24__4 (by have q1_ := own_mb (x := a1.toInt - im) (y := a1.toInt - im) 16777216 16777216 281474976710656 (by omega) (by omega) (by decide); have q2_ := own_mb (x := b1.toInt - im) (y := b1.toInt - im) 16777216 16777216 281474976710656 (by omega) (by omega) (by decide); have q3_ := own_mb (x := c1.toInt - im) (y := c1.toInt - im) 16777216 16777216 281474976710656 (by omega) (by omega) (by decide); omega)) hZ (hw _ (List.mem_of_getElem? (i := 29) rfl)) (hw _ (List.mem_of_getElem? (i := 2) rfl)) (by decide) (by decide)) qa31_ qc31_ (g := (mkF m 117 #[.val (.int p0), .val (.int p1), .val (.int p2), .val (.int a1), .val (.int b1), .val (.int c0), .val (.int (((((a1 + b1) + c0) - ((((a1 + b1) + c0) / (3 : Int32)) * (3 : Int32))) + (3 : Int32)) - ((((((a1 + b1) + c0) - ((((a1 + b1) + c0) / (3 : Int32)) * (3 : Int32))) + (3 : Int32)) / (3 : Int32)) * (3 : Int32)))), .val (.int c1), .val (.ref b1_), .val (.double m2_5_), .second, .val (.double (9221120237041090560 : UInt64)), .second, .val (.double m2_15_), .second, .val (.double rr_21_), .second, .val (.double m2_24_), .second, .unset, .unset, .unset, .unset, .unset, .unset, .unset, .unset, .unset, .unset, .unset, .unset, .unset, .unset, .unset, .unset, .unset] [(.ref b1_)])) rfl (by rw [hml]; rfl) (Steps.refl _) (argsL := []) (rest := []) (lenOf pd_qzD rfl) rfl (by show 2 * 0 + _ ≤ _; exact Nat.le_of_eq rfl) (hb hby at_117) (fun _ _ => ⟨rfl, ek26_, (by exact Nat.le_of_ble_eq_true rfl), (by exact Nat.le_of_ble_eq_true rfl)⟩)
  dsimp only [Pt.U, Pt.locs, Pt.cells, Pt.slots] at X30_ l30_ y30_ z30_ st30_ hQ30_
  subst L30_ k30_ n30_
  obtain ⟨rr_30_, rfl, Nq30_, ek30_, p30__0⟩ := hQ30_
  have N30_ := Fr.app N26_ Nq30_
  have eab_ : (a1 + b1).toInt = a1.toInt + b1.toInt := by rw [Int32.toInt_add]; exact Int.bmod_eq_of_le (by omega) (by omega)
  have eda_ : ((b1.toInt64) - (a1.toInt64)).toInt = b1.toInt - a1.toInt := by rw [own_sub64 (K := 4000000) (by decide) (by rw [own_t64]; omega) (by rw [own_t64]; omega), own_t64, own_t64]
  have esq_ := own_sq64 (x := ((b1.toInt64) - (a1.toInt64))) (by rw [eda_]; omega)
  have e1_ : (((a1.toInt64) + (b1.toInt64)) + (c1.toInt64)).toInt = 3 * im := by rw [own_add64 (by rw [own_add64 (by rw [own_t64]; omega) (by rw [own_t64]; omega), own_t64, own_t64]; omega) (by rw [own_t64]; omega), own_add64 (by rw [own_t64]; omega) (by rw [own_t64]; omega), own_t64, own_t64, own_t64]; exact hM
  have emm_ : ((((a1.toInt64) + (b1.toInt64)) + (c1.toInt64)) / (3 : Int64)).toInt = im := own_mm e1_ (by omega)
  have esb_ : ∀ x : Int32, -2097160 ≤ x.toInt ∧ x.toInt ≤ 2097160 → (x.toInt64 - ((((a1.toInt64) + (b1.toInt64)) + (c1.toInt64)) / (3 : Int64))).toInt = x.toInt - im := fun x hx_ => by rw [own_sub64 (K := 100000000) (by decide) (by rw [own_t64]; omega) (by rw [emm_]; omega), own_t64, emm_]
  have sa_ := own_sq64 (x := ((a1.toInt64) - ((((a1.toInt64) + (b1.toInt64)) + (c1.toInt64)) / (3 : Int64)))) (by rw [esb_ a1 (by omega)]; omega)
  have sb_ := own_sq64 (x := ((b1.toInt64) - ((((a1.toInt64) + (b1.toInt64)) + (c1.toInt64)) / (3 : Int64)))) (by rw [esb_ b1 (by omega)]; omega)
  have sc_ := own_sq64 (x := ((c1.toInt64) - ((((a1.toInt64) + (b1.toInt64)) + (c1.toInt64)) / (3 : Int64)))) (by rw [esb_ c1 (by omega)]; omega)
  have ess_ : (((((a1.toInt64) - ((((a1.toInt64) + (b1.toInt64)) + (c1.toInt64)) / (3 : Int64))) * ((a1.toInt64) - ((((a1.toInt64) + (b1.toInt64)) + (c1.toInt64)) / (3 : Int64)))) + (((b1.toInt64) - ((((a1.toInt64) + (b1.toInt64)) + (c1.toInt64)) / (3 : Int64))) * ((b1.toInt64) - ((((a1.toInt64) + (b1.toInt64)) + (c1.toInt64)) / (3 : Int64))))) + (((c1.toInt64) - ((((a1.toInt64) + (b1.toInt64)) + (c1.toInt64)) / (3 : Int64))) * ((c1.toInt64) - ((((a1.toInt64) + (b1.toInt64)) + (c1.toInt64)) / (3 : Int64))))).toInt = ((a1.toInt - im) * (a1.toInt - im) + (b1.toInt - im) * (b1.toInt - im) + (c1.toInt - im) * (c1.toInt - im)) := by rw [own_add64 (by rw [own_add64 (by omega) (by omega)]; omega) (by omega), own_add64 (by omega) (by omega), sa_.1, sb_.1, sc_.1, esb_ a1 (by omega), esb_ b1 (by omega), esb_ c1 (by omega)]
  have hss_ : ((a1.toInt - im) * (a1.toInt - im) + (b1.toInt - im) * (b1.toInt - im) + (c1.toInt - im) * (c1.toInt - im)).natAbs ≤ 2 ^ 53 := (by have q1_ := own_mb (x := a1.toInt - im) (y := a1.toInt - im) 16777216 16777216 281474976710656 (by omega) (by omega) (by decide); have q2_ := own_mb (x := b1.toInt - im) (y := b1.toInt - im) 16777216 16777216 281474976710656 (by omega) (by omega) (by decide); have q3_ := own_mb (x := c1.toInt - im) (y := c1.toInt - im) 16777216 16777216 281474976710656 (by omega) (by omega) (by decide); omega)
  have p32_ : own_H (2 * a1.toInt) (FP.i2d a1) := (own_Hi a1)
  have nn32_ := own_nn p32_
  obtain ⟨d32_, hd32_⟩ : ∃ z, (FP.i2d a1) = z := ⟨_, rfl⟩
  rw [hd32_] at p32_
  have p33_ : own_H (2 * (a1.toInt + b1.toInt)) (FP.i2d (a1 + b1)) := (own_Hc (own_Hi (a1 + b1)) (by rw [eab_]))
  have nn33_ := own_nn p33_
  obtain ⟨d33_, hd33_⟩ : ∃ z, (FP.i2d (a1 + b1)) = z := ⟨_, rfl⟩
  rw [hd33_] at p33_
  have p34_ : own_H (a1.toInt + b1.toInt) (FP.ddiv d33_ (4611686018427387904 : UInt64)) := (own_H2 p33_ (by omega))
  have nn34_ := own_nn p34_
  obtain ⟨d34_, hd34_⟩ : ∃ z, (FP.ddiv d33_ (4611686018427387904 : UInt64)) = z := ⟨_, rfl⟩
  rw [hd34_] at p34_
  have p35_ : own_H (2 * ((b1.toInt - a1.toInt) * (b1.toInt - a1.toInt))) (FP.l2d (((b1.toInt64) - (a1.toInt64)) * ((b1.toInt64) - (a1.toInt64)))) := (own_Hc (own_Hl (by have q_ := esq_; omega)) (by rw [esq_.1, eda_]))
  have nn35_ := own_nn p35_
  obtain ⟨d35_, hd35_⟩ : ∃ z, (FP.l2d (((b1.toInt64) - (a1.toInt64)) * ((b1.toInt64) - (a1.toInt64)))) = z := ⟨_, rfl⟩
  rw [hd35_] at p35_
  have p36_ : own_H (((b1.toInt - a1.toInt) * (b1.toInt - a1.toInt))) (FP.ddiv d35_ (4611686018427387904 : UInt64)) := (own_H2 p35_ (own_mb 8388608 8388608 _ (by omega) (by omega) (by decide)))
  have nn36_ := own_nn p36_
  obtain ⟨d36_, hd36_⟩ : ∃ z, (FP.ddiv d35_ (4611686018427387904 : UInt64)) = z := ⟨_, rfl⟩
  rw [hd36_] at p36_
  have p37_ : own_H (2 * im) (FP.l2d ((((a1.toInt64) + (b1.toInt64)) + (c1.toInt64)) / (3 : Int64))) := (own_Hc (own_Hl (by rw [emm_]; omega)) (by rw [emm_]))
  have nn37_ := own_nn p37_
  obtain ⟨d37_, hd37_⟩ : ∃ z, (FP.l2d ((((a1.toInt64) + (b1.toInt64)) + (c1.toInt64)) / (3 : Int64))) = z := ⟨_, rfl⟩
  rw [hd37_] at p37_
  have p38_ : own_H (2 * ((a1.toInt - im) * (a1.toInt - im) + (b1.toInt - im) * (b1.toInt - im) + (c1.toInt - im) * (c1.toInt - im))) (FP.l2d (((((a1.toInt64) - ((((a1.toInt64) + (b1.toInt64)) + (c1.toInt64)) / (3 : Int64))) * ((a1.toInt64) - ((((a1.toInt64) + (b1.toInt64)) + (c1.toInt64)) / (3 : Int64)))) + (((b1.toInt64) - ((((a1.toInt64) + (b1.toInt64)) + (c1.toInt64)) / (3 : Int64))) * ((b1.toInt64) - ((((a1.toInt64) + (b1.toInt64)) + (c1.toInt64)) / (3 : Int64))))) + (((c1.toInt64) - ((((a1.toInt64) + (b1.toInt64)) + (c1.toInt64)) / (3 : Int64))) * ((c1.toInt64) - ((((a1.toInt64) + (b1.toInt64)) + (c1.toInt64)) / (3 : Int64)))))) := (own_Hc (own_Hl (by rw [ess_]; exact hss_)) (by rw [ess_]))
  have nn38_ := own_nn p38_
  obtain ⟨d38_, hd38_⟩ : ∃ z, (FP.l2d (((((a1.toInt64) - ((((a1.toInt64) + (b1.toInt64)) + (c1.toInt64)) / (3 : Int64))) * ((a1.toInt64) - ((((a1.toInt64) + (b1.toInt64)) + (c1.toInt64)) / (3 : Int64)))) + (((b1.toInt64) - ((((a1.toInt64) + (b1.toInt64)) + (c1.toInt64)) / (3 : Int64))) * ((b1.toInt64) - ((((a1.toInt64) + (b1.toInt64)) + (c1.toInt64)) / (3 : Int64))))) + (((c1.toInt64) - ((((a1.toInt64) + (b1.toInt64)) + (c1.toInt64)) / (3 : Int64))) * ((c1.toInt64) - ((((a1.toInt64) + (b1.toInt64)) + (c1.toInt64)) / (3 : Int64)))))) = z := ⟨_, rfl⟩
  rw [hd38_] at p38_
  have p39_ : own_H (((a1.toInt - im) * (a1.toInt - im) + (b1.toInt - im) * (b1.toInt - im) + (c1.toInt - im) * (c1.toInt - im))) (FP.ddiv d38_ (4611686018427387904 : UInt64)) := (own_H2 p38_ hss_)
  have nn39_ := own_nn p39_
  obtain ⟨d39_, hd39_⟩ : ∃ z, (FP.ddiv d38_ (4611686018427387904 : UInt64)) = z := ⟨_, rfl⟩
  rw [hd39_] at p39_
  obtain ⟨fs, hr, hrun, hended, hW, hsame⟩ := X30_.leave (v := some (.int (1 : Int32))) (fun h => by first | rfl | (rw [Bd.returns] at h; cases h))
  refine ⟨_, _, pre0 _ ?_, hrun, hended, _, _, rfl, ?_, ⟨_, rfl⟩, hW, hsame.mono (by exact Nat.le_of_ble_eq_true rfl) (by exact Nat.le_of_ble_eq_true rfl)⟩
  · show Steps p.tables e below (s₁.setTop (mkF m 0 #[.val (.int p0), .val (.int p1), .val (.int p2), .unset, .unset, .unset, .unset, .unset, .unset, .unset, .unset, .unset, .unset, .unset, .unset, .unset, .unset, .unset, .unset, .unset, .unset, .unset, .unset, .unset, .unset, .unset, .unset, .unset, .unset, .unset, .unset, .unset, .unset, .unset, .unset, .unset] [])) _
    refine XS.iloadN X0.here hx rfl (hb hby at_0) rfl ?_
    refine XS.bipush X0.here hx rfl (hb hby at_1) ?_
    refine XS.ishl X0.here hx rfl (hb hby at_3) rfl ?_
    show Steps p.tables e below (s₁.setTop (mkF m 4 #[.val (.int p0), .val (.int p1), .val (.int p2), .unset, .unset, .unset, .unset, .unset, .unset, .unset, .unset, .unset, .unset, .unset, .unset, .unset, .unset, .unset, .unset, .unset, .unset, .unset, .unset, .unset, .unset, .unset, .unset, .unset, .unset, .unset, .unset, .unset, .unset, .unset, .unset, .unset] [(.int (p0 <<< ((10 : Int32) &&& 31)))])) _
    refine XS.bipush X0.here hx rfl (hb hby at_4) ?_
    refine XS.ishr X0.here hx rfl (hb hby at_6) rfl ?_
    show Steps p.tables e below (s₁.setTop (mkF m 7 #[.val (.int p0), .val (.int p1), .val (.int p2), .unset, .unset, .unset, .unset, .unset, .unset, .unset, .unset, .unset, .unset, .unset, .unset, .unset, .unset, .unset, .unset, .unset, .unset, .unset, .unset, .unset, .unset, .unset, .unset, .unset, .unset, .unset, .unset, .unset, .unset, .unset, .unset, .unset] [(.int ((p0 <<< ((10 : Int32) &&& 31)) >>> ((10 : Int32) &&& 31)))])) _
    rw [ha1]
    show Steps p.tables e below (s₁.setTop (mkF m 7 #[.val (.int p0), .val (.int p1), .val (.int p2), .unset, .unset, .unset, .unset, .unset, .unset, .unset, .unset, .unset, .unset, .unset, .unset, .unset, .unset, .unset, .unset, .unset, .unset, .unset, .unset, .unset, .unset, .unset, .unset, .unset, .unset, .unset, .unset, .unset, .unset, .unset, .unset, .unset] [(.int a1)])) _
    refine XS.istoreN X0.here hx rfl (hb hby at_7) rfl (l' := #[.val (.int p0), .val (.int p1), .val (.int p2), .val (.int a1), .unset, .unset, .unset, .unset, .unset, .unset, .unset, .unset, .unset, .unset, .unset, .unset, .unset, .unset, .unset, .unset, .unset, .unset, .unset, .unset, .unset, .unset, .unset, .unset, .unset, .unset, .unset, .unset, .unset, .unset, .unset, .unset]) rfl ?_
    show Steps p.tables e below (s₁.setTop (mkF m 8 #[.val (.int p0), .val (.int p1), .val (.int p2), .val (.int a1), .unset, .unset, .unset, .unset, .unset, .unset, .unset, .unset, .unset, .unset, .unset, .unset, .unset, .unset, .unset, .unset, .unset, .unset, .unset, .unset, .unset, .unset, .unset, .unset, .unset, .unset, .unset, .unset, .unset, .unset, .unset, .unset] [])) _
    refine XS.iloadN X0.here hx rfl (hb hby at_8) rfl ?_
    refine XS.bipush X0.here hx rfl (hb hby at_9) ?_
    refine XS.ishl X0.here hx rfl (hb hby at_11) rfl ?_
    show Steps p.tables e below (s₁.setTop (mkF m 12 #[.val (.int p0), .val (.int p1), .val (.int p2), .val (.int a1), .unset, .unset, .unset, .unset, .unset, .unset, .unset, .unset, .unset, .unset, .unset, .unset, .unset, .unset, .unset, .unset, .unset, .unset, .unset, .unset, .unset, .unset, .unset, .unset, .unset, .unset, .unset, .unset, .unset, .unset, .unset, .unset] [(.int (p1 <<< ((10 : Int32) &&& 31)))])) _
    refine XS.bipush X0.here hx rfl (hb hby at_12) ?_
    refine XS.ishr X0.here hx rfl (hb hby at_14) rfl ?_
    show Steps p.tables e below (s₁.setTop (mkF m 15 #[.val (.int p0), .val (.int p1), .val (.int p2), .val (.int a1), .unset, .unset, .unset, .unset, .unset, .unset, .unset, .unset, .unset, .unset, .unset, .unset, .unset, .unset, .unset, .unset, .unset, .unset, .unset, .unset, .unset, .unset, .unset, .unset, .unset, .unset, .unset, .unset, .unset, .unset, .unset, .unset] [(.int ((p1 <<< ((10 : Int32) &&& 31)) >>> ((10 : Int32) &&& 31)))])) _
    rw [hb1]
    show Steps p.tables e below (s₁.setTop (mkF m 15 #[.val (.int p0), .val (.int p1), .val (.int p2), .val (.int a1), .unset, .unset, .unset, .unset, .unset, .unset, .unset, .unset, .unset, .unset, .unset, .unset, .unset, .unset, .unset, .unset, .unset, .unset, .unset, .unset, .unset, .unset, .unset, .unset, .unset, .unset, .unset, .unset, .unset, .unset, .unset, .unset] [(.int b1)])) _
    refine XS.istore X0.here hx rfl (hb hby at_15) rfl (l' := #[.val (.int p0), .val (.int p1), .val (.int p2), .val (.int a1), .val (.int b1), .unset, .unset, .unset, .unset, .unset, .unset, .unset, .unset, .unset, .unset, .unset, .unset, .unset, .unset, .unset, .unset, .unset, .unset, .unset, .unset, .unset, .unset, .unset, .unset, .unset, .unset, .unset, .unset, .unset, .unset, .unset]) rfl ?_
    show Steps p.tables e below (s₁.setTop (mkF m 17 #[.val (.int p0), .val (.int p1), .val (.int p2), .val (.int a1), .val (.int b1), .unset, .unset, .unset, .unset, .unset, .unset, .unset, .unset, .unset, .unset, .unset, .unset, .unset, .unset, .unset, .unset, .unset, .unset, .unset, .unset, .unset, .unset, .unset, .unset, .unset, .unset, .unset, .unset, .unset, .unset, .unset] [])) _
    refine XS.iloadN X0.here hx rfl (hb hby at_17) rfl ?_
    refine XS.bipush X0.here hx rfl (hb hby at_18) ?_
    refine XS.ishl X0.here hx rfl (hb hby at_20) rfl ?_
    show Steps p.tables e below (s₁.setTop (mkF m 21 #[.val (.int p0), .val (.int p1), .val (.int p2), .val (.int a1), .val (.int b1), .unset, .unset, .unset, .unset, .unset, .unset, .unset, .unset, .unset, .unset, .unset, .unset, .unset, .unset, .unset, .unset, .unset, .unset, .unset, .unset, .unset, .unset, .unset, .unset, .unset, .unset, .unset, .unset, .unset, .unset, .unset] [(.int (p2 <<< ((10 : Int32) &&& 31)))])) _
    refine XS.bipush X0.here hx rfl (hb hby at_21) ?_
    refine XS.ishr X0.here hx rfl (hb hby at_23) rfl ?_
    show Steps p.tables e below (s₁.setTop (mkF m 24 #[.val (.int p0), .val (.int p1), .val (.int p2), .val (.int a1), .val (.int b1), .unset, .unset, .unset, .unset, .unset, .unset, .unset, .unset, .unset, .unset, .unset, .unset, .unset, .unset, .unset, .unset, .unset, .unset, .unset, .unset, .unset, .unset, .unset, .unset, .unset, .unset, .unset, .unset, .unset, .unset, .unset] [(.int ((p2 <<< ((10 : Int32) &&& 31)) >>> ((10 : Int32) &&& 31)))])) _
    rw [hc0]
    show Steps p.tables e below (s₁.setTop (mkF m 24 #[.val (.int p0), .val (.int p1), .val (.int p2), .val (.int a1), .val (.int b1), .unset, .unset, .unset, .unset, .unset, .unset, .unset, .unset, .unset, .unset, .unset, .unset, .unset, .unset, .unset, .unset, .unset, .unset, .unset, .unset, .unset, .unset, .unset, .unset, .unset, .unset, .unset, .unset, .unset, .unset, .unset] [(.int c0)])) _
    refine XS.istore X0.here hx rfl (hb hby at_24) rfl (l' := #[.val (.int p0), .val (.int p1), .val (.int p2), .val (.int a1), .val (.int b1), .val (.int c0), .unset, .unset, .unset, .unset, .unset, .unset, .unset, .unset, .unset, .unset, .unset, .unset, .unset, .unset, .unset, .unset, .unset, .unset, .unset, .unset, .unset, .unset, .unset, .unset, .unset, .unset, .unset, .unset, .unset, .unset]) rfl ?_
    show Steps p.tables e below (s₁.setTop (mkF m 26 #[.val (.int p0), .val (.int p1), .val (.int p2), .val (.int a1), .val (.int b1), .val (.int c0), .unset, .unset, .unset, .unset, .unset, .unset, .unset, .unset, .unset, .unset, .unset, .unset, .unset, .unset, .unset, .unset, .unset, .unset, .unset, .unset, .unset, .unset, .unset, .unset, .unset, .unset, .unset, .unset, .unset, .unset] [])) _
    refine XS.iloadN X0.here hx rfl (hb hby at_26) rfl ?_
    refine XS.iload X0.here hx rfl (hb hby at_27) rfl ?_
    refine XS.iadd X0.here hx rfl (hb hby at_29) rfl ?_
    show Steps p.tables e below (s₁.setTop (mkF m 30 #[.val (.int p0), .val (.int p1), .val (.int p2), .val (.int a1), .val (.int b1), .val (.int c0), .unset, .unset, .unset, .unset, .unset, .unset, .unset, .unset, .unset, .unset, .unset, .unset, .unset, .unset, .unset, .unset, .unset, .unset, .unset, .unset, .unset, .unset, .unset, .unset, .unset, .unset, .unset, .unset, .unset, .unset] [(.int (a1 + b1))])) _
    refine XS.iload X0.here hx rfl (hb hby at_30) rfl ?_
    refine XS.iadd X0.here hx rfl (hb hby at_32) rfl ?_
    show Steps p.tables e below (s₁.setTop (mkF m 33 #[.val (.int p0), .val (.int p1), .val (.int p2), .val (.int a1), .val (.int b1), .val (.int c0), .unset, .unset, .unset, .unset, .unset, .unset, .unset, .unset, .unset, .unset, .unset, .unset, .unset, .unset, .unset, .unset, .unset, .unset, .unset, .unset, .unset, .unset, .unset, .unset, .unset, .unset, .unset, .unset, .unset, .unset] [(.int ((a1 + b1) + c0))])) _
    refine XS.iconst X0.here hx rfl (hb hby at_33) ?_
    refine XS.irem X0.here hx rfl (hb hby at_34) rfl (by decide) ?_
    show Steps p.tables e below (s₁.setTop (mkF m 35 #[.val (.int p0), .val (.int p1), .val (.int p2), .val (.int a1), .val (.int b1), .val (.int c0), .unset, .unset, .unset, .unset, .unset, .unset, .unset, .unset, .unset, .unset, .unset, .unset, .unset, .unset, .unset, .unset, .unset, .unset, .unset, .unset, .unset, .unset, .unset, .unset, .unset, .unset, .unset, .unset, .unset, .unset] [(.int (((a1 + b1) + c0) - ((((a1 + b1) + c0) / (3 : Int32)) * (3 : Int32))))])) _
    refine XS.iconst X0.here hx rfl (hb hby at_35) ?_
    refine XS.iadd X0.here hx rfl (hb hby at_36) rfl ?_
    show Steps p.tables e below (s₁.setTop (mkF m 37 #[.val (.int p0), .val (.int p1), .val (.int p2), .val (.int a1), .val (.int b1), .val (.int c0), .unset, .unset, .unset, .unset, .unset, .unset, .unset, .unset, .unset, .unset, .unset, .unset, .unset, .unset, .unset, .unset, .unset, .unset, .unset, .unset, .unset, .unset, .unset, .unset, .unset, .unset, .unset, .unset, .unset, .unset] [(.int ((((a1 + b1) + c0) - ((((a1 + b1) + c0) / (3 : Int32)) * (3 : Int32))) + (3 : Int32)))])) _
    refine XS.iconst X0.here hx rfl (hb hby at_37) ?_
    refine XS.irem X0.here hx rfl (hb hby at_38) rfl (by decide) ?_
    show Steps p.tables e below (s₁.setTop (mkF m 39 #[.val (.int p0), .val (.int p1), .val (.int p2), .val (.int a1), .val (.int b1), .val (.int c0), .unset, .unset, .unset, .unset, .unset, .unset, .unset, .unset, .unset, .unset, .unset, .unset, .unset, .unset, .unset, .unset, .unset, .unset, .unset, .unset, .unset, .unset, .unset, .unset, .unset, .unset, .unset, .unset, .unset, .unset] [(.int (((((a1 + b1) + c0) - ((((a1 + b1) + c0) / (3 : Int32)) * (3 : Int32))) + (3 : Int32)) - ((((((a1 + b1) + c0) - ((((a1 + b1) + c0) / (3 : Int32)) * (3 : Int32))) + (3 : Int32)) / (3 : Int32)) * (3 : Int32))))])) _
    refine XS.istore X0.here hx rfl (hb hby at_39) rfl (l' := #[.val (.int p0), .val (.int p1), .val (.int p2), .val (.int a1), .val (.int b1), .val (.int c0), .val (.int (((((a1 + b1) + c0) - ((((a1 + b1) + c0) / (3 : Int32)) * (3 : Int32))) + (3 : Int32)) - ((((((a1 + b1) + c0) - ((((a1 + b1) + c0) / (3 : Int32)) * (3 : Int32))) + (3 : Int32)) / (3 : Int32)) * (3 : Int32)))), .unset, .unset, .unset, .unset, .unset, .unset, .unset, .unset, .unset, .unset, .unset, .unset, .unset, .unset, .unset, .unset, .unset, .unset, .unset, .unset, .unset, .unset, .unset, .unset, .unset, .unset, .unset, .unset, .unset]) rfl ?_
    show Steps p.tables e below (s₁.setTop (mkF m 41 #[.val (.int p0), .val (.int p1), .val (.int p2), .val (.int a1), .val (.int b1), .val (.int c0), .val (.int (((((a1 + b1) + c0) - ((((a1 + b1) + c0) / (3 : Int32)) * (3 : Int32))) + (3 : Int32)) - ((((((a1 + b1) + c0) - ((((a1 + b1) + c0) / (3 : Int32)) * (3 : Int32))) + (3 : Int32)) / (3 : Int32)) * (3 : Int32)))), .unset, .unset, .unset, .unset, .unset, .unset, .unset, .unset, .unset, .unset, .unset, .unset, .unset, .unset, .unset, .unset, .unset, .unset, .unset, .unset, .unset, .unset, .unset, .unset, .unset, .unset, .unset, .unset, .unset] [])) _
    refine XS.iload X0.here hx rfl (hb hby at_41) rfl ?_
    refine XS.iload X0.here hx rfl (hb hby at_43) rfl ?_
    refine XS.isub X0.here hx rfl (hb hby at_45) rfl ?_
    show Steps p.tables e below (s₁.setTop (mkF m 46 #[.val (.int p0), .val (.int p1), .val (.int p2), .val (.int a1), .val (.int b1), .val (.int c0), .val (.int (((((a1 + b1) + c0) - ((((a1 + b1) + c0) / (3 : Int32)) * (3 : Int32))) + (3 : Int32)) - ((((((a1 + b1) + c0) - ((((a1 + b1) + c0) / (3 : Int32)) * (3 : Int32))) + (3 : Int32)) / (3 : Int32)) * (3 : Int32)))), .unset, .unset, .unset, .unset, .unset, .unset, .unset, .unset, .unset, .unset, .unset, .unset, .unset, .unset, .unset, .unset, .unset, .unset, .unset, .unset, .unset, .unset, .unset, .unset, .unset, .unset, .unset, .unset, .unset] [(.int (c0 - (((((a1 + b1) + c0) - ((((a1 + b1) + c0) / (3 : Int32)) * (3 : Int32))) + (3 : Int32)) - ((((((a1 + b1) + c0) - ((((a1 + b1) + c0) / (3 : Int32)) * (3 : Int32))) + (3 : Int32)) / (3 : Int32)) * (3 : Int32)))))])) _
    rw [hc1]
    show Steps p.tables e below (s₁.setTop (mkF m 46 #[.val (.int p0), .val (.int p1), .val (.int p2), .val (.int a1), .val (.int b1), .val (.int c0), .val (.int (((((a1 + b1) + c0) - ((((a1 + b1) + c0) / (3 : Int32)) * (3 : Int32))) + (3 : Int32)) - ((((((a1 + b1) + c0) - ((((a1 + b1) + c0) / (3 : Int32)) * (3 : Int32))) + (3 : Int32)) / (3 : Int32)) * (3 : Int32)))), .unset, .unset, .unset, .unset, .unset, .unset, .unset, .unset, .unset, .unset, .unset, .unset, .unset, .unset, .unset, .unset, .unset, .unset, .unset, .unset, .unset, .unset, .unset, .unset, .unset, .unset, .unset, .unset, .unset] [(.int c1)])) _
    refine XS.istore X0.here hx rfl (hb hby at_46) rfl (l' := #[.val (.int p0), .val (.int p1), .val (.int p2), .val (.int a1), .val (.int b1), .val (.int c0), .val (.int (((((a1 + b1) + c0) - ((((a1 + b1) + c0) / (3 : Int32)) * (3 : Int32))) + (3 : Int32)) - ((((((a1 + b1) + c0) - ((((a1 + b1) + c0) / (3 : Int32)) * (3 : Int32))) + (3 : Int32)) / (3 : Int32)) * (3 : Int32)))), .val (.int c1), .unset, .unset, .unset, .unset, .unset, .unset, .unset, .unset, .unset, .unset, .unset, .unset, .unset, .unset, .unset, .unset, .unset, .unset, .unset, .unset, .unset, .unset, .unset, .unset, .unset, .unset, .unset, .unset]) rfl ?_
    show Steps p.tables e below (s₁.setTop (mkF m 48 #[.val (.int p0), .val (.int p1), .val (.int p2), .val (.int a1), .val (.int b1), .val (.int c0), .val (.int (((((a1 + b1) + c0) - ((((a1 + b1) + c0) / (3 : Int32)) * (3 : Int32))) + (3 : Int32)) - ((((((a1 + b1) + c0) - ((((a1 + b1) + c0) / (3 : Int32)) * (3 : Int32))) + (3 : Int32)) / (3 : Int32)) * (3 : Int32)))), .val (.int c1), .unset, .unset, .unset, .unset, .unset, .unset, .unset, .unset, .unset, .unset, .unset, .unset, .unset, .unset, .unset, .unset, .unset, .unset, .unset, .unset, .unset, .unset, .unset, .unset, .unset, .unset, .unset, .unset] [])) _
    refine st1_ _ ?_
    show Steps p.tables e below (T1_.setTop (mkF m 51 #[.val (.int p0), .val (.int p1), .val (.int p2), .val (.int a1), .val (.int b1), .val (.int c0), .val (.int (((((a1 + b1) + c0) - ((((a1 + b1) + c0) / (3 : Int32)) * (3 : Int32))) + (3 : Int32)) - ((((((a1 + b1) + c0) - ((((a1 + b1) + c0) / (3 : Int32)) * (3 : Int32))) + (3 : Int32)) / (3 : Int32)) * (3 : Int32)))), .val (.int c1), .unset, .unset, .unset, .unset, .unset, .unset, .unset, .unset, .unset, .unset, .unset, .unset, .unset, .unset, .unset, .unset, .unset, .unset, .unset, .unset, .unset, .unset, .unset, .unset, .unset, .unset, .unset, .unset] [(.ref b1_)])) _
    refine XS.dup X1_.here hx rfl (hb hby at_51) rfl rfl ?_
    show Steps p.tables e below (T1_.setTop (mkF m 52 #[.val (.int p0), .val (.int p1), .val (.int p2), .val (.int a1), .val (.int b1), .val (.int c0), .val (.int (((((a1 + b1) + c0) - ((((a1 + b1) + c0) / (3 : Int32)) * (3 : Int32))) + (3 : Int32)) - ((((((a1 + b1) + c0) - ((((a1 + b1) + c0) / (3 : Int32)) * (3 : Int32))) + (3 : Int32)) / (3 : Int32)) * (3 : Int32)))), .val (.int c1), .unset, .unset, .unset, .unset, .unset, .unset, .unset, .unset, .unset, .unset, .unset, .unset, .unset, .unset, .unset, .unset, .unset, .unset, .unset, .unset, .unset, .unset, .unset, .unset, .unset, .unset, .unset, .unset] [(.ref b1_), (.ref b1_)])) _
    refine st2_.trans ?_
    show Steps p.tables e below (T2_.setTop (mkF m 55 #[.val (.int p0), .val (.int p1), .val (.int p2), .val (.int a1), .val (.int b1), .val (.int c0), .val (.int (((((a1 + b1) + c0) - ((((a1 + b1) + c0) / (3 : Int32)) * (3 : Int32))) + (3 : Int32)) - ((((((a1 + b1) + c0) - ((((a1 + b1) + c0) / (3 : Int32)) * (3 : Int32))) + (3 : Int32)) / (3 : Int32)) * (3 : Int32)))), .val (.int c1), .unset, .unset, .unset, .unset, .unset, .unset, .unset, .unset, .unset, .unset, .unset, .unset, .unset, .unset, .unset, .unset, .unset, .unset, .unset, .unset, .unset, .unset, .unset, .unset, .unset, .unset, .unset, .unset] [(.ref b1_)])) _
    refine XS.astore X2_.here hx rfl (hb hby at_55) rfl rfl (l' := #[.val (.int p0), .val (.int p1), .val (.int p2), .val (.int a1), .val (.int b1), .val (.int c0), .val (.int (((((a1 + b1) + c0) - ((((a1 + b1) + c0) / (3 : Int32)) * (3 : Int32))) + (3 : Int32)) - ((((((a1 + b1) + c0) - ((((a1 + b1) + c0) / (3 : Int32)) * (3 : Int32))) + (3 : Int32)) / (3 : Int32)) * (3 : Int32)))), .val (.int c1), .val (.ref b1_), .unset, .unset, .unset, .unset, .unset, .unset, .unset, .unset, .unset, .unset, .unset, .unset, .unset, .unset, .unset, .unset, .unset, .unset, .unset, .unset, .unset, .unset, .unset, .unset, .unset, .unset, .unset]) rfl ?_
    show Steps p.tables e below (T2_.setTop (mkF m 57 #[.val (.int p0), .val (.int p1), .val (.int p2), .val (.int a1), .val (.int b1), .val (.int c0), .val (.int (((((a1 + b1) + c0) - ((((a1 + b1) + c0) / (3 : Int32)) * (3 : Int32))) + (3 : Int32)) - ((((((a1 + b1) + c0) - ((((a1 + b1) + c0) / (3 : Int32)) * (3 : Int32))) + (3 : Int32)) / (3 : Int32)) * (3 : Int32)))), .val (.int c1), .val (.ref b1_), .unset, .unset, .unset, .unset, .unset, .unset, .unset, .unset, .unset, .unset, .unset, .unset, .unset, .unset, .unset, .unset, .unset, .unset, .unset, .unset, .unset, .unset, .unset, .unset, .unset, .unset, .unset] [])) _
    refine XS.aload X2_.here hx rfl (hb hby at_57) rfl rfl ?_
    refine XS.iloadN X2_.here hx rfl (hb hby at_59) rfl ?_
    refine XS.i2dS X2_.here hx rfl (hb hby at_60) rfl (v := d4_) hd4_ ?_
    show Steps p.tables e below (T2_.setTop (mkF m 61 #[.val (.int p0), .val (.int p1), .val (.int p2), .val (.int a1), .val (.int b1), .val (.int c0), .val (.int (((((a1 + b1) + c0) - ((((a1 + b1) + c0) / (3 : Int32)) * (3 : Int32))) + (3 : Int32)) - ((((((a1 + b1) + c0) - ((((a1 + b1) + c0) / (3 : Int32)) * (3 : Int32))) + (3 : Int32)) / (3 : Int32)) * (3 : Int32)))), .val (.int c1), .val (.ref b1_), .unset, .unset, .unset, .unset, .unset, .unset, .unset, .unset, .unset, .unset, .unset, .unset, .unset, .unset, .unset, .unset, .unset, .unset, .unset, .unset, .unset, .unset, .unset, .unset, .unset, .unset, .unset] [(.double d4_), (.ref b1_)])) _
    refine st5_.trans ?_
    show Steps p.tables e below (T5_.setTop (mkF m 64 #[.val (.int p0), .val (.int p1), .val (.int p2), .val (.int a1), .val (.int b1), .val (.int c0), .val (.int (((((a1 + b1) + c0) - ((((a1 + b1) + c0) / (3 : Int32)) * (3 : Int32))) + (3 : Int32)) - ((((((a1 + b1) + c0) - ((((a1 + b1) + c0) / (3 : Int32)) * (3 : Int32))) + (3 : Int32)) / (3 : Int32)) * (3 : Int32)))), .val (.int c1), .val (.ref b1_), .unset, .unset, .unset, .unset, .unset, .unset, .unset, .unset, .unset, .unset, .unset, .unset, .unset, .unset, .unset, .unset, .unset, .unset, .unset, .unset, .unset, .unset, .unset, .unset, .unset, .unset, .unset] [])) _
    refine XS.aload X5_.here hx rfl (hb hby at_64) rfl rfl ?_
    refine st8_.trans ?_
    show Steps p.tables e below (T8_.setTop (mkF m 69 #[.val (.int p0), .val (.int p1), .val (.int p2), .val (.int a1), .val (.int b1), .val (.int c0), .val (.int (((((a1 + b1) + c0) - ((((a1 + b1) + c0) / (3 : Int32)) * (3 : Int32))) + (3 : Int32)) - ((((((a1 + b1) + c0) - ((((a1 + b1) + c0) / (3 : Int32)) * (3 : Int32))) + (3 : Int32)) / (3 : Int32)) * (3 : Int32)))), .val (.int c1), .val (.ref b1_), .unset, .unset, .unset, .unset, .unset, .unset, .unset, .unset, .unset, .unset, .unset, .unset, .unset, .unset, .unset, .unset, .unset, .unset, .unset, .unset, .unset, .unset, .unset, .unset, .unset, .unset, .unset] [(.double m2_5_)])) _
    refine XS.dstore X8_.here hx rfl (hb hby at_69) rfl (l' := #[.val (.int p0), .val (.int p1), .val (.int p2), .val (.int a1), .val (.int b1), .val (.int c0), .val (.int (((((a1 + b1) + c0) - ((((a1 + b1) + c0) / (3 : Int32)) * (3 : Int32))) + (3 : Int32)) - ((((((a1 + b1) + c0) - ((((a1 + b1) + c0) / (3 : Int32)) * (3 : Int32))) + (3 : Int32)) / (3 : Int32)) * (3 : Int32)))), .val (.int c1), .val (.ref b1_), .val (.double m2_5_), .second, .unset, .unset, .unset, .unset, .unset, .unset, .unset, .unset, .unset, .unset, .unset, .unset, .unset, .unset, .unset, .unset, .unset, .unset, .unset, .unset, .unset, .unset, .unset, .unset, .unset]) rfl ?_
    show Steps p.tables e below (T8_.setTop (mkF m 71 #[.val (.int p0), .val (.int p1), .val (.int p2), .val (.int a1), .val (.int b1), .val (.int c0), .val (.int (((((a1 + b1) + c0) - ((((a1 + b1) + c0) / (3 : Int32)) * (3 : Int32))) + (3 : Int32)) - ((((((a1 + b1) + c0) - ((((a1 + b1) + c0) / (3 : Int32)) * (3 : Int32))) + (3 : Int32)) / (3 : Int32)) * (3 : Int32)))), .val (.int c1), .val (.ref b1_), .val (.double m2_5_), .second, .unset, .unset, .unset, .unset, .unset, .unset, .unset, .unset, .unset, .unset, .unset, .unset, .unset, .unset, .unset, .unset, .unset, .unset, .unset, .unset, .unset, .unset, .unset, .unset, .unset] [])) _
    refine XS.aload X8_.here hx rfl (hb hby at_71) rfl rfl ?_
    refine st12_.trans ?_
    show Steps p.tables e below (T12_.setTop (mkF m 76 #[.val (.int p0), .val (.int p1), .val (.int p2), .val (.int a1), .val (.int b1), .val (.int c0), .val (.int (((((a1 + b1) + c0) - ((((a1 + b1) + c0) / (3 : Int32)) * (3 : Int32))) + (3 : Int32)) - ((((((a1 + b1) + c0) - ((((a1 + b1) + c0) / (3 : Int32)) * (3 : Int32))) + (3 : Int32)) / (3 : Int32)) * (3 : Int32)))), .val (.int c1), .val (.ref b1_), .val (.double m2_5_), .second, .unset, .unset, .unset, .unset, .unset, .unset, .unset, .unset, .unset, .unset, .unset, .unset, .unset, .unset, .unset, .unset, .unset, .unset, .unset, .unset, .unset, .unset, .unset, .unset, .unset] [(.double (9221120237041090560 : UInt64))])) _
    refine XS.dstore X12_.here hx rfl (hb hby at_76) rfl (l' := #[.val (.int p0), .val (.int p1), .val (.int p2), .val (.int a1), .val (.int b1), .val (.int c0), .val (.int (((((a1 + b1) + c0) - ((((a1 + b1) + c0) / (3 : Int32)) * (3 : Int32))) + (3 : Int32)) - ((((((a1 + b1) + c0) - ((((a1 + b1) + c0) / (3 : Int32)) * (3 : Int32))) + (3 : Int32)) / (3 : Int32)) * (3 : Int32)))), .val (.int c1), .val (.ref b1_), .val (.double m2_5_), .second, .val (.double (9221120237041090560 : UInt64)), .second, .unset, .unset, .unset, .unset, .unset, .unset, .unset, .unset, .unset, .unset, .unset, .unset, .unset, .unset, .unset, .unset, .unset, .unset, .unset, .unset, .unset, .unset, .unset]) rfl ?_
    show Steps p.tables e below (T12_.setTop (mkF m 78 #[.val (.int p0), .val (.int p1), .val (.int p2), .val (.int a1), .val (.int b1), .val (.int c0), .val (.int (((((a1 + b1) + c0) - ((((a1 + b1) + c0) / (3 : Int32)) * (3 : Int32))) + (3 : Int32)) - ((((((a1 + b1) + c0) - ((((a1 + b1) + c0) / (3 : Int32)) * (3 : Int32))) + (3 : Int32)) / (3 : Int32)) * (3 : Int32)))), .val (.int c1), .val (.ref b1_), .val (.double m2_5_), .second, .val (.double (9221120237041090560 : UInt64)), .second, .unset, .unset, .unset, .unset, .unset, .unset, .unset, .unset, .unset, .unset, .unset, .unset, .unset, .unset, .unset, .unset, .unset, .unset, .unset, .unset, .unset, .unset, .unset] [])) _
    refine XS.aload X12_.here hx rfl (hb hby at_78) rfl rfl ?_
    refine XS.iload X12_.here hx rfl (hb hby at_80) rfl ?_
    refine XS.i2dS X12_.here hx rfl (hb hby at_82) rfl (v := d14_) hd14_ ?_
    show Steps p.tables e below (T12_.setTop (mkF m 83 #[.val (.int p0), .val (.int p1), .val (.int p2), .val (.int a1), .val (.int b1), .val (.int c0), .val (.int (((((a1 + b1) + c0) - ((((a1 + b1) + c0) / (3 : Int32)) * (3 : Int32))) + (3 : Int32)) - ((((((a1 + b1) + c0) - ((((a1 + b1) + c0) / (3 : Int32)) * (3 : Int32))) + (3 : Int32)) / (3 : Int32)) * (3 : Int32)))), .val (.int c1), .val (.ref b1_), .val (.double m2_5_), .second, .val (.double (9221120237041090560 : UInt64)), .second, .unset, .unset, .unset, .unset, .unset, .unset, .unset, .unset, .unset, .unset, .unset, .unset, .unset, .unset, .unset, .unset, .unset, .unset, .unset, .unset, .unset, .unset, .unset] [(.double d14_), (.ref b1_)])) _
    refine st15_.trans ?_
    show Steps p.tables e below (T15_.setTop (mkF m 86 #[.val (.int p0), .val (.int p1), .val (.int p2), .val (.int a1), .val (.int b1), .val (.int c0), .val (.int (((((a1 + b1) + c0) - ((((a1 + b1) + c0) / (3 : Int32)) * (3 : Int32))) + (3 : Int32)) - ((((((a1 + b1) + c0) - ((((a1 + b1) + c0) / (3 : Int32)) * (3 : Int32))) + (3 : Int32)) / (3 : Int32)) * (3 : Int32)))), .val (.int c1), .val (.ref b1_), .val (.double m2_5_), .second, .val (.double (9221120237041090560 : UInt64)), .second, .unset, .unset, .unset, .unset, .unset, .unset, .unset, .unset, .unset, .unset, .unset, .unset, .unset, .unset, .unset, .unset, .unset, .unset, .unset, .unset, .unset, .unset, .unset] [])) _
    refine XS.aload X15_.here hx rfl (hb hby at_86) rfl rfl ?_
    refine st17_.trans ?_
    show Steps p.tables e below (T17_.setTop (mkF m 91 #[.val (.int p0), .val (.int p1), .val (.int p2), .val (.int a1), .val (.int b1), .val (.int c0), .val (.int (((((a1 + b1) + c0) - ((((a1 + b1) + c0) / (3 : Int32)) * (3 : Int32))) + (3 : Int32)) - ((((((a1 + b1) + c0) - ((((a1 + b1) + c0) / (3 : Int32)) * (3 : Int32))) + (3 : Int32)) / (3 : Int32)) * (3 : Int32)))), .val (.int c1), .val (.ref b1_), .val (.double m2_5_), .second, .val (.double (9221120237041090560 : UInt64)), .second, .unset, .unset, .unset, .unset, .unset, .unset, .unset, .unset, .unset, .unset, .unset, .unset, .unset, .unset, .unset, .unset, .unset, .unset, .unset, .unset, .unset, .unset, .unset] [(.double m2_15_)])) _
    refine XS.dstore X17_.here hx rfl (hb hby at_91) rfl (l' := #[.val (.int p0), .val (.int p1), .val (.int p2), .val (.int a1), .val (.int b1), .val (.int c0), .val (.int (((((a1 + b1) + c0) - ((((a1 + b1) + c0) / (3 : Int32)) * (3 : Int32))) + (3 : Int32)) - ((((((a1 + b1) + c0) - ((((a1 + b1) + c0) / (3 : Int32)) * (3 : Int32))) + (3 : Int32)) / (3 : Int32)) * (3 : Int32)))), .val (.int c1), .val (.ref b1_), .val (.double m2_5_), .second, .val (.double (9221120237041090560 : UInt64)), .second, .val (.double m2_15_), .second, .unset, .unset, .unset, .unset, .unset, .unset, .unset, .unset, .unset, .unset, .unset, .unset, .unset, .unset, .unset, .unset, .unset, .unset, .unset, .unset, .unset]) rfl ?_
    show Steps p.tables e below (T17_.setTop (mkF m 93 #[.val (.int p0), .val (.int p1), .val (.int p2), .val (.int a1), .val (.int b1), .val (.int c0), .val (.int (((((a1 + b1) + c0) - ((((a1 + b1) + c0) / (3 : Int32)) * (3 : Int32))) + (3 : Int32)) - ((((((a1 + b1) + c0) - ((((a1 + b1) + c0) / (3 : Int32)) * (3 : Int32))) + (3 : Int32)) / (3 : Int32)) * (3 : Int32)))), .val (.int c1), .val (.ref b1_), .val (.double m2_5_), .second, .val (.double (9221120237041090560 : UInt64)), .second, .val (.double m2_15_), .second, .unset, .unset, .unset, .unset, .unset, .unset, .unset, .unset, .unset, .unset, .unset, .unset, .unset, .unset, .unset, .unset, .unset, .unset, .unset, .unset, .unset] [])) _
    refine XS.aload X17_.here hx rfl (hb hby at_93) rfl rfl ?_
    refine st21_.trans ?_
    show Steps p.tables e below (T21_.setTop (mkF m 98 #[.val (.int p0), .val (.int p1), .val (.int p2), .val (.int a1), .val (.int b1), .val (.int c0), .val (.int (((((a1 + b1) + c0) - ((((a1 + b1) + c0) / (3 : Int32)) * (3 : Int32))) + (3 : Int32)) - ((((((a1 + b1) + c0) - ((((a1 + b1) + c0) / (3 : Int32)) * (3 : Int32))) + (3 : Int32)) / (3 : Int32)) * (3 : Int32)))), .val (.int c1), .val (.ref b1_), .val (.double m2_5_), .second, .val (.double (9221120237041090560 : UInt64)), .second, .val (.double m2_15_), .second, .unset, .unset, .unset, .unset, .unset, .unset, .unset, .unset, .unset, .unset, .unset, .unset, .unset, .unset, .unset, .unset, .unset, .unset, .unset, .unset, .unset] [(.double rr_21_)])) _
    refine XS.dstore X21_.here hx rfl (hb hby at_98) rfl (l' := #[.val (.int p0), .val (.int p1), .val (.int p2), .val (.int a1), .val (.int b1), .val (.int c0), .val (.int (((((a1 + b1) + c0) - ((((a1 + b1) + c0) / (3 : Int32)) * (3 : Int32))) + (3 : Int32)) - ((((((a1 + b1) + c0) - ((((a1 + b1) + c0) / (3 : Int32)) * (3 : Int32))) + (3 : Int32)) / (3 : Int32)) * (3 : Int32)))), .val (.int c1), .val (.ref b1_), .val (.double m2_5_), .second, .val (.double (9221120237041090560 : UInt64)), .second, .val (.double m2_15_), .second, .val (.double rr_21_), .second, .unset, .unset, .unset, .unset, .unset, .unset, .unset, .unset, .unset, .unset, .unset, .unset, .unset, .unset, .unset, .unset, .unset, .unset, .unset]) rfl ?_
    show Steps p.tables e below (T21_.setTop (mkF m 100 #[.val (.int p0), .val (.int p1), .val (.int p2), .val (.int a1), .val (.int b1), .val (.int c0), .val (.int (((((a1 + b1) + c0) - ((((a1 + b1) + c0) / (3 : Int32)) * (3 : Int32))) + (3 : Int32)) - ((((((a1 + b1) + c0) - ((((a1 + b1) + c0) / (3 : Int32)) * (3 : Int32))) + (3 : Int32)) / (3 : Int32)) * (3 : Int32)))), .val (.int c1), .val (.ref b1_), .val (.double m2_5_), .second, .val (.double (9221120237041090560 : UInt64)), .second, .val (.double m2_15_), .second, .val (.double rr_21_), .second, .unset, .unset, .unset, .unset, .unset, .unset, .unset, .unset, .unset, .unset, .unset, .unset, .unset, .unset, .unset, .unset, .unset, .unset, .unset] [])) _
    refine XS.aload X21_.here hx rfl (hb hby at_100) rfl rfl ?_
    refine XS.iload X21_.here hx rfl (hb hby at_102) rfl ?_
    refine XS.i2dS X21_.here hx rfl (hb hby at_104) rfl (v := d23_) hd23_ ?_
    show Steps p.tables e below (T21_.setTop (mkF m 105 #[.val (.int p0), .val (.int p1), .val (.int p2), .val (.int a1), .val (.int b1), .val (.int c0), .val (.int (((((a1 + b1) + c0) - ((((a1 + b1) + c0) / (3 : Int32)) * (3 : Int32))) + (3 : Int32)) - ((((((a1 + b1) + c0) - ((((a1 + b1) + c0) / (3 : Int32)) * (3 : Int32))) + (3 : Int32)) / (3 : Int32)) * (3 : Int32)))), .val (.int c1), .val (.ref b1_), .val (.double m2_5_), .second, .val (.double (9221120237041090560 : UInt64)), .second, .val (.double m2_15_), .second, .val (.double rr_21_), .second, .unset, .unset, .unset, .unset, .unset, .unset, .unset, .unset, .unset, .unset, .unset, .unset, .unset, .unset, .unset, .unset, .unset, .unset, .unset] [(.double d23_), (.ref b1_)])) _
    refine st24_.trans ?_
    show Steps p.tables e below (T24_.setTop (mkF m 108 #[.val (.int p0), .val (.int p1), .val (.int p2), .val (.int a1), .val (.int b1), .val (.int c0), .val (.int (((((a1 + b1) + c0) - ((((a1 + b1) + c0) / (3 : Int32)) * (3 : Int32))) + (3 : Int32)) - ((((((a1 + b1) + c0) - ((((a1 + b1) + c0) / (3 : Int32)) * (3 : Int32))) + (3 : Int32)) / (3 : Int32)) * (3 : Int32)))), .val (.int c1), .val (.ref b1_), .val (.double m2_5_), .second, .val (.double (9221120237041090560 : UInt64)), .second, .val (.double m2_15_), .second, .val (.double rr_21_), .second, .unset, .unset, .unset, .unset, .unset, .unset, .unset, .unset, .unset, .unset, .unset, .unset, .unset, .unset, .unset, .unset, .unset, .unset, .unset] [])) _
    refine XS.aload X24_.here hx rfl (hb hby at_108) rfl rfl ?_
    refine st26_.trans ?_
    show Steps p.tables e below (T26_.setTop (mkF m 113 #[.val (.int p0), .val (.int p1), .val (.int p2), .val (.int a1), .val (.int b1), .val (.int c0), .val (.int (((((a1 + b1) + c0) - ((((a1 + b1) + c0) / (3 : Int32)) * (3 : Int32))) + (3 : Int32)) - ((((((a1 + b1) + c0) - ((((a1 + b1) + c0) / (3 : Int32)) * (3 : Int32))) + (3 : Int32)) / (3 : Int32)) * (3 : Int32)))), .val (.int c1), .val (.ref b1_), .val (.double m2_5_), .second, .val (.double (9221120237041090560 : UInt64)), .second, .val (.double m2_15_), .second, .val (.double rr_21_), .second, .unset, .unset, .unset, .unset, .unset, .unset, .unset, .unset, .unset, .unset, .unset, .unset, .unset, .unset, .unset, .unset, .unset, .unset, .unset] [(.double m2_24_)])) _
    refine XS.dstore X26_.here hx rfl (hb hby at_113) rfl (l' := #[.val (.int p0), .val (.int p1), .val (.int p2), .val (.int a1), .val (.int b1), .val (.int c0), .val (.int (((((a1 + b1) + c0) - ((((a1 + b1) + c0) / (3 : Int32)) * (3 : Int32))) + (3 : Int32)) - ((((((a1 + b1) + c0) - ((((a1 + b1) + c0) / (3 : Int32)) * (3 : Int32))) + (3 : Int32)) / (3 : Int32)) * (3 : Int32)))), .val (.int c1), .val (.ref b1_), .val (.double m2_5_), .second, .val (.double (9221120237041090560 : UInt64)), .second, .val (.double m2_15_), .second, .val (.double rr_21_), .second, .val (.double m2_24_), .second, .unset, .unset, .unset, .unset, .unset, .unset, .unset, .unset, .unset, .unset, .unset, .unset, .unset, .unset, .unset, .unset, .unset]) rfl ?_
    show Steps p.tables e below (T26_.setTop (mkF m 115 #[.val (.int p0), .val (.int p1), .val (.int p2), .val (.int a1), .val (.int b1), .val (.int c0), .val (.int (((((a1 + b1) + c0) - ((((a1 + b1) + c0) / (3 : Int32)) * (3 : Int32))) + (3 : Int32)) - ((((((a1 + b1) + c0) - ((((a1 + b1) + c0) / (3 : Int32)) * (3 : Int32))) + (3 : Int32)) / (3 : Int32)) * (3 : Int32)))), .val (.int c1), .val (.ref b1_), .val (.double m2_5_), .second, .val (.double (9221120237041090560 : UInt64)), .second, .val (.double m2_15_), .second, .val (.double rr_21_), .second, .val (.double m2_24_), .second, .unset, .unset, .unset, .unset, .unset, .unset, .unset, .unset, .unset, .unset, .unset, .unset, .unset, .unset, .unset, .unset, .unset] [])) _
    refine XS.aload X26_.here hx rfl (hb hby at_115) rfl rfl ?_
    refine st30_.trans ?_
    show Steps p.tables e below (T30_.setTop (mkF m 120 #[.val (.int p0), .val (.int p1), .val (.int p2), .val (.int a1), .val (.int b1), .val (.int c0), .val (.int (((((a1 + b1) + c0) - ((((a1 + b1) + c0) / (3 : Int32)) * (3 : Int32))) + (3 : Int32)) - ((((((a1 + b1) + c0) - ((((a1 + b1) + c0) / (3 : Int32)) * (3 : Int32))) + (3 : Int32)) / (3 : Int32)) * (3 : Int32)))), .val (.int c1), .val (.ref b1_), .val (.double m2_5_), .second, .val (.double (9221120237041090560 : UInt64)), .second, .val (.double m2_15_), .second, .val (.double rr_21_), .second, .val (.double m2_24_), .second, .unset, .unset, .unset, .unset, .unset, .unset, .unset, .unset, .unset, .unset, .unset, .unset, .unset, .unset, .unset, .unset, .unset] [(.double rr_30_)])) _
    refine XS.dstore X30_.here hx rfl (hb hby at_120) rfl (l' := #[.val (.int p0), .val (.int p1), .val (.int p2), .val (.int a1), .val (.int b1), .val (.int c0), .val (.int (((((a1 + b1) + c0) - ((((a1 + b1) + c0) / (3 : Int32)) * (3 : Int32))) + (3 : Int32)) - ((((((a1 + b1) + c0) - ((((a1 + b1) + c0) / (3 : Int32)) * (3 : Int32))) + (3 : Int32)) / (3 : Int32)) * (3 : Int32)))), .val (.int c1), .val (.ref b1_), .val (.double m2_5_), .second, .val (.double (9221120237041090560 : UInt64)), .second, .val (.double m2_15_), .second, .val (.double rr_21_), .second, .val (.double m2_24_), .second, .val (.double rr_30_), .second, .unset, .unset, .unset, .unset, .unset, .unset, .unset, .unset, .unset, .unset, .unset, .unset, .unset, .unset, .unset]) rfl ?_
    show Steps p.tables e below (T30_.setTop (mkF m 122 #[.val (.int p0), .val (.int p1), .val (.int p2), .val (.int a1), .val (.int b1), .val (.int c0), .val (.int (((((a1 + b1) + c0) - ((((a1 + b1) + c0) / (3 : Int32)) * (3 : Int32))) + (3 : Int32)) - ((((((a1 + b1) + c0) - ((((a1 + b1) + c0) / (3 : Int32)) * (3 : Int32))) + (3 : Int32)) / (3 : Int32)) * (3 : Int32)))), .val (.int c1), .val (.ref b1_), .val (.double m2_5_), .second, .val (.double (9221120237041090560 : UInt64)), .second, .val (.double m2_15_), .second, .val (.double rr_21_), .second, .val (.double m2_24_), .second, .val (.double rr_30_), .second, .unset, .unset, .unset, .unset, .unset, .unset, .unset, .unset, .unset, .unset, .unset, .unset, .unset, .unset, .unset] [])) _
    refine XS.iload X30_.here hx rfl (hb hby at_122) rfl ?_
    refine XS.i2l X30_.here hx rfl (hb hby at_124) rfl ?_
    show Steps p.tables e below (T30_.setTop (mkF m 125 #[.val (.int p0), .val (.int p1), .val (.int p2), .val (.int a1), .val (.int b1), .val (.int c0), .val (.int (((((a1 + b1) + c0) - ((((a1 + b1) + c0) / (3 : Int32)) * (3 : Int32))) + (3 : Int32)) - ((((((a1 + b1) + c0) - ((((a1 + b1) + c0) / (3 : Int32)) * (3 : Int32))) + (3 : Int32)) / (3 : Int32)) * (3 : Int32)))), .val (.int c1), .val (.ref b1_), .val (.double m2_5_), .second, .val (.double (9221120237041090560 : UInt64)), .second, .val (.double m2_15_), .second, .val (.double rr_21_), .second, .val (.double m2_24_), .second, .val (.double rr_30_), .second, .unset, .unset, .unset, .unset, .unset, .unset, .unset, .unset, .unset, .unset, .unset, .unset, .unset, .unset, .unset] [(.long (b1.toInt64))])) _
    refine XS.iloadN X30_.here hx rfl (hb hby at_125) rfl ?_
    refine XS.i2l X30_.here hx rfl (hb hby at_126) rfl ?_
    show Steps p.tables e below (T30_.setTop (mkF m 127 #[.val (.int p0), .val (.int p1), .val (.int p2), .val (.int a1), .val (.int b1), .val (.int c0), .val (.int (((((a1 + b1) + c0) - ((((a1 + b1) + c0) / (3 : Int32)) * (3 : Int32))) + (3 : Int32)) - ((((((a1 + b1) + c0) - ((((a1 + b1) + c0) / (3 : Int32)) * (3 : Int32))) + (3 : Int32)) / (3 : Int32)) * (3 : Int32)))), .val (.int c1), .val (.ref b1_), .val (.double m2_5_), .second, .val (.double (9221120237041090560 : UInt64)), .second, .val (.double m2_15_), .second, .val (.double rr_21_), .second, .val (.double m2_24_), .second, .val (.double rr_30_), .second, .unset, .unset, .unset, .unset, .unset, .unset, .unset, .unset, .unset, .unset, .unset, .unset, .unset, .unset, .unset] [(.long (a1.toInt64)), (.long (b1.toInt64))])) _
    refine XS.lsub X30_.here hx rfl (hb hby at_127) rfl ?_
    show Steps p.tables e below (T30_.setTop (mkF m 128 #[.val (.int p0), .val (.int p1), .val (.int p2), .val (.int a1), .val (.int b1), .val (.int c0), .val (.int (((((a1 + b1) + c0) - ((((a1 + b1) + c0) / (3 : Int32)) * (3 : Int32))) + (3 : Int32)) - ((((((a1 + b1) + c0) - ((((a1 + b1) + c0) / (3 : Int32)) * (3 : Int32))) + (3 : Int32)) / (3 : Int32)) * (3 : Int32)))), .val (.int c1), .val (.ref b1_), .val (.double m2_5_), .second, .val (.double (9221120237041090560 : UInt64)), .second, .val (.double m2_15_), .second, .val (.double rr_21_), .second, .val (.double m2_24_), .second, .val (.double rr_30_), .second, .unset, .unset, .unset, .unset, .unset, .unset, .unset, .unset, .unset, .unset, .unset, .unset, .unset, .unset, .unset] [(.long ((b1.toInt64) - (a1.toInt64)))])) _
    refine XS.lstore X30_.here hx rfl (hb hby at_128) rfl (l' := #[.val (.int p0), .val (.int p1), .val (.int p2), .val (.int a1), .val (.int b1), .val (.int c0), .val (.int (((((a1 + b1) + c0) - ((((a1 + b1) + c0) / (3 : Int32)) * (3 : Int32))) + (3 : Int32)) - ((((((a1 + b1) + c0) - ((((a1 + b1) + c0) / (3 : Int32)) * (3 : Int32))) + (3 : Int32)) / (3 : Int32)) * (3 : Int32)))), .val (.int c1), .val (.ref b1_), .val (.double m2_5_), .second, .val (.double (9221120237041090560 : UInt64)), .second, .val (.double m2_15_), .second, .val (.double rr_21_), .second, .val (.double m2_24_), .second, .val (.double rr_30_), .second, .val (.long ((b1.toInt64) - (a1.toInt64))), .second, .unset, .unset, .unset, .unset, .unset, .unset, .unset, .unset, .unset, .unset, .unset, .unset, .unset]) rfl ?_
    show Steps p.tables e below (T30_.setTop (mkF m 130 #[.val (.int p0), .val (.int p1), .val (.int p2), .val (.int a1), .val (.int b1), .val (.int c0), .val (.int (((((a1 + b1) + c0) - ((((a1 + b1) + c0) / (3 : Int32)) * (3 : Int32))) + (3 : Int32)) - ((((((a1 + b1) + c0) - ((((a1 + b1) + c0) / (3 : Int32)) * (3 : Int32))) + (3 : Int32)) / (3 : Int32)) * (3 : Int32)))), .val (.int c1), .val (.ref b1_), .val (.double m2_5_), .second, .val (.double (9221120237041090560 : UInt64)), .second, .val (.double m2_15_), .second, .val (.double rr_21_), .second, .val (.double m2_24_), .second, .val (.double rr_30_), .second, .val (.long ((b1.toInt64) - (a1.toInt64))), .second, .unset, .unset, .unset, .unset, .unset, .unset, .unset, .unset, .unset, .unset, .unset, .unset, .unset] [])) _
    refine XS.iloadN X30_.here hx rfl (hb hby at_130) rfl ?_
    refine XS.i2l X30_.here hx rfl (hb hby at_131) rfl ?_
    show Steps p.tables e below (T30_.setTop (mkF m 132 #[.val (.int p0), .val (.int p1), .val (.int p2), .val (.int a1), .val (.int b1), .val (.int c0), .val (.int (((((a1 + b1) + c0) - ((((a1 + b1) + c0) / (3 : Int32)) * (3 : Int32))) + (3 : Int32)) - ((((((a1 + b1) + c0) - ((((a1 + b1) + c0) / (3 : Int32)) * (3 : Int32))) + (3 : Int32)) / (3 : Int32)) * (3 : Int32)))), .val (.int c1), .val (.ref b1_), .val (.double m2_5_), .second, .val (.double (9221120237041090560 : UInt64)), .second, .val (.double m2_15_), .second, .val (.double rr_21_), .second, .val (.double m2_24_), .second, .val (.double rr_30_), .second, .val (.long ((b1.toInt64) - (a1.toInt64))), .second, .unset, .unset, .unset, .unset, .unset, .unset, .unset, .unset, .unset, .unset, .unset, .unset, .unset] [(.long (a1.toInt64))])) _
    refine XS.iload X30_.here hx rfl (hb hby at_132) rfl ?_
    refine XS.i2l X30_.here hx rfl (hb hby at_134) rfl ?_
    show Steps p.tables e below (T30_.setTop (mkF m 135 #[.val (.int p0), .val (.int p1), .val (.int p2), .val (.int a1), .val (.int b1), .val (.int c0), .val (.int (((((a1 + b1) + c0) - ((((a1 + b1) + c0) / (3 : Int32)) * (3 : Int32))) + (3 : Int32)) - ((((((a1 + b1) + c0) - ((((a1 + b1) + c0) / (3 : Int32)) * (3 : Int32))) + (3 : Int32)) / (3 : Int32)) * (3 : Int32)))), .val (.int c1), .val (.ref b1_), .val (.double m2_5_), .second, .val (.double (9221120237041090560 : UInt64)), .second, .val (.double m2_15_), .second, .val (.double rr_21_), .second, .val (.double m2_24_), .second, .val (.double rr_30_), .second, .val (.long ((b1.toInt64) - (a1.toInt64))), .second, .unset, .unset, .unset, .unset, .unset, .unset, .unset, .unset, .unset, .unset, .unset, .unset, .unset] [(.long (b1.toInt64)), (.long (a1.toInt64))])) _
    refine XS.ladd X30_.here hx rfl (hb hby at_135) rfl ?_
    show Steps p.tables e below (T30_.setTop (mkF m 136 #[.val (.int p0), .val (.int p1), .val (.int p2), .val (.int a1), .val (.int b1), .val (.int c0), .val (.int (((((a1 + b1) + c0) - ((((a1 + b1) + c0) / (3 : Int32)) * (3 : Int32))) + (3 : Int32)) - ((((((a1 + b1) + c0) - ((((a1 + b1) + c0) / (3 : Int32)) * (3 : Int32))) + (3 : Int32)) / (3 : Int32)) * (3 : Int32)))), .val (.int c1), .val (.ref b1_), .val (.double m2_5_), .second, .val (.double (9221120237041090560 : UInt64)), .second, .val (.double m2_15_), .second, .val (.double rr_21_), .second, .val (.double m2_24_), .second, .val (.double rr_30_), .second, .val (.long ((b1.toInt64) - (a1.toInt64))), .second, .unset, .unset, .unset, .unset, .unset, .unset, .unset, .unset, .unset, .unset, .unset, .unset, .unset] [(.long ((a1.toInt64) + (b1.toInt64)))])) _
    refine XS.iload X30_.here hx rfl (hb hby at_136) rfl ?_
    refine XS.i2l X30_.here hx rfl (hb hby at_138) rfl ?_
    show Steps p.tables e below (T30_.setTop (mkF m 139 #[.val (.int p0), .val (.int p1), .val (.int p2), .val (.int a1), .val (.int b1), .val (.int c0), .val (.int (((((a1 + b1) + c0) - ((((a1 + b1) + c0) / (3 : Int32)) * (3 : Int32))) + (3 : Int32)) - ((((((a1 + b1) + c0) - ((((a1 + b1) + c0) / (3 : Int32)) * (3 : Int32))) + (3 : Int32)) / (3 : Int32)) * (3 : Int32)))), .val (.int c1), .val (.ref b1_), .val (.double m2_5_), .second, .val (.double (9221120237041090560 : UInt64)), .second, .val (.double m2_15_), .second, .val (.double rr_21_), .second, .val (.double m2_24_), .second, .val (.double rr_30_), .second, .val (.long ((b1.toInt64) - (a1.toInt64))), .second, .unset, .unset, .unset, .unset, .unset, .unset, .unset, .unset, .unset, .unset, .unset, .unset, .unset] [(.long (c1.toInt64)), (.long ((a1.toInt64) + (b1.toInt64)))])) _
    refine XS.ladd X30_.here hx rfl (hb hby at_139) rfl ?_
    show Steps p.tables e below (T30_.setTop (mkF m 140 #[.val (.int p0), .val (.int p1), .val (.int p2), .val (.int a1), .val (.int b1), .val (.int c0), .val (.int (((((a1 + b1) + c0) - ((((a1 + b1) + c0) / (3 : Int32)) * (3 : Int32))) + (3 : Int32)) - ((((((a1 + b1) + c0) - ((((a1 + b1) + c0) / (3 : Int32)) * (3 : Int32))) + (3 : Int32)) / (3 : Int32)) * (3 : Int32)))), .val (.int c1), .val (.ref b1_), .val (.double m2_5_), .second, .val (.double (9221120237041090560 : UInt64)), .second, .val (.double m2_15_), .second, .val (.double rr_21_), .second, .val (.double m2_24_), .second, .val (.double rr_30_), .second, .val (.long ((b1.toInt64) - (a1.toInt64))), .second, .unset, .unset, .unset, .unset, .unset, .unset, .unset, .unset, .unset, .unset, .unset, .unset, .unset] [(.long (((a1.toInt64) + (b1.toInt64)) + (c1.toInt64)))])) _
    refine X30_.ldc2Long hx hown (mvT hZ (hw _ (List.mem_of_getElem? (i := 32) rfl))) (g := (mkF m 140 #[.val (.int p0), .val (.int p1), .val (.int p2), .val (.int a1), .val (.int b1), .val (.int c0), .val (.int (((((a1 + b1) + c0) - ((((a1 + b1) + c0) / (3 : Int32)) * (3 : Int32))) + (3 : Int32)) - ((((((a1 + b1) + c0) - ((((a1 + b1) + c0) / (3 : Int32)) * (3 : Int32))) + (3 : Int32)) / (3 : Int32)) * (3 : Int32)))), .val (.int c1), .val (.ref b1_), .val (.double m2_5_), .second, .val (.double (9221120237041090560 : UInt64)), .second, .val (.double m2_15_), .second, .val (.double rr_21_), .second, .val (.double m2_24_), .second, .val (.double rr_30_), .second, .val (.long ((b1.toInt64) - (a1.toInt64))), .second, .unset, .unset, .unset, .unset, .unset, .unset, .unset, .unset, .unset, .unset, .unset, .unset, .unset] [(.long (((a1.toInt64) + (b1.toInt64)) + (c1.toInt64)))])) rfl (hb hby at_140) _ ?_
    show Steps p.tables e below (T30_.setTop (mkF m 143 #[.val (.int p0), .val (.int p1), .val (.int p2), .val (.int a1), .val (.int b1), .val (.int c0), .val (.int (((((a1 + b1) + c0) - ((((a1 + b1) + c0) / (3 : Int32)) * (3 : Int32))) + (3 : Int32)) - ((((((a1 + b1) + c0) - ((((a1 + b1) + c0) / (3 : Int32)) * (3 : Int32))) + (3 : Int32)) / (3 : Int32)) * (3 : Int32)))), .val (.int c1), .val (.ref b1_), .val (.double m2_5_), .second, .val (.double (9221120237041090560 : UInt64)), .second, .val (.double m2_15_), .second, .val (.double rr_21_), .second, .val (.double m2_24_), .second, .val (.double rr_30_), .second, .val (.long ((b1.toInt64) - (a1.toInt64))), .second, .unset, .unset, .unset, .unset, .unset, .unset, .unset, .unset, .unset, .unset, .unset, .unset, .unset] [(.long (3 : Int64)), (.long (((a1.toInt64) + (b1.toInt64)) + (c1.toInt64)))])) _
    refine XS.ldiv X30_.here hx rfl (hb hby at_143) rfl (by decide) ?_
    show Steps p.tables e below (T30_.setTop (mkF m 144 #[.val (.int p0), .val (.int p1), .val (.int p2), .val (.int a1), .val (.int b1), .val (.int c0), .val (.int (((((a1 + b1) + c0) - ((((a1 + b1) + c0) / (3 : Int32)) * (3 : Int32))) + (3 : Int32)) - ((((((a1 + b1) + c0) - ((((a1 + b1) + c0) / (3 : Int32)) * (3 : Int32))) + (3 : Int32)) / (3 : Int32)) * (3 : Int32)))), .val (.int c1), .val (.ref b1_), .val (.double m2_5_), .second, .val (.double (9221120237041090560 : UInt64)), .second, .val (.double m2_15_), .second, .val (.double rr_21_), .second, .val (.double m2_24_), .second, .val (.double rr_30_), .second, .val (.long ((b1.toInt64) - (a1.toInt64))), .second, .unset, .unset, .unset, .unset, .unset, .unset, .unset, .unset, .unset, .unset, .unset, .unset, .unset] [(.long ((((a1.toInt64) + (b1.toInt64)) + (c1.toInt64)) / (3 : Int64)))])) _
    refine XS.lstore X30_.here hx rfl (hb hby at_144) rfl (l' := #[.val (.int p0), .val (.int p1), .val (.int p2), .val (.int a1), .val (.int b1), .val (.int c0), .val (.int (((((a1 + b1) + c0) - ((((a1 + b1) + c0) / (3 : Int32)) * (3 : Int32))) + (3 : Int32)) - ((((((a1 + b1) + c0) - ((((a1 + b1) + c0) / (3 : Int32)) * (3 : Int32))) + (3 : Int32)) / (3 : Int32)) * (3 : Int32)))), .val (.int c1), .val (.ref b1_), .val (.double m2_5_), .second, .val (.double (9221120237041090560 : UInt64)), .second, .val (.double m2_15_), .second, .val (.double rr_21_), .second, .val (.double m2_24_), .second, .val (.double rr_30_), .second, .val (.long ((b1.toInt64) - (a1.toInt64))), .second, .val (.long ((((a1.toInt64) + (b1.toInt64)) + (c1.toInt64)) / (3 : Int64))), .second, .unset, .unset, .unset, .unset, .unset, .unset, .unset, .unset, .unset, .unset, .unset]) rfl ?_
    show Steps p.tables e below (T30_.setTop (mkF m 146 #[.val (.int p0), .val (.int p1), .val (.int p2), .val (.int a1), .val (.int b1), .val (.int c0), .val (.int (((((a1 + b1) + c0) - ((((a1 + b1) + c0) / (3 : Int32)) * (3 : Int32))) + (3 : Int32)) - ((((((a1 + b1) + c0) - ((((a1 + b1) + c0) / (3 : Int32)) * (3 : Int32))) + (3 : Int32)) / (3 : Int32)) * (3 : Int32)))), .val (.int c1), .val (.ref b1_), .val (.double m2_5_), .second, .val (.double (9221120237041090560 : UInt64)), .second, .val (.double m2_15_), .second, .val (.double rr_21_), .second, .val (.double m2_24_), .second, .val (.double rr_30_), .second, .val (.long ((b1.toInt64) - (a1.toInt64))), .second, .val (.long ((((a1.toInt64) + (b1.toInt64)) + (c1.toInt64)) / (3 : Int64))), .second, .unset, .unset, .unset, .unset, .unset, .unset, .unset, .unset, .unset, .unset, .unset] [])) _
    refine XS.iloadN X30_.here hx rfl (hb hby at_146) rfl ?_
    refine XS.i2l X30_.here hx rfl (hb hby at_147) rfl ?_
    show Steps p.tables e below (T30_.setTop (mkF m 148 #[.val (.int p0), .val (.int p1), .val (.int p2), .val (.int a1), .val (.int b1), .val (.int c0), .val (.int (((((a1 + b1) + c0) - ((((a1 + b1) + c0) / (3 : Int32)) * (3 : Int32))) + (3 : Int32)) - ((((((a1 + b1) + c0) - ((((a1 + b1) + c0) / (3 : Int32)) * (3 : Int32))) + (3 : Int32)) / (3 : Int32)) * (3 : Int32)))), .val (.int c1), .val (.ref b1_), .val (.double m2_5_), .second, .val (.double (9221120237041090560 : UInt64)), .second, .val (.double m2_15_), .second, .val (.double rr_21_), .second, .val (.double m2_24_), .second, .val (.double rr_30_), .second, .val (.long ((b1.toInt64) - (a1.toInt64))), .second, .val (.long ((((a1.toInt64) + (b1.toInt64)) + (c1.toInt64)) / (3 : Int64))), .second, .unset, .unset, .unset, .unset, .unset, .unset, .unset, .unset, .unset, .unset, .unset] [(.long (a1.toInt64))])) _
    refine XS.lload X30_.here hx rfl (hb hby at_148) rfl ?_
    refine XS.lsub X30_.here hx rfl (hb hby at_150) rfl ?_
    show Steps p.tables e below (T30_.setTop (mkF m 151 #[.val (.int p0), .val (.int p1), .val (.int p2), .val (.int a1), .val (.int b1), .val (.int c0), .val (.int (((((a1 + b1) + c0) - ((((a1 + b1) + c0) / (3 : Int32)) * (3 : Int32))) + (3 : Int32)) - ((((((a1 + b1) + c0) - ((((a1 + b1) + c0) / (3 : Int32)) * (3 : Int32))) + (3 : Int32)) / (3 : Int32)) * (3 : Int32)))), .val (.int c1), .val (.ref b1_), .val (.double m2_5_), .second, .val (.double (9221120237041090560 : UInt64)), .second, .val (.double m2_15_), .second, .val (.double rr_21_), .second, .val (.double m2_24_), .second, .val (.double rr_30_), .second, .val (.long ((b1.toInt64) - (a1.toInt64))), .second, .val (.long ((((a1.toInt64) + (b1.toInt64)) + (c1.toInt64)) / (3 : Int64))), .second, .unset, .unset, .unset, .unset, .unset, .unset, .unset, .unset, .unset, .unset, .unset] [(.long ((a1.toInt64) - ((((a1.toInt64) + (b1.toInt64)) + (c1.toInt64)) / (3 : Int64))))])) _
    refine XS.lstore X30_.here hx rfl (hb hby at_151) rfl (l' := #[.val (.int p0), .val (.int p1), .val (.int p2), .val (.int a1), .val (.int b1), .val (.int c0), .val (.int (((((a1 + b1) + c0) - ((((a1 + b1) + c0) / (3 : Int32)) * (3 : Int32))) + (3 : Int32)) - ((((((a1 + b1) + c0) - ((((a1 + b1) + c0) / (3 : Int32)) * (3 : Int32))) + (3 : Int32)) / (3 : Int32)) * (3 : Int32)))), .val (.int c1), .val (.ref b1_), .val (.double m2_5_), .second, .val (.double (9221120237041090560 : UInt64)), .second, .val (.double m2_15_), .second, .val (.double rr_21_), .second, .val (.double m2_24_), .second, .val (.double rr_30_), .second, .val (.long ((b1.toInt64) - (a1.toInt64))), .second, .val (.long ((((a1.toInt64) + (b1.toInt64)) + (c1.toInt64)) / (3 : Int64))), .second, .val (.long ((a1.toInt64) - ((((a1.toInt64) + (b1.toInt64)) + (c1.toInt64)) / (3 : Int64)))), .second, .unset, .unset, .unset, .unset, .unset, .unset, .unset, .unset, .unset]) rfl ?_
    show Steps p.tables e below (T30_.setTop (mkF m 153 #[.val (.int p0), .val (.int p1), .val (.int p2), .val (.int a1), .val (.int b1), .val (.int c0), .val (.int (((((a1 + b1) + c0) - ((((a1 + b1) + c0) / (3 : Int32)) * (3 : Int32))) + (3 : Int32)) - ((((((a1 + b1) + c0) - ((((a1 + b1) + c0) / (3 : Int32)) * (3 : Int32))) + (3 : Int32)) / (3 : Int32)) * (3 : Int32)))), .val (.int c1), .val (.ref b1_), .val (.double m2_5_), .second, .val (.double (9221120237041090560 : UInt64)), .second, .val (.double m2_15_), .second, .val (.double rr_21_), .second, .val (.double m2_24_), .second, .val (.double rr_30_), .second, .val (.long ((b1.toInt64) - (a1.toInt64))), .second, .val (.long ((((a1.toInt64) + (b1.toInt64)) + (c1.toInt64)) / (3 : Int64))), .second, .val (.long ((a1.toInt64) - ((((a1.toInt64) + (b1.toInt64)) + (c1.toInt64)) / (3 : Int64)))), .second, .unset, .unset, .unset, .unset, .unset, .unset, .unset, .unset, .unset] [])) _
    refine XS.iload X30_.here hx rfl (hb hby at_153) rfl ?_
    refine XS.i2l X30_.here hx rfl (hb hby at_155) rfl ?_
    show Steps p.tables e below (T30_.setTop (mkF m 156 #[.val (.int p0), .val (.int p1), .val (.int p2), .val (.int a1), .val (.int b1), .val (.int c0), .val (.int (((((a1 + b1) + c0) - ((((a1 + b1) + c0) / (3 : Int32)) * (3 : Int32))) + (3 : Int32)) - ((((((a1 + b1) + c0) - ((((a1 + b1) + c0) / (3 : Int32)) * (3 : Int32))) + (3 : Int32)) / (3 : Int32)) * (3 : Int32)))), .val (.int c1), .val (.ref b1_), .val (.double m2_5_), .second, .val (.double (9221120237041090560 : UInt64)), .second, .val (.double m2_15_), .second, .val (.double rr_21_), .second, .val (.double m2_24_), .second, .val (.double rr_30_), .second, .val (.long ((b1.toInt64) - (a1.toInt64))), .second, .val (.long ((((a1.toInt64) + (b1.toInt64)) + (c1.toInt64)) / (3 : Int64))), .second, .val (.long ((a1.toInt64) - ((((a1.toInt64) + (b1.toInt64)) + (c1.toInt64)) / (3 : Int64)))), .second, .unset, .unset, .unset, .unset, .unset, .unset, .unset, .unset, .unset] [(.long (b1.toInt64))])) _
    refine XS.lload X30_.here hx rfl (hb hby at_156) rfl ?_
    refine XS.lsub X30_.here hx rfl (hb hby at_158) rfl ?_
    show Steps p.tables e below (T30_.setTop (mkF m 159 #[.val (.int p0), .val (.int p1), .val (.int p2), .val (.int a1), .val (.int b1), .val (.int c0), .val (.int (((((a1 + b1) + c0) - ((((a1 + b1) + c0) / (3 : Int32)) * (3 : Int32))) + (3 : Int32)) - ((((((a1 + b1) + c0) - ((((a1 + b1) + c0) / (3 : Int32)) * (3 : Int32))) + (3 : Int32)) / (3 : Int32)) * (3 : Int32)))), .val (.int c1), .val (.ref b1_), .val (.double m2_5_), .second, .val (.double (9221120237041090560 : UInt64)), .second, .val (.double m2_15_), .second, .val (.double rr_21_), .second, .val (.double m2_24_), .second, .val (.double rr_30_), .second, .val (.long ((b1.toInt64) - (a1.toInt64))), .second, .val (.long ((((a1.toInt64) + (b1.toInt64)) + (c1.toInt64)) / (3 : Int64))), .second, .val (.long ((a1.toInt64) - ((((a1.toInt64) + (b1.toInt64)) + (c1.toInt64)) / (3 : Int64)))), .second, .unset, .unset, .unset, .unset, .unset, .unset, .unset, .unset, .unset] [(.long ((b1.toInt64) - ((((a1.toInt64) + (b1.toInt64)) + (c1.toInt64)) / (3 : Int64))))])) _
    refine XS.lstore X30_.here hx rfl (hb hby at_159) rfl (l' := #[.val (.int p0), .val (.int p1), .val (.int p2), .val (.int a1), .val (.int b1), .val (.int c0), .val (.int (((((a1 + b1) + c0) - ((((a1 + b1) + c0) / (3 : Int32)) * (3 : Int32))) + (3 : Int32)) - ((((((a1 + b1) + c0) - ((((a1 + b1) + c0) / (3 : Int32)) * (3 : Int32))) + (3 : Int32)) / (3 : Int32)) * (3 : Int32)))), .val (.int c1), .val (.ref b1_), .val (.double m2_5_), .second, .val (.double (9221120237041090560 : UInt64)), .second, .val (.double m2_15_), .second, .val (.double rr_21_), .second, .val (.double m2_24_), .second, .val (.double rr_30_), .second, .val (.long ((b1.toInt64) - (a1.toInt64))), .second, .val (.long ((((a1.toInt64) + (b1.toInt64)) + (c1.toInt64)) / (3 : Int64))), .second, .val (.long ((a1.toInt64) - ((((a1.toInt64) + (b1.toInt64)) + (c1.toInt64)) / (3 : Int64)))), .second, .val (.long ((b1.toInt64) - ((((a1.toInt64) + (b1.toInt64)) + (c1.toInt64)) / (3 : Int64)))), .second, .unset, .unset, .unset, .unset, .unset, .unset, .unset]) rfl ?_
    show Steps p.tables e below (T30_.setTop (mkF m 161 #[.val (.int p0), .val (.int p1), .val (.int p2), .val (.int a1), .val (.int b1), .val (.int c0), .val (.int (((((a1 + b1) + c0) - ((((a1 + b1) + c0) / (3 : Int32)) * (3 : Int32))) + (3 : Int32)) - ((((((a1 + b1) + c0) - ((((a1 + b1) + c0) / (3 : Int32)) * (3 : Int32))) + (3 : Int32)) / (3 : Int32)) * (3 : Int32)))), .val (.int c1), .val (.ref b1_), .val (.double m2_5_), .second, .val (.double (9221120237041090560 : UInt64)), .second, .val (.double m2_15_), .second, .val (.double rr_21_), .second, .val (.double m2_24_), .second, .val (.double rr_30_), .second, .val (.long ((b1.toInt64) - (a1.toInt64))), .second, .val (.long ((((a1.toInt64) + (b1.toInt64)) + (c1.toInt64)) / (3 : Int64))), .second, .val (.long ((a1.toInt64) - ((((a1.toInt64) + (b1.toInt64)) + (c1.toInt64)) / (3 : Int64)))), .second, .val (.long ((b1.toInt64) - ((((a1.toInt64) + (b1.toInt64)) + (c1.toInt64)) / (3 : Int64)))), .second, .unset, .unset, .unset, .unset, .unset, .unset, .unset] [])) _
    refine XS.iload X30_.here hx rfl (hb hby at_161) rfl ?_
    refine XS.i2l X30_.here hx rfl (hb hby at_163) rfl ?_
    show Steps p.tables e below (T30_.setTop (mkF m 164 #[.val (.int p0), .val (.int p1), .val (.int p2), .val (.int a1), .val (.int b1), .val (.int c0), .val (.int (((((a1 + b1) + c0) - ((((a1 + b1) + c0) / (3 : Int32)) * (3 : Int32))) + (3 : Int32)) - ((((((a1 + b1) + c0) - ((((a1 + b1) + c0) / (3 : Int32)) * (3 : Int32))) + (3 : Int32)) / (3 : Int32)) * (3 : Int32)))), .val (.int c1), .val (.ref b1_), .val (.double m2_5_), .second, .val (.double (9221120237041090560 : UInt64)), .second, .val (.double m2_15_), .second, .val (.double rr_21_), .second, .val (.double m2_24_), .second, .val (.double rr_30_), .second, .val (.long ((b1.toInt64) - (a1.toInt64))), .second, .val (.long ((((a1.toInt64) + (b1.toInt64)) + (c1.toInt64)) / (3 : Int64))), .second, .val (.long ((a1.toInt64) - ((((a1.toInt64) + (b1.toInt64)) + (c1.toInt64)) / (3 : Int64)))), .second, .val (.long ((b1.toInt64) - ((((a1.toInt64) + (b1.toInt64)) + (c1.toInt64)) / (3 : Int64)))), .second, .unset, .unset, .unset, .unset, .unset, .unset, .unset] [(.long (c1.toInt64))])) _
    refine XS.lload X30_.here hx rfl (hb hby at_164) rfl ?_
    refine XS.lsub X30_.here hx rfl (hb hby at_166) rfl ?_
    show Steps p.tables e below (T30_.setTop (mkF m 167 #[.val (.int p0), .val (.int p1), .val (.int p2), .val (.int a1), .val (.int b1), .val (.int c0), .val (.int (((((a1 + b1) + c0) - ((((a1 + b1) + c0) / (3 : Int32)) * (3 : Int32))) + (3 : Int32)) - ((((((a1 + b1) + c0) - ((((a1 + b1) + c0) / (3 : Int32)) * (3 : Int32))) + (3 : Int32)) / (3 : Int32)) * (3 : Int32)))), .val (.int c1), .val (.ref b1_), .val (.double m2_5_), .second, .val (.double (9221120237041090560 : UInt64)), .second, .val (.double m2_15_), .second, .val (.double rr_21_), .second, .val (.double m2_24_), .second, .val (.double rr_30_), .second, .val (.long ((b1.toInt64) - (a1.toInt64))), .second, .val (.long ((((a1.toInt64) + (b1.toInt64)) + (c1.toInt64)) / (3 : Int64))), .second, .val (.long ((a1.toInt64) - ((((a1.toInt64) + (b1.toInt64)) + (c1.toInt64)) / (3 : Int64)))), .second, .val (.long ((b1.toInt64) - ((((a1.toInt64) + (b1.toInt64)) + (c1.toInt64)) / (3 : Int64)))), .second, .unset, .unset, .unset, .unset, .unset, .unset, .unset] [(.long ((c1.toInt64) - ((((a1.toInt64) + (b1.toInt64)) + (c1.toInt64)) / (3 : Int64))))])) _
    refine XS.lstore X30_.here hx rfl (hb hby at_167) rfl (l' := #[.val (.int p0), .val (.int p1), .val (.int p2), .val (.int a1), .val (.int b1), .val (.int c0), .val (.int (((((a1 + b1) + c0) - ((((a1 + b1) + c0) / (3 : Int32)) * (3 : Int32))) + (3 : Int32)) - ((((((a1 + b1) + c0) - ((((a1 + b1) + c0) / (3 : Int32)) * (3 : Int32))) + (3 : Int32)) / (3 : Int32)) * (3 : Int32)))), .val (.int c1), .val (.ref b1_), .val (.double m2_5_), .second, .val (.double (9221120237041090560 : UInt64)), .second, .val (.double m2_15_), .second, .val (.double rr_21_), .second, .val (.double m2_24_), .second, .val (.double rr_30_), .second, .val (.long ((b1.toInt64) - (a1.toInt64))), .second, .val (.long ((((a1.toInt64) + (b1.toInt64)) + (c1.toInt64)) / (3 : Int64))), .second, .val (.long ((a1.toInt64) - ((((a1.toInt64) + (b1.toInt64)) + (c1.toInt64)) / (3 : Int64)))), .second, .val (.long ((b1.toInt64) - ((((a1.toInt64) + (b1.toInt64)) + (c1.toInt64)) / (3 : Int64)))), .second, .val (.long ((c1.toInt64) - ((((a1.toInt64) + (b1.toInt64)) + (c1.toInt64)) / (3 : Int64)))), .second, .unset, .unset, .unset, .unset, .unset]) rfl ?_
    show Steps p.tables e below (T30_.setTop (mkF m 169 #[.val (.int p0), .val (.int p1), .val (.int p2), .val (.int a1), .val (.int b1), .val (.int c0), .val (.int (((((a1 + b1) + c0) - ((((a1 + b1) + c0) / (3 : Int32)) * (3 : Int32))) + (3 : Int32)) - ((((((a1 + b1) + c0) - ((((a1 + b1) + c0) / (3 : Int32)) * (3 : Int32))) + (3 : Int32)) / (3 : Int32)) * (3 : Int32)))), .val (.int c1), .val (.ref b1_), .val (.double m2_5_), .second, .val (.double (9221120237041090560 : UInt64)), .second, .val (.double m2_15_), .second, .val (.double rr_21_), .second, .val (.double m2_24_), .second, .val (.double rr_30_), .second, .val (.long ((b1.toInt64) - (a1.toInt64))), .second, .val (.long ((((a1.toInt64) + (b1.toInt64)) + (c1.toInt64)) / (3 : Int64))), .second, .val (.long ((a1.toInt64) - ((((a1.toInt64) + (b1.toInt64)) + (c1.toInt64)) / (3 : Int64)))), .second, .val (.long ((b1.toInt64) - ((((a1.toInt64) + (b1.toInt64)) + (c1.toInt64)) / (3 : Int64)))), .second, .val (.long ((c1.toInt64) - ((((a1.toInt64) + (b1.toInt64)) + (c1.toInt64)) / (3 : Int64)))), .second, .unset, .unset, .unset, .unset, .unset] [])) _
    refine XS.lload X30_.here hx rfl (hb hby at_169) rfl ?_
    refine XS.lload X30_.here hx rfl (hb hby at_171) rfl ?_
    refine XS.lmul X30_.here hx rfl (hb hby at_173) rfl ?_
    show Steps p.tables e below (T30_.setTop (mkF m 174 #[.val (.int p0), .val (.int p1), .val (.int p2), .val (.int a1), .val (.int b1), .val (.int c0), .val (.int (((((a1 + b1) + c0) - ((((a1 + b1) + c0) / (3 : Int32)) * (3 : Int32))) + (3 : Int32)) - ((((((a1 + b1) + c0) - ((((a1 + b1) + c0) / (3 : Int32)) * (3 : Int32))) + (3 : Int32)) / (3 : Int32)) * (3 : Int32)))), .val (.int c1), .val (.ref b1_), .val (.double m2_5_), .second, .val (.double (9221120237041090560 : UInt64)), .second, .val (.double m2_15_), .second, .val (.double rr_21_), .second, .val (.double m2_24_), .second, .val (.double rr_30_), .second, .val (.long ((b1.toInt64) - (a1.toInt64))), .second, .val (.long ((((a1.toInt64) + (b1.toInt64)) + (c1.toInt64)) / (3 : Int64))), .second, .val (.long ((a1.toInt64) - ((((a1.toInt64) + (b1.toInt64)) + (c1.toInt64)) / (3 : Int64)))), .second, .val (.long ((b1.toInt64) - ((((a1.toInt64) + (b1.toInt64)) + (c1.toInt64)) / (3 : Int64)))), .second, .val (.long ((c1.toInt64) - ((((a1.toInt64) + (b1.toInt64)) + (c1.toInt64)) / (3 : Int64)))), .second, .unset, .unset, .unset, .unset, .unset] [(.long (((a1.toInt64) - ((((a1.toInt64) + (b1.toInt64)) + (c1.toInt64)) / (3 : Int64))) * ((a1.toInt64) - ((((a1.toInt64) + (b1.toInt64)) + (c1.toInt64)) / (3 : Int64)))))])) _
    refine XS.lload X30_.here hx rfl (hb hby at_174) rfl ?_
    refine XS.lload X30_.here hx rfl (hb hby at_176) rfl ?_
    refine XS.lmul X30_.here hx rfl (hb hby at_178) rfl ?_
    show Steps p.tables e below (T30_.setTop (mkF m 179 #[.val (.int p0), .val (.int p1), .val (.int p2), .val (.int a1), .val (.int b1), .val (.int c0), .val (.int (((((a1 + b1) + c0) - ((((a1 + b1) + c0) / (3 : Int32)) * (3 : Int32))) + (3 : Int32)) - ((((((a1 + b1) + c0) - ((((a1 + b1) + c0) / (3 : Int32)) * (3 : Int32))) + (3 : Int32)) / (3 : Int32)) * (3 : Int32)))), .val (.int c1), .val (.ref b1_), .val (.double m2_5_), .second, .val (.double (9221120237041090560 : UInt64)), .second, .val (.double m2_15_), .second, .val (.double rr_21_), .second, .val (.double m2_24_), .second, .val (.double rr_30_), .second, .val (.long ((b1.toInt64) - (a1.toInt64))), .second, .val (.long ((((a1.toInt64) + (b1.toInt64)) + (c1.toInt64)) / (3 : Int64))), .second, .val (.long ((a1.toInt64) - ((((a1.toInt64) + (b1.toInt64)) + (c1.toInt64)) / (3 : Int64)))), .second, .val (.long ((b1.toInt64) - ((((a1.toInt64) + (b1.toInt64)) + (c1.toInt64)) / (3 : Int64)))), .second, .val (.long ((c1.toInt64) - ((((a1.toInt64) + (b1.toInt64)) + (c1.toInt64)) / (3 : Int64)))), .second, .unset, .unset, .unset, .unset, .unset] [(.long (((b1.toInt64) - ((((a1.toInt64) + (b1.toInt64)) + (c1.toInt64)) / (3 : Int64))) * ((b1.toInt64) - ((((a1.toInt64) + (b1.toInt64)) + (c1.toInt64)) / (3 : Int64))))), (.long (((a1.toInt64) - ((((a1.toInt64) + (b1.toInt64)) + (c1.toInt64)) / (3 : Int64))) * ((a1.toInt64) - ((((a1.toInt64) + (b1.toInt64)) + (c1.toInt64)) / (3 : Int64)))))])) _
    refine XS.ladd X30_.here hx rfl (hb hby at_179) rfl ?_
    show Steps p.tables e below (T30_.setTop (mkF m 180 #[.val (.int p0), .val (.int p1), .val (.int p2), .val (.int a1), .val (.int b1), .val (.int c0), .val (.int (((((a1 + b1) + c0) - ((((a1 + b1) + c0) / (3 : Int32)) * (3 : Int32))) + (3 : Int32)) - ((((((a1 + b1) + c0) - ((((a1 + b1) + c0) / (3 : Int32)) * (3 : Int32))) + (3 : Int32)) / (3 : Int32)) * (3 : Int32)))), .val (.int c1), .val (.ref b1_), .val (.double m2_5_), .second, .val (.double (9221120237041090560 : UInt64)), .second, .val (.double m2_15_), .second, .val (.double rr_21_), .second, .val (.double m2_24_), .second, .val (.double rr_30_), .second, .val (.long ((b1.toInt64) - (a1.toInt64))), .second, .val (.long ((((a1.toInt64) + (b1.toInt64)) + (c1.toInt64)) / (3 : Int64))), .second, .val (.long ((a1.toInt64) - ((((a1.toInt64) + (b1.toInt64)) + (c1.toInt64)) / (3 : Int64)))), .second, .val (.long ((b1.toInt64) - ((((a1.toInt64) + (b1.toInt64)) + (c1.toInt64)) / (3 : Int64)))), .second, .val (.long ((c1.toInt64) - ((((a1.toInt64) + (b1.toInt64)) + (c1.toInt64)) / (3 : Int64)))), .second, .unset, .unset, .unset, .unset, .unset] [(.long ((((a1.toInt64) - ((((a1.toInt64) + (b1.toInt64)) + (c1.toInt64)) / (3 : Int64))) * ((a1.toInt64) - ((((a1.toInt64) + (b1.toInt64)) + (c1.toInt64)) / (3 : Int64)))) + (((b1.toInt64) - ((((a1.toInt64) + (b1.toInt64)) + (c1.toInt64)) / (3 : Int64))) * ((b1.toInt64) - ((((a1.toInt64) + (b1.toInt64)) + (c1.toInt64)) / (3 : Int64))))))])) _
    refine XS.lload X30_.here hx rfl (hb hby at_180) rfl ?_
    refine XS.lload X30_.here hx rfl (hb hby at_182) rfl ?_
    refine XS.lmul X30_.here hx rfl (hb hby at_184) rfl ?_
    show Steps p.tables e below (T30_.setTop (mkF m 185 #[.val (.int p0), .val (.int p1), .val (.int p2), .val (.int a1), .val (.int b1), .val (.int c0), .val (.int (((((a1 + b1) + c0) - ((((a1 + b1) + c0) / (3 : Int32)) * (3 : Int32))) + (3 : Int32)) - ((((((a1 + b1) + c0) - ((((a1 + b1) + c0) / (3 : Int32)) * (3 : Int32))) + (3 : Int32)) / (3 : Int32)) * (3 : Int32)))), .val (.int c1), .val (.ref b1_), .val (.double m2_5_), .second, .val (.double (9221120237041090560 : UInt64)), .second, .val (.double m2_15_), .second, .val (.double rr_21_), .second, .val (.double m2_24_), .second, .val (.double rr_30_), .second, .val (.long ((b1.toInt64) - (a1.toInt64))), .second, .val (.long ((((a1.toInt64) + (b1.toInt64)) + (c1.toInt64)) / (3 : Int64))), .second, .val (.long ((a1.toInt64) - ((((a1.toInt64) + (b1.toInt64)) + (c1.toInt64)) / (3 : Int64)))), .second, .val (.long ((b1.toInt64) - ((((a1.toInt64) + (b1.toInt64)) + (c1.toInt64)) / (3 : Int64)))), .second, .val (.long ((c1.toInt64) - ((((a1.toInt64) + (b1.toInt64)) + (c1.toInt64)) / (3 : Int64)))), .second, .unset, .unset, .unset, .unset, .unset] [(.long (((c1.toInt64) - ((((a1.toInt64) + (b1.toInt64)) + (c1.toInt64)) / (3 : Int64))) * ((c1.toInt64) - ((((a1.toInt64) + (b1.toInt64)) + (c1.toInt64)) / (3 : Int64))))), (.long ((((a1.toInt64) - ((((a1.toInt64) + (b1.toInt64)) + (c1.toInt64)) / (3 : Int64))) * ((a1.toInt64) - ((((a1.toInt64) + (b1.toInt64)) + (c1.toInt64)) / (3 : Int64)))) + (((b1.toInt64) - ((((a1.toInt64) + (b1.toInt64)) + (c1.toInt64)) / (3 : Int64))) * ((b1.toInt64) - ((((a1.toInt64) + (b1.toInt64)) + (c1.toInt64)) / (3 : Int64))))))])) _
    refine XS.ladd X30_.here hx rfl (hb hby at_185) rfl ?_
    show Steps p.tables e below (T30_.setTop (mkF m 186 #[.val (.int p0), .val (.int p1), .val (.int p2), .val (.int a1), .val (.int b1), .val (.int c0), .val (.int (((((a1 + b1) + c0) - ((((a1 + b1) + c0) / (3 : Int32)) * (3 : Int32))) + (3 : Int32)) - ((((((a1 + b1) + c0) - ((((a1 + b1) + c0) / (3 : Int32)) * (3 : Int32))) + (3 : Int32)) / (3 : Int32)) * (3 : Int32)))), .val (.int c1), .val (.ref b1_), .val (.double m2_5_), .second, .val (.double (9221120237041090560 : UInt64)), .second, .val (.double m2_15_), .second, .val (.double rr_21_), .second, .val (.double m2_24_), .second, .val (.double rr_30_), .second, .val (.long ((b1.toInt64) - (a1.toInt64))), .second, .val (.long ((((a1.toInt64) + (b1.toInt64)) + (c1.toInt64)) / (3 : Int64))), .second, .val (.long ((a1.toInt64) - ((((a1.toInt64) + (b1.toInt64)) + (c1.toInt64)) / (3 : Int64)))), .second, .val (.long ((b1.toInt64) - ((((a1.toInt64) + (b1.toInt64)) + (c1.toInt64)) / (3 : Int64)))), .second, .val (.long ((c1.toInt64) - ((((a1.toInt64) + (b1.toInt64)) + (c1.toInt64)) / (3 : Int64)))), .second, .unset, .unset, .unset, .unset, .unset] [(.long (((((a1.toInt64) - ((((a1.toInt64) + (b1.toInt64)) + (c1.toInt64)) / (3 : Int64))) * ((a1.toInt64) - ((((a1.toInt64) + (b1.toInt64)) + (c1.toInt64)) / (3 : Int64)))) + (((b1.toInt64) - ((((a1.toInt64) + (b1.toInt64)) + (c1.toInt64)) / (3 : Int64))) * ((b1.toInt64) - ((((a1.toInt64) + (b1.toInt64)) + (c1.toInt64)) / (3 : Int64))))) + (((c1.toInt64) - ((((a1.toInt64) + (b1.toInt64)) + (c1.toInt64)) / (3 : Int64))) * ((c1.toInt64) - ((((a1.toInt64) + (b1.toInt64)) + (c1.toInt64)) / (3 : Int64))))))])) _
    refine XS.lstore X30_.here hx rfl (hb hby at_186) rfl (l' := #[.val (.int p0), .val (.int p1), .val (.int p2), .val (.int a1), .val (.int b1), .val (.int c0), .val (.int (((((a1 + b1) + c0) - ((((a1 + b1) + c0) / (3 : Int32)) * (3 : Int32))) + (3 : Int32)) - ((((((a1 + b1) + c0) - ((((a1 + b1) + c0) / (3 : Int32)) * (3 : Int32))) + (3 : Int32)) / (3 : Int32)) * (3 : Int32)))), .val (.int c1), .val (.ref b1_), .val (.double m2_5_), .second, .val (.double (9221120237041090560 : UInt64)), .second, .val (.double m2_15_), .second, .val (.double rr_21_), .second, .val (.double m2_24_), .second, .val (.double rr_30_), .second, .val (.long ((b1.toInt64) - (a1.toInt64))), .second, .val (.long ((((a1.toInt64) + (b1.toInt64)) + (c1.toInt64)) / (3 : Int64))), .second, .val (.long ((a1.toInt64) - ((((a1.toInt64) + (b1.toInt64)) + (c1.toInt64)) / (3 : Int64)))), .second, .val (.long ((b1.toInt64) - ((((a1.toInt64) + (b1.toInt64)) + (c1.toInt64)) / (3 : Int64)))), .second, .val (.long ((c1.toInt64) - ((((a1.toInt64) + (b1.toInt64)) + (c1.toInt64)) / (3 : Int64)))), .second, .val (.long (((((a1.toInt64) - ((((a1.toInt64) + (b1.toInt64)) + (c1.toInt64)) / (3 : Int64))) * ((a1.toInt64) - ((((a1.toInt64) + (b1.toInt64)) + (c1.toInt64)) / (3 : Int64)))) + (((b1.toInt64) - ((((a1.toInt64) + (b1.toInt64)) + (c1.toInt64)) / (3 : Int64))) * ((b1.toInt64) - ((((a1.toInt64) + (b1.toInt64)) + (c1.toInt64)) / (3 : Int64))))) + (((c1.toInt64) - ((((a1.toInt64) + (b1.toInt64)) + (c1.toInt64)) / (3 : Int64))) * ((c1.toInt64) - ((((a1.toInt64) + (b1.toInt64)) + (c1.toInt64)) / (3 : Int64)))))), .second, .unset, .unset, .unset]) rfl ?_
    show Steps p.tables e below (T30_.setTop (mkF m 188 #[.val (.int p0), .val (.int p1), .val (.int p2), .val (.int a1), .val (.int b1), .val (.int c0), .val (.int (((((a1 + b1) + c0) - ((((a1 + b1) + c0) / (3 : Int32)) * (3 : Int32))) + (3 : Int32)) - ((((((a1 + b1) + c0) - ((((a1 + b1) + c0) / (3 : Int32)) * (3 : Int32))) + (3 : Int32)) / (3 : Int32)) * (3 : Int32)))), .val (.int c1), .val (.ref b1_), .val (.double m2_5_), .second, .val (.double (9221120237041090560 : UInt64)), .second, .val (.double m2_15_), .second, .val (.double rr_21_), .second, .val (.double m2_24_), .second, .val (.double rr_30_), .second, .val (.long ((b1.toInt64) - (a1.toInt64))), .second, .val (.long ((((a1.toInt64) + (b1.toInt64)) + (c1.toInt64)) / (3 : Int64))), .second, .val (.long ((a1.toInt64) - ((((a1.toInt64) + (b1.toInt64)) + (c1.toInt64)) / (3 : Int64)))), .second, .val (.long ((b1.toInt64) - ((((a1.toInt64) + (b1.toInt64)) + (c1.toInt64)) / (3 : Int64)))), .second, .val (.long ((c1.toInt64) - ((((a1.toInt64) + (b1.toInt64)) + (c1.toInt64)) / (3 : Int64)))), .second, .val (.long (((((a1.toInt64) - ((((a1.toInt64) + (b1.toInt64)) + (c1.toInt64)) / (3 : Int64))) * ((a1.toInt64) - ((((a1.toInt64) + (b1.toInt64)) + (c1.toInt64)) / (3 : Int64)))) + (((b1.toInt64) - ((((a1.toInt64) + (b1.toInt64)) + (c1.toInt64)) / (3 : Int64))) * ((b1.toInt64) - ((((a1.toInt64) + (b1.toInt64)) + (c1.toInt64)) / (3 : Int64))))) + (((c1.toInt64) - ((((a1.toInt64) + (b1.toInt64)) + (c1.toInt64)) / (3 : Int64))) * ((c1.toInt64) - ((((a1.toInt64) + (b1.toInt64)) + (c1.toInt64)) / (3 : Int64)))))), .second, .unset, .unset, .unset] [])) _
    refine XS.dload X30_.here hx rfl (hb hby at_188) rfl ?_
    refine XS.iloadN X30_.here hx rfl (hb hby at_190) rfl ?_
    refine XS.i2dS X30_.here hx rfl (hb hby at_191) rfl (v := d32_) hd32_ ?_
    show Steps p.tables e below (T30_.setTop (mkF m 192 #[.val (.int p0), .val (.int p1), .val (.int p2), .val (.int a1), .val (.int b1), .val (.int c0), .val (.int (((((a1 + b1) + c0) - ((((a1 + b1) + c0) / (3 : Int32)) * (3 : Int32))) + (3 : Int32)) - ((((((a1 + b1) + c0) - ((((a1 + b1) + c0) / (3 : Int32)) * (3 : Int32))) + (3 : Int32)) / (3 : Int32)) * (3 : Int32)))), .val (.int c1), .val (.ref b1_), .val (.double m2_5_), .second, .val (.double (9221120237041090560 : UInt64)), .second, .val (.double m2_15_), .second, .val (.double rr_21_), .second, .val (.double m2_24_), .second, .val (.double rr_30_), .second, .val (.long ((b1.toInt64) - (a1.toInt64))), .second, .val (.long ((((a1.toInt64) + (b1.toInt64)) + (c1.toInt64)) / (3 : Int64))), .second, .val (.long ((a1.toInt64) - ((((a1.toInt64) + (b1.toInt64)) + (c1.toInt64)) / (3 : Int64)))), .second, .val (.long ((b1.toInt64) - ((((a1.toInt64) + (b1.toInt64)) + (c1.toInt64)) / (3 : Int64)))), .second, .val (.long ((c1.toInt64) - ((((a1.toInt64) + (b1.toInt64)) + (c1.toInt64)) / (3 : Int64)))), .second, .val (.long (((((a1.toInt64) - ((((a1.toInt64) + (b1.toInt64)) + (c1.toInt64)) / (3 : Int64))) * ((a1.toInt64) - ((((a1.toInt64) + (b1.toInt64)) + (c1.toInt64)) / (3 : Int64)))) + (((b1.toInt64) - ((((a1.toInt64) + (b1.toInt64)) + (c1.toInt64)) / (3 : Int64))) * ((b1.toInt64) - ((((a1.toInt64) + (b1.toInt64)) + (c1.toInt64)) / (3 : Int64))))) + (((c1.toInt64) - ((((a1.toInt64) + (b1.toInt64)) + (c1.toInt64)) / (3 : Int64))) * ((c1.toInt64) - ((((a1.toInt64) + (b1.toInt64)) + (c1.toInt64)) / (3 : Int64)))))), .second, .unset, .unset, .unset] [(.double d32_), (.double m2_5_)])) _
    refine XS.dcmpS X30_.here hx rfl (hb hby at_192) rfl (v := (cmpValue (FP.dcmp m2_5_ d32_) .l)) rfl ?_
    show Steps p.tables e below (T30_.setTop (mkF m 193 #[.val (.int p0), .val (.int p1), .val (.int p2), .val (.int a1), .val (.int b1), .val (.int c0), .val (.int (((((a1 + b1) + c0) - ((((a1 + b1) + c0) / (3 : Int32)) * (3 : Int32))) + (3 : Int32)) - ((((((a1 + b1) + c0) - ((((a1 + b1) + c0) / (3 : Int32)) * (3 : Int32))) + (3 : Int32)) / (3 : Int32)) * (3 : Int32)))), .val (.int c1), .val (.ref b1_), .val (.double m2_5_), .second, .val (.double (9221120237041090560 : UInt64)), .second, .val (.double m2_15_), .second, .val (.double rr_21_), .second, .val (.double m2_24_), .second, .val (.double rr_30_), .second, .val (.long ((b1.toInt64) - (a1.toInt64))), .second, .val (.long ((((a1.toInt64) + (b1.toInt64)) + (c1.toInt64)) / (3 : Int64))), .second, .val (.long ((a1.toInt64) - ((((a1.toInt64) + (b1.toInt64)) + (c1.toInt64)) / (3 : Int64)))), .second, .val (.long ((b1.toInt64) - ((((a1.toInt64) + (b1.toInt64)) + (c1.toInt64)) / (3 : Int64)))), .second, .val (.long ((c1.toInt64) - ((((a1.toInt64) + (b1.toInt64)) + (c1.toInt64)) / (3 : Int64)))), .second, .val (.long (((((a1.toInt64) - ((((a1.toInt64) + (b1.toInt64)) + (c1.toInt64)) / (3 : Int64))) * ((a1.toInt64) - ((((a1.toInt64) + (b1.toInt64)) + (c1.toInt64)) / (3 : Int64)))) + (((b1.toInt64) - ((((a1.toInt64) + (b1.toInt64)) + (c1.toInt64)) / (3 : Int64))) * ((b1.toInt64) - ((((a1.toInt64) + (b1.toInt64)) + (c1.toInt64)) / (3 : Int64))))) + (((c1.toInt64) - ((((a1.toInt64) + (b1.toInt64)) + (c1.toInt64)) / (3 : Int64))) * ((c1.toInt64) - ((((a1.toInt64) + (b1.toInt64)) + (c1.toInt64)) / (3 : Int64)))))), .second, .unset, .unset, .unset] [(.int (cmpValue (FP.dcmp m2_5_ d32_) .l))])) _
    refine XS.ifNo X30_.here hx rfl (hb hby at_193) rfl ((if0 _ _).trans (teq ((own_cmp0 p5__3 p32_) : (cmpValue (FP.dcmp m2_5_ d32_) .l) = (0 : Int32))).2) ?_
    show Steps p.tables e below (T30_.setTop (mkF m 196 #[.val (.int p0), .val (.int p1), .val (.int p2), .val (.int a1), .val (.int b1), .val (.int c0), .val (.int (((((a1 + b1) + c0) - ((((a1 + b1) + c0) / (3 : Int32)) * (3 : Int32))) + (3 : Int32)) - ((((((a1 + b1) + c0) - ((((a1 + b1) + c0) / (3 : Int32)) * (3 : Int32))) + (3 : Int32)) / (3 : Int32)) * (3 : Int32)))), .val (.int c1), .val (.ref b1_), .val (.double m2_5_), .second, .val (.double (9221120237041090560 : UInt64)), .second, .val (.double m2_15_), .second, .val (.double rr_21_), .second, .val (.double m2_24_), .second, .val (.double rr_30_), .second, .val (.long ((b1.toInt64) - (a1.toInt64))), .second, .val (.long ((((a1.toInt64) + (b1.toInt64)) + (c1.toInt64)) / (3 : Int64))), .second, .val (.long ((a1.toInt64) - ((((a1.toInt64) + (b1.toInt64)) + (c1.toInt64)) / (3 : Int64)))), .second, .val (.long ((b1.toInt64) - ((((a1.toInt64) + (b1.toInt64)) + (c1.toInt64)) / (3 : Int64)))), .second, .val (.long ((c1.toInt64) - ((((a1.toInt64) + (b1.toInt64)) + (c1.toInt64)) / (3 : Int64)))), .second, .val (.long (((((a1.toInt64) - ((((a1.toInt64) + (b1.toInt64)) + (c1.toInt64)) / (3 : Int64))) * ((a1.toInt64) - ((((a1.toInt64) + (b1.toInt64)) + (c1.toInt64)) / (3 : Int64)))) + (((b1.toInt64) - ((((a1.toInt64) + (b1.toInt64)) + (c1.toInt64)) / (3 : Int64))) * ((b1.toInt64) - ((((a1.toInt64) + (b1.toInt64)) + (c1.toInt64)) / (3 : Int64))))) + (((c1.toInt64) - ((((a1.toInt64) + (b1.toInt64)) + (c1.toInt64)) / (3 : Int64))) * ((c1.toInt64) - ((((a1.toInt64) + (b1.toInt64)) + (c1.toInt64)) / (3 : Int64)))))), .second, .unset, .unset, .unset] [])) _
    refine XS.dload X30_.here hx rfl (hb hby at_196) rfl ?_
    refine XS.dload X30_.here hx rfl (hb hby at_198) rfl ?_
    refine XS.dcmpS X30_.here hx rfl (hb hby at_200) rfl (v := (cmpValue (FP.dcmp (9221120237041090560 : UInt64) (9221120237041090560 : UInt64)) .l)) rfl ?_
    show Steps p.tables e below (T30_.setTop (mkF m 201 #[.val (.int p0), .val (.int p1), .val (.int p2), .val (.int a1), .val (.int b1), .val (.int c0), .val (.int (((((a1 + b1) + c0) - ((((a1 + b1) + c0) / (3 : Int32)) * (3 : Int32))) + (3 : Int32)) - ((((((a1 + b1) + c0) - ((((a1 + b1) + c0) / (3 : Int32)) * (3 : Int32))) + (3 : Int32)) / (3 : Int32)) * (3 : Int32)))), .val (.int c1), .val (.ref b1_), .val (.double m2_5_), .second, .val (.double (9221120237041090560 : UInt64)), .second, .val (.double m2_15_), .second, .val (.double rr_21_), .second, .val (.double m2_24_), .second, .val (.double rr_30_), .second, .val (.long ((b1.toInt64) - (a1.toInt64))), .second, .val (.long ((((a1.toInt64) + (b1.toInt64)) + (c1.toInt64)) / (3 : Int64))), .second, .val (.long ((a1.toInt64) - ((((a1.toInt64) + (b1.toInt64)) + (c1.toInt64)) / (3 : Int64)))), .second, .val (.long ((b1.toInt64) - ((((a1.toInt64) + (b1.toInt64)) + (c1.toInt64)) / (3 : Int64)))), .second, .val (.long ((c1.toInt64) - ((((a1.toInt64) + (b1.toInt64)) + (c1.toInt64)) / (3 : Int64)))), .second, .val (.long (((((a1.toInt64) - ((((a1.toInt64) + (b1.toInt64)) + (c1.toInt64)) / (3 : Int64))) * ((a1.toInt64) - ((((a1.toInt64) + (b1.toInt64)) + (c1.toInt64)) / (3 : Int64)))) + (((b1.toInt64) - ((((a1.toInt64) + (b1.toInt64)) + (c1.toInt64)) / (3 : Int64))) * ((b1.toInt64) - ((((a1.toInt64) + (b1.toInt64)) + (c1.toInt64)) / (3 : Int64))))) + (((c1.toInt64) - ((((a1.toInt64) + (b1.toInt64)) + (c1.toInt64)) / (3 : Int64))) * ((c1.toInt64) - ((((a1.toInt64) + (b1.toInt64)) + (c1.toInt64)) / (3 : Int64)))))), .second, .unset, .unset, .unset] [(.int (cmpValue (FP.dcmp (9221120237041090560 : UInt64) (9221120237041090560 : UInt64)) .l))])) _
    refine XS.ifNo X30_.here hx rfl (hb hby at_201) rfl ((if0 _ _).trans (feq ((by decide +kernel) : ¬ ((cmpValue (FP.dcmp (9221120237041090560 : UInt64) (9221120237041090560 : UInt64)) .l) = (0 : Int32)))).1) ?_
    show Steps p.tables e below (T30_.setTop (mkF m 204 #[.val (.int p0), .val (.int p1), .val (.int p2), .val (.int a1), .val (.int b1), .val (.int c0), .val (.int (((((a1 + b1) + c0) - ((((a1 + b1) + c0) / (3 : Int32)) * (3 : Int32))) + (3 : Int32)) - ((((((a1 + b1) + c0) - ((((a1 + b1) + c0) / (3 : Int32)) * (3 : Int32))) + (3 : Int32)) / (3 : Int32)) * (3 : Int32)))), .val (.int c1), .val (.ref b1_), .val (.double m2_5_), .second, .val (.double (9221120237041090560 : UInt64)), .second, .val (.double m2_15_), .second, .val (.double rr_21_), .second, .val (.double m2_24_), .second, .val (.double rr_30_), .second, .val (.long ((b1.toInt64) - (a1.toInt64))), .second, .val (.long ((((a1.toInt64) + (b1.toInt64)) + (c1.toInt64)) / (3 : Int64))), .second, .val (.long ((a1.toInt64) - ((((a1.toInt64) + (b1.toInt64)) + (c1.toInt64)) / (3 : Int64)))), .second, .val (.long ((b1.toInt64) - ((((a1.toInt64) + (b1.toInt64)) + (c1.toInt64)) / (3 : Int64)))), .second, .val (.long ((c1.toInt64) - ((((a1.toInt64) + (b1.toInt64)) + (c1.toInt64)) / (3 : Int64)))), .second, .val (.long (((((a1.toInt64) - ((((a1.toInt64) + (b1.toInt64)) + (c1.toInt64)) / (3 : Int64))) * ((a1.toInt64) - ((((a1.toInt64) + (b1.toInt64)) + (c1.toInt64)) / (3 : Int64)))) + (((b1.toInt64) - ((((a1.toInt64) + (b1.toInt64)) + (c1.toInt64)) / (3 : Int64))) * ((b1.toInt64) - ((((a1.toInt64) + (b1.toInt64)) + (c1.toInt64)) / (3 : Int64))))) + (((c1.toInt64) - ((((a1.toInt64) + (b1.toInt64)) + (c1.toInt64)) / (3 : Int64))) * ((c1.toInt64) - ((((a1.toInt64) + (b1.toInt64)) + (c1.toInt64)) / (3 : Int64)))))), .second, .unset, .unset, .unset] [])) _
    refine XS.iconst X30_.here hx rfl (hb hby at_204) ?_
    refine XS.goto X30_.here hx rfl (pc0 := 205) (pc' := 209) rfl (hb hby at_205) (by decide) (by decide) ?_
    show Steps p.tables e below (T30_.setTop (mkF m 209 #[.val (.int p0), .val (.int p1), .val (.int p2), .val (.int a1), .val (.int b1), .val (.int c0), .val (.int (((((a1 + b1) + c0) - ((((a1 + b1) + c0) / (3 : Int32)) * (3 : Int32))) + (3 : Int32)) - ((((((a1 + b1) + c0) - ((((a1 + b1) + c0) / (3 : Int32)) * (3 : Int32))) + (3 : Int32)) / (3 : Int32)) * (3 : Int32)))), .val (.int c1), .val (.ref b1_), .val (.double m2_5_), .second, .val (.double (9221120237041090560 : UInt64)), .second, .val (.double m2_15_), .second, .val (.double rr_21_), .second, .val (.double m2_24_), .second, .val (.double rr_30_), .second, .val (.long ((b1.toInt64) - (a1.toInt64))), .second, .val (.long ((((a1.toInt64) + (b1.toInt64)) + (c1.toInt64)) / (3 : Int64))), .second, .val (.long ((a1.toInt64) - ((((a1.toInt64) + (b1.toInt64)) + (c1.toInt64)) / (3 : Int64)))), .second, .val (.long ((b1.toInt64) - ((((a1.toInt64) + (b1.toInt64)) + (c1.toInt64)) / (3 : Int64)))), .second, .val (.long ((c1.toInt64) - ((((a1.toInt64) + (b1.toInt64)) + (c1.toInt64)) / (3 : Int64)))), .second, .val (.long (((((a1.toInt64) - ((((a1.toInt64) + (b1.toInt64)) + (c1.toInt64)) / (3 : Int64))) * ((a1.toInt64) - ((((a1.toInt64) + (b1.toInt64)) + (c1.toInt64)) / (3 : Int64)))) + (((b1.toInt64) - ((((a1.toInt64) + (b1.toInt64)) + (c1.toInt64)) / (3 : Int64))) * ((b1.toInt64) - ((((a1.toInt64) + (b1.toInt64)) + (c1.toInt64)) / (3 : Int64))))) + (((c1.toInt64) - ((((a1.toInt64) + (b1.toInt64)) + (c1.toInt64)) / (3 : Int64))) * ((c1.toInt64) - ((((a1.toInt64) + (b1.toInt64)) + (c1.toInt64)) / (3 : Int64)))))), .second, .unset, .unset, .unset] [(.int (1 : Int32))])) _
    refine XS.istore X30_.here hx rfl (hb hby at_209) rfl (l' := #[.val (.int p0), .val (.int p1), .val (.int p2), .val (.int a1), .val (.int b1), .val (.int c0), .val (.int (((((a1 + b1) + c0) - ((((a1 + b1) + c0) / (3 : Int32)) * (3 : Int32))) + (3 : Int32)) - ((((((a1 + b1) + c0) - ((((a1 + b1) + c0) / (3 : Int32)) * (3 : Int32))) + (3 : Int32)) / (3 : Int32)) * (3 : Int32)))), .val (.int c1), .val (.ref b1_), .val (.double m2_5_), .second, .val (.double (9221120237041090560 : UInt64)), .second, .val (.double m2_15_), .second, .val (.double rr_21_), .second, .val (.double m2_24_), .second, .val (.double rr_30_), .second, .val (.long ((b1.toInt64) - (a1.toInt64))), .second, .val (.long ((((a1.toInt64) + (b1.toInt64)) + (c1.toInt64)) / (3 : Int64))), .second, .val (.long ((a1.toInt64) - ((((a1.toInt64) + (b1.toInt64)) + (c1.toInt64)) / (3 : Int64)))), .second, .val (.long ((b1.toInt64) - ((((a1.toInt64) + (b1.toInt64)) + (c1.toInt64)) / (3 : Int64)))), .second, .val (.long ((c1.toInt64) - ((((a1.toInt64) + (b1.toInt64)) + (c1.toInt64)) / (3 : Int64)))), .second, .val (.long (((((a1.toInt64) - ((((a1.toInt64) + (b1.toInt64)) + (c1.toInt64)) / (3 : Int64))) * ((a1.toInt64) - ((((a1.toInt64) + (b1.toInt64)) + (c1.toInt64)) / (3 : Int64)))) + (((b1.toInt64) - ((((a1.toInt64) + (b1.toInt64)) + (c1.toInt64)) / (3 : Int64))) * ((b1.toInt64) - ((((a1.toInt64) + (b1.toInt64)) + (c1.toInt64)) / (3 : Int64))))) + (((c1.toInt64) - ((((a1.toInt64) + (b1.toInt64)) + (c1.toInt64)) / (3 : Int64))) * ((c1.toInt64) - ((((a1.toInt64) + (b1.toInt64)) + (c1.toInt64)) / (3 : Int64)))))), .second, .val (.int (1 : Int32)), .unset, .unset]) rfl ?_
    show Steps p.tables e below (T30_.setTop (mkF m 211 #[.val (.int p0), .val (.int p1), .val (.int p2), .val (.int a1), .val (.int b1), .val (.int c0), .val (.int (((((a1 + b1) + c0) - ((((a1 + b1) + c0) / (3 : Int32)) * (3 : Int32))) + (3 : Int32)) - ((((((a1 + b1) + c0) - ((((a1 + b1) + c0) / (3 : Int32)) * (3 : Int32))) + (3 : Int32)) / (3 : Int32)) * (3 : Int32)))), .val (.int c1), .val (.ref b1_), .val (.double m2_5_), .second, .val (.double (9221120237041090560 : UInt64)), .second, .val (.double m2_15_), .second, .val (.double rr_21_), .second, .val (.double m2_24_), .second, .val (.double rr_30_), .second, .val (.long ((b1.toInt64) - (a1.toInt64))), .second, .val (.long ((((a1.toInt64) + (b1.toInt64)) + (c1.toInt64)) / (3 : Int64))), .second, .val (.long ((a1.toInt64) - ((((a1.toInt64) + (b1.toInt64)) + (c1.toInt64)) / (3 : Int64)))), .second, .val (.long ((b1.toInt64) - ((((a1.toInt64) + (b1.toInt64)) + (c1.toInt64)) / (3 : Int64)))), .second, .val (.long ((c1.toInt64) - ((((a1.toInt64) + (b1.toInt64)) + (c1.toInt64)) / (3 : Int64)))), .second, .val (.long (((((a1.toInt64) - ((((a1.toInt64) + (b1.toInt64)) + (c1.toInt64)) / (3 : Int64))) * ((a1.toInt64) - ((((a1.toInt64) + (b1.toInt64)) + (c1.toInt64)) / (3 : Int64)))) + (((b1.toInt64) - ((((a1.toInt64) + (b1.toInt64)) + (c1.toInt64)) / (3 : Int64))) * ((b1.toInt64) - ((((a1.toInt64) + (b1.toInt64)) + (c1.toInt64)) / (3 : Int64))))) + (((c1.toInt64) - ((((a1.toInt64) + (b1.toInt64)) + (c1.toInt64)) / (3 : Int64))) * ((c1.toInt64) - ((((a1.toInt64) + (b1.toInt64)) + (c1.toInt64)) / (3 : Int64)))))), .second, .val (.int (1 : Int32)), .unset, .unset] [])) _
    refine XS.dload X30_.here hx rfl (hb hby at_211) rfl ?_
    refine XS.iloadN X30_.here hx rfl (hb hby at_213) rfl ?_
    refine XS.iload X30_.here hx rfl (hb hby at_214) rfl ?_
    refine XS.iadd X30_.here hx rfl (hb hby at_216) rfl ?_
    show Steps p.tables e below (T30_.setTop (mkF m 217 #[.val (.int p0), .val (.int p1), .val (.int p2), .val (.int a1), .val (.int b1), .val (.int c0), .val (.int (((((a1 + b1) + c0) - ((((a1 + b1) + c0) / (3 : Int32)) * (3 : Int32))) + (3 : Int32)) - ((((((a1 + b1) + c0) - ((((a1 + b1) + c0) / (3 : Int32)) * (3 : Int32))) + (3 : Int32)) / (3 : Int32)) * (3 : Int32)))), .val (.int c1), .val (.ref b1_), .val (.double m2_5_), .second, .val (.double (9221120237041090560 : UInt64)), .second, .val (.double m2_15_), .second, .val (.double rr_21_), .second, .val (.double m2_24_), .second, .val (.double rr_30_), .second, .val (.long ((b1.toInt64) - (a1.toInt64))), .second, .val (.long ((((a1.toInt64) + (b1.toInt64)) + (c1.toInt64)) / (3 : Int64))), .second, .val (.long ((a1.toInt64) - ((((a1.toInt64) + (b1.toInt64)) + (c1.toInt64)) / (3 : Int64)))), .second, .val (.long ((b1.toInt64) - ((((a1.toInt64) + (b1.toInt64)) + (c1.toInt64)) / (3 : Int64)))), .second, .val (.long ((c1.toInt64) - ((((a1.toInt64) + (b1.toInt64)) + (c1.toInt64)) / (3 : Int64)))), .second, .val (.long (((((a1.toInt64) - ((((a1.toInt64) + (b1.toInt64)) + (c1.toInt64)) / (3 : Int64))) * ((a1.toInt64) - ((((a1.toInt64) + (b1.toInt64)) + (c1.toInt64)) / (3 : Int64)))) + (((b1.toInt64) - ((((a1.toInt64) + (b1.toInt64)) + (c1.toInt64)) / (3 : Int64))) * ((b1.toInt64) - ((((a1.toInt64) + (b1.toInt64)) + (c1.toInt64)) / (3 : Int64))))) + (((c1.toInt64) - ((((a1.toInt64) + (b1.toInt64)) + (c1.toInt64)) / (3 : Int64))) * ((c1.toInt64) - ((((a1.toInt64) + (b1.toInt64)) + (c1.toInt64)) / (3 : Int64)))))), .second, .val (.int (1 : Int32)), .unset, .unset] [(.int (a1 + b1)), (.double m2_15_)])) _
    refine XS.i2dS X30_.here hx rfl (hb hby at_217) rfl (v := d33_) hd33_ ?_
    show Steps p.tables e below (T30_.setTop (mkF m 218 #[.val (.int p0), .val (.int p1), .val (.int p2), .val (.int a1), .val (.int b1), .val (.int c0), .val (.int (((((a1 + b1) + c0) - ((((a1 + b1) + c0) / (3 : Int32)) * (3 : Int32))) + (3 : Int32)) - ((((((a1 + b1) + c0) - ((((a1 + b1) + c0) / (3 : Int32)) * (3 : Int32))) + (3 : Int32)) / (3 : Int32)) * (3 : Int32)))), .val (.int c1), .val (.ref b1_), .val (.double m2_5_), .second, .val (.double (9221120237041090560 : UInt64)), .second, .val (.double m2_15_), .second, .val (.double rr_21_), .second, .val (.double m2_24_), .second, .val (.double rr_30_), .second, .val (.long ((b1.toInt64) - (a1.toInt64))), .second, .val (.long ((((a1.toInt64) + (b1.toInt64)) + (c1.toInt64)) / (3 : Int64))), .second, .val (.long ((a1.toInt64) - ((((a1.toInt64) + (b1.toInt64)) + (c1.toInt64)) / (3 : Int64)))), .second, .val (.long ((b1.toInt64) - ((((a1.toInt64) + (b1.toInt64)) + (c1.toInt64)) / (3 : Int64)))), .second, .val (.long ((c1.toInt64) - ((((a1.toInt64) + (b1.toInt64)) + (c1.toInt64)) / (3 : Int64)))), .second, .val (.long (((((a1.toInt64) - ((((a1.toInt64) + (b1.toInt64)) + (c1.toInt64)) / (3 : Int64))) * ((a1.toInt64) - ((((a1.toInt64) + (b1.toInt64)) + (c1.toInt64)) / (3 : Int64)))) + (((b1.toInt64) - ((((a1.toInt64) + (b1.toInt64)) + (c1.toInt64)) / (3 : Int64))) * ((b1.toInt64) - ((((a1.toInt64) + (b1.toInt64)) + (c1.toInt64)) / (3 : Int64))))) + (((c1.toInt64) - ((((a1.toInt64) + (b1.toInt64)) + (c1.toInt64)) / (3 : Int64))) * ((c1.toInt64) - ((((a1.toInt64) + (b1.toInt64)) + (c1.toInt64)) / (3 : Int64)))))), .second, .val (.int (1 : Int32)), .unset, .unset] [(.double d33_), (.double m2_15_)])) _
    refine X30_.ldc2DoubleC hx hown (mvT hZ (hw _ (List.mem_of_getElem? (i := 33) rfl))) (g := (mkF m 218 #[.val (.int p0), .val (.int p1), .val (.int p2), .val (.int a1), .val (.int b1), .val (.int c0), .val (.int (((((a1 + b1) + c0) - ((((a1 + b1) + c0) / (3 : Int32)) * (3 : Int32))) + (3 : Int32)) - ((((((a1 + b1) + c0) - ((((a1 + b1) + c0) / (3 : Int32)) * (3 : Int32))) + (3 : Int32)) / (3 : Int32)) * (3 : Int32)))), .val (.int c1), .val (.ref b1_), .val (.double m2_5_), .second, .val (.double (9221120237041090560 : UInt64)), .second, .val (.double m2_15_), .second, .val (.double rr_21_), .second, .val (.double m2_24_), .second, .val (.double rr_30_), .second, .val (.long ((b1.toInt64) - (a1.toInt64))), .second, .val (.long ((((a1.toInt64) + (b1.toInt64)) + (c1.toInt64)) / (3 : Int64))), .second, .val (.long ((a1.toInt64) - ((((a1.toInt64) + (b1.toInt64)) + (c1.toInt64)) / (3 : Int64)))), .second, .val (.long ((b1.toInt64) - ((((a1.toInt64) + (b1.toInt64)) + (c1.toInt64)) / (3 : Int64)))), .second, .val (.long ((c1.toInt64) - ((((a1.toInt64) + (b1.toInt64)) + (c1.toInt64)) / (3 : Int64)))), .second, .val (.long (((((a1.toInt64) - ((((a1.toInt64) + (b1.toInt64)) + (c1.toInt64)) / (3 : Int64))) * ((a1.toInt64) - ((((a1.toInt64) + (b1.toInt64)) + (c1.toInt64)) / (3 : Int64)))) + (((b1.toInt64) - ((((a1.toInt64) + (b1.toInt64)) + (c1.toInt64)) / (3 : Int64))) * ((b1.toInt64) - ((((a1.toInt64) + (b1.toInt64)) + (c1.toInt64)) / (3 : Int64))))) + (((c1.toInt64) - ((((a1.toInt64) + (b1.toInt64)) + (c1.toInt64)) / (3 : Int64))) * ((c1.toInt64) - ((((a1.toInt64) + (b1.toInt64)) + (c1.toInt64)) / (3 : Int64)))))), .second, .val (.int (1 : Int32)), .unset, .unset] [(.double d33_), (.double m2_15_)])) rfl (hb hby at_218) _ ?_
    show Steps p.tables e below (T30_.setTop (mkF m 221 #[.val (.int p0), .val (.int p1), .val (.int p2), .val (.int a1), .val (.int b1), .val (.int c0), .val (.int (((((a1 + b1) + c0) - ((((a1 + b1) + c0) / (3 : Int32)) * (3 : Int32))) + (3 : Int32)) - ((((((a1 + b1) + c0) - ((((a1 + b1) + c0) / (3 : Int32)) * (3 : Int32))) + (3 : Int32)) / (3 : Int32)) * (3 : Int32)))), .val (.int c1), .val (.ref b1_), .val (.double m2_5_), .second, .val (.double (9221120237041090560 : UInt64)), .second, .val (.double m2_15_), .second, .val (.double rr_21_), .second, .val (.double m2_24_), .second, .val (.double rr_30_), .second, .val (.long ((b1.toInt64) - (a1.toInt64))), .second, .val (.long ((((a1.toInt64) + (b1.toInt64)) + (c1.toInt64)) / (3 : Int64))), .second, .val (.long ((a1.toInt64) - ((((a1.toInt64) + (b1.toInt64)) + (c1.toInt64)) / (3 : Int64)))), .second, .val (.long ((b1.toInt64) - ((((a1.toInt64) + (b1.toInt64)) + (c1.toInt64)) / (3 : Int64)))), .second, .val (.long ((c1.toInt64) - ((((a1.toInt64) + (b1.toInt64)) + (c1.toInt64)) / (3 : Int64)))), .second, .val (.long (((((a1.toInt64) - ((((a1.toInt64) + (b1.toInt64)) + (c1.toInt64)) / (3 : Int64))) * ((a1.toInt64) - ((((a1.toInt64) + (b1.toInt64)) + (c1.toInt64)) / (3 : Int64)))) + (((b1.toInt64) - ((((a1.toInt64) + (b1.toInt64)) + (c1.toInt64)) / (3 : Int64))) * ((b1.toInt64) - ((((a1.toInt64) + (b1.toInt64)) + (c1.toInt64)) / (3 : Int64))))) + (((c1.toInt64) - ((((a1.toInt64) + (b1.toInt64)) + (c1.toInt64)) / (3 : Int64))) * ((c1.toInt64) - ((((a1.toInt64) + (b1.toInt64)) + (c1.toInt64)) / (3 : Int64)))))), .second, .val (.int (1 : Int32)), .unset, .unset] [(.double (4611686018427387904 : UInt64)), (.double d33_), (.double m2_15_)])) _
    refine XS.ddivS X30_.here hx rfl (hb hby at_221) rfl nn34_ (v := d34_) hd34_ ?_
    show Steps p.tables e below (T30_.setTop (mkF m 222 #[.val (.int p0), .val (.int p1), .val (.int p2), .val (.int a1), .val (.int b1), .val (.int c0), .val (.int (((((a1 + b1) + c0) - ((((a1 + b1) + c0) / (3 : Int32)) * (3 : Int32))) + (3 : Int32)) - ((((((a1 + b1) + c0) - ((((a1 + b1) + c0) / (3 : Int32)) * (3 : Int32))) + (3 : Int32)) / (3 : Int32)) * (3 : Int32)))), .val (.int c1), .val (.ref b1_), .val (.double m2_5_), .second, .val (.double (9221120237041090560 : UInt64)), .second, .val (.double m2_15_), .second, .val (.double rr_21_), .second, .val (.double m2_24_), .second, .val (.double rr_30_), .second, .val (.long ((b1.toInt64) - (a1.toInt64))), .second, .val (.long ((((a1.toInt64) + (b1.toInt64)) + (c1.toInt64)) / (3 : Int64))), .second, .val (.long ((a1.toInt64) - ((((a1.toInt64) + (b1.toInt64)) + (c1.toInt64)) / (3 : Int64)))), .second, .val (.long ((b1.toInt64) - ((((a1.toInt64) + (b1.toInt64)) + (c1.toInt64)) / (3 : Int64)))), .second, .val (.long ((c1.toInt64) - ((((a1.toInt64) + (b1.toInt64)) + (c1.toInt64)) / (3 : Int64)))), .second, .val (.long (((((a1.toInt64) - ((((a1.toInt64) + (b1.toInt64)) + (c1.toInt64)) / (3 : Int64))) * ((a1.toInt64) - ((((a1.toInt64) + (b1.toInt64)) + (c1.toInt64)) / (3 : Int64)))) + (((b1.toInt64) - ((((a1.toInt64) + (b1.toInt64)) + (c1.toInt64)) / (3 : Int64))) * ((b1.toInt64) - ((((a1.toInt64) + (b1.toInt64)) + (c1.toInt64)) / (3 : Int64))))) + (((c1.toInt64) - ((((a1.toInt64) + (b1.toInt64)) + (c1.toInt64)) / (3 : Int64))) * ((c1.toInt64) - ((((a1.toInt64) + (b1.toInt64)) + (c1.toInt64)) / (3 : Int64)))))), .second, .val (.int (1 : Int32)), .unset, .unset] [(.double d34_), (.double m2_15_)])) _
    refine XS.dcmpS X30_.here hx rfl (hb hby at_222) rfl (v := (cmpValue (FP.dcmp m2_15_ d34_) .l)) rfl ?_
    show Steps p.tables e below (T30_.setTop (mkF m 223 #[.val (.int p0), .val (.int p1), .val (.int p2), .val (.int a1), .val (.int b1), .val (.int c0), .val (.int (((((a1 + b1) + c0) - ((((a1 + b1) + c0) / (3 : Int32)) * (3 : Int32))) + (3 : Int32)) - ((((((a1 + b1) + c0) - ((((a1 + b1) + c0) / (3 : Int32)) * (3 : Int32))) + (3 : Int32)) / (3 : Int32)) * (3 : Int32)))), .val (.int c1), .val (.ref b1_), .val (.double m2_5_), .second, .val (.double (9221120237041090560 : UInt64)), .second, .val (.double m2_15_), .second, .val (.double rr_21_), .second, .val (.double m2_24_), .second, .val (.double rr_30_), .second, .val (.long ((b1.toInt64) - (a1.toInt64))), .second, .val (.long ((((a1.toInt64) + (b1.toInt64)) + (c1.toInt64)) / (3 : Int64))), .second, .val (.long ((a1.toInt64) - ((((a1.toInt64) + (b1.toInt64)) + (c1.toInt64)) / (3 : Int64)))), .second, .val (.long ((b1.toInt64) - ((((a1.toInt64) + (b1.toInt64)) + (c1.toInt64)) / (3 : Int64)))), .second, .val (.long ((c1.toInt64) - ((((a1.toInt64) + (b1.toInt64)) + (c1.toInt64)) / (3 : Int64)))), .second, .val (.long (((((a1.toInt64) - ((((a1.toInt64) + (b1.toInt64)) + (c1.toInt64)) / (3 : Int64))) * ((a1.toInt64) - ((((a1.toInt64) + (b1.toInt64)) + (c1.toInt64)) / (3 : Int64)))) + (((b1.toInt64) - ((((a1.toInt64) + (b1.toInt64)) + (c1.toInt64)) / (3 : Int64))) * ((b1.toInt64) - ((((a1.toInt64) + (b1.toInt64)) + (c1.toInt64)) / (3 : Int64))))) + (((c1.toInt64) - ((((a1.toInt64) + (b1.toInt64)) + (c1.toInt64)) / (3 : Int64))) * ((c1.toInt64) - ((((a1.toInt64) + (b1.toInt64)) + (c1.toInt64)) / (3 : Int64)))))), .second, .val (.int (1 : Int32)), .unset, .unset] [(.int (cmpValue (FP.dcmp m2_15_ d34_) .l))])) _
    refine XS.ifNo X30_.here hx rfl (hb hby at_223) rfl ((if0 _ _).trans (teq ((own_cmp0 p15__3 p34_) : (cmpValue (FP.dcmp m2_15_ d34_) .l) = (0 : Int32))).2) ?_
    show Steps p.tables e below (T30_.setTop (mkF m 226 #[.val (.int p0), .val (.int p1), .val (.int p2), .val (.int a1), .val (.int b1), .val (.int c0), .val (.int (((((a1 + b1) + c0) - ((((a1 + b1) + c0) / (3 : Int32)) * (3 : Int32))) + (3 : Int32)) - ((((((a1 + b1) + c0) - ((((a1 + b1) + c0) / (3 : Int32)) * (3 : Int32))) + (3 : Int32)) / (3 : Int32)) * (3 : Int32)))), .val (.int c1), .val (.ref b1_), .val (.double m2_5_), .second, .val (.double (9221120237041090560 : UInt64)), .second, .val (.double m2_15_), .second, .val (.double rr_21_), .second, .val (.double m2_24_), .second, .val (.double rr_30_), .second, .val (.long ((b1.toInt64) - (a1.toInt64))), .second, .val (.long ((((a1.toInt64) + (b1.toInt64)) + (c1.toInt64)) / (3 : Int64))), .second, .val (.long ((a1.toInt64) - ((((a1.toInt64) + (b1.toInt64)) + (c1.toInt64)) / (3 : Int64)))), .second, .val (.long ((b1.toInt64) - ((((a1.toInt64) + (b1.toInt64)) + (c1.toInt64)) / (3 : Int64)))), .second, .val (.long ((c1.toInt64) - ((((a1.toInt64) + (b1.toInt64)) + (c1.toInt64)) / (3 : Int64)))), .second, .val (.long (((((a1.toInt64) - ((((a1.toInt64) + (b1.toInt64)) + (c1.toInt64)) / (3 : Int64))) * ((a1.toInt64) - ((((a1.toInt64) + (b1.toInt64)) + (c1.toInt64)) / (3 : Int64)))) + (((b1.toInt64) - ((((a1.toInt64) + (b1.toInt64)) + (c1.toInt64)) / (3 : Int64))) * ((b1.toInt64) - ((((a1.toInt64) + (b1.toInt64)) + (c1.toInt64)) / (3 : Int64))))) + (((c1.toInt64) - ((((a1.toInt64) + (b1.toInt64)) + (c1.toInt64)) / (3 : Int64))) * ((c1.toInt64) - ((((a1.toInt64) + (b1.toInt64)) + (c1.toInt64)) / (3 : Int64)))))), .second, .val (.int (1 : Int32)), .unset, .unset] [])) _
    refine XS.dload X30_.here hx rfl (hb hby at_226) rfl ?_
    refine XS.lload X30_.here hx rfl (hb hby at_228) rfl ?_
    refine XS.lload X30_.here hx rfl (hb hby at_230) rfl ?_
    refine XS.lmul X30_.here hx rfl (hb hby at_232) rfl ?_
    show Steps p.tables e below (T30_.setTop (mkF m 233 #[.val (.int p0), .val (.int p1), .val (.int p2), .val (.int a1), .val (.int b1), .val (.int c0), .val (.int (((((a1 + b1) + c0) - ((((a1 + b1) + c0) / (3 : Int32)) * (3 : Int32))) + (3 : Int32)) - ((((((a1 + b1) + c0) - ((((a1 + b1) + c0) / (3 : Int32)) * (3 : Int32))) + (3 : Int32)) / (3 : Int32)) * (3 : Int32)))), .val (.int c1), .val (.ref b1_), .val (.double m2_5_), .second, .val (.double (9221120237041090560 : UInt64)), .second, .val (.double m2_15_), .second, .val (.double rr_21_), .second, .val (.double m2_24_), .second, .val (.double rr_30_), .second, .val (.long ((b1.toInt64) - (a1.toInt64))), .second, .val (.long ((((a1.toInt64) + (b1.toInt64)) + (c1.toInt64)) / (3 : Int64))), .second, .val (.long ((a1.toInt64) - ((((a1.toInt64) + (b1.toInt64)) + (c1.toInt64)) / (3 : Int64)))), .second, .val (.long ((b1.toInt64) - ((((a1.toInt64) + (b1.toInt64)) + (c1.toInt64)) / (3 : Int64)))), .second, .val (.long ((c1.toInt64) - ((((a1.toInt64) + (b1.toInt64)) + (c1.toInt64)) / (3 : Int64)))), .second, .val (.long (((((a1.toInt64) - ((((a1.toInt64) + (b1.toInt64)) + (c1.toInt64)) / (3 : Int64))) * ((a1.toInt64) - ((((a1.toInt64) + (b1.toInt64)) + (c1.toInt64)) / (3 : Int64)))) + (((b1.toInt64) - ((((a1.toInt64) + (b1.toInt64)) + (c1.toInt64)) / (3 : Int64))) * ((b1.toInt64) - ((((a1.toInt64) + (b1.toInt64)) + (c1.toInt64)) / (3 : Int64))))) + (((c1.toInt64) - ((((a1.toInt64) + (b1.toInt64)) + (c1.toInt64)) / (3 : Int64))) * ((c1.toInt64) - ((((a1.toInt64) + (b1.toInt64)) + (c1.toInt64)) / (3 : Int64)))))), .second, .val (.int (1 : Int32)), .unset, .unset] [(.long (((b1.toInt64) - (a1.toInt64)) * ((b1.toInt64) - (a1.toInt64)))), (.double rr_21_)])) _
    refine XS.l2dS X30_.here hx rfl (hb hby at_233) rfl (v := d35_) hd35_ ?_
    show Steps p.tables e below (T30_.setTop (mkF m 234 #[.val (.int p0), .val (.int p1), .val (.int p2), .val (.int a1), .val (.int b1), .val (.int c0), .val (.int (((((a1 + b1) + c0) - ((((a1 + b1) + c0) / (3 : Int32)) * (3 : Int32))) + (3 : Int32)) - ((((((a1 + b1) + c0) - ((((a1 + b1) + c0) / (3 : Int32)) * (3 : Int32))) + (3 : Int32)) / (3 : Int32)) * (3 : Int32)))), .val (.int c1), .val (.ref b1_), .val (.double m2_5_), .second, .val (.double (9221120237041090560 : UInt64)), .second, .val (.double m2_15_), .second, .val (.double rr_21_), .second, .val (.double m2_24_), .second, .val (.double rr_30_), .second, .val (.long ((b1.toInt64) - (a1.toInt64))), .second, .val (.long ((((a1.toInt64) + (b1.toInt64)) + (c1.toInt64)) / (3 : Int64))), .second, .val (.long ((a1.toInt64) - ((((a1.toInt64) + (b1.toInt64)) + (c1.toInt64)) / (3 : Int64)))), .second, .val (.long ((b1.toInt64) - ((((a1.toInt64) + (b1.toInt64)) + (c1.toInt64)) / (3 : Int64)))), .second, .val (.long ((c1.toInt64) - ((((a1.toInt64) + (b1.toInt64)) + (c1.toInt64)) / (3 : Int64)))), .second, .val (.long (((((a1.toInt64) - ((((a1.toInt64) + (b1.toInt64)) + (c1.toInt64)) / (3 : Int64))) * ((a1.toInt64) - ((((a1.toInt64) + (b1.toInt64)) + (c1.toInt64)) / (3 : Int64)))) + (((b1.toInt64) - ((((a1.toInt64) + (b1.toInt64)) + (c1.toInt64)) / (3 : Int64))) * ((b1.toInt64) - ((((a1.toInt64) + (b1.toInt64)) + (c1.toInt64)) / (3 : Int64))))) + (((c1.toInt64) - ((((a1.toInt64) + (b1.toInt64)) + (c1.toInt64)) / (3 : Int64))) * ((c1.toInt64) - ((((a1.toInt64) + (b1.toInt64)) + (c1.toInt64)) / (3 : Int64)))))), .second, .val (.int (1 : Int32)), .unset, .unset] [(.double d35_), (.double rr_21_)])) _
    refine X30_.ldc2DoubleC hx hown (mvT hZ (hw _ (List.mem_of_getElem? (i := 33) rfl))) (g := (mkF m 234 #[.val (.int p0), .val (.int p1), .val (.int p2), .val (.int a1), .val (.int b1), .val (.int c0), .val (.int (((((a1 + b1) + c0) - ((((a1 + b1) + c0) / (3 : Int32)) * (3 : Int32))) + (3 : Int32)) - ((((((a1 + b1) + c0) - ((((a1 + b1) + c0) / (3 : Int32)) * (3 : Int32))) + (3 : Int32)) / (3 : Int32)) * (3 : Int32)))), .val (.int c1), .val (.ref b1_), .val (.double m2_5_), .second, .val (.double (9221120237041090560 : UInt64)), .second, .val (.double m2_15_), .second, .val (.double rr_21_), .second, .val (.double m2_24_), .second, .val (.double rr_30_), .second, .val (.long ((b1.toInt64) - (a1.toInt64))), .second, .val (.long ((((a1.toInt64) + (b1.toInt64)) + (c1.toInt64)) / (3 : Int64))), .second, .val (.long ((a1.toInt64) - ((((a1.toInt64) + (b1.toInt64)) + (c1.toInt64)) / (3 : Int64)))), .second, .val (.long ((b1.toInt64) - ((((a1.toInt64) + (b1.toInt64)) + (c1.toInt64)) / (3 : Int64)))), .second, .val (.long ((c1.toInt64) - ((((a1.toInt64) + (b1.toInt64)) + (c1.toInt64)) / (3 : Int64)))), .second, .val (.long (((((a1.toInt64) - ((((a1.toInt64) + (b1.toInt64)) + (c1.toInt64)) / (3 : Int64))) * ((a1.toInt64) - ((((a1.toInt64) + (b1.toInt64)) + (c1.toInt64)) / (3 : Int64)))) + (((b1.toInt64) - ((((a1.toInt64) + (b1.toInt64)) + (c1.toInt64)) / (3 : Int64))) * ((b1.toInt64) - ((((a1.toInt64) + (b1.toInt64)) + (c1.toInt64)) / (3 : Int64))))) + (((c1.toInt64) - ((((a1.toInt64) + (b1.toInt64)) + (c1.toInt64)) / (3 : Int64))) * ((c1.toInt64) - ((((a1.toInt64) + (b1.toInt64)) + (c1.toInt64)) / (3 : Int64)))))), .second, .val (.int (1 : Int32)), .unset, .unset] [(.double d35_), (.double rr_21_)])) rfl (hb hby at_234) _ ?_
    show Steps p.tables e below (T30_.setTop (mkF m 237 #[.val (.int p0), .val (.int p1), .val (.int p2), .val (.int a1), .val (.int b1), .val (.int c0), .val (.int (((((a1 + b1) + c0) - ((((a1 + b1) + c0) / (3 : Int32)) * (3 : Int32))) + (3 : Int32)) - ((((((a1 + b1) + c0) - ((((a1 + b1) + c0) / (3 : Int32)) * (3 : Int32))) + (3 : Int32)) / (3 : Int32)) * (3 : Int32)))), .val (.int c1), .val (.ref b1_), .val (.double m2_5_), .second, .val (.double (9221120237041090560 : UInt64)), .second, .val (.double m2_15_), .second, .val (.double rr_21_), .second, .val (.double m2_24_), .second, .val (.double rr_30_), .second, .val (.long ((b1.toInt64) - (a1.toInt64))), .second, .val (.long ((((a1.toInt64) + (b1.toInt64)) + (c1.toInt64)) / (3 : Int64))), .second, .val (.long ((a1.toInt64) - ((((a1.toInt64) + (b1.toInt64)) + (c1.toInt64)) / (3 : Int64)))), .second, .val (.long ((b1.toInt64) - ((((a1.toInt64) + (b1.toInt64)) + (c1.toInt64)) / (3 : Int64)))), .second, .val (.long ((c1.toInt64) - ((((a1.toInt64) + (b1.toInt64)) + (c1.toInt64)) / (3 : Int64)))), .second, .val (.long (((((a1.toInt64) - ((((a1.toInt64) + (b1.toInt64)) + (c1.toInt64)) / (3 : Int64))) * ((a1.toInt64) - ((((a1.toInt64) + (b1.toInt64)) + (c1.toInt64)) / (3 : Int64)))) + (((b1.toInt64) - ((((a1.toInt64) + (b1.toInt64)) + (c1.toInt64)) / (3 : Int64))) * ((b1.toInt64) - ((((a1.toInt64) + (b1.toInt64)) + (c1.toInt64)) / (3 : Int64))))) + (((c1.toInt64) - ((((a1.toInt64) + (b1.toInt64)) + (c1.toInt64)) / (3 : Int64))) * ((c1.toInt64) - ((((a1.toInt64) + (b1.toInt64)) + (c1.toInt64)) / (3 : Int64)))))), .second, .val (.int (1 : Int32)), .unset, .unset] [(.double (4611686018427387904 : UInt64)), (.double d35_), (.double rr_21_)])) _
    refine XS.ddivS X30_.here hx rfl (hb hby at_237) rfl nn36_ (v := d36_) hd36_ ?_
    show Steps p.tables e below (T30_.setTop (mkF m 238 #[.val (.int p0), .val (.int p1), .val (.int p2), .val (.int a1), .val (.int b1), .val (.int c0), .val (.int (((((a1 + b1) + c0) - ((((a1 + b1) + c0) / (3 : Int32)) * (3 : Int32))) + (3 : Int32)) - ((((((a1 + b1) + c0) - ((((a1 + b1) + c0) / (3 : Int32)) * (3 : Int32))) + (3 : Int32)) / (3 : Int32)) * (3 : Int32)))), .val (.int c1), .val (.ref b1_), .val (.double m2_5_), .second, .val (.double (9221120237041090560 : UInt64)), .second, .val (.double m2_15_), .second, .val (.double rr_21_), .second, .val (.double m2_24_), .second, .val (.double rr_30_), .second, .val (.long ((b1.toInt64) - (a1.toInt64))), .second, .val (.long ((((a1.toInt64) + (b1.toInt64)) + (c1.toInt64)) / (3 : Int64))), .second, .val (.long ((a1.toInt64) - ((((a1.toInt64) + (b1.toInt64)) + (c1.toInt64)) / (3 : Int64)))), .second, .val (.long ((b1.toInt64) - ((((a1.toInt64) + (b1.toInt64)) + (c1.toInt64)) / (3 : Int64)))), .second, .val (.long ((c1.toInt64) - ((((a1.toInt64) + (b1.toInt64)) + (c1.toInt64)) / (3 : Int64)))), .second, .val (.long (((((a1.toInt64) - ((((a1.toInt64) + (b1.toInt64)) + (c1.toInt64)) / (3 : Int64))) * ((a1.toInt64) - ((((a1.toInt64) + (b1.toInt64)) + (c1.toInt64)) / (3 : Int64)))) + (((b1.toInt64) - ((((a1.toInt64) + (b1.toInt64)) + (c1.toInt64)) / (3 : Int64))) * ((b1.toInt64) - ((((a1.toInt64) + (b1.toInt64)) + (c1.toInt64)) / (3 : Int64))))) + (((c1.toInt64) - ((((a1.toInt64) + (b1.toInt64)) + (c1.toInt64)) / (3 : Int64))) * ((c1.toInt64) - ((((a1.toInt64) + (b1.toInt64)) + (c1.toInt64)) / (3 : Int64)))))), .second, .val (.int (1 : Int32)), .unset, .unset] [(.double d36_), (.double rr_21_)])) _
    refine XS.dcmpS X30_.here hx rfl (hb hby at_238) rfl (v := (cmpValue (FP.dcmp rr_21_ d36_) .l)) rfl ?_
    show Steps p.tables e below (T30_.setTop (mkF m 239 #[.val (.int p0), .val (.int p1), .val (.int p2), .val (.int a1), .val (.int b1), .val (.int c0), .val (.int (((((a1 + b1) + c0) - ((((a1 + b1) + c0) / (3 : Int32)) * (3 : Int32))) + (3 : Int32)) - ((((((a1 + b1) + c0) - ((((a1 + b1) + c0) / (3 : Int32)) * (3 : Int32))) + (3 : Int32)) / (3 : Int32)) * (3 : Int32)))), .val (.int c1), .val (.ref b1_), .val (.double m2_5_), .second, .val (.double (9221120237041090560 : UInt64)), .second, .val (.double m2_15_), .second, .val (.double rr_21_), .second, .val (.double m2_24_), .second, .val (.double rr_30_), .second, .val (.long ((b1.toInt64) - (a1.toInt64))), .second, .val (.long ((((a1.toInt64) + (b1.toInt64)) + (c1.toInt64)) / (3 : Int64))), .second, .val (.long ((a1.toInt64) - ((((a1.toInt64) + (b1.toInt64)) + (c1.toInt64)) / (3 : Int64)))), .second, .val (.long ((b1.toInt64) - ((((a1.toInt64) + (b1.toInt64)) + (c1.toInt64)) / (3 : Int64)))), .second, .val (.long ((c1.toInt64) - ((((a1.toInt64) + (b1.toInt64)) + (c1.toInt64)) / (3 : Int64)))), .second, .val (.long (((((a1.toInt64) - ((((a1.toInt64) + (b1.toInt64)) + (c1.toInt64)) / (3 : Int64))) * ((a1.toInt64) - ((((a1.toInt64) + (b1.toInt64)) + (c1.toInt64)) / (3 : Int64)))) + (((b1.toInt64) - ((((a1.toInt64) + (b1.toInt64)) + (c1.toInt64)) / (3 : Int64))) * ((b1.toInt64) - ((((a1.toInt64) + (b1.toInt64)) + (c1.toInt64)) / (3 : Int64))))) + (((c1.toInt64) - ((((a1.toInt64) + (b1.toInt64)) + (c1.toInt64)) / (3 : Int64))) * ((c1.toInt64) - ((((a1.toInt64) + (b1.toInt64)) + (c1.toInt64)) / (3 : Int64)))))), .second, .val (.int (1 : Int32)), .unset, .unset] [(.int (cmpValue (FP.dcmp rr_21_ d36_) .l))])) _
    refine XS.ifNo X30_.here hx rfl (hb hby at_239) rfl ((if0 _ _).trans (teq ((own_cmp0 p21__0 p36_) : (cmpValue (FP.dcmp rr_21_ d36_) .l) = (0 : Int32))).2) ?_
    show Steps p.tables e below (T30_.setTop (mkF m 242 #[.val (.int p0), .val (.int p1), .val (.int p2), .val (.int a1), .val (.int b1), .val (.int c0), .val (.int (((((a1 + b1) + c0) - ((((a1 + b1) + c0) / (3 : Int32)) * (3 : Int32))) + (3 : Int32)) - ((((((a1 + b1) + c0) - ((((a1 + b1) + c0) / (3 : Int32)) * (3 : Int32))) + (3 : Int32)) / (3 : Int32)) * (3 : Int32)))), .val (.int c1), .val (.ref b1_), .val (.double m2_5_), .second, .val (.double (9221120237041090560 : UInt64)), .second, .val (.double m2_15_), .second, .val (.double rr_21_), .second, .val (.double m2_24_), .second, .val (.double rr_30_), .second, .val (.long ((b1.toInt64) - (a1.toInt64))), .second, .val (.long ((((a1.toInt64) + (b1.toInt64)) + (c1.toInt64)) / (3 : Int64))), .second, .val (.long ((a1.toInt64) - ((((a1.toInt64) + (b1.toInt64)) + (c1.toInt64)) / (3 : Int64)))), .second, .val (.long ((b1.toInt64) - ((((a1.toInt64) + (b1.toInt64)) + (c1.toInt64)) / (3 : Int64)))), .second, .val (.long ((c1.toInt64) - ((((a1.toInt64) + (b1.toInt64)) + (c1.toInt64)) / (3 : Int64)))), .second, .val (.long (((((a1.toInt64) - ((((a1.toInt64) + (b1.toInt64)) + (c1.toInt64)) / (3 : Int64))) * ((a1.toInt64) - ((((a1.toInt64) + (b1.toInt64)) + (c1.toInt64)) / (3 : Int64)))) + (((b1.toInt64) - ((((a1.toInt64) + (b1.toInt64)) + (c1.toInt64)) / (3 : Int64))) * ((b1.toInt64) - ((((a1.toInt64) + (b1.toInt64)) + (c1.toInt64)) / (3 : Int64))))) + (((c1.toInt64) - ((((a1.toInt64) + (b1.toInt64)) + (c1.toInt64)) / (3 : Int64))) * ((c1.toInt64) - ((((a1.toInt64) + (b1.toInt64)) + (c1.toInt64)) / (3 : Int64)))))), .second, .val (.int (1 : Int32)), .unset, .unset] [])) _
    refine XS.iconst X30_.here hx rfl (hb hby at_242) ?_
    refine XS.goto X30_.here hx rfl (pc0 := 243) (pc' := 247) rfl (hb hby at_243) (by decide) (by decide) ?_
    show Steps p.tables e below (T30_.setTop (mkF m 247 #[.val (.int p0), .val (.int p1), .val (.int p2), .val (.int a1), .val (.int b1), .val (.int c0), .val (.int (((((a1 + b1) + c0) - ((((a1 + b1) + c0) / (3 : Int32)) * (3 : Int32))) + (3 : Int32)) - ((((((a1 + b1) + c0) - ((((a1 + b1) + c0) / (3 : Int32)) * (3 : Int32))) + (3 : Int32)) / (3 : Int32)) * (3 : Int32)))), .val (.int c1), .val (.ref b1_), .val (.double m2_5_), .second, .val (.double (9221120237041090560 : UInt64)), .second, .val (.double m2_15_), .second, .val (.double rr_21_), .second, .val (.double m2_24_), .second, .val (.double rr_30_), .second, .val (.long ((b1.toInt64) - (a1.toInt64))), .second, .val (.long ((((a1.toInt64) + (b1.toInt64)) + (c1.toInt64)) / (3 : Int64))), .second, .val (.long ((a1.toInt64) - ((((a1.toInt64) + (b1.toInt64)) + (c1.toInt64)) / (3 : Int64)))), .second, .val (.long ((b1.toInt64) - ((((a1.toInt64) + (b1.toInt64)) + (c1.toInt64)) / (3 : Int64)))), .second, .val (.long ((c1.toInt64) - ((((a1.toInt64) + (b1.toInt64)) + (c1.toInt64)) / (3 : Int64)))), .second, .val (.long (((((a1.toInt64) - ((((a1.toInt64) + (b1.toInt64)) + (c1.toInt64)) / (3 : Int64))) * ((a1.toInt64) - ((((a1.toInt64) + (b1.toInt64)) + (c1.toInt64)) / (3 : Int64)))) + (((b1.toInt64) - ((((a1.toInt64) + (b1.toInt64)) + (c1.toInt64)) / (3 : Int64))) * ((b1.toInt64) - ((((a1.toInt64) + (b1.toInt64)) + (c1.toInt64)) / (3 : Int64))))) + (((c1.toInt64) - ((((a1.toInt64) + (b1.toInt64)) + (c1.toInt64)) / (3 : Int64))) * ((c1.toInt64) - ((((a1.toInt64) + (b1.toInt64)) + (c1.toInt64)) / (3 : Int64)))))), .second, .val (.int (1 : Int32)), .unset, .unset] [(.int (1 : Int32))])) _
    refine XS.istore X30_.here hx rfl (hb hby at_247) rfl (l' := #[.val (.int p0), .val (.int p1), .val (.int p2), .val (.int a1), .val (.int b1), .val (.int c0), .val (.int (((((a1 + b1) + c0) - ((((a1 + b1) + c0) / (3 : Int32)) * (3 : Int32))) + (3 : Int32)) - ((((((a1 + b1) + c0) - ((((a1 + b1) + c0) / (3 : Int32)) * (3 : Int32))) + (3 : Int32)) / (3 : Int32)) * (3 : Int32)))), .val (.int c1), .val (.ref b1_), .val (.double m2_5_), .second, .val (.double (9221120237041090560 : UInt64)), .second, .val (.double m2_15_), .second, .val (.double rr_21_), .second, .val (.double m2_24_), .second, .val (.double rr_30_), .second, .val (.long ((b1.toInt64) - (a1.toInt64))), .second, .val (.long ((((a1.toInt64) + (b1.toInt64)) + (c1.toInt64)) / (3 : Int64))), .second, .val (.long ((a1.toInt64) - ((((a1.toInt64) + (b1.toInt64)) + (c1.toInt64)) / (3 : Int64)))), .second, .val (.long ((b1.toInt64) - ((((a1.toInt64) + (b1.toInt64)) + (c1.toInt64)) / (3 : Int64)))), .second, .val (.long ((c1.toInt64) - ((((a1.toInt64) + (b1.toInt64)) + (c1.toInt64)) / (3 : Int64)))), .second, .val (.long (((((a1.toInt64) - ((((a1.toInt64) + (b1.toInt64)) + (c1.toInt64)) / (3 : Int64))) * ((a1.toInt64) - ((((a1.toInt64) + (b1.toInt64)) + (c1.toInt64)) / (3 : Int64)))) + (((b1.toInt64) - ((((a1.toInt64) + (b1.toInt64)) + (c1.toInt64)) / (3 : Int64))) * ((b1.toInt64) - ((((a1.toInt64) + (b1.toInt64)) + (c1.toInt64)) / (3 : Int64))))) + (((c1.toInt64) - ((((a1.toInt64) + (b1.toInt64)) + (c1.toInt64)) / (3 : Int64))) * ((c1.toInt64) - ((((a1.toInt64) + (b1.toInt64)) + (c1.toInt64)) / (3 : Int64)))))), .second, .val (.int (1 : Int32)), .val (.int (1 : Int32)), .unset]) rfl ?_
    show Steps p.tables e below (T30_.setTop (mkF m 249 #[.val (.int p0), .val (.int p1), .val (.int p2), .val (.int a1), .val (.int b1), .val (.int c0), .val (.int (((((a1 + b1) + c0) - ((((a1 + b1) + c0) / (3 : Int32)) * (3 : Int32))) + (3 : Int32)) - ((((((a1 + b1) + c0) - ((((a1 + b1) + c0) / (3 : Int32)) * (3 : Int32))) + (3 : Int32)) / (3 : Int32)) * (3 : Int32)))), .val (.int c1), .val (.ref b1_), .val (.double m2_5_), .second, .val (.double (9221120237041090560 : UInt64)), .second, .val (.double m2_15_), .second, .val (.double rr_21_), .second, .val (.double m2_24_), .second, .val (.double rr_30_), .second, .val (.long ((b1.toInt64) - (a1.toInt64))), .second, .val (.long ((((a1.toInt64) + (b1.toInt64)) + (c1.toInt64)) / (3 : Int64))), .second, .val (.long ((a1.toInt64) - ((((a1.toInt64) + (b1.toInt64)) + (c1.toInt64)) / (3 : Int64)))), .second, .val (.long ((b1.toInt64) - ((((a1.toInt64) + (b1.toInt64)) + (c1.toInt64)) / (3 : Int64)))), .second, .val (.long ((c1.toInt64) - ((((a1.toInt64) + (b1.toInt64)) + (c1.toInt64)) / (3 : Int64)))), .second, .val (.long (((((a1.toInt64) - ((((a1.toInt64) + (b1.toInt64)) + (c1.toInt64)) / (3 : Int64))) * ((a1.toInt64) - ((((a1.toInt64) + (b1.toInt64)) + (c1.toInt64)) / (3 : Int64)))) + (((b1.toInt64) - ((((a1.toInt64) + (b1.toInt64)) + (c1.toInt64)) / (3 : Int64))) * ((b1.toInt64) - ((((a1.toInt64) + (b1.toInt64)) + (c1.toInt64)) / (3 : Int64))))) + (((c1.toInt64) - ((((a1.toInt64) + (b1.toInt64)) + (c1.toInt64)) / (3 : Int64))) * ((c1.toInt64) - ((((a1.toInt64) + (b1.toInt64)) + (c1.toInt64)) / (3 : Int64)))))), .second, .val (.int (1 : Int32)), .val (.int (1 : Int32)), .unset] [])) _
    refine XS.dload X30_.here hx rfl (hb hby at_249) rfl ?_
    refine XS.lload X30_.here hx rfl (hb hby at_251) rfl ?_
    refine XS.l2dS X30_.here hx rfl (hb hby at_253) rfl (v := d37_) hd37_ ?_
    show Steps p.tables e below (T30_.setTop (mkF m 254 #[.val (.int p0), .val (.int p1), .val (.int p2), .val (.int a1), .val (.int b1), .val (.int c0), .val (.int (((((a1 + b1) + c0) - ((((a1 + b1) + c0) / (3 : Int32)) * (3 : Int32))) + (3 : Int32)) - ((((((a1 + b1) + c0) - ((((a1 + b1) + c0) / (3 : Int32)) * (3 : Int32))) + (3 : Int32)) / (3 : Int32)) * (3 : Int32)))), .val (.int c1), .val (.ref b1_), .val (.double m2_5_), .second, .val (.double (9221120237041090560 : UInt64)), .second, .val (.double m2_15_), .second, .val (.double rr_21_), .second, .val (.double m2_24_), .second, .val (.double rr_30_), .second, .val (.long ((b1.toInt64) - (a1.toInt64))), .second, .val (.long ((((a1.toInt64) + (b1.toInt64)) + (c1.toInt64)) / (3 : Int64))), .second, .val (.long ((a1.toInt64) - ((((a1.toInt64) + (b1.toInt64)) + (c1.toInt64)) / (3 : Int64)))), .second, .val (.long ((b1.toInt64) - ((((a1.toInt64) + (b1.toInt64)) + (c1.toInt64)) / (3 : Int64)))), .second, .val (.long ((c1.toInt64) - ((((a1.toInt64) + (b1.toInt64)) + (c1.toInt64)) / (3 : Int64)))), .second, .val (.long (((((a1.toInt64) - ((((a1.toInt64) + (b1.toInt64)) + (c1.toInt64)) / (3 : Int64))) * ((a1.toInt64) - ((((a1.toInt64) + (b1.toInt64)) + (c1.toInt64)) / (3 : Int64)))) + (((b1.toInt64) - ((((a1.toInt64) + (b1.toInt64)) + (c1.toInt64)) / (3 : Int64))) * ((b1.toInt64) - ((((a1.toInt64) + (b1.toInt64)) + (c1.toInt64)) / (3 : Int64))))) + (((c1.toInt64) - ((((a1.toInt64) + (b1.toInt64)) + (c1.toInt64)) / (3 : Int64))) * ((c1.toInt64) - ((((a1.toInt64) + (b1.toInt64)) + (c1.toInt64)) / (3 : Int64)))))), .second, .val (.int (1 : Int32)), .val (.int (1 : Int32)), .unset] [(.double d37_), (.double m2_24_)])) _
    refine XS.dcmpS X30_.here hx rfl (hb hby at_254) rfl (v := (cmpValue (FP.dcmp m2_24_ d37_) .l)) rfl ?_
    show Steps p.tables e below (T30_.setTop (mkF m 255 #[.val (.int p0), .val (.int p1), .val (.int p2), .val (.int a1), .val (.int b1), .val (.int c0), .val (.int (((((a1 + b1) + c0) - ((((a1 + b1) + c0) / (3 : Int32)) * (3 : Int32))) + (3 : Int32)) - ((((((a1 + b1) + c0) - ((((a1 + b1) + c0) / (3 : Int32)) * (3 : Int32))) + (3 : Int32)) / (3 : Int32)) * (3 : Int32)))), .val (.int c1), .val (.ref b1_), .val (.double m2_5_), .second, .val (.double (9221120237041090560 : UInt64)), .second, .val (.double m2_15_), .second, .val (.double rr_21_), .second, .val (.double m2_24_), .second, .val (.double rr_30_), .second, .val (.long ((b1.toInt64) - (a1.toInt64))), .second, .val (.long ((((a1.toInt64) + (b1.toInt64)) + (c1.toInt64)) / (3 : Int64))), .second, .val (.long ((a1.toInt64) - ((((a1.toInt64) + (b1.toInt64)) + (c1.toInt64)) / (3 : Int64)))), .second, .val (.long ((b1.toInt64) - ((((a1.toInt64) + (b1.toInt64)) + (c1.toInt64)) / (3 : Int64)))), .second, .val (.long ((c1.toInt64) - ((((a1.toInt64) + (b1.toInt64)) + (c1.toInt64)) / (3 : Int64)))), .second, .val (.long (((((a1.toInt64) - ((((a1.toInt64) + (b1.toInt64)) + (c1.toInt64)) / (3 : Int64))) * ((a1.toInt64) - ((((a1.toInt64) + (b1.toInt64)) + (c1.toInt64)) / (3 : Int64)))) + (((b1.toInt64) - ((((a1.toInt64) + (b1.toInt64)) + (c1.toInt64)) / (3 : Int64))) * ((b1.toInt64) - ((((a1.toInt64) + (b1.toInt64)) + (c1.toInt64)) / (3 : Int64))))) + (((c1.toInt64) - ((((a1.toInt64) + (b1.toInt64)) + (c1.toInt64)) / (3 : Int64))) * ((c1.toInt64) - ((((a1.toInt64) + (b1.toInt64)) + (c1.toInt64)) / (3 : Int64)))))), .second, .val (.int (1 : Int32)), .val (.int (1 : Int32)), .unset] [(.int (cmpValue (FP.dcmp m2_24_ d37_) .l))])) _
    refine XS.ifNo X30_.here hx rfl (hb hby at_255) rfl ((if0 _ _).trans (teq ((own_cmp0 p24__3 p37_) : (cmpValue (FP.dcmp m2_24_ d37_) .l) = (0 : Int32))).2) ?_
    show Steps p.tables e below (T30_.setTop (mkF m 258 #[.val (.int p0), .val (.int p1), .val (.int p2), .val (.int a1), .val (.int b1), .val (.int c0), .val (.int (((((a1 + b1) + c0) - ((((a1 + b1) + c0) / (3 : Int32)) * (3 : Int32))) + (3 : Int32)) - ((((((a1 + b1) + c0) - ((((a1 + b1) + c0) / (3 : Int32)) * (3 : Int32))) + (3 : Int32)) / (3 : Int32)) * (3 : Int32)))), .val (.int c1), .val (.ref b1_), .val (.double m2_5_), .second, .val (.double (9221120237041090560 : UInt64)), .second, .val (.double m2_15_), .second, .val (.double rr_21_), .second, .val (.double m2_24_), .second, .val (.double rr_30_), .second, .val (.long ((b1.toInt64) - (a1.toInt64))), .second, .val (.long ((((a1.toInt64) + (b1.toInt64)) + (c1.toInt64)) / (3 : Int64))), .second, .val (.long ((a1.toInt64) - ((((a1.toInt64) + (b1.toInt64)) + (c1.toInt64)) / (3 : Int64)))), .second, .val (.long ((b1.toInt64) - ((((a1.toInt64) + (b1.toInt64)) + (c1.toInt64)) / (3 : Int64)))), .second, .val (.long ((c1.toInt64) - ((((a1.toInt64) + (b1.toInt64)) + (c1.toInt64)) / (3 : Int64)))), .second, .val (.long (((((a1.toInt64) - ((((a1.toInt64) + (b1.toInt64)) + (c1.toInt64)) / (3 : Int64))) * ((a1.toInt64) - ((((a1.toInt64) + (b1.toInt64)) + (c1.toInt64)) / (3 : Int64)))) + (((b1.toInt64) - ((((a1.toInt64) + (b1.toInt64)) + (c1.toInt64)) / (3 : Int64))) * ((b1.toInt64) - ((((a1.toInt64) + (b1.toInt64)) + (c1.toInt64)) / (3 : Int64))))) + (((c1.toInt64) - ((((a1.toInt64) + (b1.toInt64)) + (c1.toInt64)) / (3 : Int64))) * ((c1.toInt64) - ((((a1.toInt64) + (b1.toInt64)) + (c1.toInt64)) / (3 : Int64)))))), .second, .val (.int (1 : Int32)), .val (.int (1 : Int32)), .unset] [])) _
    refine XS.dload X30_.here hx rfl (hb hby at_258) rfl ?_
    refine XS.lload X30_.here hx rfl (hb hby at_260) rfl ?_
    refine XS.l2dS X30_.here hx rfl (hb hby at_262) rfl (v := d38_) hd38_ ?_
    show Steps p.tables e below (T30_.setTop (mkF m 263 #[.val (.int p0), .val (.int p1), .val (.int p2), .val (.int a1), .val (.int b1), .val (.int c0), .val (.int (((((a1 + b1) + c0) - ((((a1 + b1) + c0) / (3 : Int32)) * (3 : Int32))) + (3 : Int32)) - ((((((a1 + b1) + c0) - ((((a1 + b1) + c0) / (3 : Int32)) * (3 : Int32))) + (3 : Int32)) / (3 : Int32)) * (3 : Int32)))), .val (.int c1), .val (.ref b1_), .val (.double m2_5_), .second, .val (.double (9221120237041090560 : UInt64)), .second, .val (.double m2_15_), .second, .val (.double rr_21_), .second, .val (.double m2_24_), .second, .val (.double rr_30_), .second, .val (.long ((b1.toInt64) - (a1.toInt64))), .second, .val (.long ((((a1.toInt64) + (b1.toInt64)) + (c1.toInt64)) / (3 : Int64))), .second, .val (.long ((a1.toInt64) - ((((a1.toInt64) + (b1.toInt64)) + (c1.toInt64)) / (3 : Int64)))), .second, .val (.long ((b1.toInt64) - ((((a1.toInt64) + (b1.toInt64)) + (c1.toInt64)) / (3 : Int64)))), .second, .val (.long ((c1.toInt64) - ((((a1.toInt64) + (b1.toInt64)) + (c1.toInt64)) / (3 : Int64)))), .second, .val (.long (((((a1.toInt64) - ((((a1.toInt64) + (b1.toInt64)) + (c1.toInt64)) / (3 : Int64))) * ((a1.toInt64) - ((((a1.toInt64) + (b1.toInt64)) + (c1.toInt64)) / (3 : Int64)))) + (((b1.toInt64) - ((((a1.toInt64) + (b1.toInt64)) + (c1.toInt64)) / (3 : Int64))) * ((b1.toInt64) - ((((a1.toInt64) + (b1.toInt64)) + (c1.toInt64)) / (3 : Int64))))) + (((c1.toInt64) - ((((a1.toInt64) + (b1.toInt64)) + (c1.toInt64)) / (3 : Int64))) * ((c1.toInt64) - ((((a1.toInt64) + (b1.toInt64)) + (c1.toInt64)) / (3 : Int64)))))), .second, .val (.int (1 : Int32)), .val (.int (1 : Int32)), .unset] [(.double d38_), (.double rr_30_)])) _
    refine X30_.ldc2DoubleC hx hown (mvT hZ (hw _ (List.mem_of_getElem? (i := 33) rfl))) (g := (mkF m 263 #[.val (.int p0), .val (.int p1), .val (.int p2), .val (.int a1), .val (.int b1), .val (.int c0), .val (.int (((((a1 + b1) + c0) - ((((a1 + b1) + c0) / (3 : Int32)) * (3 : Int32))) + (3 : Int32)) - ((((((a1 + b1) + c0) - ((((a1 + b1) + c0) / (3 : Int32)) * (3 : Int32))) + (3 : Int32)) / (3 : Int32)) * (3 : Int32)))), .val (.int c1), .val (.ref b1_), .val (.double m2_5_), .second, .val (.double (9221120237041090560 : UInt64)), .second, .val (.double m2_15_), .second, .val (.double rr_21_), .second, .val (.double m2_24_), .second, .val (.double rr_30_), .second, .val (.long ((b1.toInt64) - (a1.toInt64))), .second, .val (.long ((((a1.toInt64) + (b1.toInt64)) + (c1.toInt64)) / (3 : Int64))), .second, .val (.long ((a1.toInt64) - ((((a1.toInt64) + (b1.toInt64)) + (c1.toInt64)) / (3 : Int64)))), .second, .val (.long ((b1.toInt64) - ((((a1.toInt64) + (b1.toInt64)) + (c1.toInt64)) / (3 : Int64)))), .second, .val (.long ((c1.toInt64) - ((((a1.toInt64) + (b1.toInt64)) + (c1.toInt64)) / (3 : Int64)))), .second, .val (.long (((((a1.toInt64) - ((((a1.toInt64) + (b1.toInt64)) + (c1.toInt64)) / (3 : Int64))) * ((a1.toInt64) - ((((a1.toInt64) + (b1.toInt64)) + (c1.toInt64)) / (3 : Int64)))) + (((b1.toInt64) - ((((a1.toInt64) + (b1.toInt64)) + (c1.toInt64)) / (3 : Int64))) * ((b1.toInt64) - ((((a1.toInt64) + (b1.toInt64)) + (c1.toInt64)) / (3 : Int64))))) + (((c1.toInt64) - ((((a1.toInt64) + (b1.toInt64)) + (c1.toInt64)) / (3 : Int64))) * ((c1.toInt64) - ((((a1.toInt64) + (b1.toInt64)) + (c1.toInt64)) / (3 : Int64)))))), .second, .val (.int (1 : Int32)), .val (.int (1 : Int32)), .unset] [(.double d38_), (.double rr_30_)])) rfl (hb hby at_263) _ ?_
    show Steps p.tables e below (T30_.setTop (mkF m 266 #[.val (.int p0), .val (.int p1), .val (.int p2), .val (.int a1), .val (.int b1), .val (.int c0), .val (.int (((((a1 + b1) + c0) - ((((a1 + b1) + c0) / (3 : Int32)) * (3 : Int32))) + (3 : Int32)) - ((((((a1 + b1) + c0) - ((((a1 + b1) + c0) / (3 : Int32)) * (3 : Int32))) + (3 : Int32)) / (3 : Int32)) * (3 : Int32)))), .val (.int c1), .val (.ref b1_), .val (.double m2_5_), .second, .val (.double (9221120237041090560 : UInt64)), .second, .val (.double m2_15_), .second, .val (.double rr_21_), .second, .val (.double m2_24_), .second, .val (.double rr_30_), .second, .val (.long ((b1.toInt64) - (a1.toInt64))), .second, .val (.long ((((a1.toInt64) + (b1.toInt64)) + (c1.toInt64)) / (3 : Int64))), .second, .val (.long ((a1.toInt64) - ((((a1.toInt64) + (b1.toInt64)) + (c1.toInt64)) / (3 : Int64)))), .second, .val (.long ((b1.toInt64) - ((((a1.toInt64) + (b1.toInt64)) + (c1.toInt64)) / (3 : Int64)))), .second, .val (.long ((c1.toInt64) - ((((a1.toInt64) + (b1.toInt64)) + (c1.toInt64)) / (3 : Int64)))), .second, .val (.long (((((a1.toInt64) - ((((a1.toInt64) + (b1.toInt64)) + (c1.toInt64)) / (3 : Int64))) * ((a1.toInt64) - ((((a1.toInt64) + (b1.toInt64)) + (c1.toInt64)) / (3 : Int64)))) + (((b1.toInt64) - ((((a1.toInt64) + (b1.toInt64)) + (c1.toInt64)) / (3 : Int64))) * ((b1.toInt64) - ((((a1.toInt64) + (b1.toInt64)) + (c1.toInt64)) / (3 : Int64))))) + (((c1.toInt64) - ((((a1.toInt64) + (b1.toInt64)) + (c1.toInt64)) / (3 : Int64))) * ((c1.toInt64) - ((((a1.toInt64) + (b1.toInt64)) + (c1.toInt64)) / (3 : Int64)))))), .second, .val (.int (1 : Int32)), .val (.int (1 : Int32)), .unset] [(.double (4611686018427387904 : UInt64)), (.double d38_), (.double rr_30_)])) _
    refine XS.ddivS X30_.here hx rfl (hb hby at_266) rfl nn39_ (v := d39_) hd39_ ?_
    show Steps p.tables e below (T30_.setTop (mkF m 267 #[.val (.int p0), .val (.int p1), .val (.int p2), .val (.int a1), .val (.int b1), .val (.int c0), .val (.int (((((a1 + b1) + c0) - ((((a1 + b1) + c0) / (3 : Int32)) * (3 : Int32))) + (3 : Int32)) - ((((((a1 + b1) + c0) - ((((a1 + b1) + c0) / (3 : Int32)) * (3 : Int32))) + (3 : Int32)) / (3 : Int32)) * (3 : Int32)))), .val (.int c1), .val (.ref b1_), .val (.double m2_5_), .second, .val (.double (9221120237041090560 : UInt64)), .second, .val (.double m2_15_), .second, .val (.double rr_21_), .second, .val (.double m2_24_), .second, .val (.double rr_30_), .second, .val (.long ((b1.toInt64) - (a1.toInt64))), .second, .val (.long ((((a1.toInt64) + (b1.toInt64)) + (c1.toInt64)) / (3 : Int64))), .second, .val (.long ((a1.toInt64) - ((((a1.toInt64) + (b1.toInt64)) + (c1.toInt64)) / (3 : Int64)))), .second, .val (.long ((b1.toInt64) - ((((a1.toInt64) + (b1.toInt64)) + (c1.toInt64)) / (3 : Int64)))), .second, .val (.long ((c1.toInt64) - ((((a1.toInt64) + (b1.toInt64)) + (c1.toInt64)) / (3 : Int64)))), .second, .val (.long (((((a1.toInt64) - ((((a1.toInt64) + (b1.toInt64)) + (c1.toInt64)) / (3 : Int64))) * ((a1.toInt64) - ((((a1.toInt64) + (b1.toInt64)) + (c1.toInt64)) / (3 : Int64)))) + (((b1.toInt64) - ((((a1.toInt64) + (b1.toInt64)) + (c1.toInt64)) / (3 : Int64))) * ((b1.toInt64) - ((((a1.toInt64) + (b1.toInt64)) + (c1.toInt64)) / (3 : Int64))))) + (((c1.toInt64) - ((((a1.toInt64) + (b1.toInt64)) + (c1.toInt64)) / (3 : Int64))) * ((c1.toInt64) - ((((a1.toInt64) + (b1.toInt64)) + (c1.toInt64)) / (3 : Int64)))))), .second, .val (.int (1 : Int32)), .val (.int (1 : Int32)), .unset] [(.double d39_), (.double rr_30_)])) _
    refine XS.dcmpS X30_.here hx rfl (hb hby at_267) rfl (v := (cmpValue (FP.dcmp rr_30_ d39_) .l)) rfl ?_
    show Steps p.tables e below (T30_.setTop (mkF m 268 #[.val (.int p0), .val (.int p1), .val (.int p2), .val (.int a1), .val (.int b1), .val (.int c0), .val (.int (((((a1 + b1) + c0) - ((((a1 + b1) + c0) / (3 : Int32)) * (3 : Int32))) + (3 : Int32)) - ((((((a1 + b1) + c0) - ((((a1 + b1) + c0) / (3 : Int32)) * (3 : Int32))) + (3 : Int32)) / (3 : Int32)) * (3 : Int32)))), .val (.int c1), .val (.ref b1_), .val (.double m2_5_), .second, .val (.double (9221120237041090560 : UInt64)), .second, .val (.double m2_15_), .second, .val (.double rr_21_), .second, .val (.double m2_24_), .second, .val (.double rr_30_), .second, .val (.long ((b1.toInt64) - (a1.toInt64))), .second, .val (.long ((((a1.toInt64) + (b1.toInt64)) + (c1.toInt64)) / (3 : Int64))), .second, .val (.long ((a1.toInt64) - ((((a1.toInt64) + (b1.toInt64)) + (c1.toInt64)) / (3 : Int64)))), .second, .val (.long ((b1.toInt64) - ((((a1.toInt64) + (b1.toInt64)) + (c1.toInt64)) / (3 : Int64)))), .second, .val (.long ((c1.toInt64) - ((((a1.toInt64) + (b1.toInt64)) + (c1.toInt64)) / (3 : Int64)))), .second, .val (.long (((((a1.toInt64) - ((((a1.toInt64) + (b1.toInt64)) + (c1.toInt64)) / (3 : Int64))) * ((a1.toInt64) - ((((a1.toInt64) + (b1.toInt64)) + (c1.toInt64)) / (3 : Int64)))) + (((b1.toInt64) - ((((a1.toInt64) + (b1.toInt64)) + (c1.toInt64)) / (3 : Int64))) * ((b1.toInt64) - ((((a1.toInt64) + (b1.toInt64)) + (c1.toInt64)) / (3 : Int64))))) + (((c1.toInt64) - ((((a1.toInt64) + (b1.toInt64)) + (c1.toInt64)) / (3 : Int64))) * ((c1.toInt64) - ((((a1.toInt64) + (b1.toInt64)) + (c1.toInt64)) / (3 : Int64)))))), .second, .val (.int (1 : Int32)), .val (.int (1 : Int32)), .unset] [(.int (cmpValue (FP.dcmp rr_30_ d39_) .l))])) _
    refine XS.ifNo X30_.here hx rfl (hb hby at_268) rfl ((if0 _ _).trans (teq ((own_cmp0 p30__0 p39_) : (cmpValue (FP.dcmp rr_30_ d39_) .l) = (0 : Int32))).2) ?_
    show Steps p.tables e below (T30_.setTop (mkF m 271 #[.val (.int p0), .val (.int p1), .val (.int p2), .val (.int a1), .val (.int b1), .val (.int c0), .val (.int (((((a1 + b1) + c0) - ((((a1 + b1) + c0) / (3 : Int32)) * (3 : Int32))) + (3 : Int32)) - ((((((a1 + b1) + c0) - ((((a1 + b1) + c0) / (3 : Int32)) * (3 : Int32))) + (3 : Int32)) / (3 : Int32)) * (3 : Int32)))), .val (.int c1), .val (.ref b1_), .val (.double m2_5_), .second, .val (.double (9221120237041090560 : UInt64)), .second, .val (.double m2_15_), .second, .val (.double rr_21_), .second, .val (.double m2_24_), .second, .val (.double rr_30_), .second, .val (.long ((b1.toInt64) - (a1.toInt64))), .second, .val (.long ((((a1.toInt64) + (b1.toInt64)) + (c1.toInt64)) / (3 : Int64))), .second, .val (.long ((a1.toInt64) - ((((a1.toInt64) + (b1.toInt64)) + (c1.toInt64)) / (3 : Int64)))), .second, .val (.long ((b1.toInt64) - ((((a1.toInt64) + (b1.toInt64)) + (c1.toInt64)) / (3 : Int64)))), .second, .val (.long ((c1.toInt64) - ((((a1.toInt64) + (b1.toInt64)) + (c1.toInt64)) / (3 : Int64)))), .second, .val (.long (((((a1.toInt64) - ((((a1.toInt64) + (b1.toInt64)) + (c1.toInt64)) / (3 : Int64))) * ((a1.toInt64) - ((((a1.toInt64) + (b1.toInt64)) + (c1.toInt64)) / (3 : Int64)))) + (((b1.toInt64) - ((((a1.toInt64) + (b1.toInt64)) + (c1.toInt64)) / (3 : Int64))) * ((b1.toInt64) - ((((a1.toInt64) + (b1.toInt64)) + (c1.toInt64)) / (3 : Int64))))) + (((c1.toInt64) - ((((a1.toInt64) + (b1.toInt64)) + (c1.toInt64)) / (3 : Int64))) * ((c1.toInt64) - ((((a1.toInt64) + (b1.toInt64)) + (c1.toInt64)) / (3 : Int64)))))), .second, .val (.int (1 : Int32)), .val (.int (1 : Int32)), .unset] [])) _
    refine XS.iconst X30_.here hx rfl (hb hby at_271) ?_
    refine XS.goto X30_.here hx rfl (pc0 := 272) (pc' := 276) rfl (hb hby at_272) (by decide) (by decide) ?_
    show Steps p.tables e below (T30_.setTop (mkF m 276 #[.val (.int p0), .val (.int p1), .val (.int p2), .val (.int a1), .val (.int b1), .val (.int c0), .val (.int (((((a1 + b1) + c0) - ((((a1 + b1) + c0) / (3 : Int32)) * (3 : Int32))) + (3 : Int32)) - ((((((a1 + b1) + c0) - ((((a1 + b1) + c0) / (3 : Int32)) * (3 : Int32))) + (3 : Int32)) / (3 : Int32)) * (3 : Int32)))), .val (.int c1), .val (.ref b1_), .val (.double m2_5_), .second, .val (.double (9221120237041090560 : UInt64)), .second, .val (.double m2_15_), .second, .val (.double rr_21_), .second, .val (.double m2_24_), .second, .val (.double rr_30_), .second, .val (.long ((b1.toInt64) - (a1.toInt64))), .second, .val (.long ((((a1.toInt64) + (b1.toInt64)) + (c1.toInt64)) / (3 : Int64))), .second, .val (.long ((a1.toInt64) - ((((a1.toInt64) + (b1.toInt64)) + (c1.toInt64)) / (3 : Int64)))), .second, .val (.long ((b1.toInt64) - ((((a1.toInt64) + (b1.toInt64)) + (c1.toInt64)) / (3 : Int64)))), .second, .val (.long ((c1.toInt64) - ((((a1.toInt64) + (b1.toInt64)) + (c1.toInt64)) / (3 : Int64)))), .second, .val (.long (((((a1.toInt64) - ((((a1.toInt64) + (b1.toInt64)) + (c1.toInt64)) / (3 : Int64))) * ((a1.toInt64) - ((((a1.toInt64) + (b1.toInt64)) + (c1.toInt64)) / (3 : Int64)))) + (((b1.toInt64) - ((((a1.toInt64) + (b1.toInt64)) + (c1.toInt64)) / (3 : Int64))) * ((b1.toInt64) - ((((a1.toInt64) + (b1.toInt64)) + (c1.toInt64)) / (3 : Int64))))) + (((c1.toInt64) - ((((a1.toInt64) + (b1.toInt64)) + (c1.toInt64)) / (3 : Int64))) * ((c1.toInt64) - ((((a1.toInt64) + (b1.toInt64)) + (c1.toInt64)) / (3 : Int64)))))), .second, .val (.int (1 : Int32)), .val (.int (1 : Int32)), .unset] [(.int (1 : Int32))])) _
    refine XS.istore X30_.here hx rfl (hb hby at_276) rfl (l' := #[.val (.int p0), .val (.int p1), .val (.int p2), .val (.int a1), .val (.int b1), .val (.int c0), .val (.int (((((a1 + b1) + c0) - ((((a1 + b1) + c0) / (3 : Int32)) * (3 : Int32))) + (3 : Int32)) - ((((((a1 + b1) + c0) - ((((a1 + b1) + c0) / (3 : Int32)) * (3 : Int32))) + (3 : Int32)) / (3 : Int32)) * (3 : Int32)))), .val (.int c1), .val (.ref b1_), .val (.double m2_5_), .second, .val (.double (9221120237041090560 : UInt64)), .second, .val (.double m2_15_), .second, .val (.double rr_21_), .second, .val (.double m2_24_), .second, .val (.double rr_30_), .second, .val (.long ((b1.toInt64) - (a1.toInt64))), .second, .val (.long ((((a1.toInt64) + (b1.toInt64)) + (c1.toInt64)) / (3 : Int64))), .second, .val (.long ((a1.toInt64) - ((((a1.toInt64) + (b1.toInt64)) + (c1.toInt64)) / (3 : Int64)))), .second, .val (.long ((b1.toInt64) - ((((a1.toInt64) + (b1.toInt64)) + (c1.toInt64)) / (3 : Int64)))), .second, .val (.long ((c1.toInt64) - ((((a1.toInt64) + (b1.toInt64)) + (c1.toInt64)) / (3 : Int64)))), .second, .val (.long (((((a1.toInt64) - ((((a1.toInt64) + (b1.toInt64)) + (c1.toInt64)) / (3 : Int64))) * ((a1.toInt64) - ((((a1.toInt64) + (b1.toInt64)) + (c1.toInt64)) / (3 : Int64)))) + (((b1.toInt64) - ((((a1.toInt64) + (b1.toInt64)) + (c1.toInt64)) / (3 : Int64))) * ((b1.toInt64) - ((((a1.toInt64) + (b1.toInt64)) + (c1.toInt64)) / (3 : Int64))))) + (((c1.toInt64) - ((((a1.toInt64) + (b1.toInt64)) + (c1.toInt64)) / (3 : Int64))) * ((c1.toInt64) - ((((a1.toInt64) + (b1.toInt64)) + (c1.toInt64)) / (3 : Int64)))))), .second, .val (.int (1 : Int32)), .val (.int (1 : Int32)), .val (.int (1 : Int32))]) rfl ?_
    show Steps p.tables e below (T30_.setTop (mkF m 278 #[.val (.int p0), .val (.int p1), .val (.int p2), .val (.int a1), .val (.int b1), .val (.int c0), .val (.int (((((a1 + b1) + c0) - ((((a1 + b1) + c0) / (3 : Int32)) * (3 : Int32))) + (3 : Int32)) - ((((((a1 + b1) + c0) - ((((a1 + b1) + c0) / (3 : Int32)) * (3 : Int32))) + (3 : Int32)) / (3 : Int32)) * (3 : Int32)))), .val (.int c1), .val (.ref b1_), .val (.double m2_5_), .second, .val (.double (9221120237041090560 : UInt64)), .second, .val (.double m2_15_), .second, .val (.double rr_21_), .second, .val (.double m2_24_), .second, .val (.double rr_30_), .second, .val (.long ((b1.toInt64) - (a1.toInt64))), .second, .val (.long ((((a1.toInt64) + (b1.toInt64)) + (c1.toInt64)) / (3 : Int64))), .second, .val (.long ((a1.toInt64) - ((((a1.toInt64) + (b1.toInt64)) + (c1.toInt64)) / (3 : Int64)))), .second, .val (.long ((b1.toInt64) - ((((a1.toInt64) + (b1.toInt64)) + (c1.toInt64)) / (3 : Int64)))), .second, .val (.long ((c1.toInt64) - ((((a1.toInt64) + (b1.toInt64)) + (c1.toInt64)) / (3 : Int64)))), .second, .val (.long (((((a1.toInt64) - ((((a1.toInt64) + (b1.toInt64)) + (c1.toInt64)) / (3 : Int64))) * ((a1.toInt64) - ((((a1.toInt64) + (b1.toInt64)) + (c1.toInt64)) / (3 : Int64)))) + (((b1.toInt64) - ((((a1.toInt64) + (b1.toInt64)) + (c1.toInt64)) / (3 : Int64))) * ((b1.toInt64) - ((((a1.toInt64) + (b1.toInt64)) + (c1.toInt64)) / (3 : Int64))))) + (((c1.toInt64) - ((((a1.toInt64) + (b1.toInt64)) + (c1.toInt64)) / (3 : Int64))) * ((c1.toInt64) - ((((a1.toInt64) + (b1.toInt64)) + (c1.toInt64)) / (3 : Int64)))))), .second, .val (.int (1 : Int32)), .val (.int (1 : Int32)), .val (.int (1 : Int32))] [])) _
    refine XS.iload X30_.here hx rfl (hb hby at_278) rfl ?_
    refine XS.ifNo X30_.here hx rfl (hb hby at_280) rfl ((if0 _ _).trans (feq ((by decide) : ¬ ((1 : Int32) = (0 : Int32)))).1) ?_
    show Steps p.tables e below (T30_.setTop (mkF m 283 #[.val (.int p0), .val (.int p1), .val (.int p2), .val (.int a1), .val (.int b1), .val (.int c0), .val (.int (((((a1 + b1) + c0) - ((((a1 + b1) + c0) / (3 : Int32)) * (3 : Int32))) + (3 : Int32)) - ((((((a1 + b1) + c0) - ((((a1 + b1) + c0) / (3 : Int32)) * (3 : Int32))) + (3 : Int32)) / (3 : Int32)) * (3 : Int32)))), .val (.int c1), .val (.ref b1_), .val (.double m2_5_), .second, .val (.double (9221120237041090560 : UInt64)), .second, .val (.double m2_15_), .second, .val (.double rr_21_), .second, .val (.double m2_24_), .second, .val (.double rr_30_), .second, .val (.long ((b1.toInt64) - (a1.toInt64))), .second, .val (.long ((((a1.toInt64) + (b1.toInt64)) + (c1.toInt64)) / (3 : Int64))), .second, .val (.long ((a1.toInt64) - ((((a1.toInt64) + (b1.toInt64)) + (c1.toInt64)) / (3 : Int64)))), .second, .val (.long ((b1.toInt64) - ((((a1.toInt64) + (b1.toInt64)) + (c1.toInt64)) / (3 : Int64)))), .second, .val (.long ((c1.toInt64) - ((((a1.toInt64) + (b1.toInt64)) + (c1.toInt64)) / (3 : Int64)))), .second, .val (.long (((((a1.toInt64) - ((((a1.toInt64) + (b1.toInt64)) + (c1.toInt64)) / (3 : Int64))) * ((a1.toInt64) - ((((a1.toInt64) + (b1.toInt64)) + (c1.toInt64)) / (3 : Int64)))) + (((b1.toInt64) - ((((a1.toInt64) + (b1.toInt64)) + (c1.toInt64)) / (3 : Int64))) * ((b1.toInt64) - ((((a1.toInt64) + (b1.toInt64)) + (c1.toInt64)) / (3 : Int64))))) + (((c1.toInt64) - ((((a1.toInt64) + (b1.toInt64)) + (c1.toInt64)) / (3 : Int64))) * ((c1.toInt64) - ((((a1.toInt64) + (b1.toInt64)) + (c1.toInt64)) / (3 : Int64)))))), .second, .val (.int (1 : Int32)), .val (.int (1 : Int32)), .val (.int (1 : Int32))] [])) _
    refine XS.iload X30_.here hx rfl (hb hby at_283) rfl ?_
    refine XS.ifNo X30_.here hx rfl (hb hby at_285) rfl ((if0 _ _).trans (feq ((by decide) : ¬ ((1 : Int32) = (0 : Int32)))).1) ?_
    show Steps p.tables e below (T30_.setTop (mkF m 288 #[.val (.int p0), .val (.int p1), .val (.int p2), .val (.int a1), .val (.int b1), .val (.int c0), .val (.int (((((a1 + b1) + c0) - ((((a1 + b1) + c0) / (3 : Int32)) * (3 : Int32))) + (3 : Int32)) - ((((((a1 + b1) + c0) - ((((a1 + b1) + c0) / (3 : Int32)) * (3 : Int32))) + (3 : Int32)) / (3 : Int32)) * (3 : Int32)))), .val (.int c1), .val (.ref b1_), .val (.double m2_5_), .second, .val (.double (9221120237041090560 : UInt64)), .second, .val (.double m2_15_), .second, .val (.double rr_21_), .second, .val (.double m2_24_), .second, .val (.double rr_30_), .second, .val (.long ((b1.toInt64) - (a1.toInt64))), .second, .val (.long ((((a1.toInt64) + (b1.toInt64)) + (c1.toInt64)) / (3 : Int64))), .second, .val (.long ((a1.toInt64) - ((((a1.toInt64) + (b1.toInt64)) + (c1.toInt64)) / (3 : Int64)))), .second, .val (.long ((b1.toInt64) - ((((a1.toInt64) + (b1.toInt64)) + (c1.toInt64)) / (3 : Int64)))), .second, .val (.long ((c1.toInt64) - ((((a1.toInt64) + (b1.toInt64)) + (c1.toInt64)) / (3 : Int64)))), .second, .val (.long (((((a1.toInt64) - ((((a1.toInt64) + (b1.toInt64)) + (c1.toInt64)) / (3 : Int64))) * ((a1.toInt64) - ((((a1.toInt64) + (b1.toInt64)) + (c1.toInt64)) / (3 : Int64)))) + (((b1.toInt64) - ((((a1.toInt64) + (b1.toInt64)) + (c1.toInt64)) / (3 : Int64))) * ((b1.toInt64) - ((((a1.toInt64) + (b1.toInt64)) + (c1.toInt64)) / (3 : Int64))))) + (((c1.toInt64) - ((((a1.toInt64) + (b1.toInt64)) + (c1.toInt64)) / (3 : Int64))) * ((c1.toInt64) - ((((a1.toInt64) + (b1.toInt64)) + (c1.toInt64)) / (3 : Int64)))))), .second, .val (.int (1 : Int32)), .val (.int (1 : Int32)), .val (.int (1 : Int32))] [])) _
    refine XS.iload X30_.here hx rfl (hb hby at_288) rfl ?_
    refine XS.ifNo X30_.here hx rfl (hb hby at_290) rfl ((if0 _ _).trans (feq ((by decide) : ¬ ((1 : Int32) = (0 : Int32)))).1) ?_
    show Steps p.tables e below (T30_.setTop (mkF m 293 #[.val (.int p0), .val (.int p1), .val (.int p2), .val (.int a1), .val (.int b1), .val (.int c0), .val (.int (((((a1 + b1) + c0) - ((((a1 + b1) + c0) / (3 : Int32)) * (3 : Int32))) + (3 : Int32)) - ((((((a1 + b1) + c0) - ((((a1 + b1) + c0) / (3 : Int32)) * (3 : Int32))) + (3 : Int32)) / (3 : Int32)) * (3 : Int32)))), .val (.int c1), .val (.ref b1_), .val (.double m2_5_), .second, .val (.double (9221120237041090560 : UInt64)), .second, .val (.double m2_15_), .second, .val (.double rr_21_), .second, .val (.double m2_24_), .second, .val (.double rr_30_), .second, .val (.long ((b1.toInt64) - (a1.toInt64))), .second, .val (.long ((((a1.toInt64) + (b1.toInt64)) + (c1.toInt64)) / (3 : Int64))), .second, .val (.long ((a1.toInt64) - ((((a1.toInt64) + (b1.toInt64)) + (c1.toInt64)) / (3 : Int64)))), .second, .val (.long ((b1.toInt64) - ((((a1.toInt64) + (b1.toInt64)) + (c1.toInt64)) / (3 : Int64)))), .second, .val (.long ((c1.toInt64) - ((((a1.toInt64) + (b1.toInt64)) + (c1.toInt64)) / (3 : Int64)))), .second, .val (.long (((((a1.toInt64) - ((((a1.toInt64) + (b1.toInt64)) + (c1.toInt64)) / (3 : Int64))) * ((a1.toInt64) - ((((a1.toInt64) + (b1.toInt64)) + (c1.toInt64)) / (3 : Int64)))) + (((b1.toInt64) - ((((a1.toInt64) + (b1.toInt64)) + (c1.toInt64)) / (3 : Int64))) * ((b1.toInt64) - ((((a1.toInt64) + (b1.toInt64)) + (c1.toInt64)) / (3 : Int64))))) + (((c1.toInt64) - ((((a1.toInt64) + (b1.toInt64)) + (c1.toInt64)) / (3 : Int64))) * ((c1.toInt64) - ((((a1.toInt64) + (b1.toInt64)) + (c1.toInt64)) / (3 : Int64)))))), .second, .val (.int (1 : Int32)), .val (.int (1 : Int32)), .val (.int (1 : Int32))] [])) _
    refine XS.iconst X30_.here hx rfl (hb hby at_293) ?_
    refine XS.goto X30_.here hx rfl (pc0 := 294) (pc' := 298) rfl (hb hby at_294) (by decide) (by decide) ?_
    show Steps p.tables e below (T30_.setTop (mkF m 298 #[.val (.int p0), .val (.int p1), .val (.int p2), .val (.int a1), .val (.int b1), .val (.int c0), .val (.int (((((a1 + b1) + c0) - ((((a1 + b1) + c0) / (3 : Int32)) * (3 : Int32))) + (3 : Int32)) - ((((((a1 + b1) + c0) - ((((a1 + b1) + c0) / (3 : Int32)) * (3 : Int32))) + (3 : Int32)) / (3 : Int32)) * (3 : Int32)))), .val (.int c1), .val (.ref b1_), .val (.double m2_5_), .second, .val (.double (9221120237041090560 : UInt64)), .second, .val (.double m2_15_), .second, .val (.double rr_21_), .second, .val (.double m2_24_), .second, .val (.double rr_30_), .second, .val (.long ((b1.toInt64) - (a1.toInt64))), .second, .val (.long ((((a1.toInt64) + (b1.toInt64)) + (c1.toInt64)) / (3 : Int64))), .second, .val (.long ((a1.toInt64) - ((((a1.toInt64) + (b1.toInt64)) + (c1.toInt64)) / (3 : Int64)))), .second, .val (.long ((b1.toInt64) - ((((a1.toInt64) + (b1.toInt64)) + (c1.toInt64)) / (3 : Int64)))), .second, .val (.long ((c1.toInt64) - ((((a1.toInt64) + (b1.toInt64)) + (c1.toInt64)) / (3 : Int64)))), .second, .val (.long (((((a1.toInt64) - ((((a1.toInt64) + (b1.toInt64)) + (c1.toInt64)) / (3 : Int64))) * ((a1.toInt64) - ((((a1.toInt64) + (b1.toInt64)) + (c1.toInt64)) / (3 : Int64)))) + (((b1.toInt64) - ((((a1.toInt64) + (b1.toInt64)) + (c1.toInt64)) / (3 : Int64))) * ((b1.toInt64) - ((((a1.toInt64) + (b1.toInt64)) + (c1.toInt64)) / (3 : Int64))))) + (((c1.toInt64) - ((((a1.toInt64) + (b1.toInt64)) + (c1.toInt64)) / (3 : Int64))) * ((c1.toInt64) - ((((a1.toInt64) + (b1.toInt64)) + (c1.toInt64)) / (3 : Int64)))))), .second, .val (.int (1 : Int32)), .val (.int (1 : Int32)), .val (.int (1 : Int32))] [(.int (1 : Int32))])) _
    exact retN X30_ hx (t := .boolean) Bd.returns (by simp) (hb hby at_298) hr
  · show Q_rm0 Z p0 p1 p2 a1 b1 c0 c1 im h0 n0 _ T30_.heap _
    rw [ek30_]
    exact ⟨rfl, N30_⟩
set_option maxRecDepth 65536 in
set_option maxHeartbeats 40000000 in
theorem comes_1 {Post : Tables → Env → Array Value → State → Outcome → State → Prop} (hpost : ∀ tb e args s v u, (limb_1_1.after args s (.returned v) u = true ∧ limb_1_2.after args s (.returned v) u = true ∧ True) → FrameEnd s (.returned v) u (Jvm.fieldLocs frame_1_writes args s ++ Jvm.arrayLocs frame_1_arrays args s ++ Jvm.staticLocs frame_1_statics s) 16 128 → Post tb e args s (.returned v) u) :
    ArmFor flags0 classFile x code maxLocals ret World_1 tables_1 room_1 Calls_1 rest_1 Pre_1 Post := by
  intro l hfl _ _ p e ha hc hk s m args below hf hA hF happ hP
  obtain ⟨hcalls, hrest, hpre⟩ := hP
  obtain ⟨-, -, -, hnamed, -, -, -, hat⟩ := (Spec.applies_iff hf).mp happ
  obtain ⟨hg, hn⟩ := and_e (Cond.before_iff.mp (show (Jvm.Cond.and given_1 narrow_1).before args s = true from hpre))
  obtain ⟨g0, r0⟩ := and_e hg
  obtain ⟨g1, r1⟩ := and_e r0
  obtain ⟨g2, r2⟩ := and_e r1
  have g3 := r2
  obtain ⟨w0, w1, w2, rfl⟩ : ∃ w0 w1 w2 : Value, args = #[w0, w1, w2] := by
    have hs : args.size = 3 := by simpa [Cond.value, given_1] using g0
    obtain ⟨L⟩ := args
    match L, hs with
    | [w0, w1, w2], _ => exact ⟨w0, w1, w2, rfl⟩
  have hw := fun d (hd : d ∈ tables_1) => atoms_spec (ws := Jvm.Cond.code x code maxLocals ret :: tables_1) hat d (List.mem_cons_of_mem _ hd)
  obtain ⟨i0, ei0⟩ := is_v g1
  obtain rfl : w0 = (.int i0) := Option.some.inj ei0
  obtain ⟨i1, ei1⟩ := is_v g2
  obtain rfl : w1 = (.int i1) := Option.some.inj ei1
  obtain ⟨i2, ei2⟩ := is_v g3
  obtain rfl : w2 = (.int i2) := Option.some.inj ei2
  obtain ⟨im, hM, hC1, hC2⟩ := own_cc _ _ _ (own_b21 (i0 <<< ((10 : Int32) &&& 31))) (own_b21 (i1 <<< ((10 : Int32) &&& 31))) (own_b21 (i2 <<< ((10 : Int32) &&& 31)))
  have hC := And.intro hC1 hC2
  obtain ⟨n, o, h1, h2, h3, _, L, rfl, ⟨rfl, N⟩, hq⟩ := rm0 l s _ hw tables_1 i0 i1 i2 _ _ _ _ im s.heap s.heap.size (Nat.le_refl _) rfl rfl rfl rfl (own_b21 _) (own_b21 _) hC hM p e ha hc hk s m _ below hf ((Spec.applies_iff_loose hf).mp happ).1 ⟨rfl, State.Warmed39.refl s, rfl⟩ trivial
  refine ⟨n, _, h1, h2, h3, hpost _ _ _ _ _ _ ⟨Cond.after_iff.mpr rfl, Cond.after_iff.mpr (eq_i res_at (Term.int_eval (1)) rfl), trivial⟩ ⟨hq.1, hq.2.1, (hq.2.2.sift fun y hy => Or.inr (N y hy)).mono (by decide) (by decide)⟩⟩
theorem main_1_1 : Claimed_1_1 := comes_1 fun _ _ _ _ _ _ h hF => ⟨h.1, hF⟩
theorem main_1_2 : Claimed_1_2 := comes_1 fun _ _ _ _ _ _ h hF => ⟨h.2.1, hF⟩

end Jvm.Pilot.@@N@@
namespace Jvm.Pilot.@@N@@
open Jvm Jvm.ClassFile Sem Op Lib Jvm.Free Jvm.Stand Jvm.Pilot.@@N@@.Jvm.D
/-! MADE BY PROGRAM (witnessworld.py) out of the Statement's table words and the real class files: 9 classes; the members and pool entries that the words name. The judged class is class 1, her method 1. -/
namespace start1
open Jvm.ClassFile
def u (s : String) : CpInfo := .utf8 (stringToUtf16 s)
/-- a pool by its gaps: so many unusable entries, then the entry; so many at the end -/
def gap : Nat → List CpInfo → List CpInfo
  | 0, r => r
  | n + 1, r => .unusable :: gap n r
def poolList (es : List (Nat × CpInfo)) (last : Nat) : List CpInfo := es.foldr (fun e r => gap e.1 (e.2 :: r)) (gap last [])
def pool (es : List (Nat × CpInfo)) (last : Nat) : Array CpInfo := ⟨poolList es last⟩
def fileOf (pool : Array CpInfo) (this : Nat) (attrs : Array Attribute := #[]) (ms : Array MethodInfo := #[]) (fl : Nat := 33) (sup : Nat := 0) (ifs : Array Nat := #[]) (fds : Array FieldInfo := #[]) : ClassFile where
  minorVersion := 0
  majorVersion := 65
  constantPool := pool
  accessFlags := fl
  thisClass := this
  superClass := sup
  interfaces := ifs
  fields := fds
  methods := ms
  attributes := attrs
def plain (name : String) (sup : Option ClassId) : Class where
  name := name
  kind := .ordinary
  loader := none
  accessFlags := 33
  super := sup
  interfaces := #[]
  cf := none
  fields := #[]
  methods := #[]
  instanceTypes := #[]
  staticTypes := #[]
  resolved := #[]
  callSites := []
  init := .initialized
  statics := none
  mirror := none

def pool0 : Array CpInfo := pool [(5, u "<init>"), (0, u "()V"), (1, .class_ 10), (1, u "java/lang/Object")] 113

def k0c0 : Code := { maxStack := 0, maxLocals := 1, code := object_method_1_code, exceptionTable := #[], attributes := #[] }
def k0m0 : Method := { name := "<init>", desc := "()V", sig := { parameters := [], returnType := none }, accessFlags := 1, code := some k0c0 }
/-- java/lang/Object -/
def k0 : Class := { plain "java/lang/Object" none with
  accessFlags := 33
  interfaces := #[]
  cf := some (fileOf pool0 8 #[] #[{ accessFlags := 1, nameIndex := 5, descriptorIndex := 6, attributes := #[] }] 33 0 #[] #[])
  fields := #[]
  methods := #[k0m0]
  instanceTypes := #[]
  staticTypes := #[]
  resolved := Array.replicate 124 none
  statics := none }

def pool1 : Array CpInfo := pool [(2, .class_ 4), (0, .nameAndType 5 6), (0, u "java/lang/Object"), (0, u "<init>"), (0, u "()V"), (0, .class_ 8), (0, u "com/example/whipstill/whipstill/RunningVariance"), (0, .methodref 7 3), (0, .methodref 7 11), (0, .nameAndType 12 13), (0, u "add"), (0, u "(D)V"), (0, .methodref 7 15), (0, .nameAndType 16 17), (0, u "mean"), (0, u "()D"), (0, .methodref 7 19), (0, .nameAndType 20 17), (0, u "sampleVariance"), (0, .long 3), (1, .double 4611686018427387904), (1, .class_ 26), (0, u "com/example/whipstill/whipstill/RunningVarianceAddPinLaw"), (2, u "law"), (0, u "(III)Z")] 3

def k1m0 : Method := { name := "<init>", desc := "()V", sig := { parameters := [], returnType := none }, accessFlags := 1, code := none }
def k1c1 : Code := { maxStack := 6, maxLocals := 36, code := code, exceptionTable := #[], attributes := #[] }
def k1m1 : Method := { name := "law", desc := "(III)Z", sig := { parameters := [.int, .int, .int], returnType := some .boolean }, accessFlags := 9, code := some k1c1 }
/-- com/example/whipstill/whipstill/RunningVarianceAddPinLaw -/
def k1 : Class := { plain "com/example/whipstill/whipstill/RunningVarianceAddPinLaw" (some 0) with
  accessFlags := 49
  interfaces := #[]
  cf := some (fileOf pool1 25 #[] #[{ accessFlags := 1, nameIndex := 5, descriptorIndex := 6, attributes := #[] }, { accessFlags := 9, nameIndex := 29, descriptorIndex := 30, attributes := #[] }] 49 2 #[] #[])
  fields := #[]
  methods := #[k1m0, k1m1]
  instanceTypes := #[]
  staticTypes := #[]
  resolved := Array.replicate 34 none
  statics := none }

def pool2 : Array CpInfo := pool [(1, .methodref 2 3), (0, .class_ 4), (0, .nameAndType 5 6), (0, u "java/lang/Object"), (0, u "<init>"), (0, u "()V"), (0, .class_ 8), (0, u "com/example/whipstill/whipstill/RunningVariance"), (25, u "add"), (0, u "(D)V"), (0, .fieldref 7 37), (0, .nameAndType 38 39), (0, u "count"), (0, u "J"), (0, .fieldref 7 41), (0, .nameAndType 42 43), (0, u "mean"), (0, u "D"), (0, .fieldref 7 45), (0, .nameAndType 46 43), (0, u "squares"), (2, .double 9221120237041090560), (1, .long 2), (8, u "()D"), (0, u "sampleVariance")] 2

def k2c0 : Code := { maxStack := 1, maxLocals := 1, code := prog_28_method_1_code, exceptionTable := #[], attributes := #[] }
def k2m0 : Method := { name := "<init>", desc := "()V", sig := { parameters := [], returnType := none }, accessFlags := 0, code := some k2c0 }
def k2c1 : Code := { maxStack := 9, maxLocals := 5, code := prog_28_method_3_code, exceptionTable := #[], attributes := #[] }
def k2m1 : Method := { name := "add", desc := "(D)V", sig := { parameters := [.double], returnType := none }, accessFlags := 0, code := some k2c1 }
def k2c2 : Code := { maxStack := 4, maxLocals := 1, code := prog_28_method_4_code, exceptionTable := #[], attributes := #[] }
def k2m2 : Method := { name := "mean", desc := "()D", sig := { parameters := [], returnType := some .double }, accessFlags := 0, code := some k2c2 }
def k2c3 : Code := { maxStack := 6, maxLocals := 1, code := prog_28_method_5_code, exceptionTable := #[], attributes := #[] }
def k2m3 : Method := { name := "sampleVariance", desc := "()D", sig := { parameters := [], returnType := some .double }, accessFlags := 0, code := some k2c3 }
/-- com/example/whipstill/whipstill/RunningVariance -/
def k2 : Class := { plain "com/example/whipstill/whipstill/RunningVariance" (some 0) with
  accessFlags := 48
  interfaces := #[]
  cf := some (fileOf pool2 7 #[] #[{ accessFlags := 0, nameIndex := 5, descriptorIndex := 6, attributes := #[] }, { accessFlags := 0, nameIndex := 34, descriptorIndex := 35, attributes := #[] }, { accessFlags := 0, nameIndex := 42, descriptorIndex := 60, attributes := #[] }, { accessFlags := 0, nameIndex := 61, descriptorIndex := 60, attributes := #[] }] 48 2 #[] #[{ accessFlags := 2, nameIndex := 38, descriptorIndex := 39, attributes := #[] }, { accessFlags := 2, nameIndex := 42, descriptorIndex := 43, attributes := #[] }, { accessFlags := 2, nameIndex := 46, descriptorIndex := 43, attributes := #[] }])
  fields := #[{ name := "count", type := .long, accessFlags := 2, slot := 0, constantValue := 0 }, { name := "mean", type := .double, accessFlags := 2, slot := 1, constantValue := 0 }, { name := "squares", type := .double, accessFlags := 2, slot := 2, constantValue := 0 }]
  methods := #[k2m0, k2m1, k2m2, k2m3]
  instanceTypes := #[.long, .double, .double]
  staticTypes := #[]
  resolved := Array.replicate 64 none
  statics := none }

def pool3 : Array CpInfo := pool [(1, u "java/lang/Cloneable"), (0, .class_ 1), (0, u "java/lang/Object"), (0, .class_ 3)] 3

/-- java/lang/Cloneable -/
def k3 : Class := { plain "java/lang/Cloneable" (some 0) with
  accessFlags := 1537
  interfaces := #[]
  cf := some (fileOf pool3 2 #[] #[] 1537 4 #[] #[])
  fields := #[]
  methods := #[]
  instanceTypes := #[]
  staticTypes := #[]
  resolved := Array.replicate 8 none
  statics := none }

def pool4 : Array CpInfo := pool [(1, u "java/io/Serializable"), (0, .class_ 1), (0, u "java/lang/Object"), (0, .class_ 3)] 3

/-- java/io/Serializable -/
def k4 : Class := { plain "java/io/Serializable" (some 0) with
  accessFlags := 1537
  interfaces := #[]
  cf := some (fileOf pool4 2 #[] #[] 1537 4 #[] #[])
  fields := #[]
  methods := #[]
  instanceTypes := #[]
  staticTypes := #[]
  resolved := Array.replicate 8 none
  statics := none }

/-- the primitive byte -/
def k5 : Class := { plain "byte" none with kind := .primitive 'B', accessFlags := 0x411 }
/-- [B -/
def k6 : Class := { plain "[B" (some 0) with kind := .array 5 .byte, interfaces := #[3, 4], accessFlags := 1041 }

/-- the primitive int -/
def k7 : Class := { plain "int" none with kind := .primitive 'I', accessFlags := 0x411 }
/-- [I -/
def k8 : Class := { plain "[I" (some 0) with kind := .array 7 .int, interfaces := #[3, 4], accessFlags := 1041 }

def heap : Heap := #[]
def classes : Array Class := #[k0, k1, k2, k3, k4, k5, k6, k7, k8]
def interned : List (Array UInt16 × Addr) := []
def slotsUsed : Nat := 0
def theMethod : MethodId := ⟨1, 1⟩
def args0 : Array Value := #[.int 5, .int 5, .int 5]
def aboutOver (below : List Frame) : State where
  vm := { classes := classes, interned := interned.toArray }
  heap := heap
  slotsUsed := slotsUsed
  threads := #[{ frames := .invoking theMethod args0 :: below }]
def below0 : List Frame := [.native { method := ⟨0, 0⟩, args := #[] }]
def about1 : State := aboutOver below0
def p0 : Program := .bare "" "" ""
def e0 : Env := launch0.env 0 0 0
theorem w_frames : about1.frames = Frame.invoking theMethod args0 :: below0 := rfl
set_option maxRecDepth 65536 in
theorem w_args : argsFit about1.vm theMethod args0 = true := by decide +kernel
set_option maxRecDepth 65536 in
theorem w_heap : heapFits about1 = true := by decide +kernel
set_option maxRecDepth 65536 in
theorem w_runnable : about1.curStatus? = some .runnable := by decide +kernel
set_option maxRecDepth 65536 in
theorem w_alone : about1.alone = true := by decide +kernel
set_option maxRecDepth 65536 in
theorem w_named : about1.methodNamed? x = some theMethod := by decide +kernel
set_option maxRecDepth 65536 in
theorem w_hears : about1.hears theMethod below0 = true := by decide +kernel
set_option maxRecDepth 65536 in
theorem w_ripe : about1.ripe theMethod args0 below0 = true := by decide +kernel
theorem w_running : about1.status = .running := rfl
set_option maxRecDepth 65536 in
theorem w_room : about1.hasRoom e0.platform room_1 = true :=
  launch0.hasRoom_least _ room_1 (by decide +kernel) (by decide +kernel) (by decide +kernel) (by decide +kernel) (by decide +kernel) (by decide +kernel)
theorem allAtoms_all (ts : List Jvm.Cond) (a : Array Jvm.Value) (st : Jvm.State) : (allAtoms ts).before a st = ts.all (fun c => c.before a st) := by
  induction ts with
  | nil => rfl
  | cons c t ih =>
    show (Jvm.Cond.and c (allAtoms t)).before a st = _
    rw [Jvm.Cond.before_and, ih, List.all_cons]
def words1 : List Jvm.Cond := Jvm.Cond.code x code maxLocals ret :: tables_1
/-- a 'code' word, met by the world's own term for the bytes: nothing is compared byte by byte -/
theorem code_word {y : MethodName} {bytes : ByteArray} {mx : Nat} {rt : Option FieldType} {a : Array Value} {s : State} {m : MethodId} {meth : Method} {c : Code} (h1 : s.methodNamed? y = some m) (h2 : s.vm.method? m = some meth) (h3 : meth.code = some c) (h4 : c.code = bytes)
    (h5 : (c.maxLocals == mx && c.exceptionTable.isEmpty && decide (c.maxStack ≤ mostOperands) && decide (meth.sig.returnType = rt) && !meth.locks && decide (parseMethodDescriptor y.desc = some meth.sig)) = true) : (Jvm.Cond.code y bytes mx rt).before a s = true := by
  simp only [Bool.and_eq_true, beq_iff_eq, Bool.not_eq_true', decide_eq_true_eq] at h5
  obtain ⟨⟨⟨⟨⟨g1, g2⟩, g3⟩, g4⟩, g5⟩, g6⟩ := h5
  simp [Cond.before, Cond.holds, Cond.value, h1, h2, h3, h4, g1, g2, g3, g4, g5, g6]
def isCode : Jvm.Cond → Bool
  | .code _ _ _ _ => true
  | _ => false
theorem all_split {L : List Jvm.Cond} {P : Jvm.Cond → Bool} (h1 : L.all (fun c => isCode c || P c) = true) (h2 : ∀ c ∈ L.filter isCode, P c = true) : L.all P = true := by
  refine List.all_eq_true.mpr fun c hc => ?_
  have h := List.all_eq_true.mp h1 c hc
  rcases Bool.eq_false_or_eq_true (isCode c) with hi | hi
  · exact h2 c (List.mem_filter.mpr ⟨hc, hi⟩)
  · simpa [hi] using h
set_option maxRecDepth 65536 in
theorem w_c0 : (Jvm.Cond.code x code maxLocals ret).before args0 about1 = true := code_word (m := ⟨1, 1⟩) (meth := k1m1) (c := k1c1) (by decide +kernel) rfl rfl rfl (by decide +kernel)
set_option maxRecDepth 65536 in
theorem w_c1 : (Jvm.Cond.code ({ cls := "com/example/whipstill/whipstill/RunningVariance", name := "<init>", desc := "()V" } : Jvm.MethodName) prog_28_method_1_code (1 : Nat) (Option.none : Option Jvm.ClassFile.FieldType)).before args0 about1 = true := code_word (m := ⟨2, 0⟩) (meth := k2m0) (c := k2c0) (by decide +kernel) rfl rfl rfl (by decide +kernel)
set_option maxRecDepth 65536 in
theorem w_c2 : (Jvm.Cond.code ({ cls := "java/lang/Object", name := "<init>", desc := "()V" } : Jvm.MethodName) object_method_1_code (1 : Nat) (Option.none : Option Jvm.ClassFile.FieldType)).before args0 about1 = true := code_word (m := ⟨0, 0⟩) (meth := k0m0) (c := k0c0) (by decide +kernel) rfl rfl rfl (by decide +kernel)
set_option maxRecDepth 65536 in
theorem w_c3 : (Jvm.Cond.code ({ cls := "com/example/whipstill/whipstill/RunningVariance", name := "add", desc := "(D)V" } : Jvm.MethodName) prog_28_method_3_code (5 : Nat) (Option.none : Option Jvm.ClassFile.FieldType)).before args0 about1 = true := code_word (m := ⟨2, 1⟩) (meth := k2m1) (c := k2c1) (by decide +kernel) rfl rfl rfl (by decide +kernel)
set_option maxRecDepth 65536 in
theorem w_c4 : (Jvm.Cond.code ({ cls := "com/example/whipstill/whipstill/RunningVariance", name := "mean", desc := "()D" } : Jvm.MethodName) prog_28_method_4_code (1 : Nat) (Option.some Jvm.ClassFile.FieldType.double)).before args0 about1 = true := code_word (m := ⟨2, 2⟩) (meth := k2m2) (c := k2c2) (by decide +kernel) rfl rfl rfl (by decide +kernel)
set_option maxRecDepth 65536 in
theorem w_c5 : (Jvm.Cond.code ({ cls := "com/example/whipstill/whipstill/RunningVariance", name := "sampleVariance", desc := "()D" } : Jvm.MethodName) prog_28_method_5_code (1 : Nat) (Option.some Jvm.ClassFile.FieldType.double)).before args0 about1 = true := code_word (m := ⟨2, 3⟩) (meth := k2m3) (c := k2c3) (by decide +kernel) rfl rfl rfl (by decide +kernel)
def codes1 : List Jvm.Cond := [Jvm.Cond.code x code maxLocals ret, Jvm.Cond.code ({ cls := "com/example/whipstill/whipstill/RunningVariance", name := "<init>", desc := "()V" } : Jvm.MethodName) prog_28_method_1_code (1 : Nat) (Option.none : Option Jvm.ClassFile.FieldType), Jvm.Cond.code ({ cls := "java/lang/Object", name := "<init>", desc := "()V" } : Jvm.MethodName) object_method_1_code (1 : Nat) (Option.none : Option Jvm.ClassFile.FieldType), Jvm.Cond.code ({ cls := "com/example/whipstill/whipstill/RunningVariance", name := "add", desc := "(D)V" } : Jvm.MethodName) prog_28_method_3_code (5 : Nat) (Option.none : Option Jvm.ClassFile.FieldType), Jvm.Cond.code ({ cls := "com/example/whipstill/whipstill/RunningVariance", name := "mean", desc := "()D" } : Jvm.MethodName) prog_28_method_4_code (1 : Nat) (Option.some Jvm.ClassFile.FieldType.double), Jvm.Cond.code ({ cls := "com/example/whipstill/whipstill/RunningVariance", name := "sampleVariance", desc := "()D" } : Jvm.MethodName) prog_28_method_5_code (1 : Nat) (Option.some Jvm.ClassFile.FieldType.double)]
set_option maxRecDepth 65536 in
theorem codes_eq : words1.filter isCode = codes1 := rfl
theorem w_codes : ∀ c ∈ words1.filter isCode, c.before args0 about1 = true := by
  rw [codes_eq]
  intro c hc
  simp only [codes1, List.mem_cons, List.not_mem_nil, or_false] at hc
  rcases hc with rfl | rfl | rfl | rfl | rfl | rfl
  · exact w_c0
  · exact w_c1
  · exact w_c2
  · exact w_c3
  · exact w_c4
  · exact w_c5
set_option maxRecDepth 65536 in
theorem w_t1 : (words1.take 24).all (fun c => isCode c || c.before args0 about1) = true := by decide +kernel
set_option maxRecDepth 65536 in
theorem w_t2 : (words1.drop 24).all (fun c => isCode c || c.before args0 about1) = true := by decide +kernel
theorem w_tables : (allAtoms (Jvm.Cond.code x code maxLocals ret :: tables_1)).before args0 about1 = true := by
  rw [allAtoms_all]
  show words1.all (fun c => c.before args0 about1) = true
  refine all_split ?_ w_codes
  rw [← List.take_append_drop 24 words1, List.all_append, w_t1, w_t2]
  rfl
set_option maxRecDepth 65536 in
theorem w_case : (Jvm.Cond.and given_1 narrow_1).before args0 about1 = true := by decide +kernel
theorem w_applies : (headSpec (Jvm.Cond.code x code maxLocals ret :: tables_1) room_1).applies x e0.platform about1 = true :=
  (Spec.applies_iff w_frames).mpr ⟨w_running, w_runnable, w_alone, w_named, w_hears, w_ripe, w_room, w_tables⟩
theorem atStart : AtStart classFile x code maxLocals ret World_1 tables_1 room_1 Calls_1 rest_1 Pre_1 launch0 p0 e0 about1 theMethod args0 below0 :=
  ⟨lists_1, trivial, launch0.admits_env _ _ _, launch0.least_env, fairChoices_fair.cas, fairChoices_fair.clock, w_frames, w_args, w_heap, w_applies, trivial, trivial, w_case⟩
end start1
theorem witness_1 : WitnessClaimed_1 := ⟨start1.p0, start1.e0, start1.about1, start1.theMethod, start1.args0, start1.below0, start1.atStart⟩
end Jvm.Pilot.@@N@@
