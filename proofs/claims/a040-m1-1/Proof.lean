import JvmDerived
import JvmDerived.Pilot.@@N@@Statement
import JvmDerived.Pilot.@@N@@Code
set_option linter.unusedVariables false
set_option linter.unusedSimpArgs false
namespace Jvm.RoadKit
open Sem ClassFile Op Lib Jvm.Stand Jvm.Free Jvm.LawKit
section New
variable {p : Program} {l : Launch} {e : Env} {R : Room} {s : State} {m : MethodId} {args : Array Value} {below : List Frame} {meth : Method} {c : Code} {T : State} {locs : List Loc} {cells slots : Nat}
theorem retI (X : Stand p l e R s m args below meth c T locs cells slots) (hx : p.tables.exec = Jvm.exec) {pc : Nat} {Ls : Array Slot} {z : Int32} {rest : List Value} (hret : meth.sig.returnType = some .int) (hd : decode c.code pc = .ok (.ireturn, 1)) {fs : List Frame}
    (hl : ∀ (f : JFrame) (acts : List Action), f.method = m → f.locked = none → f.entered = [] → (doReturn e (T.setTop f) acts (some (.int z))).1 = T.setFrames fs) : Steps p.tables e below (T.setTop (mkF m pc Ls (.int z :: rest))) (T.setFrames fs) := by
  have hm' : T.vm.method? m = some meth := X.method'
  have hn : narrow .int (.int z) = .int z := rfl
  show Steps p.tables e below (T.setTop { method := m, pc := pc, locals := Ls, stack := _ :: rest, locked := none }) _
  jvm_step X.here [X.here.top, hx, hd, hm', hret, hn]
  first | (intro acts; rw [hl _ acts rfl rfl rfl]) | rw [hl _ _ rfl rfl rfl]
  exact Steps.refl _
theorem retR (X : Stand p l e R s m args below meth c T locs cells slots) (hx : p.tables.exec = Jvm.exec) {pc : Nat} {Ls : Array Slot} {w : Value} {t : FieldType} {rest : List Value} (hret : meth.sig.returnType = some t) (hn : narrow t w = w) (ht : t.isReference = true) (hw : w.isRef = true) (hd : decode c.code pc = .ok (.areturn, 1)) {fs : List Frame}
    (hl : ∀ (f : JFrame) (acts : List Action), f.method = m → f.locked = none → f.entered = [] → (doReturn e (T.setTop f) acts (some w)).1 = T.setFrames fs) : Steps p.tables e below (T.setTop (mkF m pc Ls (w :: rest))) (T.setFrames fs) := by
  have hm' : T.vm.method? m = some meth := X.method'
  show Steps p.tables e below (T.setTop { method := m, pc := pc, locals := Ls, stack := _ :: rest, locked := none }) _
  jvm_step X.here [X.here.top, hx, hd, hm', hret, hn, hw]
  try (refine ⟨ht, ?_⟩)
  first | (intro acts; rw [hl _ acts rfl rfl rfl]) | rw [hl _ _ rfl rfl rfl]
  exact Steps.refl _
theorem retD (X : Stand p l e R s m args below meth c T locs cells slots) (hx : p.tables.exec = Jvm.exec) {pc : Nat} {Ls : Array Slot} {z : UInt64} {rest : List Value} (hret : meth.sig.returnType = some .double) (hd : decode c.code pc = .ok (.dreturn, 1)) {fs : List Frame}
    (hl : ∀ (f : JFrame) (acts : List Action), f.method = m → f.locked = none → f.entered = [] → (doReturn e (T.setTop f) acts (some (.double z))).1 = T.setFrames fs) : Steps p.tables e below (T.setTop (mkF m pc Ls (.double z :: rest))) (T.setFrames fs) := by
  have hm' : T.vm.method? m = some meth := X.method'
  have hn : narrow .double (.double z) = .double z := rfl
  show Steps p.tables e below (T.setTop { method := m, pc := pc, locals := Ls, stack := _ :: rest, locked := none }) _
  jvm_step X.here [X.here.top, hx, hd, hm', hret, hn]
  first | (intro acts; rw [hl _ acts rfl rfl rfl]) | rw [hl _ _ rfl rfl rfl]
  exact Steps.refl _
end New
end Jvm.RoadKit
namespace Jvm.Pilot.@@N@@
open Jvm Jvm.ClassFile Sem Op Lib Jvm.Free Jvm.Stand Jvm.LawKit Jvm.RoadKit Bundle Jvm.Pilot.@@N@@.Jvm.D
theorem own_rem (a b : Int32) (ha : 0 ≤ a.toInt) (hb : 0 < b.toInt) : a - a / b * b = a % b := by
  have h1 := Int32.toInt_lt a
  have h2 := Int32.toInt_lt b
  have e1 : (a / b).toInt = a.toInt / b.toInt := by
    rw [Int32.toInt_div, Int.tdiv_eq_ediv_of_nonneg ha]
    have := Int.ediv_nonneg ha (Int.le_of_lt hb)
    have := Int.ediv_le_self b.toInt ha
    exact Int.bmod_eq_of_le (by omega) (by omega)
  have q1 := Int.ediv_nonneg ha (Int.le_of_lt hb)
  have q2 := Int.mul_ediv_add_emod a.toInt b.toInt
  have q3 := Int.emod_nonneg a.toInt (Int.ne_of_gt hb)
  have q4 := Int.emod_lt_of_pos a.toInt hb
  have q5 : 0 ≤ b.toInt * (a.toInt / b.toInt) := Int.mul_nonneg (Int.le_of_lt hb) q1
  have e2 : (a / b * b).toInt = b.toInt * (a.toInt / b.toInt) := by
    rw [Int32.toInt_mul, e1, Int.mul_comm]
    exact Int.bmod_eq_of_le (by omega) (by omega)
  apply Int32.toInt_inj.mp
  rw [Int32.toInt_sub, e2, Int32.toInt_mod, Int.tmod_eq_emod_of_nonneg ha]
  rw [Int.bmod_eq_of_le (by omega) (by omega)]
  omega
theorem own_and31 (x : Int32) : 0 ≤ (x &&& (2147483647 : Int32)).toInt := by
  have e : (x &&& (2147483647 : Int32)).toInt = (x.toBitVec &&& 2147483647#32).toInt := rfl
  have hlt : (x.toBitVec &&& 2147483647#32).toNat < 2 ^ 31 := by
    rw [BitVec.toNat_and]; exact Nat.lt_of_le_of_lt Nat.and_le_right (by decide)
  rw [e, BitVec.toInt_eq_toNat_cond]; split <;> omega
theorem own_modk (x : Int32) (m : Nat) (hm : 0 < m) (hm' : m < 100) : ∃ k : Nat, k < m ∧ (x &&& (2147483647 : Int32)) - (x &&& (2147483647 : Int32)) / (Int32.ofNat m) * (Int32.ofNat m) = Int32.ofNat k := by
  have hnn := own_and31 x
  have e2 : (Int32.ofNat m).toInt = m := Int32.toInt_ofNat_of_lt (by omega)
  rw [own_rem _ _ hnn (by omega)]
  have h1 : ((x &&& (2147483647 : Int32)) % (Int32.ofNat m)).toInt = (x &&& (2147483647 : Int32)).toInt % m := by
    rw [Int32.toInt_mod, e2]; exact Int.tmod_eq_emod_of_nonneg hnn
  have h2 := Int.emod_nonneg (x &&& (2147483647 : Int32)).toInt (show (m : Int) ≠ 0 by omega)
  have h3 := Int.emod_lt_of_pos (x &&& (2147483647 : Int32)).toInt (show (0 : Int) < m by omega)
  refine ⟨((x &&& (2147483647 : Int32)).toInt % m).toNat, by omega, ?_⟩
  apply Int32.toInt_inj.mp
  rw [h1, Int32.toInt_ofNat_of_lt (by omega)]
  omega
open Jvm.Free.Fl in
theorem own_nzlit : True := trivial
def own_R (a : Int64) (K : Int) : Prop := -K ≤ a.toInt ∧ a.toInt ≤ K
theorem own_R.b53 {a : Int64} {K : Int} (h : own_R a K) (hK : K < 9007199254740992) : B53 a := ⟨by have := h.1; omega, by have := h.2; omega⟩
theorem own_R.sub {a b : Int64} {K M N : Int} (ha : own_R a K) (hb : own_R b M) (hN : K + M ≤ N) (h : N < 9223372036854775808) : own_R (a - b) N := by
  obtain ⟨a1, a2⟩ := ha; obtain ⟨b1, b2⟩ := hb
  have e : (a - b).toInt = a.toInt - b.toInt := by rw [Int64.toInt_sub]; exact Int.bmod_eq_of_le (by omega) (by omega)
  exact ⟨by rw [e]; omega, by rw [e]; omega⟩
theorem own_R.add {a b : Int64} {K M N : Int} (ha : own_R a K) (hb : own_R b M) (hN : K + M ≤ N) (h : N < 9223372036854775808) : own_R (a + b) N := by
  obtain ⟨a1, a2⟩ := ha; obtain ⟨b1, b2⟩ := hb
  have e : (a + b).toInt = a.toInt + b.toInt := by rw [Int64.toInt_add]; exact Int.bmod_eq_of_le (by omega) (by omega)
  exact ⟨by rw [e]; omega, by rw [e]; omega⟩
theorem own_R.mul {a b : Int64} {K M N : Int} (ha : own_R a K) (hb : own_R b M) (hK : 0 ≤ K) (hM : 0 ≤ M) (hN : K * M ≤ N) (h : N < 9223372036854775808) : own_R (a * b) N := by
  obtain ⟨a1, a2⟩ := ha; obtain ⟨b1, b2⟩ := hb
  have hm : (a.toInt * b.toInt).natAbs ≤ K.toNat * M.toNat := by rw [Int.natAbs_mul]; exact Nat.mul_le_mul (by omega) (by omega)
  have hm2 : ((K.toNat * M.toNat : Nat) : Int) = K * M := by rw [Int.natCast_mul, Int.toNat_of_nonneg hK, Int.toNat_of_nonneg hM]
  have e : (a * b).toInt = a.toInt * b.toInt := by rw [Int64.toInt_mul]; exact Int.bmod_eq_of_le (by omega) (by omega)
  exact ⟨by rw [e]; omega, by rw [e]; omega⟩
theorem own_R.lit (a : Int64) (K : Int) (h : -K ≤ a.toInt ∧ a.toInt ≤ K) : own_R a K := h
theorem own_R.i2l (x : Int32) : own_R x.toInt64 2147483648 := by
  have h1 := Int32.le_toInt x
  have h2 := Int32.toInt_lt x
  constructor <;> rw [Int32.toInt_toInt64] <;> omega
theorem own_R.shr11 (x : Int32) : own_R (x >>> ((11 : Int32) &&& 31)).toInt64 1048576 := by
  have h1 := Int32.le_toInt x
  have h2 := Int32.toInt_lt x
  have e : (x >>> ((11 : Int32) &&& 31)).toInt = x.toInt / 2048 := by
    have q : (x >>> ((11 : Int32) &&& 31)).toInt = (x.toBitVec.sshiftRight 11).toInt := rfl
    rw [q, BitVec.toInt_sshiftRight, Int.shiftRight_eq_div_pow]; rfl
  constructor <;> rw [Int32.toInt_toInt64, e] <;> omega
theorem own_sqd {a : Int64} {K : Int} (ha : own_R a K) (hK : K < 9007199254740992) (hKK : K * K < 9223372036854775808) : FP.dmul (FP.l2d a) (FP.l2d a) = FP.l2d (a * a) :=
  dmul_k ha.1 ha.2 ha.1 ha.2 hK hK hKK (fun ⟨h1, h2⟩ => by subst h1; exact absurd h2 (by decide)) (fun ⟨h1, h2⟩ => by subst h1; exact absurd h2 (by decide))
theorem own_d0 : FP.dconst0 = FP.l2d 0 := by decide +kernel
theorem own_ddiv (a : Int64) (n : Int32) (h : n.toInt64 ≠ 0) : Jvm.Free.Fl.NoNaN64 (FP.ddiv (FP.l2d a) (FP.i2d n)) := by
  rw [i2d_w]
  exact Jvm.Free.Fl.ddiv_out (Jvm.Free.Fl.l2d_fin a).noNaN (Jvm.Free.Fl.l2d_fin _) (Jvm.Free.Fl.l2d_nz h)
theorem own_n (x : Int32) : (2 : Int32) + ((x &&& (2147483647 : Int32)) - (x &&& (2147483647 : Int32)) / (3 : Int32) * (3 : Int32)) = 2 ∨ (2 : Int32) + ((x &&& (2147483647 : Int32)) - (x &&& (2147483647 : Int32)) / (3 : Int32) * (3 : Int32)) = 3 ∨ (2 : Int32) + ((x &&& (2147483647 : Int32)) - (x &&& (2147483647 : Int32)) / (3 : Int32) * (3 : Int32)) = 4 := by
  obtain ⟨k, hk, e⟩ := own_modk x 3 (by decide) (by decide)
  have e' : (x &&& (2147483647 : Int32)) - (x &&& (2147483647 : Int32)) / (3 : Int32) * (3 : Int32) = Int32.ofNat k := e
  rw [e']
  have t : ∀ k : Fin 3, (2 : Int32) + Int32.ofNat k.val = 2 ∨ (2 : Int32) + Int32.ofNat k.val = 3 ∨ (2 : Int32) + Int32.ofNat k.val = 4 := by decide +kernel
  exact t ⟨k, hk⟩
theorem d4_0 : decode prog_11_method_2_code 0 = .ok (.aload_n 0, 1) := by decide +kernel
theorem d4_1 : decode prog_11_method_2_code 1 = .ok (.getfield 16, 3) := by decide +kernel
theorem d4_4 : decode prog_11_method_2_code 4 = .ok (.aload_n 0, 1) := by decide +kernel
theorem d4_5 : decode prog_11_method_2_code 5 = .ok (.getfield 28, 3) := by decide +kernel
theorem d4_8 : decode prog_11_method_2_code 8 = .ok (.dload_n 1, 1) := by decide +kernel
theorem d4_9 : decode prog_11_method_2_code 9 = .ok (.dastore, 1) := by decide +kernel
theorem d4_10 : decode prog_11_method_2_code 10 = .ok (.aload_n 0, 1) := by decide +kernel
theorem d4_11 : decode prog_11_method_2_code 11 = .ok (.aload_n 0, 1) := by decide +kernel
theorem d4_12 : decode prog_11_method_2_code 12 = .ok (.getfield 28, 3) := by decide +kernel
theorem d4_15 : decode prog_11_method_2_code 15 = .ok (.iconst 1, 1) := by decide +kernel
theorem d4_16 : decode prog_11_method_2_code 16 = .ok (.iadd, 1) := by decide +kernel
theorem d4_17 : decode prog_11_method_2_code 17 = .ok (.aload_n 0, 1) := by decide +kernel
theorem d4_18 : decode prog_11_method_2_code 18 = .ok (.getfield 16, 3) := by decide +kernel
theorem d4_21 : decode prog_11_method_2_code 21 = .ok (.arraylength, 1) := by decide +kernel
theorem d4_22 : decode prog_11_method_2_code 22 = .ok (.irem, 1) := by decide +kernel
theorem d4_23 : decode prog_11_method_2_code 23 = .ok (.putfield 28, 3) := by decide +kernel
theorem d4_26 : decode prog_11_method_2_code 26 = .ok (.return_, 1) := by decide +kernel
theorem pn_com_example_whipstill_whipstill_MovingWindow : plainName "com/example/whipstill/whipstill/MovingWindow" = true := by first | (simp [plainName, overriddenIn]; done) | decide +kernel
theorem ef_rmAdd2_0 (m : MethodId) (x0 : Addr) (x1 : UInt64) : entryFrame m #[(.ref x0), (.double x1)] 3 = mkF m 0 #[.val (.ref x0), .val (.double x1), .second] [] := by first | (simp [entryFrame, mkF, argsToLocals, Value.category]; done) | rfl
def Q_rmAdd2_0 (Z : State) (a1 : Addr) (v1 : UInt64) (t1 : Addr) (k1 : ClassId) (x0 : UInt64) (x1 : UInt64) (h0 : Heap) (n0 : Nat) (v : Option Value) (h : Heap) (L : List Loc) : Prop := v = none ∧ Fr n0 L ∧ Keep h0 h [a1, t1] ∧ (Exa Z h a1 "com/example/whipstill/whipstill/MovingWindow") ∧ (Fld Z h a1 "com/example/whipstill/whipstill/MovingWindow" "values" "[D" (.ref t1)) ∧ (Fld Z h a1 "com/example/whipstill/whipstill/MovingWindow" "oldest" "I" (.int (1 : Int32))) ∧ (Arv Z h t1 k1 .double (2 : Int32) [(.double v1), (.double x1)] (.double (0 : UInt64)))
set_option maxRecDepth 65536 in
set_option maxHeartbeats 40000000 in
theorem rmAdd2_0 (l : Launch) (Z : State) (a0 : Array Value) (hw : ∀ d ∈ tables_1, d.before a0 Z = true) (ws : List Jvm.Cond) (a1 : Addr) (v1 : UInt64) (t1 : Addr) (k1 : ClassId) (x0 : UInt64) (x1 : UInt64) (h0 : Heap) (n0 : Nat) (Z0 : n0 ≤ h0.size) (E1 : Exa Z h0 a1 "com/example/whipstill/whipstill/MovingWindow") (F1 : Fld Z h0 a1 "com/example/whipstill/whipstill/MovingWindow" "values" "[D" (.ref t1)) (F2 : Fld Z h0 a1 "com/example/whipstill/whipstill/MovingWindow" "oldest" "I" (.int (0 : Int32))) (V1 : Arv Z h0 t1 k1 .double (2 : Int32) [(.double x0), (.double x1)] (.double (0 : UInt64))) (g1 : n0 ≤ a1) (g2 : n0 ≤ t1) :
    MetFree l (⟨"com/example/whipstill/whipstill/MovingWindow", "add", "(D)V"⟩ : MethodName) (head1 (Jvm.Cond.code (⟨"com/example/whipstill/whipstill/MovingWindow", "add", "(D)V"⟩ : MethodName) prog_11_method_2_code 3 none :: ws) ({ frames := 0, cells := 0, slots := 0, locals := 0 } : Room)) (fun a U => a = #[(.ref a1), (.double v1)] ∧ Z.Warmed39 U.vm ∧ U.heap = h0) (fun _ _ _ _ _ => True) (fun _ U o U' => ∃ v L, o = .returned v ∧ Q_rmAdd2_0 Z a1 v1 t1 k1 x0 x1 h0 n0 v U'.heap L ∧ FrameEnd U o U' L ({ frames := 0, cells := 0, slots := 0, locals := 0 } : Room).cells ({ frames := 0, cells := 0, slots := 0, locals := 0 } : Room).slots) := by
  refine MetFree.of_bodySF (plainFor_of_name pn_com_example_whipstill_whipstill_MovingWindow) hisR ?_
  intro p e s m args below meth c s₁ Bd hml0 hP hK
  obtain ⟨rfl, hZ, hh⟩ := hP
  have hx := Bd.exec
  have hby := Bd.bytes
  have hml : c.maxLocals = 3 := hml0
  have hown : s.vm.findClass "com/example/whipstill/whipstill/MovingWindow" = some m.cls := findClass_of_methodNamed Bd.named
  have hnm := (name_of_methodNamed Bd.named Bd.method).1
  have X0 : Stand p l e ({ frames := 0, cells := 0, slots := 0, locals := 0 } : Room) s m #[(.ref a1), (.double v1)] below meth c s₁ [] 0 0 := Stand.of_body Bd
  have e0 : s₁.heap = h0 := by rw [← hh, Bd.state]; rfl
  have N0 := Fr.nil n0
  have pre0 : ∀ t, Steps p.tables e below (s₁.setTop (mkF m 0 #[.val (.ref a1), .val (.double v1), .second] [])) t → Steps p.tables e below (s₁.setTop (entryFrame m #[(.ref a1), (.double v1)] 3)) t := fun t k => castTop (ef_rmAdd2_0 m a1 v1) k
  obtain ⟨T1_, X1_, e1_, st1_⟩ := getF X0 hx hZ hown (host := "") (Or.inl (hw _ (List.mem_of_getElem? (i := 11) rfl))) Via.refl e0 F1 (g := (mkF m 1 #[.val (.ref a1), .val (.double v1), .second] [(.ref a1)])) rfl rfl (hb hby d4_1)
  obtain ⟨T2_, X2_, e2_, st2_⟩ := getF X1_ hx hZ hown (host := "") (Or.inl (hw _ (List.mem_of_getElem? (i := 22) rfl))) Via.refl e1_ F2 (g := (mkF m 5 #[.val (.ref a1), .val (.double v1), .second] [(.ref a1), (.ref t1)])) rfl rfl (hb hby d4_5)
  obtain ⟨cl3_, Ar3_, q3_, S3_, M3_, Hs3_, G3_⟩ := id V1
  have in3_ : ¬ ((0 : Int32) < 0 ∨ cl3_.slots.size ≤ ((0 : Int32)).toNatClampNeg) := inb_of S3_ ⟨by decide, by decide⟩
  obtain ⟨T3_, h3_, X3_, e3_, W3_, st3_⟩ := stD X2_ hx hZ e2_ Ar3_ (j := (0 : Int32)) in3_ (g := (mkF m 9 #[.val (.ref a1), .val (.double v1), .second] [(.double v1), (.int (0 : Int32)), (.ref t1)])) rfl rfl (hb hby d4_9)
  have v3_ : Arv Z h3_ t1 k1 .double (2 : Int32) [(.double v1), (.double x1)] (.double (0 : UInt64)) := Arv.set Ar3_ q3_ S3_ M3_ Hs3_ G3_ rfl W3_ 0 rfl (Nat.le_of_ble_eq_true rfl)
  have N3_ := Fr.snoc X3_ N0 g2
  have f4_ : Fld Z h3_ a1 "com/example/whipstill/whipstill/MovingWindow" "oldest" "I" (.int (0 : Int32)) := (F2.other W3_ (Or.inl (Exa.neArv E1 V1 (hw _ (List.mem_of_getElem? (i := 2) rfl)))))
  obtain ⟨T5_, X5_, e5_, st5_⟩ := getF X3_ hx hZ hown (host := "") (Or.inl (hw _ (List.mem_of_getElem? (i := 22) rfl))) Via.refl e3_ f4_ (g := (mkF m 12 #[.val (.ref a1), .val (.double v1), .second] [(.ref a1), (.ref a1)])) rfl rfl (hb hby d4_12)
  have f6_ : Fld Z h3_ a1 "com/example/whipstill/whipstill/MovingWindow" "values" "[D" (.ref t1) := (F1.other W3_ (Or.inl (Exa.neArv E1 V1 (hw _ (List.mem_of_getElem? (i := 2) rfl)))))
  obtain ⟨T7_, X7_, e7_, st7_⟩ := getF X5_ hx hZ hown (host := "") (Or.inl (hw _ (List.mem_of_getElem? (i := 11) rfl))) Via.refl e5_ f6_ (g := (mkF m 18 #[.val (.ref a1), .val (.double v1), .second] [(.ref a1), (.int (1 : Int32)), (.ref a1)])) rfl rfl (hb hby d4_18)
  obtain ⟨cl8_, Ar8_, q8_, S8_, M8_, Hs8_, G8_⟩ := id v3_
  have f9_ : Exa Z h3_ a1 "com/example/whipstill/whipstill/MovingWindow" := (E1.wr W3_)
  obtain ⟨T10_, h10_, X10_, e10_, W10_, st10_⟩ := putF X7_ hx hZ hown (host := "") (Or.inl (hw _ (List.mem_of_getElem? (i := 22) rfl))) Via.refl e7_ f4_ f9_ (Or.inl (hw _ (List.mem_of_getElem? (i := 23) rfl))) (hw _ (List.mem_of_getElem? (i := 2) rfl)) (ty := .int) (by decide) rfl rfl (g := (mkF m 23 #[.val (.ref a1), .val (.double v1), .second] [(.int (1 : Int32)), (.ref a1)])) rfl rfl (hb hby d4_23)
  have w10_ : Fld Z h10_ a1 "com/example/whipstill/whipstill/MovingWindow" "oldest" "I" (.int (1 : Int32)) := f4_.same W10_
  have N10_ := Fr.snoc X10_ N3_ g1
  have f11_ : Exa Z h10_ a1 "com/example/whipstill/whipstill/MovingWindow" := (f9_.wr W10_)
  have f12_ : Fld Z h10_ a1 "com/example/whipstill/whipstill/MovingWindow" "values" "[D" (.ref t1) := (f6_.other W10_ (Or.inr (slot_ne (Or.inr (hw _ (List.mem_of_getElem? (i := 12) rfl))) (Or.inl (hw _ (List.mem_of_getElem? (i := 23) rfl))) (by decide) (t := (.array .double)) (t' := .int) (by decide) (by decide))))
  have f13_ : Arv Z h10_ t1 k1 .double (2 : Int32) [(.double v1), (.double x1)] (.double (0 : UInt64)) := (v3_.other W10_ (Ne.symm (Exa.neArv f9_ v3_ (hw _ (List.mem_of_getElem? (i := 2) rfl)))))
  have k14_ : Keep h0 h3_ [a1, t1] := (Keep.refl h0 [a1, t1]).wr W3_ (Or.inl (List.mem_of_getElem? (i := 1) rfl))
  have k15_ : Keep h0 h10_ [a1, t1] := k14_.wr W10_ (Or.inl (List.mem_of_getElem? (i := 0) rfl))
  obtain ⟨fs, hr, hrun, hended, hW, hsame⟩ := X10_.leave (v := none) (fun h => by first | rfl | (rw [Bd.returns] at h; cases h))
  refine ⟨_, _, pre0 _ ?_, hrun, hended, _, _, rfl, ?_, ⟨_, rfl⟩, hW, hsame.mono (by decide) (by decide)⟩
  · show Steps p.tables e below (s₁.setTop (mkF m 0 #[.val (.ref a1), .val (.double v1), .second] [])) _
    refine XS.aloadN X0.here hx rfl (hb hby d4_0) rfl rfl ?_
    show Steps p.tables e below (s₁.setTop (mkF m 1 #[.val (.ref a1), .val (.double v1), .second] [(.ref a1)])) _
    refine st1_ _ ?_
    show Steps p.tables e below (T1_.setTop (mkF m 4 #[.val (.ref a1), .val (.double v1), .second] [(.ref t1)])) _
    refine XS.aloadN X1_.here hx rfl (hb hby d4_4) rfl rfl ?_
    show Steps p.tables e below (T1_.setTop (mkF m 5 #[.val (.ref a1), .val (.double v1), .second] [(.ref a1), (.ref t1)])) _
    refine st2_ _ ?_
    show Steps p.tables e below (T2_.setTop (mkF m 8 #[.val (.ref a1), .val (.double v1), .second] [(.int (0 : Int32)), (.ref t1)])) _
    refine XS.dloadN X2_.here hx rfl (hb hby d4_8) rfl ?_
    show Steps p.tables e below (T2_.setTop (mkF m 9 #[.val (.ref a1), .val (.double v1), .second] [(.double v1), (.int (0 : Int32)), (.ref t1)])) _
    refine st3_ _ ?_
    show Steps p.tables e below (T3_.setTop (mkF m 10 #[.val (.ref a1), .val (.double v1), .second] [])) _
    refine XS.aloadN X3_.here hx rfl (hb hby d4_10) rfl rfl ?_
    show Steps p.tables e below (T3_.setTop (mkF m 11 #[.val (.ref a1), .val (.double v1), .second] [(.ref a1)])) _
    refine XS.aloadN X3_.here hx rfl (hb hby d4_11) rfl rfl ?_
    show Steps p.tables e below (T3_.setTop (mkF m 12 #[.val (.ref a1), .val (.double v1), .second] [(.ref a1), (.ref a1)])) _
    refine st5_ _ ?_
    show Steps p.tables e below (T5_.setTop (mkF m 15 #[.val (.ref a1), .val (.double v1), .second] [(.int (0 : Int32)), (.ref a1)])) _
    refine XS.iconst X5_.here hx rfl (hb hby d4_15) ?_
    show Steps p.tables e below (T5_.setTop (mkF m 16 #[.val (.ref a1), .val (.double v1), .second] [(.int (1 : Int32)), (.int (0 : Int32)), (.ref a1)])) _
    refine XS.iadd X5_.here hx rfl (hb hby d4_16) rfl ?_
    show Steps p.tables e below (T5_.setTop (mkF m 17 #[.val (.ref a1), .val (.double v1), .second] [(.int (1 : Int32)), (.ref a1)])) _
    refine XS.aloadN X5_.here hx rfl (hb hby d4_17) rfl rfl ?_
    show Steps p.tables e below (T5_.setTop (mkF m 18 #[.val (.ref a1), .val (.double v1), .second] [(.ref a1), (.int (1 : Int32)), (.ref a1)])) _
    refine st7_ _ ?_
    show Steps p.tables e below (T7_.setTop (mkF m 21 #[.val (.ref a1), .val (.double v1), .second] [(.ref t1), (.int (1 : Int32)), (.ref a1)])) _
    refine X7_.arraylength hx (by rw [e7_]; exact Ar8_.1) (State.isArrayOf_alike (State.Warmed39.alike hZ) Ar8_.2.1) (g := (mkF m 21 #[.val (.ref a1), .val (.double v1), .second] [(.ref t1), (.int (1 : Int32)), (.ref a1)])) rfl rfl (hb hby d4_21) _ ?_
    rw [len_of S8_ M8_]
    show Steps p.tables e below (T7_.setTop (mkF m 22 #[.val (.ref a1), .val (.double v1), .second] [(.int (2 : Int32)), (.int (1 : Int32)), (.ref a1)])) _
    refine XS.irem X7_.here hx rfl (hb hby d4_22) rfl (by decide) ?_
    show Steps p.tables e below (T7_.setTop (mkF m 23 #[.val (.ref a1), .val (.double v1), .second] [(.int (1 : Int32)), (.ref a1)])) _
    refine st10_ _ ?_
    show Steps p.tables e below (T10_.setTop (mkF m 26 #[.val (.ref a1), .val (.double v1), .second] [])) _
    exact X10_.returnOut hx Bd.returns (hb hby d4_26) hr
  · show Q_rmAdd2_0 Z a1 v1 t1 k1 x0 x1 h0 n0 _ T10_.heap _
    rw [e10_]
    exact ⟨rfl, N10_, k15_, f11_, f12_, w10_, f13_⟩
theorem ef_rmAdd2_1 (m : MethodId) (x0 : Addr) (x1 : UInt64) : entryFrame m #[(.ref x0), (.double x1)] 3 = mkF m 0 #[.val (.ref x0), .val (.double x1), .second] [] := by first | (simp [entryFrame, mkF, argsToLocals, Value.category]; done) | rfl
def Q_rmAdd2_1 (Z : State) (a1 : Addr) (v1 : UInt64) (t1 : Addr) (k1 : ClassId) (x0 : UInt64) (x1 : UInt64) (h0 : Heap) (n0 : Nat) (v : Option Value) (h : Heap) (L : List Loc) : Prop := v = none ∧ Fr n0 L ∧ Keep h0 h [a1, t1] ∧ (Exa Z h a1 "com/example/whipstill/whipstill/MovingWindow") ∧ (Fld Z h a1 "com/example/whipstill/whipstill/MovingWindow" "values" "[D" (.ref t1)) ∧ (Fld Z h a1 "com/example/whipstill/whipstill/MovingWindow" "oldest" "I" (.int (0 : Int32))) ∧ (Arv Z h t1 k1 .double (2 : Int32) [(.double x0), (.double v1)] (.double (0 : UInt64)))
set_option maxRecDepth 65536 in
set_option maxHeartbeats 40000000 in
theorem rmAdd2_1 (l : Launch) (Z : State) (a0 : Array Value) (hw : ∀ d ∈ tables_1, d.before a0 Z = true) (ws : List Jvm.Cond) (a1 : Addr) (v1 : UInt64) (t1 : Addr) (k1 : ClassId) (x0 : UInt64) (x1 : UInt64) (h0 : Heap) (n0 : Nat) (Z0 : n0 ≤ h0.size) (E1 : Exa Z h0 a1 "com/example/whipstill/whipstill/MovingWindow") (F1 : Fld Z h0 a1 "com/example/whipstill/whipstill/MovingWindow" "values" "[D" (.ref t1)) (F2 : Fld Z h0 a1 "com/example/whipstill/whipstill/MovingWindow" "oldest" "I" (.int (1 : Int32))) (V1 : Arv Z h0 t1 k1 .double (2 : Int32) [(.double x0), (.double x1)] (.double (0 : UInt64))) (g1 : n0 ≤ a1) (g2 : n0 ≤ t1) :
    MetFree l (⟨"com/example/whipstill/whipstill/MovingWindow", "add", "(D)V"⟩ : MethodName) (head1 (Jvm.Cond.code (⟨"com/example/whipstill/whipstill/MovingWindow", "add", "(D)V"⟩ : MethodName) prog_11_method_2_code 3 none :: ws) ({ frames := 0, cells := 0, slots := 0, locals := 0 } : Room)) (fun a U => a = #[(.ref a1), (.double v1)] ∧ Z.Warmed39 U.vm ∧ U.heap = h0) (fun _ _ _ _ _ => True) (fun _ U o U' => ∃ v L, o = .returned v ∧ Q_rmAdd2_1 Z a1 v1 t1 k1 x0 x1 h0 n0 v U'.heap L ∧ FrameEnd U o U' L ({ frames := 0, cells := 0, slots := 0, locals := 0 } : Room).cells ({ frames := 0, cells := 0, slots := 0, locals := 0 } : Room).slots) := by
  refine MetFree.of_bodySF (plainFor_of_name pn_com_example_whipstill_whipstill_MovingWindow) hisR ?_
  intro p e s m args below meth c s₁ Bd hml0 hP hK
  obtain ⟨rfl, hZ, hh⟩ := hP
  have hx := Bd.exec
  have hby := Bd.bytes
  have hml : c.maxLocals = 3 := hml0
  have hown : s.vm.findClass "com/example/whipstill/whipstill/MovingWindow" = some m.cls := findClass_of_methodNamed Bd.named
  have hnm := (name_of_methodNamed Bd.named Bd.method).1
  have X0 : Stand p l e ({ frames := 0, cells := 0, slots := 0, locals := 0 } : Room) s m #[(.ref a1), (.double v1)] below meth c s₁ [] 0 0 := Stand.of_body Bd
  have e0 : s₁.heap = h0 := by rw [← hh, Bd.state]; rfl
  have N0 := Fr.nil n0
  have pre0 : ∀ t, Steps p.tables e below (s₁.setTop (mkF m 0 #[.val (.ref a1), .val (.double v1), .second] [])) t → Steps p.tables e below (s₁.setTop (entryFrame m #[(.ref a1), (.double v1)] 3)) t := fun t k => castTop (ef_rmAdd2_1 m a1 v1) k
  obtain ⟨T1_, X1_, e1_, st1_⟩ := getF X0 hx hZ hown (host := "") (Or.inl (hw _ (List.mem_of_getElem? (i := 11) rfl))) Via.refl e0 F1 (g := (mkF m 1 #[.val (.ref a1), .val (.double v1), .second] [(.ref a1)])) rfl rfl (hb hby d4_1)
  obtain ⟨T2_, X2_, e2_, st2_⟩ := getF X1_ hx hZ hown (host := "") (Or.inl (hw _ (List.mem_of_getElem? (i := 22) rfl))) Via.refl e1_ F2 (g := (mkF m 5 #[.val (.ref a1), .val (.double v1), .second] [(.ref a1), (.ref t1)])) rfl rfl (hb hby d4_5)
  obtain ⟨cl3_, Ar3_, q3_, S3_, M3_, Hs3_, G3_⟩ := id V1
  have in3_ : ¬ ((1 : Int32) < 0 ∨ cl3_.slots.size ≤ ((1 : Int32)).toNatClampNeg) := inb_of S3_ ⟨by decide, by decide⟩
  obtain ⟨T3_, h3_, X3_, e3_, W3_, st3_⟩ := stD X2_ hx hZ e2_ Ar3_ (j := (1 : Int32)) in3_ (g := (mkF m 9 #[.val (.ref a1), .val (.double v1), .second] [(.double v1), (.int (1 : Int32)), (.ref t1)])) rfl rfl (hb hby d4_9)
  have v3_ : Arv Z h3_ t1 k1 .double (2 : Int32) [(.double x0), (.double v1)] (.double (0 : UInt64)) := Arv.set Ar3_ q3_ S3_ M3_ Hs3_ G3_ rfl W3_ 1 rfl (Nat.le_of_ble_eq_true rfl)
  have N3_ := Fr.snoc X3_ N0 g2
  have f4_ : Fld Z h3_ a1 "com/example/whipstill/whipstill/MovingWindow" "oldest" "I" (.int (1 : Int32)) := (F2.other W3_ (Or.inl (Exa.neArv E1 V1 (hw _ (List.mem_of_getElem? (i := 2) rfl)))))
  obtain ⟨T5_, X5_, e5_, st5_⟩ := getF X3_ hx hZ hown (host := "") (Or.inl (hw _ (List.mem_of_getElem? (i := 22) rfl))) Via.refl e3_ f4_ (g := (mkF m 12 #[.val (.ref a1), .val (.double v1), .second] [(.ref a1), (.ref a1)])) rfl rfl (hb hby d4_12)
  have f6_ : Fld Z h3_ a1 "com/example/whipstill/whipstill/MovingWindow" "values" "[D" (.ref t1) := (F1.other W3_ (Or.inl (Exa.neArv E1 V1 (hw _ (List.mem_of_getElem? (i := 2) rfl)))))
  obtain ⟨T7_, X7_, e7_, st7_⟩ := getF X5_ hx hZ hown (host := "") (Or.inl (hw _ (List.mem_of_getElem? (i := 11) rfl))) Via.refl e5_ f6_ (g := (mkF m 18 #[.val (.ref a1), .val (.double v1), .second] [(.ref a1), (.int (2 : Int32)), (.ref a1)])) rfl rfl (hb hby d4_18)
  obtain ⟨cl8_, Ar8_, q8_, S8_, M8_, Hs8_, G8_⟩ := id v3_
  have f9_ : Exa Z h3_ a1 "com/example/whipstill/whipstill/MovingWindow" := (E1.wr W3_)
  obtain ⟨T10_, h10_, X10_, e10_, W10_, st10_⟩ := putF X7_ hx hZ hown (host := "") (Or.inl (hw _ (List.mem_of_getElem? (i := 22) rfl))) Via.refl e7_ f4_ f9_ (Or.inl (hw _ (List.mem_of_getElem? (i := 23) rfl))) (hw _ (List.mem_of_getElem? (i := 2) rfl)) (ty := .int) (by decide) rfl rfl (g := (mkF m 23 #[.val (.ref a1), .val (.double v1), .second] [(.int (0 : Int32)), (.ref a1)])) rfl rfl (hb hby d4_23)
  have w10_ : Fld Z h10_ a1 "com/example/whipstill/whipstill/MovingWindow" "oldest" "I" (.int (0 : Int32)) := f4_.same W10_
  have N10_ := Fr.snoc X10_ N3_ g1
  have f11_ : Exa Z h10_ a1 "com/example/whipstill/whipstill/MovingWindow" := (f9_.wr W10_)
  have f12_ : Fld Z h10_ a1 "com/example/whipstill/whipstill/MovingWindow" "values" "[D" (.ref t1) := (f6_.other W10_ (Or.inr (slot_ne (Or.inr (hw _ (List.mem_of_getElem? (i := 12) rfl))) (Or.inl (hw _ (List.mem_of_getElem? (i := 23) rfl))) (by decide) (t := (.array .double)) (t' := .int) (by decide) (by decide))))
  have f13_ : Arv Z h10_ t1 k1 .double (2 : Int32) [(.double x0), (.double v1)] (.double (0 : UInt64)) := (v3_.other W10_ (Ne.symm (Exa.neArv f9_ v3_ (hw _ (List.mem_of_getElem? (i := 2) rfl)))))
  have k14_ : Keep h0 h3_ [a1, t1] := (Keep.refl h0 [a1, t1]).wr W3_ (Or.inl (List.mem_of_getElem? (i := 1) rfl))
  have k15_ : Keep h0 h10_ [a1, t1] := k14_.wr W10_ (Or.inl (List.mem_of_getElem? (i := 0) rfl))
  obtain ⟨fs, hr, hrun, hended, hW, hsame⟩ := X10_.leave (v := none) (fun h => by first | rfl | (rw [Bd.returns] at h; cases h))
  refine ⟨_, _, pre0 _ ?_, hrun, hended, _, _, rfl, ?_, ⟨_, rfl⟩, hW, hsame.mono (by decide) (by decide)⟩
  · show Steps p.tables e below (s₁.setTop (mkF m 0 #[.val (.ref a1), .val (.double v1), .second] [])) _
    refine XS.aloadN X0.here hx rfl (hb hby d4_0) rfl rfl ?_
    show Steps p.tables e below (s₁.setTop (mkF m 1 #[.val (.ref a1), .val (.double v1), .second] [(.ref a1)])) _
    refine st1_ _ ?_
    show Steps p.tables e below (T1_.setTop (mkF m 4 #[.val (.ref a1), .val (.double v1), .second] [(.ref t1)])) _
    refine XS.aloadN X1_.here hx rfl (hb hby d4_4) rfl rfl ?_
    show Steps p.tables e below (T1_.setTop (mkF m 5 #[.val (.ref a1), .val (.double v1), .second] [(.ref a1), (.ref t1)])) _
    refine st2_ _ ?_
    show Steps p.tables e below (T2_.setTop (mkF m 8 #[.val (.ref a1), .val (.double v1), .second] [(.int (1 : Int32)), (.ref t1)])) _
    refine XS.dloadN X2_.here hx rfl (hb hby d4_8) rfl ?_
    show Steps p.tables e below (T2_.setTop (mkF m 9 #[.val (.ref a1), .val (.double v1), .second] [(.double v1), (.int (1 : Int32)), (.ref t1)])) _
    refine st3_ _ ?_
    show Steps p.tables e below (T3_.setTop (mkF m 10 #[.val (.ref a1), .val (.double v1), .second] [])) _
    refine XS.aloadN X3_.here hx rfl (hb hby d4_10) rfl rfl ?_
    show Steps p.tables e below (T3_.setTop (mkF m 11 #[.val (.ref a1), .val (.double v1), .second] [(.ref a1)])) _
    refine XS.aloadN X3_.here hx rfl (hb hby d4_11) rfl rfl ?_
    show Steps p.tables e below (T3_.setTop (mkF m 12 #[.val (.ref a1), .val (.double v1), .second] [(.ref a1), (.ref a1)])) _
    refine st5_ _ ?_
    show Steps p.tables e below (T5_.setTop (mkF m 15 #[.val (.ref a1), .val (.double v1), .second] [(.int (1 : Int32)), (.ref a1)])) _
    refine XS.iconst X5_.here hx rfl (hb hby d4_15) ?_
    show Steps p.tables e below (T5_.setTop (mkF m 16 #[.val (.ref a1), .val (.double v1), .second] [(.int (1 : Int32)), (.int (1 : Int32)), (.ref a1)])) _
    refine XS.iadd X5_.here hx rfl (hb hby d4_16) rfl ?_
    show Steps p.tables e below (T5_.setTop (mkF m 17 #[.val (.ref a1), .val (.double v1), .second] [(.int (2 : Int32)), (.ref a1)])) _
    refine XS.aloadN X5_.here hx rfl (hb hby d4_17) rfl rfl ?_
    show Steps p.tables e below (T5_.setTop (mkF m 18 #[.val (.ref a1), .val (.double v1), .second] [(.ref a1), (.int (2 : Int32)), (.ref a1)])) _
    refine st7_ _ ?_
    show Steps p.tables e below (T7_.setTop (mkF m 21 #[.val (.ref a1), .val (.double v1), .second] [(.ref t1), (.int (2 : Int32)), (.ref a1)])) _
    refine X7_.arraylength hx (by rw [e7_]; exact Ar8_.1) (State.isArrayOf_alike (State.Warmed39.alike hZ) Ar8_.2.1) (g := (mkF m 21 #[.val (.ref a1), .val (.double v1), .second] [(.ref t1), (.int (2 : Int32)), (.ref a1)])) rfl rfl (hb hby d4_21) _ ?_
    rw [len_of S8_ M8_]
    show Steps p.tables e below (T7_.setTop (mkF m 22 #[.val (.ref a1), .val (.double v1), .second] [(.int (2 : Int32)), (.int (2 : Int32)), (.ref a1)])) _
    refine XS.irem X7_.here hx rfl (hb hby d4_22) rfl (by decide) ?_
    show Steps p.tables e below (T7_.setTop (mkF m 23 #[.val (.ref a1), .val (.double v1), .second] [(.int (0 : Int32)), (.ref a1)])) _
    refine st10_ _ ?_
    show Steps p.tables e below (T10_.setTop (mkF m 26 #[.val (.ref a1), .val (.double v1), .second] [])) _
    exact X10_.returnOut hx Bd.returns (hb hby d4_26) hr
  · show Q_rmAdd2_1 Z a1 v1 t1 k1 x0 x1 h0 n0 _ T10_.heap _
    rw [e10_]
    exact ⟨rfl, N10_, k15_, f11_, f12_, w10_, f13_⟩
theorem ef_rmAdd3_0 (m : MethodId) (x0 : Addr) (x1 : UInt64) : entryFrame m #[(.ref x0), (.double x1)] 3 = mkF m 0 #[.val (.ref x0), .val (.double x1), .second] [] := by first | (simp [entryFrame, mkF, argsToLocals, Value.category]; done) | rfl
def Q_rmAdd3_0 (Z : State) (a1 : Addr) (v1 : UInt64) (t1 : Addr) (k1 : ClassId) (x0 : UInt64) (x1 : UInt64) (x2 : UInt64) (h0 : Heap) (n0 : Nat) (v : Option Value) (h : Heap) (L : List Loc) : Prop := v = none ∧ Fr n0 L ∧ Keep h0 h [a1, t1] ∧ (Exa Z h a1 "com/example/whipstill/whipstill/MovingWindow") ∧ (Fld Z h a1 "com/example/whipstill/whipstill/MovingWindow" "values" "[D" (.ref t1)) ∧ (Fld Z h a1 "com/example/whipstill/whipstill/MovingWindow" "oldest" "I" (.int (1 : Int32))) ∧ (Arv Z h t1 k1 .double (3 : Int32) [(.double v1), (.double x1), (.double x2)] (.double (0 : UInt64)))
set_option maxRecDepth 65536 in
set_option maxHeartbeats 40000000 in
theorem rmAdd3_0 (l : Launch) (Z : State) (a0 : Array Value) (hw : ∀ d ∈ tables_1, d.before a0 Z = true) (ws : List Jvm.Cond) (a1 : Addr) (v1 : UInt64) (t1 : Addr) (k1 : ClassId) (x0 : UInt64) (x1 : UInt64) (x2 : UInt64) (h0 : Heap) (n0 : Nat) (Z0 : n0 ≤ h0.size) (E1 : Exa Z h0 a1 "com/example/whipstill/whipstill/MovingWindow") (F1 : Fld Z h0 a1 "com/example/whipstill/whipstill/MovingWindow" "values" "[D" (.ref t1)) (F2 : Fld Z h0 a1 "com/example/whipstill/whipstill/MovingWindow" "oldest" "I" (.int (0 : Int32))) (V1 : Arv Z h0 t1 k1 .double (3 : Int32) [(.double x0), (.double x1), (.double x2)] (.double (0 : UInt64))) (g1 : n0 ≤ a1) (g2 : n0 ≤ t1) :
    MetFree l (⟨"com/example/whipstill/whipstill/MovingWindow", "add", "(D)V"⟩ : MethodName) (head1 (Jvm.Cond.code (⟨"com/example/whipstill/whipstill/MovingWindow", "add", "(D)V"⟩ : MethodName) prog_11_method_2_code 3 none :: ws) ({ frames := 0, cells := 0, slots := 0, locals := 0 } : Room)) (fun a U => a = #[(.ref a1), (.double v1)] ∧ Z.Warmed39 U.vm ∧ U.heap = h0) (fun _ _ _ _ _ => True) (fun _ U o U' => ∃ v L, o = .returned v ∧ Q_rmAdd3_0 Z a1 v1 t1 k1 x0 x1 x2 h0 n0 v U'.heap L ∧ FrameEnd U o U' L ({ frames := 0, cells := 0, slots := 0, locals := 0 } : Room).cells ({ frames := 0, cells := 0, slots := 0, locals := 0 } : Room).slots) := by
  refine MetFree.of_bodySF (plainFor_of_name pn_com_example_whipstill_whipstill_MovingWindow) hisR ?_
  intro p e s m args below meth c s₁ Bd hml0 hP hK
  obtain ⟨rfl, hZ, hh⟩ := hP
  have hx := Bd.exec
  have hby := Bd.bytes
  have hml : c.maxLocals = 3 := hml0
  have hown : s.vm.findClass "com/example/whipstill/whipstill/MovingWindow" = some m.cls := findClass_of_methodNamed Bd.named
  have hnm := (name_of_methodNamed Bd.named Bd.method).1
  have X0 : Stand p l e ({ frames := 0, cells := 0, slots := 0, locals := 0 } : Room) s m #[(.ref a1), (.double v1)] below meth c s₁ [] 0 0 := Stand.of_body Bd
  have e0 : s₁.heap = h0 := by rw [← hh, Bd.state]; rfl
  have N0 := Fr.nil n0
  have pre0 : ∀ t, Steps p.tables e below (s₁.setTop (mkF m 0 #[.val (.ref a1), .val (.double v1), .second] [])) t → Steps p.tables e below (s₁.setTop (entryFrame m #[(.ref a1), (.double v1)] 3)) t := fun t k => castTop (ef_rmAdd3_0 m a1 v1) k
  obtain ⟨T1_, X1_, e1_, st1_⟩ := getF X0 hx hZ hown (host := "") (Or.inl (hw _ (List.mem_of_getElem? (i := 11) rfl))) Via.refl e0 F1 (g := (mkF m 1 #[.val (.ref a1), .val (.double v1), .second] [(.ref a1)])) rfl rfl (hb hby d4_1)
  obtain ⟨T2_, X2_, e2_, st2_⟩ := getF X1_ hx hZ hown (host := "") (Or.inl (hw _ (List.mem_of_getElem? (i := 22) rfl))) Via.refl e1_ F2 (g := (mkF m 5 #[.val (.ref a1), .val (.double v1), .second] [(.ref a1), (.ref t1)])) rfl rfl (hb hby d4_5)
  obtain ⟨cl3_, Ar3_, q3_, S3_, M3_, Hs3_, G3_⟩ := id V1
  have in3_ : ¬ ((0 : Int32) < 0 ∨ cl3_.slots.size ≤ ((0 : Int32)).toNatClampNeg) := inb_of S3_ ⟨by decide, by decide⟩
  obtain ⟨T3_, h3_, X3_, e3_, W3_, st3_⟩ := stD X2_ hx hZ e2_ Ar3_ (j := (0 : Int32)) in3_ (g := (mkF m 9 #[.val (.ref a1), .val (.double v1), .second] [(.double v1), (.int (0 : Int32)), (.ref t1)])) rfl rfl (hb hby d4_9)
  have v3_ : Arv Z h3_ t1 k1 .double (3 : Int32) [(.double v1), (.double x1), (.double x2)] (.double (0 : UInt64)) := Arv.set Ar3_ q3_ S3_ M3_ Hs3_ G3_ rfl W3_ 0 rfl (Nat.le_of_ble_eq_true rfl)
  have N3_ := Fr.snoc X3_ N0 g2
  have f4_ : Fld Z h3_ a1 "com/example/whipstill/whipstill/MovingWindow" "oldest" "I" (.int (0 : Int32)) := (F2.other W3_ (Or.inl (Exa.neArv E1 V1 (hw _ (List.mem_of_getElem? (i := 2) rfl)))))
  obtain ⟨T5_, X5_, e5_, st5_⟩ := getF X3_ hx hZ hown (host := "") (Or.inl (hw _ (List.mem_of_getElem? (i := 22) rfl))) Via.refl e3_ f4_ (g := (mkF m 12 #[.val (.ref a1), .val (.double v1), .second] [(.ref a1), (.ref a1)])) rfl rfl (hb hby d4_12)
  have f6_ : Fld Z h3_ a1 "com/example/whipstill/whipstill/MovingWindow" "values" "[D" (.ref t1) := (F1.other W3_ (Or.inl (Exa.neArv E1 V1 (hw _ (List.mem_of_getElem? (i := 2) rfl)))))
  obtain ⟨T7_, X7_, e7_, st7_⟩ := getF X5_ hx hZ hown (host := "") (Or.inl (hw _ (List.mem_of_getElem? (i := 11) rfl))) Via.refl e5_ f6_ (g := (mkF m 18 #[.val (.ref a1), .val (.double v1), .second] [(.ref a1), (.int (1 : Int32)), (.ref a1)])) rfl rfl (hb hby d4_18)
  obtain ⟨cl8_, Ar8_, q8_, S8_, M8_, Hs8_, G8_⟩ := id v3_
  have f9_ : Exa Z h3_ a1 "com/example/whipstill/whipstill/MovingWindow" := (E1.wr W3_)
  obtain ⟨T10_, h10_, X10_, e10_, W10_, st10_⟩ := putF X7_ hx hZ hown (host := "") (Or.inl (hw _ (List.mem_of_getElem? (i := 22) rfl))) Via.refl e7_ f4_ f9_ (Or.inl (hw _ (List.mem_of_getElem? (i := 23) rfl))) (hw _ (List.mem_of_getElem? (i := 2) rfl)) (ty := .int) (by decide) rfl rfl (g := (mkF m 23 #[.val (.ref a1), .val (.double v1), .second] [(.int (1 : Int32)), (.ref a1)])) rfl rfl (hb hby d4_23)
  have w10_ : Fld Z h10_ a1 "com/example/whipstill/whipstill/MovingWindow" "oldest" "I" (.int (1 : Int32)) := f4_.same W10_
  have N10_ := Fr.snoc X10_ N3_ g1
  have f11_ : Exa Z h10_ a1 "com/example/whipstill/whipstill/MovingWindow" := (f9_.wr W10_)
  have f12_ : Fld Z h10_ a1 "com/example/whipstill/whipstill/MovingWindow" "values" "[D" (.ref t1) := (f6_.other W10_ (Or.inr (slot_ne (Or.inr (hw _ (List.mem_of_getElem? (i := 12) rfl))) (Or.inl (hw _ (List.mem_of_getElem? (i := 23) rfl))) (by decide) (t := (.array .double)) (t' := .int) (by decide) (by decide))))
  have f13_ : Arv Z h10_ t1 k1 .double (3 : Int32) [(.double v1), (.double x1), (.double x2)] (.double (0 : UInt64)) := (v3_.other W10_ (Ne.symm (Exa.neArv f9_ v3_ (hw _ (List.mem_of_getElem? (i := 2) rfl)))))
  have k14_ : Keep h0 h3_ [a1, t1] := (Keep.refl h0 [a1, t1]).wr W3_ (Or.inl (List.mem_of_getElem? (i := 1) rfl))
  have k15_ : Keep h0 h10_ [a1, t1] := k14_.wr W10_ (Or.inl (List.mem_of_getElem? (i := 0) rfl))
  obtain ⟨fs, hr, hrun, hended, hW, hsame⟩ := X10_.leave (v := none) (fun h => by first | rfl | (rw [Bd.returns] at h; cases h))
  refine ⟨_, _, pre0 _ ?_, hrun, hended, _, _, rfl, ?_, ⟨_, rfl⟩, hW, hsame.mono (by decide) (by decide)⟩
  · show Steps p.tables e below (s₁.setTop (mkF m 0 #[.val (.ref a1), .val (.double v1), .second] [])) _
    refine XS.aloadN X0.here hx rfl (hb hby d4_0) rfl rfl ?_
    show Steps p.tables e below (s₁.setTop (mkF m 1 #[.val (.ref a1), .val (.double v1), .second] [(.ref a1)])) _
    refine st1_ _ ?_
    show Steps p.tables e below (T1_.setTop (mkF m 4 #[.val (.ref a1), .val (.double v1), .second] [(.ref t1)])) _
    refine XS.aloadN X1_.here hx rfl (hb hby d4_4) rfl rfl ?_
    show Steps p.tables e below (T1_.setTop (mkF m 5 #[.val (.ref a1), .val (.double v1), .second] [(.ref a1), (.ref t1)])) _
    refine st2_ _ ?_
    show Steps p.tables e below (T2_.setTop (mkF m 8 #[.val (.ref a1), .val (.double v1), .second] [(.int (0 : Int32)), (.ref t1)])) _
    refine XS.dloadN X2_.here hx rfl (hb hby d4_8) rfl ?_
    show Steps p.tables e below (T2_.setTop (mkF m 9 #[.val (.ref a1), .val (.double v1), .second] [(.double v1), (.int (0 : Int32)), (.ref t1)])) _
    refine st3_ _ ?_
    show Steps p.tables e below (T3_.setTop (mkF m 10 #[.val (.ref a1), .val (.double v1), .second] [])) _
    refine XS.aloadN X3_.here hx rfl (hb hby d4_10) rfl rfl ?_
    show Steps p.tables e below (T3_.setTop (mkF m 11 #[.val (.ref a1), .val (.double v1), .second] [(.ref a1)])) _
    refine XS.aloadN X3_.here hx rfl (hb hby d4_11) rfl rfl ?_
    show Steps p.tables e below (T3_.setTop (mkF m 12 #[.val (.ref a1), .val (.double v1), .second] [(.ref a1), (.ref a1)])) _
    refine st5_ _ ?_
    show Steps p.tables e below (T5_.setTop (mkF m 15 #[.val (.ref a1), .val (.double v1), .second] [(.int (0 : Int32)), (.ref a1)])) _
    refine XS.iconst X5_.here hx rfl (hb hby d4_15) ?_
    show Steps p.tables e below (T5_.setTop (mkF m 16 #[.val (.ref a1), .val (.double v1), .second] [(.int (1 : Int32)), (.int (0 : Int32)), (.ref a1)])) _
    refine XS.iadd X5_.here hx rfl (hb hby d4_16) rfl ?_
    show Steps p.tables e below (T5_.setTop (mkF m 17 #[.val (.ref a1), .val (.double v1), .second] [(.int (1 : Int32)), (.ref a1)])) _
    refine XS.aloadN X5_.here hx rfl (hb hby d4_17) rfl rfl ?_
    show Steps p.tables e below (T5_.setTop (mkF m 18 #[.val (.ref a1), .val (.double v1), .second] [(.ref a1), (.int (1 : Int32)), (.ref a1)])) _
    refine st7_ _ ?_
    show Steps p.tables e below (T7_.setTop (mkF m 21 #[.val (.ref a1), .val (.double v1), .second] [(.ref t1), (.int (1 : Int32)), (.ref a1)])) _
    refine X7_.arraylength hx (by rw [e7_]; exact Ar8_.1) (State.isArrayOf_alike (State.Warmed39.alike hZ) Ar8_.2.1) (g := (mkF m 21 #[.val (.ref a1), .val (.double v1), .second] [(.ref t1), (.int (1 : Int32)), (.ref a1)])) rfl rfl (hb hby d4_21) _ ?_
    rw [len_of S8_ M8_]
    show Steps p.tables e below (T7_.setTop (mkF m 22 #[.val (.ref a1), .val (.double v1), .second] [(.int (3 : Int32)), (.int (1 : Int32)), (.ref a1)])) _
    refine XS.irem X7_.here hx rfl (hb hby d4_22) rfl (by decide) ?_
    show Steps p.tables e below (T7_.setTop (mkF m 23 #[.val (.ref a1), .val (.double v1), .second] [(.int (1 : Int32)), (.ref a1)])) _
    refine st10_ _ ?_
    show Steps p.tables e below (T10_.setTop (mkF m 26 #[.val (.ref a1), .val (.double v1), .second] [])) _
    exact X10_.returnOut hx Bd.returns (hb hby d4_26) hr
  · show Q_rmAdd3_0 Z a1 v1 t1 k1 x0 x1 x2 h0 n0 _ T10_.heap _
    rw [e10_]
    exact ⟨rfl, N10_, k15_, f11_, f12_, w10_, f13_⟩
theorem ef_rmAdd3_1 (m : MethodId) (x0 : Addr) (x1 : UInt64) : entryFrame m #[(.ref x0), (.double x1)] 3 = mkF m 0 #[.val (.ref x0), .val (.double x1), .second] [] := by first | (simp [entryFrame, mkF, argsToLocals, Value.category]; done) | rfl
def Q_rmAdd3_1 (Z : State) (a1 : Addr) (v1 : UInt64) (t1 : Addr) (k1 : ClassId) (x0 : UInt64) (x1 : UInt64) (x2 : UInt64) (h0 : Heap) (n0 : Nat) (v : Option Value) (h : Heap) (L : List Loc) : Prop := v = none ∧ Fr n0 L ∧ Keep h0 h [a1, t1] ∧ (Exa Z h a1 "com/example/whipstill/whipstill/MovingWindow") ∧ (Fld Z h a1 "com/example/whipstill/whipstill/MovingWindow" "values" "[D" (.ref t1)) ∧ (Fld Z h a1 "com/example/whipstill/whipstill/MovingWindow" "oldest" "I" (.int (2 : Int32))) ∧ (Arv Z h t1 k1 .double (3 : Int32) [(.double x0), (.double v1), (.double x2)] (.double (0 : UInt64)))
set_option maxRecDepth 65536 in
set_option maxHeartbeats 40000000 in
theorem rmAdd3_1 (l : Launch) (Z : State) (a0 : Array Value) (hw : ∀ d ∈ tables_1, d.before a0 Z = true) (ws : List Jvm.Cond) (a1 : Addr) (v1 : UInt64) (t1 : Addr) (k1 : ClassId) (x0 : UInt64) (x1 : UInt64) (x2 : UInt64) (h0 : Heap) (n0 : Nat) (Z0 : n0 ≤ h0.size) (E1 : Exa Z h0 a1 "com/example/whipstill/whipstill/MovingWindow") (F1 : Fld Z h0 a1 "com/example/whipstill/whipstill/MovingWindow" "values" "[D" (.ref t1)) (F2 : Fld Z h0 a1 "com/example/whipstill/whipstill/MovingWindow" "oldest" "I" (.int (1 : Int32))) (V1 : Arv Z h0 t1 k1 .double (3 : Int32) [(.double x0), (.double x1), (.double x2)] (.double (0 : UInt64))) (g1 : n0 ≤ a1) (g2 : n0 ≤ t1) :
    MetFree l (⟨"com/example/whipstill/whipstill/MovingWindow", "add", "(D)V"⟩ : MethodName) (head1 (Jvm.Cond.code (⟨"com/example/whipstill/whipstill/MovingWindow", "add", "(D)V"⟩ : MethodName) prog_11_method_2_code 3 none :: ws) ({ frames := 0, cells := 0, slots := 0, locals := 0 } : Room)) (fun a U => a = #[(.ref a1), (.double v1)] ∧ Z.Warmed39 U.vm ∧ U.heap = h0) (fun _ _ _ _ _ => True) (fun _ U o U' => ∃ v L, o = .returned v ∧ Q_rmAdd3_1 Z a1 v1 t1 k1 x0 x1 x2 h0 n0 v U'.heap L ∧ FrameEnd U o U' L ({ frames := 0, cells := 0, slots := 0, locals := 0 } : Room).cells ({ frames := 0, cells := 0, slots := 0, locals := 0 } : Room).slots) := by
  refine MetFree.of_bodySF (plainFor_of_name pn_com_example_whipstill_whipstill_MovingWindow) hisR ?_
  intro p e s m args below meth c s₁ Bd hml0 hP hK
  obtain ⟨rfl, hZ, hh⟩ := hP
  have hx := Bd.exec
  have hby := Bd.bytes
  have hml : c.maxLocals = 3 := hml0
  have hown : s.vm.findClass "com/example/whipstill/whipstill/MovingWindow" = some m.cls := findClass_of_methodNamed Bd.named
  have hnm := (name_of_methodNamed Bd.named Bd.method).1
  have X0 : Stand p l e ({ frames := 0, cells := 0, slots := 0, locals := 0 } : Room) s m #[(.ref a1), (.double v1)] below meth c s₁ [] 0 0 := Stand.of_body Bd
  have e0 : s₁.heap = h0 := by rw [← hh, Bd.state]; rfl
  have N0 := Fr.nil n0
  have pre0 : ∀ t, Steps p.tables e below (s₁.setTop (mkF m 0 #[.val (.ref a1), .val (.double v1), .second] [])) t → Steps p.tables e below (s₁.setTop (entryFrame m #[(.ref a1), (.double v1)] 3)) t := fun t k => castTop (ef_rmAdd3_1 m a1 v1) k
  obtain ⟨T1_, X1_, e1_, st1_⟩ := getF X0 hx hZ hown (host := "") (Or.inl (hw _ (List.mem_of_getElem? (i := 11) rfl))) Via.refl e0 F1 (g := (mkF m 1 #[.val (.ref a1), .val (.double v1), .second] [(.ref a1)])) rfl rfl (hb hby d4_1)
  obtain ⟨T2_, X2_, e2_, st2_⟩ := getF X1_ hx hZ hown (host := "") (Or.inl (hw _ (List.mem_of_getElem? (i := 22) rfl))) Via.refl e1_ F2 (g := (mkF m 5 #[.val (.ref a1), .val (.double v1), .second] [(.ref a1), (.ref t1)])) rfl rfl (hb hby d4_5)
  obtain ⟨cl3_, Ar3_, q3_, S3_, M3_, Hs3_, G3_⟩ := id V1
  have in3_ : ¬ ((1 : Int32) < 0 ∨ cl3_.slots.size ≤ ((1 : Int32)).toNatClampNeg) := inb_of S3_ ⟨by decide, by decide⟩
  obtain ⟨T3_, h3_, X3_, e3_, W3_, st3_⟩ := stD X2_ hx hZ e2_ Ar3_ (j := (1 : Int32)) in3_ (g := (mkF m 9 #[.val (.ref a1), .val (.double v1), .second] [(.double v1), (.int (1 : Int32)), (.ref t1)])) rfl rfl (hb hby d4_9)
  have v3_ : Arv Z h3_ t1 k1 .double (3 : Int32) [(.double x0), (.double v1), (.double x2)] (.double (0 : UInt64)) := Arv.set Ar3_ q3_ S3_ M3_ Hs3_ G3_ rfl W3_ 1 rfl (Nat.le_of_ble_eq_true rfl)
  have N3_ := Fr.snoc X3_ N0 g2
  have f4_ : Fld Z h3_ a1 "com/example/whipstill/whipstill/MovingWindow" "oldest" "I" (.int (1 : Int32)) := (F2.other W3_ (Or.inl (Exa.neArv E1 V1 (hw _ (List.mem_of_getElem? (i := 2) rfl)))))
  obtain ⟨T5_, X5_, e5_, st5_⟩ := getF X3_ hx hZ hown (host := "") (Or.inl (hw _ (List.mem_of_getElem? (i := 22) rfl))) Via.refl e3_ f4_ (g := (mkF m 12 #[.val (.ref a1), .val (.double v1), .second] [(.ref a1), (.ref a1)])) rfl rfl (hb hby d4_12)
  have f6_ : Fld Z h3_ a1 "com/example/whipstill/whipstill/MovingWindow" "values" "[D" (.ref t1) := (F1.other W3_ (Or.inl (Exa.neArv E1 V1 (hw _ (List.mem_of_getElem? (i := 2) rfl)))))
  obtain ⟨T7_, X7_, e7_, st7_⟩ := getF X5_ hx hZ hown (host := "") (Or.inl (hw _ (List.mem_of_getElem? (i := 11) rfl))) Via.refl e5_ f6_ (g := (mkF m 18 #[.val (.ref a1), .val (.double v1), .second] [(.ref a1), (.int (2 : Int32)), (.ref a1)])) rfl rfl (hb hby d4_18)
  obtain ⟨cl8_, Ar8_, q8_, S8_, M8_, Hs8_, G8_⟩ := id v3_
  have f9_ : Exa Z h3_ a1 "com/example/whipstill/whipstill/MovingWindow" := (E1.wr W3_)
  obtain ⟨T10_, h10_, X10_, e10_, W10_, st10_⟩ := putF X7_ hx hZ hown (host := "") (Or.inl (hw _ (List.mem_of_getElem? (i := 22) rfl))) Via.refl e7_ f4_ f9_ (Or.inl (hw _ (List.mem_of_getElem? (i := 23) rfl))) (hw _ (List.mem_of_getElem? (i := 2) rfl)) (ty := .int) (by decide) rfl rfl (g := (mkF m 23 #[.val (.ref a1), .val (.double v1), .second] [(.int (2 : Int32)), (.ref a1)])) rfl rfl (hb hby d4_23)
  have w10_ : Fld Z h10_ a1 "com/example/whipstill/whipstill/MovingWindow" "oldest" "I" (.int (2 : Int32)) := f4_.same W10_
  have N10_ := Fr.snoc X10_ N3_ g1
  have f11_ : Exa Z h10_ a1 "com/example/whipstill/whipstill/MovingWindow" := (f9_.wr W10_)
  have f12_ : Fld Z h10_ a1 "com/example/whipstill/whipstill/MovingWindow" "values" "[D" (.ref t1) := (f6_.other W10_ (Or.inr (slot_ne (Or.inr (hw _ (List.mem_of_getElem? (i := 12) rfl))) (Or.inl (hw _ (List.mem_of_getElem? (i := 23) rfl))) (by decide) (t := (.array .double)) (t' := .int) (by decide) (by decide))))
  have f13_ : Arv Z h10_ t1 k1 .double (3 : Int32) [(.double x0), (.double v1), (.double x2)] (.double (0 : UInt64)) := (v3_.other W10_ (Ne.symm (Exa.neArv f9_ v3_ (hw _ (List.mem_of_getElem? (i := 2) rfl)))))
  have k14_ : Keep h0 h3_ [a1, t1] := (Keep.refl h0 [a1, t1]).wr W3_ (Or.inl (List.mem_of_getElem? (i := 1) rfl))
  have k15_ : Keep h0 h10_ [a1, t1] := k14_.wr W10_ (Or.inl (List.mem_of_getElem? (i := 0) rfl))
  obtain ⟨fs, hr, hrun, hended, hW, hsame⟩ := X10_.leave (v := none) (fun h => by first | rfl | (rw [Bd.returns] at h; cases h))
  refine ⟨_, _, pre0 _ ?_, hrun, hended, _, _, rfl, ?_, ⟨_, rfl⟩, hW, hsame.mono (by decide) (by decide)⟩
  · show Steps p.tables e below (s₁.setTop (mkF m 0 #[.val (.ref a1), .val (.double v1), .second] [])) _
    refine XS.aloadN X0.here hx rfl (hb hby d4_0) rfl rfl ?_
    show Steps p.tables e below (s₁.setTop (mkF m 1 #[.val (.ref a1), .val (.double v1), .second] [(.ref a1)])) _
    refine st1_ _ ?_
    show Steps p.tables e below (T1_.setTop (mkF m 4 #[.val (.ref a1), .val (.double v1), .second] [(.ref t1)])) _
    refine XS.aloadN X1_.here hx rfl (hb hby d4_4) rfl rfl ?_
    show Steps p.tables e below (T1_.setTop (mkF m 5 #[.val (.ref a1), .val (.double v1), .second] [(.ref a1), (.ref t1)])) _
    refine st2_ _ ?_
    show Steps p.tables e below (T2_.setTop (mkF m 8 #[.val (.ref a1), .val (.double v1), .second] [(.int (1 : Int32)), (.ref t1)])) _
    refine XS.dloadN X2_.here hx rfl (hb hby d4_8) rfl ?_
    show Steps p.tables e below (T2_.setTop (mkF m 9 #[.val (.ref a1), .val (.double v1), .second] [(.double v1), (.int (1 : Int32)), (.ref t1)])) _
    refine st3_ _ ?_
    show Steps p.tables e below (T3_.setTop (mkF m 10 #[.val (.ref a1), .val (.double v1), .second] [])) _
    refine XS.aloadN X3_.here hx rfl (hb hby d4_10) rfl rfl ?_
    show Steps p.tables e below (T3_.setTop (mkF m 11 #[.val (.ref a1), .val (.double v1), .second] [(.ref a1)])) _
    refine XS.aloadN X3_.here hx rfl (hb hby d4_11) rfl rfl ?_
    show Steps p.tables e below (T3_.setTop (mkF m 12 #[.val (.ref a1), .val (.double v1), .second] [(.ref a1), (.ref a1)])) _
    refine st5_ _ ?_
    show Steps p.tables e below (T5_.setTop (mkF m 15 #[.val (.ref a1), .val (.double v1), .second] [(.int (1 : Int32)), (.ref a1)])) _
    refine XS.iconst X5_.here hx rfl (hb hby d4_15) ?_
    show Steps p.tables e below (T5_.setTop (mkF m 16 #[.val (.ref a1), .val (.double v1), .second] [(.int (1 : Int32)), (.int (1 : Int32)), (.ref a1)])) _
    refine XS.iadd X5_.here hx rfl (hb hby d4_16) rfl ?_
    show Steps p.tables e below (T5_.setTop (mkF m 17 #[.val (.ref a1), .val (.double v1), .second] [(.int (2 : Int32)), (.ref a1)])) _
    refine XS.aloadN X5_.here hx rfl (hb hby d4_17) rfl rfl ?_
    show Steps p.tables e below (T5_.setTop (mkF m 18 #[.val (.ref a1), .val (.double v1), .second] [(.ref a1), (.int (2 : Int32)), (.ref a1)])) _
    refine st7_ _ ?_
    show Steps p.tables e below (T7_.setTop (mkF m 21 #[.val (.ref a1), .val (.double v1), .second] [(.ref t1), (.int (2 : Int32)), (.ref a1)])) _
    refine X7_.arraylength hx (by rw [e7_]; exact Ar8_.1) (State.isArrayOf_alike (State.Warmed39.alike hZ) Ar8_.2.1) (g := (mkF m 21 #[.val (.ref a1), .val (.double v1), .second] [(.ref t1), (.int (2 : Int32)), (.ref a1)])) rfl rfl (hb hby d4_21) _ ?_
    rw [len_of S8_ M8_]
    show Steps p.tables e below (T7_.setTop (mkF m 22 #[.val (.ref a1), .val (.double v1), .second] [(.int (3 : Int32)), (.int (2 : Int32)), (.ref a1)])) _
    refine XS.irem X7_.here hx rfl (hb hby d4_22) rfl (by decide) ?_
    show Steps p.tables e below (T7_.setTop (mkF m 23 #[.val (.ref a1), .val (.double v1), .second] [(.int (2 : Int32)), (.ref a1)])) _
    refine st10_ _ ?_
    show Steps p.tables e below (T10_.setTop (mkF m 26 #[.val (.ref a1), .val (.double v1), .second] [])) _
    exact X10_.returnOut hx Bd.returns (hb hby d4_26) hr
  · show Q_rmAdd3_1 Z a1 v1 t1 k1 x0 x1 x2 h0 n0 _ T10_.heap _
    rw [e10_]
    exact ⟨rfl, N10_, k15_, f11_, f12_, w10_, f13_⟩
theorem ef_rmAdd3_2 (m : MethodId) (x0 : Addr) (x1 : UInt64) : entryFrame m #[(.ref x0), (.double x1)] 3 = mkF m 0 #[.val (.ref x0), .val (.double x1), .second] [] := by first | (simp [entryFrame, mkF, argsToLocals, Value.category]; done) | rfl
def Q_rmAdd3_2 (Z : State) (a1 : Addr) (v1 : UInt64) (t1 : Addr) (k1 : ClassId) (x0 : UInt64) (x1 : UInt64) (x2 : UInt64) (h0 : Heap) (n0 : Nat) (v : Option Value) (h : Heap) (L : List Loc) : Prop := v = none ∧ Fr n0 L ∧ Keep h0 h [a1, t1] ∧ (Exa Z h a1 "com/example/whipstill/whipstill/MovingWindow") ∧ (Fld Z h a1 "com/example/whipstill/whipstill/MovingWindow" "values" "[D" (.ref t1)) ∧ (Fld Z h a1 "com/example/whipstill/whipstill/MovingWindow" "oldest" "I" (.int (0 : Int32))) ∧ (Arv Z h t1 k1 .double (3 : Int32) [(.double x0), (.double x1), (.double v1)] (.double (0 : UInt64)))
set_option maxRecDepth 65536 in
set_option maxHeartbeats 40000000 in
theorem rmAdd3_2 (l : Launch) (Z : State) (a0 : Array Value) (hw : ∀ d ∈ tables_1, d.before a0 Z = true) (ws : List Jvm.Cond) (a1 : Addr) (v1 : UInt64) (t1 : Addr) (k1 : ClassId) (x0 : UInt64) (x1 : UInt64) (x2 : UInt64) (h0 : Heap) (n0 : Nat) (Z0 : n0 ≤ h0.size) (E1 : Exa Z h0 a1 "com/example/whipstill/whipstill/MovingWindow") (F1 : Fld Z h0 a1 "com/example/whipstill/whipstill/MovingWindow" "values" "[D" (.ref t1)) (F2 : Fld Z h0 a1 "com/example/whipstill/whipstill/MovingWindow" "oldest" "I" (.int (2 : Int32))) (V1 : Arv Z h0 t1 k1 .double (3 : Int32) [(.double x0), (.double x1), (.double x2)] (.double (0 : UInt64))) (g1 : n0 ≤ a1) (g2 : n0 ≤ t1) :
    MetFree l (⟨"com/example/whipstill/whipstill/MovingWindow", "add", "(D)V"⟩ : MethodName) (head1 (Jvm.Cond.code (⟨"com/example/whipstill/whipstill/MovingWindow", "add", "(D)V"⟩ : MethodName) prog_11_method_2_code 3 none :: ws) ({ frames := 0, cells := 0, slots := 0, locals := 0 } : Room)) (fun a U => a = #[(.ref a1), (.double v1)] ∧ Z.Warmed39 U.vm ∧ U.heap = h0) (fun _ _ _ _ _ => True) (fun _ U o U' => ∃ v L, o = .returned v ∧ Q_rmAdd3_2 Z a1 v1 t1 k1 x0 x1 x2 h0 n0 v U'.heap L ∧ FrameEnd U o U' L ({ frames := 0, cells := 0, slots := 0, locals := 0 } : Room).cells ({ frames := 0, cells := 0, slots := 0, locals := 0 } : Room).slots) := by
  refine MetFree.of_bodySF (plainFor_of_name pn_com_example_whipstill_whipstill_MovingWindow) hisR ?_
  intro p e s m args below meth c s₁ Bd hml0 hP hK
  obtain ⟨rfl, hZ, hh⟩ := hP
  have hx := Bd.exec
  have hby := Bd.bytes
  have hml : c.maxLocals = 3 := hml0
  have hown : s.vm.findClass "com/example/whipstill/whipstill/MovingWindow" = some m.cls := findClass_of_methodNamed Bd.named
  have hnm := (name_of_methodNamed Bd.named Bd.method).1
  have X0 : Stand p l e ({ frames := 0, cells := 0, slots := 0, locals := 0 } : Room) s m #[(.ref a1), (.double v1)] below meth c s₁ [] 0 0 := Stand.of_body Bd
  have e0 : s₁.heap = h0 := by rw [← hh, Bd.state]; rfl
  have N0 := Fr.nil n0
  have pre0 : ∀ t, Steps p.tables e below (s₁.setTop (mkF m 0 #[.val (.ref a1), .val (.double v1), .second] [])) t → Steps p.tables e below (s₁.setTop (entryFrame m #[(.ref a1), (.double v1)] 3)) t := fun t k => castTop (ef_rmAdd3_2 m a1 v1) k
  obtain ⟨T1_, X1_, e1_, st1_⟩ := getF X0 hx hZ hown (host := "") (Or.inl (hw _ (List.mem_of_getElem? (i := 11) rfl))) Via.refl e0 F1 (g := (mkF m 1 #[.val (.ref a1), .val (.double v1), .second] [(.ref a1)])) rfl rfl (hb hby d4_1)
  obtain ⟨T2_, X2_, e2_, st2_⟩ := getF X1_ hx hZ hown (host := "") (Or.inl (hw _ (List.mem_of_getElem? (i := 22) rfl))) Via.refl e1_ F2 (g := (mkF m 5 #[.val (.ref a1), .val (.double v1), .second] [(.ref a1), (.ref t1)])) rfl rfl (hb hby d4_5)
  obtain ⟨cl3_, Ar3_, q3_, S3_, M3_, Hs3_, G3_⟩ := id V1
  have in3_ : ¬ ((2 : Int32) < 0 ∨ cl3_.slots.size ≤ ((2 : Int32)).toNatClampNeg) := inb_of S3_ ⟨by decide, by decide⟩
  obtain ⟨T3_, h3_, X3_, e3_, W3_, st3_⟩ := stD X2_ hx hZ e2_ Ar3_ (j := (2 : Int32)) in3_ (g := (mkF m 9 #[.val (.ref a1), .val (.double v1), .second] [(.double v1), (.int (2 : Int32)), (.ref t1)])) rfl rfl (hb hby d4_9)
  have v3_ : Arv Z h3_ t1 k1 .double (3 : Int32) [(.double x0), (.double x1), (.double v1)] (.double (0 : UInt64)) := Arv.set Ar3_ q3_ S3_ M3_ Hs3_ G3_ rfl W3_ 2 rfl (Nat.le_of_ble_eq_true rfl)
  have N3_ := Fr.snoc X3_ N0 g2
  have f4_ : Fld Z h3_ a1 "com/example/whipstill/whipstill/MovingWindow" "oldest" "I" (.int (2 : Int32)) := (F2.other W3_ (Or.inl (Exa.neArv E1 V1 (hw _ (List.mem_of_getElem? (i := 2) rfl)))))
  obtain ⟨T5_, X5_, e5_, st5_⟩ := getF X3_ hx hZ hown (host := "") (Or.inl (hw _ (List.mem_of_getElem? (i := 22) rfl))) Via.refl e3_ f4_ (g := (mkF m 12 #[.val (.ref a1), .val (.double v1), .second] [(.ref a1), (.ref a1)])) rfl rfl (hb hby d4_12)
  have f6_ : Fld Z h3_ a1 "com/example/whipstill/whipstill/MovingWindow" "values" "[D" (.ref t1) := (F1.other W3_ (Or.inl (Exa.neArv E1 V1 (hw _ (List.mem_of_getElem? (i := 2) rfl)))))
  obtain ⟨T7_, X7_, e7_, st7_⟩ := getF X5_ hx hZ hown (host := "") (Or.inl (hw _ (List.mem_of_getElem? (i := 11) rfl))) Via.refl e5_ f6_ (g := (mkF m 18 #[.val (.ref a1), .val (.double v1), .second] [(.ref a1), (.int (3 : Int32)), (.ref a1)])) rfl rfl (hb hby d4_18)
  obtain ⟨cl8_, Ar8_, q8_, S8_, M8_, Hs8_, G8_⟩ := id v3_
  have f9_ : Exa Z h3_ a1 "com/example/whipstill/whipstill/MovingWindow" := (E1.wr W3_)
  obtain ⟨T10_, h10_, X10_, e10_, W10_, st10_⟩ := putF X7_ hx hZ hown (host := "") (Or.inl (hw _ (List.mem_of_getElem? (i := 22) rfl))) Via.refl e7_ f4_ f9_ (Or.inl (hw _ (List.mem_of_getElem? (i := 23) rfl))) (hw _ (List.mem_of_getElem? (i := 2) rfl)) (ty := .int) (by decide) rfl rfl (g := (mkF m 23 #[.val (.ref a1), .val (.double v1), .second] [(.int (0 : Int32)), (.ref a1)])) rfl rfl (hb hby d4_23)
  have w10_ : Fld Z h10_ a1 "com/example/whipstill/whipstill/MovingWindow" "oldest" "I" (.int (0 : Int32)) := f4_.same W10_
  have N10_ := Fr.snoc X10_ N3_ g1
  have f11_ : Exa Z h10_ a1 "com/example/whipstill/whipstill/MovingWindow" := (f9_.wr W10_)
  have f12_ : Fld Z h10_ a1 "com/example/whipstill/whipstill/MovingWindow" "values" "[D" (.ref t1) := (f6_.other W10_ (Or.inr (slot_ne (Or.inr (hw _ (List.mem_of_getElem? (i := 12) rfl))) (Or.inl (hw _ (List.mem_of_getElem? (i := 23) rfl))) (by decide) (t := (.array .double)) (t' := .int) (by decide) (by decide))))
  have f13_ : Arv Z h10_ t1 k1 .double (3 : Int32) [(.double x0), (.double x1), (.double v1)] (.double (0 : UInt64)) := (v3_.other W10_ (Ne.symm (Exa.neArv f9_ v3_ (hw _ (List.mem_of_getElem? (i := 2) rfl)))))
  have k14_ : Keep h0 h3_ [a1, t1] := (Keep.refl h0 [a1, t1]).wr W3_ (Or.inl (List.mem_of_getElem? (i := 1) rfl))
  have k15_ : Keep h0 h10_ [a1, t1] := k14_.wr W10_ (Or.inl (List.mem_of_getElem? (i := 0) rfl))
  obtain ⟨fs, hr, hrun, hended, hW, hsame⟩ := X10_.leave (v := none) (fun h => by first | rfl | (rw [Bd.returns] at h; cases h))
  refine ⟨_, _, pre0 _ ?_, hrun, hended, _, _, rfl, ?_, ⟨_, rfl⟩, hW, hsame.mono (by decide) (by decide)⟩
  · show Steps p.tables e below (s₁.setTop (mkF m 0 #[.val (.ref a1), .val (.double v1), .second] [])) _
    refine XS.aloadN X0.here hx rfl (hb hby d4_0) rfl rfl ?_
    show Steps p.tables e below (s₁.setTop (mkF m 1 #[.val (.ref a1), .val (.double v1), .second] [(.ref a1)])) _
    refine st1_ _ ?_
    show Steps p.tables e below (T1_.setTop (mkF m 4 #[.val (.ref a1), .val (.double v1), .second] [(.ref t1)])) _
    refine XS.aloadN X1_.here hx rfl (hb hby d4_4) rfl rfl ?_
    show Steps p.tables e below (T1_.setTop (mkF m 5 #[.val (.ref a1), .val (.double v1), .second] [(.ref a1), (.ref t1)])) _
    refine st2_ _ ?_
    show Steps p.tables e below (T2_.setTop (mkF m 8 #[.val (.ref a1), .val (.double v1), .second] [(.int (2 : Int32)), (.ref t1)])) _
    refine XS.dloadN X2_.here hx rfl (hb hby d4_8) rfl ?_
    show Steps p.tables e below (T2_.setTop (mkF m 9 #[.val (.ref a1), .val (.double v1), .second] [(.double v1), (.int (2 : Int32)), (.ref t1)])) _
    refine st3_ _ ?_
    show Steps p.tables e below (T3_.setTop (mkF m 10 #[.val (.ref a1), .val (.double v1), .second] [])) _
    refine XS.aloadN X3_.here hx rfl (hb hby d4_10) rfl rfl ?_
    show Steps p.tables e below (T3_.setTop (mkF m 11 #[.val (.ref a1), .val (.double v1), .second] [(.ref a1)])) _
    refine XS.aloadN X3_.here hx rfl (hb hby d4_11) rfl rfl ?_
    show Steps p.tables e below (T3_.setTop (mkF m 12 #[.val (.ref a1), .val (.double v1), .second] [(.ref a1), (.ref a1)])) _
    refine st5_ _ ?_
    show Steps p.tables e below (T5_.setTop (mkF m 15 #[.val (.ref a1), .val (.double v1), .second] [(.int (2 : Int32)), (.ref a1)])) _
    refine XS.iconst X5_.here hx rfl (hb hby d4_15) ?_
    show Steps p.tables e below (T5_.setTop (mkF m 16 #[.val (.ref a1), .val (.double v1), .second] [(.int (1 : Int32)), (.int (2 : Int32)), (.ref a1)])) _
    refine XS.iadd X5_.here hx rfl (hb hby d4_16) rfl ?_
    show Steps p.tables e below (T5_.setTop (mkF m 17 #[.val (.ref a1), .val (.double v1), .second] [(.int (3 : Int32)), (.ref a1)])) _
    refine XS.aloadN X5_.here hx rfl (hb hby d4_17) rfl rfl ?_
    show Steps p.tables e below (T5_.setTop (mkF m 18 #[.val (.ref a1), .val (.double v1), .second] [(.ref a1), (.int (3 : Int32)), (.ref a1)])) _
    refine st7_ _ ?_
    show Steps p.tables e below (T7_.setTop (mkF m 21 #[.val (.ref a1), .val (.double v1), .second] [(.ref t1), (.int (3 : Int32)), (.ref a1)])) _
    refine X7_.arraylength hx (by rw [e7_]; exact Ar8_.1) (State.isArrayOf_alike (State.Warmed39.alike hZ) Ar8_.2.1) (g := (mkF m 21 #[.val (.ref a1), .val (.double v1), .second] [(.ref t1), (.int (3 : Int32)), (.ref a1)])) rfl rfl (hb hby d4_21) _ ?_
    rw [len_of S8_ M8_]
    show Steps p.tables e below (T7_.setTop (mkF m 22 #[.val (.ref a1), .val (.double v1), .second] [(.int (3 : Int32)), (.int (3 : Int32)), (.ref a1)])) _
    refine XS.irem X7_.here hx rfl (hb hby d4_22) rfl (by decide) ?_
    show Steps p.tables e below (T7_.setTop (mkF m 23 #[.val (.ref a1), .val (.double v1), .second] [(.int (0 : Int32)), (.ref a1)])) _
    refine st10_ _ ?_
    show Steps p.tables e below (T10_.setTop (mkF m 26 #[.val (.ref a1), .val (.double v1), .second] [])) _
    exact X10_.returnOut hx Bd.returns (hb hby d4_26) hr
  · show Q_rmAdd3_2 Z a1 v1 t1 k1 x0 x1 x2 h0 n0 _ T10_.heap _
    rw [e10_]
    exact ⟨rfl, N10_, k15_, f11_, f12_, w10_, f13_⟩
theorem ef_rmAdd4_0 (m : MethodId) (x0 : Addr) (x1 : UInt64) : entryFrame m #[(.ref x0), (.double x1)] 3 = mkF m 0 #[.val (.ref x0), .val (.double x1), .second] [] := by first | (simp [entryFrame, mkF, argsToLocals, Value.category]; done) | rfl
def Q_rmAdd4_0 (Z : State) (a1 : Addr) (v1 : UInt64) (t1 : Addr) (k1 : ClassId) (x0 : UInt64) (x1 : UInt64) (x2 : UInt64) (x3 : UInt64) (h0 : Heap) (n0 : Nat) (v : Option Value) (h : Heap) (L : List Loc) : Prop := v = none ∧ Fr n0 L ∧ Keep h0 h [a1, t1] ∧ (Exa Z h a1 "com/example/whipstill/whipstill/MovingWindow") ∧ (Fld Z h a1 "com/example/whipstill/whipstill/MovingWindow" "values" "[D" (.ref t1)) ∧ (Fld Z h a1 "com/example/whipstill/whipstill/MovingWindow" "oldest" "I" (.int (1 : Int32))) ∧ (Arv Z h t1 k1 .double (4 : Int32) [(.double v1), (.double x1), (.double x2), (.double x3)] (.double (0 : UInt64)))
set_option maxRecDepth 65536 in
set_option maxHeartbeats 40000000 in
theorem rmAdd4_0 (l : Launch) (Z : State) (a0 : Array Value) (hw : ∀ d ∈ tables_1, d.before a0 Z = true) (ws : List Jvm.Cond) (a1 : Addr) (v1 : UInt64) (t1 : Addr) (k1 : ClassId) (x0 : UInt64) (x1 : UInt64) (x2 : UInt64) (x3 : UInt64) (h0 : Heap) (n0 : Nat) (Z0 : n0 ≤ h0.size) (E1 : Exa Z h0 a1 "com/example/whipstill/whipstill/MovingWindow") (F1 : Fld Z h0 a1 "com/example/whipstill/whipstill/MovingWindow" "values" "[D" (.ref t1)) (F2 : Fld Z h0 a1 "com/example/whipstill/whipstill/MovingWindow" "oldest" "I" (.int (0 : Int32))) (V1 : Arv Z h0 t1 k1 .double (4 : Int32) [(.double x0), (.double x1), (.double x2), (.double x3)] (.double (0 : UInt64))) (g1 : n0 ≤ a1) (g2 : n0 ≤ t1) :
    MetFree l (⟨"com/example/whipstill/whipstill/MovingWindow", "add", "(D)V"⟩ : MethodName) (head1 (Jvm.Cond.code (⟨"com/example/whipstill/whipstill/MovingWindow", "add", "(D)V"⟩ : MethodName) prog_11_method_2_code 3 none :: ws) ({ frames := 0, cells := 0, slots := 0, locals := 0 } : Room)) (fun a U => a = #[(.ref a1), (.double v1)] ∧ Z.Warmed39 U.vm ∧ U.heap = h0) (fun _ _ _ _ _ => True) (fun _ U o U' => ∃ v L, o = .returned v ∧ Q_rmAdd4_0 Z a1 v1 t1 k1 x0 x1 x2 x3 h0 n0 v U'.heap L ∧ FrameEnd U o U' L ({ frames := 0, cells := 0, slots := 0, locals := 0 } : Room).cells ({ frames := 0, cells := 0, slots := 0, locals := 0 } : Room).slots) := by
  refine MetFree.of_bodySF (plainFor_of_name pn_com_example_whipstill_whipstill_MovingWindow) hisR ?_
  intro p e s m args below meth c s₁ Bd hml0 hP hK
  obtain ⟨rfl, hZ, hh⟩ := hP
  have hx := Bd.exec
  have hby := Bd.bytes
  have hml : c.maxLocals = 3 := hml0
  have hown : s.vm.findClass "com/example/whipstill/whipstill/MovingWindow" = some m.cls := findClass_of_methodNamed Bd.named
  have hnm := (name_of_methodNamed Bd.named Bd.method).1
  have X0 : Stand p l e ({ frames := 0, cells := 0, slots := 0, locals := 0 } : Room) s m #[(.ref a1), (.double v1)] below meth c s₁ [] 0 0 := Stand.of_body Bd
  have e0 : s₁.heap = h0 := by rw [← hh, Bd.state]; rfl
  have N0 := Fr.nil n0
  have pre0 : ∀ t, Steps p.tables e below (s₁.setTop (mkF m 0 #[.val (.ref a1), .val (.double v1), .second] [])) t → Steps p.tables e below (s₁.setTop (entryFrame m #[(.ref a1), (.double v1)] 3)) t := fun t k => castTop (ef_rmAdd4_0 m a1 v1) k
  obtain ⟨T1_, X1_, e1_, st1_⟩ := getF X0 hx hZ hown (host := "") (Or.inl (hw _ (List.mem_of_getElem? (i := 11) rfl))) Via.refl e0 F1 (g := (mkF m 1 #[.val (.ref a1), .val (.double v1), .second] [(.ref a1)])) rfl rfl (hb hby d4_1)
  obtain ⟨T2_, X2_, e2_, st2_⟩ := getF X1_ hx hZ hown (host := "") (Or.inl (hw _ (List.mem_of_getElem? (i := 22) rfl))) Via.refl e1_ F2 (g := (mkF m 5 #[.val (.ref a1), .val (.double v1), .second] [(.ref a1), (.ref t1)])) rfl rfl (hb hby d4_5)
  obtain ⟨cl3_, Ar3_, q3_, S3_, M3_, Hs3_, G3_⟩ := id V1
  have in3_ : ¬ ((0 : Int32) < 0 ∨ cl3_.slots.size ≤ ((0 : Int32)).toNatClampNeg) := inb_of S3_ ⟨by decide, by decide⟩
  obtain ⟨T3_, h3_, X3_, e3_, W3_, st3_⟩ := stD X2_ hx hZ e2_ Ar3_ (j := (0 : Int32)) in3_ (g := (mkF m 9 #[.val (.ref a1), .val (.double v1), .second] [(.double v1), (.int (0 : Int32)), (.ref t1)])) rfl rfl (hb hby d4_9)
  have v3_ : Arv Z h3_ t1 k1 .double (4 : Int32) [(.double v1), (.double x1), (.double x2), (.double x3)] (.double (0 : UInt64)) := Arv.set Ar3_ q3_ S3_ M3_ Hs3_ G3_ rfl W3_ 0 rfl (Nat.le_of_ble_eq_true rfl)
  have N3_ := Fr.snoc X3_ N0 g2
  have f4_ : Fld Z h3_ a1 "com/example/whipstill/whipstill/MovingWindow" "oldest" "I" (.int (0 : Int32)) := (F2.other W3_ (Or.inl (Exa.neArv E1 V1 (hw _ (List.mem_of_getElem? (i := 2) rfl)))))
  obtain ⟨T5_, X5_, e5_, st5_⟩ := getF X3_ hx hZ hown (host := "") (Or.inl (hw _ (List.mem_of_getElem? (i := 22) rfl))) Via.refl e3_ f4_ (g := (mkF m 12 #[.val (.ref a1), .val (.double v1), .second] [(.ref a1), (.ref a1)])) rfl rfl (hb hby d4_12)
  have f6_ : Fld Z h3_ a1 "com/example/whipstill/whipstill/MovingWindow" "values" "[D" (.ref t1) := (F1.other W3_ (Or.inl (Exa.neArv E1 V1 (hw _ (List.mem_of_getElem? (i := 2) rfl)))))
  obtain ⟨T7_, X7_, e7_, st7_⟩ := getF X5_ hx hZ hown (host := "") (Or.inl (hw _ (List.mem_of_getElem? (i := 11) rfl))) Via.refl e5_ f6_ (g := (mkF m 18 #[.val (.ref a1), .val (.double v1), .second] [(.ref a1), (.int (1 : Int32)), (.ref a1)])) rfl rfl (hb hby d4_18)
  obtain ⟨cl8_, Ar8_, q8_, S8_, M8_, Hs8_, G8_⟩ := id v3_
  have f9_ : Exa Z h3_ a1 "com/example/whipstill/whipstill/MovingWindow" := (E1.wr W3_)
  obtain ⟨T10_, h10_, X10_, e10_, W10_, st10_⟩ := putF X7_ hx hZ hown (host := "") (Or.inl (hw _ (List.mem_of_getElem? (i := 22) rfl))) Via.refl e7_ f4_ f9_ (Or.inl (hw _ (List.mem_of_getElem? (i := 23) rfl))) (hw _ (List.mem_of_getElem? (i := 2) rfl)) (ty := .int) (by decide) rfl rfl (g := (mkF m 23 #[.val (.ref a1), .val (.double v1), .second] [(.int (1 : Int32)), (.ref a1)])) rfl rfl (hb hby d4_23)
  have w10_ : Fld Z h10_ a1 "com/example/whipstill/whipstill/MovingWindow" "oldest" "I" (.int (1 : Int32)) := f4_.same W10_
  have N10_ := Fr.snoc X10_ N3_ g1
  have f11_ : Exa Z h10_ a1 "com/example/whipstill/whipstill/MovingWindow" := (f9_.wr W10_)
  have f12_ : Fld Z h10_ a1 "com/example/whipstill/whipstill/MovingWindow" "values" "[D" (.ref t1) := (f6_.other W10_ (Or.inr (slot_ne (Or.inr (hw _ (List.mem_of_getElem? (i := 12) rfl))) (Or.inl (hw _ (List.mem_of_getElem? (i := 23) rfl))) (by decide) (t := (.array .double)) (t' := .int) (by decide) (by decide))))
  have f13_ : Arv Z h10_ t1 k1 .double (4 : Int32) [(.double v1), (.double x1), (.double x2), (.double x3)] (.double (0 : UInt64)) := (v3_.other W10_ (Ne.symm (Exa.neArv f9_ v3_ (hw _ (List.mem_of_getElem? (i := 2) rfl)))))
  have k14_ : Keep h0 h3_ [a1, t1] := (Keep.refl h0 [a1, t1]).wr W3_ (Or.inl (List.mem_of_getElem? (i := 1) rfl))
  have k15_ : Keep h0 h10_ [a1, t1] := k14_.wr W10_ (Or.inl (List.mem_of_getElem? (i := 0) rfl))
  obtain ⟨fs, hr, hrun, hended, hW, hsame⟩ := X10_.leave (v := none) (fun h => by first | rfl | (rw [Bd.returns] at h; cases h))
  refine ⟨_, _, pre0 _ ?_, hrun, hended, _, _, rfl, ?_, ⟨_, rfl⟩, hW, hsame.mono (by decide) (by decide)⟩
  · show Steps p.tables e below (s₁.setTop (mkF m 0 #[.val (.ref a1), .val (.double v1), .second] [])) _
    refine XS.aloadN X0.here hx rfl (hb hby d4_0) rfl rfl ?_
    show Steps p.tables e below (s₁.setTop (mkF m 1 #[.val (.ref a1), .val (.double v1), .second] [(.ref a1)])) _
    refine st1_ _ ?_
    show Steps p.tables e below (T1_.setTop (mkF m 4 #[.val (.ref a1), .val (.double v1), .second] [(.ref t1)])) _
    refine XS.aloadN X1_.here hx rfl (hb hby d4_4) rfl rfl ?_
    show Steps p.tables e below (T1_.setTop (mkF m 5 #[.val (.ref a1), .val (.double v1), .second] [(.ref a1), (.ref t1)])) _
    refine st2_ _ ?_
    show Steps p.tables e below (T2_.setTop (mkF m 8 #[.val (.ref a1), .val (.double v1), .second] [(.int (0 : Int32)), (.ref t1)])) _
    refine XS.dloadN X2_.here hx rfl (hb hby d4_8) rfl ?_
    show Steps p.tables e below (T2_.setTop (mkF m 9 #[.val (.ref a1), .val (.double v1), .second] [(.double v1), (.int (0 : Int32)), (.ref t1)])) _
    refine st3_ _ ?_
    show Steps p.tables e below (T3_.setTop (mkF m 10 #[.val (.ref a1), .val (.double v1), .second] [])) _
    refine XS.aloadN X3_.here hx rfl (hb hby d4_10) rfl rfl ?_
    show Steps p.tables e below (T3_.setTop (mkF m 11 #[.val (.ref a1), .val (.double v1), .second] [(.ref a1)])) _
    refine XS.aloadN X3_.here hx rfl (hb hby d4_11) rfl rfl ?_
    show Steps p.tables e below (T3_.setTop (mkF m 12 #[.val (.ref a1), .val (.double v1), .second] [(.ref a1), (.ref a1)])) _
    refine st5_ _ ?_
    show Steps p.tables e below (T5_.setTop (mkF m 15 #[.val (.ref a1), .val (.double v1), .second] [(.int (0 : Int32)), (.ref a1)])) _
    refine XS.iconst X5_.here hx rfl (hb hby d4_15) ?_
    show Steps p.tables e below (T5_.setTop (mkF m 16 #[.val (.ref a1), .val (.double v1), .second] [(.int (1 : Int32)), (.int (0 : Int32)), (.ref a1)])) _
    refine XS.iadd X5_.here hx rfl (hb hby d4_16) rfl ?_
    show Steps p.tables e below (T5_.setTop (mkF m 17 #[.val (.ref a1), .val (.double v1), .second] [(.int (1 : Int32)), (.ref a1)])) _
    refine XS.aloadN X5_.here hx rfl (hb hby d4_17) rfl rfl ?_
    show Steps p.tables e below (T5_.setTop (mkF m 18 #[.val (.ref a1), .val (.double v1), .second] [(.ref a1), (.int (1 : Int32)), (.ref a1)])) _
    refine st7_ _ ?_
    show Steps p.tables e below (T7_.setTop (mkF m 21 #[.val (.ref a1), .val (.double v1), .second] [(.ref t1), (.int (1 : Int32)), (.ref a1)])) _
    refine X7_.arraylength hx (by rw [e7_]; exact Ar8_.1) (State.isArrayOf_alike (State.Warmed39.alike hZ) Ar8_.2.1) (g := (mkF m 21 #[.val (.ref a1), .val (.double v1), .second] [(.ref t1), (.int (1 : Int32)), (.ref a1)])) rfl rfl (hb hby d4_21) _ ?_
    rw [len_of S8_ M8_]
    show Steps p.tables e below (T7_.setTop (mkF m 22 #[.val (.ref a1), .val (.double v1), .second] [(.int (4 : Int32)), (.int (1 : Int32)), (.ref a1)])) _
    refine XS.irem X7_.here hx rfl (hb hby d4_22) rfl (by decide) ?_
    show Steps p.tables e below (T7_.setTop (mkF m 23 #[.val (.ref a1), .val (.double v1), .second] [(.int (1 : Int32)), (.ref a1)])) _
    refine st10_ _ ?_
    show Steps p.tables e below (T10_.setTop (mkF m 26 #[.val (.ref a1), .val (.double v1), .second] [])) _
    exact X10_.returnOut hx Bd.returns (hb hby d4_26) hr
  · show Q_rmAdd4_0 Z a1 v1 t1 k1 x0 x1 x2 x3 h0 n0 _ T10_.heap _
    rw [e10_]
    exact ⟨rfl, N10_, k15_, f11_, f12_, w10_, f13_⟩
theorem ef_rmAdd4_1 (m : MethodId) (x0 : Addr) (x1 : UInt64) : entryFrame m #[(.ref x0), (.double x1)] 3 = mkF m 0 #[.val (.ref x0), .val (.double x1), .second] [] := by first | (simp [entryFrame, mkF, argsToLocals, Value.category]; done) | rfl
def Q_rmAdd4_1 (Z : State) (a1 : Addr) (v1 : UInt64) (t1 : Addr) (k1 : ClassId) (x0 : UInt64) (x1 : UInt64) (x2 : UInt64) (x3 : UInt64) (h0 : Heap) (n0 : Nat) (v : Option Value) (h : Heap) (L : List Loc) : Prop := v = none ∧ Fr n0 L ∧ Keep h0 h [a1, t1] ∧ (Exa Z h a1 "com/example/whipstill/whipstill/MovingWindow") ∧ (Fld Z h a1 "com/example/whipstill/whipstill/MovingWindow" "values" "[D" (.ref t1)) ∧ (Fld Z h a1 "com/example/whipstill/whipstill/MovingWindow" "oldest" "I" (.int (2 : Int32))) ∧ (Arv Z h t1 k1 .double (4 : Int32) [(.double x0), (.double v1), (.double x2), (.double x3)] (.double (0 : UInt64)))
set_option maxRecDepth 65536 in
set_option maxHeartbeats 40000000 in
theorem rmAdd4_1 (l : Launch) (Z : State) (a0 : Array Value) (hw : ∀ d ∈ tables_1, d.before a0 Z = true) (ws : List Jvm.Cond) (a1 : Addr) (v1 : UInt64) (t1 : Addr) (k1 : ClassId) (x0 : UInt64) (x1 : UInt64) (x2 : UInt64) (x3 : UInt64) (h0 : Heap) (n0 : Nat) (Z0 : n0 ≤ h0.size) (E1 : Exa Z h0 a1 "com/example/whipstill/whipstill/MovingWindow") (F1 : Fld Z h0 a1 "com/example/whipstill/whipstill/MovingWindow" "values" "[D" (.ref t1)) (F2 : Fld Z h0 a1 "com/example/whipstill/whipstill/MovingWindow" "oldest" "I" (.int (1 : Int32))) (V1 : Arv Z h0 t1 k1 .double (4 : Int32) [(.double x0), (.double x1), (.double x2), (.double x3)] (.double (0 : UInt64))) (g1 : n0 ≤ a1) (g2 : n0 ≤ t1) :
    MetFree l (⟨"com/example/whipstill/whipstill/MovingWindow", "add", "(D)V"⟩ : MethodName) (head1 (Jvm.Cond.code (⟨"com/example/whipstill/whipstill/MovingWindow", "add", "(D)V"⟩ : MethodName) prog_11_method_2_code 3 none :: ws) ({ frames := 0, cells := 0, slots := 0, locals := 0 } : Room)) (fun a U => a = #[(.ref a1), (.double v1)] ∧ Z.Warmed39 U.vm ∧ U.heap = h0) (fun _ _ _ _ _ => True) (fun _ U o U' => ∃ v L, o = .returned v ∧ Q_rmAdd4_1 Z a1 v1 t1 k1 x0 x1 x2 x3 h0 n0 v U'.heap L ∧ FrameEnd U o U' L ({ frames := 0, cells := 0, slots := 0, locals := 0 } : Room).cells ({ frames := 0, cells := 0, slots := 0, locals := 0 } : Room).slots) := by
  refine MetFree.of_bodySF (plainFor_of_name pn_com_example_whipstill_whipstill_MovingWindow) hisR ?_
  intro p e s m args below meth c s₁ Bd hml0 hP hK
  obtain ⟨rfl, hZ, hh⟩ := hP
  have hx := Bd.exec
  have hby := Bd.bytes
  have hml : c.maxLocals = 3 := hml0
  have hown : s.vm.findClass "com/example/whipstill/whipstill/MovingWindow" = some m.cls := findClass_of_methodNamed Bd.named
  have hnm := (name_of_methodNamed Bd.named Bd.method).1
  have X0 : Stand p l e ({ frames := 0, cells := 0, slots := 0, locals := 0 } : Room) s m #[(.ref a1), (.double v1)] below meth c s₁ [] 0 0 := Stand.of_body Bd
  have e0 : s₁.heap = h0 := by rw [← hh, Bd.state]; rfl
  have N0 := Fr.nil n0
  have pre0 : ∀ t, Steps p.tables e below (s₁.setTop (mkF m 0 #[.val (.ref a1), .val (.double v1), .second] [])) t → Steps p.tables e below (s₁.setTop (entryFrame m #[(.ref a1), (.double v1)] 3)) t := fun t k => castTop (ef_rmAdd4_1 m a1 v1) k
  obtain ⟨T1_, X1_, e1_, st1_⟩ := getF X0 hx hZ hown (host := "") (Or.inl (hw _ (List.mem_of_getElem? (i := 11) rfl))) Via.refl e0 F1 (g := (mkF m 1 #[.val (.ref a1), .val (.double v1), .second] [(.ref a1)])) rfl rfl (hb hby d4_1)
  obtain ⟨T2_, X2_, e2_, st2_⟩ := getF X1_ hx hZ hown (host := "") (Or.inl (hw _ (List.mem_of_getElem? (i := 22) rfl))) Via.refl e1_ F2 (g := (mkF m 5 #[.val (.ref a1), .val (.double v1), .second] [(.ref a1), (.ref t1)])) rfl rfl (hb hby d4_5)
  obtain ⟨cl3_, Ar3_, q3_, S3_, M3_, Hs3_, G3_⟩ := id V1
  have in3_ : ¬ ((1 : Int32) < 0 ∨ cl3_.slots.size ≤ ((1 : Int32)).toNatClampNeg) := inb_of S3_ ⟨by decide, by decide⟩
  obtain ⟨T3_, h3_, X3_, e3_, W3_, st3_⟩ := stD X2_ hx hZ e2_ Ar3_ (j := (1 : Int32)) in3_ (g := (mkF m 9 #[.val (.ref a1), .val (.double v1), .second] [(.double v1), (.int (1 : Int32)), (.ref t1)])) rfl rfl (hb hby d4_9)
  have v3_ : Arv Z h3_ t1 k1 .double (4 : Int32) [(.double x0), (.double v1), (.double x2), (.double x3)] (.double (0 : UInt64)) := Arv.set Ar3_ q3_ S3_ M3_ Hs3_ G3_ rfl W3_ 1 rfl (Nat.le_of_ble_eq_true rfl)
  have N3_ := Fr.snoc X3_ N0 g2
  have f4_ : Fld Z h3_ a1 "com/example/whipstill/whipstill/MovingWindow" "oldest" "I" (.int (1 : Int32)) := (F2.other W3_ (Or.inl (Exa.neArv E1 V1 (hw _ (List.mem_of_getElem? (i := 2) rfl)))))
  obtain ⟨T5_, X5_, e5_, st5_⟩ := getF X3_ hx hZ hown (host := "") (Or.inl (hw _ (List.mem_of_getElem? (i := 22) rfl))) Via.refl e3_ f4_ (g := (mkF m 12 #[.val (.ref a1), .val (.double v1), .second] [(.ref a1), (.ref a1)])) rfl rfl (hb hby d4_12)
  have f6_ : Fld Z h3_ a1 "com/example/whipstill/whipstill/MovingWindow" "values" "[D" (.ref t1) := (F1.other W3_ (Or.inl (Exa.neArv E1 V1 (hw _ (List.mem_of_getElem? (i := 2) rfl)))))
  obtain ⟨T7_, X7_, e7_, st7_⟩ := getF X5_ hx hZ hown (host := "") (Or.inl (hw _ (List.mem_of_getElem? (i := 11) rfl))) Via.refl e5_ f6_ (g := (mkF m 18 #[.val (.ref a1), .val (.double v1), .second] [(.ref a1), (.int (2 : Int32)), (.ref a1)])) rfl rfl (hb hby d4_18)
  obtain ⟨cl8_, Ar8_, q8_, S8_, M8_, Hs8_, G8_⟩ := id v3_
  have f9_ : Exa Z h3_ a1 "com/example/whipstill/whipstill/MovingWindow" := (E1.wr W3_)
  obtain ⟨T10_, h10_, X10_, e10_, W10_, st10_⟩ := putF X7_ hx hZ hown (host := "") (Or.inl (hw _ (List.mem_of_getElem? (i := 22) rfl))) Via.refl e7_ f4_ f9_ (Or.inl (hw _ (List.mem_of_getElem? (i := 23) rfl))) (hw _ (List.mem_of_getElem? (i := 2) rfl)) (ty := .int) (by decide) rfl rfl (g := (mkF m 23 #[.val (.ref a1), .val (.double v1), .second] [(.int (2 : Int32)), (.ref a1)])) rfl rfl (hb hby d4_23)
  have w10_ : Fld Z h10_ a1 "com/example/whipstill/whipstill/MovingWindow" "oldest" "I" (.int (2 : Int32)) := f4_.same W10_
  have N10_ := Fr.snoc X10_ N3_ g1
  have f11_ : Exa Z h10_ a1 "com/example/whipstill/whipstill/MovingWindow" := (f9_.wr W10_)
  have f12_ : Fld Z h10_ a1 "com/example/whipstill/whipstill/MovingWindow" "values" "[D" (.ref t1) := (f6_.other W10_ (Or.inr (slot_ne (Or.inr (hw _ (List.mem_of_getElem? (i := 12) rfl))) (Or.inl (hw _ (List.mem_of_getElem? (i := 23) rfl))) (by decide) (t := (.array .double)) (t' := .int) (by decide) (by decide))))
  have f13_ : Arv Z h10_ t1 k1 .double (4 : Int32) [(.double x0), (.double v1), (.double x2), (.double x3)] (.double (0 : UInt64)) := (v3_.other W10_ (Ne.symm (Exa.neArv f9_ v3_ (hw _ (List.mem_of_getElem? (i := 2) rfl)))))
  have k14_ : Keep h0 h3_ [a1, t1] := (Keep.refl h0 [a1, t1]).wr W3_ (Or.inl (List.mem_of_getElem? (i := 1) rfl))
  have k15_ : Keep h0 h10_ [a1, t1] := k14_.wr W10_ (Or.inl (List.mem_of_getElem? (i := 0) rfl))
  obtain ⟨fs, hr, hrun, hended, hW, hsame⟩ := X10_.leave (v := none) (fun h => by first | rfl | (rw [Bd.returns] at h; cases h))
  refine ⟨_, _, pre0 _ ?_, hrun, hended, _, _, rfl, ?_, ⟨_, rfl⟩, hW, hsame.mono (by decide) (by decide)⟩
  · show Steps p.tables e below (s₁.setTop (mkF m 0 #[.val (.ref a1), .val (.double v1), .second] [])) _
    refine XS.aloadN X0.here hx rfl (hb hby d4_0) rfl rfl ?_
    show Steps p.tables e below (s₁.setTop (mkF m 1 #[.val (.ref a1), .val (.double v1), .second] [(.ref a1)])) _
    refine st1_ _ ?_
    show Steps p.tables e below (T1_.setTop (mkF m 4 #[.val (.ref a1), .val (.double v1), .second] [(.ref t1)])) _
    refine XS.aloadN X1_.here hx rfl (hb hby d4_4) rfl rfl ?_
    show Steps p.tables e below (T1_.setTop (mkF m 5 #[.val (.ref a1), .val (.double v1), .second] [(.ref a1), (.ref t1)])) _
    refine st2_ _ ?_
    show Steps p.tables e below (T2_.setTop (mkF m 8 #[.val (.ref a1), .val (.double v1), .second] [(.int (1 : Int32)), (.ref t1)])) _
    refine XS.dloadN X2_.here hx rfl (hb hby d4_8) rfl ?_
    show Steps p.tables e below (T2_.setTop (mkF m 9 #[.val (.ref a1), .val (.double v1), .second] [(.double v1), (.int (1 : Int32)), (.ref t1)])) _
    refine st3_ _ ?_
    show Steps p.tables e below (T3_.setTop (mkF m 10 #[.val (.ref a1), .val (.double v1), .second] [])) _
    refine XS.aloadN X3_.here hx rfl (hb hby d4_10) rfl rfl ?_
    show Steps p.tables e below (T3_.setTop (mkF m 11 #[.val (.ref a1), .val (.double v1), .second] [(.ref a1)])) _
    refine XS.aloadN X3_.here hx rfl (hb hby d4_11) rfl rfl ?_
    show Steps p.tables e below (T3_.setTop (mkF m 12 #[.val (.ref a1), .val (.double v1), .second] [(.ref a1), (.ref a1)])) _
    refine st5_ _ ?_
    show Steps p.tables e below (T5_.setTop (mkF m 15 #[.val (.ref a1), .val (.double v1), .second] [(.int (1 : Int32)), (.ref a1)])) _
    refine XS.iconst X5_.here hx rfl (hb hby d4_15) ?_
    show Steps p.tables e below (T5_.setTop (mkF m 16 #[.val (.ref a1), .val (.double v1), .second] [(.int (1 : Int32)), (.int (1 : Int32)), (.ref a1)])) _
    refine XS.iadd X5_.here hx rfl (hb hby d4_16) rfl ?_
    show Steps p.tables e below (T5_.setTop (mkF m 17 #[.val (.ref a1), .val (.double v1), .second] [(.int (2 : Int32)), (.ref a1)])) _
    refine XS.aloadN X5_.here hx rfl (hb hby d4_17) rfl rfl ?_
    show Steps p.tables e below (T5_.setTop (mkF m 18 #[.val (.ref a1), .val (.double v1), .second] [(.ref a1), (.int (2 : Int32)), (.ref a1)])) _
    refine st7_ _ ?_
    show Steps p.tables e below (T7_.setTop (mkF m 21 #[.val (.ref a1), .val (.double v1), .second] [(.ref t1), (.int (2 : Int32)), (.ref a1)])) _
    refine X7_.arraylength hx (by rw [e7_]; exact Ar8_.1) (State.isArrayOf_alike (State.Warmed39.alike hZ) Ar8_.2.1) (g := (mkF m 21 #[.val (.ref a1), .val (.double v1), .second] [(.ref t1), (.int (2 : Int32)), (.ref a1)])) rfl rfl (hb hby d4_21) _ ?_
    rw [len_of S8_ M8_]
    show Steps p.tables e below (T7_.setTop (mkF m 22 #[.val (.ref a1), .val (.double v1), .second] [(.int (4 : Int32)), (.int (2 : Int32)), (.ref a1)])) _
    refine XS.irem X7_.here hx rfl (hb hby d4_22) rfl (by decide) ?_
    show Steps p.tables e below (T7_.setTop (mkF m 23 #[.val (.ref a1), .val (.double v1), .second] [(.int (2 : Int32)), (.ref a1)])) _
    refine st10_ _ ?_
    show Steps p.tables e below (T10_.setTop (mkF m 26 #[.val (.ref a1), .val (.double v1), .second] [])) _
    exact X10_.returnOut hx Bd.returns (hb hby d4_26) hr
  · show Q_rmAdd4_1 Z a1 v1 t1 k1 x0 x1 x2 x3 h0 n0 _ T10_.heap _
    rw [e10_]
    exact ⟨rfl, N10_, k15_, f11_, f12_, w10_, f13_⟩
theorem ef_rmAdd4_2 (m : MethodId) (x0 : Addr) (x1 : UInt64) : entryFrame m #[(.ref x0), (.double x1)] 3 = mkF m 0 #[.val (.ref x0), .val (.double x1), .second] [] := by first | (simp [entryFrame, mkF, argsToLocals, Value.category]; done) | rfl
def Q_rmAdd4_2 (Z : State) (a1 : Addr) (v1 : UInt64) (t1 : Addr) (k1 : ClassId) (x0 : UInt64) (x1 : UInt64) (x2 : UInt64) (x3 : UInt64) (h0 : Heap) (n0 : Nat) (v : Option Value) (h : Heap) (L : List Loc) : Prop := v = none ∧ Fr n0 L ∧ Keep h0 h [a1, t1] ∧ (Exa Z h a1 "com/example/whipstill/whipstill/MovingWindow") ∧ (Fld Z h a1 "com/example/whipstill/whipstill/MovingWindow" "values" "[D" (.ref t1)) ∧ (Fld Z h a1 "com/example/whipstill/whipstill/MovingWindow" "oldest" "I" (.int (3 : Int32))) ∧ (Arv Z h t1 k1 .double (4 : Int32) [(.double x0), (.double x1), (.double v1), (.double x3)] (.double (0 : UInt64)))
set_option maxRecDepth 65536 in
set_option maxHeartbeats 40000000 in
theorem rmAdd4_2 (l : Launch) (Z : State) (a0 : Array Value) (hw : ∀ d ∈ tables_1, d.before a0 Z = true) (ws : List Jvm.Cond) (a1 : Addr) (v1 : UInt64) (t1 : Addr) (k1 : ClassId) (x0 : UInt64) (x1 : UInt64) (x2 : UInt64) (x3 : UInt64) (h0 : Heap) (n0 : Nat) (Z0 : n0 ≤ h0.size) (E1 : Exa Z h0 a1 "com/example/whipstill/whipstill/MovingWindow") (F1 : Fld Z h0 a1 "com/example/whipstill/whipstill/MovingWindow" "values" "[D" (.ref t1)) (F2 : Fld Z h0 a1 "com/example/whipstill/whipstill/MovingWindow" "oldest" "I" (.int (2 : Int32))) (V1 : Arv Z h0 t1 k1 .double (4 : Int32) [(.double x0), (.double x1), (.double x2), (.double x3)] (.double (0 : UInt64))) (g1 : n0 ≤ a1) (g2 : n0 ≤ t1) :
    MetFree l (⟨"com/example/whipstill/whipstill/MovingWindow", "add", "(D)V"⟩ : MethodName) (head1 (Jvm.Cond.code (⟨"com/example/whipstill/whipstill/MovingWindow", "add", "(D)V"⟩ : MethodName) prog_11_method_2_code 3 none :: ws) ({ frames := 0, cells := 0, slots := 0, locals := 0 } : Room)) (fun a U => a = #[(.ref a1), (.double v1)] ∧ Z.Warmed39 U.vm ∧ U.heap = h0) (fun _ _ _ _ _ => True) (fun _ U o U' => ∃ v L, o = .returned v ∧ Q_rmAdd4_2 Z a1 v1 t1 k1 x0 x1 x2 x3 h0 n0 v U'.heap L ∧ FrameEnd U o U' L ({ frames := 0, cells := 0, slots := 0, locals := 0 } : Room).cells ({ frames := 0, cells := 0, slots := 0, locals := 0 } : Room).slots) := by
  refine MetFree.of_bodySF (plainFor_of_name pn_com_example_whipstill_whipstill_MovingWindow) hisR ?_
  intro p e s m args below meth c s₁ Bd hml0 hP hK
  obtain ⟨rfl, hZ, hh⟩ := hP
  have hx := Bd.exec
  have hby := Bd.bytes
  have hml : c.maxLocals = 3 := hml0
  have hown : s.vm.findClass "com/example/whipstill/whipstill/MovingWindow" = some m.cls := findClass_of_methodNamed Bd.named
  have hnm := (name_of_methodNamed Bd.named Bd.method).1
  have X0 : Stand p l e ({ frames := 0, cells := 0, slots := 0, locals := 0 } : Room) s m #[(.ref a1), (.double v1)] below meth c s₁ [] 0 0 := Stand.of_body Bd
  have e0 : s₁.heap = h0 := by rw [← hh, Bd.state]; rfl
  have N0 := Fr.nil n0
  have pre0 : ∀ t, Steps p.tables e below (s₁.setTop (mkF m 0 #[.val (.ref a1), .val (.double v1), .second] [])) t → Steps p.tables e below (s₁.setTop (entryFrame m #[(.ref a1), (.double v1)] 3)) t := fun t k => castTop (ef_rmAdd4_2 m a1 v1) k
  obtain ⟨T1_, X1_, e1_, st1_⟩ := getF X0 hx hZ hown (host := "") (Or.inl (hw _ (List.mem_of_getElem? (i := 11) rfl))) Via.refl e0 F1 (g := (mkF m 1 #[.val (.ref a1), .val (.double v1), .second] [(.ref a1)])) rfl rfl (hb hby d4_1)
  obtain ⟨T2_, X2_, e2_, st2_⟩ := getF X1_ hx hZ hown (host := "") (Or.inl (hw _ (List.mem_of_getElem? (i := 22) rfl))) Via.refl e1_ F2 (g := (mkF m 5 #[.val (.ref a1), .val (.double v1), .second] [(.ref a1), (.ref t1)])) rfl rfl (hb hby d4_5)
  obtain ⟨cl3_, Ar3_, q3_, S3_, M3_, Hs3_, G3_⟩ := id V1
  have in3_ : ¬ ((2 : Int32) < 0 ∨ cl3_.slots.size ≤ ((2 : Int32)).toNatClampNeg) := inb_of S3_ ⟨by decide, by decide⟩
  obtain ⟨T3_, h3_, X3_, e3_, W3_, st3_⟩ := stD X2_ hx hZ e2_ Ar3_ (j := (2 : Int32)) in3_ (g := (mkF m 9 #[.val (.ref a1), .val (.double v1), .second] [(.double v1), (.int (2 : Int32)), (.ref t1)])) rfl rfl (hb hby d4_9)
  have v3_ : Arv Z h3_ t1 k1 .double (4 : Int32) [(.double x0), (.double x1), (.double v1), (.double x3)] (.double (0 : UInt64)) := Arv.set Ar3_ q3_ S3_ M3_ Hs3_ G3_ rfl W3_ 2 rfl (Nat.le_of_ble_eq_true rfl)
  have N3_ := Fr.snoc X3_ N0 g2
  have f4_ : Fld Z h3_ a1 "com/example/whipstill/whipstill/MovingWindow" "oldest" "I" (.int (2 : Int32)) := (F2.other W3_ (Or.inl (Exa.neArv E1 V1 (hw _ (List.mem_of_getElem? (i := 2) rfl)))))
  obtain ⟨T5_, X5_, e5_, st5_⟩ := getF X3_ hx hZ hown (host := "") (Or.inl (hw _ (List.mem_of_getElem? (i := 22) rfl))) Via.refl e3_ f4_ (g := (mkF m 12 #[.val (.ref a1), .val (.double v1), .second] [(.ref a1), (.ref a1)])) rfl rfl (hb hby d4_12)
  have f6_ : Fld Z h3_ a1 "com/example/whipstill/whipstill/MovingWindow" "values" "[D" (.ref t1) := (F1.other W3_ (Or.inl (Exa.neArv E1 V1 (hw _ (List.mem_of_getElem? (i := 2) rfl)))))
  obtain ⟨T7_, X7_, e7_, st7_⟩ := getF X5_ hx hZ hown (host := "") (Or.inl (hw _ (List.mem_of_getElem? (i := 11) rfl))) Via.refl e5_ f6_ (g := (mkF m 18 #[.val (.ref a1), .val (.double v1), .second] [(.ref a1), (.int (3 : Int32)), (.ref a1)])) rfl rfl (hb hby d4_18)
  obtain ⟨cl8_, Ar8_, q8_, S8_, M8_, Hs8_, G8_⟩ := id v3_
  have f9_ : Exa Z h3_ a1 "com/example/whipstill/whipstill/MovingWindow" := (E1.wr W3_)
  obtain ⟨T10_, h10_, X10_, e10_, W10_, st10_⟩ := putF X7_ hx hZ hown (host := "") (Or.inl (hw _ (List.mem_of_getElem? (i := 22) rfl))) Via.refl e7_ f4_ f9_ (Or.inl (hw _ (List.mem_of_getElem? (i := 23) rfl))) (hw _ (List.mem_of_getElem? (i := 2) rfl)) (ty := .int) (by decide) rfl rfl (g := (mkF m 23 #[.val (.ref a1), .val (.double v1), .second] [(.int (3 : Int32)), (.ref a1)])) rfl rfl (hb hby d4_23)
  have w10_ : Fld Z h10_ a1 "com/example/whipstill/whipstill/MovingWindow" "oldest" "I" (.int (3 : Int32)) := f4_.same W10_
  have N10_ := Fr.snoc X10_ N3_ g1
  have f11_ : Exa Z h10_ a1 "com/example/whipstill/whipstill/MovingWindow" := (f9_.wr W10_)
  have f12_ : Fld Z h10_ a1 "com/example/whipstill/whipstill/MovingWindow" "values" "[D" (.ref t1) := (f6_.other W10_ (Or.inr (slot_ne (Or.inr (hw _ (List.mem_of_getElem? (i := 12) rfl))) (Or.inl (hw _ (List.mem_of_getElem? (i := 23) rfl))) (by decide) (t := (.array .double)) (t' := .int) (by decide) (by decide))))
  have f13_ : Arv Z h10_ t1 k1 .double (4 : Int32) [(.double x0), (.double x1), (.double v1), (.double x3)] (.double (0 : UInt64)) := (v3_.other W10_ (Ne.symm (Exa.neArv f9_ v3_ (hw _ (List.mem_of_getElem? (i := 2) rfl)))))
  have k14_ : Keep h0 h3_ [a1, t1] := (Keep.refl h0 [a1, t1]).wr W3_ (Or.inl (List.mem_of_getElem? (i := 1) rfl))
  have k15_ : Keep h0 h10_ [a1, t1] := k14_.wr W10_ (Or.inl (List.mem_of_getElem? (i := 0) rfl))
  obtain ⟨fs, hr, hrun, hended, hW, hsame⟩ := X10_.leave (v := none) (fun h => by first | rfl | (rw [Bd.returns] at h; cases h))
  refine ⟨_, _, pre0 _ ?_, hrun, hended, _, _, rfl, ?_, ⟨_, rfl⟩, hW, hsame.mono (by decide) (by decide)⟩
  · show Steps p.tables e below (s₁.setTop (mkF m 0 #[.val (.ref a1), .val (.double v1), .second] [])) _
    refine XS.aloadN X0.here hx rfl (hb hby d4_0) rfl rfl ?_
    show Steps p.tables e below (s₁.setTop (mkF m 1 #[.val (.ref a1), .val (.double v1), .second] [(.ref a1)])) _
    refine st1_ _ ?_
    show Steps p.tables e below (T1_.setTop (mkF m 4 #[.val (.ref a1), .val (.double v1), .second] [(.ref t1)])) _
    refine XS.aloadN X1_.here hx rfl (hb hby d4_4) rfl rfl ?_
    show Steps p.tables e below (T1_.setTop (mkF m 5 #[.val (.ref a1), .val (.double v1), .second] [(.ref a1), (.ref t1)])) _
    refine st2_ _ ?_
    show Steps p.tables e below (T2_.setTop (mkF m 8 #[.val (.ref a1), .val (.double v1), .second] [(.int (2 : Int32)), (.ref t1)])) _
    refine XS.dloadN X2_.here hx rfl (hb hby d4_8) rfl ?_
    show Steps p.tables e below (T2_.setTop (mkF m 9 #[.val (.ref a1), .val (.double v1), .second] [(.double v1), (.int (2 : Int32)), (.ref t1)])) _
    refine st3_ _ ?_
    show Steps p.tables e below (T3_.setTop (mkF m 10 #[.val (.ref a1), .val (.double v1), .second] [])) _
    refine XS.aloadN X3_.here hx rfl (hb hby d4_10) rfl rfl ?_
    show Steps p.tables e below (T3_.setTop (mkF m 11 #[.val (.ref a1), .val (.double v1), .second] [(.ref a1)])) _
    refine XS.aloadN X3_.here hx rfl (hb hby d4_11) rfl rfl ?_
    show Steps p.tables e below (T3_.setTop (mkF m 12 #[.val (.ref a1), .val (.double v1), .second] [(.ref a1), (.ref a1)])) _
    refine st5_ _ ?_
    show Steps p.tables e below (T5_.setTop (mkF m 15 #[.val (.ref a1), .val (.double v1), .second] [(.int (2 : Int32)), (.ref a1)])) _
    refine XS.iconst X5_.here hx rfl (hb hby d4_15) ?_
    show Steps p.tables e below (T5_.setTop (mkF m 16 #[.val (.ref a1), .val (.double v1), .second] [(.int (1 : Int32)), (.int (2 : Int32)), (.ref a1)])) _
    refine XS.iadd X5_.here hx rfl (hb hby d4_16) rfl ?_
    show Steps p.tables e below (T5_.setTop (mkF m 17 #[.val (.ref a1), .val (.double v1), .second] [(.int (3 : Int32)), (.ref a1)])) _
    refine XS.aloadN X5_.here hx rfl (hb hby d4_17) rfl rfl ?_
    show Steps p.tables e below (T5_.setTop (mkF m 18 #[.val (.ref a1), .val (.double v1), .second] [(.ref a1), (.int (3 : Int32)), (.ref a1)])) _
    refine st7_ _ ?_
    show Steps p.tables e below (T7_.setTop (mkF m 21 #[.val (.ref a1), .val (.double v1), .second] [(.ref t1), (.int (3 : Int32)), (.ref a1)])) _
    refine X7_.arraylength hx (by rw [e7_]; exact Ar8_.1) (State.isArrayOf_alike (State.Warmed39.alike hZ) Ar8_.2.1) (g := (mkF m 21 #[.val (.ref a1), .val (.double v1), .second] [(.ref t1), (.int (3 : Int32)), (.ref a1)])) rfl rfl (hb hby d4_21) _ ?_
    rw [len_of S8_ M8_]
    show Steps p.tables e below (T7_.setTop (mkF m 22 #[.val (.ref a1), .val (.double v1), .second] [(.int (4 : Int32)), (.int (3 : Int32)), (.ref a1)])) _
    refine XS.irem X7_.here hx rfl (hb hby d4_22) rfl (by decide) ?_
    show Steps p.tables e below (T7_.setTop (mkF m 23 #[.val (.ref a1), .val (.double v1), .second] [(.int (3 : Int32)), (.ref a1)])) _
    refine st10_ _ ?_
    show Steps p.tables e below (T10_.setTop (mkF m 26 #[.val (.ref a1), .val (.double v1), .second] [])) _
    exact X10_.returnOut hx Bd.returns (hb hby d4_26) hr
  · show Q_rmAdd4_2 Z a1 v1 t1 k1 x0 x1 x2 x3 h0 n0 _ T10_.heap _
    rw [e10_]
    exact ⟨rfl, N10_, k15_, f11_, f12_, w10_, f13_⟩
theorem ef_rmAdd4_3 (m : MethodId) (x0 : Addr) (x1 : UInt64) : entryFrame m #[(.ref x0), (.double x1)] 3 = mkF m 0 #[.val (.ref x0), .val (.double x1), .second] [] := by first | (simp [entryFrame, mkF, argsToLocals, Value.category]; done) | rfl
def Q_rmAdd4_3 (Z : State) (a1 : Addr) (v1 : UInt64) (t1 : Addr) (k1 : ClassId) (x0 : UInt64) (x1 : UInt64) (x2 : UInt64) (x3 : UInt64) (h0 : Heap) (n0 : Nat) (v : Option Value) (h : Heap) (L : List Loc) : Prop := v = none ∧ Fr n0 L ∧ Keep h0 h [a1, t1] ∧ (Exa Z h a1 "com/example/whipstill/whipstill/MovingWindow") ∧ (Fld Z h a1 "com/example/whipstill/whipstill/MovingWindow" "values" "[D" (.ref t1)) ∧ (Fld Z h a1 "com/example/whipstill/whipstill/MovingWindow" "oldest" "I" (.int (0 : Int32))) ∧ (Arv Z h t1 k1 .double (4 : Int32) [(.double x0), (.double x1), (.double x2), (.double v1)] (.double (0 : UInt64)))
set_option maxRecDepth 65536 in
set_option maxHeartbeats 40000000 in
theorem rmAdd4_3 (l : Launch) (Z : State) (a0 : Array Value) (hw : ∀ d ∈ tables_1, d.before a0 Z = true) (ws : List Jvm.Cond) (a1 : Addr) (v1 : UInt64) (t1 : Addr) (k1 : ClassId) (x0 : UInt64) (x1 : UInt64) (x2 : UInt64) (x3 : UInt64) (h0 : Heap) (n0 : Nat) (Z0 : n0 ≤ h0.size) (E1 : Exa Z h0 a1 "com/example/whipstill/whipstill/MovingWindow") (F1 : Fld Z h0 a1 "com/example/whipstill/whipstill/MovingWindow" "values" "[D" (.ref t1)) (F2 : Fld Z h0 a1 "com/example/whipstill/whipstill/MovingWindow" "oldest" "I" (.int (3 : Int32))) (V1 : Arv Z h0 t1 k1 .double (4 : Int32) [(.double x0), (.double x1), (.double x2), (.double x3)] (.double (0 : UInt64))) (g1 : n0 ≤ a1) (g2 : n0 ≤ t1) :
    MetFree l (⟨"com/example/whipstill/whipstill/MovingWindow", "add", "(D)V"⟩ : MethodName) (head1 (Jvm.Cond.code (⟨"com/example/whipstill/whipstill/MovingWindow", "add", "(D)V"⟩ : MethodName) prog_11_method_2_code 3 none :: ws) ({ frames := 0, cells := 0, slots := 0, locals := 0 } : Room)) (fun a U => a = #[(.ref a1), (.double v1)] ∧ Z.Warmed39 U.vm ∧ U.heap = h0) (fun _ _ _ _ _ => True) (fun _ U o U' => ∃ v L, o = .returned v ∧ Q_rmAdd4_3 Z a1 v1 t1 k1 x0 x1 x2 x3 h0 n0 v U'.heap L ∧ FrameEnd U o U' L ({ frames := 0, cells := 0, slots := 0, locals := 0 } : Room).cells ({ frames := 0, cells := 0, slots := 0, locals := 0 } : Room).slots) := by
  refine MetFree.of_bodySF (plainFor_of_name pn_com_example_whipstill_whipstill_MovingWindow) hisR ?_
  intro p e s m args below meth c s₁ Bd hml0 hP hK
  obtain ⟨rfl, hZ, hh⟩ := hP
  have hx := Bd.exec
  have hby := Bd.bytes
  have hml : c.maxLocals = 3 := hml0
  have hown : s.vm.findClass "com/example/whipstill/whipstill/MovingWindow" = some m.cls := findClass_of_methodNamed Bd.named
  have hnm := (name_of_methodNamed Bd.named Bd.method).1
  have X0 : Stand p l e ({ frames := 0, cells := 0, slots := 0, locals := 0 } : Room) s m #[(.ref a1), (.double v1)] below meth c s₁ [] 0 0 := Stand.of_body Bd
  have e0 : s₁.heap = h0 := by rw [← hh, Bd.state]; rfl
  have N0 := Fr.nil n0
  have pre0 : ∀ t, Steps p.tables e below (s₁.setTop (mkF m 0 #[.val (.ref a1), .val (.double v1), .second] [])) t → Steps p.tables e below (s₁.setTop (entryFrame m #[(.ref a1), (.double v1)] 3)) t := fun t k => castTop (ef_rmAdd4_3 m a1 v1) k
  obtain ⟨T1_, X1_, e1_, st1_⟩ := getF X0 hx hZ hown (host := "") (Or.inl (hw _ (List.mem_of_getElem? (i := 11) rfl))) Via.refl e0 F1 (g := (mkF m 1 #[.val (.ref a1), .val (.double v1), .second] [(.ref a1)])) rfl rfl (hb hby d4_1)
  obtain ⟨T2_, X2_, e2_, st2_⟩ := getF X1_ hx hZ hown (host := "") (Or.inl (hw _ (List.mem_of_getElem? (i := 22) rfl))) Via.refl e1_ F2 (g := (mkF m 5 #[.val (.ref a1), .val (.double v1), .second] [(.ref a1), (.ref t1)])) rfl rfl (hb hby d4_5)
  obtain ⟨cl3_, Ar3_, q3_, S3_, M3_, Hs3_, G3_⟩ := id V1
  have in3_ : ¬ ((3 : Int32) < 0 ∨ cl3_.slots.size ≤ ((3 : Int32)).toNatClampNeg) := inb_of S3_ ⟨by decide, by decide⟩
  obtain ⟨T3_, h3_, X3_, e3_, W3_, st3_⟩ := stD X2_ hx hZ e2_ Ar3_ (j := (3 : Int32)) in3_ (g := (mkF m 9 #[.val (.ref a1), .val (.double v1), .second] [(.double v1), (.int (3 : Int32)), (.ref t1)])) rfl rfl (hb hby d4_9)
  have v3_ : Arv Z h3_ t1 k1 .double (4 : Int32) [(.double x0), (.double x1), (.double x2), (.double v1)] (.double (0 : UInt64)) := Arv.set Ar3_ q3_ S3_ M3_ Hs3_ G3_ rfl W3_ 3 rfl (Nat.le_of_ble_eq_true rfl)
  have N3_ := Fr.snoc X3_ N0 g2
  have f4_ : Fld Z h3_ a1 "com/example/whipstill/whipstill/MovingWindow" "oldest" "I" (.int (3 : Int32)) := (F2.other W3_ (Or.inl (Exa.neArv E1 V1 (hw _ (List.mem_of_getElem? (i := 2) rfl)))))
  obtain ⟨T5_, X5_, e5_, st5_⟩ := getF X3_ hx hZ hown (host := "") (Or.inl (hw _ (List.mem_of_getElem? (i := 22) rfl))) Via.refl e3_ f4_ (g := (mkF m 12 #[.val (.ref a1), .val (.double v1), .second] [(.ref a1), (.ref a1)])) rfl rfl (hb hby d4_12)
  have f6_ : Fld Z h3_ a1 "com/example/whipstill/whipstill/MovingWindow" "values" "[D" (.ref t1) := (F1.other W3_ (Or.inl (Exa.neArv E1 V1 (hw _ (List.mem_of_getElem? (i := 2) rfl)))))
  obtain ⟨T7_, X7_, e7_, st7_⟩ := getF X5_ hx hZ hown (host := "") (Or.inl (hw _ (List.mem_of_getElem? (i := 11) rfl))) Via.refl e5_ f6_ (g := (mkF m 18 #[.val (.ref a1), .val (.double v1), .second] [(.ref a1), (.int (4 : Int32)), (.ref a1)])) rfl rfl (hb hby d4_18)
  obtain ⟨cl8_, Ar8_, q8_, S8_, M8_, Hs8_, G8_⟩ := id v3_
  have f9_ : Exa Z h3_ a1 "com/example/whipstill/whipstill/MovingWindow" := (E1.wr W3_)
  obtain ⟨T10_, h10_, X10_, e10_, W10_, st10_⟩ := putF X7_ hx hZ hown (host := "") (Or.inl (hw _ (List.mem_of_getElem? (i := 22) rfl))) Via.refl e7_ f4_ f9_ (Or.inl (hw _ (List.mem_of_getElem? (i := 23) rfl))) (hw _ (List.mem_of_getElem? (i := 2) rfl)) (ty := .int) (by decide) rfl rfl (g := (mkF m 23 #[.val (.ref a1), .val (.double v1), .second] [(.int (0 : Int32)), (.ref a1)])) rfl rfl (hb hby d4_23)
  have w10_ : Fld Z h10_ a1 "com/example/whipstill/whipstill/MovingWindow" "oldest" "I" (.int (0 : Int32)) := f4_.same W10_
  have N10_ := Fr.snoc X10_ N3_ g1
  have f11_ : Exa Z h10_ a1 "com/example/whipstill/whipstill/MovingWindow" := (f9_.wr W10_)
  have f12_ : Fld Z h10_ a1 "com/example/whipstill/whipstill/MovingWindow" "values" "[D" (.ref t1) := (f6_.other W10_ (Or.inr (slot_ne (Or.inr (hw _ (List.mem_of_getElem? (i := 12) rfl))) (Or.inl (hw _ (List.mem_of_getElem? (i := 23) rfl))) (by decide) (t := (.array .double)) (t' := .int) (by decide) (by decide))))
  have f13_ : Arv Z h10_ t1 k1 .double (4 : Int32) [(.double x0), (.double x1), (.double x2), (.double v1)] (.double (0 : UInt64)) := (v3_.other W10_ (Ne.symm (Exa.neArv f9_ v3_ (hw _ (List.mem_of_getElem? (i := 2) rfl)))))
  have k14_ : Keep h0 h3_ [a1, t1] := (Keep.refl h0 [a1, t1]).wr W3_ (Or.inl (List.mem_of_getElem? (i := 1) rfl))
  have k15_ : Keep h0 h10_ [a1, t1] := k14_.wr W10_ (Or.inl (List.mem_of_getElem? (i := 0) rfl))
  obtain ⟨fs, hr, hrun, hended, hW, hsame⟩ := X10_.leave (v := none) (fun h => by first | rfl | (rw [Bd.returns] at h; cases h))
  refine ⟨_, _, pre0 _ ?_, hrun, hended, _, _, rfl, ?_, ⟨_, rfl⟩, hW, hsame.mono (by decide) (by decide)⟩
  · show Steps p.tables e below (s₁.setTop (mkF m 0 #[.val (.ref a1), .val (.double v1), .second] [])) _
    refine XS.aloadN X0.here hx rfl (hb hby d4_0) rfl rfl ?_
    show Steps p.tables e below (s₁.setTop (mkF m 1 #[.val (.ref a1), .val (.double v1), .second] [(.ref a1)])) _
    refine st1_ _ ?_
    show Steps p.tables e below (T1_.setTop (mkF m 4 #[.val (.ref a1), .val (.double v1), .second] [(.ref t1)])) _
    refine XS.aloadN X1_.here hx rfl (hb hby d4_4) rfl rfl ?_
    show Steps p.tables e below (T1_.setTop (mkF m 5 #[.val (.ref a1), .val (.double v1), .second] [(.ref a1), (.ref t1)])) _
    refine st2_ _ ?_
    show Steps p.tables e below (T2_.setTop (mkF m 8 #[.val (.ref a1), .val (.double v1), .second] [(.int (3 : Int32)), (.ref t1)])) _
    refine XS.dloadN X2_.here hx rfl (hb hby d4_8) rfl ?_
    show Steps p.tables e below (T2_.setTop (mkF m 9 #[.val (.ref a1), .val (.double v1), .second] [(.double v1), (.int (3 : Int32)), (.ref t1)])) _
    refine st3_ _ ?_
    show Steps p.tables e below (T3_.setTop (mkF m 10 #[.val (.ref a1), .val (.double v1), .second] [])) _
    refine XS.aloadN X3_.here hx rfl (hb hby d4_10) rfl rfl ?_
    show Steps p.tables e below (T3_.setTop (mkF m 11 #[.val (.ref a1), .val (.double v1), .second] [(.ref a1)])) _
    refine XS.aloadN X3_.here hx rfl (hb hby d4_11) rfl rfl ?_
    show Steps p.tables e below (T3_.setTop (mkF m 12 #[.val (.ref a1), .val (.double v1), .second] [(.ref a1), (.ref a1)])) _
    refine st5_ _ ?_
    show Steps p.tables e below (T5_.setTop (mkF m 15 #[.val (.ref a1), .val (.double v1), .second] [(.int (3 : Int32)), (.ref a1)])) _
    refine XS.iconst X5_.here hx rfl (hb hby d4_15) ?_
    show Steps p.tables e below (T5_.setTop (mkF m 16 #[.val (.ref a1), .val (.double v1), .second] [(.int (1 : Int32)), (.int (3 : Int32)), (.ref a1)])) _
    refine XS.iadd X5_.here hx rfl (hb hby d4_16) rfl ?_
    show Steps p.tables e below (T5_.setTop (mkF m 17 #[.val (.ref a1), .val (.double v1), .second] [(.int (4 : Int32)), (.ref a1)])) _
    refine XS.aloadN X5_.here hx rfl (hb hby d4_17) rfl rfl ?_
    show Steps p.tables e below (T5_.setTop (mkF m 18 #[.val (.ref a1), .val (.double v1), .second] [(.ref a1), (.int (4 : Int32)), (.ref a1)])) _
    refine st7_ _ ?_
    show Steps p.tables e below (T7_.setTop (mkF m 21 #[.val (.ref a1), .val (.double v1), .second] [(.ref t1), (.int (4 : Int32)), (.ref a1)])) _
    refine X7_.arraylength hx (by rw [e7_]; exact Ar8_.1) (State.isArrayOf_alike (State.Warmed39.alike hZ) Ar8_.2.1) (g := (mkF m 21 #[.val (.ref a1), .val (.double v1), .second] [(.ref t1), (.int (4 : Int32)), (.ref a1)])) rfl rfl (hb hby d4_21) _ ?_
    rw [len_of S8_ M8_]
    show Steps p.tables e below (T7_.setTop (mkF m 22 #[.val (.ref a1), .val (.double v1), .second] [(.int (4 : Int32)), (.int (4 : Int32)), (.ref a1)])) _
    refine XS.irem X7_.here hx rfl (hb hby d4_22) rfl (by decide) ?_
    show Steps p.tables e below (T7_.setTop (mkF m 23 #[.val (.ref a1), .val (.double v1), .second] [(.int (0 : Int32)), (.ref a1)])) _
    refine st10_ _ ?_
    show Steps p.tables e below (T10_.setTop (mkF m 26 #[.val (.ref a1), .val (.double v1), .second] [])) _
    exact X10_.returnOut hx Bd.returns (hb hby d4_26) hr
  · show Q_rmAdd4_3 Z a1 v1 t1 k1 x0 x1 x2 x3 h0 n0 _ T10_.heap _
    rw [e10_]
    exact ⟨rfl, N10_, k15_, f11_, f12_, w10_, f13_⟩
theorem d3_0 : decode jdk_65_method_113_code 0 = .ok (.iconst 0, 1) := by decide +kernel
theorem d3_1 : decode jdk_65_method_113_code 1 = .ok (.istore_n 3, 1) := by decide +kernel
theorem d3_2 : decode jdk_65_method_113_code 2 = .ok (.aload_n 0, 1) := by decide +kernel
theorem d3_3 : decode jdk_65_method_113_code 3 = .ok (.arraylength, 1) := by decide +kernel
theorem d3_4 : decode jdk_65_method_113_code 4 = .ok (.istore 4, 2) := by decide +kernel
theorem d3_6 : decode jdk_65_method_113_code 6 = .ok (.iload_n 3, 1) := by decide +kernel
theorem d3_7 : decode jdk_65_method_113_code 7 = .ok (.iload 4, 2) := by decide +kernel
theorem d3_9 : decode jdk_65_method_113_code 9 = .ok (.if_icmp .ge 13, 3) := by decide +kernel
theorem d3_12 : decode jdk_65_method_113_code 12 = .ok (.aload_n 0, 1) := by decide +kernel
theorem d3_13 : decode jdk_65_method_113_code 13 = .ok (.iload_n 3, 1) := by decide +kernel
theorem d3_14 : decode jdk_65_method_113_code 14 = .ok (.dload_n 1, 1) := by decide +kernel
theorem d3_15 : decode jdk_65_method_113_code 15 = .ok (.dastore, 1) := by decide +kernel
theorem d3_16 : decode jdk_65_method_113_code 16 = .ok (.iinc 3 1, 3) := by decide +kernel
theorem d3_19 : decode jdk_65_method_113_code 19 = .ok (.goto (-13), 3) := by decide +kernel
theorem d3_22 : decode jdk_65_method_113_code 22 = .ok (.return_, 1) := by decide +kernel
theorem pn_java_util_Arrays : plainName "java/util/Arrays" = true := by first | (simp [plainName, overriddenIn]; done) | decide +kernel
theorem ef_rmFill2 (m : MethodId) (x0 : Addr) (x1 : UInt64) : entryFrame m #[(.ref x0), (.double x1)] 5 = mkF m 0 #[.val (.ref x0), .val (.double x1), .second, .unset, .unset] [] := by first | (simp [entryFrame, mkF, argsToLocals, Value.category]; done) | rfl
def Q_rmFill2 (Z : State) (a1 : Addr) (v1 : UInt64) (k1 : ClassId) (x0 : UInt64) (x1 : UInt64) (h0 : Heap) (n0 : Nat) (v : Option Value) (h : Heap) (L : List Loc) : Prop := v = none ∧ Fr n0 L ∧ Keep h0 h [a1] ∧ (Arv Z h a1 k1 .double (2 : Int32) [(.double v1), (.double v1)] (.double (0 : UInt64)))
set_option maxRecDepth 65536 in
set_option maxHeartbeats 40000000 in
theorem rmFill2 (l : Launch) (Z : State) (a0 : Array Value) (hw : ∀ d ∈ tables_1, d.before a0 Z = true) (ws : List Jvm.Cond) (a1 : Addr) (v1 : UInt64) (k1 : ClassId) (x0 : UInt64) (x1 : UInt64) (h0 : Heap) (n0 : Nat) (Z0 : n0 ≤ h0.size) (V1 : Arv Z h0 a1 k1 .double (2 : Int32) [(.double x0), (.double x1)] (.double (0 : UInt64))) (g1 : n0 ≤ a1) :
    MetFree l (⟨"java/util/Arrays", "fill", "([DD)V"⟩ : MethodName) (head1 (Jvm.Cond.code (⟨"java/util/Arrays", "fill", "([DD)V"⟩ : MethodName) jdk_65_method_113_code 5 none :: ws) ({ frames := 0, cells := 0, slots := 0, locals := 0 } : Room)) (fun a U => a = #[(.ref a1), (.double v1)] ∧ Z.Warmed39 U.vm ∧ U.heap = h0) (fun _ _ _ _ _ => True) (fun _ U o U' => ∃ v L, o = .returned v ∧ Q_rmFill2 Z a1 v1 k1 x0 x1 h0 n0 v U'.heap L ∧ FrameEnd U o U' L ({ frames := 0, cells := 0, slots := 0, locals := 0 } : Room).cells ({ frames := 0, cells := 0, slots := 0, locals := 0 } : Room).slots) := by
  refine MetFree.of_bodySF (plainFor_of_name pn_java_util_Arrays) hisR ?_
  intro p e s m args below meth c s₁ Bd hml0 hP hK
  obtain ⟨rfl, hZ, hh⟩ := hP
  have hx := Bd.exec
  have hby := Bd.bytes
  have hml : c.maxLocals = 5 := hml0
  have hown : s.vm.findClass "java/util/Arrays" = some m.cls := findClass_of_methodNamed Bd.named
  have hnm := (name_of_methodNamed Bd.named Bd.method).1
  have X0 : Stand p l e ({ frames := 0, cells := 0, slots := 0, locals := 0 } : Room) s m #[(.ref a1), (.double v1)] below meth c s₁ [] 0 0 := Stand.of_body Bd
  have e0 : s₁.heap = h0 := by rw [← hh, Bd.state]; rfl
  have N0 := Fr.nil n0
  have pre0 : ∀ t, Steps p.tables e below (s₁.setTop (mkF m 0 #[.val (.ref a1), .val (.double v1), .second, .unset, .unset] [])) t → Steps p.tables e below (s₁.setTop (entryFrame m #[(.ref a1), (.double v1)] 5)) t := fun t k => castTop (ef_rmFill2 m a1 v1) k
  obtain ⟨cl1_, Ar1_, q1_, S1_, M1_, Hs1_, G1_⟩ := id V1
  obtain ⟨cl2_, Ar2_, q2_, S2_, M2_, Hs2_, G2_⟩ := id V1
  have in2_ : ¬ ((0 : Int32) < 0 ∨ cl2_.slots.size ≤ ((0 : Int32)).toNatClampNeg) := inb_of S2_ ⟨by decide, by decide⟩
  obtain ⟨T2_, h2_, X2_, e2_, W2_, st2_⟩ := stD X0 hx hZ e0 Ar2_ (j := (0 : Int32)) in2_ (g := (mkF m 15 #[.val (.ref a1), .val (.double v1), .second, .val (.int (0 : Int32)), .val (.int (2 : Int32))] [(.double v1), (.int (0 : Int32)), (.ref a1)])) rfl rfl (hb hby d3_15)
  have v2_ : Arv Z h2_ a1 k1 .double (2 : Int32) [(.double v1), (.double x1)] (.double (0 : UInt64)) := Arv.set Ar2_ q2_ S2_ M2_ Hs2_ G2_ rfl W2_ 0 rfl (Nat.le_of_ble_eq_true rfl)
  have N2_ := Fr.snoc X2_ N0 g1
  obtain ⟨cl3_, Ar3_, q3_, S3_, M3_, Hs3_, G3_⟩ := id v2_
  have in3_ : ¬ ((1 : Int32) < 0 ∨ cl3_.slots.size ≤ ((1 : Int32)).toNatClampNeg) := inb_of S3_ ⟨by decide, by decide⟩
  obtain ⟨T3_, h3_, X3_, e3_, W3_, st3_⟩ := stD X2_ hx hZ e2_ Ar3_ (j := (1 : Int32)) in3_ (g := (mkF m 15 #[.val (.ref a1), .val (.double v1), .second, .val (.int (1 : Int32)), .val (.int (2 : Int32))] [(.double v1), (.int (1 : Int32)), (.ref a1)])) rfl rfl (hb hby d3_15)
  have v3_ : Arv Z h3_ a1 k1 .double (2 : Int32) [(.double v1), (.double v1)] (.double (0 : UInt64)) := Arv.set Ar3_ q3_ S3_ M3_ Hs3_ G3_ rfl W3_ 1 rfl (Nat.le_of_ble_eq_true rfl)
  have N3_ := Fr.snoc X3_ N2_ g1
  have k4_ : Keep h0 h2_ [a1] := (Keep.refl h0 [a1]).wr W2_ (Or.inl (List.mem_of_getElem? (i := 0) rfl))
  have k5_ : Keep h0 h3_ [a1] := k4_.wr W3_ (Or.inl (List.mem_of_getElem? (i := 0) rfl))
  obtain ⟨fs, hr, hrun, hended, hW, hsame⟩ := X3_.leave (v := none) (fun h => by first | rfl | (rw [Bd.returns] at h; cases h))
  refine ⟨_, _, pre0 _ ?_, hrun, hended, _, _, rfl, ?_, ⟨_, rfl⟩, hW, hsame.mono (by decide) (by decide)⟩
  · show Steps p.tables e below (s₁.setTop (mkF m 0 #[.val (.ref a1), .val (.double v1), .second, .unset, .unset] [])) _
    refine XS.iconst X0.here hx rfl (hb hby d3_0) ?_
    show Steps p.tables e below (s₁.setTop (mkF m 1 #[.val (.ref a1), .val (.double v1), .second, .unset, .unset] [(.int (0 : Int32))])) _
    refine XS.istoreN X0.here hx rfl (hb hby d3_1) rfl (l' := #[.val (.ref a1), .val (.double v1), .second, .val (.int (0 : Int32)), .unset]) rfl ?_
    show Steps p.tables e below (s₁.setTop (mkF m 2 #[.val (.ref a1), .val (.double v1), .second, .val (.int (0 : Int32)), .unset] [])) _
    refine XS.aloadN X0.here hx rfl (hb hby d3_2) rfl rfl ?_
    show Steps p.tables e below (s₁.setTop (mkF m 3 #[.val (.ref a1), .val (.double v1), .second, .val (.int (0 : Int32)), .unset] [(.ref a1)])) _
    refine X0.arraylength hx (by rw [e0]; exact Ar1_.1) (State.isArrayOf_alike (State.Warmed39.alike hZ) Ar1_.2.1) (g := (mkF m 3 #[.val (.ref a1), .val (.double v1), .second, .val (.int (0 : Int32)), .unset] [(.ref a1)])) rfl rfl (hb hby d3_3) _ ?_
    rw [len_of S1_ M1_]
    show Steps p.tables e below (s₁.setTop (mkF m 4 #[.val (.ref a1), .val (.double v1), .second, .val (.int (0 : Int32)), .unset] [(.int (2 : Int32))])) _
    refine XS.istore X0.here hx rfl (hb hby d3_4) rfl (l' := #[.val (.ref a1), .val (.double v1), .second, .val (.int (0 : Int32)), .val (.int (2 : Int32))]) rfl ?_
    show Steps p.tables e below (s₁.setTop (mkF m 6 #[.val (.ref a1), .val (.double v1), .second, .val (.int (0 : Int32)), .val (.int (2 : Int32))] [])) _
    refine XS.iloadN X0.here hx rfl (hb hby d3_6) rfl ?_
    show Steps p.tables e below (s₁.setTop (mkF m 7 #[.val (.ref a1), .val (.double v1), .second, .val (.int (0 : Int32)), .val (.int (2 : Int32))] [(.int (0 : Int32))])) _
    refine XS.iload X0.here hx rfl (hb hby d3_7) rfl ?_
    show Steps p.tables e below (s₁.setTop (mkF m 9 #[.val (.ref a1), .val (.double v1), .second, .val (.int (0 : Int32)), .val (.int (2 : Int32))] [(.int (2 : Int32)), (.int (0 : Int32))])) _
    refine XS.icmpNo X0.here hx rfl (hb hby d3_9) rfl (tlt ((by decide) : (0 : Int32) < (2 : Int32))).2.1 ?_
    show Steps p.tables e below (s₁.setTop (mkF m 12 #[.val (.ref a1), .val (.double v1), .second, .val (.int (0 : Int32)), .val (.int (2 : Int32))] [])) _
    refine XS.aloadN X0.here hx rfl (hb hby d3_12) rfl rfl ?_
    show Steps p.tables e below (s₁.setTop (mkF m 13 #[.val (.ref a1), .val (.double v1), .second, .val (.int (0 : Int32)), .val (.int (2 : Int32))] [(.ref a1)])) _
    refine XS.iloadN X0.here hx rfl (hb hby d3_13) rfl ?_
    show Steps p.tables e below (s₁.setTop (mkF m 14 #[.val (.ref a1), .val (.double v1), .second, .val (.int (0 : Int32)), .val (.int (2 : Int32))] [(.int (0 : Int32)), (.ref a1)])) _
    refine XS.dloadN X0.here hx rfl (hb hby d3_14) rfl ?_
    show Steps p.tables e below (s₁.setTop (mkF m 15 #[.val (.ref a1), .val (.double v1), .second, .val (.int (0 : Int32)), .val (.int (2 : Int32))] [(.double v1), (.int (0 : Int32)), (.ref a1)])) _
    refine st2_ _ ?_
    show Steps p.tables e below (T2_.setTop (mkF m 16 #[.val (.ref a1), .val (.double v1), .second, .val (.int (0 : Int32)), .val (.int (2 : Int32))] [])) _
    refine XS.iinc X2_.here hx rfl (hb hby d3_16) rfl (l' := #[.val (.ref a1), .val (.double v1), .second, .val (.int (1 : Int32)), .val (.int (2 : Int32))]) rfl ?_
    show Steps p.tables e below (T2_.setTop (mkF m 19 #[.val (.ref a1), .val (.double v1), .second, .val (.int (1 : Int32)), .val (.int (2 : Int32))] [])) _
    refine XS.goto X2_.here hx rfl (pc0 := 19) (pc' := 6) rfl (hb hby d3_19) (by decide) (by decide) ?_
    show Steps p.tables e below (T2_.setTop (mkF m 6 #[.val (.ref a1), .val (.double v1), .second, .val (.int (1 : Int32)), .val (.int (2 : Int32))] [])) _
    refine XS.iloadN X2_.here hx rfl (hb hby d3_6) rfl ?_
    show Steps p.tables e below (T2_.setTop (mkF m 7 #[.val (.ref a1), .val (.double v1), .second, .val (.int (1 : Int32)), .val (.int (2 : Int32))] [(.int (1 : Int32))])) _
    refine XS.iload X2_.here hx rfl (hb hby d3_7) rfl ?_
    show Steps p.tables e below (T2_.setTop (mkF m 9 #[.val (.ref a1), .val (.double v1), .second, .val (.int (1 : Int32)), .val (.int (2 : Int32))] [(.int (2 : Int32)), (.int (1 : Int32))])) _
    refine XS.icmpNo X2_.here hx rfl (hb hby d3_9) rfl (tlt ((by decide) : (1 : Int32) < (2 : Int32))).2.1 ?_
    show Steps p.tables e below (T2_.setTop (mkF m 12 #[.val (.ref a1), .val (.double v1), .second, .val (.int (1 : Int32)), .val (.int (2 : Int32))] [])) _
    refine XS.aloadN X2_.here hx rfl (hb hby d3_12) rfl rfl ?_
    show Steps p.tables e below (T2_.setTop (mkF m 13 #[.val (.ref a1), .val (.double v1), .second, .val (.int (1 : Int32)), .val (.int (2 : Int32))] [(.ref a1)])) _
    refine XS.iloadN X2_.here hx rfl (hb hby d3_13) rfl ?_
    show Steps p.tables e below (T2_.setTop (mkF m 14 #[.val (.ref a1), .val (.double v1), .second, .val (.int (1 : Int32)), .val (.int (2 : Int32))] [(.int (1 : Int32)), (.ref a1)])) _
    refine XS.dloadN X2_.here hx rfl (hb hby d3_14) rfl ?_
    show Steps p.tables e below (T2_.setTop (mkF m 15 #[.val (.ref a1), .val (.double v1), .second, .val (.int (1 : Int32)), .val (.int (2 : Int32))] [(.double v1), (.int (1 : Int32)), (.ref a1)])) _
    refine st3_ _ ?_
    show Steps p.tables e below (T3_.setTop (mkF m 16 #[.val (.ref a1), .val (.double v1), .second, .val (.int (1 : Int32)), .val (.int (2 : Int32))] [])) _
    refine XS.iinc X3_.here hx rfl (hb hby d3_16) rfl (l' := #[.val (.ref a1), .val (.double v1), .second, .val (.int (2 : Int32)), .val (.int (2 : Int32))]) rfl ?_
    show Steps p.tables e below (T3_.setTop (mkF m 19 #[.val (.ref a1), .val (.double v1), .second, .val (.int (2 : Int32)), .val (.int (2 : Int32))] [])) _
    refine XS.goto X3_.here hx rfl (pc0 := 19) (pc' := 6) rfl (hb hby d3_19) (by decide) (by decide) ?_
    show Steps p.tables e below (T3_.setTop (mkF m 6 #[.val (.ref a1), .val (.double v1), .second, .val (.int (2 : Int32)), .val (.int (2 : Int32))] [])) _
    refine XS.iloadN X3_.here hx rfl (hb hby d3_6) rfl ?_
    show Steps p.tables e below (T3_.setTop (mkF m 7 #[.val (.ref a1), .val (.double v1), .second, .val (.int (2 : Int32)), .val (.int (2 : Int32))] [(.int (2 : Int32))])) _
    refine XS.iload X3_.here hx rfl (hb hby d3_7) rfl ?_
    show Steps p.tables e below (T3_.setTop (mkF m 9 #[.val (.ref a1), .val (.double v1), .second, .val (.int (2 : Int32)), .val (.int (2 : Int32))] [(.int (2 : Int32)), (.int (2 : Int32))])) _
    refine XS.icmpYes X3_.here hx rfl (pc0 := 9) (pc' := 22) rfl (hb hby d3_9) rfl (flt ((by decide) : ¬ ((2 : Int32) < (2 : Int32)))).2.1 (by decide) (by decide) ?_
    show Steps p.tables e below (T3_.setTop (mkF m 22 #[.val (.ref a1), .val (.double v1), .second, .val (.int (2 : Int32)), .val (.int (2 : Int32))] [])) _
    exact X3_.returnOut hx Bd.returns (hb hby d3_22) hr
  · show Q_rmFill2 Z a1 v1 k1 x0 x1 h0 n0 _ T3_.heap _
    rw [e3_]
    exact ⟨rfl, N3_, k5_, v3_⟩
theorem d1_0 : decode prog_11_method_1_code 0 = .ok (.aload_n 0, 1) := by decide +kernel
theorem d1_1 : decode prog_11_method_1_code 1 = .ok (.invokespecial 1, 3) := by decide +kernel
theorem d1_4 : decode prog_11_method_1_code 4 = .ok (.iload_n 1, 1) := by decide +kernel
theorem d1_5 : decode prog_11_method_1_code 5 = .ok (.iconst 1, 1) := by decide +kernel
theorem d1_6 : decode prog_11_method_1_code 6 = .ok (.if_icmp .ge 17, 3) := by decide +kernel
theorem d1_23 : decode prog_11_method_1_code 23 = .ok (.aload_n 0, 1) := by decide +kernel
theorem d1_24 : decode prog_11_method_1_code 24 = .ok (.iload_n 1, 1) := by decide +kernel
theorem d1_25 : decode prog_11_method_1_code 25 = .ok (.newarray .double, 2) := by decide +kernel
theorem d1_27 : decode prog_11_method_1_code 27 = .ok (.putfield 16, 3) := by decide +kernel
theorem d1_30 : decode prog_11_method_1_code 30 = .ok (.aload_n 0, 1) := by decide +kernel
theorem d1_31 : decode prog_11_method_1_code 31 = .ok (.getfield 16, 3) := by decide +kernel
theorem d1_34 : decode prog_11_method_1_code 34 = .ok (.dload_n 2, 1) := by decide +kernel
theorem d1_35 : decode prog_11_method_1_code 35 = .ok (.invokestatic 22, 3) := by decide +kernel
theorem pd_qaDDzV : parseMethodDescriptor "([DD)V" = some ⟨[(.array .double), .double], none⟩ := by decide +kernel
theorem d1_38 : decode prog_11_method_1_code 38 = .ok (.return_, 1) := by decide +kernel
theorem ef_rmInit2 (m : MethodId) (x0 : Addr) (x1 : Int32) (x2 : UInt64) : entryFrame m #[(.ref x0), (.int x1), (.double x2)] 4 = mkF m 0 #[.val (.ref x0), .val (.int x1), .val (.double x2), .second] [] := by first | (simp [entryFrame, mkF, argsToLocals, Value.category]; done) | rfl
def Q_rmInit2 (Z : State) (a1 : Addr) (v1 : UInt64) (h0 : Heap) (n0 : Nat) (v : Option Value) (h : Heap) (L : List Loc) : Prop := ∃ (t : Addr) (k : ClassId), v = none ∧ Fr n0 L ∧ Keep h0 h [a1] ∧ (h0.size ≤ t) ∧ (Exa Z h a1 "com/example/whipstill/whipstill/MovingWindow") ∧ (Fld Z h a1 "com/example/whipstill/whipstill/MovingWindow" "values" "[D" (.ref t)) ∧ (Fld Z h a1 "com/example/whipstill/whipstill/MovingWindow" "oldest" "I" (.int (0 : Int32))) ∧ (Arv Z h t k .double (2 : Int32) [(.double v1), (.double v1)] (.double (0 : UInt64)))
set_option maxRecDepth 65536 in
set_option maxHeartbeats 40000000 in
theorem rmInit2 (l : Launch) (Z : State) (a0 : Array Value) (hw : ∀ d ∈ tables_1, d.before a0 Z = true) (ws : List Jvm.Cond) (a1 : Addr) (v1 : UInt64) (h0 : Heap) (n0 : Nat) (Z0 : n0 ≤ h0.size) (E1 : Exa Z h0 a1 "com/example/whipstill/whipstill/MovingWindow") (F1 : Fld Z h0 a1 "com/example/whipstill/whipstill/MovingWindow" "values" "[D" .null) (F2 : Fld Z h0 a1 "com/example/whipstill/whipstill/MovingWindow" "oldest" "I" (.int (0 : Int32))) (g1 : n0 ≤ a1) :
    MetFree l (⟨"com/example/whipstill/whipstill/MovingWindow", "<init>", "(ID)V"⟩ : MethodName) (head1 (Jvm.Cond.code (⟨"com/example/whipstill/whipstill/MovingWindow", "<init>", "(ID)V"⟩ : MethodName) prog_11_method_1_code 4 none :: ws) ({ frames := 1, cells := 1, slots := 2, locals := 16 } : Room)) (fun a U => a = #[(.ref a1), (.int (2 : Int32)), (.double v1)] ∧ Z.Warmed39 U.vm ∧ U.heap = h0) (fun _ _ _ _ _ => True) (fun _ U o U' => ∃ v L, o = .returned v ∧ Q_rmInit2 Z a1 v1 h0 n0 v U'.heap L ∧ FrameEnd U o U' L ({ frames := 1, cells := 1, slots := 2, locals := 16 } : Room).cells ({ frames := 1, cells := 1, slots := 2, locals := 16 } : Room).slots) := by
  refine MetFree.of_bodySF (plainFor_of_name pn_com_example_whipstill_whipstill_MovingWindow) hisR ?_
  intro p e s m args below meth c s₁ Bd hml0 hP hK
  obtain ⟨rfl, hZ, hh⟩ := hP
  have hx := Bd.exec
  have hby := Bd.bytes
  have hml : c.maxLocals = 4 := hml0
  have hown : s.vm.findClass "com/example/whipstill/whipstill/MovingWindow" = some m.cls := findClass_of_methodNamed Bd.named
  have hnm := (name_of_methodNamed Bd.named Bd.method).1
  have X0 : Stand p l e ({ frames := 1, cells := 1, slots := 2, locals := 16 } : Room) s m #[(.ref a1), (.int (2 : Int32)), (.double v1)] below meth c s₁ [] 0 0 := Stand.of_body Bd
  have e0 : s₁.heap = h0 := by rw [← hh, Bd.state]; rfl
  have N0 := Fr.nil n0
  have pre0 : ∀ t, Steps p.tables e below (s₁.setTop (mkF m 0 #[.val (.ref a1), .val (.int (2 : Int32)), .val (.double v1), .second] [])) t → Steps p.tables e below (s₁.setTop (entryFrame m #[(.ref a1), (.int (2 : Int32)), (.double v1)] 4)) t := fun t k => castTop (ef_rmInit2 m a1 (2 : Int32) v1) k
  obtain ⟨T1_, X1_, e1_, st1_⟩ := initO X0 hx hZ hown (hw _ (List.mem_of_getElem? (i := 7) rfl)) (hw _ (List.mem_of_getElem? (i := 8) rfl)) (hw _ (List.mem_of_getElem? (i := 9) rfl)) e0 (g := (mkF m 1 #[.val (.ref a1), .val (.int (2 : Int32)), .val (.double v1), .second] [(.ref a1)])) rfl (by rw [hml]; rfl) rfl (hb hby d1_1) (by decide) (W := 0) (by show 2 * 0 + _ ≤ _; exact Nat.le_of_eq rfl) (by decide)
  obtain ⟨T2_, h2_, k2_, X2_, e2_, E2_, A2_, st2_⟩ := newP X1_ hx hZ (hw _ (List.mem_of_getElem? (i := 10) rfl)) e1_ (g := (mkF m 25 #[.val (.ref a1), .val (.int (2 : Int32)), .val (.double v1), .second] [(.int (2 : Int32)), (.ref a1)])) rfl (hb hby d1_25) rfl (by decide) (cap := 2) (by decide) (by decide) (by decide) (by decide)
  obtain ⟨b2_, g2_⟩ : ∃ z, z = h0.size := ⟨_, rfl⟩
  rw [← g2_] at A2_ st2_
  have v2_ : Arv Z h2_ b2_ k2_ .double (2 : Int32) [(.double (0 : UInt64)), (.double (0 : UInt64))] (.double (0 : UInt64)) := (Arv.new A2_ (by decide)).pad (pad_rep [] (.double (0 : UInt64)) 2)
  have f3_ : Exa Z h2_ a1 "com/example/whipstill/whipstill/MovingWindow" := (E1.ext E2_)
  have f4_ : Fld Z h2_ a1 "com/example/whipstill/whipstill/MovingWindow" "values" "[D" .null := (F1.ext E2_)
  obtain ⟨T5_, h5_, X5_, e5_, W5_, st5_⟩ := putF X2_ hx hZ hown (host := "") (Or.inl (hw _ (List.mem_of_getElem? (i := 11) rfl))) Via.refl e2_ f4_ f3_ (Or.inr ⟨(hw _ (List.mem_of_getElem? (i := 12) rfl)), rfl, hnm⟩) (hw _ (List.mem_of_getElem? (i := 2) rfl)) (ty := (.array .double)) (by decide) rfl rfl (g := (mkF m 27 #[.val (.ref a1), .val (.int (2 : Int32)), .val (.double v1), .second] [(.ref b2_), (.ref a1)])) rfl rfl (hb hby d1_27)
  have w5_ : Fld Z h5_ a1 "com/example/whipstill/whipstill/MovingWindow" "values" "[D" (.ref b2_) := f4_.same W5_
  have N5_ := Fr.snoc X5_ N0 g1
  obtain ⟨T6_, X6_, e6_, st6_⟩ := getF X5_ hx hZ hown (host := "") (Or.inl (hw _ (List.mem_of_getElem? (i := 11) rfl))) Via.refl e5_ w5_ (g := (mkF m 31 #[.val (.ref a1), .val (.int (2 : Int32)), .val (.double v1), .second] [(.ref a1)])) rfl rfl (hb hby d1_31)
  have f8_ : Arv Z h5_ b2_ k2_ .double (2 : Int32) [(.double (0 : UInt64)), (.double (0 : UInt64))] (.double (0 : UInt64)) := (v2_.other W5_ (Ne.symm (Nat.ne_of_lt (Nat.lt_of_lt_of_le E1.lt (Nat.le_of_eq g2_.symm)))))
  have g9_ : n0 ≤ b2_ := Nat.le_trans Z0 (Nat.le_of_eq g2_.symm)
  have z10_ : n0 ≤ h2_.size := Nat.le_trans Z0 E2_.1
  have z11_ : n0 ≤ h5_.size := Nat.le_trans z10_ (Keep.of_wr W5_).1
  obtain ⟨_, _, ⟨T7_, L7_, k7_, n7_⟩, -, X7_, ⟨Lc7_, hQ7_, l7_, y7_, z7_⟩, st7_⟩ := Jvm.LawKit.callS X6_ hx (y := (⟨"java/util/Arrays", "fill", "([DD)V"⟩ : MethodName)) hown (mvT hZ (hw _ (List.mem_of_getElem? (i := 13) rfl))) (mvT hZ (hw _ (List.mem_of_getElem? (i := 14) rfl))) (mvT hZ (hw _ (List.mem_of_getElem? (i := 15) rfl))) (mvT hZ (hw _ (List.mem_of_getElem? (i := 16) rfl))) (by decide) (backOf (W := 0) (rmFill2 l Z a0 hw [] b2_ v1 k2_ (0 : UInt64) (0 : UInt64) h5_ n0 z11_ f8_ g9_) hZ (hw _ (List.mem_of_getElem? (i := 16) rfl)) (hw _ (List.mem_of_getElem? (i := 15) rfl)) (by decide) (by decide)) (g := (mkF m 35 #[.val (.ref a1), .val (.int (2 : Int32)), .val (.double v1), .second] [(.double v1), (.ref b2_)])) rfl (by rw [hml]; rfl) (argsL := [(.ref b2_), (.double v1)]) (rest := []) (lenOf pd_qaDDzV rfl) rfl (by show 2 * 0 + _ ≤ _; exact Nat.le_of_eq rfl) (hb hby d1_35) (fun _ _ => ⟨rfl, e6_, (by decide : 1 + 0 ≤ _), (by decide : 2 + 0 ≤ _)⟩)
  dsimp only [Pt.U, Pt.locs, Pt.cells, Pt.slots] at X7_ l7_ y7_ z7_ st7_ hQ7_
  subst l7_ y7_ z7_
  obtain ⟨rfl, Nq7_, ek7_, p7__0⟩ := hQ7_
  have N7_ := Fr.app N5_ Nq7_
  have f12_ : Exa Z T7_.heap a1 "com/example/whipstill/whipstill/MovingWindow" := ((f3_.wr W5_).keep ek7_)
  have f13_ : Fld Z T7_.heap a1 "com/example/whipstill/whipstill/MovingWindow" "values" "[D" (.ref b2_) := (w5_.keep ek7_ (ninS (Nat.ne_of_lt (Nat.lt_of_lt_of_le E1.lt (Nat.le_of_eq g2_.symm))) nin0))
  have f14_ : Fld Z T7_.heap a1 "com/example/whipstill/whipstill/MovingWindow" "oldest" "I" (.int (0 : Int32)) := (((F2.ext E2_).other W5_ (Or.inr (slot_ne (Or.inl (hw _ (List.mem_of_getElem? (i := 23) rfl))) (Or.inr (hw _ (List.mem_of_getElem? (i := 12) rfl))) (by decide) (t := .int) (t' := (.array .double)) (by decide) (by decide)))).keep ek7_ (ninS (Nat.ne_of_lt (Nat.lt_of_lt_of_le E1.lt (Nat.le_of_eq g2_.symm))) nin0))
  have k15_ : Keep h0 h2_ [a1] := (Keep.refl h0 [a1]).ext E2_
  have k16_ : Keep h0 h5_ [a1] := k15_.wr W5_ (Or.inl (List.mem_of_getElem? (i := 0) rfl))
  have k17_ : Keep h0 T7_.heap [a1] := k16_.trans ek7_ (allS (Or.inr (Nat.le_trans (Keep.refl h0 [a1]).1 (Nat.le_of_eq g2_.symm))) all0)
  obtain ⟨fs, hr, hrun, hended, hW, hsame⟩ := X7_.leave (v := none) (fun h => by first | rfl | (rw [Bd.returns] at h; cases h))
  refine ⟨_, _, pre0 _ ?_, hrun, hended, _, _, rfl, ?_, ⟨_, rfl⟩, hW, hsame.mono (by decide) (by decide)⟩
  · show Steps p.tables e below (s₁.setTop (mkF m 0 #[.val (.ref a1), .val (.int (2 : Int32)), .val (.double v1), .second] [])) _
    refine XS.aloadN X0.here hx rfl (hb hby d1_0) rfl rfl ?_
    show Steps p.tables e below (s₁.setTop (mkF m 1 #[.val (.ref a1), .val (.int (2 : Int32)), .val (.double v1), .second] [(.ref a1)])) _
    refine st1_ _ ?_
    show Steps p.tables e below (T1_.setTop (mkF m 4 #[.val (.ref a1), .val (.int (2 : Int32)), .val (.double v1), .second] [])) _
    refine XS.iloadN X1_.here hx rfl (hb hby d1_4) rfl ?_
    show Steps p.tables e below (T1_.setTop (mkF m 5 #[.val (.ref a1), .val (.int (2 : Int32)), .val (.double v1), .second] [(.int (2 : Int32))])) _
    refine XS.iconst X1_.here hx rfl (hb hby d1_5) ?_
    show Steps p.tables e below (T1_.setTop (mkF m 6 #[.val (.ref a1), .val (.int (2 : Int32)), .val (.double v1), .second] [(.int (1 : Int32)), (.int (2 : Int32))])) _
    refine XS.icmpYes X1_.here hx rfl (pc0 := 6) (pc' := 23) rfl (hb hby d1_6) rfl (flt ((by decide) : ¬ ((2 : Int32) < (1 : Int32)))).2.1 (by decide) (by decide) ?_
    show Steps p.tables e below (T1_.setTop (mkF m 23 #[.val (.ref a1), .val (.int (2 : Int32)), .val (.double v1), .second] [])) _
    refine XS.aloadN X1_.here hx rfl (hb hby d1_23) rfl rfl ?_
    show Steps p.tables e below (T1_.setTop (mkF m 24 #[.val (.ref a1), .val (.int (2 : Int32)), .val (.double v1), .second] [(.ref a1)])) _
    refine XS.iloadN X1_.here hx rfl (hb hby d1_24) rfl ?_
    show Steps p.tables e below (T1_.setTop (mkF m 25 #[.val (.ref a1), .val (.int (2 : Int32)), .val (.double v1), .second] [(.int (2 : Int32)), (.ref a1)])) _
    refine st2_ _ ?_
    show Steps p.tables e below (T2_.setTop (mkF m 27 #[.val (.ref a1), .val (.int (2 : Int32)), .val (.double v1), .second] [(.ref b2_), (.ref a1)])) _
    refine st5_ _ ?_
    show Steps p.tables e below (T5_.setTop (mkF m 30 #[.val (.ref a1), .val (.int (2 : Int32)), .val (.double v1), .second] [])) _
    refine XS.aloadN X5_.here hx rfl (hb hby d1_30) rfl rfl ?_
    show Steps p.tables e below (T5_.setTop (mkF m 31 #[.val (.ref a1), .val (.int (2 : Int32)), .val (.double v1), .second] [(.ref a1)])) _
    refine st6_ _ ?_
    show Steps p.tables e below (T6_.setTop (mkF m 34 #[.val (.ref a1), .val (.int (2 : Int32)), .val (.double v1), .second] [(.ref b2_)])) _
    refine XS.dloadN X6_.here hx rfl (hb hby d1_34) rfl ?_
    show Steps p.tables e below (T6_.setTop (mkF m 35 #[.val (.ref a1), .val (.int (2 : Int32)), .val (.double v1), .second] [(.double v1), (.ref b2_)])) _
    refine st7_ _ ?_
    show Steps p.tables e below (T7_.setTop (mkF m 38 #[.val (.ref a1), .val (.int (2 : Int32)), .val (.double v1), .second] [])) _
    exact X7_.returnOut hx Bd.returns (hb hby d1_38) hr
  · show Q_rmInit2 Z a1 v1 h0 n0 _ T7_.heap _
    skip
    exact ⟨b2_, k2_, rfl, N7_, k17_, (Nat.le_trans (Keep.refl h0 [a1]).1 (Nat.le_of_eq g2_.symm)), f12_, f13_, f14_, p7__0⟩
theorem ef_rmFill3 (m : MethodId) (x0 : Addr) (x1 : UInt64) : entryFrame m #[(.ref x0), (.double x1)] 5 = mkF m 0 #[.val (.ref x0), .val (.double x1), .second, .unset, .unset] [] := by first | (simp [entryFrame, mkF, argsToLocals, Value.category]; done) | rfl
def Q_rmFill3 (Z : State) (a1 : Addr) (v1 : UInt64) (k1 : ClassId) (x0 : UInt64) (x1 : UInt64) (x2 : UInt64) (h0 : Heap) (n0 : Nat) (v : Option Value) (h : Heap) (L : List Loc) : Prop := v = none ∧ Fr n0 L ∧ Keep h0 h [a1] ∧ (Arv Z h a1 k1 .double (3 : Int32) [(.double v1), (.double v1), (.double v1)] (.double (0 : UInt64)))
set_option maxRecDepth 65536 in
set_option maxHeartbeats 40000000 in
theorem rmFill3 (l : Launch) (Z : State) (a0 : Array Value) (hw : ∀ d ∈ tables_1, d.before a0 Z = true) (ws : List Jvm.Cond) (a1 : Addr) (v1 : UInt64) (k1 : ClassId) (x0 : UInt64) (x1 : UInt64) (x2 : UInt64) (h0 : Heap) (n0 : Nat) (Z0 : n0 ≤ h0.size) (V1 : Arv Z h0 a1 k1 .double (3 : Int32) [(.double x0), (.double x1), (.double x2)] (.double (0 : UInt64))) (g1 : n0 ≤ a1) :
    MetFree l (⟨"java/util/Arrays", "fill", "([DD)V"⟩ : MethodName) (head1 (Jvm.Cond.code (⟨"java/util/Arrays", "fill", "([DD)V"⟩ : MethodName) jdk_65_method_113_code 5 none :: ws) ({ frames := 0, cells := 0, slots := 0, locals := 0 } : Room)) (fun a U => a = #[(.ref a1), (.double v1)] ∧ Z.Warmed39 U.vm ∧ U.heap = h0) (fun _ _ _ _ _ => True) (fun _ U o U' => ∃ v L, o = .returned v ∧ Q_rmFill3 Z a1 v1 k1 x0 x1 x2 h0 n0 v U'.heap L ∧ FrameEnd U o U' L ({ frames := 0, cells := 0, slots := 0, locals := 0 } : Room).cells ({ frames := 0, cells := 0, slots := 0, locals := 0 } : Room).slots) := by
  refine MetFree.of_bodySF (plainFor_of_name pn_java_util_Arrays) hisR ?_
  intro p e s m args below meth c s₁ Bd hml0 hP hK
  obtain ⟨rfl, hZ, hh⟩ := hP
  have hx := Bd.exec
  have hby := Bd.bytes
  have hml : c.maxLocals = 5 := hml0
  have hown : s.vm.findClass "java/util/Arrays" = some m.cls := findClass_of_methodNamed Bd.named
  have hnm := (name_of_methodNamed Bd.named Bd.method).1
  have X0 : Stand p l e ({ frames := 0, cells := 0, slots := 0, locals := 0 } : Room) s m #[(.ref a1), (.double v1)] below meth c s₁ [] 0 0 := Stand.of_body Bd
  have e0 : s₁.heap = h0 := by rw [← hh, Bd.state]; rfl
  have N0 := Fr.nil n0
  have pre0 : ∀ t, Steps p.tables e below (s₁.setTop (mkF m 0 #[.val (.ref a1), .val (.double v1), .second, .unset, .unset] [])) t → Steps p.tables e below (s₁.setTop (entryFrame m #[(.ref a1), (.double v1)] 5)) t := fun t k => castTop (ef_rmFill3 m a1 v1) k
  obtain ⟨cl1_, Ar1_, q1_, S1_, M1_, Hs1_, G1_⟩ := id V1
  obtain ⟨cl2_, Ar2_, q2_, S2_, M2_, Hs2_, G2_⟩ := id V1
  have in2_ : ¬ ((0 : Int32) < 0 ∨ cl2_.slots.size ≤ ((0 : Int32)).toNatClampNeg) := inb_of S2_ ⟨by decide, by decide⟩
  obtain ⟨T2_, h2_, X2_, e2_, W2_, st2_⟩ := stD X0 hx hZ e0 Ar2_ (j := (0 : Int32)) in2_ (g := (mkF m 15 #[.val (.ref a1), .val (.double v1), .second, .val (.int (0 : Int32)), .val (.int (3 : Int32))] [(.double v1), (.int (0 : Int32)), (.ref a1)])) rfl rfl (hb hby d3_15)
  have v2_ : Arv Z h2_ a1 k1 .double (3 : Int32) [(.double v1), (.double x1), (.double x2)] (.double (0 : UInt64)) := Arv.set Ar2_ q2_ S2_ M2_ Hs2_ G2_ rfl W2_ 0 rfl (Nat.le_of_ble_eq_true rfl)
  have N2_ := Fr.snoc X2_ N0 g1
  obtain ⟨cl3_, Ar3_, q3_, S3_, M3_, Hs3_, G3_⟩ := id v2_
  have in3_ : ¬ ((1 : Int32) < 0 ∨ cl3_.slots.size ≤ ((1 : Int32)).toNatClampNeg) := inb_of S3_ ⟨by decide, by decide⟩
  obtain ⟨T3_, h3_, X3_, e3_, W3_, st3_⟩ := stD X2_ hx hZ e2_ Ar3_ (j := (1 : Int32)) in3_ (g := (mkF m 15 #[.val (.ref a1), .val (.double v1), .second, .val (.int (1 : Int32)), .val (.int (3 : Int32))] [(.double v1), (.int (1 : Int32)), (.ref a1)])) rfl rfl (hb hby d3_15)
  have v3_ : Arv Z h3_ a1 k1 .double (3 : Int32) [(.double v1), (.double v1), (.double x2)] (.double (0 : UInt64)) := Arv.set Ar3_ q3_ S3_ M3_ Hs3_ G3_ rfl W3_ 1 rfl (Nat.le_of_ble_eq_true rfl)
  have N3_ := Fr.snoc X3_ N2_ g1
  obtain ⟨cl4_, Ar4_, q4_, S4_, M4_, Hs4_, G4_⟩ := id v3_
  have in4_ : ¬ ((2 : Int32) < 0 ∨ cl4_.slots.size ≤ ((2 : Int32)).toNatClampNeg) := inb_of S4_ ⟨by decide, by decide⟩
  obtain ⟨T4_, h4_, X4_, e4_, W4_, st4_⟩ := stD X3_ hx hZ e3_ Ar4_ (j := (2 : Int32)) in4_ (g := (mkF m 15 #[.val (.ref a1), .val (.double v1), .second, .val (.int (2 : Int32)), .val (.int (3 : Int32))] [(.double v1), (.int (2 : Int32)), (.ref a1)])) rfl rfl (hb hby d3_15)
  have v4_ : Arv Z h4_ a1 k1 .double (3 : Int32) [(.double v1), (.double v1), (.double v1)] (.double (0 : UInt64)) := Arv.set Ar4_ q4_ S4_ M4_ Hs4_ G4_ rfl W4_ 2 rfl (Nat.le_of_ble_eq_true rfl)
  have N4_ := Fr.snoc X4_ N3_ g1
  have k5_ : Keep h0 h2_ [a1] := (Keep.refl h0 [a1]).wr W2_ (Or.inl (List.mem_of_getElem? (i := 0) rfl))
  have k6_ : Keep h0 h3_ [a1] := k5_.wr W3_ (Or.inl (List.mem_of_getElem? (i := 0) rfl))
  have k7_ : Keep h0 h4_ [a1] := k6_.wr W4_ (Or.inl (List.mem_of_getElem? (i := 0) rfl))
  obtain ⟨fs, hr, hrun, hended, hW, hsame⟩ := X4_.leave (v := none) (fun h => by first | rfl | (rw [Bd.returns] at h; cases h))
  refine ⟨_, _, pre0 _ ?_, hrun, hended, _, _, rfl, ?_, ⟨_, rfl⟩, hW, hsame.mono (by decide) (by decide)⟩
  · show Steps p.tables e below (s₁.setTop (mkF m 0 #[.val (.ref a1), .val (.double v1), .second, .unset, .unset] [])) _
    refine XS.iconst X0.here hx rfl (hb hby d3_0) ?_
    show Steps p.tables e below (s₁.setTop (mkF m 1 #[.val (.ref a1), .val (.double v1), .second, .unset, .unset] [(.int (0 : Int32))])) _
    refine XS.istoreN X0.here hx rfl (hb hby d3_1) rfl (l' := #[.val (.ref a1), .val (.double v1), .second, .val (.int (0 : Int32)), .unset]) rfl ?_
    show Steps p.tables e below (s₁.setTop (mkF m 2 #[.val (.ref a1), .val (.double v1), .second, .val (.int (0 : Int32)), .unset] [])) _
    refine XS.aloadN X0.here hx rfl (hb hby d3_2) rfl rfl ?_
    show Steps p.tables e below (s₁.setTop (mkF m 3 #[.val (.ref a1), .val (.double v1), .second, .val (.int (0 : Int32)), .unset] [(.ref a1)])) _
    refine X0.arraylength hx (by rw [e0]; exact Ar1_.1) (State.isArrayOf_alike (State.Warmed39.alike hZ) Ar1_.2.1) (g := (mkF m 3 #[.val (.ref a1), .val (.double v1), .second, .val (.int (0 : Int32)), .unset] [(.ref a1)])) rfl rfl (hb hby d3_3) _ ?_
    rw [len_of S1_ M1_]
    show Steps p.tables e below (s₁.setTop (mkF m 4 #[.val (.ref a1), .val (.double v1), .second, .val (.int (0 : Int32)), .unset] [(.int (3 : Int32))])) _
    refine XS.istore X0.here hx rfl (hb hby d3_4) rfl (l' := #[.val (.ref a1), .val (.double v1), .second, .val (.int (0 : Int32)), .val (.int (3 : Int32))]) rfl ?_
    show Steps p.tables e below (s₁.setTop (mkF m 6 #[.val (.ref a1), .val (.double v1), .second, .val (.int (0 : Int32)), .val (.int (3 : Int32))] [])) _
    refine XS.iloadN X0.here hx rfl (hb hby d3_6) rfl ?_
    show Steps p.tables e below (s₁.setTop (mkF m 7 #[.val (.ref a1), .val (.double v1), .second, .val (.int (0 : Int32)), .val (.int (3 : Int32))] [(.int (0 : Int32))])) _
    refine XS.iload X0.here hx rfl (hb hby d3_7) rfl ?_
    show Steps p.tables e below (s₁.setTop (mkF m 9 #[.val (.ref a1), .val (.double v1), .second, .val (.int (0 : Int32)), .val (.int (3 : Int32))] [(.int (3 : Int32)), (.int (0 : Int32))])) _
    refine XS.icmpNo X0.here hx rfl (hb hby d3_9) rfl (tlt ((by decide) : (0 : Int32) < (3 : Int32))).2.1 ?_
    show Steps p.tables e below (s₁.setTop (mkF m 12 #[.val (.ref a1), .val (.double v1), .second, .val (.int (0 : Int32)), .val (.int (3 : Int32))] [])) _
    refine XS.aloadN X0.here hx rfl (hb hby d3_12) rfl rfl ?_
    show Steps p.tables e below (s₁.setTop (mkF m 13 #[.val (.ref a1), .val (.double v1), .second, .val (.int (0 : Int32)), .val (.int (3 : Int32))] [(.ref a1)])) _
    refine XS.iloadN X0.here hx rfl (hb hby d3_13) rfl ?_
    show Steps p.tables e below (s₁.setTop (mkF m 14 #[.val (.ref a1), .val (.double v1), .second, .val (.int (0 : Int32)), .val (.int (3 : Int32))] [(.int (0 : Int32)), (.ref a1)])) _
    refine XS.dloadN X0.here hx rfl (hb hby d3_14) rfl ?_
    show Steps p.tables e below (s₁.setTop (mkF m 15 #[.val (.ref a1), .val (.double v1), .second, .val (.int (0 : Int32)), .val (.int (3 : Int32))] [(.double v1), (.int (0 : Int32)), (.ref a1)])) _
    refine st2_ _ ?_
    show Steps p.tables e below (T2_.setTop (mkF m 16 #[.val (.ref a1), .val (.double v1), .second, .val (.int (0 : Int32)), .val (.int (3 : Int32))] [])) _
    refine XS.iinc X2_.here hx rfl (hb hby d3_16) rfl (l' := #[.val (.ref a1), .val (.double v1), .second, .val (.int (1 : Int32)), .val (.int (3 : Int32))]) rfl ?_
    show Steps p.tables e below (T2_.setTop (mkF m 19 #[.val (.ref a1), .val (.double v1), .second, .val (.int (1 : Int32)), .val (.int (3 : Int32))] [])) _
    refine XS.goto X2_.here hx rfl (pc0 := 19) (pc' := 6) rfl (hb hby d3_19) (by decide) (by decide) ?_
    show Steps p.tables e below (T2_.setTop (mkF m 6 #[.val (.ref a1), .val (.double v1), .second, .val (.int (1 : Int32)), .val (.int (3 : Int32))] [])) _
    refine XS.iloadN X2_.here hx rfl (hb hby d3_6) rfl ?_
    show Steps p.tables e below (T2_.setTop (mkF m 7 #[.val (.ref a1), .val (.double v1), .second, .val (.int (1 : Int32)), .val (.int (3 : Int32))] [(.int (1 : Int32))])) _
    refine XS.iload X2_.here hx rfl (hb hby d3_7) rfl ?_
    show Steps p.tables e below (T2_.setTop (mkF m 9 #[.val (.ref a1), .val (.double v1), .second, .val (.int (1 : Int32)), .val (.int (3 : Int32))] [(.int (3 : Int32)), (.int (1 : Int32))])) _
    refine XS.icmpNo X2_.here hx rfl (hb hby d3_9) rfl (tlt ((by decide) : (1 : Int32) < (3 : Int32))).2.1 ?_
    show Steps p.tables e below (T2_.setTop (mkF m 12 #[.val (.ref a1), .val (.double v1), .second, .val (.int (1 : Int32)), .val (.int (3 : Int32))] [])) _
    refine XS.aloadN X2_.here hx rfl (hb hby d3_12) rfl rfl ?_
    show Steps p.tables e below (T2_.setTop (mkF m 13 #[.val (.ref a1), .val (.double v1), .second, .val (.int (1 : Int32)), .val (.int (3 : Int32))] [(.ref a1)])) _
    refine XS.iloadN X2_.here hx rfl (hb hby d3_13) rfl ?_
    show Steps p.tables e below (T2_.setTop (mkF m 14 #[.val (.ref a1), .val (.double v1), .second, .val (.int (1 : Int32)), .val (.int (3 : Int32))] [(.int (1 : Int32)), (.ref a1)])) _
    refine XS.dloadN X2_.here hx rfl (hb hby d3_14) rfl ?_
    show Steps p.tables e below (T2_.setTop (mkF m 15 #[.val (.ref a1), .val (.double v1), .second, .val (.int (1 : Int32)), .val (.int (3 : Int32))] [(.double v1), (.int (1 : Int32)), (.ref a1)])) _
    refine st3_ _ ?_
    show Steps p.tables e below (T3_.setTop (mkF m 16 #[.val (.ref a1), .val (.double v1), .second, .val (.int (1 : Int32)), .val (.int (3 : Int32))] [])) _
    refine XS.iinc X3_.here hx rfl (hb hby d3_16) rfl (l' := #[.val (.ref a1), .val (.double v1), .second, .val (.int (2 : Int32)), .val (.int (3 : Int32))]) rfl ?_
    show Steps p.tables e below (T3_.setTop (mkF m 19 #[.val (.ref a1), .val (.double v1), .second, .val (.int (2 : Int32)), .val (.int (3 : Int32))] [])) _
    refine XS.goto X3_.here hx rfl (pc0 := 19) (pc' := 6) rfl (hb hby d3_19) (by decide) (by decide) ?_
    show Steps p.tables e below (T3_.setTop (mkF m 6 #[.val (.ref a1), .val (.double v1), .second, .val (.int (2 : Int32)), .val (.int (3 : Int32))] [])) _
    refine XS.iloadN X3_.here hx rfl (hb hby d3_6) rfl ?_
    show Steps p.tables e below (T3_.setTop (mkF m 7 #[.val (.ref a1), .val (.double v1), .second, .val (.int (2 : Int32)), .val (.int (3 : Int32))] [(.int (2 : Int32))])) _
    refine XS.iload X3_.here hx rfl (hb hby d3_7) rfl ?_
    show Steps p.tables e below (T3_.setTop (mkF m 9 #[.val (.ref a1), .val (.double v1), .second, .val (.int (2 : Int32)), .val (.int (3 : Int32))] [(.int (3 : Int32)), (.int (2 : Int32))])) _
    refine XS.icmpNo X3_.here hx rfl (hb hby d3_9) rfl (tlt ((by decide) : (2 : Int32) < (3 : Int32))).2.1 ?_
    show Steps p.tables e below (T3_.setTop (mkF m 12 #[.val (.ref a1), .val (.double v1), .second, .val (.int (2 : Int32)), .val (.int (3 : Int32))] [])) _
    refine XS.aloadN X3_.here hx rfl (hb hby d3_12) rfl rfl ?_
    show Steps p.tables e below (T3_.setTop (mkF m 13 #[.val (.ref a1), .val (.double v1), .second, .val (.int (2 : Int32)), .val (.int (3 : Int32))] [(.ref a1)])) _
    refine XS.iloadN X3_.here hx rfl (hb hby d3_13) rfl ?_
    show Steps p.tables e below (T3_.setTop (mkF m 14 #[.val (.ref a1), .val (.double v1), .second, .val (.int (2 : Int32)), .val (.int (3 : Int32))] [(.int (2 : Int32)), (.ref a1)])) _
    refine XS.dloadN X3_.here hx rfl (hb hby d3_14) rfl ?_
    show Steps p.tables e below (T3_.setTop (mkF m 15 #[.val (.ref a1), .val (.double v1), .second, .val (.int (2 : Int32)), .val (.int (3 : Int32))] [(.double v1), (.int (2 : Int32)), (.ref a1)])) _
    refine st4_ _ ?_
    show Steps p.tables e below (T4_.setTop (mkF m 16 #[.val (.ref a1), .val (.double v1), .second, .val (.int (2 : Int32)), .val (.int (3 : Int32))] [])) _
    refine XS.iinc X4_.here hx rfl (hb hby d3_16) rfl (l' := #[.val (.ref a1), .val (.double v1), .second, .val (.int (3 : Int32)), .val (.int (3 : Int32))]) rfl ?_
    show Steps p.tables e below (T4_.setTop (mkF m 19 #[.val (.ref a1), .val (.double v1), .second, .val (.int (3 : Int32)), .val (.int (3 : Int32))] [])) _
    refine XS.goto X4_.here hx rfl (pc0 := 19) (pc' := 6) rfl (hb hby d3_19) (by decide) (by decide) ?_
    show Steps p.tables e below (T4_.setTop (mkF m 6 #[.val (.ref a1), .val (.double v1), .second, .val (.int (3 : Int32)), .val (.int (3 : Int32))] [])) _
    refine XS.iloadN X4_.here hx rfl (hb hby d3_6) rfl ?_
    show Steps p.tables e below (T4_.setTop (mkF m 7 #[.val (.ref a1), .val (.double v1), .second, .val (.int (3 : Int32)), .val (.int (3 : Int32))] [(.int (3 : Int32))])) _
    refine XS.iload X4_.here hx rfl (hb hby d3_7) rfl ?_
    show Steps p.tables e below (T4_.setTop (mkF m 9 #[.val (.ref a1), .val (.double v1), .second, .val (.int (3 : Int32)), .val (.int (3 : Int32))] [(.int (3 : Int32)), (.int (3 : Int32))])) _
    refine XS.icmpYes X4_.here hx rfl (pc0 := 9) (pc' := 22) rfl (hb hby d3_9) rfl (flt ((by decide) : ¬ ((3 : Int32) < (3 : Int32)))).2.1 (by decide) (by decide) ?_
    show Steps p.tables e below (T4_.setTop (mkF m 22 #[.val (.ref a1), .val (.double v1), .second, .val (.int (3 : Int32)), .val (.int (3 : Int32))] [])) _
    exact X4_.returnOut hx Bd.returns (hb hby d3_22) hr
  · show Q_rmFill3 Z a1 v1 k1 x0 x1 x2 h0 n0 _ T4_.heap _
    rw [e4_]
    exact ⟨rfl, N4_, k7_, v4_⟩
theorem ef_rmInit3 (m : MethodId) (x0 : Addr) (x1 : Int32) (x2 : UInt64) : entryFrame m #[(.ref x0), (.int x1), (.double x2)] 4 = mkF m 0 #[.val (.ref x0), .val (.int x1), .val (.double x2), .second] [] := by first | (simp [entryFrame, mkF, argsToLocals, Value.category]; done) | rfl
def Q_rmInit3 (Z : State) (a1 : Addr) (v1 : UInt64) (h0 : Heap) (n0 : Nat) (v : Option Value) (h : Heap) (L : List Loc) : Prop := ∃ (t : Addr) (k : ClassId), v = none ∧ Fr n0 L ∧ Keep h0 h [a1] ∧ (h0.size ≤ t) ∧ (Exa Z h a1 "com/example/whipstill/whipstill/MovingWindow") ∧ (Fld Z h a1 "com/example/whipstill/whipstill/MovingWindow" "values" "[D" (.ref t)) ∧ (Fld Z h a1 "com/example/whipstill/whipstill/MovingWindow" "oldest" "I" (.int (0 : Int32))) ∧ (Arv Z h t k .double (3 : Int32) [(.double v1), (.double v1), (.double v1)] (.double (0 : UInt64)))
set_option maxRecDepth 65536 in
set_option maxHeartbeats 40000000 in
theorem rmInit3 (l : Launch) (Z : State) (a0 : Array Value) (hw : ∀ d ∈ tables_1, d.before a0 Z = true) (ws : List Jvm.Cond) (a1 : Addr) (v1 : UInt64) (h0 : Heap) (n0 : Nat) (Z0 : n0 ≤ h0.size) (E1 : Exa Z h0 a1 "com/example/whipstill/whipstill/MovingWindow") (F1 : Fld Z h0 a1 "com/example/whipstill/whipstill/MovingWindow" "values" "[D" .null) (F2 : Fld Z h0 a1 "com/example/whipstill/whipstill/MovingWindow" "oldest" "I" (.int (0 : Int32))) (g1 : n0 ≤ a1) :
    MetFree l (⟨"com/example/whipstill/whipstill/MovingWindow", "<init>", "(ID)V"⟩ : MethodName) (head1 (Jvm.Cond.code (⟨"com/example/whipstill/whipstill/MovingWindow", "<init>", "(ID)V"⟩ : MethodName) prog_11_method_1_code 4 none :: ws) ({ frames := 1, cells := 1, slots := 3, locals := 16 } : Room)) (fun a U => a = #[(.ref a1), (.int (3 : Int32)), (.double v1)] ∧ Z.Warmed39 U.vm ∧ U.heap = h0) (fun _ _ _ _ _ => True) (fun _ U o U' => ∃ v L, o = .returned v ∧ Q_rmInit3 Z a1 v1 h0 n0 v U'.heap L ∧ FrameEnd U o U' L ({ frames := 1, cells := 1, slots := 3, locals := 16 } : Room).cells ({ frames := 1, cells := 1, slots := 3, locals := 16 } : Room).slots) := by
  refine MetFree.of_bodySF (plainFor_of_name pn_com_example_whipstill_whipstill_MovingWindow) hisR ?_
  intro p e s m args below meth c s₁ Bd hml0 hP hK
  obtain ⟨rfl, hZ, hh⟩ := hP
  have hx := Bd.exec
  have hby := Bd.bytes
  have hml : c.maxLocals = 4 := hml0
  have hown : s.vm.findClass "com/example/whipstill/whipstill/MovingWindow" = some m.cls := findClass_of_methodNamed Bd.named
  have hnm := (name_of_methodNamed Bd.named Bd.method).1
  have X0 : Stand p l e ({ frames := 1, cells := 1, slots := 3, locals := 16 } : Room) s m #[(.ref a1), (.int (3 : Int32)), (.double v1)] below meth c s₁ [] 0 0 := Stand.of_body Bd
  have e0 : s₁.heap = h0 := by rw [← hh, Bd.state]; rfl
  have N0 := Fr.nil n0
  have pre0 : ∀ t, Steps p.tables e below (s₁.setTop (mkF m 0 #[.val (.ref a1), .val (.int (3 : Int32)), .val (.double v1), .second] [])) t → Steps p.tables e below (s₁.setTop (entryFrame m #[(.ref a1), (.int (3 : Int32)), (.double v1)] 4)) t := fun t k => castTop (ef_rmInit3 m a1 (3 : Int32) v1) k
  obtain ⟨T1_, X1_, e1_, st1_⟩ := initO X0 hx hZ hown (hw _ (List.mem_of_getElem? (i := 7) rfl)) (hw _ (List.mem_of_getElem? (i := 8) rfl)) (hw _ (List.mem_of_getElem? (i := 9) rfl)) e0 (g := (mkF m 1 #[.val (.ref a1), .val (.int (3 : Int32)), .val (.double v1), .second] [(.ref a1)])) rfl (by rw [hml]; rfl) rfl (hb hby d1_1) (by decide) (W := 0) (by show 2 * 0 + _ ≤ _; exact Nat.le_of_eq rfl) (by decide)
  obtain ⟨T2_, h2_, k2_, X2_, e2_, E2_, A2_, st2_⟩ := newP X1_ hx hZ (hw _ (List.mem_of_getElem? (i := 10) rfl)) e1_ (g := (mkF m 25 #[.val (.ref a1), .val (.int (3 : Int32)), .val (.double v1), .second] [(.int (3 : Int32)), (.ref a1)])) rfl (hb hby d1_25) rfl (by decide) (cap := 3) (by decide) (by decide) (by decide) (by decide)
  obtain ⟨b2_, g2_⟩ : ∃ z, z = h0.size := ⟨_, rfl⟩
  rw [← g2_] at A2_ st2_
  have v2_ : Arv Z h2_ b2_ k2_ .double (3 : Int32) [(.double (0 : UInt64)), (.double (0 : UInt64)), (.double (0 : UInt64))] (.double (0 : UInt64)) := (Arv.new A2_ (by decide)).pad (pad_rep [] (.double (0 : UInt64)) 3)
  have f3_ : Exa Z h2_ a1 "com/example/whipstill/whipstill/MovingWindow" := (E1.ext E2_)
  have f4_ : Fld Z h2_ a1 "com/example/whipstill/whipstill/MovingWindow" "values" "[D" .null := (F1.ext E2_)
  obtain ⟨T5_, h5_, X5_, e5_, W5_, st5_⟩ := putF X2_ hx hZ hown (host := "") (Or.inl (hw _ (List.mem_of_getElem? (i := 11) rfl))) Via.refl e2_ f4_ f3_ (Or.inr ⟨(hw _ (List.mem_of_getElem? (i := 12) rfl)), rfl, hnm⟩) (hw _ (List.mem_of_getElem? (i := 2) rfl)) (ty := (.array .double)) (by decide) rfl rfl (g := (mkF m 27 #[.val (.ref a1), .val (.int (3 : Int32)), .val (.double v1), .second] [(.ref b2_), (.ref a1)])) rfl rfl (hb hby d1_27)
  have w5_ : Fld Z h5_ a1 "com/example/whipstill/whipstill/MovingWindow" "values" "[D" (.ref b2_) := f4_.same W5_
  have N5_ := Fr.snoc X5_ N0 g1
  obtain ⟨T6_, X6_, e6_, st6_⟩ := getF X5_ hx hZ hown (host := "") (Or.inl (hw _ (List.mem_of_getElem? (i := 11) rfl))) Via.refl e5_ w5_ (g := (mkF m 31 #[.val (.ref a1), .val (.int (3 : Int32)), .val (.double v1), .second] [(.ref a1)])) rfl rfl (hb hby d1_31)
  have f8_ : Arv Z h5_ b2_ k2_ .double (3 : Int32) [(.double (0 : UInt64)), (.double (0 : UInt64)), (.double (0 : UInt64))] (.double (0 : UInt64)) := (v2_.other W5_ (Ne.symm (Nat.ne_of_lt (Nat.lt_of_lt_of_le E1.lt (Nat.le_of_eq g2_.symm)))))
  have g9_ : n0 ≤ b2_ := Nat.le_trans Z0 (Nat.le_of_eq g2_.symm)
  have z10_ : n0 ≤ h2_.size := Nat.le_trans Z0 E2_.1
  have z11_ : n0 ≤ h5_.size := Nat.le_trans z10_ (Keep.of_wr W5_).1
  obtain ⟨_, _, ⟨T7_, L7_, k7_, n7_⟩, -, X7_, ⟨Lc7_, hQ7_, l7_, y7_, z7_⟩, st7_⟩ := Jvm.LawKit.callS X6_ hx (y := (⟨"java/util/Arrays", "fill", "([DD)V"⟩ : MethodName)) hown (mvT hZ (hw _ (List.mem_of_getElem? (i := 13) rfl))) (mvT hZ (hw _ (List.mem_of_getElem? (i := 14) rfl))) (mvT hZ (hw _ (List.mem_of_getElem? (i := 15) rfl))) (mvT hZ (hw _ (List.mem_of_getElem? (i := 16) rfl))) (by decide) (backOf (W := 0) (rmFill3 l Z a0 hw [] b2_ v1 k2_ (0 : UInt64) (0 : UInt64) (0 : UInt64) h5_ n0 z11_ f8_ g9_) hZ (hw _ (List.mem_of_getElem? (i := 16) rfl)) (hw _ (List.mem_of_getElem? (i := 15) rfl)) (by decide) (by decide)) (g := (mkF m 35 #[.val (.ref a1), .val (.int (3 : Int32)), .val (.double v1), .second] [(.double v1), (.ref b2_)])) rfl (by rw [hml]; rfl) (argsL := [(.ref b2_), (.double v1)]) (rest := []) (lenOf pd_qaDDzV rfl) rfl (by show 2 * 0 + _ ≤ _; exact Nat.le_of_eq rfl) (hb hby d1_35) (fun _ _ => ⟨rfl, e6_, (by decide : 1 + 0 ≤ _), (by decide : 3 + 0 ≤ _)⟩)
  dsimp only [Pt.U, Pt.locs, Pt.cells, Pt.slots] at X7_ l7_ y7_ z7_ st7_ hQ7_
  subst l7_ y7_ z7_
  obtain ⟨rfl, Nq7_, ek7_, p7__0⟩ := hQ7_
  have N7_ := Fr.app N5_ Nq7_
  have f12_ : Exa Z T7_.heap a1 "com/example/whipstill/whipstill/MovingWindow" := ((f3_.wr W5_).keep ek7_)
  have f13_ : Fld Z T7_.heap a1 "com/example/whipstill/whipstill/MovingWindow" "values" "[D" (.ref b2_) := (w5_.keep ek7_ (ninS (Nat.ne_of_lt (Nat.lt_of_lt_of_le E1.lt (Nat.le_of_eq g2_.symm))) nin0))
  have f14_ : Fld Z T7_.heap a1 "com/example/whipstill/whipstill/MovingWindow" "oldest" "I" (.int (0 : Int32)) := (((F2.ext E2_).other W5_ (Or.inr (slot_ne (Or.inl (hw _ (List.mem_of_getElem? (i := 23) rfl))) (Or.inr (hw _ (List.mem_of_getElem? (i := 12) rfl))) (by decide) (t := .int) (t' := (.array .double)) (by decide) (by decide)))).keep ek7_ (ninS (Nat.ne_of_lt (Nat.lt_of_lt_of_le E1.lt (Nat.le_of_eq g2_.symm))) nin0))
  have k15_ : Keep h0 h2_ [a1] := (Keep.refl h0 [a1]).ext E2_
  have k16_ : Keep h0 h5_ [a1] := k15_.wr W5_ (Or.inl (List.mem_of_getElem? (i := 0) rfl))
  have k17_ : Keep h0 T7_.heap [a1] := k16_.trans ek7_ (allS (Or.inr (Nat.le_trans (Keep.refl h0 [a1]).1 (Nat.le_of_eq g2_.symm))) all0)
  obtain ⟨fs, hr, hrun, hended, hW, hsame⟩ := X7_.leave (v := none) (fun h => by first | rfl | (rw [Bd.returns] at h; cases h))
  refine ⟨_, _, pre0 _ ?_, hrun, hended, _, _, rfl, ?_, ⟨_, rfl⟩, hW, hsame.mono (by decide) (by decide)⟩
  · show Steps p.tables e below (s₁.setTop (mkF m 0 #[.val (.ref a1), .val (.int (3 : Int32)), .val (.double v1), .second] [])) _
    refine XS.aloadN X0.here hx rfl (hb hby d1_0) rfl rfl ?_
    show Steps p.tables e below (s₁.setTop (mkF m 1 #[.val (.ref a1), .val (.int (3 : Int32)), .val (.double v1), .second] [(.ref a1)])) _
    refine st1_ _ ?_
    show Steps p.tables e below (T1_.setTop (mkF m 4 #[.val (.ref a1), .val (.int (3 : Int32)), .val (.double v1), .second] [])) _
    refine XS.iloadN X1_.here hx rfl (hb hby d1_4) rfl ?_
    show Steps p.tables e below (T1_.setTop (mkF m 5 #[.val (.ref a1), .val (.int (3 : Int32)), .val (.double v1), .second] [(.int (3 : Int32))])) _
    refine XS.iconst X1_.here hx rfl (hb hby d1_5) ?_
    show Steps p.tables e below (T1_.setTop (mkF m 6 #[.val (.ref a1), .val (.int (3 : Int32)), .val (.double v1), .second] [(.int (1 : Int32)), (.int (3 : Int32))])) _
    refine XS.icmpYes X1_.here hx rfl (pc0 := 6) (pc' := 23) rfl (hb hby d1_6) rfl (flt ((by decide) : ¬ ((3 : Int32) < (1 : Int32)))).2.1 (by decide) (by decide) ?_
    show Steps p.tables e below (T1_.setTop (mkF m 23 #[.val (.ref a1), .val (.int (3 : Int32)), .val (.double v1), .second] [])) _
    refine XS.aloadN X1_.here hx rfl (hb hby d1_23) rfl rfl ?_
    show Steps p.tables e below (T1_.setTop (mkF m 24 #[.val (.ref a1), .val (.int (3 : Int32)), .val (.double v1), .second] [(.ref a1)])) _
    refine XS.iloadN X1_.here hx rfl (hb hby d1_24) rfl ?_
    show Steps p.tables e below (T1_.setTop (mkF m 25 #[.val (.ref a1), .val (.int (3 : Int32)), .val (.double v1), .second] [(.int (3 : Int32)), (.ref a1)])) _
    refine st2_ _ ?_
    show Steps p.tables e below (T2_.setTop (mkF m 27 #[.val (.ref a1), .val (.int (3 : Int32)), .val (.double v1), .second] [(.ref b2_), (.ref a1)])) _
    refine st5_ _ ?_
    show Steps p.tables e below (T5_.setTop (mkF m 30 #[.val (.ref a1), .val (.int (3 : Int32)), .val (.double v1), .second] [])) _
    refine XS.aloadN X5_.here hx rfl (hb hby d1_30) rfl rfl ?_
    show Steps p.tables e below (T5_.setTop (mkF m 31 #[.val (.ref a1), .val (.int (3 : Int32)), .val (.double v1), .second] [(.ref a1)])) _
    refine st6_ _ ?_
    show Steps p.tables e below (T6_.setTop (mkF m 34 #[.val (.ref a1), .val (.int (3 : Int32)), .val (.double v1), .second] [(.ref b2_)])) _
    refine XS.dloadN X6_.here hx rfl (hb hby d1_34) rfl ?_
    show Steps p.tables e below (T6_.setTop (mkF m 35 #[.val (.ref a1), .val (.int (3 : Int32)), .val (.double v1), .second] [(.double v1), (.ref b2_)])) _
    refine st7_ _ ?_
    show Steps p.tables e below (T7_.setTop (mkF m 38 #[.val (.ref a1), .val (.int (3 : Int32)), .val (.double v1), .second] [])) _
    exact X7_.returnOut hx Bd.returns (hb hby d1_38) hr
  · show Q_rmInit3 Z a1 v1 h0 n0 _ T7_.heap _
    skip
    exact ⟨b2_, k2_, rfl, N7_, k17_, (Nat.le_trans (Keep.refl h0 [a1]).1 (Nat.le_of_eq g2_.symm)), f12_, f13_, f14_, p7__0⟩
theorem ef_rmFill4 (m : MethodId) (x0 : Addr) (x1 : UInt64) : entryFrame m #[(.ref x0), (.double x1)] 5 = mkF m 0 #[.val (.ref x0), .val (.double x1), .second, .unset, .unset] [] := by first | (simp [entryFrame, mkF, argsToLocals, Value.category]; done) | rfl
def Q_rmFill4 (Z : State) (a1 : Addr) (v1 : UInt64) (k1 : ClassId) (x0 : UInt64) (x1 : UInt64) (x2 : UInt64) (x3 : UInt64) (h0 : Heap) (n0 : Nat) (v : Option Value) (h : Heap) (L : List Loc) : Prop := v = none ∧ Fr n0 L ∧ Keep h0 h [a1] ∧ (Arv Z h a1 k1 .double (4 : Int32) [(.double v1), (.double v1), (.double v1), (.double v1)] (.double (0 : UInt64)))
set_option maxRecDepth 65536 in
set_option maxHeartbeats 40000000 in
theorem rmFill4 (l : Launch) (Z : State) (a0 : Array Value) (hw : ∀ d ∈ tables_1, d.before a0 Z = true) (ws : List Jvm.Cond) (a1 : Addr) (v1 : UInt64) (k1 : ClassId) (x0 : UInt64) (x1 : UInt64) (x2 : UInt64) (x3 : UInt64) (h0 : Heap) (n0 : Nat) (Z0 : n0 ≤ h0.size) (V1 : Arv Z h0 a1 k1 .double (4 : Int32) [(.double x0), (.double x1), (.double x2), (.double x3)] (.double (0 : UInt64))) (g1 : n0 ≤ a1) :
    MetFree l (⟨"java/util/Arrays", "fill", "([DD)V"⟩ : MethodName) (head1 (Jvm.Cond.code (⟨"java/util/Arrays", "fill", "([DD)V"⟩ : MethodName) jdk_65_method_113_code 5 none :: ws) ({ frames := 0, cells := 0, slots := 0, locals := 0 } : Room)) (fun a U => a = #[(.ref a1), (.double v1)] ∧ Z.Warmed39 U.vm ∧ U.heap = h0) (fun _ _ _ _ _ => True) (fun _ U o U' => ∃ v L, o = .returned v ∧ Q_rmFill4 Z a1 v1 k1 x0 x1 x2 x3 h0 n0 v U'.heap L ∧ FrameEnd U o U' L ({ frames := 0, cells := 0, slots := 0, locals := 0 } : Room).cells ({ frames := 0, cells := 0, slots := 0, locals := 0 } : Room).slots) := by
  refine MetFree.of_bodySF (plainFor_of_name pn_java_util_Arrays) hisR ?_
  intro p e s m args below meth c s₁ Bd hml0 hP hK
  obtain ⟨rfl, hZ, hh⟩ := hP
  have hx := Bd.exec
  have hby := Bd.bytes
  have hml : c.maxLocals = 5 := hml0
  have hown : s.vm.findClass "java/util/Arrays" = some m.cls := findClass_of_methodNamed Bd.named
  have hnm := (name_of_methodNamed Bd.named Bd.method).1
  have X0 : Stand p l e ({ frames := 0, cells := 0, slots := 0, locals := 0 } : Room) s m #[(.ref a1), (.double v1)] below meth c s₁ [] 0 0 := Stand.of_body Bd
  have e0 : s₁.heap = h0 := by rw [← hh, Bd.state]; rfl
  have N0 := Fr.nil n0
  have pre0 : ∀ t, Steps p.tables e below (s₁.setTop (mkF m 0 #[.val (.ref a1), .val (.double v1), .second, .unset, .unset] [])) t → Steps p.tables e below (s₁.setTop (entryFrame m #[(.ref a1), (.double v1)] 5)) t := fun t k => castTop (ef_rmFill4 m a1 v1) k
  obtain ⟨cl1_, Ar1_, q1_, S1_, M1_, Hs1_, G1_⟩ := id V1
  obtain ⟨cl2_, Ar2_, q2_, S2_, M2_, Hs2_, G2_⟩ := id V1
  have in2_ : ¬ ((0 : Int32) < 0 ∨ cl2_.slots.size ≤ ((0 : Int32)).toNatClampNeg) := inb_of S2_ ⟨by decide, by decide⟩
  obtain ⟨T2_, h2_, X2_, e2_, W2_, st2_⟩ := stD X0 hx hZ e0 Ar2_ (j := (0 : Int32)) in2_ (g := (mkF m 15 #[.val (.ref a1), .val (.double v1), .second, .val (.int (0 : Int32)), .val (.int (4 : Int32))] [(.double v1), (.int (0 : Int32)), (.ref a1)])) rfl rfl (hb hby d3_15)
  have v2_ : Arv Z h2_ a1 k1 .double (4 : Int32) [(.double v1), (.double x1), (.double x2), (.double x3)] (.double (0 : UInt64)) := Arv.set Ar2_ q2_ S2_ M2_ Hs2_ G2_ rfl W2_ 0 rfl (Nat.le_of_ble_eq_true rfl)
  have N2_ := Fr.snoc X2_ N0 g1
  obtain ⟨cl3_, Ar3_, q3_, S3_, M3_, Hs3_, G3_⟩ := id v2_
  have in3_ : ¬ ((1 : Int32) < 0 ∨ cl3_.slots.size ≤ ((1 : Int32)).toNatClampNeg) := inb_of S3_ ⟨by decide, by decide⟩
  obtain ⟨T3_, h3_, X3_, e3_, W3_, st3_⟩ := stD X2_ hx hZ e2_ Ar3_ (j := (1 : Int32)) in3_ (g := (mkF m 15 #[.val (.ref a1), .val (.double v1), .second, .val (.int (1 : Int32)), .val (.int (4 : Int32))] [(.double v1), (.int (1 : Int32)), (.ref a1)])) rfl rfl (hb hby d3_15)
  have v3_ : Arv Z h3_ a1 k1 .double (4 : Int32) [(.double v1), (.double v1), (.double x2), (.double x3)] (.double (0 : UInt64)) := Arv.set Ar3_ q3_ S3_ M3_ Hs3_ G3_ rfl W3_ 1 rfl (Nat.le_of_ble_eq_true rfl)
  have N3_ := Fr.snoc X3_ N2_ g1
  obtain ⟨cl4_, Ar4_, q4_, S4_, M4_, Hs4_, G4_⟩ := id v3_
  have in4_ : ¬ ((2 : Int32) < 0 ∨ cl4_.slots.size ≤ ((2 : Int32)).toNatClampNeg) := inb_of S4_ ⟨by decide, by decide⟩
  obtain ⟨T4_, h4_, X4_, e4_, W4_, st4_⟩ := stD X3_ hx hZ e3_ Ar4_ (j := (2 : Int32)) in4_ (g := (mkF m 15 #[.val (.ref a1), .val (.double v1), .second, .val (.int (2 : Int32)), .val (.int (4 : Int32))] [(.double v1), (.int (2 : Int32)), (.ref a1)])) rfl rfl (hb hby d3_15)
  have v4_ : Arv Z h4_ a1 k1 .double (4 : Int32) [(.double v1), (.double v1), (.double v1), (.double x3)] (.double (0 : UInt64)) := Arv.set Ar4_ q4_ S4_ M4_ Hs4_ G4_ rfl W4_ 2 rfl (Nat.le_of_ble_eq_true rfl)
  have N4_ := Fr.snoc X4_ N3_ g1
  obtain ⟨cl5_, Ar5_, q5_, S5_, M5_, Hs5_, G5_⟩ := id v4_
  have in5_ : ¬ ((3 : Int32) < 0 ∨ cl5_.slots.size ≤ ((3 : Int32)).toNatClampNeg) := inb_of S5_ ⟨by decide, by decide⟩
  obtain ⟨T5_, h5_, X5_, e5_, W5_, st5_⟩ := stD X4_ hx hZ e4_ Ar5_ (j := (3 : Int32)) in5_ (g := (mkF m 15 #[.val (.ref a1), .val (.double v1), .second, .val (.int (3 : Int32)), .val (.int (4 : Int32))] [(.double v1), (.int (3 : Int32)), (.ref a1)])) rfl rfl (hb hby d3_15)
  have v5_ : Arv Z h5_ a1 k1 .double (4 : Int32) [(.double v1), (.double v1), (.double v1), (.double v1)] (.double (0 : UInt64)) := Arv.set Ar5_ q5_ S5_ M5_ Hs5_ G5_ rfl W5_ 3 rfl (Nat.le_of_ble_eq_true rfl)
  have N5_ := Fr.snoc X5_ N4_ g1
  have k6_ : Keep h0 h2_ [a1] := (Keep.refl h0 [a1]).wr W2_ (Or.inl (List.mem_of_getElem? (i := 0) rfl))
  have k7_ : Keep h0 h3_ [a1] := k6_.wr W3_ (Or.inl (List.mem_of_getElem? (i := 0) rfl))
  have k8_ : Keep h0 h4_ [a1] := k7_.wr W4_ (Or.inl (List.mem_of_getElem? (i := 0) rfl))
  have k9_ : Keep h0 h5_ [a1] := k8_.wr W5_ (Or.inl (List.mem_of_getElem? (i := 0) rfl))
  obtain ⟨fs, hr, hrun, hended, hW, hsame⟩ := X5_.leave (v := none) (fun h => by first | rfl | (rw [Bd.returns] at h; cases h))
  refine ⟨_, _, pre0 _ ?_, hrun, hended, _, _, rfl, ?_, ⟨_, rfl⟩, hW, hsame.mono (by decide) (by decide)⟩
  · show Steps p.tables e below (s₁.setTop (mkF m 0 #[.val (.ref a1), .val (.double v1), .second, .unset, .unset] [])) _
    refine XS.iconst X0.here hx rfl (hb hby d3_0) ?_
    show Steps p.tables e below (s₁.setTop (mkF m 1 #[.val (.ref a1), .val (.double v1), .second, .unset, .unset] [(.int (0 : Int32))])) _
    refine XS.istoreN X0.here hx rfl (hb hby d3_1) rfl (l' := #[.val (.ref a1), .val (.double v1), .second, .val (.int (0 : Int32)), .unset]) rfl ?_
    show Steps p.tables e below (s₁.setTop (mkF m 2 #[.val (.ref a1), .val (.double v1), .second, .val (.int (0 : Int32)), .unset] [])) _
    refine XS.aloadN X0.here hx rfl (hb hby d3_2) rfl rfl ?_
    show Steps p.tables e below (s₁.setTop (mkF m 3 #[.val (.ref a1), .val (.double v1), .second, .val (.int (0 : Int32)), .unset] [(.ref a1)])) _
    refine X0.arraylength hx (by rw [e0]; exact Ar1_.1) (State.isArrayOf_alike (State.Warmed39.alike hZ) Ar1_.2.1) (g := (mkF m 3 #[.val (.ref a1), .val (.double v1), .second, .val (.int (0 : Int32)), .unset] [(.ref a1)])) rfl rfl (hb hby d3_3) _ ?_
    rw [len_of S1_ M1_]
    show Steps p.tables e below (s₁.setTop (mkF m 4 #[.val (.ref a1), .val (.double v1), .second, .val (.int (0 : Int32)), .unset] [(.int (4 : Int32))])) _
    refine XS.istore X0.here hx rfl (hb hby d3_4) rfl (l' := #[.val (.ref a1), .val (.double v1), .second, .val (.int (0 : Int32)), .val (.int (4 : Int32))]) rfl ?_
    show Steps p.tables e below (s₁.setTop (mkF m 6 #[.val (.ref a1), .val (.double v1), .second, .val (.int (0 : Int32)), .val (.int (4 : Int32))] [])) _
    refine XS.iloadN X0.here hx rfl (hb hby d3_6) rfl ?_
    show Steps p.tables e below (s₁.setTop (mkF m 7 #[.val (.ref a1), .val (.double v1), .second, .val (.int (0 : Int32)), .val (.int (4 : Int32))] [(.int (0 : Int32))])) _
    refine XS.iload X0.here hx rfl (hb hby d3_7) rfl ?_
    show Steps p.tables e below (s₁.setTop (mkF m 9 #[.val (.ref a1), .val (.double v1), .second, .val (.int (0 : Int32)), .val (.int (4 : Int32))] [(.int (4 : Int32)), (.int (0 : Int32))])) _
    refine XS.icmpNo X0.here hx rfl (hb hby d3_9) rfl (tlt ((by decide) : (0 : Int32) < (4 : Int32))).2.1 ?_
    show Steps p.tables e below (s₁.setTop (mkF m 12 #[.val (.ref a1), .val (.double v1), .second, .val (.int (0 : Int32)), .val (.int (4 : Int32))] [])) _
    refine XS.aloadN X0.here hx rfl (hb hby d3_12) rfl rfl ?_
    show Steps p.tables e below (s₁.setTop (mkF m 13 #[.val (.ref a1), .val (.double v1), .second, .val (.int (0 : Int32)), .val (.int (4 : Int32))] [(.ref a1)])) _
    refine XS.iloadN X0.here hx rfl (hb hby d3_13) rfl ?_
    show Steps p.tables e below (s₁.setTop (mkF m 14 #[.val (.ref a1), .val (.double v1), .second, .val (.int (0 : Int32)), .val (.int (4 : Int32))] [(.int (0 : Int32)), (.ref a1)])) _
    refine XS.dloadN X0.here hx rfl (hb hby d3_14) rfl ?_
    show Steps p.tables e below (s₁.setTop (mkF m 15 #[.val (.ref a1), .val (.double v1), .second, .val (.int (0 : Int32)), .val (.int (4 : Int32))] [(.double v1), (.int (0 : Int32)), (.ref a1)])) _
    refine st2_ _ ?_
    show Steps p.tables e below (T2_.setTop (mkF m 16 #[.val (.ref a1), .val (.double v1), .second, .val (.int (0 : Int32)), .val (.int (4 : Int32))] [])) _
    refine XS.iinc X2_.here hx rfl (hb hby d3_16) rfl (l' := #[.val (.ref a1), .val (.double v1), .second, .val (.int (1 : Int32)), .val (.int (4 : Int32))]) rfl ?_
    show Steps p.tables e below (T2_.setTop (mkF m 19 #[.val (.ref a1), .val (.double v1), .second, .val (.int (1 : Int32)), .val (.int (4 : Int32))] [])) _
    refine XS.goto X2_.here hx rfl (pc0 := 19) (pc' := 6) rfl (hb hby d3_19) (by decide) (by decide) ?_
    show Steps p.tables e below (T2_.setTop (mkF m 6 #[.val (.ref a1), .val (.double v1), .second, .val (.int (1 : Int32)), .val (.int (4 : Int32))] [])) _
    refine XS.iloadN X2_.here hx rfl (hb hby d3_6) rfl ?_
    show Steps p.tables e below (T2_.setTop (mkF m 7 #[.val (.ref a1), .val (.double v1), .second, .val (.int (1 : Int32)), .val (.int (4 : Int32))] [(.int (1 : Int32))])) _
    refine XS.iload X2_.here hx rfl (hb hby d3_7) rfl ?_
    show Steps p.tables e below (T2_.setTop (mkF m 9 #[.val (.ref a1), .val (.double v1), .second, .val (.int (1 : Int32)), .val (.int (4 : Int32))] [(.int (4 : Int32)), (.int (1 : Int32))])) _
    refine XS.icmpNo X2_.here hx rfl (hb hby d3_9) rfl (tlt ((by decide) : (1 : Int32) < (4 : Int32))).2.1 ?_
    show Steps p.tables e below (T2_.setTop (mkF m 12 #[.val (.ref a1), .val (.double v1), .second, .val (.int (1 : Int32)), .val (.int (4 : Int32))] [])) _
    refine XS.aloadN X2_.here hx rfl (hb hby d3_12) rfl rfl ?_
    show Steps p.tables e below (T2_.setTop (mkF m 13 #[.val (.ref a1), .val (.double v1), .second, .val (.int (1 : Int32)), .val (.int (4 : Int32))] [(.ref a1)])) _
    refine XS.iloadN X2_.here hx rfl (hb hby d3_13) rfl ?_
    show Steps p.tables e below (T2_.setTop (mkF m 14 #[.val (.ref a1), .val (.double v1), .second, .val (.int (1 : Int32)), .val (.int (4 : Int32))] [(.int (1 : Int32)), (.ref a1)])) _
    refine XS.dloadN X2_.here hx rfl (hb hby d3_14) rfl ?_
    show Steps p.tables e below (T2_.setTop (mkF m 15 #[.val (.ref a1), .val (.double v1), .second, .val (.int (1 : Int32)), .val (.int (4 : Int32))] [(.double v1), (.int (1 : Int32)), (.ref a1)])) _
    refine st3_ _ ?_
    show Steps p.tables e below (T3_.setTop (mkF m 16 #[.val (.ref a1), .val (.double v1), .second, .val (.int (1 : Int32)), .val (.int (4 : Int32))] [])) _
    refine XS.iinc X3_.here hx rfl (hb hby d3_16) rfl (l' := #[.val (.ref a1), .val (.double v1), .second, .val (.int (2 : Int32)), .val (.int (4 : Int32))]) rfl ?_
    show Steps p.tables e below (T3_.setTop (mkF m 19 #[.val (.ref a1), .val (.double v1), .second, .val (.int (2 : Int32)), .val (.int (4 : Int32))] [])) _
    refine XS.goto X3_.here hx rfl (pc0 := 19) (pc' := 6) rfl (hb hby d3_19) (by decide) (by decide) ?_
    show Steps p.tables e below (T3_.setTop (mkF m 6 #[.val (.ref a1), .val (.double v1), .second, .val (.int (2 : Int32)), .val (.int (4 : Int32))] [])) _
    refine XS.iloadN X3_.here hx rfl (hb hby d3_6) rfl ?_
    show Steps p.tables e below (T3_.setTop (mkF m 7 #[.val (.ref a1), .val (.double v1), .second, .val (.int (2 : Int32)), .val (.int (4 : Int32))] [(.int (2 : Int32))])) _
    refine XS.iload X3_.here hx rfl (hb hby d3_7) rfl ?_
    show Steps p.tables e below (T3_.setTop (mkF m 9 #[.val (.ref a1), .val (.double v1), .second, .val (.int (2 : Int32)), .val (.int (4 : Int32))] [(.int (4 : Int32)), (.int (2 : Int32))])) _
    refine XS.icmpNo X3_.here hx rfl (hb hby d3_9) rfl (tlt ((by decide) : (2 : Int32) < (4 : Int32))).2.1 ?_
    show Steps p.tables e below (T3_.setTop (mkF m 12 #[.val (.ref a1), .val (.double v1), .second, .val (.int (2 : Int32)), .val (.int (4 : Int32))] [])) _
    refine XS.aloadN X3_.here hx rfl (hb hby d3_12) rfl rfl ?_
    show Steps p.tables e below (T3_.setTop (mkF m 13 #[.val (.ref a1), .val (.double v1), .second, .val (.int (2 : Int32)), .val (.int (4 : Int32))] [(.ref a1)])) _
    refine XS.iloadN X3_.here hx rfl (hb hby d3_13) rfl ?_
    show Steps p.tables e below (T3_.setTop (mkF m 14 #[.val (.ref a1), .val (.double v1), .second, .val (.int (2 : Int32)), .val (.int (4 : Int32))] [(.int (2 : Int32)), (.ref a1)])) _
    refine XS.dloadN X3_.here hx rfl (hb hby d3_14) rfl ?_
    show Steps p.tables e below (T3_.setTop (mkF m 15 #[.val (.ref a1), .val (.double v1), .second, .val (.int (2 : Int32)), .val (.int (4 : Int32))] [(.double v1), (.int (2 : Int32)), (.ref a1)])) _
    refine st4_ _ ?_
    show Steps p.tables e below (T4_.setTop (mkF m 16 #[.val (.ref a1), .val (.double v1), .second, .val (.int (2 : Int32)), .val (.int (4 : Int32))] [])) _
    refine XS.iinc X4_.here hx rfl (hb hby d3_16) rfl (l' := #[.val (.ref a1), .val (.double v1), .second, .val (.int (3 : Int32)), .val (.int (4 : Int32))]) rfl ?_
    show Steps p.tables e below (T4_.setTop (mkF m 19 #[.val (.ref a1), .val (.double v1), .second, .val (.int (3 : Int32)), .val (.int (4 : Int32))] [])) _
    refine XS.goto X4_.here hx rfl (pc0 := 19) (pc' := 6) rfl (hb hby d3_19) (by decide) (by decide) ?_
    show Steps p.tables e below (T4_.setTop (mkF m 6 #[.val (.ref a1), .val (.double v1), .second, .val (.int (3 : Int32)), .val (.int (4 : Int32))] [])) _
    refine XS.iloadN X4_.here hx rfl (hb hby d3_6) rfl ?_
    show Steps p.tables e below (T4_.setTop (mkF m 7 #[.val (.ref a1), .val (.double v1), .second, .val (.int (3 : Int32)), .val (.int (4 : Int32))] [(.int (3 : Int32))])) _
    refine XS.iload X4_.here hx rfl (hb hby d3_7) rfl ?_
    show Steps p.tables e below (T4_.setTop (mkF m 9 #[.val (.ref a1), .val (.double v1), .second, .val (.int (3 : Int32)), .val (.int (4 : Int32))] [(.int (4 : Int32)), (.int (3 : Int32))])) _
    refine XS.icmpNo X4_.here hx rfl (hb hby d3_9) rfl (tlt ((by decide) : (3 : Int32) < (4 : Int32))).2.1 ?_
    show Steps p.tables e below (T4_.setTop (mkF m 12 #[.val (.ref a1), .val (.double v1), .second, .val (.int (3 : Int32)), .val (.int (4 : Int32))] [])) _
    refine XS.aloadN X4_.here hx rfl (hb hby d3_12) rfl rfl ?_
    show Steps p.tables e below (T4_.setTop (mkF m 13 #[.val (.ref a1), .val (.double v1), .second, .val (.int (3 : Int32)), .val (.int (4 : Int32))] [(.ref a1)])) _
    refine XS.iloadN X4_.here hx rfl (hb hby d3_13) rfl ?_
    show Steps p.tables e below (T4_.setTop (mkF m 14 #[.val (.ref a1), .val (.double v1), .second, .val (.int (3 : Int32)), .val (.int (4 : Int32))] [(.int (3 : Int32)), (.ref a1)])) _
    refine XS.dloadN X4_.here hx rfl (hb hby d3_14) rfl ?_
    show Steps p.tables e below (T4_.setTop (mkF m 15 #[.val (.ref a1), .val (.double v1), .second, .val (.int (3 : Int32)), .val (.int (4 : Int32))] [(.double v1), (.int (3 : Int32)), (.ref a1)])) _
    refine st5_ _ ?_
    show Steps p.tables e below (T5_.setTop (mkF m 16 #[.val (.ref a1), .val (.double v1), .second, .val (.int (3 : Int32)), .val (.int (4 : Int32))] [])) _
    refine XS.iinc X5_.here hx rfl (hb hby d3_16) rfl (l' := #[.val (.ref a1), .val (.double v1), .second, .val (.int (4 : Int32)), .val (.int (4 : Int32))]) rfl ?_
    show Steps p.tables e below (T5_.setTop (mkF m 19 #[.val (.ref a1), .val (.double v1), .second, .val (.int (4 : Int32)), .val (.int (4 : Int32))] [])) _
    refine XS.goto X5_.here hx rfl (pc0 := 19) (pc' := 6) rfl (hb hby d3_19) (by decide) (by decide) ?_
    show Steps p.tables e below (T5_.setTop (mkF m 6 #[.val (.ref a1), .val (.double v1), .second, .val (.int (4 : Int32)), .val (.int (4 : Int32))] [])) _
    refine XS.iloadN X5_.here hx rfl (hb hby d3_6) rfl ?_
    show Steps p.tables e below (T5_.setTop (mkF m 7 #[.val (.ref a1), .val (.double v1), .second, .val (.int (4 : Int32)), .val (.int (4 : Int32))] [(.int (4 : Int32))])) _
    refine XS.iload X5_.here hx rfl (hb hby d3_7) rfl ?_
    show Steps p.tables e below (T5_.setTop (mkF m 9 #[.val (.ref a1), .val (.double v1), .second, .val (.int (4 : Int32)), .val (.int (4 : Int32))] [(.int (4 : Int32)), (.int (4 : Int32))])) _
    refine XS.icmpYes X5_.here hx rfl (pc0 := 9) (pc' := 22) rfl (hb hby d3_9) rfl (flt ((by decide) : ¬ ((4 : Int32) < (4 : Int32)))).2.1 (by decide) (by decide) ?_
    show Steps p.tables e below (T5_.setTop (mkF m 22 #[.val (.ref a1), .val (.double v1), .second, .val (.int (4 : Int32)), .val (.int (4 : Int32))] [])) _
    exact X5_.returnOut hx Bd.returns (hb hby d3_22) hr
  · show Q_rmFill4 Z a1 v1 k1 x0 x1 x2 x3 h0 n0 _ T5_.heap _
    rw [e5_]
    exact ⟨rfl, N5_, k9_, v5_⟩
theorem ef_rmInit4 (m : MethodId) (x0 : Addr) (x1 : Int32) (x2 : UInt64) : entryFrame m #[(.ref x0), (.int x1), (.double x2)] 4 = mkF m 0 #[.val (.ref x0), .val (.int x1), .val (.double x2), .second] [] := by first | (simp [entryFrame, mkF, argsToLocals, Value.category]; done) | rfl
def Q_rmInit4 (Z : State) (a1 : Addr) (v1 : UInt64) (h0 : Heap) (n0 : Nat) (v : Option Value) (h : Heap) (L : List Loc) : Prop := ∃ (t : Addr) (k : ClassId), v = none ∧ Fr n0 L ∧ Keep h0 h [a1] ∧ (h0.size ≤ t) ∧ (Exa Z h a1 "com/example/whipstill/whipstill/MovingWindow") ∧ (Fld Z h a1 "com/example/whipstill/whipstill/MovingWindow" "values" "[D" (.ref t)) ∧ (Fld Z h a1 "com/example/whipstill/whipstill/MovingWindow" "oldest" "I" (.int (0 : Int32))) ∧ (Arv Z h t k .double (4 : Int32) [(.double v1), (.double v1), (.double v1), (.double v1)] (.double (0 : UInt64)))
set_option maxRecDepth 65536 in
set_option maxHeartbeats 40000000 in
theorem rmInit4 (l : Launch) (Z : State) (a0 : Array Value) (hw : ∀ d ∈ tables_1, d.before a0 Z = true) (ws : List Jvm.Cond) (a1 : Addr) (v1 : UInt64) (h0 : Heap) (n0 : Nat) (Z0 : n0 ≤ h0.size) (E1 : Exa Z h0 a1 "com/example/whipstill/whipstill/MovingWindow") (F1 : Fld Z h0 a1 "com/example/whipstill/whipstill/MovingWindow" "values" "[D" .null) (F2 : Fld Z h0 a1 "com/example/whipstill/whipstill/MovingWindow" "oldest" "I" (.int (0 : Int32))) (g1 : n0 ≤ a1) :
    MetFree l (⟨"com/example/whipstill/whipstill/MovingWindow", "<init>", "(ID)V"⟩ : MethodName) (head1 (Jvm.Cond.code (⟨"com/example/whipstill/whipstill/MovingWindow", "<init>", "(ID)V"⟩ : MethodName) prog_11_method_1_code 4 none :: ws) ({ frames := 1, cells := 1, slots := 4, locals := 16 } : Room)) (fun a U => a = #[(.ref a1), (.int (4 : Int32)), (.double v1)] ∧ Z.Warmed39 U.vm ∧ U.heap = h0) (fun _ _ _ _ _ => True) (fun _ U o U' => ∃ v L, o = .returned v ∧ Q_rmInit4 Z a1 v1 h0 n0 v U'.heap L ∧ FrameEnd U o U' L ({ frames := 1, cells := 1, slots := 4, locals := 16 } : Room).cells ({ frames := 1, cells := 1, slots := 4, locals := 16 } : Room).slots) := by
  refine MetFree.of_bodySF (plainFor_of_name pn_com_example_whipstill_whipstill_MovingWindow) hisR ?_
  intro p e s m args below meth c s₁ Bd hml0 hP hK
  obtain ⟨rfl, hZ, hh⟩ := hP
  have hx := Bd.exec
  have hby := Bd.bytes
  have hml : c.maxLocals = 4 := hml0
  have hown : s.vm.findClass "com/example/whipstill/whipstill/MovingWindow" = some m.cls := findClass_of_methodNamed Bd.named
  have hnm := (name_of_methodNamed Bd.named Bd.method).1
  have X0 : Stand p l e ({ frames := 1, cells := 1, slots := 4, locals := 16 } : Room) s m #[(.ref a1), (.int (4 : Int32)), (.double v1)] below meth c s₁ [] 0 0 := Stand.of_body Bd
  have e0 : s₁.heap = h0 := by rw [← hh, Bd.state]; rfl
  have N0 := Fr.nil n0
  have pre0 : ∀ t, Steps p.tables e below (s₁.setTop (mkF m 0 #[.val (.ref a1), .val (.int (4 : Int32)), .val (.double v1), .second] [])) t → Steps p.tables e below (s₁.setTop (entryFrame m #[(.ref a1), (.int (4 : Int32)), (.double v1)] 4)) t := fun t k => castTop (ef_rmInit4 m a1 (4 : Int32) v1) k
  obtain ⟨T1_, X1_, e1_, st1_⟩ := initO X0 hx hZ hown (hw _ (List.mem_of_getElem? (i := 7) rfl)) (hw _ (List.mem_of_getElem? (i := 8) rfl)) (hw _ (List.mem_of_getElem? (i := 9) rfl)) e0 (g := (mkF m 1 #[.val (.ref a1), .val (.int (4 : Int32)), .val (.double v1), .second] [(.ref a1)])) rfl (by rw [hml]; rfl) rfl (hb hby d1_1) (by decide) (W := 0) (by show 2 * 0 + _ ≤ _; exact Nat.le_of_eq rfl) (by decide)
  obtain ⟨T2_, h2_, k2_, X2_, e2_, E2_, A2_, st2_⟩ := newP X1_ hx hZ (hw _ (List.mem_of_getElem? (i := 10) rfl)) e1_ (g := (mkF m 25 #[.val (.ref a1), .val (.int (4 : Int32)), .val (.double v1), .second] [(.int (4 : Int32)), (.ref a1)])) rfl (hb hby d1_25) rfl (by decide) (cap := 4) (by decide) (by decide) (by decide) (by decide)
  obtain ⟨b2_, g2_⟩ : ∃ z, z = h0.size := ⟨_, rfl⟩
  rw [← g2_] at A2_ st2_
  have v2_ : Arv Z h2_ b2_ k2_ .double (4 : Int32) [(.double (0 : UInt64)), (.double (0 : UInt64)), (.double (0 : UInt64)), (.double (0 : UInt64))] (.double (0 : UInt64)) := (Arv.new A2_ (by decide)).pad (pad_rep [] (.double (0 : UInt64)) 4)
  have f3_ : Exa Z h2_ a1 "com/example/whipstill/whipstill/MovingWindow" := (E1.ext E2_)
  have f4_ : Fld Z h2_ a1 "com/example/whipstill/whipstill/MovingWindow" "values" "[D" .null := (F1.ext E2_)
  obtain ⟨T5_, h5_, X5_, e5_, W5_, st5_⟩ := putF X2_ hx hZ hown (host := "") (Or.inl (hw _ (List.mem_of_getElem? (i := 11) rfl))) Via.refl e2_ f4_ f3_ (Or.inr ⟨(hw _ (List.mem_of_getElem? (i := 12) rfl)), rfl, hnm⟩) (hw _ (List.mem_of_getElem? (i := 2) rfl)) (ty := (.array .double)) (by decide) rfl rfl (g := (mkF m 27 #[.val (.ref a1), .val (.int (4 : Int32)), .val (.double v1), .second] [(.ref b2_), (.ref a1)])) rfl rfl (hb hby d1_27)
  have w5_ : Fld Z h5_ a1 "com/example/whipstill/whipstill/MovingWindow" "values" "[D" (.ref b2_) := f4_.same W5_
  have N5_ := Fr.snoc X5_ N0 g1
  obtain ⟨T6_, X6_, e6_, st6_⟩ := getF X5_ hx hZ hown (host := "") (Or.inl (hw _ (List.mem_of_getElem? (i := 11) rfl))) Via.refl e5_ w5_ (g := (mkF m 31 #[.val (.ref a1), .val (.int (4 : Int32)), .val (.double v1), .second] [(.ref a1)])) rfl rfl (hb hby d1_31)
  have f8_ : Arv Z h5_ b2_ k2_ .double (4 : Int32) [(.double (0 : UInt64)), (.double (0 : UInt64)), (.double (0 : UInt64)), (.double (0 : UInt64))] (.double (0 : UInt64)) := (v2_.other W5_ (Ne.symm (Nat.ne_of_lt (Nat.lt_of_lt_of_le E1.lt (Nat.le_of_eq g2_.symm)))))
  have g9_ : n0 ≤ b2_ := Nat.le_trans Z0 (Nat.le_of_eq g2_.symm)
  have z10_ : n0 ≤ h2_.size := Nat.le_trans Z0 E2_.1
  have z11_ : n0 ≤ h5_.size := Nat.le_trans z10_ (Keep.of_wr W5_).1
  obtain ⟨_, _, ⟨T7_, L7_, k7_, n7_⟩, -, X7_, ⟨Lc7_, hQ7_, l7_, y7_, z7_⟩, st7_⟩ := Jvm.LawKit.callS X6_ hx (y := (⟨"java/util/Arrays", "fill", "([DD)V"⟩ : MethodName)) hown (mvT hZ (hw _ (List.mem_of_getElem? (i := 13) rfl))) (mvT hZ (hw _ (List.mem_of_getElem? (i := 14) rfl))) (mvT hZ (hw _ (List.mem_of_getElem? (i := 15) rfl))) (mvT hZ (hw _ (List.mem_of_getElem? (i := 16) rfl))) (by decide) (backOf (W := 0) (rmFill4 l Z a0 hw [] b2_ v1 k2_ (0 : UInt64) (0 : UInt64) (0 : UInt64) (0 : UInt64) h5_ n0 z11_ f8_ g9_) hZ (hw _ (List.mem_of_getElem? (i := 16) rfl)) (hw _ (List.mem_of_getElem? (i := 15) rfl)) (by decide) (by decide)) (g := (mkF m 35 #[.val (.ref a1), .val (.int (4 : Int32)), .val (.double v1), .second] [(.double v1), (.ref b2_)])) rfl (by rw [hml]; rfl) (argsL := [(.ref b2_), (.double v1)]) (rest := []) (lenOf pd_qaDDzV rfl) rfl (by show 2 * 0 + _ ≤ _; exact Nat.le_of_eq rfl) (hb hby d1_35) (fun _ _ => ⟨rfl, e6_, (by decide : 1 + 0 ≤ _), (by decide : 4 + 0 ≤ _)⟩)
  dsimp only [Pt.U, Pt.locs, Pt.cells, Pt.slots] at X7_ l7_ y7_ z7_ st7_ hQ7_
  subst l7_ y7_ z7_
  obtain ⟨rfl, Nq7_, ek7_, p7__0⟩ := hQ7_
  have N7_ := Fr.app N5_ Nq7_
  have f12_ : Exa Z T7_.heap a1 "com/example/whipstill/whipstill/MovingWindow" := ((f3_.wr W5_).keep ek7_)
  have f13_ : Fld Z T7_.heap a1 "com/example/whipstill/whipstill/MovingWindow" "values" "[D" (.ref b2_) := (w5_.keep ek7_ (ninS (Nat.ne_of_lt (Nat.lt_of_lt_of_le E1.lt (Nat.le_of_eq g2_.symm))) nin0))
  have f14_ : Fld Z T7_.heap a1 "com/example/whipstill/whipstill/MovingWindow" "oldest" "I" (.int (0 : Int32)) := (((F2.ext E2_).other W5_ (Or.inr (slot_ne (Or.inl (hw _ (List.mem_of_getElem? (i := 23) rfl))) (Or.inr (hw _ (List.mem_of_getElem? (i := 12) rfl))) (by decide) (t := .int) (t' := (.array .double)) (by decide) (by decide)))).keep ek7_ (ninS (Nat.ne_of_lt (Nat.lt_of_lt_of_le E1.lt (Nat.le_of_eq g2_.symm))) nin0))
  have k15_ : Keep h0 h2_ [a1] := (Keep.refl h0 [a1]).ext E2_
  have k16_ : Keep h0 h5_ [a1] := k15_.wr W5_ (Or.inl (List.mem_of_getElem? (i := 0) rfl))
  have k17_ : Keep h0 T7_.heap [a1] := k16_.trans ek7_ (allS (Or.inr (Nat.le_trans (Keep.refl h0 [a1]).1 (Nat.le_of_eq g2_.symm))) all0)
  obtain ⟨fs, hr, hrun, hended, hW, hsame⟩ := X7_.leave (v := none) (fun h => by first | rfl | (rw [Bd.returns] at h; cases h))
  refine ⟨_, _, pre0 _ ?_, hrun, hended, _, _, rfl, ?_, ⟨_, rfl⟩, hW, hsame.mono (by decide) (by decide)⟩
  · show Steps p.tables e below (s₁.setTop (mkF m 0 #[.val (.ref a1), .val (.int (4 : Int32)), .val (.double v1), .second] [])) _
    refine XS.aloadN X0.here hx rfl (hb hby d1_0) rfl rfl ?_
    show Steps p.tables e below (s₁.setTop (mkF m 1 #[.val (.ref a1), .val (.int (4 : Int32)), .val (.double v1), .second] [(.ref a1)])) _
    refine st1_ _ ?_
    show Steps p.tables e below (T1_.setTop (mkF m 4 #[.val (.ref a1), .val (.int (4 : Int32)), .val (.double v1), .second] [])) _
    refine XS.iloadN X1_.here hx rfl (hb hby d1_4) rfl ?_
    show Steps p.tables e below (T1_.setTop (mkF m 5 #[.val (.ref a1), .val (.int (4 : Int32)), .val (.double v1), .second] [(.int (4 : Int32))])) _
    refine XS.iconst X1_.here hx rfl (hb hby d1_5) ?_
    show Steps p.tables e below (T1_.setTop (mkF m 6 #[.val (.ref a1), .val (.int (4 : Int32)), .val (.double v1), .second] [(.int (1 : Int32)), (.int (4 : Int32))])) _
    refine XS.icmpYes X1_.here hx rfl (pc0 := 6) (pc' := 23) rfl (hb hby d1_6) rfl (flt ((by decide) : ¬ ((4 : Int32) < (1 : Int32)))).2.1 (by decide) (by decide) ?_
    show Steps p.tables e below (T1_.setTop (mkF m 23 #[.val (.ref a1), .val (.int (4 : Int32)), .val (.double v1), .second] [])) _
    refine XS.aloadN X1_.here hx rfl (hb hby d1_23) rfl rfl ?_
    show Steps p.tables e below (T1_.setTop (mkF m 24 #[.val (.ref a1), .val (.int (4 : Int32)), .val (.double v1), .second] [(.ref a1)])) _
    refine XS.iloadN X1_.here hx rfl (hb hby d1_24) rfl ?_
    show Steps p.tables e below (T1_.setTop (mkF m 25 #[.val (.ref a1), .val (.int (4 : Int32)), .val (.double v1), .second] [(.int (4 : Int32)), (.ref a1)])) _
    refine st2_ _ ?_
    show Steps p.tables e below (T2_.setTop (mkF m 27 #[.val (.ref a1), .val (.int (4 : Int32)), .val (.double v1), .second] [(.ref b2_), (.ref a1)])) _
    refine st5_ _ ?_
    show Steps p.tables e below (T5_.setTop (mkF m 30 #[.val (.ref a1), .val (.int (4 : Int32)), .val (.double v1), .second] [])) _
    refine XS.aloadN X5_.here hx rfl (hb hby d1_30) rfl rfl ?_
    show Steps p.tables e below (T5_.setTop (mkF m 31 #[.val (.ref a1), .val (.int (4 : Int32)), .val (.double v1), .second] [(.ref a1)])) _
    refine st6_ _ ?_
    show Steps p.tables e below (T6_.setTop (mkF m 34 #[.val (.ref a1), .val (.int (4 : Int32)), .val (.double v1), .second] [(.ref b2_)])) _
    refine XS.dloadN X6_.here hx rfl (hb hby d1_34) rfl ?_
    show Steps p.tables e below (T6_.setTop (mkF m 35 #[.val (.ref a1), .val (.int (4 : Int32)), .val (.double v1), .second] [(.double v1), (.ref b2_)])) _
    refine st7_ _ ?_
    show Steps p.tables e below (T7_.setTop (mkF m 38 #[.val (.ref a1), .val (.int (4 : Int32)), .val (.double v1), .second] [])) _
    exact X7_.returnOut hx Bd.returns (hb hby d1_38) hr
  · show Q_rmInit4 Z a1 v1 h0 n0 _ T7_.heap _
    skip
    exact ⟨b2_, k2_, rfl, N7_, k17_, (Nat.le_trans (Keep.refl h0 [a1]).1 (Nat.le_of_eq g2_.symm)), f12_, f13_, f14_, p7__0⟩
theorem d5_0 : decode method_2_code 0 = .ok (.lload_n 0, 1) := by decide +kernel
theorem d5_1 : decode method_2_code 1 = .ok (.lload_n 0, 1) := by decide +kernel
theorem d5_2 : decode method_2_code 2 = .ok (.lmul, 1) := by decide +kernel
theorem d5_3 : decode method_2_code 3 = .ok (.lreturn, 1) := by decide +kernel
theorem pn_com_example_whipstill_whipstill_MovingWindowSampleVariancePinLaw : plainName "com/example/whipstill/whipstill/MovingWindowSampleVariancePinLaw" = true := by first | (simp [plainName, overriddenIn]; done) | decide +kernel
theorem ef_rmSq (m : MethodId) (x0 : Int64) : entryFrame m #[(.long x0)] 2 = mkF m 0 #[.val (.long x0), .second] [] := by first | (simp [entryFrame, mkF, argsToLocals, Value.category]; done) | rfl
def Q_rmSq (Z : State) (q1 : Int64) (h0 : Heap) (n0 : Nat) (v : Option Value) (h : Heap) (L : List Loc) : Prop := v = some (.long (q1 * q1)) ∧ Fr n0 L ∧ h = h0
set_option maxRecDepth 65536 in
set_option maxHeartbeats 40000000 in
theorem rmSq (l : Launch) (Z : State) (a0 : Array Value) (hw : ∀ d ∈ tables_1, d.before a0 Z = true) (ws : List Jvm.Cond) (q1 : Int64) (h0 : Heap) (n0 : Nat) (Z0 : n0 ≤ h0.size)  :
    MetFree l (⟨"com/example/whipstill/whipstill/MovingWindowSampleVariancePinLaw", "sq", "(J)J"⟩ : MethodName) (head1 (Jvm.Cond.code (⟨"com/example/whipstill/whipstill/MovingWindowSampleVariancePinLaw", "sq", "(J)J"⟩ : MethodName) method_2_code 2 (some .long) :: ws) ({ frames := 0, cells := 0, slots := 0, locals := 0 } : Room)) (fun a U => a = #[(.long q1)] ∧ Z.Warmed39 U.vm ∧ U.heap = h0) (fun _ _ _ _ _ => True) (fun _ U o U' => ∃ v L, o = .returned v ∧ Q_rmSq Z q1 h0 n0 v U'.heap L ∧ FrameEnd U o U' L ({ frames := 0, cells := 0, slots := 0, locals := 0 } : Room).cells ({ frames := 0, cells := 0, slots := 0, locals := 0 } : Room).slots) := by
  refine MetFree.of_bodySF (plainFor_of_name pn_com_example_whipstill_whipstill_MovingWindowSampleVariancePinLaw) hisR ?_
  intro p e s m args below meth c s₁ Bd hml0 hP hK
  obtain ⟨rfl, hZ, hh⟩ := hP
  have hx := Bd.exec
  have hby := Bd.bytes
  have hml : c.maxLocals = 2 := hml0
  have hown : s.vm.findClass "com/example/whipstill/whipstill/MovingWindowSampleVariancePinLaw" = some m.cls := findClass_of_methodNamed Bd.named
  have hnm := (name_of_methodNamed Bd.named Bd.method).1
  have X0 : Stand p l e ({ frames := 0, cells := 0, slots := 0, locals := 0 } : Room) s m #[(.long q1)] below meth c s₁ [] 0 0 := Stand.of_body Bd
  have e0 : s₁.heap = h0 := by rw [← hh, Bd.state]; rfl
  have N0 := Fr.nil n0
  have pre0 : ∀ t, Steps p.tables e below (s₁.setTop (mkF m 0 #[.val (.long q1), .second] [])) t → Steps p.tables e below (s₁.setTop (entryFrame m #[(.long q1)] 2)) t := fun t k => castTop (ef_rmSq m q1) k
  obtain ⟨fs, hr, hrun, hended, hW, hsame⟩ := X0.leave (v := some (.long (q1 * q1))) (fun h => by first | rfl | (rw [Bd.returns] at h; cases h))
  refine ⟨_, _, pre0 _ ?_, hrun, hended, _, _, rfl, ?_, ⟨_, rfl⟩, hW, hsame.mono (by decide) (by decide)⟩
  · show Steps p.tables e below (s₁.setTop (mkF m 0 #[.val (.long q1), .second] [])) _
    refine XS.lloadN X0.here hx rfl (hb hby d5_0) rfl ?_
    show Steps p.tables e below (s₁.setTop (mkF m 1 #[.val (.long q1), .second] [(.long q1)])) _
    refine XS.lloadN X0.here hx rfl (hb hby d5_1) rfl ?_
    show Steps p.tables e below (s₁.setTop (mkF m 2 #[.val (.long q1), .second] [(.long q1), (.long q1)])) _
    refine XS.lmul X0.here hx rfl (hb hby d5_2) rfl ?_
    show Steps p.tables e below (s₁.setTop (mkF m 3 #[.val (.long q1), .second] [(.long (q1 * q1))])) _
    exact X0.lreturnOut hx Bd.returns (hb hby d5_3) hr
  · show Q_rmSq Z q1 h0 n0 _ s₁.heap _
    rw [e0]
    exact ⟨rfl, N0, rfl⟩
theorem d6_0 : decode prog_11_method_8_code 0 = .ok (.dconst 0, 1) := by decide +kernel
theorem d6_1 : decode prog_11_method_8_code 1 = .ok (.dstore_n 3, 1) := by decide +kernel
theorem d6_2 : decode prog_11_method_8_code 2 = .ok (.aload_n 0, 1) := by decide +kernel
theorem d6_3 : decode prog_11_method_8_code 3 = .ok (.getfield 16, 3) := by decide +kernel
theorem d6_6 : decode prog_11_method_8_code 6 = .ok (.astore 5, 2) := by decide +kernel
theorem d6_8 : decode prog_11_method_8_code 8 = .ok (.aload 5, 2) := by decide +kernel
theorem d6_10 : decode prog_11_method_8_code 10 = .ok (.arraylength, 1) := by decide +kernel
theorem d6_11 : decode prog_11_method_8_code 11 = .ok (.istore 6, 2) := by decide +kernel
theorem d6_13 : decode prog_11_method_8_code 13 = .ok (.iconst 0, 1) := by decide +kernel
theorem d6_14 : decode prog_11_method_8_code 14 = .ok (.istore 7, 2) := by decide +kernel
theorem d6_16 : decode prog_11_method_8_code 16 = .ok (.iload 7, 2) := by decide +kernel
theorem d6_18 : decode prog_11_method_8_code 18 = .ok (.iload 6, 2) := by decide +kernel
theorem d6_20 : decode prog_11_method_8_code 20 = .ok (.if_icmp .ge 28, 3) := by decide +kernel
theorem d6_23 : decode prog_11_method_8_code 23 = .ok (.aload 5, 2) := by decide +kernel
theorem d6_25 : decode prog_11_method_8_code 25 = .ok (.iload 7, 2) := by decide +kernel
theorem d6_27 : decode prog_11_method_8_code 27 = .ok (.daload, 1) := by decide +kernel
theorem d6_28 : decode prog_11_method_8_code 28 = .ok (.dstore 8, 2) := by decide +kernel
theorem d6_30 : decode prog_11_method_8_code 30 = .ok (.dload_n 3, 1) := by decide +kernel
theorem d6_31 : decode prog_11_method_8_code 31 = .ok (.dload 8, 2) := by decide +kernel
theorem d6_33 : decode prog_11_method_8_code 33 = .ok (.dload_n 1, 1) := by decide +kernel
theorem d6_34 : decode prog_11_method_8_code 34 = .ok (.dsub, 1) := by decide +kernel
theorem d6_35 : decode prog_11_method_8_code 35 = .ok (.dload 8, 2) := by decide +kernel
theorem d6_37 : decode prog_11_method_8_code 37 = .ok (.dload_n 1, 1) := by decide +kernel
theorem d6_38 : decode prog_11_method_8_code 38 = .ok (.dsub, 1) := by decide +kernel
theorem d6_39 : decode prog_11_method_8_code 39 = .ok (.dmul, 1) := by decide +kernel
theorem d6_40 : decode prog_11_method_8_code 40 = .ok (.dadd, 1) := by decide +kernel
theorem d6_41 : decode prog_11_method_8_code 41 = .ok (.dstore_n 3, 1) := by decide +kernel
theorem d6_42 : decode prog_11_method_8_code 42 = .ok (.iinc 7 1, 3) := by decide +kernel
theorem d6_45 : decode prog_11_method_8_code 45 = .ok (.goto (-29), 3) := by decide +kernel
theorem d6_48 : decode prog_11_method_8_code 48 = .ok (.dload_n 3, 1) := by decide +kernel
theorem d6_49 : decode prog_11_method_8_code 49 = .ok (.aload_n 0, 1) := by decide +kernel
theorem d6_50 : decode prog_11_method_8_code 50 = .ok (.getfield 16, 3) := by decide +kernel
theorem d6_53 : decode prog_11_method_8_code 53 = .ok (.arraylength, 1) := by decide +kernel
theorem d6_54 : decode prog_11_method_8_code 54 = .ok (.iconst 1, 1) := by decide +kernel
theorem d6_55 : decode prog_11_method_8_code 55 = .ok (.isub, 1) := by decide +kernel
theorem d6_56 : decode prog_11_method_8_code 56 = .ok (.i2d, 1) := by decide +kernel
theorem d6_57 : decode prog_11_method_8_code 57 = .ok (.ddiv, 1) := by decide +kernel
theorem d6_58 : decode prog_11_method_8_code 58 = .ok (.dreturn, 1) := by decide +kernel
theorem ef_rmSv2 (m : MethodId) (x0 : Addr) (x1 : UInt64) : entryFrame m #[(.ref x0), (.double x1)] 10 = mkF m 0 #[.val (.ref x0), .val (.double x1), .second, .unset, .unset, .unset, .unset, .unset, .unset, .unset] [] := by first | (simp [entryFrame, mkF, argsToLocals, Value.category]; done) | rfl
def Q_rmSv2 (Z : State) (a1 : Addr) (m1 : Int64) (t1 : Addr) (k1 : ClassId) (y0 : Int64) (y1 : Int64) (h0 : Heap) (n0 : Nat) (v : Option Value) (h : Heap) (L : List Loc) : Prop := v = some (.double (FP.ddiv (FP.l2d (((0 : Int64) + ((y0 - m1) * (y0 - m1))) + ((y1 - m1) * (y1 - m1)))) (FP.i2d (1 : Int32)))) ∧ Fr n0 L ∧ h = h0
set_option maxRecDepth 65536 in
set_option maxHeartbeats 40000000 in
theorem rmSv2 (l : Launch) (Z : State) (a0 : Array Value) (hw : ∀ d ∈ tables_1, d.before a0 Z = true) (ws : List Jvm.Cond) (a1 : Addr) (m1 : Int64) (t1 : Addr) (k1 : ClassId) (y0 : Int64) (y1 : Int64) (h0 : Heap) (n0 : Nat) (Z0 : n0 ≤ h0.size) (F1 : Fld Z h0 a1 "com/example/whipstill/whipstill/MovingWindow" "values" "[D" (.ref t1)) (V1 : Arv Z h0 t1 k1 .double (2 : Int32) [(.double (FP.l2d y0)), (.double (FP.l2d y1))] (.double (0 : UInt64))) (bm : own_R m1 1048576) (b_y0 : own_R y0 1048576) (b_y1 : own_R y1 1048576) :
    MetFree l (⟨"com/example/whipstill/whipstill/MovingWindow", "sampleVariance", "(D)D"⟩ : MethodName) (head1 (Jvm.Cond.code (⟨"com/example/whipstill/whipstill/MovingWindow", "sampleVariance", "(D)D"⟩ : MethodName) prog_11_method_8_code 10 (some .double) :: ws) ({ frames := 0, cells := 0, slots := 0, locals := 0 } : Room)) (fun a U => a = #[(.ref a1), (.double (FP.l2d m1))] ∧ Z.Warmed39 U.vm ∧ U.heap = h0) (fun _ _ _ _ _ => True) (fun _ U o U' => ∃ v L, o = .returned v ∧ Q_rmSv2 Z a1 m1 t1 k1 y0 y1 h0 n0 v U'.heap L ∧ FrameEnd U o U' L ({ frames := 0, cells := 0, slots := 0, locals := 0 } : Room).cells ({ frames := 0, cells := 0, slots := 0, locals := 0 } : Room).slots) := by
  refine MetFree.of_bodySF (plainFor_of_name pn_com_example_whipstill_whipstill_MovingWindow) hisR ?_
  intro p e s m args below meth c s₁ Bd hml0 hP hK
  obtain ⟨rfl, hZ, hh⟩ := hP
  have hx := Bd.exec
  have hby := Bd.bytes
  have hml : c.maxLocals = 10 := hml0
  have hown : s.vm.findClass "com/example/whipstill/whipstill/MovingWindow" = some m.cls := findClass_of_methodNamed Bd.named
  have hnm := (name_of_methodNamed Bd.named Bd.method).1
  have X0 : Stand p l e ({ frames := 0, cells := 0, slots := 0, locals := 0 } : Room) s m #[(.ref a1), (.double (FP.l2d m1))] below meth c s₁ [] 0 0 := Stand.of_body Bd
  have e0 : s₁.heap = h0 := by rw [← hh, Bd.state]; rfl
  have N0 := Fr.nil n0
  have pre0 : ∀ t, Steps p.tables e below (s₁.setTop (mkF m 0 #[.val (.ref a1), .val (.double (FP.l2d m1)), .second, .unset, .unset, .unset, .unset, .unset, .unset, .unset] [])) t → Steps p.tables e below (s₁.setTop (entryFrame m #[(.ref a1), (.double (FP.l2d m1))] 10)) t := fun t k => castTop (ef_rmSv2 m a1 (FP.l2d m1)) k
  obtain ⟨T1_, X1_, e1_, st1_⟩ := getF X0 hx hZ hown (host := "") (Or.inl (hw _ (List.mem_of_getElem? (i := 11) rfl))) Via.refl e0 F1 (g := (mkF m 3 #[.val (.ref a1), .val (.double (FP.l2d m1)), .second, .val (.double (FP.l2d (0 : Int64))), .second, .unset, .unset, .unset, .unset, .unset] [(.ref a1)])) rfl rfl (hb hby d6_3)
  obtain ⟨cl2_, Ar2_, q2_, S2_, M2_, Hs2_, G2_⟩ := id V1
  obtain ⟨cl3_, Ar3_, q3_, S3_, M3_, Hs3_, G3_⟩ := id V1
  have in3_ : ¬ ((0 : Int32) < 0 ∨ cl3_.slots.size ≤ ((0 : Int32)).toNatClampNeg) := inb_of S3_ ⟨by decide, by decide⟩
  have at3_ : cl3_.slots[((0 : Int32)).toNatClampNeg]? = some (.double (FP.l2d y0)) := Hs3_.at in3_ rfl
  have q4_ : FP.dsub (FP.l2d y0) (FP.l2d m1) = FP.l2d (y0 - m1) := dsub_w (b_y0.b53 (by decide)) (bm.b53 (by decide))
  have q5_ : FP.dsub (FP.l2d y0) (FP.l2d m1) = FP.l2d (y0 - m1) := dsub_w (b_y0.b53 (by decide)) (bm.b53 (by decide))
  have r6_ : own_R (y0 - m1) 2097152 := own_R.sub b_y0 bm (by decide) (by decide)
  have q7_ : FP.dmul (FP.l2d (y0 - m1)) (FP.l2d (y0 - m1)) = FP.l2d ((y0 - m1) * (y0 - m1)) := own_sqd r6_ (by decide) (by decide)
  have r9_ : own_R ((y0 - m1) * (y0 - m1)) 4398046511104 := own_R.mul r6_ r6_ (by decide) (by decide) (by decide) (by decide)
  have q8_ : FP.dadd (FP.l2d (0 : Int64)) (FP.l2d ((y0 - m1) * (y0 - m1))) = FP.l2d ((0 : Int64) + ((y0 - m1) * (y0 - m1))) := dadd_w ((own_R.lit (0 : Int64) 0 (by decide)).b53 (by decide)) (r9_.b53 (by decide))
  obtain ⟨cl10_, Ar10_, q10_, S10_, M10_, Hs10_, G10_⟩ := id V1
  have in10_ : ¬ ((1 : Int32) < 0 ∨ cl10_.slots.size ≤ ((1 : Int32)).toNatClampNeg) := inb_of S10_ ⟨by decide, by decide⟩
  have at10_ : cl10_.slots[((1 : Int32)).toNatClampNeg]? = some (.double (FP.l2d y1)) := Hs10_.at in10_ rfl
  have q11_ : FP.dsub (FP.l2d y1) (FP.l2d m1) = FP.l2d (y1 - m1) := dsub_w (b_y1.b53 (by decide)) (bm.b53 (by decide))
  have q12_ : FP.dsub (FP.l2d y1) (FP.l2d m1) = FP.l2d (y1 - m1) := dsub_w (b_y1.b53 (by decide)) (bm.b53 (by decide))
  have r13_ : own_R (y1 - m1) 2097152 := own_R.sub b_y1 bm (by decide) (by decide)
  have q14_ : FP.dmul (FP.l2d (y1 - m1)) (FP.l2d (y1 - m1)) = FP.l2d ((y1 - m1) * (y1 - m1)) := own_sqd r13_ (by decide) (by decide)
  have r16_ : own_R ((0 : Int64) + ((y0 - m1) * (y0 - m1))) 4398046511104 := own_R.add (own_R.lit (0 : Int64) 0 (by decide)) r9_ (by decide) (by decide)
  have r17_ : own_R ((y1 - m1) * (y1 - m1)) 4398046511104 := own_R.mul r13_ r13_ (by decide) (by decide) (by decide) (by decide)
  have q15_ : FP.dadd (FP.l2d ((0 : Int64) + ((y0 - m1) * (y0 - m1)))) (FP.l2d ((y1 - m1) * (y1 - m1))) = FP.l2d (((0 : Int64) + ((y0 - m1) * (y0 - m1))) + ((y1 - m1) * (y1 - m1))) := dadd_w (r16_.b53 (by decide)) (r17_.b53 (by decide))
  obtain ⟨T18_, X18_, e18_, st18_⟩ := getF X1_ hx hZ hown (host := "") (Or.inl (hw _ (List.mem_of_getElem? (i := 11) rfl))) Via.refl e1_ F1 (g := (mkF m 50 #[.val (.ref a1), .val (.double (FP.l2d m1)), .second, .val (.double (FP.l2d (((0 : Int64) + ((y0 - m1) * (y0 - m1))) + ((y1 - m1) * (y1 - m1))))), .second, .val (.ref t1), .val (.int (2 : Int32)), .val (.int (2 : Int32)), .val (.double (FP.l2d y1)), .second] [(.ref a1), (.double (FP.l2d (((0 : Int64) + ((y0 - m1) * (y0 - m1))) + ((y1 - m1) * (y1 - m1)))))])) rfl rfl (hb hby d6_50)
  obtain ⟨cl19_, Ar19_, q19_, S19_, M19_, Hs19_, G19_⟩ := id V1
  have q20_ : Jvm.Free.Fl.NoNaN64 (FP.ddiv (FP.l2d (((0 : Int64) + ((y0 - m1) * (y0 - m1))) + ((y1 - m1) * (y1 - m1)))) (FP.i2d (1 : Int32))) := own_ddiv _ _ (by decide)
  obtain ⟨fs, hr, hrun, hended, hW, hsame⟩ := X18_.leave (v := some (.double (FP.ddiv (FP.l2d (((0 : Int64) + ((y0 - m1) * (y0 - m1))) + ((y1 - m1) * (y1 - m1)))) (FP.i2d (1 : Int32))))) (fun h => by first | rfl | (rw [Bd.returns] at h; cases h))
  refine ⟨_, _, pre0 _ ?_, hrun, hended, _, _, rfl, ?_, ⟨_, rfl⟩, hW, hsame.mono (by decide) (by decide)⟩
  · show Steps p.tables e below (s₁.setTop (mkF m 0 #[.val (.ref a1), .val (.double (FP.l2d m1)), .second, .unset, .unset, .unset, .unset, .unset, .unset, .unset] [])) _
    refine XS.dconst0 X0.here hx rfl (hb hby d6_0) own_d0 ?_
    show Steps p.tables e below (s₁.setTop (mkF m 1 #[.val (.ref a1), .val (.double (FP.l2d m1)), .second, .unset, .unset, .unset, .unset, .unset, .unset, .unset] [(.double (FP.l2d (0 : Int64)))])) _
    refine XS.dstoreN X0.here hx rfl (hb hby d6_1) rfl (l' := #[.val (.ref a1), .val (.double (FP.l2d m1)), .second, .val (.double (FP.l2d (0 : Int64))), .second, .unset, .unset, .unset, .unset, .unset]) rfl ?_
    show Steps p.tables e below (s₁.setTop (mkF m 2 #[.val (.ref a1), .val (.double (FP.l2d m1)), .second, .val (.double (FP.l2d (0 : Int64))), .second, .unset, .unset, .unset, .unset, .unset] [])) _
    refine XS.aloadN X0.here hx rfl (hb hby d6_2) rfl rfl ?_
    show Steps p.tables e below (s₁.setTop (mkF m 3 #[.val (.ref a1), .val (.double (FP.l2d m1)), .second, .val (.double (FP.l2d (0 : Int64))), .second, .unset, .unset, .unset, .unset, .unset] [(.ref a1)])) _
    refine st1_ _ ?_
    show Steps p.tables e below (T1_.setTop (mkF m 6 #[.val (.ref a1), .val (.double (FP.l2d m1)), .second, .val (.double (FP.l2d (0 : Int64))), .second, .unset, .unset, .unset, .unset, .unset] [(.ref t1)])) _
    refine XS.astore X1_.here hx rfl (hb hby d6_6) rfl rfl (l' := #[.val (.ref a1), .val (.double (FP.l2d m1)), .second, .val (.double (FP.l2d (0 : Int64))), .second, .val (.ref t1), .unset, .unset, .unset, .unset]) rfl ?_
    show Steps p.tables e below (T1_.setTop (mkF m 8 #[.val (.ref a1), .val (.double (FP.l2d m1)), .second, .val (.double (FP.l2d (0 : Int64))), .second, .val (.ref t1), .unset, .unset, .unset, .unset] [])) _
    refine XS.aload X1_.here hx rfl (hb hby d6_8) rfl rfl ?_
    show Steps p.tables e below (T1_.setTop (mkF m 10 #[.val (.ref a1), .val (.double (FP.l2d m1)), .second, .val (.double (FP.l2d (0 : Int64))), .second, .val (.ref t1), .unset, .unset, .unset, .unset] [(.ref t1)])) _
    refine X1_.arraylength hx (by rw [e1_]; exact Ar2_.1) (State.isArrayOf_alike (State.Warmed39.alike hZ) Ar2_.2.1) (g := (mkF m 10 #[.val (.ref a1), .val (.double (FP.l2d m1)), .second, .val (.double (FP.l2d (0 : Int64))), .second, .val (.ref t1), .unset, .unset, .unset, .unset] [(.ref t1)])) rfl rfl (hb hby d6_10) _ ?_
    rw [len_of S2_ M2_]
    show Steps p.tables e below (T1_.setTop (mkF m 11 #[.val (.ref a1), .val (.double (FP.l2d m1)), .second, .val (.double (FP.l2d (0 : Int64))), .second, .val (.ref t1), .unset, .unset, .unset, .unset] [(.int (2 : Int32))])) _
    refine XS.istore X1_.here hx rfl (hb hby d6_11) rfl (l' := #[.val (.ref a1), .val (.double (FP.l2d m1)), .second, .val (.double (FP.l2d (0 : Int64))), .second, .val (.ref t1), .val (.int (2 : Int32)), .unset, .unset, .unset]) rfl ?_
    show Steps p.tables e below (T1_.setTop (mkF m 13 #[.val (.ref a1), .val (.double (FP.l2d m1)), .second, .val (.double (FP.l2d (0 : Int64))), .second, .val (.ref t1), .val (.int (2 : Int32)), .unset, .unset, .unset] [])) _
    refine XS.iconst X1_.here hx rfl (hb hby d6_13) ?_
    show Steps p.tables e below (T1_.setTop (mkF m 14 #[.val (.ref a1), .val (.double (FP.l2d m1)), .second, .val (.double (FP.l2d (0 : Int64))), .second, .val (.ref t1), .val (.int (2 : Int32)), .unset, .unset, .unset] [(.int (0 : Int32))])) _
    refine XS.istore X1_.here hx rfl (hb hby d6_14) rfl (l' := #[.val (.ref a1), .val (.double (FP.l2d m1)), .second, .val (.double (FP.l2d (0 : Int64))), .second, .val (.ref t1), .val (.int (2 : Int32)), .val (.int (0 : Int32)), .unset, .unset]) rfl ?_
    show Steps p.tables e below (T1_.setTop (mkF m 16 #[.val (.ref a1), .val (.double (FP.l2d m1)), .second, .val (.double (FP.l2d (0 : Int64))), .second, .val (.ref t1), .val (.int (2 : Int32)), .val (.int (0 : Int32)), .unset, .unset] [])) _
    refine XS.iload X1_.here hx rfl (hb hby d6_16) rfl ?_
    show Steps p.tables e below (T1_.setTop (mkF m 18 #[.val (.ref a1), .val (.double (FP.l2d m1)), .second, .val (.double (FP.l2d (0 : Int64))), .second, .val (.ref t1), .val (.int (2 : Int32)), .val (.int (0 : Int32)), .unset, .unset] [(.int (0 : Int32))])) _
    refine XS.iload X1_.here hx rfl (hb hby d6_18) rfl ?_
    show Steps p.tables e below (T1_.setTop (mkF m 20 #[.val (.ref a1), .val (.double (FP.l2d m1)), .second, .val (.double (FP.l2d (0 : Int64))), .second, .val (.ref t1), .val (.int (2 : Int32)), .val (.int (0 : Int32)), .unset, .unset] [(.int (2 : Int32)), (.int (0 : Int32))])) _
    refine XS.icmpNo X1_.here hx rfl (hb hby d6_20) rfl (tlt ((by decide) : (0 : Int32) < (2 : Int32))).2.1 ?_
    show Steps p.tables e below (T1_.setTop (mkF m 23 #[.val (.ref a1), .val (.double (FP.l2d m1)), .second, .val (.double (FP.l2d (0 : Int64))), .second, .val (.ref t1), .val (.int (2 : Int32)), .val (.int (0 : Int32)), .unset, .unset] [])) _
    refine XS.aload X1_.here hx rfl (hb hby d6_23) rfl rfl ?_
    show Steps p.tables e below (T1_.setTop (mkF m 25 #[.val (.ref a1), .val (.double (FP.l2d m1)), .second, .val (.double (FP.l2d (0 : Int64))), .second, .val (.ref t1), .val (.int (2 : Int32)), .val (.int (0 : Int32)), .unset, .unset] [(.ref t1)])) _
    refine XS.iload X1_.here hx rfl (hb hby d6_25) rfl ?_
    show Steps p.tables e below (T1_.setTop (mkF m 27 #[.val (.ref a1), .val (.double (FP.l2d m1)), .second, .val (.double (FP.l2d (0 : Int64))), .second, .val (.ref t1), .val (.int (2 : Int32)), .val (.int (0 : Int32)), .unset, .unset] [(.int (0 : Int32)), (.ref t1)])) _
    refine X1_.daload hx (j := (0 : Int32)) (v := (.double (FP.l2d y0))) (by rw [e1_]; exact Ar3_.1) (State.isArrayOf_alike (State.Warmed39.alike hZ) Ar3_.2.1) Ar3_.2.2 in3_ at3_ (g := (mkF m 27 #[.val (.ref a1), .val (.double (FP.l2d m1)), .second, .val (.double (FP.l2d (0 : Int64))), .second, .val (.ref t1), .val (.int (2 : Int32)), .val (.int (0 : Int32)), .unset, .unset] [(.int (0 : Int32)), (.ref t1)])) rfl rfl (hb hby d6_27) _ ?_
    show Steps p.tables e below (T1_.setTop (mkF m 28 #[.val (.ref a1), .val (.double (FP.l2d m1)), .second, .val (.double (FP.l2d (0 : Int64))), .second, .val (.ref t1), .val (.int (2 : Int32)), .val (.int (0 : Int32)), .unset, .unset] [(.double (FP.l2d y0))])) _
    refine XS.dstore X1_.here hx rfl (hb hby d6_28) rfl (l' := #[.val (.ref a1), .val (.double (FP.l2d m1)), .second, .val (.double (FP.l2d (0 : Int64))), .second, .val (.ref t1), .val (.int (2 : Int32)), .val (.int (0 : Int32)), .val (.double (FP.l2d y0)), .second]) rfl ?_
    show Steps p.tables e below (T1_.setTop (mkF m 30 #[.val (.ref a1), .val (.double (FP.l2d m1)), .second, .val (.double (FP.l2d (0 : Int64))), .second, .val (.ref t1), .val (.int (2 : Int32)), .val (.int (0 : Int32)), .val (.double (FP.l2d y0)), .second] [])) _
    refine XS.dloadN X1_.here hx rfl (hb hby d6_30) rfl ?_
    show Steps p.tables e below (T1_.setTop (mkF m 31 #[.val (.ref a1), .val (.double (FP.l2d m1)), .second, .val (.double (FP.l2d (0 : Int64))), .second, .val (.ref t1), .val (.int (2 : Int32)), .val (.int (0 : Int32)), .val (.double (FP.l2d y0)), .second] [(.double (FP.l2d (0 : Int64)))])) _
    refine XS.dload X1_.here hx rfl (hb hby d6_31) rfl ?_
    show Steps p.tables e below (T1_.setTop (mkF m 33 #[.val (.ref a1), .val (.double (FP.l2d m1)), .second, .val (.double (FP.l2d (0 : Int64))), .second, .val (.ref t1), .val (.int (2 : Int32)), .val (.int (0 : Int32)), .val (.double (FP.l2d y0)), .second] [(.double (FP.l2d y0)), (.double (FP.l2d (0 : Int64)))])) _
    refine XS.dloadN X1_.here hx rfl (hb hby d6_33) rfl ?_
    show Steps p.tables e below (T1_.setTop (mkF m 34 #[.val (.ref a1), .val (.double (FP.l2d m1)), .second, .val (.double (FP.l2d (0 : Int64))), .second, .val (.ref t1), .val (.int (2 : Int32)), .val (.int (0 : Int32)), .val (.double (FP.l2d y0)), .second] [(.double (FP.l2d m1)), (.double (FP.l2d y0)), (.double (FP.l2d (0 : Int64)))])) _
    refine XS.dsubS X1_.here hx rfl (hb hby d6_34) rfl (nn_w q4_) (v := (FP.l2d (y0 - m1))) q4_ ?_
    show Steps p.tables e below (T1_.setTop (mkF m 35 #[.val (.ref a1), .val (.double (FP.l2d m1)), .second, .val (.double (FP.l2d (0 : Int64))), .second, .val (.ref t1), .val (.int (2 : Int32)), .val (.int (0 : Int32)), .val (.double (FP.l2d y0)), .second] [(.double (FP.l2d (y0 - m1))), (.double (FP.l2d (0 : Int64)))])) _
    refine XS.dload X1_.here hx rfl (hb hby d6_35) rfl ?_
    show Steps p.tables e below (T1_.setTop (mkF m 37 #[.val (.ref a1), .val (.double (FP.l2d m1)), .second, .val (.double (FP.l2d (0 : Int64))), .second, .val (.ref t1), .val (.int (2 : Int32)), .val (.int (0 : Int32)), .val (.double (FP.l2d y0)), .second] [(.double (FP.l2d y0)), (.double (FP.l2d (y0 - m1))), (.double (FP.l2d (0 : Int64)))])) _
    refine XS.dloadN X1_.here hx rfl (hb hby d6_37) rfl ?_
    show Steps p.tables e below (T1_.setTop (mkF m 38 #[.val (.ref a1), .val (.double (FP.l2d m1)), .second, .val (.double (FP.l2d (0 : Int64))), .second, .val (.ref t1), .val (.int (2 : Int32)), .val (.int (0 : Int32)), .val (.double (FP.l2d y0)), .second] [(.double (FP.l2d m1)), (.double (FP.l2d y0)), (.double (FP.l2d (y0 - m1))), (.double (FP.l2d (0 : Int64)))])) _
    refine XS.dsubS X1_.here hx rfl (hb hby d6_38) rfl (nn_w q5_) (v := (FP.l2d (y0 - m1))) q5_ ?_
    show Steps p.tables e below (T1_.setTop (mkF m 39 #[.val (.ref a1), .val (.double (FP.l2d m1)), .second, .val (.double (FP.l2d (0 : Int64))), .second, .val (.ref t1), .val (.int (2 : Int32)), .val (.int (0 : Int32)), .val (.double (FP.l2d y0)), .second] [(.double (FP.l2d (y0 - m1))), (.double (FP.l2d (y0 - m1))), (.double (FP.l2d (0 : Int64)))])) _
    refine XS.dmulS X1_.here hx rfl (hb hby d6_39) rfl (nn_w q7_) (v := (FP.l2d ((y0 - m1) * (y0 - m1)))) q7_ ?_
    show Steps p.tables e below (T1_.setTop (mkF m 40 #[.val (.ref a1), .val (.double (FP.l2d m1)), .second, .val (.double (FP.l2d (0 : Int64))), .second, .val (.ref t1), .val (.int (2 : Int32)), .val (.int (0 : Int32)), .val (.double (FP.l2d y0)), .second] [(.double (FP.l2d ((y0 - m1) * (y0 - m1)))), (.double (FP.l2d (0 : Int64)))])) _
    refine XS.daddS X1_.here hx rfl (hb hby d6_40) rfl (nn_w q8_) (v := (FP.l2d ((0 : Int64) + ((y0 - m1) * (y0 - m1))))) q8_ ?_
    show Steps p.tables e below (T1_.setTop (mkF m 41 #[.val (.ref a1), .val (.double (FP.l2d m1)), .second, .val (.double (FP.l2d (0 : Int64))), .second, .val (.ref t1), .val (.int (2 : Int32)), .val (.int (0 : Int32)), .val (.double (FP.l2d y0)), .second] [(.double (FP.l2d ((0 : Int64) + ((y0 - m1) * (y0 - m1)))))])) _
    refine XS.dstoreN X1_.here hx rfl (hb hby d6_41) rfl (l' := #[.val (.ref a1), .val (.double (FP.l2d m1)), .second, .val (.double (FP.l2d ((0 : Int64) + ((y0 - m1) * (y0 - m1))))), .second, .val (.ref t1), .val (.int (2 : Int32)), .val (.int (0 : Int32)), .val (.double (FP.l2d y0)), .second]) rfl ?_
    show Steps p.tables e below (T1_.setTop (mkF m 42 #[.val (.ref a1), .val (.double (FP.l2d m1)), .second, .val (.double (FP.l2d ((0 : Int64) + ((y0 - m1) * (y0 - m1))))), .second, .val (.ref t1), .val (.int (2 : Int32)), .val (.int (0 : Int32)), .val (.double (FP.l2d y0)), .second] [])) _
    refine XS.iinc X1_.here hx rfl (hb hby d6_42) rfl (l' := #[.val (.ref a1), .val (.double (FP.l2d m1)), .second, .val (.double (FP.l2d ((0 : Int64) + ((y0 - m1) * (y0 - m1))))), .second, .val (.ref t1), .val (.int (2 : Int32)), .val (.int (1 : Int32)), .val (.double (FP.l2d y0)), .second]) rfl ?_
    show Steps p.tables e below (T1_.setTop (mkF m 45 #[.val (.ref a1), .val (.double (FP.l2d m1)), .second, .val (.double (FP.l2d ((0 : Int64) + ((y0 - m1) * (y0 - m1))))), .second, .val (.ref t1), .val (.int (2 : Int32)), .val (.int (1 : Int32)), .val (.double (FP.l2d y0)), .second] [])) _
    refine XS.goto X1_.here hx rfl (pc0 := 45) (pc' := 16) rfl (hb hby d6_45) (by decide) (by decide) ?_
    show Steps p.tables e below (T1_.setTop (mkF m 16 #[.val (.ref a1), .val (.double (FP.l2d m1)), .second, .val (.double (FP.l2d ((0 : Int64) + ((y0 - m1) * (y0 - m1))))), .second, .val (.ref t1), .val (.int (2 : Int32)), .val (.int (1 : Int32)), .val (.double (FP.l2d y0)), .second] [])) _
    refine XS.iload X1_.here hx rfl (hb hby d6_16) rfl ?_
    show Steps p.tables e below (T1_.setTop (mkF m 18 #[.val (.ref a1), .val (.double (FP.l2d m1)), .second, .val (.double (FP.l2d ((0 : Int64) + ((y0 - m1) * (y0 - m1))))), .second, .val (.ref t1), .val (.int (2 : Int32)), .val (.int (1 : Int32)), .val (.double (FP.l2d y0)), .second] [(.int (1 : Int32))])) _
    refine XS.iload X1_.here hx rfl (hb hby d6_18) rfl ?_
    show Steps p.tables e below (T1_.setTop (mkF m 20 #[.val (.ref a1), .val (.double (FP.l2d m1)), .second, .val (.double (FP.l2d ((0 : Int64) + ((y0 - m1) * (y0 - m1))))), .second, .val (.ref t1), .val (.int (2 : Int32)), .val (.int (1 : Int32)), .val (.double (FP.l2d y0)), .second] [(.int (2 : Int32)), (.int (1 : Int32))])) _
    refine XS.icmpNo X1_.here hx rfl (hb hby d6_20) rfl (tlt ((by decide) : (1 : Int32) < (2 : Int32))).2.1 ?_
    show Steps p.tables e below (T1_.setTop (mkF m 23 #[.val (.ref a1), .val (.double (FP.l2d m1)), .second, .val (.double (FP.l2d ((0 : Int64) + ((y0 - m1) * (y0 - m1))))), .second, .val (.ref t1), .val (.int (2 : Int32)), .val (.int (1 : Int32)), .val (.double (FP.l2d y0)), .second] [])) _
    refine XS.aload X1_.here hx rfl (hb hby d6_23) rfl rfl ?_
    show Steps p.tables e below (T1_.setTop (mkF m 25 #[.val (.ref a1), .val (.double (FP.l2d m1)), .second, .val (.double (FP.l2d ((0 : Int64) + ((y0 - m1) * (y0 - m1))))), .second, .val (.ref t1), .val (.int (2 : Int32)), .val (.int (1 : Int32)), .val (.double (FP.l2d y0)), .second] [(.ref t1)])) _
    refine XS.iload X1_.here hx rfl (hb hby d6_25) rfl ?_
    show Steps p.tables e below (T1_.setTop (mkF m 27 #[.val (.ref a1), .val (.double (FP.l2d m1)), .second, .val (.double (FP.l2d ((0 : Int64) + ((y0 - m1) * (y0 - m1))))), .second, .val (.ref t1), .val (.int (2 : Int32)), .val (.int (1 : Int32)), .val (.double (FP.l2d y0)), .second] [(.int (1 : Int32)), (.ref t1)])) _
    refine X1_.daload hx (j := (1 : Int32)) (v := (.double (FP.l2d y1))) (by rw [e1_]; exact Ar10_.1) (State.isArrayOf_alike (State.Warmed39.alike hZ) Ar10_.2.1) Ar10_.2.2 in10_ at10_ (g := (mkF m 27 #[.val (.ref a1), .val (.double (FP.l2d m1)), .second, .val (.double (FP.l2d ((0 : Int64) + ((y0 - m1) * (y0 - m1))))), .second, .val (.ref t1), .val (.int (2 : Int32)), .val (.int (1 : Int32)), .val (.double (FP.l2d y0)), .second] [(.int (1 : Int32)), (.ref t1)])) rfl rfl (hb hby d6_27) _ ?_
    show Steps p.tables e below (T1_.setTop (mkF m 28 #[.val (.ref a1), .val (.double (FP.l2d m1)), .second, .val (.double (FP.l2d ((0 : Int64) + ((y0 - m1) * (y0 - m1))))), .second, .val (.ref t1), .val (.int (2 : Int32)), .val (.int (1 : Int32)), .val (.double (FP.l2d y0)), .second] [(.double (FP.l2d y1))])) _
    refine XS.dstore X1_.here hx rfl (hb hby d6_28) rfl (l' := #[.val (.ref a1), .val (.double (FP.l2d m1)), .second, .val (.double (FP.l2d ((0 : Int64) + ((y0 - m1) * (y0 - m1))))), .second, .val (.ref t1), .val (.int (2 : Int32)), .val (.int (1 : Int32)), .val (.double (FP.l2d y1)), .second]) rfl ?_
    show Steps p.tables e below (T1_.setTop (mkF m 30 #[.val (.ref a1), .val (.double (FP.l2d m1)), .second, .val (.double (FP.l2d ((0 : Int64) + ((y0 - m1) * (y0 - m1))))), .second, .val (.ref t1), .val (.int (2 : Int32)), .val (.int (1 : Int32)), .val (.double (FP.l2d y1)), .second] [])) _
    refine XS.dloadN X1_.here hx rfl (hb hby d6_30) rfl ?_
    show Steps p.tables e below (T1_.setTop (mkF m 31 #[.val (.ref a1), .val (.double (FP.l2d m1)), .second, .val (.double (FP.l2d ((0 : Int64) + ((y0 - m1) * (y0 - m1))))), .second, .val (.ref t1), .val (.int (2 : Int32)), .val (.int (1 : Int32)), .val (.double (FP.l2d y1)), .second] [(.double (FP.l2d ((0 : Int64) + ((y0 - m1) * (y0 - m1)))))])) _
    refine XS.dload X1_.here hx rfl (hb hby d6_31) rfl ?_
    show Steps p.tables e below (T1_.setTop (mkF m 33 #[.val (.ref a1), .val (.double (FP.l2d m1)), .second, .val (.double (FP.l2d ((0 : Int64) + ((y0 - m1) * (y0 - m1))))), .second, .val (.ref t1), .val (.int (2 : Int32)), .val (.int (1 : Int32)), .val (.double (FP.l2d y1)), .second] [(.double (FP.l2d y1)), (.double (FP.l2d ((0 : Int64) + ((y0 - m1) * (y0 - m1)))))])) _
    refine XS.dloadN X1_.here hx rfl (hb hby d6_33) rfl ?_
    show Steps p.tables e below (T1_.setTop (mkF m 34 #[.val (.ref a1), .val (.double (FP.l2d m1)), .second, .val (.double (FP.l2d ((0 : Int64) + ((y0 - m1) * (y0 - m1))))), .second, .val (.ref t1), .val (.int (2 : Int32)), .val (.int (1 : Int32)), .val (.double (FP.l2d y1)), .second] [(.double (FP.l2d m1)), (.double (FP.l2d y1)), (.double (FP.l2d ((0 : Int64) + ((y0 - m1) * (y0 - m1)))))])) _
    refine XS.dsubS X1_.here hx rfl (hb hby d6_34) rfl (nn_w q11_) (v := (FP.l2d (y1 - m1))) q11_ ?_
    show Steps p.tables e below (T1_.setTop (mkF m 35 #[.val (.ref a1), .val (.double (FP.l2d m1)), .second, .val (.double (FP.l2d ((0 : Int64) + ((y0 - m1) * (y0 - m1))))), .second, .val (.ref t1), .val (.int (2 : Int32)), .val (.int (1 : Int32)), .val (.double (FP.l2d y1)), .second] [(.double (FP.l2d (y1 - m1))), (.double (FP.l2d ((0 : Int64) + ((y0 - m1) * (y0 - m1)))))])) _
    refine XS.dload X1_.here hx rfl (hb hby d6_35) rfl ?_
    show Steps p.tables e below (T1_.setTop (mkF m 37 #[.val (.ref a1), .val (.double (FP.l2d m1)), .second, .val (.double (FP.l2d ((0 : Int64) + ((y0 - m1) * (y0 - m1))))), .second, .val (.ref t1), .val (.int (2 : Int32)), .val (.int (1 : Int32)), .val (.double (FP.l2d y1)), .second] [(.double (FP.l2d y1)), (.double (FP.l2d (y1 - m1))), (.double (FP.l2d ((0 : Int64) + ((y0 - m1) * (y0 - m1)))))])) _
    refine XS.dloadN X1_.here hx rfl (hb hby d6_37) rfl ?_
    show Steps p.tables e below (T1_.setTop (mkF m 38 #[.val (.ref a1), .val (.double (FP.l2d m1)), .second, .val (.double (FP.l2d ((0 : Int64) + ((y0 - m1) * (y0 - m1))))), .second, .val (.ref t1), .val (.int (2 : Int32)), .val (.int (1 : Int32)), .val (.double (FP.l2d y1)), .second] [(.double (FP.l2d m1)), (.double (FP.l2d y1)), (.double (FP.l2d (y1 - m1))), (.double (FP.l2d ((0 : Int64) + ((y0 - m1) * (y0 - m1)))))])) _
    refine XS.dsubS X1_.here hx rfl (hb hby d6_38) rfl (nn_w q12_) (v := (FP.l2d (y1 - m1))) q12_ ?_
    show Steps p.tables e below (T1_.setTop (mkF m 39 #[.val (.ref a1), .val (.double (FP.l2d m1)), .second, .val (.double (FP.l2d ((0 : Int64) + ((y0 - m1) * (y0 - m1))))), .second, .val (.ref t1), .val (.int (2 : Int32)), .val (.int (1 : Int32)), .val (.double (FP.l2d y1)), .second] [(.double (FP.l2d (y1 - m1))), (.double (FP.l2d (y1 - m1))), (.double (FP.l2d ((0 : Int64) + ((y0 - m1) * (y0 - m1)))))])) _
    refine XS.dmulS X1_.here hx rfl (hb hby d6_39) rfl (nn_w q14_) (v := (FP.l2d ((y1 - m1) * (y1 - m1)))) q14_ ?_
    show Steps p.tables e below (T1_.setTop (mkF m 40 #[.val (.ref a1), .val (.double (FP.l2d m1)), .second, .val (.double (FP.l2d ((0 : Int64) + ((y0 - m1) * (y0 - m1))))), .second, .val (.ref t1), .val (.int (2 : Int32)), .val (.int (1 : Int32)), .val (.double (FP.l2d y1)), .second] [(.double (FP.l2d ((y1 - m1) * (y1 - m1)))), (.double (FP.l2d ((0 : Int64) + ((y0 - m1) * (y0 - m1)))))])) _
    refine XS.daddS X1_.here hx rfl (hb hby d6_40) rfl (nn_w q15_) (v := (FP.l2d (((0 : Int64) + ((y0 - m1) * (y0 - m1))) + ((y1 - m1) * (y1 - m1))))) q15_ ?_
    show Steps p.tables e below (T1_.setTop (mkF m 41 #[.val (.ref a1), .val (.double (FP.l2d m1)), .second, .val (.double (FP.l2d ((0 : Int64) + ((y0 - m1) * (y0 - m1))))), .second, .val (.ref t1), .val (.int (2 : Int32)), .val (.int (1 : Int32)), .val (.double (FP.l2d y1)), .second] [(.double (FP.l2d (((0 : Int64) + ((y0 - m1) * (y0 - m1))) + ((y1 - m1) * (y1 - m1)))))])) _
    refine XS.dstoreN X1_.here hx rfl (hb hby d6_41) rfl (l' := #[.val (.ref a1), .val (.double (FP.l2d m1)), .second, .val (.double (FP.l2d (((0 : Int64) + ((y0 - m1) * (y0 - m1))) + ((y1 - m1) * (y1 - m1))))), .second, .val (.ref t1), .val (.int (2 : Int32)), .val (.int (1 : Int32)), .val (.double (FP.l2d y1)), .second]) rfl ?_
    show Steps p.tables e below (T1_.setTop (mkF m 42 #[.val (.ref a1), .val (.double (FP.l2d m1)), .second, .val (.double (FP.l2d (((0 : Int64) + ((y0 - m1) * (y0 - m1))) + ((y1 - m1) * (y1 - m1))))), .second, .val (.ref t1), .val (.int (2 : Int32)), .val (.int (1 : Int32)), .val (.double (FP.l2d y1)), .second] [])) _
    refine XS.iinc X1_.here hx rfl (hb hby d6_42) rfl (l' := #[.val (.ref a1), .val (.double (FP.l2d m1)), .second, .val (.double (FP.l2d (((0 : Int64) + ((y0 - m1) * (y0 - m1))) + ((y1 - m1) * (y1 - m1))))), .second, .val (.ref t1), .val (.int (2 : Int32)), .val (.int (2 : Int32)), .val (.double (FP.l2d y1)), .second]) rfl ?_
    show Steps p.tables e below (T1_.setTop (mkF m 45 #[.val (.ref a1), .val (.double (FP.l2d m1)), .second, .val (.double (FP.l2d (((0 : Int64) + ((y0 - m1) * (y0 - m1))) + ((y1 - m1) * (y1 - m1))))), .second, .val (.ref t1), .val (.int (2 : Int32)), .val (.int (2 : Int32)), .val (.double (FP.l2d y1)), .second] [])) _
    refine XS.goto X1_.here hx rfl (pc0 := 45) (pc' := 16) rfl (hb hby d6_45) (by decide) (by decide) ?_
    show Steps p.tables e below (T1_.setTop (mkF m 16 #[.val (.ref a1), .val (.double (FP.l2d m1)), .second, .val (.double (FP.l2d (((0 : Int64) + ((y0 - m1) * (y0 - m1))) + ((y1 - m1) * (y1 - m1))))), .second, .val (.ref t1), .val (.int (2 : Int32)), .val (.int (2 : Int32)), .val (.double (FP.l2d y1)), .second] [])) _
    refine XS.iload X1_.here hx rfl (hb hby d6_16) rfl ?_
    show Steps p.tables e below (T1_.setTop (mkF m 18 #[.val (.ref a1), .val (.double (FP.l2d m1)), .second, .val (.double (FP.l2d (((0 : Int64) + ((y0 - m1) * (y0 - m1))) + ((y1 - m1) * (y1 - m1))))), .second, .val (.ref t1), .val (.int (2 : Int32)), .val (.int (2 : Int32)), .val (.double (FP.l2d y1)), .second] [(.int (2 : Int32))])) _
    refine XS.iload X1_.here hx rfl (hb hby d6_18) rfl ?_
    show Steps p.tables e below (T1_.setTop (mkF m 20 #[.val (.ref a1), .val (.double (FP.l2d m1)), .second, .val (.double (FP.l2d (((0 : Int64) + ((y0 - m1) * (y0 - m1))) + ((y1 - m1) * (y1 - m1))))), .second, .val (.ref t1), .val (.int (2 : Int32)), .val (.int (2 : Int32)), .val (.double (FP.l2d y1)), .second] [(.int (2 : Int32)), (.int (2 : Int32))])) _
    refine XS.icmpYes X1_.here hx rfl (pc0 := 20) (pc' := 48) rfl (hb hby d6_20) rfl (flt ((by decide) : ¬ ((2 : Int32) < (2 : Int32)))).2.1 (by decide) (by decide) ?_
    show Steps p.tables e below (T1_.setTop (mkF m 48 #[.val (.ref a1), .val (.double (FP.l2d m1)), .second, .val (.double (FP.l2d (((0 : Int64) + ((y0 - m1) * (y0 - m1))) + ((y1 - m1) * (y1 - m1))))), .second, .val (.ref t1), .val (.int (2 : Int32)), .val (.int (2 : Int32)), .val (.double (FP.l2d y1)), .second] [])) _
    refine XS.dloadN X1_.here hx rfl (hb hby d6_48) rfl ?_
    show Steps p.tables e below (T1_.setTop (mkF m 49 #[.val (.ref a1), .val (.double (FP.l2d m1)), .second, .val (.double (FP.l2d (((0 : Int64) + ((y0 - m1) * (y0 - m1))) + ((y1 - m1) * (y1 - m1))))), .second, .val (.ref t1), .val (.int (2 : Int32)), .val (.int (2 : Int32)), .val (.double (FP.l2d y1)), .second] [(.double (FP.l2d (((0 : Int64) + ((y0 - m1) * (y0 - m1))) + ((y1 - m1) * (y1 - m1)))))])) _
    refine XS.aloadN X1_.here hx rfl (hb hby d6_49) rfl rfl ?_
    show Steps p.tables e below (T1_.setTop (mkF m 50 #[.val (.ref a1), .val (.double (FP.l2d m1)), .second, .val (.double (FP.l2d (((0 : Int64) + ((y0 - m1) * (y0 - m1))) + ((y1 - m1) * (y1 - m1))))), .second, .val (.ref t1), .val (.int (2 : Int32)), .val (.int (2 : Int32)), .val (.double (FP.l2d y1)), .second] [(.ref a1), (.double (FP.l2d (((0 : Int64) + ((y0 - m1) * (y0 - m1))) + ((y1 - m1) * (y1 - m1)))))])) _
    refine st18_ _ ?_
    show Steps p.tables e below (T18_.setTop (mkF m 53 #[.val (.ref a1), .val (.double (FP.l2d m1)), .second, .val (.double (FP.l2d (((0 : Int64) + ((y0 - m1) * (y0 - m1))) + ((y1 - m1) * (y1 - m1))))), .second, .val (.ref t1), .val (.int (2 : Int32)), .val (.int (2 : Int32)), .val (.double (FP.l2d y1)), .second] [(.ref t1), (.double (FP.l2d (((0 : Int64) + ((y0 - m1) * (y0 - m1))) + ((y1 - m1) * (y1 - m1)))))])) _
    refine X18_.arraylength hx (by rw [e18_]; exact Ar19_.1) (State.isArrayOf_alike (State.Warmed39.alike hZ) Ar19_.2.1) (g := (mkF m 53 #[.val (.ref a1), .val (.double (FP.l2d m1)), .second, .val (.double (FP.l2d (((0 : Int64) + ((y0 - m1) * (y0 - m1))) + ((y1 - m1) * (y1 - m1))))), .second, .val (.ref t1), .val (.int (2 : Int32)), .val (.int (2 : Int32)), .val (.double (FP.l2d y1)), .second] [(.ref t1), (.double (FP.l2d (((0 : Int64) + ((y0 - m1) * (y0 - m1))) + ((y1 - m1) * (y1 - m1)))))])) rfl rfl (hb hby d6_53) _ ?_
    rw [len_of S19_ M19_]
    show Steps p.tables e below (T18_.setTop (mkF m 54 #[.val (.ref a1), .val (.double (FP.l2d m1)), .second, .val (.double (FP.l2d (((0 : Int64) + ((y0 - m1) * (y0 - m1))) + ((y1 - m1) * (y1 - m1))))), .second, .val (.ref t1), .val (.int (2 : Int32)), .val (.int (2 : Int32)), .val (.double (FP.l2d y1)), .second] [(.int (2 : Int32)), (.double (FP.l2d (((0 : Int64) + ((y0 - m1) * (y0 - m1))) + ((y1 - m1) * (y1 - m1)))))])) _
    refine XS.iconst X18_.here hx rfl (hb hby d6_54) ?_
    show Steps p.tables e below (T18_.setTop (mkF m 55 #[.val (.ref a1), .val (.double (FP.l2d m1)), .second, .val (.double (FP.l2d (((0 : Int64) + ((y0 - m1) * (y0 - m1))) + ((y1 - m1) * (y1 - m1))))), .second, .val (.ref t1), .val (.int (2 : Int32)), .val (.int (2 : Int32)), .val (.double (FP.l2d y1)), .second] [(.int (1 : Int32)), (.int (2 : Int32)), (.double (FP.l2d (((0 : Int64) + ((y0 - m1) * (y0 - m1))) + ((y1 - m1) * (y1 - m1)))))])) _
    refine XS.isub X18_.here hx rfl (hb hby d6_55) rfl ?_
    show Steps p.tables e below (T18_.setTop (mkF m 56 #[.val (.ref a1), .val (.double (FP.l2d m1)), .second, .val (.double (FP.l2d (((0 : Int64) + ((y0 - m1) * (y0 - m1))) + ((y1 - m1) * (y1 - m1))))), .second, .val (.ref t1), .val (.int (2 : Int32)), .val (.int (2 : Int32)), .val (.double (FP.l2d y1)), .second] [(.int (1 : Int32)), (.double (FP.l2d (((0 : Int64) + ((y0 - m1) * (y0 - m1))) + ((y1 - m1) * (y1 - m1)))))])) _
    refine XS.i2dS X18_.here hx rfl (hb hby d6_56) rfl (v := (FP.i2d (1 : Int32))) rfl ?_
    show Steps p.tables e below (T18_.setTop (mkF m 57 #[.val (.ref a1), .val (.double (FP.l2d m1)), .second, .val (.double (FP.l2d (((0 : Int64) + ((y0 - m1) * (y0 - m1))) + ((y1 - m1) * (y1 - m1))))), .second, .val (.ref t1), .val (.int (2 : Int32)), .val (.int (2 : Int32)), .val (.double (FP.l2d y1)), .second] [(.double (FP.i2d (1 : Int32))), (.double (FP.l2d (((0 : Int64) + ((y0 - m1) * (y0 - m1))) + ((y1 - m1) * (y1 - m1)))))])) _
    refine XS.ddivS X18_.here hx rfl (hb hby d6_57) rfl q20_ (v := (FP.ddiv (FP.l2d (((0 : Int64) + ((y0 - m1) * (y0 - m1))) + ((y1 - m1) * (y1 - m1)))) (FP.i2d (1 : Int32)))) rfl ?_
    show Steps p.tables e below (T18_.setTop (mkF m 58 #[.val (.ref a1), .val (.double (FP.l2d m1)), .second, .val (.double (FP.l2d (((0 : Int64) + ((y0 - m1) * (y0 - m1))) + ((y1 - m1) * (y1 - m1))))), .second, .val (.ref t1), .val (.int (2 : Int32)), .val (.int (2 : Int32)), .val (.double (FP.l2d y1)), .second] [(.double (FP.ddiv (FP.l2d (((0 : Int64) + ((y0 - m1) * (y0 - m1))) + ((y1 - m1) * (y1 - m1)))) (FP.i2d (1 : Int32))))])) _
    exact retD X18_ hx Bd.returns (hb hby d6_58) hr
  · show Q_rmSv2 Z a1 m1 t1 k1 y0 y1 h0 n0 _ T18_.heap _
    rw [e18_]
    exact ⟨rfl, N0, rfl⟩
theorem ef_rmSv3 (m : MethodId) (x0 : Addr) (x1 : UInt64) : entryFrame m #[(.ref x0), (.double x1)] 10 = mkF m 0 #[.val (.ref x0), .val (.double x1), .second, .unset, .unset, .unset, .unset, .unset, .unset, .unset] [] := by first | (simp [entryFrame, mkF, argsToLocals, Value.category]; done) | rfl
def Q_rmSv3 (Z : State) (a1 : Addr) (m1 : Int64) (t1 : Addr) (k1 : ClassId) (y0 : Int64) (y1 : Int64) (y2 : Int64) (h0 : Heap) (n0 : Nat) (v : Option Value) (h : Heap) (L : List Loc) : Prop := v = some (.double (FP.ddiv (FP.l2d ((((0 : Int64) + ((y0 - m1) * (y0 - m1))) + ((y1 - m1) * (y1 - m1))) + ((y2 - m1) * (y2 - m1)))) (FP.i2d (2 : Int32)))) ∧ Fr n0 L ∧ h = h0
set_option maxRecDepth 65536 in
set_option maxHeartbeats 40000000 in
theorem rmSv3 (l : Launch) (Z : State) (a0 : Array Value) (hw : ∀ d ∈ tables_1, d.before a0 Z = true) (ws : List Jvm.Cond) (a1 : Addr) (m1 : Int64) (t1 : Addr) (k1 : ClassId) (y0 : Int64) (y1 : Int64) (y2 : Int64) (h0 : Heap) (n0 : Nat) (Z0 : n0 ≤ h0.size) (F1 : Fld Z h0 a1 "com/example/whipstill/whipstill/MovingWindow" "values" "[D" (.ref t1)) (V1 : Arv Z h0 t1 k1 .double (3 : Int32) [(.double (FP.l2d y0)), (.double (FP.l2d y1)), (.double (FP.l2d y2))] (.double (0 : UInt64))) (bm : own_R m1 1048576) (b_y0 : own_R y0 1048576) (b_y1 : own_R y1 1048576) (b_y2 : own_R y2 1048576) :
    MetFree l (⟨"com/example/whipstill/whipstill/MovingWindow", "sampleVariance", "(D)D"⟩ : MethodName) (head1 (Jvm.Cond.code (⟨"com/example/whipstill/whipstill/MovingWindow", "sampleVariance", "(D)D"⟩ : MethodName) prog_11_method_8_code 10 (some .double) :: ws) ({ frames := 0, cells := 0, slots := 0, locals := 0 } : Room)) (fun a U => a = #[(.ref a1), (.double (FP.l2d m1))] ∧ Z.Warmed39 U.vm ∧ U.heap = h0) (fun _ _ _ _ _ => True) (fun _ U o U' => ∃ v L, o = .returned v ∧ Q_rmSv3 Z a1 m1 t1 k1 y0 y1 y2 h0 n0 v U'.heap L ∧ FrameEnd U o U' L ({ frames := 0, cells := 0, slots := 0, locals := 0 } : Room).cells ({ frames := 0, cells := 0, slots := 0, locals := 0 } : Room).slots) := by
  refine MetFree.of_bodySF (plainFor_of_name pn_com_example_whipstill_whipstill_MovingWindow) hisR ?_
  intro p e s m args below meth c s₁ Bd hml0 hP hK
  obtain ⟨rfl, hZ, hh⟩ := hP
  have hx := Bd.exec
  have hby := Bd.bytes
  have hml : c.maxLocals = 10 := hml0
  have hown : s.vm.findClass "com/example/whipstill/whipstill/MovingWindow" = some m.cls := findClass_of_methodNamed Bd.named
  have hnm := (name_of_methodNamed Bd.named Bd.method).1
  have X0 : Stand p l e ({ frames := 0, cells := 0, slots := 0, locals := 0 } : Room) s m #[(.ref a1), (.double (FP.l2d m1))] below meth c s₁ [] 0 0 := Stand.of_body Bd
  have e0 : s₁.heap = h0 := by rw [← hh, Bd.state]; rfl
  have N0 := Fr.nil n0
  have pre0 : ∀ t, Steps p.tables e below (s₁.setTop (mkF m 0 #[.val (.ref a1), .val (.double (FP.l2d m1)), .second, .unset, .unset, .unset, .unset, .unset, .unset, .unset] [])) t → Steps p.tables e below (s₁.setTop (entryFrame m #[(.ref a1), (.double (FP.l2d m1))] 10)) t := fun t k => castTop (ef_rmSv3 m a1 (FP.l2d m1)) k
  obtain ⟨T1_, X1_, e1_, st1_⟩ := getF X0 hx hZ hown (host := "") (Or.inl (hw _ (List.mem_of_getElem? (i := 11) rfl))) Via.refl e0 F1 (g := (mkF m 3 #[.val (.ref a1), .val (.double (FP.l2d m1)), .second, .val (.double (FP.l2d (0 : Int64))), .second, .unset, .unset, .unset, .unset, .unset] [(.ref a1)])) rfl rfl (hb hby d6_3)
  obtain ⟨cl2_, Ar2_, q2_, S2_, M2_, Hs2_, G2_⟩ := id V1
  obtain ⟨cl3_, Ar3_, q3_, S3_, M3_, Hs3_, G3_⟩ := id V1
  have in3_ : ¬ ((0 : Int32) < 0 ∨ cl3_.slots.size ≤ ((0 : Int32)).toNatClampNeg) := inb_of S3_ ⟨by decide, by decide⟩
  have at3_ : cl3_.slots[((0 : Int32)).toNatClampNeg]? = some (.double (FP.l2d y0)) := Hs3_.at in3_ rfl
  have q4_ : FP.dsub (FP.l2d y0) (FP.l2d m1) = FP.l2d (y0 - m1) := dsub_w (b_y0.b53 (by decide)) (bm.b53 (by decide))
  have q5_ : FP.dsub (FP.l2d y0) (FP.l2d m1) = FP.l2d (y0 - m1) := dsub_w (b_y0.b53 (by decide)) (bm.b53 (by decide))
  have r6_ : own_R (y0 - m1) 2097152 := own_R.sub b_y0 bm (by decide) (by decide)
  have q7_ : FP.dmul (FP.l2d (y0 - m1)) (FP.l2d (y0 - m1)) = FP.l2d ((y0 - m1) * (y0 - m1)) := own_sqd r6_ (by decide) (by decide)
  have r9_ : own_R ((y0 - m1) * (y0 - m1)) 4398046511104 := own_R.mul r6_ r6_ (by decide) (by decide) (by decide) (by decide)
  have q8_ : FP.dadd (FP.l2d (0 : Int64)) (FP.l2d ((y0 - m1) * (y0 - m1))) = FP.l2d ((0 : Int64) + ((y0 - m1) * (y0 - m1))) := dadd_w ((own_R.lit (0 : Int64) 0 (by decide)).b53 (by decide)) (r9_.b53 (by decide))
  obtain ⟨cl10_, Ar10_, q10_, S10_, M10_, Hs10_, G10_⟩ := id V1
  have in10_ : ¬ ((1 : Int32) < 0 ∨ cl10_.slots.size ≤ ((1 : Int32)).toNatClampNeg) := inb_of S10_ ⟨by decide, by decide⟩
  have at10_ : cl10_.slots[((1 : Int32)).toNatClampNeg]? = some (.double (FP.l2d y1)) := Hs10_.at in10_ rfl
  have q11_ : FP.dsub (FP.l2d y1) (FP.l2d m1) = FP.l2d (y1 - m1) := dsub_w (b_y1.b53 (by decide)) (bm.b53 (by decide))
  have q12_ : FP.dsub (FP.l2d y1) (FP.l2d m1) = FP.l2d (y1 - m1) := dsub_w (b_y1.b53 (by decide)) (bm.b53 (by decide))
  have r13_ : own_R (y1 - m1) 2097152 := own_R.sub b_y1 bm (by decide) (by decide)
  have q14_ : FP.dmul (FP.l2d (y1 - m1)) (FP.l2d (y1 - m1)) = FP.l2d ((y1 - m1) * (y1 - m1)) := own_sqd r13_ (by decide) (by decide)
  have r16_ : own_R ((0 : Int64) + ((y0 - m1) * (y0 - m1))) 4398046511104 := own_R.add (own_R.lit (0 : Int64) 0 (by decide)) r9_ (by decide) (by decide)
  have r17_ : own_R ((y1 - m1) * (y1 - m1)) 4398046511104 := own_R.mul r13_ r13_ (by decide) (by decide) (by decide) (by decide)
  have q15_ : FP.dadd (FP.l2d ((0 : Int64) + ((y0 - m1) * (y0 - m1)))) (FP.l2d ((y1 - m1) * (y1 - m1))) = FP.l2d (((0 : Int64) + ((y0 - m1) * (y0 - m1))) + ((y1 - m1) * (y1 - m1))) := dadd_w (r16_.b53 (by decide)) (r17_.b53 (by decide))
  obtain ⟨cl18_, Ar18_, q18_, S18_, M18_, Hs18_, G18_⟩ := id V1
  have in18_ : ¬ ((2 : Int32) < 0 ∨ cl18_.slots.size ≤ ((2 : Int32)).toNatClampNeg) := inb_of S18_ ⟨by decide, by decide⟩
  have at18_ : cl18_.slots[((2 : Int32)).toNatClampNeg]? = some (.double (FP.l2d y2)) := Hs18_.at in18_ rfl
  have q19_ : FP.dsub (FP.l2d y2) (FP.l2d m1) = FP.l2d (y2 - m1) := dsub_w (b_y2.b53 (by decide)) (bm.b53 (by decide))
  have q20_ : FP.dsub (FP.l2d y2) (FP.l2d m1) = FP.l2d (y2 - m1) := dsub_w (b_y2.b53 (by decide)) (bm.b53 (by decide))
  have r21_ : own_R (y2 - m1) 2097152 := own_R.sub b_y2 bm (by decide) (by decide)
  have q22_ : FP.dmul (FP.l2d (y2 - m1)) (FP.l2d (y2 - m1)) = FP.l2d ((y2 - m1) * (y2 - m1)) := own_sqd r21_ (by decide) (by decide)
  have r24_ : own_R (((0 : Int64) + ((y0 - m1) * (y0 - m1))) + ((y1 - m1) * (y1 - m1))) 8796093022208 := own_R.add r16_ r17_ (by decide) (by decide)
  have r25_ : own_R ((y2 - m1) * (y2 - m1)) 4398046511104 := own_R.mul r21_ r21_ (by decide) (by decide) (by decide) (by decide)
  have q23_ : FP.dadd (FP.l2d (((0 : Int64) + ((y0 - m1) * (y0 - m1))) + ((y1 - m1) * (y1 - m1)))) (FP.l2d ((y2 - m1) * (y2 - m1))) = FP.l2d ((((0 : Int64) + ((y0 - m1) * (y0 - m1))) + ((y1 - m1) * (y1 - m1))) + ((y2 - m1) * (y2 - m1))) := dadd_w (r24_.b53 (by decide)) (r25_.b53 (by decide))
  obtain ⟨T26_, X26_, e26_, st26_⟩ := getF X1_ hx hZ hown (host := "") (Or.inl (hw _ (List.mem_of_getElem? (i := 11) rfl))) Via.refl e1_ F1 (g := (mkF m 50 #[.val (.ref a1), .val (.double (FP.l2d m1)), .second, .val (.double (FP.l2d ((((0 : Int64) + ((y0 - m1) * (y0 - m1))) + ((y1 - m1) * (y1 - m1))) + ((y2 - m1) * (y2 - m1))))), .second, .val (.ref t1), .val (.int (3 : Int32)), .val (.int (3 : Int32)), .val (.double (FP.l2d y2)), .second] [(.ref a1), (.double (FP.l2d ((((0 : Int64) + ((y0 - m1) * (y0 - m1))) + ((y1 - m1) * (y1 - m1))) + ((y2 - m1) * (y2 - m1)))))])) rfl rfl (hb hby d6_50)
  obtain ⟨cl27_, Ar27_, q27_, S27_, M27_, Hs27_, G27_⟩ := id V1
  have q28_ : Jvm.Free.Fl.NoNaN64 (FP.ddiv (FP.l2d ((((0 : Int64) + ((y0 - m1) * (y0 - m1))) + ((y1 - m1) * (y1 - m1))) + ((y2 - m1) * (y2 - m1)))) (FP.i2d (2 : Int32))) := own_ddiv _ _ (by decide)
  obtain ⟨fs, hr, hrun, hended, hW, hsame⟩ := X26_.leave (v := some (.double (FP.ddiv (FP.l2d ((((0 : Int64) + ((y0 - m1) * (y0 - m1))) + ((y1 - m1) * (y1 - m1))) + ((y2 - m1) * (y2 - m1)))) (FP.i2d (2 : Int32))))) (fun h => by first | rfl | (rw [Bd.returns] at h; cases h))
  refine ⟨_, _, pre0 _ ?_, hrun, hended, _, _, rfl, ?_, ⟨_, rfl⟩, hW, hsame.mono (by decide) (by decide)⟩
  · show Steps p.tables e below (s₁.setTop (mkF m 0 #[.val (.ref a1), .val (.double (FP.l2d m1)), .second, .unset, .unset, .unset, .unset, .unset, .unset, .unset] [])) _
    refine XS.dconst0 X0.here hx rfl (hb hby d6_0) own_d0 ?_
    show Steps p.tables e below (s₁.setTop (mkF m 1 #[.val (.ref a1), .val (.double (FP.l2d m1)), .second, .unset, .unset, .unset, .unset, .unset, .unset, .unset] [(.double (FP.l2d (0 : Int64)))])) _
    refine XS.dstoreN X0.here hx rfl (hb hby d6_1) rfl (l' := #[.val (.ref a1), .val (.double (FP.l2d m1)), .second, .val (.double (FP.l2d (0 : Int64))), .second, .unset, .unset, .unset, .unset, .unset]) rfl ?_
    show Steps p.tables e below (s₁.setTop (mkF m 2 #[.val (.ref a1), .val (.double (FP.l2d m1)), .second, .val (.double (FP.l2d (0 : Int64))), .second, .unset, .unset, .unset, .unset, .unset] [])) _
    refine XS.aloadN X0.here hx rfl (hb hby d6_2) rfl rfl ?_
    show Steps p.tables e below (s₁.setTop (mkF m 3 #[.val (.ref a1), .val (.double (FP.l2d m1)), .second, .val (.double (FP.l2d (0 : Int64))), .second, .unset, .unset, .unset, .unset, .unset] [(.ref a1)])) _
    refine st1_ _ ?_
    show Steps p.tables e below (T1_.setTop (mkF m 6 #[.val (.ref a1), .val (.double (FP.l2d m1)), .second, .val (.double (FP.l2d (0 : Int64))), .second, .unset, .unset, .unset, .unset, .unset] [(.ref t1)])) _
    refine XS.astore X1_.here hx rfl (hb hby d6_6) rfl rfl (l' := #[.val (.ref a1), .val (.double (FP.l2d m1)), .second, .val (.double (FP.l2d (0 : Int64))), .second, .val (.ref t1), .unset, .unset, .unset, .unset]) rfl ?_
    show Steps p.tables e below (T1_.setTop (mkF m 8 #[.val (.ref a1), .val (.double (FP.l2d m1)), .second, .val (.double (FP.l2d (0 : Int64))), .second, .val (.ref t1), .unset, .unset, .unset, .unset] [])) _
    refine XS.aload X1_.here hx rfl (hb hby d6_8) rfl rfl ?_
    show Steps p.tables e below (T1_.setTop (mkF m 10 #[.val (.ref a1), .val (.double (FP.l2d m1)), .second, .val (.double (FP.l2d (0 : Int64))), .second, .val (.ref t1), .unset, .unset, .unset, .unset] [(.ref t1)])) _
    refine X1_.arraylength hx (by rw [e1_]; exact Ar2_.1) (State.isArrayOf_alike (State.Warmed39.alike hZ) Ar2_.2.1) (g := (mkF m 10 #[.val (.ref a1), .val (.double (FP.l2d m1)), .second, .val (.double (FP.l2d (0 : Int64))), .second, .val (.ref t1), .unset, .unset, .unset, .unset] [(.ref t1)])) rfl rfl (hb hby d6_10) _ ?_
    rw [len_of S2_ M2_]
    show Steps p.tables e below (T1_.setTop (mkF m 11 #[.val (.ref a1), .val (.double (FP.l2d m1)), .second, .val (.double (FP.l2d (0 : Int64))), .second, .val (.ref t1), .unset, .unset, .unset, .unset] [(.int (3 : Int32))])) _
    refine XS.istore X1_.here hx rfl (hb hby d6_11) rfl (l' := #[.val (.ref a1), .val (.double (FP.l2d m1)), .second, .val (.double (FP.l2d (0 : Int64))), .second, .val (.ref t1), .val (.int (3 : Int32)), .unset, .unset, .unset]) rfl ?_
    show Steps p.tables e below (T1_.setTop (mkF m 13 #[.val (.ref a1), .val (.double (FP.l2d m1)), .second, .val (.double (FP.l2d (0 : Int64))), .second, .val (.ref t1), .val (.int (3 : Int32)), .unset, .unset, .unset] [])) _
    refine XS.iconst X1_.here hx rfl (hb hby d6_13) ?_
    show Steps p.tables e below (T1_.setTop (mkF m 14 #[.val (.ref a1), .val (.double (FP.l2d m1)), .second, .val (.double (FP.l2d (0 : Int64))), .second, .val (.ref t1), .val (.int (3 : Int32)), .unset, .unset, .unset] [(.int (0 : Int32))])) _
    refine XS.istore X1_.here hx rfl (hb hby d6_14) rfl (l' := #[.val (.ref a1), .val (.double (FP.l2d m1)), .second, .val (.double (FP.l2d (0 : Int64))), .second, .val (.ref t1), .val (.int (3 : Int32)), .val (.int (0 : Int32)), .unset, .unset]) rfl ?_
    show Steps p.tables e below (T1_.setTop (mkF m 16 #[.val (.ref a1), .val (.double (FP.l2d m1)), .second, .val (.double (FP.l2d (0 : Int64))), .second, .val (.ref t1), .val (.int (3 : Int32)), .val (.int (0 : Int32)), .unset, .unset] [])) _
    refine XS.iload X1_.here hx rfl (hb hby d6_16) rfl ?_
    show Steps p.tables e below (T1_.setTop (mkF m 18 #[.val (.ref a1), .val (.double (FP.l2d m1)), .second, .val (.double (FP.l2d (0 : Int64))), .second, .val (.ref t1), .val (.int (3 : Int32)), .val (.int (0 : Int32)), .unset, .unset] [(.int (0 : Int32))])) _
    refine XS.iload X1_.here hx rfl (hb hby d6_18) rfl ?_
    show Steps p.tables e below (T1_.setTop (mkF m 20 #[.val (.ref a1), .val (.double (FP.l2d m1)), .second, .val (.double (FP.l2d (0 : Int64))), .second, .val (.ref t1), .val (.int (3 : Int32)), .val (.int (0 : Int32)), .unset, .unset] [(.int (3 : Int32)), (.int (0 : Int32))])) _
    refine XS.icmpNo X1_.here hx rfl (hb hby d6_20) rfl (tlt ((by decide) : (0 : Int32) < (3 : Int32))).2.1 ?_
    show Steps p.tables e below (T1_.setTop (mkF m 23 #[.val (.ref a1), .val (.double (FP.l2d m1)), .second, .val (.double (FP.l2d (0 : Int64))), .second, .val (.ref t1), .val (.int (3 : Int32)), .val (.int (0 : Int32)), .unset, .unset] [])) _
    refine XS.aload X1_.here hx rfl (hb hby d6_23) rfl rfl ?_
    show Steps p.tables e below (T1_.setTop (mkF m 25 #[.val (.ref a1), .val (.double (FP.l2d m1)), .second, .val (.double (FP.l2d (0 : Int64))), .second, .val (.ref t1), .val (.int (3 : Int32)), .val (.int (0 : Int32)), .unset, .unset] [(.ref t1)])) _
    refine XS.iload X1_.here hx rfl (hb hby d6_25) rfl ?_
    show Steps p.tables e below (T1_.setTop (mkF m 27 #[.val (.ref a1), .val (.double (FP.l2d m1)), .second, .val (.double (FP.l2d (0 : Int64))), .second, .val (.ref t1), .val (.int (3 : Int32)), .val (.int (0 : Int32)), .unset, .unset] [(.int (0 : Int32)), (.ref t1)])) _
    refine X1_.daload hx (j := (0 : Int32)) (v := (.double (FP.l2d y0))) (by rw [e1_]; exact Ar3_.1) (State.isArrayOf_alike (State.Warmed39.alike hZ) Ar3_.2.1) Ar3_.2.2 in3_ at3_ (g := (mkF m 27 #[.val (.ref a1), .val (.double (FP.l2d m1)), .second, .val (.double (FP.l2d (0 : Int64))), .second, .val (.ref t1), .val (.int (3 : Int32)), .val (.int (0 : Int32)), .unset, .unset] [(.int (0 : Int32)), (.ref t1)])) rfl rfl (hb hby d6_27) _ ?_
    show Steps p.tables e below (T1_.setTop (mkF m 28 #[.val (.ref a1), .val (.double (FP.l2d m1)), .second, .val (.double (FP.l2d (0 : Int64))), .second, .val (.ref t1), .val (.int (3 : Int32)), .val (.int (0 : Int32)), .unset, .unset] [(.double (FP.l2d y0))])) _
    refine XS.dstore X1_.here hx rfl (hb hby d6_28) rfl (l' := #[.val (.ref a1), .val (.double (FP.l2d m1)), .second, .val (.double (FP.l2d (0 : Int64))), .second, .val (.ref t1), .val (.int (3 : Int32)), .val (.int (0 : Int32)), .val (.double (FP.l2d y0)), .second]) rfl ?_
    show Steps p.tables e below (T1_.setTop (mkF m 30 #[.val (.ref a1), .val (.double (FP.l2d m1)), .second, .val (.double (FP.l2d (0 : Int64))), .second, .val (.ref t1), .val (.int (3 : Int32)), .val (.int (0 : Int32)), .val (.double (FP.l2d y0)), .second] [])) _
    refine XS.dloadN X1_.here hx rfl (hb hby d6_30) rfl ?_
    show Steps p.tables e below (T1_.setTop (mkF m 31 #[.val (.ref a1), .val (.double (FP.l2d m1)), .second, .val (.double (FP.l2d (0 : Int64))), .second, .val (.ref t1), .val (.int (3 : Int32)), .val (.int (0 : Int32)), .val (.double (FP.l2d y0)), .second] [(.double (FP.l2d (0 : Int64)))])) _
    refine XS.dload X1_.here hx rfl (hb hby d6_31) rfl ?_
    show Steps p.tables e below (T1_.setTop (mkF m 33 #[.val (.ref a1), .val (.double (FP.l2d m1)), .second, .val (.double (FP.l2d (0 : Int64))), .second, .val (.ref t1), .val (.int (3 : Int32)), .val (.int (0 : Int32)), .val (.double (FP.l2d y0)), .second] [(.double (FP.l2d y0)), (.double (FP.l2d (0 : Int64)))])) _
    refine XS.dloadN X1_.here hx rfl (hb hby d6_33) rfl ?_
    show Steps p.tables e below (T1_.setTop (mkF m 34 #[.val (.ref a1), .val (.double (FP.l2d m1)), .second, .val (.double (FP.l2d (0 : Int64))), .second, .val (.ref t1), .val (.int (3 : Int32)), .val (.int (0 : Int32)), .val (.double (FP.l2d y0)), .second] [(.double (FP.l2d m1)), (.double (FP.l2d y0)), (.double (FP.l2d (0 : Int64)))])) _
    refine XS.dsubS X1_.here hx rfl (hb hby d6_34) rfl (nn_w q4_) (v := (FP.l2d (y0 - m1))) q4_ ?_
    show Steps p.tables e below (T1_.setTop (mkF m 35 #[.val (.ref a1), .val (.double (FP.l2d m1)), .second, .val (.double (FP.l2d (0 : Int64))), .second, .val (.ref t1), .val (.int (3 : Int32)), .val (.int (0 : Int32)), .val (.double (FP.l2d y0)), .second] [(.double (FP.l2d (y0 - m1))), (.double (FP.l2d (0 : Int64)))])) _
    refine XS.dload X1_.here hx rfl (hb hby d6_35) rfl ?_
    show Steps p.tables e below (T1_.setTop (mkF m 37 #[.val (.ref a1), .val (.double (FP.l2d m1)), .second, .val (.double (FP.l2d (0 : Int64))), .second, .val (.ref t1), .val (.int (3 : Int32)), .val (.int (0 : Int32)), .val (.double (FP.l2d y0)), .second] [(.double (FP.l2d y0)), (.double (FP.l2d (y0 - m1))), (.double (FP.l2d (0 : Int64)))])) _
    refine XS.dloadN X1_.here hx rfl (hb hby d6_37) rfl ?_
    show Steps p.tables e below (T1_.setTop (mkF m 38 #[.val (.ref a1), .val (.double (FP.l2d m1)), .second, .val (.double (FP.l2d (0 : Int64))), .second, .val (.ref t1), .val (.int (3 : Int32)), .val (.int (0 : Int32)), .val (.double (FP.l2d y0)), .second] [(.double (FP.l2d m1)), (.double (FP.l2d y0)), (.double (FP.l2d (y0 - m1))), (.double (FP.l2d (0 : Int64)))])) _
    refine XS.dsubS X1_.here hx rfl (hb hby d6_38) rfl (nn_w q5_) (v := (FP.l2d (y0 - m1))) q5_ ?_
    show Steps p.tables e below (T1_.setTop (mkF m 39 #[.val (.ref a1), .val (.double (FP.l2d m1)), .second, .val (.double (FP.l2d (0 : Int64))), .second, .val (.ref t1), .val (.int (3 : Int32)), .val (.int (0 : Int32)), .val (.double (FP.l2d y0)), .second] [(.double (FP.l2d (y0 - m1))), (.double (FP.l2d (y0 - m1))), (.double (FP.l2d (0 : Int64)))])) _
    refine XS.dmulS X1_.here hx rfl (hb hby d6_39) rfl (nn_w q7_) (v := (FP.l2d ((y0 - m1) * (y0 - m1)))) q7_ ?_
    show Steps p.tables e below (T1_.setTop (mkF m 40 #[.val (.ref a1), .val (.double (FP.l2d m1)), .second, .val (.double (FP.l2d (0 : Int64))), .second, .val (.ref t1), .val (.int (3 : Int32)), .val (.int (0 : Int32)), .val (.double (FP.l2d y0)), .second] [(.double (FP.l2d ((y0 - m1) * (y0 - m1)))), (.double (FP.l2d (0 : Int64)))])) _
    refine XS.daddS X1_.here hx rfl (hb hby d6_40) rfl (nn_w q8_) (v := (FP.l2d ((0 : Int64) + ((y0 - m1) * (y0 - m1))))) q8_ ?_
    show Steps p.tables e below (T1_.setTop (mkF m 41 #[.val (.ref a1), .val (.double (FP.l2d m1)), .second, .val (.double (FP.l2d (0 : Int64))), .second, .val (.ref t1), .val (.int (3 : Int32)), .val (.int (0 : Int32)), .val (.double (FP.l2d y0)), .second] [(.double (FP.l2d ((0 : Int64) + ((y0 - m1) * (y0 - m1)))))])) _
    refine XS.dstoreN X1_.here hx rfl (hb hby d6_41) rfl (l' := #[.val (.ref a1), .val (.double (FP.l2d m1)), .second, .val (.double (FP.l2d ((0 : Int64) + ((y0 - m1) * (y0 - m1))))), .second, .val (.ref t1), .val (.int (3 : Int32)), .val (.int (0 : Int32)), .val (.double (FP.l2d y0)), .second]) rfl ?_
    show Steps p.tables e below (T1_.setTop (mkF m 42 #[.val (.ref a1), .val (.double (FP.l2d m1)), .second, .val (.double (FP.l2d ((0 : Int64) + ((y0 - m1) * (y0 - m1))))), .second, .val (.ref t1), .val (.int (3 : Int32)), .val (.int (0 : Int32)), .val (.double (FP.l2d y0)), .second] [])) _
    refine XS.iinc X1_.here hx rfl (hb hby d6_42) rfl (l' := #[.val (.ref a1), .val (.double (FP.l2d m1)), .second, .val (.double (FP.l2d ((0 : Int64) + ((y0 - m1) * (y0 - m1))))), .second, .val (.ref t1), .val (.int (3 : Int32)), .val (.int (1 : Int32)), .val (.double (FP.l2d y0)), .second]) rfl ?_
    show Steps p.tables e below (T1_.setTop (mkF m 45 #[.val (.ref a1), .val (.double (FP.l2d m1)), .second, .val (.double (FP.l2d ((0 : Int64) + ((y0 - m1) * (y0 - m1))))), .second, .val (.ref t1), .val (.int (3 : Int32)), .val (.int (1 : Int32)), .val (.double (FP.l2d y0)), .second] [])) _
    refine XS.goto X1_.here hx rfl (pc0 := 45) (pc' := 16) rfl (hb hby d6_45) (by decide) (by decide) ?_
    show Steps p.tables e below (T1_.setTop (mkF m 16 #[.val (.ref a1), .val (.double (FP.l2d m1)), .second, .val (.double (FP.l2d ((0 : Int64) + ((y0 - m1) * (y0 - m1))))), .second, .val (.ref t1), .val (.int (3 : Int32)), .val (.int (1 : Int32)), .val (.double (FP.l2d y0)), .second] [])) _
    refine XS.iload X1_.here hx rfl (hb hby d6_16) rfl ?_
    show Steps p.tables e below (T1_.setTop (mkF m 18 #[.val (.ref a1), .val (.double (FP.l2d m1)), .second, .val (.double (FP.l2d ((0 : Int64) + ((y0 - m1) * (y0 - m1))))), .second, .val (.ref t1), .val (.int (3 : Int32)), .val (.int (1 : Int32)), .val (.double (FP.l2d y0)), .second] [(.int (1 : Int32))])) _
    refine XS.iload X1_.here hx rfl (hb hby d6_18) rfl ?_
    show Steps p.tables e below (T1_.setTop (mkF m 20 #[.val (.ref a1), .val (.double (FP.l2d m1)), .second, .val (.double (FP.l2d ((0 : Int64) + ((y0 - m1) * (y0 - m1))))), .second, .val (.ref t1), .val (.int (3 : Int32)), .val (.int (1 : Int32)), .val (.double (FP.l2d y0)), .second] [(.int (3 : Int32)), (.int (1 : Int32))])) _
    refine XS.icmpNo X1_.here hx rfl (hb hby d6_20) rfl (tlt ((by decide) : (1 : Int32) < (3 : Int32))).2.1 ?_
    show Steps p.tables e below (T1_.setTop (mkF m 23 #[.val (.ref a1), .val (.double (FP.l2d m1)), .second, .val (.double (FP.l2d ((0 : Int64) + ((y0 - m1) * (y0 - m1))))), .second, .val (.ref t1), .val (.int (3 : Int32)), .val (.int (1 : Int32)), .val (.double (FP.l2d y0)), .second] [])) _
    refine XS.aload X1_.here hx rfl (hb hby d6_23) rfl rfl ?_
    show Steps p.tables e below (T1_.setTop (mkF m 25 #[.val (.ref a1), .val (.double (FP.l2d m1)), .second, .val (.double (FP.l2d ((0 : Int64) + ((y0 - m1) * (y0 - m1))))), .second, .val (.ref t1), .val (.int (3 : Int32)), .val (.int (1 : Int32)), .val (.double (FP.l2d y0)), .second] [(.ref t1)])) _
    refine XS.iload X1_.here hx rfl (hb hby d6_25) rfl ?_
    show Steps p.tables e below (T1_.setTop (mkF m 27 #[.val (.ref a1), .val (.double (FP.l2d m1)), .second, .val (.double (FP.l2d ((0 : Int64) + ((y0 - m1) * (y0 - m1))))), .second, .val (.ref t1), .val (.int (3 : Int32)), .val (.int (1 : Int32)), .val (.double (FP.l2d y0)), .second] [(.int (1 : Int32)), (.ref t1)])) _
    refine X1_.daload hx (j := (1 : Int32)) (v := (.double (FP.l2d y1))) (by rw [e1_]; exact Ar10_.1) (State.isArrayOf_alike (State.Warmed39.alike hZ) Ar10_.2.1) Ar10_.2.2 in10_ at10_ (g := (mkF m 27 #[.val (.ref a1), .val (.double (FP.l2d m1)), .second, .val (.double (FP.l2d ((0 : Int64) + ((y0 - m1) * (y0 - m1))))), .second, .val (.ref t1), .val (.int (3 : Int32)), .val (.int (1 : Int32)), .val (.double (FP.l2d y0)), .second] [(.int (1 : Int32)), (.ref t1)])) rfl rfl (hb hby d6_27) _ ?_
    show Steps p.tables e below (T1_.setTop (mkF m 28 #[.val (.ref a1), .val (.double (FP.l2d m1)), .second, .val (.double (FP.l2d ((0 : Int64) + ((y0 - m1) * (y0 - m1))))), .second, .val (.ref t1), .val (.int (3 : Int32)), .val (.int (1 : Int32)), .val (.double (FP.l2d y0)), .second] [(.double (FP.l2d y1))])) _
    refine XS.dstore X1_.here hx rfl (hb hby d6_28) rfl (l' := #[.val (.ref a1), .val (.double (FP.l2d m1)), .second, .val (.double (FP.l2d ((0 : Int64) + ((y0 - m1) * (y0 - m1))))), .second, .val (.ref t1), .val (.int (3 : Int32)), .val (.int (1 : Int32)), .val (.double (FP.l2d y1)), .second]) rfl ?_
    show Steps p.tables e below (T1_.setTop (mkF m 30 #[.val (.ref a1), .val (.double (FP.l2d m1)), .second, .val (.double (FP.l2d ((0 : Int64) + ((y0 - m1) * (y0 - m1))))), .second, .val (.ref t1), .val (.int (3 : Int32)), .val (.int (1 : Int32)), .val (.double (FP.l2d y1)), .second] [])) _
    refine XS.dloadN X1_.here hx rfl (hb hby d6_30) rfl ?_
    show Steps p.tables e below (T1_.setTop (mkF m 31 #[.val (.ref a1), .val (.double (FP.l2d m1)), .second, .val (.double (FP.l2d ((0 : Int64) + ((y0 - m1) * (y0 - m1))))), .second, .val (.ref t1), .val (.int (3 : Int32)), .val (.int (1 : Int32)), .val (.double (FP.l2d y1)), .second] [(.double (FP.l2d ((0 : Int64) + ((y0 - m1) * (y0 - m1)))))])) _
    refine XS.dload X1_.here hx rfl (hb hby d6_31) rfl ?_
    show Steps p.tables e below (T1_.setTop (mkF m 33 #[.val (.ref a1), .val (.double (FP.l2d m1)), .second, .val (.double (FP.l2d ((0 : Int64) + ((y0 - m1) * (y0 - m1))))), .second, .val (.ref t1), .val (.int (3 : Int32)), .val (.int (1 : Int32)), .val (.double (FP.l2d y1)), .second] [(.double (FP.l2d y1)), (.double (FP.l2d ((0 : Int64) + ((y0 - m1) * (y0 - m1)))))])) _
    refine XS.dloadN X1_.here hx rfl (hb hby d6_33) rfl ?_
    show Steps p.tables e below (T1_.setTop (mkF m 34 #[.val (.ref a1), .val (.double (FP.l2d m1)), .second, .val (.double (FP.l2d ((0 : Int64) + ((y0 - m1) * (y0 - m1))))), .second, .val (.ref t1), .val (.int (3 : Int32)), .val (.int (1 : Int32)), .val (.double (FP.l2d y1)), .second] [(.double (FP.l2d m1)), (.double (FP.l2d y1)), (.double (FP.l2d ((0 : Int64) + ((y0 - m1) * (y0 - m1)))))])) _
    refine XS.dsubS X1_.here hx rfl (hb hby d6_34) rfl (nn_w q11_) (v := (FP.l2d (y1 - m1))) q11_ ?_
    show Steps p.tables e below (T1_.setTop (mkF m 35 #[.val (.ref a1), .val (.double (FP.l2d m1)), .second, .val (.double (FP.l2d ((0 : Int64) + ((y0 - m1) * (y0 - m1))))), .second, .val (.ref t1), .val (.int (3 : Int32)), .val (.int (1 : Int32)), .val (.double (FP.l2d y1)), .second] [(.double (FP.l2d (y1 - m1))), (.double (FP.l2d ((0 : Int64) + ((y0 - m1) * (y0 - m1)))))])) _
    refine XS.dload X1_.here hx rfl (hb hby d6_35) rfl ?_
    show Steps p.tables e below (T1_.setTop (mkF m 37 #[.val (.ref a1), .val (.double (FP.l2d m1)), .second, .val (.double (FP.l2d ((0 : Int64) + ((y0 - m1) * (y0 - m1))))), .second, .val (.ref t1), .val (.int (3 : Int32)), .val (.int (1 : Int32)), .val (.double (FP.l2d y1)), .second] [(.double (FP.l2d y1)), (.double (FP.l2d (y1 - m1))), (.double (FP.l2d ((0 : Int64) + ((y0 - m1) * (y0 - m1)))))])) _
    refine XS.dloadN X1_.here hx rfl (hb hby d6_37) rfl ?_
    show Steps p.tables e below (T1_.setTop (mkF m 38 #[.val (.ref a1), .val (.double (FP.l2d m1)), .second, .val (.double (FP.l2d ((0 : Int64) + ((y0 - m1) * (y0 - m1))))), .second, .val (.ref t1), .val (.int (3 : Int32)), .val (.int (1 : Int32)), .val (.double (FP.l2d y1)), .second] [(.double (FP.l2d m1)), (.double (FP.l2d y1)), (.double (FP.l2d (y1 - m1))), (.double (FP.l2d ((0 : Int64) + ((y0 - m1) * (y0 - m1)))))])) _
    refine XS.dsubS X1_.here hx rfl (hb hby d6_38) rfl (nn_w q12_) (v := (FP.l2d (y1 - m1))) q12_ ?_
    show Steps p.tables e below (T1_.setTop (mkF m 39 #[.val (.ref a1), .val (.double (FP.l2d m1)), .second, .val (.double (FP.l2d ((0 : Int64) + ((y0 - m1) * (y0 - m1))))), .second, .val (.ref t1), .val (.int (3 : Int32)), .val (.int (1 : Int32)), .val (.double (FP.l2d y1)), .second] [(.double (FP.l2d (y1 - m1))), (.double (FP.l2d (y1 - m1))), (.double (FP.l2d ((0 : Int64) + ((y0 - m1) * (y0 - m1)))))])) _
    refine XS.dmulS X1_.here hx rfl (hb hby d6_39) rfl (nn_w q14_) (v := (FP.l2d ((y1 - m1) * (y1 - m1)))) q14_ ?_
    show Steps p.tables e below (T1_.setTop (mkF m 40 #[.val (.ref a1), .val (.double (FP.l2d m1)), .second, .val (.double (FP.l2d ((0 : Int64) + ((y0 - m1) * (y0 - m1))))), .second, .val (.ref t1), .val (.int (3 : Int32)), .val (.int (1 : Int32)), .val (.double (FP.l2d y1)), .second] [(.double (FP.l2d ((y1 - m1) * (y1 - m1)))), (.double (FP.l2d ((0 : Int64) + ((y0 - m1) * (y0 - m1)))))])) _
    refine XS.daddS X1_.here hx rfl (hb hby d6_40) rfl (nn_w q15_) (v := (FP.l2d (((0 : Int64) + ((y0 - m1) * (y0 - m1))) + ((y1 - m1) * (y1 - m1))))) q15_ ?_
    show Steps p.tables e below (T1_.setTop (mkF m 41 #[.val (.ref a1), .val (.double (FP.l2d m1)), .second, .val (.double (FP.l2d ((0 : Int64) + ((y0 - m1) * (y0 - m1))))), .second, .val (.ref t1), .val (.int (3 : Int32)), .val (.int (1 : Int32)), .val (.double (FP.l2d y1)), .second] [(.double (FP.l2d (((0 : Int64) + ((y0 - m1) * (y0 - m1))) + ((y1 - m1) * (y1 - m1)))))])) _
    refine XS.dstoreN X1_.here hx rfl (hb hby d6_41) rfl (l' := #[.val (.ref a1), .val (.double (FP.l2d m1)), .second, .val (.double (FP.l2d (((0 : Int64) + ((y0 - m1) * (y0 - m1))) + ((y1 - m1) * (y1 - m1))))), .second, .val (.ref t1), .val (.int (3 : Int32)), .val (.int (1 : Int32)), .val (.double (FP.l2d y1)), .second]) rfl ?_
    show Steps p.tables e below (T1_.setTop (mkF m 42 #[.val (.ref a1), .val (.double (FP.l2d m1)), .second, .val (.double (FP.l2d (((0 : Int64) + ((y0 - m1) * (y0 - m1))) + ((y1 - m1) * (y1 - m1))))), .second, .val (.ref t1), .val (.int (3 : Int32)), .val (.int (1 : Int32)), .val (.double (FP.l2d y1)), .second] [])) _
    refine XS.iinc X1_.here hx rfl (hb hby d6_42) rfl (l' := #[.val (.ref a1), .val (.double (FP.l2d m1)), .second, .val (.double (FP.l2d (((0 : Int64) + ((y0 - m1) * (y0 - m1))) + ((y1 - m1) * (y1 - m1))))), .second, .val (.ref t1), .val (.int (3 : Int32)), .val (.int (2 : Int32)), .val (.double (FP.l2d y1)), .second]) rfl ?_
    show Steps p.tables e below (T1_.setTop (mkF m 45 #[.val (.ref a1), .val (.double (FP.l2d m1)), .second, .val (.double (FP.l2d (((0 : Int64) + ((y0 - m1) * (y0 - m1))) + ((y1 - m1) * (y1 - m1))))), .second, .val (.ref t1), .val (.int (3 : Int32)), .val (.int (2 : Int32)), .val (.double (FP.l2d y1)), .second] [])) _
    refine XS.goto X1_.here hx rfl (pc0 := 45) (pc' := 16) rfl (hb hby d6_45) (by decide) (by decide) ?_
    show Steps p.tables e below (T1_.setTop (mkF m 16 #[.val (.ref a1), .val (.double (FP.l2d m1)), .second, .val (.double (FP.l2d (((0 : Int64) + ((y0 - m1) * (y0 - m1))) + ((y1 - m1) * (y1 - m1))))), .second, .val (.ref t1), .val (.int (3 : Int32)), .val (.int (2 : Int32)), .val (.double (FP.l2d y1)), .second] [])) _
    refine XS.iload X1_.here hx rfl (hb hby d6_16) rfl ?_
    show Steps p.tables e below (T1_.setTop (mkF m 18 #[.val (.ref a1), .val (.double (FP.l2d m1)), .second, .val (.double (FP.l2d (((0 : Int64) + ((y0 - m1) * (y0 - m1))) + ((y1 - m1) * (y1 - m1))))), .second, .val (.ref t1), .val (.int (3 : Int32)), .val (.int (2 : Int32)), .val (.double (FP.l2d y1)), .second] [(.int (2 : Int32))])) _
    refine XS.iload X1_.here hx rfl (hb hby d6_18) rfl ?_
    show Steps p.tables e below (T1_.setTop (mkF m 20 #[.val (.ref a1), .val (.double (FP.l2d m1)), .second, .val (.double (FP.l2d (((0 : Int64) + ((y0 - m1) * (y0 - m1))) + ((y1 - m1) * (y1 - m1))))), .second, .val (.ref t1), .val (.int (3 : Int32)), .val (.int (2 : Int32)), .val (.double (FP.l2d y1)), .second] [(.int (3 : Int32)), (.int (2 : Int32))])) _
    refine XS.icmpNo X1_.here hx rfl (hb hby d6_20) rfl (tlt ((by decide) : (2 : Int32) < (3 : Int32))).2.1 ?_
    show Steps p.tables e below (T1_.setTop (mkF m 23 #[.val (.ref a1), .val (.double (FP.l2d m1)), .second, .val (.double (FP.l2d (((0 : Int64) + ((y0 - m1) * (y0 - m1))) + ((y1 - m1) * (y1 - m1))))), .second, .val (.ref t1), .val (.int (3 : Int32)), .val (.int (2 : Int32)), .val (.double (FP.l2d y1)), .second] [])) _
    refine XS.aload X1_.here hx rfl (hb hby d6_23) rfl rfl ?_
    show Steps p.tables e below (T1_.setTop (mkF m 25 #[.val (.ref a1), .val (.double (FP.l2d m1)), .second, .val (.double (FP.l2d (((0 : Int64) + ((y0 - m1) * (y0 - m1))) + ((y1 - m1) * (y1 - m1))))), .second, .val (.ref t1), .val (.int (3 : Int32)), .val (.int (2 : Int32)), .val (.double (FP.l2d y1)), .second] [(.ref t1)])) _
    refine XS.iload X1_.here hx rfl (hb hby d6_25) rfl ?_
    show Steps p.tables e below (T1_.setTop (mkF m 27 #[.val (.ref a1), .val (.double (FP.l2d m1)), .second, .val (.double (FP.l2d (((0 : Int64) + ((y0 - m1) * (y0 - m1))) + ((y1 - m1) * (y1 - m1))))), .second, .val (.ref t1), .val (.int (3 : Int32)), .val (.int (2 : Int32)), .val (.double (FP.l2d y1)), .second] [(.int (2 : Int32)), (.ref t1)])) _
    refine X1_.daload hx (j := (2 : Int32)) (v := (.double (FP.l2d y2))) (by rw [e1_]; exact Ar18_.1) (State.isArrayOf_alike (State.Warmed39.alike hZ) Ar18_.2.1) Ar18_.2.2 in18_ at18_ (g := (mkF m 27 #[.val (.ref a1), .val (.double (FP.l2d m1)), .second, .val (.double (FP.l2d (((0 : Int64) + ((y0 - m1) * (y0 - m1))) + ((y1 - m1) * (y1 - m1))))), .second, .val (.ref t1), .val (.int (3 : Int32)), .val (.int (2 : Int32)), .val (.double (FP.l2d y1)), .second] [(.int (2 : Int32)), (.ref t1)])) rfl rfl (hb hby d6_27) _ ?_
    show Steps p.tables e below (T1_.setTop (mkF m 28 #[.val (.ref a1), .val (.double (FP.l2d m1)), .second, .val (.double (FP.l2d (((0 : Int64) + ((y0 - m1) * (y0 - m1))) + ((y1 - m1) * (y1 - m1))))), .second, .val (.ref t1), .val (.int (3 : Int32)), .val (.int (2 : Int32)), .val (.double (FP.l2d y1)), .second] [(.double (FP.l2d y2))])) _
    refine XS.dstore X1_.here hx rfl (hb hby d6_28) rfl (l' := #[.val (.ref a1), .val (.double (FP.l2d m1)), .second, .val (.double (FP.l2d (((0 : Int64) + ((y0 - m1) * (y0 - m1))) + ((y1 - m1) * (y1 - m1))))), .second, .val (.ref t1), .val (.int (3 : Int32)), .val (.int (2 : Int32)), .val (.double (FP.l2d y2)), .second]) rfl ?_
    show Steps p.tables e below (T1_.setTop (mkF m 30 #[.val (.ref a1), .val (.double (FP.l2d m1)), .second, .val (.double (FP.l2d (((0 : Int64) + ((y0 - m1) * (y0 - m1))) + ((y1 - m1) * (y1 - m1))))), .second, .val (.ref t1), .val (.int (3 : Int32)), .val (.int (2 : Int32)), .val (.double (FP.l2d y2)), .second] [])) _
    refine XS.dloadN X1_.here hx rfl (hb hby d6_30) rfl ?_
    show Steps p.tables e below (T1_.setTop (mkF m 31 #[.val (.ref a1), .val (.double (FP.l2d m1)), .second, .val (.double (FP.l2d (((0 : Int64) + ((y0 - m1) * (y0 - m1))) + ((y1 - m1) * (y1 - m1))))), .second, .val (.ref t1), .val (.int (3 : Int32)), .val (.int (2 : Int32)), .val (.double (FP.l2d y2)), .second] [(.double (FP.l2d (((0 : Int64) + ((y0 - m1) * (y0 - m1))) + ((y1 - m1) * (y1 - m1)))))])) _
    refine XS.dload X1_.here hx rfl (hb hby d6_31) rfl ?_
    show Steps p.tables e below (T1_.setTop (mkF m 33 #[.val (.ref a1), .val (.double (FP.l2d m1)), .second, .val (.double (FP.l2d (((0 : Int64) + ((y0 - m1) * (y0 - m1))) + ((y1 - m1) * (y1 - m1))))), .second, .val (.ref t1), .val (.int (3 : Int32)), .val (.int (2 : Int32)), .val (.double (FP.l2d y2)), .second] [(.double (FP.l2d y2)), (.double (FP.l2d (((0 : Int64) + ((y0 - m1) * (y0 - m1))) + ((y1 - m1) * (y1 - m1)))))])) _
    refine XS.dloadN X1_.here hx rfl (hb hby d6_33) rfl ?_
    show Steps p.tables e below (T1_.setTop (mkF m 34 #[.val (.ref a1), .val (.double (FP.l2d m1)), .second, .val (.double (FP.l2d (((0 : Int64) + ((y0 - m1) * (y0 - m1))) + ((y1 - m1) * (y1 - m1))))), .second, .val (.ref t1), .val (.int (3 : Int32)), .val (.int (2 : Int32)), .val (.double (FP.l2d y2)), .second] [(.double (FP.l2d m1)), (.double (FP.l2d y2)), (.double (FP.l2d (((0 : Int64) + ((y0 - m1) * (y0 - m1))) + ((y1 - m1) * (y1 - m1)))))])) _
    refine XS.dsubS X1_.here hx rfl (hb hby d6_34) rfl (nn_w q19_) (v := (FP.l2d (y2 - m1))) q19_ ?_
    show Steps p.tables e below (T1_.setTop (mkF m 35 #[.val (.ref a1), .val (.double (FP.l2d m1)), .second, .val (.double (FP.l2d (((0 : Int64) + ((y0 - m1) * (y0 - m1))) + ((y1 - m1) * (y1 - m1))))), .second, .val (.ref t1), .val (.int (3 : Int32)), .val (.int (2 : Int32)), .val (.double (FP.l2d y2)), .second] [(.double (FP.l2d (y2 - m1))), (.double (FP.l2d (((0 : Int64) + ((y0 - m1) * (y0 - m1))) + ((y1 - m1) * (y1 - m1)))))])) _
    refine XS.dload X1_.here hx rfl (hb hby d6_35) rfl ?_
    show Steps p.tables e below (T1_.setTop (mkF m 37 #[.val (.ref a1), .val (.double (FP.l2d m1)), .second, .val (.double (FP.l2d (((0 : Int64) + ((y0 - m1) * (y0 - m1))) + ((y1 - m1) * (y1 - m1))))), .second, .val (.ref t1), .val (.int (3 : Int32)), .val (.int (2 : Int32)), .val (.double (FP.l2d y2)), .second] [(.double (FP.l2d y2)), (.double (FP.l2d (y2 - m1))), (.double (FP.l2d (((0 : Int64) + ((y0 - m1) * (y0 - m1))) + ((y1 - m1) * (y1 - m1)))))])) _
    refine XS.dloadN X1_.here hx rfl (hb hby d6_37) rfl ?_
    show Steps p.tables e below (T1_.setTop (mkF m 38 #[.val (.ref a1), .val (.double (FP.l2d m1)), .second, .val (.double (FP.l2d (((0 : Int64) + ((y0 - m1) * (y0 - m1))) + ((y1 - m1) * (y1 - m1))))), .second, .val (.ref t1), .val (.int (3 : Int32)), .val (.int (2 : Int32)), .val (.double (FP.l2d y2)), .second] [(.double (FP.l2d m1)), (.double (FP.l2d y2)), (.double (FP.l2d (y2 - m1))), (.double (FP.l2d (((0 : Int64) + ((y0 - m1) * (y0 - m1))) + ((y1 - m1) * (y1 - m1)))))])) _
    refine XS.dsubS X1_.here hx rfl (hb hby d6_38) rfl (nn_w q20_) (v := (FP.l2d (y2 - m1))) q20_ ?_
    show Steps p.tables e below (T1_.setTop (mkF m 39 #[.val (.ref a1), .val (.double (FP.l2d m1)), .second, .val (.double (FP.l2d (((0 : Int64) + ((y0 - m1) * (y0 - m1))) + ((y1 - m1) * (y1 - m1))))), .second, .val (.ref t1), .val (.int (3 : Int32)), .val (.int (2 : Int32)), .val (.double (FP.l2d y2)), .second] [(.double (FP.l2d (y2 - m1))), (.double (FP.l2d (y2 - m1))), (.double (FP.l2d (((0 : Int64) + ((y0 - m1) * (y0 - m1))) + ((y1 - m1) * (y1 - m1)))))])) _
    refine XS.dmulS X1_.here hx rfl (hb hby d6_39) rfl (nn_w q22_) (v := (FP.l2d ((y2 - m1) * (y2 - m1)))) q22_ ?_
    show Steps p.tables e below (T1_.setTop (mkF m 40 #[.val (.ref a1), .val (.double (FP.l2d m1)), .second, .val (.double (FP.l2d (((0 : Int64) + ((y0 - m1) * (y0 - m1))) + ((y1 - m1) * (y1 - m1))))), .second, .val (.ref t1), .val (.int (3 : Int32)), .val (.int (2 : Int32)), .val (.double (FP.l2d y2)), .second] [(.double (FP.l2d ((y2 - m1) * (y2 - m1)))), (.double (FP.l2d (((0 : Int64) + ((y0 - m1) * (y0 - m1))) + ((y1 - m1) * (y1 - m1)))))])) _
    refine XS.daddS X1_.here hx rfl (hb hby d6_40) rfl (nn_w q23_) (v := (FP.l2d ((((0 : Int64) + ((y0 - m1) * (y0 - m1))) + ((y1 - m1) * (y1 - m1))) + ((y2 - m1) * (y2 - m1))))) q23_ ?_
    show Steps p.tables e below (T1_.setTop (mkF m 41 #[.val (.ref a1), .val (.double (FP.l2d m1)), .second, .val (.double (FP.l2d (((0 : Int64) + ((y0 - m1) * (y0 - m1))) + ((y1 - m1) * (y1 - m1))))), .second, .val (.ref t1), .val (.int (3 : Int32)), .val (.int (2 : Int32)), .val (.double (FP.l2d y2)), .second] [(.double (FP.l2d ((((0 : Int64) + ((y0 - m1) * (y0 - m1))) + ((y1 - m1) * (y1 - m1))) + ((y2 - m1) * (y2 - m1)))))])) _
    refine XS.dstoreN X1_.here hx rfl (hb hby d6_41) rfl (l' := #[.val (.ref a1), .val (.double (FP.l2d m1)), .second, .val (.double (FP.l2d ((((0 : Int64) + ((y0 - m1) * (y0 - m1))) + ((y1 - m1) * (y1 - m1))) + ((y2 - m1) * (y2 - m1))))), .second, .val (.ref t1), .val (.int (3 : Int32)), .val (.int (2 : Int32)), .val (.double (FP.l2d y2)), .second]) rfl ?_
    show Steps p.tables e below (T1_.setTop (mkF m 42 #[.val (.ref a1), .val (.double (FP.l2d m1)), .second, .val (.double (FP.l2d ((((0 : Int64) + ((y0 - m1) * (y0 - m1))) + ((y1 - m1) * (y1 - m1))) + ((y2 - m1) * (y2 - m1))))), .second, .val (.ref t1), .val (.int (3 : Int32)), .val (.int (2 : Int32)), .val (.double (FP.l2d y2)), .second] [])) _
    refine XS.iinc X1_.here hx rfl (hb hby d6_42) rfl (l' := #[.val (.ref a1), .val (.double (FP.l2d m1)), .second, .val (.double (FP.l2d ((((0 : Int64) + ((y0 - m1) * (y0 - m1))) + ((y1 - m1) * (y1 - m1))) + ((y2 - m1) * (y2 - m1))))), .second, .val (.ref t1), .val (.int (3 : Int32)), .val (.int (3 : Int32)), .val (.double (FP.l2d y2)), .second]) rfl ?_
    show Steps p.tables e below (T1_.setTop (mkF m 45 #[.val (.ref a1), .val (.double (FP.l2d m1)), .second, .val (.double (FP.l2d ((((0 : Int64) + ((y0 - m1) * (y0 - m1))) + ((y1 - m1) * (y1 - m1))) + ((y2 - m1) * (y2 - m1))))), .second, .val (.ref t1), .val (.int (3 : Int32)), .val (.int (3 : Int32)), .val (.double (FP.l2d y2)), .second] [])) _
    refine XS.goto X1_.here hx rfl (pc0 := 45) (pc' := 16) rfl (hb hby d6_45) (by decide) (by decide) ?_
    show Steps p.tables e below (T1_.setTop (mkF m 16 #[.val (.ref a1), .val (.double (FP.l2d m1)), .second, .val (.double (FP.l2d ((((0 : Int64) + ((y0 - m1) * (y0 - m1))) + ((y1 - m1) * (y1 - m1))) + ((y2 - m1) * (y2 - m1))))), .second, .val (.ref t1), .val (.int (3 : Int32)), .val (.int (3 : Int32)), .val (.double (FP.l2d y2)), .second] [])) _
    refine XS.iload X1_.here hx rfl (hb hby d6_16) rfl ?_
    show Steps p.tables e below (T1_.setTop (mkF m 18 #[.val (.ref a1), .val (.double (FP.l2d m1)), .second, .val (.double (FP.l2d ((((0 : Int64) + ((y0 - m1) * (y0 - m1))) + ((y1 - m1) * (y1 - m1))) + ((y2 - m1) * (y2 - m1))))), .second, .val (.ref t1), .val (.int (3 : Int32)), .val (.int (3 : Int32)), .val (.double (FP.l2d y2)), .second] [(.int (3 : Int32))])) _
    refine XS.iload X1_.here hx rfl (hb hby d6_18) rfl ?_
    show Steps p.tables e below (T1_.setTop (mkF m 20 #[.val (.ref a1), .val (.double (FP.l2d m1)), .second, .val (.double (FP.l2d ((((0 : Int64) + ((y0 - m1) * (y0 - m1))) + ((y1 - m1) * (y1 - m1))) + ((y2 - m1) * (y2 - m1))))), .second, .val (.ref t1), .val (.int (3 : Int32)), .val (.int (3 : Int32)), .val (.double (FP.l2d y2)), .second] [(.int (3 : Int32)), (.int (3 : Int32))])) _
    refine XS.icmpYes X1_.here hx rfl (pc0 := 20) (pc' := 48) rfl (hb hby d6_20) rfl (flt ((by decide) : ¬ ((3 : Int32) < (3 : Int32)))).2.1 (by decide) (by decide) ?_
    show Steps p.tables e below (T1_.setTop (mkF m 48 #[.val (.ref a1), .val (.double (FP.l2d m1)), .second, .val (.double (FP.l2d ((((0 : Int64) + ((y0 - m1) * (y0 - m1))) + ((y1 - m1) * (y1 - m1))) + ((y2 - m1) * (y2 - m1))))), .second, .val (.ref t1), .val (.int (3 : Int32)), .val (.int (3 : Int32)), .val (.double (FP.l2d y2)), .second] [])) _
    refine XS.dloadN X1_.here hx rfl (hb hby d6_48) rfl ?_
    show Steps p.tables e below (T1_.setTop (mkF m 49 #[.val (.ref a1), .val (.double (FP.l2d m1)), .second, .val (.double (FP.l2d ((((0 : Int64) + ((y0 - m1) * (y0 - m1))) + ((y1 - m1) * (y1 - m1))) + ((y2 - m1) * (y2 - m1))))), .second, .val (.ref t1), .val (.int (3 : Int32)), .val (.int (3 : Int32)), .val (.double (FP.l2d y2)), .second] [(.double (FP.l2d ((((0 : Int64) + ((y0 - m1) * (y0 - m1))) + ((y1 - m1) * (y1 - m1))) + ((y2 - m1) * (y2 - m1)))))])) _
    refine XS.aloadN X1_.here hx rfl (hb hby d6_49) rfl rfl ?_
    show Steps p.tables e below (T1_.setTop (mkF m 50 #[.val (.ref a1), .val (.double (FP.l2d m1)), .second, .val (.double (FP.l2d ((((0 : Int64) + ((y0 - m1) * (y0 - m1))) + ((y1 - m1) * (y1 - m1))) + ((y2 - m1) * (y2 - m1))))), .second, .val (.ref t1), .val (.int (3 : Int32)), .val (.int (3 : Int32)), .val (.double (FP.l2d y2)), .second] [(.ref a1), (.double (FP.l2d ((((0 : Int64) + ((y0 - m1) * (y0 - m1))) + ((y1 - m1) * (y1 - m1))) + ((y2 - m1) * (y2 - m1)))))])) _
    refine st26_ _ ?_
    show Steps p.tables e below (T26_.setTop (mkF m 53 #[.val (.ref a1), .val (.double (FP.l2d m1)), .second, .val (.double (FP.l2d ((((0 : Int64) + ((y0 - m1) * (y0 - m1))) + ((y1 - m1) * (y1 - m1))) + ((y2 - m1) * (y2 - m1))))), .second, .val (.ref t1), .val (.int (3 : Int32)), .val (.int (3 : Int32)), .val (.double (FP.l2d y2)), .second] [(.ref t1), (.double (FP.l2d ((((0 : Int64) + ((y0 - m1) * (y0 - m1))) + ((y1 - m1) * (y1 - m1))) + ((y2 - m1) * (y2 - m1)))))])) _
    refine X26_.arraylength hx (by rw [e26_]; exact Ar27_.1) (State.isArrayOf_alike (State.Warmed39.alike hZ) Ar27_.2.1) (g := (mkF m 53 #[.val (.ref a1), .val (.double (FP.l2d m1)), .second, .val (.double (FP.l2d ((((0 : Int64) + ((y0 - m1) * (y0 - m1))) + ((y1 - m1) * (y1 - m1))) + ((y2 - m1) * (y2 - m1))))), .second, .val (.ref t1), .val (.int (3 : Int32)), .val (.int (3 : Int32)), .val (.double (FP.l2d y2)), .second] [(.ref t1), (.double (FP.l2d ((((0 : Int64) + ((y0 - m1) * (y0 - m1))) + ((y1 - m1) * (y1 - m1))) + ((y2 - m1) * (y2 - m1)))))])) rfl rfl (hb hby d6_53) _ ?_
    rw [len_of S27_ M27_]
    show Steps p.tables e below (T26_.setTop (mkF m 54 #[.val (.ref a1), .val (.double (FP.l2d m1)), .second, .val (.double (FP.l2d ((((0 : Int64) + ((y0 - m1) * (y0 - m1))) + ((y1 - m1) * (y1 - m1))) + ((y2 - m1) * (y2 - m1))))), .second, .val (.ref t1), .val (.int (3 : Int32)), .val (.int (3 : Int32)), .val (.double (FP.l2d y2)), .second] [(.int (3 : Int32)), (.double (FP.l2d ((((0 : Int64) + ((y0 - m1) * (y0 - m1))) + ((y1 - m1) * (y1 - m1))) + ((y2 - m1) * (y2 - m1)))))])) _
    refine XS.iconst X26_.here hx rfl (hb hby d6_54) ?_
    show Steps p.tables e below (T26_.setTop (mkF m 55 #[.val (.ref a1), .val (.double (FP.l2d m1)), .second, .val (.double (FP.l2d ((((0 : Int64) + ((y0 - m1) * (y0 - m1))) + ((y1 - m1) * (y1 - m1))) + ((y2 - m1) * (y2 - m1))))), .second, .val (.ref t1), .val (.int (3 : Int32)), .val (.int (3 : Int32)), .val (.double (FP.l2d y2)), .second] [(.int (1 : Int32)), (.int (3 : Int32)), (.double (FP.l2d ((((0 : Int64) + ((y0 - m1) * (y0 - m1))) + ((y1 - m1) * (y1 - m1))) + ((y2 - m1) * (y2 - m1)))))])) _
    refine XS.isub X26_.here hx rfl (hb hby d6_55) rfl ?_
    show Steps p.tables e below (T26_.setTop (mkF m 56 #[.val (.ref a1), .val (.double (FP.l2d m1)), .second, .val (.double (FP.l2d ((((0 : Int64) + ((y0 - m1) * (y0 - m1))) + ((y1 - m1) * (y1 - m1))) + ((y2 - m1) * (y2 - m1))))), .second, .val (.ref t1), .val (.int (3 : Int32)), .val (.int (3 : Int32)), .val (.double (FP.l2d y2)), .second] [(.int (2 : Int32)), (.double (FP.l2d ((((0 : Int64) + ((y0 - m1) * (y0 - m1))) + ((y1 - m1) * (y1 - m1))) + ((y2 - m1) * (y2 - m1)))))])) _
    refine XS.i2dS X26_.here hx rfl (hb hby d6_56) rfl (v := (FP.i2d (2 : Int32))) rfl ?_
    show Steps p.tables e below (T26_.setTop (mkF m 57 #[.val (.ref a1), .val (.double (FP.l2d m1)), .second, .val (.double (FP.l2d ((((0 : Int64) + ((y0 - m1) * (y0 - m1))) + ((y1 - m1) * (y1 - m1))) + ((y2 - m1) * (y2 - m1))))), .second, .val (.ref t1), .val (.int (3 : Int32)), .val (.int (3 : Int32)), .val (.double (FP.l2d y2)), .second] [(.double (FP.i2d (2 : Int32))), (.double (FP.l2d ((((0 : Int64) + ((y0 - m1) * (y0 - m1))) + ((y1 - m1) * (y1 - m1))) + ((y2 - m1) * (y2 - m1)))))])) _
    refine XS.ddivS X26_.here hx rfl (hb hby d6_57) rfl q28_ (v := (FP.ddiv (FP.l2d ((((0 : Int64) + ((y0 - m1) * (y0 - m1))) + ((y1 - m1) * (y1 - m1))) + ((y2 - m1) * (y2 - m1)))) (FP.i2d (2 : Int32)))) rfl ?_
    show Steps p.tables e below (T26_.setTop (mkF m 58 #[.val (.ref a1), .val (.double (FP.l2d m1)), .second, .val (.double (FP.l2d ((((0 : Int64) + ((y0 - m1) * (y0 - m1))) + ((y1 - m1) * (y1 - m1))) + ((y2 - m1) * (y2 - m1))))), .second, .val (.ref t1), .val (.int (3 : Int32)), .val (.int (3 : Int32)), .val (.double (FP.l2d y2)), .second] [(.double (FP.ddiv (FP.l2d ((((0 : Int64) + ((y0 - m1) * (y0 - m1))) + ((y1 - m1) * (y1 - m1))) + ((y2 - m1) * (y2 - m1)))) (FP.i2d (2 : Int32))))])) _
    exact retD X26_ hx Bd.returns (hb hby d6_58) hr
  · show Q_rmSv3 Z a1 m1 t1 k1 y0 y1 y2 h0 n0 _ T26_.heap _
    rw [e26_]
    exact ⟨rfl, N0, rfl⟩
theorem ef_rmSv4 (m : MethodId) (x0 : Addr) (x1 : UInt64) : entryFrame m #[(.ref x0), (.double x1)] 10 = mkF m 0 #[.val (.ref x0), .val (.double x1), .second, .unset, .unset, .unset, .unset, .unset, .unset, .unset] [] := by first | (simp [entryFrame, mkF, argsToLocals, Value.category]; done) | rfl
def Q_rmSv4 (Z : State) (a1 : Addr) (m1 : Int64) (t1 : Addr) (k1 : ClassId) (y0 : Int64) (y1 : Int64) (y2 : Int64) (y3 : Int64) (h0 : Heap) (n0 : Nat) (v : Option Value) (h : Heap) (L : List Loc) : Prop := v = some (.double (FP.ddiv (FP.l2d (((((0 : Int64) + ((y0 - m1) * (y0 - m1))) + ((y1 - m1) * (y1 - m1))) + ((y2 - m1) * (y2 - m1))) + ((y3 - m1) * (y3 - m1)))) (FP.i2d (3 : Int32)))) ∧ Fr n0 L ∧ h = h0
set_option maxRecDepth 65536 in
set_option maxHeartbeats 40000000 in
theorem rmSv4 (l : Launch) (Z : State) (a0 : Array Value) (hw : ∀ d ∈ tables_1, d.before a0 Z = true) (ws : List Jvm.Cond) (a1 : Addr) (m1 : Int64) (t1 : Addr) (k1 : ClassId) (y0 : Int64) (y1 : Int64) (y2 : Int64) (y3 : Int64) (h0 : Heap) (n0 : Nat) (Z0 : n0 ≤ h0.size) (F1 : Fld Z h0 a1 "com/example/whipstill/whipstill/MovingWindow" "values" "[D" (.ref t1)) (V1 : Arv Z h0 t1 k1 .double (4 : Int32) [(.double (FP.l2d y0)), (.double (FP.l2d y1)), (.double (FP.l2d y2)), (.double (FP.l2d y3))] (.double (0 : UInt64))) (bm : own_R m1 1048576) (b_y0 : own_R y0 1048576) (b_y1 : own_R y1 1048576) (b_y2 : own_R y2 1048576) (b_y3 : own_R y3 1048576) :
    MetFree l (⟨"com/example/whipstill/whipstill/MovingWindow", "sampleVariance", "(D)D"⟩ : MethodName) (head1 (Jvm.Cond.code (⟨"com/example/whipstill/whipstill/MovingWindow", "sampleVariance", "(D)D"⟩ : MethodName) prog_11_method_8_code 10 (some .double) :: ws) ({ frames := 0, cells := 0, slots := 0, locals := 0 } : Room)) (fun a U => a = #[(.ref a1), (.double (FP.l2d m1))] ∧ Z.Warmed39 U.vm ∧ U.heap = h0) (fun _ _ _ _ _ => True) (fun _ U o U' => ∃ v L, o = .returned v ∧ Q_rmSv4 Z a1 m1 t1 k1 y0 y1 y2 y3 h0 n0 v U'.heap L ∧ FrameEnd U o U' L ({ frames := 0, cells := 0, slots := 0, locals := 0 } : Room).cells ({ frames := 0, cells := 0, slots := 0, locals := 0 } : Room).slots) := by
  refine MetFree.of_bodySF (plainFor_of_name pn_com_example_whipstill_whipstill_MovingWindow) hisR ?_
  intro p e s m args below meth c s₁ Bd hml0 hP hK
  obtain ⟨rfl, hZ, hh⟩ := hP
  have hx := Bd.exec
  have hby := Bd.bytes
  have hml : c.maxLocals = 10 := hml0
  have hown : s.vm.findClass "com/example/whipstill/whipstill/MovingWindow" = some m.cls := findClass_of_methodNamed Bd.named
  have hnm := (name_of_methodNamed Bd.named Bd.method).1
  have X0 : Stand p l e ({ frames := 0, cells := 0, slots := 0, locals := 0 } : Room) s m #[(.ref a1), (.double (FP.l2d m1))] below meth c s₁ [] 0 0 := Stand.of_body Bd
  have e0 : s₁.heap = h0 := by rw [← hh, Bd.state]; rfl
  have N0 := Fr.nil n0
  have pre0 : ∀ t, Steps p.tables e below (s₁.setTop (mkF m 0 #[.val (.ref a1), .val (.double (FP.l2d m1)), .second, .unset, .unset, .unset, .unset, .unset, .unset, .unset] [])) t → Steps p.tables e below (s₁.setTop (entryFrame m #[(.ref a1), (.double (FP.l2d m1))] 10)) t := fun t k => castTop (ef_rmSv4 m a1 (FP.l2d m1)) k
  obtain ⟨T1_, X1_, e1_, st1_⟩ := getF X0 hx hZ hown (host := "") (Or.inl (hw _ (List.mem_of_getElem? (i := 11) rfl))) Via.refl e0 F1 (g := (mkF m 3 #[.val (.ref a1), .val (.double (FP.l2d m1)), .second, .val (.double (FP.l2d (0 : Int64))), .second, .unset, .unset, .unset, .unset, .unset] [(.ref a1)])) rfl rfl (hb hby d6_3)
  obtain ⟨cl2_, Ar2_, q2_, S2_, M2_, Hs2_, G2_⟩ := id V1
  obtain ⟨cl3_, Ar3_, q3_, S3_, M3_, Hs3_, G3_⟩ := id V1
  have in3_ : ¬ ((0 : Int32) < 0 ∨ cl3_.slots.size ≤ ((0 : Int32)).toNatClampNeg) := inb_of S3_ ⟨by decide, by decide⟩
  have at3_ : cl3_.slots[((0 : Int32)).toNatClampNeg]? = some (.double (FP.l2d y0)) := Hs3_.at in3_ rfl
  have q4_ : FP.dsub (FP.l2d y0) (FP.l2d m1) = FP.l2d (y0 - m1) := dsub_w (b_y0.b53 (by decide)) (bm.b53 (by decide))
  have q5_ : FP.dsub (FP.l2d y0) (FP.l2d m1) = FP.l2d (y0 - m1) := dsub_w (b_y0.b53 (by decide)) (bm.b53 (by decide))
  have r6_ : own_R (y0 - m1) 2097152 := own_R.sub b_y0 bm (by decide) (by decide)
  have q7_ : FP.dmul (FP.l2d (y0 - m1)) (FP.l2d (y0 - m1)) = FP.l2d ((y0 - m1) * (y0 - m1)) := own_sqd r6_ (by decide) (by decide)
  have r9_ : own_R ((y0 - m1) * (y0 - m1)) 4398046511104 := own_R.mul r6_ r6_ (by decide) (by decide) (by decide) (by decide)
  have q8_ : FP.dadd (FP.l2d (0 : Int64)) (FP.l2d ((y0 - m1) * (y0 - m1))) = FP.l2d ((0 : Int64) + ((y0 - m1) * (y0 - m1))) := dadd_w ((own_R.lit (0 : Int64) 0 (by decide)).b53 (by decide)) (r9_.b53 (by decide))
  obtain ⟨cl10_, Ar10_, q10_, S10_, M10_, Hs10_, G10_⟩ := id V1
  have in10_ : ¬ ((1 : Int32) < 0 ∨ cl10_.slots.size ≤ ((1 : Int32)).toNatClampNeg) := inb_of S10_ ⟨by decide, by decide⟩
  have at10_ : cl10_.slots[((1 : Int32)).toNatClampNeg]? = some (.double (FP.l2d y1)) := Hs10_.at in10_ rfl
  have q11_ : FP.dsub (FP.l2d y1) (FP.l2d m1) = FP.l2d (y1 - m1) := dsub_w (b_y1.b53 (by decide)) (bm.b53 (by decide))
  have q12_ : FP.dsub (FP.l2d y1) (FP.l2d m1) = FP.l2d (y1 - m1) := dsub_w (b_y1.b53 (by decide)) (bm.b53 (by decide))
  have r13_ : own_R (y1 - m1) 2097152 := own_R.sub b_y1 bm (by decide) (by decide)
  have q14_ : FP.dmul (FP.l2d (y1 - m1)) (FP.l2d (y1 - m1)) = FP.l2d ((y1 - m1) * (y1 - m1)) := own_sqd r13_ (by decide) (by decide)
  have r16_ : own_R ((0 : Int64) + ((y0 - m1) * (y0 - m1))) 4398046511104 := own_R.add (own_R.lit (0 : Int64) 0 (by decide)) r9_ (by decide) (by decide)
  have r17_ : own_R ((y1 - m1) * (y1 - m1)) 4398046511104 := own_R.mul r13_ r13_ (by decide) (by decide) (by decide) (by decide)
  have q15_ : FP.dadd (FP.l2d ((0 : Int64) + ((y0 - m1) * (y0 - m1)))) (FP.l2d ((y1 - m1) * (y1 - m1))) = FP.l2d (((0 : Int64) + ((y0 - m1) * (y0 - m1))) + ((y1 - m1) * (y1 - m1))) := dadd_w (r16_.b53 (by decide)) (r17_.b53 (by decide))
  obtain ⟨cl18_, Ar18_, q18_, S18_, M18_, Hs18_, G18_⟩ := id V1
  have in18_ : ¬ ((2 : Int32) < 0 ∨ cl18_.slots.size ≤ ((2 : Int32)).toNatClampNeg) := inb_of S18_ ⟨by decide, by decide⟩
  have at18_ : cl18_.slots[((2 : Int32)).toNatClampNeg]? = some (.double (FP.l2d y2)) := Hs18_.at in18_ rfl
  have q19_ : FP.dsub (FP.l2d y2) (FP.l2d m1) = FP.l2d (y2 - m1) := dsub_w (b_y2.b53 (by decide)) (bm.b53 (by decide))
  have q20_ : FP.dsub (FP.l2d y2) (FP.l2d m1) = FP.l2d (y2 - m1) := dsub_w (b_y2.b53 (by decide)) (bm.b53 (by decide))
  have r21_ : own_R (y2 - m1) 2097152 := own_R.sub b_y2 bm (by decide) (by decide)
  have q22_ : FP.dmul (FP.l2d (y2 - m1)) (FP.l2d (y2 - m1)) = FP.l2d ((y2 - m1) * (y2 - m1)) := own_sqd r21_ (by decide) (by decide)
  have r24_ : own_R (((0 : Int64) + ((y0 - m1) * (y0 - m1))) + ((y1 - m1) * (y1 - m1))) 8796093022208 := own_R.add r16_ r17_ (by decide) (by decide)
  have r25_ : own_R ((y2 - m1) * (y2 - m1)) 4398046511104 := own_R.mul r21_ r21_ (by decide) (by decide) (by decide) (by decide)
  have q23_ : FP.dadd (FP.l2d (((0 : Int64) + ((y0 - m1) * (y0 - m1))) + ((y1 - m1) * (y1 - m1)))) (FP.l2d ((y2 - m1) * (y2 - m1))) = FP.l2d ((((0 : Int64) + ((y0 - m1) * (y0 - m1))) + ((y1 - m1) * (y1 - m1))) + ((y2 - m1) * (y2 - m1))) := dadd_w (r24_.b53 (by decide)) (r25_.b53 (by decide))
  obtain ⟨cl26_, Ar26_, q26_, S26_, M26_, Hs26_, G26_⟩ := id V1
  have in26_ : ¬ ((3 : Int32) < 0 ∨ cl26_.slots.size ≤ ((3 : Int32)).toNatClampNeg) := inb_of S26_ ⟨by decide, by decide⟩
  have at26_ : cl26_.slots[((3 : Int32)).toNatClampNeg]? = some (.double (FP.l2d y3)) := Hs26_.at in26_ rfl
  have q27_ : FP.dsub (FP.l2d y3) (FP.l2d m1) = FP.l2d (y3 - m1) := dsub_w (b_y3.b53 (by decide)) (bm.b53 (by decide))
  have q28_ : FP.dsub (FP.l2d y3) (FP.l2d m1) = FP.l2d (y3 - m1) := dsub_w (b_y3.b53 (by decide)) (bm.b53 (by decide))
  have r29_ : own_R (y3 - m1) 2097152 := own_R.sub b_y3 bm (by decide) (by decide)
  have q30_ : FP.dmul (FP.l2d (y3 - m1)) (FP.l2d (y3 - m1)) = FP.l2d ((y3 - m1) * (y3 - m1)) := own_sqd r29_ (by decide) (by decide)
  have r32_ : own_R ((((0 : Int64) + ((y0 - m1) * (y0 - m1))) + ((y1 - m1) * (y1 - m1))) + ((y2 - m1) * (y2 - m1))) 13194139533312 := own_R.add r24_ r25_ (by decide) (by decide)
  have r33_ : own_R ((y3 - m1) * (y3 - m1)) 4398046511104 := own_R.mul r29_ r29_ (by decide) (by decide) (by decide) (by decide)
  have q31_ : FP.dadd (FP.l2d ((((0 : Int64) + ((y0 - m1) * (y0 - m1))) + ((y1 - m1) * (y1 - m1))) + ((y2 - m1) * (y2 - m1)))) (FP.l2d ((y3 - m1) * (y3 - m1))) = FP.l2d (((((0 : Int64) + ((y0 - m1) * (y0 - m1))) + ((y1 - m1) * (y1 - m1))) + ((y2 - m1) * (y2 - m1))) + ((y3 - m1) * (y3 - m1))) := dadd_w (r32_.b53 (by decide)) (r33_.b53 (by decide))
  obtain ⟨T34_, X34_, e34_, st34_⟩ := getF X1_ hx hZ hown (host := "") (Or.inl (hw _ (List.mem_of_getElem? (i := 11) rfl))) Via.refl e1_ F1 (g := (mkF m 50 #[.val (.ref a1), .val (.double (FP.l2d m1)), .second, .val (.double (FP.l2d (((((0 : Int64) + ((y0 - m1) * (y0 - m1))) + ((y1 - m1) * (y1 - m1))) + ((y2 - m1) * (y2 - m1))) + ((y3 - m1) * (y3 - m1))))), .second, .val (.ref t1), .val (.int (4 : Int32)), .val (.int (4 : Int32)), .val (.double (FP.l2d y3)), .second] [(.ref a1), (.double (FP.l2d (((((0 : Int64) + ((y0 - m1) * (y0 - m1))) + ((y1 - m1) * (y1 - m1))) + ((y2 - m1) * (y2 - m1))) + ((y3 - m1) * (y3 - m1)))))])) rfl rfl (hb hby d6_50)
  obtain ⟨cl35_, Ar35_, q35_, S35_, M35_, Hs35_, G35_⟩ := id V1
  have q36_ : Jvm.Free.Fl.NoNaN64 (FP.ddiv (FP.l2d (((((0 : Int64) + ((y0 - m1) * (y0 - m1))) + ((y1 - m1) * (y1 - m1))) + ((y2 - m1) * (y2 - m1))) + ((y3 - m1) * (y3 - m1)))) (FP.i2d (3 : Int32))) := own_ddiv _ _ (by decide)
  obtain ⟨fs, hr, hrun, hended, hW, hsame⟩ := X34_.leave (v := some (.double (FP.ddiv (FP.l2d (((((0 : Int64) + ((y0 - m1) * (y0 - m1))) + ((y1 - m1) * (y1 - m1))) + ((y2 - m1) * (y2 - m1))) + ((y3 - m1) * (y3 - m1)))) (FP.i2d (3 : Int32))))) (fun h => by first | rfl | (rw [Bd.returns] at h; cases h))
  refine ⟨_, _, pre0 _ ?_, hrun, hended, _, _, rfl, ?_, ⟨_, rfl⟩, hW, hsame.mono (by decide) (by decide)⟩
  · show Steps p.tables e below (s₁.setTop (mkF m 0 #[.val (.ref a1), .val (.double (FP.l2d m1)), .second, .unset, .unset, .unset, .unset, .unset, .unset, .unset] [])) _
    refine XS.dconst0 X0.here hx rfl (hb hby d6_0) own_d0 ?_
    show Steps p.tables e below (s₁.setTop (mkF m 1 #[.val (.ref a1), .val (.double (FP.l2d m1)), .second, .unset, .unset, .unset, .unset, .unset, .unset, .unset] [(.double (FP.l2d (0 : Int64)))])) _
    refine XS.dstoreN X0.here hx rfl (hb hby d6_1) rfl (l' := #[.val (.ref a1), .val (.double (FP.l2d m1)), .second, .val (.double (FP.l2d (0 : Int64))), .second, .unset, .unset, .unset, .unset, .unset]) rfl ?_
    show Steps p.tables e below (s₁.setTop (mkF m 2 #[.val (.ref a1), .val (.double (FP.l2d m1)), .second, .val (.double (FP.l2d (0 : Int64))), .second, .unset, .unset, .unset, .unset, .unset] [])) _
    refine XS.aloadN X0.here hx rfl (hb hby d6_2) rfl rfl ?_
    show Steps p.tables e below (s₁.setTop (mkF m 3 #[.val (.ref a1), .val (.double (FP.l2d m1)), .second, .val (.double (FP.l2d (0 : Int64))), .second, .unset, .unset, .unset, .unset, .unset] [(.ref a1)])) _
    refine st1_ _ ?_
    show Steps p.tables e below (T1_.setTop (mkF m 6 #[.val (.ref a1), .val (.double (FP.l2d m1)), .second, .val (.double (FP.l2d (0 : Int64))), .second, .unset, .unset, .unset, .unset, .unset] [(.ref t1)])) _
    refine XS.astore X1_.here hx rfl (hb hby d6_6) rfl rfl (l' := #[.val (.ref a1), .val (.double (FP.l2d m1)), .second, .val (.double (FP.l2d (0 : Int64))), .second, .val (.ref t1), .unset, .unset, .unset, .unset]) rfl ?_
    show Steps p.tables e below (T1_.setTop (mkF m 8 #[.val (.ref a1), .val (.double (FP.l2d m1)), .second, .val (.double (FP.l2d (0 : Int64))), .second, .val (.ref t1), .unset, .unset, .unset, .unset] [])) _
    refine XS.aload X1_.here hx rfl (hb hby d6_8) rfl rfl ?_
    show Steps p.tables e below (T1_.setTop (mkF m 10 #[.val (.ref a1), .val (.double (FP.l2d m1)), .second, .val (.double (FP.l2d (0 : Int64))), .second, .val (.ref t1), .unset, .unset, .unset, .unset] [(.ref t1)])) _
    refine X1_.arraylength hx (by rw [e1_]; exact Ar2_.1) (State.isArrayOf_alike (State.Warmed39.alike hZ) Ar2_.2.1) (g := (mkF m 10 #[.val (.ref a1), .val (.double (FP.l2d m1)), .second, .val (.double (FP.l2d (0 : Int64))), .second, .val (.ref t1), .unset, .unset, .unset, .unset] [(.ref t1)])) rfl rfl (hb hby d6_10) _ ?_
    rw [len_of S2_ M2_]
    show Steps p.tables e below (T1_.setTop (mkF m 11 #[.val (.ref a1), .val (.double (FP.l2d m1)), .second, .val (.double (FP.l2d (0 : Int64))), .second, .val (.ref t1), .unset, .unset, .unset, .unset] [(.int (4 : Int32))])) _
    refine XS.istore X1_.here hx rfl (hb hby d6_11) rfl (l' := #[.val (.ref a1), .val (.double (FP.l2d m1)), .second, .val (.double (FP.l2d (0 : Int64))), .second, .val (.ref t1), .val (.int (4 : Int32)), .unset, .unset, .unset]) rfl ?_
    show Steps p.tables e below (T1_.setTop (mkF m 13 #[.val (.ref a1), .val (.double (FP.l2d m1)), .second, .val (.double (FP.l2d (0 : Int64))), .second, .val (.ref t1), .val (.int (4 : Int32)), .unset, .unset, .unset] [])) _
    refine XS.iconst X1_.here hx rfl (hb hby d6_13) ?_
    show Steps p.tables e below (T1_.setTop (mkF m 14 #[.val (.ref a1), .val (.double (FP.l2d m1)), .second, .val (.double (FP.l2d (0 : Int64))), .second, .val (.ref t1), .val (.int (4 : Int32)), .unset, .unset, .unset] [(.int (0 : Int32))])) _
    refine XS.istore X1_.here hx rfl (hb hby d6_14) rfl (l' := #[.val (.ref a1), .val (.double (FP.l2d m1)), .second, .val (.double (FP.l2d (0 : Int64))), .second, .val (.ref t1), .val (.int (4 : Int32)), .val (.int (0 : Int32)), .unset, .unset]) rfl ?_
    show Steps p.tables e below (T1_.setTop (mkF m 16 #[.val (.ref a1), .val (.double (FP.l2d m1)), .second, .val (.double (FP.l2d (0 : Int64))), .second, .val (.ref t1), .val (.int (4 : Int32)), .val (.int (0 : Int32)), .unset, .unset] [])) _
    refine XS.iload X1_.here hx rfl (hb hby d6_16) rfl ?_
    show Steps p.tables e below (T1_.setTop (mkF m 18 #[.val (.ref a1), .val (.double (FP.l2d m1)), .second, .val (.double (FP.l2d (0 : Int64))), .second, .val (.ref t1), .val (.int (4 : Int32)), .val (.int (0 : Int32)), .unset, .unset] [(.int (0 : Int32))])) _
    refine XS.iload X1_.here hx rfl (hb hby d6_18) rfl ?_
    show Steps p.tables e below (T1_.setTop (mkF m 20 #[.val (.ref a1), .val (.double (FP.l2d m1)), .second, .val (.double (FP.l2d (0 : Int64))), .second, .val (.ref t1), .val (.int (4 : Int32)), .val (.int (0 : Int32)), .unset, .unset] [(.int (4 : Int32)), (.int (0 : Int32))])) _
    refine XS.icmpNo X1_.here hx rfl (hb hby d6_20) rfl (tlt ((by decide) : (0 : Int32) < (4 : Int32))).2.1 ?_
    show Steps p.tables e below (T1_.setTop (mkF m 23 #[.val (.ref a1), .val (.double (FP.l2d m1)), .second, .val (.double (FP.l2d (0 : Int64))), .second, .val (.ref t1), .val (.int (4 : Int32)), .val (.int (0 : Int32)), .unset, .unset] [])) _
    refine XS.aload X1_.here hx rfl (hb hby d6_23) rfl rfl ?_
    show Steps p.tables e below (T1_.setTop (mkF m 25 #[.val (.ref a1), .val (.double (FP.l2d m1)), .second, .val (.double (FP.l2d (0 : Int64))), .second, .val (.ref t1), .val (.int (4 : Int32)), .val (.int (0 : Int32)), .unset, .unset] [(.ref t1)])) _
    refine XS.iload X1_.here hx rfl (hb hby d6_25) rfl ?_
    show Steps p.tables e below (T1_.setTop (mkF m 27 #[.val (.ref a1), .val (.double (FP.l2d m1)), .second, .val (.double (FP.l2d (0 : Int64))), .second, .val (.ref t1), .val (.int (4 : Int32)), .val (.int (0 : Int32)), .unset, .unset] [(.int (0 : Int32)), (.ref t1)])) _
    refine X1_.daload hx (j := (0 : Int32)) (v := (.double (FP.l2d y0))) (by rw [e1_]; exact Ar3_.1) (State.isArrayOf_alike (State.Warmed39.alike hZ) Ar3_.2.1) Ar3_.2.2 in3_ at3_ (g := (mkF m 27 #[.val (.ref a1), .val (.double (FP.l2d m1)), .second, .val (.double (FP.l2d (0 : Int64))), .second, .val (.ref t1), .val (.int (4 : Int32)), .val (.int (0 : Int32)), .unset, .unset] [(.int (0 : Int32)), (.ref t1)])) rfl rfl (hb hby d6_27) _ ?_
    show Steps p.tables e below (T1_.setTop (mkF m 28 #[.val (.ref a1), .val (.double (FP.l2d m1)), .second, .val (.double (FP.l2d (0 : Int64))), .second, .val (.ref t1), .val (.int (4 : Int32)), .val (.int (0 : Int32)), .unset, .unset] [(.double (FP.l2d y0))])) _
    refine XS.dstore X1_.here hx rfl (hb hby d6_28) rfl (l' := #[.val (.ref a1), .val (.double (FP.l2d m1)), .second, .val (.double (FP.l2d (0 : Int64))), .second, .val (.ref t1), .val (.int (4 : Int32)), .val (.int (0 : Int32)), .val (.double (FP.l2d y0)), .second]) rfl ?_
    show Steps p.tables e below (T1_.setTop (mkF m 30 #[.val (.ref a1), .val (.double (FP.l2d m1)), .second, .val (.double (FP.l2d (0 : Int64))), .second, .val (.ref t1), .val (.int (4 : Int32)), .val (.int (0 : Int32)), .val (.double (FP.l2d y0)), .second] [])) _
    refine XS.dloadN X1_.here hx rfl (hb hby d6_30) rfl ?_
    show Steps p.tables e below (T1_.setTop (mkF m 31 #[.val (.ref a1), .val (.double (FP.l2d m1)), .second, .val (.double (FP.l2d (0 : Int64))), .second, .val (.ref t1), .val (.int (4 : Int32)), .val (.int (0 : Int32)), .val (.double (FP.l2d y0)), .second] [(.double (FP.l2d (0 : Int64)))])) _
    refine XS.dload X1_.here hx rfl (hb hby d6_31) rfl ?_
    show Steps p.tables e below (T1_.setTop (mkF m 33 #[.val (.ref a1), .val (.double (FP.l2d m1)), .second, .val (.double (FP.l2d (0 : Int64))), .second, .val (.ref t1), .val (.int (4 : Int32)), .val (.int (0 : Int32)), .val (.double (FP.l2d y0)), .second] [(.double (FP.l2d y0)), (.double (FP.l2d (0 : Int64)))])) _
    refine XS.dloadN X1_.here hx rfl (hb hby d6_33) rfl ?_
    show Steps p.tables e below (T1_.setTop (mkF m 34 #[.val (.ref a1), .val (.double (FP.l2d m1)), .second, .val (.double (FP.l2d (0 : Int64))), .second, .val (.ref t1), .val (.int (4 : Int32)), .val (.int (0 : Int32)), .val (.double (FP.l2d y0)), .second] [(.double (FP.l2d m1)), (.double (FP.l2d y0)), (.double (FP.l2d (0 : Int64)))])) _
    refine XS.dsubS X1_.here hx rfl (hb hby d6_34) rfl (nn_w q4_) (v := (FP.l2d (y0 - m1))) q4_ ?_
    show Steps p.tables e below (T1_.setTop (mkF m 35 #[.val (.ref a1), .val (.double (FP.l2d m1)), .second, .val (.double (FP.l2d (0 : Int64))), .second, .val (.ref t1), .val (.int (4 : Int32)), .val (.int (0 : Int32)), .val (.double (FP.l2d y0)), .second] [(.double (FP.l2d (y0 - m1))), (.double (FP.l2d (0 : Int64)))])) _
    refine XS.dload X1_.here hx rfl (hb hby d6_35) rfl ?_
    show Steps p.tables e below (T1_.setTop (mkF m 37 #[.val (.ref a1), .val (.double (FP.l2d m1)), .second, .val (.double (FP.l2d (0 : Int64))), .second, .val (.ref t1), .val (.int (4 : Int32)), .val (.int (0 : Int32)), .val (.double (FP.l2d y0)), .second] [(.double (FP.l2d y0)), (.double (FP.l2d (y0 - m1))), (.double (FP.l2d (0 : Int64)))])) _
    refine XS.dloadN X1_.here hx rfl (hb hby d6_37) rfl ?_
    show Steps p.tables e below (T1_.setTop (mkF m 38 #[.val (.ref a1), .val (.double (FP.l2d m1)), .second, .val (.double (FP.l2d (0 : Int64))), .second, .val (.ref t1), .val (.int (4 : Int32)), .val (.int (0 : Int32)), .val (.double (FP.l2d y0)), .second] [(.double (FP.l2d m1)), (.double (FP.l2d y0)), (.double (FP.l2d (y0 - m1))), (.double (FP.l2d (0 : Int64)))])) _
    refine XS.dsubS X1_.here hx rfl (hb hby d6_38) rfl (nn_w q5_) (v := (FP.l2d (y0 - m1))) q5_ ?_
    show Steps p.tables e below (T1_.setTop (mkF m 39 #[.val (.ref a1), .val (.double (FP.l2d m1)), .second, .val (.double (FP.l2d (0 : Int64))), .second, .val (.ref t1), .val (.int (4 : Int32)), .val (.int (0 : Int32)), .val (.double (FP.l2d y0)), .second] [(.double (FP.l2d (y0 - m1))), (.double (FP.l2d (y0 - m1))), (.double (FP.l2d (0 : Int64)))])) _
    refine XS.dmulS X1_.here hx rfl (hb hby d6_39) rfl (nn_w q7_) (v := (FP.l2d ((y0 - m1) * (y0 - m1)))) q7_ ?_
    show Steps p.tables e below (T1_.setTop (mkF m 40 #[.val (.ref a1), .val (.double (FP.l2d m1)), .second, .val (.double (FP.l2d (0 : Int64))), .second, .val (.ref t1), .val (.int (4 : Int32)), .val (.int (0 : Int32)), .val (.double (FP.l2d y0)), .second] [(.double (FP.l2d ((y0 - m1) * (y0 - m1)))), (.double (FP.l2d (0 : Int64)))])) _
    refine XS.daddS X1_.here hx rfl (hb hby d6_40) rfl (nn_w q8_) (v := (FP.l2d ((0 : Int64) + ((y0 - m1) * (y0 - m1))))) q8_ ?_
    show Steps p.tables e below (T1_.setTop (mkF m 41 #[.val (.ref a1), .val (.double (FP.l2d m1)), .second, .val (.double (FP.l2d (0 : Int64))), .second, .val (.ref t1), .val (.int (4 : Int32)), .val (.int (0 : Int32)), .val (.double (FP.l2d y0)), .second] [(.double (FP.l2d ((0 : Int64) + ((y0 - m1) * (y0 - m1)))))])) _
    refine XS.dstoreN X1_.here hx rfl (hb hby d6_41) rfl (l' := #[.val (.ref a1), .val (.double (FP.l2d m1)), .second, .val (.double (FP.l2d ((0 : Int64) + ((y0 - m1) * (y0 - m1))))), .second, .val (.ref t1), .val (.int (4 : Int32)), .val (.int (0 : Int32)), .val (.double (FP.l2d y0)), .second]) rfl ?_
    show Steps p.tables e below (T1_.setTop (mkF m 42 #[.val (.ref a1), .val (.double (FP.l2d m1)), .second, .val (.double (FP.l2d ((0 : Int64) + ((y0 - m1) * (y0 - m1))))), .second, .val (.ref t1), .val (.int (4 : Int32)), .val (.int (0 : Int32)), .val (.double (FP.l2d y0)), .second] [])) _
    refine XS.iinc X1_.here hx rfl (hb hby d6_42) rfl (l' := #[.val (.ref a1), .val (.double (FP.l2d m1)), .second, .val (.double (FP.l2d ((0 : Int64) + ((y0 - m1) * (y0 - m1))))), .second, .val (.ref t1), .val (.int (4 : Int32)), .val (.int (1 : Int32)), .val (.double (FP.l2d y0)), .second]) rfl ?_
    show Steps p.tables e below (T1_.setTop (mkF m 45 #[.val (.ref a1), .val (.double (FP.l2d m1)), .second, .val (.double (FP.l2d ((0 : Int64) + ((y0 - m1) * (y0 - m1))))), .second, .val (.ref t1), .val (.int (4 : Int32)), .val (.int (1 : Int32)), .val (.double (FP.l2d y0)), .second] [])) _
    refine XS.goto X1_.here hx rfl (pc0 := 45) (pc' := 16) rfl (hb hby d6_45) (by decide) (by decide) ?_
    show Steps p.tables e below (T1_.setTop (mkF m 16 #[.val (.ref a1), .val (.double (FP.l2d m1)), .second, .val (.double (FP.l2d ((0 : Int64) + ((y0 - m1) * (y0 - m1))))), .second, .val (.ref t1), .val (.int (4 : Int32)), .val (.int (1 : Int32)), .val (.double (FP.l2d y0)), .second] [])) _
    refine XS.iload X1_.here hx rfl (hb hby d6_16) rfl ?_
    show Steps p.tables e below (T1_.setTop (mkF m 18 #[.val (.ref a1), .val (.double (FP.l2d m1)), .second, .val (.double (FP.l2d ((0 : Int64) + ((y0 - m1) * (y0 - m1))))), .second, .val (.ref t1), .val (.int (4 : Int32)), .val (.int (1 : Int32)), .val (.double (FP.l2d y0)), .second] [(.int (1 : Int32))])) _
    refine XS.iload X1_.here hx rfl (hb hby d6_18) rfl ?_
    show Steps p.tables e below (T1_.setTop (mkF m 20 #[.val (.ref a1), .val (.double (FP.l2d m1)), .second, .val (.double (FP.l2d ((0 : Int64) + ((y0 - m1) * (y0 - m1))))), .second, .val (.ref t1), .val (.int (4 : Int32)), .val (.int (1 : Int32)), .val (.double (FP.l2d y0)), .second] [(.int (4 : Int32)), (.int (1 : Int32))])) _
    refine XS.icmpNo X1_.here hx rfl (hb hby d6_20) rfl (tlt ((by decide) : (1 : Int32) < (4 : Int32))).2.1 ?_
    show Steps p.tables e below (T1_.setTop (mkF m 23 #[.val (.ref a1), .val (.double (FP.l2d m1)), .second, .val (.double (FP.l2d ((0 : Int64) + ((y0 - m1) * (y0 - m1))))), .second, .val (.ref t1), .val (.int (4 : Int32)), .val (.int (1 : Int32)), .val (.double (FP.l2d y0)), .second] [])) _
    refine XS.aload X1_.here hx rfl (hb hby d6_23) rfl rfl ?_
    show Steps p.tables e below (T1_.setTop (mkF m 25 #[.val (.ref a1), .val (.double (FP.l2d m1)), .second, .val (.double (FP.l2d ((0 : Int64) + ((y0 - m1) * (y0 - m1))))), .second, .val (.ref t1), .val (.int (4 : Int32)), .val (.int (1 : Int32)), .val (.double (FP.l2d y0)), .second] [(.ref t1)])) _
    refine XS.iload X1_.here hx rfl (hb hby d6_25) rfl ?_
    show Steps p.tables e below (T1_.setTop (mkF m 27 #[.val (.ref a1), .val (.double (FP.l2d m1)), .second, .val (.double (FP.l2d ((0 : Int64) + ((y0 - m1) * (y0 - m1))))), .second, .val (.ref t1), .val (.int (4 : Int32)), .val (.int (1 : Int32)), .val (.double (FP.l2d y0)), .second] [(.int (1 : Int32)), (.ref t1)])) _
    refine X1_.daload hx (j := (1 : Int32)) (v := (.double (FP.l2d y1))) (by rw [e1_]; exact Ar10_.1) (State.isArrayOf_alike (State.Warmed39.alike hZ) Ar10_.2.1) Ar10_.2.2 in10_ at10_ (g := (mkF m 27 #[.val (.ref a1), .val (.double (FP.l2d m1)), .second, .val (.double (FP.l2d ((0 : Int64) + ((y0 - m1) * (y0 - m1))))), .second, .val (.ref t1), .val (.int (4 : Int32)), .val (.int (1 : Int32)), .val (.double (FP.l2d y0)), .second] [(.int (1 : Int32)), (.ref t1)])) rfl rfl (hb hby d6_27) _ ?_
    show Steps p.tables e below (T1_.setTop (mkF m 28 #[.val (.ref a1), .val (.double (FP.l2d m1)), .second, .val (.double (FP.l2d ((0 : Int64) + ((y0 - m1) * (y0 - m1))))), .second, .val (.ref t1), .val (.int (4 : Int32)), .val (.int (1 : Int32)), .val (.double (FP.l2d y0)), .second] [(.double (FP.l2d y1))])) _
    refine XS.dstore X1_.here hx rfl (hb hby d6_28) rfl (l' := #[.val (.ref a1), .val (.double (FP.l2d m1)), .second, .val (.double (FP.l2d ((0 : Int64) + ((y0 - m1) * (y0 - m1))))), .second, .val (.ref t1), .val (.int (4 : Int32)), .val (.int (1 : Int32)), .val (.double (FP.l2d y1)), .second]) rfl ?_
    show Steps p.tables e below (T1_.setTop (mkF m 30 #[.val (.ref a1), .val (.double (FP.l2d m1)), .second, .val (.double (FP.l2d ((0 : Int64) + ((y0 - m1) * (y0 - m1))))), .second, .val (.ref t1), .val (.int (4 : Int32)), .val (.int (1 : Int32)), .val (.double (FP.l2d y1)), .second] [])) _
    refine XS.dloadN X1_.here hx rfl (hb hby d6_30) rfl ?_
    show Steps p.tables e below (T1_.setTop (mkF m 31 #[.val (.ref a1), .val (.double (FP.l2d m1)), .second, .val (.double (FP.l2d ((0 : Int64) + ((y0 - m1) * (y0 - m1))))), .second, .val (.ref t1), .val (.int (4 : Int32)), .val (.int (1 : Int32)), .val (.double (FP.l2d y1)), .second] [(.double (FP.l2d ((0 : Int64) + ((y0 - m1) * (y0 - m1)))))])) _
    refine XS.dload X1_.here hx rfl (hb hby d6_31) rfl ?_
    show Steps p.tables e below (T1_.setTop (mkF m 33 #[.val (.ref a1), .val (.double (FP.l2d m1)), .second, .val (.double (FP.l2d ((0 : Int64) + ((y0 - m1) * (y0 - m1))))), .second, .val (.ref t1), .val (.int (4 : Int32)), .val (.int (1 : Int32)), .val (.double (FP.l2d y1)), .second] [(.double (FP.l2d y1)), (.double (FP.l2d ((0 : Int64) + ((y0 - m1) * (y0 - m1)))))])) _
    refine XS.dloadN X1_.here hx rfl (hb hby d6_33) rfl ?_
    show Steps p.tables e below (T1_.setTop (mkF m 34 #[.val (.ref a1), .val (.double (FP.l2d m1)), .second, .val (.double (FP.l2d ((0 : Int64) + ((y0 - m1) * (y0 - m1))))), .second, .val (.ref t1), .val (.int (4 : Int32)), .val (.int (1 : Int32)), .val (.double (FP.l2d y1)), .second] [(.double (FP.l2d m1)), (.double (FP.l2d y1)), (.double (FP.l2d ((0 : Int64) + ((y0 - m1) * (y0 - m1)))))])) _
    refine XS.dsubS X1_.here hx rfl (hb hby d6_34) rfl (nn_w q11_) (v := (FP.l2d (y1 - m1))) q11_ ?_
    show Steps p.tables e below (T1_.setTop (mkF m 35 #[.val (.ref a1), .val (.double (FP.l2d m1)), .second, .val (.double (FP.l2d ((0 : Int64) + ((y0 - m1) * (y0 - m1))))), .second, .val (.ref t1), .val (.int (4 : Int32)), .val (.int (1 : Int32)), .val (.double (FP.l2d y1)), .second] [(.double (FP.l2d (y1 - m1))), (.double (FP.l2d ((0 : Int64) + ((y0 - m1) * (y0 - m1)))))])) _
    refine XS.dload X1_.here hx rfl (hb hby d6_35) rfl ?_
    show Steps p.tables e below (T1_.setTop (mkF m 37 #[.val (.ref a1), .val (.double (FP.l2d m1)), .second, .val (.double (FP.l2d ((0 : Int64) + ((y0 - m1) * (y0 - m1))))), .second, .val (.ref t1), .val (.int (4 : Int32)), .val (.int (1 : Int32)), .val (.double (FP.l2d y1)), .second] [(.double (FP.l2d y1)), (.double (FP.l2d (y1 - m1))), (.double (FP.l2d ((0 : Int64) + ((y0 - m1) * (y0 - m1)))))])) _
    refine XS.dloadN X1_.here hx rfl (hb hby d6_37) rfl ?_
    show Steps p.tables e below (T1_.setTop (mkF m 38 #[.val (.ref a1), .val (.double (FP.l2d m1)), .second, .val (.double (FP.l2d ((0 : Int64) + ((y0 - m1) * (y0 - m1))))), .second, .val (.ref t1), .val (.int (4 : Int32)), .val (.int (1 : Int32)), .val (.double (FP.l2d y1)), .second] [(.double (FP.l2d m1)), (.double (FP.l2d y1)), (.double (FP.l2d (y1 - m1))), (.double (FP.l2d ((0 : Int64) + ((y0 - m1) * (y0 - m1)))))])) _
    refine XS.dsubS X1_.here hx rfl (hb hby d6_38) rfl (nn_w q12_) (v := (FP.l2d (y1 - m1))) q12_ ?_
    show Steps p.tables e below (T1_.setTop (mkF m 39 #[.val (.ref a1), .val (.double (FP.l2d m1)), .second, .val (.double (FP.l2d ((0 : Int64) + ((y0 - m1) * (y0 - m1))))), .second, .val (.ref t1), .val (.int (4 : Int32)), .val (.int (1 : Int32)), .val (.double (FP.l2d y1)), .second] [(.double (FP.l2d (y1 - m1))), (.double (FP.l2d (y1 - m1))), (.double (FP.l2d ((0 : Int64) + ((y0 - m1) * (y0 - m1)))))])) _
    refine XS.dmulS X1_.here hx rfl (hb hby d6_39) rfl (nn_w q14_) (v := (FP.l2d ((y1 - m1) * (y1 - m1)))) q14_ ?_
    show Steps p.tables e below (T1_.setTop (mkF m 40 #[.val (.ref a1), .val (.double (FP.l2d m1)), .second, .val (.double (FP.l2d ((0 : Int64) + ((y0 - m1) * (y0 - m1))))), .second, .val (.ref t1), .val (.int (4 : Int32)), .val (.int (1 : Int32)), .val (.double (FP.l2d y1)), .second] [(.double (FP.l2d ((y1 - m1) * (y1 - m1)))), (.double (FP.l2d ((0 : Int64) + ((y0 - m1) * (y0 - m1)))))])) _
    refine XS.daddS X1_.here hx rfl (hb hby d6_40) rfl (nn_w q15_) (v := (FP.l2d (((0 : Int64) + ((y0 - m1) * (y0 - m1))) + ((y1 - m1) * (y1 - m1))))) q15_ ?_
    show Steps p.tables e below (T1_.setTop (mkF m 41 #[.val (.ref a1), .val (.double (FP.l2d m1)), .second, .val (.double (FP.l2d ((0 : Int64) + ((y0 - m1) * (y0 - m1))))), .second, .val (.ref t1), .val (.int (4 : Int32)), .val (.int (1 : Int32)), .val (.double (FP.l2d y1)), .second] [(.double (FP.l2d (((0 : Int64) + ((y0 - m1) * (y0 - m1))) + ((y1 - m1) * (y1 - m1)))))])) _
    refine XS.dstoreN X1_.here hx rfl (hb hby d6_41) rfl (l' := #[.val (.ref a1), .val (.double (FP.l2d m1)), .second, .val (.double (FP.l2d (((0 : Int64) + ((y0 - m1) * (y0 - m1))) + ((y1 - m1) * (y1 - m1))))), .second, .val (.ref t1), .val (.int (4 : Int32)), .val (.int (1 : Int32)), .val (.double (FP.l2d y1)), .second]) rfl ?_
    show Steps p.tables e below (T1_.setTop (mkF m 42 #[.val (.ref a1), .val (.double (FP.l2d m1)), .second, .val (.double (FP.l2d (((0 : Int64) + ((y0 - m1) * (y0 - m1))) + ((y1 - m1) * (y1 - m1))))), .second, .val (.ref t1), .val (.int (4 : Int32)), .val (.int (1 : Int32)), .val (.double (FP.l2d y1)), .second] [])) _
    refine XS.iinc X1_.here hx rfl (hb hby d6_42) rfl (l' := #[.val (.ref a1), .val (.double (FP.l2d m1)), .second, .val (.double (FP.l2d (((0 : Int64) + ((y0 - m1) * (y0 - m1))) + ((y1 - m1) * (y1 - m1))))), .second, .val (.ref t1), .val (.int (4 : Int32)), .val (.int (2 : Int32)), .val (.double (FP.l2d y1)), .second]) rfl ?_
    show Steps p.tables e below (T1_.setTop (mkF m 45 #[.val (.ref a1), .val (.double (FP.l2d m1)), .second, .val (.double (FP.l2d (((0 : Int64) + ((y0 - m1) * (y0 - m1))) + ((y1 - m1) * (y1 - m1))))), .second, .val (.ref t1), .val (.int (4 : Int32)), .val (.int (2 : Int32)), .val (.double (FP.l2d y1)), .second] [])) _
    refine XS.goto X1_.here hx rfl (pc0 := 45) (pc' := 16) rfl (hb hby d6_45) (by decide) (by decide) ?_
    show Steps p.tables e below (T1_.setTop (mkF m 16 #[.val (.ref a1), .val (.double (FP.l2d m1)), .second, .val (.double (FP.l2d (((0 : Int64) + ((y0 - m1) * (y0 - m1))) + ((y1 - m1) * (y1 - m1))))), .second, .val (.ref t1), .val (.int (4 : Int32)), .val (.int (2 : Int32)), .val (.double (FP.l2d y1)), .second] [])) _
    refine XS.iload X1_.here hx rfl (hb hby d6_16) rfl ?_
    show Steps p.tables e below (T1_.setTop (mkF m 18 #[.val (.ref a1), .val (.double (FP.l2d m1)), .second, .val (.double (FP.l2d (((0 : Int64) + ((y0 - m1) * (y0 - m1))) + ((y1 - m1) * (y1 - m1))))), .second, .val (.ref t1), .val (.int (4 : Int32)), .val (.int (2 : Int32)), .val (.double (FP.l2d y1)), .second] [(.int (2 : Int32))])) _
    refine XS.iload X1_.here hx rfl (hb hby d6_18) rfl ?_
    show Steps p.tables e below (T1_.setTop (mkF m 20 #[.val (.ref a1), .val (.double (FP.l2d m1)), .second, .val (.double (FP.l2d (((0 : Int64) + ((y0 - m1) * (y0 - m1))) + ((y1 - m1) * (y1 - m1))))), .second, .val (.ref t1), .val (.int (4 : Int32)), .val (.int (2 : Int32)), .val (.double (FP.l2d y1)), .second] [(.int (4 : Int32)), (.int (2 : Int32))])) _
    refine XS.icmpNo X1_.here hx rfl (hb hby d6_20) rfl (tlt ((by decide) : (2 : Int32) < (4 : Int32))).2.1 ?_
    show Steps p.tables e below (T1_.setTop (mkF m 23 #[.val (.ref a1), .val (.double (FP.l2d m1)), .second, .val (.double (FP.l2d (((0 : Int64) + ((y0 - m1) * (y0 - m1))) + ((y1 - m1) * (y1 - m1))))), .second, .val (.ref t1), .val (.int (4 : Int32)), .val (.int (2 : Int32)), .val (.double (FP.l2d y1)), .second] [])) _
    refine XS.aload X1_.here hx rfl (hb hby d6_23) rfl rfl ?_
    show Steps p.tables e below (T1_.setTop (mkF m 25 #[.val (.ref a1), .val (.double (FP.l2d m1)), .second, .val (.double (FP.l2d (((0 : Int64) + ((y0 - m1) * (y0 - m1))) + ((y1 - m1) * (y1 - m1))))), .second, .val (.ref t1), .val (.int (4 : Int32)), .val (.int (2 : Int32)), .val (.double (FP.l2d y1)), .second] [(.ref t1)])) _
    refine XS.iload X1_.here hx rfl (hb hby d6_25) rfl ?_
    show Steps p.tables e below (T1_.setTop (mkF m 27 #[.val (.ref a1), .val (.double (FP.l2d m1)), .second, .val (.double (FP.l2d (((0 : Int64) + ((y0 - m1) * (y0 - m1))) + ((y1 - m1) * (y1 - m1))))), .second, .val (.ref t1), .val (.int (4 : Int32)), .val (.int (2 : Int32)), .val (.double (FP.l2d y1)), .second] [(.int (2 : Int32)), (.ref t1)])) _
    refine X1_.daload hx (j := (2 : Int32)) (v := (.double (FP.l2d y2))) (by rw [e1_]; exact Ar18_.1) (State.isArrayOf_alike (State.Warmed39.alike hZ) Ar18_.2.1) Ar18_.2.2 in18_ at18_ (g := (mkF m 27 #[.val (.ref a1), .val (.double (FP.l2d m1)), .second, .val (.double (FP.l2d (((0 : Int64) + ((y0 - m1) * (y0 - m1))) + ((y1 - m1) * (y1 - m1))))), .second, .val (.ref t1), .val (.int (4 : Int32)), .val (.int (2 : Int32)), .val (.double (FP.l2d y1)), .second] [(.int (2 : Int32)), (.ref t1)])) rfl rfl (hb hby d6_27) _ ?_
    show Steps p.tables e below (T1_.setTop (mkF m 28 #[.val (.ref a1), .val (.double (FP.l2d m1)), .second, .val (.double (FP.l2d (((0 : Int64) + ((y0 - m1) * (y0 - m1))) + ((y1 - m1) * (y1 - m1))))), .second, .val (.ref t1), .val (.int (4 : Int32)), .val (.int (2 : Int32)), .val (.double (FP.l2d y1)), .second] [(.double (FP.l2d y2))])) _
    refine XS.dstore X1_.here hx rfl (hb hby d6_28) rfl (l' := #[.val (.ref a1), .val (.double (FP.l2d m1)), .second, .val (.double (FP.l2d (((0 : Int64) + ((y0 - m1) * (y0 - m1))) + ((y1 - m1) * (y1 - m1))))), .second, .val (.ref t1), .val (.int (4 : Int32)), .val (.int (2 : Int32)), .val (.double (FP.l2d y2)), .second]) rfl ?_
    show Steps p.tables e below (T1_.setTop (mkF m 30 #[.val (.ref a1), .val (.double (FP.l2d m1)), .second, .val (.double (FP.l2d (((0 : Int64) + ((y0 - m1) * (y0 - m1))) + ((y1 - m1) * (y1 - m1))))), .second, .val (.ref t1), .val (.int (4 : Int32)), .val (.int (2 : Int32)), .val (.double (FP.l2d y2)), .second] [])) _
    refine XS.dloadN X1_.here hx rfl (hb hby d6_30) rfl ?_
    show Steps p.tables e below (T1_.setTop (mkF m 31 #[.val (.ref a1), .val (.double (FP.l2d m1)), .second, .val (.double (FP.l2d (((0 : Int64) + ((y0 - m1) * (y0 - m1))) + ((y1 - m1) * (y1 - m1))))), .second, .val (.ref t1), .val (.int (4 : Int32)), .val (.int (2 : Int32)), .val (.double (FP.l2d y2)), .second] [(.double (FP.l2d (((0 : Int64) + ((y0 - m1) * (y0 - m1))) + ((y1 - m1) * (y1 - m1)))))])) _
    refine XS.dload X1_.here hx rfl (hb hby d6_31) rfl ?_
    show Steps p.tables e below (T1_.setTop (mkF m 33 #[.val (.ref a1), .val (.double (FP.l2d m1)), .second, .val (.double (FP.l2d (((0 : Int64) + ((y0 - m1) * (y0 - m1))) + ((y1 - m1) * (y1 - m1))))), .second, .val (.ref t1), .val (.int (4 : Int32)), .val (.int (2 : Int32)), .val (.double (FP.l2d y2)), .second] [(.double (FP.l2d y2)), (.double (FP.l2d (((0 : Int64) + ((y0 - m1) * (y0 - m1))) + ((y1 - m1) * (y1 - m1)))))])) _
    refine XS.dloadN X1_.here hx rfl (hb hby d6_33) rfl ?_
    show Steps p.tables e below (T1_.setTop (mkF m 34 #[.val (.ref a1), .val (.double (FP.l2d m1)), .second, .val (.double (FP.l2d (((0 : Int64) + ((y0 - m1) * (y0 - m1))) + ((y1 - m1) * (y1 - m1))))), .second, .val (.ref t1), .val (.int (4 : Int32)), .val (.int (2 : Int32)), .val (.double (FP.l2d y2)), .second] [(.double (FP.l2d m1)), (.double (FP.l2d y2)), (.double (FP.l2d (((0 : Int64) + ((y0 - m1) * (y0 - m1))) + ((y1 - m1) * (y1 - m1)))))])) _
    refine XS.dsubS X1_.here hx rfl (hb hby d6_34) rfl (nn_w q19_) (v := (FP.l2d (y2 - m1))) q19_ ?_
    show Steps p.tables e below (T1_.setTop (mkF m 35 #[.val (.ref a1), .val (.double (FP.l2d m1)), .second, .val (.double (FP.l2d (((0 : Int64) + ((y0 - m1) * (y0 - m1))) + ((y1 - m1) * (y1 - m1))))), .second, .val (.ref t1), .val (.int (4 : Int32)), .val (.int (2 : Int32)), .val (.double (FP.l2d y2)), .second] [(.double (FP.l2d (y2 - m1))), (.double (FP.l2d (((0 : Int64) + ((y0 - m1) * (y0 - m1))) + ((y1 - m1) * (y1 - m1)))))])) _
    refine XS.dload X1_.here hx rfl (hb hby d6_35) rfl ?_
    show Steps p.tables e below (T1_.setTop (mkF m 37 #[.val (.ref a1), .val (.double (FP.l2d m1)), .second, .val (.double (FP.l2d (((0 : Int64) + ((y0 - m1) * (y0 - m1))) + ((y1 - m1) * (y1 - m1))))), .second, .val (.ref t1), .val (.int (4 : Int32)), .val (.int (2 : Int32)), .val (.double (FP.l2d y2)), .second] [(.double (FP.l2d y2)), (.double (FP.l2d (y2 - m1))), (.double (FP.l2d (((0 : Int64) + ((y0 - m1) * (y0 - m1))) + ((y1 - m1) * (y1 - m1)))))])) _
    refine XS.dloadN X1_.here hx rfl (hb hby d6_37) rfl ?_
    show Steps p.tables e below (T1_.setTop (mkF m 38 #[.val (.ref a1), .val (.double (FP.l2d m1)), .second, .val (.double (FP.l2d (((0 : Int64) + ((y0 - m1) * (y0 - m1))) + ((y1 - m1) * (y1 - m1))))), .second, .val (.ref t1), .val (.int (4 : Int32)), .val (.int (2 : Int32)), .val (.double (FP.l2d y2)), .second] [(.double (FP.l2d m1)), (.double (FP.l2d y2)), (.double (FP.l2d (y2 - m1))), (.double (FP.l2d (((0 : Int64) + ((y0 - m1) * (y0 - m1))) + ((y1 - m1) * (y1 - m1)))))])) _
    refine XS.dsubS X1_.here hx rfl (hb hby d6_38) rfl (nn_w q20_) (v := (FP.l2d (y2 - m1))) q20_ ?_
    show Steps p.tables e below (T1_.setTop (mkF m 39 #[.val (.ref a1), .val (.double (FP.l2d m1)), .second, .val (.double (FP.l2d (((0 : Int64) + ((y0 - m1) * (y0 - m1))) + ((y1 - m1) * (y1 - m1))))), .second, .val (.ref t1), .val (.int (4 : Int32)), .val (.int (2 : Int32)), .val (.double (FP.l2d y2)), .second] [(.double (FP.l2d (y2 - m1))), (.double (FP.l2d (y2 - m1))), (.double (FP.l2d (((0 : Int64) + ((y0 - m1) * (y0 - m1))) + ((y1 - m1) * (y1 - m1)))))])) _
    refine XS.dmulS X1_.here hx rfl (hb hby d6_39) rfl (nn_w q22_) (v := (FP.l2d ((y2 - m1) * (y2 - m1)))) q22_ ?_
    show Steps p.tables e below (T1_.setTop (mkF m 40 #[.val (.ref a1), .val (.double (FP.l2d m1)), .second, .val (.double (FP.l2d (((0 : Int64) + ((y0 - m1) * (y0 - m1))) + ((y1 - m1) * (y1 - m1))))), .second, .val (.ref t1), .val (.int (4 : Int32)), .val (.int (2 : Int32)), .val (.double (FP.l2d y2)), .second] [(.double (FP.l2d ((y2 - m1) * (y2 - m1)))), (.double (FP.l2d (((0 : Int64) + ((y0 - m1) * (y0 - m1))) + ((y1 - m1) * (y1 - m1)))))])) _
    refine XS.daddS X1_.here hx rfl (hb hby d6_40) rfl (nn_w q23_) (v := (FP.l2d ((((0 : Int64) + ((y0 - m1) * (y0 - m1))) + ((y1 - m1) * (y1 - m1))) + ((y2 - m1) * (y2 - m1))))) q23_ ?_
    show Steps p.tables e below (T1_.setTop (mkF m 41 #[.val (.ref a1), .val (.double (FP.l2d m1)), .second, .val (.double (FP.l2d (((0 : Int64) + ((y0 - m1) * (y0 - m1))) + ((y1 - m1) * (y1 - m1))))), .second, .val (.ref t1), .val (.int (4 : Int32)), .val (.int (2 : Int32)), .val (.double (FP.l2d y2)), .second] [(.double (FP.l2d ((((0 : Int64) + ((y0 - m1) * (y0 - m1))) + ((y1 - m1) * (y1 - m1))) + ((y2 - m1) * (y2 - m1)))))])) _
    refine XS.dstoreN X1_.here hx rfl (hb hby d6_41) rfl (l' := #[.val (.ref a1), .val (.double (FP.l2d m1)), .second, .val (.double (FP.l2d ((((0 : Int64) + ((y0 - m1) * (y0 - m1))) + ((y1 - m1) * (y1 - m1))) + ((y2 - m1) * (y2 - m1))))), .second, .val (.ref t1), .val (.int (4 : Int32)), .val (.int (2 : Int32)), .val (.double (FP.l2d y2)), .second]) rfl ?_
    show Steps p.tables e below (T1_.setTop (mkF m 42 #[.val (.ref a1), .val (.double (FP.l2d m1)), .second, .val (.double (FP.l2d ((((0 : Int64) + ((y0 - m1) * (y0 - m1))) + ((y1 - m1) * (y1 - m1))) + ((y2 - m1) * (y2 - m1))))), .second, .val (.ref t1), .val (.int (4 : Int32)), .val (.int (2 : Int32)), .val (.double (FP.l2d y2)), .second] [])) _
    refine XS.iinc X1_.here hx rfl (hb hby d6_42) rfl (l' := #[.val (.ref a1), .val (.double (FP.l2d m1)), .second, .val (.double (FP.l2d ((((0 : Int64) + ((y0 - m1) * (y0 - m1))) + ((y1 - m1) * (y1 - m1))) + ((y2 - m1) * (y2 - m1))))), .second, .val (.ref t1), .val (.int (4 : Int32)), .val (.int (3 : Int32)), .val (.double (FP.l2d y2)), .second]) rfl ?_
    show Steps p.tables e below (T1_.setTop (mkF m 45 #[.val (.ref a1), .val (.double (FP.l2d m1)), .second, .val (.double (FP.l2d ((((0 : Int64) + ((y0 - m1) * (y0 - m1))) + ((y1 - m1) * (y1 - m1))) + ((y2 - m1) * (y2 - m1))))), .second, .val (.ref t1), .val (.int (4 : Int32)), .val (.int (3 : Int32)), .val (.double (FP.l2d y2)), .second] [])) _
    refine XS.goto X1_.here hx rfl (pc0 := 45) (pc' := 16) rfl (hb hby d6_45) (by decide) (by decide) ?_
    show Steps p.tables e below (T1_.setTop (mkF m 16 #[.val (.ref a1), .val (.double (FP.l2d m1)), .second, .val (.double (FP.l2d ((((0 : Int64) + ((y0 - m1) * (y0 - m1))) + ((y1 - m1) * (y1 - m1))) + ((y2 - m1) * (y2 - m1))))), .second, .val (.ref t1), .val (.int (4 : Int32)), .val (.int (3 : Int32)), .val (.double (FP.l2d y2)), .second] [])) _
    refine XS.iload X1_.here hx rfl (hb hby d6_16) rfl ?_
    show Steps p.tables e below (T1_.setTop (mkF m 18 #[.val (.ref a1), .val (.double (FP.l2d m1)), .second, .val (.double (FP.l2d ((((0 : Int64) + ((y0 - m1) * (y0 - m1))) + ((y1 - m1) * (y1 - m1))) + ((y2 - m1) * (y2 - m1))))), .second, .val (.ref t1), .val (.int (4 : Int32)), .val (.int (3 : Int32)), .val (.double (FP.l2d y2)), .second] [(.int (3 : Int32))])) _
    refine XS.iload X1_.here hx rfl (hb hby d6_18) rfl ?_
    show Steps p.tables e below (T1_.setTop (mkF m 20 #[.val (.ref a1), .val (.double (FP.l2d m1)), .second, .val (.double (FP.l2d ((((0 : Int64) + ((y0 - m1) * (y0 - m1))) + ((y1 - m1) * (y1 - m1))) + ((y2 - m1) * (y2 - m1))))), .second, .val (.ref t1), .val (.int (4 : Int32)), .val (.int (3 : Int32)), .val (.double (FP.l2d y2)), .second] [(.int (4 : Int32)), (.int (3 : Int32))])) _
    refine XS.icmpNo X1_.here hx rfl (hb hby d6_20) rfl (tlt ((by decide) : (3 : Int32) < (4 : Int32))).2.1 ?_
    show Steps p.tables e below (T1_.setTop (mkF m 23 #[.val (.ref a1), .val (.double (FP.l2d m1)), .second, .val (.double (FP.l2d ((((0 : Int64) + ((y0 - m1) * (y0 - m1))) + ((y1 - m1) * (y1 - m1))) + ((y2 - m1) * (y2 - m1))))), .second, .val (.ref t1), .val (.int (4 : Int32)), .val (.int (3 : Int32)), .val (.double (FP.l2d y2)), .second] [])) _
    refine XS.aload X1_.here hx rfl (hb hby d6_23) rfl rfl ?_
    show Steps p.tables e below (T1_.setTop (mkF m 25 #[.val (.ref a1), .val (.double (FP.l2d m1)), .second, .val (.double (FP.l2d ((((0 : Int64) + ((y0 - m1) * (y0 - m1))) + ((y1 - m1) * (y1 - m1))) + ((y2 - m1) * (y2 - m1))))), .second, .val (.ref t1), .val (.int (4 : Int32)), .val (.int (3 : Int32)), .val (.double (FP.l2d y2)), .second] [(.ref t1)])) _
    refine XS.iload X1_.here hx rfl (hb hby d6_25) rfl ?_
    show Steps p.tables e below (T1_.setTop (mkF m 27 #[.val (.ref a1), .val (.double (FP.l2d m1)), .second, .val (.double (FP.l2d ((((0 : Int64) + ((y0 - m1) * (y0 - m1))) + ((y1 - m1) * (y1 - m1))) + ((y2 - m1) * (y2 - m1))))), .second, .val (.ref t1), .val (.int (4 : Int32)), .val (.int (3 : Int32)), .val (.double (FP.l2d y2)), .second] [(.int (3 : Int32)), (.ref t1)])) _
    refine X1_.daload hx (j := (3 : Int32)) (v := (.double (FP.l2d y3))) (by rw [e1_]; exact Ar26_.1) (State.isArrayOf_alike (State.Warmed39.alike hZ) Ar26_.2.1) Ar26_.2.2 in26_ at26_ (g := (mkF m 27 #[.val (.ref a1), .val (.double (FP.l2d m1)), .second, .val (.double (FP.l2d ((((0 : Int64) + ((y0 - m1) * (y0 - m1))) + ((y1 - m1) * (y1 - m1))) + ((y2 - m1) * (y2 - m1))))), .second, .val (.ref t1), .val (.int (4 : Int32)), .val (.int (3 : Int32)), .val (.double (FP.l2d y2)), .second] [(.int (3 : Int32)), (.ref t1)])) rfl rfl (hb hby d6_27) _ ?_
    show Steps p.tables e below (T1_.setTop (mkF m 28 #[.val (.ref a1), .val (.double (FP.l2d m1)), .second, .val (.double (FP.l2d ((((0 : Int64) + ((y0 - m1) * (y0 - m1))) + ((y1 - m1) * (y1 - m1))) + ((y2 - m1) * (y2 - m1))))), .second, .val (.ref t1), .val (.int (4 : Int32)), .val (.int (3 : Int32)), .val (.double (FP.l2d y2)), .second] [(.double (FP.l2d y3))])) _
    refine XS.dstore X1_.here hx rfl (hb hby d6_28) rfl (l' := #[.val (.ref a1), .val (.double (FP.l2d m1)), .second, .val (.double (FP.l2d ((((0 : Int64) + ((y0 - m1) * (y0 - m1))) + ((y1 - m1) * (y1 - m1))) + ((y2 - m1) * (y2 - m1))))), .second, .val (.ref t1), .val (.int (4 : Int32)), .val (.int (3 : Int32)), .val (.double (FP.l2d y3)), .second]) rfl ?_
    show Steps p.tables e below (T1_.setTop (mkF m 30 #[.val (.ref a1), .val (.double (FP.l2d m1)), .second, .val (.double (FP.l2d ((((0 : Int64) + ((y0 - m1) * (y0 - m1))) + ((y1 - m1) * (y1 - m1))) + ((y2 - m1) * (y2 - m1))))), .second, .val (.ref t1), .val (.int (4 : Int32)), .val (.int (3 : Int32)), .val (.double (FP.l2d y3)), .second] [])) _
    refine XS.dloadN X1_.here hx rfl (hb hby d6_30) rfl ?_
    show Steps p.tables e below (T1_.setTop (mkF m 31 #[.val (.ref a1), .val (.double (FP.l2d m1)), .second, .val (.double (FP.l2d ((((0 : Int64) + ((y0 - m1) * (y0 - m1))) + ((y1 - m1) * (y1 - m1))) + ((y2 - m1) * (y2 - m1))))), .second, .val (.ref t1), .val (.int (4 : Int32)), .val (.int (3 : Int32)), .val (.double (FP.l2d y3)), .second] [(.double (FP.l2d ((((0 : Int64) + ((y0 - m1) * (y0 - m1))) + ((y1 - m1) * (y1 - m1))) + ((y2 - m1) * (y2 - m1)))))])) _
    refine XS.dload X1_.here hx rfl (hb hby d6_31) rfl ?_
    show Steps p.tables e below (T1_.setTop (mkF m 33 #[.val (.ref a1), .val (.double (FP.l2d m1)), .second, .val (.double (FP.l2d ((((0 : Int64) + ((y0 - m1) * (y0 - m1))) + ((y1 - m1) * (y1 - m1))) + ((y2 - m1) * (y2 - m1))))), .second, .val (.ref t1), .val (.int (4 : Int32)), .val (.int (3 : Int32)), .val (.double (FP.l2d y3)), .second] [(.double (FP.l2d y3)), (.double (FP.l2d ((((0 : Int64) + ((y0 - m1) * (y0 - m1))) + ((y1 - m1) * (y1 - m1))) + ((y2 - m1) * (y2 - m1)))))])) _
    refine XS.dloadN X1_.here hx rfl (hb hby d6_33) rfl ?_
    show Steps p.tables e below (T1_.setTop (mkF m 34 #[.val (.ref a1), .val (.double (FP.l2d m1)), .second, .val (.double (FP.l2d ((((0 : Int64) + ((y0 - m1) * (y0 - m1))) + ((y1 - m1) * (y1 - m1))) + ((y2 - m1) * (y2 - m1))))), .second, .val (.ref t1), .val (.int (4 : Int32)), .val (.int (3 : Int32)), .val (.double (FP.l2d y3)), .second] [(.double (FP.l2d m1)), (.double (FP.l2d y3)), (.double (FP.l2d ((((0 : Int64) + ((y0 - m1) * (y0 - m1))) + ((y1 - m1) * (y1 - m1))) + ((y2 - m1) * (y2 - m1)))))])) _
    refine XS.dsubS X1_.here hx rfl (hb hby d6_34) rfl (nn_w q27_) (v := (FP.l2d (y3 - m1))) q27_ ?_
    show Steps p.tables e below (T1_.setTop (mkF m 35 #[.val (.ref a1), .val (.double (FP.l2d m1)), .second, .val (.double (FP.l2d ((((0 : Int64) + ((y0 - m1) * (y0 - m1))) + ((y1 - m1) * (y1 - m1))) + ((y2 - m1) * (y2 - m1))))), .second, .val (.ref t1), .val (.int (4 : Int32)), .val (.int (3 : Int32)), .val (.double (FP.l2d y3)), .second] [(.double (FP.l2d (y3 - m1))), (.double (FP.l2d ((((0 : Int64) + ((y0 - m1) * (y0 - m1))) + ((y1 - m1) * (y1 - m1))) + ((y2 - m1) * (y2 - m1)))))])) _
    refine XS.dload X1_.here hx rfl (hb hby d6_35) rfl ?_
    show Steps p.tables e below (T1_.setTop (mkF m 37 #[.val (.ref a1), .val (.double (FP.l2d m1)), .second, .val (.double (FP.l2d ((((0 : Int64) + ((y0 - m1) * (y0 - m1))) + ((y1 - m1) * (y1 - m1))) + ((y2 - m1) * (y2 - m1))))), .second, .val (.ref t1), .val (.int (4 : Int32)), .val (.int (3 : Int32)), .val (.double (FP.l2d y3)), .second] [(.double (FP.l2d y3)), (.double (FP.l2d (y3 - m1))), (.double (FP.l2d ((((0 : Int64) + ((y0 - m1) * (y0 - m1))) + ((y1 - m1) * (y1 - m1))) + ((y2 - m1) * (y2 - m1)))))])) _
    refine XS.dloadN X1_.here hx rfl (hb hby d6_37) rfl ?_
    show Steps p.tables e below (T1_.setTop (mkF m 38 #[.val (.ref a1), .val (.double (FP.l2d m1)), .second, .val (.double (FP.l2d ((((0 : Int64) + ((y0 - m1) * (y0 - m1))) + ((y1 - m1) * (y1 - m1))) + ((y2 - m1) * (y2 - m1))))), .second, .val (.ref t1), .val (.int (4 : Int32)), .val (.int (3 : Int32)), .val (.double (FP.l2d y3)), .second] [(.double (FP.l2d m1)), (.double (FP.l2d y3)), (.double (FP.l2d (y3 - m1))), (.double (FP.l2d ((((0 : Int64) + ((y0 - m1) * (y0 - m1))) + ((y1 - m1) * (y1 - m1))) + ((y2 - m1) * (y2 - m1)))))])) _
    refine XS.dsubS X1_.here hx rfl (hb hby d6_38) rfl (nn_w q28_) (v := (FP.l2d (y3 - m1))) q28_ ?_
    show Steps p.tables e below (T1_.setTop (mkF m 39 #[.val (.ref a1), .val (.double (FP.l2d m1)), .second, .val (.double (FP.l2d ((((0 : Int64) + ((y0 - m1) * (y0 - m1))) + ((y1 - m1) * (y1 - m1))) + ((y2 - m1) * (y2 - m1))))), .second, .val (.ref t1), .val (.int (4 : Int32)), .val (.int (3 : Int32)), .val (.double (FP.l2d y3)), .second] [(.double (FP.l2d (y3 - m1))), (.double (FP.l2d (y3 - m1))), (.double (FP.l2d ((((0 : Int64) + ((y0 - m1) * (y0 - m1))) + ((y1 - m1) * (y1 - m1))) + ((y2 - m1) * (y2 - m1)))))])) _
    refine XS.dmulS X1_.here hx rfl (hb hby d6_39) rfl (nn_w q30_) (v := (FP.l2d ((y3 - m1) * (y3 - m1)))) q30_ ?_
    show Steps p.tables e below (T1_.setTop (mkF m 40 #[.val (.ref a1), .val (.double (FP.l2d m1)), .second, .val (.double (FP.l2d ((((0 : Int64) + ((y0 - m1) * (y0 - m1))) + ((y1 - m1) * (y1 - m1))) + ((y2 - m1) * (y2 - m1))))), .second, .val (.ref t1), .val (.int (4 : Int32)), .val (.int (3 : Int32)), .val (.double (FP.l2d y3)), .second] [(.double (FP.l2d ((y3 - m1) * (y3 - m1)))), (.double (FP.l2d ((((0 : Int64) + ((y0 - m1) * (y0 - m1))) + ((y1 - m1) * (y1 - m1))) + ((y2 - m1) * (y2 - m1)))))])) _
    refine XS.daddS X1_.here hx rfl (hb hby d6_40) rfl (nn_w q31_) (v := (FP.l2d (((((0 : Int64) + ((y0 - m1) * (y0 - m1))) + ((y1 - m1) * (y1 - m1))) + ((y2 - m1) * (y2 - m1))) + ((y3 - m1) * (y3 - m1))))) q31_ ?_
    show Steps p.tables e below (T1_.setTop (mkF m 41 #[.val (.ref a1), .val (.double (FP.l2d m1)), .second, .val (.double (FP.l2d ((((0 : Int64) + ((y0 - m1) * (y0 - m1))) + ((y1 - m1) * (y1 - m1))) + ((y2 - m1) * (y2 - m1))))), .second, .val (.ref t1), .val (.int (4 : Int32)), .val (.int (3 : Int32)), .val (.double (FP.l2d y3)), .second] [(.double (FP.l2d (((((0 : Int64) + ((y0 - m1) * (y0 - m1))) + ((y1 - m1) * (y1 - m1))) + ((y2 - m1) * (y2 - m1))) + ((y3 - m1) * (y3 - m1)))))])) _
    refine XS.dstoreN X1_.here hx rfl (hb hby d6_41) rfl (l' := #[.val (.ref a1), .val (.double (FP.l2d m1)), .second, .val (.double (FP.l2d (((((0 : Int64) + ((y0 - m1) * (y0 - m1))) + ((y1 - m1) * (y1 - m1))) + ((y2 - m1) * (y2 - m1))) + ((y3 - m1) * (y3 - m1))))), .second, .val (.ref t1), .val (.int (4 : Int32)), .val (.int (3 : Int32)), .val (.double (FP.l2d y3)), .second]) rfl ?_
    show Steps p.tables e below (T1_.setTop (mkF m 42 #[.val (.ref a1), .val (.double (FP.l2d m1)), .second, .val (.double (FP.l2d (((((0 : Int64) + ((y0 - m1) * (y0 - m1))) + ((y1 - m1) * (y1 - m1))) + ((y2 - m1) * (y2 - m1))) + ((y3 - m1) * (y3 - m1))))), .second, .val (.ref t1), .val (.int (4 : Int32)), .val (.int (3 : Int32)), .val (.double (FP.l2d y3)), .second] [])) _
    refine XS.iinc X1_.here hx rfl (hb hby d6_42) rfl (l' := #[.val (.ref a1), .val (.double (FP.l2d m1)), .second, .val (.double (FP.l2d (((((0 : Int64) + ((y0 - m1) * (y0 - m1))) + ((y1 - m1) * (y1 - m1))) + ((y2 - m1) * (y2 - m1))) + ((y3 - m1) * (y3 - m1))))), .second, .val (.ref t1), .val (.int (4 : Int32)), .val (.int (4 : Int32)), .val (.double (FP.l2d y3)), .second]) rfl ?_
    show Steps p.tables e below (T1_.setTop (mkF m 45 #[.val (.ref a1), .val (.double (FP.l2d m1)), .second, .val (.double (FP.l2d (((((0 : Int64) + ((y0 - m1) * (y0 - m1))) + ((y1 - m1) * (y1 - m1))) + ((y2 - m1) * (y2 - m1))) + ((y3 - m1) * (y3 - m1))))), .second, .val (.ref t1), .val (.int (4 : Int32)), .val (.int (4 : Int32)), .val (.double (FP.l2d y3)), .second] [])) _
    refine XS.goto X1_.here hx rfl (pc0 := 45) (pc' := 16) rfl (hb hby d6_45) (by decide) (by decide) ?_
    show Steps p.tables e below (T1_.setTop (mkF m 16 #[.val (.ref a1), .val (.double (FP.l2d m1)), .second, .val (.double (FP.l2d (((((0 : Int64) + ((y0 - m1) * (y0 - m1))) + ((y1 - m1) * (y1 - m1))) + ((y2 - m1) * (y2 - m1))) + ((y3 - m1) * (y3 - m1))))), .second, .val (.ref t1), .val (.int (4 : Int32)), .val (.int (4 : Int32)), .val (.double (FP.l2d y3)), .second] [])) _
    refine XS.iload X1_.here hx rfl (hb hby d6_16) rfl ?_
    show Steps p.tables e below (T1_.setTop (mkF m 18 #[.val (.ref a1), .val (.double (FP.l2d m1)), .second, .val (.double (FP.l2d (((((0 : Int64) + ((y0 - m1) * (y0 - m1))) + ((y1 - m1) * (y1 - m1))) + ((y2 - m1) * (y2 - m1))) + ((y3 - m1) * (y3 - m1))))), .second, .val (.ref t1), .val (.int (4 : Int32)), .val (.int (4 : Int32)), .val (.double (FP.l2d y3)), .second] [(.int (4 : Int32))])) _
    refine XS.iload X1_.here hx rfl (hb hby d6_18) rfl ?_
    show Steps p.tables e below (T1_.setTop (mkF m 20 #[.val (.ref a1), .val (.double (FP.l2d m1)), .second, .val (.double (FP.l2d (((((0 : Int64) + ((y0 - m1) * (y0 - m1))) + ((y1 - m1) * (y1 - m1))) + ((y2 - m1) * (y2 - m1))) + ((y3 - m1) * (y3 - m1))))), .second, .val (.ref t1), .val (.int (4 : Int32)), .val (.int (4 : Int32)), .val (.double (FP.l2d y3)), .second] [(.int (4 : Int32)), (.int (4 : Int32))])) _
    refine XS.icmpYes X1_.here hx rfl (pc0 := 20) (pc' := 48) rfl (hb hby d6_20) rfl (flt ((by decide) : ¬ ((4 : Int32) < (4 : Int32)))).2.1 (by decide) (by decide) ?_
    show Steps p.tables e below (T1_.setTop (mkF m 48 #[.val (.ref a1), .val (.double (FP.l2d m1)), .second, .val (.double (FP.l2d (((((0 : Int64) + ((y0 - m1) * (y0 - m1))) + ((y1 - m1) * (y1 - m1))) + ((y2 - m1) * (y2 - m1))) + ((y3 - m1) * (y3 - m1))))), .second, .val (.ref t1), .val (.int (4 : Int32)), .val (.int (4 : Int32)), .val (.double (FP.l2d y3)), .second] [])) _
    refine XS.dloadN X1_.here hx rfl (hb hby d6_48) rfl ?_
    show Steps p.tables e below (T1_.setTop (mkF m 49 #[.val (.ref a1), .val (.double (FP.l2d m1)), .second, .val (.double (FP.l2d (((((0 : Int64) + ((y0 - m1) * (y0 - m1))) + ((y1 - m1) * (y1 - m1))) + ((y2 - m1) * (y2 - m1))) + ((y3 - m1) * (y3 - m1))))), .second, .val (.ref t1), .val (.int (4 : Int32)), .val (.int (4 : Int32)), .val (.double (FP.l2d y3)), .second] [(.double (FP.l2d (((((0 : Int64) + ((y0 - m1) * (y0 - m1))) + ((y1 - m1) * (y1 - m1))) + ((y2 - m1) * (y2 - m1))) + ((y3 - m1) * (y3 - m1)))))])) _
    refine XS.aloadN X1_.here hx rfl (hb hby d6_49) rfl rfl ?_
    show Steps p.tables e below (T1_.setTop (mkF m 50 #[.val (.ref a1), .val (.double (FP.l2d m1)), .second, .val (.double (FP.l2d (((((0 : Int64) + ((y0 - m1) * (y0 - m1))) + ((y1 - m1) * (y1 - m1))) + ((y2 - m1) * (y2 - m1))) + ((y3 - m1) * (y3 - m1))))), .second, .val (.ref t1), .val (.int (4 : Int32)), .val (.int (4 : Int32)), .val (.double (FP.l2d y3)), .second] [(.ref a1), (.double (FP.l2d (((((0 : Int64) + ((y0 - m1) * (y0 - m1))) + ((y1 - m1) * (y1 - m1))) + ((y2 - m1) * (y2 - m1))) + ((y3 - m1) * (y3 - m1)))))])) _
    refine st34_ _ ?_
    show Steps p.tables e below (T34_.setTop (mkF m 53 #[.val (.ref a1), .val (.double (FP.l2d m1)), .second, .val (.double (FP.l2d (((((0 : Int64) + ((y0 - m1) * (y0 - m1))) + ((y1 - m1) * (y1 - m1))) + ((y2 - m1) * (y2 - m1))) + ((y3 - m1) * (y3 - m1))))), .second, .val (.ref t1), .val (.int (4 : Int32)), .val (.int (4 : Int32)), .val (.double (FP.l2d y3)), .second] [(.ref t1), (.double (FP.l2d (((((0 : Int64) + ((y0 - m1) * (y0 - m1))) + ((y1 - m1) * (y1 - m1))) + ((y2 - m1) * (y2 - m1))) + ((y3 - m1) * (y3 - m1)))))])) _
    refine X34_.arraylength hx (by rw [e34_]; exact Ar35_.1) (State.isArrayOf_alike (State.Warmed39.alike hZ) Ar35_.2.1) (g := (mkF m 53 #[.val (.ref a1), .val (.double (FP.l2d m1)), .second, .val (.double (FP.l2d (((((0 : Int64) + ((y0 - m1) * (y0 - m1))) + ((y1 - m1) * (y1 - m1))) + ((y2 - m1) * (y2 - m1))) + ((y3 - m1) * (y3 - m1))))), .second, .val (.ref t1), .val (.int (4 : Int32)), .val (.int (4 : Int32)), .val (.double (FP.l2d y3)), .second] [(.ref t1), (.double (FP.l2d (((((0 : Int64) + ((y0 - m1) * (y0 - m1))) + ((y1 - m1) * (y1 - m1))) + ((y2 - m1) * (y2 - m1))) + ((y3 - m1) * (y3 - m1)))))])) rfl rfl (hb hby d6_53) _ ?_
    rw [len_of S35_ M35_]
    show Steps p.tables e below (T34_.setTop (mkF m 54 #[.val (.ref a1), .val (.double (FP.l2d m1)), .second, .val (.double (FP.l2d (((((0 : Int64) + ((y0 - m1) * (y0 - m1))) + ((y1 - m1) * (y1 - m1))) + ((y2 - m1) * (y2 - m1))) + ((y3 - m1) * (y3 - m1))))), .second, .val (.ref t1), .val (.int (4 : Int32)), .val (.int (4 : Int32)), .val (.double (FP.l2d y3)), .second] [(.int (4 : Int32)), (.double (FP.l2d (((((0 : Int64) + ((y0 - m1) * (y0 - m1))) + ((y1 - m1) * (y1 - m1))) + ((y2 - m1) * (y2 - m1))) + ((y3 - m1) * (y3 - m1)))))])) _
    refine XS.iconst X34_.here hx rfl (hb hby d6_54) ?_
    show Steps p.tables e below (T34_.setTop (mkF m 55 #[.val (.ref a1), .val (.double (FP.l2d m1)), .second, .val (.double (FP.l2d (((((0 : Int64) + ((y0 - m1) * (y0 - m1))) + ((y1 - m1) * (y1 - m1))) + ((y2 - m1) * (y2 - m1))) + ((y3 - m1) * (y3 - m1))))), .second, .val (.ref t1), .val (.int (4 : Int32)), .val (.int (4 : Int32)), .val (.double (FP.l2d y3)), .second] [(.int (1 : Int32)), (.int (4 : Int32)), (.double (FP.l2d (((((0 : Int64) + ((y0 - m1) * (y0 - m1))) + ((y1 - m1) * (y1 - m1))) + ((y2 - m1) * (y2 - m1))) + ((y3 - m1) * (y3 - m1)))))])) _
    refine XS.isub X34_.here hx rfl (hb hby d6_55) rfl ?_
    show Steps p.tables e below (T34_.setTop (mkF m 56 #[.val (.ref a1), .val (.double (FP.l2d m1)), .second, .val (.double (FP.l2d (((((0 : Int64) + ((y0 - m1) * (y0 - m1))) + ((y1 - m1) * (y1 - m1))) + ((y2 - m1) * (y2 - m1))) + ((y3 - m1) * (y3 - m1))))), .second, .val (.ref t1), .val (.int (4 : Int32)), .val (.int (4 : Int32)), .val (.double (FP.l2d y3)), .second] [(.int (3 : Int32)), (.double (FP.l2d (((((0 : Int64) + ((y0 - m1) * (y0 - m1))) + ((y1 - m1) * (y1 - m1))) + ((y2 - m1) * (y2 - m1))) + ((y3 - m1) * (y3 - m1)))))])) _
    refine XS.i2dS X34_.here hx rfl (hb hby d6_56) rfl (v := (FP.i2d (3 : Int32))) rfl ?_
    show Steps p.tables e below (T34_.setTop (mkF m 57 #[.val (.ref a1), .val (.double (FP.l2d m1)), .second, .val (.double (FP.l2d (((((0 : Int64) + ((y0 - m1) * (y0 - m1))) + ((y1 - m1) * (y1 - m1))) + ((y2 - m1) * (y2 - m1))) + ((y3 - m1) * (y3 - m1))))), .second, .val (.ref t1), .val (.int (4 : Int32)), .val (.int (4 : Int32)), .val (.double (FP.l2d y3)), .second] [(.double (FP.i2d (3 : Int32))), (.double (FP.l2d (((((0 : Int64) + ((y0 - m1) * (y0 - m1))) + ((y1 - m1) * (y1 - m1))) + ((y2 - m1) * (y2 - m1))) + ((y3 - m1) * (y3 - m1)))))])) _
    refine XS.ddivS X34_.here hx rfl (hb hby d6_57) rfl q36_ (v := (FP.ddiv (FP.l2d (((((0 : Int64) + ((y0 - m1) * (y0 - m1))) + ((y1 - m1) * (y1 - m1))) + ((y2 - m1) * (y2 - m1))) + ((y3 - m1) * (y3 - m1)))) (FP.i2d (3 : Int32)))) rfl ?_
    show Steps p.tables e below (T34_.setTop (mkF m 58 #[.val (.ref a1), .val (.double (FP.l2d m1)), .second, .val (.double (FP.l2d (((((0 : Int64) + ((y0 - m1) * (y0 - m1))) + ((y1 - m1) * (y1 - m1))) + ((y2 - m1) * (y2 - m1))) + ((y3 - m1) * (y3 - m1))))), .second, .val (.ref t1), .val (.int (4 : Int32)), .val (.int (4 : Int32)), .val (.double (FP.l2d y3)), .second] [(.double (FP.ddiv (FP.l2d (((((0 : Int64) + ((y0 - m1) * (y0 - m1))) + ((y1 - m1) * (y1 - m1))) + ((y2 - m1) * (y2 - m1))) + ((y3 - m1) * (y3 - m1)))) (FP.i2d (3 : Int32))))])) _
    exact retD X34_ hx Bd.returns (hb hby d6_58) hr
  · show Q_rmSv4 Z a1 m1 t1 k1 y0 y1 y2 y3 h0 n0 _ T34_.heap _
    rw [e34_]
    exact ⟨rfl, N0, rfl⟩
theorem pd_qIDzV : parseMethodDescriptor "(ID)V" = some ⟨[.int, .double], none⟩ := by decide +kernel
theorem pd_qDzV : parseMethodDescriptor "(D)V" = some ⟨[.double], none⟩ := by decide +kernel
theorem pd_qJzJ : parseMethodDescriptor "(J)J" = some ⟨[.long], some .long⟩ := by decide +kernel
theorem pd_qDzD : parseMethodDescriptor "(D)D" = some ⟨[.double], some .double⟩ := by decide +kernel
theorem ef_rm0_2 (m : MethodId) (x0 : Int32) (x1 : Int32) (x2 : Int32) (x3 : Int32) (x4 : Int32) (x5 : Int32) : entryFrame m #[(.int x0), (.int x1), (.int x2), (.int x3), (.int x4), (.int x5)] maxLocals = mkF m 0 #[.val (.int x0), .val (.int x1), .val (.int x2), .val (.int x3), .val (.int x4), .val (.int x5), .unset, .unset, .unset, .unset, .unset, .unset, .unset, .unset, .unset, .unset, .unset, .unset, .unset, .unset, .unset, .unset] [] := by first | (simp [entryFrame, mkF, argsToLocals, Value.category, maxLocals]; done) | rfl
def Q_rm0_2 (Z : State) (p0 : Int32) (p1 : Int32) (p2 : Int32) (p3 : Int32) (p4 : Int32) (p5 : Int32) (y1 : Int64) (y2 : Int64) (y3 : Int64) (y4 : Int64) (y5 : Int64) (h0 : Heap) (n0 : Nat) (v : Option Value) (h : Heap) (L : List Loc) : Prop := v = some (.int (1 : Int32)) ∧ Fr n0 L
set_option maxRecDepth 65536 in
set_option maxHeartbeats 40000000 in
theorem rm0_2 (l : Launch) (Z : State) (a0 : Array Value) (hw : ∀ d ∈ tables_1, d.before a0 Z = true) (ws : List Jvm.Cond) (p0 : Int32) (p1 : Int32) (p2 : Int32) (p3 : Int32) (p4 : Int32) (p5 : Int32) (y1 : Int64) (y2 : Int64) (y3 : Int64) (y4 : Int64) (y5 : Int64) (h0 : Heap) (n0 : Nat) (Z0 : n0 ≤ h0.size) (hn : ((2 : Int32) + ((p0 &&& (2147483647 : Int32)) - (((p0 &&& (2147483647 : Int32)) / (3 : Int32)) * (3 : Int32)))) = (2 : Int32)) (ey1 : y1 = ((p1 >>> ((11 : Int32) &&& 31)).toInt64)) (ey2 : y2 = ((p2 >>> ((11 : Int32) &&& 31)).toInt64)) (ey3 : y3 = ((p3 >>> ((11 : Int32) &&& 31)).toInt64)) (ey4 : y4 = ((p4 >>> ((11 : Int32) &&& 31)).toInt64)) (ey5 : y5 = ((p5 >>> ((11 : Int32) &&& 31)).toInt64)) (by1 : own_R y1 1048576) (by2 : own_R y2 1048576) (by3 : own_R y3 1048576) (by4 : own_R y4 1048576) (by5 : own_R y5 1048576) :
    MetFree l x (head1 (Jvm.Cond.code x code maxLocals ret :: ws) room_1) (fun a U => a = #[(.int p0), (.int p1), (.int p2), (.int p3), (.int p4), (.int p5)] ∧ Z.Warmed39 U.vm ∧ U.heap = h0) (fun _ _ _ _ _ => True) (fun _ U o U' => ∃ v L, o = .returned v ∧ Q_rm0_2 Z p0 p1 p2 p3 p4 p5 y1 y2 y3 y4 y5 h0 n0 v U'.heap L ∧ FrameEnd U o U' L room_1.cells room_1.slots) := by
  refine MetFree.of_bodySF (plainFor_of_name pn_com_example_whipstill_whipstill_MovingWindowSampleVariancePinLaw) hisR ?_
  intro p e s m args below meth c s₁ Bd hml0 hP hK
  obtain ⟨rfl, hZ, hh⟩ := hP
  have hx := Bd.exec
  have hby := Bd.bytes
  have hml : c.maxLocals = 22 := hml0
  have hown : s.vm.findClass "com/example/whipstill/whipstill/MovingWindowSampleVariancePinLaw" = some m.cls := findClass_of_methodNamed Bd.named
  have hnm := (name_of_methodNamed Bd.named Bd.method).1
  have X0 : Stand p l e room_1 s m #[(.int p0), (.int p1), (.int p2), (.int p3), (.int p4), (.int p5)] below meth c s₁ [] 0 0 := Stand.of_body Bd
  have e0 : s₁.heap = h0 := by rw [← hh, Bd.state]; rfl
  have N0 := Fr.nil n0
  have pre0 : ∀ t, Steps p.tables e below (s₁.setTop (mkF m 0 #[.val (.int p0), .val (.int p1), .val (.int p2), .val (.int p3), .val (.int p4), .val (.int p5), .unset, .unset, .unset, .unset, .unset, .unset, .unset, .unset, .unset, .unset, .unset, .unset, .unset, .unset, .unset, .unset] [])) t → Steps p.tables e below (s₁.setTop (entryFrame m #[(.int p0), (.int p1), (.int p2), (.int p3), (.int p4), (.int p5)] maxLocals)) t := fun t k => castTop (ef_rm0_2 m p0 p1 p2 p3 p4 p5) k
  obtain ⟨T1_, h1_, X1_, e1_, E1_, A1_, D1_, U1_, st1_⟩ := newO X0 hx hZ hown (hw _ (List.mem_of_getElem? (i := 1) rfl)) (hw _ (List.mem_of_getElem? (i := 2) rfl)) (hw _ (List.mem_of_getElem? (i := 3) rfl)) e0 (g := (mkF m 47 #[.val (.int p0), .val (.int p1), .val (.int p2), .val (.int p3), .val (.int p4), .val (.int p5), .val (.int (2 : Int32)), .val (.long y1), .second, .val (.long y2), .second, .val (.long y3), .second, .val (.long y4), .second, .val (.long y5), .second, .unset, .unset, .unset, .unset, .unset] [])) rfl (hb hby at_47) (by decide) (by decide)
  obtain ⟨b1_, g1_⟩ : ∃ z, z = h0.size := ⟨_, rfl⟩
  rw [← g1_] at A1_ D1_ U1_ st1_
  have F1__values : Fld Z h1_ b1_ "com/example/whipstill/whipstill/MovingWindow" "values" "[D" .null := D1_ (Or.inr (hw _ (List.mem_of_getElem? (i := 12) rfl))) (ty := (.array .double)) (by decide)
  have F1__oldest : Fld Z h1_ b1_ "com/example/whipstill/whipstill/MovingWindow" "oldest" "I" (.int (0 : Int32)) := D1_ (Or.inl (hw _ (List.mem_of_getElem? (i := 23) rfl))) (ty := .int) (by decide)
  have g3_ : n0 ≤ b1_ := Nat.le_trans Z0 (Nat.le_of_eq g1_.symm)
  have z4_ : n0 ≤ h1_.size := Nat.le_trans Z0 E1_.1
  obtain ⟨_, _, ⟨T2_, L2_, k2_, n2_⟩, -, X2_, ⟨Lc2_, hQ2_, l2_, y2_, z2_⟩, st2_⟩ := X1_.specialBack hx (y := (⟨"com/example/whipstill/whipstill/MovingWindow", "<init>", "(ID)V"⟩ : MethodName)) rfl hown (mvT hZ (hw _ (List.mem_of_getElem? (i := 4) rfl))) (mvT hZ (hw _ (List.mem_of_getElem? (i := 5) rfl))) (mvT hZ (hw _ (List.mem_of_getElem? (i := 6) rfl))) (by decide) (backOf (W := 1) (rmInit2 l Z a0 hw [] b1_ (FP.l2d y1) h1_ n0 z4_ A1_ F1__values F1__oldest g3_) hZ (hw _ (List.mem_of_getElem? (i := 6) rfl)) (hw _ (List.mem_of_getElem? (i := 3) rfl)) (by decide) (by decide)) (g := (mkF m 56 #[.val (.int p0), .val (.int p1), .val (.int p2), .val (.int p3), .val (.int p4), .val (.int p5), .val (.int (2 : Int32)), .val (.long y1), .second, .val (.long y2), .second, .val (.long y3), .second, .val (.long y4), .second, .val (.long y5), .second, .unset, .unset, .unset, .unset, .unset] [(.double (FP.l2d y1)), (.int (2 : Int32)), (.ref b1_), (.ref b1_)])) rfl (by rw [hml]; rfl) (Steps.refl _) (a := b1_) (argsL := [(.int (2 : Int32)), (.double (FP.l2d y1))]) (rest := [(.ref b1_)]) (lenOf pd_qIDzV rfl) rfl (by show 2 * 0 + _ ≤ _; exact Nat.le_of_eq rfl) (hb hby at_56) (fun _ _ => ⟨rfl, e1_, (by decide : 1 + 1 ≤ _), (by decide : 2 + 2 ≤ _)⟩)
  dsimp only [Pt.U, Pt.locs, Pt.cells, Pt.slots] at X2_ l2_ y2_ z2_ st2_ hQ2_
  subst l2_ y2_ z2_
  obtain ⟨t_2_, k_2_, rfl, Nq2_, ek2_, p2__0, p2__1, p2__2, p2__3, p2__4⟩ := hQ2_
  have N2_ := Fr.app N0 Nq2_
  have g6_ : n0 ≤ t_2_ := Nat.le_trans z4_ p2__0
  have z7_ : n0 ≤ T2_.heap.size := Nat.le_trans z4_ ek2_.1
  obtain ⟨cq8_, kq8_, qa8_, qb8_, qc8_⟩ := isOf hZ rfl p2__1
  obtain ⟨_, _, ⟨T5_, L5_, k5_, n5_⟩, -, X5_, ⟨Lc5_, hQ5_, l5_, y5_, z5_⟩, st5_⟩ := X2_.virtualBack hx (y := (⟨"com/example/whipstill/whipstill/MovingWindow", "add", "(D)V"⟩ : MethodName)) (z := (⟨"com/example/whipstill/whipstill/MovingWindow", "add", "(D)V"⟩ : MethodName)) hown (mvT hZ (hw _ (List.mem_of_getElem? (i := 17) rfl))) (mvT hZ (hw _ (List.mem_of_getElem? (i := 18) rfl))) (notFace_of_selects (args := #[]) (mvT hZ (hw _ (List.mem_of_getElem? (i := 20) rfl)))) (mvT hZ (hw _ (List.mem_of_getElem? (i := 20) rfl))) (mvT hZ (hw _ (List.mem_of_getElem? (i := 19) rfl))) (by decide) (backOf (W := 0) (rmAdd2_0 l Z a0 hw [] b1_ (FP.l2d y2) t_2_ k_2_ (FP.l2d y1) (FP.l2d y1) T2_.heap n0 z7_ p2__1 p2__2 p2__3 p2__4 g3_ g6_) hZ (hw _ (List.mem_of_getElem? (i := 21) rfl)) (hw _ (List.mem_of_getElem? (i := 3) rfl)) (by decide) (by decide)) qa8_ qc8_ (g := (mkF m 66 #[.val (.int p0), .val (.int p1), .val (.int p2), .val (.int p3), .val (.int p4), .val (.int p5), .val (.int (2 : Int32)), .val (.long y1), .second, .val (.long y2), .second, .val (.long y3), .second, .val (.long y4), .second, .val (.long y5), .second, .val (.ref b1_), .unset, .unset, .unset, .unset] [(.double (FP.l2d y2)), (.ref b1_)])) rfl (by rw [hml]; rfl) (Steps.refl _) (argsL := [(.double (FP.l2d y2))]) (rest := []) (lenOf pd_qDzV rfl) rfl (by show 2 * 0 + _ ≤ _; exact Nat.le_of_eq rfl) (hb hby at_66) (fun _ _ => ⟨rfl, rfl, (by decide : 2 + 0 ≤ _), (by decide : 4 + 0 ≤ _)⟩)
  dsimp only [Pt.U, Pt.locs, Pt.cells, Pt.slots] at X5_ l5_ y5_ z5_ st5_ hQ5_
  subst l5_ y5_ z5_
  obtain ⟨rfl, Nq5_, ek5_, p5__0, p5__1, p5__2, p5__3⟩ := hQ5_
  have N5_ := Fr.app N2_ Nq5_
  have z10_ : n0 ≤ T5_.heap.size := Nat.le_trans z7_ ek5_.1
  obtain ⟨cq11_, kq11_, qa11_, qb11_, qc11_⟩ := isOf hZ rfl p5__0
  obtain ⟨_, _, ⟨T9_, L9_, k9_, n9_⟩, -, X9_, ⟨Lc9_, hQ9_, l9_, y9_, z9_⟩, st9_⟩ := X5_.virtualBack hx (y := (⟨"com/example/whipstill/whipstill/MovingWindow", "add", "(D)V"⟩ : MethodName)) (z := (⟨"com/example/whipstill/whipstill/MovingWindow", "add", "(D)V"⟩ : MethodName)) hown (mvT hZ (hw _ (List.mem_of_getElem? (i := 17) rfl))) (mvT hZ (hw _ (List.mem_of_getElem? (i := 18) rfl))) (notFace_of_selects (args := #[]) (mvT hZ (hw _ (List.mem_of_getElem? (i := 20) rfl)))) (mvT hZ (hw _ (List.mem_of_getElem? (i := 20) rfl))) (mvT hZ (hw _ (List.mem_of_getElem? (i := 19) rfl))) (by decide) (backOf (W := 0) (rmAdd2_1 l Z a0 hw [] b1_ (FP.l2d y3) t_2_ k_2_ (FP.l2d y2) (FP.l2d y1) T5_.heap n0 z10_ p5__0 p5__1 p5__2 p5__3 g3_ g6_) hZ (hw _ (List.mem_of_getElem? (i := 21) rfl)) (hw _ (List.mem_of_getElem? (i := 3) rfl)) (by decide) (by decide)) qa11_ qc11_ (g := (mkF m 74 #[.val (.int p0), .val (.int p1), .val (.int p2), .val (.int p3), .val (.int p4), .val (.int p5), .val (.int (2 : Int32)), .val (.long y1), .second, .val (.long y2), .second, .val (.long y3), .second, .val (.long y4), .second, .val (.long y5), .second, .val (.ref b1_), .unset, .unset, .unset, .unset] [(.double (FP.l2d y3)), (.ref b1_)])) rfl (by rw [hml]; rfl) (Steps.refl _) (argsL := [(.double (FP.l2d y3))]) (rest := []) (lenOf pd_qDzV rfl) rfl (by show 2 * 0 + _ ≤ _; exact Nat.le_of_eq rfl) (hb hby at_74) (fun _ _ => ⟨rfl, rfl, (by decide : 2 + 0 ≤ _), (by decide : 4 + 0 ≤ _)⟩)
  dsimp only [Pt.U, Pt.locs, Pt.cells, Pt.slots] at X9_ l9_ y9_ z9_ st9_ hQ9_
  subst l9_ y9_ z9_
  obtain ⟨rfl, Nq9_, ek9_, p9__0, p9__1, p9__2, p9__3⟩ := hQ9_
  have N9_ := Fr.app N5_ Nq9_
  have z13_ : n0 ≤ T9_.heap.size := Nat.le_trans z10_ ek9_.1
  obtain ⟨cq14_, kq14_, qa14_, qb14_, qc14_⟩ := isOf hZ rfl p9__0
  obtain ⟨_, _, ⟨T12_, L12_, k12_, n12_⟩, -, X12_, ⟨Lc12_, hQ12_, l12_, y12_, z12_⟩, st12_⟩ := X9_.virtualBack hx (y := (⟨"com/example/whipstill/whipstill/MovingWindow", "add", "(D)V"⟩ : MethodName)) (z := (⟨"com/example/whipstill/whipstill/MovingWindow", "add", "(D)V"⟩ : MethodName)) hown (mvT hZ (hw _ (List.mem_of_getElem? (i := 17) rfl))) (mvT hZ (hw _ (List.mem_of_getElem? (i := 18) rfl))) (notFace_of_selects (args := #[]) (mvT hZ (hw _ (List.mem_of_getElem? (i := 20) rfl)))) (mvT hZ (hw _ (List.mem_of_getElem? (i := 20) rfl))) (mvT hZ (hw _ (List.mem_of_getElem? (i := 19) rfl))) (by decide) (backOf (W := 0) (rmAdd2_0 l Z a0 hw [] b1_ (FP.l2d y4) t_2_ k_2_ (FP.l2d y2) (FP.l2d y3) T9_.heap n0 z13_ p9__0 p9__1 p9__2 p9__3 g3_ g6_) hZ (hw _ (List.mem_of_getElem? (i := 21) rfl)) (hw _ (List.mem_of_getElem? (i := 3) rfl)) (by decide) (by decide)) qa14_ qc14_ (g := (mkF m 82 #[.val (.int p0), .val (.int p1), .val (.int p2), .val (.int p3), .val (.int p4), .val (.int p5), .val (.int (2 : Int32)), .val (.long y1), .second, .val (.long y2), .second, .val (.long y3), .second, .val (.long y4), .second, .val (.long y5), .second, .val (.ref b1_), .unset, .unset, .unset, .unset] [(.double (FP.l2d y4)), (.ref b1_)])) rfl (by rw [hml]; rfl) (Steps.refl _) (argsL := [(.double (FP.l2d y4))]) (rest := []) (lenOf pd_qDzV rfl) rfl (by show 2 * 0 + _ ≤ _; exact Nat.le_of_eq rfl) (hb hby at_82) (fun _ _ => ⟨rfl, rfl, (by decide : 2 + 0 ≤ _), (by decide : 4 + 0 ≤ _)⟩)
  dsimp only [Pt.U, Pt.locs, Pt.cells, Pt.slots] at X12_ l12_ y12_ z12_ st12_ hQ12_
  subst l12_ y12_ z12_
  obtain ⟨rfl, Nq12_, ek12_, p12__0, p12__1, p12__2, p12__3⟩ := hQ12_
  have N12_ := Fr.app N9_ Nq12_
  have z16_ : n0 ≤ T12_.heap.size := Nat.le_trans z13_ ek12_.1
  obtain ⟨_, _, ⟨T15_, L15_, k15_, n15_⟩, -, X15_, ⟨Lc15_, hQ15_, l15_, y15_, z15_⟩, st15_⟩ := Jvm.LawKit.callS X12_ hx (y := (⟨"com/example/whipstill/whipstill/MovingWindowSampleVariancePinLaw", "sq", "(J)J"⟩ : MethodName)) hown (mvT hZ (hw _ (List.mem_of_getElem? (i := 24) rfl))) (mvT hZ (hw _ (List.mem_of_getElem? (i := 25) rfl))) (mvT hZ (hw _ (List.mem_of_getElem? (i := 26) rfl))) (mvT hZ (hw _ (List.mem_of_getElem? (i := 27) rfl))) (by decide) (backOf (W := 0) (rmSq l Z a0 hw [] (y3 - y5) T12_.heap n0 z16_ ) hZ (hw _ (List.mem_of_getElem? (i := 27) rfl)) (hw _ (List.mem_of_getElem? (i := 26) rfl)) (by decide) (by decide)) (g := (mkF m 96 #[.val (.int p0), .val (.int p1), .val (.int p2), .val (.int p3), .val (.int p4), .val (.int p5), .val (.int (2 : Int32)), .val (.long y1), .second, .val (.long y2), .second, .val (.long y3), .second, .val (.long y4), .second, .val (.long y5), .second, .val (.ref b1_), .unset, .unset, .unset, .unset] [(.long (y3 - y5))])) rfl (by rw [hml]; rfl) (argsL := [(.long (y3 - y5))]) (rest := []) (lenOf pd_qJzJ rfl) rfl (by show 2 * 0 + _ ≤ _; exact Nat.le_of_eq rfl) (hb hby at_96) (fun _ _ => ⟨rfl, rfl, (by decide : 2 + 0 ≤ _), (by decide : 4 + 0 ≤ _)⟩)
  dsimp only [Pt.U, Pt.locs, Pt.cells, Pt.slots] at X15_ l15_ y15_ z15_ st15_ hQ15_
  subst l15_ y15_ z15_
  obtain ⟨rfl, Nq15_, ek15_⟩ := hQ15_
  have N15_ := Fr.app N12_ Nq15_
  obtain ⟨_, _, ⟨T17_, L17_, k17_, n17_⟩, -, X17_, ⟨Lc17_, hQ17_, l17_, y17_, z17_⟩, st17_⟩ := Jvm.LawKit.callS X15_ hx (y := (⟨"com/example/whipstill/whipstill/MovingWindowSampleVariancePinLaw", "sq", "(J)J"⟩ : MethodName)) hown (mvT hZ (hw _ (List.mem_of_getElem? (i := 24) rfl))) (mvT hZ (hw _ (List.mem_of_getElem? (i := 25) rfl))) (mvT hZ (hw _ (List.mem_of_getElem? (i := 26) rfl))) (mvT hZ (hw _ (List.mem_of_getElem? (i := 27) rfl))) (by decide) (backOf (W := 2) (rmSq l Z a0 hw [] (y4 - y5) T12_.heap n0 z16_ ) hZ (hw _ (List.mem_of_getElem? (i := 27) rfl)) (hw _ (List.mem_of_getElem? (i := 26) rfl)) (by decide) (by decide)) (g := (mkF m 104 #[.val (.int p0), .val (.int p1), .val (.int p2), .val (.int p3), .val (.int p4), .val (.int p5), .val (.int (2 : Int32)), .val (.long y1), .second, .val (.long y2), .second, .val (.long y3), .second, .val (.long y4), .second, .val (.long y5), .second, .val (.ref b1_), .unset, .unset, .unset, .unset] [(.long (y4 - y5)), (.long ((y3 - y5) * (y3 - y5)))])) rfl (by rw [hml]; rfl) (argsL := [(.long (y4 - y5))]) (rest := [(.long ((y3 - y5) * (y3 - y5)))]) (lenOf pd_qJzJ rfl) rfl (by show 2 * 0 + _ ≤ _; exact Nat.le_of_eq rfl) (hb hby at_104) (fun _ _ => ⟨rfl, ek15_, (by decide : 2 + 0 ≤ _), (by decide : 4 + 0 ≤ _)⟩)
  dsimp only [Pt.U, Pt.locs, Pt.cells, Pt.slots] at X17_ l17_ y17_ z17_ st17_ hQ17_
  subst l17_ y17_ z17_
  obtain ⟨rfl, Nq17_, ek17_⟩ := hQ17_
  have N17_ := Fr.app N15_ Nq17_
  have q18_ : Jvm.Free.Fl.NoNaN64 (FP.ddiv (FP.l2d (((y3 - y5) * (y3 - y5)) + ((y4 - y5) * (y4 - y5)))) (FP.i2d (1 : Int32))) := own_ddiv _ _ (by decide)
  obtain ⟨cq20_, kq20_, qa20_, qb20_, qc20_⟩ := isOf hZ ek17_ p12__0
  obtain ⟨_, _, ⟨T19_, L19_, k19_, n19_⟩, -, X19_, ⟨Lc19_, hQ19_, l19_, y19_, z19_⟩, st19_⟩ := X17_.virtualBack hx (y := (⟨"com/example/whipstill/whipstill/MovingWindow", "sampleVariance", "(D)D"⟩ : MethodName)) (z := (⟨"com/example/whipstill/whipstill/MovingWindow", "sampleVariance", "(D)D"⟩ : MethodName)) hown (mvT hZ (hw _ (List.mem_of_getElem? (i := 28) rfl))) (mvT hZ (hw _ (List.mem_of_getElem? (i := 29) rfl))) (notFace_of_selects (args := #[]) (mvT hZ (hw _ (List.mem_of_getElem? (i := 31) rfl)))) (mvT hZ (hw _ (List.mem_of_getElem? (i := 31) rfl))) (mvT hZ (hw _ (List.mem_of_getElem? (i := 30) rfl))) (by decide) (backOf (W := 0) (rmSv2 l Z a0 hw [] b1_ y5 t_2_ k_2_ y4 y3 T12_.heap n0 z16_ p12__1 p12__3 by5 by4 by3) hZ (hw _ (List.mem_of_getElem? (i := 32) rfl)) (hw _ (List.mem_of_getElem? (i := 3) rfl)) (by decide) (by decide)) qa20_ qc20_ (g := (mkF m 203 #[.val (.int p0), .val (.int p1), .val (.int p2), .val (.int p3), .val (.int p4), .val (.int p5), .val (.int (2 : Int32)), .val (.long y1), .second, .val (.long y2), .second, .val (.long y3), .second, .val (.long y4), .second, .val (.long y5), .second, .val (.ref b1_), .val (.long (((y3 - y5) * (y3 - y5)) + ((y4 - y5) * (y4 - y5)))), .second, .val (.double (FP.ddiv (FP.l2d (((y3 - y5) * (y3 - y5)) + ((y4 - y5) * (y4 - y5)))) (FP.i2d (1 : Int32)))), .second] [(.double (FP.l2d y5)), (.ref b1_)])) rfl (by rw [hml]; rfl) (Steps.refl _) (argsL := [(.double (FP.l2d y5))]) (rest := []) (lenOf pd_qDzD rfl) rfl (by show 2 * 0 + _ ≤ _; exact Nat.le_of_eq rfl) (hb hby at_203) (fun _ _ => ⟨rfl, ek17_, (by decide : 2 + 0 ≤ _), (by decide : 4 + 0 ≤ _)⟩)
  dsimp only [Pt.U, Pt.locs, Pt.cells, Pt.slots] at X19_ l19_ y19_ z19_ st19_ hQ19_
  subst l19_ y19_ z19_
  obtain ⟨rfl, Nq19_, ek19_⟩ := hQ19_
  have N19_ := Fr.app N17_ Nq19_
  have hcmp : cmpValue (FP.dcmp (FP.ddiv (FP.l2d (((0 : Int64) + ((y4 - y5) * (y4 - y5))) + ((y3 - y5) * (y3 - y5)))) (FP.i2d (1 : Int32))) (FP.ddiv (FP.l2d (((y3 - y5) * (y3 - y5)) + ((y4 - y5) * (y4 - y5)))) (FP.i2d (1 : Int32)))) .l = (0 : Int32) := dcmpV_eq (congrArg (fun z => FP.ddiv (FP.l2d z) (FP.i2d (1 : Int32))) (by simp only [Int64.zero_add] <;> first | rfl | ac_rfl)) (own_ddiv _ _ (by decide)) .l
  obtain ⟨fs, hr, hrun, hended, hW, hsame⟩ := X19_.leave (v := some (.int (1 : Int32))) (fun h => by first | rfl | (rw [Bd.returns] at h; cases h))
  refine ⟨_, _, pre0 _ ?_, hrun, hended, _, _, rfl, ?_, ⟨_, rfl⟩, hW, hsame.mono (by decide) (by decide)⟩
  · show Steps p.tables e below (s₁.setTop (mkF m 0 #[.val (.int p0), .val (.int p1), .val (.int p2), .val (.int p3), .val (.int p4), .val (.int p5), .unset, .unset, .unset, .unset, .unset, .unset, .unset, .unset, .unset, .unset, .unset, .unset, .unset, .unset, .unset, .unset] [])) _
    refine XS.iconst X0.here hx rfl (hb hby at_0) ?_
    show Steps p.tables e below (s₁.setTop (mkF m 1 #[.val (.int p0), .val (.int p1), .val (.int p2), .val (.int p3), .val (.int p4), .val (.int p5), .unset, .unset, .unset, .unset, .unset, .unset, .unset, .unset, .unset, .unset, .unset, .unset, .unset, .unset, .unset, .unset] [(.int (2 : Int32))])) _
    refine XS.iloadN X0.here hx rfl (hb hby at_1) rfl ?_
    show Steps p.tables e below (s₁.setTop (mkF m 2 #[.val (.int p0), .val (.int p1), .val (.int p2), .val (.int p3), .val (.int p4), .val (.int p5), .unset, .unset, .unset, .unset, .unset, .unset, .unset, .unset, .unset, .unset, .unset, .unset, .unset, .unset, .unset, .unset] [(.int p0), (.int (2 : Int32))])) _
    refine X0.ldcInt hx hown (mvT hZ (hw _ (List.mem_of_getElem? (i := 0) rfl))) (g := (mkF m 2 #[.val (.int p0), .val (.int p1), .val (.int p2), .val (.int p3), .val (.int p4), .val (.int p5), .unset, .unset, .unset, .unset, .unset, .unset, .unset, .unset, .unset, .unset, .unset, .unset, .unset, .unset, .unset, .unset] [(.int p0), (.int (2 : Int32))])) rfl (hb hby at_2) _ ?_
    show Steps p.tables e below (s₁.setTop (mkF m 4 #[.val (.int p0), .val (.int p1), .val (.int p2), .val (.int p3), .val (.int p4), .val (.int p5), .unset, .unset, .unset, .unset, .unset, .unset, .unset, .unset, .unset, .unset, .unset, .unset, .unset, .unset, .unset, .unset] [(.int (2147483647 : Int32)), (.int p0), (.int (2 : Int32))])) _
    refine XS.iand X0.here hx rfl (hb hby at_4) rfl ?_
    show Steps p.tables e below (s₁.setTop (mkF m 5 #[.val (.int p0), .val (.int p1), .val (.int p2), .val (.int p3), .val (.int p4), .val (.int p5), .unset, .unset, .unset, .unset, .unset, .unset, .unset, .unset, .unset, .unset, .unset, .unset, .unset, .unset, .unset, .unset] [(.int (p0 &&& (2147483647 : Int32))), (.int (2 : Int32))])) _
    refine XS.iconst X0.here hx rfl (hb hby at_5) ?_
    show Steps p.tables e below (s₁.setTop (mkF m 6 #[.val (.int p0), .val (.int p1), .val (.int p2), .val (.int p3), .val (.int p4), .val (.int p5), .unset, .unset, .unset, .unset, .unset, .unset, .unset, .unset, .unset, .unset, .unset, .unset, .unset, .unset, .unset, .unset] [(.int (3 : Int32)), (.int (p0 &&& (2147483647 : Int32))), (.int (2 : Int32))])) _
    refine XS.irem X0.here hx rfl (hb hby at_6) rfl (by decide) ?_
    show Steps p.tables e below (s₁.setTop (mkF m 7 #[.val (.int p0), .val (.int p1), .val (.int p2), .val (.int p3), .val (.int p4), .val (.int p5), .unset, .unset, .unset, .unset, .unset, .unset, .unset, .unset, .unset, .unset, .unset, .unset, .unset, .unset, .unset, .unset] [(.int ((p0 &&& (2147483647 : Int32)) - (((p0 &&& (2147483647 : Int32)) / (3 : Int32)) * (3 : Int32)))), (.int (2 : Int32))])) _
    refine XS.iadd X0.here hx rfl (hb hby at_7) rfl ?_
    show Steps p.tables e below (s₁.setTop (mkF m 8 #[.val (.int p0), .val (.int p1), .val (.int p2), .val (.int p3), .val (.int p4), .val (.int p5), .unset, .unset, .unset, .unset, .unset, .unset, .unset, .unset, .unset, .unset, .unset, .unset, .unset, .unset, .unset, .unset] [(.int ((2 : Int32) + ((p0 &&& (2147483647 : Int32)) - (((p0 &&& (2147483647 : Int32)) / (3 : Int32)) * (3 : Int32)))))])) _
    rw [hn]
    show Steps p.tables e below (s₁.setTop (mkF m 8 #[.val (.int p0), .val (.int p1), .val (.int p2), .val (.int p3), .val (.int p4), .val (.int p5), .unset, .unset, .unset, .unset, .unset, .unset, .unset, .unset, .unset, .unset, .unset, .unset, .unset, .unset, .unset, .unset] [(.int (2 : Int32))])) _
    refine XS.istore X0.here hx rfl (hb hby at_8) rfl (l' := #[.val (.int p0), .val (.int p1), .val (.int p2), .val (.int p3), .val (.int p4), .val (.int p5), .val (.int (2 : Int32)), .unset, .unset, .unset, .unset, .unset, .unset, .unset, .unset, .unset, .unset, .unset, .unset, .unset, .unset, .unset]) rfl ?_
    show Steps p.tables e below (s₁.setTop (mkF m 10 #[.val (.int p0), .val (.int p1), .val (.int p2), .val (.int p3), .val (.int p4), .val (.int p5), .val (.int (2 : Int32)), .unset, .unset, .unset, .unset, .unset, .unset, .unset, .unset, .unset, .unset, .unset, .unset, .unset, .unset, .unset] [])) _
    refine XS.iloadN X0.here hx rfl (hb hby at_10) rfl ?_
    show Steps p.tables e below (s₁.setTop (mkF m 11 #[.val (.int p0), .val (.int p1), .val (.int p2), .val (.int p3), .val (.int p4), .val (.int p5), .val (.int (2 : Int32)), .unset, .unset, .unset, .unset, .unset, .unset, .unset, .unset, .unset, .unset, .unset, .unset, .unset, .unset, .unset] [(.int p1)])) _
    refine XS.bipush X0.here hx rfl (hb hby at_11) ?_
    show Steps p.tables e below (s₁.setTop (mkF m 13 #[.val (.int p0), .val (.int p1), .val (.int p2), .val (.int p3), .val (.int p4), .val (.int p5), .val (.int (2 : Int32)), .unset, .unset, .unset, .unset, .unset, .unset, .unset, .unset, .unset, .unset, .unset, .unset, .unset, .unset, .unset] [(.int (11 : Int32)), (.int p1)])) _
    refine XS.ishr X0.here hx rfl (hb hby at_13) rfl ?_
    show Steps p.tables e below (s₁.setTop (mkF m 14 #[.val (.int p0), .val (.int p1), .val (.int p2), .val (.int p3), .val (.int p4), .val (.int p5), .val (.int (2 : Int32)), .unset, .unset, .unset, .unset, .unset, .unset, .unset, .unset, .unset, .unset, .unset, .unset, .unset, .unset, .unset] [(.int (p1 >>> ((11 : Int32) &&& 31)))])) _
    refine XS.i2l X0.here hx rfl (hb hby at_14) rfl ?_
    show Steps p.tables e below (s₁.setTop (mkF m 15 #[.val (.int p0), .val (.int p1), .val (.int p2), .val (.int p3), .val (.int p4), .val (.int p5), .val (.int (2 : Int32)), .unset, .unset, .unset, .unset, .unset, .unset, .unset, .unset, .unset, .unset, .unset, .unset, .unset, .unset, .unset] [(.long ((p1 >>> ((11 : Int32) &&& 31)).toInt64))])) _
    rw [← ey1]
    show Steps p.tables e below (s₁.setTop (mkF m 15 #[.val (.int p0), .val (.int p1), .val (.int p2), .val (.int p3), .val (.int p4), .val (.int p5), .val (.int (2 : Int32)), .unset, .unset, .unset, .unset, .unset, .unset, .unset, .unset, .unset, .unset, .unset, .unset, .unset, .unset, .unset] [(.long y1)])) _
    refine XS.lstore X0.here hx rfl (hb hby at_15) rfl (l' := #[.val (.int p0), .val (.int p1), .val (.int p2), .val (.int p3), .val (.int p4), .val (.int p5), .val (.int (2 : Int32)), .val (.long y1), .second, .unset, .unset, .unset, .unset, .unset, .unset, .unset, .unset, .unset, .unset, .unset, .unset, .unset]) rfl ?_
    show Steps p.tables e below (s₁.setTop (mkF m 17 #[.val (.int p0), .val (.int p1), .val (.int p2), .val (.int p3), .val (.int p4), .val (.int p5), .val (.int (2 : Int32)), .val (.long y1), .second, .unset, .unset, .unset, .unset, .unset, .unset, .unset, .unset, .unset, .unset, .unset, .unset, .unset] [])) _
    refine XS.iloadN X0.here hx rfl (hb hby at_17) rfl ?_
    show Steps p.tables e below (s₁.setTop (mkF m 18 #[.val (.int p0), .val (.int p1), .val (.int p2), .val (.int p3), .val (.int p4), .val (.int p5), .val (.int (2 : Int32)), .val (.long y1), .second, .unset, .unset, .unset, .unset, .unset, .unset, .unset, .unset, .unset, .unset, .unset, .unset, .unset] [(.int p2)])) _
    refine XS.bipush X0.here hx rfl (hb hby at_18) ?_
    show Steps p.tables e below (s₁.setTop (mkF m 20 #[.val (.int p0), .val (.int p1), .val (.int p2), .val (.int p3), .val (.int p4), .val (.int p5), .val (.int (2 : Int32)), .val (.long y1), .second, .unset, .unset, .unset, .unset, .unset, .unset, .unset, .unset, .unset, .unset, .unset, .unset, .unset] [(.int (11 : Int32)), (.int p2)])) _
    refine XS.ishr X0.here hx rfl (hb hby at_20) rfl ?_
    show Steps p.tables e below (s₁.setTop (mkF m 21 #[.val (.int p0), .val (.int p1), .val (.int p2), .val (.int p3), .val (.int p4), .val (.int p5), .val (.int (2 : Int32)), .val (.long y1), .second, .unset, .unset, .unset, .unset, .unset, .unset, .unset, .unset, .unset, .unset, .unset, .unset, .unset] [(.int (p2 >>> ((11 : Int32) &&& 31)))])) _
    refine XS.i2l X0.here hx rfl (hb hby at_21) rfl ?_
    show Steps p.tables e below (s₁.setTop (mkF m 22 #[.val (.int p0), .val (.int p1), .val (.int p2), .val (.int p3), .val (.int p4), .val (.int p5), .val (.int (2 : Int32)), .val (.long y1), .second, .unset, .unset, .unset, .unset, .unset, .unset, .unset, .unset, .unset, .unset, .unset, .unset, .unset] [(.long ((p2 >>> ((11 : Int32) &&& 31)).toInt64))])) _
    rw [← ey2]
    show Steps p.tables e below (s₁.setTop (mkF m 22 #[.val (.int p0), .val (.int p1), .val (.int p2), .val (.int p3), .val (.int p4), .val (.int p5), .val (.int (2 : Int32)), .val (.long y1), .second, .unset, .unset, .unset, .unset, .unset, .unset, .unset, .unset, .unset, .unset, .unset, .unset, .unset] [(.long y2)])) _
    refine XS.lstore X0.here hx rfl (hb hby at_22) rfl (l' := #[.val (.int p0), .val (.int p1), .val (.int p2), .val (.int p3), .val (.int p4), .val (.int p5), .val (.int (2 : Int32)), .val (.long y1), .second, .val (.long y2), .second, .unset, .unset, .unset, .unset, .unset, .unset, .unset, .unset, .unset, .unset, .unset]) rfl ?_
    show Steps p.tables e below (s₁.setTop (mkF m 24 #[.val (.int p0), .val (.int p1), .val (.int p2), .val (.int p3), .val (.int p4), .val (.int p5), .val (.int (2 : Int32)), .val (.long y1), .second, .val (.long y2), .second, .unset, .unset, .unset, .unset, .unset, .unset, .unset, .unset, .unset, .unset, .unset] [])) _
    refine XS.iloadN X0.here hx rfl (hb hby at_24) rfl ?_
    show Steps p.tables e below (s₁.setTop (mkF m 25 #[.val (.int p0), .val (.int p1), .val (.int p2), .val (.int p3), .val (.int p4), .val (.int p5), .val (.int (2 : Int32)), .val (.long y1), .second, .val (.long y2), .second, .unset, .unset, .unset, .unset, .unset, .unset, .unset, .unset, .unset, .unset, .unset] [(.int p3)])) _
    refine XS.bipush X0.here hx rfl (hb hby at_25) ?_
    show Steps p.tables e below (s₁.setTop (mkF m 27 #[.val (.int p0), .val (.int p1), .val (.int p2), .val (.int p3), .val (.int p4), .val (.int p5), .val (.int (2 : Int32)), .val (.long y1), .second, .val (.long y2), .second, .unset, .unset, .unset, .unset, .unset, .unset, .unset, .unset, .unset, .unset, .unset] [(.int (11 : Int32)), (.int p3)])) _
    refine XS.ishr X0.here hx rfl (hb hby at_27) rfl ?_
    show Steps p.tables e below (s₁.setTop (mkF m 28 #[.val (.int p0), .val (.int p1), .val (.int p2), .val (.int p3), .val (.int p4), .val (.int p5), .val (.int (2 : Int32)), .val (.long y1), .second, .val (.long y2), .second, .unset, .unset, .unset, .unset, .unset, .unset, .unset, .unset, .unset, .unset, .unset] [(.int (p3 >>> ((11 : Int32) &&& 31)))])) _
    refine XS.i2l X0.here hx rfl (hb hby at_28) rfl ?_
    show Steps p.tables e below (s₁.setTop (mkF m 29 #[.val (.int p0), .val (.int p1), .val (.int p2), .val (.int p3), .val (.int p4), .val (.int p5), .val (.int (2 : Int32)), .val (.long y1), .second, .val (.long y2), .second, .unset, .unset, .unset, .unset, .unset, .unset, .unset, .unset, .unset, .unset, .unset] [(.long ((p3 >>> ((11 : Int32) &&& 31)).toInt64))])) _
    rw [← ey3]
    show Steps p.tables e below (s₁.setTop (mkF m 29 #[.val (.int p0), .val (.int p1), .val (.int p2), .val (.int p3), .val (.int p4), .val (.int p5), .val (.int (2 : Int32)), .val (.long y1), .second, .val (.long y2), .second, .unset, .unset, .unset, .unset, .unset, .unset, .unset, .unset, .unset, .unset, .unset] [(.long y3)])) _
    refine XS.lstore X0.here hx rfl (hb hby at_29) rfl (l' := #[.val (.int p0), .val (.int p1), .val (.int p2), .val (.int p3), .val (.int p4), .val (.int p5), .val (.int (2 : Int32)), .val (.long y1), .second, .val (.long y2), .second, .val (.long y3), .second, .unset, .unset, .unset, .unset, .unset, .unset, .unset, .unset, .unset]) rfl ?_
    show Steps p.tables e below (s₁.setTop (mkF m 31 #[.val (.int p0), .val (.int p1), .val (.int p2), .val (.int p3), .val (.int p4), .val (.int p5), .val (.int (2 : Int32)), .val (.long y1), .second, .val (.long y2), .second, .val (.long y3), .second, .unset, .unset, .unset, .unset, .unset, .unset, .unset, .unset, .unset] [])) _
    refine XS.iload X0.here hx rfl (hb hby at_31) rfl ?_
    show Steps p.tables e below (s₁.setTop (mkF m 33 #[.val (.int p0), .val (.int p1), .val (.int p2), .val (.int p3), .val (.int p4), .val (.int p5), .val (.int (2 : Int32)), .val (.long y1), .second, .val (.long y2), .second, .val (.long y3), .second, .unset, .unset, .unset, .unset, .unset, .unset, .unset, .unset, .unset] [(.int p4)])) _
    refine XS.bipush X0.here hx rfl (hb hby at_33) ?_
    show Steps p.tables e below (s₁.setTop (mkF m 35 #[.val (.int p0), .val (.int p1), .val (.int p2), .val (.int p3), .val (.int p4), .val (.int p5), .val (.int (2 : Int32)), .val (.long y1), .second, .val (.long y2), .second, .val (.long y3), .second, .unset, .unset, .unset, .unset, .unset, .unset, .unset, .unset, .unset] [(.int (11 : Int32)), (.int p4)])) _
    refine XS.ishr X0.here hx rfl (hb hby at_35) rfl ?_
    show Steps p.tables e below (s₁.setTop (mkF m 36 #[.val (.int p0), .val (.int p1), .val (.int p2), .val (.int p3), .val (.int p4), .val (.int p5), .val (.int (2 : Int32)), .val (.long y1), .second, .val (.long y2), .second, .val (.long y3), .second, .unset, .unset, .unset, .unset, .unset, .unset, .unset, .unset, .unset] [(.int (p4 >>> ((11 : Int32) &&& 31)))])) _
    refine XS.i2l X0.here hx rfl (hb hby at_36) rfl ?_
    show Steps p.tables e below (s₁.setTop (mkF m 37 #[.val (.int p0), .val (.int p1), .val (.int p2), .val (.int p3), .val (.int p4), .val (.int p5), .val (.int (2 : Int32)), .val (.long y1), .second, .val (.long y2), .second, .val (.long y3), .second, .unset, .unset, .unset, .unset, .unset, .unset, .unset, .unset, .unset] [(.long ((p4 >>> ((11 : Int32) &&& 31)).toInt64))])) _
    rw [← ey4]
    show Steps p.tables e below (s₁.setTop (mkF m 37 #[.val (.int p0), .val (.int p1), .val (.int p2), .val (.int p3), .val (.int p4), .val (.int p5), .val (.int (2 : Int32)), .val (.long y1), .second, .val (.long y2), .second, .val (.long y3), .second, .unset, .unset, .unset, .unset, .unset, .unset, .unset, .unset, .unset] [(.long y4)])) _
    refine XS.lstore X0.here hx rfl (hb hby at_37) rfl (l' := #[.val (.int p0), .val (.int p1), .val (.int p2), .val (.int p3), .val (.int p4), .val (.int p5), .val (.int (2 : Int32)), .val (.long y1), .second, .val (.long y2), .second, .val (.long y3), .second, .val (.long y4), .second, .unset, .unset, .unset, .unset, .unset, .unset, .unset]) rfl ?_
    show Steps p.tables e below (s₁.setTop (mkF m 39 #[.val (.int p0), .val (.int p1), .val (.int p2), .val (.int p3), .val (.int p4), .val (.int p5), .val (.int (2 : Int32)), .val (.long y1), .second, .val (.long y2), .second, .val (.long y3), .second, .val (.long y4), .second, .unset, .unset, .unset, .unset, .unset, .unset, .unset] [])) _
    refine XS.iload X0.here hx rfl (hb hby at_39) rfl ?_
    show Steps p.tables e below (s₁.setTop (mkF m 41 #[.val (.int p0), .val (.int p1), .val (.int p2), .val (.int p3), .val (.int p4), .val (.int p5), .val (.int (2 : Int32)), .val (.long y1), .second, .val (.long y2), .second, .val (.long y3), .second, .val (.long y4), .second, .unset, .unset, .unset, .unset, .unset, .unset, .unset] [(.int p5)])) _
    refine XS.bipush X0.here hx rfl (hb hby at_41) ?_
    show Steps p.tables e below (s₁.setTop (mkF m 43 #[.val (.int p0), .val (.int p1), .val (.int p2), .val (.int p3), .val (.int p4), .val (.int p5), .val (.int (2 : Int32)), .val (.long y1), .second, .val (.long y2), .second, .val (.long y3), .second, .val (.long y4), .second, .unset, .unset, .unset, .unset, .unset, .unset, .unset] [(.int (11 : Int32)), (.int p5)])) _
    refine XS.ishr X0.here hx rfl (hb hby at_43) rfl ?_
    show Steps p.tables e below (s₁.setTop (mkF m 44 #[.val (.int p0), .val (.int p1), .val (.int p2), .val (.int p3), .val (.int p4), .val (.int p5), .val (.int (2 : Int32)), .val (.long y1), .second, .val (.long y2), .second, .val (.long y3), .second, .val (.long y4), .second, .unset, .unset, .unset, .unset, .unset, .unset, .unset] [(.int (p5 >>> ((11 : Int32) &&& 31)))])) _
    refine XS.i2l X0.here hx rfl (hb hby at_44) rfl ?_
    show Steps p.tables e below (s₁.setTop (mkF m 45 #[.val (.int p0), .val (.int p1), .val (.int p2), .val (.int p3), .val (.int p4), .val (.int p5), .val (.int (2 : Int32)), .val (.long y1), .second, .val (.long y2), .second, .val (.long y3), .second, .val (.long y4), .second, .unset, .unset, .unset, .unset, .unset, .unset, .unset] [(.long ((p5 >>> ((11 : Int32) &&& 31)).toInt64))])) _
    rw [← ey5]
    show Steps p.tables e below (s₁.setTop (mkF m 45 #[.val (.int p0), .val (.int p1), .val (.int p2), .val (.int p3), .val (.int p4), .val (.int p5), .val (.int (2 : Int32)), .val (.long y1), .second, .val (.long y2), .second, .val (.long y3), .second, .val (.long y4), .second, .unset, .unset, .unset, .unset, .unset, .unset, .unset] [(.long y5)])) _
    refine XS.lstore X0.here hx rfl (hb hby at_45) rfl (l' := #[.val (.int p0), .val (.int p1), .val (.int p2), .val (.int p3), .val (.int p4), .val (.int p5), .val (.int (2 : Int32)), .val (.long y1), .second, .val (.long y2), .second, .val (.long y3), .second, .val (.long y4), .second, .val (.long y5), .second, .unset, .unset, .unset, .unset, .unset]) rfl ?_
    show Steps p.tables e below (s₁.setTop (mkF m 47 #[.val (.int p0), .val (.int p1), .val (.int p2), .val (.int p3), .val (.int p4), .val (.int p5), .val (.int (2 : Int32)), .val (.long y1), .second, .val (.long y2), .second, .val (.long y3), .second, .val (.long y4), .second, .val (.long y5), .second, .unset, .unset, .unset, .unset, .unset] [])) _
    refine st1_ _ ?_
    show Steps p.tables e below (T1_.setTop (mkF m 50 #[.val (.int p0), .val (.int p1), .val (.int p2), .val (.int p3), .val (.int p4), .val (.int p5), .val (.int (2 : Int32)), .val (.long y1), .second, .val (.long y2), .second, .val (.long y3), .second, .val (.long y4), .second, .val (.long y5), .second, .unset, .unset, .unset, .unset, .unset] [(.ref b1_)])) _
    refine XS.dup X1_.here hx rfl (hb hby at_50) rfl rfl ?_
    show Steps p.tables e below (T1_.setTop (mkF m 51 #[.val (.int p0), .val (.int p1), .val (.int p2), .val (.int p3), .val (.int p4), .val (.int p5), .val (.int (2 : Int32)), .val (.long y1), .second, .val (.long y2), .second, .val (.long y3), .second, .val (.long y4), .second, .val (.long y5), .second, .unset, .unset, .unset, .unset, .unset] [(.ref b1_), (.ref b1_)])) _
    refine XS.iload X1_.here hx rfl (hb hby at_51) rfl ?_
    show Steps p.tables e below (T1_.setTop (mkF m 53 #[.val (.int p0), .val (.int p1), .val (.int p2), .val (.int p3), .val (.int p4), .val (.int p5), .val (.int (2 : Int32)), .val (.long y1), .second, .val (.long y2), .second, .val (.long y3), .second, .val (.long y4), .second, .val (.long y5), .second, .unset, .unset, .unset, .unset, .unset] [(.int (2 : Int32)), (.ref b1_), (.ref b1_)])) _
    refine XS.lload X1_.here hx rfl (hb hby at_53) rfl ?_
    show Steps p.tables e below (T1_.setTop (mkF m 55 #[.val (.int p0), .val (.int p1), .val (.int p2), .val (.int p3), .val (.int p4), .val (.int p5), .val (.int (2 : Int32)), .val (.long y1), .second, .val (.long y2), .second, .val (.long y3), .second, .val (.long y4), .second, .val (.long y5), .second, .unset, .unset, .unset, .unset, .unset] [(.long y1), (.int (2 : Int32)), (.ref b1_), (.ref b1_)])) _
    refine XS.l2dS X1_.here hx rfl (hb hby at_55) rfl (v := (FP.l2d y1)) rfl ?_
    show Steps p.tables e below (T1_.setTop (mkF m 56 #[.val (.int p0), .val (.int p1), .val (.int p2), .val (.int p3), .val (.int p4), .val (.int p5), .val (.int (2 : Int32)), .val (.long y1), .second, .val (.long y2), .second, .val (.long y3), .second, .val (.long y4), .second, .val (.long y5), .second, .unset, .unset, .unset, .unset, .unset] [(.double (FP.l2d y1)), (.int (2 : Int32)), (.ref b1_), (.ref b1_)])) _
    refine st2_.trans ?_
    show Steps p.tables e below (T2_.setTop (mkF m 59 #[.val (.int p0), .val (.int p1), .val (.int p2), .val (.int p3), .val (.int p4), .val (.int p5), .val (.int (2 : Int32)), .val (.long y1), .second, .val (.long y2), .second, .val (.long y3), .second, .val (.long y4), .second, .val (.long y5), .second, .unset, .unset, .unset, .unset, .unset] [(.ref b1_)])) _
    refine XS.astore X2_.here hx rfl (hb hby at_59) rfl rfl (l' := #[.val (.int p0), .val (.int p1), .val (.int p2), .val (.int p3), .val (.int p4), .val (.int p5), .val (.int (2 : Int32)), .val (.long y1), .second, .val (.long y2), .second, .val (.long y3), .second, .val (.long y4), .second, .val (.long y5), .second, .val (.ref b1_), .unset, .unset, .unset, .unset]) rfl ?_
    show Steps p.tables e below (T2_.setTop (mkF m 61 #[.val (.int p0), .val (.int p1), .val (.int p2), .val (.int p3), .val (.int p4), .val (.int p5), .val (.int (2 : Int32)), .val (.long y1), .second, .val (.long y2), .second, .val (.long y3), .second, .val (.long y4), .second, .val (.long y5), .second, .val (.ref b1_), .unset, .unset, .unset, .unset] [])) _
    refine XS.aload X2_.here hx rfl (hb hby at_61) rfl rfl ?_
    show Steps p.tables e below (T2_.setTop (mkF m 63 #[.val (.int p0), .val (.int p1), .val (.int p2), .val (.int p3), .val (.int p4), .val (.int p5), .val (.int (2 : Int32)), .val (.long y1), .second, .val (.long y2), .second, .val (.long y3), .second, .val (.long y4), .second, .val (.long y5), .second, .val (.ref b1_), .unset, .unset, .unset, .unset] [(.ref b1_)])) _
    refine XS.lload X2_.here hx rfl (hb hby at_63) rfl ?_
    show Steps p.tables e below (T2_.setTop (mkF m 65 #[.val (.int p0), .val (.int p1), .val (.int p2), .val (.int p3), .val (.int p4), .val (.int p5), .val (.int (2 : Int32)), .val (.long y1), .second, .val (.long y2), .second, .val (.long y3), .second, .val (.long y4), .second, .val (.long y5), .second, .val (.ref b1_), .unset, .unset, .unset, .unset] [(.long y2), (.ref b1_)])) _
    refine XS.l2dS X2_.here hx rfl (hb hby at_65) rfl (v := (FP.l2d y2)) rfl ?_
    show Steps p.tables e below (T2_.setTop (mkF m 66 #[.val (.int p0), .val (.int p1), .val (.int p2), .val (.int p3), .val (.int p4), .val (.int p5), .val (.int (2 : Int32)), .val (.long y1), .second, .val (.long y2), .second, .val (.long y3), .second, .val (.long y4), .second, .val (.long y5), .second, .val (.ref b1_), .unset, .unset, .unset, .unset] [(.double (FP.l2d y2)), (.ref b1_)])) _
    refine st5_.trans ?_
    show Steps p.tables e below (T5_.setTop (mkF m 69 #[.val (.int p0), .val (.int p1), .val (.int p2), .val (.int p3), .val (.int p4), .val (.int p5), .val (.int (2 : Int32)), .val (.long y1), .second, .val (.long y2), .second, .val (.long y3), .second, .val (.long y4), .second, .val (.long y5), .second, .val (.ref b1_), .unset, .unset, .unset, .unset] [])) _
    refine XS.aload X5_.here hx rfl (hb hby at_69) rfl rfl ?_
    show Steps p.tables e below (T5_.setTop (mkF m 71 #[.val (.int p0), .val (.int p1), .val (.int p2), .val (.int p3), .val (.int p4), .val (.int p5), .val (.int (2 : Int32)), .val (.long y1), .second, .val (.long y2), .second, .val (.long y3), .second, .val (.long y4), .second, .val (.long y5), .second, .val (.ref b1_), .unset, .unset, .unset, .unset] [(.ref b1_)])) _
    refine XS.lload X5_.here hx rfl (hb hby at_71) rfl ?_
    show Steps p.tables e below (T5_.setTop (mkF m 73 #[.val (.int p0), .val (.int p1), .val (.int p2), .val (.int p3), .val (.int p4), .val (.int p5), .val (.int (2 : Int32)), .val (.long y1), .second, .val (.long y2), .second, .val (.long y3), .second, .val (.long y4), .second, .val (.long y5), .second, .val (.ref b1_), .unset, .unset, .unset, .unset] [(.long y3), (.ref b1_)])) _
    refine XS.l2dS X5_.here hx rfl (hb hby at_73) rfl (v := (FP.l2d y3)) rfl ?_
    show Steps p.tables e below (T5_.setTop (mkF m 74 #[.val (.int p0), .val (.int p1), .val (.int p2), .val (.int p3), .val (.int p4), .val (.int p5), .val (.int (2 : Int32)), .val (.long y1), .second, .val (.long y2), .second, .val (.long y3), .second, .val (.long y4), .second, .val (.long y5), .second, .val (.ref b1_), .unset, .unset, .unset, .unset] [(.double (FP.l2d y3)), (.ref b1_)])) _
    refine st9_.trans ?_
    show Steps p.tables e below (T9_.setTop (mkF m 77 #[.val (.int p0), .val (.int p1), .val (.int p2), .val (.int p3), .val (.int p4), .val (.int p5), .val (.int (2 : Int32)), .val (.long y1), .second, .val (.long y2), .second, .val (.long y3), .second, .val (.long y4), .second, .val (.long y5), .second, .val (.ref b1_), .unset, .unset, .unset, .unset] [])) _
    refine XS.aload X9_.here hx rfl (hb hby at_77) rfl rfl ?_
    show Steps p.tables e below (T9_.setTop (mkF m 79 #[.val (.int p0), .val (.int p1), .val (.int p2), .val (.int p3), .val (.int p4), .val (.int p5), .val (.int (2 : Int32)), .val (.long y1), .second, .val (.long y2), .second, .val (.long y3), .second, .val (.long y4), .second, .val (.long y5), .second, .val (.ref b1_), .unset, .unset, .unset, .unset] [(.ref b1_)])) _
    refine XS.lload X9_.here hx rfl (hb hby at_79) rfl ?_
    show Steps p.tables e below (T9_.setTop (mkF m 81 #[.val (.int p0), .val (.int p1), .val (.int p2), .val (.int p3), .val (.int p4), .val (.int p5), .val (.int (2 : Int32)), .val (.long y1), .second, .val (.long y2), .second, .val (.long y3), .second, .val (.long y4), .second, .val (.long y5), .second, .val (.ref b1_), .unset, .unset, .unset, .unset] [(.long y4), (.ref b1_)])) _
    refine XS.l2dS X9_.here hx rfl (hb hby at_81) rfl (v := (FP.l2d y4)) rfl ?_
    show Steps p.tables e below (T9_.setTop (mkF m 82 #[.val (.int p0), .val (.int p1), .val (.int p2), .val (.int p3), .val (.int p4), .val (.int p5), .val (.int (2 : Int32)), .val (.long y1), .second, .val (.long y2), .second, .val (.long y3), .second, .val (.long y4), .second, .val (.long y5), .second, .val (.ref b1_), .unset, .unset, .unset, .unset] [(.double (FP.l2d y4)), (.ref b1_)])) _
    refine st12_.trans ?_
    show Steps p.tables e below (T12_.setTop (mkF m 85 #[.val (.int p0), .val (.int p1), .val (.int p2), .val (.int p3), .val (.int p4), .val (.int p5), .val (.int (2 : Int32)), .val (.long y1), .second, .val (.long y2), .second, .val (.long y3), .second, .val (.long y4), .second, .val (.long y5), .second, .val (.ref b1_), .unset, .unset, .unset, .unset] [])) _
    refine XS.iload X12_.here hx rfl (hb hby at_85) rfl ?_
    show Steps p.tables e below (T12_.setTop (mkF m 87 #[.val (.int p0), .val (.int p1), .val (.int p2), .val (.int p3), .val (.int p4), .val (.int p5), .val (.int (2 : Int32)), .val (.long y1), .second, .val (.long y2), .second, .val (.long y3), .second, .val (.long y4), .second, .val (.long y5), .second, .val (.ref b1_), .unset, .unset, .unset, .unset] [(.int (2 : Int32))])) _
    refine XS.iconst X12_.here hx rfl (hb hby at_87) ?_
    show Steps p.tables e below (T12_.setTop (mkF m 88 #[.val (.int p0), .val (.int p1), .val (.int p2), .val (.int p3), .val (.int p4), .val (.int p5), .val (.int (2 : Int32)), .val (.long y1), .second, .val (.long y2), .second, .val (.long y3), .second, .val (.long y4), .second, .val (.long y5), .second, .val (.ref b1_), .unset, .unset, .unset, .unset] [(.int (2 : Int32)), (.int (2 : Int32))])) _
    refine XS.icmpNo X12_.here hx rfl (hb hby at_88) rfl (teq ((by decide) : (2 : Int32) = (2 : Int32))).2 ?_
    show Steps p.tables e below (T12_.setTop (mkF m 91 #[.val (.int p0), .val (.int p1), .val (.int p2), .val (.int p3), .val (.int p4), .val (.int p5), .val (.int (2 : Int32)), .val (.long y1), .second, .val (.long y2), .second, .val (.long y3), .second, .val (.long y4), .second, .val (.long y5), .second, .val (.ref b1_), .unset, .unset, .unset, .unset] [])) _
    refine XS.lload X12_.here hx rfl (hb hby at_91) rfl ?_
    show Steps p.tables e below (T12_.setTop (mkF m 93 #[.val (.int p0), .val (.int p1), .val (.int p2), .val (.int p3), .val (.int p4), .val (.int p5), .val (.int (2 : Int32)), .val (.long y1), .second, .val (.long y2), .second, .val (.long y3), .second, .val (.long y4), .second, .val (.long y5), .second, .val (.ref b1_), .unset, .unset, .unset, .unset] [(.long y3)])) _
    refine XS.lload X12_.here hx rfl (hb hby at_93) rfl ?_
    show Steps p.tables e below (T12_.setTop (mkF m 95 #[.val (.int p0), .val (.int p1), .val (.int p2), .val (.int p3), .val (.int p4), .val (.int p5), .val (.int (2 : Int32)), .val (.long y1), .second, .val (.long y2), .second, .val (.long y3), .second, .val (.long y4), .second, .val (.long y5), .second, .val (.ref b1_), .unset, .unset, .unset, .unset] [(.long y5), (.long y3)])) _
    refine XS.lsub X12_.here hx rfl (hb hby at_95) rfl ?_
    show Steps p.tables e below (T12_.setTop (mkF m 96 #[.val (.int p0), .val (.int p1), .val (.int p2), .val (.int p3), .val (.int p4), .val (.int p5), .val (.int (2 : Int32)), .val (.long y1), .second, .val (.long y2), .second, .val (.long y3), .second, .val (.long y4), .second, .val (.long y5), .second, .val (.ref b1_), .unset, .unset, .unset, .unset] [(.long (y3 - y5))])) _
    refine st15_ _ ?_
    show Steps p.tables e below (T15_.setTop (mkF m 99 #[.val (.int p0), .val (.int p1), .val (.int p2), .val (.int p3), .val (.int p4), .val (.int p5), .val (.int (2 : Int32)), .val (.long y1), .second, .val (.long y2), .second, .val (.long y3), .second, .val (.long y4), .second, .val (.long y5), .second, .val (.ref b1_), .unset, .unset, .unset, .unset] [(.long ((y3 - y5) * (y3 - y5)))])) _
    refine XS.lload X15_.here hx rfl (hb hby at_99) rfl ?_
    show Steps p.tables e below (T15_.setTop (mkF m 101 #[.val (.int p0), .val (.int p1), .val (.int p2), .val (.int p3), .val (.int p4), .val (.int p5), .val (.int (2 : Int32)), .val (.long y1), .second, .val (.long y2), .second, .val (.long y3), .second, .val (.long y4), .second, .val (.long y5), .second, .val (.ref b1_), .unset, .unset, .unset, .unset] [(.long y4), (.long ((y3 - y5) * (y3 - y5)))])) _
    refine XS.lload X15_.here hx rfl (hb hby at_101) rfl ?_
    show Steps p.tables e below (T15_.setTop (mkF m 103 #[.val (.int p0), .val (.int p1), .val (.int p2), .val (.int p3), .val (.int p4), .val (.int p5), .val (.int (2 : Int32)), .val (.long y1), .second, .val (.long y2), .second, .val (.long y3), .second, .val (.long y4), .second, .val (.long y5), .second, .val (.ref b1_), .unset, .unset, .unset, .unset] [(.long y5), (.long y4), (.long ((y3 - y5) * (y3 - y5)))])) _
    refine XS.lsub X15_.here hx rfl (hb hby at_103) rfl ?_
    show Steps p.tables e below (T15_.setTop (mkF m 104 #[.val (.int p0), .val (.int p1), .val (.int p2), .val (.int p3), .val (.int p4), .val (.int p5), .val (.int (2 : Int32)), .val (.long y1), .second, .val (.long y2), .second, .val (.long y3), .second, .val (.long y4), .second, .val (.long y5), .second, .val (.ref b1_), .unset, .unset, .unset, .unset] [(.long (y4 - y5)), (.long ((y3 - y5) * (y3 - y5)))])) _
    refine st17_ _ ?_
    show Steps p.tables e below (T17_.setTop (mkF m 107 #[.val (.int p0), .val (.int p1), .val (.int p2), .val (.int p3), .val (.int p4), .val (.int p5), .val (.int (2 : Int32)), .val (.long y1), .second, .val (.long y2), .second, .val (.long y3), .second, .val (.long y4), .second, .val (.long y5), .second, .val (.ref b1_), .unset, .unset, .unset, .unset] [(.long ((y4 - y5) * (y4 - y5))), (.long ((y3 - y5) * (y3 - y5)))])) _
    refine XS.ladd X17_.here hx rfl (hb hby at_107) rfl ?_
    show Steps p.tables e below (T17_.setTop (mkF m 108 #[.val (.int p0), .val (.int p1), .val (.int p2), .val (.int p3), .val (.int p4), .val (.int p5), .val (.int (2 : Int32)), .val (.long y1), .second, .val (.long y2), .second, .val (.long y3), .second, .val (.long y4), .second, .val (.long y5), .second, .val (.ref b1_), .unset, .unset, .unset, .unset] [(.long (((y3 - y5) * (y3 - y5)) + ((y4 - y5) * (y4 - y5))))])) _
    refine XS.lstore X17_.here hx rfl (hb hby at_108) rfl (l' := #[.val (.int p0), .val (.int p1), .val (.int p2), .val (.int p3), .val (.int p4), .val (.int p5), .val (.int (2 : Int32)), .val (.long y1), .second, .val (.long y2), .second, .val (.long y3), .second, .val (.long y4), .second, .val (.long y5), .second, .val (.ref b1_), .val (.long (((y3 - y5) * (y3 - y5)) + ((y4 - y5) * (y4 - y5)))), .second, .unset, .unset]) rfl ?_
    show Steps p.tables e below (T17_.setTop (mkF m 110 #[.val (.int p0), .val (.int p1), .val (.int p2), .val (.int p3), .val (.int p4), .val (.int p5), .val (.int (2 : Int32)), .val (.long y1), .second, .val (.long y2), .second, .val (.long y3), .second, .val (.long y4), .second, .val (.long y5), .second, .val (.ref b1_), .val (.long (((y3 - y5) * (y3 - y5)) + ((y4 - y5) * (y4 - y5)))), .second, .unset, .unset] [])) _
    refine XS.goto X17_.here hx rfl (pc0 := 110) (pc' := 187) rfl (hb hby at_110) (by decide) (by decide) ?_
    show Steps p.tables e below (T17_.setTop (mkF m 187 #[.val (.int p0), .val (.int p1), .val (.int p2), .val (.int p3), .val (.int p4), .val (.int p5), .val (.int (2 : Int32)), .val (.long y1), .second, .val (.long y2), .second, .val (.long y3), .second, .val (.long y4), .second, .val (.long y5), .second, .val (.ref b1_), .val (.long (((y3 - y5) * (y3 - y5)) + ((y4 - y5) * (y4 - y5)))), .second, .unset, .unset] [])) _
    refine XS.lload X17_.here hx rfl (hb hby at_187) rfl ?_
    show Steps p.tables e below (T17_.setTop (mkF m 189 #[.val (.int p0), .val (.int p1), .val (.int p2), .val (.int p3), .val (.int p4), .val (.int p5), .val (.int (2 : Int32)), .val (.long y1), .second, .val (.long y2), .second, .val (.long y3), .second, .val (.long y4), .second, .val (.long y5), .second, .val (.ref b1_), .val (.long (((y3 - y5) * (y3 - y5)) + ((y4 - y5) * (y4 - y5)))), .second, .unset, .unset] [(.long (((y3 - y5) * (y3 - y5)) + ((y4 - y5) * (y4 - y5))))])) _
    refine XS.l2dS X17_.here hx rfl (hb hby at_189) rfl (v := (FP.l2d (((y3 - y5) * (y3 - y5)) + ((y4 - y5) * (y4 - y5))))) rfl ?_
    show Steps p.tables e below (T17_.setTop (mkF m 190 #[.val (.int p0), .val (.int p1), .val (.int p2), .val (.int p3), .val (.int p4), .val (.int p5), .val (.int (2 : Int32)), .val (.long y1), .second, .val (.long y2), .second, .val (.long y3), .second, .val (.long y4), .second, .val (.long y5), .second, .val (.ref b1_), .val (.long (((y3 - y5) * (y3 - y5)) + ((y4 - y5) * (y4 - y5)))), .second, .unset, .unset] [(.double (FP.l2d (((y3 - y5) * (y3 - y5)) + ((y4 - y5) * (y4 - y5)))))])) _
    refine XS.iload X17_.here hx rfl (hb hby at_190) rfl ?_
    show Steps p.tables e below (T17_.setTop (mkF m 192 #[.val (.int p0), .val (.int p1), .val (.int p2), .val (.int p3), .val (.int p4), .val (.int p5), .val (.int (2 : Int32)), .val (.long y1), .second, .val (.long y2), .second, .val (.long y3), .second, .val (.long y4), .second, .val (.long y5), .second, .val (.ref b1_), .val (.long (((y3 - y5) * (y3 - y5)) + ((y4 - y5) * (y4 - y5)))), .second, .unset, .unset] [(.int (2 : Int32)), (.double (FP.l2d (((y3 - y5) * (y3 - y5)) + ((y4 - y5) * (y4 - y5)))))])) _
    refine XS.iconst X17_.here hx rfl (hb hby at_192) ?_
    show Steps p.tables e below (T17_.setTop (mkF m 193 #[.val (.int p0), .val (.int p1), .val (.int p2), .val (.int p3), .val (.int p4), .val (.int p5), .val (.int (2 : Int32)), .val (.long y1), .second, .val (.long y2), .second, .val (.long y3), .second, .val (.long y4), .second, .val (.long y5), .second, .val (.ref b1_), .val (.long (((y3 - y5) * (y3 - y5)) + ((y4 - y5) * (y4 - y5)))), .second, .unset, .unset] [(.int (1 : Int32)), (.int (2 : Int32)), (.double (FP.l2d (((y3 - y5) * (y3 - y5)) + ((y4 - y5) * (y4 - y5)))))])) _
    refine XS.isub X17_.here hx rfl (hb hby at_193) rfl ?_
    show Steps p.tables e below (T17_.setTop (mkF m 194 #[.val (.int p0), .val (.int p1), .val (.int p2), .val (.int p3), .val (.int p4), .val (.int p5), .val (.int (2 : Int32)), .val (.long y1), .second, .val (.long y2), .second, .val (.long y3), .second, .val (.long y4), .second, .val (.long y5), .second, .val (.ref b1_), .val (.long (((y3 - y5) * (y3 - y5)) + ((y4 - y5) * (y4 - y5)))), .second, .unset, .unset] [(.int (1 : Int32)), (.double (FP.l2d (((y3 - y5) * (y3 - y5)) + ((y4 - y5) * (y4 - y5)))))])) _
    refine XS.i2dS X17_.here hx rfl (hb hby at_194) rfl (v := (FP.i2d (1 : Int32))) rfl ?_
    show Steps p.tables e below (T17_.setTop (mkF m 195 #[.val (.int p0), .val (.int p1), .val (.int p2), .val (.int p3), .val (.int p4), .val (.int p5), .val (.int (2 : Int32)), .val (.long y1), .second, .val (.long y2), .second, .val (.long y3), .second, .val (.long y4), .second, .val (.long y5), .second, .val (.ref b1_), .val (.long (((y3 - y5) * (y3 - y5)) + ((y4 - y5) * (y4 - y5)))), .second, .unset, .unset] [(.double (FP.i2d (1 : Int32))), (.double (FP.l2d (((y3 - y5) * (y3 - y5)) + ((y4 - y5) * (y4 - y5)))))])) _
    refine XS.ddivS X17_.here hx rfl (hb hby at_195) rfl q18_ (v := (FP.ddiv (FP.l2d (((y3 - y5) * (y3 - y5)) + ((y4 - y5) * (y4 - y5)))) (FP.i2d (1 : Int32)))) rfl ?_
    show Steps p.tables e below (T17_.setTop (mkF m 196 #[.val (.int p0), .val (.int p1), .val (.int p2), .val (.int p3), .val (.int p4), .val (.int p5), .val (.int (2 : Int32)), .val (.long y1), .second, .val (.long y2), .second, .val (.long y3), .second, .val (.long y4), .second, .val (.long y5), .second, .val (.ref b1_), .val (.long (((y3 - y5) * (y3 - y5)) + ((y4 - y5) * (y4 - y5)))), .second, .unset, .unset] [(.double (FP.ddiv (FP.l2d (((y3 - y5) * (y3 - y5)) + ((y4 - y5) * (y4 - y5)))) (FP.i2d (1 : Int32))))])) _
    refine XS.dstore X17_.here hx rfl (hb hby at_196) rfl (l' := #[.val (.int p0), .val (.int p1), .val (.int p2), .val (.int p3), .val (.int p4), .val (.int p5), .val (.int (2 : Int32)), .val (.long y1), .second, .val (.long y2), .second, .val (.long y3), .second, .val (.long y4), .second, .val (.long y5), .second, .val (.ref b1_), .val (.long (((y3 - y5) * (y3 - y5)) + ((y4 - y5) * (y4 - y5)))), .second, .val (.double (FP.ddiv (FP.l2d (((y3 - y5) * (y3 - y5)) + ((y4 - y5) * (y4 - y5)))) (FP.i2d (1 : Int32)))), .second]) rfl ?_
    show Steps p.tables e below (T17_.setTop (mkF m 198 #[.val (.int p0), .val (.int p1), .val (.int p2), .val (.int p3), .val (.int p4), .val (.int p5), .val (.int (2 : Int32)), .val (.long y1), .second, .val (.long y2), .second, .val (.long y3), .second, .val (.long y4), .second, .val (.long y5), .second, .val (.ref b1_), .val (.long (((y3 - y5) * (y3 - y5)) + ((y4 - y5) * (y4 - y5)))), .second, .val (.double (FP.ddiv (FP.l2d (((y3 - y5) * (y3 - y5)) + ((y4 - y5) * (y4 - y5)))) (FP.i2d (1 : Int32)))), .second] [])) _
    refine XS.aload X17_.here hx rfl (hb hby at_198) rfl rfl ?_
    show Steps p.tables e below (T17_.setTop (mkF m 200 #[.val (.int p0), .val (.int p1), .val (.int p2), .val (.int p3), .val (.int p4), .val (.int p5), .val (.int (2 : Int32)), .val (.long y1), .second, .val (.long y2), .second, .val (.long y3), .second, .val (.long y4), .second, .val (.long y5), .second, .val (.ref b1_), .val (.long (((y3 - y5) * (y3 - y5)) + ((y4 - y5) * (y4 - y5)))), .second, .val (.double (FP.ddiv (FP.l2d (((y3 - y5) * (y3 - y5)) + ((y4 - y5) * (y4 - y5)))) (FP.i2d (1 : Int32)))), .second] [(.ref b1_)])) _
    refine XS.lload X17_.here hx rfl (hb hby at_200) rfl ?_
    show Steps p.tables e below (T17_.setTop (mkF m 202 #[.val (.int p0), .val (.int p1), .val (.int p2), .val (.int p3), .val (.int p4), .val (.int p5), .val (.int (2 : Int32)), .val (.long y1), .second, .val (.long y2), .second, .val (.long y3), .second, .val (.long y4), .second, .val (.long y5), .second, .val (.ref b1_), .val (.long (((y3 - y5) * (y3 - y5)) + ((y4 - y5) * (y4 - y5)))), .second, .val (.double (FP.ddiv (FP.l2d (((y3 - y5) * (y3 - y5)) + ((y4 - y5) * (y4 - y5)))) (FP.i2d (1 : Int32)))), .second] [(.long y5), (.ref b1_)])) _
    refine XS.l2dS X17_.here hx rfl (hb hby at_202) rfl (v := (FP.l2d y5)) rfl ?_
    show Steps p.tables e below (T17_.setTop (mkF m 203 #[.val (.int p0), .val (.int p1), .val (.int p2), .val (.int p3), .val (.int p4), .val (.int p5), .val (.int (2 : Int32)), .val (.long y1), .second, .val (.long y2), .second, .val (.long y3), .second, .val (.long y4), .second, .val (.long y5), .second, .val (.ref b1_), .val (.long (((y3 - y5) * (y3 - y5)) + ((y4 - y5) * (y4 - y5)))), .second, .val (.double (FP.ddiv (FP.l2d (((y3 - y5) * (y3 - y5)) + ((y4 - y5) * (y4 - y5)))) (FP.i2d (1 : Int32)))), .second] [(.double (FP.l2d y5)), (.ref b1_)])) _
    refine st19_.trans ?_
    show Steps p.tables e below (T19_.setTop (mkF m 206 #[.val (.int p0), .val (.int p1), .val (.int p2), .val (.int p3), .val (.int p4), .val (.int p5), .val (.int (2 : Int32)), .val (.long y1), .second, .val (.long y2), .second, .val (.long y3), .second, .val (.long y4), .second, .val (.long y5), .second, .val (.ref b1_), .val (.long (((y3 - y5) * (y3 - y5)) + ((y4 - y5) * (y4 - y5)))), .second, .val (.double (FP.ddiv (FP.l2d (((y3 - y5) * (y3 - y5)) + ((y4 - y5) * (y4 - y5)))) (FP.i2d (1 : Int32)))), .second] [(.double (FP.ddiv (FP.l2d (((0 : Int64) + ((y4 - y5) * (y4 - y5))) + ((y3 - y5) * (y3 - y5)))) (FP.i2d (1 : Int32))))])) _
    refine XS.dload X19_.here hx rfl (hb hby at_206) rfl ?_
    show Steps p.tables e below (T19_.setTop (mkF m 208 #[.val (.int p0), .val (.int p1), .val (.int p2), .val (.int p3), .val (.int p4), .val (.int p5), .val (.int (2 : Int32)), .val (.long y1), .second, .val (.long y2), .second, .val (.long y3), .second, .val (.long y4), .second, .val (.long y5), .second, .val (.ref b1_), .val (.long (((y3 - y5) * (y3 - y5)) + ((y4 - y5) * (y4 - y5)))), .second, .val (.double (FP.ddiv (FP.l2d (((y3 - y5) * (y3 - y5)) + ((y4 - y5) * (y4 - y5)))) (FP.i2d (1 : Int32)))), .second] [(.double (FP.ddiv (FP.l2d (((y3 - y5) * (y3 - y5)) + ((y4 - y5) * (y4 - y5)))) (FP.i2d (1 : Int32)))), (.double (FP.ddiv (FP.l2d (((0 : Int64) + ((y4 - y5) * (y4 - y5))) + ((y3 - y5) * (y3 - y5)))) (FP.i2d (1 : Int32))))])) _
    refine XS.dcmpS X19_.here hx rfl (hb hby at_208) rfl (v := (cmpValue (FP.dcmp (FP.ddiv (FP.l2d (((0 : Int64) + ((y4 - y5) * (y4 - y5))) + ((y3 - y5) * (y3 - y5)))) (FP.i2d (1 : Int32))) (FP.ddiv (FP.l2d (((y3 - y5) * (y3 - y5)) + ((y4 - y5) * (y4 - y5)))) (FP.i2d (1 : Int32)))) .l)) rfl ?_
    show Steps p.tables e below (T19_.setTop (mkF m 209 #[.val (.int p0), .val (.int p1), .val (.int p2), .val (.int p3), .val (.int p4), .val (.int p5), .val (.int (2 : Int32)), .val (.long y1), .second, .val (.long y2), .second, .val (.long y3), .second, .val (.long y4), .second, .val (.long y5), .second, .val (.ref b1_), .val (.long (((y3 - y5) * (y3 - y5)) + ((y4 - y5) * (y4 - y5)))), .second, .val (.double (FP.ddiv (FP.l2d (((y3 - y5) * (y3 - y5)) + ((y4 - y5) * (y4 - y5)))) (FP.i2d (1 : Int32)))), .second] [(.int (cmpValue (FP.dcmp (FP.ddiv (FP.l2d (((0 : Int64) + ((y4 - y5) * (y4 - y5))) + ((y3 - y5) * (y3 - y5)))) (FP.i2d (1 : Int32))) (FP.ddiv (FP.l2d (((y3 - y5) * (y3 - y5)) + ((y4 - y5) * (y4 - y5)))) (FP.i2d (1 : Int32)))) .l))])) _
    refine XS.ifNo X19_.here hx rfl (hb hby at_209) rfl ((if0 _ _).trans (teq (hcmp : (cmpValue (FP.dcmp (FP.ddiv (FP.l2d (((0 : Int64) + ((y4 - y5) * (y4 - y5))) + ((y3 - y5) * (y3 - y5)))) (FP.i2d (1 : Int32))) (FP.ddiv (FP.l2d (((y3 - y5) * (y3 - y5)) + ((y4 - y5) * (y4 - y5)))) (FP.i2d (1 : Int32)))) .l) = (0 : Int32))).2) ?_
    show Steps p.tables e below (T19_.setTop (mkF m 212 #[.val (.int p0), .val (.int p1), .val (.int p2), .val (.int p3), .val (.int p4), .val (.int p5), .val (.int (2 : Int32)), .val (.long y1), .second, .val (.long y2), .second, .val (.long y3), .second, .val (.long y4), .second, .val (.long y5), .second, .val (.ref b1_), .val (.long (((y3 - y5) * (y3 - y5)) + ((y4 - y5) * (y4 - y5)))), .second, .val (.double (FP.ddiv (FP.l2d (((y3 - y5) * (y3 - y5)) + ((y4 - y5) * (y4 - y5)))) (FP.i2d (1 : Int32)))), .second] [])) _
    refine XS.iconst X19_.here hx rfl (hb hby at_212) ?_
    show Steps p.tables e below (T19_.setTop (mkF m 213 #[.val (.int p0), .val (.int p1), .val (.int p2), .val (.int p3), .val (.int p4), .val (.int p5), .val (.int (2 : Int32)), .val (.long y1), .second, .val (.long y2), .second, .val (.long y3), .second, .val (.long y4), .second, .val (.long y5), .second, .val (.ref b1_), .val (.long (((y3 - y5) * (y3 - y5)) + ((y4 - y5) * (y4 - y5)))), .second, .val (.double (FP.ddiv (FP.l2d (((y3 - y5) * (y3 - y5)) + ((y4 - y5) * (y4 - y5)))) (FP.i2d (1 : Int32)))), .second] [(.int (1 : Int32))])) _
    refine XS.goto X19_.here hx rfl (pc0 := 213) (pc' := 217) rfl (hb hby at_213) (by decide) (by decide) ?_
    show Steps p.tables e below (T19_.setTop (mkF m 217 #[.val (.int p0), .val (.int p1), .val (.int p2), .val (.int p3), .val (.int p4), .val (.int p5), .val (.int (2 : Int32)), .val (.long y1), .second, .val (.long y2), .second, .val (.long y3), .second, .val (.long y4), .second, .val (.long y5), .second, .val (.ref b1_), .val (.long (((y3 - y5) * (y3 - y5)) + ((y4 - y5) * (y4 - y5)))), .second, .val (.double (FP.ddiv (FP.l2d (((y3 - y5) * (y3 - y5)) + ((y4 - y5) * (y4 - y5)))) (FP.i2d (1 : Int32)))), .second] [(.int (1 : Int32))])) _
    exact retN X19_ hx (t := .boolean) Bd.returns (by simp) (hb hby at_217) hr
  · show Q_rm0_2 Z p0 p1 p2 p3 p4 p5 y1 y2 y3 y4 y5 h0 n0 _ T19_.heap _
    rw [ek19_]
    exact ⟨rfl, N19_⟩
theorem ef_rm0_3 (m : MethodId) (x0 : Int32) (x1 : Int32) (x2 : Int32) (x3 : Int32) (x4 : Int32) (x5 : Int32) : entryFrame m #[(.int x0), (.int x1), (.int x2), (.int x3), (.int x4), (.int x5)] maxLocals = mkF m 0 #[.val (.int x0), .val (.int x1), .val (.int x2), .val (.int x3), .val (.int x4), .val (.int x5), .unset, .unset, .unset, .unset, .unset, .unset, .unset, .unset, .unset, .unset, .unset, .unset, .unset, .unset, .unset, .unset] [] := by first | (simp [entryFrame, mkF, argsToLocals, Value.category, maxLocals]; done) | rfl
def Q_rm0_3 (Z : State) (p0 : Int32) (p1 : Int32) (p2 : Int32) (p3 : Int32) (p4 : Int32) (p5 : Int32) (y1 : Int64) (y2 : Int64) (y3 : Int64) (y4 : Int64) (y5 : Int64) (h0 : Heap) (n0 : Nat) (v : Option Value) (h : Heap) (L : List Loc) : Prop := v = some (.int (1 : Int32)) ∧ Fr n0 L
set_option maxRecDepth 65536 in
set_option maxHeartbeats 40000000 in
theorem rm0_3 (l : Launch) (Z : State) (a0 : Array Value) (hw : ∀ d ∈ tables_1, d.before a0 Z = true) (ws : List Jvm.Cond) (p0 : Int32) (p1 : Int32) (p2 : Int32) (p3 : Int32) (p4 : Int32) (p5 : Int32) (y1 : Int64) (y2 : Int64) (y3 : Int64) (y4 : Int64) (y5 : Int64) (h0 : Heap) (n0 : Nat) (Z0 : n0 ≤ h0.size) (hn : ((2 : Int32) + ((p0 &&& (2147483647 : Int32)) - (((p0 &&& (2147483647 : Int32)) / (3 : Int32)) * (3 : Int32)))) = (3 : Int32)) (ey1 : y1 = ((p1 >>> ((11 : Int32) &&& 31)).toInt64)) (ey2 : y2 = ((p2 >>> ((11 : Int32) &&& 31)).toInt64)) (ey3 : y3 = ((p3 >>> ((11 : Int32) &&& 31)).toInt64)) (ey4 : y4 = ((p4 >>> ((11 : Int32) &&& 31)).toInt64)) (ey5 : y5 = ((p5 >>> ((11 : Int32) &&& 31)).toInt64)) (by1 : own_R y1 1048576) (by2 : own_R y2 1048576) (by3 : own_R y3 1048576) (by4 : own_R y4 1048576) (by5 : own_R y5 1048576) :
    MetFree l x (head1 (Jvm.Cond.code x code maxLocals ret :: ws) room_1) (fun a U => a = #[(.int p0), (.int p1), (.int p2), (.int p3), (.int p4), (.int p5)] ∧ Z.Warmed39 U.vm ∧ U.heap = h0) (fun _ _ _ _ _ => True) (fun _ U o U' => ∃ v L, o = .returned v ∧ Q_rm0_3 Z p0 p1 p2 p3 p4 p5 y1 y2 y3 y4 y5 h0 n0 v U'.heap L ∧ FrameEnd U o U' L room_1.cells room_1.slots) := by
  refine MetFree.of_bodySF (plainFor_of_name pn_com_example_whipstill_whipstill_MovingWindowSampleVariancePinLaw) hisR ?_
  intro p e s m args below meth c s₁ Bd hml0 hP hK
  obtain ⟨rfl, hZ, hh⟩ := hP
  have hx := Bd.exec
  have hby := Bd.bytes
  have hml : c.maxLocals = 22 := hml0
  have hown : s.vm.findClass "com/example/whipstill/whipstill/MovingWindowSampleVariancePinLaw" = some m.cls := findClass_of_methodNamed Bd.named
  have hnm := (name_of_methodNamed Bd.named Bd.method).1
  have X0 : Stand p l e room_1 s m #[(.int p0), (.int p1), (.int p2), (.int p3), (.int p4), (.int p5)] below meth c s₁ [] 0 0 := Stand.of_body Bd
  have e0 : s₁.heap = h0 := by rw [← hh, Bd.state]; rfl
  have N0 := Fr.nil n0
  have pre0 : ∀ t, Steps p.tables e below (s₁.setTop (mkF m 0 #[.val (.int p0), .val (.int p1), .val (.int p2), .val (.int p3), .val (.int p4), .val (.int p5), .unset, .unset, .unset, .unset, .unset, .unset, .unset, .unset, .unset, .unset, .unset, .unset, .unset, .unset, .unset, .unset] [])) t → Steps p.tables e below (s₁.setTop (entryFrame m #[(.int p0), (.int p1), (.int p2), (.int p3), (.int p4), (.int p5)] maxLocals)) t := fun t k => castTop (ef_rm0_3 m p0 p1 p2 p3 p4 p5) k
  obtain ⟨T1_, h1_, X1_, e1_, E1_, A1_, D1_, U1_, st1_⟩ := newO X0 hx hZ hown (hw _ (List.mem_of_getElem? (i := 1) rfl)) (hw _ (List.mem_of_getElem? (i := 2) rfl)) (hw _ (List.mem_of_getElem? (i := 3) rfl)) e0 (g := (mkF m 47 #[.val (.int p0), .val (.int p1), .val (.int p2), .val (.int p3), .val (.int p4), .val (.int p5), .val (.int (3 : Int32)), .val (.long y1), .second, .val (.long y2), .second, .val (.long y3), .second, .val (.long y4), .second, .val (.long y5), .second, .unset, .unset, .unset, .unset, .unset] [])) rfl (hb hby at_47) (by decide) (by decide)
  obtain ⟨b1_, g1_⟩ : ∃ z, z = h0.size := ⟨_, rfl⟩
  rw [← g1_] at A1_ D1_ U1_ st1_
  have F1__values : Fld Z h1_ b1_ "com/example/whipstill/whipstill/MovingWindow" "values" "[D" .null := D1_ (Or.inr (hw _ (List.mem_of_getElem? (i := 12) rfl))) (ty := (.array .double)) (by decide)
  have F1__oldest : Fld Z h1_ b1_ "com/example/whipstill/whipstill/MovingWindow" "oldest" "I" (.int (0 : Int32)) := D1_ (Or.inl (hw _ (List.mem_of_getElem? (i := 23) rfl))) (ty := .int) (by decide)
  have g3_ : n0 ≤ b1_ := Nat.le_trans Z0 (Nat.le_of_eq g1_.symm)
  have z4_ : n0 ≤ h1_.size := Nat.le_trans Z0 E1_.1
  obtain ⟨_, _, ⟨T2_, L2_, k2_, n2_⟩, -, X2_, ⟨Lc2_, hQ2_, l2_, y2_, z2_⟩, st2_⟩ := X1_.specialBack hx (y := (⟨"com/example/whipstill/whipstill/MovingWindow", "<init>", "(ID)V"⟩ : MethodName)) rfl hown (mvT hZ (hw _ (List.mem_of_getElem? (i := 4) rfl))) (mvT hZ (hw _ (List.mem_of_getElem? (i := 5) rfl))) (mvT hZ (hw _ (List.mem_of_getElem? (i := 6) rfl))) (by decide) (backOf (W := 1) (rmInit3 l Z a0 hw [] b1_ (FP.l2d y1) h1_ n0 z4_ A1_ F1__values F1__oldest g3_) hZ (hw _ (List.mem_of_getElem? (i := 6) rfl)) (hw _ (List.mem_of_getElem? (i := 3) rfl)) (by decide) (by decide)) (g := (mkF m 56 #[.val (.int p0), .val (.int p1), .val (.int p2), .val (.int p3), .val (.int p4), .val (.int p5), .val (.int (3 : Int32)), .val (.long y1), .second, .val (.long y2), .second, .val (.long y3), .second, .val (.long y4), .second, .val (.long y5), .second, .unset, .unset, .unset, .unset, .unset] [(.double (FP.l2d y1)), (.int (3 : Int32)), (.ref b1_), (.ref b1_)])) rfl (by rw [hml]; rfl) (Steps.refl _) (a := b1_) (argsL := [(.int (3 : Int32)), (.double (FP.l2d y1))]) (rest := [(.ref b1_)]) (lenOf pd_qIDzV rfl) rfl (by show 2 * 0 + _ ≤ _; exact Nat.le_of_eq rfl) (hb hby at_56) (fun _ _ => ⟨rfl, e1_, (by decide : 1 + 1 ≤ _), (by decide : 2 + 3 ≤ _)⟩)
  dsimp only [Pt.U, Pt.locs, Pt.cells, Pt.slots] at X2_ l2_ y2_ z2_ st2_ hQ2_
  subst l2_ y2_ z2_
  obtain ⟨t_2_, k_2_, rfl, Nq2_, ek2_, p2__0, p2__1, p2__2, p2__3, p2__4⟩ := hQ2_
  have N2_ := Fr.app N0 Nq2_
  have g6_ : n0 ≤ t_2_ := Nat.le_trans z4_ p2__0
  have z7_ : n0 ≤ T2_.heap.size := Nat.le_trans z4_ ek2_.1
  obtain ⟨cq8_, kq8_, qa8_, qb8_, qc8_⟩ := isOf hZ rfl p2__1
  obtain ⟨_, _, ⟨T5_, L5_, k5_, n5_⟩, -, X5_, ⟨Lc5_, hQ5_, l5_, y5_, z5_⟩, st5_⟩ := X2_.virtualBack hx (y := (⟨"com/example/whipstill/whipstill/MovingWindow", "add", "(D)V"⟩ : MethodName)) (z := (⟨"com/example/whipstill/whipstill/MovingWindow", "add", "(D)V"⟩ : MethodName)) hown (mvT hZ (hw _ (List.mem_of_getElem? (i := 17) rfl))) (mvT hZ (hw _ (List.mem_of_getElem? (i := 18) rfl))) (notFace_of_selects (args := #[]) (mvT hZ (hw _ (List.mem_of_getElem? (i := 20) rfl)))) (mvT hZ (hw _ (List.mem_of_getElem? (i := 20) rfl))) (mvT hZ (hw _ (List.mem_of_getElem? (i := 19) rfl))) (by decide) (backOf (W := 0) (rmAdd3_0 l Z a0 hw [] b1_ (FP.l2d y2) t_2_ k_2_ (FP.l2d y1) (FP.l2d y1) (FP.l2d y1) T2_.heap n0 z7_ p2__1 p2__2 p2__3 p2__4 g3_ g6_) hZ (hw _ (List.mem_of_getElem? (i := 21) rfl)) (hw _ (List.mem_of_getElem? (i := 3) rfl)) (by decide) (by decide)) qa8_ qc8_ (g := (mkF m 66 #[.val (.int p0), .val (.int p1), .val (.int p2), .val (.int p3), .val (.int p4), .val (.int p5), .val (.int (3 : Int32)), .val (.long y1), .second, .val (.long y2), .second, .val (.long y3), .second, .val (.long y4), .second, .val (.long y5), .second, .val (.ref b1_), .unset, .unset, .unset, .unset] [(.double (FP.l2d y2)), (.ref b1_)])) rfl (by rw [hml]; rfl) (Steps.refl _) (argsL := [(.double (FP.l2d y2))]) (rest := []) (lenOf pd_qDzV rfl) rfl (by show 2 * 0 + _ ≤ _; exact Nat.le_of_eq rfl) (hb hby at_66) (fun _ _ => ⟨rfl, rfl, (by decide : 2 + 0 ≤ _), (by decide : 5 + 0 ≤ _)⟩)
  dsimp only [Pt.U, Pt.locs, Pt.cells, Pt.slots] at X5_ l5_ y5_ z5_ st5_ hQ5_
  subst l5_ y5_ z5_
  obtain ⟨rfl, Nq5_, ek5_, p5__0, p5__1, p5__2, p5__3⟩ := hQ5_
  have N5_ := Fr.app N2_ Nq5_
  have z10_ : n0 ≤ T5_.heap.size := Nat.le_trans z7_ ek5_.1
  obtain ⟨cq11_, kq11_, qa11_, qb11_, qc11_⟩ := isOf hZ rfl p5__0
  obtain ⟨_, _, ⟨T9_, L9_, k9_, n9_⟩, -, X9_, ⟨Lc9_, hQ9_, l9_, y9_, z9_⟩, st9_⟩ := X5_.virtualBack hx (y := (⟨"com/example/whipstill/whipstill/MovingWindow", "add", "(D)V"⟩ : MethodName)) (z := (⟨"com/example/whipstill/whipstill/MovingWindow", "add", "(D)V"⟩ : MethodName)) hown (mvT hZ (hw _ (List.mem_of_getElem? (i := 17) rfl))) (mvT hZ (hw _ (List.mem_of_getElem? (i := 18) rfl))) (notFace_of_selects (args := #[]) (mvT hZ (hw _ (List.mem_of_getElem? (i := 20) rfl)))) (mvT hZ (hw _ (List.mem_of_getElem? (i := 20) rfl))) (mvT hZ (hw _ (List.mem_of_getElem? (i := 19) rfl))) (by decide) (backOf (W := 0) (rmAdd3_1 l Z a0 hw [] b1_ (FP.l2d y3) t_2_ k_2_ (FP.l2d y2) (FP.l2d y1) (FP.l2d y1) T5_.heap n0 z10_ p5__0 p5__1 p5__2 p5__3 g3_ g6_) hZ (hw _ (List.mem_of_getElem? (i := 21) rfl)) (hw _ (List.mem_of_getElem? (i := 3) rfl)) (by decide) (by decide)) qa11_ qc11_ (g := (mkF m 74 #[.val (.int p0), .val (.int p1), .val (.int p2), .val (.int p3), .val (.int p4), .val (.int p5), .val (.int (3 : Int32)), .val (.long y1), .second, .val (.long y2), .second, .val (.long y3), .second, .val (.long y4), .second, .val (.long y5), .second, .val (.ref b1_), .unset, .unset, .unset, .unset] [(.double (FP.l2d y3)), (.ref b1_)])) rfl (by rw [hml]; rfl) (Steps.refl _) (argsL := [(.double (FP.l2d y3))]) (rest := []) (lenOf pd_qDzV rfl) rfl (by show 2 * 0 + _ ≤ _; exact Nat.le_of_eq rfl) (hb hby at_74) (fun _ _ => ⟨rfl, rfl, (by decide : 2 + 0 ≤ _), (by decide : 5 + 0 ≤ _)⟩)
  dsimp only [Pt.U, Pt.locs, Pt.cells, Pt.slots] at X9_ l9_ y9_ z9_ st9_ hQ9_
  subst l9_ y9_ z9_
  obtain ⟨rfl, Nq9_, ek9_, p9__0, p9__1, p9__2, p9__3⟩ := hQ9_
  have N9_ := Fr.app N5_ Nq9_
  have z13_ : n0 ≤ T9_.heap.size := Nat.le_trans z10_ ek9_.1
  obtain ⟨cq14_, kq14_, qa14_, qb14_, qc14_⟩ := isOf hZ rfl p9__0
  obtain ⟨_, _, ⟨T12_, L12_, k12_, n12_⟩, -, X12_, ⟨Lc12_, hQ12_, l12_, y12_, z12_⟩, st12_⟩ := X9_.virtualBack hx (y := (⟨"com/example/whipstill/whipstill/MovingWindow", "add", "(D)V"⟩ : MethodName)) (z := (⟨"com/example/whipstill/whipstill/MovingWindow", "add", "(D)V"⟩ : MethodName)) hown (mvT hZ (hw _ (List.mem_of_getElem? (i := 17) rfl))) (mvT hZ (hw _ (List.mem_of_getElem? (i := 18) rfl))) (notFace_of_selects (args := #[]) (mvT hZ (hw _ (List.mem_of_getElem? (i := 20) rfl)))) (mvT hZ (hw _ (List.mem_of_getElem? (i := 20) rfl))) (mvT hZ (hw _ (List.mem_of_getElem? (i := 19) rfl))) (by decide) (backOf (W := 0) (rmAdd3_2 l Z a0 hw [] b1_ (FP.l2d y4) t_2_ k_2_ (FP.l2d y2) (FP.l2d y3) (FP.l2d y1) T9_.heap n0 z13_ p9__0 p9__1 p9__2 p9__3 g3_ g6_) hZ (hw _ (List.mem_of_getElem? (i := 21) rfl)) (hw _ (List.mem_of_getElem? (i := 3) rfl)) (by decide) (by decide)) qa14_ qc14_ (g := (mkF m 82 #[.val (.int p0), .val (.int p1), .val (.int p2), .val (.int p3), .val (.int p4), .val (.int p5), .val (.int (3 : Int32)), .val (.long y1), .second, .val (.long y2), .second, .val (.long y3), .second, .val (.long y4), .second, .val (.long y5), .second, .val (.ref b1_), .unset, .unset, .unset, .unset] [(.double (FP.l2d y4)), (.ref b1_)])) rfl (by rw [hml]; rfl) (Steps.refl _) (argsL := [(.double (FP.l2d y4))]) (rest := []) (lenOf pd_qDzV rfl) rfl (by show 2 * 0 + _ ≤ _; exact Nat.le_of_eq rfl) (hb hby at_82) (fun _ _ => ⟨rfl, rfl, (by decide : 2 + 0 ≤ _), (by decide : 5 + 0 ≤ _)⟩)
  dsimp only [Pt.U, Pt.locs, Pt.cells, Pt.slots] at X12_ l12_ y12_ z12_ st12_ hQ12_
  subst l12_ y12_ z12_
  obtain ⟨rfl, Nq12_, ek12_, p12__0, p12__1, p12__2, p12__3⟩ := hQ12_
  have N12_ := Fr.app N9_ Nq12_
  have z16_ : n0 ≤ T12_.heap.size := Nat.le_trans z13_ ek12_.1
  obtain ⟨_, _, ⟨T15_, L15_, k15_, n15_⟩, -, X15_, ⟨Lc15_, hQ15_, l15_, y15_, z15_⟩, st15_⟩ := Jvm.LawKit.callS X12_ hx (y := (⟨"com/example/whipstill/whipstill/MovingWindowSampleVariancePinLaw", "sq", "(J)J"⟩ : MethodName)) hown (mvT hZ (hw _ (List.mem_of_getElem? (i := 24) rfl))) (mvT hZ (hw _ (List.mem_of_getElem? (i := 25) rfl))) (mvT hZ (hw _ (List.mem_of_getElem? (i := 26) rfl))) (mvT hZ (hw _ (List.mem_of_getElem? (i := 27) rfl))) (by decide) (backOf (W := 0) (rmSq l Z a0 hw [] (y2 - y5) T12_.heap n0 z16_ ) hZ (hw _ (List.mem_of_getElem? (i := 27) rfl)) (hw _ (List.mem_of_getElem? (i := 26) rfl)) (by decide) (by decide)) (g := (mkF m 124 #[.val (.int p0), .val (.int p1), .val (.int p2), .val (.int p3), .val (.int p4), .val (.int p5), .val (.int (3 : Int32)), .val (.long y1), .second, .val (.long y2), .second, .val (.long y3), .second, .val (.long y4), .second, .val (.long y5), .second, .val (.ref b1_), .unset, .unset, .unset, .unset] [(.long (y2 - y5))])) rfl (by rw [hml]; rfl) (argsL := [(.long (y2 - y5))]) (rest := []) (lenOf pd_qJzJ rfl) rfl (by show 2 * 0 + _ ≤ _; exact Nat.le_of_eq rfl) (hb hby at_124) (fun _ _ => ⟨rfl, rfl, (by decide : 2 + 0 ≤ _), (by decide : 5 + 0 ≤ _)⟩)
  dsimp only [Pt.U, Pt.locs, Pt.cells, Pt.slots] at X15_ l15_ y15_ z15_ st15_ hQ15_
  subst l15_ y15_ z15_
  obtain ⟨rfl, Nq15_, ek15_⟩ := hQ15_
  have N15_ := Fr.app N12_ Nq15_
  obtain ⟨_, _, ⟨T17_, L17_, k17_, n17_⟩, -, X17_, ⟨Lc17_, hQ17_, l17_, y17_, z17_⟩, st17_⟩ := Jvm.LawKit.callS X15_ hx (y := (⟨"com/example/whipstill/whipstill/MovingWindowSampleVariancePinLaw", "sq", "(J)J"⟩ : MethodName)) hown (mvT hZ (hw _ (List.mem_of_getElem? (i := 24) rfl))) (mvT hZ (hw _ (List.mem_of_getElem? (i := 25) rfl))) (mvT hZ (hw _ (List.mem_of_getElem? (i := 26) rfl))) (mvT hZ (hw _ (List.mem_of_getElem? (i := 27) rfl))) (by decide) (backOf (W := 2) (rmSq l Z a0 hw [] (y3 - y5) T12_.heap n0 z16_ ) hZ (hw _ (List.mem_of_getElem? (i := 27) rfl)) (hw _ (List.mem_of_getElem? (i := 26) rfl)) (by decide) (by decide)) (g := (mkF m 132 #[.val (.int p0), .val (.int p1), .val (.int p2), .val (.int p3), .val (.int p4), .val (.int p5), .val (.int (3 : Int32)), .val (.long y1), .second, .val (.long y2), .second, .val (.long y3), .second, .val (.long y4), .second, .val (.long y5), .second, .val (.ref b1_), .unset, .unset, .unset, .unset] [(.long (y3 - y5)), (.long ((y2 - y5) * (y2 - y5)))])) rfl (by rw [hml]; rfl) (argsL := [(.long (y3 - y5))]) (rest := [(.long ((y2 - y5) * (y2 - y5)))]) (lenOf pd_qJzJ rfl) rfl (by show 2 * 0 + _ ≤ _; exact Nat.le_of_eq rfl) (hb hby at_132) (fun _ _ => ⟨rfl, ek15_, (by decide : 2 + 0 ≤ _), (by decide : 5 + 0 ≤ _)⟩)
  dsimp only [Pt.U, Pt.locs, Pt.cells, Pt.slots] at X17_ l17_ y17_ z17_ st17_ hQ17_
  subst l17_ y17_ z17_
  obtain ⟨rfl, Nq17_, ek17_⟩ := hQ17_
  have N17_ := Fr.app N15_ Nq17_
  obtain ⟨_, _, ⟨T18_, L18_, k18_, n18_⟩, -, X18_, ⟨Lc18_, hQ18_, l18_, y18_, z18_⟩, st18_⟩ := Jvm.LawKit.callS X17_ hx (y := (⟨"com/example/whipstill/whipstill/MovingWindowSampleVariancePinLaw", "sq", "(J)J"⟩ : MethodName)) hown (mvT hZ (hw _ (List.mem_of_getElem? (i := 24) rfl))) (mvT hZ (hw _ (List.mem_of_getElem? (i := 25) rfl))) (mvT hZ (hw _ (List.mem_of_getElem? (i := 26) rfl))) (mvT hZ (hw _ (List.mem_of_getElem? (i := 27) rfl))) (by decide) (backOf (W := 2) (rmSq l Z a0 hw [] (y4 - y5) T12_.heap n0 z16_ ) hZ (hw _ (List.mem_of_getElem? (i := 27) rfl)) (hw _ (List.mem_of_getElem? (i := 26) rfl)) (by decide) (by decide)) (g := (mkF m 141 #[.val (.int p0), .val (.int p1), .val (.int p2), .val (.int p3), .val (.int p4), .val (.int p5), .val (.int (3 : Int32)), .val (.long y1), .second, .val (.long y2), .second, .val (.long y3), .second, .val (.long y4), .second, .val (.long y5), .second, .val (.ref b1_), .unset, .unset, .unset, .unset] [(.long (y4 - y5)), (.long (((y2 - y5) * (y2 - y5)) + ((y3 - y5) * (y3 - y5))))])) rfl (by rw [hml]; rfl) (argsL := [(.long (y4 - y5))]) (rest := [(.long (((y2 - y5) * (y2 - y5)) + ((y3 - y5) * (y3 - y5))))]) (lenOf pd_qJzJ rfl) rfl (by show 2 * 0 + _ ≤ _; exact Nat.le_of_eq rfl) (hb hby at_141) (fun _ _ => ⟨rfl, ek17_, (by decide : 2 + 0 ≤ _), (by decide : 5 + 0 ≤ _)⟩)
  dsimp only [Pt.U, Pt.locs, Pt.cells, Pt.slots] at X18_ l18_ y18_ z18_ st18_ hQ18_
  subst l18_ y18_ z18_
  obtain ⟨rfl, Nq18_, ek18_⟩ := hQ18_
  have N18_ := Fr.app N17_ Nq18_
  have q19_ : Jvm.Free.Fl.NoNaN64 (FP.ddiv (FP.l2d ((((y2 - y5) * (y2 - y5)) + ((y3 - y5) * (y3 - y5))) + ((y4 - y5) * (y4 - y5)))) (FP.i2d (2 : Int32))) := own_ddiv _ _ (by decide)
  obtain ⟨cq21_, kq21_, qa21_, qb21_, qc21_⟩ := isOf hZ ek18_ p12__0
  obtain ⟨_, _, ⟨T20_, L20_, k20_, n20_⟩, -, X20_, ⟨Lc20_, hQ20_, l20_, y20_, z20_⟩, st20_⟩ := X18_.virtualBack hx (y := (⟨"com/example/whipstill/whipstill/MovingWindow", "sampleVariance", "(D)D"⟩ : MethodName)) (z := (⟨"com/example/whipstill/whipstill/MovingWindow", "sampleVariance", "(D)D"⟩ : MethodName)) hown (mvT hZ (hw _ (List.mem_of_getElem? (i := 28) rfl))) (mvT hZ (hw _ (List.mem_of_getElem? (i := 29) rfl))) (notFace_of_selects (args := #[]) (mvT hZ (hw _ (List.mem_of_getElem? (i := 31) rfl)))) (mvT hZ (hw _ (List.mem_of_getElem? (i := 31) rfl))) (mvT hZ (hw _ (List.mem_of_getElem? (i := 30) rfl))) (by decide) (backOf (W := 0) (rmSv3 l Z a0 hw [] b1_ y5 t_2_ k_2_ y2 y3 y4 T12_.heap n0 z16_ p12__1 p12__3 by5 by2 by3 by4) hZ (hw _ (List.mem_of_getElem? (i := 32) rfl)) (hw _ (List.mem_of_getElem? (i := 3) rfl)) (by decide) (by decide)) qa21_ qc21_ (g := (mkF m 203 #[.val (.int p0), .val (.int p1), .val (.int p2), .val (.int p3), .val (.int p4), .val (.int p5), .val (.int (3 : Int32)), .val (.long y1), .second, .val (.long y2), .second, .val (.long y3), .second, .val (.long y4), .second, .val (.long y5), .second, .val (.ref b1_), .val (.long ((((y2 - y5) * (y2 - y5)) + ((y3 - y5) * (y3 - y5))) + ((y4 - y5) * (y4 - y5)))), .second, .val (.double (FP.ddiv (FP.l2d ((((y2 - y5) * (y2 - y5)) + ((y3 - y5) * (y3 - y5))) + ((y4 - y5) * (y4 - y5)))) (FP.i2d (2 : Int32)))), .second] [(.double (FP.l2d y5)), (.ref b1_)])) rfl (by rw [hml]; rfl) (Steps.refl _) (argsL := [(.double (FP.l2d y5))]) (rest := []) (lenOf pd_qDzD rfl) rfl (by show 2 * 0 + _ ≤ _; exact Nat.le_of_eq rfl) (hb hby at_203) (fun _ _ => ⟨rfl, ek18_, (by decide : 2 + 0 ≤ _), (by decide : 5 + 0 ≤ _)⟩)
  dsimp only [Pt.U, Pt.locs, Pt.cells, Pt.slots] at X20_ l20_ y20_ z20_ st20_ hQ20_
  subst l20_ y20_ z20_
  obtain ⟨rfl, Nq20_, ek20_⟩ := hQ20_
  have N20_ := Fr.app N18_ Nq20_
  have hcmp : cmpValue (FP.dcmp (FP.ddiv (FP.l2d ((((0 : Int64) + ((y2 - y5) * (y2 - y5))) + ((y3 - y5) * (y3 - y5))) + ((y4 - y5) * (y4 - y5)))) (FP.i2d (2 : Int32))) (FP.ddiv (FP.l2d ((((y2 - y5) * (y2 - y5)) + ((y3 - y5) * (y3 - y5))) + ((y4 - y5) * (y4 - y5)))) (FP.i2d (2 : Int32)))) .l = (0 : Int32) := dcmpV_eq (congrArg (fun z => FP.ddiv (FP.l2d z) (FP.i2d (2 : Int32))) (by simp only [Int64.zero_add] <;> first | rfl | ac_rfl)) (own_ddiv _ _ (by decide)) .l
  obtain ⟨fs, hr, hrun, hended, hW, hsame⟩ := X20_.leave (v := some (.int (1 : Int32))) (fun h => by first | rfl | (rw [Bd.returns] at h; cases h))
  refine ⟨_, _, pre0 _ ?_, hrun, hended, _, _, rfl, ?_, ⟨_, rfl⟩, hW, hsame.mono (by decide) (by decide)⟩
  · show Steps p.tables e below (s₁.setTop (mkF m 0 #[.val (.int p0), .val (.int p1), .val (.int p2), .val (.int p3), .val (.int p4), .val (.int p5), .unset, .unset, .unset, .unset, .unset, .unset, .unset, .unset, .unset, .unset, .unset, .unset, .unset, .unset, .unset, .unset] [])) _
    refine XS.iconst X0.here hx rfl (hb hby at_0) ?_
    show Steps p.tables e below (s₁.setTop (mkF m 1 #[.val (.int p0), .val (.int p1), .val (.int p2), .val (.int p3), .val (.int p4), .val (.int p5), .unset, .unset, .unset, .unset, .unset, .unset, .unset, .unset, .unset, .unset, .unset, .unset, .unset, .unset, .unset, .unset] [(.int (2 : Int32))])) _
    refine XS.iloadN X0.here hx rfl (hb hby at_1) rfl ?_
    show Steps p.tables e below (s₁.setTop (mkF m 2 #[.val (.int p0), .val (.int p1), .val (.int p2), .val (.int p3), .val (.int p4), .val (.int p5), .unset, .unset, .unset, .unset, .unset, .unset, .unset, .unset, .unset, .unset, .unset, .unset, .unset, .unset, .unset, .unset] [(.int p0), (.int (2 : Int32))])) _
    refine X0.ldcInt hx hown (mvT hZ (hw _ (List.mem_of_getElem? (i := 0) rfl))) (g := (mkF m 2 #[.val (.int p0), .val (.int p1), .val (.int p2), .val (.int p3), .val (.int p4), .val (.int p5), .unset, .unset, .unset, .unset, .unset, .unset, .unset, .unset, .unset, .unset, .unset, .unset, .unset, .unset, .unset, .unset] [(.int p0), (.int (2 : Int32))])) rfl (hb hby at_2) _ ?_
    show Steps p.tables e below (s₁.setTop (mkF m 4 #[.val (.int p0), .val (.int p1), .val (.int p2), .val (.int p3), .val (.int p4), .val (.int p5), .unset, .unset, .unset, .unset, .unset, .unset, .unset, .unset, .unset, .unset, .unset, .unset, .unset, .unset, .unset, .unset] [(.int (2147483647 : Int32)), (.int p0), (.int (2 : Int32))])) _
    refine XS.iand X0.here hx rfl (hb hby at_4) rfl ?_
    show Steps p.tables e below (s₁.setTop (mkF m 5 #[.val (.int p0), .val (.int p1), .val (.int p2), .val (.int p3), .val (.int p4), .val (.int p5), .unset, .unset, .unset, .unset, .unset, .unset, .unset, .unset, .unset, .unset, .unset, .unset, .unset, .unset, .unset, .unset] [(.int (p0 &&& (2147483647 : Int32))), (.int (2 : Int32))])) _
    refine XS.iconst X0.here hx rfl (hb hby at_5) ?_
    show Steps p.tables e below (s₁.setTop (mkF m 6 #[.val (.int p0), .val (.int p1), .val (.int p2), .val (.int p3), .val (.int p4), .val (.int p5), .unset, .unset, .unset, .unset, .unset, .unset, .unset, .unset, .unset, .unset, .unset, .unset, .unset, .unset, .unset, .unset] [(.int (3 : Int32)), (.int (p0 &&& (2147483647 : Int32))), (.int (2 : Int32))])) _
    refine XS.irem X0.here hx rfl (hb hby at_6) rfl (by decide) ?_
    show Steps p.tables e below (s₁.setTop (mkF m 7 #[.val (.int p0), .val (.int p1), .val (.int p2), .val (.int p3), .val (.int p4), .val (.int p5), .unset, .unset, .unset, .unset, .unset, .unset, .unset, .unset, .unset, .unset, .unset, .unset, .unset, .unset, .unset, .unset] [(.int ((p0 &&& (2147483647 : Int32)) - (((p0 &&& (2147483647 : Int32)) / (3 : Int32)) * (3 : Int32)))), (.int (2 : Int32))])) _
    refine XS.iadd X0.here hx rfl (hb hby at_7) rfl ?_
    show Steps p.tables e below (s₁.setTop (mkF m 8 #[.val (.int p0), .val (.int p1), .val (.int p2), .val (.int p3), .val (.int p4), .val (.int p5), .unset, .unset, .unset, .unset, .unset, .unset, .unset, .unset, .unset, .unset, .unset, .unset, .unset, .unset, .unset, .unset] [(.int ((2 : Int32) + ((p0 &&& (2147483647 : Int32)) - (((p0 &&& (2147483647 : Int32)) / (3 : Int32)) * (3 : Int32)))))])) _
    rw [hn]
    show Steps p.tables e below (s₁.setTop (mkF m 8 #[.val (.int p0), .val (.int p1), .val (.int p2), .val (.int p3), .val (.int p4), .val (.int p5), .unset, .unset, .unset, .unset, .unset, .unset, .unset, .unset, .unset, .unset, .unset, .unset, .unset, .unset, .unset, .unset] [(.int (3 : Int32))])) _
    refine XS.istore X0.here hx rfl (hb hby at_8) rfl (l' := #[.val (.int p0), .val (.int p1), .val (.int p2), .val (.int p3), .val (.int p4), .val (.int p5), .val (.int (3 : Int32)), .unset, .unset, .unset, .unset, .unset, .unset, .unset, .unset, .unset, .unset, .unset, .unset, .unset, .unset, .unset]) rfl ?_
    show Steps p.tables e below (s₁.setTop (mkF m 10 #[.val (.int p0), .val (.int p1), .val (.int p2), .val (.int p3), .val (.int p4), .val (.int p5), .val (.int (3 : Int32)), .unset, .unset, .unset, .unset, .unset, .unset, .unset, .unset, .unset, .unset, .unset, .unset, .unset, .unset, .unset] [])) _
    refine XS.iloadN X0.here hx rfl (hb hby at_10) rfl ?_
    show Steps p.tables e below (s₁.setTop (mkF m 11 #[.val (.int p0), .val (.int p1), .val (.int p2), .val (.int p3), .val (.int p4), .val (.int p5), .val (.int (3 : Int32)), .unset, .unset, .unset, .unset, .unset, .unset, .unset, .unset, .unset, .unset, .unset, .unset, .unset, .unset, .unset] [(.int p1)])) _
    refine XS.bipush X0.here hx rfl (hb hby at_11) ?_
    show Steps p.tables e below (s₁.setTop (mkF m 13 #[.val (.int p0), .val (.int p1), .val (.int p2), .val (.int p3), .val (.int p4), .val (.int p5), .val (.int (3 : Int32)), .unset, .unset, .unset, .unset, .unset, .unset, .unset, .unset, .unset, .unset, .unset, .unset, .unset, .unset, .unset] [(.int (11 : Int32)), (.int p1)])) _
    refine XS.ishr X0.here hx rfl (hb hby at_13) rfl ?_
    show Steps p.tables e below (s₁.setTop (mkF m 14 #[.val (.int p0), .val (.int p1), .val (.int p2), .val (.int p3), .val (.int p4), .val (.int p5), .val (.int (3 : Int32)), .unset, .unset, .unset, .unset, .unset, .unset, .unset, .unset, .unset, .unset, .unset, .unset, .unset, .unset, .unset] [(.int (p1 >>> ((11 : Int32) &&& 31)))])) _
    refine XS.i2l X0.here hx rfl (hb hby at_14) rfl ?_
    show Steps p.tables e below (s₁.setTop (mkF m 15 #[.val (.int p0), .val (.int p1), .val (.int p2), .val (.int p3), .val (.int p4), .val (.int p5), .val (.int (3 : Int32)), .unset, .unset, .unset, .unset, .unset, .unset, .unset, .unset, .unset, .unset, .unset, .unset, .unset, .unset, .unset] [(.long ((p1 >>> ((11 : Int32) &&& 31)).toInt64))])) _
    rw [← ey1]
    show Steps p.tables e below (s₁.setTop (mkF m 15 #[.val (.int p0), .val (.int p1), .val (.int p2), .val (.int p3), .val (.int p4), .val (.int p5), .val (.int (3 : Int32)), .unset, .unset, .unset, .unset, .unset, .unset, .unset, .unset, .unset, .unset, .unset, .unset, .unset, .unset, .unset] [(.long y1)])) _
    refine XS.lstore X0.here hx rfl (hb hby at_15) rfl (l' := #[.val (.int p0), .val (.int p1), .val (.int p2), .val (.int p3), .val (.int p4), .val (.int p5), .val (.int (3 : Int32)), .val (.long y1), .second, .unset, .unset, .unset, .unset, .unset, .unset, .unset, .unset, .unset, .unset, .unset, .unset, .unset]) rfl ?_
    show Steps p.tables e below (s₁.setTop (mkF m 17 #[.val (.int p0), .val (.int p1), .val (.int p2), .val (.int p3), .val (.int p4), .val (.int p5), .val (.int (3 : Int32)), .val (.long y1), .second, .unset, .unset, .unset, .unset, .unset, .unset, .unset, .unset, .unset, .unset, .unset, .unset, .unset] [])) _
    refine XS.iloadN X0.here hx rfl (hb hby at_17) rfl ?_
    show Steps p.tables e below (s₁.setTop (mkF m 18 #[.val (.int p0), .val (.int p1), .val (.int p2), .val (.int p3), .val (.int p4), .val (.int p5), .val (.int (3 : Int32)), .val (.long y1), .second, .unset, .unset, .unset, .unset, .unset, .unset, .unset, .unset, .unset, .unset, .unset, .unset, .unset] [(.int p2)])) _
    refine XS.bipush X0.here hx rfl (hb hby at_18) ?_
    show Steps p.tables e below (s₁.setTop (mkF m 20 #[.val (.int p0), .val (.int p1), .val (.int p2), .val (.int p3), .val (.int p4), .val (.int p5), .val (.int (3 : Int32)), .val (.long y1), .second, .unset, .unset, .unset, .unset, .unset, .unset, .unset, .unset, .unset, .unset, .unset, .unset, .unset] [(.int (11 : Int32)), (.int p2)])) _
    refine XS.ishr X0.here hx rfl (hb hby at_20) rfl ?_
    show Steps p.tables e below (s₁.setTop (mkF m 21 #[.val (.int p0), .val (.int p1), .val (.int p2), .val (.int p3), .val (.int p4), .val (.int p5), .val (.int (3 : Int32)), .val (.long y1), .second, .unset, .unset, .unset, .unset, .unset, .unset, .unset, .unset, .unset, .unset, .unset, .unset, .unset] [(.int (p2 >>> ((11 : Int32) &&& 31)))])) _
    refine XS.i2l X0.here hx rfl (hb hby at_21) rfl ?_
    show Steps p.tables e below (s₁.setTop (mkF m 22 #[.val (.int p0), .val (.int p1), .val (.int p2), .val (.int p3), .val (.int p4), .val (.int p5), .val (.int (3 : Int32)), .val (.long y1), .second, .unset, .unset, .unset, .unset, .unset, .unset, .unset, .unset, .unset, .unset, .unset, .unset, .unset] [(.long ((p2 >>> ((11 : Int32) &&& 31)).toInt64))])) _
    rw [← ey2]
    show Steps p.tables e below (s₁.setTop (mkF m 22 #[.val (.int p0), .val (.int p1), .val (.int p2), .val (.int p3), .val (.int p4), .val (.int p5), .val (.int (3 : Int32)), .val (.long y1), .second, .unset, .unset, .unset, .unset, .unset, .unset, .unset, .unset, .unset, .unset, .unset, .unset, .unset] [(.long y2)])) _
    refine XS.lstore X0.here hx rfl (hb hby at_22) rfl (l' := #[.val (.int p0), .val (.int p1), .val (.int p2), .val (.int p3), .val (.int p4), .val (.int p5), .val (.int (3 : Int32)), .val (.long y1), .second, .val (.long y2), .second, .unset, .unset, .unset, .unset, .unset, .unset, .unset, .unset, .unset, .unset, .unset]) rfl ?_
    show Steps p.tables e below (s₁.setTop (mkF m 24 #[.val (.int p0), .val (.int p1), .val (.int p2), .val (.int p3), .val (.int p4), .val (.int p5), .val (.int (3 : Int32)), .val (.long y1), .second, .val (.long y2), .second, .unset, .unset, .unset, .unset, .unset, .unset, .unset, .unset, .unset, .unset, .unset] [])) _
    refine XS.iloadN X0.here hx rfl (hb hby at_24) rfl ?_
    show Steps p.tables e below (s₁.setTop (mkF m 25 #[.val (.int p0), .val (.int p1), .val (.int p2), .val (.int p3), .val (.int p4), .val (.int p5), .val (.int (3 : Int32)), .val (.long y1), .second, .val (.long y2), .second, .unset, .unset, .unset, .unset, .unset, .unset, .unset, .unset, .unset, .unset, .unset] [(.int p3)])) _
    refine XS.bipush X0.here hx rfl (hb hby at_25) ?_
    show Steps p.tables e below (s₁.setTop (mkF m 27 #[.val (.int p0), .val (.int p1), .val (.int p2), .val (.int p3), .val (.int p4), .val (.int p5), .val (.int (3 : Int32)), .val (.long y1), .second, .val (.long y2), .second, .unset, .unset, .unset, .unset, .unset, .unset, .unset, .unset, .unset, .unset, .unset] [(.int (11 : Int32)), (.int p3)])) _
    refine XS.ishr X0.here hx rfl (hb hby at_27) rfl ?_
    show Steps p.tables e below (s₁.setTop (mkF m 28 #[.val (.int p0), .val (.int p1), .val (.int p2), .val (.int p3), .val (.int p4), .val (.int p5), .val (.int (3 : Int32)), .val (.long y1), .second, .val (.long y2), .second, .unset, .unset, .unset, .unset, .unset, .unset, .unset, .unset, .unset, .unset, .unset] [(.int (p3 >>> ((11 : Int32) &&& 31)))])) _
    refine XS.i2l X0.here hx rfl (hb hby at_28) rfl ?_
    show Steps p.tables e below (s₁.setTop (mkF m 29 #[.val (.int p0), .val (.int p1), .val (.int p2), .val (.int p3), .val (.int p4), .val (.int p5), .val (.int (3 : Int32)), .val (.long y1), .second, .val (.long y2), .second, .unset, .unset, .unset, .unset, .unset, .unset, .unset, .unset, .unset, .unset, .unset] [(.long ((p3 >>> ((11 : Int32) &&& 31)).toInt64))])) _
    rw [← ey3]
    show Steps p.tables e below (s₁.setTop (mkF m 29 #[.val (.int p0), .val (.int p1), .val (.int p2), .val (.int p3), .val (.int p4), .val (.int p5), .val (.int (3 : Int32)), .val (.long y1), .second, .val (.long y2), .second, .unset, .unset, .unset, .unset, .unset, .unset, .unset, .unset, .unset, .unset, .unset] [(.long y3)])) _
    refine XS.lstore X0.here hx rfl (hb hby at_29) rfl (l' := #[.val (.int p0), .val (.int p1), .val (.int p2), .val (.int p3), .val (.int p4), .val (.int p5), .val (.int (3 : Int32)), .val (.long y1), .second, .val (.long y2), .second, .val (.long y3), .second, .unset, .unset, .unset, .unset, .unset, .unset, .unset, .unset, .unset]) rfl ?_
    show Steps p.tables e below (s₁.setTop (mkF m 31 #[.val (.int p0), .val (.int p1), .val (.int p2), .val (.int p3), .val (.int p4), .val (.int p5), .val (.int (3 : Int32)), .val (.long y1), .second, .val (.long y2), .second, .val (.long y3), .second, .unset, .unset, .unset, .unset, .unset, .unset, .unset, .unset, .unset] [])) _
    refine XS.iload X0.here hx rfl (hb hby at_31) rfl ?_
    show Steps p.tables e below (s₁.setTop (mkF m 33 #[.val (.int p0), .val (.int p1), .val (.int p2), .val (.int p3), .val (.int p4), .val (.int p5), .val (.int (3 : Int32)), .val (.long y1), .second, .val (.long y2), .second, .val (.long y3), .second, .unset, .unset, .unset, .unset, .unset, .unset, .unset, .unset, .unset] [(.int p4)])) _
    refine XS.bipush X0.here hx rfl (hb hby at_33) ?_
    show Steps p.tables e below (s₁.setTop (mkF m 35 #[.val (.int p0), .val (.int p1), .val (.int p2), .val (.int p3), .val (.int p4), .val (.int p5), .val (.int (3 : Int32)), .val (.long y1), .second, .val (.long y2), .second, .val (.long y3), .second, .unset, .unset, .unset, .unset, .unset, .unset, .unset, .unset, .unset] [(.int (11 : Int32)), (.int p4)])) _
    refine XS.ishr X0.here hx rfl (hb hby at_35) rfl ?_
    show Steps p.tables e below (s₁.setTop (mkF m 36 #[.val (.int p0), .val (.int p1), .val (.int p2), .val (.int p3), .val (.int p4), .val (.int p5), .val (.int (3 : Int32)), .val (.long y1), .second, .val (.long y2), .second, .val (.long y3), .second, .unset, .unset, .unset, .unset, .unset, .unset, .unset, .unset, .unset] [(.int (p4 >>> ((11 : Int32) &&& 31)))])) _
    refine XS.i2l X0.here hx rfl (hb hby at_36) rfl ?_
    show Steps p.tables e below (s₁.setTop (mkF m 37 #[.val (.int p0), .val (.int p1), .val (.int p2), .val (.int p3), .val (.int p4), .val (.int p5), .val (.int (3 : Int32)), .val (.long y1), .second, .val (.long y2), .second, .val (.long y3), .second, .unset, .unset, .unset, .unset, .unset, .unset, .unset, .unset, .unset] [(.long ((p4 >>> ((11 : Int32) &&& 31)).toInt64))])) _
    rw [← ey4]
    show Steps p.tables e below (s₁.setTop (mkF m 37 #[.val (.int p0), .val (.int p1), .val (.int p2), .val (.int p3), .val (.int p4), .val (.int p5), .val (.int (3 : Int32)), .val (.long y1), .second, .val (.long y2), .second, .val (.long y3), .second, .unset, .unset, .unset, .unset, .unset, .unset, .unset, .unset, .unset] [(.long y4)])) _
    refine XS.lstore X0.here hx rfl (hb hby at_37) rfl (l' := #[.val (.int p0), .val (.int p1), .val (.int p2), .val (.int p3), .val (.int p4), .val (.int p5), .val (.int (3 : Int32)), .val (.long y1), .second, .val (.long y2), .second, .val (.long y3), .second, .val (.long y4), .second, .unset, .unset, .unset, .unset, .unset, .unset, .unset]) rfl ?_
    show Steps p.tables e below (s₁.setTop (mkF m 39 #[.val (.int p0), .val (.int p1), .val (.int p2), .val (.int p3), .val (.int p4), .val (.int p5), .val (.int (3 : Int32)), .val (.long y1), .second, .val (.long y2), .second, .val (.long y3), .second, .val (.long y4), .second, .unset, .unset, .unset, .unset, .unset, .unset, .unset] [])) _
    refine XS.iload X0.here hx rfl (hb hby at_39) rfl ?_
    show Steps p.tables e below (s₁.setTop (mkF m 41 #[.val (.int p0), .val (.int p1), .val (.int p2), .val (.int p3), .val (.int p4), .val (.int p5), .val (.int (3 : Int32)), .val (.long y1), .second, .val (.long y2), .second, .val (.long y3), .second, .val (.long y4), .second, .unset, .unset, .unset, .unset, .unset, .unset, .unset] [(.int p5)])) _
    refine XS.bipush X0.here hx rfl (hb hby at_41) ?_
    show Steps p.tables e below (s₁.setTop (mkF m 43 #[.val (.int p0), .val (.int p1), .val (.int p2), .val (.int p3), .val (.int p4), .val (.int p5), .val (.int (3 : Int32)), .val (.long y1), .second, .val (.long y2), .second, .val (.long y3), .second, .val (.long y4), .second, .unset, .unset, .unset, .unset, .unset, .unset, .unset] [(.int (11 : Int32)), (.int p5)])) _
    refine XS.ishr X0.here hx rfl (hb hby at_43) rfl ?_
    show Steps p.tables e below (s₁.setTop (mkF m 44 #[.val (.int p0), .val (.int p1), .val (.int p2), .val (.int p3), .val (.int p4), .val (.int p5), .val (.int (3 : Int32)), .val (.long y1), .second, .val (.long y2), .second, .val (.long y3), .second, .val (.long y4), .second, .unset, .unset, .unset, .unset, .unset, .unset, .unset] [(.int (p5 >>> ((11 : Int32) &&& 31)))])) _
    refine XS.i2l X0.here hx rfl (hb hby at_44) rfl ?_
    show Steps p.tables e below (s₁.setTop (mkF m 45 #[.val (.int p0), .val (.int p1), .val (.int p2), .val (.int p3), .val (.int p4), .val (.int p5), .val (.int (3 : Int32)), .val (.long y1), .second, .val (.long y2), .second, .val (.long y3), .second, .val (.long y4), .second, .unset, .unset, .unset, .unset, .unset, .unset, .unset] [(.long ((p5 >>> ((11 : Int32) &&& 31)).toInt64))])) _
    rw [← ey5]
    show Steps p.tables e below (s₁.setTop (mkF m 45 #[.val (.int p0), .val (.int p1), .val (.int p2), .val (.int p3), .val (.int p4), .val (.int p5), .val (.int (3 : Int32)), .val (.long y1), .second, .val (.long y2), .second, .val (.long y3), .second, .val (.long y4), .second, .unset, .unset, .unset, .unset, .unset, .unset, .unset] [(.long y5)])) _
    refine XS.lstore X0.here hx rfl (hb hby at_45) rfl (l' := #[.val (.int p0), .val (.int p1), .val (.int p2), .val (.int p3), .val (.int p4), .val (.int p5), .val (.int (3 : Int32)), .val (.long y1), .second, .val (.long y2), .second, .val (.long y3), .second, .val (.long y4), .second, .val (.long y5), .second, .unset, .unset, .unset, .unset, .unset]) rfl ?_
    show Steps p.tables e below (s₁.setTop (mkF m 47 #[.val (.int p0), .val (.int p1), .val (.int p2), .val (.int p3), .val (.int p4), .val (.int p5), .val (.int (3 : Int32)), .val (.long y1), .second, .val (.long y2), .second, .val (.long y3), .second, .val (.long y4), .second, .val (.long y5), .second, .unset, .unset, .unset, .unset, .unset] [])) _
    refine st1_ _ ?_
    show Steps p.tables e below (T1_.setTop (mkF m 50 #[.val (.int p0), .val (.int p1), .val (.int p2), .val (.int p3), .val (.int p4), .val (.int p5), .val (.int (3 : Int32)), .val (.long y1), .second, .val (.long y2), .second, .val (.long y3), .second, .val (.long y4), .second, .val (.long y5), .second, .unset, .unset, .unset, .unset, .unset] [(.ref b1_)])) _
    refine XS.dup X1_.here hx rfl (hb hby at_50) rfl rfl ?_
    show Steps p.tables e below (T1_.setTop (mkF m 51 #[.val (.int p0), .val (.int p1), .val (.int p2), .val (.int p3), .val (.int p4), .val (.int p5), .val (.int (3 : Int32)), .val (.long y1), .second, .val (.long y2), .second, .val (.long y3), .second, .val (.long y4), .second, .val (.long y5), .second, .unset, .unset, .unset, .unset, .unset] [(.ref b1_), (.ref b1_)])) _
    refine XS.iload X1_.here hx rfl (hb hby at_51) rfl ?_
    show Steps p.tables e below (T1_.setTop (mkF m 53 #[.val (.int p0), .val (.int p1), .val (.int p2), .val (.int p3), .val (.int p4), .val (.int p5), .val (.int (3 : Int32)), .val (.long y1), .second, .val (.long y2), .second, .val (.long y3), .second, .val (.long y4), .second, .val (.long y5), .second, .unset, .unset, .unset, .unset, .unset] [(.int (3 : Int32)), (.ref b1_), (.ref b1_)])) _
    refine XS.lload X1_.here hx rfl (hb hby at_53) rfl ?_
    show Steps p.tables e below (T1_.setTop (mkF m 55 #[.val (.int p0), .val (.int p1), .val (.int p2), .val (.int p3), .val (.int p4), .val (.int p5), .val (.int (3 : Int32)), .val (.long y1), .second, .val (.long y2), .second, .val (.long y3), .second, .val (.long y4), .second, .val (.long y5), .second, .unset, .unset, .unset, .unset, .unset] [(.long y1), (.int (3 : Int32)), (.ref b1_), (.ref b1_)])) _
    refine XS.l2dS X1_.here hx rfl (hb hby at_55) rfl (v := (FP.l2d y1)) rfl ?_
    show Steps p.tables e below (T1_.setTop (mkF m 56 #[.val (.int p0), .val (.int p1), .val (.int p2), .val (.int p3), .val (.int p4), .val (.int p5), .val (.int (3 : Int32)), .val (.long y1), .second, .val (.long y2), .second, .val (.long y3), .second, .val (.long y4), .second, .val (.long y5), .second, .unset, .unset, .unset, .unset, .unset] [(.double (FP.l2d y1)), (.int (3 : Int32)), (.ref b1_), (.ref b1_)])) _
    refine st2_.trans ?_
    show Steps p.tables e below (T2_.setTop (mkF m 59 #[.val (.int p0), .val (.int p1), .val (.int p2), .val (.int p3), .val (.int p4), .val (.int p5), .val (.int (3 : Int32)), .val (.long y1), .second, .val (.long y2), .second, .val (.long y3), .second, .val (.long y4), .second, .val (.long y5), .second, .unset, .unset, .unset, .unset, .unset] [(.ref b1_)])) _
    refine XS.astore X2_.here hx rfl (hb hby at_59) rfl rfl (l' := #[.val (.int p0), .val (.int p1), .val (.int p2), .val (.int p3), .val (.int p4), .val (.int p5), .val (.int (3 : Int32)), .val (.long y1), .second, .val (.long y2), .second, .val (.long y3), .second, .val (.long y4), .second, .val (.long y5), .second, .val (.ref b1_), .unset, .unset, .unset, .unset]) rfl ?_
    show Steps p.tables e below (T2_.setTop (mkF m 61 #[.val (.int p0), .val (.int p1), .val (.int p2), .val (.int p3), .val (.int p4), .val (.int p5), .val (.int (3 : Int32)), .val (.long y1), .second, .val (.long y2), .second, .val (.long y3), .second, .val (.long y4), .second, .val (.long y5), .second, .val (.ref b1_), .unset, .unset, .unset, .unset] [])) _
    refine XS.aload X2_.here hx rfl (hb hby at_61) rfl rfl ?_
    show Steps p.tables e below (T2_.setTop (mkF m 63 #[.val (.int p0), .val (.int p1), .val (.int p2), .val (.int p3), .val (.int p4), .val (.int p5), .val (.int (3 : Int32)), .val (.long y1), .second, .val (.long y2), .second, .val (.long y3), .second, .val (.long y4), .second, .val (.long y5), .second, .val (.ref b1_), .unset, .unset, .unset, .unset] [(.ref b1_)])) _
    refine XS.lload X2_.here hx rfl (hb hby at_63) rfl ?_
    show Steps p.tables e below (T2_.setTop (mkF m 65 #[.val (.int p0), .val (.int p1), .val (.int p2), .val (.int p3), .val (.int p4), .val (.int p5), .val (.int (3 : Int32)), .val (.long y1), .second, .val (.long y2), .second, .val (.long y3), .second, .val (.long y4), .second, .val (.long y5), .second, .val (.ref b1_), .unset, .unset, .unset, .unset] [(.long y2), (.ref b1_)])) _
    refine XS.l2dS X2_.here hx rfl (hb hby at_65) rfl (v := (FP.l2d y2)) rfl ?_
    show Steps p.tables e below (T2_.setTop (mkF m 66 #[.val (.int p0), .val (.int p1), .val (.int p2), .val (.int p3), .val (.int p4), .val (.int p5), .val (.int (3 : Int32)), .val (.long y1), .second, .val (.long y2), .second, .val (.long y3), .second, .val (.long y4), .second, .val (.long y5), .second, .val (.ref b1_), .unset, .unset, .unset, .unset] [(.double (FP.l2d y2)), (.ref b1_)])) _
    refine st5_.trans ?_
    show Steps p.tables e below (T5_.setTop (mkF m 69 #[.val (.int p0), .val (.int p1), .val (.int p2), .val (.int p3), .val (.int p4), .val (.int p5), .val (.int (3 : Int32)), .val (.long y1), .second, .val (.long y2), .second, .val (.long y3), .second, .val (.long y4), .second, .val (.long y5), .second, .val (.ref b1_), .unset, .unset, .unset, .unset] [])) _
    refine XS.aload X5_.here hx rfl (hb hby at_69) rfl rfl ?_
    show Steps p.tables e below (T5_.setTop (mkF m 71 #[.val (.int p0), .val (.int p1), .val (.int p2), .val (.int p3), .val (.int p4), .val (.int p5), .val (.int (3 : Int32)), .val (.long y1), .second, .val (.long y2), .second, .val (.long y3), .second, .val (.long y4), .second, .val (.long y5), .second, .val (.ref b1_), .unset, .unset, .unset, .unset] [(.ref b1_)])) _
    refine XS.lload X5_.here hx rfl (hb hby at_71) rfl ?_
    show Steps p.tables e below (T5_.setTop (mkF m 73 #[.val (.int p0), .val (.int p1), .val (.int p2), .val (.int p3), .val (.int p4), .val (.int p5), .val (.int (3 : Int32)), .val (.long y1), .second, .val (.long y2), .second, .val (.long y3), .second, .val (.long y4), .second, .val (.long y5), .second, .val (.ref b1_), .unset, .unset, .unset, .unset] [(.long y3), (.ref b1_)])) _
    refine XS.l2dS X5_.here hx rfl (hb hby at_73) rfl (v := (FP.l2d y3)) rfl ?_
    show Steps p.tables e below (T5_.setTop (mkF m 74 #[.val (.int p0), .val (.int p1), .val (.int p2), .val (.int p3), .val (.int p4), .val (.int p5), .val (.int (3 : Int32)), .val (.long y1), .second, .val (.long y2), .second, .val (.long y3), .second, .val (.long y4), .second, .val (.long y5), .second, .val (.ref b1_), .unset, .unset, .unset, .unset] [(.double (FP.l2d y3)), (.ref b1_)])) _
    refine st9_.trans ?_
    show Steps p.tables e below (T9_.setTop (mkF m 77 #[.val (.int p0), .val (.int p1), .val (.int p2), .val (.int p3), .val (.int p4), .val (.int p5), .val (.int (3 : Int32)), .val (.long y1), .second, .val (.long y2), .second, .val (.long y3), .second, .val (.long y4), .second, .val (.long y5), .second, .val (.ref b1_), .unset, .unset, .unset, .unset] [])) _
    refine XS.aload X9_.here hx rfl (hb hby at_77) rfl rfl ?_
    show Steps p.tables e below (T9_.setTop (mkF m 79 #[.val (.int p0), .val (.int p1), .val (.int p2), .val (.int p3), .val (.int p4), .val (.int p5), .val (.int (3 : Int32)), .val (.long y1), .second, .val (.long y2), .second, .val (.long y3), .second, .val (.long y4), .second, .val (.long y5), .second, .val (.ref b1_), .unset, .unset, .unset, .unset] [(.ref b1_)])) _
    refine XS.lload X9_.here hx rfl (hb hby at_79) rfl ?_
    show Steps p.tables e below (T9_.setTop (mkF m 81 #[.val (.int p0), .val (.int p1), .val (.int p2), .val (.int p3), .val (.int p4), .val (.int p5), .val (.int (3 : Int32)), .val (.long y1), .second, .val (.long y2), .second, .val (.long y3), .second, .val (.long y4), .second, .val (.long y5), .second, .val (.ref b1_), .unset, .unset, .unset, .unset] [(.long y4), (.ref b1_)])) _
    refine XS.l2dS X9_.here hx rfl (hb hby at_81) rfl (v := (FP.l2d y4)) rfl ?_
    show Steps p.tables e below (T9_.setTop (mkF m 82 #[.val (.int p0), .val (.int p1), .val (.int p2), .val (.int p3), .val (.int p4), .val (.int p5), .val (.int (3 : Int32)), .val (.long y1), .second, .val (.long y2), .second, .val (.long y3), .second, .val (.long y4), .second, .val (.long y5), .second, .val (.ref b1_), .unset, .unset, .unset, .unset] [(.double (FP.l2d y4)), (.ref b1_)])) _
    refine st12_.trans ?_
    show Steps p.tables e below (T12_.setTop (mkF m 85 #[.val (.int p0), .val (.int p1), .val (.int p2), .val (.int p3), .val (.int p4), .val (.int p5), .val (.int (3 : Int32)), .val (.long y1), .second, .val (.long y2), .second, .val (.long y3), .second, .val (.long y4), .second, .val (.long y5), .second, .val (.ref b1_), .unset, .unset, .unset, .unset] [])) _
    refine XS.iload X12_.here hx rfl (hb hby at_85) rfl ?_
    show Steps p.tables e below (T12_.setTop (mkF m 87 #[.val (.int p0), .val (.int p1), .val (.int p2), .val (.int p3), .val (.int p4), .val (.int p5), .val (.int (3 : Int32)), .val (.long y1), .second, .val (.long y2), .second, .val (.long y3), .second, .val (.long y4), .second, .val (.long y5), .second, .val (.ref b1_), .unset, .unset, .unset, .unset] [(.int (3 : Int32))])) _
    refine XS.iconst X12_.here hx rfl (hb hby at_87) ?_
    show Steps p.tables e below (T12_.setTop (mkF m 88 #[.val (.int p0), .val (.int p1), .val (.int p2), .val (.int p3), .val (.int p4), .val (.int p5), .val (.int (3 : Int32)), .val (.long y1), .second, .val (.long y2), .second, .val (.long y3), .second, .val (.long y4), .second, .val (.long y5), .second, .val (.ref b1_), .unset, .unset, .unset, .unset] [(.int (2 : Int32)), (.int (3 : Int32))])) _
    refine XS.icmpYes X12_.here hx rfl (pc0 := 88) (pc' := 113) rfl (hb hby at_88) rfl (feq ((by decide) : ¬ ((3 : Int32) = (2 : Int32)))).2 (by decide) (by decide) ?_
    show Steps p.tables e below (T12_.setTop (mkF m 113 #[.val (.int p0), .val (.int p1), .val (.int p2), .val (.int p3), .val (.int p4), .val (.int p5), .val (.int (3 : Int32)), .val (.long y1), .second, .val (.long y2), .second, .val (.long y3), .second, .val (.long y4), .second, .val (.long y5), .second, .val (.ref b1_), .unset, .unset, .unset, .unset] [])) _
    refine XS.iload X12_.here hx rfl (hb hby at_113) rfl ?_
    show Steps p.tables e below (T12_.setTop (mkF m 115 #[.val (.int p0), .val (.int p1), .val (.int p2), .val (.int p3), .val (.int p4), .val (.int p5), .val (.int (3 : Int32)), .val (.long y1), .second, .val (.long y2), .second, .val (.long y3), .second, .val (.long y4), .second, .val (.long y5), .second, .val (.ref b1_), .unset, .unset, .unset, .unset] [(.int (3 : Int32))])) _
    refine XS.iconst X12_.here hx rfl (hb hby at_115) ?_
    show Steps p.tables e below (T12_.setTop (mkF m 116 #[.val (.int p0), .val (.int p1), .val (.int p2), .val (.int p3), .val (.int p4), .val (.int p5), .val (.int (3 : Int32)), .val (.long y1), .second, .val (.long y2), .second, .val (.long y3), .second, .val (.long y4), .second, .val (.long y5), .second, .val (.ref b1_), .unset, .unset, .unset, .unset] [(.int (3 : Int32)), (.int (3 : Int32))])) _
    refine XS.icmpNo X12_.here hx rfl (hb hby at_116) rfl (teq ((by decide) : (3 : Int32) = (3 : Int32))).2 ?_
    show Steps p.tables e below (T12_.setTop (mkF m 119 #[.val (.int p0), .val (.int p1), .val (.int p2), .val (.int p3), .val (.int p4), .val (.int p5), .val (.int (3 : Int32)), .val (.long y1), .second, .val (.long y2), .second, .val (.long y3), .second, .val (.long y4), .second, .val (.long y5), .second, .val (.ref b1_), .unset, .unset, .unset, .unset] [])) _
    refine XS.lload X12_.here hx rfl (hb hby at_119) rfl ?_
    show Steps p.tables e below (T12_.setTop (mkF m 121 #[.val (.int p0), .val (.int p1), .val (.int p2), .val (.int p3), .val (.int p4), .val (.int p5), .val (.int (3 : Int32)), .val (.long y1), .second, .val (.long y2), .second, .val (.long y3), .second, .val (.long y4), .second, .val (.long y5), .second, .val (.ref b1_), .unset, .unset, .unset, .unset] [(.long y2)])) _
    refine XS.lload X12_.here hx rfl (hb hby at_121) rfl ?_
    show Steps p.tables e below (T12_.setTop (mkF m 123 #[.val (.int p0), .val (.int p1), .val (.int p2), .val (.int p3), .val (.int p4), .val (.int p5), .val (.int (3 : Int32)), .val (.long y1), .second, .val (.long y2), .second, .val (.long y3), .second, .val (.long y4), .second, .val (.long y5), .second, .val (.ref b1_), .unset, .unset, .unset, .unset] [(.long y5), (.long y2)])) _
    refine XS.lsub X12_.here hx rfl (hb hby at_123) rfl ?_
    show Steps p.tables e below (T12_.setTop (mkF m 124 #[.val (.int p0), .val (.int p1), .val (.int p2), .val (.int p3), .val (.int p4), .val (.int p5), .val (.int (3 : Int32)), .val (.long y1), .second, .val (.long y2), .second, .val (.long y3), .second, .val (.long y4), .second, .val (.long y5), .second, .val (.ref b1_), .unset, .unset, .unset, .unset] [(.long (y2 - y5))])) _
    refine st15_ _ ?_
    show Steps p.tables e below (T15_.setTop (mkF m 127 #[.val (.int p0), .val (.int p1), .val (.int p2), .val (.int p3), .val (.int p4), .val (.int p5), .val (.int (3 : Int32)), .val (.long y1), .second, .val (.long y2), .second, .val (.long y3), .second, .val (.long y4), .second, .val (.long y5), .second, .val (.ref b1_), .unset, .unset, .unset, .unset] [(.long ((y2 - y5) * (y2 - y5)))])) _
    refine XS.lload X15_.here hx rfl (hb hby at_127) rfl ?_
    show Steps p.tables e below (T15_.setTop (mkF m 129 #[.val (.int p0), .val (.int p1), .val (.int p2), .val (.int p3), .val (.int p4), .val (.int p5), .val (.int (3 : Int32)), .val (.long y1), .second, .val (.long y2), .second, .val (.long y3), .second, .val (.long y4), .second, .val (.long y5), .second, .val (.ref b1_), .unset, .unset, .unset, .unset] [(.long y3), (.long ((y2 - y5) * (y2 - y5)))])) _
    refine XS.lload X15_.here hx rfl (hb hby at_129) rfl ?_
    show Steps p.tables e below (T15_.setTop (mkF m 131 #[.val (.int p0), .val (.int p1), .val (.int p2), .val (.int p3), .val (.int p4), .val (.int p5), .val (.int (3 : Int32)), .val (.long y1), .second, .val (.long y2), .second, .val (.long y3), .second, .val (.long y4), .second, .val (.long y5), .second, .val (.ref b1_), .unset, .unset, .unset, .unset] [(.long y5), (.long y3), (.long ((y2 - y5) * (y2 - y5)))])) _
    refine XS.lsub X15_.here hx rfl (hb hby at_131) rfl ?_
    show Steps p.tables e below (T15_.setTop (mkF m 132 #[.val (.int p0), .val (.int p1), .val (.int p2), .val (.int p3), .val (.int p4), .val (.int p5), .val (.int (3 : Int32)), .val (.long y1), .second, .val (.long y2), .second, .val (.long y3), .second, .val (.long y4), .second, .val (.long y5), .second, .val (.ref b1_), .unset, .unset, .unset, .unset] [(.long (y3 - y5)), (.long ((y2 - y5) * (y2 - y5)))])) _
    refine st17_ _ ?_
    show Steps p.tables e below (T17_.setTop (mkF m 135 #[.val (.int p0), .val (.int p1), .val (.int p2), .val (.int p3), .val (.int p4), .val (.int p5), .val (.int (3 : Int32)), .val (.long y1), .second, .val (.long y2), .second, .val (.long y3), .second, .val (.long y4), .second, .val (.long y5), .second, .val (.ref b1_), .unset, .unset, .unset, .unset] [(.long ((y3 - y5) * (y3 - y5))), (.long ((y2 - y5) * (y2 - y5)))])) _
    refine XS.ladd X17_.here hx rfl (hb hby at_135) rfl ?_
    show Steps p.tables e below (T17_.setTop (mkF m 136 #[.val (.int p0), .val (.int p1), .val (.int p2), .val (.int p3), .val (.int p4), .val (.int p5), .val (.int (3 : Int32)), .val (.long y1), .second, .val (.long y2), .second, .val (.long y3), .second, .val (.long y4), .second, .val (.long y5), .second, .val (.ref b1_), .unset, .unset, .unset, .unset] [(.long (((y2 - y5) * (y2 - y5)) + ((y3 - y5) * (y3 - y5))))])) _
    refine XS.lload X17_.here hx rfl (hb hby at_136) rfl ?_
    show Steps p.tables e below (T17_.setTop (mkF m 138 #[.val (.int p0), .val (.int p1), .val (.int p2), .val (.int p3), .val (.int p4), .val (.int p5), .val (.int (3 : Int32)), .val (.long y1), .second, .val (.long y2), .second, .val (.long y3), .second, .val (.long y4), .second, .val (.long y5), .second, .val (.ref b1_), .unset, .unset, .unset, .unset] [(.long y4), (.long (((y2 - y5) * (y2 - y5)) + ((y3 - y5) * (y3 - y5))))])) _
    refine XS.lload X17_.here hx rfl (hb hby at_138) rfl ?_
    show Steps p.tables e below (T17_.setTop (mkF m 140 #[.val (.int p0), .val (.int p1), .val (.int p2), .val (.int p3), .val (.int p4), .val (.int p5), .val (.int (3 : Int32)), .val (.long y1), .second, .val (.long y2), .second, .val (.long y3), .second, .val (.long y4), .second, .val (.long y5), .second, .val (.ref b1_), .unset, .unset, .unset, .unset] [(.long y5), (.long y4), (.long (((y2 - y5) * (y2 - y5)) + ((y3 - y5) * (y3 - y5))))])) _
    refine XS.lsub X17_.here hx rfl (hb hby at_140) rfl ?_
    show Steps p.tables e below (T17_.setTop (mkF m 141 #[.val (.int p0), .val (.int p1), .val (.int p2), .val (.int p3), .val (.int p4), .val (.int p5), .val (.int (3 : Int32)), .val (.long y1), .second, .val (.long y2), .second, .val (.long y3), .second, .val (.long y4), .second, .val (.long y5), .second, .val (.ref b1_), .unset, .unset, .unset, .unset] [(.long (y4 - y5)), (.long (((y2 - y5) * (y2 - y5)) + ((y3 - y5) * (y3 - y5))))])) _
    refine st18_ _ ?_
    show Steps p.tables e below (T18_.setTop (mkF m 144 #[.val (.int p0), .val (.int p1), .val (.int p2), .val (.int p3), .val (.int p4), .val (.int p5), .val (.int (3 : Int32)), .val (.long y1), .second, .val (.long y2), .second, .val (.long y3), .second, .val (.long y4), .second, .val (.long y5), .second, .val (.ref b1_), .unset, .unset, .unset, .unset] [(.long ((y4 - y5) * (y4 - y5))), (.long (((y2 - y5) * (y2 - y5)) + ((y3 - y5) * (y3 - y5))))])) _
    refine XS.ladd X18_.here hx rfl (hb hby at_144) rfl ?_
    show Steps p.tables e below (T18_.setTop (mkF m 145 #[.val (.int p0), .val (.int p1), .val (.int p2), .val (.int p3), .val (.int p4), .val (.int p5), .val (.int (3 : Int32)), .val (.long y1), .second, .val (.long y2), .second, .val (.long y3), .second, .val (.long y4), .second, .val (.long y5), .second, .val (.ref b1_), .unset, .unset, .unset, .unset] [(.long ((((y2 - y5) * (y2 - y5)) + ((y3 - y5) * (y3 - y5))) + ((y4 - y5) * (y4 - y5))))])) _
    refine XS.lstore X18_.here hx rfl (hb hby at_145) rfl (l' := #[.val (.int p0), .val (.int p1), .val (.int p2), .val (.int p3), .val (.int p4), .val (.int p5), .val (.int (3 : Int32)), .val (.long y1), .second, .val (.long y2), .second, .val (.long y3), .second, .val (.long y4), .second, .val (.long y5), .second, .val (.ref b1_), .val (.long ((((y2 - y5) * (y2 - y5)) + ((y3 - y5) * (y3 - y5))) + ((y4 - y5) * (y4 - y5)))), .second, .unset, .unset]) rfl ?_
    show Steps p.tables e below (T18_.setTop (mkF m 147 #[.val (.int p0), .val (.int p1), .val (.int p2), .val (.int p3), .val (.int p4), .val (.int p5), .val (.int (3 : Int32)), .val (.long y1), .second, .val (.long y2), .second, .val (.long y3), .second, .val (.long y4), .second, .val (.long y5), .second, .val (.ref b1_), .val (.long ((((y2 - y5) * (y2 - y5)) + ((y3 - y5) * (y3 - y5))) + ((y4 - y5) * (y4 - y5)))), .second, .unset, .unset] [])) _
    refine XS.goto X18_.here hx rfl (pc0 := 147) (pc' := 187) rfl (hb hby at_147) (by decide) (by decide) ?_
    show Steps p.tables e below (T18_.setTop (mkF m 187 #[.val (.int p0), .val (.int p1), .val (.int p2), .val (.int p3), .val (.int p4), .val (.int p5), .val (.int (3 : Int32)), .val (.long y1), .second, .val (.long y2), .second, .val (.long y3), .second, .val (.long y4), .second, .val (.long y5), .second, .val (.ref b1_), .val (.long ((((y2 - y5) * (y2 - y5)) + ((y3 - y5) * (y3 - y5))) + ((y4 - y5) * (y4 - y5)))), .second, .unset, .unset] [])) _
    refine XS.lload X18_.here hx rfl (hb hby at_187) rfl ?_
    show Steps p.tables e below (T18_.setTop (mkF m 189 #[.val (.int p0), .val (.int p1), .val (.int p2), .val (.int p3), .val (.int p4), .val (.int p5), .val (.int (3 : Int32)), .val (.long y1), .second, .val (.long y2), .second, .val (.long y3), .second, .val (.long y4), .second, .val (.long y5), .second, .val (.ref b1_), .val (.long ((((y2 - y5) * (y2 - y5)) + ((y3 - y5) * (y3 - y5))) + ((y4 - y5) * (y4 - y5)))), .second, .unset, .unset] [(.long ((((y2 - y5) * (y2 - y5)) + ((y3 - y5) * (y3 - y5))) + ((y4 - y5) * (y4 - y5))))])) _
    refine XS.l2dS X18_.here hx rfl (hb hby at_189) rfl (v := (FP.l2d ((((y2 - y5) * (y2 - y5)) + ((y3 - y5) * (y3 - y5))) + ((y4 - y5) * (y4 - y5))))) rfl ?_
    show Steps p.tables e below (T18_.setTop (mkF m 190 #[.val (.int p0), .val (.int p1), .val (.int p2), .val (.int p3), .val (.int p4), .val (.int p5), .val (.int (3 : Int32)), .val (.long y1), .second, .val (.long y2), .second, .val (.long y3), .second, .val (.long y4), .second, .val (.long y5), .second, .val (.ref b1_), .val (.long ((((y2 - y5) * (y2 - y5)) + ((y3 - y5) * (y3 - y5))) + ((y4 - y5) * (y4 - y5)))), .second, .unset, .unset] [(.double (FP.l2d ((((y2 - y5) * (y2 - y5)) + ((y3 - y5) * (y3 - y5))) + ((y4 - y5) * (y4 - y5)))))])) _
    refine XS.iload X18_.here hx rfl (hb hby at_190) rfl ?_
    show Steps p.tables e below (T18_.setTop (mkF m 192 #[.val (.int p0), .val (.int p1), .val (.int p2), .val (.int p3), .val (.int p4), .val (.int p5), .val (.int (3 : Int32)), .val (.long y1), .second, .val (.long y2), .second, .val (.long y3), .second, .val (.long y4), .second, .val (.long y5), .second, .val (.ref b1_), .val (.long ((((y2 - y5) * (y2 - y5)) + ((y3 - y5) * (y3 - y5))) + ((y4 - y5) * (y4 - y5)))), .second, .unset, .unset] [(.int (3 : Int32)), (.double (FP.l2d ((((y2 - y5) * (y2 - y5)) + ((y3 - y5) * (y3 - y5))) + ((y4 - y5) * (y4 - y5)))))])) _
    refine XS.iconst X18_.here hx rfl (hb hby at_192) ?_
    show Steps p.tables e below (T18_.setTop (mkF m 193 #[.val (.int p0), .val (.int p1), .val (.int p2), .val (.int p3), .val (.int p4), .val (.int p5), .val (.int (3 : Int32)), .val (.long y1), .second, .val (.long y2), .second, .val (.long y3), .second, .val (.long y4), .second, .val (.long y5), .second, .val (.ref b1_), .val (.long ((((y2 - y5) * (y2 - y5)) + ((y3 - y5) * (y3 - y5))) + ((y4 - y5) * (y4 - y5)))), .second, .unset, .unset] [(.int (1 : Int32)), (.int (3 : Int32)), (.double (FP.l2d ((((y2 - y5) * (y2 - y5)) + ((y3 - y5) * (y3 - y5))) + ((y4 - y5) * (y4 - y5)))))])) _
    refine XS.isub X18_.here hx rfl (hb hby at_193) rfl ?_
    show Steps p.tables e below (T18_.setTop (mkF m 194 #[.val (.int p0), .val (.int p1), .val (.int p2), .val (.int p3), .val (.int p4), .val (.int p5), .val (.int (3 : Int32)), .val (.long y1), .second, .val (.long y2), .second, .val (.long y3), .second, .val (.long y4), .second, .val (.long y5), .second, .val (.ref b1_), .val (.long ((((y2 - y5) * (y2 - y5)) + ((y3 - y5) * (y3 - y5))) + ((y4 - y5) * (y4 - y5)))), .second, .unset, .unset] [(.int (2 : Int32)), (.double (FP.l2d ((((y2 - y5) * (y2 - y5)) + ((y3 - y5) * (y3 - y5))) + ((y4 - y5) * (y4 - y5)))))])) _
    refine XS.i2dS X18_.here hx rfl (hb hby at_194) rfl (v := (FP.i2d (2 : Int32))) rfl ?_
    show Steps p.tables e below (T18_.setTop (mkF m 195 #[.val (.int p0), .val (.int p1), .val (.int p2), .val (.int p3), .val (.int p4), .val (.int p5), .val (.int (3 : Int32)), .val (.long y1), .second, .val (.long y2), .second, .val (.long y3), .second, .val (.long y4), .second, .val (.long y5), .second, .val (.ref b1_), .val (.long ((((y2 - y5) * (y2 - y5)) + ((y3 - y5) * (y3 - y5))) + ((y4 - y5) * (y4 - y5)))), .second, .unset, .unset] [(.double (FP.i2d (2 : Int32))), (.double (FP.l2d ((((y2 - y5) * (y2 - y5)) + ((y3 - y5) * (y3 - y5))) + ((y4 - y5) * (y4 - y5)))))])) _
    refine XS.ddivS X18_.here hx rfl (hb hby at_195) rfl q19_ (v := (FP.ddiv (FP.l2d ((((y2 - y5) * (y2 - y5)) + ((y3 - y5) * (y3 - y5))) + ((y4 - y5) * (y4 - y5)))) (FP.i2d (2 : Int32)))) rfl ?_
    show Steps p.tables e below (T18_.setTop (mkF m 196 #[.val (.int p0), .val (.int p1), .val (.int p2), .val (.int p3), .val (.int p4), .val (.int p5), .val (.int (3 : Int32)), .val (.long y1), .second, .val (.long y2), .second, .val (.long y3), .second, .val (.long y4), .second, .val (.long y5), .second, .val (.ref b1_), .val (.long ((((y2 - y5) * (y2 - y5)) + ((y3 - y5) * (y3 - y5))) + ((y4 - y5) * (y4 - y5)))), .second, .unset, .unset] [(.double (FP.ddiv (FP.l2d ((((y2 - y5) * (y2 - y5)) + ((y3 - y5) * (y3 - y5))) + ((y4 - y5) * (y4 - y5)))) (FP.i2d (2 : Int32))))])) _
    refine XS.dstore X18_.here hx rfl (hb hby at_196) rfl (l' := #[.val (.int p0), .val (.int p1), .val (.int p2), .val (.int p3), .val (.int p4), .val (.int p5), .val (.int (3 : Int32)), .val (.long y1), .second, .val (.long y2), .second, .val (.long y3), .second, .val (.long y4), .second, .val (.long y5), .second, .val (.ref b1_), .val (.long ((((y2 - y5) * (y2 - y5)) + ((y3 - y5) * (y3 - y5))) + ((y4 - y5) * (y4 - y5)))), .second, .val (.double (FP.ddiv (FP.l2d ((((y2 - y5) * (y2 - y5)) + ((y3 - y5) * (y3 - y5))) + ((y4 - y5) * (y4 - y5)))) (FP.i2d (2 : Int32)))), .second]) rfl ?_
    show Steps p.tables e below (T18_.setTop (mkF m 198 #[.val (.int p0), .val (.int p1), .val (.int p2), .val (.int p3), .val (.int p4), .val (.int p5), .val (.int (3 : Int32)), .val (.long y1), .second, .val (.long y2), .second, .val (.long y3), .second, .val (.long y4), .second, .val (.long y5), .second, .val (.ref b1_), .val (.long ((((y2 - y5) * (y2 - y5)) + ((y3 - y5) * (y3 - y5))) + ((y4 - y5) * (y4 - y5)))), .second, .val (.double (FP.ddiv (FP.l2d ((((y2 - y5) * (y2 - y5)) + ((y3 - y5) * (y3 - y5))) + ((y4 - y5) * (y4 - y5)))) (FP.i2d (2 : Int32)))), .second] [])) _
    refine XS.aload X18_.here hx rfl (hb hby at_198) rfl rfl ?_
    show Steps p.tables e below (T18_.setTop (mkF m 200 #[.val (.int p0), .val (.int p1), .val (.int p2), .val (.int p3), .val (.int p4), .val (.int p5), .val (.int (3 : Int32)), .val (.long y1), .second, .val (.long y2), .second, .val (.long y3), .second, .val (.long y4), .second, .val (.long y5), .second, .val (.ref b1_), .val (.long ((((y2 - y5) * (y2 - y5)) + ((y3 - y5) * (y3 - y5))) + ((y4 - y5) * (y4 - y5)))), .second, .val (.double (FP.ddiv (FP.l2d ((((y2 - y5) * (y2 - y5)) + ((y3 - y5) * (y3 - y5))) + ((y4 - y5) * (y4 - y5)))) (FP.i2d (2 : Int32)))), .second] [(.ref b1_)])) _
    refine XS.lload X18_.here hx rfl (hb hby at_200) rfl ?_
    show Steps p.tables e below (T18_.setTop (mkF m 202 #[.val (.int p0), .val (.int p1), .val (.int p2), .val (.int p3), .val (.int p4), .val (.int p5), .val (.int (3 : Int32)), .val (.long y1), .second, .val (.long y2), .second, .val (.long y3), .second, .val (.long y4), .second, .val (.long y5), .second, .val (.ref b1_), .val (.long ((((y2 - y5) * (y2 - y5)) + ((y3 - y5) * (y3 - y5))) + ((y4 - y5) * (y4 - y5)))), .second, .val (.double (FP.ddiv (FP.l2d ((((y2 - y5) * (y2 - y5)) + ((y3 - y5) * (y3 - y5))) + ((y4 - y5) * (y4 - y5)))) (FP.i2d (2 : Int32)))), .second] [(.long y5), (.ref b1_)])) _
    refine XS.l2dS X18_.here hx rfl (hb hby at_202) rfl (v := (FP.l2d y5)) rfl ?_
    show Steps p.tables e below (T18_.setTop (mkF m 203 #[.val (.int p0), .val (.int p1), .val (.int p2), .val (.int p3), .val (.int p4), .val (.int p5), .val (.int (3 : Int32)), .val (.long y1), .second, .val (.long y2), .second, .val (.long y3), .second, .val (.long y4), .second, .val (.long y5), .second, .val (.ref b1_), .val (.long ((((y2 - y5) * (y2 - y5)) + ((y3 - y5) * (y3 - y5))) + ((y4 - y5) * (y4 - y5)))), .second, .val (.double (FP.ddiv (FP.l2d ((((y2 - y5) * (y2 - y5)) + ((y3 - y5) * (y3 - y5))) + ((y4 - y5) * (y4 - y5)))) (FP.i2d (2 : Int32)))), .second] [(.double (FP.l2d y5)), (.ref b1_)])) _
    refine st20_.trans ?_
    show Steps p.tables e below (T20_.setTop (mkF m 206 #[.val (.int p0), .val (.int p1), .val (.int p2), .val (.int p3), .val (.int p4), .val (.int p5), .val (.int (3 : Int32)), .val (.long y1), .second, .val (.long y2), .second, .val (.long y3), .second, .val (.long y4), .second, .val (.long y5), .second, .val (.ref b1_), .val (.long ((((y2 - y5) * (y2 - y5)) + ((y3 - y5) * (y3 - y5))) + ((y4 - y5) * (y4 - y5)))), .second, .val (.double (FP.ddiv (FP.l2d ((((y2 - y5) * (y2 - y5)) + ((y3 - y5) * (y3 - y5))) + ((y4 - y5) * (y4 - y5)))) (FP.i2d (2 : Int32)))), .second] [(.double (FP.ddiv (FP.l2d ((((0 : Int64) + ((y2 - y5) * (y2 - y5))) + ((y3 - y5) * (y3 - y5))) + ((y4 - y5) * (y4 - y5)))) (FP.i2d (2 : Int32))))])) _
    refine XS.dload X20_.here hx rfl (hb hby at_206) rfl ?_
    show Steps p.tables e below (T20_.setTop (mkF m 208 #[.val (.int p0), .val (.int p1), .val (.int p2), .val (.int p3), .val (.int p4), .val (.int p5), .val (.int (3 : Int32)), .val (.long y1), .second, .val (.long y2), .second, .val (.long y3), .second, .val (.long y4), .second, .val (.long y5), .second, .val (.ref b1_), .val (.long ((((y2 - y5) * (y2 - y5)) + ((y3 - y5) * (y3 - y5))) + ((y4 - y5) * (y4 - y5)))), .second, .val (.double (FP.ddiv (FP.l2d ((((y2 - y5) * (y2 - y5)) + ((y3 - y5) * (y3 - y5))) + ((y4 - y5) * (y4 - y5)))) (FP.i2d (2 : Int32)))), .second] [(.double (FP.ddiv (FP.l2d ((((y2 - y5) * (y2 - y5)) + ((y3 - y5) * (y3 - y5))) + ((y4 - y5) * (y4 - y5)))) (FP.i2d (2 : Int32)))), (.double (FP.ddiv (FP.l2d ((((0 : Int64) + ((y2 - y5) * (y2 - y5))) + ((y3 - y5) * (y3 - y5))) + ((y4 - y5) * (y4 - y5)))) (FP.i2d (2 : Int32))))])) _
    refine XS.dcmpS X20_.here hx rfl (hb hby at_208) rfl (v := (cmpValue (FP.dcmp (FP.ddiv (FP.l2d ((((0 : Int64) + ((y2 - y5) * (y2 - y5))) + ((y3 - y5) * (y3 - y5))) + ((y4 - y5) * (y4 - y5)))) (FP.i2d (2 : Int32))) (FP.ddiv (FP.l2d ((((y2 - y5) * (y2 - y5)) + ((y3 - y5) * (y3 - y5))) + ((y4 - y5) * (y4 - y5)))) (FP.i2d (2 : Int32)))) .l)) rfl ?_
    show Steps p.tables e below (T20_.setTop (mkF m 209 #[.val (.int p0), .val (.int p1), .val (.int p2), .val (.int p3), .val (.int p4), .val (.int p5), .val (.int (3 : Int32)), .val (.long y1), .second, .val (.long y2), .second, .val (.long y3), .second, .val (.long y4), .second, .val (.long y5), .second, .val (.ref b1_), .val (.long ((((y2 - y5) * (y2 - y5)) + ((y3 - y5) * (y3 - y5))) + ((y4 - y5) * (y4 - y5)))), .second, .val (.double (FP.ddiv (FP.l2d ((((y2 - y5) * (y2 - y5)) + ((y3 - y5) * (y3 - y5))) + ((y4 - y5) * (y4 - y5)))) (FP.i2d (2 : Int32)))), .second] [(.int (cmpValue (FP.dcmp (FP.ddiv (FP.l2d ((((0 : Int64) + ((y2 - y5) * (y2 - y5))) + ((y3 - y5) * (y3 - y5))) + ((y4 - y5) * (y4 - y5)))) (FP.i2d (2 : Int32))) (FP.ddiv (FP.l2d ((((y2 - y5) * (y2 - y5)) + ((y3 - y5) * (y3 - y5))) + ((y4 - y5) * (y4 - y5)))) (FP.i2d (2 : Int32)))) .l))])) _
    refine XS.ifNo X20_.here hx rfl (hb hby at_209) rfl ((if0 _ _).trans (teq (hcmp : (cmpValue (FP.dcmp (FP.ddiv (FP.l2d ((((0 : Int64) + ((y2 - y5) * (y2 - y5))) + ((y3 - y5) * (y3 - y5))) + ((y4 - y5) * (y4 - y5)))) (FP.i2d (2 : Int32))) (FP.ddiv (FP.l2d ((((y2 - y5) * (y2 - y5)) + ((y3 - y5) * (y3 - y5))) + ((y4 - y5) * (y4 - y5)))) (FP.i2d (2 : Int32)))) .l) = (0 : Int32))).2) ?_
    show Steps p.tables e below (T20_.setTop (mkF m 212 #[.val (.int p0), .val (.int p1), .val (.int p2), .val (.int p3), .val (.int p4), .val (.int p5), .val (.int (3 : Int32)), .val (.long y1), .second, .val (.long y2), .second, .val (.long y3), .second, .val (.long y4), .second, .val (.long y5), .second, .val (.ref b1_), .val (.long ((((y2 - y5) * (y2 - y5)) + ((y3 - y5) * (y3 - y5))) + ((y4 - y5) * (y4 - y5)))), .second, .val (.double (FP.ddiv (FP.l2d ((((y2 - y5) * (y2 - y5)) + ((y3 - y5) * (y3 - y5))) + ((y4 - y5) * (y4 - y5)))) (FP.i2d (2 : Int32)))), .second] [])) _
    refine XS.iconst X20_.here hx rfl (hb hby at_212) ?_
    show Steps p.tables e below (T20_.setTop (mkF m 213 #[.val (.int p0), .val (.int p1), .val (.int p2), .val (.int p3), .val (.int p4), .val (.int p5), .val (.int (3 : Int32)), .val (.long y1), .second, .val (.long y2), .second, .val (.long y3), .second, .val (.long y4), .second, .val (.long y5), .second, .val (.ref b1_), .val (.long ((((y2 - y5) * (y2 - y5)) + ((y3 - y5) * (y3 - y5))) + ((y4 - y5) * (y4 - y5)))), .second, .val (.double (FP.ddiv (FP.l2d ((((y2 - y5) * (y2 - y5)) + ((y3 - y5) * (y3 - y5))) + ((y4 - y5) * (y4 - y5)))) (FP.i2d (2 : Int32)))), .second] [(.int (1 : Int32))])) _
    refine XS.goto X20_.here hx rfl (pc0 := 213) (pc' := 217) rfl (hb hby at_213) (by decide) (by decide) ?_
    show Steps p.tables e below (T20_.setTop (mkF m 217 #[.val (.int p0), .val (.int p1), .val (.int p2), .val (.int p3), .val (.int p4), .val (.int p5), .val (.int (3 : Int32)), .val (.long y1), .second, .val (.long y2), .second, .val (.long y3), .second, .val (.long y4), .second, .val (.long y5), .second, .val (.ref b1_), .val (.long ((((y2 - y5) * (y2 - y5)) + ((y3 - y5) * (y3 - y5))) + ((y4 - y5) * (y4 - y5)))), .second, .val (.double (FP.ddiv (FP.l2d ((((y2 - y5) * (y2 - y5)) + ((y3 - y5) * (y3 - y5))) + ((y4 - y5) * (y4 - y5)))) (FP.i2d (2 : Int32)))), .second] [(.int (1 : Int32))])) _
    exact retN X20_ hx (t := .boolean) Bd.returns (by simp) (hb hby at_217) hr
  · show Q_rm0_3 Z p0 p1 p2 p3 p4 p5 y1 y2 y3 y4 y5 h0 n0 _ T20_.heap _
    rw [ek20_]
    exact ⟨rfl, N20_⟩
theorem ef_rm0_4 (m : MethodId) (x0 : Int32) (x1 : Int32) (x2 : Int32) (x3 : Int32) (x4 : Int32) (x5 : Int32) : entryFrame m #[(.int x0), (.int x1), (.int x2), (.int x3), (.int x4), (.int x5)] maxLocals = mkF m 0 #[.val (.int x0), .val (.int x1), .val (.int x2), .val (.int x3), .val (.int x4), .val (.int x5), .unset, .unset, .unset, .unset, .unset, .unset, .unset, .unset, .unset, .unset, .unset, .unset, .unset, .unset, .unset, .unset] [] := by first | (simp [entryFrame, mkF, argsToLocals, Value.category, maxLocals]; done) | rfl
def Q_rm0_4 (Z : State) (p0 : Int32) (p1 : Int32) (p2 : Int32) (p3 : Int32) (p4 : Int32) (p5 : Int32) (y1 : Int64) (y2 : Int64) (y3 : Int64) (y4 : Int64) (y5 : Int64) (h0 : Heap) (n0 : Nat) (v : Option Value) (h : Heap) (L : List Loc) : Prop := v = some (.int (1 : Int32)) ∧ Fr n0 L
set_option maxRecDepth 65536 in
set_option maxHeartbeats 40000000 in
theorem rm0_4 (l : Launch) (Z : State) (a0 : Array Value) (hw : ∀ d ∈ tables_1, d.before a0 Z = true) (ws : List Jvm.Cond) (p0 : Int32) (p1 : Int32) (p2 : Int32) (p3 : Int32) (p4 : Int32) (p5 : Int32) (y1 : Int64) (y2 : Int64) (y3 : Int64) (y4 : Int64) (y5 : Int64) (h0 : Heap) (n0 : Nat) (Z0 : n0 ≤ h0.size) (hn : ((2 : Int32) + ((p0 &&& (2147483647 : Int32)) - (((p0 &&& (2147483647 : Int32)) / (3 : Int32)) * (3 : Int32)))) = (4 : Int32)) (ey1 : y1 = ((p1 >>> ((11 : Int32) &&& 31)).toInt64)) (ey2 : y2 = ((p2 >>> ((11 : Int32) &&& 31)).toInt64)) (ey3 : y3 = ((p3 >>> ((11 : Int32) &&& 31)).toInt64)) (ey4 : y4 = ((p4 >>> ((11 : Int32) &&& 31)).toInt64)) (ey5 : y5 = ((p5 >>> ((11 : Int32) &&& 31)).toInt64)) (by1 : own_R y1 1048576) (by2 : own_R y2 1048576) (by3 : own_R y3 1048576) (by4 : own_R y4 1048576) (by5 : own_R y5 1048576) :
    MetFree l x (head1 (Jvm.Cond.code x code maxLocals ret :: ws) room_1) (fun a U => a = #[(.int p0), (.int p1), (.int p2), (.int p3), (.int p4), (.int p5)] ∧ Z.Warmed39 U.vm ∧ U.heap = h0) (fun _ _ _ _ _ => True) (fun _ U o U' => ∃ v L, o = .returned v ∧ Q_rm0_4 Z p0 p1 p2 p3 p4 p5 y1 y2 y3 y4 y5 h0 n0 v U'.heap L ∧ FrameEnd U o U' L room_1.cells room_1.slots) := by
  refine MetFree.of_bodySF (plainFor_of_name pn_com_example_whipstill_whipstill_MovingWindowSampleVariancePinLaw) hisR ?_
  intro p e s m args below meth c s₁ Bd hml0 hP hK
  obtain ⟨rfl, hZ, hh⟩ := hP
  have hx := Bd.exec
  have hby := Bd.bytes
  have hml : c.maxLocals = 22 := hml0
  have hown : s.vm.findClass "com/example/whipstill/whipstill/MovingWindowSampleVariancePinLaw" = some m.cls := findClass_of_methodNamed Bd.named
  have hnm := (name_of_methodNamed Bd.named Bd.method).1
  have X0 : Stand p l e room_1 s m #[(.int p0), (.int p1), (.int p2), (.int p3), (.int p4), (.int p5)] below meth c s₁ [] 0 0 := Stand.of_body Bd
  have e0 : s₁.heap = h0 := by rw [← hh, Bd.state]; rfl
  have N0 := Fr.nil n0
  have pre0 : ∀ t, Steps p.tables e below (s₁.setTop (mkF m 0 #[.val (.int p0), .val (.int p1), .val (.int p2), .val (.int p3), .val (.int p4), .val (.int p5), .unset, .unset, .unset, .unset, .unset, .unset, .unset, .unset, .unset, .unset, .unset, .unset, .unset, .unset, .unset, .unset] [])) t → Steps p.tables e below (s₁.setTop (entryFrame m #[(.int p0), (.int p1), (.int p2), (.int p3), (.int p4), (.int p5)] maxLocals)) t := fun t k => castTop (ef_rm0_4 m p0 p1 p2 p3 p4 p5) k
  obtain ⟨T1_, h1_, X1_, e1_, E1_, A1_, D1_, U1_, st1_⟩ := newO X0 hx hZ hown (hw _ (List.mem_of_getElem? (i := 1) rfl)) (hw _ (List.mem_of_getElem? (i := 2) rfl)) (hw _ (List.mem_of_getElem? (i := 3) rfl)) e0 (g := (mkF m 47 #[.val (.int p0), .val (.int p1), .val (.int p2), .val (.int p3), .val (.int p4), .val (.int p5), .val (.int (4 : Int32)), .val (.long y1), .second, .val (.long y2), .second, .val (.long y3), .second, .val (.long y4), .second, .val (.long y5), .second, .unset, .unset, .unset, .unset, .unset] [])) rfl (hb hby at_47) (by decide) (by decide)
  obtain ⟨b1_, g1_⟩ : ∃ z, z = h0.size := ⟨_, rfl⟩
  rw [← g1_] at A1_ D1_ U1_ st1_
  have F1__values : Fld Z h1_ b1_ "com/example/whipstill/whipstill/MovingWindow" "values" "[D" .null := D1_ (Or.inr (hw _ (List.mem_of_getElem? (i := 12) rfl))) (ty := (.array .double)) (by decide)
  have F1__oldest : Fld Z h1_ b1_ "com/example/whipstill/whipstill/MovingWindow" "oldest" "I" (.int (0 : Int32)) := D1_ (Or.inl (hw _ (List.mem_of_getElem? (i := 23) rfl))) (ty := .int) (by decide)
  have g3_ : n0 ≤ b1_ := Nat.le_trans Z0 (Nat.le_of_eq g1_.symm)
  have z4_ : n0 ≤ h1_.size := Nat.le_trans Z0 E1_.1
  obtain ⟨_, _, ⟨T2_, L2_, k2_, n2_⟩, -, X2_, ⟨Lc2_, hQ2_, l2_, y2_, z2_⟩, st2_⟩ := X1_.specialBack hx (y := (⟨"com/example/whipstill/whipstill/MovingWindow", "<init>", "(ID)V"⟩ : MethodName)) rfl hown (mvT hZ (hw _ (List.mem_of_getElem? (i := 4) rfl))) (mvT hZ (hw _ (List.mem_of_getElem? (i := 5) rfl))) (mvT hZ (hw _ (List.mem_of_getElem? (i := 6) rfl))) (by decide) (backOf (W := 1) (rmInit4 l Z a0 hw [] b1_ (FP.l2d y1) h1_ n0 z4_ A1_ F1__values F1__oldest g3_) hZ (hw _ (List.mem_of_getElem? (i := 6) rfl)) (hw _ (List.mem_of_getElem? (i := 3) rfl)) (by decide) (by decide)) (g := (mkF m 56 #[.val (.int p0), .val (.int p1), .val (.int p2), .val (.int p3), .val (.int p4), .val (.int p5), .val (.int (4 : Int32)), .val (.long y1), .second, .val (.long y2), .second, .val (.long y3), .second, .val (.long y4), .second, .val (.long y5), .second, .unset, .unset, .unset, .unset, .unset] [(.double (FP.l2d y1)), (.int (4 : Int32)), (.ref b1_), (.ref b1_)])) rfl (by rw [hml]; rfl) (Steps.refl _) (a := b1_) (argsL := [(.int (4 : Int32)), (.double (FP.l2d y1))]) (rest := [(.ref b1_)]) (lenOf pd_qIDzV rfl) rfl (by show 2 * 0 + _ ≤ _; exact Nat.le_of_eq rfl) (hb hby at_56) (fun _ _ => ⟨rfl, e1_, (by decide : 1 + 1 ≤ _), (by decide : 2 + 4 ≤ _)⟩)
  dsimp only [Pt.U, Pt.locs, Pt.cells, Pt.slots] at X2_ l2_ y2_ z2_ st2_ hQ2_
  subst l2_ y2_ z2_
  obtain ⟨t_2_, k_2_, rfl, Nq2_, ek2_, p2__0, p2__1, p2__2, p2__3, p2__4⟩ := hQ2_
  have N2_ := Fr.app N0 Nq2_
  have g6_ : n0 ≤ t_2_ := Nat.le_trans z4_ p2__0
  have z7_ : n0 ≤ T2_.heap.size := Nat.le_trans z4_ ek2_.1
  obtain ⟨cq8_, kq8_, qa8_, qb8_, qc8_⟩ := isOf hZ rfl p2__1
  obtain ⟨_, _, ⟨T5_, L5_, k5_, n5_⟩, -, X5_, ⟨Lc5_, hQ5_, l5_, y5_, z5_⟩, st5_⟩ := X2_.virtualBack hx (y := (⟨"com/example/whipstill/whipstill/MovingWindow", "add", "(D)V"⟩ : MethodName)) (z := (⟨"com/example/whipstill/whipstill/MovingWindow", "add", "(D)V"⟩ : MethodName)) hown (mvT hZ (hw _ (List.mem_of_getElem? (i := 17) rfl))) (mvT hZ (hw _ (List.mem_of_getElem? (i := 18) rfl))) (notFace_of_selects (args := #[]) (mvT hZ (hw _ (List.mem_of_getElem? (i := 20) rfl)))) (mvT hZ (hw _ (List.mem_of_getElem? (i := 20) rfl))) (mvT hZ (hw _ (List.mem_of_getElem? (i := 19) rfl))) (by decide) (backOf (W := 0) (rmAdd4_0 l Z a0 hw [] b1_ (FP.l2d y2) t_2_ k_2_ (FP.l2d y1) (FP.l2d y1) (FP.l2d y1) (FP.l2d y1) T2_.heap n0 z7_ p2__1 p2__2 p2__3 p2__4 g3_ g6_) hZ (hw _ (List.mem_of_getElem? (i := 21) rfl)) (hw _ (List.mem_of_getElem? (i := 3) rfl)) (by decide) (by decide)) qa8_ qc8_ (g := (mkF m 66 #[.val (.int p0), .val (.int p1), .val (.int p2), .val (.int p3), .val (.int p4), .val (.int p5), .val (.int (4 : Int32)), .val (.long y1), .second, .val (.long y2), .second, .val (.long y3), .second, .val (.long y4), .second, .val (.long y5), .second, .val (.ref b1_), .unset, .unset, .unset, .unset] [(.double (FP.l2d y2)), (.ref b1_)])) rfl (by rw [hml]; rfl) (Steps.refl _) (argsL := [(.double (FP.l2d y2))]) (rest := []) (lenOf pd_qDzV rfl) rfl (by show 2 * 0 + _ ≤ _; exact Nat.le_of_eq rfl) (hb hby at_66) (fun _ _ => ⟨rfl, rfl, (by decide : 2 + 0 ≤ _), (by decide : 6 + 0 ≤ _)⟩)
  dsimp only [Pt.U, Pt.locs, Pt.cells, Pt.slots] at X5_ l5_ y5_ z5_ st5_ hQ5_
  subst l5_ y5_ z5_
  obtain ⟨rfl, Nq5_, ek5_, p5__0, p5__1, p5__2, p5__3⟩ := hQ5_
  have N5_ := Fr.app N2_ Nq5_
  have z10_ : n0 ≤ T5_.heap.size := Nat.le_trans z7_ ek5_.1
  obtain ⟨cq11_, kq11_, qa11_, qb11_, qc11_⟩ := isOf hZ rfl p5__0
  obtain ⟨_, _, ⟨T9_, L9_, k9_, n9_⟩, -, X9_, ⟨Lc9_, hQ9_, l9_, y9_, z9_⟩, st9_⟩ := X5_.virtualBack hx (y := (⟨"com/example/whipstill/whipstill/MovingWindow", "add", "(D)V"⟩ : MethodName)) (z := (⟨"com/example/whipstill/whipstill/MovingWindow", "add", "(D)V"⟩ : MethodName)) hown (mvT hZ (hw _ (List.mem_of_getElem? (i := 17) rfl))) (mvT hZ (hw _ (List.mem_of_getElem? (i := 18) rfl))) (notFace_of_selects (args := #[]) (mvT hZ (hw _ (List.mem_of_getElem? (i := 20) rfl)))) (mvT hZ (hw _ (List.mem_of_getElem? (i := 20) rfl))) (mvT hZ (hw _ (List.mem_of_getElem? (i := 19) rfl))) (by decide) (backOf (W := 0) (rmAdd4_1 l Z a0 hw [] b1_ (FP.l2d y3) t_2_ k_2_ (FP.l2d y2) (FP.l2d y1) (FP.l2d y1) (FP.l2d y1) T5_.heap n0 z10_ p5__0 p5__1 p5__2 p5__3 g3_ g6_) hZ (hw _ (List.mem_of_getElem? (i := 21) rfl)) (hw _ (List.mem_of_getElem? (i := 3) rfl)) (by decide) (by decide)) qa11_ qc11_ (g := (mkF m 74 #[.val (.int p0), .val (.int p1), .val (.int p2), .val (.int p3), .val (.int p4), .val (.int p5), .val (.int (4 : Int32)), .val (.long y1), .second, .val (.long y2), .second, .val (.long y3), .second, .val (.long y4), .second, .val (.long y5), .second, .val (.ref b1_), .unset, .unset, .unset, .unset] [(.double (FP.l2d y3)), (.ref b1_)])) rfl (by rw [hml]; rfl) (Steps.refl _) (argsL := [(.double (FP.l2d y3))]) (rest := []) (lenOf pd_qDzV rfl) rfl (by show 2 * 0 + _ ≤ _; exact Nat.le_of_eq rfl) (hb hby at_74) (fun _ _ => ⟨rfl, rfl, (by decide : 2 + 0 ≤ _), (by decide : 6 + 0 ≤ _)⟩)
  dsimp only [Pt.U, Pt.locs, Pt.cells, Pt.slots] at X9_ l9_ y9_ z9_ st9_ hQ9_
  subst l9_ y9_ z9_
  obtain ⟨rfl, Nq9_, ek9_, p9__0, p9__1, p9__2, p9__3⟩ := hQ9_
  have N9_ := Fr.app N5_ Nq9_
  have z13_ : n0 ≤ T9_.heap.size := Nat.le_trans z10_ ek9_.1
  obtain ⟨cq14_, kq14_, qa14_, qb14_, qc14_⟩ := isOf hZ rfl p9__0
  obtain ⟨_, _, ⟨T12_, L12_, k12_, n12_⟩, -, X12_, ⟨Lc12_, hQ12_, l12_, y12_, z12_⟩, st12_⟩ := X9_.virtualBack hx (y := (⟨"com/example/whipstill/whipstill/MovingWindow", "add", "(D)V"⟩ : MethodName)) (z := (⟨"com/example/whipstill/whipstill/MovingWindow", "add", "(D)V"⟩ : MethodName)) hown (mvT hZ (hw _ (List.mem_of_getElem? (i := 17) rfl))) (mvT hZ (hw _ (List.mem_of_getElem? (i := 18) rfl))) (notFace_of_selects (args := #[]) (mvT hZ (hw _ (List.mem_of_getElem? (i := 20) rfl)))) (mvT hZ (hw _ (List.mem_of_getElem? (i := 20) rfl))) (mvT hZ (hw _ (List.mem_of_getElem? (i := 19) rfl))) (by decide) (backOf (W := 0) (rmAdd4_2 l Z a0 hw [] b1_ (FP.l2d y4) t_2_ k_2_ (FP.l2d y2) (FP.l2d y3) (FP.l2d y1) (FP.l2d y1) T9_.heap n0 z13_ p9__0 p9__1 p9__2 p9__3 g3_ g6_) hZ (hw _ (List.mem_of_getElem? (i := 21) rfl)) (hw _ (List.mem_of_getElem? (i := 3) rfl)) (by decide) (by decide)) qa14_ qc14_ (g := (mkF m 82 #[.val (.int p0), .val (.int p1), .val (.int p2), .val (.int p3), .val (.int p4), .val (.int p5), .val (.int (4 : Int32)), .val (.long y1), .second, .val (.long y2), .second, .val (.long y3), .second, .val (.long y4), .second, .val (.long y5), .second, .val (.ref b1_), .unset, .unset, .unset, .unset] [(.double (FP.l2d y4)), (.ref b1_)])) rfl (by rw [hml]; rfl) (Steps.refl _) (argsL := [(.double (FP.l2d y4))]) (rest := []) (lenOf pd_qDzV rfl) rfl (by show 2 * 0 + _ ≤ _; exact Nat.le_of_eq rfl) (hb hby at_82) (fun _ _ => ⟨rfl, rfl, (by decide : 2 + 0 ≤ _), (by decide : 6 + 0 ≤ _)⟩)
  dsimp only [Pt.U, Pt.locs, Pt.cells, Pt.slots] at X12_ l12_ y12_ z12_ st12_ hQ12_
  subst l12_ y12_ z12_
  obtain ⟨rfl, Nq12_, ek12_, p12__0, p12__1, p12__2, p12__3⟩ := hQ12_
  have N12_ := Fr.app N9_ Nq12_
  have z16_ : n0 ≤ T12_.heap.size := Nat.le_trans z13_ ek12_.1
  obtain ⟨_, _, ⟨T15_, L15_, k15_, n15_⟩, -, X15_, ⟨Lc15_, hQ15_, l15_, y15_, z15_⟩, st15_⟩ := Jvm.LawKit.callS X12_ hx (y := (⟨"com/example/whipstill/whipstill/MovingWindowSampleVariancePinLaw", "sq", "(J)J"⟩ : MethodName)) hown (mvT hZ (hw _ (List.mem_of_getElem? (i := 24) rfl))) (mvT hZ (hw _ (List.mem_of_getElem? (i := 25) rfl))) (mvT hZ (hw _ (List.mem_of_getElem? (i := 26) rfl))) (mvT hZ (hw _ (List.mem_of_getElem? (i := 27) rfl))) (by decide) (backOf (W := 0) (rmSq l Z a0 hw [] (y2 - y5) T12_.heap n0 z16_ ) hZ (hw _ (List.mem_of_getElem? (i := 27) rfl)) (hw _ (List.mem_of_getElem? (i := 26) rfl)) (by decide) (by decide)) (g := (mkF m 155 #[.val (.int p0), .val (.int p1), .val (.int p2), .val (.int p3), .val (.int p4), .val (.int p5), .val (.int (4 : Int32)), .val (.long y1), .second, .val (.long y2), .second, .val (.long y3), .second, .val (.long y4), .second, .val (.long y5), .second, .val (.ref b1_), .unset, .unset, .unset, .unset] [(.long (y2 - y5))])) rfl (by rw [hml]; rfl) (argsL := [(.long (y2 - y5))]) (rest := []) (lenOf pd_qJzJ rfl) rfl (by show 2 * 0 + _ ≤ _; exact Nat.le_of_eq rfl) (hb hby at_155) (fun _ _ => ⟨rfl, rfl, (by decide : 2 + 0 ≤ _), (by decide : 6 + 0 ≤ _)⟩)
  dsimp only [Pt.U, Pt.locs, Pt.cells, Pt.slots] at X15_ l15_ y15_ z15_ st15_ hQ15_
  subst l15_ y15_ z15_
  obtain ⟨rfl, Nq15_, ek15_⟩ := hQ15_
  have N15_ := Fr.app N12_ Nq15_
  obtain ⟨_, _, ⟨T17_, L17_, k17_, n17_⟩, -, X17_, ⟨Lc17_, hQ17_, l17_, y17_, z17_⟩, st17_⟩ := Jvm.LawKit.callS X15_ hx (y := (⟨"com/example/whipstill/whipstill/MovingWindowSampleVariancePinLaw", "sq", "(J)J"⟩ : MethodName)) hown (mvT hZ (hw _ (List.mem_of_getElem? (i := 24) rfl))) (mvT hZ (hw _ (List.mem_of_getElem? (i := 25) rfl))) (mvT hZ (hw _ (List.mem_of_getElem? (i := 26) rfl))) (mvT hZ (hw _ (List.mem_of_getElem? (i := 27) rfl))) (by decide) (backOf (W := 2) (rmSq l Z a0 hw [] (y3 - y5) T12_.heap n0 z16_ ) hZ (hw _ (List.mem_of_getElem? (i := 27) rfl)) (hw _ (List.mem_of_getElem? (i := 26) rfl)) (by decide) (by decide)) (g := (mkF m 163 #[.val (.int p0), .val (.int p1), .val (.int p2), .val (.int p3), .val (.int p4), .val (.int p5), .val (.int (4 : Int32)), .val (.long y1), .second, .val (.long y2), .second, .val (.long y3), .second, .val (.long y4), .second, .val (.long y5), .second, .val (.ref b1_), .unset, .unset, .unset, .unset] [(.long (y3 - y5)), (.long ((y2 - y5) * (y2 - y5)))])) rfl (by rw [hml]; rfl) (argsL := [(.long (y3 - y5))]) (rest := [(.long ((y2 - y5) * (y2 - y5)))]) (lenOf pd_qJzJ rfl) rfl (by show 2 * 0 + _ ≤ _; exact Nat.le_of_eq rfl) (hb hby at_163) (fun _ _ => ⟨rfl, ek15_, (by decide : 2 + 0 ≤ _), (by decide : 6 + 0 ≤ _)⟩)
  dsimp only [Pt.U, Pt.locs, Pt.cells, Pt.slots] at X17_ l17_ y17_ z17_ st17_ hQ17_
  subst l17_ y17_ z17_
  obtain ⟨rfl, Nq17_, ek17_⟩ := hQ17_
  have N17_ := Fr.app N15_ Nq17_
  obtain ⟨_, _, ⟨T18_, L18_, k18_, n18_⟩, -, X18_, ⟨Lc18_, hQ18_, l18_, y18_, z18_⟩, st18_⟩ := Jvm.LawKit.callS X17_ hx (y := (⟨"com/example/whipstill/whipstill/MovingWindowSampleVariancePinLaw", "sq", "(J)J"⟩ : MethodName)) hown (mvT hZ (hw _ (List.mem_of_getElem? (i := 24) rfl))) (mvT hZ (hw _ (List.mem_of_getElem? (i := 25) rfl))) (mvT hZ (hw _ (List.mem_of_getElem? (i := 26) rfl))) (mvT hZ (hw _ (List.mem_of_getElem? (i := 27) rfl))) (by decide) (backOf (W := 2) (rmSq l Z a0 hw [] (y4 - y5) T12_.heap n0 z16_ ) hZ (hw _ (List.mem_of_getElem? (i := 27) rfl)) (hw _ (List.mem_of_getElem? (i := 26) rfl)) (by decide) (by decide)) (g := (mkF m 172 #[.val (.int p0), .val (.int p1), .val (.int p2), .val (.int p3), .val (.int p4), .val (.int p5), .val (.int (4 : Int32)), .val (.long y1), .second, .val (.long y2), .second, .val (.long y3), .second, .val (.long y4), .second, .val (.long y5), .second, .val (.ref b1_), .unset, .unset, .unset, .unset] [(.long (y4 - y5)), (.long (((y2 - y5) * (y2 - y5)) + ((y3 - y5) * (y3 - y5))))])) rfl (by rw [hml]; rfl) (argsL := [(.long (y4 - y5))]) (rest := [(.long (((y2 - y5) * (y2 - y5)) + ((y3 - y5) * (y3 - y5))))]) (lenOf pd_qJzJ rfl) rfl (by show 2 * 0 + _ ≤ _; exact Nat.le_of_eq rfl) (hb hby at_172) (fun _ _ => ⟨rfl, ek17_, (by decide : 2 + 0 ≤ _), (by decide : 6 + 0 ≤ _)⟩)
  dsimp only [Pt.U, Pt.locs, Pt.cells, Pt.slots] at X18_ l18_ y18_ z18_ st18_ hQ18_
  subst l18_ y18_ z18_
  obtain ⟨rfl, Nq18_, ek18_⟩ := hQ18_
  have N18_ := Fr.app N17_ Nq18_
  obtain ⟨_, _, ⟨T19_, L19_, k19_, n19_⟩, -, X19_, ⟨Lc19_, hQ19_, l19_, y19_, z19_⟩, st19_⟩ := Jvm.LawKit.callS X18_ hx (y := (⟨"com/example/whipstill/whipstill/MovingWindowSampleVariancePinLaw", "sq", "(J)J"⟩ : MethodName)) hown (mvT hZ (hw _ (List.mem_of_getElem? (i := 24) rfl))) (mvT hZ (hw _ (List.mem_of_getElem? (i := 25) rfl))) (mvT hZ (hw _ (List.mem_of_getElem? (i := 26) rfl))) (mvT hZ (hw _ (List.mem_of_getElem? (i := 27) rfl))) (by decide) (backOf (W := 2) (rmSq l Z a0 hw [] (y1 - y5) T12_.heap n0 z16_ ) hZ (hw _ (List.mem_of_getElem? (i := 27) rfl)) (hw _ (List.mem_of_getElem? (i := 26) rfl)) (by decide) (by decide)) (g := (mkF m 181 #[.val (.int p0), .val (.int p1), .val (.int p2), .val (.int p3), .val (.int p4), .val (.int p5), .val (.int (4 : Int32)), .val (.long y1), .second, .val (.long y2), .second, .val (.long y3), .second, .val (.long y4), .second, .val (.long y5), .second, .val (.ref b1_), .unset, .unset, .unset, .unset] [(.long (y1 - y5)), (.long ((((y2 - y5) * (y2 - y5)) + ((y3 - y5) * (y3 - y5))) + ((y4 - y5) * (y4 - y5))))])) rfl (by rw [hml]; rfl) (argsL := [(.long (y1 - y5))]) (rest := [(.long ((((y2 - y5) * (y2 - y5)) + ((y3 - y5) * (y3 - y5))) + ((y4 - y5) * (y4 - y5))))]) (lenOf pd_qJzJ rfl) rfl (by show 2 * 0 + _ ≤ _; exact Nat.le_of_eq rfl) (hb hby at_181) (fun _ _ => ⟨rfl, ek18_, (by decide : 2 + 0 ≤ _), (by decide : 6 + 0 ≤ _)⟩)
  dsimp only [Pt.U, Pt.locs, Pt.cells, Pt.slots] at X19_ l19_ y19_ z19_ st19_ hQ19_
  subst l19_ y19_ z19_
  obtain ⟨rfl, Nq19_, ek19_⟩ := hQ19_
  have N19_ := Fr.app N18_ Nq19_
  have q20_ : Jvm.Free.Fl.NoNaN64 (FP.ddiv (FP.l2d (((((y2 - y5) * (y2 - y5)) + ((y3 - y5) * (y3 - y5))) + ((y4 - y5) * (y4 - y5))) + ((y1 - y5) * (y1 - y5)))) (FP.i2d (3 : Int32))) := own_ddiv _ _ (by decide)
  obtain ⟨cq22_, kq22_, qa22_, qb22_, qc22_⟩ := isOf hZ ek19_ p12__0
  obtain ⟨_, _, ⟨T21_, L21_, k21_, n21_⟩, -, X21_, ⟨Lc21_, hQ21_, l21_, y21_, z21_⟩, st21_⟩ := X19_.virtualBack hx (y := (⟨"com/example/whipstill/whipstill/MovingWindow", "sampleVariance", "(D)D"⟩ : MethodName)) (z := (⟨"com/example/whipstill/whipstill/MovingWindow", "sampleVariance", "(D)D"⟩ : MethodName)) hown (mvT hZ (hw _ (List.mem_of_getElem? (i := 28) rfl))) (mvT hZ (hw _ (List.mem_of_getElem? (i := 29) rfl))) (notFace_of_selects (args := #[]) (mvT hZ (hw _ (List.mem_of_getElem? (i := 31) rfl)))) (mvT hZ (hw _ (List.mem_of_getElem? (i := 31) rfl))) (mvT hZ (hw _ (List.mem_of_getElem? (i := 30) rfl))) (by decide) (backOf (W := 0) (rmSv4 l Z a0 hw [] b1_ y5 t_2_ k_2_ y2 y3 y4 y1 T12_.heap n0 z16_ p12__1 p12__3 by5 by2 by3 by4 by1) hZ (hw _ (List.mem_of_getElem? (i := 32) rfl)) (hw _ (List.mem_of_getElem? (i := 3) rfl)) (by decide) (by decide)) qa22_ qc22_ (g := (mkF m 203 #[.val (.int p0), .val (.int p1), .val (.int p2), .val (.int p3), .val (.int p4), .val (.int p5), .val (.int (4 : Int32)), .val (.long y1), .second, .val (.long y2), .second, .val (.long y3), .second, .val (.long y4), .second, .val (.long y5), .second, .val (.ref b1_), .val (.long (((((y2 - y5) * (y2 - y5)) + ((y3 - y5) * (y3 - y5))) + ((y4 - y5) * (y4 - y5))) + ((y1 - y5) * (y1 - y5)))), .second, .val (.double (FP.ddiv (FP.l2d (((((y2 - y5) * (y2 - y5)) + ((y3 - y5) * (y3 - y5))) + ((y4 - y5) * (y4 - y5))) + ((y1 - y5) * (y1 - y5)))) (FP.i2d (3 : Int32)))), .second] [(.double (FP.l2d y5)), (.ref b1_)])) rfl (by rw [hml]; rfl) (Steps.refl _) (argsL := [(.double (FP.l2d y5))]) (rest := []) (lenOf pd_qDzD rfl) rfl (by show 2 * 0 + _ ≤ _; exact Nat.le_of_eq rfl) (hb hby at_203) (fun _ _ => ⟨rfl, ek19_, (by decide : 2 + 0 ≤ _), (by decide : 6 + 0 ≤ _)⟩)
  dsimp only [Pt.U, Pt.locs, Pt.cells, Pt.slots] at X21_ l21_ y21_ z21_ st21_ hQ21_
  subst l21_ y21_ z21_
  obtain ⟨rfl, Nq21_, ek21_⟩ := hQ21_
  have N21_ := Fr.app N19_ Nq21_
  have hcmp : cmpValue (FP.dcmp (FP.ddiv (FP.l2d (((((0 : Int64) + ((y2 - y5) * (y2 - y5))) + ((y3 - y5) * (y3 - y5))) + ((y4 - y5) * (y4 - y5))) + ((y1 - y5) * (y1 - y5)))) (FP.i2d (3 : Int32))) (FP.ddiv (FP.l2d (((((y2 - y5) * (y2 - y5)) + ((y3 - y5) * (y3 - y5))) + ((y4 - y5) * (y4 - y5))) + ((y1 - y5) * (y1 - y5)))) (FP.i2d (3 : Int32)))) .l = (0 : Int32) := dcmpV_eq (congrArg (fun z => FP.ddiv (FP.l2d z) (FP.i2d (3 : Int32))) (by simp only [Int64.zero_add] <;> first | rfl | ac_rfl)) (own_ddiv _ _ (by decide)) .l
  obtain ⟨fs, hr, hrun, hended, hW, hsame⟩ := X21_.leave (v := some (.int (1 : Int32))) (fun h => by first | rfl | (rw [Bd.returns] at h; cases h))
  refine ⟨_, _, pre0 _ ?_, hrun, hended, _, _, rfl, ?_, ⟨_, rfl⟩, hW, hsame.mono (by decide) (by decide)⟩
  · show Steps p.tables e below (s₁.setTop (mkF m 0 #[.val (.int p0), .val (.int p1), .val (.int p2), .val (.int p3), .val (.int p4), .val (.int p5), .unset, .unset, .unset, .unset, .unset, .unset, .unset, .unset, .unset, .unset, .unset, .unset, .unset, .unset, .unset, .unset] [])) _
    refine XS.iconst X0.here hx rfl (hb hby at_0) ?_
    show Steps p.tables e below (s₁.setTop (mkF m 1 #[.val (.int p0), .val (.int p1), .val (.int p2), .val (.int p3), .val (.int p4), .val (.int p5), .unset, .unset, .unset, .unset, .unset, .unset, .unset, .unset, .unset, .unset, .unset, .unset, .unset, .unset, .unset, .unset] [(.int (2 : Int32))])) _
    refine XS.iloadN X0.here hx rfl (hb hby at_1) rfl ?_
    show Steps p.tables e below (s₁.setTop (mkF m 2 #[.val (.int p0), .val (.int p1), .val (.int p2), .val (.int p3), .val (.int p4), .val (.int p5), .unset, .unset, .unset, .unset, .unset, .unset, .unset, .unset, .unset, .unset, .unset, .unset, .unset, .unset, .unset, .unset] [(.int p0), (.int (2 : Int32))])) _
    refine X0.ldcInt hx hown (mvT hZ (hw _ (List.mem_of_getElem? (i := 0) rfl))) (g := (mkF m 2 #[.val (.int p0), .val (.int p1), .val (.int p2), .val (.int p3), .val (.int p4), .val (.int p5), .unset, .unset, .unset, .unset, .unset, .unset, .unset, .unset, .unset, .unset, .unset, .unset, .unset, .unset, .unset, .unset] [(.int p0), (.int (2 : Int32))])) rfl (hb hby at_2) _ ?_
    show Steps p.tables e below (s₁.setTop (mkF m 4 #[.val (.int p0), .val (.int p1), .val (.int p2), .val (.int p3), .val (.int p4), .val (.int p5), .unset, .unset, .unset, .unset, .unset, .unset, .unset, .unset, .unset, .unset, .unset, .unset, .unset, .unset, .unset, .unset] [(.int (2147483647 : Int32)), (.int p0), (.int (2 : Int32))])) _
    refine XS.iand X0.here hx rfl (hb hby at_4) rfl ?_
    show Steps p.tables e below (s₁.setTop (mkF m 5 #[.val (.int p0), .val (.int p1), .val (.int p2), .val (.int p3), .val (.int p4), .val (.int p5), .unset, .unset, .unset, .unset, .unset, .unset, .unset, .unset, .unset, .unset, .unset, .unset, .unset, .unset, .unset, .unset] [(.int (p0 &&& (2147483647 : Int32))), (.int (2 : Int32))])) _
    refine XS.iconst X0.here hx rfl (hb hby at_5) ?_
    show Steps p.tables e below (s₁.setTop (mkF m 6 #[.val (.int p0), .val (.int p1), .val (.int p2), .val (.int p3), .val (.int p4), .val (.int p5), .unset, .unset, .unset, .unset, .unset, .unset, .unset, .unset, .unset, .unset, .unset, .unset, .unset, .unset, .unset, .unset] [(.int (3 : Int32)), (.int (p0 &&& (2147483647 : Int32))), (.int (2 : Int32))])) _
    refine XS.irem X0.here hx rfl (hb hby at_6) rfl (by decide) ?_
    show Steps p.tables e below (s₁.setTop (mkF m 7 #[.val (.int p0), .val (.int p1), .val (.int p2), .val (.int p3), .val (.int p4), .val (.int p5), .unset, .unset, .unset, .unset, .unset, .unset, .unset, .unset, .unset, .unset, .unset, .unset, .unset, .unset, .unset, .unset] [(.int ((p0 &&& (2147483647 : Int32)) - (((p0 &&& (2147483647 : Int32)) / (3 : Int32)) * (3 : Int32)))), (.int (2 : Int32))])) _
    refine XS.iadd X0.here hx rfl (hb hby at_7) rfl ?_
    show Steps p.tables e below (s₁.setTop (mkF m 8 #[.val (.int p0), .val (.int p1), .val (.int p2), .val (.int p3), .val (.int p4), .val (.int p5), .unset, .unset, .unset, .unset, .unset, .unset, .unset, .unset, .unset, .unset, .unset, .unset, .unset, .unset, .unset, .unset] [(.int ((2 : Int32) + ((p0 &&& (2147483647 : Int32)) - (((p0 &&& (2147483647 : Int32)) / (3 : Int32)) * (3 : Int32)))))])) _
    rw [hn]
    show Steps p.tables e below (s₁.setTop (mkF m 8 #[.val (.int p0), .val (.int p1), .val (.int p2), .val (.int p3), .val (.int p4), .val (.int p5), .unset, .unset, .unset, .unset, .unset, .unset, .unset, .unset, .unset, .unset, .unset, .unset, .unset, .unset, .unset, .unset] [(.int (4 : Int32))])) _
    refine XS.istore X0.here hx rfl (hb hby at_8) rfl (l' := #[.val (.int p0), .val (.int p1), .val (.int p2), .val (.int p3), .val (.int p4), .val (.int p5), .val (.int (4 : Int32)), .unset, .unset, .unset, .unset, .unset, .unset, .unset, .unset, .unset, .unset, .unset, .unset, .unset, .unset, .unset]) rfl ?_
    show Steps p.tables e below (s₁.setTop (mkF m 10 #[.val (.int p0), .val (.int p1), .val (.int p2), .val (.int p3), .val (.int p4), .val (.int p5), .val (.int (4 : Int32)), .unset, .unset, .unset, .unset, .unset, .unset, .unset, .unset, .unset, .unset, .unset, .unset, .unset, .unset, .unset] [])) _
    refine XS.iloadN X0.here hx rfl (hb hby at_10) rfl ?_
    show Steps p.tables e below (s₁.setTop (mkF m 11 #[.val (.int p0), .val (.int p1), .val (.int p2), .val (.int p3), .val (.int p4), .val (.int p5), .val (.int (4 : Int32)), .unset, .unset, .unset, .unset, .unset, .unset, .unset, .unset, .unset, .unset, .unset, .unset, .unset, .unset, .unset] [(.int p1)])) _
    refine XS.bipush X0.here hx rfl (hb hby at_11) ?_
    show Steps p.tables e below (s₁.setTop (mkF m 13 #[.val (.int p0), .val (.int p1), .val (.int p2), .val (.int p3), .val (.int p4), .val (.int p5), .val (.int (4 : Int32)), .unset, .unset, .unset, .unset, .unset, .unset, .unset, .unset, .unset, .unset, .unset, .unset, .unset, .unset, .unset] [(.int (11 : Int32)), (.int p1)])) _
    refine XS.ishr X0.here hx rfl (hb hby at_13) rfl ?_
    show Steps p.tables e below (s₁.setTop (mkF m 14 #[.val (.int p0), .val (.int p1), .val (.int p2), .val (.int p3), .val (.int p4), .val (.int p5), .val (.int (4 : Int32)), .unset, .unset, .unset, .unset, .unset, .unset, .unset, .unset, .unset, .unset, .unset, .unset, .unset, .unset, .unset] [(.int (p1 >>> ((11 : Int32) &&& 31)))])) _
    refine XS.i2l X0.here hx rfl (hb hby at_14) rfl ?_
    show Steps p.tables e below (s₁.setTop (mkF m 15 #[.val (.int p0), .val (.int p1), .val (.int p2), .val (.int p3), .val (.int p4), .val (.int p5), .val (.int (4 : Int32)), .unset, .unset, .unset, .unset, .unset, .unset, .unset, .unset, .unset, .unset, .unset, .unset, .unset, .unset, .unset] [(.long ((p1 >>> ((11 : Int32) &&& 31)).toInt64))])) _
    rw [← ey1]
    show Steps p.tables e below (s₁.setTop (mkF m 15 #[.val (.int p0), .val (.int p1), .val (.int p2), .val (.int p3), .val (.int p4), .val (.int p5), .val (.int (4 : Int32)), .unset, .unset, .unset, .unset, .unset, .unset, .unset, .unset, .unset, .unset, .unset, .unset, .unset, .unset, .unset] [(.long y1)])) _
    refine XS.lstore X0.here hx rfl (hb hby at_15) rfl (l' := #[.val (.int p0), .val (.int p1), .val (.int p2), .val (.int p3), .val (.int p4), .val (.int p5), .val (.int (4 : Int32)), .val (.long y1), .second, .unset, .unset, .unset, .unset, .unset, .unset, .unset, .unset, .unset, .unset, .unset, .unset, .unset]) rfl ?_
    show Steps p.tables e below (s₁.setTop (mkF m 17 #[.val (.int p0), .val (.int p1), .val (.int p2), .val (.int p3), .val (.int p4), .val (.int p5), .val (.int (4 : Int32)), .val (.long y1), .second, .unset, .unset, .unset, .unset, .unset, .unset, .unset, .unset, .unset, .unset, .unset, .unset, .unset] [])) _
    refine XS.iloadN X0.here hx rfl (hb hby at_17) rfl ?_
    show Steps p.tables e below (s₁.setTop (mkF m 18 #[.val (.int p0), .val (.int p1), .val (.int p2), .val (.int p3), .val (.int p4), .val (.int p5), .val (.int (4 : Int32)), .val (.long y1), .second, .unset, .unset, .unset, .unset, .unset, .unset, .unset, .unset, .unset, .unset, .unset, .unset, .unset] [(.int p2)])) _
    refine XS.bipush X0.here hx rfl (hb hby at_18) ?_
    show Steps p.tables e below (s₁.setTop (mkF m 20 #[.val (.int p0), .val (.int p1), .val (.int p2), .val (.int p3), .val (.int p4), .val (.int p5), .val (.int (4 : Int32)), .val (.long y1), .second, .unset, .unset, .unset, .unset, .unset, .unset, .unset, .unset, .unset, .unset, .unset, .unset, .unset] [(.int (11 : Int32)), (.int p2)])) _
    refine XS.ishr X0.here hx rfl (hb hby at_20) rfl ?_
    show Steps p.tables e below (s₁.setTop (mkF m 21 #[.val (.int p0), .val (.int p1), .val (.int p2), .val (.int p3), .val (.int p4), .val (.int p5), .val (.int (4 : Int32)), .val (.long y1), .second, .unset, .unset, .unset, .unset, .unset, .unset, .unset, .unset, .unset, .unset, .unset, .unset, .unset] [(.int (p2 >>> ((11 : Int32) &&& 31)))])) _
    refine XS.i2l X0.here hx rfl (hb hby at_21) rfl ?_
    show Steps p.tables e below (s₁.setTop (mkF m 22 #[.val (.int p0), .val (.int p1), .val (.int p2), .val (.int p3), .val (.int p4), .val (.int p5), .val (.int (4 : Int32)), .val (.long y1), .second, .unset, .unset, .unset, .unset, .unset, .unset, .unset, .unset, .unset, .unset, .unset, .unset, .unset] [(.long ((p2 >>> ((11 : Int32) &&& 31)).toInt64))])) _
    rw [← ey2]
    show Steps p.tables e below (s₁.setTop (mkF m 22 #[.val (.int p0), .val (.int p1), .val (.int p2), .val (.int p3), .val (.int p4), .val (.int p5), .val (.int (4 : Int32)), .val (.long y1), .second, .unset, .unset, .unset, .unset, .unset, .unset, .unset, .unset, .unset, .unset, .unset, .unset, .unset] [(.long y2)])) _
    refine XS.lstore X0.here hx rfl (hb hby at_22) rfl (l' := #[.val (.int p0), .val (.int p1), .val (.int p2), .val (.int p3), .val (.int p4), .val (.int p5), .val (.int (4 : Int32)), .val (.long y1), .second, .val (.long y2), .second, .unset, .unset, .unset, .unset, .unset, .unset, .unset, .unset, .unset, .unset, .unset]) rfl ?_
    show Steps p.tables e below (s₁.setTop (mkF m 24 #[.val (.int p0), .val (.int p1), .val (.int p2), .val (.int p3), .val (.int p4), .val (.int p5), .val (.int (4 : Int32)), .val (.long y1), .second, .val (.long y2), .second, .unset, .unset, .unset, .unset, .unset, .unset, .unset, .unset, .unset, .unset, .unset] [])) _
    refine XS.iloadN X0.here hx rfl (hb hby at_24) rfl ?_
    show Steps p.tables e below (s₁.setTop (mkF m 25 #[.val (.int p0), .val (.int p1), .val (.int p2), .val (.int p3), .val (.int p4), .val (.int p5), .val (.int (4 : Int32)), .val (.long y1), .second, .val (.long y2), .second, .unset, .unset, .unset, .unset, .unset, .unset, .unset, .unset, .unset, .unset, .unset] [(.int p3)])) _
    refine XS.bipush X0.here hx rfl (hb hby at_25) ?_
    show Steps p.tables e below (s₁.setTop (mkF m 27 #[.val (.int p0), .val (.int p1), .val (.int p2), .val (.int p3), .val (.int p4), .val (.int p5), .val (.int (4 : Int32)), .val (.long y1), .second, .val (.long y2), .second, .unset, .unset, .unset, .unset, .unset, .unset, .unset, .unset, .unset, .unset, .unset] [(.int (11 : Int32)), (.int p3)])) _
    refine XS.ishr X0.here hx rfl (hb hby at_27) rfl ?_
    show Steps p.tables e below (s₁.setTop (mkF m 28 #[.val (.int p0), .val (.int p1), .val (.int p2), .val (.int p3), .val (.int p4), .val (.int p5), .val (.int (4 : Int32)), .val (.long y1), .second, .val (.long y2), .second, .unset, .unset, .unset, .unset, .unset, .unset, .unset, .unset, .unset, .unset, .unset] [(.int (p3 >>> ((11 : Int32) &&& 31)))])) _
    refine XS.i2l X0.here hx rfl (hb hby at_28) rfl ?_
    show Steps p.tables e below (s₁.setTop (mkF m 29 #[.val (.int p0), .val (.int p1), .val (.int p2), .val (.int p3), .val (.int p4), .val (.int p5), .val (.int (4 : Int32)), .val (.long y1), .second, .val (.long y2), .second, .unset, .unset, .unset, .unset, .unset, .unset, .unset, .unset, .unset, .unset, .unset] [(.long ((p3 >>> ((11 : Int32) &&& 31)).toInt64))])) _
    rw [← ey3]
    show Steps p.tables e below (s₁.setTop (mkF m 29 #[.val (.int p0), .val (.int p1), .val (.int p2), .val (.int p3), .val (.int p4), .val (.int p5), .val (.int (4 : Int32)), .val (.long y1), .second, .val (.long y2), .second, .unset, .unset, .unset, .unset, .unset, .unset, .unset, .unset, .unset, .unset, .unset] [(.long y3)])) _
    refine XS.lstore X0.here hx rfl (hb hby at_29) rfl (l' := #[.val (.int p0), .val (.int p1), .val (.int p2), .val (.int p3), .val (.int p4), .val (.int p5), .val (.int (4 : Int32)), .val (.long y1), .second, .val (.long y2), .second, .val (.long y3), .second, .unset, .unset, .unset, .unset, .unset, .unset, .unset, .unset, .unset]) rfl ?_
    show Steps p.tables e below (s₁.setTop (mkF m 31 #[.val (.int p0), .val (.int p1), .val (.int p2), .val (.int p3), .val (.int p4), .val (.int p5), .val (.int (4 : Int32)), .val (.long y1), .second, .val (.long y2), .second, .val (.long y3), .second, .unset, .unset, .unset, .unset, .unset, .unset, .unset, .unset, .unset] [])) _
    refine XS.iload X0.here hx rfl (hb hby at_31) rfl ?_
    show Steps p.tables e below (s₁.setTop (mkF m 33 #[.val (.int p0), .val (.int p1), .val (.int p2), .val (.int p3), .val (.int p4), .val (.int p5), .val (.int (4 : Int32)), .val (.long y1), .second, .val (.long y2), .second, .val (.long y3), .second, .unset, .unset, .unset, .unset, .unset, .unset, .unset, .unset, .unset] [(.int p4)])) _
    refine XS.bipush X0.here hx rfl (hb hby at_33) ?_
    show Steps p.tables e below (s₁.setTop (mkF m 35 #[.val (.int p0), .val (.int p1), .val (.int p2), .val (.int p3), .val (.int p4), .val (.int p5), .val (.int (4 : Int32)), .val (.long y1), .second, .val (.long y2), .second, .val (.long y3), .second, .unset, .unset, .unset, .unset, .unset, .unset, .unset, .unset, .unset] [(.int (11 : Int32)), (.int p4)])) _
    refine XS.ishr X0.here hx rfl (hb hby at_35) rfl ?_
    show Steps p.tables e below (s₁.setTop (mkF m 36 #[.val (.int p0), .val (.int p1), .val (.int p2), .val (.int p3), .val (.int p4), .val (.int p5), .val (.int (4 : Int32)), .val (.long y1), .second, .val (.long y2), .second, .val (.long y3), .second, .unset, .unset, .unset, .unset, .unset, .unset, .unset, .unset, .unset] [(.int (p4 >>> ((11 : Int32) &&& 31)))])) _
    refine XS.i2l X0.here hx rfl (hb hby at_36) rfl ?_
    show Steps p.tables e below (s₁.setTop (mkF m 37 #[.val (.int p0), .val (.int p1), .val (.int p2), .val (.int p3), .val (.int p4), .val (.int p5), .val (.int (4 : Int32)), .val (.long y1), .second, .val (.long y2), .second, .val (.long y3), .second, .unset, .unset, .unset, .unset, .unset, .unset, .unset, .unset, .unset] [(.long ((p4 >>> ((11 : Int32) &&& 31)).toInt64))])) _
    rw [← ey4]
    show Steps p.tables e below (s₁.setTop (mkF m 37 #[.val (.int p0), .val (.int p1), .val (.int p2), .val (.int p3), .val (.int p4), .val (.int p5), .val (.int (4 : Int32)), .val (.long y1), .second, .val (.long y2), .second, .val (.long y3), .second, .unset, .unset, .unset, .unset, .unset, .unset, .unset, .unset, .unset] [(.long y4)])) _
    refine XS.lstore X0.here hx rfl (hb hby at_37) rfl (l' := #[.val (.int p0), .val (.int p1), .val (.int p2), .val (.int p3), .val (.int p4), .val (.int p5), .val (.int (4 : Int32)), .val (.long y1), .second, .val (.long y2), .second, .val (.long y3), .second, .val (.long y4), .second, .unset, .unset, .unset, .unset, .unset, .unset, .unset]) rfl ?_
    show Steps p.tables e below (s₁.setTop (mkF m 39 #[.val (.int p0), .val (.int p1), .val (.int p2), .val (.int p3), .val (.int p4), .val (.int p5), .val (.int (4 : Int32)), .val (.long y1), .second, .val (.long y2), .second, .val (.long y3), .second, .val (.long y4), .second, .unset, .unset, .unset, .unset, .unset, .unset, .unset] [])) _
    refine XS.iload X0.here hx rfl (hb hby at_39) rfl ?_
    show Steps p.tables e below (s₁.setTop (mkF m 41 #[.val (.int p0), .val (.int p1), .val (.int p2), .val (.int p3), .val (.int p4), .val (.int p5), .val (.int (4 : Int32)), .val (.long y1), .second, .val (.long y2), .second, .val (.long y3), .second, .val (.long y4), .second, .unset, .unset, .unset, .unset, .unset, .unset, .unset] [(.int p5)])) _
    refine XS.bipush X0.here hx rfl (hb hby at_41) ?_
    show Steps p.tables e below (s₁.setTop (mkF m 43 #[.val (.int p0), .val (.int p1), .val (.int p2), .val (.int p3), .val (.int p4), .val (.int p5), .val (.int (4 : Int32)), .val (.long y1), .second, .val (.long y2), .second, .val (.long y3), .second, .val (.long y4), .second, .unset, .unset, .unset, .unset, .unset, .unset, .unset] [(.int (11 : Int32)), (.int p5)])) _
    refine XS.ishr X0.here hx rfl (hb hby at_43) rfl ?_
    show Steps p.tables e below (s₁.setTop (mkF m 44 #[.val (.int p0), .val (.int p1), .val (.int p2), .val (.int p3), .val (.int p4), .val (.int p5), .val (.int (4 : Int32)), .val (.long y1), .second, .val (.long y2), .second, .val (.long y3), .second, .val (.long y4), .second, .unset, .unset, .unset, .unset, .unset, .unset, .unset] [(.int (p5 >>> ((11 : Int32) &&& 31)))])) _
    refine XS.i2l X0.here hx rfl (hb hby at_44) rfl ?_
    show Steps p.tables e below (s₁.setTop (mkF m 45 #[.val (.int p0), .val (.int p1), .val (.int p2), .val (.int p3), .val (.int p4), .val (.int p5), .val (.int (4 : Int32)), .val (.long y1), .second, .val (.long y2), .second, .val (.long y3), .second, .val (.long y4), .second, .unset, .unset, .unset, .unset, .unset, .unset, .unset] [(.long ((p5 >>> ((11 : Int32) &&& 31)).toInt64))])) _
    rw [← ey5]
    show Steps p.tables e below (s₁.setTop (mkF m 45 #[.val (.int p0), .val (.int p1), .val (.int p2), .val (.int p3), .val (.int p4), .val (.int p5), .val (.int (4 : Int32)), .val (.long y1), .second, .val (.long y2), .second, .val (.long y3), .second, .val (.long y4), .second, .unset, .unset, .unset, .unset, .unset, .unset, .unset] [(.long y5)])) _
    refine XS.lstore X0.here hx rfl (hb hby at_45) rfl (l' := #[.val (.int p0), .val (.int p1), .val (.int p2), .val (.int p3), .val (.int p4), .val (.int p5), .val (.int (4 : Int32)), .val (.long y1), .second, .val (.long y2), .second, .val (.long y3), .second, .val (.long y4), .second, .val (.long y5), .second, .unset, .unset, .unset, .unset, .unset]) rfl ?_
    show Steps p.tables e below (s₁.setTop (mkF m 47 #[.val (.int p0), .val (.int p1), .val (.int p2), .val (.int p3), .val (.int p4), .val (.int p5), .val (.int (4 : Int32)), .val (.long y1), .second, .val (.long y2), .second, .val (.long y3), .second, .val (.long y4), .second, .val (.long y5), .second, .unset, .unset, .unset, .unset, .unset] [])) _
    refine st1_ _ ?_
    show Steps p.tables e below (T1_.setTop (mkF m 50 #[.val (.int p0), .val (.int p1), .val (.int p2), .val (.int p3), .val (.int p4), .val (.int p5), .val (.int (4 : Int32)), .val (.long y1), .second, .val (.long y2), .second, .val (.long y3), .second, .val (.long y4), .second, .val (.long y5), .second, .unset, .unset, .unset, .unset, .unset] [(.ref b1_)])) _
    refine XS.dup X1_.here hx rfl (hb hby at_50) rfl rfl ?_
    show Steps p.tables e below (T1_.setTop (mkF m 51 #[.val (.int p0), .val (.int p1), .val (.int p2), .val (.int p3), .val (.int p4), .val (.int p5), .val (.int (4 : Int32)), .val (.long y1), .second, .val (.long y2), .second, .val (.long y3), .second, .val (.long y4), .second, .val (.long y5), .second, .unset, .unset, .unset, .unset, .unset] [(.ref b1_), (.ref b1_)])) _
    refine XS.iload X1_.here hx rfl (hb hby at_51) rfl ?_
    show Steps p.tables e below (T1_.setTop (mkF m 53 #[.val (.int p0), .val (.int p1), .val (.int p2), .val (.int p3), .val (.int p4), .val (.int p5), .val (.int (4 : Int32)), .val (.long y1), .second, .val (.long y2), .second, .val (.long y3), .second, .val (.long y4), .second, .val (.long y5), .second, .unset, .unset, .unset, .unset, .unset] [(.int (4 : Int32)), (.ref b1_), (.ref b1_)])) _
    refine XS.lload X1_.here hx rfl (hb hby at_53) rfl ?_
    show Steps p.tables e below (T1_.setTop (mkF m 55 #[.val (.int p0), .val (.int p1), .val (.int p2), .val (.int p3), .val (.int p4), .val (.int p5), .val (.int (4 : Int32)), .val (.long y1), .second, .val (.long y2), .second, .val (.long y3), .second, .val (.long y4), .second, .val (.long y5), .second, .unset, .unset, .unset, .unset, .unset] [(.long y1), (.int (4 : Int32)), (.ref b1_), (.ref b1_)])) _
    refine XS.l2dS X1_.here hx rfl (hb hby at_55) rfl (v := (FP.l2d y1)) rfl ?_
    show Steps p.tables e below (T1_.setTop (mkF m 56 #[.val (.int p0), .val (.int p1), .val (.int p2), .val (.int p3), .val (.int p4), .val (.int p5), .val (.int (4 : Int32)), .val (.long y1), .second, .val (.long y2), .second, .val (.long y3), .second, .val (.long y4), .second, .val (.long y5), .second, .unset, .unset, .unset, .unset, .unset] [(.double (FP.l2d y1)), (.int (4 : Int32)), (.ref b1_), (.ref b1_)])) _
    refine st2_.trans ?_
    show Steps p.tables e below (T2_.setTop (mkF m 59 #[.val (.int p0), .val (.int p1), .val (.int p2), .val (.int p3), .val (.int p4), .val (.int p5), .val (.int (4 : Int32)), .val (.long y1), .second, .val (.long y2), .second, .val (.long y3), .second, .val (.long y4), .second, .val (.long y5), .second, .unset, .unset, .unset, .unset, .unset] [(.ref b1_)])) _
    refine XS.astore X2_.here hx rfl (hb hby at_59) rfl rfl (l' := #[.val (.int p0), .val (.int p1), .val (.int p2), .val (.int p3), .val (.int p4), .val (.int p5), .val (.int (4 : Int32)), .val (.long y1), .second, .val (.long y2), .second, .val (.long y3), .second, .val (.long y4), .second, .val (.long y5), .second, .val (.ref b1_), .unset, .unset, .unset, .unset]) rfl ?_
    show Steps p.tables e below (T2_.setTop (mkF m 61 #[.val (.int p0), .val (.int p1), .val (.int p2), .val (.int p3), .val (.int p4), .val (.int p5), .val (.int (4 : Int32)), .val (.long y1), .second, .val (.long y2), .second, .val (.long y3), .second, .val (.long y4), .second, .val (.long y5), .second, .val (.ref b1_), .unset, .unset, .unset, .unset] [])) _
    refine XS.aload X2_.here hx rfl (hb hby at_61) rfl rfl ?_
    show Steps p.tables e below (T2_.setTop (mkF m 63 #[.val (.int p0), .val (.int p1), .val (.int p2), .val (.int p3), .val (.int p4), .val (.int p5), .val (.int (4 : Int32)), .val (.long y1), .second, .val (.long y2), .second, .val (.long y3), .second, .val (.long y4), .second, .val (.long y5), .second, .val (.ref b1_), .unset, .unset, .unset, .unset] [(.ref b1_)])) _
    refine XS.lload X2_.here hx rfl (hb hby at_63) rfl ?_
    show Steps p.tables e below (T2_.setTop (mkF m 65 #[.val (.int p0), .val (.int p1), .val (.int p2), .val (.int p3), .val (.int p4), .val (.int p5), .val (.int (4 : Int32)), .val (.long y1), .second, .val (.long y2), .second, .val (.long y3), .second, .val (.long y4), .second, .val (.long y5), .second, .val (.ref b1_), .unset, .unset, .unset, .unset] [(.long y2), (.ref b1_)])) _
    refine XS.l2dS X2_.here hx rfl (hb hby at_65) rfl (v := (FP.l2d y2)) rfl ?_
    show Steps p.tables e below (T2_.setTop (mkF m 66 #[.val (.int p0), .val (.int p1), .val (.int p2), .val (.int p3), .val (.int p4), .val (.int p5), .val (.int (4 : Int32)), .val (.long y1), .second, .val (.long y2), .second, .val (.long y3), .second, .val (.long y4), .second, .val (.long y5), .second, .val (.ref b1_), .unset, .unset, .unset, .unset] [(.double (FP.l2d y2)), (.ref b1_)])) _
    refine st5_.trans ?_
    show Steps p.tables e below (T5_.setTop (mkF m 69 #[.val (.int p0), .val (.int p1), .val (.int p2), .val (.int p3), .val (.int p4), .val (.int p5), .val (.int (4 : Int32)), .val (.long y1), .second, .val (.long y2), .second, .val (.long y3), .second, .val (.long y4), .second, .val (.long y5), .second, .val (.ref b1_), .unset, .unset, .unset, .unset] [])) _
    refine XS.aload X5_.here hx rfl (hb hby at_69) rfl rfl ?_
    show Steps p.tables e below (T5_.setTop (mkF m 71 #[.val (.int p0), .val (.int p1), .val (.int p2), .val (.int p3), .val (.int p4), .val (.int p5), .val (.int (4 : Int32)), .val (.long y1), .second, .val (.long y2), .second, .val (.long y3), .second, .val (.long y4), .second, .val (.long y5), .second, .val (.ref b1_), .unset, .unset, .unset, .unset] [(.ref b1_)])) _
    refine XS.lload X5_.here hx rfl (hb hby at_71) rfl ?_
    show Steps p.tables e below (T5_.setTop (mkF m 73 #[.val (.int p0), .val (.int p1), .val (.int p2), .val (.int p3), .val (.int p4), .val (.int p5), .val (.int (4 : Int32)), .val (.long y1), .second, .val (.long y2), .second, .val (.long y3), .second, .val (.long y4), .second, .val (.long y5), .second, .val (.ref b1_), .unset, .unset, .unset, .unset] [(.long y3), (.ref b1_)])) _
    refine XS.l2dS X5_.here hx rfl (hb hby at_73) rfl (v := (FP.l2d y3)) rfl ?_
    show Steps p.tables e below (T5_.setTop (mkF m 74 #[.val (.int p0), .val (.int p1), .val (.int p2), .val (.int p3), .val (.int p4), .val (.int p5), .val (.int (4 : Int32)), .val (.long y1), .second, .val (.long y2), .second, .val (.long y3), .second, .val (.long y4), .second, .val (.long y5), .second, .val (.ref b1_), .unset, .unset, .unset, .unset] [(.double (FP.l2d y3)), (.ref b1_)])) _
    refine st9_.trans ?_
    show Steps p.tables e below (T9_.setTop (mkF m 77 #[.val (.int p0), .val (.int p1), .val (.int p2), .val (.int p3), .val (.int p4), .val (.int p5), .val (.int (4 : Int32)), .val (.long y1), .second, .val (.long y2), .second, .val (.long y3), .second, .val (.long y4), .second, .val (.long y5), .second, .val (.ref b1_), .unset, .unset, .unset, .unset] [])) _
    refine XS.aload X9_.here hx rfl (hb hby at_77) rfl rfl ?_
    show Steps p.tables e below (T9_.setTop (mkF m 79 #[.val (.int p0), .val (.int p1), .val (.int p2), .val (.int p3), .val (.int p4), .val (.int p5), .val (.int (4 : Int32)), .val (.long y1), .second, .val (.long y2), .second, .val (.long y3), .second, .val (.long y4), .second, .val (.long y5), .second, .val (.ref b1_), .unset, .unset, .unset, .unset] [(.ref b1_)])) _
    refine XS.lload X9_.here hx rfl (hb hby at_79) rfl ?_
    show Steps p.tables e below (T9_.setTop (mkF m 81 #[.val (.int p0), .val (.int p1), .val (.int p2), .val (.int p3), .val (.int p4), .val (.int p5), .val (.int (4 : Int32)), .val (.long y1), .second, .val (.long y2), .second, .val (.long y3), .second, .val (.long y4), .second, .val (.long y5), .second, .val (.ref b1_), .unset, .unset, .unset, .unset] [(.long y4), (.ref b1_)])) _
    refine XS.l2dS X9_.here hx rfl (hb hby at_81) rfl (v := (FP.l2d y4)) rfl ?_
    show Steps p.tables e below (T9_.setTop (mkF m 82 #[.val (.int p0), .val (.int p1), .val (.int p2), .val (.int p3), .val (.int p4), .val (.int p5), .val (.int (4 : Int32)), .val (.long y1), .second, .val (.long y2), .second, .val (.long y3), .second, .val (.long y4), .second, .val (.long y5), .second, .val (.ref b1_), .unset, .unset, .unset, .unset] [(.double (FP.l2d y4)), (.ref b1_)])) _
    refine st12_.trans ?_
    show Steps p.tables e below (T12_.setTop (mkF m 85 #[.val (.int p0), .val (.int p1), .val (.int p2), .val (.int p3), .val (.int p4), .val (.int p5), .val (.int (4 : Int32)), .val (.long y1), .second, .val (.long y2), .second, .val (.long y3), .second, .val (.long y4), .second, .val (.long y5), .second, .val (.ref b1_), .unset, .unset, .unset, .unset] [])) _
    refine XS.iload X12_.here hx rfl (hb hby at_85) rfl ?_
    show Steps p.tables e below (T12_.setTop (mkF m 87 #[.val (.int p0), .val (.int p1), .val (.int p2), .val (.int p3), .val (.int p4), .val (.int p5), .val (.int (4 : Int32)), .val (.long y1), .second, .val (.long y2), .second, .val (.long y3), .second, .val (.long y4), .second, .val (.long y5), .second, .val (.ref b1_), .unset, .unset, .unset, .unset] [(.int (4 : Int32))])) _
    refine XS.iconst X12_.here hx rfl (hb hby at_87) ?_
    show Steps p.tables e below (T12_.setTop (mkF m 88 #[.val (.int p0), .val (.int p1), .val (.int p2), .val (.int p3), .val (.int p4), .val (.int p5), .val (.int (4 : Int32)), .val (.long y1), .second, .val (.long y2), .second, .val (.long y3), .second, .val (.long y4), .second, .val (.long y5), .second, .val (.ref b1_), .unset, .unset, .unset, .unset] [(.int (2 : Int32)), (.int (4 : Int32))])) _
    refine XS.icmpYes X12_.here hx rfl (pc0 := 88) (pc' := 113) rfl (hb hby at_88) rfl (feq ((by decide) : ¬ ((4 : Int32) = (2 : Int32)))).2 (by decide) (by decide) ?_
    show Steps p.tables e below (T12_.setTop (mkF m 113 #[.val (.int p0), .val (.int p1), .val (.int p2), .val (.int p3), .val (.int p4), .val (.int p5), .val (.int (4 : Int32)), .val (.long y1), .second, .val (.long y2), .second, .val (.long y3), .second, .val (.long y4), .second, .val (.long y5), .second, .val (.ref b1_), .unset, .unset, .unset, .unset] [])) _
    refine XS.iload X12_.here hx rfl (hb hby at_113) rfl ?_
    show Steps p.tables e below (T12_.setTop (mkF m 115 #[.val (.int p0), .val (.int p1), .val (.int p2), .val (.int p3), .val (.int p4), .val (.int p5), .val (.int (4 : Int32)), .val (.long y1), .second, .val (.long y2), .second, .val (.long y3), .second, .val (.long y4), .second, .val (.long y5), .second, .val (.ref b1_), .unset, .unset, .unset, .unset] [(.int (4 : Int32))])) _
    refine XS.iconst X12_.here hx rfl (hb hby at_115) ?_
    show Steps p.tables e below (T12_.setTop (mkF m 116 #[.val (.int p0), .val (.int p1), .val (.int p2), .val (.int p3), .val (.int p4), .val (.int p5), .val (.int (4 : Int32)), .val (.long y1), .second, .val (.long y2), .second, .val (.long y3), .second, .val (.long y4), .second, .val (.long y5), .second, .val (.ref b1_), .unset, .unset, .unset, .unset] [(.int (3 : Int32)), (.int (4 : Int32))])) _
    refine XS.icmpYes X12_.here hx rfl (pc0 := 116) (pc' := 150) rfl (hb hby at_116) rfl (feq ((by decide) : ¬ ((4 : Int32) = (3 : Int32)))).2 (by decide) (by decide) ?_
    show Steps p.tables e below (T12_.setTop (mkF m 150 #[.val (.int p0), .val (.int p1), .val (.int p2), .val (.int p3), .val (.int p4), .val (.int p5), .val (.int (4 : Int32)), .val (.long y1), .second, .val (.long y2), .second, .val (.long y3), .second, .val (.long y4), .second, .val (.long y5), .second, .val (.ref b1_), .unset, .unset, .unset, .unset] [])) _
    refine XS.lload X12_.here hx rfl (hb hby at_150) rfl ?_
    show Steps p.tables e below (T12_.setTop (mkF m 152 #[.val (.int p0), .val (.int p1), .val (.int p2), .val (.int p3), .val (.int p4), .val (.int p5), .val (.int (4 : Int32)), .val (.long y1), .second, .val (.long y2), .second, .val (.long y3), .second, .val (.long y4), .second, .val (.long y5), .second, .val (.ref b1_), .unset, .unset, .unset, .unset] [(.long y2)])) _
    refine XS.lload X12_.here hx rfl (hb hby at_152) rfl ?_
    show Steps p.tables e below (T12_.setTop (mkF m 154 #[.val (.int p0), .val (.int p1), .val (.int p2), .val (.int p3), .val (.int p4), .val (.int p5), .val (.int (4 : Int32)), .val (.long y1), .second, .val (.long y2), .second, .val (.long y3), .second, .val (.long y4), .second, .val (.long y5), .second, .val (.ref b1_), .unset, .unset, .unset, .unset] [(.long y5), (.long y2)])) _
    refine XS.lsub X12_.here hx rfl (hb hby at_154) rfl ?_
    show Steps p.tables e below (T12_.setTop (mkF m 155 #[.val (.int p0), .val (.int p1), .val (.int p2), .val (.int p3), .val (.int p4), .val (.int p5), .val (.int (4 : Int32)), .val (.long y1), .second, .val (.long y2), .second, .val (.long y3), .second, .val (.long y4), .second, .val (.long y5), .second, .val (.ref b1_), .unset, .unset, .unset, .unset] [(.long (y2 - y5))])) _
    refine st15_ _ ?_
    show Steps p.tables e below (T15_.setTop (mkF m 158 #[.val (.int p0), .val (.int p1), .val (.int p2), .val (.int p3), .val (.int p4), .val (.int p5), .val (.int (4 : Int32)), .val (.long y1), .second, .val (.long y2), .second, .val (.long y3), .second, .val (.long y4), .second, .val (.long y5), .second, .val (.ref b1_), .unset, .unset, .unset, .unset] [(.long ((y2 - y5) * (y2 - y5)))])) _
    refine XS.lload X15_.here hx rfl (hb hby at_158) rfl ?_
    show Steps p.tables e below (T15_.setTop (mkF m 160 #[.val (.int p0), .val (.int p1), .val (.int p2), .val (.int p3), .val (.int p4), .val (.int p5), .val (.int (4 : Int32)), .val (.long y1), .second, .val (.long y2), .second, .val (.long y3), .second, .val (.long y4), .second, .val (.long y5), .second, .val (.ref b1_), .unset, .unset, .unset, .unset] [(.long y3), (.long ((y2 - y5) * (y2 - y5)))])) _
    refine XS.lload X15_.here hx rfl (hb hby at_160) rfl ?_
    show Steps p.tables e below (T15_.setTop (mkF m 162 #[.val (.int p0), .val (.int p1), .val (.int p2), .val (.int p3), .val (.int p4), .val (.int p5), .val (.int (4 : Int32)), .val (.long y1), .second, .val (.long y2), .second, .val (.long y3), .second, .val (.long y4), .second, .val (.long y5), .second, .val (.ref b1_), .unset, .unset, .unset, .unset] [(.long y5), (.long y3), (.long ((y2 - y5) * (y2 - y5)))])) _
    refine XS.lsub X15_.here hx rfl (hb hby at_162) rfl ?_
    show Steps p.tables e below (T15_.setTop (mkF m 163 #[.val (.int p0), .val (.int p1), .val (.int p2), .val (.int p3), .val (.int p4), .val (.int p5), .val (.int (4 : Int32)), .val (.long y1), .second, .val (.long y2), .second, .val (.long y3), .second, .val (.long y4), .second, .val (.long y5), .second, .val (.ref b1_), .unset, .unset, .unset, .unset] [(.long (y3 - y5)), (.long ((y2 - y5) * (y2 - y5)))])) _
    refine st17_ _ ?_
    show Steps p.tables e below (T17_.setTop (mkF m 166 #[.val (.int p0), .val (.int p1), .val (.int p2), .val (.int p3), .val (.int p4), .val (.int p5), .val (.int (4 : Int32)), .val (.long y1), .second, .val (.long y2), .second, .val (.long y3), .second, .val (.long y4), .second, .val (.long y5), .second, .val (.ref b1_), .unset, .unset, .unset, .unset] [(.long ((y3 - y5) * (y3 - y5))), (.long ((y2 - y5) * (y2 - y5)))])) _
    refine XS.ladd X17_.here hx rfl (hb hby at_166) rfl ?_
    show Steps p.tables e below (T17_.setTop (mkF m 167 #[.val (.int p0), .val (.int p1), .val (.int p2), .val (.int p3), .val (.int p4), .val (.int p5), .val (.int (4 : Int32)), .val (.long y1), .second, .val (.long y2), .second, .val (.long y3), .second, .val (.long y4), .second, .val (.long y5), .second, .val (.ref b1_), .unset, .unset, .unset, .unset] [(.long (((y2 - y5) * (y2 - y5)) + ((y3 - y5) * (y3 - y5))))])) _
    refine XS.lload X17_.here hx rfl (hb hby at_167) rfl ?_
    show Steps p.tables e below (T17_.setTop (mkF m 169 #[.val (.int p0), .val (.int p1), .val (.int p2), .val (.int p3), .val (.int p4), .val (.int p5), .val (.int (4 : Int32)), .val (.long y1), .second, .val (.long y2), .second, .val (.long y3), .second, .val (.long y4), .second, .val (.long y5), .second, .val (.ref b1_), .unset, .unset, .unset, .unset] [(.long y4), (.long (((y2 - y5) * (y2 - y5)) + ((y3 - y5) * (y3 - y5))))])) _
    refine XS.lload X17_.here hx rfl (hb hby at_169) rfl ?_
    show Steps p.tables e below (T17_.setTop (mkF m 171 #[.val (.int p0), .val (.int p1), .val (.int p2), .val (.int p3), .val (.int p4), .val (.int p5), .val (.int (4 : Int32)), .val (.long y1), .second, .val (.long y2), .second, .val (.long y3), .second, .val (.long y4), .second, .val (.long y5), .second, .val (.ref b1_), .unset, .unset, .unset, .unset] [(.long y5), (.long y4), (.long (((y2 - y5) * (y2 - y5)) + ((y3 - y5) * (y3 - y5))))])) _
    refine XS.lsub X17_.here hx rfl (hb hby at_171) rfl ?_
    show Steps p.tables e below (T17_.setTop (mkF m 172 #[.val (.int p0), .val (.int p1), .val (.int p2), .val (.int p3), .val (.int p4), .val (.int p5), .val (.int (4 : Int32)), .val (.long y1), .second, .val (.long y2), .second, .val (.long y3), .second, .val (.long y4), .second, .val (.long y5), .second, .val (.ref b1_), .unset, .unset, .unset, .unset] [(.long (y4 - y5)), (.long (((y2 - y5) * (y2 - y5)) + ((y3 - y5) * (y3 - y5))))])) _
    refine st18_ _ ?_
    show Steps p.tables e below (T18_.setTop (mkF m 175 #[.val (.int p0), .val (.int p1), .val (.int p2), .val (.int p3), .val (.int p4), .val (.int p5), .val (.int (4 : Int32)), .val (.long y1), .second, .val (.long y2), .second, .val (.long y3), .second, .val (.long y4), .second, .val (.long y5), .second, .val (.ref b1_), .unset, .unset, .unset, .unset] [(.long ((y4 - y5) * (y4 - y5))), (.long (((y2 - y5) * (y2 - y5)) + ((y3 - y5) * (y3 - y5))))])) _
    refine XS.ladd X18_.here hx rfl (hb hby at_175) rfl ?_
    show Steps p.tables e below (T18_.setTop (mkF m 176 #[.val (.int p0), .val (.int p1), .val (.int p2), .val (.int p3), .val (.int p4), .val (.int p5), .val (.int (4 : Int32)), .val (.long y1), .second, .val (.long y2), .second, .val (.long y3), .second, .val (.long y4), .second, .val (.long y5), .second, .val (.ref b1_), .unset, .unset, .unset, .unset] [(.long ((((y2 - y5) * (y2 - y5)) + ((y3 - y5) * (y3 - y5))) + ((y4 - y5) * (y4 - y5))))])) _
    refine XS.lload X18_.here hx rfl (hb hby at_176) rfl ?_
    show Steps p.tables e below (T18_.setTop (mkF m 178 #[.val (.int p0), .val (.int p1), .val (.int p2), .val (.int p3), .val (.int p4), .val (.int p5), .val (.int (4 : Int32)), .val (.long y1), .second, .val (.long y2), .second, .val (.long y3), .second, .val (.long y4), .second, .val (.long y5), .second, .val (.ref b1_), .unset, .unset, .unset, .unset] [(.long y1), (.long ((((y2 - y5) * (y2 - y5)) + ((y3 - y5) * (y3 - y5))) + ((y4 - y5) * (y4 - y5))))])) _
    refine XS.lload X18_.here hx rfl (hb hby at_178) rfl ?_
    show Steps p.tables e below (T18_.setTop (mkF m 180 #[.val (.int p0), .val (.int p1), .val (.int p2), .val (.int p3), .val (.int p4), .val (.int p5), .val (.int (4 : Int32)), .val (.long y1), .second, .val (.long y2), .second, .val (.long y3), .second, .val (.long y4), .second, .val (.long y5), .second, .val (.ref b1_), .unset, .unset, .unset, .unset] [(.long y5), (.long y1), (.long ((((y2 - y5) * (y2 - y5)) + ((y3 - y5) * (y3 - y5))) + ((y4 - y5) * (y4 - y5))))])) _
    refine XS.lsub X18_.here hx rfl (hb hby at_180) rfl ?_
    show Steps p.tables e below (T18_.setTop (mkF m 181 #[.val (.int p0), .val (.int p1), .val (.int p2), .val (.int p3), .val (.int p4), .val (.int p5), .val (.int (4 : Int32)), .val (.long y1), .second, .val (.long y2), .second, .val (.long y3), .second, .val (.long y4), .second, .val (.long y5), .second, .val (.ref b1_), .unset, .unset, .unset, .unset] [(.long (y1 - y5)), (.long ((((y2 - y5) * (y2 - y5)) + ((y3 - y5) * (y3 - y5))) + ((y4 - y5) * (y4 - y5))))])) _
    refine st19_ _ ?_
    show Steps p.tables e below (T19_.setTop (mkF m 184 #[.val (.int p0), .val (.int p1), .val (.int p2), .val (.int p3), .val (.int p4), .val (.int p5), .val (.int (4 : Int32)), .val (.long y1), .second, .val (.long y2), .second, .val (.long y3), .second, .val (.long y4), .second, .val (.long y5), .second, .val (.ref b1_), .unset, .unset, .unset, .unset] [(.long ((y1 - y5) * (y1 - y5))), (.long ((((y2 - y5) * (y2 - y5)) + ((y3 - y5) * (y3 - y5))) + ((y4 - y5) * (y4 - y5))))])) _
    refine XS.ladd X19_.here hx rfl (hb hby at_184) rfl ?_
    show Steps p.tables e below (T19_.setTop (mkF m 185 #[.val (.int p0), .val (.int p1), .val (.int p2), .val (.int p3), .val (.int p4), .val (.int p5), .val (.int (4 : Int32)), .val (.long y1), .second, .val (.long y2), .second, .val (.long y3), .second, .val (.long y4), .second, .val (.long y5), .second, .val (.ref b1_), .unset, .unset, .unset, .unset] [(.long (((((y2 - y5) * (y2 - y5)) + ((y3 - y5) * (y3 - y5))) + ((y4 - y5) * (y4 - y5))) + ((y1 - y5) * (y1 - y5))))])) _
    refine XS.lstore X19_.here hx rfl (hb hby at_185) rfl (l' := #[.val (.int p0), .val (.int p1), .val (.int p2), .val (.int p3), .val (.int p4), .val (.int p5), .val (.int (4 : Int32)), .val (.long y1), .second, .val (.long y2), .second, .val (.long y3), .second, .val (.long y4), .second, .val (.long y5), .second, .val (.ref b1_), .val (.long (((((y2 - y5) * (y2 - y5)) + ((y3 - y5) * (y3 - y5))) + ((y4 - y5) * (y4 - y5))) + ((y1 - y5) * (y1 - y5)))), .second, .unset, .unset]) rfl ?_
    show Steps p.tables e below (T19_.setTop (mkF m 187 #[.val (.int p0), .val (.int p1), .val (.int p2), .val (.int p3), .val (.int p4), .val (.int p5), .val (.int (4 : Int32)), .val (.long y1), .second, .val (.long y2), .second, .val (.long y3), .second, .val (.long y4), .second, .val (.long y5), .second, .val (.ref b1_), .val (.long (((((y2 - y5) * (y2 - y5)) + ((y3 - y5) * (y3 - y5))) + ((y4 - y5) * (y4 - y5))) + ((y1 - y5) * (y1 - y5)))), .second, .unset, .unset] [])) _
    refine XS.lload X19_.here hx rfl (hb hby at_187) rfl ?_
    show Steps p.tables e below (T19_.setTop (mkF m 189 #[.val (.int p0), .val (.int p1), .val (.int p2), .val (.int p3), .val (.int p4), .val (.int p5), .val (.int (4 : Int32)), .val (.long y1), .second, .val (.long y2), .second, .val (.long y3), .second, .val (.long y4), .second, .val (.long y5), .second, .val (.ref b1_), .val (.long (((((y2 - y5) * (y2 - y5)) + ((y3 - y5) * (y3 - y5))) + ((y4 - y5) * (y4 - y5))) + ((y1 - y5) * (y1 - y5)))), .second, .unset, .unset] [(.long (((((y2 - y5) * (y2 - y5)) + ((y3 - y5) * (y3 - y5))) + ((y4 - y5) * (y4 - y5))) + ((y1 - y5) * (y1 - y5))))])) _
    refine XS.l2dS X19_.here hx rfl (hb hby at_189) rfl (v := (FP.l2d (((((y2 - y5) * (y2 - y5)) + ((y3 - y5) * (y3 - y5))) + ((y4 - y5) * (y4 - y5))) + ((y1 - y5) * (y1 - y5))))) rfl ?_
    show Steps p.tables e below (T19_.setTop (mkF m 190 #[.val (.int p0), .val (.int p1), .val (.int p2), .val (.int p3), .val (.int p4), .val (.int p5), .val (.int (4 : Int32)), .val (.long y1), .second, .val (.long y2), .second, .val (.long y3), .second, .val (.long y4), .second, .val (.long y5), .second, .val (.ref b1_), .val (.long (((((y2 - y5) * (y2 - y5)) + ((y3 - y5) * (y3 - y5))) + ((y4 - y5) * (y4 - y5))) + ((y1 - y5) * (y1 - y5)))), .second, .unset, .unset] [(.double (FP.l2d (((((y2 - y5) * (y2 - y5)) + ((y3 - y5) * (y3 - y5))) + ((y4 - y5) * (y4 - y5))) + ((y1 - y5) * (y1 - y5)))))])) _
    refine XS.iload X19_.here hx rfl (hb hby at_190) rfl ?_
    show Steps p.tables e below (T19_.setTop (mkF m 192 #[.val (.int p0), .val (.int p1), .val (.int p2), .val (.int p3), .val (.int p4), .val (.int p5), .val (.int (4 : Int32)), .val (.long y1), .second, .val (.long y2), .second, .val (.long y3), .second, .val (.long y4), .second, .val (.long y5), .second, .val (.ref b1_), .val (.long (((((y2 - y5) * (y2 - y5)) + ((y3 - y5) * (y3 - y5))) + ((y4 - y5) * (y4 - y5))) + ((y1 - y5) * (y1 - y5)))), .second, .unset, .unset] [(.int (4 : Int32)), (.double (FP.l2d (((((y2 - y5) * (y2 - y5)) + ((y3 - y5) * (y3 - y5))) + ((y4 - y5) * (y4 - y5))) + ((y1 - y5) * (y1 - y5)))))])) _
    refine XS.iconst X19_.here hx rfl (hb hby at_192) ?_
    show Steps p.tables e below (T19_.setTop (mkF m 193 #[.val (.int p0), .val (.int p1), .val (.int p2), .val (.int p3), .val (.int p4), .val (.int p5), .val (.int (4 : Int32)), .val (.long y1), .second, .val (.long y2), .second, .val (.long y3), .second, .val (.long y4), .second, .val (.long y5), .second, .val (.ref b1_), .val (.long (((((y2 - y5) * (y2 - y5)) + ((y3 - y5) * (y3 - y5))) + ((y4 - y5) * (y4 - y5))) + ((y1 - y5) * (y1 - y5)))), .second, .unset, .unset] [(.int (1 : Int32)), (.int (4 : Int32)), (.double (FP.l2d (((((y2 - y5) * (y2 - y5)) + ((y3 - y5) * (y3 - y5))) + ((y4 - y5) * (y4 - y5))) + ((y1 - y5) * (y1 - y5)))))])) _
    refine XS.isub X19_.here hx rfl (hb hby at_193) rfl ?_
    show Steps p.tables e below (T19_.setTop (mkF m 194 #[.val (.int p0), .val (.int p1), .val (.int p2), .val (.int p3), .val (.int p4), .val (.int p5), .val (.int (4 : Int32)), .val (.long y1), .second, .val (.long y2), .second, .val (.long y3), .second, .val (.long y4), .second, .val (.long y5), .second, .val (.ref b1_), .val (.long (((((y2 - y5) * (y2 - y5)) + ((y3 - y5) * (y3 - y5))) + ((y4 - y5) * (y4 - y5))) + ((y1 - y5) * (y1 - y5)))), .second, .unset, .unset] [(.int (3 : Int32)), (.double (FP.l2d (((((y2 - y5) * (y2 - y5)) + ((y3 - y5) * (y3 - y5))) + ((y4 - y5) * (y4 - y5))) + ((y1 - y5) * (y1 - y5)))))])) _
    refine XS.i2dS X19_.here hx rfl (hb hby at_194) rfl (v := (FP.i2d (3 : Int32))) rfl ?_
    show Steps p.tables e below (T19_.setTop (mkF m 195 #[.val (.int p0), .val (.int p1), .val (.int p2), .val (.int p3), .val (.int p4), .val (.int p5), .val (.int (4 : Int32)), .val (.long y1), .second, .val (.long y2), .second, .val (.long y3), .second, .val (.long y4), .second, .val (.long y5), .second, .val (.ref b1_), .val (.long (((((y2 - y5) * (y2 - y5)) + ((y3 - y5) * (y3 - y5))) + ((y4 - y5) * (y4 - y5))) + ((y1 - y5) * (y1 - y5)))), .second, .unset, .unset] [(.double (FP.i2d (3 : Int32))), (.double (FP.l2d (((((y2 - y5) * (y2 - y5)) + ((y3 - y5) * (y3 - y5))) + ((y4 - y5) * (y4 - y5))) + ((y1 - y5) * (y1 - y5)))))])) _
    refine XS.ddivS X19_.here hx rfl (hb hby at_195) rfl q20_ (v := (FP.ddiv (FP.l2d (((((y2 - y5) * (y2 - y5)) + ((y3 - y5) * (y3 - y5))) + ((y4 - y5) * (y4 - y5))) + ((y1 - y5) * (y1 - y5)))) (FP.i2d (3 : Int32)))) rfl ?_
    show Steps p.tables e below (T19_.setTop (mkF m 196 #[.val (.int p0), .val (.int p1), .val (.int p2), .val (.int p3), .val (.int p4), .val (.int p5), .val (.int (4 : Int32)), .val (.long y1), .second, .val (.long y2), .second, .val (.long y3), .second, .val (.long y4), .second, .val (.long y5), .second, .val (.ref b1_), .val (.long (((((y2 - y5) * (y2 - y5)) + ((y3 - y5) * (y3 - y5))) + ((y4 - y5) * (y4 - y5))) + ((y1 - y5) * (y1 - y5)))), .second, .unset, .unset] [(.double (FP.ddiv (FP.l2d (((((y2 - y5) * (y2 - y5)) + ((y3 - y5) * (y3 - y5))) + ((y4 - y5) * (y4 - y5))) + ((y1 - y5) * (y1 - y5)))) (FP.i2d (3 : Int32))))])) _
    refine XS.dstore X19_.here hx rfl (hb hby at_196) rfl (l' := #[.val (.int p0), .val (.int p1), .val (.int p2), .val (.int p3), .val (.int p4), .val (.int p5), .val (.int (4 : Int32)), .val (.long y1), .second, .val (.long y2), .second, .val (.long y3), .second, .val (.long y4), .second, .val (.long y5), .second, .val (.ref b1_), .val (.long (((((y2 - y5) * (y2 - y5)) + ((y3 - y5) * (y3 - y5))) + ((y4 - y5) * (y4 - y5))) + ((y1 - y5) * (y1 - y5)))), .second, .val (.double (FP.ddiv (FP.l2d (((((y2 - y5) * (y2 - y5)) + ((y3 - y5) * (y3 - y5))) + ((y4 - y5) * (y4 - y5))) + ((y1 - y5) * (y1 - y5)))) (FP.i2d (3 : Int32)))), .second]) rfl ?_
    show Steps p.tables e below (T19_.setTop (mkF m 198 #[.val (.int p0), .val (.int p1), .val (.int p2), .val (.int p3), .val (.int p4), .val (.int p5), .val (.int (4 : Int32)), .val (.long y1), .second, .val (.long y2), .second, .val (.long y3), .second, .val (.long y4), .second, .val (.long y5), .second, .val (.ref b1_), .val (.long (((((y2 - y5) * (y2 - y5)) + ((y3 - y5) * (y3 - y5))) + ((y4 - y5) * (y4 - y5))) + ((y1 - y5) * (y1 - y5)))), .second, .val (.double (FP.ddiv (FP.l2d (((((y2 - y5) * (y2 - y5)) + ((y3 - y5) * (y3 - y5))) + ((y4 - y5) * (y4 - y5))) + ((y1 - y5) * (y1 - y5)))) (FP.i2d (3 : Int32)))), .second] [])) _
    refine XS.aload X19_.here hx rfl (hb hby at_198) rfl rfl ?_
    show Steps p.tables e below (T19_.setTop (mkF m 200 #[.val (.int p0), .val (.int p1), .val (.int p2), .val (.int p3), .val (.int p4), .val (.int p5), .val (.int (4 : Int32)), .val (.long y1), .second, .val (.long y2), .second, .val (.long y3), .second, .val (.long y4), .second, .val (.long y5), .second, .val (.ref b1_), .val (.long (((((y2 - y5) * (y2 - y5)) + ((y3 - y5) * (y3 - y5))) + ((y4 - y5) * (y4 - y5))) + ((y1 - y5) * (y1 - y5)))), .second, .val (.double (FP.ddiv (FP.l2d (((((y2 - y5) * (y2 - y5)) + ((y3 - y5) * (y3 - y5))) + ((y4 - y5) * (y4 - y5))) + ((y1 - y5) * (y1 - y5)))) (FP.i2d (3 : Int32)))), .second] [(.ref b1_)])) _
    refine XS.lload X19_.here hx rfl (hb hby at_200) rfl ?_
    show Steps p.tables e below (T19_.setTop (mkF m 202 #[.val (.int p0), .val (.int p1), .val (.int p2), .val (.int p3), .val (.int p4), .val (.int p5), .val (.int (4 : Int32)), .val (.long y1), .second, .val (.long y2), .second, .val (.long y3), .second, .val (.long y4), .second, .val (.long y5), .second, .val (.ref b1_), .val (.long (((((y2 - y5) * (y2 - y5)) + ((y3 - y5) * (y3 - y5))) + ((y4 - y5) * (y4 - y5))) + ((y1 - y5) * (y1 - y5)))), .second, .val (.double (FP.ddiv (FP.l2d (((((y2 - y5) * (y2 - y5)) + ((y3 - y5) * (y3 - y5))) + ((y4 - y5) * (y4 - y5))) + ((y1 - y5) * (y1 - y5)))) (FP.i2d (3 : Int32)))), .second] [(.long y5), (.ref b1_)])) _
    refine XS.l2dS X19_.here hx rfl (hb hby at_202) rfl (v := (FP.l2d y5)) rfl ?_
    show Steps p.tables e below (T19_.setTop (mkF m 203 #[.val (.int p0), .val (.int p1), .val (.int p2), .val (.int p3), .val (.int p4), .val (.int p5), .val (.int (4 : Int32)), .val (.long y1), .second, .val (.long y2), .second, .val (.long y3), .second, .val (.long y4), .second, .val (.long y5), .second, .val (.ref b1_), .val (.long (((((y2 - y5) * (y2 - y5)) + ((y3 - y5) * (y3 - y5))) + ((y4 - y5) * (y4 - y5))) + ((y1 - y5) * (y1 - y5)))), .second, .val (.double (FP.ddiv (FP.l2d (((((y2 - y5) * (y2 - y5)) + ((y3 - y5) * (y3 - y5))) + ((y4 - y5) * (y4 - y5))) + ((y1 - y5) * (y1 - y5)))) (FP.i2d (3 : Int32)))), .second] [(.double (FP.l2d y5)), (.ref b1_)])) _
    refine st21_.trans ?_
    show Steps p.tables e below (T21_.setTop (mkF m 206 #[.val (.int p0), .val (.int p1), .val (.int p2), .val (.int p3), .val (.int p4), .val (.int p5), .val (.int (4 : Int32)), .val (.long y1), .second, .val (.long y2), .second, .val (.long y3), .second, .val (.long y4), .second, .val (.long y5), .second, .val (.ref b1_), .val (.long (((((y2 - y5) * (y2 - y5)) + ((y3 - y5) * (y3 - y5))) + ((y4 - y5) * (y4 - y5))) + ((y1 - y5) * (y1 - y5)))), .second, .val (.double (FP.ddiv (FP.l2d (((((y2 - y5) * (y2 - y5)) + ((y3 - y5) * (y3 - y5))) + ((y4 - y5) * (y4 - y5))) + ((y1 - y5) * (y1 - y5)))) (FP.i2d (3 : Int32)))), .second] [(.double (FP.ddiv (FP.l2d (((((0 : Int64) + ((y2 - y5) * (y2 - y5))) + ((y3 - y5) * (y3 - y5))) + ((y4 - y5) * (y4 - y5))) + ((y1 - y5) * (y1 - y5)))) (FP.i2d (3 : Int32))))])) _
    refine XS.dload X21_.here hx rfl (hb hby at_206) rfl ?_
    show Steps p.tables e below (T21_.setTop (mkF m 208 #[.val (.int p0), .val (.int p1), .val (.int p2), .val (.int p3), .val (.int p4), .val (.int p5), .val (.int (4 : Int32)), .val (.long y1), .second, .val (.long y2), .second, .val (.long y3), .second, .val (.long y4), .second, .val (.long y5), .second, .val (.ref b1_), .val (.long (((((y2 - y5) * (y2 - y5)) + ((y3 - y5) * (y3 - y5))) + ((y4 - y5) * (y4 - y5))) + ((y1 - y5) * (y1 - y5)))), .second, .val (.double (FP.ddiv (FP.l2d (((((y2 - y5) * (y2 - y5)) + ((y3 - y5) * (y3 - y5))) + ((y4 - y5) * (y4 - y5))) + ((y1 - y5) * (y1 - y5)))) (FP.i2d (3 : Int32)))), .second] [(.double (FP.ddiv (FP.l2d (((((y2 - y5) * (y2 - y5)) + ((y3 - y5) * (y3 - y5))) + ((y4 - y5) * (y4 - y5))) + ((y1 - y5) * (y1 - y5)))) (FP.i2d (3 : Int32)))), (.double (FP.ddiv (FP.l2d (((((0 : Int64) + ((y2 - y5) * (y2 - y5))) + ((y3 - y5) * (y3 - y5))) + ((y4 - y5) * (y4 - y5))) + ((y1 - y5) * (y1 - y5)))) (FP.i2d (3 : Int32))))])) _
    refine XS.dcmpS X21_.here hx rfl (hb hby at_208) rfl (v := (cmpValue (FP.dcmp (FP.ddiv (FP.l2d (((((0 : Int64) + ((y2 - y5) * (y2 - y5))) + ((y3 - y5) * (y3 - y5))) + ((y4 - y5) * (y4 - y5))) + ((y1 - y5) * (y1 - y5)))) (FP.i2d (3 : Int32))) (FP.ddiv (FP.l2d (((((y2 - y5) * (y2 - y5)) + ((y3 - y5) * (y3 - y5))) + ((y4 - y5) * (y4 - y5))) + ((y1 - y5) * (y1 - y5)))) (FP.i2d (3 : Int32)))) .l)) rfl ?_
    show Steps p.tables e below (T21_.setTop (mkF m 209 #[.val (.int p0), .val (.int p1), .val (.int p2), .val (.int p3), .val (.int p4), .val (.int p5), .val (.int (4 : Int32)), .val (.long y1), .second, .val (.long y2), .second, .val (.long y3), .second, .val (.long y4), .second, .val (.long y5), .second, .val (.ref b1_), .val (.long (((((y2 - y5) * (y2 - y5)) + ((y3 - y5) * (y3 - y5))) + ((y4 - y5) * (y4 - y5))) + ((y1 - y5) * (y1 - y5)))), .second, .val (.double (FP.ddiv (FP.l2d (((((y2 - y5) * (y2 - y5)) + ((y3 - y5) * (y3 - y5))) + ((y4 - y5) * (y4 - y5))) + ((y1 - y5) * (y1 - y5)))) (FP.i2d (3 : Int32)))), .second] [(.int (cmpValue (FP.dcmp (FP.ddiv (FP.l2d (((((0 : Int64) + ((y2 - y5) * (y2 - y5))) + ((y3 - y5) * (y3 - y5))) + ((y4 - y5) * (y4 - y5))) + ((y1 - y5) * (y1 - y5)))) (FP.i2d (3 : Int32))) (FP.ddiv (FP.l2d (((((y2 - y5) * (y2 - y5)) + ((y3 - y5) * (y3 - y5))) + ((y4 - y5) * (y4 - y5))) + ((y1 - y5) * (y1 - y5)))) (FP.i2d (3 : Int32)))) .l))])) _
    refine XS.ifNo X21_.here hx rfl (hb hby at_209) rfl ((if0 _ _).trans (teq (hcmp : (cmpValue (FP.dcmp (FP.ddiv (FP.l2d (((((0 : Int64) + ((y2 - y5) * (y2 - y5))) + ((y3 - y5) * (y3 - y5))) + ((y4 - y5) * (y4 - y5))) + ((y1 - y5) * (y1 - y5)))) (FP.i2d (3 : Int32))) (FP.ddiv (FP.l2d (((((y2 - y5) * (y2 - y5)) + ((y3 - y5) * (y3 - y5))) + ((y4 - y5) * (y4 - y5))) + ((y1 - y5) * (y1 - y5)))) (FP.i2d (3 : Int32)))) .l) = (0 : Int32))).2) ?_
    show Steps p.tables e below (T21_.setTop (mkF m 212 #[.val (.int p0), .val (.int p1), .val (.int p2), .val (.int p3), .val (.int p4), .val (.int p5), .val (.int (4 : Int32)), .val (.long y1), .second, .val (.long y2), .second, .val (.long y3), .second, .val (.long y4), .second, .val (.long y5), .second, .val (.ref b1_), .val (.long (((((y2 - y5) * (y2 - y5)) + ((y3 - y5) * (y3 - y5))) + ((y4 - y5) * (y4 - y5))) + ((y1 - y5) * (y1 - y5)))), .second, .val (.double (FP.ddiv (FP.l2d (((((y2 - y5) * (y2 - y5)) + ((y3 - y5) * (y3 - y5))) + ((y4 - y5) * (y4 - y5))) + ((y1 - y5) * (y1 - y5)))) (FP.i2d (3 : Int32)))), .second] [])) _
    refine XS.iconst X21_.here hx rfl (hb hby at_212) ?_
    show Steps p.tables e below (T21_.setTop (mkF m 213 #[.val (.int p0), .val (.int p1), .val (.int p2), .val (.int p3), .val (.int p4), .val (.int p5), .val (.int (4 : Int32)), .val (.long y1), .second, .val (.long y2), .second, .val (.long y3), .second, .val (.long y4), .second, .val (.long y5), .second, .val (.ref b1_), .val (.long (((((y2 - y5) * (y2 - y5)) + ((y3 - y5) * (y3 - y5))) + ((y4 - y5) * (y4 - y5))) + ((y1 - y5) * (y1 - y5)))), .second, .val (.double (FP.ddiv (FP.l2d (((((y2 - y5) * (y2 - y5)) + ((y3 - y5) * (y3 - y5))) + ((y4 - y5) * (y4 - y5))) + ((y1 - y5) * (y1 - y5)))) (FP.i2d (3 : Int32)))), .second] [(.int (1 : Int32))])) _
    refine XS.goto X21_.here hx rfl (pc0 := 213) (pc' := 217) rfl (hb hby at_213) (by decide) (by decide) ?_
    show Steps p.tables e below (T21_.setTop (mkF m 217 #[.val (.int p0), .val (.int p1), .val (.int p2), .val (.int p3), .val (.int p4), .val (.int p5), .val (.int (4 : Int32)), .val (.long y1), .second, .val (.long y2), .second, .val (.long y3), .second, .val (.long y4), .second, .val (.long y5), .second, .val (.ref b1_), .val (.long (((((y2 - y5) * (y2 - y5)) + ((y3 - y5) * (y3 - y5))) + ((y4 - y5) * (y4 - y5))) + ((y1 - y5) * (y1 - y5)))), .second, .val (.double (FP.ddiv (FP.l2d (((((y2 - y5) * (y2 - y5)) + ((y3 - y5) * (y3 - y5))) + ((y4 - y5) * (y4 - y5))) + ((y1 - y5) * (y1 - y5)))) (FP.i2d (3 : Int32)))), .second] [(.int (1 : Int32))])) _
    exact retN X21_ hx (t := .boolean) Bd.returns (by simp) (hb hby at_217) hr
  · show Q_rm0_4 Z p0 p1 p2 p3 p4 p5 y1 y2 y3 y4 y5 h0 n0 _ T21_.heap _
    rw [ek21_]
    exact ⟨rfl, N21_⟩
set_option maxRecDepth 65536 in
set_option maxHeartbeats 40000000 in
theorem comes_1 {Post : Tables → Env → Array Value → State → Outcome → State → Prop} (hpost : ∀ tb e args s v u, (limb_1_1.after args s (.returned v) u = true ∧ limb_1_2.after args s (.returned v) u = true ∧ True) → FrameEnd s (.returned v) u (Jvm.fieldLocs frame_1_writes args s ++ Jvm.arrayLocs frame_1_arrays args s ++ Jvm.staticLocs frame_1_statics s) 16 128 → Post tb e args s (.returned v) u) :
    ArmFor flags0 classFile x code maxLocals ret World_1 tables_1 room_1 Calls_1 rest_1 Pre_1 Post := by
  intro l hfl _ _ p e ha hc hk s m args below hf hA hF happ hP
  obtain ⟨hcalls, hrest, hpre⟩ := hP
  obtain ⟨-, -, -, hnamed, -, -, -, hat⟩ := (Spec.applies_iff hf).mp happ
  obtain ⟨hg, hn⟩ := and_e (Cond.before_iff.mp (show (Jvm.Cond.and given_1 narrow_1).before args s = true from hpre))
  obtain ⟨g0, r0⟩ := and_e hg
  obtain ⟨g1, r1⟩ := and_e r0
  obtain ⟨g2, r2⟩ := and_e r1
  obtain ⟨g3, r3⟩ := and_e r2
  obtain ⟨g4, r4⟩ := and_e r3
  obtain ⟨g5, r5⟩ := and_e r4
  have g6 := r5
  obtain ⟨w0, w1, w2, w3, w4, w5, rfl⟩ : ∃ w0 w1 w2 w3 w4 w5 : Value, args = #[w0, w1, w2, w3, w4, w5] := by
    have hs : args.size = 6 := by simpa [Cond.value, given_1] using g0
    obtain ⟨L⟩ := args
    match L, hs with
    | [w0, w1, w2, w3, w4, w5], _ => exact ⟨w0, w1, w2, w3, w4, w5, rfl⟩
  have hw := fun d (hd : d ∈ tables_1) => atoms_spec (ws := Jvm.Cond.code x code maxLocals ret :: tables_1) hat d (List.mem_cons_of_mem _ hd)
  obtain ⟨i0, ei0⟩ := is_v g1
  obtain rfl : w0 = (.int i0) := Option.some.inj ei0
  obtain ⟨i1, ei1⟩ := is_v g2
  obtain rfl : w1 = (.int i1) := Option.some.inj ei1
  obtain ⟨i2, ei2⟩ := is_v g3
  obtain rfl : w2 = (.int i2) := Option.some.inj ei2
  obtain ⟨i3, ei3⟩ := is_v g4
  obtain rfl : w3 = (.int i3) := Option.some.inj ei3
  obtain ⟨i4, ei4⟩ := is_v g5
  obtain rfl : w4 = (.int i4) := Option.some.inj ei4
  obtain ⟨i5, ei5⟩ := is_v g6
  obtain rfl : w5 = (.int i5) := Option.some.inj ei5
  rcases own_n i0 with hn0 | hn0 | hn0
  · obtain ⟨n, o, h1, h2, h3, _, L, rfl, ⟨rfl, N⟩, hq⟩ := rm0_2 l s _ hw tables_1 i0 i1 i2 i3 i4 i5 _ _ _ _ _ s.heap s.heap.size (Nat.le_refl _) hn0 rfl rfl rfl rfl rfl (own_R.shr11 _) (own_R.shr11 _) (own_R.shr11 _) (own_R.shr11 _) (own_R.shr11 _) p e ha hc hk s m _ below hf ((Spec.applies_iff_loose hf).mp happ).1 ⟨rfl, State.Warmed39.refl s, rfl⟩ trivial
    refine ⟨n, _, h1, h2, h3, hpost _ _ _ _ _ _ ⟨Cond.after_iff.mpr rfl, Cond.after_iff.mpr (eq_i res_at (Term.int_eval (1)) rfl), trivial⟩ ⟨hq.1, hq.2.1, (hq.2.2.sift fun y hy => Or.inr (N y hy)).mono (by decide) (by decide)⟩⟩
  · obtain ⟨n, o, h1, h2, h3, _, L, rfl, ⟨rfl, N⟩, hq⟩ := rm0_3 l s _ hw tables_1 i0 i1 i2 i3 i4 i5 _ _ _ _ _ s.heap s.heap.size (Nat.le_refl _) hn0 rfl rfl rfl rfl rfl (own_R.shr11 _) (own_R.shr11 _) (own_R.shr11 _) (own_R.shr11 _) (own_R.shr11 _) p e ha hc hk s m _ below hf ((Spec.applies_iff_loose hf).mp happ).1 ⟨rfl, State.Warmed39.refl s, rfl⟩ trivial
    refine ⟨n, _, h1, h2, h3, hpost _ _ _ _ _ _ ⟨Cond.after_iff.mpr rfl, Cond.after_iff.mpr (eq_i res_at (Term.int_eval (1)) rfl), trivial⟩ ⟨hq.1, hq.2.1, (hq.2.2.sift fun y hy => Or.inr (N y hy)).mono (by decide) (by decide)⟩⟩
  · obtain ⟨n, o, h1, h2, h3, _, L, rfl, ⟨rfl, N⟩, hq⟩ := rm0_4 l s _ hw tables_1 i0 i1 i2 i3 i4 i5 _ _ _ _ _ s.heap s.heap.size (Nat.le_refl _) hn0 rfl rfl rfl rfl rfl (own_R.shr11 _) (own_R.shr11 _) (own_R.shr11 _) (own_R.shr11 _) (own_R.shr11 _) p e ha hc hk s m _ below hf ((Spec.applies_iff_loose hf).mp happ).1 ⟨rfl, State.Warmed39.refl s, rfl⟩ trivial
    refine ⟨n, _, h1, h2, h3, hpost _ _ _ _ _ _ ⟨Cond.after_iff.mpr rfl, Cond.after_iff.mpr (eq_i res_at (Term.int_eval (1)) rfl), trivial⟩ ⟨hq.1, hq.2.1, (hq.2.2.sift fun y hy => Or.inr (N y hy)).mono (by decide) (by decide)⟩⟩
theorem main_1_1 : Claimed_1_1 := comes_1 fun _ _ _ _ _ _ h hF => ⟨h.1, hF⟩
theorem main_1_2 : Claimed_1_2 := comes_1 fun _ _ _ _ _ _ h hF => ⟨h.2.1, hF⟩

end Jvm.Pilot.@@N@@
namespace Jvm.Pilot.@@N@@
open Jvm Jvm.ClassFile Sem Op Lib Jvm.Free Jvm.Stand Jvm.Pilot.@@N@@.Jvm.D
/-! MADE BY PROGRAM (witnessworld.py) out of the Statement's table words and the real class files: 10 classes; the members and pool entries that the words name. The judged class is class 1, her method 2. -/
namespace start1
open Jvm.ClassFile
def u (s : String) : CpInfo := .utf8 (stringToUtf16 s)
/-- a pool by its gaps: so many unusable entries, then the entry; so many at the end -/
def gap : Nat → List CpInfo → List CpInfo
  | 0, r => r
  | n + 1, r => .unusable :: gap n r
def poolList (es : List (Nat × CpInfo)) (last : Nat) : List CpInfo := es.foldr (fun e r => gap e.1 (e.2 :: r)) (gap last [])
def pool (es : List (Nat × CpInfo)) (last : Nat) : Array CpInfo := ⟨poolList es last⟩
def fileOf (pool : Array CpInfo) (this : Nat) (attrs : Array Attribute := #[]) (ms : Array MethodInfo := #[]) (fl : Nat := 33) (sup : Nat := 0) (ifs : Array Nat := #[]) (fds : Array FieldInfo := #[]) : ClassFile where
  minorVersion := 0
  majorVersion := 65
  constantPool := pool
  accessFlags := fl
  thisClass := this
  superClass := sup
  interfaces := ifs
  fields := fds
  methods := ms
  attributes := attrs
def plain (name : String) (sup : Option ClassId) : Class where
  name := name
  kind := .ordinary
  loader := none
  accessFlags := 33
  super := sup
  interfaces := #[]
  cf := none
  fields := #[]
  methods := #[]
  instanceTypes := #[]
  staticTypes := #[]
  resolved := #[]
  callSites := []
  init := .initialized
  statics := none
  mirror := none

def pool0 : Array CpInfo := pool [(5, u "<init>"), (0, u "()V"), (1, .class_ 10), (1, u "java/lang/Object")] 113

def k0c0 : Code := { maxStack := 0, maxLocals := 1, code := object_method_1_code, exceptionTable := #[], attributes := #[] }
def k0m0 : Method := { name := "<init>", desc := "()V", sig := { parameters := [], returnType := none }, accessFlags := 1, code := some k0c0 }
/-- java/lang/Object -/
def k0 : Class := { plain "java/lang/Object" none with
  accessFlags := 33
  interfaces := #[]
  cf := some (fileOf pool0 8 #[] #[{ accessFlags := 1, nameIndex := 5, descriptorIndex := 6, attributes := #[] }] 33 0 #[] #[])
  fields := #[]
  methods := #[k0m0]
  instanceTypes := #[]
  staticTypes := #[]
  resolved := Array.replicate 124 none
  statics := none }

def pool1 : Array CpInfo := pool [(2, .class_ 4), (1, u "java/lang/Object"), (0, u "<init>"), (0, u "()V"), (0, .integer 2147483647), (0, .class_ 9), (0, u "com/example/whipstill/whipstill/MovingWindow"), (0, .methodref 8 11), (0, .nameAndType 5 12), (0, u "(ID)V"), (0, .methodref 8 14), (0, .nameAndType 15 16), (0, u "add"), (0, u "(D)V"), (0, .methodref 18 19), (0, .class_ 20), (0, .nameAndType 21 22), (0, u "com/example/whipstill/whipstill/MovingWindowSampleVariancePinLaw"), (0, u "sq"), (0, u "(J)J"), (0, .methodref 8 24), (0, .nameAndType 25 26), (0, u "sampleVariance"), (0, u "(D)D"), (2, u "law"), (0, u "(IIIIII)Z")] 3

def k1m0 : Method := { name := "<init>", desc := "()V", sig := { parameters := [], returnType := none }, accessFlags := 1, code := none }
def k1c1 : Code := { maxStack := 4, maxLocals := 2, code := method_2_code, exceptionTable := #[], attributes := #[] }
def k1m1 : Method := { name := "sq", desc := "(J)J", sig := { parameters := [.long], returnType := some .long }, accessFlags := 10, code := some k1c1 }
def k1c2 : Code := { maxStack := 6, maxLocals := 22, code := code, exceptionTable := #[], attributes := #[] }
def k1m2 : Method := { name := "law", desc := "(IIIIII)Z", sig := { parameters := [.int, .int, .int, .int, .int, .int], returnType := some .boolean }, accessFlags := 9, code := some k1c2 }
/-- com/example/whipstill/whipstill/MovingWindowSampleVariancePinLaw -/
def k1 : Class := { plain "com/example/whipstill/whipstill/MovingWindowSampleVariancePinLaw" (some 0) with
  accessFlags := 49
  interfaces := #[]
  cf := some (fileOf pool1 18 #[] #[{ accessFlags := 1, nameIndex := 5, descriptorIndex := 6, attributes := #[] }, { accessFlags := 10, nameIndex := 21, descriptorIndex := 22, attributes := #[] }, { accessFlags := 9, nameIndex := 29, descriptorIndex := 30, attributes := #[] }] 49 2 #[] #[])
  fields := #[]
  methods := #[k1m0, k1m1, k1m2]
  instanceTypes := #[]
  staticTypes := #[]
  resolved := Array.replicate 34 none
  statics := none }

def pool2 : Array CpInfo := pool [(1, .methodref 2 3), (0, .class_ 4), (0, .nameAndType 5 6), (0, u "java/lang/Object"), (0, u "<init>"), (0, u "()V"), (9, .fieldref 17 18), (0, .class_ 19), (0, .nameAndType 20 21), (0, u "com/example/whipstill/whipstill/MovingWindow"), (0, u "values"), (0, u "[D"), (0, .methodref 23 24), (0, .class_ 25), (0, .nameAndType 26 27), (0, u "java/util/Arrays"), (0, u "fill"), (0, u "([DD)V"), (0, .fieldref 17 29), (0, .nameAndType 30 31), (0, u "oldest"), (0, u "I"), (37, u "(ID)V"), (3, u "add"), (0, u "(D)V"), (4, u "(D)D"), (3, u "sampleVariance")] 36

def k2c0 : Code := { maxStack := 3, maxLocals := 4, code := prog_11_method_1_code, exceptionTable := #[], attributes := #[] }
def k2m0 : Method := { name := "<init>", desc := "(ID)V", sig := { parameters := [.int, .double], returnType := none }, accessFlags := 0, code := some k2c0 }
def k2c1 : Code := { maxStack := 4, maxLocals := 3, code := prog_11_method_2_code, exceptionTable := #[], attributes := #[] }
def k2m1 : Method := { name := "add", desc := "(D)V", sig := { parameters := [.double], returnType := none }, accessFlags := 0, code := some k2c1 }
def k2c2 : Code := { maxStack := 8, maxLocals := 10, code := prog_11_method_8_code, exceptionTable := #[], attributes := #[] }
def k2m2 : Method := { name := "sampleVariance", desc := "(D)D", sig := { parameters := [.double], returnType := some .double }, accessFlags := 0, code := some k2c2 }
/-- com/example/whipstill/whipstill/MovingWindow -/
def k2 : Class := { plain "com/example/whipstill/whipstill/MovingWindow" (some 0) with
  accessFlags := 48
  interfaces := #[]
  cf := some (fileOf pool2 17 #[] #[{ accessFlags := 0, nameIndex := 5, descriptorIndex := 69, attributes := #[] }, { accessFlags := 0, nameIndex := 73, descriptorIndex := 74, attributes := #[] }, { accessFlags := 0, nameIndex := 83, descriptorIndex := 79, attributes := #[] }] 48 2 #[] #[{ accessFlags := 18, nameIndex := 20, descriptorIndex := 21, attributes := #[] }, { accessFlags := 2, nameIndex := 30, descriptorIndex := 31, attributes := #[] }])
  fields := #[{ name := "values", type := (.array .double), accessFlags := 18, slot := 0, constantValue := 0 }, { name := "oldest", type := .int, accessFlags := 2, slot := 1, constantValue := 0 }]
  methods := #[k2m0, k2m1, k2m2]
  instanceTypes := #[(.array .double), .int]
  staticTypes := #[]
  resolved := Array.replicate 120 none
  statics := none }

def pool3 : Array CpInfo := pool [(2, .class_ 4), (1, u "java/lang/Object"), (0, u "<init>"), (0, u "()V"), (7, .class_ 16), (1, u "java/util/Arrays"), (57, .class_ 76), (1, u "java/util/Arrays$NaturalOrder"), (36, .class_ 115), (1, u "java/util/Arrays$LegacyMergeSort"), (1, u "Z"), (257, .class_ 376), (0, u "java/util/Arrays$ArrayList"), (68, u "$assertionsDisabled"), (269, u "MIN_ARRAY_SORT_GRAN"), (0, u "I"), (2, u "INSERTIONSORT_THRESHOLD"), (120, u "fill"), (13, u "([DD)V"), (120, .class_ 976), (0, u "java/util/Arrays$ArrayItr")] 52

def k3m0 : Method := { name := "<init>", desc := "()V", sig := { parameters := [], returnType := none }, accessFlags := 2, code := none }
def k3c1 : Code := { maxStack := 4, maxLocals := 5, code := jdk_65_method_113_code, exceptionTable := #[], attributes := #[] }
def k3m1 : Method := { name := "fill", desc := "([DD)V", sig := { parameters := [(.array .double), .double], returnType := none }, accessFlags := 9, code := some k3c1 }
/-- java/util/Arrays -/
def k3 : Class := { plain "java/util/Arrays" (some 0) with
  accessFlags := 49
  interfaces := #[]
  cf := some (fileOf pool3 14 #[.nestMembers #[975, 375, 113, 74]] #[{ accessFlags := 2, nameIndex := 5, descriptorIndex := 6, attributes := #[] }, { accessFlags := 9, nameIndex := 840, descriptorIndex := 854, attributes := #[] }] 49 2 #[] #[{ accessFlags := 26, nameIndex := 715, descriptorIndex := 716, attributes := #[] }, { accessFlags := 26, nameIndex := 719, descriptorIndex := 716, attributes := #[] }, { accessFlags := 4120, nameIndex := 445, descriptorIndex := 117, attributes := #[] }])
  fields := #[{ name := "MIN_ARRAY_SORT_GRAN", type := .int, accessFlags := 26, slot := 0, constantValue := 0 }, { name := "INSERTIONSORT_THRESHOLD", type := .int, accessFlags := 26, slot := 1, constantValue := 0 }, { name := "$assertionsDisabled", type := .boolean, accessFlags := 4120, slot := 2, constantValue := 0 }]
  methods := #[k3m0, k3m1]
  instanceTypes := #[]
  staticTypes := #[.int, .int, .boolean]
  resolved := Array.replicate 1029 none
  statics := none }

def pool4 : Array CpInfo := pool [(1, u "java/lang/Cloneable"), (0, .class_ 1), (0, u "java/lang/Object"), (0, .class_ 3)] 3

/-- java/lang/Cloneable -/
def k4 : Class := { plain "java/lang/Cloneable" (some 0) with
  accessFlags := 1537
  interfaces := #[]
  cf := some (fileOf pool4 2 #[] #[] 1537 4 #[] #[])
  fields := #[]
  methods := #[]
  instanceTypes := #[]
  staticTypes := #[]
  resolved := Array.replicate 8 none
  statics := none }

def pool5 : Array CpInfo := pool [(1, u "java/io/Serializable"), (0, .class_ 1), (0, u "java/lang/Object"), (0, .class_ 3)] 3

/-- java/io/Serializable -/
def k5 : Class := { plain "java/io/Serializable" (some 0) with
  accessFlags := 1537
  interfaces := #[]
  cf := some (fileOf pool5 2 #[] #[] 1537 4 #[] #[])
  fields := #[]
  methods := #[]
  instanceTypes := #[]
  staticTypes := #[]
  resolved := Array.replicate 8 none
  statics := none }

/-- the primitive byte -/
def k6 : Class := { plain "byte" none with kind := .primitive 'B', accessFlags := 0x411 }
/-- [B -/
def k7 : Class := { plain "[B" (some 0) with kind := .array 6 .byte, interfaces := #[4, 5], accessFlags := 1041 }

/-- the primitive int -/
def k8 : Class := { plain "int" none with kind := .primitive 'I', accessFlags := 0x411 }
/-- [I -/
def k9 : Class := { plain "[I" (some 0) with kind := .array 8 .int, interfaces := #[4, 5], accessFlags := 1041 }

/-- the primitive double -/
def k10 : Class := { plain "double" none with kind := .primitive 'D', accessFlags := 0x411 }
def k11 : Class := { plain "[D" (some 0) with kind := .array 10 .double, interfaces := #[4, 5], accessFlags := 1041 }
def heap : Heap := #[]
def classes : Array Class := #[k0, k1, k2, k3, k4, k5, k6, k7, k8, k9, k10, k11]
def interned : List (Array UInt16 × Addr) := []
def slotsUsed : Nat := 0
def theMethod : MethodId := ⟨1, 2⟩
def args0 : Array Value := #[.int 5, .int 5, .int 5, .int 5, .int 5, .int 5]
def aboutOver (below : List Frame) : State where
  vm := { classes := classes, interned := interned.toArray }
  heap := heap
  slotsUsed := slotsUsed
  threads := #[{ frames := .invoking theMethod args0 :: below }]
def below0 : List Frame := [.native { method := ⟨0, 0⟩, args := #[] }]
def about1 : State := aboutOver below0
def p0 : Program := .bare "" "" ""
def e0 : Env := launch0.env 0 0 0
theorem w_frames : about1.frames = Frame.invoking theMethod args0 :: below0 := rfl
set_option maxRecDepth 65536 in
theorem w_args : argsFit about1.vm theMethod args0 = true := by decide +kernel
set_option maxRecDepth 65536 in
theorem w_heap : heapFits about1 = true := by decide +kernel
set_option maxRecDepth 65536 in
theorem w_runnable : about1.curStatus? = some .runnable := by decide +kernel
set_option maxRecDepth 65536 in
theorem w_alone : about1.alone = true := by decide +kernel
set_option maxRecDepth 65536 in
theorem w_named : about1.methodNamed? x = some theMethod := by decide +kernel
set_option maxRecDepth 65536 in
theorem w_hears : about1.hears theMethod below0 = true := by decide +kernel
set_option maxRecDepth 65536 in
theorem w_ripe : about1.ripe theMethod args0 below0 = true := by decide +kernel
theorem w_running : about1.status = .running := rfl
set_option maxRecDepth 65536 in
theorem w_room : about1.hasRoom e0.platform room_1 = true :=
  launch0.hasRoom_least _ room_1 (by decide +kernel) (by decide +kernel) (by decide +kernel) (by decide +kernel) (by decide +kernel) (by decide +kernel)
theorem allAtoms_all (ts : List Jvm.Cond) (a : Array Jvm.Value) (st : Jvm.State) : (allAtoms ts).before a st = ts.all (fun c => c.before a st) := by
  induction ts with
  | nil => rfl
  | cons c t ih =>
    show (Jvm.Cond.and c (allAtoms t)).before a st = _
    rw [Jvm.Cond.before_and, ih, List.all_cons]
def words1 : List Jvm.Cond := Jvm.Cond.code x code maxLocals ret :: tables_1
/-- a 'code' word, met by the world's own term for the bytes: nothing is compared byte by byte -/
theorem code_word {y : MethodName} {bytes : ByteArray} {mx : Nat} {rt : Option FieldType} {a : Array Value} {s : State} {m : MethodId} {meth : Method} {c : Code} (h1 : s.methodNamed? y = some m) (h2 : s.vm.method? m = some meth) (h3 : meth.code = some c) (h4 : c.code = bytes)
    (h5 : (c.maxLocals == mx && c.exceptionTable.isEmpty && decide (c.maxStack ≤ mostOperands) && decide (meth.sig.returnType = rt) && !meth.locks && decide (parseMethodDescriptor y.desc = some meth.sig)) = true) : (Jvm.Cond.code y bytes mx rt).before a s = true := by
  simp only [Bool.and_eq_true, beq_iff_eq, Bool.not_eq_true', decide_eq_true_eq] at h5
  obtain ⟨⟨⟨⟨⟨g1, g2⟩, g3⟩, g4⟩, g5⟩, g6⟩ := h5
  simp [Cond.before, Cond.holds, Cond.value, h1, h2, h3, h4, g1, g2, g3, g4, g5, g6]
def isCode : Jvm.Cond → Bool
  | .code _ _ _ _ => true
  | _ => false
theorem all_split {L : List Jvm.Cond} {P : Jvm.Cond → Bool} (h1 : L.all (fun c => isCode c || P c) = true) (h2 : ∀ c ∈ L.filter isCode, P c = true) : L.all P = true := by
  refine List.all_eq_true.mpr fun c hc => ?_
  have h := List.all_eq_true.mp h1 c hc
  rcases Bool.eq_false_or_eq_true (isCode c) with hi | hi
  · exact h2 c (List.mem_filter.mpr ⟨hc, hi⟩)
  · simpa [hi] using h
set_option maxRecDepth 65536 in
theorem w_c0 : (Jvm.Cond.code x code maxLocals ret).before args0 about1 = true := code_word (m := ⟨1, 2⟩) (meth := k1m2) (c := k1c2) (by decide +kernel) rfl rfl rfl (by decide +kernel)
set_option maxRecDepth 65536 in
theorem w_c1 : (Jvm.Cond.code ({ cls := "com/example/whipstill/whipstill/MovingWindow", name := "<init>", desc := "(ID)V" } : Jvm.MethodName) prog_11_method_1_code (4 : Nat) (Option.none : Option Jvm.ClassFile.FieldType)).before args0 about1 = true := code_word (m := ⟨2, 0⟩) (meth := k2m0) (c := k2c0) (by decide +kernel) rfl rfl rfl (by decide +kernel)
set_option maxRecDepth 65536 in
theorem w_c2 : (Jvm.Cond.code ({ cls := "java/lang/Object", name := "<init>", desc := "()V" } : Jvm.MethodName) object_method_1_code (1 : Nat) (Option.none : Option Jvm.ClassFile.FieldType)).before args0 about1 = true := code_word (m := ⟨0, 0⟩) (meth := k0m0) (c := k0c0) (by decide +kernel) rfl rfl rfl (by decide +kernel)
set_option maxRecDepth 65536 in
theorem w_c3 : (Jvm.Cond.code ({ cls := "java/util/Arrays", name := "fill", desc := "([DD)V" } : Jvm.MethodName) jdk_65_method_113_code (5 : Nat) (Option.none : Option Jvm.ClassFile.FieldType)).before args0 about1 = true := code_word (m := ⟨3, 1⟩) (meth := k3m1) (c := k3c1) (by decide +kernel) rfl rfl rfl (by decide +kernel)
set_option maxRecDepth 65536 in
theorem w_c4 : (Jvm.Cond.code ({ cls := "com/example/whipstill/whipstill/MovingWindow", name := "add", desc := "(D)V" } : Jvm.MethodName) prog_11_method_2_code (3 : Nat) (Option.none : Option Jvm.ClassFile.FieldType)).before args0 about1 = true := code_word (m := ⟨2, 1⟩) (meth := k2m1) (c := k2c1) (by decide +kernel) rfl rfl rfl (by decide +kernel)
set_option maxRecDepth 65536 in
theorem w_c5 : (Jvm.Cond.code ({ cls := "com/example/whipstill/whipstill/MovingWindowSampleVariancePinLaw", name := "sq", desc := "(J)J" } : Jvm.MethodName) method_2_code (2 : Nat) (Option.some Jvm.ClassFile.FieldType.long)).before args0 about1 = true := code_word (m := ⟨1, 1⟩) (meth := k1m1) (c := k1c1) (by decide +kernel) rfl rfl rfl (by decide +kernel)
set_option maxRecDepth 65536 in
theorem w_c6 : (Jvm.Cond.code ({ cls := "com/example/whipstill/whipstill/MovingWindow", name := "sampleVariance", desc := "(D)D" } : Jvm.MethodName) prog_11_method_8_code (10 : Nat) (Option.some Jvm.ClassFile.FieldType.double)).before args0 about1 = true := code_word (m := ⟨2, 2⟩) (meth := k2m2) (c := k2c2) (by decide +kernel) rfl rfl rfl (by decide +kernel)
def codes1 : List Jvm.Cond := [Jvm.Cond.code x code maxLocals ret, Jvm.Cond.code ({ cls := "com/example/whipstill/whipstill/MovingWindow", name := "<init>", desc := "(ID)V" } : Jvm.MethodName) prog_11_method_1_code (4 : Nat) (Option.none : Option Jvm.ClassFile.FieldType), Jvm.Cond.code ({ cls := "java/lang/Object", name := "<init>", desc := "()V" } : Jvm.MethodName) object_method_1_code (1 : Nat) (Option.none : Option Jvm.ClassFile.FieldType), Jvm.Cond.code ({ cls := "java/util/Arrays", name := "fill", desc := "([DD)V" } : Jvm.MethodName) jdk_65_method_113_code (5 : Nat) (Option.none : Option Jvm.ClassFile.FieldType), Jvm.Cond.code ({ cls := "com/example/whipstill/whipstill/MovingWindow", name := "add", desc := "(D)V" } : Jvm.MethodName) prog_11_method_2_code (3 : Nat) (Option.none : Option Jvm.ClassFile.FieldType), Jvm.Cond.code ({ cls := "com/example/whipstill/whipstill/MovingWindowSampleVariancePinLaw", name := "sq", desc := "(J)J" } : Jvm.MethodName) method_2_code (2 : Nat) (Option.some Jvm.ClassFile.FieldType.long), Jvm.Cond.code ({ cls := "com/example/whipstill/whipstill/MovingWindow", name := "sampleVariance", desc := "(D)D" } : Jvm.MethodName) prog_11_method_8_code (10 : Nat) (Option.some Jvm.ClassFile.FieldType.double)]
set_option maxRecDepth 65536 in
theorem codes_eq : words1.filter isCode = codes1 := rfl
theorem w_codes : ∀ c ∈ words1.filter isCode, c.before args0 about1 = true := by
  rw [codes_eq]
  intro c hc
  simp only [codes1, List.mem_cons, List.not_mem_nil, or_false] at hc
  rcases hc with rfl | rfl | rfl | rfl | rfl | rfl | rfl
  · exact w_c0
  · exact w_c1
  · exact w_c2
  · exact w_c3
  · exact w_c4
  · exact w_c5
  · exact w_c6
set_option maxRecDepth 65536 in
theorem w_t1 : (words1.take 24).all (fun c => isCode c || c.before args0 about1) = true := by decide +kernel
set_option maxRecDepth 65536 in
theorem w_t2 : (words1.drop 24).all (fun c => isCode c || c.before args0 about1) = true := by decide +kernel
theorem w_tables : (allAtoms (Jvm.Cond.code x code maxLocals ret :: tables_1)).before args0 about1 = true := by
  rw [allAtoms_all]
  show words1.all (fun c => c.before args0 about1) = true
  refine all_split ?_ w_codes
  rw [← List.take_append_drop 24 words1, List.all_append, w_t1, w_t2]
  rfl
set_option maxRecDepth 65536 in
theorem w_case : (Jvm.Cond.and given_1 narrow_1).before args0 about1 = true := by decide +kernel
theorem w_applies : (headSpec (Jvm.Cond.code x code maxLocals ret :: tables_1) room_1).applies x e0.platform about1 = true :=
  (Spec.applies_iff w_frames).mpr ⟨w_running, w_runnable, w_alone, w_named, w_hears, w_ripe, w_room, w_tables⟩
theorem atStart : AtStart classFile x code maxLocals ret World_1 tables_1 room_1 Calls_1 rest_1 Pre_1 launch0 p0 e0 about1 theMethod args0 below0 :=
  ⟨lists_1, trivial, launch0.admits_env _ _ _, launch0.least_env, fairChoices_fair.cas, fairChoices_fair.clock, w_frames, w_args, w_heap, w_applies, trivial, trivial, w_case⟩
end start1
theorem witness_1 : WitnessClaimed_1 := ⟨start1.p0, start1.e0, start1.about1, start1.theMethod, start1.args0, start1.below0, start1.atStart⟩
end Jvm.Pilot.@@N@@
