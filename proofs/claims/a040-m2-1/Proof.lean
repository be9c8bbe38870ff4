import JvmDerived
import JvmDerived.Pilot.@@N@@Statement
import JvmDerived.Pilot.@@N@@Code
set_option linter.unusedVariables false
set_option linter.unusedSimpArgs false
namespace Jvm.RoadKit
open Sem ClassFile Op Lib Jvm.Stand Jvm.Free Jvm.LawKit
section New
variable {p : Program} {l : Launch} {e : Env} {R : Room} {s : State} {m : MethodId} {args : Array Value} {below : List Frame} {meth : Method} {c : Code} {T : State} {locs : List Loc} {cells slots : Nat}
theorem retI (X : Stand p l e R s m args below meth c T locs cells slots) (hx : p.tables.exec = Jvm.exec) {pc : Nat} {Ls : Array Slot} {z : Int32} {rest : List Value} (hret : meth.sig.returnType = some .int) (hd : decode c.code pc = .ok (.ireturn, 1)) {fs : List Frame}
    (hl : ∀ (f : JFrame) (acts : List Action), f.method = m → f.locked = none → f.entered = [] → (doReturn e (T.setTop f) acts (some (.int z))).1 = T.setFrames fs) : Steps p.tables e below (T.setTop (mkF m pc Ls (.int z :: rest))) (T.setFrames fs) := by
  have hm' : T.vm.method? m = some meth := X.method'
  have hn : narrow .int (.int z) = .int z := rfl
  show Steps p.tables e below (T.setTop { method := m, pc := pc, locals := Ls, stack := _ :: rest, locked := none }) _
  jvm_step X.here [X.here.top, hx, hd, hm', hret, hn]
  first | (intro acts; rw [hl _ acts rfl rfl rfl]) | rw [hl _ _ rfl rfl rfl]
  exact Steps.refl _
theorem retR (X : Stand p l e R s m args below meth c T locs cells slots) (hx : p.tables.exec = Jvm.exec) {pc : Nat} {Ls : Array Slot} {w : Value} {t : FieldType} {rest : List Value} (hret : meth.sig.returnType = some t) (hn : narrow t w = w) (ht : t.isReference = true) (hw : w.isRef = true) (hd : decode c.code pc = .ok (.areturn, 1)) {fs : List Frame}
    (hl : ∀ (f : JFrame) (acts : List Action), f.method = m → f.locked = none → f.entered = [] → (doReturn e (T.setTop f) acts (some w)).1 = T.setFrames fs) : Steps p.tables e below (T.setTop (mkF m pc Ls (w :: rest))) (T.setFrames fs) := by
  have hm' : T.vm.method? m = some meth := X.method'
  show Steps p.tables e below (T.setTop { method := m, pc := pc, locals := Ls, stack := _ :: rest, locked := none }) _
  jvm_step X.here [X.here.top, hx, hd, hm', hret, hn, hw]
  try (refine ⟨ht, ?_⟩)
  first | (intro acts; rw [hl _ acts rfl rfl rfl]) | rw [hl _ _ rfl rfl rfl]
  exact Steps.refl _
theorem retD (X : Stand p l e R s m args below meth c T locs cells slots) (hx : p.tables.exec = Jvm.exec) {pc : Nat} {Ls : Array Slot} {z : UInt64} {rest : List Value} (hret : meth.sig.returnType = some .double) (hd : decode c.code pc = .ok (.dreturn, 1)) {fs : List Frame}
    (hl : ∀ (f : JFrame) (acts : List Action), f.method = m → f.locked = none → f.entered = [] → (doReturn e (T.setTop f) acts (some (.double z))).1 = T.setFrames fs) : Steps p.tables e below (T.setTop (mkF m pc Ls (.double z :: rest))) (T.setFrames fs) := by
  have hm' : T.vm.method? m = some meth := X.method'
  have hn : narrow .double (.double z) = .double z := rfl
  show Steps p.tables e below (T.setTop { method := m, pc := pc, locals := Ls, stack := _ :: rest, locked := none }) _
  jvm_step X.here [X.here.top, hx, hd, hm', hret, hn]
  first | (intro acts; rw [hl _ acts rfl rfl rfl]) | rw [hl _ _ rfl rfl rfl]
  exact Steps.refl _
end New
end Jvm.RoadKit
namespace Jvm.Pilot.@@N@@
open Jvm Jvm.ClassFile Sem Op Lib Jvm.Free Jvm.Stand Jvm.LawKit Jvm.RoadKit Bundle Jvm.Pilot.@@N@@.Jvm.D
open Jvm.Free.Fl in
theorem own_nzlit : True := trivial
def own_R (a : Int64) (K : Int) : Prop := -K ≤ a.toInt ∧ a.toInt ≤ K
theorem own_R.b53 {a : Int64} {K : Int} (h : own_R a K) (hK : K < 9007199254740992) : B53 a := ⟨by have := h.1; omega, by have := h.2; omega⟩
theorem own_R.sub {a b : Int64} {K M N : Int} (ha : own_R a K) (hb : own_R b M) (hN : K + M ≤ N) (h : N < 9223372036854775808) : own_R (a - b) N := by
  obtain ⟨a1, a2⟩ := ha; obtain ⟨b1, b2⟩ := hb
  have e : (a - b).toInt = a.toInt - b.toInt := by rw [Int64.toInt_sub]; exact Int.bmod_eq_of_le (by omega) (by omega)
  exact ⟨by rw [e]; omega, by rw [e]; omega⟩
theorem own_R.add {a b : Int64} {K M N : Int} (ha : own_R a K) (hb : own_R b M) (hN : K + M ≤ N) (h : N < 9223372036854775808) : own_R (a + b) N := by
  obtain ⟨a1, a2⟩ := ha; obtain ⟨b1, b2⟩ := hb
  have e : (a + b).toInt = a.toInt + b.toInt := by rw [Int64.toInt_add]; exact Int.bmod_eq_of_le (by omega) (by omega)
  exact ⟨by rw [e]; omega, by rw [e]; omega⟩
theorem own_R.mul {a b : Int64} {K M N : Int} (ha : own_R a K) (hb : own_R b M) (hK : 0 ≤ K) (hM : 0 ≤ M) (hN : K * M ≤ N) (h : N < 9223372036854775808) : own_R (a * b) N := by
  obtain ⟨a1, a2⟩ := ha; obtain ⟨b1, b2⟩ := hb
  have hm : (a.toInt * b.toInt).natAbs ≤ K.toNat * M.toNat := by rw [Int.natAbs_mul]; exact Nat.mul_le_mul (by omega) (by omega)
  have hm2 : ((K.toNat * M.toNat : Nat) : Int) = K * M := by rw [Int.natCast_mul, Int.toNat_of_nonneg hK, Int.toNat_of_nonneg hM]
  have e : (a * b).toInt = a.toInt * b.toInt := by rw [Int64.toInt_mul]; exact Int.bmod_eq_of_le (by omega) (by omega)
  exact ⟨by rw [e]; omega, by rw [e]; omega⟩
theorem own_R.lit (a : Int64) (K : Int) (h : -K ≤ a.toInt ∧ a.toInt ≤ K) : own_R a K := h
theorem own_R.i2l (x : Int32) : own_R x.toInt64 2147483648 := by
  have h1 := Int32.le_toInt x
  have h2 := Int32.toInt_lt x
  constructor <;> rw [Int32.toInt_toInt64] <;> omega
theorem own_R.shr11 (x : Int32) : own_R (x >>> ((11 : Int32) &&& 31)).toInt64 1048576 := by
  have h1 := Int32.le_toInt x
  have h2 := Int32.toInt_lt x
  have e : (x >>> ((11 : Int32) &&& 31)).toInt = x.toInt / 2048 := by
    have q : (x >>> ((11 : Int32) &&& 31)).toInt = (x.toBitVec.sshiftRight 11).toInt := rfl
    rw [q, BitVec.toInt_sshiftRight, Int.shiftRight_eq_div_pow]; rfl
  constructor <;> rw [Int32.toInt_toInt64, e] <;> omega
theorem own_sqd {a : Int64} {K : Int} (ha : own_R a K) (hK : K < 9007199254740992) (hKK : K * K < 9223372036854775808) : FP.dmul (FP.l2d a) (FP.l2d a) = FP.l2d (a * a) :=
  dmul_k ha.1 ha.2 ha.1 ha.2 hK hK hKK (fun ⟨h1, h2⟩ => by subst h1; exact absurd h2 (by decide)) (fun ⟨h1, h2⟩ => by subst h1; exact absurd h2 (by decide))
theorem own_d0 : FP.dconst0 = FP.l2d 0 := by decide +kernel
theorem own_ddiv (a : Int64) (n : Int32) (h : n.toInt64 ≠ 0) : Jvm.Free.Fl.NoNaN64 (FP.ddiv (FP.l2d a) (FP.i2d n)) := by
  rw [i2d_w]
  exact Jvm.Free.Fl.ddiv_out (Jvm.Free.Fl.l2d_fin a).noNaN (Jvm.Free.Fl.l2d_fin _) (Jvm.Free.Fl.l2d_nz h)
theorem d8_0 : decode prog_11_method_2_code 0 = .ok (.aload_n 0, 1) := by decide +kernel
theorem d8_1 : decode prog_11_method_2_code 1 = .ok (.getfield 16, 3) := by decide +kernel
theorem d8_4 : decode prog_11_method_2_code 4 = .ok (.aload_n 0, 1) := by decide +kernel
theorem d8_5 : decode prog_11_method_2_code 5 = .ok (.getfield 28, 3) := by decide +kernel
theorem d8_8 : decode prog_11_method_2_code 8 = .ok (.dload_n 1, 1) := by decide +kernel
theorem d8_9 : decode prog_11_method_2_code 9 = .ok (.dastore, 1) := by decide +kernel
theorem d8_10 : decode prog_11_method_2_code 10 = .ok (.aload_n 0, 1) := by decide +kernel
theorem d8_11 : decode prog_11_method_2_code 11 = .ok (.aload_n 0, 1) := by decide +kernel
theorem d8_12 : decode prog_11_method_2_code 12 = .ok (.getfield 28, 3) := by decide +kernel
theorem d8_15 : decode prog_11_method_2_code 15 = .ok (.iconst 1, 1) := by decide +kernel
theorem d8_16 : decode prog_11_method_2_code 16 = .ok (.iadd, 1) := by decide +kernel
theorem d8_17 : decode prog_11_method_2_code 17 = .ok (.aload_n 0, 1) := by decide +kernel
theorem d8_18 : decode prog_11_method_2_code 18 = .ok (.getfield 16, 3) := by decide +kernel
theorem d8_21 : decode prog_11_method_2_code 21 = .ok (.arraylength, 1) := by decide +kernel
theorem d8_22 : decode prog_11_method_2_code 22 = .ok (.irem, 1) := by decide +kernel
theorem d8_23 : decode prog_11_method_2_code 23 = .ok (.putfield 28, 3) := by decide +kernel
theorem d8_26 : decode prog_11_method_2_code 26 = .ok (.return_, 1) := by decide +kernel
theorem pn_com_example_whipstill_whipstill_MovingWindow : plainName "com/example/whipstill/whipstill/MovingWindow" = true := by first | (simp [plainName, overriddenIn]; done) | decide +kernel
theorem ef_rmAdd1_0 (m : MethodId) (x0 : Addr) (x1 : UInt64) : entryFrame m #[(.ref x0), (.double x1)] 3 = mkF m 0 #[.val (.ref x0), .val (.double x1), .second] [] := by first | (simp [entryFrame, mkF, argsToLocals, Value.category]; done) | rfl
def Q_rmAdd1_0 (Z : State) (a1 : Addr) (v1 : UInt64) (t1 : Addr) (k1 : ClassId) (x0 : UInt64) (h0 : Heap) (n0 : Nat) (v : Option Value) (h : Heap) (L : List Loc) : Prop := v = none ∧ Fr n0 L ∧ Keep h0 h [a1, t1] ∧ (Exa Z h a1 "com/example/whipstill/whipstill/MovingWindow") ∧ (Fld Z h a1 "com/example/whipstill/whipstill/MovingWindow" "values" "[D" (.ref t1)) ∧ (Fld Z h a1 "com/example/whipstill/whipstill/MovingWindow" "oldest" "I" (.int (0 : Int32))) ∧ (Arv Z h t1 k1 .double (1 : Int32) [(.double v1)] (.double (0 : UInt64)))
set_option maxRecDepth 65536 in
set_option maxHeartbeats 40000000 in
theorem rmAdd1_0 (l : Launch) (Z : State) (a0 : Array Value) (hw : ∀ d ∈ tables_1, d.before a0 Z = true) (ws : List Jvm.Cond) (a1 : Addr) (v1 : UInt64) (t1 : Addr) (k1 : ClassId) (x0 : UInt64) (h0 : Heap) (n0 : Nat) (Z0 : n0 ≤ h0.size) (E1 : Exa Z h0 a1 "com/example/whipstill/whipstill/MovingWindow") (F1 : Fld Z h0 a1 "com/example/whipstill/whipstill/MovingWindow" "values" "[D" (.ref t1)) (F2 : Fld Z h0 a1 "com/example/whipstill/whipstill/MovingWindow" "oldest" "I" (.int (0 : Int32))) (V1 : Arv Z h0 t1 k1 .double (1 : Int32) [(.double x0)] (.double (0 : UInt64))) (g1 : n0 ≤ a1) (g2 : n0 ≤ t1) :
    MetFree l (⟨"com/example/whipstill/whipstill/MovingWindow", "add", "(D)V"⟩ : MethodName) (head1 (Jvm.Cond.code (⟨"com/example/whipstill/whipstill/MovingWindow", "add", "(D)V"⟩ : MethodName) prog_11_method_2_code 3 none :: ws) ({ frames := 0, cells := 0, slots := 0, locals := 0 } : Room)) (fun a U => a = #[(.ref a1), (.double v1)] ∧ Z.Warmed39 U.vm ∧ U.heap = h0) (fun _ _ _ _ _ => True) (fun _ U o U' => ∃ v L, o = .returned v ∧ Q_rmAdd1_0 Z a1 v1 t1 k1 x0 h0 n0 v U'.heap L ∧ FrameEnd U o U' L ({ frames := 0, cells := 0, slots := 0, locals := 0 } : Room).cells ({ frames := 0, cells := 0, slots := 0, locals := 0 } : Room).slots) := by
  refine MetFree.of_bodySF (plainFor_of_name pn_com_example_whipstill_whipstill_MovingWindow) hisR ?_
  intro p e s m args below meth c s₁ Bd hml0 hP hK
  obtain ⟨rfl, hZ, hh⟩ := hP
  have hx := Bd.exec
  have hby := Bd.bytes
  have hml : c.maxLocals = 3 := hml0
  have hown : s.vm.findClass "com/example/whipstill/whipstill/MovingWindow" = some m.cls := findClass_of_methodNamed Bd.named
  have hnm := (name_of_methodNamed Bd.named Bd.method).1
  have X0 : Stand p l e ({ frames := 0, cells := 0, slots := 0, locals := 0 } : Room) s m #[(.ref a1), (.double v1)] below meth c s₁ [] 0 0 := Stand.of_body Bd
  have e0 : s₁.heap = h0 := by rw [← hh, Bd.state]; rfl
  have N0 := Fr.nil n0
  have pre0 : ∀ t, Steps p.tables e below (s₁.setTop (mkF m 0 #[.val (.ref a1), .val (.double v1), .second] [])) t → Steps p.tables e below (s₁.setTop (entryFrame m #[(.ref a1), (.double v1)] 3)) t := fun t k => castTop (ef_rmAdd1_0 m a1 v1) k
  obtain ⟨T1_, X1_, e1_, st1_⟩ := getF X0 hx hZ hown (host := "") (Or.inl (hw _ (List.mem_of_getElem? (i := 14) rfl))) Via.refl e0 F1 (g := (mkF m 1 #[.val (.ref a1), .val (.double v1), .second] [(.ref a1)])) rfl rfl (hb hby d8_1)
  obtain ⟨T2_, X2_, e2_, st2_⟩ := getF X1_ hx hZ hown (host := "") (Or.inl (hw _ (List.mem_of_getElem? (i := 37) rfl))) Via.refl e1_ F2 (g := (mkF m 5 #[.val (.ref a1), .val (.double v1), .second] [(.ref a1), (.ref t1)])) rfl rfl (hb hby d8_5)
  obtain ⟨cl3_, Ar3_, q3_, S3_, M3_, Hs3_, G3_⟩ := id V1
  have in3_ : ¬ ((0 : Int32) < 0 ∨ cl3_.slots.size ≤ ((0 : Int32)).toNatClampNeg) := inb_of S3_ ⟨by decide, by decide⟩
  obtain ⟨T3_, h3_, X3_, e3_, W3_, st3_⟩ := stD X2_ hx hZ e2_ Ar3_ (j := (0 : Int32)) in3_ (g := (mkF m 9 #[.val (.ref a1), .val (.double v1), .second] [(.double v1), (.int (0 : Int32)), (.ref t1)])) rfl rfl (hb hby d8_9)
  have v3_ : Arv Z h3_ t1 k1 .double (1 : Int32) [(.double v1)] (.double (0 : UInt64)) := Arv.set Ar3_ q3_ S3_ M3_ Hs3_ G3_ rfl W3_ 0 rfl (Nat.le_of_ble_eq_true rfl)
  have N3_ := Fr.snoc X3_ N0 g2
  have f4_ : Fld Z h3_ a1 "com/example/whipstill/whipstill/MovingWindow" "oldest" "I" (.int (0 : Int32)) := (F2.other W3_ (Or.inl (Exa.neArv E1 V1 (hw _ (List.mem_of_getElem? (i := 5) rfl)))))
  obtain ⟨T5_, X5_, e5_, st5_⟩ := getF X3_ hx hZ hown (host := "") (Or.inl (hw _ (List.mem_of_getElem? (i := 37) rfl))) Via.refl e3_ f4_ (g := (mkF m 12 #[.val (.ref a1), .val (.double v1), .second] [(.ref a1), (.ref a1)])) rfl rfl (hb hby d8_12)
  have f6_ : Fld Z h3_ a1 "com/example/whipstill/whipstill/MovingWindow" "values" "[D" (.ref t1) := (F1.other W3_ (Or.inl (Exa.neArv E1 V1 (hw _ (List.mem_of_getElem? (i := 5) rfl)))))
  obtain ⟨T7_, X7_, e7_, st7_⟩ := getF X5_ hx hZ hown (host := "") (Or.inl (hw _ (List.mem_of_getElem? (i := 14) rfl))) Via.refl e5_ f6_ (g := (mkF m 18 #[.val (.ref a1), .val (.double v1), .second] [(.ref a1), (.int (1 : Int32)), (.ref a1)])) rfl rfl (hb hby d8_18)
  obtain ⟨cl8_, Ar8_, q8_, S8_, M8_, Hs8_, G8_⟩ := id v3_
  have f9_ : Exa Z h3_ a1 "com/example/whipstill/whipstill/MovingWindow" := (E1.wr W3_)
  obtain ⟨T10_, h10_, X10_, e10_, W10_, st10_⟩ := putF X7_ hx hZ hown (host := "") (Or.inl (hw _ (List.mem_of_getElem? (i := 37) rfl))) Via.refl e7_ f4_ f9_ (Or.inl (hw _ (List.mem_of_getElem? (i := 38) rfl))) (hw _ (List.mem_of_getElem? (i := 5) rfl)) (ty := .int) (by decide) rfl rfl (g := (mkF m 23 #[.val (.ref a1), .val (.double v1), .second] [(.int (0 : Int32)), (.ref a1)])) rfl rfl (hb hby d8_23)
  have w10_ : Fld Z h10_ a1 "com/example/whipstill/whipstill/MovingWindow" "oldest" "I" (.int (0 : Int32)) := f4_.same W10_
  have N10_ := Fr.snoc X10_ N3_ g1
  have f11_ : Exa Z h10_ a1 "com/example/whipstill/whipstill/MovingWindow" := (f9_.wr W10_)
  have f12_ : Fld Z h10_ a1 "com/example/whipstill/whipstill/MovingWindow" "values" "[D" (.ref t1) := (f6_.other W10_ (Or.inr (slot_ne (Or.inr (hw _ (List.mem_of_getElem? (i := 15) rfl))) (Or.inl (hw _ (List.mem_of_getElem? (i := 38) rfl))) (by decide) (t := (.array .double)) (t' := .int) (by decide) (by decide))))
  have f13_ : Arv Z h10_ t1 k1 .double (1 : Int32) [(.double v1)] (.double (0 : UInt64)) := (v3_.other W10_ (Ne.symm (Exa.neArv f9_ v3_ (hw _ (List.mem_of_getElem? (i := 5) rfl)))))
  have k14_ : Keep h0 h3_ [a1, t1] := (Keep.refl h0 [a1, t1]).wr W3_ (Or.inl (List.mem_of_getElem? (i := 1) rfl))
  have k15_ : Keep h0 h10_ [a1, t1] := k14_.wr W10_ (Or.inl (List.mem_of_getElem? (i := 0) rfl))
  obtain ⟨fs, hr, hrun, hended, hW, hsame⟩ := X10_.leave (v := none) (fun h => by first | rfl | (rw [Bd.returns] at h; cases h))
  refine ⟨_, _, pre0 _ ?_, hrun, hended, _, _, rfl, ?_, ⟨_, rfl⟩, hW, hsame.mono (by exact Nat.le_of_ble_eq_true rfl) (by exact Nat.le_of_ble_eq_true rfl)⟩
  · show Steps p.tables e below (s₁.setTop (mkF m 0 #[.val (.ref a1), .val (.double v1), .second] [])) _
    refine XS.aloadN X0.here hx rfl (hb hby d8_0) rfl rfl ?_
    refine st1_ _ ?_
    show Steps p.tables e below (T1_.setTop (mkF m 4 #[.val (.ref a1), .val (.double v1), .second] [(.ref t1)])) _
    refine XS.aloadN X1_.here hx rfl (hb hby d8_4) rfl rfl ?_
    refine st2_ _ ?_
    show Steps p.tables e below (T2_.setTop (mkF m 8 #[.val (.ref a1), .val (.double v1), .second] [(.int (0 : Int32)), (.ref t1)])) _
    refine XS.dloadN X2_.here hx rfl (hb hby d8_8) rfl ?_
    refine st3_ _ ?_
    show Steps p.tables e below (T3_.setTop (mkF m 10 #[.val (.ref a1), .val (.double v1), .second] [])) _
    refine XS.aloadN X3_.here hx rfl (hb hby d8_10) rfl rfl ?_
    refine XS.aloadN X3_.here hx rfl (hb hby d8_11) rfl rfl ?_
    refine st5_ _ ?_
    show Steps p.tables e below (T5_.setTop (mkF m 15 #[.val (.ref a1), .val (.double v1), .second] [(.int (0 : Int32)), (.ref a1)])) _
    refine XS.iconst X5_.here hx rfl (hb hby d8_15) ?_
    refine XS.iadd X5_.here hx rfl (hb hby d8_16) rfl ?_
    show Steps p.tables e below (T5_.setTop (mkF m 17 #[.val (.ref a1), .val (.double v1), .second] [(.int (1 : Int32)), (.ref a1)])) _
    refine XS.aloadN X5_.here hx rfl (hb hby d8_17) rfl rfl ?_
    refine st7_ _ ?_
    show Steps p.tables e below (T7_.setTop (mkF m 21 #[.val (.ref a1), .val (.double v1), .second] [(.ref t1), (.int (1 : Int32)), (.ref a1)])) _
    refine X7_.arraylength hx (by rw [e7_]; exact Ar8_.1) (State.isArrayOf_alike (State.Warmed39.alike hZ) Ar8_.2.1) (g := (mkF m 21 #[.val (.ref a1), .val (.double v1), .second] [(.ref t1), (.int (1 : Int32)), (.ref a1)])) rfl rfl (hb hby d8_21) _ ?_
    rw [len_of S8_ M8_]
    show Steps p.tables e below (T7_.setTop (mkF m 22 #[.val (.ref a1), .val (.double v1), .second] [(.int (1 : Int32)), (.int (1 : Int32)), (.ref a1)])) _
    refine XS.irem X7_.here hx rfl (hb hby d8_22) rfl (by decide) ?_
    show Steps p.tables e below (T7_.setTop (mkF m 23 #[.val (.ref a1), .val (.double v1), .second] [(.int (0 : Int32)), (.ref a1)])) _
    refine st10_ _ ?_
    show Steps p.tables e below (T10_.setTop (mkF m 26 #[.val (.ref a1), .val (.double v1), .second] [])) _
    exact X10_.returnOut hx Bd.returns (hb hby d8_26) hr
  · show Q_rmAdd1_0 Z a1 v1 t1 k1 x0 h0 n0 _ T10_.heap _
    rw [e10_]
    exact ⟨rfl, N10_, k15_, f11_, f12_, w10_, f13_⟩
theorem ef_rmAdd2_0 (m : MethodId) (x0 : Addr) (x1 : UInt64) : entryFrame m #[(.ref x0), (.double x1)] 3 = mkF m 0 #[.val (.ref x0), .val (.double x1), .second] [] := by first | (simp [entryFrame, mkF, argsToLocals, Value.category]; done) | rfl
def Q_rmAdd2_0 (Z : State) (a1 : Addr) (v1 : UInt64) (t1 : Addr) (k1 : ClassId) (x0 : UInt64) (x1 : UInt64) (h0 : Heap) (n0 : Nat) (v : Option Value) (h : Heap) (L : List Loc) : Prop := v = none ∧ Fr n0 L ∧ Keep h0 h [a1, t1] ∧ (Exa Z h a1 "com/example/whipstill/whipstill/MovingWindow") ∧ (Fld Z h a1 "com/example/whipstill/whipstill/MovingWindow" "values" "[D" (.ref t1)) ∧ (Fld Z h a1 "com/example/whipstill/whipstill/MovingWindow" "oldest" "I" (.int (1 : Int32))) ∧ (Arv Z h t1 k1 .double (2 : Int32) [(.double v1), (.double x1)] (.double (0 : UInt64)))
set_option maxRecDepth 65536 in
set_option maxHeartbeats 40000000 in
theorem rmAdd2_0 (l : Launch) (Z : State) (a0 : Array Value) (hw : ∀ d ∈ tables_1, d.before a0 Z = true) (ws : List Jvm.Cond) (a1 : Addr) (v1 : UInt64) (t1 : Addr) (k1 : ClassId) (x0 : UInt64) (x1 : UInt64) (h0 : Heap) (n0 : Nat) (Z0 : n0 ≤ h0.size) (E1 : Exa Z h0 a1 "com/example/whipstill/whipstill/MovingWindow") (F1 : Fld Z h0 a1 "com/example/whipstill/whipstill/MovingWindow" "values" "[D" (.ref t1)) (F2 : Fld Z h0 a1 "com/example/whipstill/whipstill/MovingWindow" "oldest" "I" (.int (0 : Int32))) (V1 : Arv Z h0 t1 k1 .double (2 : Int32) [(.double x0), (.double x1)] (.double (0 : UInt64))) (g1 : n0 ≤ a1) (g2 : n0 ≤ t1) :
    MetFree l (⟨"com/example/whipstill/whipstill/MovingWindow", "add", "(D)V"⟩ : MethodName) (head1 (Jvm.Cond.code (⟨"com/example/whipstill/whipstill/MovingWindow", "add", "(D)V"⟩ : MethodName) prog_11_method_2_code 3 none :: ws) ({ frames := 0, cells := 0, slots := 0, locals := 0 } : Room)) (fun a U => a = #[(.ref a1), (.double v1)] ∧ Z.Warmed39 U.vm ∧ U.heap = h0) (fun _ _ _ _ _ => True) (fun _ U o U' => ∃ v L, o = .returned v ∧ Q_rmAdd2_0 Z a1 v1 t1 k1 x0 x1 h0 n0 v U'.heap L ∧ FrameEnd U o U' L ({ frames := 0, cells := 0, slots := 0, locals := 0 } : Room).cells ({ frames := 0, cells := 0, slots := 0, locals := 0 } : Room).slots) := by
  refine MetFree.of_bodySF (plainFor_of_name pn_com_example_whipstill_whipstill_MovingWindow) hisR ?_
  intro p e s m args below meth c s₁ Bd hml0 hP hK
  obtain ⟨rfl, hZ, hh⟩ := hP
  have hx := Bd.exec
  have hby := Bd.bytes
  have hml : c.maxLocals = 3 := hml0
  have hown : s.vm.findClass "com/example/whipstill/whipstill/MovingWindow" = some m.cls := findClass_of_methodNamed Bd.named
  have hnm := (name_of_methodNamed Bd.named Bd.method).1
  have X0 : Stand p l e ({ frames := 0, cells := 0, slots := 0, locals := 0 } : Room) s m #[(.ref a1), (.double v1)] below meth c s₁ [] 0 0 := Stand.of_body Bd
  have e0 : s₁.heap = h0 := by rw [← hh, Bd.state]; rfl
  have N0 := Fr.nil n0
  have pre0 : ∀ t, Steps p.tables e below (s₁.setTop (mkF m 0 #[.val (.ref a1), .val (.double v1), .second] [])) t → Steps p.tables e below (s₁.setTop (entryFrame m #[(.ref a1), (.double v1)] 3)) t := fun t k => castTop (ef_rmAdd2_0 m a1 v1) k
  obtain ⟨T1_, X1_, e1_, st1_⟩ := getF X0 hx hZ hown (host := "") (Or.inl (hw _ (List.mem_of_getElem? (i := 14) rfl))) Via.refl e0 F1 (g := (mkF m 1 #[.val (.ref a1), .val (.double v1), .second] [(.ref a1)])) rfl rfl (hb hby d8_1)
  obtain ⟨T2_, X2_, e2_, st2_⟩ := getF X1_ hx hZ hown (host := "") (Or.inl (hw _ (List.mem_of_getElem? (i := 37) rfl))) Via.refl e1_ F2 (g := (mkF m 5 #[.val (.ref a1), .val (.double v1), .second] [(.ref a1), (.ref t1)])) rfl rfl (hb hby d8_5)
  obtain ⟨cl3_, Ar3_, q3_, S3_, M3_, Hs3_, G3_⟩ := id V1
  have in3_ : ¬ ((0 : Int32) < 0 ∨ cl3_.slots.size ≤ ((0 : Int32)).toNatClampNeg) := inb_of S3_ ⟨by decide, by decide⟩
  obtain ⟨T3_, h3_, X3_, e3_, W3_, st3_⟩ := stD X2_ hx hZ e2_ Ar3_ (j := (0 : Int32)) in3_ (g := (mkF m 9 #[.val (.ref a1), .val (.double v1), .second] [(.double v1), (.int (0 : Int32)), (.ref t1)])) rfl rfl (hb hby d8_9)
  have v3_ : Arv Z h3_ t1 k1 .double (2 : Int32) [(.double v1), (.double x1)] (.double (0 : UInt64)) := Arv.set Ar3_ q3_ S3_ M3_ Hs3_ G3_ rfl W3_ 0 rfl (Nat.le_of_ble_eq_true rfl)
  have N3_ := Fr.snoc X3_ N0 g2
  have f4_ : Fld Z h3_ a1 "com/example/whipstill/whipstill/MovingWindow" "oldest" "I" (.int (0 : Int32)) := (F2.other W3_ (Or.inl (Exa.neArv E1 V1 (hw _ (List.mem_of_getElem? (i := 5) rfl)))))
  obtain ⟨T5_, X5_, e5_, st5_⟩ := getF X3_ hx hZ hown (host := "") (Or.inl (hw _ (List.mem_of_getElem? (i := 37) rfl))) Via.refl e3_ f4_ (g := (mkF m 12 #[.val (.ref a1), .val (.double v1), .second] [(.ref a1), (.ref a1)])) rfl rfl (hb hby d8_12)
  have f6_ : Fld Z h3_ a1 "com/example/whipstill/whipstill/MovingWindow" "values" "[D" (.ref t1) := (F1.other W3_ (Or.inl (Exa.neArv E1 V1 (hw _ (List.mem_of_getElem? (i := 5) rfl)))))
  obtain ⟨T7_, X7_, e7_, st7_⟩ := getF X5_ hx hZ hown (host := "") (Or.inl (hw _ (List.mem_of_getElem? (i := 14) rfl))) Via.refl e5_ f6_ (g := (mkF m 18 #[.val (.ref a1), .val (.double v1), .second] [(.ref a1), (.int (1 : Int32)), (.ref a1)])) rfl rfl (hb hby d8_18)
  obtain ⟨cl8_, Ar8_, q8_, S8_, M8_, Hs8_, G8_⟩ := id v3_
  have f9_ : Exa Z h3_ a1 "com/example/whipstill/whipstill/MovingWindow" := (E1.wr W3_)
  obtain ⟨T10_, h10_, X10_, e10_, W10_, st10_⟩ := putF X7_ hx hZ hown (host := "") (Or.inl (hw _ (List.mem_of_getElem? (i := 37) rfl))) Via.refl e7_ f4_ f9_ (Or.inl (hw _ (List.mem_of_getElem? (i := 38) rfl))) (hw _ (List.mem_of_getElem? (i := 5) rfl)) (ty := .int) (by decide) rfl rfl (g := (mkF m 23 #[.val (.ref a1), .val (.double v1), .second] [(.int (1 : Int32)), (.ref a1)])) rfl rfl (hb hby d8_23)
  have w10_ : Fld Z h10_ a1 "com/example/whipstill/whipstill/MovingWindow" "oldest" "I" (.int (1 : Int32)) := f4_.same W10_
  have N10_ := Fr.snoc X10_ N3_ g1
  have f11_ : Exa Z h10_ a1 "com/example/whipstill/whipstill/MovingWindow" := (f9_.wr W10_)
  have f12_ : Fld Z h10_ a1 "com/example/whipstill/whipstill/MovingWindow" "values" "[D" (.ref t1) := (f6_.other W10_ (Or.inr (slot_ne (Or.inr (hw _ (List.mem_of_getElem? (i := 15) rfl))) (Or.inl (hw _ (List.mem_of_getElem? (i := 38) rfl))) (by decide) (t := (.array .double)) (t' := .int) (by decide) (by decide))))
  have f13_ : Arv Z h10_ t1 k1 .double (2 : Int32) [(.double v1), (.double x1)] (.double (0 : UInt64)) := (v3_.other W10_ (Ne.symm (Exa.neArv f9_ v3_ (hw _ (List.mem_of_getElem? (i := 5) rfl)))))
  have k14_ : Keep h0 h3_ [a1, t1] := (Keep.refl h0 [a1, t1]).wr W3_ (Or.inl (List.mem_of_getElem? (i := 1) rfl))
  have k15_ : Keep h0 h10_ [a1, t1] := k14_.wr W10_ (Or.inl (List.mem_of_getElem? (i := 0) rfl))
  obtain ⟨fs, hr, hrun, hended, hW, hsame⟩ := X10_.leave (v := none) (fun h => by first | rfl | (rw [Bd.returns] at h; cases h))
  refine ⟨_, _, pre0 _ ?_, hrun, hended, _, _, rfl, ?_, ⟨_, rfl⟩, hW, hsame.mono (by exact Nat.le_of_ble_eq_true rfl) (by exact Nat.le_of_ble_eq_true rfl)⟩
  · show Steps p.tables e below (s₁.setTop (mkF m 0 #[.val (.ref a1), .val (.double v1), .second] [])) _
    refine XS.aloadN X0.here hx rfl (hb hby d8_0) rfl rfl ?_
    refine st1_ _ ?_
    show Steps p.tables e below (T1_.setTop (mkF m 4 #[.val (.ref a1), .val (.double v1), .second] [(.ref t1)])) _
    refine XS.aloadN X1_.here hx rfl (hb hby d8_4) rfl rfl ?_
    refine st2_ _ ?_
    show Steps p.tables e below (T2_.setTop (mkF m 8 #[.val (.ref a1), .val (.double v1), .second] [(.int (0 : Int32)), (.ref t1)])) _
    refine XS.dloadN X2_.here hx rfl (hb hby d8_8) rfl ?_
    refine st3_ _ ?_
    show Steps p.tables e below (T3_.setTop (mkF m 10 #[.val (.ref a1), .val (.double v1), .second] [])) _
    refine XS.aloadN X3_.here hx rfl (hb hby d8_10) rfl rfl ?_
    refine XS.aloadN X3_.here hx rfl (hb hby d8_11) rfl rfl ?_
    refine st5_ _ ?_
    show Steps p.tables e below (T5_.setTop (mkF m 15 #[.val (.ref a1), .val (.double v1), .second] [(.int (0 : Int32)), (.ref a1)])) _
    refine XS.iconst X5_.here hx rfl (hb hby d8_15) ?_
    refine XS.iadd X5_.here hx rfl (hb hby d8_16) rfl ?_
    show Steps p.tables e below (T5_.setTop (mkF m 17 #[.val (.ref a1), .val (.double v1), .second] [(.int (1 : Int32)), (.ref a1)])) _
    refine XS.aloadN X5_.here hx rfl (hb hby d8_17) rfl rfl ?_
    refine st7_ _ ?_
    show Steps p.tables e below (T7_.setTop (mkF m 21 #[.val (.ref a1), .val (.double v1), .second] [(.ref t1), (.int (1 : Int32)), (.ref a1)])) _
    refine X7_.arraylength hx (by rw [e7_]; exact Ar8_.1) (State.isArrayOf_alike (State.Warmed39.alike hZ) Ar8_.2.1) (g := (mkF m 21 #[.val (.ref a1), .val (.double v1), .second] [(.ref t1), (.int (1 : Int32)), (.ref a1)])) rfl rfl (hb hby d8_21) _ ?_
    rw [len_of S8_ M8_]
    show Steps p.tables e below (T7_.setTop (mkF m 22 #[.val (.ref a1), .val (.double v1), .second] [(.int (2 : Int32)), (.int (1 : Int32)), (.ref a1)])) _
    refine XS.irem X7_.here hx rfl (hb hby d8_22) rfl (by decide) ?_
    show Steps p.tables e below (T7_.setTop (mkF m 23 #[.val (.ref a1), .val (.double v1), .second] [(.int (1 : Int32)), (.ref a1)])) _
    refine st10_ _ ?_
    show Steps p.tables e below (T10_.setTop (mkF m 26 #[.val (.ref a1), .val (.double v1), .second] [])) _
    exact X10_.returnOut hx Bd.returns (hb hby d8_26) hr
  · show Q_rmAdd2_0 Z a1 v1 t1 k1 x0 x1 h0 n0 _ T10_.heap _
    rw [e10_]
    exact ⟨rfl, N10_, k15_, f11_, f12_, w10_, f13_⟩
theorem ef_rmAdd2_1 (m : MethodId) (x0 : Addr) (x1 : UInt64) : entryFrame m #[(.ref x0), (.double x1)] 3 = mkF m 0 #[.val (.ref x0), .val (.double x1), .second] [] := by first | (simp [entryFrame, mkF, argsToLocals, Value.category]; done) | rfl
def Q_rmAdd2_1 (Z : State) (a1 : Addr) (v1 : UInt64) (t1 : Addr) (k1 : ClassId) (x0 : UInt64) (x1 : UInt64) (h0 : Heap) (n0 : Nat) (v : Option Value) (h : Heap) (L : List Loc) : Prop := v = none ∧ Fr n0 L ∧ Keep h0 h [a1, t1] ∧ (Exa Z h a1 "com/example/whipstill/whipstill/MovingWindow") ∧ (Fld Z h a1 "com/example/whipstill/whipstill/MovingWindow" "values" "[D" (.ref t1)) ∧ (Fld Z h a1 "com/example/whipstill/whipstill/MovingWindow" "oldest" "I" (.int (0 : Int32))) ∧ (Arv Z h t1 k1 .double (2 : Int32) [(.double x0), (.double v1)] (.double (0 : UInt64)))
set_option maxRecDepth 65536 in
set_option maxHeartbeats 40000000 in
theorem rmAdd2_1 (l : Launch) (Z : State) (a0 : Array Value) (hw : ∀ d ∈ tables_1, d.before a0 Z = true) (ws : List Jvm.Cond) (a1 : Addr) (v1 : UInt64) (t1 : Addr) (k1 : ClassId) (x0 : UInt64) (x1 : UInt64) (h0 : Heap) (n0 : Nat) (Z0 : n0 ≤ h0.size) (E1 : Exa Z h0 a1 "com/example/whipstill/whipstill/MovingWindow") (F1 : Fld Z h0 a1 "com/example/whipstill/whipstill/MovingWindow" "values" "[D" (.ref t1)) (F2 : Fld Z h0 a1 "com/example/whipstill/whipstill/MovingWindow" "oldest" "I" (.int (1 : Int32))) (V1 : Arv Z h0 t1 k1 .double (2 : Int32) [(.double x0), (.double x1)] (.double (0 : UInt64))) (g1 : n0 ≤ a1) (g2 : n0 ≤ t1) :
    MetFree l (⟨"com/example/whipstill/whipstill/MovingWindow", "add", "(D)V"⟩ : MethodName) (head1 (Jvm.Cond.code (⟨"com/example/whipstill/whipstill/MovingWindow", "add", "(D)V"⟩ : MethodName) prog_11_method_2_code 3 none :: ws) ({ frames := 0, cells := 0, slots := 0, locals := 0 } : Room)) (fun a U => a = #[(.ref a1), (.double v1)] ∧ Z.Warmed39 U.vm ∧ U.heap = h0) (fun _ _ _ _ _ => True) (fun _ U o U' => ∃ v L, o = .returned v ∧ Q_rmAdd2_1 Z a1 v1 t1 k1 x0 x1 h0 n0 v U'.heap L ∧ FrameEnd U o U' L ({ frames := 0, cells := 0, slots := 0, locals := 0 } : Room).cells ({ frames := 0, cells := 0, slots := 0, locals := 0 } : Room).slots) := by
  refine MetFree.of_bodySF (plainFor_of_name pn_com_example_whipstill_whipstill_MovingWindow) hisR ?_
  intro p e s m args below meth c s₁ Bd hml0 hP hK
  obtain ⟨rfl, hZ, hh⟩ := hP
  have hx := Bd.exec
  have hby := Bd.bytes
  have hml : c.maxLocals = 3 := hml0
  have hown : s.vm.findClass "com/example/whipstill/whipstill/MovingWindow" = some m.cls := findClass_of_methodNamed Bd.named
  have hnm := (name_of_methodNamed Bd.named Bd.method).1
  have X0 : Stand p l e ({ frames := 0, cells := 0, slots := 0, locals := 0 } : Room) s m #[(.ref a1), (.double v1)] below meth c s₁ [] 0 0 := Stand.of_body Bd
  have e0 : s₁.heap = h0 := by rw [← hh, Bd.state]; rfl
  have N0 := Fr.nil n0
  have pre0 : ∀ t, Steps p.tables e below (s₁.setTop (mkF m 0 #[.val (.ref a1), .val (.double v1), .second] [])) t → Steps p.tables e below (s₁.setTop (entryFrame m #[(.ref a1), (.double v1)] 3)) t := fun t k => castTop (ef_rmAdd2_1 m a1 v1) k
  obtain ⟨T1_, X1_, e1_, st1_⟩ := getF X0 hx hZ hown (host := "") (Or.inl (hw _ (List.mem_of_getElem? (i := 14) rfl))) Via.refl e0 F1 (g := (mkF m 1 #[.val (.ref a1), .val (.double v1), .second] [(.ref a1)])) rfl rfl (hb hby d8_1)
  obtain ⟨T2_, X2_, e2_, st2_⟩ := getF X1_ hx hZ hown (host := "") (Or.inl (hw _ (List.mem_of_getElem? (i := 37) rfl))) Via.refl e1_ F2 (g := (mkF m 5 #[.val (.ref a1), .val (.double v1), .second] [(.ref a1), (.ref t1)])) rfl rfl (hb hby d8_5)
  obtain ⟨cl3_, Ar3_, q3_, S3_, M3_, Hs3_, G3_⟩ := id V1
  have in3_ : ¬ ((1 : Int32) < 0 ∨ cl3_.slots.size ≤ ((1 : Int32)).toNatClampNeg) := inb_of S3_ ⟨by decide, by decide⟩
  obtain ⟨T3_, h3_, X3_, e3_, W3_, st3_⟩ := stD X2_ hx hZ e2_ Ar3_ (j := (1 : Int32)) in3_ (g := (mkF m 9 #[.val (.ref a1), .val (.double v1), .second] [(.double v1), (.int (1 : Int32)), (.ref t1)])) rfl rfl (hb hby d8_9)
  have v3_ : Arv Z h3_ t1 k1 .double (2 : Int32) [(.double x0), (.double v1)] (.double (0 : UInt64)) := Arv.set Ar3_ q3_ S3_ M3_ Hs3_ G3_ rfl W3_ 1 rfl (Nat.le_of_ble_eq_true rfl)
  have N3_ := Fr.snoc X3_ N0 g2
  have f4_ : Fld Z h3_ a1 "com/example/whipstill/whipstill/MovingWindow" "oldest" "I" (.int (1 : Int32)) := (F2.other W3_ (Or.inl (Exa.neArv E1 V1 (hw _ (List.mem_of_getElem? (i := 5) rfl)))))
  obtain ⟨T5_, X5_, e5_, st5_⟩ := getF X3_ hx hZ hown (host := "") (Or.inl (hw _ (List.mem_of_getElem? (i := 37) rfl))) Via.refl e3_ f4_ (g := (mkF m 12 #[.val (.ref a1), .val (.double v1), .second] [(.ref a1), (.ref a1)])) rfl rfl (hb hby d8_12)
  have f6_ : Fld Z h3_ a1 "com/example/whipstill/whipstill/MovingWindow" "values" "[D" (.ref t1) := (F1.other W3_ (Or.inl (Exa.neArv E1 V1 (hw _ (List.mem_of_getElem? (i := 5) rfl)))))
  obtain ⟨T7_, X7_, e7_, st7_⟩ := getF X5_ hx hZ hown (host := "") (Or.inl (hw _ (List.mem_of_getElem? (i := 14) rfl))) Via.refl e5_ f6_ (g := (mkF m 18 #[.val (.ref a1), .val (.double v1), .second] [(.ref a1), (.int (2 : Int32)), (.ref a1)])) rfl rfl (hb hby d8_18)
  obtain ⟨cl8_, Ar8_, q8_, S8_, M8_, Hs8_, G8_⟩ := id v3_
  have f9_ : Exa Z h3_ a1 "com/example/whipstill/whipstill/MovingWindow" := (E1.wr W3_)
  obtain ⟨T10_, h10_, X10_, e10_, W10_, st10_⟩ := putF X7_ hx hZ hown (host := "") (Or.inl (hw _ (List.mem_of_getElem? (i := 37) rfl))) Via.refl e7_ f4_ f9_ (Or.inl (hw _ (List.mem_of_getElem? (i := 38) rfl))) (hw _ (List.mem_of_getElem? (i := 5) rfl)) (ty := .int) (by decide) rfl rfl (g := (mkF m 23 #[.val (.ref a1), .val (.double v1), .second] [(.int (0 : Int32)), (.ref a1)])) rfl rfl (hb hby d8_23)
  have w10_ : Fld Z h10_ a1 "com/example/whipstill/whipstill/MovingWindow" "oldest" "I" (.int (0 : Int32)) := f4_.same W10_
  have N10_ := Fr.snoc X10_ N3_ g1
  have f11_ : Exa Z h10_ a1 "com/example/whipstill/whipstill/MovingWindow" := (f9_.wr W10_)
  have f12_ : Fld Z h10_ a1 "com/example/whipstill/whipstill/MovingWindow" "values" "[D" (.ref t1) := (f6_.other W10_ (Or.inr (slot_ne (Or.inr (hw _ (List.mem_of_getElem? (i := 15) rfl))) (Or.inl (hw _ (List.mem_of_getElem? (i := 38) rfl))) (by decide) (t := (.array .double)) (t' := .int) (by decide) (by decide))))
  have f13_ : Arv Z h10_ t1 k1 .double (2 : Int32) [(.double x0), (.double v1)] (.double (0 : UInt64)) := (v3_.other W10_ (Ne.symm (Exa.neArv f9_ v3_ (hw _ (List.mem_of_getElem? (i := 5) rfl)))))
  have k14_ : Keep h0 h3_ [a1, t1] := (Keep.refl h0 [a1, t1]).wr W3_ (Or.inl (List.mem_of_getElem? (i := 1) rfl))
  have k15_ : Keep h0 h10_ [a1, t1] := k14_.wr W10_ (Or.inl (List.mem_of_getElem? (i := 0) rfl))
  obtain ⟨fs, hr, hrun, hended, hW, hsame⟩ := X10_.leave (v := none) (fun h => by first | rfl | (rw [Bd.returns] at h; cases h))
  refine ⟨_, _, pre0 _ ?_, hrun, hended, _, _, rfl, ?_, ⟨_, rfl⟩, hW, hsame.mono (by exact Nat.le_of_ble_eq_true rfl) (by exact Nat.le_of_ble_eq_true rfl)⟩
  · show Steps p.tables e below (s₁.setTop (mkF m 0 #[.val (.ref a1), .val (.double v1), .second] [])) _
    refine XS.aloadN X0.here hx rfl (hb hby d8_0) rfl rfl ?_
    refine st1_ _ ?_
    show Steps p.tables e below (T1_.setTop (mkF m 4 #[.val (.ref a1), .val (.double v1), .second] [(.ref t1)])) _
    refine XS.aloadN X1_.here hx rfl (hb hby d8_4) rfl rfl ?_
    refine st2_ _ ?_
    show Steps p.tables e below (T2_.setTop (mkF m 8 #[.val (.ref a1), .val (.double v1), .second] [(.int (1 : Int32)), (.ref t1)])) _
    refine XS.dloadN X2_.here hx rfl (hb hby d8_8) rfl ?_
    refine st3_ _ ?_
    show Steps p.tables e below (T3_.setTop (mkF m 10 #[.val (.ref a1), .val (.double v1), .second] [])) _
    refine XS.aloadN X3_.here hx rfl (hb hby d8_10) rfl rfl ?_
    refine XS.aloadN X3_.here hx rfl (hb hby d8_11) rfl rfl ?_
    refine st5_ _ ?_
    show Steps p.tables e below (T5_.setTop (mkF m 15 #[.val (.ref a1), .val (.double v1), .second] [(.int (1 : Int32)), (.ref a1)])) _
    refine XS.iconst X5_.here hx rfl (hb hby d8_15) ?_
    refine XS.iadd X5_.here hx rfl (hb hby d8_16) rfl ?_
    show Steps p.tables e below (T5_.setTop (mkF m 17 #[.val (.ref a1), .val (.double v1), .second] [(.int (2 : Int32)), (.ref a1)])) _
    refine XS.aloadN X5_.here hx rfl (hb hby d8_17) rfl rfl ?_
    refine st7_ _ ?_
    show Steps p.tables e below (T7_.setTop (mkF m 21 #[.val (.ref a1), .val (.double v1), .second] [(.ref t1), (.int (2 : Int32)), (.ref a1)])) _
    refine X7_.arraylength hx (by rw [e7_]; exact Ar8_.1) (State.isArrayOf_alike (State.Warmed39.alike hZ) Ar8_.2.1) (g := (mkF m 21 #[.val (.ref a1), .val (.double v1), .second] [(.ref t1), (.int (2 : Int32)), (.ref a1)])) rfl rfl (hb hby d8_21) _ ?_
    rw [len_of S8_ M8_]
    show Steps p.tables e below (T7_.setTop (mkF m 22 #[.val (.ref a1), .val (.double v1), .second] [(.int (2 : Int32)), (.int (2 : Int32)), (.ref a1)])) _
    refine XS.irem X7_.here hx rfl (hb hby d8_22) rfl (by decide) ?_
    show Steps p.tables e below (T7_.setTop (mkF m 23 #[.val (.ref a1), .val (.double v1), .second] [(.int (0 : Int32)), (.ref a1)])) _
    refine st10_ _ ?_
    show Steps p.tables e below (T10_.setTop (mkF m 26 #[.val (.ref a1), .val (.double v1), .second] [])) _
    exact X10_.returnOut hx Bd.returns (hb hby d8_26) hr
  · show Q_rmAdd2_1 Z a1 v1 t1 k1 x0 x1 h0 n0 _ T10_.heap _
    rw [e10_]
    exact ⟨rfl, N10_, k15_, f11_, f12_, w10_, f13_⟩
theorem ef_rmAdd3_0 (m : MethodId) (x0 : Addr) (x1 : UInt64) : entryFrame m #[(.ref x0), (.double x1)] 3 = mkF m 0 #[.val (.ref x0), .val (.double x1), .second] [] := by first | (simp [entryFrame, mkF, argsToLocals, Value.category]; done) | rfl
def Q_rmAdd3_0 (Z : State) (a1 : Addr) (v1 : UInt64) (t1 : Addr) (k1 : ClassId) (x0 : UInt64) (x1 : UInt64) (x2 : UInt64) (h0 : Heap) (n0 : Nat) (v : Option Value) (h : Heap) (L : List Loc) : Prop := v = none ∧ Fr n0 L ∧ Keep h0 h [a1, t1] ∧ (Exa Z h a1 "com/example/whipstill/whipstill/MovingWindow") ∧ (Fld Z h a1 "com/example/whipstill/whipstill/MovingWindow" "values" "[D" (.ref t1)) ∧ (Fld Z h a1 "com/example/whipstill/whipstill/MovingWindow" "oldest" "I" (.int (1 : Int32))) ∧ (Arv Z h t1 k1 .double (3 : Int32) [(.double v1), (.double x1), (.double x2)] (.double (0 : UInt64)))
set_option maxRecDepth 65536 in
set_option maxHeartbeats 40000000 in
theorem rmAdd3_0 (l : Launch) (Z : State) (a0 : Array Value) (hw : ∀ d ∈ tables_1, d.before a0 Z = true) (ws : List Jvm.Cond) (a1 : Addr) (v1 : UInt64) (t1 : Addr) (k1 : ClassId) (x0 : UInt64) (x1 : UInt64) (x2 : UInt64) (h0 : Heap) (n0 : Nat) (Z0 : n0 ≤ h0.size) (E1 : Exa Z h0 a1 "com/example/whipstill/whipstill/MovingWindow") (F1 : Fld Z h0 a1 "com/example/whipstill/whipstill/MovingWindow" "values" "[D" (.ref t1)) (F2 : Fld Z h0 a1 "com/example/whipstill/whipstill/MovingWindow" "oldest" "I" (.int (0 : Int32))) (V1 : Arv Z h0 t1 k1 .double (3 : Int32) [(.double x0), (.double x1), (.double x2)] (.double (0 : UInt64))) (g1 : n0 ≤ a1) (g2 : n0 ≤ t1) :
    MetFree l (⟨"com/example/whipstill/whipstill/MovingWindow", "add", "(D)V"⟩ : MethodName) (head1 (Jvm.Cond.code (⟨"com/example/whipstill/whipstill/MovingWindow", "add", "(D)V"⟩ : MethodName) prog_11_method_2_code 3 none :: ws) ({ frames := 0, cells := 0, slots := 0, locals := 0 } : Room)) (fun a U => a = #[(.ref a1), (.double v1)] ∧ Z.Warmed39 U.vm ∧ U.heap = h0) (fun _ _ _ _ _ => True) (fun _ U o U' => ∃ v L, o = .returned v ∧ Q_rmAdd3_0 Z a1 v1 t1 k1 x0 x1 x2 h0 n0 v U'.heap L ∧ FrameEnd U o U' L ({ frames := 0, cells := 0, slots := 0, locals := 0 } : Room).cells ({ frames := 0, cells := 0, slots := 0, locals := 0 } : Room).slots) := by
  refine MetFree.of_bodySF (plainFor_of_name pn_com_example_whipstill_whipstill_MovingWindow) hisR ?_
  intro p e s m args below meth c s₁ Bd hml0 hP hK
  obtain ⟨rfl, hZ, hh⟩ := hP
  have hx := Bd.exec
  have hby := Bd.bytes
  have hml : c.maxLocals = 3 := hml0
  have hown : s.vm.findClass "com/example/whipstill/whipstill/MovingWindow" = some m.cls := findClass_of_methodNamed Bd.named
  have hnm := (name_of_methodNamed Bd.named Bd.method).1
  have X0 : Stand p l e ({ frames := 0, cells := 0, slots := 0, locals := 0 } : Room) s m #[(.ref a1), (.double v1)] below meth c s₁ [] 0 0 := Stand.of_body Bd
  have e0 : s₁.heap = h0 := by rw [← hh, Bd.state]; rfl
  have N0 := Fr.nil n0
  have pre0 : ∀ t, Steps p.tables e below (s₁.setTop (mkF m 0 #[.val (.ref a1), .val (.double v1), .second] [])) t → Steps p.tables e below (s₁.setTop (entryFrame m #[(.ref a1), (.double v1)] 3)) t := fun t k => castTop (ef_rmAdd3_0 m a1 v1) k
  obtain ⟨T1_, X1_, e1_, st1_⟩ := getF X0 hx hZ hown (host := "") (Or.inl (hw _ (List.mem_of_getElem? (i := 14) rfl))) Via.refl e0 F1 (g := (mkF m 1 #[.val (.ref a1), .val (.double v1), .second] [(.ref a1)])) rfl rfl (hb hby d8_1)
  obtain ⟨T2_, X2_, e2_, st2_⟩ := getF X1_ hx hZ hown (host := "") (Or.inl (hw _ (List.mem_of_getElem? (i := 37) rfl))) Via.refl e1_ F2 (g := (mkF m 5 #[.val (.ref a1), .val (.double v1), .second] [(.ref a1), (.ref t1)])) rfl rfl (hb hby d8_5)
  obtain ⟨cl3_, Ar3_, q3_, S3_, M3_, Hs3_, G3_⟩ := id V1
  have in3_ : ¬ ((0 : Int32) < 0 ∨ cl3_.slots.size ≤ ((0 : Int32)).toNatClampNeg) := inb_of S3_ ⟨by decide, by decide⟩
  obtain ⟨T3_, h3_, X3_, e3_, W3_, st3_⟩ := stD X2_ hx hZ e2_ Ar3_ (j := (0 : Int32)) in3_ (g := (mkF m 9 #[.val (.ref a1), .val (.double v1), .second] [(.double v1), (.int (0 : Int32)), (.ref t1)])) rfl rfl (hb hby d8_9)
  have v3_ : Arv Z h3_ t1 k1 .double (3 : Int32) [(.double v1), (.double x1), (.double x2)] (.double (0 : UInt64)) := Arv.set Ar3_ q3_ S3_ M3_ Hs3_ G3_ rfl W3_ 0 rfl (Nat.le_of_ble_eq_true rfl)
  have N3_ := Fr.snoc X3_ N0 g2
  have f4_ : Fld Z h3_ a1 "com/example/whipstill/whipstill/MovingWindow" "oldest" "I" (.int (0 : Int32)) := (F2.other W3_ (Or.inl (Exa.neArv E1 V1 (hw _ (List.mem_of_getElem? (i := 5) rfl)))))
  obtain ⟨T5_, X5_, e5_, st5_⟩ := getF X3_ hx hZ hown (host := "") (Or.inl (hw _ (List.mem_of_getElem? (i := 37) rfl))) Via.refl e3_ f4_ (g := (mkF m 12 #[.val (.ref a1), .val (.double v1), .second] [(.ref a1), (.ref a1)])) rfl rfl (hb hby d8_12)
  have f6_ : Fld Z h3_ a1 "com/example/whipstill/whipstill/MovingWindow" "values" "[D" (.ref t1) := (F1.other W3_ (Or.inl (Exa.neArv E1 V1 (hw _ (List.mem_of_getElem? (i := 5) rfl)))))
  obtain ⟨T7_, X7_, e7_, st7_⟩ := getF X5_ hx hZ hown (host := "") (Or.inl (hw _ (List.mem_of_getElem? (i := 14) rfl))) Via.refl e5_ f6_ (g := (mkF m 18 #[.val (.ref a1), .val (.double v1), .second] [(.ref a1), (.int (1 : Int32)), (.ref a1)])) rfl rfl (hb hby d8_18)
  obtain ⟨cl8_, Ar8_, q8_, S8_, M8_, Hs8_, G8_⟩ := id v3_
  have f9_ : Exa Z h3_ a1 "com/example/whipstill/whipstill/MovingWindow" := (E1.wr W3_)
  obtain ⟨T10_, h10_, X10_, e10_, W10_, st10_⟩ := putF X7_ hx hZ hown (host := "") (Or.inl (hw _ (List.mem_of_getElem? (i := 37) rfl))) Via.refl e7_ f4_ f9_ (Or.inl (hw _ (List.mem_of_getElem? (i := 38) rfl))) (hw _ (List.mem_of_getElem? (i := 5) rfl)) (ty := .int) (by decide) rfl rfl (g := (mkF m 23 #[.val (.ref a1), .val (.double v1), .second] [(.int (1 : Int32)), (.ref a1)])) rfl rfl (hb hby d8_23)
  have w10_ : Fld Z h10_ a1 "com/example/whipstill/whipstill/MovingWindow" "oldest" "I" (.int (1 : Int32)) := f4_.same W10_
  have N10_ := Fr.snoc X10_ N3_ g1
  have f11_ : Exa Z h10_ a1 "com/example/whipstill/whipstill/MovingWindow" := (f9_.wr W10_)
  have f12_ : Fld Z h10_ a1 "com/example/whipstill/whipstill/MovingWindow" "values" "[D" (.ref t1) := (f6_.other W10_ (Or.inr (slot_ne (Or.inr (hw _ (List.mem_of_getElem? (i := 15) rfl))) (Or.inl (hw _ (List.mem_of_getElem? (i := 38) rfl))) (by decide) (t := (.array .double)) (t' := .int) (by decide) (by decide))))
  have f13_ : Arv Z h10_ t1 k1 .double (3 : Int32) [(.double v1), (.double x1), (.double x2)] (.double (0 : UInt64)) := (v3_.other W10_ (Ne.symm (Exa.neArv f9_ v3_ (hw _ (List.mem_of_getElem? (i := 5) rfl)))))
  have k14_ : Keep h0 h3_ [a1, t1] := (Keep.refl h0 [a1, t1]).wr W3_ (Or.inl (List.mem_of_getElem? (i := 1) rfl))
  have k15_ : Keep h0 h10_ [a1, t1] := k14_.wr W10_ (Or.inl (List.mem_of_getElem? (i := 0) rfl))
  obtain ⟨fs, hr, hrun, hended, hW, hsame⟩ := X10_.leave (v := none) (fun h => by first | rfl | (rw [Bd.returns] at h; cases h))
  refine ⟨_, _, pre0 _ ?_, hrun, hended, _, _, rfl, ?_, ⟨_, rfl⟩, hW, hsame.mono (by exact Nat.le_of_ble_eq_true rfl) (by exact Nat.le_of_ble_eq_true rfl)⟩
  · show Steps p.tables e below (s₁.setTop (mkF m 0 #[.val (.ref a1), .val (.double v1), .second] [])) _
    refine XS.aloadN X0.here hx rfl (hb hby d8_0) rfl rfl ?_
    refine st1_ _ ?_
    show Steps p.tables e below (T1_.setTop (mkF m 4 #[.val (.ref a1), .val (.double v1), .second] [(.ref t1)])) _
    refine XS.aloadN X1_.here hx rfl (hb hby d8_4) rfl rfl ?_
    refine st2_ _ ?_
    show Steps p.tables e below (T2_.setTop (mkF m 8 #[.val (.ref a1), .val (.double v1), .second] [(.int (0 : Int32)), (.ref t1)])) _
    refine XS.dloadN X2_.here hx rfl (hb hby d8_8) rfl ?_
    refine st3_ _ ?_
    show Steps p.tables e below (T3_.setTop (mkF m 10 #[.val (.ref a1), .val (.double v1), .second] [])) _
    refine XS.aloadN X3_.here hx rfl (hb hby d8_10) rfl rfl ?_
    refine XS.aloadN X3_.here hx rfl (hb hby d8_11) rfl rfl ?_
    refine st5_ _ ?_
    show Steps p.tables e below (T5_.setTop (mkF m 15 #[.val (.ref a1), .val (.double v1), .second] [(.int (0 : Int32)), (.ref a1)])) _
    refine XS.iconst X5_.here hx rfl (hb hby d8_15) ?_
    refine XS.iadd X5_.here hx rfl (hb hby d8_16) rfl ?_
    show Steps p.tables e below (T5_.setTop (mkF m 17 #[.val (.ref a1), .val (.double v1), .second] [(.int (1 : Int32)), (.ref a1)])) _
    refine XS.aloadN X5_.here hx rfl (hb hby d8_17) rfl rfl ?_
    refine st7_ _ ?_
    show Steps p.tables e below (T7_.setTop (mkF m 21 #[.val (.ref a1), .val (.double v1), .second] [(.ref t1), (.int (1 : Int32)), (.ref a1)])) _
    refine X7_.arraylength hx (by rw [e7_]; exact Ar8_.1) (State.isArrayOf_alike (State.Warmed39.alike hZ) Ar8_.2.1) (g := (mkF m 21 #[.val (.ref a1), .val (.double v1), .second] [(.ref t1), (.int (1 : Int32)), (.ref a1)])) rfl rfl (hb hby d8_21) _ ?_
    rw [len_of S8_ M8_]
    show Steps p.tables e below (T7_.setTop (mkF m 22 #[.val (.ref a1), .val (.double v1), .second] [(.int (3 : Int32)), (.int (1 : Int32)), (.ref a1)])) _
    refine XS.irem X7_.here hx rfl (hb hby d8_22) rfl (by decide) ?_
    show Steps p.tables e below (T7_.setTop (mkF m 23 #[.val (.ref a1), .val (.double v1), .second] [(.int (1 : Int32)), (.ref a1)])) _
    refine st10_ _ ?_
    show Steps p.tables e below (T10_.setTop (mkF m 26 #[.val (.ref a1), .val (.double v1), .second] [])) _
    exact X10_.returnOut hx Bd.returns (hb hby d8_26) hr
  · show Q_rmAdd3_0 Z a1 v1 t1 k1 x0 x1 x2 h0 n0 _ T10_.heap _
    rw [e10_]
    exact ⟨rfl, N10_, k15_, f11_, f12_, w10_, f13_⟩
theorem ef_rmAdd3_1 (m : MethodId) (x0 : Addr) (x1 : UInt64) : entryFrame m #[(.ref x0), (.double x1)] 3 = mkF m 0 #[.val (.ref x0), .val (.double x1), .second] [] := by first | (simp [entryFrame, mkF, argsToLocals, Value.category]; done) | rfl
def Q_rmAdd3_1 (Z : State) (a1 : Addr) (v1 : UInt64) (t1 : Addr) (k1 : ClassId) (x0 : UInt64) (x1 : UInt64) (x2 : UInt64) (h0 : Heap) (n0 : Nat) (v : Option Value) (h : Heap) (L : List Loc) : Prop := v = none ∧ Fr n0 L ∧ Keep h0 h [a1, t1] ∧ (Exa Z h a1 "com/example/whipstill/whipstill/MovingWindow") ∧ (Fld Z h a1 "com/example/whipstill/whipstill/MovingWindow" "values" "[D" (.ref t1)) ∧ (Fld Z h a1 "com/example/whipstill/whipstill/MovingWindow" "oldest" "I" (.int (2 : Int32))) ∧ (Arv Z h t1 k1 .double (3 : Int32) [(.double x0), (.double v1), (.double x2)] (.double (0 : UInt64)))
set_option maxRecDepth 65536 in
set_option maxHeartbeats 40000000 in
theorem rmAdd3_1 (l : Launch) (Z : State) (a0 : Array Value) (hw : ∀ d ∈ tables_1, d.before a0 Z = true) (ws : List Jvm.Cond) (a1 : Addr) (v1 : UInt64) (t1 : Addr) (k1 : ClassId) (x0 : UInt64) (x1 : UInt64) (x2 : UInt64) (h0 : Heap) (n0 : Nat) (Z0 : n0 ≤ h0.size) (E1 : Exa Z h0 a1 "com/example/whipstill/whipstill/MovingWindow") (F1 : Fld Z h0 a1 "com/example/whipstill/whipstill/MovingWindow" "values" "[D" (.ref t1)) (F2 : Fld Z h0 a1 "com/example/whipstill/whipstill/MovingWindow" "oldest" "I" (.int (1 : Int32))) (V1 : Arv Z h0 t1 k1 .double (3 : Int32) [(.double x0), (.double x1), (.double x2)] (.double (0 : UInt64))) (g1 : n0 ≤ a1) (g2 : n0 ≤ t1) :
    MetFree l (⟨"com/example/whipstill/whipstill/MovingWindow", "add", "(D)V"⟩ : MethodName) (head1 (Jvm.Cond.code (⟨"com/example/whipstill/whipstill/MovingWindow", "add", "(D)V"⟩ : MethodName) prog_11_method_2_code 3 none :: ws) ({ frames := 0, cells := 0, slots := 0, locals := 0 } : Room)) (fun a U => a = #[(.ref a1), (.double v1)] ∧ Z.Warmed39 U.vm ∧ U.heap = h0) (fun _ _ _ _ _ => True) (fun _ U o U' => ∃ v L, o = .returned v ∧ Q_rmAdd3_1 Z a1 v1 t1 k1 x0 x1 x2 h0 n0 v U'.heap L ∧ FrameEnd U o U' L ({ frames := 0, cells := 0, slots := 0, locals := 0 } : Room).cells ({ frames := 0, cells := 0, slots := 0, locals := 0 } : Room).slots) := by
  refine MetFree.of_bodySF (plainFor_of_name pn_com_example_whipstill_whipstill_MovingWindow) hisR ?_
  intro p e s m args below meth c s₁ Bd hml0 hP hK
  obtain ⟨rfl, hZ, hh⟩ := hP
  have hx := Bd.exec
  have hby := Bd.bytes
  have hml : c.maxLocals = 3 := hml0
  have hown : s.vm.findClass "com/example/whipstill/whipstill/MovingWindow" = some m.cls := findClass_of_methodNamed Bd.named
  have hnm := (name_of_methodNamed Bd.named Bd.method).1
  have X0 : Stand p l e ({ frames := 0, cells := 0, slots := 0, locals := 0 } : Room) s m #[(.ref a1), (.double v1)] below meth c s₁ [] 0 0 := Stand.of_body Bd
  have e0 : s₁.heap = h0 := by rw [← hh, Bd.state]; rfl
  have N0 := Fr.nil n0
  have pre0 : ∀ t, Steps p.tables e below (s₁.setTop (mkF m 0 #[.val (.ref a1), .val (.double v1), .second] [])) t → Steps p.tables e below (s₁.setTop (entryFrame m #[(.ref a1), (.double v1)] 3)) t := fun t k => castTop (ef_rmAdd3_1 m a1 v1) k
  obtain ⟨T1_, X1_, e1_, st1_⟩ := getF X0 hx hZ hown (host := "") (Or.inl (hw _ (List.mem_of_getElem? (i := 14) rfl))) Via.refl e0 F1 (g := (mkF m 1 #[.val (.ref a1), .val (.double v1), .second] [(.ref a1)])) rfl rfl (hb hby d8_1)
  obtain ⟨T2_, X2_, e2_, st2_⟩ := getF X1_ hx hZ hown (host := "") (Or.inl (hw _ (List.mem_of_getElem? (i := 37) rfl))) Via.refl e1_ F2 (g := (mkF m 5 #[.val (.ref a1), .val (.double v1), .second] [(.ref a1), (.ref t1)])) rfl rfl (hb hby d8_5)
  obtain ⟨cl3_, Ar3_, q3_, S3_, M3_, Hs3_, G3_⟩ := id V1
  have in3_ : ¬ ((1 : Int32) < 0 ∨ cl3_.slots.size ≤ ((1 : Int32)).toNatClampNeg) := inb_of S3_ ⟨by decide, by decide⟩
  obtain ⟨T3_, h3_, X3_, e3_, W3_, st3_⟩ := stD X2_ hx hZ e2_ Ar3_ (j := (1 : Int32)) in3_ (g := (mkF m 9 #[.val (.ref a1), .val (.double v1), .second] [(.double v1), (.int (1 : Int32)), (.ref t1)])) rfl rfl (hb hby d8_9)
  have v3_ : Arv Z h3_ t1 k1 .double (3 : Int32) [(.double x0), (.double v1), (.double x2)] (.double (0 : UInt64)) := Arv.set Ar3_ q3_ S3_ M3_ Hs3_ G3_ rfl W3_ 1 rfl (Nat.le_of_ble_eq_true rfl)
  have N3_ := Fr.snoc X3_ N0 g2
  have f4_ : Fld Z h3_ a1 "com/example/whipstill/whipstill/MovingWindow" "oldest" "I" (.int (1 : Int32)) := (F2.other W3_ (Or.inl (Exa.neArv E1 V1 (hw _ (List.mem_of_getElem? (i := 5) rfl)))))
  obtain ⟨T5_, X5_, e5_, st5_⟩ := getF X3_ hx hZ hown (host := "") (Or.inl (hw _ (List.mem_of_getElem? (i := 37) rfl))) Via.refl e3_ f4_ (g := (mkF m 12 #[.val (.ref a1), .val (.double v1), .second] [(.ref a1), (.ref a1)])) rfl rfl (hb hby d8_12)
  have f6_ : Fld Z h3_ a1 "com/example/whipstill/whipstill/MovingWindow" "values" "[D" (.ref t1) := (F1.other W3_ (Or.inl (Exa.neArv E1 V1 (hw _ (List.mem_of_getElem? (i := 5) rfl)))))
  obtain ⟨T7_, X7_, e7_, st7_⟩ := getF X5_ hx hZ hown (host := "") (Or.inl (hw _ (List.mem_of_getElem? (i := 14) rfl))) Via.refl e5_ f6_ (g := (mkF m 18 #[.val (.ref a1), .val (.double v1), .second] [(.ref a1), (.int (2 : Int32)), (.ref a1)])) rfl rfl (hb hby d8_18)
  obtain ⟨cl8_, Ar8_, q8_, S8_, M8_, Hs8_, G8_⟩ := id v3_
  have f9_ : Exa Z h3_ a1 "com/example/whipstill/whipstill/MovingWindow" := (E1.wr W3_)
  obtain ⟨T10_, h10_, X10_, e10_, W10_, st10_⟩ := putF X7_ hx hZ hown (host := "") (Or.inl (hw _ (List.mem_of_getElem? (i := 37) rfl))) Via.refl e7_ f4_ f9_ (Or.inl (hw _ (List.mem_of_getElem? (i := 38) rfl))) (hw _ (List.mem_of_getElem? (i := 5) rfl)) (ty := .int) (by decide) rfl rfl (g := (mkF m 23 #[.val (.ref a1), .val (.double v1), .second] [(.int (2 : Int32)), (.ref a1)])) rfl rfl (hb hby d8_23)
  have w10_ : Fld Z h10_ a1 "com/example/whipstill/whipstill/MovingWindow" "oldest" "I" (.int (2 : Int32)) := f4_.same W10_
  have N10_ := Fr.snoc X10_ N3_ g1
  have f11_ : Exa Z h10_ a1 "com/example/whipstill/whipstill/MovingWindow" := (f9_.wr W10_)
  have f12_ : Fld Z h10_ a1 "com/example/whipstill/whipstill/MovingWindow" "values" "[D" (.ref t1) := (f6_.other W10_ (Or.inr (slot_ne (Or.inr (hw _ (List.mem_of_getElem? (i := 15) rfl))) (Or.inl (hw _ (List.mem_of_getElem? (i := 38) rfl))) (by decide) (t := (.array .double)) (t' := .int) (by decide) (by decide))))
  have f13_ : Arv Z h10_ t1 k1 .double (3 : Int32) [(.double x0), (.double v1), (.double x2)] (.double (0 : UInt64)) := (v3_.other W10_ (Ne.symm (Exa.neArv f9_ v3_ (hw _ (List.mem_of_getElem? (i := 5) rfl)))))
  have k14_ : Keep h0 h3_ [a1, t1] := (Keep.refl h0 [a1, t1]).wr W3_ (Or.inl (List.mem_of_getElem? (i := 1) rfl))
  have k15_ : Keep h0 h10_ [a1, t1] := k14_.wr W10_ (Or.inl (List.mem_of_getElem? (i := 0) rfl))
  obtain ⟨fs, hr, hrun, hended, hW, hsame⟩ := X10_.leave (v := none) (fun h => by first | rfl | (rw [Bd.returns] at h; cases h))
  refine ⟨_, _, pre0 _ ?_, hrun, hended, _, _, rfl, ?_, ⟨_, rfl⟩, hW, hsame.mono (by exact Nat.le_of_ble_eq_true rfl) (by exact Nat.le_of_ble_eq_true rfl)⟩
  · show Steps p.tables e below (s₁.setTop (mkF m 0 #[.val (.ref a1), .val (.double v1), .second] [])) _
    refine XS.aloadN X0.here hx rfl (hb hby d8_0) rfl rfl ?_
    refine st1_ _ ?_
    show Steps p.tables e below (T1_.setTop (mkF m 4 #[.val (.ref a1), .val (.double v1), .second] [(.ref t1)])) _
    refine XS.aloadN X1_.here hx rfl (hb hby d8_4) rfl rfl ?_
    refine st2_ _ ?_
    show Steps p.tables e below (T2_.setTop (mkF m 8 #[.val (.ref a1), .val (.double v1), .second] [(.int (1 : Int32)), (.ref t1)])) _
    refine XS.dloadN X2_.here hx rfl (hb hby d8_8) rfl ?_
    refine st3_ _ ?_
    show Steps p.tables e below (T3_.setTop (mkF m 10 #[.val (.ref a1), .val (.double v1), .second] [])) _
    refine XS.aloadN X3_.here hx rfl (hb hby d8_10) rfl rfl ?_
    refine XS.aloadN X3_.here hx rfl (hb hby d8_11) rfl rfl ?_
    refine st5_ _ ?_
    show Steps p.tables e below (T5_.setTop (mkF m 15 #[.val (.ref a1), .val (.double v1), .second] [(.int (1 : Int32)), (.ref a1)])) _
    refine XS.iconst X5_.here hx rfl (hb hby d8_15) ?_
    refine XS.iadd X5_.here hx rfl (hb hby d8_16) rfl ?_
    show Steps p.tables e below (T5_.setTop (mkF m 17 #[.val (.ref a1), .val (.double v1), .second] [(.int (2 : Int32)), (.ref a1)])) _
    refine XS.aloadN X5_.here hx rfl (hb hby d8_17) rfl rfl ?_
    refine st7_ _ ?_
    show Steps p.tables e below (T7_.setTop (mkF m 21 #[.val (.ref a1), .val (.double v1), .second] [(.ref t1), (.int (2 : Int32)), (.ref a1)])) _
    refine X7_.arraylength hx (by rw [e7_]; exact Ar8_.1) (State.isArrayOf_alike (State.Warmed39.alike hZ) Ar8_.2.1) (g := (mkF m 21 #[.val (.ref a1), .val (.double v1), .second] [(.ref t1), (.int (2 : Int32)), (.ref a1)])) rfl rfl (hb hby d8_21) _ ?_
    rw [len_of S8_ M8_]
    show Steps p.tables e below (T7_.setTop (mkF m 22 #[.val (.ref a1), .val (.double v1), .second] [(.int (3 : Int32)), (.int (2 : Int32)), (.ref a1)])) _
    refine XS.irem X7_.here hx rfl (hb hby d8_22) rfl (by decide) ?_
    show Steps p.tables e below (T7_.setTop (mkF m 23 #[.val (.ref a1), .val (.double v1), .second] [(.int (2 : Int32)), (.ref a1)])) _
    refine st10_ _ ?_
    show Steps p.tables e below (T10_.setTop (mkF m 26 #[.val (.ref a1), .val (.double v1), .second] [])) _
    exact X10_.returnOut hx Bd.returns (hb hby d8_26) hr
  · show Q_rmAdd3_1 Z a1 v1 t1 k1 x0 x1 x2 h0 n0 _ T10_.heap _
    rw [e10_]
    exact ⟨rfl, N10_, k15_, f11_, f12_, w10_, f13_⟩
theorem ef_rmAdd3_2 (m : MethodId) (x0 : Addr) (x1 : UInt64) : entryFrame m #[(.ref x0), (.double x1)] 3 = mkF m 0 #[.val (.ref x0), .val (.double x1), .second] [] := by first | (simp [entryFrame, mkF, argsToLocals, Value.category]; done) | rfl
def Q_rmAdd3_2 (Z : State) (a1 : Addr) (v1 : UInt64) (t1 : Addr) (k1 : ClassId) (x0 : UInt64) (x1 : UInt64) (x2 : UInt64) (h0 : Heap) (n0 : Nat) (v : Option Value) (h : Heap) (L : List Loc) : Prop := v = none ∧ Fr n0 L ∧ Keep h0 h [a1, t1] ∧ (Exa Z h a1 "com/example/whipstill/whipstill/MovingWindow") ∧ (Fld Z h a1 "com/example/whipstill/whipstill/MovingWindow" "values" "[D" (.ref t1)) ∧ (Fld Z h a1 "com/example/whipstill/whipstill/MovingWindow" "oldest" "I" (.int (0 : Int32))) ∧ (Arv Z h t1 k1 .double (3 : Int32) [(.double x0), (.double x1), (.double v1)] (.double (0 : UInt64)))
set_option maxRecDepth 65536 in
set_option maxHeartbeats 40000000 in
theorem rmAdd3_2 (l : Launch) (Z : State) (a0 : Array Value) (hw : ∀ d ∈ tables_1, d.before a0 Z = true) (ws : List Jvm.Cond) (a1 : Addr) (v1 : UInt64) (t1 : Addr) (k1 : ClassId) (x0 : UInt64) (x1 : UInt64) (x2 : UInt64) (h0 : Heap) (n0 : Nat) (Z0 : n0 ≤ h0.size) (E1 : Exa Z h0 a1 "com/example/whipstill/whipstill/MovingWindow") (F1 : Fld Z h0 a1 "com/example/whipstill/whipstill/MovingWindow" "values" "[D" (.ref t1)) (F2 : Fld Z h0 a1 "com/example/whipstill/whipstill/MovingWindow" "oldest" "I" (.int (2 : Int32))) (V1 : Arv Z h0 t1 k1 .double (3 : Int32) [(.double x0), (.double x1), (.double x2)] (.double (0 : UInt64))) (g1 : n0 ≤ a1) (g2 : n0 ≤ t1) :
    MetFree l (⟨"com/example/whipstill/whipstill/MovingWindow", "add", "(D)V"⟩ : MethodName) (head1 (Jvm.Cond.code (⟨"com/example/whipstill/whipstill/MovingWindow", "add", "(D)V"⟩ : MethodName) prog_11_method_2_code 3 none :: ws) ({ frames := 0, cells := 0, slots := 0, locals := 0 } : Room)) (fun a U => a = #[(.ref a1), (.double v1)] ∧ Z.Warmed39 U.vm ∧ U.heap = h0) (fun _ _ _ _ _ => True) (fun _ U o U' => ∃ v L, o = .returned v ∧ Q_rmAdd3_2 Z a1 v1 t1 k1 x0 x1 x2 h0 n0 v U'.heap L ∧ FrameEnd U o U' L ({ frames := 0, cells := 0, slots := 0, locals := 0 } : Room).cells ({ frames := 0, cells := 0, slots := 0, locals := 0 } : Room).slots) := by
  refine MetFree.of_bodySF (plainFor_of_name pn_com_example_whipstill_whipstill_MovingWindow) hisR ?_
  intro p e s m args below meth c s₁ Bd hml0 hP hK
  obtain ⟨rfl, hZ, hh⟩ := hP
  have hx := Bd.exec
  have hby := Bd.bytes
  have hml : c.maxLocals = 3 := hml0
  have hown : s.vm.findClass "com/example/whipstill/whipstill/MovingWindow" = some m.cls := findClass_of_methodNamed Bd.named
  have hnm := (name_of_methodNamed Bd.named Bd.method).1
  have X0 : Stand p l e ({ frames := 0, cells := 0, slots := 0, locals := 0 } : Room) s m #[(.ref a1), (.double v1)] below meth c s₁ [] 0 0 := Stand.of_body Bd
  have e0 : s₁.heap = h0 := by rw [← hh, Bd.state]; rfl
  have N0 := Fr.nil n0
  have pre0 : ∀ t, Steps p.tables e below (s₁.setTop (mkF m 0 #[.val (.ref a1), .val (.double v1), .second] [])) t → Steps p.tables e below (s₁.setTop (entryFrame m #[(.ref a1), (.double v1)] 3)) t := fun t k => castTop (ef_rmAdd3_2 m a1 v1) k
  obtain ⟨T1_, X1_, e1_, st1_⟩ := getF X0 hx hZ hown (host := "") (Or.inl (hw _ (List.mem_of_getElem? (i := 14) rfl))) Via.refl e0 F1 (g := (mkF m 1 #[.val (.ref a1), .val (.double v1), .second] [(.ref a1)])) rfl rfl (hb hby d8_1)
  obtain ⟨T2_, X2_, e2_, st2_⟩ := getF X1_ hx hZ hown (host := "") (Or.inl (hw _ (List.mem_of_getElem? (i := 37) rfl))) Via.refl e1_ F2 (g := (mkF m 5 #[.val (.ref a1), .val (.double v1), .second] [(.ref a1), (.ref t1)])) rfl rfl (hb hby d8_5)
  obtain ⟨cl3_, Ar3_, q3_, S3_, M3_, Hs3_, G3_⟩ := id V1
  have in3_ : ¬ ((2 : Int32) < 0 ∨ cl3_.slots.size ≤ ((2 : Int32)).toNatClampNeg) := inb_of S3_ ⟨by decide, by decide⟩
  obtain ⟨T3_, h3_, X3_, e3_, W3_, st3_⟩ := stD X2_ hx hZ e2_ Ar3_ (j := (2 : Int32)) in3_ (g := (mkF m 9 #[.val (.ref a1), .val (.double v1), .second] [(.double v1), (.int (2 : Int32)), (.ref t1)])) rfl rfl (hb hby d8_9)
  have v3_ : Arv Z h3_ t1 k1 .double (3 : Int32) [(.double x0), (.double x1), (.double v1)] (.double (0 : UInt64)) := Arv.set Ar3_ q3_ S3_ M3_ Hs3_ G3_ rfl W3_ 2 rfl (Nat.le_of_ble_eq_true rfl)
  have N3_ := Fr.snoc X3_ N0 g2
  have f4_ : Fld Z h3_ a1 "com/example/whipstill/whipstill/MovingWindow" "oldest" "I" (.int (2 : Int32)) := (F2.other W3_ (Or.inl (Exa.neArv E1 V1 (hw _ (List.mem_of_getElem? (i := 5) rfl)))))
  obtain ⟨T5_, X5_, e5_, st5_⟩ := getF X3_ hx hZ hown (host := "") (Or.inl (hw _ (List.mem_of_getElem? (i := 37) rfl))) Via.refl e3_ f4_ (g := (mkF m 12 #[.val (.ref a1), .val (.double v1), .second] [(.ref a1), (.ref a1)])) rfl rfl (hb hby d8_12)
  have f6_ : Fld Z h3_ a1 "com/example/whipstill/whipstill/MovingWindow" "values" "[D" (.ref t1) := (F1.other W3_ (Or.inl (Exa.neArv E1 V1 (hw _ (List.mem_of_getElem? (i := 5) rfl)))))
  obtain ⟨T7_, X7_, e7_, st7_⟩ := getF X5_ hx hZ hown (host := "") (Or.inl (hw _ (List.mem_of_getElem? (i := 14) rfl))) Via.refl e5_ f6_ (g := (mkF m 18 #[.val (.ref a1), .val (.double v1), .second] [(.ref a1), (.int (3 : Int32)), (.ref a1)])) rfl rfl (hb hby d8_18)
  obtain ⟨cl8_, Ar8_, q8_, S8_, M8_, Hs8_, G8_⟩ := id v3_
  have f9_ : Exa Z h3_ a1 "com/example/whipstill/whipstill/MovingWindow" := (E1.wr W3_)
  obtain ⟨T10_, h10_, X10_, e10_, W10_, st10_⟩ := putF X7_ hx hZ hown (host := "") (Or.inl (hw _ (List.mem_of_getElem? (i := 37) rfl))) Via.refl e7_ f4_ f9_ (Or.inl (hw _ (List.mem_of_getElem? (i := 38) rfl))) (hw _ (List.mem_of_getElem? (i := 5) rfl)) (ty := .int) (by decide) rfl rfl (g := (mkF m 23 #[.val (.ref a1), .val (.double v1), .second] [(.int (0 : Int32)), (.ref a1)])) rfl rfl (hb hby d8_23)
  have w10_ : Fld Z h10_ a1 "com/example/whipstill/whipstill/MovingWindow" "oldest" "I" (.int (0 : Int32)) := f4_.same W10_
  have N10_ := Fr.snoc X10_ N3_ g1
  have f11_ : Exa Z h10_ a1 "com/example/whipstill/whipstill/MovingWindow" := (f9_.wr W10_)
  have f12_ : Fld Z h10_ a1 "com/example/whipstill/whipstill/MovingWindow" "values" "[D" (.ref t1) := (f6_.other W10_ (Or.inr (slot_ne (Or.inr (hw _ (List.mem_of_getElem? (i := 15) rfl))) (Or.inl (hw _ (List.mem_of_getElem? (i := 38) rfl))) (by decide) (t := (.array .double)) (t' := .int) (by decide) (by decide))))
  have f13_ : Arv Z h10_ t1 k1 .double (3 : Int32) [(.double x0), (.double x1), (.double v1)] (.double (0 : UInt64)) := (v3_.other W10_ (Ne.symm (Exa.neArv f9_ v3_ (hw _ (List.mem_of_getElem? (i := 5) rfl)))))
  have k14_ : Keep h0 h3_ [a1, t1] := (Keep.refl h0 [a1, t1]).wr W3_ (Or.inl (List.mem_of_getElem? (i := 1) rfl))
  have k15_ : Keep h0 h10_ [a1, t1] := k14_.wr W10_ (Or.inl (List.mem_of_getElem? (i := 0) rfl))
  obtain ⟨fs, hr, hrun, hended, hW, hsame⟩ := X10_.leave (v := none) (fun h => by first | rfl | (rw [Bd.returns] at h; cases h))
  refine ⟨_, _, pre0 _ ?_, hrun, hended, _, _, rfl, ?_, ⟨_, rfl⟩, hW, hsame.mono (by exact Nat.le_of_ble_eq_true rfl) (by exact Nat.le_of_ble_eq_true rfl)⟩
  · show Steps p.tables e below (s₁.setTop (mkF m 0 #[.val (.ref a1), .val (.double v1), .second] [])) _
    refine XS.aloadN X0.here hx rfl (hb hby d8_0) rfl rfl ?_
    refine st1_ _ ?_
    show Steps p.tables e below (T1_.setTop (mkF m 4 #[.val (.ref a1), .val (.double v1), .second] [(.ref t1)])) _
    refine XS.aloadN X1_.here hx rfl (hb hby d8_4) rfl rfl ?_
    refine st2_ _ ?_
    show Steps p.tables e below (T2_.setTop (mkF m 8 #[.val (.ref a1), .val (.double v1), .second] [(.int (2 : Int32)), (.ref t1)])) _
    refine XS.dloadN X2_.here hx rfl (hb hby d8_8) rfl ?_
    refine st3_ _ ?_
    show Steps p.tables e below (T3_.setTop (mkF m 10 #[.val (.ref a1), .val (.double v1), .second] [])) _
    refine XS.aloadN X3_.here hx rfl (hb hby d8_10) rfl rfl ?_
    refine XS.aloadN X3_.here hx rfl (hb hby d8_11) rfl rfl ?_
    refine st5_ _ ?_
    show Steps p.tables e below (T5_.setTop (mkF m 15 #[.val (.ref a1), .val (.double v1), .second] [(.int (2 : Int32)), (.ref a1)])) _
    refine XS.iconst X5_.here hx rfl (hb hby d8_15) ?_
    refine XS.iadd X5_.here hx rfl (hb hby d8_16) rfl ?_
    show Steps p.tables e below (T5_.setTop (mkF m 17 #[.val (.ref a1), .val (.double v1), .second] [(.int (3 : Int32)), (.ref a1)])) _
    refine XS.aloadN X5_.here hx rfl (hb hby d8_17) rfl rfl ?_
    refine st7_ _ ?_
    show Steps p.tables e below (T7_.setTop (mkF m 21 #[.val (.ref a1), .val (.double v1), .second] [(.ref t1), (.int (3 : Int32)), (.ref a1)])) _
    refine X7_.arraylength hx (by rw [e7_]; exact Ar8_.1) (State.isArrayOf_alike (State.Warmed39.alike hZ) Ar8_.2.1) (g := (mkF m 21 #[.val (.ref a1), .val (.double v1), .second] [(.ref t1), (.int (3 : Int32)), (.ref a1)])) rfl rfl (hb hby d8_21) _ ?_
    rw [len_of S8_ M8_]
    show Steps p.tables e below (T7_.setTop (mkF m 22 #[.val (.ref a1), .val (.double v1), .second] [(.int (3 : Int32)), (.int (3 : Int32)), (.ref a1)])) _
    refine XS.irem X7_.here hx rfl (hb hby d8_22) rfl (by decide) ?_
    show Steps p.tables e below (T7_.setTop (mkF m 23 #[.val (.ref a1), .val (.double v1), .second] [(.int (0 : Int32)), (.ref a1)])) _
    refine st10_ _ ?_
    show Steps p.tables e below (T10_.setTop (mkF m 26 #[.val (.ref a1), .val (.double v1), .second] [])) _
    exact X10_.returnOut hx Bd.returns (hb hby d8_26) hr
  · show Q_rmAdd3_2 Z a1 v1 t1 k1 x0 x1 x2 h0 n0 _ T10_.heap _
    rw [e10_]
    exact ⟨rfl, N10_, k15_, f11_, f12_, w10_, f13_⟩
theorem ef_rmAdd4_0 (m : MethodId) (x0 : Addr) (x1 : UInt64) : entryFrame m #[(.ref x0), (.double x1)] 3 = mkF m 0 #[.val (.ref x0), .val (.double x1), .second] [] := by first | (simp [entryFrame, mkF, argsToLocals, Value.category]; done) | rfl
def Q_rmAdd4_0 (Z : State) (a1 : Addr) (v1 : UInt64) (t1 : Addr) (k1 : ClassId) (x0 : UInt64) (x1 : UInt64) (x2 : UInt64) (x3 : UInt64) (h0 : Heap) (n0 : Nat) (v : Option Value) (h : Heap) (L : List Loc) : Prop := v = none ∧ Fr n0 L ∧ Keep h0 h [a1, t1] ∧ (Exa Z h a1 "com/example/whipstill/whipstill/MovingWindow") ∧ (Fld Z h a1 "com/example/whipstill/whipstill/MovingWindow" "values" "[D" (.ref t1)) ∧ (Fld Z h a1 "com/example/whipstill/whipstill/MovingWindow" "oldest" "I" (.int (1 : Int32))) ∧ (Arv Z h t1 k1 .double (4 : Int32) [(.double v1), (.double x1), (.double x2), (.double x3)] (.double (0 : UInt64)))
set_option maxRecDepth 65536 in
set_option maxHeartbeats 40000000 in
theorem rmAdd4_0 (l : Launch) (Z : State) (a0 : Array Value) (hw : ∀ d ∈ tables_1, d.before a0 Z = true) (ws : List Jvm.Cond) (a1 : Addr) (v1 : UInt64) (t1 : Addr) (k1 : ClassId) (x0 : UInt64) (x1 : UInt64) (x2 : UInt64) (x3 : UInt64) (h0 : Heap) (n0 : Nat) (Z0 : n0 ≤ h0.size) (E1 : Exa Z h0 a1 "com/example/whipstill/whipstill/MovingWindow") (F1 : Fld Z h0 a1 "com/example/whipstill/whipstill/MovingWindow" "values" "[D" (.ref t1)) (F2 : Fld Z h0 a1 "com/example/whipstill/whipstill/MovingWindow" "oldest" "I" (.int (0 : Int32))) (V1 : Arv Z h0 t1 k1 .double (4 : Int32) [(.double x0), (.double x1), (.double x2), (.double x3)] (.double (0 : UInt64))) (g1 : n0 ≤ a1) (g2 : n0 ≤ t1) :
    MetFree l (⟨"com/example/whipstill/whipstill/MovingWindow", "add", "(D)V"⟩ : MethodName) (head1 (Jvm.Cond.code (⟨"com/example/whipstill/whipstill/MovingWindow", "add", "(D)V"⟩ : MethodName) prog_11_method_2_code 3 none :: ws) ({ frames := 0, cells := 0, slots := 0, locals := 0 } : Room)) (fun a U => a = #[(.ref a1), (.double v1)] ∧ Z.Warmed39 U.vm ∧ U.heap = h0) (fun _ _ _ _ _ => True) (fun _ U o U' => ∃ v L, o = .returned v ∧ Q_rmAdd4_0 Z a1 v1 t1 k1 x0 x1 x2 x3 h0 n0 v U'.heap L ∧ FrameEnd U o U' L ({ frames := 0, cells := 0, slots := 0, locals := 0 } : Room).cells ({ frames := 0, cells := 0, slots := 0, locals := 0 } : Room).slots) := by
  refine MetFree.of_bodySF (plainFor_of_name pn_com_example_whipstill_whipstill_MovingWindow) hisR ?_
  intro p e s m args below meth c s₁ Bd hml0 hP hK
  obtain ⟨rfl, hZ, hh⟩ := hP
  have hx := Bd.exec
  have hby := Bd.bytes
  have hml : c.maxLocals = 3 := hml0
  have hown : s.vm.findClass "com/example/whipstill/whipstill/MovingWindow" = some m.cls := findClass_of_methodNamed Bd.named
  have hnm := (name_of_methodNamed Bd.named Bd.method).1
  have X0 : Stand p l e ({ frames := 0, cells := 0, slots := 0, locals := 0 } : Room) s m #[(.ref a1), (.double v1)] below meth c s₁ [] 0 0 := Stand.of_body Bd
  have e0 : s₁.heap = h0 := by rw [← hh, Bd.state]; rfl
  have N0 := Fr.nil n0
  have pre0 : ∀ t, Steps p.tables e below (s₁.setTop (mkF m 0 #[.val (.ref a1), .val (.double v1), .second] [])) t → Steps p.tables e below (s₁.setTop (entryFrame m #[(.ref a1), (.double v1)] 3)) t := fun t k => castTop (ef_rmAdd4_0 m a1 v1) k
  obtain ⟨T1_, X1_, e1_, st1_⟩ := getF X0 hx hZ hown (host := "") (Or.inl (hw _ (List.mem_of_getElem? (i := 14) rfl))) Via.refl e0 F1 (g := (mkF m 1 #[.val (.ref a1), .val (.double v1), .second] [(.ref a1)])) rfl rfl (hb hby d8_1)
  obtain ⟨T2_, X2_, e2_, st2_⟩ := getF X1_ hx hZ hown (host := "") (Or.inl (hw _ (List.mem_of_getElem? (i := 37) rfl))) Via.refl e1_ F2 (g := (mkF m 5 #[.val (.ref a1), .val (.double v1), .second] [(.ref a1), (.ref t1)])) rfl rfl (hb hby d8_5)
  obtain ⟨cl3_, Ar3_, q3_, S3_, M3_, Hs3_, G3_⟩ := id V1
  have in3_ : ¬ ((0 : Int32) < 0 ∨ cl3_.slots.size ≤ ((0 : Int32)).toNatClampNeg) := inb_of S3_ ⟨by decide, by decide⟩
  obtain ⟨T3_, h3_, X3_, e3_, W3_, st3_⟩ := stD X2_ hx hZ e2_ Ar3_ (j := (0 : Int32)) in3_ (g := (mkF m 9 #[.val (.ref a1), .val (.double v1), .second] [(.double v1), (.int (0 : Int32)), (.ref t1)])) rfl rfl (hb hby d8_9)
  have v3_ : Arv Z h3_ t1 k1 .double (4 : Int32) [(.double v1), (.double x1), (.double x2), (.double x3)] (.double (0 : UInt64)) := Arv.set Ar3_ q3_ S3_ M3_ Hs3_ G3_ rfl W3_ 0 rfl (Nat.le_of_ble_eq_true rfl)
  have N3_ := Fr.snoc X3_ N0 g2
  have f4_ : Fld Z h3_ a1 "com/example/whipstill/whipstill/MovingWindow" "oldest" "I" (.int (0 : Int32)) := (F2.other W3_ (Or.inl (Exa.neArv E1 V1 (hw _ (List.mem_of_getElem? (i := 5) rfl)))))
  obtain ⟨T5_, X5_, e5_, st5_⟩ := getF X3_ hx hZ hown (host := "") (Or.inl (hw _ (List.mem_of_getElem? (i := 37) rfl))) Via.refl e3_ f4_ (g := (mkF m 12 #[.val (.ref a1), .val (.double v1), .second] [(.ref a1), (.ref a1)])) rfl rfl (hb hby d8_12)
  have f6_ : Fld Z h3_ a1 "com/example/whipstill/whipstill/MovingWindow" "values" "[D" (.ref t1) := (F1.other W3_ (Or.inl (Exa.neArv E1 V1 (hw _ (List.mem_of_getElem? (i := 5) rfl)))))
  obtain ⟨T7_, X7_, e7_, st7_⟩ := getF X5_ hx hZ hown (host := "") (Or.inl (hw _ (List.mem_of_getElem? (i := 14) rfl))) Via.refl e5_ f6_ (g := (mkF m 18 #[.val (.ref a1), .val (.double v1), .second] [(.ref a1), (.int (1 : Int32)), (.ref a1)])) rfl rfl (hb hby d8_18)
  obtain ⟨cl8_, Ar8_, q8_, S8_, M8_, Hs8_, G8_⟩ := id v3_
  have f9_ : Exa Z h3_ a1 "com/example/whipstill/whipstill/MovingWindow" := (E1.wr W3_)
  obtain ⟨T10_, h10_, X10_, e10_, W10_, st10_⟩ := putF X7_ hx hZ hown (host := "") (Or.inl (hw _ (List.mem_of_getElem? (i := 37) rfl))) Via.refl e7_ f4_ f9_ (Or.inl (hw _ (List.mem_of_getElem? (i := 38) rfl))) (hw _ (List.mem_of_getElem? (i := 5) rfl)) (ty := .int) (by decide) rfl rfl (g := (mkF m 23 #[.val (.ref a1), .val (.double v1), .second] [(.int (1 : Int32)), (.ref a1)])) rfl rfl (hb hby d8_23)
  have w10_ : Fld Z h10_ a1 "com/example/whipstill/whipstill/MovingWindow" "oldest" "I" (.int (1 : Int32)) := f4_.same W10_
  have N10_ := Fr.snoc X10_ N3_ g1
  have f11_ : Exa Z h10_ a1 "com/example/whipstill/whipstill/MovingWindow" := (f9_.wr W10_)
  have f12_ : Fld Z h10_ a1 "com/example/whipstill/whipstill/MovingWindow" "values" "[D" (.ref t1) := (f6_.other W10_ (Or.inr (slot_ne (Or.inr (hw _ (List.mem_of_getElem? (i := 15) rfl))) (Or.inl (hw _ (List.mem_of_getElem? (i := 38) rfl))) (by decide) (t := (.array .double)) (t' := .int) (by decide) (by decide))))
  have f13_ : Arv Z h10_ t1 k1 .double (4 : Int32) [(.double v1), (.double x1), (.double x2), (.double x3)] (.double (0 : UInt64)) := (v3_.other W10_ (Ne.symm (Exa.neArv f9_ v3_ (hw _ (List.mem_of_getElem? (i := 5) rfl)))))
  have k14_ : Keep h0 h3_ [a1, t1] := (Keep.refl h0 [a1, t1]).wr W3_ (Or.inl (List.mem_of_getElem? (i := 1) rfl))
  have k15_ : Keep h0 h10_ [a1, t1] := k14_.wr W10_ (Or.inl (List.mem_of_getElem? (i := 0) rfl))
  obtain ⟨fs, hr, hrun, hended, hW, hsame⟩ := X10_.leave (v := none) (fun h => by first | rfl | (rw [Bd.returns] at h; cases h))
  refine ⟨_, _, pre0 _ ?_, hrun, hended, _, _, rfl, ?_, ⟨_, rfl⟩, hW, hsame.mono (by exact Nat.le_of_ble_eq_true rfl) (by exact Nat.le_of_ble_eq_true rfl)⟩
  · show Steps p.tables e below (s₁.setTop (mkF m 0 #[.val (.ref a1), .val (.double v1), .second] [])) _
    refine XS.aloadN X0.here hx rfl (hb hby d8_0) rfl rfl ?_
    refine st1_ _ ?_
    show Steps p.tables e below (T1_.setTop (mkF m 4 #[.val (.ref a1), .val (.double v1), .second] [(.ref t1)])) _
    refine XS.aloadN X1_.here hx rfl (hb hby d8_4) rfl rfl ?_
    refine st2_ _ ?_
    show Steps p.tables e below (T2_.setTop (mkF m 8 #[.val (.ref a1), .val (.double v1), .second] [(.int (0 : Int32)), (.ref t1)])) _
    refine XS.dloadN X2_.here hx rfl (hb hby d8_8) rfl ?_
    refine st3_ _ ?_
    show Steps p.tables e below (T3_.setTop (mkF m 10 #[.val (.ref a1), .val (.double v1), .second] [])) _
    refine XS.aloadN X3_.here hx rfl (hb hby d8_10) rfl rfl ?_
    refine XS.aloadN X3_.here hx rfl (hb hby d8_11) rfl rfl ?_
    refine st5_ _ ?_
    show Steps p.tables e below (T5_.setTop (mkF m 15 #[.val (.ref a1), .val (.double v1), .second] [(.int (0 : Int32)), (.ref a1)])) _
    refine XS.iconst X5_.here hx rfl (hb hby d8_15) ?_
    refine XS.iadd X5_.here hx rfl (hb hby d8_16) rfl ?_
    show Steps p.tables e below (T5_.setTop (mkF m 17 #[.val (.ref a1), .val (.double v1), .second] [(.int (1 : Int32)), (.ref a1)])) _
    refine XS.aloadN X5_.here hx rfl (hb hby d8_17) rfl rfl ?_
    refine st7_ _ ?_
    show Steps p.tables e below (T7_.setTop (mkF m 21 #[.val (.ref a1), .val (.double v1), .second] [(.ref t1), (.int (1 : Int32)), (.ref a1)])) _
    refine X7_.arraylength hx (by rw [e7_]; exact Ar8_.1) (State.isArrayOf_alike (State.Warmed39.alike hZ) Ar8_.2.1) (g := (mkF m 21 #[.val (.ref a1), .val (.double v1), .second] [(.ref t1), (.int (1 : Int32)), (.ref a1)])) rfl rfl (hb hby d8_21) _ ?_
    rw [len_of S8_ M8_]
    show Steps p.tables e below (T7_.setTop (mkF m 22 #[.val (.ref a1), .val (.double v1), .second] [(.int (4 : Int32)), (.int (1 : Int32)), (.ref a1)])) _
    refine XS.irem X7_.here hx rfl (hb hby d8_22) rfl (by decide) ?_
    show Steps p.tables e below (T7_.setTop (mkF m 23 #[.val (.ref a1), .val (.double v1), .second] [(.int (1 : Int32)), (.ref a1)])) _
    refine st10_ _ ?_
    show Steps p.tables e below (T10_.setTop (mkF m 26 #[.val (.ref a1), .val (.double v1), .second] [])) _
    exact X10_.returnOut hx Bd.returns (hb hby d8_26) hr
  · show Q_rmAdd4_0 Z a1 v1 t1 k1 x0 x1 x2 x3 h0 n0 _ T10_.heap _
    rw [e10_]
    exact ⟨rfl, N10_, k15_, f11_, f12_, w10_, f13_⟩
theorem ef_rmAdd4_1 (m : MethodId) (x0 : Addr) (x1 : UInt64) : entryFrame m #[(.ref x0), (.double x1)] 3 = mkF m 0 #[.val (.ref x0), .val (.double x1), .second] [] := by first | (simp [entryFrame, mkF, argsToLocals, Value.category]; done) | rfl
def Q_rmAdd4_1 (Z : State) (a1 : Addr) (v1 : UInt64) (t1 : Addr) (k1 : ClassId) (x0 : UInt64) (x1 : UInt64) (x2 : UInt64) (x3 : UInt64) (h0 : Heap) (n0 : Nat) (v : Option Value) (h : Heap) (L : List Loc) : Prop := v = none ∧ Fr n0 L ∧ Keep h0 h [a1, t1] ∧ (Exa Z h a1 "com/example/whipstill/whipstill/MovingWindow") ∧ (Fld Z h a1 "com/example/whipstill/whipstill/MovingWindow" "values" "[D" (.ref t1)) ∧ (Fld Z h a1 "com/example/whipstill/whipstill/MovingWindow" "oldest" "I" (.int (2 : Int32))) ∧ (Arv Z h t1 k1 .double (4 : Int32) [(.double x0), (.double v1), (.double x2), (.double x3)] (.double (0 : UInt64)))
set_option maxRecDepth 65536 in
set_option maxHeartbeats 40000000 in
theorem rmAdd4_1 (l : Launch) (Z : State) (a0 : Array Value) (hw : ∀ d ∈ tables_1, d.before a0 Z = true) (ws : List Jvm.Cond) (a1 : Addr) (v1 : UInt64) (t1 : Addr) (k1 : ClassId) (x0 : UInt64) (x1 : UInt64) (x2 : UInt64) (x3 : UInt64) (h0 : Heap) (n0 : Nat) (Z0 : n0 ≤ h0.size) (E1 : Exa Z h0 a1 "com/example/whipstill/whipstill/MovingWindow") (F1 : Fld Z h0 a1 "com/example/whipstill/whipstill/MovingWindow" "values" "[D" (.ref t1)) (F2 : Fld Z h0 a1 "com/example/whipstill/whipstill/MovingWindow" "oldest" "I" (.int (1 : Int32))) (V1 : Arv Z h0 t1 k1 .double (4 : Int32) [(.double x0), (.double x1), (.double x2), (.double x3)] (.double (0 : UInt64))) (g1 : n0 ≤ a1) (g2 : n0 ≤ t1) :
    MetFree l (⟨"com/example/whipstill/whipstill/MovingWindow", "add", "(D)V"⟩ : MethodName) (head1 (Jvm.Cond.code (⟨"com/example/whipstill/whipstill/MovingWindow", "add", "(D)V"⟩ : MethodName) prog_11_method_2_code 3 none :: ws) ({ frames := 0, cells := 0, slots := 0, locals := 0 } : Room)) (fun a U => a = #[(.ref a1), (.double v1)] ∧ Z.Warmed39 U.vm ∧ U.heap = h0) (fun _ _ _ _ _ => True) (fun _ U o U' => ∃ v L, o = .returned v ∧ Q_rmAdd4_1 Z a1 v1 t1 k1 x0 x1 x2 x3 h0 n0 v U'.heap L ∧ FrameEnd U o U' L ({ frames := 0, cells := 0, slots := 0, locals := 0 } : Room).cells ({ frames := 0, cells := 0, slots := 0, locals := 0 } : Room).slots) := by
  refine MetFree.of_bodySF (plainFor_of_name pn_com_example_whipstill_whipstill_MovingWindow) hisR ?_
  intro p e s m args below meth c s₁ Bd hml0 hP hK
  obtain ⟨rfl, hZ, hh⟩ := hP
  have hx := Bd.exec
  have hby := Bd.bytes
  have hml : c.maxLocals = 3 := hml0
  have hown : s.vm.findClass "com/example/whipstill/whipstill/MovingWindow" = some m.cls := findClass_of_methodNamed Bd.named
  have hnm := (name_of_methodNamed Bd.named Bd.method).1
  have X0 : Stand p l e ({ frames := 0, cells := 0, slots := 0, locals := 0 } : Room) s m #[(.ref a1), (.double v1)] below meth c s₁ [] 0 0 := Stand.of_body Bd
  have e0 : s₁.heap = h0 := by rw [← hh, Bd.state]; rfl
  have N0 := Fr.nil n0
  have pre0 : ∀ t, Steps p.tables e below (s₁.setTop (mkF m 0 #[.val (.ref a1), .val (.double v1), .second] [])) t → Steps p.tables e below (s₁.setTop (entryFrame m #[(.ref a1), (.double v1)] 3)) t := fun t k => castTop (ef_rmAdd4_1 m a1 v1) k
  obtain ⟨T1_, X1_, e1_, st1_⟩ := getF X0 hx hZ hown (host := "") (Or.inl (hw _ (List.mem_of_getElem? (i := 14) rfl))) Via.refl e0 F1 (g := (mkF m 1 #[.val (.ref a1), .val (.double v1), .second] [(.ref a1)])) rfl rfl (hb hby d8_1)
  obtain ⟨T2_, X2_, e2_, st2_⟩ := getF X1_ hx hZ hown (host := "") (Or.inl (hw _ (List.mem_of_getElem? (i := 37) rfl))) Via.refl e1_ F2 (g := (mkF m 5 #[.val (.ref a1), .val (.double v1), .second] [(.ref a1), (.ref t1)])) rfl rfl (hb hby d8_5)
  obtain ⟨cl3_, Ar3_, q3_, S3_, M3_, Hs3_, G3_⟩ := id V1
  have in3_ : ¬ ((1 : Int32) < 0 ∨ cl3_.slots.size ≤ ((1 : Int32)).toNatClampNeg) := inb_of S3_ ⟨by decide, by decide⟩
  obtain ⟨T3_, h3_, X3_, e3_, W3_, st3_⟩ := stD X2_ hx hZ e2_ Ar3_ (j := (1 : Int32)) in3_ (g := (mkF m 9 #[.val (.ref a1), .val (.double v1), .second] [(.double v1), (.int (1 : Int32)), (.ref t1)])) rfl rfl (hb hby d8_9)
  have v3_ : Arv Z h3_ t1 k1 .double (4 : Int32) [(.double x0), (.double v1), (.double x2), (.double x3)] (.double (0 : UInt64)) := Arv.set Ar3_ q3_ S3_ M3_ Hs3_ G3_ rfl W3_ 1 rfl (Nat.le_of_ble_eq_true rfl)
  have N3_ := Fr.snoc X3_ N0 g2
  have f4_ : Fld Z h3_ a1 "com/example/whipstill/whipstill/MovingWindow" "oldest" "I" (.int (1 : Int32)) := (F2.other W3_ (Or.inl (Exa.neArv E1 V1 (hw _ (List.mem_of_getElem? (i := 5) rfl)))))
  obtain ⟨T5_, X5_, e5_, st5_⟩ := getF X3_ hx hZ hown (host := "") (Or.inl (hw _ (List.mem_of_getElem? (i := 37) rfl))) Via.refl e3_ f4_ (g := (mkF m 12 #[.val (.ref a1), .val (.double v1), .second] [(.ref a1), (.ref a1)])) rfl rfl (hb hby d8_12)
  have f6_ : Fld Z h3_ a1 "com/example/whipstill/whipstill/MovingWindow" "values" "[D" (.ref t1) := (F1.other W3_ (Or.inl (Exa.neArv E1 V1 (hw _ (List.mem_of_getElem? (i := 5) rfl)))))
  obtain ⟨T7_, X7_, e7_, st7_⟩ := getF X5_ hx hZ hown (host := "") (Or.inl (hw _ (List.mem_of_getElem? (i := 14) rfl))) Via.refl e5_ f6_ (g := (mkF m 18 #[.val (.ref a1), .val (.double v1), .second] [(.ref a1), (.int (2 : Int32)), (.ref a1)])) rfl rfl (hb hby d8_18)
  obtain ⟨cl8_, Ar8_, q8_, S8_, M8_, Hs8_, G8_⟩ := id v3_
  have f9_ : Exa Z h3_ a1 "com/example/whipstill/whipstill/MovingWindow" := (E1.wr W3_)
  obtain ⟨T10_, h10_, X10_, e10_, W10_, st10_⟩ := putF X7_ hx hZ hown (host := "") (Or.inl (hw _ (List.mem_of_getElem? (i := 37) rfl))) Via.refl e7_ f4_ f9_ (Or.inl (hw _ (List.mem_of_getElem? (i := 38) rfl))) (hw _ (List.mem_of_getElem? (i := 5) rfl)) (ty := .int) (by decide) rfl rfl (g := (mkF m 23 #[.val (.ref a1), .val (.double v1), .second] [(.int (2 : Int32)), (.ref a1)])) rfl rfl (hb hby d8_23)
  have w10_ : Fld Z h10_ a1 "com/example/whipstill/whipstill/MovingWindow" "oldest" "I" (.int (2 : Int32)) := f4_.same W10_
  have N10_ := Fr.snoc X10_ N3_ g1
  have f11_ : Exa Z h10_ a1 "com/example/whipstill/whipstill/MovingWindow" := (f9_.wr W10_)
  have f12_ : Fld Z h10_ a1 "com/example/whipstill/whipstill/MovingWindow" "values" "[D" (.ref t1) := (f6_.other W10_ (Or.inr (slot_ne (Or.inr (hw _ (List.mem_of_getElem? (i := 15) rfl))) (Or.inl (hw _ (List.mem_of_getElem? (i := 38) rfl))) (by decide) (t := (.array .double)) (t' := .int) (by decide) (by decide))))
  have f13_ : Arv Z h10_ t1 k1 .double (4 : Int32) [(.double x0), (.double v1), (.double x2), (.double x3)] (.double (0 : UInt64)) := (v3_.other W10_ (Ne.symm (Exa.neArv f9_ v3_ (hw _ (List.mem_of_getElem? (i := 5) rfl)))))
  have k14_ : Keep h0 h3_ [a1, t1] := (Keep.refl h0 [a1, t1]).wr W3_ (Or.inl (List.mem_of_getElem? (i := 1) rfl))
  have k15_ : Keep h0 h10_ [a1, t1] := k14_.wr W10_ (Or.inl (List.mem_of_getElem? (i := 0) rfl))
  obtain ⟨fs, hr, hrun, hended, hW, hsame⟩ := X10_.leave (v := none) (fun h => by first | rfl | (rw [Bd.returns] at h; cases h))
  refine ⟨_, _, pre0 _ ?_, hrun, hended, _, _, rfl, ?_, ⟨_, rfl⟩, hW, hsame.mono (by exact Nat.le_of_ble_eq_true rfl) (by exact Nat.le_of_ble_eq_true rfl)⟩
  · show Steps p.tables e below (s₁.setTop (mkF m 0 #[.val (.ref a1), .val (.double v1), .second] [])) _
    refine XS.aloadN X0.here hx rfl (hb hby d8_0) rfl rfl ?_
    refine st1_ _ ?_
    show Steps p.tables e below (T1_.setTop (mkF m 4 #[.val (.ref a1), .val (.double v1), .second] [(.ref t1)])) _
    refine XS.aloadN X1_.here hx rfl (hb hby d8_4) rfl rfl ?_
    refine st2_ _ ?_
    show Steps p.tables e below (T2_.setTop (mkF m 8 #[.val (.ref a1), .val (.double v1), .second] [(.int (1 : Int32)), (.ref t1)])) _
    refine XS.dloadN X2_.here hx rfl (hb hby d8_8) rfl ?_
    refine st3_ _ ?_
    show Steps p.tables e below (T3_.setTop (mkF m 10 #[.val (.ref a1), .val (.double v1), .second] [])) _
    refine XS.aloadN X3_.here hx rfl (hb hby d8_10) rfl rfl ?_
    refine XS.aloadN X3_.here hx rfl (hb hby d8_11) rfl rfl ?_
    refine st5_ _ ?_
    show Steps p.tables e below (T5_.setTop (mkF m 15 #[.val (.ref a1), .val (.double v1), .second] [(.int (1 : Int32)), (.ref a1)])) _
    refine XS.iconst X5_.here hx rfl (hb hby d8_15) ?_
    refine XS.iadd X5_.here hx rfl (hb hby d8_16) rfl ?_
    show Steps p.tables e below (T5_.setTop (mkF m 17 #[.val (.ref a1), .val (.double v1), .second] [(.int (2 : Int32)), (.ref a1)])) _
    refine XS.aloadN X5_.here hx rfl (hb hby d8_17) rfl rfl ?_
    refine st7_ _ ?_
    show Steps p.tables e below (T7_.setTop (mkF m 21 #[.val (.ref a1), .val (.double v1), .second] [(.ref t1), (.int (2 : Int32)), (.ref a1)])) _
    refine X7_.arraylength hx (by rw [e7_]; exact Ar8_.1) (State.isArrayOf_alike (State.Warmed39.alike hZ) Ar8_.2.1) (g := (mkF m 21 #[.val (.ref a1), .val (.double v1), .second] [(.ref t1), (.int (2 : Int32)), (.ref a1)])) rfl rfl (hb hby d8_21) _ ?_
    rw [len_of S8_ M8_]
    show Steps p.tables e below (T7_.setTop (mkF m 22 #[.val (.ref a1), .val (.double v1), .second] [(.int (4 : Int32)), (.int (2 : Int32)), (.ref a1)])) _
    refine XS.irem X7_.here hx rfl (hb hby d8_22) rfl (by decide) ?_
    show Steps p.tables e below (T7_.setTop (mkF m 23 #[.val (.ref a1), .val (.double v1), .second] [(.int (2 : Int32)), (.ref a1)])) _
    refine st10_ _ ?_
    show Steps p.tables e below (T10_.setTop (mkF m 26 #[.val (.ref a1), .val (.double v1), .second] [])) _
    exact X10_.returnOut hx Bd.returns (hb hby d8_26) hr
  · show Q_rmAdd4_1 Z a1 v1 t1 k1 x0 x1 x2 x3 h0 n0 _ T10_.heap _
    rw [e10_]
    exact ⟨rfl, N10_, k15_, f11_, f12_, w10_, f13_⟩
theorem ef_rmAdd4_2 (m : MethodId) (x0 : Addr) (x1 : UInt64) : entryFrame m #[(.ref x0), (.double x1)] 3 = mkF m 0 #[.val (.ref x0), .val (.double x1), .second] [] := by first | (simp [entryFrame, mkF, argsToLocals, Value.category]; done) | rfl
def Q_rmAdd4_2 (Z : State) (a1 : Addr) (v1 : UInt64) (t1 : Addr) (k1 : ClassId) (x0 : UInt64) (x1 : UInt64) (x2 : UInt64) (x3 : UInt64) (h0 : Heap) (n0 : Nat) (v : Option Value) (h : Heap) (L : List Loc) : Prop := v = none ∧ Fr n0 L ∧ Keep h0 h [a1, t1] ∧ (Exa Z h a1 "com/example/whipstill/whipstill/MovingWindow") ∧ (Fld Z h a1 "com/example/whipstill/whipstill/MovingWindow" "values" "[D" (.ref t1)) ∧ (Fld Z h a1 "com/example/whipstill/whipstill/MovingWindow" "oldest" "I" (.int (3 : Int32))) ∧ (Arv Z h t1 k1 .double (4 : Int32) [(.double x0), (.double x1), (.double v1), (.double x3)] (.double (0 : UInt64)))
set_option maxRecDepth 65536 in
set_option maxHeartbeats 40000000 in
theorem rmAdd4_2 (l : Launch) (Z : State) (a0 : Array Value) (hw : ∀ d ∈ tables_1, d.before a0 Z = true) (ws : List Jvm.Cond) (a1 : Addr) (v1 : UInt64) (t1 : Addr) (k1 : ClassId) (x0 : UInt64) (x1 : UInt64) (x2 : UInt64) (x3 : UInt64) (h0 : Heap) (n0 : Nat) (Z0 : n0 ≤ h0.size) (E1 : Exa Z h0 a1 "com/example/whipstill/whipstill/MovingWindow") (F1 : Fld Z h0 a1 "com/example/whipstill/whipstill/MovingWindow" "values" "[D" (.ref t1)) (F2 : Fld Z h0 a1 "com/example/whipstill/whipstill/MovingWindow" "oldest" "I" (.int (2 : Int32))) (V1 : Arv Z h0 t1 k1 .double (4 : Int32) [(.double x0), (.double x1), (.double x2), (.double x3)] (.double (0 : UInt64))) (g1 : n0 ≤ a1) (g2 : n0 ≤ t1) :
    MetFree l (⟨"com/example/whipstill/whipstill/MovingWindow", "add", "(D)V"⟩ : MethodName) (head1 (Jvm.Cond.code (⟨"com/example/whipstill/whipstill/MovingWindow", "add", "(D)V"⟩ : MethodName) prog_11_method_2_code 3 none :: ws) ({ frames := 0, cells := 0, slots := 0, locals := 0 } : Room)) (fun a U => a = #[(.ref a1), (.double v1)] ∧ Z.Warmed39 U.vm ∧ U.heap = h0) (fun _ _ _ _ _ => True) (fun _ U o U' => ∃ v L, o = .returned v ∧ Q_rmAdd4_2 Z a1 v1 t1 k1 x0 x1 x2 x3 h0 n0 v U'.heap L ∧ FrameEnd U o U' L ({ frames := 0, cells := 0, slots := 0, locals := 0 } : Room).cells ({ frames := 0, cells := 0, slots := 0, locals := 0 } : Room).slots) := by
  refine MetFree.of_bodySF (plainFor_of_name pn_com_example_whipstill_whipstill_MovingWindow) hisR ?_
  intro p e s m args below meth c s₁ Bd hml0 hP hK
  obtain ⟨rfl, hZ, hh⟩ := hP
  have hx := Bd.exec
  have hby := Bd.bytes
  have hml : c.maxLocals = 3 := hml0
  have hown : s.vm.findClass "com/example/whipstill/whipstill/MovingWindow" = some m.cls := findClass_of_methodNamed Bd.named
  have hnm := (name_of_methodNamed Bd.named Bd.method).1
  have X0 : Stand p l e ({ frames := 0, cells := 0, slots := 0, locals := 0 } : Room) s m #[(.ref a1), (.double v1)] below meth c s₁ [] 0 0 := Stand.of_body Bd
  have e0 : s₁.heap = h0 := by rw [← hh, Bd.state]; rfl
  have N0 := Fr.nil n0
  have pre0 : ∀ t, Steps p.tables e below (s₁.setTop (mkF m 0 #[.val (.ref a1), .val (.double v1), .second] [])) t → Steps p.tables e below (s₁.setTop (entryFrame m #[(.ref a1), (.double v1)] 3)) t := fun t k => castTop (ef_rmAdd4_2 m a1 v1) k
  obtain ⟨T1_, X1_, e1_, st1_⟩ := getF X0 hx hZ hown (host := "") (Or.inl (hw _ (List.mem_of_getElem? (i := 14) rfl))) Via.refl e0 F1 (g := (mkF m 1 #[.val (.ref a1), .val (.double v1), .second] [(.ref a1)])) rfl rfl (hb hby d8_1)
  obtain ⟨T2_, X2_, e2_, st2_⟩ := getF X1_ hx hZ hown (host := "") (Or.inl (hw _ (List.mem_of_getElem? (i := 37) rfl))) Via.refl e1_ F2 (g := (mkF m 5 #[.val (.ref a1), .val (.double v1), .second] [(.ref a1), (.ref t1)])) rfl rfl (hb hby d8_5)
  obtain ⟨cl3_, Ar3_, q3_, S3_, M3_, Hs3_, G3_⟩ := id V1
  have in3_ : ¬ ((2 : Int32) < 0 ∨ cl3_.slots.size ≤ ((2 : Int32)).toNatClampNeg) := inb_of S3_ ⟨by decide, by decide⟩
  obtain ⟨T3_, h3_, X3_, e3_, W3_, st3_⟩ := stD X2_ hx hZ e2_ Ar3_ (j := (2 : Int32)) in3_ (g := (mkF m 9 #[.val (.ref a1), .val (.double v1), .second] [(.double v1), (.int (2 : Int32)), (.ref t1)])) rfl rfl (hb hby d8_9)
  have v3_ : Arv Z h3_ t1 k1 .double (4 : Int32) [(.double x0), (.double x1), (.double v1), (.double x3)] (.double (0 : UInt64)) := Arv.set Ar3_ q3_ S3_ M3_ Hs3_ G3_ rfl W3_ 2 rfl (Nat.le_of_ble_eq_true rfl)
  have N3_ := Fr.snoc X3_ N0 g2
  have f4_ : Fld Z h3_ a1 "com/example/whipstill/whipstill/MovingWindow" "oldest" "I" (.int (2 : Int32)) := (F2.other W3_ (Or.inl (Exa.neArv E1 V1 (hw _ (List.mem_of_getElem? (i := 5) rfl)))))
  obtain ⟨T5_, X5_, e5_, st5_⟩ := getF X3_ hx hZ hown (host := "") (Or.inl (hw _ (List.mem_of_getElem? (i := 37) rfl))) Via.refl e3_ f4_ (g := (mkF m 12 #[.val (.ref a1), .val (.double v1), .second] [(.ref a1), (.ref a1)])) rfl rfl (hb hby d8_12)
  have f6_ : Fld Z h3_ a1 "com/example/whipstill/whipstill/MovingWindow" "values" "[D" (.ref t1) := (F1.other W3_ (Or.inl (Exa.neArv E1 V1 (hw _ (List.mem_of_getElem? (i := 5) rfl)))))
  obtain ⟨T7_, X7_, e7_, st7_⟩ := getF X5_ hx hZ hown (host := "") (Or.inl (hw _ (List.mem_of_getElem? (i := 14) rfl))) Via.refl e5_ f6_ (g := (mkF m 18 #[.val (.ref a1), .val (.double v1), .second] [(.ref a1), (.int (3 : Int32)), (.ref a1)])) rfl rfl (hb hby d8_18)
  obtain ⟨cl8_, Ar8_, q8_, S8_, M8_, Hs8_, G8_⟩ := id v3_
  have f9_ : Exa Z h3_ a1 "com/example/whipstill/whipstill/MovingWindow" := (E1.wr W3_)
  obtain ⟨T10_, h10_, X10_, e10_, W10_, st10_⟩ := putF X7_ hx hZ hown (host := "") (Or.inl (hw _ (List.mem_of_getElem? (i := 37) rfl))) Via.refl e7_ f4_ f9_ (Or.inl (hw _ (List.mem_of_getElem? (i := 38) rfl))) (hw _ (List.mem_of_getElem? (i := 5) rfl)) (ty := .int) (by decide) rfl rfl (g := (mkF m 23 #[.val (.ref a1), .val (.double v1), .second] [(.int (3 : Int32)), (.ref a1)])) rfl rfl (hb hby d8_23)
  have w10_ : Fld Z h10_ a1 "com/example/whipstill/whipstill/MovingWindow" "oldest" "I" (.int (3 : Int32)) := f4_.same W10_
  have N10_ := Fr.snoc X10_ N3_ g1
  have f11_ : Exa Z h10_ a1 "com/example/whipstill/whipstill/MovingWindow" := (f9_.wr W10_)
  have f12_ : Fld Z h10_ a1 "com/example/whipstill/whipstill/MovingWindow" "values" "[D" (.ref t1) := (f6_.other W10_ (Or.inr (slot_ne (Or.inr (hw _ (List.mem_of_getElem? (i := 15) rfl))) (Or.inl (hw _ (List.mem_of_getElem? (i := 38) rfl))) (by decide) (t := (.array .double)) (t' := .int) (by decide) (by decide))))
  have f13_ : Arv Z h10_ t1 k1 .double (4 : Int32) [(.double x0), (.double x1), (.double v1), (.double x3)] (.double (0 : UInt64)) := (v3_.other W10_ (Ne.symm (Exa.neArv f9_ v3_ (hw _ (List.mem_of_getElem? (i := 5) rfl)))))
  have k14_ : Keep h0 h3_ [a1, t1] := (Keep.refl h0 [a1, t1]).wr W3_ (Or.inl (List.mem_of_getElem? (i := 1) rfl))
  have k15_ : Keep h0 h10_ [a1, t1] := k14_.wr W10_ (Or.inl (List.mem_of_getElem? (i := 0) rfl))
  obtain ⟨fs, hr, hrun, hended, hW, hsame⟩ := X10_.leave (v := none) (fun h => by first | rfl | (rw [Bd.returns] at h; cases h))
  refine ⟨_, _, pre0 _ ?_, hrun, hended, _, _, rfl, ?_, ⟨_, rfl⟩, hW, hsame.mono (by exact Nat.le_of_ble_eq_true rfl) (by exact Nat.le_of_ble_eq_true rfl)⟩
  · show Steps p.tables e below (s₁.setTop (mkF m 0 #[.val (.ref a1), .val (.double v1), .second] [])) _
    refine XS.aloadN X0.here hx rfl (hb hby d8_0) rfl rfl ?_
    refine st1_ _ ?_
    show Steps p.tables e below (T1_.setTop (mkF m 4 #[.val (.ref a1), .val (.double v1), .second] [(.ref t1)])) _
    refine XS.aloadN X1_.here hx rfl (hb hby d8_4) rfl rfl ?_
    refine st2_ _ ?_
    show Steps p.tables e below (T2_.setTop (mkF m 8 #[.val (.ref a1), .val (.double v1), .second] [(.int (2 : Int32)), (.ref t1)])) _
    refine XS.dloadN X2_.here hx rfl (hb hby d8_8) rfl ?_
    refine st3_ _ ?_
    show Steps p.tables e below (T3_.setTop (mkF m 10 #[.val (.ref a1), .val (.double v1), .second] [])) _
    refine XS.aloadN X3_.here hx rfl (hb hby d8_10) rfl rfl ?_
    refine XS.aloadN X3_.here hx rfl (hb hby d8_11) rfl rfl ?_
    refine st5_ _ ?_
    show Steps p.tables e below (T5_.setTop (mkF m 15 #[.val (.ref a1), .val (.double v1), .second] [(.int (2 : Int32)), (.ref a1)])) _
    refine XS.iconst X5_.here hx rfl (hb hby d8_15) ?_
    refine XS.iadd X5_.here hx rfl (hb hby d8_16) rfl ?_
    show Steps p.tables e below (T5_.setTop (mkF m 17 #[.val (.ref a1), .val (.double v1), .second] [(.int (3 : Int32)), (.ref a1)])) _
    refine XS.aloadN X5_.here hx rfl (hb hby d8_17) rfl rfl ?_
    refine st7_ _ ?_
    show Steps p.tables e below (T7_.setTop (mkF m 21 #[.val (.ref a1), .val (.double v1), .second] [(.ref t1), (.int (3 : Int32)), (.ref a1)])) _
    refine X7_.arraylength hx (by rw [e7_]; exact Ar8_.1) (State.isArrayOf_alike (State.Warmed39.alike hZ) Ar8_.2.1) (g := (mkF m 21 #[.val (.ref a1), .val (.double v1), .second] [(.ref t1), (.int (3 : Int32)), (.ref a1)])) rfl rfl (hb hby d8_21) _ ?_
    rw [len_of S8_ M8_]
    show Steps p.tables e below (T7_.setTop (mkF m 22 #[.val (.ref a1), .val (.double v1), .second] [(.int (4 : Int32)), (.int (3 : Int32)), (.ref a1)])) _
    refine XS.irem X7_.here hx rfl (hb hby d8_22) rfl (by decide) ?_
    show Steps p.tables e below (T7_.setTop (mkF m 23 #[.val (.ref a1), .val (.double v1), .second] [(.int (3 : Int32)), (.ref a1)])) _
    refine st10_ _ ?_
    show Steps p.tables e below (T10_.setTop (mkF m 26 #[.val (.ref a1), .val (.double v1), .second] [])) _
    exact X10_.returnOut hx Bd.returns (hb hby d8_26) hr
  · show Q_rmAdd4_2 Z a1 v1 t1 k1 x0 x1 x2 x3 h0 n0 _ T10_.heap _
    rw [e10_]
    exact ⟨rfl, N10_, k15_, f11_, f12_, w10_, f13_⟩
theorem ef_rmAdd4_3 (m : MethodId) (x0 : Addr) (x1 : UInt64) : entryFrame m #[(.ref x0), (.double x1)] 3 = mkF m 0 #[.val (.ref x0), .val (.double x1), .second] [] := by first | (simp [entryFrame, mkF, argsToLocals, Value.category]; done) | rfl
def Q_rmAdd4_3 (Z : State) (a1 : Addr) (v1 : UInt64) (t1 : Addr) (k1 : ClassId) (x0 : UInt64) (x1 : UInt64) (x2 : UInt64) (x3 : UInt64) (h0 : Heap) (n0 : Nat) (v : Option Value) (h : Heap) (L : List Loc) : Prop := v = none ∧ Fr n0 L ∧ Keep h0 h [a1, t1] ∧ (Exa Z h a1 "com/example/whipstill/whipstill/MovingWindow") ∧ (Fld Z h a1 "com/example/whipstill/whipstill/MovingWindow" "values" "[D" (.ref t1)) ∧ (Fld Z h a1 "com/example/whipstill/whipstill/MovingWindow" "oldest" "I" (.int (0 : Int32))) ∧ (Arv Z h t1 k1 .double (4 : Int32) [(.double x0), (.double x1), (.double x2), (.double v1)] (.double (0 : UInt64)))
set_option maxRecDepth 65536 in
set_option maxHeartbeats 40000000 in
theorem rmAdd4_3 (l : Launch) (Z : State) (a0 : Array Value) (hw : ∀ d ∈ tables_1, d.before a0 Z = true) (ws : List Jvm.Cond) (a1 : Addr) (v1 : UInt64) (t1 : Addr) (k1 : ClassId) (x0 : UInt64) (x1 : UInt64) (x2 : UInt64) (x3 : UInt64) (h0 : Heap) (n0 : Nat) (Z0 : n0 ≤ h0.size) (E1 : Exa Z h0 a1 "com/example/whipstill/whipstill/MovingWindow") (F1 : Fld Z h0 a1 "com/example/whipstill/whipstill/MovingWindow" "values" "[D" (.ref t1)) (F2 : Fld Z h0 a1 "com/example/whipstill/whipstill/MovingWindow" "oldest" "I" (.int (3 : Int32))) (V1 : Arv Z h0 t1 k1 .double (4 : Int32) [(.double x0), (.double x1), (.double x2), (.double x3)] (.double (0 : UInt64))) (g1 : n0 ≤ a1) (g2 : n0 ≤ t1) :
    MetFree l (⟨"com/example/whipstill/whipstill/MovingWindow", "add", "(D)V"⟩ : MethodName) (head1 (Jvm.Cond.code (⟨"com/example/whipstill/whipstill/MovingWindow", "add", "(D)V"⟩ : MethodName) prog_11_method_2_code 3 none :: ws) ({ frames := 0, cells := 0, slots := 0, locals := 0 } : Room)) (fun a U => a = #[(.ref a1), (.double v1)] ∧ Z.Warmed39 U.vm ∧ U.heap = h0) (fun _ _ _ _ _ => True) (fun _ U o U' => ∃ v L, o = .returned v ∧ Q_rmAdd4_3 Z a1 v1 t1 k1 x0 x1 x2 x3 h0 n0 v U'.heap L ∧ FrameEnd U o U' L ({ frames := 0, cells := 0, slots := 0, locals := 0 } : Room).cells ({ frames := 0, cells := 0, slots := 0, locals := 0 } : Room).slots) := by
  refine MetFree.of_bodySF (plainFor_of_name pn_com_example_whipstill_whipstill_MovingWindow) hisR ?_
  intro p e s m args below meth c s₁ Bd hml0 hP hK
  obtain ⟨rfl, hZ, hh⟩ := hP
  have hx := Bd.exec
  have hby := Bd.bytes
  have hml : c.maxLocals = 3 := hml0
  have hown : s.vm.findClass "com/example/whipstill/whipstill/MovingWindow" = some m.cls := findClass_of_methodNamed Bd.named
  have hnm := (name_of_methodNamed Bd.named Bd.method).1
  have X0 : Stand p l e ({ frames := 0, cells := 0, slots := 0, locals := 0 } : Room) s m #[(.ref a1), (.double v1)] below meth c s₁ [] 0 0 := Stand.of_body Bd
  have e0 : s₁.heap = h0 := by rw [← hh, Bd.state]; rfl
  have N0 := Fr.nil n0
  have pre0 : ∀ t, Steps p.tables e below (s₁.setTop (mkF m 0 #[.val (.ref a1), .val (.double v1), .second] [])) t → Steps p.tables e below (s₁.setTop (entryFrame m #[(.ref a1), (.double v1)] 3)) t := fun t k => castTop (ef_rmAdd4_3 m a1 v1) k
  obtain ⟨T1_, X1_, e1_, st1_⟩ := getF X0 hx hZ hown (host := "") (Or.inl (hw _ (List.mem_of_getElem? (i := 14) rfl))) Via.refl e0 F1 (g := (mkF m 1 #[.val (.ref a1), .val (.double v1), .second] [(.ref a1)])) rfl rfl (hb hby d8_1)
  obtain ⟨T2_, X2_, e2_, st2_⟩ := getF X1_ hx hZ hown (host := "") (Or.inl (hw _ (List.mem_of_getElem? (i := 37) rfl))) Via.refl e1_ F2 (g := (mkF m 5 #[.val (.ref a1), .val (.double v1), .second] [(.ref a1), (.ref t1)])) rfl rfl (hb hby d8_5)
  obtain ⟨cl3_, Ar3_, q3_, S3_, M3_, Hs3_, G3_⟩ := id V1
  have in3_ : ¬ ((3 : Int32) < 0 ∨ cl3_.slots.size ≤ ((3 : Int32)).toNatClampNeg) := inb_of S3_ ⟨by decide, by decide⟩
  obtain ⟨T3_, h3_, X3_, e3_, W3_, st3_⟩ := stD X2_ hx hZ e2_ Ar3_ (j := (3 : Int32)) in3_ (g := (mkF m 9 #[.val (.ref a1), .val (.double v1), .second] [(.double v1), (.int (3 : Int32)), (.ref t1)])) rfl rfl (hb hby d8_9)
  have v3_ : Arv Z h3_ t1 k1 .double (4 : Int32) [(.double x0), (.double x1), (.double x2), (.double v1)] (.double (0 : UInt64)) := Arv.set Ar3_ q3_ S3_ M3_ Hs3_ G3_ rfl W3_ 3 rfl (Nat.le_of_ble_eq_true rfl)
  have N3_ := Fr.snoc X3_ N0 g2
  have f4_ : Fld Z h3_ a1 "com/example/whipstill/whipstill/MovingWindow" "oldest" "I" (.int (3 : Int32)) := (F2.other W3_ (Or.inl (Exa.neArv E1 V1 (hw _ (List.mem_of_getElem? (i := 5) rfl)))))
  obtain ⟨T5_, X5_, e5_, st5_⟩ := getF X3_ hx hZ hown (host := "") (Or.inl (hw _ (List.mem_of_getElem? (i := 37) rfl))) Via.refl e3_ f4_ (g := (mkF m 12 #[.val (.ref a1), .val (.double v1), .second] [(.ref a1), (.ref a1)])) rfl rfl (hb hby d8_12)
  have f6_ : Fld Z h3_ a1 "com/example/whipstill/whipstill/MovingWindow" "values" "[D" (.ref t1) := (F1.other W3_ (Or.inl (Exa.neArv E1 V1 (hw _ (List.mem_of_getElem? (i := 5) rfl)))))
  obtain ⟨T7_, X7_, e7_, st7_⟩ := getF X5_ hx hZ hown (host := "") (Or.inl (hw _ (List.mem_of_getElem? (i := 14) rfl))) Via.refl e5_ f6_ (g := (mkF m 18 #[.val (.ref a1), .val (.double v1), .second] [(.ref a1), (.int (4 : Int32)), (.ref a1)])) rfl rfl (hb hby d8_18)
  obtain ⟨cl8_, Ar8_, q8_, S8_, M8_, Hs8_, G8_⟩ := id v3_
  have f9_ : Exa Z h3_ a1 "com/example/whipstill/whipstill/MovingWindow" := (E1.wr W3_)
  obtain ⟨T10_, h10_, X10_, e10_, W10_, st10_⟩ := putF X7_ hx hZ hown (host := "") (Or.inl (hw _ (List.mem_of_getElem? (i := 37) rfl))) Via.refl e7_ f4_ f9_ (Or.inl (hw _ (List.mem_of_getElem? (i := 38) rfl))) (hw _ (List.mem_of_getElem? (i := 5) rfl)) (ty := .int) (by decide) rfl rfl (g := (mkF m 23 #[.val (.ref a1), .val (.double v1), .second] [(.int (0 : Int32)), (.ref a1)])) rfl rfl (hb hby d8_23)
  have w10_ : Fld Z h10_ a1 "com/example/whipstill/whipstill/MovingWindow" "oldest" "I" (.int (0 : Int32)) := f4_.same W10_
  have N10_ := Fr.snoc X10_ N3_ g1
  have f11_ : Exa Z h10_ a1 "com/example/whipstill/whipstill/MovingWindow" := (f9_.wr W10_)
  have f12_ : Fld Z h10_ a1 "com/example/whipstill/whipstill/MovingWindow" "values" "[D" (.ref t1) := (f6_.other W10_ (Or.inr (slot_ne (Or.inr (hw _ (List.mem_of_getElem? (i := 15) rfl))) (Or.inl (hw _ (List.mem_of_getElem? (i := 38) rfl))) (by decide) (t := (.array .double)) (t' := .int) (by decide) (by decide))))
  have f13_ : Arv Z h10_ t1 k1 .double (4 : Int32) [(.double x0), (.double x1), (.double x2), (.double v1)] (.double (0 : UInt64)) := (v3_.other W10_ (Ne.symm (Exa.neArv f9_ v3_ (hw _ (List.mem_of_getElem? (i := 5) rfl)))))
  have k14_ : Keep h0 h3_ [a1, t1] := (Keep.refl h0 [a1, t1]).wr W3_ (Or.inl (List.mem_of_getElem? (i := 1) rfl))
  have k15_ : Keep h0 h10_ [a1, t1] := k14_.wr W10_ (Or.inl (List.mem_of_getElem? (i := 0) rfl))
  obtain ⟨fs, hr, hrun, hended, hW, hsame⟩ := X10_.leave (v := none) (fun h => by first | rfl | (rw [Bd.returns] at h; cases h))
  refine ⟨_, _, pre0 _ ?_, hrun, hended, _, _, rfl, ?_, ⟨_, rfl⟩, hW, hsame.mono (by exact Nat.le_of_ble_eq_true rfl) (by exact Nat.le_of_ble_eq_true rfl)⟩
  · show Steps p.tables e below (s₁.setTop (mkF m 0 #[.val (.ref a1), .val (.double v1), .second] [])) _
    refine XS.aloadN X0.here hx rfl (hb hby d8_0) rfl rfl ?_
    refine st1_ _ ?_
    show Steps p.tables e below (T1_.setTop (mkF m 4 #[.val (.ref a1), .val (.double v1), .second] [(.ref t1)])) _
    refine XS.aloadN X1_.here hx rfl (hb hby d8_4) rfl rfl ?_
    refine st2_ _ ?_
    show Steps p.tables e below (T2_.setTop (mkF m 8 #[.val (.ref a1), .val (.double v1), .second] [(.int (3 : Int32)), (.ref t1)])) _
    refine XS.dloadN X2_.here hx rfl (hb hby d8_8) rfl ?_
    refine st3_ _ ?_
    show Steps p.tables e below (T3_.setTop (mkF m 10 #[.val (.ref a1), .val (.double v1), .second] [])) _
    refine XS.aloadN X3_.here hx rfl (hb hby d8_10) rfl rfl ?_
    refine XS.aloadN X3_.here hx rfl (hb hby d8_11) rfl rfl ?_
    refine st5_ _ ?_
    show Steps p.tables e below (T5_.setTop (mkF m 15 #[.val (.ref a1), .val (.double v1), .second] [(.int (3 : Int32)), (.ref a1)])) _
    refine XS.iconst X5_.here hx rfl (hb hby d8_15) ?_
    refine XS.iadd X5_.here hx rfl (hb hby d8_16) rfl ?_
    show Steps p.tables e below (T5_.setTop (mkF m 17 #[.val (.ref a1), .val (.double v1), .second] [(.int (4 : Int32)), (.ref a1)])) _
    refine XS.aloadN X5_.here hx rfl (hb hby d8_17) rfl rfl ?_
    refine st7_ _ ?_
    show Steps p.tables e below (T7_.setTop (mkF m 21 #[.val (.ref a1), .val (.double v1), .second] [(.ref t1), (.int (4 : Int32)), (.ref a1)])) _
    refine X7_.arraylength hx (by rw [e7_]; exact Ar8_.1) (State.isArrayOf_alike (State.Warmed39.alike hZ) Ar8_.2.1) (g := (mkF m 21 #[.val (.ref a1), .val (.double v1), .second] [(.ref t1), (.int (4 : Int32)), (.ref a1)])) rfl rfl (hb hby d8_21) _ ?_
    rw [len_of S8_ M8_]
    show Steps p.tables e below (T7_.setTop (mkF m 22 #[.val (.ref a1), .val (.double v1), .second] [(.int (4 : Int32)), (.int (4 : Int32)), (.ref a1)])) _
    refine XS.irem X7_.here hx rfl (hb hby d8_22) rfl (by decide) ?_
    show Steps p.tables e below (T7_.setTop (mkF m 23 #[.val (.ref a1), .val (.double v1), .second] [(.int (0 : Int32)), (.ref a1)])) _
    refine st10_ _ ?_
    show Steps p.tables e below (T10_.setTop (mkF m 26 #[.val (.ref a1), .val (.double v1), .second] [])) _
    exact X10_.returnOut hx Bd.returns (hb hby d8_26) hr
  · show Q_rmAdd4_3 Z a1 v1 t1 k1 x0 x1 x2 x3 h0 n0 _ T10_.heap _
    rw [e10_]
    exact ⟨rfl, N10_, k15_, f11_, f12_, w10_, f13_⟩
theorem d4_0 : decode jdk_65_method_113_code 0 = .ok (.iconst 0, 1) := by decide +kernel
theorem d4_1 : decode jdk_65_method_113_code 1 = .ok (.istore_n 3, 1) := by decide +kernel
theorem d4_2 : decode jdk_65_method_113_code 2 = .ok (.aload_n 0, 1) := by decide +kernel
theorem d4_3 : decode jdk_65_method_113_code 3 = .ok (.arraylength, 1) := by decide +kernel
theorem d4_4 : decode jdk_65_method_113_code 4 = .ok (.istore 4, 2) := by decide +kernel
theorem d4_6 : decode jdk_65_method_113_code 6 = .ok (.iload_n 3, 1) := by decide +kernel
theorem d4_7 : decode jdk_65_method_113_code 7 = .ok (.iload 4, 2) := by decide +kernel
theorem d4_9 : decode jdk_65_method_113_code 9 = .ok (.if_icmp .ge 13, 3) := by decide +kernel
theorem d4_12 : decode jdk_65_method_113_code 12 = .ok (.aload_n 0, 1) := by decide +kernel
theorem d4_13 : decode jdk_65_method_113_code 13 = .ok (.iload_n 3, 1) := by decide +kernel
theorem d4_14 : decode jdk_65_method_113_code 14 = .ok (.dload_n 1, 1) := by decide +kernel
theorem d4_15 : decode jdk_65_method_113_code 15 = .ok (.dastore, 1) := by decide +kernel
theorem d4_16 : decode jdk_65_method_113_code 16 = .ok (.iinc 3 1, 3) := by decide +kernel
theorem d4_19 : decode jdk_65_method_113_code 19 = .ok (.goto (-13), 3) := by decide +kernel
theorem d4_22 : decode jdk_65_method_113_code 22 = .ok (.return_, 1) := by decide +kernel
theorem pn_java_util_Arrays : plainName "java/util/Arrays" = true := by first | (simp [plainName, overriddenIn]; done) | decide +kernel
theorem ef_rmFill1 (m : MethodId) (x0 : Addr) (x1 : UInt64) : entryFrame m #[(.ref x0), (.double x1)] 5 = mkF m 0 #[.val (.ref x0), .val (.double x1), .second, .unset, .unset] [] := by first | (simp [entryFrame, mkF, argsToLocals, Value.category]; done) | rfl
def Q_rmFill1 (Z : State) (a1 : Addr) (v1 : UInt64) (k1 : ClassId) (x0 : UInt64) (h0 : Heap) (n0 : Nat) (v : Option Value) (h : Heap) (L : List Loc) : Prop := v = none ∧ Fr n0 L ∧ Keep h0 h [a1] ∧ (Arv Z h a1 k1 .double (1 : Int32) [(.double v1)] (.double (0 : UInt64)))
set_option maxRecDepth 65536 in
set_option maxHeartbeats 40000000 in
theorem rmFill1 (l : Launch) (Z : State) (a0 : Array Value) (hw : ∀ d ∈ tables_1, d.before a0 Z = true) (ws : List Jvm.Cond) (a1 : Addr) (v1 : UInt64) (k1 : ClassId) (x0 : UInt64) (h0 : Heap) (n0 : Nat) (Z0 : n0 ≤ h0.size) (V1 : Arv Z h0 a1 k1 .double (1 : Int32) [(.double x0)] (.double (0 : UInt64))) (g1 : n0 ≤ a1) :
    MetFree l (⟨"java/util/Arrays", "fill", "([DD)V"⟩ : MethodName) (head1 (Jvm.Cond.code (⟨"java/util/Arrays", "fill", "([DD)V"⟩ : MethodName) jdk_65_method_113_code 5 none :: ws) ({ frames := 0, cells := 0, slots := 0, locals := 0 } : Room)) (fun a U => a = #[(.ref a1), (.double v1)] ∧ Z.Warmed39 U.vm ∧ U.heap = h0) (fun _ _ _ _ _ => True) (fun _ U o U' => ∃ v L, o = .returned v ∧ Q_rmFill1 Z a1 v1 k1 x0 h0 n0 v U'.heap L ∧ FrameEnd U o U' L ({ frames := 0, cells := 0, slots := 0, locals := 0 } : Room).cells ({ frames := 0, cells := 0, slots := 0, locals := 0 } : Room).slots) := by
  refine MetFree.of_bodySF (plainFor_of_name pn_java_util_Arrays) hisR ?_
  intro p e s m args below meth c s₁ Bd hml0 hP hK
  obtain ⟨rfl, hZ, hh⟩ := hP
  have hx := Bd.exec
  have hby := Bd.bytes
  have hml : c.maxLocals = 5 := hml0
  have hown : s.vm.findClass "java/util/Arrays" = some m.cls := findClass_of_methodNamed Bd.named
  have hnm := (name_of_methodNamed Bd.named Bd.method).1
  have X0 : Stand p l e ({ frames := 0, cells := 0, slots := 0, locals := 0 } : Room) s m #[(.ref a1), (.double v1)] below meth c s₁ [] 0 0 := Stand.of_body Bd
  have e0 : s₁.heap = h0 := by rw [← hh, Bd.state]; rfl
  have N0 := Fr.nil n0
  have pre0 : ∀ t, Steps p.tables e below (s₁.setTop (mkF m 0 #[.val (.ref a1), .val (.double v1), .second, .unset, .unset] [])) t → Steps p.tables e below (s₁.setTop (entryFrame m #[(.ref a1), (.double v1)] 5)) t := fun t k => castTop (ef_rmFill1 m a1 v1) k
  obtain ⟨cl1_, Ar1_, q1_, S1_, M1_, Hs1_, G1_⟩ := id V1
  obtain ⟨cl2_, Ar2_, q2_, S2_, M2_, Hs2_, G2_⟩ := id V1
  have in2_ : ¬ ((0 : Int32) < 0 ∨ cl2_.slots.size ≤ ((0 : Int32)).toNatClampNeg) := inb_of S2_ ⟨by decide, by decide⟩
  obtain ⟨T2_, h2_, X2_, e2_, W2_, st2_⟩ := stD X0 hx hZ e0 Ar2_ (j := (0 : Int32)) in2_ (g := (mkF m 15 #[.val (.ref a1), .val (.double v1), .second, .val (.int (0 : Int32)), .val (.int (1 : Int32))] [(.double v1), (.int (0 : Int32)), (.ref a1)])) rfl rfl (hb hby d4_15)
  have v2_ : Arv Z h2_ a1 k1 .double (1 : Int32) [(.double v1)] (.double (0 : UInt64)) := Arv.set Ar2_ q2_ S2_ M2_ Hs2_ G2_ rfl W2_ 0 rfl (Nat.le_of_ble_eq_true rfl)
  have N2_ := Fr.snoc X2_ N0 g1
  have k3_ : Keep h0 h2_ [a1] := (Keep.refl h0 [a1]).wr W2_ (Or.inl (List.mem_of_getElem? (i := 0) rfl))
  obtain ⟨fs, hr, hrun, hended, hW, hsame⟩ := X2_.leave (v := none) (fun h => by first | rfl | (rw [Bd.returns] at h; cases h))
  refine ⟨_, _, pre0 _ ?_, hrun, hended, _, _, rfl, ?_, ⟨_, rfl⟩, hW, hsame.mono (by exact Nat.le_of_ble_eq_true rfl) (by exact Nat.le_of_ble_eq_true rfl)⟩
  · show Steps p.tables e below (s₁.setTop (mkF m 0 #[.val (.ref a1), .val (.double v1), .second, .unset, .unset] [])) _
    refine XS.iconst X0.here hx rfl (hb hby d4_0) ?_
    refine XS.istoreN X0.here hx rfl (hb hby d4_1) rfl (l' := #[.val (.ref a1), .val (.double v1), .second, .val (.int (0 : Int32)), .unset]) rfl ?_
    show Steps p.tables e below (s₁.setTop (mkF m 2 #[.val (.ref a1), .val (.double v1), .second, .val (.int (0 : Int32)), .unset] [])) _
    refine XS.aloadN X0.here hx rfl (hb hby d4_2) rfl rfl ?_
    refine X0.arraylength hx (by rw [e0]; exact Ar1_.1) (State.isArrayOf_alike (State.Warmed39.alike hZ) Ar1_.2.1) (g := (mkF m 3 #[.val (.ref a1), .val (.double v1), .second, .val (.int (0 : Int32)), .unset] [(.ref a1)])) rfl rfl (hb hby d4_3) _ ?_
    rw [len_of S1_ M1_]
    show Steps p.tables e below (s₁.setTop (mkF m 4 #[.val (.ref a1), .val (.double v1), .second, .val (.int (0 : Int32)), .unset] [(.int (1 : Int32))])) _
    refine XS.istore X0.here hx rfl (hb hby d4_4) rfl (l' := #[.val (.ref a1), .val (.double v1), .second, .val (.int (0 : Int32)), .val (.int (1 : Int32))]) rfl ?_
    show Steps p.tables e below (s₁.setTop (mkF m 6 #[.val (.ref a1), .val (.double v1), .second, .val (.int (0 : Int32)), .val (.int (1 : Int32))] [])) _
    refine XS.iloadN X0.here hx rfl (hb hby d4_6) rfl ?_
    refine XS.iload X0.here hx rfl (hb hby d4_7) rfl ?_
    refine XS.icmpNo X0.here hx rfl (hb hby d4_9) rfl (tlt ((by decide) : (0 : Int32) < (1 : Int32))).2.1 ?_
    show Steps p.tables e below (s₁.setTop (mkF m 12 #[.val (.ref a1), .val (.double v1), .second, .val (.int (0 : Int32)), .val (.int (1 : Int32))] [])) _
    refine XS.aloadN X0.here hx rfl (hb hby d4_12) rfl rfl ?_
    refine XS.iloadN X0.here hx rfl (hb hby d4_13) rfl ?_
    refine XS.dloadN X0.here hx rfl (hb hby d4_14) rfl ?_
    refine st2_ _ ?_
    show Steps p.tables e below (T2_.setTop (mkF m 16 #[.val (.ref a1), .val (.double v1), .second, .val (.int (0 : Int32)), .val (.int (1 : Int32))] [])) _
    refine XS.iinc X2_.here hx rfl (hb hby d4_16) rfl (l' := #[.val (.ref a1), .val (.double v1), .second, .val (.int (1 : Int32)), .val (.int (1 : Int32))]) rfl ?_
    show Steps p.tables e below (T2_.setTop (mkF m 19 #[.val (.ref a1), .val (.double v1), .second, .val (.int (1 : Int32)), .val (.int (1 : Int32))] [])) _
    refine XS.goto X2_.here hx rfl (pc0 := 19) (pc' := 6) rfl (hb hby d4_19) (by decide) (by decide) ?_
    show Steps p.tables e below (T2_.setTop (mkF m 6 #[.val (.ref a1), .val (.double v1), .second, .val (.int (1 : Int32)), .val (.int (1 : Int32))] [])) _
    refine XS.iloadN X2_.here hx rfl (hb hby d4_6) rfl ?_
    refine XS.iload X2_.here hx rfl (hb hby d4_7) rfl ?_
    refine XS.icmpYes X2_.here hx rfl (pc0 := 9) (pc' := 22) rfl (hb hby d4_9) rfl (flt ((by decide) : ¬ ((1 : Int32) < (1 : Int32)))).2.1 (by decide) (by decide) ?_
    show Steps p.tables e below (T2_.setTop (mkF m 22 #[.val (.ref a1), .val (.double v1), .second, .val (.int (1 : Int32)), .val (.int (1 : Int32))] [])) _
    exact X2_.returnOut hx Bd.returns (hb hby d4_22) hr
  · show Q_rmFill1 Z a1 v1 k1 x0 h0 n0 _ T2_.heap _
    rw [e2_]
    exact ⟨rfl, N2_, k3_, v2_⟩
theorem d2_0 : decode prog_11_method_1_code 0 = .ok (.aload_n 0, 1) := by decide +kernel
theorem d2_1 : decode prog_11_method_1_code 1 = .ok (.invokespecial 1, 3) := by decide +kernel
theorem d2_4 : decode prog_11_method_1_code 4 = .ok (.iload_n 1, 1) := by decide +kernel
theorem d2_5 : decode prog_11_method_1_code 5 = .ok (.iconst 1, 1) := by decide +kernel
theorem d2_6 : decode prog_11_method_1_code 6 = .ok (.if_icmp .ge 17, 3) := by decide +kernel
theorem d2_23 : decode prog_11_method_1_code 23 = .ok (.aload_n 0, 1) := by decide +kernel
theorem d2_24 : decode prog_11_method_1_code 24 = .ok (.iload_n 1, 1) := by decide +kernel
theorem d2_25 : decode prog_11_method_1_code 25 = .ok (.newarray .double, 2) := by decide +kernel
theorem d2_27 : decode prog_11_method_1_code 27 = .ok (.putfield 16, 3) := by decide +kernel
theorem d2_30 : decode prog_11_method_1_code 30 = .ok (.aload_n 0, 1) := by decide +kernel
theorem d2_31 : decode prog_11_method_1_code 31 = .ok (.getfield 16, 3) := by decide +kernel
theorem d2_34 : decode prog_11_method_1_code 34 = .ok (.dload_n 2, 1) := by decide +kernel
theorem d2_35 : decode prog_11_method_1_code 35 = .ok (.invokestatic 22, 3) := by decide +kernel
theorem pd_qaDDzV : parseMethodDescriptor "([DD)V" = some ⟨[(.array .double), .double], none⟩ := by decide +kernel
theorem d2_38 : decode prog_11_method_1_code 38 = .ok (.return_, 1) := by decide +kernel
theorem ef_rmInit1 (m : MethodId) (x0 : Addr) (x1 : Int32) (x2 : UInt64) : entryFrame m #[(.ref x0), (.int x1), (.double x2)] 4 = mkF m 0 #[.val (.ref x0), .val (.int x1), .val (.double x2), .second] [] := by first | (simp [entryFrame, mkF, argsToLocals, Value.category]; done) | rfl
def Q_rmInit1 (Z : State) (a1 : Addr) (v1 : UInt64) (h0 : Heap) (n0 : Nat) (v : Option Value) (h : Heap) (L : List Loc) : Prop := ∃ (t : Addr) (k : ClassId), v = none ∧ Fr n0 L ∧ Keep h0 h [a1] ∧ (h0.size ≤ t) ∧ (Exa Z h a1 "com/example/whipstill/whipstill/MovingWindow") ∧ (Fld Z h a1 "com/example/whipstill/whipstill/MovingWindow" "values" "[D" (.ref t)) ∧ (Fld Z h a1 "com/example/whipstill/whipstill/MovingWindow" "oldest" "I" (.int (0 : Int32))) ∧ (Arv Z h t k .double (1 : Int32) [(.double v1)] (.double (0 : UInt64)))
set_option maxRecDepth 65536 in
set_option maxHeartbeats 40000000 in
theorem rmInit1 (l : Launch) (Z : State) (a0 : Array Value) (hw : ∀ d ∈ tables_1, d.before a0 Z = true) (ws : List Jvm.Cond) (a1 : Addr) (v1 : UInt64) (h0 : Heap) (n0 : Nat) (Z0 : n0 ≤ h0.size) (E1 : Exa Z h0 a1 "com/example/whipstill/whipstill/MovingWindow") (F1 : Fld Z h0 a1 "com/example/whipstill/whipstill/MovingWindow" "values" "[D" .null) (F2 : Fld Z h0 a1 "com/example/whipstill/whipstill/MovingWindow" "oldest" "I" (.int (0 : Int32))) (g1 : n0 ≤ a1) :
    MetFree l (⟨"com/example/whipstill/whipstill/MovingWindow", "<init>", "(ID)V"⟩ : MethodName) (head1 (Jvm.Cond.code (⟨"com/example/whipstill/whipstill/MovingWindow", "<init>", "(ID)V"⟩ : MethodName) prog_11_method_1_code 4 none :: ws) ({ frames := 1, cells := 1, slots := 1, locals := 16 } : Room)) (fun a U => a = #[(.ref a1), (.int (1 : Int32)), (.double v1)] ∧ Z.Warmed39 U.vm ∧ U.heap = h0) (fun _ _ _ _ _ => True) (fun _ U o U' => ∃ v L, o = .returned v ∧ Q_rmInit1 Z a1 v1 h0 n0 v U'.heap L ∧ FrameEnd U o U' L ({ frames := 1, cells := 1, slots := 1, locals := 16 } : Room).cells ({ frames := 1, cells := 1, slots := 1, locals := 16 } : Room).slots) := by
  refine MetFree.of_bodySF (plainFor_of_name pn_com_example_whipstill_whipstill_MovingWindow) hisR ?_
  intro p e s m args below meth c s₁ Bd hml0 hP hK
  obtain ⟨rfl, hZ, hh⟩ := hP
  have hx := Bd.exec
  have hby := Bd.bytes
  have hml : c.maxLocals = 4 := hml0
  have hown : s.vm.findClass "com/example/whipstill/whipstill/MovingWindow" = some m.cls := findClass_of_methodNamed Bd.named
  have hnm := (name_of_methodNamed Bd.named Bd.method).1
  have X0 : Stand p l e ({ frames := 1, cells := 1, slots := 1, locals := 16 } : Room) s m #[(.ref a1), (.int (1 : Int32)), (.double v1)] below meth c s₁ [] 0 0 := Stand.of_body Bd
  have e0 : s₁.heap = h0 := by rw [← hh, Bd.state]; rfl
  have N0 := Fr.nil n0
  have pre0 : ∀ t, Steps p.tables e below (s₁.setTop (mkF m 0 #[.val (.ref a1), .val (.int (1 : Int32)), .val (.double v1), .second] [])) t → Steps p.tables e below (s₁.setTop (entryFrame m #[(.ref a1), (.int (1 : Int32)), (.double v1)] 4)) t := fun t k => castTop (ef_rmInit1 m a1 (1 : Int32) v1) k
  obtain ⟨T1_, X1_, e1_, st1_⟩ := initO X0 hx hZ hown (hw _ (List.mem_of_getElem? (i := 10) rfl)) (hw _ (List.mem_of_getElem? (i := 11) rfl)) (hw _ (List.mem_of_getElem? (i := 12) rfl)) e0 (g := (mkF m 1 #[.val (.ref a1), .val (.int (1 : Int32)), .val (.double v1), .second] [(.ref a1)])) rfl (by rw [hml]; rfl) rfl (hb hby d2_1) (by decide) (W := 0) (by show 2 * 0 + _ ≤ _; exact Nat.le_of_eq rfl) (by decide)
  obtain ⟨T2_, h2_, k2_, X2_, e2_, E2_, A2_, st2_⟩ := newP X1_ hx hZ (hw _ (List.mem_of_getElem? (i := 13) rfl)) e1_ (g := (mkF m 25 #[.val (.ref a1), .val (.int (1 : Int32)), .val (.double v1), .second] [(.int (1 : Int32)), (.ref a1)])) rfl (hb hby d2_25) rfl (by decide) (cap := 1) (by decide) (by decide) (by exact Nat.le_of_ble_eq_true rfl) (by exact Nat.le_of_ble_eq_true rfl)
  obtain ⟨b2_, g2_⟩ : ∃ z, z = h0.size := ⟨_, rfl⟩
  rw [← g2_] at A2_ st2_
  have v2_ : Arv Z h2_ b2_ k2_ .double (1 : Int32) [(.double (0 : UInt64))] (.double (0 : UInt64)) := (Arv.new A2_ (by decide)).pad (pad_rep [] (.double (0 : UInt64)) 1)
  have f3_ : Exa Z h2_ a1 "com/example/whipstill/whipstill/MovingWindow" := (E1.ext E2_)
  have f4_ : Fld Z h2_ a1 "com/example/whipstill/whipstill/MovingWindow" "values" "[D" .null := (F1.ext E2_)
  obtain ⟨T5_, h5_, X5_, e5_, W5_, st5_⟩ := putF X2_ hx hZ hown (host := "") (Or.inl (hw _ (List.mem_of_getElem? (i := 14) rfl))) Via.refl e2_ f4_ f3_ (Or.inr ⟨(hw _ (List.mem_of_getElem? (i := 15) rfl)), rfl, hnm⟩) (hw _ (List.mem_of_getElem? (i := 5) rfl)) (ty := (.array .double)) (by decide) rfl rfl (g := (mkF m 27 #[.val (.ref a1), .val (.int (1 : Int32)), .val (.double v1), .second] [(.ref b2_), (.ref a1)])) rfl rfl (hb hby d2_27)
  have w5_ : Fld Z h5_ a1 "com/example/whipstill/whipstill/MovingWindow" "values" "[D" (.ref b2_) := f4_.same W5_
  have N5_ := Fr.snoc X5_ N0 g1
  obtain ⟨T6_, X6_, e6_, st6_⟩ := getF X5_ hx hZ hown (host := "") (Or.inl (hw _ (List.mem_of_getElem? (i := 14) rfl))) Via.refl e5_ w5_ (g := (mkF m 31 #[.val (.ref a1), .val (.int (1 : Int32)), .val (.double v1), .second] [(.ref a1)])) rfl rfl (hb hby d2_31)
  have f8_ : Arv Z h5_ b2_ k2_ .double (1 : Int32) [(.double (0 : UInt64))] (.double (0 : UInt64)) := (v2_.other W5_ (Ne.symm (Nat.ne_of_lt (Nat.lt_of_lt_of_le E1.lt (Nat.le_of_eq g2_.symm)))))
  have g9_ : n0 ≤ b2_ := Nat.le_trans Z0 (Nat.le_of_eq g2_.symm)
  have z10_ : n0 ≤ h2_.size := Nat.le_trans Z0 E2_.1
  have z11_ : n0 ≤ h5_.size := Nat.le_trans z10_ (Keep.of_wr W5_).1
  obtain ⟨_, _, ⟨T7_, L7_, k7_, n7_⟩, -, X7_, ⟨Lc7_, hQ7_, l7_, y7_, z7_⟩, st7_⟩ := Jvm.LawKit.callS X6_ hx (y := (⟨"java/util/Arrays", "fill", "([DD)V"⟩ : MethodName)) hown (mvT hZ (hw _ (List.mem_of_getElem? (i := 16) rfl))) (mvT hZ (hw _ (List.mem_of_getElem? (i := 17) rfl))) (mvT hZ (hw _ (List.mem_of_getElem? (i := 18) rfl))) (mvT hZ (hw _ (List.mem_of_getElem? (i := 19) rfl))) (by decide) (backOf (W := 0) (rmFill1 l Z a0 hw [] b2_ v1 k2_ (0 : UInt64) h5_ n0 z11_ f8_ g9_) hZ (hw _ (List.mem_of_getElem? (i := 19) rfl)) (hw _ (List.mem_of_getElem? (i := 18) rfl)) (by decide) (by decide)) (g := (mkF m 35 #[.val (.ref a1), .val (.int (1 : Int32)), .val (.double v1), .second] [(.double v1), (.ref b2_)])) rfl (by rw [hml]; rfl) (argsL := [(.ref b2_), (.double v1)]) (rest := []) (lenOf pd_qaDDzV rfl) rfl (by show 2 * 0 + _ ≤ _; exact Nat.le_of_eq rfl) (hb hby d2_35) (fun _ _ => ⟨rfl, e6_, (by exact Nat.le_of_ble_eq_true rfl), (by exact Nat.le_of_ble_eq_true rfl)⟩)
  dsimp only [Pt.U, Pt.locs, Pt.cells, Pt.slots] at X7_ l7_ y7_ z7_ st7_ hQ7_
  subst L7_ k7_ n7_
  obtain ⟨rfl, Nq7_, ek7_, p7__0⟩ := hQ7_
  have N7_ := Fr.app N5_ Nq7_
  have f12_ : Exa Z T7_.heap a1 "com/example/whipstill/whipstill/MovingWindow" := ((f3_.wr W5_).keep ek7_)
  have f13_ : Fld Z T7_.heap a1 "com/example/whipstill/whipstill/MovingWindow" "values" "[D" (.ref b2_) := (w5_.keep ek7_ (ninS (Nat.ne_of_lt (Nat.lt_of_lt_of_le E1.lt (Nat.le_of_eq g2_.symm))) nin0))
  have f14_ : Fld Z T7_.heap a1 "com/example/whipstill/whipstill/MovingWindow" "oldest" "I" (.int (0 : Int32)) := (((F2.ext E2_).other W5_ (Or.inr (slot_ne (Or.inl (hw _ (List.mem_of_getElem? (i := 38) rfl))) (Or.inr (hw _ (List.mem_of_getElem? (i := 15) rfl))) (by decide) (t := .int) (t' := (.array .double)) (by decide) (by decide)))).keep ek7_ (ninS (Nat.ne_of_lt (Nat.lt_of_lt_of_le E1.lt (Nat.le_of_eq g2_.symm))) nin0))
  have k15_ : Keep h0 h2_ [a1] := (Keep.refl h0 [a1]).ext E2_
  have k16_ : Keep h0 h5_ [a1] := k15_.wr W5_ (Or.inl (List.mem_of_getElem? (i := 0) rfl))
  have k17_ : Keep h0 T7_.heap [a1] := k16_.trans ek7_ (allS (Or.inr (Nat.le_trans (Keep.refl h0 [a1]).1 (Nat.le_of_eq g2_.symm))) all0)
  obtain ⟨fs, hr, hrun, hended, hW, hsame⟩ := X7_.leave (v := none) (fun h => by first | rfl | (rw [Bd.returns] at h; cases h))
  refine ⟨_, _, pre0 _ ?_, hrun, hended, _, _, rfl, ?_, ⟨_, rfl⟩, hW, hsame.mono (by exact Nat.le_of_ble_eq_true rfl) (by exact Nat.le_of_ble_eq_true rfl)⟩
  · show Steps p.tables e below (s₁.setTop (mkF m 0 #[.val (.ref a1), .val (.int (1 : Int32)), .val (.double v1), .second] [])) _
    refine XS.aloadN X0.here hx rfl (hb hby d2_0) rfl rfl ?_
    refine st1_ _ ?_
    show Steps p.tables e below (T1_.setTop (mkF m 4 #[.val (.ref a1), .val (.int (1 : Int32)), .val (.double v1), .second] [])) _
    refine XS.iloadN X1_.here hx rfl (hb hby d2_4) rfl ?_
    refine XS.iconst X1_.here hx rfl (hb hby d2_5) ?_
    refine XS.icmpYes X1_.here hx rfl (pc0 := 6) (pc' := 23) rfl (hb hby d2_6) rfl (flt ((by decide) : ¬ ((1 : Int32) < (1 : Int32)))).2.1 (by decide) (by decide) ?_
    show Steps p.tables e below (T1_.setTop (mkF m 23 #[.val (.ref a1), .val (.int (1 : Int32)), .val (.double v1), .second] [])) _
    refine XS.aloadN X1_.here hx rfl (hb hby d2_23) rfl rfl ?_
    refine XS.iloadN X1_.here hx rfl (hb hby d2_24) rfl ?_
    refine st2_ _ ?_
    show Steps p.tables e below (T2_.setTop (mkF m 27 #[.val (.ref a1), .val (.int (1 : Int32)), .val (.double v1), .second] [(.ref b2_), (.ref a1)])) _
    refine st5_ _ ?_
    show Steps p.tables e below (T5_.setTop (mkF m 30 #[.val (.ref a1), .val (.int (1 : Int32)), .val (.double v1), .second] [])) _
    refine XS.aloadN X5_.here hx rfl (hb hby d2_30) rfl rfl ?_
    refine st6_ _ ?_
    show Steps p.tables e below (T6_.setTop (mkF m 34 #[.val (.ref a1), .val (.int (1 : Int32)), .val (.double v1), .second] [(.ref b2_)])) _
    refine XS.dloadN X6_.here hx rfl (hb hby d2_34) rfl ?_
    refine st7_ _ ?_
    show Steps p.tables e below (T7_.setTop (mkF m 38 #[.val (.ref a1), .val (.int (1 : Int32)), .val (.double v1), .second] [])) _
    exact X7_.returnOut hx Bd.returns (hb hby d2_38) hr
  · show Q_rmInit1 Z a1 v1 h0 n0 _ T7_.heap _
    skip
    exact ⟨b2_, k2_, rfl, N7_, k17_, (Nat.le_trans (Keep.refl h0 [a1]).1 (Nat.le_of_eq g2_.symm)), f12_, f13_, f14_, p7__0⟩
theorem ef_rmFill2 (m : MethodId) (x0 : Addr) (x1 : UInt64) : entryFrame m #[(.ref x0), (.double x1)] 5 = mkF m 0 #[.val (.ref x0), .val (.double x1), .second, .unset, .unset] [] := by first | (simp [entryFrame, mkF, argsToLocals, Value.category]; done) | rfl
def Q_rmFill2 (Z : State) (a1 : Addr) (v1 : UInt64) (k1 : ClassId) (x0 : UInt64) (x1 : UInt64) (h0 : Heap) (n0 : Nat) (v : Option Value) (h : Heap) (L : List Loc) : Prop := v = none ∧ Fr n0 L ∧ Keep h0 h [a1] ∧ (Arv Z h a1 k1 .double (2 : Int32) [(.double v1), (.double v1)] (.double (0 : UInt64)))
set_option maxRecDepth 65536 in
set_option maxHeartbeats 40000000 in
theorem rmFill2 (l : Launch) (Z : State) (a0 : Array Value) (hw : ∀ d ∈ tables_1, d.before a0 Z = true) (ws : List Jvm.Cond) (a1 : Addr) (v1 : UInt64) (k1 : ClassId) (x0 : UInt64) (x1 : UInt64) (h0 : Heap) (n0 : Nat) (Z0 : n0 ≤ h0.size) (V1 : Arv Z h0 a1 k1 .double (2 : Int32) [(.double x0), (.double x1)] (.double (0 : UInt64))) (g1 : n0 ≤ a1) :
    MetFree l (⟨"java/util/Arrays", "fill", "([DD)V"⟩ : MethodName) (head1 (Jvm.Cond.code (⟨"java/util/Arrays", "fill", "([DD)V"⟩ : MethodName) jdk_65_method_113_code 5 none :: ws) ({ frames := 0, cells := 0, slots := 0, locals := 0 } : Room)) (fun a U => a = #[(.ref a1), (.double v1)] ∧ Z.Warmed39 U.vm ∧ U.heap = h0) (fun _ _ _ _ _ => True) (fun _ U o U' => ∃ v L, o = .returned v ∧ Q_rmFill2 Z a1 v1 k1 x0 x1 h0 n0 v U'.heap L ∧ FrameEnd U o U' L ({ frames := 0, cells := 0, slots := 0, locals := 0 } : Room).cells ({ frames := 0, cells := 0, slots := 0, locals := 0 } : Room).slots) := by
  refine MetFree.of_bodySF (plainFor_of_name pn_java_util_Arrays) hisR ?_
  intro p e s m args below meth c s₁ Bd hml0 hP hK
  obtain ⟨rfl, hZ, hh⟩ := hP
  have hx := Bd.exec
  have hby := Bd.bytes
  have hml : c.maxLocals = 5 := hml0
  have hown : s.vm.findClass "java/util/Arrays" = some m.cls := findClass_of_methodNamed Bd.named
  have hnm := (name_of_methodNamed Bd.named Bd.method).1
  have X0 : Stand p l e ({ frames := 0, cells := 0, slots := 0, locals := 0 } : Room) s m #[(.ref a1), (.double v1)] below meth c s₁ [] 0 0 := Stand.of_body Bd
  have e0 : s₁.heap = h0 := by rw [← hh, Bd.state]; rfl
  have N0 := Fr.nil n0
  have pre0 : ∀ t, Steps p.tables e below (s₁.setTop (mkF m 0 #[.val (.ref a1), .val (.double v1), .second, .unset, .unset] [])) t → Steps p.tables e below (s₁.setTop (entryFrame m #[(.ref a1), (.double v1)] 5)) t := fun t k => castTop (ef_rmFill2 m a1 v1) k
  obtain ⟨cl1_, Ar1_, q1_, S1_, M1_, Hs1_, G1_⟩ := id V1
  obtain ⟨cl2_, Ar2_, q2_, S2_, M2_, Hs2_, G2_⟩ := id V1
  have in2_ : ¬ ((0 : Int32) < 0 ∨ cl2_.slots.size ≤ ((0 : Int32)).toNatClampNeg) := inb_of S2_ ⟨by decide, by decide⟩
  obtain ⟨T2_, h2_, X2_, e2_, W2_, st2_⟩ := stD X0 hx hZ e0 Ar2_ (j := (0 : Int32)) in2_ (g := (mkF m 15 #[.val (.ref a1), .val (.double v1), .second, .val (.int (0 : Int32)), .val (.int (2 : Int32))] [(.double v1), (.int (0 : Int32)), (.ref a1)])) rfl rfl (hb hby d4_15)
  have v2_ : Arv Z h2_ a1 k1 .double (2 : Int32) [(.double v1), (.double x1)] (.double (0 : UInt64)) := Arv.set Ar2_ q2_ S2_ M2_ Hs2_ G2_ rfl W2_ 0 rfl (Nat.le_of_ble_eq_true rfl)
  have N2_ := Fr.snoc X2_ N0 g1
  obtain ⟨cl3_, Ar3_, q3_, S3_, M3_, Hs3_, G3_⟩ := id v2_
  have in3_ : ¬ ((1 : Int32) < 0 ∨ cl3_.slots.size ≤ ((1 : Int32)).toNatClampNeg) := inb_of S3_ ⟨by decide, by decide⟩
  obtain ⟨T3_, h3_, X3_, e3_, W3_, st3_⟩ := stD X2_ hx hZ e2_ Ar3_ (j := (1 : Int32)) in3_ (g := (mkF m 15 #[.val (.ref a1), .val (.double v1), .second, .val (.int (1 : Int32)), .val (.int (2 : Int32))] [(.double v1), (.int (1 : Int32)), (.ref a1)])) rfl rfl (hb hby d4_15)
  have v3_ : Arv Z h3_ a1 k1 .double (2 : Int32) [(.double v1), (.double v1)] (.double (0 : UInt64)) := Arv.set Ar3_ q3_ S3_ M3_ Hs3_ G3_ rfl W3_ 1 rfl (Nat.le_of_ble_eq_true rfl)
  have N3_ := Fr.snoc X3_ N2_ g1
  have k4_ : Keep h0 h2_ [a1] := (Keep.refl h0 [a1]).wr W2_ (Or.inl (List.mem_of_getElem? (i := 0) rfl))
  have k5_ : Keep h0 h3_ [a1] := k4_.wr W3_ (Or.inl (List.mem_of_getElem? (i := 0) rfl))
  obtain ⟨fs, hr, hrun, hended, hW, hsame⟩ := X3_.leave (v := none) (fun h => by first | rfl | (rw [Bd.returns] at h; cases h))
  refine ⟨_, _, pre0 _ ?_, hrun, hended, _, _, rfl, ?_, ⟨_, rfl⟩, hW, hsame.mono (by exact Nat.le_of_ble_eq_true rfl) (by exact Nat.le_of_ble_eq_true rfl)⟩
  · show Steps p.tables e below (s₁.setTop (mkF m 0 #[.val (.ref a1), .val (.double v1), .second, .unset, .unset] [])) _
    refine XS.iconst X0.here hx rfl (hb hby d4_0) ?_
    refine XS.istoreN X0.here hx rfl (hb hby d4_1) rfl (l' := #[.val (.ref a1), .val (.double v1), .second, .val (.int (0 : Int32)), .unset]) rfl ?_
    show Steps p.tables e below (s₁.setTop (mkF m 2 #[.val (.ref a1), .val (.double v1), .second, .val (.int (0 : Int32)), .unset] [])) _
    refine XS.aloadN X0.here hx rfl (hb hby d4_2) rfl rfl ?_
    refine X0.arraylength hx (by rw [e0]; exact Ar1_.1) (State.isArrayOf_alike (State.Warmed39.alike hZ) Ar1_.2.1) (g := (mkF m 3 #[.val (.ref a1), .val (.double v1), .second, .val (.int (0 : Int32)), .unset] [(.ref a1)])) rfl rfl (hb hby d4_3) _ ?_
    rw [len_of S1_ M1_]
    show Steps p.tables e below (s₁.setTop (mkF m 4 #[.val (.ref a1), .val (.double v1), .second, .val (.int (0 : Int32)), .unset] [(.int (2 : Int32))])) _
    refine XS.istore X0.here hx rfl (hb hby d4_4) rfl (l' := #[.val (.ref a1), .val (.double v1), .second, .val (.int (0 : Int32)), .val (.int (2 : Int32))]) rfl ?_
    show Steps p.tables e below (s₁.setTop (mkF m 6 #[.val (.ref a1), .val (.double v1), .second, .val (.int (0 : Int32)), .val (.int (2 : Int32))] [])) _
    refine XS.iloadN X0.here hx rfl (hb hby d4_6) rfl ?_
    refine XS.iload X0.here hx rfl (hb hby d4_7) rfl ?_
    refine XS.icmpNo X0.here hx rfl (hb hby d4_9) rfl (tlt ((by decide) : (0 : Int32) < (2 : Int32))).2.1 ?_
    show Steps p.tables e below (s₁.setTop (mkF m 12 #[.val (.ref a1), .val (.double v1), .second, .val (.int (0 : Int32)), .val (.int (2 : Int32))] [])) _
    refine XS.aloadN X0.here hx rfl (hb hby d4_12) rfl rfl ?_
    refine XS.iloadN X0.here hx rfl (hb hby d4_13) rfl ?_
    refine XS.dloadN X0.here hx rfl (hb hby d4_14) rfl ?_
    refine st2_ _ ?_
    show Steps p.tables e below (T2_.setTop (mkF m 16 #[.val (.ref a1), .val (.double v1), .second, .val (.int (0 : Int32)), .val (.int (2 : Int32))] [])) _
    refine XS.iinc X2_.here hx rfl (hb hby d4_16) rfl (l' := #[.val (.ref a1), .val (.double v1), .second, .val (.int (1 : Int32)), .val (.int (2 : Int32))]) rfl ?_
    show Steps p.tables e below (T2_.setTop (mkF m 19 #[.val (.ref a1), .val (.double v1), .second, .val (.int (1 : Int32)), .val (.int (2 : Int32))] [])) _
    refine XS.goto X2_.here hx rfl (pc0 := 19) (pc' := 6) rfl (hb hby d4_19) (by decide) (by decide) ?_
    show Steps p.tables e below (T2_.setTop (mkF m 6 #[.val (.ref a1), .val (.double v1), .second, .val (.int (1 : Int32)), .val (.int (2 : Int32))] [])) _
    refine XS.iloadN X2_.here hx rfl (hb hby d4_6) rfl ?_
    refine XS.iload X2_.here hx rfl (hb hby d4_7) rfl ?_
    refine XS.icmpNo X2_.here hx rfl (hb hby d4_9) rfl (tlt ((by decide) : (1 : Int32) < (2 : Int32))).2.1 ?_
    show Steps p.tables e below (T2_.setTop (mkF m 12 #[.val (.ref a1), .val (.double v1), .second, .val (.int (1 : Int32)), .val (.int (2 : Int32))] [])) _
    refine XS.aloadN X2_.here hx rfl (hb hby d4_12) rfl rfl ?_
    refine XS.iloadN X2_.here hx rfl (hb hby d4_13) rfl ?_
    refine XS.dloadN X2_.here hx rfl (hb hby d4_14) rfl ?_
    refine st3_ _ ?_
    show Steps p.tables e below (T3_.setTop (mkF m 16 #[.val (.ref a1), .val (.double v1), .second, .val (.int (1 : Int32)), .val (.int (2 : Int32))] [])) _
    refine XS.iinc X3_.here hx rfl (hb hby d4_16) rfl (l' := #[.val (.ref a1), .val (.double v1), .second, .val (.int (2 : Int32)), .val (.int (2 : Int32))]) rfl ?_
    show Steps p.tables e below (T3_.setTop (mkF m 19 #[.val (.ref a1), .val (.double v1), .second, .val (.int (2 : Int32)), .val (.int (2 : Int32))] [])) _
    refine XS.goto X3_.here hx rfl (pc0 := 19) (pc' := 6) rfl (hb hby d4_19) (by decide) (by decide) ?_
    show Steps p.tables e below (T3_.setTop (mkF m 6 #[.val (.ref a1), .val (.double v1), .second, .val (.int (2 : Int32)), .val (.int (2 : Int32))] [])) _
    refine XS.iloadN X3_.here hx rfl (hb hby d4_6) rfl ?_
    refine XS.iload X3_.here hx rfl (hb hby d4_7) rfl ?_
    refine XS.icmpYes X3_.here hx rfl (pc0 := 9) (pc' := 22) rfl (hb hby d4_9) rfl (flt ((by decide) : ¬ ((2 : Int32) < (2 : Int32)))).2.1 (by decide) (by decide) ?_
    show Steps p.tables e below (T3_.setTop (mkF m 22 #[.val (.ref a1), .val (.double v1), .second, .val (.int (2 : Int32)), .val (.int (2 : Int32))] [])) _
    exact X3_.returnOut hx Bd.returns (hb hby d4_22) hr
  · show Q_rmFill2 Z a1 v1 k1 x0 x1 h0 n0 _ T3_.heap _
    rw [e3_]
    exact ⟨rfl, N3_, k5_, v3_⟩
theorem ef_rmInit2 (m : MethodId) (x0 : Addr) (x1 : Int32) (x2 : UInt64) : entryFrame m #[(.ref x0), (.int x1), (.double x2)] 4 = mkF m 0 #[.val (.ref x0), .val (.int x1), .val (.double x2), .second] [] := by first | (simp [entryFrame, mkF, argsToLocals, Value.category]; done) | rfl
def Q_rmInit2 (Z : State) (a1 : Addr) (v1 : UInt64) (h0 : Heap) (n0 : Nat) (v : Option Value) (h : Heap) (L : List Loc) : Prop := ∃ (t : Addr) (k : ClassId), v = none ∧ Fr n0 L ∧ Keep h0 h [a1] ∧ (h0.size ≤ t) ∧ (Exa Z h a1 "com/example/whipstill/whipstill/MovingWindow") ∧ (Fld Z h a1 "com/example/whipstill/whipstill/MovingWindow" "values" "[D" (.ref t)) ∧ (Fld Z h a1 "com/example/whipstill/whipstill/MovingWindow" "oldest" "I" (.int (0 : Int32))) ∧ (Arv Z h t k .double (2 : Int32) [(.double v1), (.double v1)] (.double (0 : UInt64)))
set_option maxRecDepth 65536 in
set_option maxHeartbeats 40000000 in
theorem rmInit2 (l : Launch) (Z : State) (a0 : Array Value) (hw : ∀ d ∈ tables_1, d.before a0 Z = true) (ws : List Jvm.Cond) (a1 : Addr) (v1 : UInt64) (h0 : Heap) (n0 : Nat) (Z0 : n0 ≤ h0.size) (E1 : Exa Z h0 a1 "com/example/whipstill/whipstill/MovingWindow") (F1 : Fld Z h0 a1 "com/example/whipstill/whipstill/MovingWindow" "values" "[D" .null) (F2 : Fld Z h0 a1 "com/example/whipstill/whipstill/MovingWindow" "oldest" "I" (.int (0 : Int32))) (g1 : n0 ≤ a1) :
    MetFree l (⟨"com/example/whipstill/whipstill/MovingWindow", "<init>", "(ID)V"⟩ : MethodName) (head1 (Jvm.Cond.code (⟨"com/example/whipstill/whipstill/MovingWindow", "<init>", "(ID)V"⟩ : MethodName) prog_11_method_1_code 4 none :: ws) ({ frames := 1, cells := 1, slots := 2, locals := 16 } : Room)) (fun a U => a = #[(.ref a1), (.int (2 : Int32)), (.double v1)] ∧ Z.Warmed39 U.vm ∧ U.heap = h0) (fun _ _ _ _ _ => True) (fun _ U o U' => ∃ v L, o = .returned v ∧ Q_rmInit2 Z a1 v1 h0 n0 v U'.heap L ∧ FrameEnd U o U' L ({ frames := 1, cells := 1, slots := 2, locals := 16 } : Room).cells ({ frames := 1, cells := 1, slots := 2, locals := 16 } : Room).slots) := by
  refine MetFree.of_bodySF (plainFor_of_name pn_com_example_whipstill_whipstill_MovingWindow) hisR ?_
  intro p e s m args below meth c s₁ Bd hml0 hP hK
  obtain ⟨rfl, hZ, hh⟩ := hP
  have hx := Bd.exec
  have hby := Bd.bytes
  have hml : c.maxLocals = 4 := hml0
  have hown : s.vm.findClass "com/example/whipstill/whipstill/MovingWindow" = some m.cls := findClass_of_methodNamed Bd.named
  have hnm := (name_of_methodNamed Bd.named Bd.method).1
  have X0 : Stand p l e ({ frames := 1, cells := 1, slots := 2, locals := 16 } : Room) s m #[(.ref a1), (.int (2 : Int32)), (.double v1)] below meth c s₁ [] 0 0 := Stand.of_body Bd
  have e0 : s₁.heap = h0 := by rw [← hh, Bd.state]; rfl
  have N0 := Fr.nil n0
  have pre0 : ∀ t, Steps p.tables e below (s₁.setTop (mkF m 0 #[.val (.ref a1), .val (.int (2 : Int32)), .val (.double v1), .second] [])) t → Steps p.tables e below (s₁.setTop (entryFrame m #[(.ref a1), (.int (2 : Int32)), (.double v1)] 4)) t := fun t k => castTop (ef_rmInit2 m a1 (2 : Int32) v1) k
  obtain ⟨T1_, X1_, e1_, st1_⟩ := initO X0 hx hZ hown (hw _ (List.mem_of_getElem? (i := 10) rfl)) (hw _ (List.mem_of_getElem? (i := 11) rfl)) (hw _ (List.mem_of_getElem? (i := 12) rfl)) e0 (g := (mkF m 1 #[.val (.ref a1), .val (.int (2 : Int32)), .val (.double v1), .second] [(.ref a1)])) rfl (by rw [hml]; rfl) rfl (hb hby d2_1) (by decide) (W := 0) (by show 2 * 0 + _ ≤ _; exact Nat.le_of_eq rfl) (by decide)
  obtain ⟨T2_, h2_, k2_, X2_, e2_, E2_, A2_, st2_⟩ := newP X1_ hx hZ (hw _ (List.mem_of_getElem? (i := 13) rfl)) e1_ (g := (mkF m 25 #[.val (.ref a1), .val (.int (2 : Int32)), .val (.double v1), .second] [(.int (2 : Int32)), (.ref a1)])) rfl (hb hby d2_25) rfl (by decide) (cap := 2) (by decide) (by decide) (by exact Nat.le_of_ble_eq_true rfl) (by exact Nat.le_of_ble_eq_true rfl)
  obtain ⟨b2_, g2_⟩ : ∃ z, z = h0.size := ⟨_, rfl⟩
  rw [← g2_] at A2_ st2_
  have v2_ : Arv Z h2_ b2_ k2_ .double (2 : Int32) [(.double (0 : UInt64)), (.double (0 : UInt64))] (.double (0 : UInt64)) := (Arv.new A2_ (by decide)).pad (pad_rep [] (.double (0 : UInt64)) 2)
  have f3_ : Exa Z h2_ a1 "com/example/whipstill/whipstill/MovingWindow" := (E1.ext E2_)
  have f4_ : Fld Z h2_ a1 "com/example/whipstill/whipstill/MovingWindow" "values" "[D" .null := (F1.ext E2_)
  obtain ⟨T5_, h5_, X5_, e5_, W5_, st5_⟩ := putF X2_ hx hZ hown (host := "") (Or.inl (hw _ (List.mem_of_getElem? (i := 14) rfl))) Via.refl e2_ f4_ f3_ (Or.inr ⟨(hw _ (List.mem_of_getElem? (i := 15) rfl)), rfl, hnm⟩) (hw _ (List.mem_of_getElem? (i := 5) rfl)) (ty := (.array .double)) (by decide) rfl rfl (g := (mkF m 27 #[.val (.ref a1), .val (.int (2 : Int32)), .val (.double v1), .second] [(.ref b2_), (.ref a1)])) rfl rfl (hb hby d2_27)
  have w5_ : Fld Z h5_ a1 "com/example/whipstill/whipstill/MovingWindow" "values" "[D" (.ref b2_) := f4_.same W5_
  have N5_ := Fr.snoc X5_ N0 g1
  obtain ⟨T6_, X6_, e6_, st6_⟩ := getF X5_ hx hZ hown (host := "") (Or.inl (hw _ (List.mem_of_getElem? (i := 14) rfl))) Via.refl e5_ w5_ (g := (mkF m 31 #[.val (.ref a1), .val (.int (2 : Int32)), .val (.double v1), .second] [(.ref a1)])) rfl rfl (hb hby d2_31)
  have f8_ : Arv Z h5_ b2_ k2_ .double (2 : Int32) [(.double (0 : UInt64)), (.double (0 : UInt64))] (.double (0 : UInt64)) := (v2_.other W5_ (Ne.symm (Nat.ne_of_lt (Nat.lt_of_lt_of_le E1.lt (Nat.le_of_eq g2_.symm)))))
  have g9_ : n0 ≤ b2_ := Nat.le_trans Z0 (Nat.le_of_eq g2_.symm)
  have z10_ : n0 ≤ h2_.size := Nat.le_trans Z0 E2_.1
  have z11_ : n0 ≤ h5_.size := Nat.le_trans z10_ (Keep.of_wr W5_).1
  obtain ⟨_, _, ⟨T7_, L7_, k7_, n7_⟩, -, X7_, ⟨Lc7_, hQ7_, l7_, y7_, z7_⟩, st7_⟩ := Jvm.LawKit.callS X6_ hx (y := (⟨"java/util/Arrays", "fill", "([DD)V"⟩ : MethodName)) hown (mvT hZ (hw _ (List.mem_of_getElem? (i := 16) rfl))) (mvT hZ (hw _ (List.mem_of_getElem? (i := 17) rfl))) (mvT hZ (hw _ (List.mem_of_getElem? (i := 18) rfl))) (mvT hZ (hw _ (List.mem_of_getElem? (i := 19) rfl))) (by decide) (backOf (W := 0) (rmFill2 l Z a0 hw [] b2_ v1 k2_ (0 : UInt64) (0 : UInt64) h5_ n0 z11_ f8_ g9_) hZ (hw _ (List.mem_of_getElem? (i := 19) rfl)) (hw _ (List.mem_of_getElem? (i := 18) rfl)) (by decide) (by decide)) (g := (mkF m 35 #[.val (.ref a1), .val (.int (2 : Int32)), .val (.double v1), .second] [(.double v1), (.ref b2_)])) rfl (by rw [hml]; rfl) (argsL := [(.ref b2_), (.double v1)]) (rest := []) (lenOf pd_qaDDzV rfl) rfl (by show 2 * 0 + _ ≤ _; exact Nat.le_of_eq rfl) (hb hby d2_35) (fun _ _ => ⟨rfl, e6_, (by exact Nat.le_of_ble_eq_true rfl), (by exact Nat.le_of_ble_eq_true rfl)⟩)
  dsimp only [Pt.U, Pt.locs, Pt.cells, Pt.slots] at X7_ l7_ y7_ z7_ st7_ hQ7_
  subst L7_ k7_ n7_
  obtain ⟨rfl, Nq7_, ek7_, p7__0⟩ := hQ7_
  have N7_ := Fr.app N5_ Nq7_
  have f12_ : Exa Z T7_.heap a1 "com/example/whipstill/whipstill/MovingWindow" := ((f3_.wr W5_).keep ek7_)
  have f13_ : Fld Z T7_.heap a1 "com/example/whipstill/whipstill/MovingWindow" "values" "[D" (.ref b2_) := (w5_.keep ek7_ (ninS (Nat.ne_of_lt (Nat.lt_of_lt_of_le E1.lt (Nat.le_of_eq g2_.symm))) nin0))
  have f14_ : Fld Z T7_.heap a1 "com/example/whipstill/whipstill/MovingWindow" "oldest" "I" (.int (0 : Int32)) := (((F2.ext E2_).other W5_ (Or.inr (slot_ne (Or.inl (hw _ (List.mem_of_getElem? (i := 38) rfl))) (Or.inr (hw _ (List.mem_of_getElem? (i := 15) rfl))) (by decide) (t := .int) (t' := (.array .double)) (by decide) (by decide)))).keep ek7_ (ninS (Nat.ne_of_lt (Nat.lt_of_lt_of_le E1.lt (Nat.le_of_eq g2_.symm))) nin0))
  have k15_ : Keep h0 h2_ [a1] := (Keep.refl h0 [a1]).ext E2_
  have k16_ : Keep h0 h5_ [a1] := k15_.wr W5_ (Or.inl (List.mem_of_getElem? (i := 0) rfl))
  have k17_ : Keep h0 T7_.heap [a1] := k16_.trans ek7_ (allS (Or.inr (Nat.le_trans (Keep.refl h0 [a1]).1 (Nat.le_of_eq g2_.symm))) all0)
  obtain ⟨fs, hr, hrun, hended, hW, hsame⟩ := X7_.leave (v := none) (fun h => by first | rfl | (rw [Bd.returns] at h; cases h))
  refine ⟨_, _, pre0 _ ?_, hrun, hended, _, _, rfl, ?_, ⟨_, rfl⟩, hW, hsame.mono (by exact Nat.le_of_ble_eq_true rfl) (by exact Nat.le_of_ble_eq_true rfl)⟩
  · show Steps p.tables e below (s₁.setTop (mkF m 0 #[.val (.ref a1), .val (.int (2 : Int32)), .val (.double v1), .second] [])) _
    refine XS.aloadN X0.here hx rfl (hb hby d2_0) rfl rfl ?_
    refine st1_ _ ?_
    show Steps p.tables e below (T1_.setTop (mkF m 4 #[.val (.ref a1), .val (.int (2 : Int32)), .val (.double v1), .second] [])) _
    refine XS.iloadN X1_.here hx rfl (hb hby d2_4) rfl ?_
    refine XS.iconst X1_.here hx rfl (hb hby d2_5) ?_
    refine XS.icmpYes X1_.here hx rfl (pc0 := 6) (pc' := 23) rfl (hb hby d2_6) rfl (flt ((by decide) : ¬ ((2 : Int32) < (1 : Int32)))).2.1 (by decide) (by decide) ?_
    show Steps p.tables e below (T1_.setTop (mkF m 23 #[.val (.ref a1), .val (.int (2 : Int32)), .val (.double v1), .second] [])) _
    refine XS.aloadN X1_.here hx rfl (hb hby d2_23) rfl rfl ?_
    refine XS.iloadN X1_.here hx rfl (hb hby d2_24) rfl ?_
    refine st2_ _ ?_
    show Steps p.tables e below (T2_.setTop (mkF m 27 #[.val (.ref a1), .val (.int (2 : Int32)), .val (.double v1), .second] [(.ref b2_), (.ref a1)])) _
    refine st5_ _ ?_
    show Steps p.tables e below (T5_.setTop (mkF m 30 #[.val (.ref a1), .val (.int (2 : Int32)), .val (.double v1), .second] [])) _
    refine XS.aloadN X5_.here hx rfl (hb hby d2_30) rfl rfl ?_
    refine st6_ _ ?_
    show Steps p.tables e below (T6_.setTop (mkF m 34 #[.val (.ref a1), .val (.int (2 : Int32)), .val (.double v1), .second] [(.ref b2_)])) _
    refine XS.dloadN X6_.here hx rfl (hb hby d2_34) rfl ?_
    refine st7_ _ ?_
    show Steps p.tables e below (T7_.setTop (mkF m 38 #[.val (.ref a1), .val (.int (2 : Int32)), .val (.double v1), .second] [])) _
    exact X7_.returnOut hx Bd.returns (hb hby d2_38) hr
  · show Q_rmInit2 Z a1 v1 h0 n0 _ T7_.heap _
    skip
    exact ⟨b2_, k2_, rfl, N7_, k17_, (Nat.le_trans (Keep.refl h0 [a1]).1 (Nat.le_of_eq g2_.symm)), f12_, f13_, f14_, p7__0⟩
theorem ef_rmFill3 (m : MethodId) (x0 : Addr) (x1 : UInt64) : entryFrame m #[(.ref x0), (.double x1)] 5 = mkF m 0 #[.val (.ref x0), .val (.double x1), .second, .unset, .unset] [] := by first | (simp [entryFrame, mkF, argsToLocals, Value.category]; done) | rfl
def Q_rmFill3 (Z : State) (a1 : Addr) (v1 : UInt64) (k1 : ClassId) (x0 : UInt64) (x1 : UInt64) (x2 : UInt64) (h0 : Heap) (n0 : Nat) (v : Option Value) (h : Heap) (L : List Loc) : Prop := v = none ∧ Fr n0 L ∧ Keep h0 h [a1] ∧ (Arv Z h a1 k1 .double (3 : Int32) [(.double v1), (.double v1), (.double v1)] (.double (0 : UInt64)))
set_option maxRecDepth 65536 in
set_option maxHeartbeats 40000000 in
theorem rmFill3 (l : Launch) (Z : State) (a0 : Array Value) (hw : ∀ d ∈ tables_1, d.before a0 Z = true) (ws : List Jvm.Cond) (a1 : Addr) (v1 : UInt64) (k1 : ClassId) (x0 : UInt64) (x1 : UInt64) (x2 : UInt64) (h0 : Heap) (n0 : Nat) (Z0 : n0 ≤ h0.size) (V1 : Arv Z h0 a1 k1 .double (3 : Int32) [(.double x0), (.double x1), (.double x2)] (.double (0 : UInt64))) (g1 : n0 ≤ a1) :
    MetFree l (⟨"java/util/Arrays", "fill", "([DD)V"⟩ : MethodName) (head1 (Jvm.Cond.code (⟨"java/util/Arrays", "fill", "([DD)V"⟩ : MethodName) jdk_65_method_113_code 5 none :: ws) ({ frames := 0, cells := 0, slots := 0, locals := 0 } : Room)) (fun a U => a = #[(.ref a1), (.double v1)] ∧ Z.Warmed39 U.vm ∧ U.heap = h0) (fun _ _ _ _ _ => True) (fun _ U o U' => ∃ v L, o = .returned v ∧ Q_rmFill3 Z a1 v1 k1 x0 x1 x2 h0 n0 v U'.heap L ∧ FrameEnd U o U' L ({ frames := 0, cells := 0, slots := 0, locals := 0 } : Room).cells ({ frames := 0, cells := 0, slots := 0, locals := 0 } : Room).slots) := by
  refine MetFree.of_bodySF (plainFor_of_name pn_java_util_Arrays) hisR ?_
  intro p e s m args below meth c s₁ Bd hml0 hP hK
  obtain ⟨rfl, hZ, hh⟩ := hP
  have hx := Bd.exec
  have hby := Bd.bytes
  have hml : c.maxLocals = 5 := hml0
  have hown : s.vm.findClass "java/util/Arrays" = some m.cls := findClass_of_methodNamed Bd.named
  have hnm := (name_of_methodNamed Bd.named Bd.method).1
  have X0 : Stand p l e ({ frames := 0, cells := 0, slots := 0, locals := 0 } : Room) s m #[(.ref a1), (.double v1)] below meth c s₁ [] 0 0 := Stand.of_body Bd
  have e0 : s₁.heap = h0 := by rw [← hh, Bd.state]; rfl
  have N0 := Fr.nil n0
  have pre0 : ∀ t, Steps p.tables e below (s₁.setTop (mkF m 0 #[.val (.ref a1), .val (.double v1), .second, .unset, .unset] [])) t → Steps p.tables e below (s₁.setTop (entryFrame m #[(.ref a1), (.double v1)] 5)) t := fun t k => castTop (ef_rmFill3 m a1 v1) k
  obtain ⟨cl1_, Ar1_, q1_, S1_, M1_, Hs1_, G1_⟩ := id V1
  obtain ⟨cl2_, Ar2_, q2_, S2_, M2_, Hs2_, G2_⟩ := id V1
  have in2_ : ¬ ((0 : Int32) < 0 ∨ cl2_.slots.size ≤ ((0 : Int32)).toNatClampNeg) := inb_of S2_ ⟨by decide, by decide⟩
  obtain ⟨T2_, h2_, X2_, e2_, W2_, st2_⟩ := stD X0 hx hZ e0 Ar2_ (j := (0 : Int32)) in2_ (g := (mkF m 15 #[.val (.ref a1), .val (.double v1), .second, .val (.int (0 : Int32)), .val (.int (3 : Int32))] [(.double v1), (.int (0 : Int32)), (.ref a1)])) rfl rfl (hb hby d4_15)
  have v2_ : Arv Z h2_ a1 k1 .double (3 : Int32) [(.double v1), (.double x1), (.double x2)] (.double (0 : UInt64)) := Arv.set Ar2_ q2_ S2_ M2_ Hs2_ G2_ rfl W2_ 0 rfl (Nat.le_of_ble_eq_true rfl)
  have N2_ := Fr.snoc X2_ N0 g1
  obtain ⟨cl3_, Ar3_, q3_, S3_, M3_, Hs3_, G3_⟩ := id v2_
  have in3_ : ¬ ((1 : Int32) < 0 ∨ cl3_.slots.size ≤ ((1 : Int32)).toNatClampNeg) := inb_of S3_ ⟨by decide, by decide⟩
  obtain ⟨T3_, h3_, X3_, e3_, W3_, st3_⟩ := stD X2_ hx hZ e2_ Ar3_ (j := (1 : Int32)) in3_ (g := (mkF m 15 #[.val (.ref a1), .val (.double v1), .second, .val (.int (1 : Int32)), .val (.int (3 : Int32))] [(.double v1), (.int (1 : Int32)), (.ref a1)])) rfl rfl (hb hby d4_15)
  have v3_ : Arv Z h3_ a1 k1 .double (3 : Int32) [(.double v1), (.double v1), (.double x2)] (.double (0 : UInt64)) := Arv.set Ar3_ q3_ S3_ M3_ Hs3_ G3_ rfl W3_ 1 rfl (Nat.le_of_ble_eq_true rfl)
  have N3_ := Fr.snoc X3_ N2_ g1
  obtain ⟨cl4_, Ar4_, q4_, S4_, M4_, Hs4_, G4_⟩ := id v3_
  have in4_ : ¬ ((2 : Int32) < 0 ∨ cl4_.slots.size ≤ ((2 : Int32)).toNatClampNeg) := inb_of S4_ ⟨by decide, by decide⟩
  obtain ⟨T4_, h4_, X4_, e4_, W4_, st4_⟩ := stD X3_ hx hZ e3_ Ar4_ (j := (2 : Int32)) in4_ (g := (mkF m 15 #[.val (.ref a1), .val (.double v1), .second, .val (.int (2 : Int32)), .val (.int (3 : Int32))] [(.double v1), (.int (2 : Int32)), (.ref a1)])) rfl rfl (hb hby d4_15)
  have v4_ : Arv Z h4_ a1 k1 .double (3 : Int32) [(.double v1), (.double v1), (.double v1)] (.double (0 : UInt64)) := Arv.set Ar4_ q4_ S4_ M4_ Hs4_ G4_ rfl W4_ 2 rfl (Nat.le_of_ble_eq_true rfl)
  have N4_ := Fr.snoc X4_ N3_ g1
  have k5_ : Keep h0 h2_ [a1] := (Keep.refl h0 [a1]).wr W2_ (Or.inl (List.mem_of_getElem? (i := 0) rfl))
  have k6_ : Keep h0 h3_ [a1] := k5_.wr W3_ (Or.inl (List.mem_of_getElem? (i := 0) rfl))
  have k7_ : Keep h0 h4_ [a1] := k6_.wr W4_ (Or.inl (List.mem_of_getElem? (i := 0) rfl))
  obtain ⟨fs, hr, hrun, hended, hW, hsame⟩ := X4_.leave (v := none) (fun h => by first | rfl | (rw [Bd.returns] at h; cases h))
  refine ⟨_, _, pre0 _ ?_, hrun, hended, _, _, rfl, ?_, ⟨_, rfl⟩, hW, hsame.mono (by exact Nat.le_of_ble_eq_true rfl) (by exact Nat.le_of_ble_eq_true rfl)⟩
  · show Steps p.tables e below (s₁.setTop (mkF m 0 #[.val (.ref a1), .val (.double v1), .second, .unset, .unset] [])) _
    refine XS.iconst X0.here hx rfl (hb hby d4_0) ?_
    refine XS.istoreN X0.here hx rfl (hb hby d4_1) rfl (l' := #[.val (.ref a1), .val (.double v1), .second, .val (.int (0 : Int32)), .unset]) rfl ?_
    show Steps p.tables e below (s₁.setTop (mkF m 2 #[.val (.ref a1), .val (.double v1), .second, .val (.int (0 : Int32)), .unset] [])) _
    refine XS.aloadN X0.here hx rfl (hb hby d4_2) rfl rfl ?_
    refine X0.arraylength hx (by rw [e0]; exact Ar1_.1) (State.isArrayOf_alike (State.Warmed39.alike hZ) Ar1_.2.1) (g := (mkF m 3 #[.val (.ref a1), .val (.double v1), .second, .val (.int (0 : Int32)), .unset] [(.ref a1)])) rfl rfl (hb hby d4_3) _ ?_
    rw [len_of S1_ M1_]
    show Steps p.tables e below (s₁.setTop (mkF m 4 #[.val (.ref a1), .val (.double v1), .second, .val (.int (0 : Int32)), .unset] [(.int (3 : Int32))])) _
    refine XS.istore X0.here hx rfl (hb hby d4_4) rfl (l' := #[.val (.ref a1), .val (.double v1), .second, .val (.int (0 : Int32)), .val (.int (3 : Int32))]) rfl ?_
    show Steps p.tables e below (s₁.setTop (mkF m 6 #[.val (.ref a1), .val (.double v1), .second, .val (.int (0 : Int32)), .val (.int (3 : Int32))] [])) _
    refine XS.iloadN X0.here hx rfl (hb hby d4_6) rfl ?_
    refine XS.iload X0.here hx rfl (hb hby d4_7) rfl ?_
    refine XS.icmpNo X0.here hx rfl (hb hby d4_9) rfl (tlt ((by decide) : (0 : Int32) < (3 : Int32))).2.1 ?_
    show Steps p.tables e below (s₁.setTop (mkF m 12 #[.val (.ref a1), .val (.double v1), .second, .val (.int (0 : Int32)), .val (.int (3 : Int32))] [])) _
    refine XS.aloadN X0.here hx rfl (hb hby d4_12) rfl rfl ?_
    refine XS.iloadN X0.here hx rfl (hb hby d4_13) rfl ?_
    refine XS.dloadN X0.here hx rfl (hb hby d4_14) rfl ?_
    refine st2_ _ ?_
    show Steps p.tables e below (T2_.setTop (mkF m 16 #[.val (.ref a1), .val (.double v1), .second, .val (.int (0 : Int32)), .val (.int (3 : Int32))] [])) _
    refine XS.iinc X2_.here hx rfl (hb hby d4_16) rfl (l' := #[.val (.ref a1), .val (.double v1), .second, .val (.int (1 : Int32)), .val (.int (3 : Int32))]) rfl ?_
    show Steps p.tables e below (T2_.setTop (mkF m 19 #[.val (.ref a1), .val (.double v1), .second, .val (.int (1 : Int32)), .val (.int (3 : Int32))] [])) _
    refine XS.goto X2_.here hx rfl (pc0 := 19) (pc' := 6) rfl (hb hby d4_19) (by decide) (by decide) ?_
    show Steps p.tables e below (T2_.setTop (mkF m 6 #[.val (.ref a1), .val (.double v1), .second, .val (.int (1 : Int32)), .val (.int (3 : Int32))] [])) _
    refine XS.iloadN X2_.here hx rfl (hb hby d4_6) rfl ?_
    refine XS.iload X2_.here hx rfl (hb hby d4_7) rfl ?_
    refine XS.icmpNo X2_.here hx rfl (hb hby d4_9) rfl (tlt ((by decide) : (1 : Int32) < (3 : Int32))).2.1 ?_
    show Steps p.tables e below (T2_.setTop (mkF m 12 #[.val (.ref a1), .val (.double v1), .second, .val (.int (1 : Int32)), .val (.int (3 : Int32))] [])) _
    refine XS.aloadN X2_.here hx rfl (hb hby d4_12) rfl rfl ?_
    refine XS.iloadN X2_.here hx rfl (hb hby d4_13) rfl ?_
    refine XS.dloadN X2_.here hx rfl (hb hby d4_14) rfl ?_
    refine st3_ _ ?_
    show Steps p.tables e below (T3_.setTop (mkF m 16 #[.val (.ref a1), .val (.double v1), .second, .val (.int (1 : Int32)), .val (.int (3 : Int32))] [])) _
    refine XS.iinc X3_.here hx rfl (hb hby d4_16) rfl (l' := #[.val (.ref a1), .val (.double v1), .second, .val (.int (2 : Int32)), .val (.int (3 : Int32))]) rfl ?_
    show Steps p.tables e below (T3_.setTop (mkF m 19 #[.val (.ref a1), .val (.double v1), .second, .val (.int (2 : Int32)), .val (.int (3 : Int32))] [])) _
    refine XS.goto X3_.here hx rfl (pc0 := 19) (pc' := 6) rfl (hb hby d4_19) (by decide) (by decide) ?_
    show Steps p.tables e below (T3_.setTop (mkF m 6 #[.val (.ref a1), .val (.double v1), .second, .val (.int (2 : Int32)), .val (.int (3 : Int32))] [])) _
    refine XS.iloadN X3_.here hx rfl (hb hby d4_6) rfl ?_
    refine XS.iload X3_.here hx rfl (hb hby d4_7) rfl ?_
    refine XS.icmpNo X3_.here hx rfl (hb hby d4_9) rfl (tlt ((by decide) : (2 : Int32) < (3 : Int32))).2.1 ?_
    show Steps p.tables e below (T3_.setTop (mkF m 12 #[.val (.ref a1), .val (.double v1), .second, .val (.int (2 : Int32)), .val (.int (3 : Int32))] [])) _
    refine XS.aloadN X3_.here hx rfl (hb hby d4_12) rfl rfl ?_
    refine XS.iloadN X3_.here hx rfl (hb hby d4_13) rfl ?_
    refine XS.dloadN X3_.here hx rfl (hb hby d4_14) rfl ?_
    refine st4_ _ ?_
    show Steps p.tables e below (T4_.setTop (mkF m 16 #[.val (.ref a1), .val (.double v1), .second, .val (.int (2 : Int32)), .val (.int (3 : Int32))] [])) _
    refine XS.iinc X4_.here hx rfl (hb hby d4_16) rfl (l' := #[.val (.ref a1), .val (.double v1), .second, .val (.int (3 : Int32)), .val (.int (3 : Int32))]) rfl ?_
    show Steps p.tables e below (T4_.setTop (mkF m 19 #[.val (.ref a1), .val (.double v1), .second, .val (.int (3 : Int32)), .val (.int (3 : Int32))] [])) _
    refine XS.goto X4_.here hx rfl (pc0 := 19) (pc' := 6) rfl (hb hby d4_19) (by decide) (by decide) ?_
    show Steps p.tables e below (T4_.setTop (mkF m 6 #[.val (.ref a1), .val (.double v1), .second, .val (.int (3 : Int32)), .val (.int (3 : Int32))] [])) _
    refine XS.iloadN X4_.here hx rfl (hb hby d4_6) rfl ?_
    refine XS.iload X4_.here hx rfl (hb hby d4_7) rfl ?_
    refine XS.icmpYes X4_.here hx rfl (pc0 := 9) (pc' := 22) rfl (hb hby d4_9) rfl (flt ((by decide) : ¬ ((3 : Int32) < (3 : Int32)))).2.1 (by decide) (by decide) ?_
    show Steps p.tables e below (T4_.setTop (mkF m 22 #[.val (.ref a1), .val (.double v1), .second, .val (.int (3 : Int32)), .val (.int (3 : Int32))] [])) _
    exact X4_.returnOut hx Bd.returns (hb hby d4_22) hr
  · show Q_rmFill3 Z a1 v1 k1 x0 x1 x2 h0 n0 _ T4_.heap _
    rw [e4_]
    exact ⟨rfl, N4_, k7_, v4_⟩
theorem ef_rmInit3 (m : MethodId) (x0 : Addr) (x1 : Int32) (x2 : UInt64) : entryFrame m #[(.ref x0), (.int x1), (.double x2)] 4 = mkF m 0 #[.val (.ref x0), .val (.int x1), .val (.double x2), .second] [] := by first | (simp [entryFrame, mkF, argsToLocals, Value.category]; done) | rfl
def Q_rmInit3 (Z : State) (a1 : Addr) (v1 : UInt64) (h0 : Heap) (n0 : Nat) (v : Option Value) (h : Heap) (L : List Loc) : Prop := ∃ (t : Addr) (k : ClassId), v = none ∧ Fr n0 L ∧ Keep h0 h [a1] ∧ (h0.size ≤ t) ∧ (Exa Z h a1 "com/example/whipstill/whipstill/MovingWindow") ∧ (Fld Z h a1 "com/example/whipstill/whipstill/MovingWindow" "values" "[D" (.ref t)) ∧ (Fld Z h a1 "com/example/whipstill/whipstill/MovingWindow" "oldest" "I" (.int (0 : Int32))) ∧ (Arv Z h t k .double (3 : Int32) [(.double v1), (.double v1), (.double v1)] (.double (0 : UInt64)))
set_option maxRecDepth 65536 in
set_option maxHeartbeats 40000000 in
theorem rmInit3 (l : Launch) (Z : State) (a0 : Array Value) (hw : ∀ d ∈ tables_1, d.before a0 Z = true) (ws : List Jvm.Cond) (a1 : Addr) (v1 : UInt64) (h0 : Heap) (n0 : Nat) (Z0 : n0 ≤ h0.size) (E1 : Exa Z h0 a1 "com/example/whipstill/whipstill/MovingWindow") (F1 : Fld Z h0 a1 "com/example/whipstill/whipstill/MovingWindow" "values" "[D" .null) (F2 : Fld Z h0 a1 "com/example/whipstill/whipstill/MovingWindow" "oldest" "I" (.int (0 : Int32))) (g1 : n0 ≤ a1) :
    MetFree l (⟨"com/example/whipstill/whipstill/MovingWindow", "<init>", "(ID)V"⟩ : MethodName) (head1 (Jvm.Cond.code (⟨"com/example/whipstill/whipstill/MovingWindow", "<init>", "(ID)V"⟩ : MethodName) prog_11_method_1_code 4 none :: ws) ({ frames := 1, cells := 1, slots := 3, locals := 16 } : Room)) (fun a U => a = #[(.ref a1), (.int (3 : Int32)), (.double v1)] ∧ Z.Warmed39 U.vm ∧ U.heap = h0) (fun _ _ _ _ _ => True) (fun _ U o U' => ∃ v L, o = .returned v ∧ Q_rmInit3 Z a1 v1 h0 n0 v U'.heap L ∧ FrameEnd U o U' L ({ frames := 1, cells := 1, slots := 3, locals := 16 } : Room).cells ({ frames := 1, cells := 1, slots := 3, locals := 16 } : Room).slots) := by
  refine MetFree.of_bodySF (plainFor_of_name pn_com_example_whipstill_whipstill_MovingWindow) hisR ?_
  intro p e s m args below meth c s₁ Bd hml0 hP hK
  obtain ⟨rfl, hZ, hh⟩ := hP
  have hx := Bd.exec
  have hby := Bd.bytes
  have hml : c.maxLocals = 4 := hml0
  have hown : s.vm.findClass "com/example/whipstill/whipstill/MovingWindow" = some m.cls := findClass_of_methodNamed Bd.named
  have hnm := (name_of_methodNamed Bd.named Bd.method).1
  have X0 : Stand p l e ({ frames := 1, cells := 1, slots := 3, locals := 16 } : Room) s m #[(.ref a1), (.int (3 : Int32)), (.double v1)] below meth c s₁ [] 0 0 := Stand.of_body Bd
  have e0 : s₁.heap = h0 := by rw [← hh, Bd.state]; rfl
  have N0 := Fr.nil n0
  have pre0 : ∀ t, Steps p.tables e below (s₁.setTop (mkF m 0 #[.val (.ref a1), .val (.int (3 : Int32)), .val (.double v1), .second] [])) t → Steps p.tables e below (s₁.setTop (entryFrame m #[(.ref a1), (.int (3 : Int32)), (.double v1)] 4)) t := fun t k => castTop (ef_rmInit3 m a1 (3 : Int32) v1) k
  obtain ⟨T1_, X1_, e1_, st1_⟩ := initO X0 hx hZ hown (hw _ (List.mem_of_getElem? (i := 10) rfl)) (hw _ (List.mem_of_getElem? (i := 11) rfl)) (hw _ (List.mem_of_getElem? (i := 12) rfl)) e0 (g := (mkF m 1 #[.val (.ref a1), .val (.int (3 : Int32)), .val (.double v1), .second] [(.ref a1)])) rfl (by rw [hml]; rfl) rfl (hb hby d2_1) (by decide) (W := 0) (by show 2 * 0 + _ ≤ _; exact Nat.le_of_eq rfl) (by decide)
  obtain ⟨T2_, h2_, k2_, X2_, e2_, E2_, A2_, st2_⟩ := newP X1_ hx hZ (hw _ (List.mem_of_getElem? (i := 13) rfl)) e1_ (g := (mkF m 25 #[.val (.ref a1), .val (.int (3 : Int32)), .val (.double v1), .second] [(.int (3 : Int32)), (.ref a1)])) rfl (hb hby d2_25) rfl (by decide) (cap := 3) (by decide) (by decide) (by exact Nat.le_of_ble_eq_true rfl) (by exact Nat.le_of_ble_eq_true rfl)
  obtain ⟨b2_, g2_⟩ : ∃ z, z = h0.size := ⟨_, rfl⟩
  rw [← g2_] at A2_ st2_
  have v2_ : Arv Z h2_ b2_ k2_ .double (3 : Int32) [(.double (0 : UInt64)), (.double (0 : UInt64)), (.double (0 : UInt64))] (.double (0 : UInt64)) := (Arv.new A2_ (by decide)).pad (pad_rep [] (.double (0 : UInt64)) 3)
  have f3_ : Exa Z h2_ a1 "com/example/whipstill/whipstill/MovingWindow" := (E1.ext E2_)
  have f4_ : Fld Z h2_ a1 "com/example/whipstill/whipstill/MovingWindow" "values" "[D" .null := (F1.ext E2_)
  obtain ⟨T5_, h5_, X5_, e5_, W5_, st5_⟩ := putF X2_ hx hZ hown (host := "") (Or.inl (hw _ (List.mem_of_getElem? (i := 14) rfl))) Via.refl e2_ f4_ f3_ (Or.inr ⟨(hw _ (List.mem_of_getElem? (i := 15) rfl)), rfl, hnm⟩) (hw _ (List.mem_of_getElem? (i := 5) rfl)) (ty := (.array .double)) (by decide) rfl rfl (g := (mkF m 27 #[.val (.ref a1), .val (.int (3 : Int32)), .val (.double v1), .second] [(.ref b2_), (.ref a1)])) rfl rfl (hb hby d2_27)
  have w5_ : Fld Z h5_ a1 "com/example/whipstill/whipstill/MovingWindow" "values" "[D" (.ref b2_) := f4_.same W5_
  have N5_ := Fr.snoc X5_ N0 g1
  obtain ⟨T6_, X6_, e6_, st6_⟩ := getF X5_ hx hZ hown (host := "") (Or.inl (hw _ (List.mem_of_getElem? (i := 14) rfl))) Via.refl e5_ w5_ (g := (mkF m 31 #[.val (.ref a1), .val (.int (3 : Int32)), .val (.double v1), .second] [(.ref a1)])) rfl rfl (hb hby d2_31)
  have f8_ : Arv Z h5_ b2_ k2_ .double (3 : Int32) [(.double (0 : UInt64)), (.double (0 : UInt64)), (.double (0 : UInt64))] (.double (0 : UInt64)) := (v2_.other W5_ (Ne.symm (Nat.ne_of_lt (Nat.lt_of_lt_of_le E1.lt (Nat.le_of_eq g2_.symm)))))
  have g9_ : n0 ≤ b2_ := Nat.le_trans Z0 (Nat.le_of_eq g2_.symm)
  have z10_ : n0 ≤ h2_.size := Nat.le_trans Z0 E2_.1
  have z11_ : n0 ≤ h5_.size := Nat.le_trans z10_ (Keep.of_wr W5_).1
  obtain ⟨_, _, ⟨T7_, L7_, k7_, n7_⟩, -, X7_, ⟨Lc7_, hQ7_, l7_, y7_, z7_⟩, st7_⟩ := Jvm.LawKit.callS X6_ hx (y := (⟨"java/util/Arrays", "fill", "([DD)V"⟩ : MethodName)) hown (mvT hZ (hw _ (List.mem_of_getElem? (i := 16) rfl))) (mvT hZ (hw _ (List.mem_of_getElem? (i := 17) rfl))) (mvT hZ (hw _ (List.mem_of_getElem? (i := 18) rfl))) (mvT hZ (hw _ (List.mem_of_getElem? (i := 19) rfl))) (by decide) (backOf (W := 0) (rmFill3 l Z a0 hw [] b2_ v1 k2_ (0 : UInt64) (0 : UInt64) (0 : UInt64) h5_ n0 z11_ f8_ g9_) hZ (hw _ (List.mem_of_getElem? (i := 19) rfl)) (hw _ (List.mem_of_getElem? (i := 18) rfl)) (by decide) (by decide)) (g := (mkF m 35 #[.val (.ref a1), .val (.int (3 : Int32)), .val (.double v1), .second] [(.double v1), (.ref b2_)])) rfl (by rw [hml]; rfl) (argsL := [(.ref b2_), (.double v1)]) (rest := []) (lenOf pd_qaDDzV rfl) rfl (by show 2 * 0 + _ ≤ _; exact Nat.le_of_eq rfl) (hb hby d2_35) (fun _ _ => ⟨rfl, e6_, (by exact Nat.le_of_ble_eq_true rfl), (by exact Nat.le_of_ble_eq_true rfl)⟩)
  dsimp only [Pt.U, Pt.locs, Pt.cells, Pt.slots] at X7_ l7_ y7_ z7_ st7_ hQ7_
  subst L7_ k7_ n7_
  obtain ⟨rfl, Nq7_, ek7_, p7__0⟩ := hQ7_
  have N7_ := Fr.app N5_ Nq7_
  have f12_ : Exa Z T7_.heap a1 "com/example/whipstill/whipstill/MovingWindow" := ((f3_.wr W5_).keep ek7_)
  have f13_ : Fld Z T7_.heap a1 "com/example/whipstill/whipstill/MovingWindow" "values" "[D" (.ref b2_) := (w5_.keep ek7_ (ninS (Nat.ne_of_lt (Nat.lt_of_lt_of_le E1.lt (Nat.le_of_eq g2_.symm))) nin0))
  have f14_ : Fld Z T7_.heap a1 "com/example/whipstill/whipstill/MovingWindow" "oldest" "I" (.int (0 : Int32)) := (((F2.ext E2_).other W5_ (Or.inr (slot_ne (Or.inl (hw _ (List.mem_of_getElem? (i := 38) rfl))) (Or.inr (hw _ (List.mem_of_getElem? (i := 15) rfl))) (by decide) (t := .int) (t' := (.array .double)) (by decide) (by decide)))).keep ek7_ (ninS (Nat.ne_of_lt (Nat.lt_of_lt_of_le E1.lt (Nat.le_of_eq g2_.symm))) nin0))
  have k15_ : Keep h0 h2_ [a1] := (Keep.refl h0 [a1]).ext E2_
  have k16_ : Keep h0 h5_ [a1] := k15_.wr W5_ (Or.inl (List.mem_of_getElem? (i := 0) rfl))
  have k17_ : Keep h0 T7_.heap [a1] := k16_.trans ek7_ (allS (Or.inr (Nat.le_trans (Keep.refl h0 [a1]).1 (Nat.le_of_eq g2_.symm))) all0)
  obtain ⟨fs, hr, hrun, hended, hW, hsame⟩ := X7_.leave (v := none) (fun h => by first | rfl | (rw [Bd.returns] at h; cases h))
  refine ⟨_, _, pre0 _ ?_, hrun, hended, _, _, rfl, ?_, ⟨_, rfl⟩, hW, hsame.mono (by exact Nat.le_of_ble_eq_true rfl) (by exact Nat.le_of_ble_eq_true rfl)⟩
  · show Steps p.tables e below (s₁.setTop (mkF m 0 #[.val (.ref a1), .val (.int (3 : Int32)), .val (.double v1), .second] [])) _
    refine XS.aloadN X0.here hx rfl (hb hby d2_0) rfl rfl ?_
    refine st1_ _ ?_
    show Steps p.tables e below (T1_.setTop (mkF m 4 #[.val (.ref a1), .val (.int (3 : Int32)), .val (.double v1), .second] [])) _
    refine XS.iloadN X1_.here hx rfl (hb hby d2_4) rfl ?_
    refine XS.iconst X1_.here hx rfl (hb hby d2_5) ?_
    refine XS.icmpYes X1_.here hx rfl (pc0 := 6) (pc' := 23) rfl (hb hby d2_6) rfl (flt ((by decide) : ¬ ((3 : Int32) < (1 : Int32)))).2.1 (by decide) (by decide) ?_
    show Steps p.tables e below (T1_.setTop (mkF m 23 #[.val (.ref a1), .val (.int (3 : Int32)), .val (.double v1), .second] [])) _
    refine XS.aloadN X1_.here hx rfl (hb hby d2_23) rfl rfl ?_
    refine XS.iloadN X1_.here hx rfl (hb hby d2_24) rfl ?_
    refine st2_ _ ?_
    show Steps p.tables e below (T2_.setTop (mkF m 27 #[.val (.ref a1), .val (.int (3 : Int32)), .val (.double v1), .second] [(.ref b2_), (.ref a1)])) _
    refine st5_ _ ?_
    show Steps p.tables e below (T5_.setTop (mkF m 30 #[.val (.ref a1), .val (.int (3 : Int32)), .val (.double v1), .second] [])) _
    refine XS.aloadN X5_.here hx rfl (hb hby d2_30) rfl rfl ?_
    refine st6_ _ ?_
    show Steps p.tables e below (T6_.setTop (mkF m 34 #[.val (.ref a1), .val (.int (3 : Int32)), .val (.double v1), .second] [(.ref b2_)])) _
    refine XS.dloadN X6_.here hx rfl (hb hby d2_34) rfl ?_
    refine st7_ _ ?_
    show Steps p.tables e below (T7_.setTop (mkF m 38 #[.val (.ref a1), .val (.int (3 : Int32)), .val (.double v1), .second] [])) _
    exact X7_.returnOut hx Bd.returns (hb hby d2_38) hr
  · show Q_rmInit3 Z a1 v1 h0 n0 _ T7_.heap _
    skip
    exact ⟨b2_, k2_, rfl, N7_, k17_, (Nat.le_trans (Keep.refl h0 [a1]).1 (Nat.le_of_eq g2_.symm)), f12_, f13_, f14_, p7__0⟩
theorem ef_rmFill4 (m : MethodId) (x0 : Addr) (x1 : UInt64) : entryFrame m #[(.ref x0), (.double x1)] 5 = mkF m 0 #[.val (.ref x0), .val (.double x1), .second, .unset, .unset] [] := by first | (simp [entryFrame, mkF, argsToLocals, Value.category]; done) | rfl
def Q_rmFill4 (Z : State) (a1 : Addr) (v1 : UInt64) (k1 : ClassId) (x0 : UInt64) (x1 : UInt64) (x2 : UInt64) (x3 : UInt64) (h0 : Heap) (n0 : Nat) (v : Option Value) (h : Heap) (L : List Loc) : Prop := v = none ∧ Fr n0 L ∧ Keep h0 h [a1] ∧ (Arv Z h a1 k1 .double (4 : Int32) [(.double v1), (.double v1), (.double v1), (.double v1)] (.double (0 : UInt64)))
set_option maxRecDepth 65536 in
set_option maxHeartbeats 40000000 in
theorem rmFill4 (l : Launch) (Z : State) (a0 : Array Value) (hw : ∀ d ∈ tables_1, d.before a0 Z = true) (ws : List Jvm.Cond) (a1 : Addr) (v1 : UInt64) (k1 : ClassId) (x0 : UInt64) (x1 : UInt64) (x2 : UInt64) (x3 : UInt64) (h0 : Heap) (n0 : Nat) (Z0 : n0 ≤ h0.size) (V1 : Arv Z h0 a1 k1 .double (4 : Int32) [(.double x0), (.double x1), (.double x2), (.double x3)] (.double (0 : UInt64))) (g1 : n0 ≤ a1) :
    MetFree l (⟨"java/util/Arrays", "fill", "([DD)V"⟩ : MethodName) (head1 (Jvm.Cond.code (⟨"java/util/Arrays", "fill", "([DD)V"⟩ : MethodName) jdk_65_method_113_code 5 none :: ws) ({ frames := 0, cells := 0, slots := 0, locals := 0 } : Room)) (fun a U => a = #[(.ref a1), (.double v1)] ∧ Z.Warmed39 U.vm ∧ U.heap = h0) (fun _ _ _ _ _ => True) (fun _ U o U' => ∃ v L, o = .returned v ∧ Q_rmFill4 Z a1 v1 k1 x0 x1 x2 x3 h0 n0 v U'.heap L ∧ FrameEnd U o U' L ({ frames := 0, cells := 0, slots := 0, locals := 0 } : Room).cells ({ frames := 0, cells := 0, slots := 0, locals := 0 } : Room).slots) := by
  refine MetFree.of_bodySF (plainFor_of_name pn_java_util_Arrays) hisR ?_
  intro p e s m args below meth c s₁ Bd hml0 hP hK
  obtain ⟨rfl, hZ, hh⟩ := hP
  have hx := Bd.exec
  have hby := Bd.bytes
  have hml : c.maxLocals = 5 := hml0
  have hown : s.vm.findClass "java/util/Arrays" = some m.cls := findClass_of_methodNamed Bd.named
  have hnm := (name_of_methodNamed Bd.named Bd.method).1
  have X0 : Stand p l e ({ frames := 0, cells := 0, slots := 0, locals := 0 } : Room) s m #[(.ref a1), (.double v1)] below meth c s₁ [] 0 0 := Stand.of_body Bd
  have e0 : s₁.heap = h0 := by rw [← hh, Bd.state]; rfl
  have N0 := Fr.nil n0
  have pre0 : ∀ t, Steps p.tables e below (s₁.setTop (mkF m 0 #[.val (.ref a1), .val (.double v1), .second, .unset, .unset] [])) t → Steps p.tables e below (s₁.setTop (entryFrame m #[(.ref a1), (.double v1)] 5)) t := fun t k => castTop (ef_rmFill4 m a1 v1) k
  obtain ⟨cl1_, Ar1_, q1_, S1_, M1_, Hs1_, G1_⟩ := id V1
  obtain ⟨cl2_, Ar2_, q2_, S2_, M2_, Hs2_, G2_⟩ := id V1
  have in2_ : ¬ ((0 : Int32) < 0 ∨ cl2_.slots.size ≤ ((0 : Int32)).toNatClampNeg) := inb_of S2_ ⟨by decide, by decide⟩
  obtain ⟨T2_, h2_, X2_, e2_, W2_, st2_⟩ := stD X0 hx hZ e0 Ar2_ (j := (0 : Int32)) in2_ (g := (mkF m 15 #[.val (.ref a1), .val (.double v1), .second, .val (.int (0 : Int32)), .val (.int (4 : Int32))] [(.double v1), (.int (0 : Int32)), (.ref a1)])) rfl rfl (hb hby d4_15)
  have v2_ : Arv Z h2_ a1 k1 .double (4 : Int32) [(.double v1), (.double x1), (.double x2), (.double x3)] (.double (0 : UInt64)) := Arv.set Ar2_ q2_ S2_ M2_ Hs2_ G2_ rfl W2_ 0 rfl (Nat.le_of_ble_eq_true rfl)
  have N2_ := Fr.snoc X2_ N0 g1
  obtain ⟨cl3_, Ar3_, q3_, S3_, M3_, Hs3_, G3_⟩ := id v2_
  have in3_ : ¬ ((1 : Int32) < 0 ∨ cl3_.slots.size ≤ ((1 : Int32)).toNatClampNeg) := inb_of S3_ ⟨by decide, by decide⟩
  obtain ⟨T3_, h3_, X3_, e3_, W3_, st3_⟩ := stD X2_ hx hZ e2_ Ar3_ (j := (1 : Int32)) in3_ (g := (mkF m 15 #[.val (.ref a1), .val (.double v1), .second, .val (.int (1 : Int32)), .val (.int (4 : Int32))] [(.double v1), (.int (1 : Int32)), (.ref a1)])) rfl rfl (hb hby d4_15)
  have v3_ : Arv Z h3_ a1 k1 .double (4 : Int32) [(.double v1), (.double v1), (.double x2), (.double x3)] (.double (0 : UInt64)) := Arv.set Ar3_ q3_ S3_ M3_ Hs3_ G3_ rfl W3_ 1 rfl (Nat.le_of_ble_eq_true rfl)
  have N3_ := Fr.snoc X3_ N2_ g1
  obtain ⟨cl4_, Ar4_, q4_, S4_, M4_, Hs4_, G4_⟩ := id v3_
  have in4_ : ¬ ((2 : Int32) < 0 ∨ cl4_.slots.size ≤ ((2 : Int32)).toNatClampNeg) := inb_of S4_ ⟨by decide, by decide⟩
  obtain ⟨T4_, h4_, X4_, e4_, W4_, st4_⟩ := stD X3_ hx hZ e3_ Ar4_ (j := (2 : Int32)) in4_ (g := (mkF m 15 #[.val (.ref a1), .val (.double v1), .second, .val (.int (2 : Int32)), .val (.int (4 : Int32))] [(.double v1), (.int (2 : Int32)), (.ref a1)])) rfl rfl (hb hby d4_15)
  have v4_ : Arv Z h4_ a1 k1 .double (4 : Int32) [(.double v1), (.double v1), (.double v1), (.double x3)] (.double (0 : UInt64)) := Arv.set Ar4_ q4_ S4_ M4_ Hs4_ G4_ rfl W4_ 2 rfl (Nat.le_of_ble_eq_true rfl)
  have N4_ := Fr.snoc X4_ N3_ g1
  obtain ⟨cl5_, Ar5_, q5_, S5_, M5_, Hs5_, G5_⟩ := id v4_
  have in5_ : ¬ ((3 : Int32) < 0 ∨ cl5_.slots.size ≤ ((3 : Int32)).toNatClampNeg) := inb_of S5_ ⟨by decide, by decide⟩
  obtain ⟨T5_, h5_, X5_, e5_, W5_, st5_⟩ := stD X4_ hx hZ e4_ Ar5_ (j := (3 : Int32)) in5_ (g := (mkF m 15 #[.val (.ref a1), .val (.double v1), .second, .val (.int (3 : Int32)), .val (.int (4 : Int32))] [(.double v1), (.int (3 : Int32)), (.ref a1)])) rfl rfl (hb hby d4_15)
  have v5_ : Arv Z h5_ a1 k1 .double (4 : Int32) [(.double v1), (.double v1), (.double v1), (.double v1)] (.double (0 : UInt64)) := Arv.set Ar5_ q5_ S5_ M5_ Hs5_ G5_ rfl W5_ 3 rfl (Nat.le_of_ble_eq_true rfl)
  have N5_ := Fr.snoc X5_ N4_ g1
  have k6_ : Keep h0 h2_ [a1] := (Keep.refl h0 [a1]).wr W2_ (Or.inl (List.mem_of_getElem? (i := 0) rfl))
  have k7_ : Keep h0 h3_ [a1] := k6_.wr W3_ (Or.inl (List.mem_of_getElem? (i := 0) rfl))
  have k8_ : Keep h0 h4_ [a1] := k7_.wr W4_ (Or.inl (List.mem_of_getElem? (i := 0) rfl))
  have k9_ : Keep h0 h5_ [a1] := k8_.wr W5_ (Or.inl (List.mem_of_getElem? (i := 0) rfl))
  obtain ⟨fs, hr, hrun, hended, hW, hsame⟩ := X5_.leave (v := none) (fun h => by first | rfl | (rw [Bd.returns] at h; cases h))
  refine ⟨_, _, pre0 _ ?_, hrun, hended, _, _, rfl, ?_, ⟨_, rfl⟩, hW, hsame.mono (by exact Nat.le_of_ble_eq_true rfl) (by exact Nat.le_of_ble_eq_true rfl)⟩
  · show Steps p.tables e below (s₁.setTop (mkF m 0 #[.val (.ref a1), .val (.double v1), .second, .unset, .unset] [])) _
    refine XS.iconst X0.here hx rfl (hb hby d4_0) ?_
    refine XS.istoreN X0.here hx rfl (hb hby d4_1) rfl (l' := #[.val (.ref a1), .val (.double v1), .second, .val (.int (0 : Int32)), .unset]) rfl ?_
    show Steps p.tables e below (s₁.setTop (mkF m 2 #[.val (.ref a1), .val (.double v1), .second, .val (.int (0 : Int32)), .unset] [])) _
    refine XS.aloadN X0.here hx rfl (hb hby d4_2) rfl rfl ?_
    refine X0.arraylength hx (by rw [e0]; exact Ar1_.1) (State.isArrayOf_alike (State.Warmed39.alike hZ) Ar1_.2.1) (g := (mkF m 3 #[.val (.ref a1), .val (.double v1), .second, .val (.int (0 : Int32)), .unset] [(.ref a1)])) rfl rfl (hb hby d4_3) _ ?_
    rw [len_of S1_ M1_]
    show Steps p.tables e below (s₁.setTop (mkF m 4 #[.val (.ref a1), .val (.double v1), .second, .val (.int (0 : Int32)), .unset] [(.int (4 : Int32))])) _
    refine XS.istore X0.here hx rfl (hb hby d4_4) rfl (l' := #[.val (.ref a1), .val (.double v1), .second, .val (.int (0 : Int32)), .val (.int (4 : Int32))]) rfl ?_
    show Steps p.tables e below (s₁.setTop (mkF m 6 #[.val (.ref a1), .val (.double v1), .second, .val (.int (0 : Int32)), .val (.int (4 : Int32))] [])) _
    refine XS.iloadN X0.here hx rfl (hb hby d4_6) rfl ?_
    refine XS.iload X0.here hx rfl (hb hby d4_7) rfl ?_
    refine XS.icmpNo X0.here hx rfl (hb hby d4_9) rfl (tlt ((by decide) : (0 : Int32) < (4 : Int32))).2.1 ?_
    show Steps p.tables e below (s₁.setTop (mkF m 12 #[.val (.ref a1), .val (.double v1), .second, .val (.int (0 : Int32)), .val (.int (4 : Int32))] [])) _
    refine XS.aloadN X0.here hx rfl (hb hby d4_12) rfl rfl ?_
    refine XS.iloadN X0.here hx rfl (hb hby d4_13) rfl ?_
    refine XS.dloadN X0.here hx rfl (hb hby d4_14) rfl ?_
    refine st2_ _ ?_
    show Steps p.tables e below (T2_.setTop (mkF m 16 #[.val (.ref a1), .val (.double v1), .second, .val (.int (0 : Int32)), .val (.int (4 : Int32))] [])) _
    refine XS.iinc X2_.here hx rfl (hb hby d4_16) rfl (l' := #[.val (.ref a1), .val (.double v1), .second, .val (.int (1 : Int32)), .val (.int (4 : Int32))]) rfl ?_
    show Steps p.tables e below (T2_.setTop (mkF m 19 #[.val (.ref a1), .val (.double v1), .second, .val (.int (1 : Int32)), .val (.int (4 : Int32))] [])) _
    refine XS.goto X2_.here hx rfl (pc0 := 19) (pc' := 6) rfl (hb hby d4_19) (by decide) (by decide) ?_
    show Steps p.tables e below (T2_.setTop (mkF m 6 #[.val (.ref a1), .val (.double v1), .second, .val (.int (1 : Int32)), .val (.int (4 : Int32))] [])) _
    refine XS.iloadN X2_.here hx rfl (hb hby d4_6) rfl ?_
    refine XS.iload X2_.here hx rfl (hb hby d4_7) rfl ?_
    refine XS.icmpNo X2_.here hx rfl (hb hby d4_9) rfl (tlt ((by decide) : (1 : Int32) < (4 : Int32))).2.1 ?_
    show Steps p.tables e below (T2_.setTop (mkF m 12 #[.val (.ref a1), .val (.double v1), .second, .val (.int (1 : Int32)), .val (.int (4 : Int32))] [])) _
    refine XS.aloadN X2_.here hx rfl (hb hby d4_12) rfl rfl ?_
    refine XS.iloadN X2_.here hx rfl (hb hby d4_13) rfl ?_
    refine XS.dloadN X2_.here hx rfl (hb hby d4_14) rfl ?_
    refine st3_ _ ?_
    show Steps p.tables e below (T3_.setTop (mkF m 16 #[.val (.ref a1), .val (.double v1), .second, .val (.int (1 : Int32)), .val (.int (4 : Int32))] [])) _
    refine XS.iinc X3_.here hx rfl (hb hby d4_16) rfl (l' := #[.val (.ref a1), .val (.double v1), .second, .val (.int (2 : Int32)), .val (.int (4 : Int32))]) rfl ?_
    show Steps p.tables e below (T3_.setTop (mkF m 19 #[.val (.ref a1), .val (.double v1), .second, .val (.int (2 : Int32)), .val (.int (4 : Int32))] [])) _
    refine XS.goto X3_.here hx rfl (pc0 := 19) (pc' := 6) rfl (hb hby d4_19) (by decide) (by decide) ?_
    show Steps p.tables e below (T3_.setTop (mkF m 6 #[.val (.ref a1), .val (.double v1), .second, .val (.int (2 : Int32)), .val (.int (4 : Int32))] [])) _
    refine XS.iloadN X3_.here hx rfl (hb hby d4_6) rfl ?_
    refine XS.iload X3_.here hx rfl (hb hby d4_7) rfl ?_
    refine XS.icmpNo X3_.here hx rfl (hb hby d4_9) rfl (tlt ((by decide) : (2 : Int32) < (4 : Int32))).2.1 ?_
    show Steps p.tables e below (T3_.setTop (mkF m 12 #[.val (.ref a1), .val (.double v1), .second, .val (.int (2 : Int32)), .val (.int (4 : Int32))] [])) _
    refine XS.aloadN X3_.here hx rfl (hb hby d4_12) rfl rfl ?_
    refine XS.iloadN X3_.here hx rfl (hb hby d4_13) rfl ?_
    refine XS.dloadN X3_.here hx rfl (hb hby d4_14) rfl ?_
    refine st4_ _ ?_
    show Steps p.tables e below (T4_.setTop (mkF m 16 #[.val (.ref a1), .val (.double v1), .second, .val (.int (2 : Int32)), .val (.int (4 : Int32))] [])) _
    refine XS.iinc X4_.here hx rfl (hb hby d4_16) rfl (l' := #[.val (.ref a1), .val (.double v1), .second, .val (.int (3 : Int32)), .val (.int (4 : Int32))]) rfl ?_
    show Steps p.tables e below (T4_.setTop (mkF m 19 #[.val (.ref a1), .val (.double v1), .second, .val (.int (3 : Int32)), .val (.int (4 : Int32))] [])) _
    refine XS.goto X4_.here hx rfl (pc0 := 19) (pc' := 6) rfl (hb hby d4_19) (by decide) (by decide) ?_
    show Steps p.tables e below (T4_.setTop (mkF m 6 #[.val (.ref a1), .val (.double v1), .second, .val (.int (3 : Int32)), .val (.int (4 : Int32))] [])) _
    refine XS.iloadN X4_.here hx rfl (hb hby d4_6) rfl ?_
    refine XS.iload X4_.here hx rfl (hb hby d4_7) rfl ?_
    refine XS.icmpNo X4_.here hx rfl (hb hby d4_9) rfl (tlt ((by decide) : (3 : Int32) < (4 : Int32))).2.1 ?_
    show Steps p.tables e below (T4_.setTop (mkF m 12 #[.val (.ref a1), .val (.double v1), .second, .val (.int (3 : Int32)), .val (.int (4 : Int32))] [])) _
    refine XS.aloadN X4_.here hx rfl (hb hby d4_12) rfl rfl ?_
    refine XS.iloadN X4_.here hx rfl (hb hby d4_13) rfl ?_
    refine XS.dloadN X4_.here hx rfl (hb hby d4_14) rfl ?_
    refine st5_ _ ?_
    show Steps p.tables e below (T5_.setTop (mkF m 16 #[.val (.ref a1), .val (.double v1), .second, .val (.int (3 : Int32)), .val (.int (4 : Int32))] [])) _
    refine XS.iinc X5_.here hx rfl (hb hby d4_16) rfl (l' := #[.val (.ref a1), .val (.double v1), .second, .val (.int (4 : Int32)), .val (.int (4 : Int32))]) rfl ?_
    show Steps p.tables e below (T5_.setTop (mkF m 19 #[.val (.ref a1), .val (.double v1), .second, .val (.int (4 : Int32)), .val (.int (4 : Int32))] [])) _
    refine XS.goto X5_.here hx rfl (pc0 := 19) (pc' := 6) rfl (hb hby d4_19) (by decide) (by decide) ?_
    show Steps p.tables e below (T5_.setTop (mkF m 6 #[.val (.ref a1), .val (.double v1), .second, .val (.int (4 : Int32)), .val (.int (4 : Int32))] [])) _
    refine XS.iloadN X5_.here hx rfl (hb hby d4_6) rfl ?_
    refine XS.iload X5_.here hx rfl (hb hby d4_7) rfl ?_
    refine XS.icmpYes X5_.here hx rfl (pc0 := 9) (pc' := 22) rfl (hb hby d4_9) rfl (flt ((by decide) : ¬ ((4 : Int32) < (4 : Int32)))).2.1 (by decide) (by decide) ?_
    show Steps p.tables e below (T5_.setTop (mkF m 22 #[.val (.ref a1), .val (.double v1), .second, .val (.int (4 : Int32)), .val (.int (4 : Int32))] [])) _
    exact X5_.returnOut hx Bd.returns (hb hby d4_22) hr
  · show Q_rmFill4 Z a1 v1 k1 x0 x1 x2 x3 h0 n0 _ T5_.heap _
    rw [e5_]
    exact ⟨rfl, N5_, k9_, v5_⟩
theorem ef_rmInit4 (m : MethodId) (x0 : Addr) (x1 : Int32) (x2 : UInt64) : entryFrame m #[(.ref x0), (.int x1), (.double x2)] 4 = mkF m 0 #[.val (.ref x0), .val (.int x1), .val (.double x2), .second] [] := by first | (simp [entryFrame, mkF, argsToLocals, Value.category]; done) | rfl
def Q_rmInit4 (Z : State) (a1 : Addr) (v1 : UInt64) (h0 : Heap) (n0 : Nat) (v : Option Value) (h : Heap) (L : List Loc) : Prop := ∃ (t : Addr) (k : ClassId), v = none ∧ Fr n0 L ∧ Keep h0 h [a1] ∧ (h0.size ≤ t) ∧ (Exa Z h a1 "com/example/whipstill/whipstill/MovingWindow") ∧ (Fld Z h a1 "com/example/whipstill/whipstill/MovingWindow" "values" "[D" (.ref t)) ∧ (Fld Z h a1 "com/example/whipstill/whipstill/MovingWindow" "oldest" "I" (.int (0 : Int32))) ∧ (Arv Z h t k .double (4 : Int32) [(.double v1), (.double v1), (.double v1), (.double v1)] (.double (0 : UInt64)))
set_option maxRecDepth 65536 in
set_option maxHeartbeats 40000000 in
theorem rmInit4 (l : Launch) (Z : State) (a0 : Array Value) (hw : ∀ d ∈ tables_1, d.before a0 Z = true) (ws : List Jvm.Cond) (a1 : Addr) (v1 : UInt64) (h0 : Heap) (n0 : Nat) (Z0 : n0 ≤ h0.size) (E1 : Exa Z h0 a1 "com/example/whipstill/whipstill/MovingWindow") (F1 : Fld Z h0 a1 "com/example/whipstill/whipstill/MovingWindow" "values" "[D" .null) (F2 : Fld Z h0 a1 "com/example/whipstill/whipstill/MovingWindow" "oldest" "I" (.int (0 : Int32))) (g1 : n0 ≤ a1) :
    MetFree l (⟨"com/example/whipstill/whipstill/MovingWindow", "<init>", "(ID)V"⟩ : MethodName) (head1 (Jvm.Cond.code (⟨"com/example/whipstill/whipstill/MovingWindow", "<init>", "(ID)V"⟩ : MethodName) prog_11_method_1_code 4 none :: ws) ({ frames := 1, cells := 1, slots := 4, locals := 16 } : Room)) (fun a U => a = #[(.ref a1), (.int (4 : Int32)), (.double v1)] ∧ Z.Warmed39 U.vm ∧ U.heap = h0) (fun _ _ _ _ _ => True) (fun _ U o U' => ∃ v L, o = .returned v ∧ Q_rmInit4 Z a1 v1 h0 n0 v U'.heap L ∧ FrameEnd U o U' L ({ frames := 1, cells := 1, slots := 4, locals := 16 } : Room).cells ({ frames := 1, cells := 1, slots := 4, locals := 16 } : Room).slots) := by
  refine MetFree.of_bodySF (plainFor_of_name pn_com_example_whipstill_whipstill_MovingWindow) hisR ?_
  intro p e s m args below meth c s₁ Bd hml0 hP hK
  obtain ⟨rfl, hZ, hh⟩ := hP
  have hx := Bd.exec
  have hby := Bd.bytes
  have hml : c.maxLocals = 4 := hml0
  have hown : s.vm.findClass "com/example/whipstill/whipstill/MovingWindow" = some m.cls := findClass_of_methodNamed Bd.named
  have hnm := (name_of_methodNamed Bd.named Bd.method).1
  have X0 : Stand p l e ({ frames := 1, cells := 1, slots := 4, locals := 16 } : Room) s m #[(.ref a1), (.int (4 : Int32)), (.double v1)] below meth c s₁ [] 0 0 := Stand.of_body Bd
  have e0 : s₁.heap = h0 := by rw [← hh, Bd.state]; rfl
  have N0 := Fr.nil n0
  have pre0 : ∀ t, Steps p.tables e below (s₁.setTop (mkF m 0 #[.val (.ref a1), .val (.int (4 : Int32)), .val (.double v1), .second] [])) t → Steps p.tables e below (s₁.setTop (entryFrame m #[(.ref a1), (.int (4 : Int32)), (.double v1)] 4)) t := fun t k => castTop (ef_rmInit4 m a1 (4 : Int32) v1) k
  obtain ⟨T1_, X1_, e1_, st1_⟩ := initO X0 hx hZ hown (hw _ (List.mem_of_getElem? (i := 10) rfl)) (hw _ (List.mem_of_getElem? (i := 11) rfl)) (hw _ (List.mem_of_getElem? (i := 12) rfl)) e0 (g := (mkF m 1 #[.val (.ref a1), .val (.int (4 : Int32)), .val (.double v1), .second] [(.ref a1)])) rfl (by rw [hml]; rfl) rfl (hb hby d2_1) (by decide) (W := 0) (by show 2 * 0 + _ ≤ _; exact Nat.le_of_eq rfl) (by decide)
  obtain ⟨T2_, h2_, k2_, X2_, e2_, E2_, A2_, st2_⟩ := newP X1_ hx hZ (hw _ (List.mem_of_getElem? (i := 13) rfl)) e1_ (g := (mkF m 25 #[.val (.ref a1), .val (.int (4 : Int32)), .val (.double v1), .second] [(.int (4 : Int32)), (.ref a1)])) rfl (hb hby d2_25) rfl (by decide) (cap := 4) (by decide) (by decide) (by exact Nat.le_of_ble_eq_true rfl) (by exact Nat.le_of_ble_eq_true rfl)
  obtain ⟨b2_, g2_⟩ : ∃ z, z = h0.size := ⟨_, rfl⟩
  rw [← g2_] at A2_ st2_
  have v2_ : Arv Z h2_ b2_ k2_ .double (4 : Int32) [(.double (0 : UInt64)), (.double (0 : UInt64)), (.double (0 : UInt64)), (.double (0 : UInt64))] (.double (0 : UInt64)) := (Arv.new A2_ (by decide)).pad (pad_rep [] (.double (0 : UInt64)) 4)
  have f3_ : Exa Z h2_ a1 "com/example/whipstill/whipstill/MovingWindow" := (E1.ext E2_)
  have f4_ : Fld Z h2_ a1 "com/example/whipstill/whipstill/MovingWindow" "values" "[D" .null := (F1.ext E2_)
  obtain ⟨T5_, h5_, X5_, e5_, W5_, st5_⟩ := putF X2_ hx hZ hown (host := "") (Or.inl (hw _ (List.mem_of_getElem? (i := 14) rfl))) Via.refl e2_ f4_ f3_ (Or.inr ⟨(hw _ (List.mem_of_getElem? (i := 15) rfl)), rfl, hnm⟩) (hw _ (List.mem_of_getElem? (i := 5) rfl)) (ty := (.array .double)) (by decide) rfl rfl (g := (mkF m 27 #[.val (.ref a1), .val (.int (4 : Int32)), .val (.double v1), .second] [(.ref b2_), (.ref a1)])) rfl rfl (hb hby d2_27)
  have w5_ : Fld Z h5_ a1 "com/example/whipstill/whipstill/MovingWindow" "values" "[D" (.ref b2_) := f4_.same W5_
  have N5_ := Fr.snoc X5_ N0 g1
  obtain ⟨T6_, X6_, e6_, st6_⟩ := getF X5_ hx hZ hown (host := "") (Or.inl (hw _ (List.mem_of_getElem? (i := 14) rfl))) Via.refl e5_ w5_ (g := (mkF m 31 #[.val (.ref a1), .val (.int (4 : Int32)), .val (.double v1), .second] [(.ref a1)])) rfl rfl (hb hby d2_31)
  have f8_ : Arv Z h5_ b2_ k2_ .double (4 : Int32) [(.double (0 : UInt64)), (.double (0 : UInt64)), (.double (0 : UInt64)), (.double (0 : UInt64))] (.double (0 : UInt64)) := (v2_.other W5_ (Ne.symm (Nat.ne_of_lt (Nat.lt_of_lt_of_le E1.lt (Nat.le_of_eq g2_.symm)))))
  have g9_ : n0 ≤ b2_ := Nat.le_trans Z0 (Nat.le_of_eq g2_.symm)
  have z10_ : n0 ≤ h2_.size := Nat.le_trans Z0 E2_.1
  have z11_ : n0 ≤ h5_.size := Nat.le_trans z10_ (Keep.of_wr W5_).1
  obtain ⟨_, _, ⟨T7_, L7_, k7_, n7_⟩, -, X7_, ⟨Lc7_, hQ7_, l7_, y7_, z7_⟩, st7_⟩ := Jvm.LawKit.callS X6_ hx (y := (⟨"java/util/Arrays", "fill", "([DD)V"⟩ : MethodName)) hown (mvT hZ (hw _ (List.mem_of_getElem? (i := 16) rfl))) (mvT hZ (hw _ (List.mem_of_getElem? (i := 17) rfl))) (mvT hZ (hw _ (List.mem_of_getElem? (i := 18) rfl))) (mvT hZ (hw _ (List.mem_of_getElem? (i := 19) rfl))) (by decide) (backOf (W := 0) (rmFill4 l Z a0 hw [] b2_ v1 k2_ (0 : UInt64) (0 : UInt64) (0 : UInt64) (0 : UInt64) h5_ n0 z11_ f8_ g9_) hZ (hw _ (List.mem_of_getElem? (i := 19) rfl)) (hw _ (List.mem_of_getElem? (i := 18) rfl)) (by decide) (by decide)) (g := (mkF m 35 #[.val (.ref a1), .val (.int (4 : Int32)), .val (.double v1), .second] [(.double v1), (.ref b2_)])) rfl (by rw [hml]; rfl) (argsL := [(.ref b2_), (.double v1)]) (rest := []) (lenOf pd_qaDDzV rfl) rfl (by show 2 * 0 + _ ≤ _; exact Nat.le_of_eq rfl) (hb hby d2_35) (fun _ _ => ⟨rfl, e6_, (by exact Nat.le_of_ble_eq_true rfl), (by exact Nat.le_of_ble_eq_true rfl)⟩)
  dsimp only [Pt.U, Pt.locs, Pt.cells, Pt.slots] at X7_ l7_ y7_ z7_ st7_ hQ7_
  subst L7_ k7_ n7_
  obtain ⟨rfl, Nq7_, ek7_, p7__0⟩ := hQ7_
  have N7_ := Fr.app N5_ Nq7_
  have f12_ : Exa Z T7_.heap a1 "com/example/whipstill/whipstill/MovingWindow" := ((f3_.wr W5_).keep ek7_)
  have f13_ : Fld Z T7_.heap a1 "com/example/whipstill/whipstill/MovingWindow" "values" "[D" (.ref b2_) := (w5_.keep ek7_ (ninS (Nat.ne_of_lt (Nat.lt_of_lt_of_le E1.lt (Nat.le_of_eq g2_.symm))) nin0))
  have f14_ : Fld Z T7_.heap a1 "com/example/whipstill/whipstill/MovingWindow" "oldest" "I" (.int (0 : Int32)) := (((F2.ext E2_).other W5_ (Or.inr (slot_ne (Or.inl (hw _ (List.mem_of_getElem? (i := 38) rfl))) (Or.inr (hw _ (List.mem_of_getElem? (i := 15) rfl))) (by decide) (t := .int) (t' := (.array .double)) (by decide) (by decide)))).keep ek7_ (ninS (Nat.ne_of_lt (Nat.lt_of_lt_of_le E1.lt (Nat.le_of_eq g2_.symm))) nin0))
  have k15_ : Keep h0 h2_ [a1] := (Keep.refl h0 [a1]).ext E2_
  have k16_ : Keep h0 h5_ [a1] := k15_.wr W5_ (Or.inl (List.mem_of_getElem? (i := 0) rfl))
  have k17_ : Keep h0 T7_.heap [a1] := k16_.trans ek7_ (allS (Or.inr (Nat.le_trans (Keep.refl h0 [a1]).1 (Nat.le_of_eq g2_.symm))) all0)
  obtain ⟨fs, hr, hrun, hended, hW, hsame⟩ := X7_.leave (v := none) (fun h => by first | rfl | (rw [Bd.returns] at h; cases h))
  refine ⟨_, _, pre0 _ ?_, hrun, hended, _, _, rfl, ?_, ⟨_, rfl⟩, hW, hsame.mono (by exact Nat.le_of_ble_eq_true rfl) (by exact Nat.le_of_ble_eq_true rfl)⟩
  · show Steps p.tables e below (s₁.setTop (mkF m 0 #[.val (.ref a1), .val (.int (4 : Int32)), .val (.double v1), .second] [])) _
    refine XS.aloadN X0.here hx rfl (hb hby d2_0) rfl rfl ?_
    refine st1_ _ ?_
    show Steps p.tables e below (T1_.setTop (mkF m 4 #[.val (.ref a1), .val (.int (4 : Int32)), .val (.double v1), .second] [])) _
    refine XS.iloadN X1_.here hx rfl (hb hby d2_4) rfl ?_
    refine XS.iconst X1_.here hx rfl (hb hby d2_5) ?_
    refine XS.icmpYes X1_.here hx rfl (pc0 := 6) (pc' := 23) rfl (hb hby d2_6) rfl (flt ((by decide) : ¬ ((4 : Int32) < (1 : Int32)))).2.1 (by decide) (by decide) ?_
    show Steps p.tables e below (T1_.setTop (mkF m 23 #[.val (.ref a1), .val (.int (4 : Int32)), .val (.double v1), .second] [])) _
    refine XS.aloadN X1_.here hx rfl (hb hby d2_23) rfl rfl ?_
    refine XS.iloadN X1_.here hx rfl (hb hby d2_24) rfl ?_
    refine st2_ _ ?_
    show Steps p.tables e below (T2_.setTop (mkF m 27 #[.val (.ref a1), .val (.int (4 : Int32)), .val (.double v1), .second] [(.ref b2_), (.ref a1)])) _
    refine st5_ _ ?_
    show Steps p.tables e below (T5_.setTop (mkF m 30 #[.val (.ref a1), .val (.int (4 : Int32)), .val (.double v1), .second] [])) _
    refine XS.aloadN X5_.here hx rfl (hb hby d2_30) rfl rfl ?_
    refine st6_ _ ?_
    show Steps p.tables e below (T6_.setTop (mkF m 34 #[.val (.ref a1), .val (.int (4 : Int32)), .val (.double v1), .second] [(.ref b2_)])) _
    refine XS.dloadN X6_.here hx rfl (hb hby d2_34) rfl ?_
    refine st7_ _ ?_
    show Steps p.tables e below (T7_.setTop (mkF m 38 #[.val (.ref a1), .val (.int (4 : Int32)), .val (.double v1), .second] [])) _
    exact X7_.returnOut hx Bd.returns (hb hby d2_38) hr
  · show Q_rmInit4 Z a1 v1 h0 n0 _ T7_.heap _
    skip
    exact ⟨b2_, k2_, rfl, N7_, k17_, (Nat.le_trans (Keep.refl h0 [a1]).1 (Nat.le_of_eq g2_.symm)), f12_, f13_, f14_, p7__0⟩
theorem d5_0 : decode prog_11_method_5_code 0 = .ok (.dconst 0, 1) := by decide +kernel
theorem d5_1 : decode prog_11_method_5_code 1 = .ok (.dstore_n 3, 1) := by decide +kernel
theorem d5_2 : decode prog_11_method_5_code 2 = .ok (.aload_n 0, 1) := by decide +kernel
theorem d5_3 : decode prog_11_method_5_code 3 = .ok (.getfield 16, 3) := by decide +kernel
theorem d5_6 : decode prog_11_method_5_code 6 = .ok (.astore 5, 2) := by decide +kernel
theorem d5_8 : decode prog_11_method_5_code 8 = .ok (.aload 5, 2) := by decide +kernel
theorem d5_10 : decode prog_11_method_5_code 10 = .ok (.arraylength, 1) := by decide +kernel
theorem d5_11 : decode prog_11_method_5_code 11 = .ok (.istore 6, 2) := by decide +kernel
theorem d5_13 : decode prog_11_method_5_code 13 = .ok (.iconst 0, 1) := by decide +kernel
theorem d5_14 : decode prog_11_method_5_code 14 = .ok (.istore 7, 2) := by decide +kernel
theorem d5_16 : decode prog_11_method_5_code 16 = .ok (.iload 7, 2) := by decide +kernel
theorem d5_18 : decode prog_11_method_5_code 18 = .ok (.iload 6, 2) := by decide +kernel
theorem d5_20 : decode prog_11_method_5_code 20 = .ok (.if_icmp .ge 23, 3) := by decide +kernel
theorem d5_23 : decode prog_11_method_5_code 23 = .ok (.aload 5, 2) := by decide +kernel
theorem d5_25 : decode prog_11_method_5_code 25 = .ok (.iload 7, 2) := by decide +kernel
theorem d5_27 : decode prog_11_method_5_code 27 = .ok (.daload, 1) := by decide +kernel
theorem d5_28 : decode prog_11_method_5_code 28 = .ok (.dstore 8, 2) := by decide +kernel
theorem d5_30 : decode prog_11_method_5_code 30 = .ok (.dload_n 3, 1) := by decide +kernel
theorem d5_31 : decode prog_11_method_5_code 31 = .ok (.dload 8, 2) := by decide +kernel
theorem d5_33 : decode prog_11_method_5_code 33 = .ok (.dload_n 1, 1) := by decide +kernel
theorem d5_34 : decode prog_11_method_5_code 34 = .ok (.dsub, 1) := by decide +kernel
theorem d5_35 : decode prog_11_method_5_code 35 = .ok (.dadd, 1) := by decide +kernel
theorem d5_36 : decode prog_11_method_5_code 36 = .ok (.dstore_n 3, 1) := by decide +kernel
theorem d5_37 : decode prog_11_method_5_code 37 = .ok (.iinc 7 1, 3) := by decide +kernel
theorem d5_40 : decode prog_11_method_5_code 40 = .ok (.goto (-24), 3) := by decide +kernel
theorem d5_43 : decode prog_11_method_5_code 43 = .ok (.dload_n 3, 1) := by decide +kernel
theorem d5_44 : decode prog_11_method_5_code 44 = .ok (.aload_n 0, 1) := by decide +kernel
theorem d5_45 : decode prog_11_method_5_code 45 = .ok (.getfield 16, 3) := by decide +kernel
theorem d5_48 : decode prog_11_method_5_code 48 = .ok (.arraylength, 1) := by decide +kernel
theorem d5_49 : decode prog_11_method_5_code 49 = .ok (.i2d, 1) := by decide +kernel
theorem d5_50 : decode prog_11_method_5_code 50 = .ok (.ddiv, 1) := by decide +kernel
theorem d5_51 : decode prog_11_method_5_code 51 = .ok (.dreturn, 1) := by decide +kernel
theorem ef_rmMa1 (m : MethodId) (x0 : Addr) (x1 : UInt64) : entryFrame m #[(.ref x0), (.double x1)] 10 = mkF m 0 #[.val (.ref x0), .val (.double x1), .second, .unset, .unset, .unset, .unset, .unset, .unset, .unset] [] := by first | (simp [entryFrame, mkF, argsToLocals, Value.category]; done) | rfl
def Q_rmMa1 (Z : State) (a1 : Addr) (m1 : Int64) (t1 : Addr) (k1 : ClassId) (y0 : Int64) (h0 : Heap) (n0 : Nat) (v : Option Value) (h : Heap) (L : List Loc) : Prop := v = some (.double (FP.ddiv (FP.l2d ((0 : Int64) + (y0 - m1))) (FP.i2d (1 : Int32)))) ∧ Fr n0 L ∧ h = h0
set_option maxRecDepth 65536 in
set_option maxHeartbeats 40000000 in
theorem rmMa1 (l : Launch) (Z : State) (a0 : Array Value) (hw : ∀ d ∈ tables_1, d.before a0 Z = true) (ws : List Jvm.Cond) (a1 : Addr) (m1 : Int64) (t1 : Addr) (k1 : ClassId) (y0 : Int64) (h0 : Heap) (n0 : Nat) (Z0 : n0 ≤ h0.size) (F1 : Fld Z h0 a1 "com/example/whipstill/whipstill/MovingWindow" "values" "[D" (.ref t1)) (V1 : Arv Z h0 t1 k1 .double (1 : Int32) [(.double (FP.l2d y0))] (.double (0 : UInt64))) (bm : own_R m1 2147483648) (b_y0 : own_R y0 2147483648) :
    MetFree l (⟨"com/example/whipstill/whipstill/MovingWindow", "meanAbove", "(D)D"⟩ : MethodName) (head1 (Jvm.Cond.code (⟨"com/example/whipstill/whipstill/MovingWindow", "meanAbove", "(D)D"⟩ : MethodName) prog_11_method_5_code 10 (some .double) :: ws) ({ frames := 0, cells := 0, slots := 0, locals := 0 } : Room)) (fun a U => a = #[(.ref a1), (.double (FP.l2d m1))] ∧ Z.Warmed39 U.vm ∧ U.heap = h0) (fun _ _ _ _ _ => True) (fun _ U o U' => ∃ v L, o = .returned v ∧ Q_rmMa1 Z a1 m1 t1 k1 y0 h0 n0 v U'.heap L ∧ FrameEnd U o U' L ({ frames := 0, cells := 0, slots := 0, locals := 0 } : Room).cells ({ frames := 0, cells := 0, slots := 0, locals := 0 } : Room).slots) := by
  refine MetFree.of_bodySF (plainFor_of_name pn_com_example_whipstill_whipstill_MovingWindow) hisR ?_
  intro p e s m args below meth c s₁ Bd hml0 hP hK
  obtain ⟨rfl, hZ, hh⟩ := hP
  have hx := Bd.exec
  have hby := Bd.bytes
  have hml : c.maxLocals = 10 := hml0
  have hown : s.vm.findClass "com/example/whipstill/whipstill/MovingWindow" = some m.cls := findClass_of_methodNamed Bd.named
  have hnm := (name_of_methodNamed Bd.named Bd.method).1
  have X0 : Stand p l e ({ frames := 0, cells := 0, slots := 0, locals := 0 } : Room) s m #[(.ref a1), (.double (FP.l2d m1))] below meth c s₁ [] 0 0 := Stand.of_body Bd
  have e0 : s₁.heap = h0 := by rw [← hh, Bd.state]; rfl
  have N0 := Fr.nil n0
  have pre0 : ∀ t, Steps p.tables e below (s₁.setTop (mkF m 0 #[.val (.ref a1), .val (.double (FP.l2d m1)), .second, .unset, .unset, .unset, .unset, .unset, .unset, .unset] [])) t → Steps p.tables e below (s₁.setTop (entryFrame m #[(.ref a1), (.double (FP.l2d m1))] 10)) t := fun t k => castTop (ef_rmMa1 m a1 (FP.l2d m1)) k
  obtain ⟨T1_, X1_, e1_, st1_⟩ := getF X0 hx hZ hown (host := "") (Or.inl (hw _ (List.mem_of_getElem? (i := 14) rfl))) Via.refl e0 F1 (g := (mkF m 3 #[.val (.ref a1), .val (.double (FP.l2d m1)), .second, .val (.double (FP.l2d (0 : Int64))), .second, .unset, .unset, .unset, .unset, .unset] [(.ref a1)])) rfl rfl (hb hby d5_3)
  obtain ⟨cl2_, Ar2_, q2_, S2_, M2_, Hs2_, G2_⟩ := id V1
  obtain ⟨cl3_, Ar3_, q3_, S3_, M3_, Hs3_, G3_⟩ := id V1
  have in3_ : ¬ ((0 : Int32) < 0 ∨ cl3_.slots.size ≤ ((0 : Int32)).toNatClampNeg) := inb_of S3_ ⟨by decide, by decide⟩
  have at3_ : cl3_.slots[((0 : Int32)).toNatClampNeg]? = some (.double (FP.l2d y0)) := Hs3_.at in3_ rfl
  have q4_ : FP.dsub (FP.l2d y0) (FP.l2d m1) = FP.l2d (y0 - m1) := dsub_w (b_y0.b53 (by decide)) (bm.b53 (by decide))
  have r6_ : own_R (y0 - m1) 4294967296 := own_R.sub b_y0 bm (by decide) (by decide)
  have q5_ : FP.dadd (FP.l2d (0 : Int64)) (FP.l2d (y0 - m1)) = FP.l2d ((0 : Int64) + (y0 - m1)) := dadd_w ((own_R.lit (0 : Int64) 0 (by decide)).b53 (by decide)) (r6_.b53 (by decide))
  obtain ⟨T7_, X7_, e7_, st7_⟩ := getF X1_ hx hZ hown (host := "") (Or.inl (hw _ (List.mem_of_getElem? (i := 14) rfl))) Via.refl e1_ F1 (g := (mkF m 45 #[.val (.ref a1), .val (.double (FP.l2d m1)), .second, .val (.double (FP.l2d ((0 : Int64) + (y0 - m1)))), .second, .val (.ref t1), .val (.int (1 : Int32)), .val (.int (1 : Int32)), .val (.double (FP.l2d y0)), .second] [(.ref a1), (.double (FP.l2d ((0 : Int64) + (y0 - m1))))])) rfl rfl (hb hby d5_45)
  obtain ⟨cl8_, Ar8_, q8_, S8_, M8_, Hs8_, G8_⟩ := id V1
  have q9_ : Jvm.Free.Fl.NoNaN64 (FP.ddiv (FP.l2d ((0 : Int64) + (y0 - m1))) (FP.i2d (1 : Int32))) := own_ddiv _ _ (by decide)
  obtain ⟨fs, hr, hrun, hended, hW, hsame⟩ := X7_.leave (v := some (.double (FP.ddiv (FP.l2d ((0 : Int64) + (y0 - m1))) (FP.i2d (1 : Int32))))) (fun h => by first | rfl | (rw [Bd.returns] at h; cases h))
  refine ⟨_, _, pre0 _ ?_, hrun, hended, _, _, rfl, ?_, ⟨_, rfl⟩, hW, hsame.mono (by exact Nat.le_of_ble_eq_true rfl) (by exact Nat.le_of_ble_eq_true rfl)⟩
  · show Steps p.tables e below (s₁.setTop (mkF m 0 #[.val (.ref a1), .val (.double (FP.l2d m1)), .second, .unset, .unset, .unset, .unset, .unset, .unset, .unset] [])) _
    refine XS.dconst0 X0.here hx rfl (hb hby d5_0) own_d0 ?_
    show Steps p.tables e below (s₁.setTop (mkF m 1 #[.val (.ref a1), .val (.double (FP.l2d m1)), .second, .unset, .unset, .unset, .unset, .unset, .unset, .unset] [(.double (FP.l2d (0 : Int64)))])) _
    refine XS.dstoreN X0.here hx rfl (hb hby d5_1) rfl (l' := #[.val (.ref a1), .val (.double (FP.l2d m1)), .second, .val (.double (FP.l2d (0 : Int64))), .second, .unset, .unset, .unset, .unset, .unset]) rfl ?_
    show Steps p.tables e below (s₁.setTop (mkF m 2 #[.val (.ref a1), .val (.double (FP.l2d m1)), .second, .val (.double (FP.l2d (0 : Int64))), .second, .unset, .unset, .unset, .unset, .unset] [])) _
    refine XS.aloadN X0.here hx rfl (hb hby d5_2) rfl rfl ?_
    refine st1_ _ ?_
    show Steps p.tables e below (T1_.setTop (mkF m 6 #[.val (.ref a1), .val (.double (FP.l2d m1)), .second, .val (.double (FP.l2d (0 : Int64))), .second, .unset, .unset, .unset, .unset, .unset] [(.ref t1)])) _
    refine XS.astore X1_.here hx rfl (hb hby d5_6) rfl rfl (l' := #[.val (.ref a1), .val (.double (FP.l2d m1)), .second, .val (.double (FP.l2d (0 : Int64))), .second, .val (.ref t1), .unset, .unset, .unset, .unset]) rfl ?_
    show Steps p.tables e below (T1_.setTop (mkF m 8 #[.val (.ref a1), .val (.double (FP.l2d m1)), .second, .val (.double (FP.l2d (0 : Int64))), .second, .val (.ref t1), .unset, .unset, .unset, .unset] [])) _
    refine XS.aload X1_.here hx rfl (hb hby d5_8) rfl rfl ?_
    refine X1_.arraylength hx (by rw [e1_]; exact Ar2_.1) (State.isArrayOf_alike (State.Warmed39.alike hZ) Ar2_.2.1) (g := (mkF m 10 #[.val (.ref a1), .val (.double (FP.l2d m1)), .second, .val (.double (FP.l2d (0 : Int64))), .second, .val (.ref t1), .unset, .unset, .unset, .unset] [(.ref t1)])) rfl rfl (hb hby d5_10) _ ?_
    rw [len_of S2_ M2_]
    show Steps p.tables e below (T1_.setTop (mkF m 11 #[.val (.ref a1), .val (.double (FP.l2d m1)), .second, .val (.double (FP.l2d (0 : Int64))), .second, .val (.ref t1), .unset, .unset, .unset, .unset] [(.int (1 : Int32))])) _
    refine XS.istore X1_.here hx rfl (hb hby d5_11) rfl (l' := #[.val (.ref a1), .val (.double (FP.l2d m1)), .second, .val (.double (FP.l2d (0 : Int64))), .second, .val (.ref t1), .val (.int (1 : Int32)), .unset, .unset, .unset]) rfl ?_
    show Steps p.tables e below (T1_.setTop (mkF m 13 #[.val (.ref a1), .val (.double (FP.l2d m1)), .second, .val (.double (FP.l2d (0 : Int64))), .second, .val (.ref t1), .val (.int (1 : Int32)), .unset, .unset, .unset] [])) _
    refine XS.iconst X1_.here hx rfl (hb hby d5_13) ?_
    refine XS.istore X1_.here hx rfl (hb hby d5_14) rfl (l' := #[.val (.ref a1), .val (.double (FP.l2d m1)), .second, .val (.double (FP.l2d (0 : Int64))), .second, .val (.ref t1), .val (.int (1 : Int32)), .val (.int (0 : Int32)), .unset, .unset]) rfl ?_
    show Steps p.tables e below (T1_.setTop (mkF m 16 #[.val (.ref a1), .val (.double (FP.l2d m1)), .second, .val (.double (FP.l2d (0 : Int64))), .second, .val (.ref t1), .val (.int (1 : Int32)), .val (.int (0 : Int32)), .unset, .unset] [])) _
    refine XS.iload X1_.here hx rfl (hb hby d5_16) rfl ?_
    refine XS.iload X1_.here hx rfl (hb hby d5_18) rfl ?_
    refine XS.icmpNo X1_.here hx rfl (hb hby d5_20) rfl (tlt ((by decide) : (0 : Int32) < (1 : Int32))).2.1 ?_
    show Steps p.tables e below (T1_.setTop (mkF m 23 #[.val (.ref a1), .val (.double (FP.l2d m1)), .second, .val (.double (FP.l2d (0 : Int64))), .second, .val (.ref t1), .val (.int (1 : Int32)), .val (.int (0 : Int32)), .unset, .unset] [])) _
    refine XS.aload X1_.here hx rfl (hb hby d5_23) rfl rfl ?_
    refine XS.iload X1_.here hx rfl (hb hby d5_25) rfl ?_
    refine X1_.daload hx (j := (0 : Int32)) (v := (.double (FP.l2d y0))) (by rw [e1_]; exact Ar3_.1) (State.isArrayOf_alike (State.Warmed39.alike hZ) Ar3_.2.1) Ar3_.2.2 in3_ at3_ (g := (mkF m 27 #[.val (.ref a1), .val (.double (FP.l2d m1)), .second, .val (.double (FP.l2d (0 : Int64))), .second, .val (.ref t1), .val (.int (1 : Int32)), .val (.int (0 : Int32)), .unset, .unset] [(.int (0 : Int32)), (.ref t1)])) rfl rfl (hb hby d5_27) _ ?_
    show Steps p.tables e below (T1_.setTop (mkF m 28 #[.val (.ref a1), .val (.double (FP.l2d m1)), .second, .val (.double (FP.l2d (0 : Int64))), .second, .val (.ref t1), .val (.int (1 : Int32)), .val (.int (0 : Int32)), .unset, .unset] [(.double (FP.l2d y0))])) _
    refine XS.dstore X1_.here hx rfl (hb hby d5_28) rfl (l' := #[.val (.ref a1), .val (.double (FP.l2d m1)), .second, .val (.double (FP.l2d (0 : Int64))), .second, .val (.ref t1), .val (.int (1 : Int32)), .val (.int (0 : Int32)), .val (.double (FP.l2d y0)), .second]) rfl ?_
    show Steps p.tables e below (T1_.setTop (mkF m 30 #[.val (.ref a1), .val (.double (FP.l2d m1)), .second, .val (.double (FP.l2d (0 : Int64))), .second, .val (.ref t1), .val (.int (1 : Int32)), .val (.int (0 : Int32)), .val (.double (FP.l2d y0)), .second] [])) _
    refine XS.dloadN X1_.here hx rfl (hb hby d5_30) rfl ?_
    refine XS.dload X1_.here hx rfl (hb hby d5_31) rfl ?_
    refine XS.dloadN X1_.here hx rfl (hb hby d5_33) rfl ?_
    refine XS.dsubS X1_.here hx rfl (hb hby d5_34) rfl (nn_w q4_) (v := (FP.l2d (y0 - m1))) q4_ ?_
    show Steps p.tables e below (T1_.setTop (mkF m 35 #[.val (.ref a1), .val (.double (FP.l2d m1)), .second, .val (.double (FP.l2d (0 : Int64))), .second, .val (.ref t1), .val (.int (1 : Int32)), .val (.int (0 : Int32)), .val (.double (FP.l2d y0)), .second] [(.double (FP.l2d (y0 - m1))), (.double (FP.l2d (0 : Int64)))])) _
    refine XS.daddS X1_.here hx rfl (hb hby d5_35) rfl (nn_w q5_) (v := (FP.l2d ((0 : Int64) + (y0 - m1)))) q5_ ?_
    show Steps p.tables e below (T1_.setTop (mkF m 36 #[.val (.ref a1), .val (.double (FP.l2d m1)), .second, .val (.double (FP.l2d (0 : Int64))), .second, .val (.ref t1), .val (.int (1 : Int32)), .val (.int (0 : Int32)), .val (.double (FP.l2d y0)), .second] [(.double (FP.l2d ((0 : Int64) + (y0 - m1))))])) _
    refine XS.dstoreN X1_.here hx rfl (hb hby d5_36) rfl (l' := #[.val (.ref a1), .val (.double (FP.l2d m1)), .second, .val (.double (FP.l2d ((0 : Int64) + (y0 - m1)))), .second, .val (.ref t1), .val (.int (1 : Int32)), .val (.int (0 : Int32)), .val (.double (FP.l2d y0)), .second]) rfl ?_
    show Steps p.tables e below (T1_.setTop (mkF m 37 #[.val (.ref a1), .val (.double (FP.l2d m1)), .second, .val (.double (FP.l2d ((0 : Int64) + (y0 - m1)))), .second, .val (.ref t1), .val (.int (1 : Int32)), .val (.int (0 : Int32)), .val (.double (FP.l2d y0)), .second] [])) _
    refine XS.iinc X1_.here hx rfl (hb hby d5_37) rfl (l' := #[.val (.ref a1), .val (.double (FP.l2d m1)), .second, .val (.double (FP.l2d ((0 : Int64) + (y0 - m1)))), .second, .val (.ref t1), .val (.int (1 : Int32)), .val (.int (1 : Int32)), .val (.double (FP.l2d y0)), .second]) rfl ?_
    show Steps p.tables e below (T1_.setTop (mkF m 40 #[.val (.ref a1), .val (.double (FP.l2d m1)), .second, .val (.double (FP.l2d ((0 : Int64) + (y0 - m1)))), .second, .val (.ref t1), .val (.int (1 : Int32)), .val (.int (1 : Int32)), .val (.double (FP.l2d y0)), .second] [])) _
    refine XS.goto X1_.here hx rfl (pc0 := 40) (pc' := 16) rfl (hb hby d5_40) (by decide) (by decide) ?_
    show Steps p.tables e below (T1_.setTop (mkF m 16 #[.val (.ref a1), .val (.double (FP.l2d m1)), .second, .val (.double (FP.l2d ((0 : Int64) + (y0 - m1)))), .second, .val (.ref t1), .val (.int (1 : Int32)), .val (.int (1 : Int32)), .val (.double (FP.l2d y0)), .second] [])) _
    refine XS.iload X1_.here hx rfl (hb hby d5_16) rfl ?_
    refine XS.iload X1_.here hx rfl (hb hby d5_18) rfl ?_
    refine XS.icmpYes X1_.here hx rfl (pc0 := 20) (pc' := 43) rfl (hb hby d5_20) rfl (flt ((by decide) : ¬ ((1 : Int32) < (1 : Int32)))).2.1 (by decide) (by decide) ?_
    show Steps p.tables e below (T1_.setTop (mkF m 43 #[.val (.ref a1), .val (.double (FP.l2d m1)), .second, .val (.double (FP.l2d ((0 : Int64) + (y0 - m1)))), .second, .val (.ref t1), .val (.int (1 : Int32)), .val (.int (1 : Int32)), .val (.double (FP.l2d y0)), .second] [])) _
    refine XS.dloadN X1_.here hx rfl (hb hby d5_43) rfl ?_
    refine XS.aloadN X1_.here hx rfl (hb hby d5_44) rfl rfl ?_
    refine st7_ _ ?_
    show Steps p.tables e below (T7_.setTop (mkF m 48 #[.val (.ref a1), .val (.double (FP.l2d m1)), .second, .val (.double (FP.l2d ((0 : Int64) + (y0 - m1)))), .second, .val (.ref t1), .val (.int (1 : Int32)), .val (.int (1 : Int32)), .val (.double (FP.l2d y0)), .second] [(.ref t1), (.double (FP.l2d ((0 : Int64) + (y0 - m1))))])) _
    refine X7_.arraylength hx (by rw [e7_]; exact Ar8_.1) (State.isArrayOf_alike (State.Warmed39.alike hZ) Ar8_.2.1) (g := (mkF m 48 #[.val (.ref a1), .val (.double (FP.l2d m1)), .second, .val (.double (FP.l2d ((0 : Int64) + (y0 - m1)))), .second, .val (.ref t1), .val (.int (1 : Int32)), .val (.int (1 : Int32)), .val (.double (FP.l2d y0)), .second] [(.ref t1), (.double (FP.l2d ((0 : Int64) + (y0 - m1))))])) rfl rfl (hb hby d5_48) _ ?_
    rw [len_of S8_ M8_]
    show Steps p.tables e below (T7_.setTop (mkF m 49 #[.val (.ref a1), .val (.double (FP.l2d m1)), .second, .val (.double (FP.l2d ((0 : Int64) + (y0 - m1)))), .second, .val (.ref t1), .val (.int (1 : Int32)), .val (.int (1 : Int32)), .val (.double (FP.l2d y0)), .second] [(.int (1 : Int32)), (.double (FP.l2d ((0 : Int64) + (y0 - m1))))])) _
    refine XS.i2dS X7_.here hx rfl (hb hby d5_49) rfl (v := (FP.i2d (1 : Int32))) rfl ?_
    show Steps p.tables e below (T7_.setTop (mkF m 50 #[.val (.ref a1), .val (.double (FP.l2d m1)), .second, .val (.double (FP.l2d ((0 : Int64) + (y0 - m1)))), .second, .val (.ref t1), .val (.int (1 : Int32)), .val (.int (1 : Int32)), .val (.double (FP.l2d y0)), .second] [(.double (FP.i2d (1 : Int32))), (.double (FP.l2d ((0 : Int64) + (y0 - m1))))])) _
    refine XS.ddivS X7_.here hx rfl (hb hby d5_50) rfl q9_ (v := (FP.ddiv (FP.l2d ((0 : Int64) + (y0 - m1))) (FP.i2d (1 : Int32)))) rfl ?_
    show Steps p.tables e below (T7_.setTop (mkF m 51 #[.val (.ref a1), .val (.double (FP.l2d m1)), .second, .val (.double (FP.l2d ((0 : Int64) + (y0 - m1)))), .second, .val (.ref t1), .val (.int (1 : Int32)), .val (.int (1 : Int32)), .val (.double (FP.l2d y0)), .second] [(.double (FP.ddiv (FP.l2d ((0 : Int64) + (y0 - m1))) (FP.i2d (1 : Int32))))])) _
    exact retD X7_ hx Bd.returns (hb hby d5_51) hr
  · show Q_rmMa1 Z a1 m1 t1 k1 y0 h0 n0 _ T7_.heap _
    rw [e7_]
    exact ⟨rfl, N0, rfl⟩
theorem ef_rmMa2 (m : MethodId) (x0 : Addr) (x1 : UInt64) : entryFrame m #[(.ref x0), (.double x1)] 10 = mkF m 0 #[.val (.ref x0), .val (.double x1), .second, .unset, .unset, .unset, .unset, .unset, .unset, .unset] [] := by first | (simp [entryFrame, mkF, argsToLocals, Value.category]; done) | rfl
def Q_rmMa2 (Z : State) (a1 : Addr) (m1 : Int64) (t1 : Addr) (k1 : ClassId) (y0 : Int64) (y1 : Int64) (h0 : Heap) (n0 : Nat) (v : Option Value) (h : Heap) (L : List Loc) : Prop := v = some (.double (FP.ddiv (FP.l2d (((0 : Int64) + (y0 - m1)) + (y1 - m1))) (FP.i2d (2 : Int32)))) ∧ Fr n0 L ∧ h = h0
set_option maxRecDepth 65536 in
set_option maxHeartbeats 40000000 in
theorem rmMa2 (l : Launch) (Z : State) (a0 : Array Value) (hw : ∀ d ∈ tables_1, d.before a0 Z = true) (ws : List Jvm.Cond) (a1 : Addr) (m1 : Int64) (t1 : Addr) (k1 : ClassId) (y0 : Int64) (y1 : Int64) (h0 : Heap) (n0 : Nat) (Z0 : n0 ≤ h0.size) (F1 : Fld Z h0 a1 "com/example/whipstill/whipstill/MovingWindow" "values" "[D" (.ref t1)) (V1 : Arv Z h0 t1 k1 .double (2 : Int32) [(.double (FP.l2d y0)), (.double (FP.l2d y1))] (.double (0 : UInt64))) (bm : own_R m1 2147483648) (b_y0 : own_R y0 2147483648) (b_y1 : own_R y1 2147483648) :
    MetFree l (⟨"com/example/whipstill/whipstill/MovingWindow", "meanAbove", "(D)D"⟩ : MethodName) (head1 (Jvm.Cond.code (⟨"com/example/whipstill/whipstill/MovingWindow", "meanAbove", "(D)D"⟩ : MethodName) prog_11_method_5_code 10 (some .double) :: ws) ({ frames := 0, cells := 0, slots := 0, locals := 0 } : Room)) (fun a U => a = #[(.ref a1), (.double (FP.l2d m1))] ∧ Z.Warmed39 U.vm ∧ U.heap = h0) (fun _ _ _ _ _ => True) (fun _ U o U' => ∃ v L, o = .returned v ∧ Q_rmMa2 Z a1 m1 t1 k1 y0 y1 h0 n0 v U'.heap L ∧ FrameEnd U o U' L ({ frames := 0, cells := 0, slots := 0, locals := 0 } : Room).cells ({ frames := 0, cells := 0, slots := 0, locals := 0 } : Room).slots) := by
  refine MetFree.of_bodySF (plainFor_of_name pn_com_example_whipstill_whipstill_MovingWindow) hisR ?_
  intro p e s m args below meth c s₁ Bd hml0 hP hK
  obtain ⟨rfl, hZ, hh⟩ := hP
  have hx := Bd.exec
  have hby := Bd.bytes
  have hml : c.maxLocals = 10 := hml0
  have hown : s.vm.findClass "com/example/whipstill/whipstill/MovingWindow" = some m.cls := findClass_of_methodNamed Bd.named
  have hnm := (name_of_methodNamed Bd.named Bd.method).1
  have X0 : Stand p l e ({ frames := 0, cells := 0, slots := 0, locals := 0 } : Room) s m #[(.ref a1), (.double (FP.l2d m1))] below meth c s₁ [] 0 0 := Stand.of_body Bd
  have e0 : s₁.heap = h0 := by rw [← hh, Bd.state]; rfl
  have N0 := Fr.nil n0
  have pre0 : ∀ t, Steps p.tables e below (s₁.setTop (mkF m 0 #[.val (.ref a1), .val (.double (FP.l2d m1)), .second, .unset, .unset, .unset, .unset, .unset, .unset, .unset] [])) t → Steps p.tables e below (s₁.setTop (entryFrame m #[(.ref a1), (.double (FP.l2d m1))] 10)) t := fun t k => castTop (ef_rmMa2 m a1 (FP.l2d m1)) k
  obtain ⟨T1_, X1_, e1_, st1_⟩ := getF X0 hx hZ hown (host := "") (Or.inl (hw _ (List.mem_of_getElem? (i := 14) rfl))) Via.refl e0 F1 (g := (mkF m 3 #[.val (.ref a1), .val (.double (FP.l2d m1)), .second, .val (.double (FP.l2d (0 : Int64))), .second, .unset, .unset, .unset, .unset, .unset] [(.ref a1)])) rfl rfl (hb hby d5_3)
  obtain ⟨cl2_, Ar2_, q2_, S2_, M2_, Hs2_, G2_⟩ := id V1
  obtain ⟨cl3_, Ar3_, q3_, S3_, M3_, Hs3_, G3_⟩ := id V1
  have in3_ : ¬ ((0 : Int32) < 0 ∨ cl3_.slots.size ≤ ((0 : Int32)).toNatClampNeg) := inb_of S3_ ⟨by decide, by decide⟩
  have at3_ : cl3_.slots[((0 : Int32)).toNatClampNeg]? = some (.double (FP.l2d y0)) := Hs3_.at in3_ rfl
  have q4_ : FP.dsub (FP.l2d y0) (FP.l2d m1) = FP.l2d (y0 - m1) := dsub_w (b_y0.b53 (by decide)) (bm.b53 (by decide))
  have r6_ : own_R (y0 - m1) 4294967296 := own_R.sub b_y0 bm (by decide) (by decide)
  have q5_ : FP.dadd (FP.l2d (0 : Int64)) (FP.l2d (y0 - m1)) = FP.l2d ((0 : Int64) + (y0 - m1)) := dadd_w ((own_R.lit (0 : Int64) 0 (by decide)).b53 (by decide)) (r6_.b53 (by decide))
  obtain ⟨cl7_, Ar7_, q7_, S7_, M7_, Hs7_, G7_⟩ := id V1
  have in7_ : ¬ ((1 : Int32) < 0 ∨ cl7_.slots.size ≤ ((1 : Int32)).toNatClampNeg) := inb_of S7_ ⟨by decide, by decide⟩
  have at7_ : cl7_.slots[((1 : Int32)).toNatClampNeg]? = some (.double (FP.l2d y1)) := Hs7_.at in7_ rfl
  have q8_ : FP.dsub (FP.l2d y1) (FP.l2d m1) = FP.l2d (y1 - m1) := dsub_w (b_y1.b53 (by decide)) (bm.b53 (by decide))
  have r10_ : own_R ((0 : Int64) + (y0 - m1)) 4294967296 := own_R.add (own_R.lit (0 : Int64) 0 (by decide)) r6_ (by decide) (by decide)
  have r11_ : own_R (y1 - m1) 4294967296 := own_R.sub b_y1 bm (by decide) (by decide)
  have q9_ : FP.dadd (FP.l2d ((0 : Int64) + (y0 - m1))) (FP.l2d (y1 - m1)) = FP.l2d (((0 : Int64) + (y0 - m1)) + (y1 - m1)) := dadd_w (r10_.b53 (by decide)) (r11_.b53 (by decide))
  obtain ⟨T12_, X12_, e12_, st12_⟩ := getF X1_ hx hZ hown (host := "") (Or.inl (hw _ (List.mem_of_getElem? (i := 14) rfl))) Via.refl e1_ F1 (g := (mkF m 45 #[.val (.ref a1), .val (.double (FP.l2d m1)), .second, .val (.double (FP.l2d (((0 : Int64) + (y0 - m1)) + (y1 - m1)))), .second, .val (.ref t1), .val (.int (2 : Int32)), .val (.int (2 : Int32)), .val (.double (FP.l2d y1)), .second] [(.ref a1), (.double (FP.l2d (((0 : Int64) + (y0 - m1)) + (y1 - m1))))])) rfl rfl (hb hby d5_45)
  obtain ⟨cl13_, Ar13_, q13_, S13_, M13_, Hs13_, G13_⟩ := id V1
  have q14_ : Jvm.Free.Fl.NoNaN64 (FP.ddiv (FP.l2d (((0 : Int64) + (y0 - m1)) + (y1 - m1))) (FP.i2d (2 : Int32))) := own_ddiv _ _ (by decide)
  obtain ⟨fs, hr, hrun, hended, hW, hsame⟩ := X12_.leave (v := some (.double (FP.ddiv (FP.l2d (((0 : Int64) + (y0 - m1)) + (y1 - m1))) (FP.i2d (2 : Int32))))) (fun h => by first | rfl | (rw [Bd.returns] at h; cases h))
  refine ⟨_, _, pre0 _ ?_, hrun, hended, _, _, rfl, ?_, ⟨_, rfl⟩, hW, hsame.mono (by exact Nat.le_of_ble_eq_true rfl) (by exact Nat.le_of_ble_eq_true rfl)⟩
  · show Steps p.tables e below (s₁.setTop (mkF m 0 #[.val (.ref a1), .val (.double (FP.l2d m1)), .second, .unset, .unset, .unset, .unset, .unset, .unset, .unset] [])) _
    refine XS.dconst0 X0.here hx rfl (hb hby d5_0) own_d0 ?_
    show Steps p.tables e below (s₁.setTop (mkF m 1 #[.val (.ref a1), .val (.double (FP.l2d m1)), .second, .unset, .unset, .unset, .unset, .unset, .unset, .unset] [(.double (FP.l2d (0 : Int64)))])) _
    refine XS.dstoreN X0.here hx rfl (hb hby d5_1) rfl (l' := #[.val (.ref a1), .val (.double (FP.l2d m1)), .second, .val (.double (FP.l2d (0 : Int64))), .second, .unset, .unset, .unset, .unset, .unset]) rfl ?_
    show Steps p.tables e below (s₁.setTop (mkF m 2 #[.val (.ref a1), .val (.double (FP.l2d m1)), .second, .val (.double (FP.l2d (0 : Int64))), .second, .unset, .unset, .unset, .unset, .unset] [])) _
    refine XS.aloadN X0.here hx rfl (hb hby d5_2) rfl rfl ?_
    refine st1_ _ ?_
    show Steps p.tables e below (T1_.setTop (mkF m 6 #[.val (.ref a1), .val (.double (FP.l2d m1)), .second, .val (.double (FP.l2d (0 : Int64))), .second, .unset, .unset, .unset, .unset, .unset] [(.ref t1)])) _
    refine XS.astore X1_.here hx rfl (hb hby d5_6) rfl rfl (l' := #[.val (.ref a1), .val (.double (FP.l2d m1)), .second, .val (.double (FP.l2d (0 : Int64))), .second, .val (.ref t1), .unset, .unset, .unset, .unset]) rfl ?_
    show Steps p.tables e below (T1_.setTop (mkF m 8 #[.val (.ref a1), .val (.double (FP.l2d m1)), .second, .val (.double (FP.l2d (0 : Int64))), .second, .val (.ref t1), .unset, .unset, .unset, .unset] [])) _
    refine XS.aload X1_.here hx rfl (hb hby d5_8) rfl rfl ?_
    refine X1_.arraylength hx (by rw [e1_]; exact Ar2_.1) (State.isArrayOf_alike (State.Warmed39.alike hZ) Ar2_.2.1) (g := (mkF m 10 #[.val (.ref a1), .val (.double (FP.l2d m1)), .second, .val (.double (FP.l2d (0 : Int64))), .second, .val (.ref t1), .unset, .unset, .unset, .unset] [(.ref t1)])) rfl rfl (hb hby d5_10) _ ?_
    rw [len_of S2_ M2_]
    show Steps p.tables e below (T1_.setTop (mkF m 11 #[.val (.ref a1), .val (.double (FP.l2d m1)), .second, .val (.double (FP.l2d (0 : Int64))), .second, .val (.ref t1), .unset, .unset, .unset, .unset] [(.int (2 : Int32))])) _
    refine XS.istore X1_.here hx rfl (hb hby d5_11) rfl (l' := #[.val (.ref a1), .val (.double (FP.l2d m1)), .second, .val (.double (FP.l2d (0 : Int64))), .second, .val (.ref t1), .val (.int (2 : Int32)), .unset, .unset, .unset]) rfl ?_
    show Steps p.tables e below (T1_.setTop (mkF m 13 #[.val (.ref a1), .val (.double (FP.l2d m1)), .second, .val (.double (FP.l2d (0 : Int64))), .second, .val (.ref t1), .val (.int (2 : Int32)), .unset, .unset, .unset] [])) _
    refine XS.iconst X1_.here hx rfl (hb hby d5_13) ?_
    refine XS.istore X1_.here hx rfl (hb hby d5_14) rfl (l' := #[.val (.ref a1), .val (.double (FP.l2d m1)), .second, .val (.double (FP.l2d (0 : Int64))), .second, .val (.ref t1), .val (.int (2 : Int32)), .val (.int (0 : Int32)), .unset, .unset]) rfl ?_
    show Steps p.tables e below (T1_.setTop (mkF m 16 #[.val (.ref a1), .val (.double (FP.l2d m1)), .second, .val (.double (FP.l2d (0 : Int64))), .second, .val (.ref t1), .val (.int (2 : Int32)), .val (.int (0 : Int32)), .unset, .unset] [])) _
    refine XS.iload X1_.here hx rfl (hb hby d5_16) rfl ?_
    refine XS.iload X1_.here hx rfl (hb hby d5_18) rfl ?_
    refine XS.icmpNo X1_.here hx rfl (hb hby d5_20) rfl (tlt ((by decide) : (0 : Int32) < (2 : Int32))).2.1 ?_
    show Steps p.tables e below (T1_.setTop (mkF m 23 #[.val (.ref a1), .val (.double (FP.l2d m1)), .second, .val (.double (FP.l2d (0 : Int64))), .second, .val (.ref t1), .val (.int (2 : Int32)), .val (.int (0 : Int32)), .unset, .unset] [])) _
    refine XS.aload X1_.here hx rfl (hb hby d5_23) rfl rfl ?_
    refine XS.iload X1_.here hx rfl (hb hby d5_25) rfl ?_
    refine X1_.daload hx (j := (0 : Int32)) (v := (.double (FP.l2d y0))) (by rw [e1_]; exact Ar3_.1) (State.isArrayOf_alike (State.Warmed39.alike hZ) Ar3_.2.1) Ar3_.2.2 in3_ at3_ (g := (mkF m 27 #[.val (.ref a1), .val (.double (FP.l2d m1)), .second, .val (.double (FP.l2d (0 : Int64))), .second, .val (.ref t1), .val (.int (2 : Int32)), .val (.int (0 : Int32)), .unset, .unset] [(.int (0 : Int32)), (.ref t1)])) rfl rfl (hb hby d5_27) _ ?_
    show Steps p.tables e below (T1_.setTop (mkF m 28 #[.val (.ref a1), .val (.double (FP.l2d m1)), .second, .val (.double (FP.l2d (0 : Int64))), .second, .val (.ref t1), .val (.int (2 : Int32)), .val (.int (0 : Int32)), .unset, .unset] [(.double (FP.l2d y0))])) _
    refine XS.dstore X1_.here hx rfl (hb hby d5_28) rfl (l' := #[.val (.ref a1), .val (.double (FP.l2d m1)), .second, .val (.double (FP.l2d (0 : Int64))), .second, .val (.ref t1), .val (.int (2 : Int32)), .val (.int (0 : Int32)), .val (.double (FP.l2d y0)), .second]) rfl ?_
    show Steps p.tables e below (T1_.setTop (mkF m 30 #[.val (.ref a1), .val (.double (FP.l2d m1)), .second, .val (.double (FP.l2d (0 : Int64))), .second, .val (.ref t1), .val (.int (2 : Int32)), .val (.int (0 : Int32)), .val (.double (FP.l2d y0)), .second] [])) _
    refine XS.dloadN X1_.here hx rfl (hb hby d5_30) rfl ?_
    refine XS.dload X1_.here hx rfl (hb hby d5_31) rfl ?_
    refine XS.dloadN X1_.here hx rfl (hb hby d5_33) rfl ?_
    refine XS.dsubS X1_.here hx rfl (hb hby d5_34) rfl (nn_w q4_) (v := (FP.l2d (y0 - m1))) q4_ ?_
    show Steps p.tables e below (T1_.setTop (mkF m 35 #[.val (.ref a1), .val (.double (FP.l2d m1)), .second, .val (.double (FP.l2d (0 : Int64))), .second, .val (.ref t1), .val (.int (2 : Int32)), .val (.int (0 : Int32)), .val (.double (FP.l2d y0)), .second] [(.double (FP.l2d (y0 - m1))), (.double (FP.l2d (0 : Int64)))])) _
    refine XS.daddS X1_.here hx rfl (hb hby d5_35) rfl (nn_w q5_) (v := (FP.l2d ((0 : Int64) + (y0 - m1)))) q5_ ?_
    show Steps p.tables e below (T1_.setTop (mkF m 36 #[.val (.ref a1), .val (.double (FP.l2d m1)), .second, .val (.double (FP.l2d (0 : Int64))), .second, .val (.ref t1), .val (.int (2 : Int32)), .val (.int (0 : Int32)), .val (.double (FP.l2d y0)), .second] [(.double (FP.l2d ((0 : Int64) + (y0 - m1))))])) _
    refine XS.dstoreN X1_.here hx rfl (hb hby d5_36) rfl (l' := #[.val (.ref a1), .val (.double (FP.l2d m1)), .second, .val (.double (FP.l2d ((0 : Int64) + (y0 - m1)))), .second, .val (.ref t1), .val (.int (2 : Int32)), .val (.int (0 : Int32)), .val (.double (FP.l2d y0)), .second]) rfl ?_
    show Steps p.tables e below (T1_.setTop (mkF m 37 #[.val (.ref a1), .val (.double (FP.l2d m1)), .second, .val (.double (FP.l2d ((0 : Int64) + (y0 - m1)))), .second, .val (.ref t1), .val (.int (2 : Int32)), .val (.int (0 : Int32)), .val (.double (FP.l2d y0)), .second] [])) _
    refine XS.iinc X1_.here hx rfl (hb hby d5_37) rfl (l' := #[.val (.ref a1), .val (.double (FP.l2d m1)), .second, .val (.double (FP.l2d ((0 : Int64) + (y0 - m1)))), .second, .val (.ref t1), .val (.int (2 : Int32)), .val (.int (1 : Int32)), .val (.double (FP.l2d y0)), .second]) rfl ?_
    show Steps p.tables e below (T1_.setTop (mkF m 40 #[.val (.ref a1), .val (.double (FP.l2d m1)), .second, .val (.double (FP.l2d ((0 : Int64) + (y0 - m1)))), .second, .val (.ref t1), .val (.int (2 : Int32)), .val (.int (1 : Int32)), .val (.double (FP.l2d y0)), .second] [])) _
    refine XS.goto X1_.here hx rfl (pc0 := 40) (pc' := 16) rfl (hb hby d5_40) (by decide) (by decide) ?_
    show Steps p.tables e below (T1_.setTop (mkF m 16 #[.val (.ref a1), .val (.double (FP.l2d m1)), .second, .val (.double (FP.l2d ((0 : Int64) + (y0 - m1)))), .second, .val (.ref t1), .val (.int (2 : Int32)), .val (.int (1 : Int32)), .val (.double (FP.l2d y0)), .second] [])) _
    refine XS.iload X1_.here hx rfl (hb hby d5_16) rfl ?_
    refine XS.iload X1_.here hx rfl (hb hby d5_18) rfl ?_
    refine XS.icmpNo X1_.here hx rfl (hb hby d5_20) rfl (tlt ((by decide) : (1 : Int32) < (2 : Int32))).2.1 ?_
    show Steps p.tables e below (T1_.setTop (mkF m 23 #[.val (.ref a1), .val (.double (FP.l2d m1)), .second, .val (.double (FP.l2d ((0 : Int64) + (y0 - m1)))), .second, .val (.ref t1), .val (.int (2 : Int32)), .val (.int (1 : Int32)), .val (.double (FP.l2d y0)), .second] [])) _
    refine XS.aload X1_.here hx rfl (hb hby d5_23) rfl rfl ?_
    refine XS.iload X1_.here hx rfl (hb hby d5_25) rfl ?_
    refine X1_.daload hx (j := (1 : Int32)) (v := (.double (FP.l2d y1))) (by rw [e1_]; exact Ar7_.1) (State.isArrayOf_alike (State.Warmed39.alike hZ) Ar7_.2.1) Ar7_.2.2 in7_ at7_ (g := (mkF m 27 #[.val (.ref a1), .val (.double (FP.l2d m1)), .second, .val (.double (FP.l2d ((0 : Int64) + (y0 - m1)))), .second, .val (.ref t1), .val (.int (2 : Int32)), .val (.int (1 : Int32)), .val (.double (FP.l2d y0)), .second] [(.int (1 : Int32)), (.ref t1)])) rfl rfl (hb hby d5_27) _ ?_
    show Steps p.tables e below (T1_.setTop (mkF m 28 #[.val (.ref a1), .val (.double (FP.l2d m1)), .second, .val (.double (FP.l2d ((0 : Int64) + (y0 - m1)))), .second, .val (.ref t1), .val (.int (2 : Int32)), .val (.int (1 : Int32)), .val (.double (FP.l2d y0)), .second] [(.double (FP.l2d y1))])) _
    refine XS.dstore X1_.here hx rfl (hb hby d5_28) rfl (l' := #[.val (.ref a1), .val (.double (FP.l2d m1)), .second, .val (.double (FP.l2d ((0 : Int64) + (y0 - m1)))), .second, .val (.ref t1), .val (.int (2 : Int32)), .val (.int (1 : Int32)), .val (.double (FP.l2d y1)), .second]) rfl ?_
    show Steps p.tables e below (T1_.setTop (mkF m 30 #[.val (.ref a1), .val (.double (FP.l2d m1)), .second, .val (.double (FP.l2d ((0 : Int64) + (y0 - m1)))), .second, .val (.ref t1), .val (.int (2 : Int32)), .val (.int (1 : Int32)), .val (.double (FP.l2d y1)), .second] [])) _
    refine XS.dloadN X1_.here hx rfl (hb hby d5_30) rfl ?_
    refine XS.dload X1_.here hx rfl (hb hby d5_31) rfl ?_
    refine XS.dloadN X1_.here hx rfl (hb hby d5_33) rfl ?_
    refine XS.dsubS X1_.here hx rfl (hb hby d5_34) rfl (nn_w q8_) (v := (FP.l2d (y1 - m1))) q8_ ?_
    show Steps p.tables e below (T1_.setTop (mkF m 35 #[.val (.ref a1), .val (.double (FP.l2d m1)), .second, .val (.double (FP.l2d ((0 : Int64) + (y0 - m1)))), .second, .val (.ref t1), .val (.int (2 : Int32)), .val (.int (1 : Int32)), .val (.double (FP.l2d y1)), .second] [(.double (FP.l2d (y1 - m1))), (.double (FP.l2d ((0 : Int64) + (y0 - m1))))])) _
    refine XS.daddS X1_.here hx rfl (hb hby d5_35) rfl (nn_w q9_) (v := (FP.l2d (((0 : Int64) + (y0 - m1)) + (y1 - m1)))) q9_ ?_
    show Steps p.tables e below (T1_.setTop (mkF m 36 #[.val (.ref a1), .val (.double (FP.l2d m1)), .second, .val (.double (FP.l2d ((0 : Int64) + (y0 - m1)))), .second, .val (.ref t1), .val (.int (2 : Int32)), .val (.int (1 : Int32)), .val (.double (FP.l2d y1)), .second] [(.double (FP.l2d (((0 : Int64) + (y0 - m1)) + (y1 - m1))))])) _
    refine XS.dstoreN X1_.here hx rfl (hb hby d5_36) rfl (l' := #[.val (.ref a1), .val (.double (FP.l2d m1)), .second, .val (.double (FP.l2d (((0 : Int64) + (y0 - m1)) + (y1 - m1)))), .second, .val (.ref t1), .val (.int (2 : Int32)), .val (.int (1 : Int32)), .val (.double (FP.l2d y1)), .second]) rfl ?_
    show Steps p.tables e below (T1_.setTop (mkF m 37 #[.val (.ref a1), .val (.double (FP.l2d m1)), .second, .val (.double (FP.l2d (((0 : Int64) + (y0 - m1)) + (y1 - m1)))), .second, .val (.ref t1), .val (.int (2 : Int32)), .val (.int (1 : Int32)), .val (.double (FP.l2d y1)), .second] [])) _
    refine XS.iinc X1_.here hx rfl (hb hby d5_37) rfl (l' := #[.val (.ref a1), .val (.double (FP.l2d m1)), .second, .val (.double (FP.l2d (((0 : Int64) + (y0 - m1)) + (y1 - m1)))), .second, .val (.ref t1), .val (.int (2 : Int32)), .val (.int (2 : Int32)), .val (.double (FP.l2d y1)), .second]) rfl ?_
    show Steps p.tables e below (T1_.setTop (mkF m 40 #[.val (.ref a1), .val (.double (FP.l2d m1)), .second, .val (.double (FP.l2d (((0 : Int64) + (y0 - m1)) + (y1 - m1)))), .second, .val (.ref t1), .val (.int (2 : Int32)), .val (.int (2 : Int32)), .val (.double (FP.l2d y1)), .second] [])) _
    refine XS.goto X1_.here hx rfl (pc0 := 40) (pc' := 16) rfl (hb hby d5_40) (by decide) (by decide) ?_
    show Steps p.tables e below (T1_.setTop (mkF m 16 #[.val (.ref a1), .val (.double (FP.l2d m1)), .second, .val (.double (FP.l2d (((0 : Int64) + (y0 - m1)) + (y1 - m1)))), .second, .val (.ref t1), .val (.int (2 : Int32)), .val (.int (2 : Int32)), .val (.double (FP.l2d y1)), .second] [])) _
    refine XS.iload X1_.here hx rfl (hb hby d5_16) rfl ?_
    refine XS.iload X1_.here hx rfl (hb hby d5_18) rfl ?_
    refine XS.icmpYes X1_.here hx rfl (pc0 := 20) (pc' := 43) rfl (hb hby d5_20) rfl (flt ((by decide) : ¬ ((2 : Int32) < (2 : Int32)))).2.1 (by decide) (by decide) ?_
    show Steps p.tables e below (T1_.setTop (mkF m 43 #[.val (.ref a1), .val (.double (FP.l2d m1)), .second, .val (.double (FP.l2d (((0 : Int64) + (y0 - m1)) + (y1 - m1)))), .second, .val (.ref t1), .val (.int (2 : Int32)), .val (.int (2 : Int32)), .val (.double (FP.l2d y1)), .second] [])) _
    refine XS.dloadN X1_.here hx rfl (hb hby d5_43) rfl ?_
    refine XS.aloadN X1_.here hx rfl (hb hby d5_44) rfl rfl ?_
    refine st12_ _ ?_
    show Steps p.tables e below (T12_.setTop (mkF m 48 #[.val (.ref a1), .val (.double (FP.l2d m1)), .second, .val (.double (FP.l2d (((0 : Int64) + (y0 - m1)) + (y1 - m1)))), .second, .val (.ref t1), .val (.int (2 : Int32)), .val (.int (2 : Int32)), .val (.double (FP.l2d y1)), .second] [(.ref t1), (.double (FP.l2d (((0 : Int64) + (y0 - m1)) + (y1 - m1))))])) _
    refine X12_.arraylength hx (by rw [e12_]; exact Ar13_.1) (State.isArrayOf_alike (State.Warmed39.alike hZ) Ar13_.2.1) (g := (mkF m 48 #[.val (.ref a1), .val (.double (FP.l2d m1)), .second, .val (.double (FP.l2d (((0 : Int64) + (y0 - m1)) + (y1 - m1)))), .second, .val (.ref t1), .val (.int (2 : Int32)), .val (.int (2 : Int32)), .val (.double (FP.l2d y1)), .second] [(.ref t1), (.double (FP.l2d (((0 : Int64) + (y0 - m1)) + (y1 - m1))))])) rfl rfl (hb hby d5_48) _ ?_
    rw [len_of S13_ M13_]
    show Steps p.tables e below (T12_.setTop (mkF m 49 #[.val (.ref a1), .val (.double (FP.l2d m1)), .second, .val (.double (FP.l2d (((0 : Int64) + (y0 - m1)) + (y1 - m1)))), .second, .val (.ref t1), .val (.int (2 : Int32)), .val (.int (2 : Int32)), .val (.double (FP.l2d y1)), .second] [(.int (2 : Int32)), (.double (FP.l2d (((0 : Int64) + (y0 - m1)) + (y1 - m1))))])) _
    refine XS.i2dS X12_.here hx rfl (hb hby d5_49) rfl (v := (FP.i2d (2 : Int32))) rfl ?_
    show Steps p.tables e below (T12_.setTop (mkF m 50 #[.val (.ref a1), .val (.double (FP.l2d m1)), .second, .val (.double (FP.l2d (((0 : Int64) + (y0 - m1)) + (y1 - m1)))), .second, .val (.ref t1), .val (.int (2 : Int32)), .val (.int (2 : Int32)), .val (.double (FP.l2d y1)), .second] [(.double (FP.i2d (2 : Int32))), (.double (FP.l2d (((0 : Int64) + (y0 - m1)) + (y1 - m1))))])) _
    refine XS.ddivS X12_.here hx rfl (hb hby d5_50) rfl q14_ (v := (FP.ddiv (FP.l2d (((0 : Int64) + (y0 - m1)) + (y1 - m1))) (FP.i2d (2 : Int32)))) rfl ?_
    show Steps p.tables e below (T12_.setTop (mkF m 51 #[.val (.ref a1), .val (.double (FP.l2d m1)), .second, .val (.double (FP.l2d (((0 : Int64) + (y0 - m1)) + (y1 - m1)))), .second, .val (.ref t1), .val (.int (2 : Int32)), .val (.int (2 : Int32)), .val (.double (FP.l2d y1)), .second] [(.double (FP.ddiv (FP.l2d (((0 : Int64) + (y0 - m1)) + (y1 - m1))) (FP.i2d (2 : Int32))))])) _
    exact retD X12_ hx Bd.returns (hb hby d5_51) hr
  · show Q_rmMa2 Z a1 m1 t1 k1 y0 y1 h0 n0 _ T12_.heap _
    rw [e12_]
    exact ⟨rfl, N0, rfl⟩
theorem ef_rmMa3 (m : MethodId) (x0 : Addr) (x1 : UInt64) : entryFrame m #[(.ref x0), (.double x1)] 10 = mkF m 0 #[.val (.ref x0), .val (.double x1), .second, .unset, .unset, .unset, .unset, .unset, .unset, .unset] [] := by first | (simp [entryFrame, mkF, argsToLocals, Value.category]; done) | rfl
def Q_rmMa3 (Z : State) (a1 : Addr) (m1 : Int64) (t1 : Addr) (k1 : ClassId) (y0 : Int64) (y1 : Int64) (y2 : Int64) (h0 : Heap) (n0 : Nat) (v : Option Value) (h : Heap) (L : List Loc) : Prop := v = some (.double (FP.ddiv (FP.l2d ((((0 : Int64) + (y0 - m1)) + (y1 - m1)) + (y2 - m1))) (FP.i2d (3 : Int32)))) ∧ Fr n0 L ∧ h = h0
set_option maxRecDepth 65536 in
set_option maxHeartbeats 40000000 in
theorem rmMa3 (l : Launch) (Z : State) (a0 : Array Value) (hw : ∀ d ∈ tables_1, d.before a0 Z = true) (ws : List Jvm.Cond) (a1 : Addr) (m1 : Int64) (t1 : Addr) (k1 : ClassId) (y0 : Int64) (y1 : Int64) (y2 : Int64) (h0 : Heap) (n0 : Nat) (Z0 : n0 ≤ h0.size) (F1 : Fld Z h0 a1 "com/example/whipstill/whipstill/MovingWindow" "values" "[D" (.ref t1)) (V1 : Arv Z h0 t1 k1 .double (3 : Int32) [(.double (FP.l2d y0)), (.double (FP.l2d y1)), (.double (FP.l2d y2))] (.double (0 : UInt64))) (bm : own_R m1 2147483648) (b_y0 : own_R y0 2147483648) (b_y1 : own_R y1 2147483648) (b_y2 : own_R y2 2147483648) :
    MetFree l (⟨"com/example/whipstill/whipstill/MovingWindow", "meanAbove", "(D)D"⟩ : MethodName) (head1 (Jvm.Cond.code (⟨"com/example/whipstill/whipstill/MovingWindow", "meanAbove", "(D)D"⟩ : MethodName) prog_11_method_5_code 10 (some .double) :: ws) ({ frames := 0, cells := 0, slots := 0, locals := 0 } : Room)) (fun a U => a = #[(.ref a1), (.double (FP.l2d m1))] ∧ Z.Warmed39 U.vm ∧ U.heap = h0) (fun _ _ _ _ _ => True) (fun _ U o U' => ∃ v L, o = .returned v ∧ Q_rmMa3 Z a1 m1 t1 k1 y0 y1 y2 h0 n0 v U'.heap L ∧ FrameEnd U o U' L ({ frames := 0, cells := 0, slots := 0, locals := 0 } : Room).cells ({ frames := 0, cells := 0, slots := 0, locals := 0 } : Room).slots) := by
  refine MetFree.of_bodySF (plainFor_of_name pn_com_example_whipstill_whipstill_MovingWindow) hisR ?_
  intro p e s m args below meth c s₁ Bd hml0 hP hK
  obtain ⟨rfl, hZ, hh⟩ := hP
  have hx := Bd.exec
  have hby := Bd.bytes
  have hml : c.maxLocals = 10 := hml0
  have hown : s.vm.findClass "com/example/whipstill/whipstill/MovingWindow" = some m.cls := findClass_of_methodNamed Bd.named
  have hnm := (name_of_methodNamed Bd.named Bd.method).1
  have X0 : Stand p l e ({ frames := 0, cells := 0, slots := 0, locals := 0 } : Room) s m #[(.ref a1), (.double (FP.l2d m1))] below meth c s₁ [] 0 0 := Stand.of_body Bd
  have e0 : s₁.heap = h0 := by rw [← hh, Bd.state]; rfl
  have N0 := Fr.nil n0
  have pre0 : ∀ t, Steps p.tables e below (s₁.setTop (mkF m 0 #[.val (.ref a1), .val (.double (FP.l2d m1)), .second, .unset, .unset, .unset, .unset, .unset, .unset, .unset] [])) t → Steps p.tables e below (s₁.setTop (entryFrame m #[(.ref a1), (.double (FP.l2d m1))] 10)) t := fun t k => castTop (ef_rmMa3 m a1 (FP.l2d m1)) k
  obtain ⟨T1_, X1_, e1_, st1_⟩ := getF X0 hx hZ hown (host := "") (Or.inl (hw _ (List.mem_of_getElem? (i := 14) rfl))) Via.refl e0 F1 (g := (mkF m 3 #[.val (.ref a1), .val (.double (FP.l2d m1)), .second, .val (.double (FP.l2d (0 : Int64))), .second, .unset, .unset, .unset, .unset, .unset] [(.ref a1)])) rfl rfl (hb hby d5_3)
  obtain ⟨cl2_, Ar2_, q2_, S2_, M2_, Hs2_, G2_⟩ := id V1
  obtain ⟨cl3_, Ar3_, q3_, S3_, M3_, Hs3_, G3_⟩ := id V1
  have in3_ : ¬ ((0 : Int32) < 0 ∨ cl3_.slots.size ≤ ((0 : Int32)).toNatClampNeg) := inb_of S3_ ⟨by decide, by decide⟩
  have at3_ : cl3_.slots[((0 : Int32)).toNatClampNeg]? = some (.double (FP.l2d y0)) := Hs3_.at in3_ rfl
  have q4_ : FP.dsub (FP.l2d y0) (FP.l2d m1) = FP.l2d (y0 - m1) := dsub_w (b_y0.b53 (by decide)) (bm.b53 (by decide))
  have r6_ : own_R (y0 - m1) 4294967296 := own_R.sub b_y0 bm (by decide) (by decide)
  have q5_ : FP.dadd (FP.l2d (0 : Int64)) (FP.l2d (y0 - m1)) = FP.l2d ((0 : Int64) + (y0 - m1)) := dadd_w ((own_R.lit (0 : Int64) 0 (by decide)).b53 (by decide)) (r6_.b53 (by decide))
  obtain ⟨cl7_, Ar7_, q7_, S7_, M7_, Hs7_, G7_⟩ := id V1
  have in7_ : ¬ ((1 : Int32) < 0 ∨ cl7_.slots.size ≤ ((1 : Int32)).toNatClampNeg) := inb_of S7_ ⟨by decide, by decide⟩
  have at7_ : cl7_.slots[((1 : Int32)).toNatClampNeg]? = some (.double (FP.l2d y1)) := Hs7_.at in7_ rfl
  have q8_ : FP.dsub (FP.l2d y1) (FP.l2d m1) = FP.l2d (y1 - m1) := dsub_w (b_y1.b53 (by decide)) (bm.b53 (by decide))
  have r10_ : own_R ((0 : Int64) + (y0 - m1)) 4294967296 := own_R.add (own_R.lit (0 : Int64) 0 (by decide)) r6_ (by decide) (by decide)
  have r11_ : own_R (y1 - m1) 4294967296 := own_R.sub b_y1 bm (by decide) (by decide)
  have q9_ : FP.dadd (FP.l2d ((0 : Int64) + (y0 - m1))) (FP.l2d (y1 - m1)) = FP.l2d (((0 : Int64) + (y0 - m1)) + (y1 - m1)) := dadd_w (r10_.b53 (by decide)) (r11_.b53 (by decide))
  obtain ⟨cl12_, Ar12_, q12_, S12_, M12_, Hs12_, G12_⟩ := id V1
  have in12_ : ¬ ((2 : Int32) < 0 ∨ cl12_.slots.size ≤ ((2 : Int32)).toNatClampNeg) := inb_of S12_ ⟨by decide, by decide⟩
  have at12_ : cl12_.slots[((2 : Int32)).toNatClampNeg]? = some (.double (FP.l2d y2)) := Hs12_.at in12_ rfl
  have q13_ : FP.dsub (FP.l2d y2) (FP.l2d m1) = FP.l2d (y2 - m1) := dsub_w (b_y2.b53 (by decide)) (bm.b53 (by decide))
  have r15_ : own_R (((0 : Int64) + (y0 - m1)) + (y1 - m1)) 8589934592 := own_R.add r10_ r11_ (by decide) (by decide)
  have r16_ : own_R (y2 - m1) 4294967296 := own_R.sub b_y2 bm (by decide) (by decide)
  have q14_ : FP.dadd (FP.l2d (((0 : Int64) + (y0 - m1)) + (y1 - m1))) (FP.l2d (y2 - m1)) = FP.l2d ((((0 : Int64) + (y0 - m1)) + (y1 - m1)) + (y2 - m1)) := dadd_w (r15_.b53 (by decide)) (r16_.b53 (by decide))
  obtain ⟨T17_, X17_, e17_, st17_⟩ := getF X1_ hx hZ hown (host := "") (Or.inl (hw _ (List.mem_of_getElem? (i := 14) rfl))) Via.refl e1_ F1 (g := (mkF m 45 #[.val (.ref a1), .val (.double (FP.l2d m1)), .second, .val (.double (FP.l2d ((((0 : Int64) + (y0 - m1)) + (y1 - m1)) + (y2 - m1)))), .second, .val (.ref t1), .val (.int (3 : Int32)), .val (.int (3 : Int32)), .val (.double (FP.l2d y2)), .second] [(.ref a1), (.double (FP.l2d ((((0 : Int64) + (y0 - m1)) + (y1 - m1)) + (y2 - m1))))])) rfl rfl (hb hby d5_45)
  obtain ⟨cl18_, Ar18_, q18_, S18_, M18_, Hs18_, G18_⟩ := id V1
  have q19_ : Jvm.Free.Fl.NoNaN64 (FP.ddiv (FP.l2d ((((0 : Int64) + (y0 - m1)) + (y1 - m1)) + (y2 - m1))) (FP.i2d (3 : Int32))) := own_ddiv _ _ (by decide)
  obtain ⟨fs, hr, hrun, hended, hW, hsame⟩ := X17_.leave (v := some (.double (FP.ddiv (FP.l2d ((((0 : Int64) + (y0 - m1)) + (y1 - m1)) + (y2 - m1))) (FP.i2d (3 : Int32))))) (fun h => by first | rfl | (rw [Bd.returns] at h; cases h))
  refine ⟨_, _, pre0 _ ?_, hrun, hended, _, _, rfl, ?_, ⟨_, rfl⟩, hW, hsame.mono (by exact Nat.le_of_ble_eq_true rfl) (by exact Nat.le_of_ble_eq_true rfl)⟩
  · show Steps p.tables e below (s₁.setTop (mkF m 0 #[.val (.ref a1), .val (.double (FP.l2d m1)), .second, .unset, .unset, .unset, .unset, .unset, .unset, .unset] [])) _
    refine XS.dconst0 X0.here hx rfl (hb hby d5_0) own_d0 ?_
    show Steps p.tables e below (s₁.setTop (mkF m 1 #[.val (.ref a1), .val (.double (FP.l2d m1)), .second, .unset, .unset, .unset, .unset, .unset, .unset, .unset] [(.double (FP.l2d (0 : Int64)))])) _
    refine XS.dstoreN X0.here hx rfl (hb hby d5_1) rfl (l' := #[.val (.ref a1), .val (.double (FP.l2d m1)), .second, .val (.double (FP.l2d (0 : Int64))), .second, .unset, .unset, .unset, .unset, .unset]) rfl ?_
    show Steps p.tables e below (s₁.setTop (mkF m 2 #[.val (.ref a1), .val (.double (FP.l2d m1)), .second, .val (.double (FP.l2d (0 : Int64))), .second, .unset, .unset, .unset, .unset, .unset] [])) _
    refine XS.aloadN X0.here hx rfl (hb hby d5_2) rfl rfl ?_
    refine st1_ _ ?_
    show Steps p.tables e below (T1_.setTop (mkF m 6 #[.val (.ref a1), .val (.double (FP.l2d m1)), .second, .val (.double (FP.l2d (0 : Int64))), .second, .unset, .unset, .unset, .unset, .unset] [(.ref t1)])) _
    refine XS.astore X1_.here hx rfl (hb hby d5_6) rfl rfl (l' := #[.val (.ref a1), .val (.double (FP.l2d m1)), .second, .val (.double (FP.l2d (0 : Int64))), .second, .val (.ref t1), .unset, .unset, .unset, .unset]) rfl ?_
    show Steps p.tables e below (T1_.setTop (mkF m 8 #[.val (.ref a1), .val (.double (FP.l2d m1)), .second, .val (.double (FP.l2d (0 : Int64))), .second, .val (.ref t1), .unset, .unset, .unset, .unset] [])) _
    refine XS.aload X1_.here hx rfl (hb hby d5_8) rfl rfl ?_
    refine X1_.arraylength hx (by rw [e1_]; exact Ar2_.1) (State.isArrayOf_alike (State.Warmed39.alike hZ) Ar2_.2.1) (g := (mkF m 10 #[.val (.ref a1), .val (.double (FP.l2d m1)), .second, .val (.double (FP.l2d (0 : Int64))), .second, .val (.ref t1), .unset, .unset, .unset, .unset] [(.ref t1)])) rfl rfl (hb hby d5_10) _ ?_
    rw [len_of S2_ M2_]
    show Steps p.tables e below (T1_.setTop (mkF m 11 #[.val (.ref a1), .val (.double (FP.l2d m1)), .second, .val (.double (FP.l2d (0 : Int64))), .second, .val (.ref t1), .unset, .unset, .unset, .unset] [(.int (3 : Int32))])) _
    refine XS.istore X1_.here hx rfl (hb hby d5_11) rfl (l' := #[.val (.ref a1), .val (.double (FP.l2d m1)), .second, .val (.double (FP.l2d (0 : Int64))), .second, .val (.ref t1), .val (.int (3 : Int32)), .unset, .unset, .unset]) rfl ?_
    show Steps p.tables e below (T1_.setTop (mkF m 13 #[.val (.ref a1), .val (.double (FP.l2d m1)), .second, .val (.double (FP.l2d (0 : Int64))), .second, .val (.ref t1), .val (.int (3 : Int32)), .unset, .unset, .unset] [])) _
    refine XS.iconst X1_.here hx rfl (hb hby d5_13) ?_
    refine XS.istore X1_.here hx rfl (hb hby d5_14) rfl (l' := #[.val (.ref a1), .val (.double (FP.l2d m1)), .second, .val (.double (FP.l2d (0 : Int64))), .second, .val (.ref t1), .val (.int (3 : Int32)), .val (.int (0 : Int32)), .unset, .unset]) rfl ?_
    show Steps p.tables e below (T1_.setTop (mkF m 16 #[.val (.ref a1), .val (.double (FP.l2d m1)), .second, .val (.double (FP.l2d (0 : Int64))), .second, .val (.ref t1), .val (.int (3 : Int32)), .val (.int (0 : Int32)), .unset, .unset] [])) _
    refine XS.iload X1_.here hx rfl (hb hby d5_16) rfl ?_
    refine XS.iload X1_.here hx rfl (hb hby d5_18) rfl ?_
    refine XS.icmpNo X1_.here hx rfl (hb hby d5_20) rfl (tlt ((by decide) : (0 : Int32) < (3 : Int32))).2.1 ?_
    show Steps p.tables e below (T1_.setTop (mkF m 23 #[.val (.ref a1), .val (.double (FP.l2d m1)), .second, .val (.double (FP.l2d (0 : Int64))), .second, .val (.ref t1), .val (.int (3 : Int32)), .val (.int (0 : Int32)), .unset, .unset] [])) _
    refine XS.aload X1_.here hx rfl (hb hby d5_23) rfl rfl ?_
    refine XS.iload X1_.here hx rfl (hb hby d5_25) rfl ?_
    refine X1_.daload hx (j := (0 : Int32)) (v := (.double (FP.l2d y0))) (by rw [e1_]; exact Ar3_.1) (State.isArrayOf_alike (State.Warmed39.alike hZ) Ar3_.2.1) Ar3_.2.2 in3_ at3_ (g := (mkF m 27 #[.val (.ref a1), .val (.double (FP.l2d m1)), .second, .val (.double (FP.l2d (0 : Int64))), .second, .val (.ref t1), .val (.int (3 : Int32)), .val (.int (0 : Int32)), .unset, .unset] [(.int (0 : Int32)), (.ref t1)])) rfl rfl (hb hby d5_27) _ ?_
    show Steps p.tables e below (T1_.setTop (mkF m 28 #[.val (.ref a1), .val (.double (FP.l2d m1)), .second, .val (.double (FP.l2d (0 : Int64))), .second, .val (.ref t1), .val (.int (3 : Int32)), .val (.int (0 : Int32)), .unset, .unset] [(.double (FP.l2d y0))])) _
    refine XS.dstore X1_.here hx rfl (hb hby d5_28) rfl (l' := #[.val (.ref a1), .val (.double (FP.l2d m1)), .second, .val (.double (FP.l2d (0 : Int64))), .second, .val (.ref t1), .val (.int (3 : Int32)), .val (.int (0 : Int32)), .val (.double (FP.l2d y0)), .second]) rfl ?_
    show Steps p.tables e below (T1_.setTop (mkF m 30 #[.val (.ref a1), .val (.double (FP.l2d m1)), .second, .val (.double (FP.l2d (0 : Int64))), .second, .val (.ref t1), .val (.int (3 : Int32)), .val (.int (0 : Int32)), .val (.double (FP.l2d y0)), .second] [])) _
    refine XS.dloadN X1_.here hx rfl (hb hby d5_30) rfl ?_
    refine XS.dload X1_.here hx rfl (hb hby d5_31) rfl ?_
    refine XS.dloadN X1_.here hx rfl (hb hby d5_33) rfl ?_
    refine XS.dsubS X1_.here hx rfl (hb hby d5_34) rfl (nn_w q4_) (v := (FP.l2d (y0 - m1))) q4_ ?_
    show Steps p.tables e below (T1_.setTop (mkF m 35 #[.val (.ref a1), .val (.double (FP.l2d m1)), .second, .val (.double (FP.l2d (0 : Int64))), .second, .val (.ref t1), .val (.int (3 : Int32)), .val (.int (0 : Int32)), .val (.double (FP.l2d y0)), .second] [(.double (FP.l2d (y0 - m1))), (.double (FP.l2d (0 : Int64)))])) _
    refine XS.daddS X1_.here hx rfl (hb hby d5_35) rfl (nn_w q5_) (v := (FP.l2d ((0 : Int64) + (y0 - m1)))) q5_ ?_
    show Steps p.tables e below (T1_.setTop (mkF m 36 #[.val (.ref a1), .val (.double (FP.l2d m1)), .second, .val (.double (FP.l2d (0 : Int64))), .second, .val (.ref t1), .val (.int (3 : Int32)), .val (.int (0 : Int32)), .val (.double (FP.l2d y0)), .second] [(.double (FP.l2d ((0 : Int64) + (y0 - m1))))])) _
    refine XS.dstoreN X1_.here hx rfl (hb hby d5_36) rfl (l' := #[.val (.ref a1), .val (.double (FP.l2d m1)), .second, .val (.double (FP.l2d ((0 : Int64) + (y0 - m1)))), .second, .val (.ref t1), .val (.int (3 : Int32)), .val (.int (0 : Int32)), .val (.double (FP.l2d y0)), .second]) rfl ?_
    show Steps p.tables e below (T1_.setTop (mkF m 37 #[.val (.ref a1), .val (.double (FP.l2d m1)), .second, .val (.double (FP.l2d ((0 : Int64) + (y0 - m1)))), .second, .val (.ref t1), .val (.int (3 : Int32)), .val (.int (0 : Int32)), .val (.double (FP.l2d y0)), .second] [])) _
    refine XS.iinc X1_.here hx rfl (hb hby d5_37) rfl (l' := #[.val (.ref a1), .val (.double (FP.l2d m1)), .second, .val (.double (FP.l2d ((0 : Int64) + (y0 - m1)))), .second, .val (.ref t1), .val (.int (3 : Int32)), .val (.int (1 : Int32)), .val (.double (FP.l2d y0)), .second]) rfl ?_
    show Steps p.tables e below (T1_.setTop (mkF m 40 #[.val (.ref a1), .val (.double (FP.l2d m1)), .second, .val (.double (FP.l2d ((0 : Int64) + (y0 - m1)))), .second, .val (.ref t1), .val (.int (3 : Int32)), .val (.int (1 : Int32)), .val (.double (FP.l2d y0)), .second] [])) _
    refine XS.goto X1_.here hx rfl (pc0 := 40) (pc' := 16) rfl (hb hby d5_40) (by decide) (by decide) ?_
    show Steps p.tables e below (T1_.setTop (mkF m 16 #[.val (.ref a1), .val (.double (FP.l2d m1)), .second, .val (.double (FP.l2d ((0 : Int64) + (y0 - m1)))), .second, .val (.ref t1), .val (.int (3 : Int32)), .val (.int (1 : Int32)), .val (.double (FP.l2d y0)), .second] [])) _
    refine XS.iload X1_.here hx rfl (hb hby d5_16) rfl ?_
    refine XS.iload X1_.here hx rfl (hb hby d5_18) rfl ?_
    refine XS.icmpNo X1_.here hx rfl (hb hby d5_20) rfl (tlt ((by decide) : (1 : Int32) < (3 : Int32))).2.1 ?_
    show Steps p.tables e below (T1_.setTop (mkF m 23 #[.val (.ref a1), .val (.double (FP.l2d m1)), .second, .val (.double (FP.l2d ((0 : Int64) + (y0 - m1)))), .second, .val (.ref t1), .val (.int (3 : Int32)), .val (.int (1 : Int32)), .val (.double (FP.l2d y0)), .second] [])) _
    refine XS.aload X1_.here hx rfl (hb hby d5_23) rfl rfl ?_
    refine XS.iload X1_.here hx rfl (hb hby d5_25) rfl ?_
    refine X1_.daload hx (j := (1 : Int32)) (v := (.double (FP.l2d y1))) (by rw [e1_]; exact Ar7_.1) (State.isArrayOf_alike (State.Warmed39.alike hZ) Ar7_.2.1) Ar7_.2.2 in7_ at7_ (g := (mkF m 27 #[.val (.ref a1), .val (.double (FP.l2d m1)), .second, .val (.double (FP.l2d ((0 : Int64) + (y0 - m1)))), .second, .val (.ref t1), .val (.int (3 : Int32)), .val (.int (1 : Int32)), .val (.double (FP.l2d y0)), .second] [(.int (1 : Int32)), (.ref t1)])) rfl rfl (hb hby d5_27) _ ?_
    show Steps p.tables e below (T1_.setTop (mkF m 28 #[.val (.ref a1), .val (.double (FP.l2d m1)), .second, .val (.double (FP.l2d ((0 : Int64) + (y0 - m1)))), .second, .val (.ref t1), .val (.int (3 : Int32)), .val (.int (1 : Int32)), .val (.double (FP.l2d y0)), .second] [(.double (FP.l2d y1))])) _
    refine XS.dstore X1_.here hx rfl (hb hby d5_28) rfl (l' := #[.val (.ref a1), .val (.double (FP.l2d m1)), .second, .val (.double (FP.l2d ((0 : Int64) + (y0 - m1)))), .second, .val (.ref t1), .val (.int (3 : Int32)), .val (.int (1 : Int32)), .val (.double (FP.l2d y1)), .second]) rfl ?_
    show Steps p.tables e below (T1_.setTop (mkF m 30 #[.val (.ref a1), .val (.double (FP.l2d m1)), .second, .val (.double (FP.l2d ((0 : Int64) + (y0 - m1)))), .second, .val (.ref t1), .val (.int (3 : Int32)), .val (.int (1 : Int32)), .val (.double (FP.l2d y1)), .second] [])) _
    refine XS.dloadN X1_.here hx rfl (hb hby d5_30) rfl ?_
    refine XS.dload X1_.here hx rfl (hb hby d5_31) rfl ?_
    refine XS.dloadN X1_.here hx rfl (hb hby d5_33) rfl ?_
    refine XS.dsubS X1_.here hx rfl (hb hby d5_34) rfl (nn_w q8_) (v := (FP.l2d (y1 - m1))) q8_ ?_
    show Steps p.tables e below (T1_.setTop (mkF m 35 #[.val (.ref a1), .val (.double (FP.l2d m1)), .second, .val (.double (FP.l2d ((0 : Int64) + (y0 - m1)))), .second, .val (.ref t1), .val (.int (3 : Int32)), .val (.int (1 : Int32)), .val (.double (FP.l2d y1)), .second] [(.double (FP.l2d (y1 - m1))), (.double (FP.l2d ((0 : Int64) + (y0 - m1))))])) _
    refine XS.daddS X1_.here hx rfl (hb hby d5_35) rfl (nn_w q9_) (v := (FP.l2d (((0 : Int64) + (y0 - m1)) + (y1 - m1)))) q9_ ?_
    show Steps p.tables e below (T1_.setTop (mkF m 36 #[.val (.ref a1), .val (.double (FP.l2d m1)), .second, .val (.double (FP.l2d ((0 : Int64) + (y0 - m1)))), .second, .val (.ref t1), .val (.int (3 : Int32)), .val (.int (1 : Int32)), .val (.double (FP.l2d y1)), .second] [(.double (FP.l2d (((0 : Int64) + (y0 - m1)) + (y1 - m1))))])) _
    refine XS.dstoreN X1_.here hx rfl (hb hby d5_36) rfl (l' := #[.val (.ref a1), .val (.double (FP.l2d m1)), .second, .val (.double (FP.l2d (((0 : Int64) + (y0 - m1)) + (y1 - m1)))), .second, .val (.ref t1), .val (.int (3 : Int32)), .val (.int (1 : Int32)), .val (.double (FP.l2d y1)), .second]) rfl ?_
    show Steps p.tables e below (T1_.setTop (mkF m 37 #[.val (.ref a1), .val (.double (FP.l2d m1)), .second, .val (.double (FP.l2d (((0 : Int64) + (y0 - m1)) + (y1 - m1)))), .second, .val (.ref t1), .val (.int (3 : Int32)), .val (.int (1 : Int32)), .val (.double (FP.l2d y1)), .second] [])) _
    refine XS.iinc X1_.here hx rfl (hb hby d5_37) rfl (l' := #[.val (.ref a1), .val (.double (FP.l2d m1)), .second, .val (.double (FP.l2d (((0 : Int64) + (y0 - m1)) + (y1 - m1)))), .second, .val (.ref t1), .val (.int (3 : Int32)), .val (.int (2 : Int32)), .val (.double (FP.l2d y1)), .second]) rfl ?_
    show Steps p.tables e below (T1_.setTop (mkF m 40 #[.val (.ref a1), .val (.double (FP.l2d m1)), .second, .val (.double (FP.l2d (((0 : Int64) + (y0 - m1)) + (y1 - m1)))), .second, .val (.ref t1), .val (.int (3 : Int32)), .val (.int (2 : Int32)), .val (.double (FP.l2d y1)), .second] [])) _
    refine XS.goto X1_.here hx rfl (pc0 := 40) (pc' := 16) rfl (hb hby d5_40) (by decide) (by decide) ?_
    show Steps p.tables e below (T1_.setTop (mkF m 16 #[.val (.ref a1), .val (.double (FP.l2d m1)), .second, .val (.double (FP.l2d (((0 : Int64) + (y0 - m1)) + (y1 - m1)))), .second, .val (.ref t1), .val (.int (3 : Int32)), .val (.int (2 : Int32)), .val (.double (FP.l2d y1)), .second] [])) _
    refine XS.iload X1_.here hx rfl (hb hby d5_16) rfl ?_
    refine XS.iload X1_.here hx rfl (hb hby d5_18) rfl ?_
    refine XS.icmpNo X1_.here hx rfl (hb hby d5_20) rfl (tlt ((by decide) : (2 : Int32) < (3 : Int32))).2.1 ?_
    show Steps p.tables e below (T1_.setTop (mkF m 23 #[.val (.ref a1), .val (.double (FP.l2d m1)), .second, .val (.double (FP.l2d (((0 : Int64) + (y0 - m1)) + (y1 - m1)))), .second, .val (.ref t1), .val (.int (3 : Int32)), .val (.int (2 : Int32)), .val (.double (FP.l2d y1)), .second] [])) _
    refine XS.aload X1_.here hx rfl (hb hby d5_23) rfl rfl ?_
    refine XS.iload X1_.here hx rfl (hb hby d5_25) rfl ?_
    refine X1_.daload hx (j := (2 : Int32)) (v := (.double (FP.l2d y2))) (by rw [e1_]; exact Ar12_.1) (State.isArrayOf_alike (State.Warmed39.alike hZ) Ar12_.2.1) Ar12_.2.2 in12_ at12_ (g := (mkF m 27 #[.val (.ref a1), .val (.double (FP.l2d m1)), .second, .val (.double (FP.l2d (((0 : Int64) + (y0 - m1)) + (y1 - m1)))), .second, .val (.ref t1), .val (.int (3 : Int32)), .val (.int (2 : Int32)), .val (.double (FP.l2d y1)), .second] [(.int (2 : Int32)), (.ref t1)])) rfl rfl (hb hby d5_27) _ ?_
    show Steps p.tables e below (T1_.setTop (mkF m 28 #[.val (.ref a1), .val (.double (FP.l2d m1)), .second, .val (.double (FP.l2d (((0 : Int64) + (y0 - m1)) + (y1 - m1)))), .second, .val (.ref t1), .val (.int (3 : Int32)), .val (.int (2 : Int32)), .val (.double (FP.l2d y1)), .second] [(.double (FP.l2d y2))])) _
    refine XS.dstore X1_.here hx rfl (hb hby d5_28) rfl (l' := #[.val (.ref a1), .val (.double (FP.l2d m1)), .second, .val (.double (FP.l2d (((0 : Int64) + (y0 - m1)) + (y1 - m1)))), .second, .val (.ref t1), .val (.int (3 : Int32)), .val (.int (2 : Int32)), .val (.double (FP.l2d y2)), .second]) rfl ?_
    show Steps p.tables e below (T1_.setTop (mkF m 30 #[.val (.ref a1), .val (.double (FP.l2d m1)), .second, .val (.double (FP.l2d (((0 : Int64) + (y0 - m1)) + (y1 - m1)))), .second, .val (.ref t1), .val (.int (3 : Int32)), .val (.int (2 : Int32)), .val (.double (FP.l2d y2)), .second] [])) _
    refine XS.dloadN X1_.here hx rfl (hb hby d5_30) rfl ?_
    refine XS.dload X1_.here hx rfl (hb hby d5_31) rfl ?_
    refine XS.dloadN X1_.here hx rfl (hb hby d5_33) rfl ?_
    refine XS.dsubS X1_.here hx rfl (hb hby d5_34) rfl (nn_w q13_) (v := (FP.l2d (y2 - m1))) q13_ ?_
    show Steps p.tables e below (T1_.setTop (mkF m 35 #[.val (.ref a1), .val (.double (FP.l2d m1)), .second, .val (.double (FP.l2d (((0 : Int64) + (y0 - m1)) + (y1 - m1)))), .second, .val (.ref t1), .val (.int (3 : Int32)), .val (.int (2 : Int32)), .val (.double (FP.l2d y2)), .second] [(.double (FP.l2d (y2 - m1))), (.double (FP.l2d (((0 : Int64) + (y0 - m1)) + (y1 - m1))))])) _
    refine XS.daddS X1_.here hx rfl (hb hby d5_35) rfl (nn_w q14_) (v := (FP.l2d ((((0 : Int64) + (y0 - m1)) + (y1 - m1)) + (y2 - m1)))) q14_ ?_
    show Steps p.tables e below (T1_.setTop (mkF m 36 #[.val (.ref a1), .val (.double (FP.l2d m1)), .second, .val (.double (FP.l2d (((0 : Int64) + (y0 - m1)) + (y1 - m1)))), .second, .val (.ref t1), .val (.int (3 : Int32)), .val (.int (2 : Int32)), .val (.double (FP.l2d y2)), .second] [(.double (FP.l2d ((((0 : Int64) + (y0 - m1)) + (y1 - m1)) + (y2 - m1))))])) _
    refine XS.dstoreN X1_.here hx rfl (hb hby d5_36) rfl (l' := #[.val (.ref a1), .val (.double (FP.l2d m1)), .second, .val (.double (FP.l2d ((((0 : Int64) + (y0 - m1)) + (y1 - m1)) + (y2 - m1)))), .second, .val (.ref t1), .val (.int (3 : Int32)), .val (.int (2 : Int32)), .val (.double (FP.l2d y2)), .second]) rfl ?_
    show Steps p.tables e below (T1_.setTop (mkF m 37 #[.val (.ref a1), .val (.double (FP.l2d m1)), .second, .val (.double (FP.l2d ((((0 : Int64) + (y0 - m1)) + (y1 - m1)) + (y2 - m1)))), .second, .val (.ref t1), .val (.int (3 : Int32)), .val (.int (2 : Int32)), .val (.double (FP.l2d y2)), .second] [])) _
    refine XS.iinc X1_.here hx rfl (hb hby d5_37) rfl (l' := #[.val (.ref a1), .val (.double (FP.l2d m1)), .second, .val (.double (FP.l2d ((((0 : Int64) + (y0 - m1)) + (y1 - m1)) + (y2 - m1)))), .second, .val (.ref t1), .val (.int (3 : Int32)), .val (.int (3 : Int32)), .val (.double (FP.l2d y2)), .second]) rfl ?_
    show Steps p.tables e below (T1_.setTop (mkF m 40 #[.val (.ref a1), .val (.double (FP.l2d m1)), .second, .val (.double (FP.l2d ((((0 : Int64) + (y0 - m1)) + (y1 - m1)) + (y2 - m1)))), .second, .val (.ref t1), .val (.int (3 : Int32)), .val (.int (3 : Int32)), .val (.double (FP.l2d y2)), .second] [])) _
    refine XS.goto X1_.here hx rfl (pc0 := 40) (pc' := 16) rfl (hb hby d5_40) (by decide) (by decide) ?_
    show Steps p.tables e below (T1_.setTop (mkF m 16 #[.val (.ref a1), .val (.double (FP.l2d m1)), .second, .val (.double (FP.l2d ((((0 : Int64) + (y0 - m1)) + (y1 - m1)) + (y2 - m1)))), .second, .val (.ref t1), .val (.int (3 : Int32)), .val (.int (3 : Int32)), .val (.double (FP.l2d y2)), .second] [])) _
    refine XS.iload X1_.here hx rfl (hb hby d5_16) rfl ?_
    refine XS.iload X1_.here hx rfl (hb hby d5_18) rfl ?_
    refine XS.icmpYes X1_.here hx rfl (pc0 := 20) (pc' := 43) rfl (hb hby d5_20) rfl (flt ((by decide) : ¬ ((3 : Int32) < (3 : Int32)))).2.1 (by decide) (by decide) ?_
    show Steps p.tables e below (T1_.setTop (mkF m 43 #[.val (.ref a1), .val (.double (FP.l2d m1)), .second, .val (.double (FP.l2d ((((0 : Int64) + (y0 - m1)) + (y1 - m1)) + (y2 - m1)))), .second, .val (.ref t1), .val (.int (3 : Int32)), .val (.int (3 : Int32)), .val (.double (FP.l2d y2)), .second] [])) _
    refine XS.dloadN X1_.here hx rfl (hb hby d5_43) rfl ?_
    refine XS.aloadN X1_.here hx rfl (hb hby d5_44) rfl rfl ?_
    refine st17_ _ ?_
    show Steps p.tables e below (T17_.setTop (mkF m 48 #[.val (.ref a1), .val (.double (FP.l2d m1)), .second, .val (.double (FP.l2d ((((0 : Int64) + (y0 - m1)) + (y1 - m1)) + (y2 - m1)))), .second, .val (.ref t1), .val (.int (3 : Int32)), .val (.int (3 : Int32)), .val (.double (FP.l2d y2)), .second] [(.ref t1), (.double (FP.l2d ((((0 : Int64) + (y0 - m1)) + (y1 - m1)) + (y2 - m1))))])) _
    refine X17_.arraylength hx (by rw [e17_]; exact Ar18_.1) (State.isArrayOf_alike (State.Warmed39.alike hZ) Ar18_.2.1) (g := (mkF m 48 #[.val (.ref a1), .val (.double (FP.l2d m1)), .second, .val (.double (FP.l2d ((((0 : Int64) + (y0 - m1)) + (y1 - m1)) + (y2 - m1)))), .second, .val (.ref t1), .val (.int (3 : Int32)), .val (.int (3 : Int32)), .val (.double (FP.l2d y2)), .second] [(.ref t1), (.double (FP.l2d ((((0 : Int64) + (y0 - m1)) + (y1 - m1)) + (y2 - m1))))])) rfl rfl (hb hby d5_48) _ ?_
    rw [len_of S18_ M18_]
    show Steps p.tables e below (T17_.setTop (mkF m 49 #[.val (.ref a1), .val (.double (FP.l2d m1)), .second, .val (.double (FP.l2d ((((0 : Int64) + (y0 - m1)) + (y1 - m1)) + (y2 - m1)))), .second, .val (.ref t1), .val (.int (3 : Int32)), .val (.int (3 : Int32)), .val (.double (FP.l2d y2)), .second] [(.int (3 : Int32)), (.double (FP.l2d ((((0 : Int64) + (y0 - m1)) + (y1 - m1)) + (y2 - m1))))])) _
    refine XS.i2dS X17_.here hx rfl (hb hby d5_49) rfl (v := (FP.i2d (3 : Int32))) rfl ?_
    show Steps p.tables e below (T17_.setTop (mkF m 50 #[.val (.ref a1), .val (.double (FP.l2d m1)), .second, .val (.double (FP.l2d ((((0 : Int64) + (y0 - m1)) + (y1 - m1)) + (y2 - m1)))), .second, .val (.ref t1), .val (.int (3 : Int32)), .val (.int (3 : Int32)), .val (.double (FP.l2d y2)), .second] [(.double (FP.i2d (3 : Int32))), (.double (FP.l2d ((((0 : Int64) + (y0 - m1)) + (y1 - m1)) + (y2 - m1))))])) _
    refine XS.ddivS X17_.here hx rfl (hb hby d5_50) rfl q19_ (v := (FP.ddiv (FP.l2d ((((0 : Int64) + (y0 - m1)) + (y1 - m1)) + (y2 - m1))) (FP.i2d (3 : Int32)))) rfl ?_
    show Steps p.tables e below (T17_.setTop (mkF m 51 #[.val (.ref a1), .val (.double (FP.l2d m1)), .second, .val (.double (FP.l2d ((((0 : Int64) + (y0 - m1)) + (y1 - m1)) + (y2 - m1)))), .second, .val (.ref t1), .val (.int (3 : Int32)), .val (.int (3 : Int32)), .val (.double (FP.l2d y2)), .second] [(.double (FP.ddiv (FP.l2d ((((0 : Int64) + (y0 - m1)) + (y1 - m1)) + (y2 - m1))) (FP.i2d (3 : Int32))))])) _
    exact retD X17_ hx Bd.returns (hb hby d5_51) hr
  · show Q_rmMa3 Z a1 m1 t1 k1 y0 y1 y2 h0 n0 _ T17_.heap _
    rw [e17_]
    exact ⟨rfl, N0, rfl⟩
theorem ef_rmMa4 (m : MethodId) (x0 : Addr) (x1 : UInt64) : entryFrame m #[(.ref x0), (.double x1)] 10 = mkF m 0 #[.val (.ref x0), .val (.double x1), .second, .unset, .unset, .unset, .unset, .unset, .unset, .unset] [] := by first | (simp [entryFrame, mkF, argsToLocals, Value.category]; done) | rfl
def Q_rmMa4 (Z : State) (a1 : Addr) (m1 : Int64) (t1 : Addr) (k1 : ClassId) (y0 : Int64) (y1 : Int64) (y2 : Int64) (y3 : Int64) (h0 : Heap) (n0 : Nat) (v : Option Value) (h : Heap) (L : List Loc) : Prop := v = some (.double (FP.ddiv (FP.l2d (((((0 : Int64) + (y0 - m1)) + (y1 - m1)) + (y2 - m1)) + (y3 - m1))) (FP.i2d (4 : Int32)))) ∧ Fr n0 L ∧ h = h0
set_option maxRecDepth 65536 in
set_option maxHeartbeats 40000000 in
theorem rmMa4 (l : Launch) (Z : State) (a0 : Array Value) (hw : ∀ d ∈ tables_1, d.before a0 Z = true) (ws : List Jvm.Cond) (a1 : Addr) (m1 : Int64) (t1 : Addr) (k1 : ClassId) (y0 : Int64) (y1 : Int64) (y2 : Int64) (y3 : Int64) (h0 : Heap) (n0 : Nat) (Z0 : n0 ≤ h0.size) (F1 : Fld Z h0 a1 "com/example/whipstill/whipstill/MovingWindow" "values" "[D" (.ref t1)) (V1 : Arv Z h0 t1 k1 .double (4 : Int32) [(.double (FP.l2d y0)), (.double (FP.l2d y1)), (.double (FP.l2d y2)), (.double (FP.l2d y3))] (.double (0 : UInt64))) (bm : own_R m1 2147483648) (b_y0 : own_R y0 2147483648) (b_y1 : own_R y1 2147483648) (b_y2 : own_R y2 2147483648) (b_y3 : own_R y3 2147483648) :
    MetFree l (⟨"com/example/whipstill/whipstill/MovingWindow", "meanAbove", "(D)D"⟩ : MethodName) (head1 (Jvm.Cond.code (⟨"com/example/whipstill/whipstill/MovingWindow", "meanAbove", "(D)D"⟩ : MethodName) prog_11_method_5_code 10 (some .double) :: ws) ({ frames := 0, cells := 0, slots := 0, locals := 0 } : Room)) (fun a U => a = #[(.ref a1), (.double (FP.l2d m1))] ∧ Z.Warmed39 U.vm ∧ U.heap = h0) (fun _ _ _ _ _ => True) (fun _ U o U' => ∃ v L, o = .returned v ∧ Q_rmMa4 Z a1 m1 t1 k1 y0 y1 y2 y3 h0 n0 v U'.heap L ∧ FrameEnd U o U' L ({ frames := 0, cells := 0, slots := 0, locals := 0 } : Room).cells ({ frames := 0, cells := 0, slots := 0, locals := 0 } : Room).slots) := by
  refine MetFree.of_bodySF (plainFor_of_name pn_com_example_whipstill_whipstill_MovingWindow) hisR ?_
  intro p e s m args below meth c s₁ Bd hml0 hP hK
  obtain ⟨rfl, hZ, hh⟩ := hP
  have hx := Bd.exec
  have hby := Bd.bytes
  have hml : c.maxLocals = 10 := hml0
  have hown : s.vm.findClass "com/example/whipstill/whipstill/MovingWindow" = some m.cls := findClass_of_methodNamed Bd.named
  have hnm := (name_of_methodNamed Bd.named Bd.method).1
  have X0 : Stand p l e ({ frames := 0, cells := 0, slots := 0, locals := 0 } : Room) s m #[(.ref a1), (.double (FP.l2d m1))] below meth c s₁ [] 0 0 := Stand.of_body Bd
  have e0 : s₁.heap = h0 := by rw [← hh, Bd.state]; rfl
  have N0 := Fr.nil n0
  have pre0 : ∀ t, Steps p.tables e below (s₁.setTop (mkF m 0 #[.val (.ref a1), .val (.double (FP.l2d m1)), .second, .unset, .unset, .unset, .unset, .unset, .unset, .unset] [])) t → Steps p.tables e below (s₁.setTop (entryFrame m #[(.ref a1), (.double (FP.l2d m1))] 10)) t := fun t k => castTop (ef_rmMa4 m a1 (FP.l2d m1)) k
  obtain ⟨T1_, X1_, e1_, st1_⟩ := getF X0 hx hZ hown (host := "") (Or.inl (hw _ (List.mem_of_getElem? (i := 14) rfl))) Via.refl e0 F1 (g := (mkF m 3 #[.val (.ref a1), .val (.double (FP.l2d m1)), .second, .val (.double (FP.l2d (0 : Int64))), .second, .unset, .unset, .unset, .unset, .unset] [(.ref a1)])) rfl rfl (hb hby d5_3)
  obtain ⟨cl2_, Ar2_, q2_, S2_, M2_, Hs2_, G2_⟩ := id V1
  obtain ⟨cl3_, Ar3_, q3_, S3_, M3_, Hs3_, G3_⟩ := id V1
  have in3_ : ¬ ((0 : Int32) < 0 ∨ cl3_.slots.size ≤ ((0 : Int32)).toNatClampNeg) := inb_of S3_ ⟨by decide, by decide⟩
  have at3_ : cl3_.slots[((0 : Int32)).toNatClampNeg]? = some (.double (FP.l2d y0)) := Hs3_.at in3_ rfl
  have q4_ : FP.dsub (FP.l2d y0) (FP.l2d m1) = FP.l2d (y0 - m1) := dsub_w (b_y0.b53 (by decide)) (bm.b53 (by decide))
  have r6_ : own_R (y0 - m1) 4294967296 := own_R.sub b_y0 bm (by decide) (by decide)
  have q5_ : FP.dadd (FP.l2d (0 : Int64)) (FP.l2d (y0 - m1)) = FP.l2d ((0 : Int64) + (y0 - m1)) := dadd_w ((own_R.lit (0 : Int64) 0 (by decide)).b53 (by decide)) (r6_.b53 (by decide))
  obtain ⟨cl7_, Ar7_, q7_, S7_, M7_, Hs7_, G7_⟩ := id V1
  have in7_ : ¬ ((1 : Int32) < 0 ∨ cl7_.slots.size ≤ ((1 : Int32)).toNatClampNeg) := inb_of S7_ ⟨by decide, by decide⟩
  have at7_ : cl7_.slots[((1 : Int32)).toNatClampNeg]? = some (.double (FP.l2d y1)) := Hs7_.at in7_ rfl
  have q8_ : FP.dsub (FP.l2d y1) (FP.l2d m1) = FP.l2d (y1 - m1) := dsub_w (b_y1.b53 (by decide)) (bm.b53 (by decide))
  have r10_ : own_R ((0 : Int64) + (y0 - m1)) 4294967296 := own_R.add (own_R.lit (0 : Int64) 0 (by decide)) r6_ (by decide) (by decide)
  have r11_ : own_R (y1 - m1) 4294967296 := own_R.sub b_y1 bm (by decide) (by decide)
  have q9_ : FP.dadd (FP.l2d ((0 : Int64) + (y0 - m1))) (FP.l2d (y1 - m1)) = FP.l2d (((0 : Int64) + (y0 - m1)) + (y1 - m1)) := dadd_w (r10_.b53 (by decide)) (r11_.b53 (by decide))
  obtain ⟨cl12_, Ar12_, q12_, S12_, M12_, Hs12_, G12_⟩ := id V1
  have in12_ : ¬ ((2 : Int32) < 0 ∨ cl12_.slots.size ≤ ((2 : Int32)).toNatClampNeg) := inb_of S12_ ⟨by decide, by decide⟩
  have at12_ : cl12_.slots[((2 : Int32)).toNatClampNeg]? = some (.double (FP.l2d y2)) := Hs12_.at in12_ rfl
  have q13_ : FP.dsub (FP.l2d y2) (FP.l2d m1) = FP.l2d (y2 - m1) := dsub_w (b_y2.b53 (by decide)) (bm.b53 (by decide))
  have r15_ : own_R (((0 : Int64) + (y0 - m1)) + (y1 - m1)) 8589934592 := own_R.add r10_ r11_ (by decide) (by decide)
  have r16_ : own_R (y2 - m1) 4294967296 := own_R.sub b_y2 bm (by decide) (by decide)
  have q14_ : FP.dadd (FP.l2d (((0 : Int64) + (y0 - m1)) + (y1 - m1))) (FP.l2d (y2 - m1)) = FP.l2d ((((0 : Int64) + (y0 - m1)) + (y1 - m1)) + (y2 - m1)) := dadd_w (r15_.b53 (by decide)) (r16_.b53 (by decide))
  obtain ⟨cl17_, Ar17_, q17_, S17_, M17_, Hs17_, G17_⟩ := id V1
  have in17_ : ¬ ((3 : Int32) < 0 ∨ cl17_.slots.size ≤ ((3 : Int32)).toNatClampNeg) := inb_of S17_ ⟨by decide, by decide⟩
  have at17_ : cl17_.slots[((3 : Int32)).toNatClampNeg]? = some (.double (FP.l2d y3)) := Hs17_.at in17_ rfl
  have q18_ : FP.dsub (FP.l2d y3) (FP.l2d m1) = FP.l2d (y3 - m1) := dsub_w (b_y3.b53 (by decide)) (bm.b53 (by decide))
  have r20_ : own_R ((((0 : Int64) + (y0 - m1)) + (y1 - m1)) + (y2 - m1)) 12884901888 := own_R.add r15_ r16_ (by decide) (by decide)
  have r21_ : own_R (y3 - m1) 4294967296 := own_R.sub b_y3 bm (by decide) (by decide)
  have q19_ : FP.dadd (FP.l2d ((((0 : Int64) + (y0 - m1)) + (y1 - m1)) + (y2 - m1))) (FP.l2d (y3 - m1)) = FP.l2d (((((0 : Int64) + (y0 - m1)) + (y1 - m1)) + (y2 - m1)) + (y3 - m1)) := dadd_w (r20_.b53 (by decide)) (r21_.b53 (by decide))
  obtain ⟨T22_, X22_, e22_, st22_⟩ := getF X1_ hx hZ hown (host := "") (Or.inl (hw _ (List.mem_of_getElem? (i := 14) rfl))) Via.refl e1_ F1 (g := (mkF m 45 #[.val (.ref a1), .val (.double (FP.l2d m1)), .second, .val (.double (FP.l2d (((((0 : Int64) + (y0 - m1)) + (y1 - m1)) + (y2 - m1)) + (y3 - m1)))), .second, .val (.ref t1), .val (.int (4 : Int32)), .val (.int (4 : Int32)), .val (.double (FP.l2d y3)), .second] [(.ref a1), (.double (FP.l2d (((((0 : Int64) + (y0 - m1)) + (y1 - m1)) + (y2 - m1)) + (y3 - m1))))])) rfl rfl (hb hby d5_45)
  obtain ⟨cl23_, Ar23_, q23_, S23_, M23_, Hs23_, G23_⟩ := id V1
  have q24_ : Jvm.Free.Fl.NoNaN64 (FP.ddiv (FP.l2d (((((0 : Int64) + (y0 - m1)) + (y1 - m1)) + (y2 - m1)) + (y3 - m1))) (FP.i2d (4 : Int32))) := own_ddiv _ _ (by decide)
  obtain ⟨fs, hr, hrun, hended, hW, hsame⟩ := X22_.leave (v := some (.double (FP.ddiv (FP.l2d (((((0 : Int64) + (y0 - m1)) + (y1 - m1)) + (y2 - m1)) + (y3 - m1))) (FP.i2d (4 : Int32))))) (fun h => by first | rfl | (rw [Bd.returns] at h; cases h))
  refine ⟨_, _, pre0 _ ?_, hrun, hended, _, _, rfl, ?_, ⟨_, rfl⟩, hW, hsame.mono (by exact Nat.le_of_ble_eq_true rfl) (by exact Nat.le_of_ble_eq_true rfl)⟩
  · show Steps p.tables e below (s₁.setTop (mkF m 0 #[.val (.ref a1), .val (.double (FP.l2d m1)), .second, .unset, .unset, .unset, .unset, .unset, .unset, .unset] [])) _
    refine XS.dconst0 X0.here hx rfl (hb hby d5_0) own_d0 ?_
    show Steps p.tables e below (s₁.setTop (mkF m 1 #[.val (.ref a1), .val (.double (FP.l2d m1)), .second, .unset, .unset, .unset, .unset, .unset, .unset, .unset] [(.double (FP.l2d (0 : Int64)))])) _
    refine XS.dstoreN X0.here hx rfl (hb hby d5_1) rfl (l' := #[.val (.ref a1), .val (.double (FP.l2d m1)), .second, .val (.double (FP.l2d (0 : Int64))), .second, .unset, .unset, .unset, .unset, .unset]) rfl ?_
    show Steps p.tables e below (s₁.setTop (mkF m 2 #[.val (.ref a1), .val (.double (FP.l2d m1)), .second, .val (.double (FP.l2d (0 : Int64))), .second, .unset, .unset, .unset, .unset, .unset] [])) _
    refine XS.aloadN X0.here hx rfl (hb hby d5_2) rfl rfl ?_
    refine st1_ _ ?_
    show Steps p.tables e below (T1_.setTop (mkF m 6 #[.val (.ref a1), .val (.double (FP.l2d m1)), .second, .val (.double (FP.l2d (0 : Int64))), .second, .unset, .unset, .unset, .unset, .unset] [(.ref t1)])) _
    refine XS.astore X1_.here hx rfl (hb hby d5_6) rfl rfl (l' := #[.val (.ref a1), .val (.double (FP.l2d m1)), .second, .val (.double (FP.l2d (0 : Int64))), .second, .val (.ref t1), .unset, .unset, .unset, .unset]) rfl ?_
    show Steps p.tables e below (T1_.setTop (mkF m 8 #[.val (.ref a1), .val (.double (FP.l2d m1)), .second, .val (.double (FP.l2d (0 : Int64))), .second, .val (.ref t1), .unset, .unset, .unset, .unset] [])) _
    refine XS.aload X1_.here hx rfl (hb hby d5_8) rfl rfl ?_
    refine X1_.arraylength hx (by rw [e1_]; exact Ar2_.1) (State.isArrayOf_alike (State.Warmed39.alike hZ) Ar2_.2.1) (g := (mkF m 10 #[.val (.ref a1), .val (.double (FP.l2d m1)), .second, .val (.double (FP.l2d (0 : Int64))), .second, .val (.ref t1), .unset, .unset, .unset, .unset] [(.ref t1)])) rfl rfl (hb hby d5_10) _ ?_
    rw [len_of S2_ M2_]
    show Steps p.tables e below (T1_.setTop (mkF m 11 #[.val (.ref a1), .val (.double (FP.l2d m1)), .second, .val (.double (FP.l2d (0 : Int64))), .second, .val (.ref t1), .unset, .unset, .unset, .unset] [(.int (4 : Int32))])) _
    refine XS.istore X1_.here hx rfl (hb hby d5_11) rfl (l' := #[.val (.ref a1), .val (.double (FP.l2d m1)), .second, .val (.double (FP.l2d (0 : Int64))), .second, .val (.ref t1), .val (.int (4 : Int32)), .unset, .unset, .unset]) rfl ?_
    show Steps p.tables e below (T1_.setTop (mkF m 13 #[.val (.ref a1), .val (.double (FP.l2d m1)), .second, .val (.double (FP.l2d (0 : Int64))), .second, .val (.ref t1), .val (.int (4 : Int32)), .unset, .unset, .unset] [])) _
    refine XS.iconst X1_.here hx rfl (hb hby d5_13) ?_
    refine XS.istore X1_.here hx rfl (hb hby d5_14) rfl (l' := #[.val (.ref a1), .val (.double (FP.l2d m1)), .second, .val (.double (FP.l2d (0 : Int64))), .second, .val (.ref t1), .val (.int (4 : Int32)), .val (.int (0 : Int32)), .unset, .unset]) rfl ?_
    show Steps p.tables e below (T1_.setTop (mkF m 16 #[.val (.ref a1), .val (.double (FP.l2d m1)), .second, .val (.double (FP.l2d (0 : Int64))), .second, .val (.ref t1), .val (.int (4 : Int32)), .val (.int (0 : Int32)), .unset, .unset] [])) _
    refine XS.iload X1_.here hx rfl (hb hby d5_16) rfl ?_
    refine XS.iload X1_.here hx rfl (hb hby d5_18) rfl ?_
    refine XS.icmpNo X1_.here hx rfl (hb hby d5_20) rfl (tlt ((by decide) : (0 : Int32) < (4 : Int32))).2.1 ?_
    show Steps p.tables e below (T1_.setTop (mkF m 23 #[.val (.ref a1), .val (.double (FP.l2d m1)), .second, .val (.double (FP.l2d (0 : Int64))), .second, .val (.ref t1), .val (.int (4 : Int32)), .val (.int (0 : Int32)), .unset, .unset] [])) _
    refine XS.aload X1_.here hx rfl (hb hby d5_23) rfl rfl ?_
    refine XS.iload X1_.here hx rfl (hb hby d5_25) rfl ?_
    refine X1_.daload hx (j := (0 : Int32)) (v := (.double (FP.l2d y0))) (by rw [e1_]; exact Ar3_.1) (State.isArrayOf_alike (State.Warmed39.alike hZ) Ar3_.2.1) Ar3_.2.2 in3_ at3_ (g := (mkF m 27 #[.val (.ref a1), .val (.double (FP.l2d m1)), .second, .val (.double (FP.l2d (0 : Int64))), .second, .val (.ref t1), .val (.int (4 : Int32)), .val (.int (0 : Int32)), .unset, .unset] [(.int (0 : Int32)), (.ref t1)])) rfl rfl (hb hby d5_27) _ ?_
    show Steps p.tables e below (T1_.setTop (mkF m 28 #[.val (.ref a1), .val (.double (FP.l2d m1)), .second, .val (.double (FP.l2d (0 : Int64))), .second, .val (.ref t1), .val (.int (4 : Int32)), .val (.int (0 : Int32)), .unset, .unset] [(.double (FP.l2d y0))])) _
    refine XS.dstore X1_.here hx rfl (hb hby d5_28) rfl (l' := #[.val (.ref a1), .val (.double (FP.l2d m1)), .second, .val (.double (FP.l2d (0 : Int64))), .second, .val (.ref t1), .val (.int (4 : Int32)), .val (.int (0 : Int32)), .val (.double (FP.l2d y0)), .second]) rfl ?_
    show Steps p.tables e below (T1_.setTop (mkF m 30 #[.val (.ref a1), .val (.double (FP.l2d m1)), .second, .val (.double (FP.l2d (0 : Int64))), .second, .val (.ref t1), .val (.int (4 : Int32)), .val (.int (0 : Int32)), .val (.double (FP.l2d y0)), .second] [])) _
    refine XS.dloadN X1_.here hx rfl (hb hby d5_30) rfl ?_
    refine XS.dload X1_.here hx rfl (hb hby d5_31) rfl ?_
    refine XS.dloadN X1_.here hx rfl (hb hby d5_33) rfl ?_
    refine XS.dsubS X1_.here hx rfl (hb hby d5_34) rfl (nn_w q4_) (v := (FP.l2d (y0 - m1))) q4_ ?_
    show Steps p.tables e below (T1_.setTop (mkF m 35 #[.val (.ref a1), .val (.double (FP.l2d m1)), .second, .val (.double (FP.l2d (0 : Int64))), .second, .val (.ref t1), .val (.int (4 : Int32)), .val (.int (0 : Int32)), .val (.double (FP.l2d y0)), .second] [(.double (FP.l2d (y0 - m1))), (.double (FP.l2d (0 : Int64)))])) _
    refine XS.daddS X1_.here hx rfl (hb hby d5_35) rfl (nn_w q5_) (v := (FP.l2d ((0 : Int64) + (y0 - m1)))) q5_ ?_
    show Steps p.tables e below (T1_.setTop (mkF m 36 #[.val (.ref a1), .val (.double (FP.l2d m1)), .second, .val (.double (FP.l2d (0 : Int64))), .second, .val (.ref t1), .val (.int (4 : Int32)), .val (.int (0 : Int32)), .val (.double (FP.l2d y0)), .second] [(.double (FP.l2d ((0 : Int64) + (y0 - m1))))])) _
    refine XS.dstoreN X1_.here hx rfl (hb hby d5_36) rfl (l' := #[.val (.ref a1), .val (.double (FP.l2d m1)), .second, .val (.double (FP.l2d ((0 : Int64) + (y0 - m1)))), .second, .val (.ref t1), .val (.int (4 : Int32)), .val (.int (0 : Int32)), .val (.double (FP.l2d y0)), .second]) rfl ?_
    show Steps p.tables e below (T1_.setTop (mkF m 37 #[.val (.ref a1), .val (.double (FP.l2d m1)), .second, .val (.double (FP.l2d ((0 : Int64) + (y0 - m1)))), .second, .val (.ref t1), .val (.int (4 : Int32)), .val (.int (0 : Int32)), .val (.double (FP.l2d y0)), .second] [])) _
    refine XS.iinc X1_.here hx rfl (hb hby d5_37) rfl (l' := #[.val (.ref a1), .val (.double (FP.l2d m1)), .second, .val (.double (FP.l2d ((0 : Int64) + (y0 - m1)))), .second, .val (.ref t1), .val (.int (4 : Int32)), .val (.int (1 : Int32)), .val (.double (FP.l2d y0)), .second]) rfl ?_
    show Steps p.tables e below (T1_.setTop (mkF m 40 #[.val (.ref a1), .val (.double (FP.l2d m1)), .second, .val (.double (FP.l2d ((0 : Int64) + (y0 - m1)))), .second, .val (.ref t1), .val (.int (4 : Int32)), .val (.int (1 : Int32)), .val (.double (FP.l2d y0)), .second] [])) _
    refine XS.goto X1_.here hx rfl (pc0 := 40) (pc' := 16) rfl (hb hby d5_40) (by decide) (by decide) ?_
    show Steps p.tables e below (T1_.setTop (mkF m 16 #[.val (.ref a1), .val (.double (FP.l2d m1)), .second, .val (.double (FP.l2d ((0 : Int64) + (y0 - m1)))), .second, .val (.ref t1), .val (.int (4 : Int32)), .val (.int (1 : Int32)), .val (.double (FP.l2d y0)), .second] [])) _
    refine XS.iload X1_.here hx rfl (hb hby d5_16) rfl ?_
    refine XS.iload X1_.here hx rfl (hb hby d5_18) rfl ?_
    refine XS.icmpNo X1_.here hx rfl (hb hby d5_20) rfl (tlt ((by decide) : (1 : Int32) < (4 : Int32))).2.1 ?_
    show Steps p.tables e below (T1_.setTop (mkF m 23 #[.val (.ref a1), .val (.double (FP.l2d m1)), .second, .val (.double (FP.l2d ((0 : Int64) + (y0 - m1)))), .second, .val (.ref t1), .val (.int (4 : Int32)), .val (.int (1 : Int32)), .val (.double (FP.l2d y0)), .second] [])) _
    refine XS.aload X1_.here hx rfl (hb hby d5_23) rfl rfl ?_
    refine XS.iload X1_.here hx rfl (hb hby d5_25) rfl ?_
    refine X1_.daload hx (j := (1 : Int32)) (v := (.double (FP.l2d y1))) (by rw [e1_]; exact Ar7_.1) (State.isArrayOf_alike (State.Warmed39.alike hZ) Ar7_.2.1) Ar7_.2.2 in7_ at7_ (g := (mkF m 27 #[.val (.ref a1), .val (.double (FP.l2d m1)), .second, .val (.double (FP.l2d ((0 : Int64) + (y0 - m1)))), .second, .val (.ref t1), .val (.int (4 : Int32)), .val (.int (1 : Int32)), .val (.double (FP.l2d y0)), .second] [(.int (1 : Int32)), (.ref t1)])) rfl rfl (hb hby d5_27) _ ?_
    show Steps p.tables e below (T1_.setTop (mkF m 28 #[.val (.ref a1), .val (.double (FP.l2d m1)), .second, .val (.double (FP.l2d ((0 : Int64) + (y0 - m1)))), .second, .val (.ref t1), .val (.int (4 : Int32)), .val (.int (1 : Int32)), .val (.double (FP.l2d y0)), .second] [(.double (FP.l2d y1))])) _
    refine XS.dstore X1_.here hx rfl (hb hby d5_28) rfl (l' := #[.val (.ref a1), .val (.double (FP.l2d m1)), .second, .val (.double (FP.l2d ((0 : Int64) + (y0 - m1)))), .second, .val (.ref t1), .val (.int (4 : Int32)), .val (.int (1 : Int32)), .val (.double (FP.l2d y1)), .second]) rfl ?_
    show Steps p.tables e below (T1_.setTop (mkF m 30 #[.val (.ref a1), .val (.double (FP.l2d m1)), .second, .val (.double (FP.l2d ((0 : Int64) + (y0 - m1)))), .second, .val (.ref t1), .val (.int (4 : Int32)), .val (.int (1 : Int32)), .val (.double (FP.l2d y1)), .second] [])) _
    refine XS.dloadN X1_.here hx rfl (hb hby d5_30) rfl ?_
    refine XS.dload X1_.here hx rfl (hb hby d5_31) rfl ?_
    refine XS.dloadN X1_.here hx rfl (hb hby d5_33) rfl ?_
    refine XS.dsubS X1_.here hx rfl (hb hby d5_34) rfl (nn_w q8_) (v := (FP.l2d (y1 - m1))) q8_ ?_
    show Steps p.tables e below (T1_.setTop (mkF m 35 #[.val (.ref a1), .val (.double (FP.l2d m1)), .second, .val (.double (FP.l2d ((0 : Int64) + (y0 - m1)))), .second, .val (.ref t1), .val (.int (4 : Int32)), .val (.int (1 : Int32)), .val (.double (FP.l2d y1)), .second] [(.double (FP.l2d (y1 - m1))), (.double (FP.l2d ((0 : Int64) + (y0 - m1))))])) _
    refine XS.daddS X1_.here hx rfl (hb hby d5_35) rfl (nn_w q9_) (v := (FP.l2d (((0 : Int64) + (y0 - m1)) + (y1 - m1)))) q9_ ?_
    show Steps p.tables e below (T1_.setTop (mkF m 36 #[.val (.ref a1), .val (.double (FP.l2d m1)), .second, .val (.double (FP.l2d ((0 : Int64) + (y0 - m1)))), .second, .val (.ref t1), .val (.int (4 : Int32)), .val (.int (1 : Int32)), .val (.double (FP.l2d y1)), .second] [(.double (FP.l2d (((0 : Int64) + (y0 - m1)) + (y1 - m1))))])) _
    refine XS.dstoreN X1_.here hx rfl (hb hby d5_36) rfl (l' := #[.val (.ref a1), .val (.double (FP.l2d m1)), .second, .val (.double (FP.l2d (((0 : Int64) + (y0 - m1)) + (y1 - m1)))), .second, .val (.ref t1), .val (.int (4 : Int32)), .val (.int (1 : Int32)), .val (.double (FP.l2d y1)), .second]) rfl ?_
    show Steps p.tables e below (T1_.setTop (mkF m 37 #[.val (.ref a1), .val (.double (FP.l2d m1)), .second, .val (.double (FP.l2d (((0 : Int64) + (y0 - m1)) + (y1 - m1)))), .second, .val (.ref t1), .val (.int (4 : Int32)), .val (.int (1 : Int32)), .val (.double (FP.l2d y1)), .second] [])) _
    refine XS.iinc X1_.here hx rfl (hb hby d5_37) rfl (l' := #[.val (.ref a1), .val (.double (FP.l2d m1)), .second, .val (.double (FP.l2d (((0 : Int64) + (y0 - m1)) + (y1 - m1)))), .second, .val (.ref t1), .val (.int (4 : Int32)), .val (.int (2 : Int32)), .val (.double (FP.l2d y1)), .second]) rfl ?_
    show Steps p.tables e below (T1_.setTop (mkF m 40 #[.val (.ref a1), .val (.double (FP.l2d m1)), .second, .val (.double (FP.l2d (((0 : Int64) + (y0 - m1)) + (y1 - m1)))), .second, .val (.ref t1), .val (.int (4 : Int32)), .val (.int (2 : Int32)), .val (.double (FP.l2d y1)), .second] [])) _
    refine XS.goto X1_.here hx rfl (pc0 := 40) (pc' := 16) rfl (hb hby d5_40) (by decide) (by decide) ?_
    show Steps p.tables e below (T1_.setTop (mkF m 16 #[.val (.ref a1), .val (.double (FP.l2d m1)), .second, .val (.double (FP.l2d (((0 : Int64) + (y0 - m1)) + (y1 - m1)))), .second, .val (.ref t1), .val (.int (4 : Int32)), .val (.int (2 : Int32)), .val (.double (FP.l2d y1)), .second] [])) _
    refine XS.iload X1_.here hx rfl (hb hby d5_16) rfl ?_
    refine XS.iload X1_.here hx rfl (hb hby d5_18) rfl ?_
    refine XS.icmpNo X1_.here hx rfl (hb hby d5_20) rfl (tlt ((by decide) : (2 : Int32) < (4 : Int32))).2.1 ?_
    show Steps p.tables e below (T1_.setTop (mkF m 23 #[.val (.ref a1), .val (.double (FP.l2d m1)), .second, .val (.double (FP.l2d (((0 : Int64) + (y0 - m1)) + (y1 - m1)))), .second, .val (.ref t1), .val (.int (4 : Int32)), .val (.int (2 : Int32)), .val (.double (FP.l2d y1)), .second] [])) _
    refine XS.aload X1_.here hx rfl (hb hby d5_23) rfl rfl ?_
    refine XS.iload X1_.here hx rfl (hb hby d5_25) rfl ?_
    refine X1_.daload hx (j := (2 : Int32)) (v := (.double (FP.l2d y2))) (by rw [e1_]; exact Ar12_.1) (State.isArrayOf_alike (State.Warmed39.alike hZ) Ar12_.2.1) Ar12_.2.2 in12_ at12_ (g := (mkF m 27 #[.val (.ref a1), .val (.double (FP.l2d m1)), .second, .val (.double (FP.l2d (((0 : Int64) + (y0 - m1)) + (y1 - m1)))), .second, .val (.ref t1), .val (.int (4 : Int32)), .val (.int (2 : Int32)), .val (.double (FP.l2d y1)), .second] [(.int (2 : Int32)), (.ref t1)])) rfl rfl (hb hby d5_27) _ ?_
    show Steps p.tables e below (T1_.setTop (mkF m 28 #[.val (.ref a1), .val (.double (FP.l2d m1)), .second, .val (.double (FP.l2d (((0 : Int64) + (y0 - m1)) + (y1 - m1)))), .second, .val (.ref t1), .val (.int (4 : Int32)), .val (.int (2 : Int32)), .val (.double (FP.l2d y1)), .second] [(.double (FP.l2d y2))])) _
    refine XS.dstore X1_.here hx rfl (hb hby d5_28) rfl (l' := #[.val (.ref a1), .val (.double (FP.l2d m1)), .second, .val (.double (FP.l2d (((0 : Int64) + (y0 - m1)) + (y1 - m1)))), .second, .val (.ref t1), .val (.int (4 : Int32)), .val (.int (2 : Int32)), .val (.double (FP.l2d y2)), .second]) rfl ?_
    show Steps p.tables e below (T1_.setTop (mkF m 30 #[.val (.ref a1), .val (.double (FP.l2d m1)), .second, .val (.double (FP.l2d (((0 : Int64) + (y0 - m1)) + (y1 - m1)))), .second, .val (.ref t1), .val (.int (4 : Int32)), .val (.int (2 : Int32)), .val (.double (FP.l2d y2)), .second] [])) _
    refine XS.dloadN X1_.here hx rfl (hb hby d5_30) rfl ?_
    refine XS.dload X1_.here hx rfl (hb hby d5_31) rfl ?_
    refine XS.dloadN X1_.here hx rfl (hb hby d5_33) rfl ?_
    refine XS.dsubS X1_.here hx rfl (hb hby d5_34) rfl (nn_w q13_) (v := (FP.l2d (y2 - m1))) q13_ ?_
    show Steps p.tables e below (T1_.setTop (mkF m 35 #[.val (.ref a1), .val (.double (FP.l2d m1)), .second, .val (.double (FP.l2d (((0 : Int64) + (y0 - m1)) + (y1 - m1)))), .second, .val (.ref t1), .val (.int (4 : Int32)), .val (.int (2 : Int32)), .val (.double (FP.l2d y2)), .second] [(.double (FP.l2d (y2 - m1))), (.double (FP.l2d (((0 : Int64) + (y0 - m1)) + (y1 - m1))))])) _
    refine XS.daddS X1_.here hx rfl (hb hby d5_35) rfl (nn_w q14_) (v := (FP.l2d ((((0 : Int64) + (y0 - m1)) + (y1 - m1)) + (y2 - m1)))) q14_ ?_
    show Steps p.tables e below (T1_.setTop (mkF m 36 #[.val (.ref a1), .val (.double (FP.l2d m1)), .second, .val (.double (FP.l2d (((0 : Int64) + (y0 - m1)) + (y1 - m1)))), .second, .val (.ref t1), .val (.int (4 : Int32)), .val (.int (2 : Int32)), .val (.double (FP.l2d y2)), .second] [(.double (FP.l2d ((((0 : Int64) + (y0 - m1)) + (y1 - m1)) + (y2 - m1))))])) _
    refine XS.dstoreN X1_.here hx rfl (hb hby d5_36) rfl (l' := #[.val (.ref a1), .val (.double (FP.l2d m1)), .second, .val (.double (FP.l2d ((((0 : Int64) + (y0 - m1)) + (y1 - m1)) + (y2 - m1)))), .second, .val (.ref t1), .val (.int (4 : Int32)), .val (.int (2 : Int32)), .val (.double (FP.l2d y2)), .second]) rfl ?_
    show Steps p.tables e below (T1_.setTop (mkF m 37 #[.val (.ref a1), .val (.double (FP.l2d m1)), .second, .val (.double (FP.l2d ((((0 : Int64) + (y0 - m1)) + (y1 - m1)) + (y2 - m1)))), .second, .val (.ref t1), .val (.int (4 : Int32)), .val (.int (2 : Int32)), .val (.double (FP.l2d y2)), .second] [])) _
    refine XS.iinc X1_.here hx rfl (hb hby d5_37) rfl (l' := #[.val (.ref a1), .val (.double (FP.l2d m1)), .second, .val (.double (FP.l2d ((((0 : Int64) + (y0 - m1)) + (y1 - m1)) + (y2 - m1)))), .second, .val (.ref t1), .val (.int (4 : Int32)), .val (.int (3 : Int32)), .val (.double (FP.l2d y2)), .second]) rfl ?_
    show Steps p.tables e below (T1_.setTop (mkF m 40 #[.val (.ref a1), .val (.double (FP.l2d m1)), .second, .val (.double (FP.l2d ((((0 : Int64) + (y0 - m1)) + (y1 - m1)) + (y2 - m1)))), .second, .val (.ref t1), .val (.int (4 : Int32)), .val (.int (3 : Int32)), .val (.double (FP.l2d y2)), .second] [])) _
    refine XS.goto X1_.here hx rfl (pc0 := 40) (pc' := 16) rfl (hb hby d5_40) (by decide) (by decide) ?_
    show Steps p.tables e below (T1_.setTop (mkF m 16 #[.val (.ref a1), .val (.double (FP.l2d m1)), .second, .val (.double (FP.l2d ((((0 : Int64) + (y0 - m1)) + (y1 - m1)) + (y2 - m1)))), .second, .val (.ref t1), .val (.int (4 : Int32)), .val (.int (3 : Int32)), .val (.double (FP.l2d y2)), .second] [])) _
    refine XS.iload X1_.here hx rfl (hb hby d5_16) rfl ?_
    refine XS.iload X1_.here hx rfl (hb hby d5_18) rfl ?_
    refine XS.icmpNo X1_.here hx rfl (hb hby d5_20) rfl (tlt ((by decide) : (3 : Int32) < (4 : Int32))).2.1 ?_
    show Steps p.tables e below (T1_.setTop (mkF m 23 #[.val (.ref a1), .val (.double (FP.l2d m1)), .second, .val (.double (FP.l2d ((((0 : Int64) + (y0 - m1)) + (y1 - m1)) + (y2 - m1)))), .second, .val (.ref t1), .val (.int (4 : Int32)), .val (.int (3 : Int32)), .val (.double (FP.l2d y2)), .second] [])) _
    refine XS.aload X1_.here hx rfl (hb hby d5_23) rfl rfl ?_
    refine XS.iload X1_.here hx rfl (hb hby d5_25) rfl ?_
    refine X1_.daload hx (j := (3 : Int32)) (v := (.double (FP.l2d y3))) (by rw [e1_]; exact Ar17_.1) (State.isArrayOf_alike (State.Warmed39.alike hZ) Ar17_.2.1) Ar17_.2.2 in17_ at17_ (g := (mkF m 27 #[.val (.ref a1), .val (.double (FP.l2d m1)), .second, .val (.double (FP.l2d ((((0 : Int64) + (y0 - m1)) + (y1 - m1)) + (y2 - m1)))), .second, .val (.ref t1), .val (.int (4 : Int32)), .val (.int (3 : Int32)), .val (.double (FP.l2d y2)), .second] [(.int (3 : Int32)), (.ref t1)])) rfl rfl (hb hby d5_27) _ ?_
    show Steps p.tables e below (T1_.setTop (mkF m 28 #[.val (.ref a1), .val (.double (FP.l2d m1)), .second, .val (.double (FP.l2d ((((0 : Int64) + (y0 - m1)) + (y1 - m1)) + (y2 - m1)))), .second, .val (.ref t1), .val (.int (4 : Int32)), .val (.int (3 : Int32)), .val (.double (FP.l2d y2)), .second] [(.double (FP.l2d y3))])) _
    refine XS.dstore X1_.here hx rfl (hb hby d5_28) rfl (l' := #[.val (.ref a1), .val (.double (FP.l2d m1)), .second, .val (.double (FP.l2d ((((0 : Int64) + (y0 - m1)) + (y1 - m1)) + (y2 - m1)))), .second, .val (.ref t1), .val (.int (4 : Int32)), .val (.int (3 : Int32)), .val (.double (FP.l2d y3)), .second]) rfl ?_
    show Steps p.tables e below (T1_.setTop (mkF m 30 #[.val (.ref a1), .val (.double (FP.l2d m1)), .second, .val (.double (FP.l2d ((((0 : Int64) + (y0 - m1)) + (y1 - m1)) + (y2 - m1)))), .second, .val (.ref t1), .val (.int (4 : Int32)), .val (.int (3 : Int32)), .val (.double (FP.l2d y3)), .second] [])) _
    refine XS.dloadN X1_.here hx rfl (hb hby d5_30) rfl ?_
    refine XS.dload X1_.here hx rfl (hb hby d5_31) rfl ?_
    refine XS.dloadN X1_.here hx rfl (hb hby d5_33) rfl ?_
    refine XS.dsubS X1_.here hx rfl (hb hby d5_34) rfl (nn_w q18_) (v := (FP.l2d (y3 - m1))) q18_ ?_
    show Steps p.tables e below (T1_.setTop (mkF m 35 #[.val (.ref a1), .val (.double (FP.l2d m1)), .second, .val (.double (FP.l2d ((((0 : Int64) + (y0 - m1)) + (y1 - m1)) + (y2 - m1)))), .second, .val (.ref t1), .val (.int (4 : Int32)), .val (.int (3 : Int32)), .val (.double (FP.l2d y3)), .second] [(.double (FP.l2d (y3 - m1))), (.double (FP.l2d ((((0 : Int64) + (y0 - m1)) + (y1 - m1)) + (y2 - m1))))])) _
    refine XS.daddS X1_.here hx rfl (hb hby d5_35) rfl (nn_w q19_) (v := (FP.l2d (((((0 : Int64) + (y0 - m1)) + (y1 - m1)) + (y2 - m1)) + (y3 - m1)))) q19_ ?_
    show Steps p.tables e below (T1_.setTop (mkF m 36 #[.val (.ref a1), .val (.double (FP.l2d m1)), .second, .val (.double (FP.l2d ((((0 : Int64) + (y0 - m1)) + (y1 - m1)) + (y2 - m1)))), .second, .val (.ref t1), .val (.int (4 : Int32)), .val (.int (3 : Int32)), .val (.double (FP.l2d y3)), .second] [(.double (FP.l2d (((((0 : Int64) + (y0 - m1)) + (y1 - m1)) + (y2 - m1)) + (y3 - m1))))])) _
    refine XS.dstoreN X1_.here hx rfl (hb hby d5_36) rfl (l' := #[.val (.ref a1), .val (.double (FP.l2d m1)), .second, .val (.double (FP.l2d (((((0 : Int64) + (y0 - m1)) + (y1 - m1)) + (y2 - m1)) + (y3 - m1)))), .second, .val (.ref t1), .val (.int (4 : Int32)), .val (.int (3 : Int32)), .val (.double (FP.l2d y3)), .second]) rfl ?_
    show Steps p.tables e below (T1_.setTop (mkF m 37 #[.val (.ref a1), .val (.double (FP.l2d m1)), .second, .val (.double (FP.l2d (((((0 : Int64) + (y0 - m1)) + (y1 - m1)) + (y2 - m1)) + (y3 - m1)))), .second, .val (.ref t1), .val (.int (4 : Int32)), .val (.int (3 : Int32)), .val (.double (FP.l2d y3)), .second] [])) _
    refine XS.iinc X1_.here hx rfl (hb hby d5_37) rfl (l' := #[.val (.ref a1), .val (.double (FP.l2d m1)), .second, .val (.double (FP.l2d (((((0 : Int64) + (y0 - m1)) + (y1 - m1)) + (y2 - m1)) + (y3 - m1)))), .second, .val (.ref t1), .val (.int (4 : Int32)), .val (.int (4 : Int32)), .val (.double (FP.l2d y3)), .second]) rfl ?_
    show Steps p.tables e below (T1_.setTop (mkF m 40 #[.val (.ref a1), .val (.double (FP.l2d m1)), .second, .val (.double (FP.l2d (((((0 : Int64) + (y0 - m1)) + (y1 - m1)) + (y2 - m1)) + (y3 - m1)))), .second, .val (.ref t1), .val (.int (4 : Int32)), .val (.int (4 : Int32)), .val (.double (FP.l2d y3)), .second] [])) _
    refine XS.goto X1_.here hx rfl (pc0 := 40) (pc' := 16) rfl (hb hby d5_40) (by decide) (by decide) ?_
    show Steps p.tables e below (T1_.setTop (mkF m 16 #[.val (.ref a1), .val (.double (FP.l2d m1)), .second, .val (.double (FP.l2d (((((0 : Int64) + (y0 - m1)) + (y1 - m1)) + (y2 - m1)) + (y3 - m1)))), .second, .val (.ref t1), .val (.int (4 : Int32)), .val (.int (4 : Int32)), .val (.double (FP.l2d y3)), .second] [])) _
    refine XS.iload X1_.here hx rfl (hb hby d5_16) rfl ?_
    refine XS.iload X1_.here hx rfl (hb hby d5_18) rfl ?_
    refine XS.icmpYes X1_.here hx rfl (pc0 := 20) (pc' := 43) rfl (hb hby d5_20) rfl (flt ((by decide) : ¬ ((4 : Int32) < (4 : Int32)))).2.1 (by decide) (by decide) ?_
    show Steps p.tables e below (T1_.setTop (mkF m 43 #[.val (.ref a1), .val (.double (FP.l2d m1)), .second, .val (.double (FP.l2d (((((0 : Int64) + (y0 - m1)) + (y1 - m1)) + (y2 - m1)) + (y3 - m1)))), .second, .val (.ref t1), .val (.int (4 : Int32)), .val (.int (4 : Int32)), .val (.double (FP.l2d y3)), .second] [])) _
    refine XS.dloadN X1_.here hx rfl (hb hby d5_43) rfl ?_
    refine XS.aloadN X1_.here hx rfl (hb hby d5_44) rfl rfl ?_
    refine st22_ _ ?_
    show Steps p.tables e below (T22_.setTop (mkF m 48 #[.val (.ref a1), .val (.double (FP.l2d m1)), .second, .val (.double (FP.l2d (((((0 : Int64) + (y0 - m1)) + (y1 - m1)) + (y2 - m1)) + (y3 - m1)))), .second, .val (.ref t1), .val (.int (4 : Int32)), .val (.int (4 : Int32)), .val (.double (FP.l2d y3)), .second] [(.ref t1), (.double (FP.l2d (((((0 : Int64) + (y0 - m1)) + (y1 - m1)) + (y2 - m1)) + (y3 - m1))))])) _
    refine X22_.arraylength hx (by rw [e22_]; exact Ar23_.1) (State.isArrayOf_alike (State.Warmed39.alike hZ) Ar23_.2.1) (g := (mkF m 48 #[.val (.ref a1), .val (.double (FP.l2d m1)), .second, .val (.double (FP.l2d (((((0 : Int64) + (y0 - m1)) + (y1 - m1)) + (y2 - m1)) + (y3 - m1)))), .second, .val (.ref t1), .val (.int (4 : Int32)), .val (.int (4 : Int32)), .val (.double (FP.l2d y3)), .second] [(.ref t1), (.double (FP.l2d (((((0 : Int64) + (y0 - m1)) + (y1 - m1)) + (y2 - m1)) + (y3 - m1))))])) rfl rfl (hb hby d5_48) _ ?_
    rw [len_of S23_ M23_]
    show Steps p.tables e below (T22_.setTop (mkF m 49 #[.val (.ref a1), .val (.double (FP.l2d m1)), .second, .val (.double (FP.l2d (((((0 : Int64) + (y0 - m1)) + (y1 - m1)) + (y2 - m1)) + (y3 - m1)))), .second, .val (.ref t1), .val (.int (4 : Int32)), .val (.int (4 : Int32)), .val (.double (FP.l2d y3)), .second] [(.int (4 : Int32)), (.double (FP.l2d (((((0 : Int64) + (y0 - m1)) + (y1 - m1)) + (y2 - m1)) + (y3 - m1))))])) _
    refine XS.i2dS X22_.here hx rfl (hb hby d5_49) rfl (v := (FP.i2d (4 : Int32))) rfl ?_
    show Steps p.tables e below (T22_.setTop (mkF m 50 #[.val (.ref a1), .val (.double (FP.l2d m1)), .second, .val (.double (FP.l2d (((((0 : Int64) + (y0 - m1)) + (y1 - m1)) + (y2 - m1)) + (y3 - m1)))), .second, .val (.ref t1), .val (.int (4 : Int32)), .val (.int (4 : Int32)), .val (.double (FP.l2d y3)), .second] [(.double (FP.i2d (4 : Int32))), (.double (FP.l2d (((((0 : Int64) + (y0 - m1)) + (y1 - m1)) + (y2 - m1)) + (y3 - m1))))])) _
    refine XS.ddivS X22_.here hx rfl (hb hby d5_50) rfl q24_ (v := (FP.ddiv (FP.l2d (((((0 : Int64) + (y0 - m1)) + (y1 - m1)) + (y2 - m1)) + (y3 - m1))) (FP.i2d (4 : Int32)))) rfl ?_
    show Steps p.tables e below (T22_.setTop (mkF m 51 #[.val (.ref a1), .val (.double (FP.l2d m1)), .second, .val (.double (FP.l2d (((((0 : Int64) + (y0 - m1)) + (y1 - m1)) + (y2 - m1)) + (y3 - m1)))), .second, .val (.ref t1), .val (.int (4 : Int32)), .val (.int (4 : Int32)), .val (.double (FP.l2d y3)), .second] [(.double (FP.ddiv (FP.l2d (((((0 : Int64) + (y0 - m1)) + (y1 - m1)) + (y2 - m1)) + (y3 - m1))) (FP.i2d (4 : Int32))))])) _
    exact retD X22_ hx Bd.returns (hb hby d5_51) hr
  · show Q_rmMa4 Z a1 m1 t1 k1 y0 y1 y2 y3 h0 n0 _ T22_.heap _
    rw [e22_]
    exact ⟨rfl, N0, rfl⟩
theorem d1_0 : decode jdk_29_method_69_code 0 = .ok (.iload_n 0, 1) := by decide +kernel
theorem d1_1 : decode jdk_29_method_69_code 1 = .ok (.iload_n 1, 1) := by decide +kernel
theorem d1_2 : decode jdk_29_method_69_code 2 = .ok (.if_icmp .gt 7, 3) := by decide +kernel
theorem d1_5 : decode jdk_29_method_69_code 5 = .ok (.iload_n 0, 1) := by decide +kernel
theorem d1_6 : decode jdk_29_method_69_code 6 = .ok (.goto 4, 3) := by decide +kernel
theorem d1_10 : decode jdk_29_method_69_code 10 = .ok (.ireturn, 1) := by decide +kernel
theorem ef_rmMin0 (m : MethodId) (x0 : Int32) (x1 : Int32) : entryFrame m #[(.int x0), (.int x1)] 2 = mkF m 0 #[.val (.int x0), .val (.int x1)] [] := by first | (simp [entryFrame, mkF, argsToLocals, Value.category]; done) | rfl
def Q_rmMin0 (Z : State) (p1 : Int32) (p2 : Int32) (h0 : Heap) (n0 : Nat) (v : Option Value) (h : Heap) (L : List Loc) : Prop := v = some (.int p1) ∧ Fr n0 L ∧ h = h0
set_option maxRecDepth 65536 in
set_option maxHeartbeats 40000000 in
theorem rmMin0 (l : Launch) (Z : State) (a0 : Array Value) (hw : ∀ d ∈ tables_1, d.before a0 Z = true) (ws : List Jvm.Cond) (p1 : Int32) (p2 : Int32) (h0 : Heap) (n0 : Nat) (Z0 : n0 ≤ h0.size) (hq0 : ¬ (p2 < p1)) :
    MetFree l (⟨"java/lang/Math", "min", "(II)I"⟩ : MethodName) (head1 (Jvm.Cond.code (⟨"java/lang/Math", "min", "(II)I"⟩ : MethodName) jdk_29_method_69_code 2 (some .int) :: ws) ({ frames := 0, cells := 0, slots := 0, locals := 0 } : Room)) (fun a U => a = #[(.int p1), (.int p2)] ∧ Z.Warmed39 U.vm ∧ U.heap = h0) (fun _ _ _ _ _ => True) (fun _ U o U' => ∃ v L, o = .returned v ∧ Q_rmMin0 Z p1 p2 h0 n0 v U'.heap L ∧ FrameEnd U o U' L ({ frames := 0, cells := 0, slots := 0, locals := 0 } : Room).cells ({ frames := 0, cells := 0, slots := 0, locals := 0 } : Room).slots) := by
  refine MetFree.of_bodySF (Jvm.Free.JP.mathPlain rfl (by decide +kernel)) hisR ?_
  intro p e s m args below meth c s₁ Bd hml0 hP hK
  obtain ⟨rfl, hZ, hh⟩ := hP
  have hx := Bd.exec
  have hby := Bd.bytes
  have hml : c.maxLocals = 2 := hml0
  have hown : s.vm.findClass "java/lang/Math" = some m.cls := findClass_of_methodNamed Bd.named
  have hnm := (name_of_methodNamed Bd.named Bd.method).1
  have X0 : Stand p l e ({ frames := 0, cells := 0, slots := 0, locals := 0 } : Room) s m #[(.int p1), (.int p2)] below meth c s₁ [] 0 0 := Stand.of_body Bd
  have e0 : s₁.heap = h0 := by rw [← hh, Bd.state]; rfl
  have N0 := Fr.nil n0
  have pre0 : ∀ t, Steps p.tables e below (s₁.setTop (mkF m 0 #[.val (.int p1), .val (.int p2)] [])) t → Steps p.tables e below (s₁.setTop (entryFrame m #[(.int p1), (.int p2)] 2)) t := fun t k => castTop (ef_rmMin0 m p1 p2) k
  obtain ⟨fs, hr, hrun, hended, hW, hsame⟩ := X0.leave (v := some (.int p1)) (fun h => by first | rfl | (rw [Bd.returns] at h; cases h))
  refine ⟨_, _, pre0 _ ?_, hrun, hended, _, _, rfl, ?_, ⟨_, rfl⟩, hW, hsame.mono (by exact Nat.le_of_ble_eq_true rfl) (by exact Nat.le_of_ble_eq_true rfl)⟩
  · show Steps p.tables e below (s₁.setTop (mkF m 0 #[.val (.int p1), .val (.int p2)] [])) _
    refine XS.iloadN X0.here hx rfl (hb hby d1_0) rfl ?_
    refine XS.iloadN X0.here hx rfl (hb hby d1_1) rfl ?_
    refine XS.icmpNo X0.here hx rfl (hb hby d1_2) rfl (flt (hq0 : ¬ (p2 < p1))).2.2.1 ?_
    show Steps p.tables e below (s₁.setTop (mkF m 5 #[.val (.int p1), .val (.int p2)] [])) _
    refine XS.iloadN X0.here hx rfl (hb hby d1_5) rfl ?_
    refine XS.goto X0.here hx rfl (pc0 := 6) (pc' := 10) rfl (hb hby d1_6) (by decide) (by decide) ?_
    show Steps p.tables e below (s₁.setTop (mkF m 10 #[.val (.int p1), .val (.int p2)] [(.int p1)])) _
    exact retI X0 hx Bd.returns (hb hby d1_10) hr
  · show Q_rmMin0 Z p1 p2 h0 n0 _ s₁.heap _
    rw [e0]
    exact ⟨rfl, N0, rfl⟩
theorem d1_9 : decode jdk_29_method_69_code 9 = .ok (.iload_n 1, 1) := by decide +kernel
theorem ef_rmMin1 (m : MethodId) (x0 : Int32) (x1 : Int32) : entryFrame m #[(.int x0), (.int x1)] 2 = mkF m 0 #[.val (.int x0), .val (.int x1)] [] := by first | (simp [entryFrame, mkF, argsToLocals, Value.category]; done) | rfl
def Q_rmMin1 (Z : State) (p1 : Int32) (p2 : Int32) (h0 : Heap) (n0 : Nat) (v : Option Value) (h : Heap) (L : List Loc) : Prop := v = some (.int p2) ∧ Fr n0 L ∧ h = h0
set_option maxRecDepth 65536 in
set_option maxHeartbeats 40000000 in
theorem rmMin1 (l : Launch) (Z : State) (a0 : Array Value) (hw : ∀ d ∈ tables_1, d.before a0 Z = true) (ws : List Jvm.Cond) (p1 : Int32) (p2 : Int32) (h0 : Heap) (n0 : Nat) (Z0 : n0 ≤ h0.size) (hq0 : p2 < p1) :
    MetFree l (⟨"java/lang/Math", "min", "(II)I"⟩ : MethodName) (head1 (Jvm.Cond.code (⟨"java/lang/Math", "min", "(II)I"⟩ : MethodName) jdk_29_method_69_code 2 (some .int) :: ws) ({ frames := 0, cells := 0, slots := 0, locals := 0 } : Room)) (fun a U => a = #[(.int p1), (.int p2)] ∧ Z.Warmed39 U.vm ∧ U.heap = h0) (fun _ _ _ _ _ => True) (fun _ U o U' => ∃ v L, o = .returned v ∧ Q_rmMin1 Z p1 p2 h0 n0 v U'.heap L ∧ FrameEnd U o U' L ({ frames := 0, cells := 0, slots := 0, locals := 0 } : Room).cells ({ frames := 0, cells := 0, slots := 0, locals := 0 } : Room).slots) := by
  refine MetFree.of_bodySF (Jvm.Free.JP.mathPlain rfl (by decide +kernel)) hisR ?_
  intro p e s m args below meth c s₁ Bd hml0 hP hK
  obtain ⟨rfl, hZ, hh⟩ := hP
  have hx := Bd.exec
  have hby := Bd.bytes
  have hml : c.maxLocals = 2 := hml0
  have hown : s.vm.findClass "java/lang/Math" = some m.cls := findClass_of_methodNamed Bd.named
  have hnm := (name_of_methodNamed Bd.named Bd.method).1
  have X0 : Stand p l e ({ frames := 0, cells := 0, slots := 0, locals := 0 } : Room) s m #[(.int p1), (.int p2)] below meth c s₁ [] 0 0 := Stand.of_body Bd
  have e0 : s₁.heap = h0 := by rw [← hh, Bd.state]; rfl
  have N0 := Fr.nil n0
  have pre0 : ∀ t, Steps p.tables e below (s₁.setTop (mkF m 0 #[.val (.int p1), .val (.int p2)] [])) t → Steps p.tables e below (s₁.setTop (entryFrame m #[(.int p1), (.int p2)] 2)) t := fun t k => castTop (ef_rmMin1 m p1 p2) k
  obtain ⟨fs, hr, hrun, hended, hW, hsame⟩ := X0.leave (v := some (.int p2)) (fun h => by first | rfl | (rw [Bd.returns] at h; cases h))
  refine ⟨_, _, pre0 _ ?_, hrun, hended, _, _, rfl, ?_, ⟨_, rfl⟩, hW, hsame.mono (by exact Nat.le_of_ble_eq_true rfl) (by exact Nat.le_of_ble_eq_true rfl)⟩
  · show Steps p.tables e below (s₁.setTop (mkF m 0 #[.val (.int p1), .val (.int p2)] [])) _
    refine XS.iloadN X0.here hx rfl (hb hby d1_0) rfl ?_
    refine XS.iloadN X0.here hx rfl (hb hby d1_1) rfl ?_
    refine XS.icmpYes X0.here hx rfl (pc0 := 2) (pc' := 9) rfl (hb hby d1_2) rfl (tlt (hq0 : p2 < p1)).2.2.1 (by decide) (by decide) ?_
    show Steps p.tables e below (s₁.setTop (mkF m 9 #[.val (.int p1), .val (.int p2)] [])) _
    refine XS.iloadN X0.here hx rfl (hb hby d1_9) rfl ?_
    exact retI X0 hx Bd.returns (hb hby d1_10) hr
  · show Q_rmMin1 Z p1 p2 h0 n0 _ s₁.heap _
    rw [e0]
    exact ⟨rfl, N0, rfl⟩
def own_minI (a b : Int32) : Int32 := if b < a then b else a
def Q_rmMin (Z : State) (p1 : Int32) (p2 : Int32) (h0 : Heap) (n0 : Nat) (v : Option Value) (h : Heap) (L : List Loc) : Prop := v = some (.int (own_minI p1 p2)) ∧ Fr n0 L ∧ h = h0
theorem rmMin (l : Launch) (Z : State) (a0 : Array Value) (hw : ∀ d ∈ tables_1, d.before a0 Z = true) (ws : List Jvm.Cond) (p1 : Int32) (p2 : Int32) (h0 : Heap) (n0 : Nat) (Z0 : n0 ≤ h0.size) :
    MetFree l (⟨"java/lang/Math", "min", "(II)I"⟩ : MethodName) (head1 (Jvm.Cond.code (⟨"java/lang/Math", "min", "(II)I"⟩ : MethodName) jdk_29_method_69_code 2 (some .int) :: ws) ({ frames := 0, cells := 0, slots := 0, locals := 0 } : Room)) (fun a U => a = #[(.int p1), (.int p2)] ∧ Z.Warmed39 U.vm ∧ U.heap = h0) (fun _ _ _ _ _ => True) (fun _ U o U' => ∃ v L, o = .returned v ∧ Q_rmMin Z p1 p2 h0 n0 v U'.heap L ∧ FrameEnd U o U' L ({ frames := 0, cells := 0, slots := 0, locals := 0 } : Room).cells ({ frames := 0, cells := 0, slots := 0, locals := 0 } : Room).slots) := by
  by_cases hc : p2 < p1
  · skip
    have e : own_minI p1 p2 = p2 := if_pos hc
    have q := rmMin1 l Z a0 hw ws p1 p2 h0 n0 Z0 hc
    simp only [Q_rmMin1] at q
    simp only [Q_rmMin, e]
    exact q
  · skip
    have e : own_minI p1 p2 = p1 := if_neg hc
    have q := rmMin0 l Z a0 hw ws p1 p2 h0 n0 Z0 hc
    simp only [Q_rmMin0] at q
    simp only [Q_rmMin, e]
    exact q
theorem d6_0 : decode jdk_29_method_65_code 0 = .ok (.iload_n 0, 1) := by decide +kernel
theorem d6_1 : decode jdk_29_method_65_code 1 = .ok (.iload_n 1, 1) := by decide +kernel
theorem d6_2 : decode jdk_29_method_65_code 2 = .ok (.if_icmp .lt 7, 3) := by decide +kernel
theorem d6_5 : decode jdk_29_method_65_code 5 = .ok (.iload_n 0, 1) := by decide +kernel
theorem d6_6 : decode jdk_29_method_65_code 6 = .ok (.goto 4, 3) := by decide +kernel
theorem d6_10 : decode jdk_29_method_65_code 10 = .ok (.ireturn, 1) := by decide +kernel
theorem ef_rmMax0 (m : MethodId) (x0 : Int32) (x1 : Int32) : entryFrame m #[(.int x0), (.int x1)] 2 = mkF m 0 #[.val (.int x0), .val (.int x1)] [] := by first | (simp [entryFrame, mkF, argsToLocals, Value.category]; done) | rfl
def Q_rmMax0 (Z : State) (p1 : Int32) (p2 : Int32) (h0 : Heap) (n0 : Nat) (v : Option Value) (h : Heap) (L : List Loc) : Prop := v = some (.int p1) ∧ Fr n0 L ∧ h = h0
set_option maxRecDepth 65536 in
set_option maxHeartbeats 40000000 in
theorem rmMax0 (l : Launch) (Z : State) (a0 : Array Value) (hw : ∀ d ∈ tables_1, d.before a0 Z = true) (ws : List Jvm.Cond) (p1 : Int32) (p2 : Int32) (h0 : Heap) (n0 : Nat) (Z0 : n0 ≤ h0.size) (hq0 : ¬ (p1 < p2)) :
    MetFree l (⟨"java/lang/Math", "max", "(II)I"⟩ : MethodName) (head1 (Jvm.Cond.code (⟨"java/lang/Math", "max", "(II)I"⟩ : MethodName) jdk_29_method_65_code 2 (some .int) :: ws) ({ frames := 0, cells := 0, slots := 0, locals := 0 } : Room)) (fun a U => a = #[(.int p1), (.int p2)] ∧ Z.Warmed39 U.vm ∧ U.heap = h0) (fun _ _ _ _ _ => True) (fun _ U o U' => ∃ v L, o = .returned v ∧ Q_rmMax0 Z p1 p2 h0 n0 v U'.heap L ∧ FrameEnd U o U' L ({ frames := 0, cells := 0, slots := 0, locals := 0 } : Room).cells ({ frames := 0, cells := 0, slots := 0, locals := 0 } : Room).slots) := by
  refine MetFree.of_bodySF (Jvm.Free.JP.mathPlain rfl (by decide +kernel)) hisR ?_
  intro p e s m args below meth c s₁ Bd hml0 hP hK
  obtain ⟨rfl, hZ, hh⟩ := hP
  have hx := Bd.exec
  have hby := Bd.bytes
  have hml : c.maxLocals = 2 := hml0
  have hown : s.vm.findClass "java/lang/Math" = some m.cls := findClass_of_methodNamed Bd.named
  have hnm := (name_of_methodNamed Bd.named Bd.method).1
  have X0 : Stand p l e ({ frames := 0, cells := 0, slots := 0, locals := 0 } : Room) s m #[(.int p1), (.int p2)] below meth c s₁ [] 0 0 := Stand.of_body Bd
  have e0 : s₁.heap = h0 := by rw [← hh, Bd.state]; rfl
  have N0 := Fr.nil n0
  have pre0 : ∀ t, Steps p.tables e below (s₁.setTop (mkF m 0 #[.val (.int p1), .val (.int p2)] [])) t → Steps p.tables e below (s₁.setTop (entryFrame m #[(.int p1), (.int p2)] 2)) t := fun t k => castTop (ef_rmMax0 m p1 p2) k
  obtain ⟨fs, hr, hrun, hended, hW, hsame⟩ := X0.leave (v := some (.int p1)) (fun h => by first | rfl | (rw [Bd.returns] at h; cases h))
  refine ⟨_, _, pre0 _ ?_, hrun, hended, _, _, rfl, ?_, ⟨_, rfl⟩, hW, hsame.mono (by exact Nat.le_of_ble_eq_true rfl) (by exact Nat.le_of_ble_eq_true rfl)⟩
  · show Steps p.tables e below (s₁.setTop (mkF m 0 #[.val (.int p1), .val (.int p2)] [])) _
    refine XS.iloadN X0.here hx rfl (hb hby d6_0) rfl ?_
    refine XS.iloadN X0.here hx rfl (hb hby d6_1) rfl ?_
    refine XS.icmpNo X0.here hx rfl (hb hby d6_2) rfl (flt (hq0 : ¬ (p1 < p2))).1 ?_
    show Steps p.tables e below (s₁.setTop (mkF m 5 #[.val (.int p1), .val (.int p2)] [])) _
    refine XS.iloadN X0.here hx rfl (hb hby d6_5) rfl ?_
    refine XS.goto X0.here hx rfl (pc0 := 6) (pc' := 10) rfl (hb hby d6_6) (by decide) (by decide) ?_
    show Steps p.tables e below (s₁.setTop (mkF m 10 #[.val (.int p1), .val (.int p2)] [(.int p1)])) _
    exact retI X0 hx Bd.returns (hb hby d6_10) hr
  · show Q_rmMax0 Z p1 p2 h0 n0 _ s₁.heap _
    rw [e0]
    exact ⟨rfl, N0, rfl⟩
theorem d6_9 : decode jdk_29_method_65_code 9 = .ok (.iload_n 1, 1) := by decide +kernel
theorem ef_rmMax1 (m : MethodId) (x0 : Int32) (x1 : Int32) : entryFrame m #[(.int x0), (.int x1)] 2 = mkF m 0 #[.val (.int x0), .val (.int x1)] [] := by first | (simp [entryFrame, mkF, argsToLocals, Value.category]; done) | rfl
def Q_rmMax1 (Z : State) (p1 : Int32) (p2 : Int32) (h0 : Heap) (n0 : Nat) (v : Option Value) (h : Heap) (L : List Loc) : Prop := v = some (.int p2) ∧ Fr n0 L ∧ h = h0
set_option maxRecDepth 65536 in
set_option maxHeartbeats 40000000 in
theorem rmMax1 (l : Launch) (Z : State) (a0 : Array Value) (hw : ∀ d ∈ tables_1, d.before a0 Z = true) (ws : List Jvm.Cond) (p1 : Int32) (p2 : Int32) (h0 : Heap) (n0 : Nat) (Z0 : n0 ≤ h0.size) (hq0 : p1 < p2) :
    MetFree l (⟨"java/lang/Math", "max", "(II)I"⟩ : MethodName) (head1 (Jvm.Cond.code (⟨"java/lang/Math", "max", "(II)I"⟩ : MethodName) jdk_29_method_65_code 2 (some .int) :: ws) ({ frames := 0, cells := 0, slots := 0, locals := 0 } : Room)) (fun a U => a = #[(.int p1), (.int p2)] ∧ Z.Warmed39 U.vm ∧ U.heap = h0) (fun _ _ _ _ _ => True) (fun _ U o U' => ∃ v L, o = .returned v ∧ Q_rmMax1 Z p1 p2 h0 n0 v U'.heap L ∧ FrameEnd U o U' L ({ frames := 0, cells := 0, slots := 0, locals := 0 } : Room).cells ({ frames := 0, cells := 0, slots := 0, locals := 0 } : Room).slots) := by
  refine MetFree.of_bodySF (Jvm.Free.JP.mathPlain rfl (by decide +kernel)) hisR ?_
  intro p e s m args below meth c s₁ Bd hml0 hP hK
  obtain ⟨rfl, hZ, hh⟩ := hP
  have hx := Bd.exec
  have hby := Bd.bytes
  have hml : c.maxLocals = 2 := hml0
  have hown : s.vm.findClass "java/lang/Math" = some m.cls := findClass_of_methodNamed Bd.named
  have hnm := (name_of_methodNamed Bd.named Bd.method).1
  have X0 : Stand p l e ({ frames := 0, cells := 0, slots := 0, locals := 0 } : Room) s m #[(.int p1), (.int p2)] below meth c s₁ [] 0 0 := Stand.of_body Bd
  have e0 : s₁.heap = h0 := by rw [← hh, Bd.state]; rfl
  have N0 := Fr.nil n0
  have pre0 : ∀ t, Steps p.tables e below (s₁.setTop (mkF m 0 #[.val (.int p1), .val (.int p2)] [])) t → Steps p.tables e below (s₁.setTop (entryFrame m #[(.int p1), (.int p2)] 2)) t := fun t k => castTop (ef_rmMax1 m p1 p2) k
  obtain ⟨fs, hr, hrun, hended, hW, hsame⟩ := X0.leave (v := some (.int p2)) (fun h => by first | rfl | (rw [Bd.returns] at h; cases h))
  refine ⟨_, _, pre0 _ ?_, hrun, hended, _, _, rfl, ?_, ⟨_, rfl⟩, hW, hsame.mono (by exact Nat.le_of_ble_eq_true rfl) (by exact Nat.le_of_ble_eq_true rfl)⟩
  · show Steps p.tables e below (s₁.setTop (mkF m 0 #[.val (.int p1), .val (.int p2)] [])) _
    refine XS.iloadN X0.here hx rfl (hb hby d6_0) rfl ?_
    refine XS.iloadN X0.here hx rfl (hb hby d6_1) rfl ?_
    refine XS.icmpYes X0.here hx rfl (pc0 := 2) (pc' := 9) rfl (hb hby d6_2) rfl (tlt (hq0 : p1 < p2)).1 (by decide) (by decide) ?_
    show Steps p.tables e below (s₁.setTop (mkF m 9 #[.val (.int p1), .val (.int p2)] [])) _
    refine XS.iloadN X0.here hx rfl (hb hby d6_9) rfl ?_
    exact retI X0 hx Bd.returns (hb hby d6_10) hr
  · show Q_rmMax1 Z p1 p2 h0 n0 _ s₁.heap _
    rw [e0]
    exact ⟨rfl, N0, rfl⟩
def own_maxI (a b : Int32) : Int32 := if a < b then b else a
def Q_rmMax (Z : State) (p1 : Int32) (p2 : Int32) (h0 : Heap) (n0 : Nat) (v : Option Value) (h : Heap) (L : List Loc) : Prop := v = some (.int (own_maxI p1 p2)) ∧ Fr n0 L ∧ h = h0
theorem rmMax (l : Launch) (Z : State) (a0 : Array Value) (hw : ∀ d ∈ tables_1, d.before a0 Z = true) (ws : List Jvm.Cond) (p1 : Int32) (p2 : Int32) (h0 : Heap) (n0 : Nat) (Z0 : n0 ≤ h0.size) :
    MetFree l (⟨"java/lang/Math", "max", "(II)I"⟩ : MethodName) (head1 (Jvm.Cond.code (⟨"java/lang/Math", "max", "(II)I"⟩ : MethodName) jdk_29_method_65_code 2 (some .int) :: ws) ({ frames := 0, cells := 0, slots := 0, locals := 0 } : Room)) (fun a U => a = #[(.int p1), (.int p2)] ∧ Z.Warmed39 U.vm ∧ U.heap = h0) (fun _ _ _ _ _ => True) (fun _ U o U' => ∃ v L, o = .returned v ∧ Q_rmMax Z p1 p2 h0 n0 v U'.heap L ∧ FrameEnd U o U' L ({ frames := 0, cells := 0, slots := 0, locals := 0 } : Room).cells ({ frames := 0, cells := 0, slots := 0, locals := 0 } : Room).slots) := by
  by_cases hc : p1 < p2
  · skip
    have e : own_maxI p1 p2 = p2 := if_pos hc
    have q := rmMax1 l Z a0 hw ws p1 p2 h0 n0 Z0 hc
    simp only [Q_rmMax1] at q
    simp only [Q_rmMax, e]
    exact q
  · skip
    have e : own_maxI p1 p2 = p1 := if_neg hc
    have q := rmMax0 l Z a0 hw ws p1 p2 h0 n0 Z0 hc
    simp only [Q_rmMax0] at q
    simp only [Q_rmMax, e]
    exact q
theorem d7_0 : decode method_3_code 0 = .ok (.iload_n 0, 1) := by decide +kernel
theorem d7_1 : decode method_3_code 1 = .ok (.iload_n 1, 1) := by decide +kernel
theorem d7_2 : decode method_3_code 2 = .ok (.if_icmp .ge 13, 3) := by decide +kernel
theorem d7_15 : decode method_3_code 15 = .ok (.lconst 0, 1) := by decide +kernel
theorem d7_16 : decode method_3_code 16 = .ok (.lreturn, 1) := by decide +kernel
theorem pn_com_example_whipstill_whipstill_MovingWindowMeanAbovePinLaw : plainName "com/example/whipstill/whipstill/MovingWindowMeanAbovePinLaw" = true := by first | (simp [plainName, overriddenIn]; done) | decide +kernel
theorem ef_rmHeld0 (m : MethodId) (x0 : Int32) (x1 : Int32) (x2 : Int32) (x3 : Int32) : entryFrame m #[(.int x0), (.int x1), (.int x2), (.int x3)] 4 = mkF m 0 #[.val (.int x0), .val (.int x1), .val (.int x2), .val (.int x3)] [] := by first | (simp [entryFrame, mkF, argsToLocals, Value.category]; done) | rfl
def Q_rmHeld0 (Z : State) (p1 : Int32) (p2 : Int32) (p3 : Int32) (p4 : Int32) (h0 : Heap) (n0 : Nat) (v : Option Value) (h : Heap) (L : List Loc) : Prop := v = some (.long (0 : Int64)) ∧ Fr n0 L ∧ h = h0
set_option maxRecDepth 65536 in
set_option maxHeartbeats 40000000 in
theorem rmHeld0 (l : Launch) (Z : State) (a0 : Array Value) (hw : ∀ d ∈ tables_1, d.before a0 Z = true) (ws : List Jvm.Cond) (p1 : Int32) (p2 : Int32) (p3 : Int32) (p4 : Int32) (h0 : Heap) (n0 : Nat) (Z0 : n0 ≤ h0.size) (hq0 : ¬ (p1 < p2)) :
    MetFree l (⟨"com/example/whipstill/whipstill/MovingWindowMeanAbovePinLaw", "held", "(IIII)J"⟩ : MethodName) (head1 (Jvm.Cond.code (⟨"com/example/whipstill/whipstill/MovingWindowMeanAbovePinLaw", "held", "(IIII)J"⟩ : MethodName) method_3_code 4 (some .long) :: ws) ({ frames := 0, cells := 0, slots := 0, locals := 0 } : Room)) (fun a U => a = #[(.int p1), (.int p2), (.int p3), (.int p4)] ∧ Z.Warmed39 U.vm ∧ U.heap = h0) (fun _ _ _ _ _ => True) (fun _ U o U' => ∃ v L, o = .returned v ∧ Q_rmHeld0 Z p1 p2 p3 p4 h0 n0 v U'.heap L ∧ FrameEnd U o U' L ({ frames := 0, cells := 0, slots := 0, locals := 0 } : Room).cells ({ frames := 0, cells := 0, slots := 0, locals := 0 } : Room).slots) := by
  refine MetFree.of_bodySF (plainFor_of_name pn_com_example_whipstill_whipstill_MovingWindowMeanAbovePinLaw) hisR ?_
  intro p e s m args below meth c s₁ Bd hml0 hP hK
  obtain ⟨rfl, hZ, hh⟩ := hP
  have hx := Bd.exec
  have hby := Bd.bytes
  have hml : c.maxLocals = 4 := hml0
  have hown : s.vm.findClass "com/example/whipstill/whipstill/MovingWindowMeanAbovePinLaw" = some m.cls := findClass_of_methodNamed Bd.named
  have hnm := (name_of_methodNamed Bd.named Bd.method).1
  have X0 : Stand p l e ({ frames := 0, cells := 0, slots := 0, locals := 0 } : Room) s m #[(.int p1), (.int p2), (.int p3), (.int p4)] below meth c s₁ [] 0 0 := Stand.of_body Bd
  have e0 : s₁.heap = h0 := by rw [← hh, Bd.state]; rfl
  have N0 := Fr.nil n0
  have pre0 : ∀ t, Steps p.tables e below (s₁.setTop (mkF m 0 #[.val (.int p1), .val (.int p2), .val (.int p3), .val (.int p4)] [])) t → Steps p.tables e below (s₁.setTop (entryFrame m #[(.int p1), (.int p2), (.int p3), (.int p4)] 4)) t := fun t k => castTop (ef_rmHeld0 m p1 p2 p3 p4) k
  obtain ⟨fs, hr, hrun, hended, hW, hsame⟩ := X0.leave (v := some (.long (0 : Int64))) (fun h => by first | rfl | (rw [Bd.returns] at h; cases h))
  refine ⟨_, _, pre0 _ ?_, hrun, hended, _, _, rfl, ?_, ⟨_, rfl⟩, hW, hsame.mono (by exact Nat.le_of_ble_eq_true rfl) (by exact Nat.le_of_ble_eq_true rfl)⟩
  · show Steps p.tables e below (s₁.setTop (mkF m 0 #[.val (.int p1), .val (.int p2), .val (.int p3), .val (.int p4)] [])) _
    refine XS.iloadN X0.here hx rfl (hb hby d7_0) rfl ?_
    refine XS.iloadN X0.here hx rfl (hb hby d7_1) rfl ?_
    refine XS.icmpYes X0.here hx rfl (pc0 := 2) (pc' := 15) rfl (hb hby d7_2) rfl (flt (hq0 : ¬ (p1 < p2))).2.1 (by decide) (by decide) ?_
    show Steps p.tables e below (s₁.setTop (mkF m 15 #[.val (.int p1), .val (.int p2), .val (.int p3), .val (.int p4)] [])) _
    refine XS.lconst X0.here hx rfl (hb hby d7_15) ?_
    exact X0.lreturnOut hx Bd.returns (hb hby d7_16) hr
  · show Q_rmHeld0 Z p1 p2 p3 p4 h0 n0 _ s₁.heap _
    rw [e0]
    exact ⟨rfl, N0, rfl⟩
theorem d7_5 : decode method_3_code 5 = .ok (.iload_n 0, 1) := by decide +kernel
theorem d7_6 : decode method_3_code 6 = .ok (.iload_n 1, 1) := by decide +kernel
theorem d7_7 : decode method_3_code 7 = .ok (.iload_n 2, 1) := by decide +kernel
theorem d7_8 : decode method_3_code 8 = .ok (.isub, 1) := by decide +kernel
theorem d7_9 : decode method_3_code 9 = .ok (.if_icmp .lt 6, 3) := by decide +kernel
theorem ef_rmHeld1 (m : MethodId) (x0 : Int32) (x1 : Int32) (x2 : Int32) (x3 : Int32) : entryFrame m #[(.int x0), (.int x1), (.int x2), (.int x3)] 4 = mkF m 0 #[.val (.int x0), .val (.int x1), .val (.int x2), .val (.int x3)] [] := by first | (simp [entryFrame, mkF, argsToLocals, Value.category]; done) | rfl
def Q_rmHeld1 (Z : State) (p1 : Int32) (p2 : Int32) (p3 : Int32) (p4 : Int32) (h0 : Heap) (n0 : Nat) (v : Option Value) (h : Heap) (L : List Loc) : Prop := v = some (.long (0 : Int64)) ∧ Fr n0 L ∧ h = h0
set_option maxRecDepth 65536 in
set_option maxHeartbeats 40000000 in
theorem rmHeld1 (l : Launch) (Z : State) (a0 : Array Value) (hw : ∀ d ∈ tables_1, d.before a0 Z = true) (ws : List Jvm.Cond) (p1 : Int32) (p2 : Int32) (p3 : Int32) (p4 : Int32) (h0 : Heap) (n0 : Nat) (Z0 : n0 ≤ h0.size) (hq0 : p1 < p2) (hq1 : p1 < (p2 - p3)) :
    MetFree l (⟨"com/example/whipstill/whipstill/MovingWindowMeanAbovePinLaw", "held", "(IIII)J"⟩ : MethodName) (head1 (Jvm.Cond.code (⟨"com/example/whipstill/whipstill/MovingWindowMeanAbovePinLaw", "held", "(IIII)J"⟩ : MethodName) method_3_code 4 (some .long) :: ws) ({ frames := 0, cells := 0, slots := 0, locals := 0 } : Room)) (fun a U => a = #[(.int p1), (.int p2), (.int p3), (.int p4)] ∧ Z.Warmed39 U.vm ∧ U.heap = h0) (fun _ _ _ _ _ => True) (fun _ U o U' => ∃ v L, o = .returned v ∧ Q_rmHeld1 Z p1 p2 p3 p4 h0 n0 v U'.heap L ∧ FrameEnd U o U' L ({ frames := 0, cells := 0, slots := 0, locals := 0 } : Room).cells ({ frames := 0, cells := 0, slots := 0, locals := 0 } : Room).slots) := by
  refine MetFree.of_bodySF (plainFor_of_name pn_com_example_whipstill_whipstill_MovingWindowMeanAbovePinLaw) hisR ?_
  intro p e s m args below meth c s₁ Bd hml0 hP hK
  obtain ⟨rfl, hZ, hh⟩ := hP
  have hx := Bd.exec
  have hby := Bd.bytes
  have hml : c.maxLocals = 4 := hml0
  have hown : s.vm.findClass "com/example/whipstill/whipstill/MovingWindowMeanAbovePinLaw" = some m.cls := findClass_of_methodNamed Bd.named
  have hnm := (name_of_methodNamed Bd.named Bd.method).1
  have X0 : Stand p l e ({ frames := 0, cells := 0, slots := 0, locals := 0 } : Room) s m #[(.int p1), (.int p2), (.int p3), (.int p4)] below meth c s₁ [] 0 0 := Stand.of_body Bd
  have e0 : s₁.heap = h0 := by rw [← hh, Bd.state]; rfl
  have N0 := Fr.nil n0
  have pre0 : ∀ t, Steps p.tables e below (s₁.setTop (mkF m 0 #[.val (.int p1), .val (.int p2), .val (.int p3), .val (.int p4)] [])) t → Steps p.tables e below (s₁.setTop (entryFrame m #[(.int p1), (.int p2), (.int p3), (.int p4)] 4)) t := fun t k => castTop (ef_rmHeld1 m p1 p2 p3 p4) k
  obtain ⟨fs, hr, hrun, hended, hW, hsame⟩ := X0.leave (v := some (.long (0 : Int64))) (fun h => by first | rfl | (rw [Bd.returns] at h; cases h))
  refine ⟨_, _, pre0 _ ?_, hrun, hended, _, _, rfl, ?_, ⟨_, rfl⟩, hW, hsame.mono (by exact Nat.le_of_ble_eq_true rfl) (by exact Nat.le_of_ble_eq_true rfl)⟩
  · show Steps p.tables e below (s₁.setTop (mkF m 0 #[.val (.int p1), .val (.int p2), .val (.int p3), .val (.int p4)] [])) _
    refine XS.iloadN X0.here hx rfl (hb hby d7_0) rfl ?_
    refine XS.iloadN X0.here hx rfl (hb hby d7_1) rfl ?_
    refine XS.icmpNo X0.here hx rfl (hb hby d7_2) rfl (tlt (hq0 : p1 < p2)).2.1 ?_
    show Steps p.tables e below (s₁.setTop (mkF m 5 #[.val (.int p1), .val (.int p2), .val (.int p3), .val (.int p4)] [])) _
    refine XS.iloadN X0.here hx rfl (hb hby d7_5) rfl ?_
    refine XS.iloadN X0.here hx rfl (hb hby d7_6) rfl ?_
    refine XS.iloadN X0.here hx rfl (hb hby d7_7) rfl ?_
    refine XS.isub X0.here hx rfl (hb hby d7_8) rfl ?_
    show Steps p.tables e below (s₁.setTop (mkF m 9 #[.val (.int p1), .val (.int p2), .val (.int p3), .val (.int p4)] [(.int (p2 - p3)), (.int p1)])) _
    refine XS.icmpYes X0.here hx rfl (pc0 := 9) (pc' := 15) rfl (hb hby d7_9) rfl (tlt (hq1 : p1 < (p2 - p3))).1 (by decide) (by decide) ?_
    show Steps p.tables e below (s₁.setTop (mkF m 15 #[.val (.int p1), .val (.int p2), .val (.int p3), .val (.int p4)] [])) _
    refine XS.lconst X0.here hx rfl (hb hby d7_15) ?_
    exact X0.lreturnOut hx Bd.returns (hb hby d7_16) hr
  · show Q_rmHeld1 Z p1 p2 p3 p4 h0 n0 _ s₁.heap _
    rw [e0]
    exact ⟨rfl, N0, rfl⟩
theorem d7_12 : decode method_3_code 12 = .ok (.iload_n 3, 1) := by decide +kernel
theorem d7_13 : decode method_3_code 13 = .ok (.i2l, 1) := by decide +kernel
theorem d7_14 : decode method_3_code 14 = .ok (.lreturn, 1) := by decide +kernel
theorem ef_rmHeld2 (m : MethodId) (x0 : Int32) (x1 : Int32) (x2 : Int32) (x3 : Int32) : entryFrame m #[(.int x0), (.int x1), (.int x2), (.int x3)] 4 = mkF m 0 #[.val (.int x0), .val (.int x1), .val (.int x2), .val (.int x3)] [] := by first | (simp [entryFrame, mkF, argsToLocals, Value.category]; done) | rfl
def Q_rmHeld2 (Z : State) (p1 : Int32) (p2 : Int32) (p3 : Int32) (p4 : Int32) (h0 : Heap) (n0 : Nat) (v : Option Value) (h : Heap) (L : List Loc) : Prop := v = some (.long (p4.toInt64)) ∧ Fr n0 L ∧ h = h0
set_option maxRecDepth 65536 in
set_option maxHeartbeats 40000000 in
theorem rmHeld2 (l : Launch) (Z : State) (a0 : Array Value) (hw : ∀ d ∈ tables_1, d.before a0 Z = true) (ws : List Jvm.Cond) (p1 : Int32) (p2 : Int32) (p3 : Int32) (p4 : Int32) (h0 : Heap) (n0 : Nat) (Z0 : n0 ≤ h0.size) (hq0 : p1 < p2) (hq1 : ¬ (p1 < (p2 - p3))) :
    MetFree l (⟨"com/example/whipstill/whipstill/MovingWindowMeanAbovePinLaw", "held", "(IIII)J"⟩ : MethodName) (head1 (Jvm.Cond.code (⟨"com/example/whipstill/whipstill/MovingWindowMeanAbovePinLaw", "held", "(IIII)J"⟩ : MethodName) method_3_code 4 (some .long) :: ws) ({ frames := 0, cells := 0, slots := 0, locals := 0 } : Room)) (fun a U => a = #[(.int p1), (.int p2), (.int p3), (.int p4)] ∧ Z.Warmed39 U.vm ∧ U.heap = h0) (fun _ _ _ _ _ => True) (fun _ U o U' => ∃ v L, o = .returned v ∧ Q_rmHeld2 Z p1 p2 p3 p4 h0 n0 v U'.heap L ∧ FrameEnd U o U' L ({ frames := 0, cells := 0, slots := 0, locals := 0 } : Room).cells ({ frames := 0, cells := 0, slots := 0, locals := 0 } : Room).slots) := by
  refine MetFree.of_bodySF (plainFor_of_name pn_com_example_whipstill_whipstill_MovingWindowMeanAbovePinLaw) hisR ?_
  intro p e s m args below meth c s₁ Bd hml0 hP hK
  obtain ⟨rfl, hZ, hh⟩ := hP
  have hx := Bd.exec
  have hby := Bd.bytes
  have hml : c.maxLocals = 4 := hml0
  have hown : s.vm.findClass "com/example/whipstill/whipstill/MovingWindowMeanAbovePinLaw" = some m.cls := findClass_of_methodNamed Bd.named
  have hnm := (name_of_methodNamed Bd.named Bd.method).1
  have X0 : Stand p l e ({ frames := 0, cells := 0, slots := 0, locals := 0 } : Room) s m #[(.int p1), (.int p2), (.int p3), (.int p4)] below meth c s₁ [] 0 0 := Stand.of_body Bd
  have e0 : s₁.heap = h0 := by rw [← hh, Bd.state]; rfl
  have N0 := Fr.nil n0
  have pre0 : ∀ t, Steps p.tables e below (s₁.setTop (mkF m 0 #[.val (.int p1), .val (.int p2), .val (.int p3), .val (.int p4)] [])) t → Steps p.tables e below (s₁.setTop (entryFrame m #[(.int p1), (.int p2), (.int p3), (.int p4)] 4)) t := fun t k => castTop (ef_rmHeld2 m p1 p2 p3 p4) k
  obtain ⟨fs, hr, hrun, hended, hW, hsame⟩ := X0.leave (v := some (.long (p4.toInt64))) (fun h => by first | rfl | (rw [Bd.returns] at h; cases h))
  refine ⟨_, _, pre0 _ ?_, hrun, hended, _, _, rfl, ?_, ⟨_, rfl⟩, hW, hsame.mono (by exact Nat.le_of_ble_eq_true rfl) (by exact Nat.le_of_ble_eq_true rfl)⟩
  · show Steps p.tables e below (s₁.setTop (mkF m 0 #[.val (.int p1), .val (.int p2), .val (.int p3), .val (.int p4)] [])) _
    refine XS.iloadN X0.here hx rfl (hb hby d7_0) rfl ?_
    refine XS.iloadN X0.here hx rfl (hb hby d7_1) rfl ?_
    refine XS.icmpNo X0.here hx rfl (hb hby d7_2) rfl (tlt (hq0 : p1 < p2)).2.1 ?_
    show Steps p.tables e below (s₁.setTop (mkF m 5 #[.val (.int p1), .val (.int p2), .val (.int p3), .val (.int p4)] [])) _
    refine XS.iloadN X0.here hx rfl (hb hby d7_5) rfl ?_
    refine XS.iloadN X0.here hx rfl (hb hby d7_6) rfl ?_
    refine XS.iloadN X0.here hx rfl (hb hby d7_7) rfl ?_
    refine XS.isub X0.here hx rfl (hb hby d7_8) rfl ?_
    show Steps p.tables e below (s₁.setTop (mkF m 9 #[.val (.int p1), .val (.int p2), .val (.int p3), .val (.int p4)] [(.int (p2 - p3)), (.int p1)])) _
    refine XS.icmpNo X0.here hx rfl (hb hby d7_9) rfl (flt (hq1 : ¬ (p1 < (p2 - p3)))).1 ?_
    show Steps p.tables e below (s₁.setTop (mkF m 12 #[.val (.int p1), .val (.int p2), .val (.int p3), .val (.int p4)] [])) _
    refine XS.iloadN X0.here hx rfl (hb hby d7_12) rfl ?_
    refine XS.i2l X0.here hx rfl (hb hby d7_13) rfl ?_
    show Steps p.tables e below (s₁.setTop (mkF m 14 #[.val (.int p1), .val (.int p2), .val (.int p3), .val (.int p4)] [(.long (p4.toInt64))])) _
    exact X0.lreturnOut hx Bd.returns (hb hby d7_14) hr
  · show Q_rmHeld2 Z p1 p2 p3 p4 h0 n0 _ s₁.heap _
    rw [e0]
    exact ⟨rfl, N0, rfl⟩
def own_held (i k n w : Int32) : Int64 := if i < k then (if i < (k - n) then (0 : Int64) else w.toInt64) else (0 : Int64)
def Q_rmHeld (Z : State) (p1 : Int32) (p2 : Int32) (p3 : Int32) (p4 : Int32) (h0 : Heap) (n0 : Nat) (v : Option Value) (h : Heap) (L : List Loc) : Prop := v = some (.long (own_held p1 p2 p3 p4)) ∧ Fr n0 L ∧ h = h0
theorem rmHeld (l : Launch) (Z : State) (a0 : Array Value) (hw : ∀ d ∈ tables_1, d.before a0 Z = true) (ws : List Jvm.Cond) (p1 : Int32) (p2 : Int32) (p3 : Int32) (p4 : Int32) (h0 : Heap) (n0 : Nat) (Z0 : n0 ≤ h0.size) :
    MetFree l (⟨"com/example/whipstill/whipstill/MovingWindowMeanAbovePinLaw", "held", "(IIII)J"⟩ : MethodName) (head1 (Jvm.Cond.code (⟨"com/example/whipstill/whipstill/MovingWindowMeanAbovePinLaw", "held", "(IIII)J"⟩ : MethodName) method_3_code 4 (some .long) :: ws) ({ frames := 0, cells := 0, slots := 0, locals := 0 } : Room)) (fun a U => a = #[(.int p1), (.int p2), (.int p3), (.int p4)] ∧ Z.Warmed39 U.vm ∧ U.heap = h0) (fun _ _ _ _ _ => True) (fun _ U o U' => ∃ v L, o = .returned v ∧ Q_rmHeld Z p1 p2 p3 p4 h0 n0 v U'.heap L ∧ FrameEnd U o U' L ({ frames := 0, cells := 0, slots := 0, locals := 0 } : Room).cells ({ frames := 0, cells := 0, slots := 0, locals := 0 } : Room).slots) := by
  by_cases hc : p1 < p2
  · by_cases hd : p1 < (p2 - p3)
    · skip
      have e : own_held p1 p2 p3 p4 = (0 : Int64) := by unfold own_held; rw [if_pos hc, if_pos hd]
      have q := rmHeld1 l Z a0 hw ws p1 p2 p3 p4 h0 n0 Z0 hc hd
      simp only [Q_rmHeld1] at q
      simp only [Q_rmHeld, e]
      exact q
    · skip
      have e : own_held p1 p2 p3 p4 = (p4.toInt64) := by unfold own_held; rw [if_pos hc, if_neg hd]
      have q := rmHeld2 l Z a0 hw ws p1 p2 p3 p4 h0 n0 Z0 hc hd
      simp only [Q_rmHeld2] at q
      simp only [Q_rmHeld, e]
      exact q
  · skip
    have e : own_held p1 p2 p3 p4 = (0 : Int64) := by unfold own_held; rw [if_neg hc]
    have q := rmHeld0 l Z a0 hw ws p1 p2 p3 p4 h0 n0 Z0 hc
    simp only [Q_rmHeld0] at q
    simp only [Q_rmHeld, e]
    exact q
theorem pd_qIIzI : parseMethodDescriptor "(II)I" = some ⟨[.int, .int], some .int⟩ := by decide +kernel
set_option maxRecDepth 65536 in
set_option maxHeartbeats 40000000 in
theorem pcA {p : Program} {l : Launch} {e : Env} {R : Room} {s : State} {m : MethodId} {args : Array Value} {below : List Frame} {meth : Method} {c : Code} {T0 : State} {locs : List Loc} {cells slots : Nat} (Z : State) (a0 : Array Value) (hw : ∀ d ∈ tables_1, d.before a0 Z = true) (X0 : Stand p l e R s m args below meth c T0 locs cells slots) (hx : p.tables.exec = Jvm.exec) (hZ : Z.Warmed39 s.vm) (hby : c.code = code) (hml : c.maxLocals = 26) (hown : s.vm.findClass "com/example/whipstill/whipstill/MovingWindowMeanAbovePinLaw" = some m.cls) (p0 : Int32) (i1 : Int32) (i2 : Int32) (q1 : Int64) (q2 : Int64) (q3 : Int64) (nn : Int32) (kk : Int32) (w0 : Int32) (w1 : Int32) (w2 : Int32) (w3 : Int32) (w4 : Int32) (w5 : Int32) (h0 : Heap) (n0 : Nat) (Z0 : n0 ≤ h0.size) (e0 : T0.heap = h0) (N0 : Fr n0 locs) (hfr : 1 ≤ R.frames) (hlo : 13 ≤ R.locals) (hce : cells + 0 ≤ R.cells) (hsl : slots + 0 ≤ R.slots) (hn : ((1 : Int32) + (p0 &&& (3 : Int32))) = nn) (hk : (own_minI (((p0.toUInt32 >>> ((2 : Int32) &&& 31).toUInt32).toInt32) &&& (7 : Int32)) (6 : Int32)) = kk) (hw0 : (q1.toInt32) = w0) (hw1 : (((q1.toUInt64 >>> ((32 : Int32) &&& 0x3f).toInt64.toUInt64).toInt64).toInt32) = w1) (hw2 : (q2.toInt32) = w2) (hw3 : (((q2.toUInt64 >>> ((32 : Int32) &&& 0x3f).toInt64.toUInt64).toInt64).toInt32) = w3) (hw4 : (q3.toInt32) = w4) (hw5 : (((q3.toUInt64 >>> ((32 : Int32) &&& 0x3f).toInt64.toUInt64).toInt64).toInt32) = w5) :
    ∃ (T' : State) (h' : Heap) (L' : List Loc), Stand p l e R s m args below meth c T' L' (cells + 0) (slots + 0) ∧ T'.heap = h' ∧ Fr n0 L' ∧ h' = h0 ∧ ∀ t, Steps p.tables e below (T'.setTop (mkF m 57 #[.val (.int p0), .val (.int i1), .val (.int i2), .val (.long q1), .second, .val (.long q2), .second, .val (.long q3), .second, .val (.int nn), .val (.int kk), .val (.int w0), .val (.int w1), .val (.int w2), .val (.int w3), .val (.int w4), .val (.int w5), .unset, .unset, .unset, .unset, .unset, .unset, .unset, .unset, .unset] [])) t → Steps p.tables e below (T0.setTop (mkF m 0 #[.val (.int p0), .val (.int i1), .val (.int i2), .val (.long q1), .second, .val (.long q2), .second, .val (.long q3), .second, .unset, .unset, .unset, .unset, .unset, .unset, .unset, .unset, .unset, .unset, .unset, .unset, .unset, .unset, .unset, .unset, .unset] [])) t := by
  obtain ⟨_, _, ⟨T1_, L1_, k1_, n1_⟩, -, X1_, ⟨Lc1_, hQ1_, l1_, y1_, z1_⟩, st1_⟩ := Jvm.LawKit.callS X0 hx (y := (⟨"java/lang/Math", "min", "(II)I"⟩ : MethodName)) hown (mvT hZ (hw _ (List.mem_of_getElem? (i := 0) rfl))) (mvT hZ (hw _ (List.mem_of_getElem? (i := 1) rfl))) (mvT hZ (hw _ (List.mem_of_getElem? (i := 2) rfl))) (mvT hZ (hw _ (List.mem_of_getElem? (i := 3) rfl))) (by decide) (backOf (W := 0) (rmMin l Z a0 hw [] (((p0.toUInt32 >>> ((2 : Int32) &&& 31).toUInt32).toInt32) &&& (7 : Int32)) (6 : Int32) h0 n0 Z0 ) hZ (hw _ (List.mem_of_getElem? (i := 3) rfl)) (hw _ (List.mem_of_getElem? (i := 2) rfl)) (Nat.le_trans (by decide) hfr) (Nat.le_trans (by decide) hlo)) (g := (mkF m 15 #[.val (.int p0), .val (.int i1), .val (.int i2), .val (.long q1), .second, .val (.long q2), .second, .val (.long q3), .second, .val (.int nn), .unset, .unset, .unset, .unset, .unset, .unset, .unset, .unset, .unset, .unset, .unset, .unset, .unset, .unset, .unset, .unset] [(.int (6 : Int32)), (.int (((p0.toUInt32 >>> ((2 : Int32) &&& 31).toUInt32).toInt32) &&& (7 : Int32)))])) rfl (by rw [hml]; rfl) (argsL := [(.int (((p0.toUInt32 >>> ((2 : Int32) &&& 31).toUInt32).toInt32) &&& (7 : Int32))), (.int (6 : Int32))]) (rest := []) (lenOf pd_qIIzI rfl) rfl (by show 2 * 0 + _ ≤ _; exact Nat.le_of_eq rfl) (hb hby at_15) (fun _ _ => ⟨rfl, e0, (Nat.le_trans (Nat.add_le_add_left (by decide : 0 ≤ 0) cells) hce), (Nat.le_trans (Nat.add_le_add_left (by decide : 0 ≤ 0) slots) hsl)⟩)
  dsimp only [Pt.U, Pt.locs, Pt.cells, Pt.slots] at X1_ l1_ y1_ z1_ st1_ hQ1_
  subst L1_ k1_ n1_
  obtain ⟨rfl, Nq1_, ek1_⟩ := hQ1_
  have N1_ := Fr.app N0 Nq1_
  refine ⟨T1_, _, _, X1_, ek1_, N1_, rfl, fun t k => ?_⟩
  show Steps p.tables e below (T0.setTop (mkF m 0 #[.val (.int p0), .val (.int i1), .val (.int i2), .val (.long q1), .second, .val (.long q2), .second, .val (.long q3), .second, .unset, .unset, .unset, .unset, .unset, .unset, .unset, .unset, .unset, .unset, .unset, .unset, .unset, .unset, .unset, .unset, .unset] [])) _
  refine XS.iconst X0.here hx rfl (hb hby at_0) ?_
  refine XS.iloadN X0.here hx rfl (hb hby at_1) rfl ?_
  refine XS.iconst X0.here hx rfl (hb hby at_2) ?_
  refine XS.iand X0.here hx rfl (hb hby at_3) rfl ?_
  show Steps p.tables e below (T0.setTop (mkF m 4 #[.val (.int p0), .val (.int i1), .val (.int i2), .val (.long q1), .second, .val (.long q2), .second, .val (.long q3), .second, .unset, .unset, .unset, .unset, .unset, .unset, .unset, .unset, .unset, .unset, .unset, .unset, .unset, .unset, .unset, .unset, .unset] [(.int (p0 &&& (3 : Int32))), (.int (1 : Int32))])) _
  refine XS.iadd X0.here hx rfl (hb hby at_4) rfl ?_
  show Steps p.tables e below (T0.setTop (mkF m 5 #[.val (.int p0), .val (.int i1), .val (.int i2), .val (.long q1), .second, .val (.long q2), .second, .val (.long q3), .second, .unset, .unset, .unset, .unset, .unset, .unset, .unset, .unset, .unset, .unset, .unset, .unset, .unset, .unset, .unset, .unset, .unset] [(.int ((1 : Int32) + (p0 &&& (3 : Int32))))])) _
  rw [hn]
  show Steps p.tables e below (T0.setTop (mkF m 5 #[.val (.int p0), .val (.int i1), .val (.int i2), .val (.long q1), .second, .val (.long q2), .second, .val (.long q3), .second, .unset, .unset, .unset, .unset, .unset, .unset, .unset, .unset, .unset, .unset, .unset, .unset, .unset, .unset, .unset, .unset, .unset] [(.int nn)])) _
  refine XS.istore X0.here hx rfl (hb hby at_5) rfl (l' := #[.val (.int p0), .val (.int i1), .val (.int i2), .val (.long q1), .second, .val (.long q2), .second, .val (.long q3), .second, .val (.int nn), .unset, .unset, .unset, .unset, .unset, .unset, .unset, .unset, .unset, .unset, .unset, .unset, .unset, .unset, .unset, .unset]) rfl ?_
  show Steps p.tables e below (T0.setTop (mkF m 7 #[.val (.int p0), .val (.int i1), .val (.int i2), .val (.long q1), .second, .val (.long q2), .second, .val (.long q3), .second, .val (.int nn), .unset, .unset, .unset, .unset, .unset, .unset, .unset, .unset, .unset, .unset, .unset, .unset, .unset, .unset, .unset, .unset] [])) _
  refine XS.iloadN X0.here hx rfl (hb hby at_7) rfl ?_
  refine XS.iconst X0.here hx rfl (hb hby at_8) ?_
  refine XS.iushr X0.here hx rfl (hb hby at_9) rfl ?_
  show Steps p.tables e below (T0.setTop (mkF m 10 #[.val (.int p0), .val (.int i1), .val (.int i2), .val (.long q1), .second, .val (.long q2), .second, .val (.long q3), .second, .val (.int nn), .unset, .unset, .unset, .unset, .unset, .unset, .unset, .unset, .unset, .unset, .unset, .unset, .unset, .unset, .unset, .unset] [(.int ((p0.toUInt32 >>> ((2 : Int32) &&& 31).toUInt32).toInt32))])) _
  refine XS.bipush X0.here hx rfl (hb hby at_10) ?_
  refine XS.iand X0.here hx rfl (hb hby at_12) rfl ?_
  show Steps p.tables e below (T0.setTop (mkF m 13 #[.val (.int p0), .val (.int i1), .val (.int i2), .val (.long q1), .second, .val (.long q2), .second, .val (.long q3), .second, .val (.int nn), .unset, .unset, .unset, .unset, .unset, .unset, .unset, .unset, .unset, .unset, .unset, .unset, .unset, .unset, .unset, .unset] [(.int (((p0.toUInt32 >>> ((2 : Int32) &&& 31).toUInt32).toInt32) &&& (7 : Int32)))])) _
  refine XS.bipush X0.here hx rfl (hb hby at_13) ?_
  refine st1_ _ ?_
  show Steps p.tables e below (T1_.setTop (mkF m 18 #[.val (.int p0), .val (.int i1), .val (.int i2), .val (.long q1), .second, .val (.long q2), .second, .val (.long q3), .second, .val (.int nn), .unset, .unset, .unset, .unset, .unset, .unset, .unset, .unset, .unset, .unset, .unset, .unset, .unset, .unset, .unset, .unset] [(.int (own_minI (((p0.toUInt32 >>> ((2 : Int32) &&& 31).toUInt32).toInt32) &&& (7 : Int32)) (6 : Int32)))])) _
  rw [hk]
  show Steps p.tables e below (T1_.setTop (mkF m 18 #[.val (.int p0), .val (.int i1), .val (.int i2), .val (.long q1), .second, .val (.long q2), .second, .val (.long q3), .second, .val (.int nn), .unset, .unset, .unset, .unset, .unset, .unset, .unset, .unset, .unset, .unset, .unset, .unset, .unset, .unset, .unset, .unset] [(.int kk)])) _
  refine XS.istore X1_.here hx rfl (hb hby at_18) rfl (l' := #[.val (.int p0), .val (.int i1), .val (.int i2), .val (.long q1), .second, .val (.long q2), .second, .val (.long q3), .second, .val (.int nn), .val (.int kk), .unset, .unset, .unset, .unset, .unset, .unset, .unset, .unset, .unset, .unset, .unset, .unset, .unset, .unset, .unset]) rfl ?_
  show Steps p.tables e below (T1_.setTop (mkF m 20 #[.val (.int p0), .val (.int i1), .val (.int i2), .val (.long q1), .second, .val (.long q2), .second, .val (.long q3), .second, .val (.int nn), .val (.int kk), .unset, .unset, .unset, .unset, .unset, .unset, .unset, .unset, .unset, .unset, .unset, .unset, .unset, .unset, .unset] [])) _
  refine XS.lloadN X1_.here hx rfl (hb hby at_20) rfl ?_
  refine XS.l2i X1_.here hx rfl (hb hby at_21) rfl ?_
  show Steps p.tables e below (T1_.setTop (mkF m 22 #[.val (.int p0), .val (.int i1), .val (.int i2), .val (.long q1), .second, .val (.long q2), .second, .val (.long q3), .second, .val (.int nn), .val (.int kk), .unset, .unset, .unset, .unset, .unset, .unset, .unset, .unset, .unset, .unset, .unset, .unset, .unset, .unset, .unset] [(.int (q1.toInt32))])) _
  rw [hw0]
  show Steps p.tables e below (T1_.setTop (mkF m 22 #[.val (.int p0), .val (.int i1), .val (.int i2), .val (.long q1), .second, .val (.long q2), .second, .val (.long q3), .second, .val (.int nn), .val (.int kk), .unset, .unset, .unset, .unset, .unset, .unset, .unset, .unset, .unset, .unset, .unset, .unset, .unset, .unset, .unset] [(.int w0)])) _
  refine XS.istore X1_.here hx rfl (hb hby at_22) rfl (l' := #[.val (.int p0), .val (.int i1), .val (.int i2), .val (.long q1), .second, .val (.long q2), .second, .val (.long q3), .second, .val (.int nn), .val (.int kk), .val (.int w0), .unset, .unset, .unset, .unset, .unset, .unset, .unset, .unset, .unset, .unset, .unset, .unset, .unset, .unset]) rfl ?_
  show Steps p.tables e below (T1_.setTop (mkF m 24 #[.val (.int p0), .val (.int i1), .val (.int i2), .val (.long q1), .second, .val (.long q2), .second, .val (.long q3), .second, .val (.int nn), .val (.int kk), .val (.int w0), .unset, .unset, .unset, .unset, .unset, .unset, .unset, .unset, .unset, .unset, .unset, .unset, .unset, .unset] [])) _
  refine XS.lloadN X1_.here hx rfl (hb hby at_24) rfl ?_
  refine XS.bipush X1_.here hx rfl (hb hby at_25) ?_
  refine XS.lushr X1_.here hx rfl (hb hby at_27) rfl ?_
  show Steps p.tables e below (T1_.setTop (mkF m 28 #[.val (.int p0), .val (.int i1), .val (.int i2), .val (.long q1), .second, .val (.long q2), .second, .val (.long q3), .second, .val (.int nn), .val (.int kk), .val (.int w0), .unset, .unset, .unset, .unset, .unset, .unset, .unset, .unset, .unset, .unset, .unset, .unset, .unset, .unset] [(.long ((q1.toUInt64 >>> ((32 : Int32) &&& 0x3f).toInt64.toUInt64).toInt64))])) _
  refine XS.l2i X1_.here hx rfl (hb hby at_28) rfl ?_
  show Steps p.tables e below (T1_.setTop (mkF m 29 #[.val (.int p0), .val (.int i1), .val (.int i2), .val (.long q1), .second, .val (.long q2), .second, .val (.long q3), .second, .val (.int nn), .val (.int kk), .val (.int w0), .unset, .unset, .unset, .unset, .unset, .unset, .unset, .unset, .unset, .unset, .unset, .unset, .unset, .unset] [(.int (((q1.toUInt64 >>> ((32 : Int32) &&& 0x3f).toInt64.toUInt64).toInt64).toInt32))])) _
  rw [hw1]
  show Steps p.tables e below (T1_.setTop (mkF m 29 #[.val (.int p0), .val (.int i1), .val (.int i2), .val (.long q1), .second, .val (.long q2), .second, .val (.long q3), .second, .val (.int nn), .val (.int kk), .val (.int w0), .unset, .unset, .unset, .unset, .unset, .unset, .unset, .unset, .unset, .unset, .unset, .unset, .unset, .unset] [(.int w1)])) _
  refine XS.istore X1_.here hx rfl (hb hby at_29) rfl (l' := #[.val (.int p0), .val (.int i1), .val (.int i2), .val (.long q1), .second, .val (.long q2), .second, .val (.long q3), .second, .val (.int nn), .val (.int kk), .val (.int w0), .val (.int w1), .unset, .unset, .unset, .unset, .unset, .unset, .unset, .unset, .unset, .unset, .unset, .unset, .unset]) rfl ?_
  show Steps p.tables e below (T1_.setTop (mkF m 31 #[.val (.int p0), .val (.int i1), .val (.int i2), .val (.long q1), .second, .val (.long q2), .second, .val (.long q3), .second, .val (.int nn), .val (.int kk), .val (.int w0), .val (.int w1), .unset, .unset, .unset, .unset, .unset, .unset, .unset, .unset, .unset, .unset, .unset, .unset, .unset] [])) _
  refine XS.lload X1_.here hx rfl (hb hby at_31) rfl ?_
  refine XS.l2i X1_.here hx rfl (hb hby at_33) rfl ?_
  show Steps p.tables e below (T1_.setTop (mkF m 34 #[.val (.int p0), .val (.int i1), .val (.int i2), .val (.long q1), .second, .val (.long q2), .second, .val (.long q3), .second, .val (.int nn), .val (.int kk), .val (.int w0), .val (.int w1), .unset, .unset, .unset, .unset, .unset, .unset, .unset, .unset, .unset, .unset, .unset, .unset, .unset] [(.int (q2.toInt32))])) _
  rw [hw2]
  show Steps p.tables e below (T1_.setTop (mkF m 34 #[.val (.int p0), .val (.int i1), .val (.int i2), .val (.long q1), .second, .val (.long q2), .second, .val (.long q3), .second, .val (.int nn), .val (.int kk), .val (.int w0), .val (.int w1), .unset, .unset, .unset, .unset, .unset, .unset, .unset, .unset, .unset, .unset, .unset, .unset, .unset] [(.int w2)])) _
  refine XS.istore X1_.here hx rfl (hb hby at_34) rfl (l' := #[.val (.int p0), .val (.int i1), .val (.int i2), .val (.long q1), .second, .val (.long q2), .second, .val (.long q3), .second, .val (.int nn), .val (.int kk), .val (.int w0), .val (.int w1), .val (.int w2), .unset, .unset, .unset, .unset, .unset, .unset, .unset, .unset, .unset, .unset, .unset, .unset]) rfl ?_
  show Steps p.tables e below (T1_.setTop (mkF m 36 #[.val (.int p0), .val (.int i1), .val (.int i2), .val (.long q1), .second, .val (.long q2), .second, .val (.long q3), .second, .val (.int nn), .val (.int kk), .val (.int w0), .val (.int w1), .val (.int w2), .unset, .unset, .unset, .unset, .unset, .unset, .unset, .unset, .unset, .unset, .unset, .unset] [])) _
  refine XS.lload X1_.here hx rfl (hb hby at_36) rfl ?_
  refine XS.bipush X1_.here hx rfl (hb hby at_38) ?_
  refine XS.lushr X1_.here hx rfl (hb hby at_40) rfl ?_
  show Steps p.tables e below (T1_.setTop (mkF m 41 #[.val (.int p0), .val (.int i1), .val (.int i2), .val (.long q1), .second, .val (.long q2), .second, .val (.long q3), .second, .val (.int nn), .val (.int kk), .val (.int w0), .val (.int w1), .val (.int w2), .unset, .unset, .unset, .unset, .unset, .unset, .unset, .unset, .unset, .unset, .unset, .unset] [(.long ((q2.toUInt64 >>> ((32 : Int32) &&& 0x3f).toInt64.toUInt64).toInt64))])) _
  refine XS.l2i X1_.here hx rfl (hb hby at_41) rfl ?_
  show Steps p.tables e below (T1_.setTop (mkF m 42 #[.val (.int p0), .val (.int i1), .val (.int i2), .val (.long q1), .second, .val (.long q2), .second, .val (.long q3), .second, .val (.int nn), .val (.int kk), .val (.int w0), .val (.int w1), .val (.int w2), .unset, .unset, .unset, .unset, .unset, .unset, .unset, .unset, .unset, .unset, .unset, .unset] [(.int (((q2.toUInt64 >>> ((32 : Int32) &&& 0x3f).toInt64.toUInt64).toInt64).toInt32))])) _
  rw [hw3]
  show Steps p.tables e below (T1_.setTop (mkF m 42 #[.val (.int p0), .val (.int i1), .val (.int i2), .val (.long q1), .second, .val (.long q2), .second, .val (.long q3), .second, .val (.int nn), .val (.int kk), .val (.int w0), .val (.int w1), .val (.int w2), .unset, .unset, .unset, .unset, .unset, .unset, .unset, .unset, .unset, .unset, .unset, .unset] [(.int w3)])) _
  refine XS.istore X1_.here hx rfl (hb hby at_42) rfl (l' := #[.val (.int p0), .val (.int i1), .val (.int i2), .val (.long q1), .second, .val (.long q2), .second, .val (.long q3), .second, .val (.int nn), .val (.int kk), .val (.int w0), .val (.int w1), .val (.int w2), .val (.int w3), .unset, .unset, .unset, .unset, .unset, .unset, .unset, .unset, .unset, .unset, .unset]) rfl ?_
  show Steps p.tables e below (T1_.setTop (mkF m 44 #[.val (.int p0), .val (.int i1), .val (.int i2), .val (.long q1), .second, .val (.long q2), .second, .val (.long q3), .second, .val (.int nn), .val (.int kk), .val (.int w0), .val (.int w1), .val (.int w2), .val (.int w3), .unset, .unset, .unset, .unset, .unset, .unset, .unset, .unset, .unset, .unset, .unset] [])) _
  refine XS.lload X1_.here hx rfl (hb hby at_44) rfl ?_
  refine XS.l2i X1_.here hx rfl (hb hby at_46) rfl ?_
  show Steps p.tables e below (T1_.setTop (mkF m 47 #[.val (.int p0), .val (.int i1), .val (.int i2), .val (.long q1), .second, .val (.long q2), .second, .val (.long q3), .second, .val (.int nn), .val (.int kk), .val (.int w0), .val (.int w1), .val (.int w2), .val (.int w3), .unset, .unset, .unset, .unset, .unset, .unset, .unset, .unset, .unset, .unset, .unset] [(.int (q3.toInt32))])) _
  rw [hw4]
  show Steps p.tables e below (T1_.setTop (mkF m 47 #[.val (.int p0), .val (.int i1), .val (.int i2), .val (.long q1), .second, .val (.long q2), .second, .val (.long q3), .second, .val (.int nn), .val (.int kk), .val (.int w0), .val (.int w1), .val (.int w2), .val (.int w3), .unset, .unset, .unset, .unset, .unset, .unset, .unset, .unset, .unset, .unset, .unset] [(.int w4)])) _
  refine XS.istore X1_.here hx rfl (hb hby at_47) rfl (l' := #[.val (.int p0), .val (.int i1), .val (.int i2), .val (.long q1), .second, .val (.long q2), .second, .val (.long q3), .second, .val (.int nn), .val (.int kk), .val (.int w0), .val (.int w1), .val (.int w2), .val (.int w3), .val (.int w4), .unset, .unset, .unset, .unset, .unset, .unset, .unset, .unset, .unset, .unset]) rfl ?_
  show Steps p.tables e below (T1_.setTop (mkF m 49 #[.val (.int p0), .val (.int i1), .val (.int i2), .val (.long q1), .second, .val (.long q2), .second, .val (.long q3), .second, .val (.int nn), .val (.int kk), .val (.int w0), .val (.int w1), .val (.int w2), .val (.int w3), .val (.int w4), .unset, .unset, .unset, .unset, .unset, .unset, .unset, .unset, .unset, .unset] [])) _
  refine XS.lload X1_.here hx rfl (hb hby at_49) rfl ?_
  refine XS.bipush X1_.here hx rfl (hb hby at_51) ?_
  refine XS.lushr X1_.here hx rfl (hb hby at_53) rfl ?_
  show Steps p.tables e below (T1_.setTop (mkF m 54 #[.val (.int p0), .val (.int i1), .val (.int i2), .val (.long q1), .second, .val (.long q2), .second, .val (.long q3), .second, .val (.int nn), .val (.int kk), .val (.int w0), .val (.int w1), .val (.int w2), .val (.int w3), .val (.int w4), .unset, .unset, .unset, .unset, .unset, .unset, .unset, .unset, .unset, .unset] [(.long ((q3.toUInt64 >>> ((32 : Int32) &&& 0x3f).toInt64.toUInt64).toInt64))])) _
  refine XS.l2i X1_.here hx rfl (hb hby at_54) rfl ?_
  show Steps p.tables e below (T1_.setTop (mkF m 55 #[.val (.int p0), .val (.int i1), .val (.int i2), .val (.long q1), .second, .val (.long q2), .second, .val (.long q3), .second, .val (.int nn), .val (.int kk), .val (.int w0), .val (.int w1), .val (.int w2), .val (.int w3), .val (.int w4), .unset, .unset, .unset, .unset, .unset, .unset, .unset, .unset, .unset, .unset] [(.int (((q3.toUInt64 >>> ((32 : Int32) &&& 0x3f).toInt64.toUInt64).toInt64).toInt32))])) _
  rw [hw5]
  show Steps p.tables e below (T1_.setTop (mkF m 55 #[.val (.int p0), .val (.int i1), .val (.int i2), .val (.long q1), .second, .val (.long q2), .second, .val (.long q3), .second, .val (.int nn), .val (.int kk), .val (.int w0), .val (.int w1), .val (.int w2), .val (.int w3), .val (.int w4), .unset, .unset, .unset, .unset, .unset, .unset, .unset, .unset, .unset, .unset] [(.int w5)])) _
  refine XS.istore X1_.here hx rfl (hb hby at_55) rfl (l' := #[.val (.int p0), .val (.int i1), .val (.int i2), .val (.long q1), .second, .val (.long q2), .second, .val (.long q3), .second, .val (.int nn), .val (.int kk), .val (.int w0), .val (.int w1), .val (.int w2), .val (.int w3), .val (.int w4), .val (.int w5), .unset, .unset, .unset, .unset, .unset, .unset, .unset, .unset, .unset]) rfl ?_
  exact k
theorem pd_qIDzV : parseMethodDescriptor "(ID)V" = some ⟨[.int, .double], none⟩ := by decide +kernel
set_option maxRecDepth 65536 in
set_option maxHeartbeats 40000000 in
theorem pcI1 {p : Program} {l : Launch} {e : Env} {R : Room} {s : State} {m : MethodId} {args : Array Value} {below : List Frame} {meth : Method} {c : Code} {T0 : State} {locs : List Loc} {cells slots : Nat} (Z : State) (a0 : Array Value) (hw : ∀ d ∈ tables_1, d.before a0 Z = true) (X0 : Stand p l e R s m args below meth c T0 locs cells slots) (hx : p.tables.exec = Jvm.exec) (hZ : Z.Warmed39 s.vm) (hby : c.code = code) (hml : c.maxLocals = 26) (hown : s.vm.findClass "com/example/whipstill/whipstill/MovingWindowMeanAbovePinLaw" = some m.cls) (s0 : Slot) (i1 : Int32) (i2 : Int32) (s3 : Slot) (s4 : Slot) (s5 : Slot) (s6 : Slot) (s7 : Slot) (s8 : Slot) (kk : Int32) (w0 : Int32) (w1 : Int32) (w2 : Int32) (w3 : Int32) (w4 : Int32) (w5 : Int32) (h0 : Heap) (n0 : Nat) (Z0 : n0 ≤ h0.size) (e0 : T0.heap = h0) (N0 : Fr n0 locs) (hfr : 2 ≤ R.frames) (hlo : 32 ≤ R.locals) (hce : cells + 2 ≤ R.cells) (hsl : slots + 3 ≤ R.slots)  :
    ∃ (T' : State) (h' : Heap) (L' : List Loc) (mo : Addr) (ta : Addr) (kc : ClassId), Stand p l e R s m args below meth c T' L' (cells + 2) (slots + 3) ∧ T'.heap = h' ∧ Fr n0 L' ∧ Keep h0 h' [] ∧ (n0 ≤ mo) ∧ (n0 ≤ ta) ∧ (Exa Z h' mo "com/example/whipstill/whipstill/MovingWindow") ∧ (Fld Z h' mo "com/example/whipstill/whipstill/MovingWindow" "values" "[D" (.ref ta)) ∧ (Fld Z h' mo "com/example/whipstill/whipstill/MovingWindow" "oldest" "I" (.int (0 : Int32))) ∧ (Arv Z h' ta kc .double (1 : Int32) [(.double (FP.l2d (i1.toInt64)))] (.double (0 : UInt64))) ∧ ∀ t, Steps p.tables e below (T'.setTop (mkF m 70 #[s0, .val (.int i1), .val (.int i2), s3, s4, s5, s6, s7, s8, .val (.int (1 : Int32)), .val (.int kk), .val (.int w0), .val (.int w1), .val (.int w2), .val (.int w3), .val (.int w4), .val (.int w5), .val (.ref mo), .unset, .unset, .unset, .unset, .unset, .unset, .unset, .unset] [])) t → Steps p.tables e below (T0.setTop (mkF m 57 #[s0, .val (.int i1), .val (.int i2), s3, s4, s5, s6, s7, s8, .val (.int (1 : Int32)), .val (.int kk), .val (.int w0), .val (.int w1), .val (.int w2), .val (.int w3), .val (.int w4), .val (.int w5), .unset, .unset, .unset, .unset, .unset, .unset, .unset, .unset, .unset] [])) t := by
  obtain ⟨T1_, h1_, X1_, e1_, E1_, A1_, D1_, U1_, st1_⟩ := newO X0 hx hZ hown (hw _ (List.mem_of_getElem? (i := 4) rfl)) (hw _ (List.mem_of_getElem? (i := 5) rfl)) (hw _ (List.mem_of_getElem? (i := 6) rfl)) e0 (g := (mkF m 57 #[s0, .val (.int i1), .val (.int i2), s3, s4, s5, s6, s7, s8, .val (.int (1 : Int32)), .val (.int kk), .val (.int w0), .val (.int w1), .val (.int w2), .val (.int w3), .val (.int w4), .val (.int w5), .unset, .unset, .unset, .unset, .unset, .unset, .unset, .unset, .unset] [])) rfl (hb hby at_57) (Nat.le_trans (Nat.add_le_add_left (by decide : 1 ≤ 2) cells) hce) (Nat.le_trans (Nat.add_le_add_left (by decide : 2 ≤ 3) slots) hsl)
  obtain ⟨b1_, g1_⟩ : ∃ z, z = h0.size := ⟨_, rfl⟩
  rw [← g1_] at A1_ D1_ U1_ st1_
  have F1__values : Fld Z h1_ b1_ "com/example/whipstill/whipstill/MovingWindow" "values" "[D" .null := D1_ (Or.inr (hw _ (List.mem_of_getElem? (i := 15) rfl))) (ty := (.array .double)) (by decide)
  have F1__oldest : Fld Z h1_ b1_ "com/example/whipstill/whipstill/MovingWindow" "oldest" "I" (.int (0 : Int32)) := D1_ (Or.inl (hw _ (List.mem_of_getElem? (i := 38) rfl))) (ty := .int) (by decide)
  have g3_ : n0 ≤ b1_ := Nat.le_trans Z0 (Nat.le_of_eq g1_.symm)
  have z4_ : n0 ≤ h1_.size := Nat.le_trans Z0 E1_.1
  obtain ⟨_, _, ⟨T2_, L2_, k2_, n2_⟩, -, X2_, ⟨Lc2_, hQ2_, l2_, y2_, z2_⟩, st2_⟩ := X1_.specialBack hx (y := (⟨"com/example/whipstill/whipstill/MovingWindow", "<init>", "(ID)V"⟩ : MethodName)) rfl hown (mvT hZ (hw _ (List.mem_of_getElem? (i := 7) rfl))) (mvT hZ (hw _ (List.mem_of_getElem? (i := 8) rfl))) (mvT hZ (hw _ (List.mem_of_getElem? (i := 9) rfl))) (by decide) (backOf (W := 1) (rmInit1 l Z a0 hw [] b1_ (FP.l2d (i1.toInt64)) h1_ n0 z4_ A1_ F1__values F1__oldest g3_) hZ (hw _ (List.mem_of_getElem? (i := 9) rfl)) (hw _ (List.mem_of_getElem? (i := 6) rfl)) (Nat.le_trans (by decide) hfr) (Nat.le_trans (by decide) hlo)) (g := (mkF m 65 #[s0, .val (.int i1), .val (.int i2), s3, s4, s5, s6, s7, s8, .val (.int (1 : Int32)), .val (.int kk), .val (.int w0), .val (.int w1), .val (.int w2), .val (.int w3), .val (.int w4), .val (.int w5), .unset, .unset, .unset, .unset, .unset, .unset, .unset, .unset, .unset] [(.double (FP.l2d (i1.toInt64))), (.int (1 : Int32)), (.ref b1_), (.ref b1_)])) rfl (by rw [hml]; rfl) (Steps.refl _) (a := b1_) (argsL := [(.int (1 : Int32)), (.double (FP.l2d (i1.toInt64)))]) (rest := [(.ref b1_)]) (lenOf pd_qIDzV rfl) rfl (by show 2 * 0 + _ ≤ _; exact Nat.le_of_eq rfl) (hb hby at_65) (fun _ _ => ⟨rfl, e1_, (Nat.le_trans (Nat.add_le_add_left (by decide : 2 ≤ 2) cells) hce), (Nat.le_trans (Nat.add_le_add_left (by decide : 3 ≤ 3) slots) hsl)⟩)
  dsimp only [Pt.U, Pt.locs, Pt.cells, Pt.slots] at X2_ l2_ y2_ z2_ st2_ hQ2_
  subst L2_ k2_ n2_
  obtain ⟨t_2_, k_2_, rfl, Nq2_, ek2_, p2__0, p2__1, p2__2, p2__3, p2__4⟩ := hQ2_
  have N2_ := Fr.app N0 Nq2_
  have g5_ : n0 ≤ t_2_ := Nat.le_trans z4_ p2__0
  have k6_ : Keep h0 h1_ [] := (Keep.refl h0 []).ext E1_
  have k7_ : Keep h0 T2_.heap [] := k6_.trans ek2_ (allS (Or.inr (Nat.le_trans (Keep.refl h0 []).1 (Nat.le_of_eq g1_.symm))) all0)
  refine ⟨T2_, _, _, b1_, t_2_, k_2_, X2_, rfl, N2_, k7_, g3_, g5_, p2__1, p2__2, p2__3, p2__4, fun t k => ?_⟩
  show Steps p.tables e below (T0.setTop (mkF m 57 #[s0, .val (.int i1), .val (.int i2), s3, s4, s5, s6, s7, s8, .val (.int (1 : Int32)), .val (.int kk), .val (.int w0), .val (.int w1), .val (.int w2), .val (.int w3), .val (.int w4), .val (.int w5), .unset, .unset, .unset, .unset, .unset, .unset, .unset, .unset, .unset] [])) _
  refine st1_ _ ?_
  show Steps p.tables e below (T1_.setTop (mkF m 60 #[s0, .val (.int i1), .val (.int i2), s3, s4, s5, s6, s7, s8, .val (.int (1 : Int32)), .val (.int kk), .val (.int w0), .val (.int w1), .val (.int w2), .val (.int w3), .val (.int w4), .val (.int w5), .unset, .unset, .unset, .unset, .unset, .unset, .unset, .unset, .unset] [(.ref b1_)])) _
  refine XS.dup X1_.here hx rfl (hb hby at_60) rfl rfl ?_
  show Steps p.tables e below (T1_.setTop (mkF m 61 #[s0, .val (.int i1), .val (.int i2), s3, s4, s5, s6, s7, s8, .val (.int (1 : Int32)), .val (.int kk), .val (.int w0), .val (.int w1), .val (.int w2), .val (.int w3), .val (.int w4), .val (.int w5), .unset, .unset, .unset, .unset, .unset, .unset, .unset, .unset, .unset] [(.ref b1_), (.ref b1_)])) _
  refine XS.iload X1_.here hx rfl (hb hby at_61) rfl ?_
  refine XS.iloadN X1_.here hx rfl (hb hby at_63) rfl ?_
  refine XS.i2dS X1_.here hx rfl (hb hby at_64) rfl (v := (FP.l2d (i1.toInt64))) (i2d_w i1) ?_
  show Steps p.tables e below (T1_.setTop (mkF m 65 #[s0, .val (.int i1), .val (.int i2), s3, s4, s5, s6, s7, s8, .val (.int (1 : Int32)), .val (.int kk), .val (.int w0), .val (.int w1), .val (.int w2), .val (.int w3), .val (.int w4), .val (.int w5), .unset, .unset, .unset, .unset, .unset, .unset, .unset, .unset, .unset] [(.double (FP.l2d (i1.toInt64))), (.int (1 : Int32)), (.ref b1_), (.ref b1_)])) _
  refine st2_.trans ?_
  show Steps p.tables e below (T2_.setTop (mkF m 68 #[s0, .val (.int i1), .val (.int i2), s3, s4, s5, s6, s7, s8, .val (.int (1 : Int32)), .val (.int kk), .val (.int w0), .val (.int w1), .val (.int w2), .val (.int w3), .val (.int w4), .val (.int w5), .unset, .unset, .unset, .unset, .unset, .unset, .unset, .unset, .unset] [(.ref b1_)])) _
  refine XS.astore X2_.here hx rfl (hb hby at_68) rfl rfl (l' := #[s0, .val (.int i1), .val (.int i2), s3, s4, s5, s6, s7, s8, .val (.int (1 : Int32)), .val (.int kk), .val (.int w0), .val (.int w1), .val (.int w2), .val (.int w3), .val (.int w4), .val (.int w5), .val (.ref b1_), .unset, .unset, .unset, .unset, .unset, .unset, .unset, .unset]) rfl ?_
  exact k
theorem pd_qDzD : parseMethodDescriptor "(D)D" = some ⟨[.double], some .double⟩ := by decide +kernel
set_option maxRecDepth 65536 in
set_option maxHeartbeats 40000000 in
theorem pcM1 {p : Program} {l : Launch} {e : Env} {R : Room} {s : State} {m : MethodId} {args : Array Value} {below : List Frame} {meth : Method} {c : Code} {T0 : State} {locs : List Loc} {cells slots : Nat} (Z : State) (a0 : Array Value) (hw : ∀ d ∈ tables_1, d.before a0 Z = true) (X0 : Stand p l e R s m args below meth c T0 locs cells slots) (hx : p.tables.exec = Jvm.exec) (hZ : Z.Warmed39 s.vm) (hby : c.code = code) (hml : c.maxLocals = 26) (hown : s.vm.findClass "com/example/whipstill/whipstill/MovingWindowMeanAbovePinLaw" = some m.cls) (s0 : Slot) (i1 : Int32) (i2 : Int32) (s3 : Slot) (s4 : Slot) (s5 : Slot) (s6 : Slot) (s7 : Slot) (s8 : Slot) (kk : Int32) (w0 : Int32) (w1 : Int32) (w2 : Int32) (w3 : Int32) (w4 : Int32) (w5 : Int32) (mm : Addr) (t1 : Addr) (k1 : ClassId) (y0 : Int64) (h0 : Heap) (n0 : Nat) (Z0 : n0 ≤ h0.size) (e0 : T0.heap = h0) (N0 : Fr n0 locs) (hfr : 1 ≤ R.frames) (hlo : 21 ≤ R.locals) (hce : cells + 0 ≤ R.cells) (hsl : slots + 0 ≤ R.slots) (E1 : Exa Z h0 mm "com/example/whipstill/whipstill/MovingWindow") (F1 : Fld Z h0 mm "com/example/whipstill/whipstill/MovingWindow" "values" "[D" (.ref t1)) (V1 : Arv Z h0 t1 k1 .double (1 : Int32) [(.double (FP.l2d y0))] (.double (0 : UInt64))) (b_y0 : own_R y0 2147483648) :
    ∃ (T' : State) (h' : Heap) (L' : List Loc), Stand p l e R s m args below meth c T' L' (cells + 0) (slots + 0) ∧ T'.heap = h' ∧ Fr n0 L' ∧ h' = h0 ∧ ∀ t, Steps p.tables e below (T'.setTop (mkF m 160 #[s0, .val (.int i1), .val (.int i2), s3, s4, s5, s6, s7, s8, .val (.int (1 : Int32)), .val (.int kk), .val (.int w0), .val (.int w1), .val (.int w2), .val (.int w3), .val (.int w4), .val (.int w5), .val (.ref mm), .unset, .unset, .unset, .unset, .unset, .unset, .unset, .unset] [(.double (FP.ddiv (FP.l2d ((0 : Int64) + (y0 - (i2.toInt64)))) (FP.i2d (1 : Int32))))])) t → Steps p.tables e below (T0.setTop (mkF m 153 #[s0, .val (.int i1), .val (.int i2), s3, s4, s5, s6, s7, s8, .val (.int (1 : Int32)), .val (.int kk), .val (.int w0), .val (.int w1), .val (.int w2), .val (.int w3), .val (.int w4), .val (.int w5), .val (.ref mm), .unset, .unset, .unset, .unset, .unset, .unset, .unset, .unset] [])) t := by
  obtain ⟨cq2_, kq2_, qa2_, qb2_, qc2_⟩ := isOf hZ e0 E1
  obtain ⟨_, _, ⟨T1_, L1_, k1_, n1_⟩, -, X1_, ⟨Lc1_, hQ1_, l1_, y1_, z1_⟩, st1_⟩ := X0.virtualBack hx (y := (⟨"com/example/whipstill/whipstill/MovingWindow", "meanAbove", "(D)D"⟩ : MethodName)) (z := (⟨"com/example/whipstill/whipstill/MovingWindow", "meanAbove", "(D)D"⟩ : MethodName)) hown (mvT hZ (hw _ (List.mem_of_getElem? (i := 20) rfl))) (mvT hZ (hw _ (List.mem_of_getElem? (i := 21) rfl))) (notFace_of_selects (args := #[]) (mvT hZ (hw _ (List.mem_of_getElem? (i := 23) rfl)))) (mvT hZ (hw _ (List.mem_of_getElem? (i := 23) rfl))) (mvT hZ (hw _ (List.mem_of_getElem? (i := 22) rfl))) (by decide) (backOf (W := 0) (rmMa1 l Z a0 hw [] mm (i2.toInt64) t1 k1 y0 h0 n0 Z0 F1 V1 (own_R.i2l _) b_y0) hZ (hw _ (List.mem_of_getElem? (i := 24) rfl)) (hw _ (List.mem_of_getElem? (i := 6) rfl)) (Nat.le_trans (by decide) hfr) (Nat.le_trans (by decide) hlo)) qa2_ qc2_ (g := (mkF m 157 #[s0, .val (.int i1), .val (.int i2), s3, s4, s5, s6, s7, s8, .val (.int (1 : Int32)), .val (.int kk), .val (.int w0), .val (.int w1), .val (.int w2), .val (.int w3), .val (.int w4), .val (.int w5), .val (.ref mm), .unset, .unset, .unset, .unset, .unset, .unset, .unset, .unset] [(.double (FP.l2d (i2.toInt64))), (.ref mm)])) rfl (by rw [hml]; rfl) (Steps.refl _) (argsL := [(.double (FP.l2d (i2.toInt64)))]) (rest := []) (lenOf pd_qDzD rfl) rfl (by show 2 * 0 + _ ≤ _; exact Nat.le_of_eq rfl) (hb hby at_157) (fun _ _ => ⟨rfl, e0, (Nat.le_trans (Nat.add_le_add_left (by decide : 0 ≤ 0) cells) hce), (Nat.le_trans (Nat.add_le_add_left (by decide : 0 ≤ 0) slots) hsl)⟩)
  dsimp only [Pt.U, Pt.locs, Pt.cells, Pt.slots] at X1_ l1_ y1_ z1_ st1_ hQ1_
  subst L1_ k1_ n1_
  obtain ⟨rfl, Nq1_, ek1_⟩ := hQ1_
  have N1_ := Fr.app N0 Nq1_
  refine ⟨T1_, _, _, X1_, ek1_, N1_, rfl, fun t k => ?_⟩
  show Steps p.tables e below (T0.setTop (mkF m 153 #[s0, .val (.int i1), .val (.int i2), s3, s4, s5, s6, s7, s8, .val (.int (1 : Int32)), .val (.int kk), .val (.int w0), .val (.int w1), .val (.int w2), .val (.int w3), .val (.int w4), .val (.int w5), .val (.ref mm), .unset, .unset, .unset, .unset, .unset, .unset, .unset, .unset] [])) _
  refine XS.aload X0.here hx rfl (hb hby at_153) rfl rfl ?_
  refine XS.iloadN X0.here hx rfl (hb hby at_155) rfl ?_
  refine XS.i2dS X0.here hx rfl (hb hby at_156) rfl (v := (FP.l2d (i2.toInt64))) (i2d_w i2) ?_
  show Steps p.tables e below (T0.setTop (mkF m 157 #[s0, .val (.int i1), .val (.int i2), s3, s4, s5, s6, s7, s8, .val (.int (1 : Int32)), .val (.int kk), .val (.int w0), .val (.int w1), .val (.int w2), .val (.int w3), .val (.int w4), .val (.int w5), .val (.ref mm), .unset, .unset, .unset, .unset, .unset, .unset, .unset, .unset] [(.double (FP.l2d (i2.toInt64))), (.ref mm)])) _
  refine st1_.trans ?_
  exact k
set_option maxRecDepth 65536 in
set_option maxHeartbeats 40000000 in
theorem pcI2 {p : Program} {l : Launch} {e : Env} {R : Room} {s : State} {m : MethodId} {args : Array Value} {below : List Frame} {meth : Method} {c : Code} {T0 : State} {locs : List Loc} {cells slots : Nat} (Z : State) (a0 : Array Value) (hw : ∀ d ∈ tables_1, d.before a0 Z = true) (X0 : Stand p l e R s m args below meth c T0 locs cells slots) (hx : p.tables.exec = Jvm.exec) (hZ : Z.Warmed39 s.vm) (hby : c.code = code) (hml : c.maxLocals = 26) (hown : s.vm.findClass "com/example/whipstill/whipstill/MovingWindowMeanAbovePinLaw" = some m.cls) (s0 : Slot) (i1 : Int32) (i2 : Int32) (s3 : Slot) (s4 : Slot) (s5 : Slot) (s6 : Slot) (s7 : Slot) (s8 : Slot) (kk : Int32) (w0 : Int32) (w1 : Int32) (w2 : Int32) (w3 : Int32) (w4 : Int32) (w5 : Int32) (h0 : Heap) (n0 : Nat) (Z0 : n0 ≤ h0.size) (e0 : T0.heap = h0) (N0 : Fr n0 locs) (hfr : 2 ≤ R.frames) (hlo : 32 ≤ R.locals) (hce : cells + 2 ≤ R.cells) (hsl : slots + 4 ≤ R.slots)  :
    ∃ (T' : State) (h' : Heap) (L' : List Loc) (mo : Addr) (ta : Addr) (kc : ClassId), Stand p l e R s m args below meth c T' L' (cells + 2) (slots + 4) ∧ T'.heap = h' ∧ Fr n0 L' ∧ Keep h0 h' [] ∧ (n0 ≤ mo) ∧ (n0 ≤ ta) ∧ (Exa Z h' mo "com/example/whipstill/whipstill/MovingWindow") ∧ (Fld Z h' mo "com/example/whipstill/whipstill/MovingWindow" "values" "[D" (.ref ta)) ∧ (Fld Z h' mo "com/example/whipstill/whipstill/MovingWindow" "oldest" "I" (.int (0 : Int32))) ∧ (Arv Z h' ta kc .double (2 : Int32) [(.double (FP.l2d (i1.toInt64))), (.double (FP.l2d (i1.toInt64)))] (.double (0 : UInt64))) ∧ ∀ t, Steps p.tables e below (T'.setTop (mkF m 70 #[s0, .val (.int i1), .val (.int i2), s3, s4, s5, s6, s7, s8, .val (.int (2 : Int32)), .val (.int kk), .val (.int w0), .val (.int w1), .val (.int w2), .val (.int w3), .val (.int w4), .val (.int w5), .val (.ref mo), .unset, .unset, .unset, .unset, .unset, .unset, .unset, .unset] [])) t → Steps p.tables e below (T0.setTop (mkF m 57 #[s0, .val (.int i1), .val (.int i2), s3, s4, s5, s6, s7, s8, .val (.int (2 : Int32)), .val (.int kk), .val (.int w0), .val (.int w1), .val (.int w2), .val (.int w3), .val (.int w4), .val (.int w5), .unset, .unset, .unset, .unset, .unset, .unset, .unset, .unset, .unset] [])) t := by
  obtain ⟨T1_, h1_, X1_, e1_, E1_, A1_, D1_, U1_, st1_⟩ := newO X0 hx hZ hown (hw _ (List.mem_of_getElem? (i := 4) rfl)) (hw _ (List.mem_of_getElem? (i := 5) rfl)) (hw _ (List.mem_of_getElem? (i := 6) rfl)) e0 (g := (mkF m 57 #[s0, .val (.int i1), .val (.int i2), s3, s4, s5, s6, s7, s8, .val (.int (2 : Int32)), .val (.int kk), .val (.int w0), .val (.int w1), .val (.int w2), .val (.int w3), .val (.int w4), .val (.int w5), .unset, .unset, .unset, .unset, .unset, .unset, .unset, .unset, .unset] [])) rfl (hb hby at_57) (Nat.le_trans (Nat.add_le_add_left (by decide : 1 ≤ 2) cells) hce) (Nat.le_trans (Nat.add_le_add_left (by decide : 2 ≤ 4) slots) hsl)
  obtain ⟨b1_, g1_⟩ : ∃ z, z = h0.size := ⟨_, rfl⟩
  rw [← g1_] at A1_ D1_ U1_ st1_
  have F1__values : Fld Z h1_ b1_ "com/example/whipstill/whipstill/MovingWindow" "values" "[D" .null := D1_ (Or.inr (hw _ (List.mem_of_getElem? (i := 15) rfl))) (ty := (.array .double)) (by decide)
  have F1__oldest : Fld Z h1_ b1_ "com/example/whipstill/whipstill/MovingWindow" "oldest" "I" (.int (0 : Int32)) := D1_ (Or.inl (hw _ (List.mem_of_getElem? (i := 38) rfl))) (ty := .int) (by decide)
  have g3_ : n0 ≤ b1_ := Nat.le_trans Z0 (Nat.le_of_eq g1_.symm)
  have z4_ : n0 ≤ h1_.size := Nat.le_trans Z0 E1_.1
  obtain ⟨_, _, ⟨T2_, L2_, k2_, n2_⟩, -, X2_, ⟨Lc2_, hQ2_, l2_, y2_, z2_⟩, st2_⟩ := X1_.specialBack hx (y := (⟨"com/example/whipstill/whipstill/MovingWindow", "<init>", "(ID)V"⟩ : MethodName)) rfl hown (mvT hZ (hw _ (List.mem_of_getElem? (i := 7) rfl))) (mvT hZ (hw _ (List.mem_of_getElem? (i := 8) rfl))) (mvT hZ (hw _ (List.mem_of_getElem? (i := 9) rfl))) (by decide) (backOf (W := 1) (rmInit2 l Z a0 hw [] b1_ (FP.l2d (i1.toInt64)) h1_ n0 z4_ A1_ F1__values F1__oldest g3_) hZ (hw _ (List.mem_of_getElem? (i := 9) rfl)) (hw _ (List.mem_of_getElem? (i := 6) rfl)) (Nat.le_trans (by decide) hfr) (Nat.le_trans (by decide) hlo)) (g := (mkF m 65 #[s0, .val (.int i1), .val (.int i2), s3, s4, s5, s6, s7, s8, .val (.int (2 : Int32)), .val (.int kk), .val (.int w0), .val (.int w1), .val (.int w2), .val (.int w3), .val (.int w4), .val (.int w5), .unset, .unset, .unset, .unset, .unset, .unset, .unset, .unset, .unset] [(.double (FP.l2d (i1.toInt64))), (.int (2 : Int32)), (.ref b1_), (.ref b1_)])) rfl (by rw [hml]; rfl) (Steps.refl _) (a := b1_) (argsL := [(.int (2 : Int32)), (.double (FP.l2d (i1.toInt64)))]) (rest := [(.ref b1_)]) (lenOf pd_qIDzV rfl) rfl (by show 2 * 0 + _ ≤ _; exact Nat.le_of_eq rfl) (hb hby at_65) (fun _ _ => ⟨rfl, e1_, (Nat.le_trans (Nat.add_le_add_left (by decide : 2 ≤ 2) cells) hce), (Nat.le_trans (Nat.add_le_add_left (by decide : 4 ≤ 4) slots) hsl)⟩)
  dsimp only [Pt.U, Pt.locs, Pt.cells, Pt.slots] at X2_ l2_ y2_ z2_ st2_ hQ2_
  subst L2_ k2_ n2_
  obtain ⟨t_2_, k_2_, rfl, Nq2_, ek2_, p2__0, p2__1, p2__2, p2__3, p2__4⟩ := hQ2_
  have N2_ := Fr.app N0 Nq2_
  have g5_ : n0 ≤ t_2_ := Nat.le_trans z4_ p2__0
  have k6_ : Keep h0 h1_ [] := (Keep.refl h0 []).ext E1_
  have k7_ : Keep h0 T2_.heap [] := k6_.trans ek2_ (allS (Or.inr (Nat.le_trans (Keep.refl h0 []).1 (Nat.le_of_eq g1_.symm))) all0)
  refine ⟨T2_, _, _, b1_, t_2_, k_2_, X2_, rfl, N2_, k7_, g3_, g5_, p2__1, p2__2, p2__3, p2__4, fun t k => ?_⟩
  show Steps p.tables e below (T0.setTop (mkF m 57 #[s0, .val (.int i1), .val (.int i2), s3, s4, s5, s6, s7, s8, .val (.int (2 : Int32)), .val (.int kk), .val (.int w0), .val (.int w1), .val (.int w2), .val (.int w3), .val (.int w4), .val (.int w5), .unset, .unset, .unset, .unset, .unset, .unset, .unset, .unset, .unset] [])) _
  refine st1_ _ ?_
  show Steps p.tables e below (T1_.setTop (mkF m 60 #[s0, .val (.int i1), .val (.int i2), s3, s4, s5, s6, s7, s8, .val (.int (2 : Int32)), .val (.int kk), .val (.int w0), .val (.int w1), .val (.int w2), .val (.int w3), .val (.int w4), .val (.int w5), .unset, .unset, .unset, .unset, .unset, .unset, .unset, .unset, .unset] [(.ref b1_)])) _
  refine XS.dup X1_.here hx rfl (hb hby at_60) rfl rfl ?_
  show Steps p.tables e below (T1_.setTop (mkF m 61 #[s0, .val (.int i1), .val (.int i2), s3, s4, s5, s6, s7, s8, .val (.int (2 : Int32)), .val (.int kk), .val (.int w0), .val (.int w1), .val (.int w2), .val (.int w3), .val (.int w4), .val (.int w5), .unset, .unset, .unset, .unset, .unset, .unset, .unset, .unset, .unset] [(.ref b1_), (.ref b1_)])) _
  refine XS.iload X1_.here hx rfl (hb hby at_61) rfl ?_
  refine XS.iloadN X1_.here hx rfl (hb hby at_63) rfl ?_
  refine XS.i2dS X1_.here hx rfl (hb hby at_64) rfl (v := (FP.l2d (i1.toInt64))) (i2d_w i1) ?_
  show Steps p.tables e below (T1_.setTop (mkF m 65 #[s0, .val (.int i1), .val (.int i2), s3, s4, s5, s6, s7, s8, .val (.int (2 : Int32)), .val (.int kk), .val (.int w0), .val (.int w1), .val (.int w2), .val (.int w3), .val (.int w4), .val (.int w5), .unset, .unset, .unset, .unset, .unset, .unset, .unset, .unset, .unset] [(.double (FP.l2d (i1.toInt64))), (.int (2 : Int32)), (.ref b1_), (.ref b1_)])) _
  refine st2_.trans ?_
  show Steps p.tables e below (T2_.setTop (mkF m 68 #[s0, .val (.int i1), .val (.int i2), s3, s4, s5, s6, s7, s8, .val (.int (2 : Int32)), .val (.int kk), .val (.int w0), .val (.int w1), .val (.int w2), .val (.int w3), .val (.int w4), .val (.int w5), .unset, .unset, .unset, .unset, .unset, .unset, .unset, .unset, .unset] [(.ref b1_)])) _
  refine XS.astore X2_.here hx rfl (hb hby at_68) rfl rfl (l' := #[s0, .val (.int i1), .val (.int i2), s3, s4, s5, s6, s7, s8, .val (.int (2 : Int32)), .val (.int kk), .val (.int w0), .val (.int w1), .val (.int w2), .val (.int w3), .val (.int w4), .val (.int w5), .val (.ref b1_), .unset, .unset, .unset, .unset, .unset, .unset, .unset, .unset]) rfl ?_
  exact k
set_option maxRecDepth 65536 in
set_option maxHeartbeats 40000000 in
theorem pcM2 {p : Program} {l : Launch} {e : Env} {R : Room} {s : State} {m : MethodId} {args : Array Value} {below : List Frame} {meth : Method} {c : Code} {T0 : State} {locs : List Loc} {cells slots : Nat} (Z : State) (a0 : Array Value) (hw : ∀ d ∈ tables_1, d.before a0 Z = true) (X0 : Stand p l e R s m args below meth c T0 locs cells slots) (hx : p.tables.exec = Jvm.exec) (hZ : Z.Warmed39 s.vm) (hby : c.code = code) (hml : c.maxLocals = 26) (hown : s.vm.findClass "com/example/whipstill/whipstill/MovingWindowMeanAbovePinLaw" = some m.cls) (s0 : Slot) (i1 : Int32) (i2 : Int32) (s3 : Slot) (s4 : Slot) (s5 : Slot) (s6 : Slot) (s7 : Slot) (s8 : Slot) (kk : Int32) (w0 : Int32) (w1 : Int32) (w2 : Int32) (w3 : Int32) (w4 : Int32) (w5 : Int32) (mm : Addr) (t1 : Addr) (k1 : ClassId) (y0 : Int64) (y1 : Int64) (h0 : Heap) (n0 : Nat) (Z0 : n0 ≤ h0.size) (e0 : T0.heap = h0) (N0 : Fr n0 locs) (hfr : 1 ≤ R.frames) (hlo : 21 ≤ R.locals) (hce : cells + 0 ≤ R.cells) (hsl : slots + 0 ≤ R.slots) (E1 : Exa Z h0 mm "com/example/whipstill/whipstill/MovingWindow") (F1 : Fld Z h0 mm "com/example/whipstill/whipstill/MovingWindow" "values" "[D" (.ref t1)) (V1 : Arv Z h0 t1 k1 .double (2 : Int32) [(.double (FP.l2d y0)), (.double (FP.l2d y1))] (.double (0 : UInt64))) (b_y0 : own_R y0 2147483648) (b_y1 : own_R y1 2147483648) :
    ∃ (T' : State) (h' : Heap) (L' : List Loc), Stand p l e R s m args below meth c T' L' (cells + 0) (slots + 0) ∧ T'.heap = h' ∧ Fr n0 L' ∧ h' = h0 ∧ ∀ t, Steps p.tables e below (T'.setTop (mkF m 160 #[s0, .val (.int i1), .val (.int i2), s3, s4, s5, s6, s7, s8, .val (.int (2 : Int32)), .val (.int kk), .val (.int w0), .val (.int w1), .val (.int w2), .val (.int w3), .val (.int w4), .val (.int w5), .val (.ref mm), .unset, .unset, .unset, .unset, .unset, .unset, .unset, .unset] [(.double (FP.ddiv (FP.l2d (((0 : Int64) + (y0 - (i2.toInt64))) + (y1 - (i2.toInt64)))) (FP.i2d (2 : Int32))))])) t → Steps p.tables e below (T0.setTop (mkF m 153 #[s0, .val (.int i1), .val (.int i2), s3, s4, s5, s6, s7, s8, .val (.int (2 : Int32)), .val (.int kk), .val (.int w0), .val (.int w1), .val (.int w2), .val (.int w3), .val (.int w4), .val (.int w5), .val (.ref mm), .unset, .unset, .unset, .unset, .unset, .unset, .unset, .unset] [])) t := by
  obtain ⟨cq2_, kq2_, qa2_, qb2_, qc2_⟩ := isOf hZ e0 E1
  obtain ⟨_, _, ⟨T1_, L1_, k1_, n1_⟩, -, X1_, ⟨Lc1_, hQ1_, l1_, y1_, z1_⟩, st1_⟩ := X0.virtualBack hx (y := (⟨"com/example/whipstill/whipstill/MovingWindow", "meanAbove", "(D)D"⟩ : MethodName)) (z := (⟨"com/example/whipstill/whipstill/MovingWindow", "meanAbove", "(D)D"⟩ : MethodName)) hown (mvT hZ (hw _ (List.mem_of_getElem? (i := 20) rfl))) (mvT hZ (hw _ (List.mem_of_getElem? (i := 21) rfl))) (notFace_of_selects (args := #[]) (mvT hZ (hw _ (List.mem_of_getElem? (i := 23) rfl)))) (mvT hZ (hw _ (List.mem_of_getElem? (i := 23) rfl))) (mvT hZ (hw _ (List.mem_of_getElem? (i := 22) rfl))) (by decide) (backOf (W := 0) (rmMa2 l Z a0 hw [] mm (i2.toInt64) t1 k1 y0 y1 h0 n0 Z0 F1 V1 (own_R.i2l _) b_y0 b_y1) hZ (hw _ (List.mem_of_getElem? (i := 24) rfl)) (hw _ (List.mem_of_getElem? (i := 6) rfl)) (Nat.le_trans (by decide) hfr) (Nat.le_trans (by decide) hlo)) qa2_ qc2_ (g := (mkF m 157 #[s0, .val (.int i1), .val (.int i2), s3, s4, s5, s6, s7, s8, .val (.int (2 : Int32)), .val (.int kk), .val (.int w0), .val (.int w1), .val (.int w2), .val (.int w3), .val (.int w4), .val (.int w5), .val (.ref mm), .unset, .unset, .unset, .unset, .unset, .unset, .unset, .unset] [(.double (FP.l2d (i2.toInt64))), (.ref mm)])) rfl (by rw [hml]; rfl) (Steps.refl _) (argsL := [(.double (FP.l2d (i2.toInt64)))]) (rest := []) (lenOf pd_qDzD rfl) rfl (by show 2 * 0 + _ ≤ _; exact Nat.le_of_eq rfl) (hb hby at_157) (fun _ _ => ⟨rfl, e0, (Nat.le_trans (Nat.add_le_add_left (by decide : 0 ≤ 0) cells) hce), (Nat.le_trans (Nat.add_le_add_left (by decide : 0 ≤ 0) slots) hsl)⟩)
  dsimp only [Pt.U, Pt.locs, Pt.cells, Pt.slots] at X1_ l1_ y1_ z1_ st1_ hQ1_
  subst L1_ k1_ n1_
  obtain ⟨rfl, Nq1_, ek1_⟩ := hQ1_
  have N1_ := Fr.app N0 Nq1_
  refine ⟨T1_, _, _, X1_, ek1_, N1_, rfl, fun t k => ?_⟩
  show Steps p.tables e below (T0.setTop (mkF m 153 #[s0, .val (.int i1), .val (.int i2), s3, s4, s5, s6, s7, s8, .val (.int (2 : Int32)), .val (.int kk), .val (.int w0), .val (.int w1), .val (.int w2), .val (.int w3), .val (.int w4), .val (.int w5), .val (.ref mm), .unset, .unset, .unset, .unset, .unset, .unset, .unset, .unset] [])) _
  refine XS.aload X0.here hx rfl (hb hby at_153) rfl rfl ?_
  refine XS.iloadN X0.here hx rfl (hb hby at_155) rfl ?_
  refine XS.i2dS X0.here hx rfl (hb hby at_156) rfl (v := (FP.l2d (i2.toInt64))) (i2d_w i2) ?_
  show Steps p.tables e below (T0.setTop (mkF m 157 #[s0, .val (.int i1), .val (.int i2), s3, s4, s5, s6, s7, s8, .val (.int (2 : Int32)), .val (.int kk), .val (.int w0), .val (.int w1), .val (.int w2), .val (.int w3), .val (.int w4), .val (.int w5), .val (.ref mm), .unset, .unset, .unset, .unset, .unset, .unset, .unset, .unset] [(.double (FP.l2d (i2.toInt64))), (.ref mm)])) _
  refine st1_.trans ?_
  exact k
set_option maxRecDepth 65536 in
set_option maxHeartbeats 40000000 in
theorem pcI3 {p : Program} {l : Launch} {e : Env} {R : Room} {s : State} {m : MethodId} {args : Array Value} {below : List Frame} {meth : Method} {c : Code} {T0 : State} {locs : List Loc} {cells slots : Nat} (Z : State) (a0 : Array Value) (hw : ∀ d ∈ tables_1, d.before a0 Z = true) (X0 : Stand p l e R s m args below meth c T0 locs cells slots) (hx : p.tables.exec = Jvm.exec) (hZ : Z.Warmed39 s.vm) (hby : c.code = code) (hml : c.maxLocals = 26) (hown : s.vm.findClass "com/example/whipstill/whipstill/MovingWindowMeanAbovePinLaw" = some m.cls) (s0 : Slot) (i1 : Int32) (i2 : Int32) (s3 : Slot) (s4 : Slot) (s5 : Slot) (s6 : Slot) (s7 : Slot) (s8 : Slot) (kk : Int32) (w0 : Int32) (w1 : Int32) (w2 : Int32) (w3 : Int32) (w4 : Int32) (w5 : Int32) (h0 : Heap) (n0 : Nat) (Z0 : n0 ≤ h0.size) (e0 : T0.heap = h0) (N0 : Fr n0 locs) (hfr : 2 ≤ R.frames) (hlo : 32 ≤ R.locals) (hce : cells + 2 ≤ R.cells) (hsl : slots + 5 ≤ R.slots)  :
    ∃ (T' : State) (h' : Heap) (L' : List Loc) (mo : Addr) (ta : Addr) (kc : ClassId), Stand p l e R s m args below meth c T' L' (cells + 2) (slots + 5) ∧ T'.heap = h' ∧ Fr n0 L' ∧ Keep h0 h' [] ∧ (n0 ≤ mo) ∧ (n0 ≤ ta) ∧ (Exa Z h' mo "com/example/whipstill/whipstill/MovingWindow") ∧ (Fld Z h' mo "com/example/whipstill/whipstill/MovingWindow" "values" "[D" (.ref ta)) ∧ (Fld Z h' mo "com/example/whipstill/whipstill/MovingWindow" "oldest" "I" (.int (0 : Int32))) ∧ (Arv Z h' ta kc .double (3 : Int32) [(.double (FP.l2d (i1.toInt64))), (.double (FP.l2d (i1.toInt64))), (.double (FP.l2d (i1.toInt64)))] (.double (0 : UInt64))) ∧ ∀ t, Steps p.tables e below (T'.setTop (mkF m 70 #[s0, .val (.int i1), .val (.int i2), s3, s4, s5, s6, s7, s8, .val (.int (3 : Int32)), .val (.int kk), .val (.int w0), .val (.int w1), .val (.int w2), .val (.int w3), .val (.int w4), .val (.int w5), .val (.ref mo), .unset, .unset, .unset, .unset, .unset, .unset, .unset, .unset] [])) t → Steps p.tables e below (T0.setTop (mkF m 57 #[s0, .val (.int i1), .val (.int i2), s3, s4, s5, s6, s7, s8, .val (.int (3 : Int32)), .val (.int kk), .val (.int w0), .val (.int w1), .val (.int w2), .val (.int w3), .val (.int w4), .val (.int w5), .unset, .unset, .unset, .unset, .unset, .unset, .unset, .unset, .unset] [])) t := by
  obtain ⟨T1_, h1_, X1_, e1_, E1_, A1_, D1_, U1_, st1_⟩ := newO X0 hx hZ hown (hw _ (List.mem_of_getElem? (i := 4) rfl)) (hw _ (List.mem_of_getElem? (i := 5) rfl)) (hw _ (List.mem_of_getElem? (i := 6) rfl)) e0 (g := (mkF m 57 #[s0, .val (.int i1), .val (.int i2), s3, s4, s5, s6, s7, s8, .val (.int (3 : Int32)), .val (.int kk), .val (.int w0), .val (.int w1), .val (.int w2), .val (.int w3), .val (.int w4), .val (.int w5), .unset, .unset, .unset, .unset, .unset, .unset, .unset, .unset, .unset] [])) rfl (hb hby at_57) (Nat.le_trans (Nat.add_le_add_left (by decide : 1 ≤ 2) cells) hce) (Nat.le_trans (Nat.add_le_add_left (by decide : 2 ≤ 5) slots) hsl)
  obtain ⟨b1_, g1_⟩ : ∃ z, z = h0.size := ⟨_, rfl⟩
  rw [← g1_] at A1_ D1_ U1_ st1_
  have F1__values : Fld Z h1_ b1_ "com/example/whipstill/whipstill/MovingWindow" "values" "[D" .null := D1_ (Or.inr (hw _ (List.mem_of_getElem? (i := 15) rfl))) (ty := (.array .double)) (by decide)
  have F1__oldest : Fld Z h1_ b1_ "com/example/whipstill/whipstill/MovingWindow" "oldest" "I" (.int (0 : Int32)) := D1_ (Or.inl (hw _ (List.mem_of_getElem? (i := 38) rfl))) (ty := .int) (by decide)
  have g3_ : n0 ≤ b1_ := Nat.le_trans Z0 (Nat.le_of_eq g1_.symm)
  have z4_ : n0 ≤ h1_.size := Nat.le_trans Z0 E1_.1
  obtain ⟨_, _, ⟨T2_, L2_, k2_, n2_⟩, -, X2_, ⟨Lc2_, hQ2_, l2_, y2_, z2_⟩, st2_⟩ := X1_.specialBack hx (y := (⟨"com/example/whipstill/whipstill/MovingWindow", "<init>", "(ID)V"⟩ : MethodName)) rfl hown (mvT hZ (hw _ (List.mem_of_getElem? (i := 7) rfl))) (mvT hZ (hw _ (List.mem_of_getElem? (i := 8) rfl))) (mvT hZ (hw _ (List.mem_of_getElem? (i := 9) rfl))) (by decide) (backOf (W := 1) (rmInit3 l Z a0 hw [] b1_ (FP.l2d (i1.toInt64)) h1_ n0 z4_ A1_ F1__values F1__oldest g3_) hZ (hw _ (List.mem_of_getElem? (i := 9) rfl)) (hw _ (List.mem_of_getElem? (i := 6) rfl)) (Nat.le_trans (by decide) hfr) (Nat.le_trans (by decide) hlo)) (g := (mkF m 65 #[s0, .val (.int i1), .val (.int i2), s3, s4, s5, s6, s7, s8, .val (.int (3 : Int32)), .val (.int kk), .val (.int w0), .val (.int w1), .val (.int w2), .val (.int w3), .val (.int w4), .val (.int w5), .unset, .unset, .unset, .unset, .unset, .unset, .unset, .unset, .unset] [(.double (FP.l2d (i1.toInt64))), (.int (3 : Int32)), (.ref b1_), (.ref b1_)])) rfl (by rw [hml]; rfl) (Steps.refl _) (a := b1_) (argsL := [(.int (3 : Int32)), (.double (FP.l2d (i1.toInt64)))]) (rest := [(.ref b1_)]) (lenOf pd_qIDzV rfl) rfl (by show 2 * 0 + _ ≤ _; exact Nat.le_of_eq rfl) (hb hby at_65) (fun _ _ => ⟨rfl, e1_, (Nat.le_trans (Nat.add_le_add_left (by decide : 2 ≤ 2) cells) hce), (Nat.le_trans (Nat.add_le_add_left (by decide : 5 ≤ 5) slots) hsl)⟩)
  dsimp only [Pt.U, Pt.locs, Pt.cells, Pt.slots] at X2_ l2_ y2_ z2_ st2_ hQ2_
  subst L2_ k2_ n2_
  obtain ⟨t_2_, k_2_, rfl, Nq2_, ek2_, p2__0, p2__1, p2__2, p2__3, p2__4⟩ := hQ2_
  have N2_ := Fr.app N0 Nq2_
  have g5_ : n0 ≤ t_2_ := Nat.le_trans z4_ p2__0
  have k6_ : Keep h0 h1_ [] := (Keep.refl h0 []).ext E1_
  have k7_ : Keep h0 T2_.heap [] := k6_.trans ek2_ (allS (Or.inr (Nat.le_trans (Keep.refl h0 []).1 (Nat.le_of_eq g1_.symm))) all0)
  refine ⟨T2_, _, _, b1_, t_2_, k_2_, X2_, rfl, N2_, k7_, g3_, g5_, p2__1, p2__2, p2__3, p2__4, fun t k => ?_⟩
  show Steps p.tables e below (T0.setTop (mkF m 57 #[s0, .val (.int i1), .val (.int i2), s3, s4, s5, s6, s7, s8, .val (.int (3 : Int32)), .val (.int kk), .val (.int w0), .val (.int w1), .val (.int w2), .val (.int w3), .val (.int w4), .val (.int w5), .unset, .unset, .unset, .unset, .unset, .unset, .unset, .unset, .unset] [])) _
  refine st1_ _ ?_
  show Steps p.tables e below (T1_.setTop (mkF m 60 #[s0, .val (.int i1), .val (.int i2), s3, s4, s5, s6, s7, s8, .val (.int (3 : Int32)), .val (.int kk), .val (.int w0), .val (.int w1), .val (.int w2), .val (.int w3), .val (.int w4), .val (.int w5), .unset, .unset, .unset, .unset, .unset, .unset, .unset, .unset, .unset] [(.ref b1_)])) _
  refine XS.dup X1_.here hx rfl (hb hby at_60) rfl rfl ?_
  show Steps p.tables e below (T1_.setTop (mkF m 61 #[s0, .val (.int i1), .val (.int i2), s3, s4, s5, s6, s7, s8, .val (.int (3 : Int32)), .val (.int kk), .val (.int w0), .val (.int w1), .val (.int w2), .val (.int w3), .val (.int w4), .val (.int w5), .unset, .unset, .unset, .unset, .unset, .unset, .unset, .unset, .unset] [(.ref b1_), (.ref b1_)])) _
  refine XS.iload X1_.here hx rfl (hb hby at_61) rfl ?_
  refine XS.iloadN X1_.here hx rfl (hb hby at_63) rfl ?_
  refine XS.i2dS X1_.here hx rfl (hb hby at_64) rfl (v := (FP.l2d (i1.toInt64))) (i2d_w i1) ?_
  show Steps p.tables e below (T1_.setTop (mkF m 65 #[s0, .val (.int i1), .val (.int i2), s3, s4, s5, s6, s7, s8, .val (.int (3 : Int32)), .val (.int kk), .val (.int w0), .val (.int w1), .val (.int w2), .val (.int w3), .val (.int w4), .val (.int w5), .unset, .unset, .unset, .unset, .unset, .unset, .unset, .unset, .unset] [(.double (FP.l2d (i1.toInt64))), (.int (3 : Int32)), (.ref b1_), (.ref b1_)])) _
  refine st2_.trans ?_
  show Steps p.tables e below (T2_.setTop (mkF m 68 #[s0, .val (.int i1), .val (.int i2), s3, s4, s5, s6, s7, s8, .val (.int (3 : Int32)), .val (.int kk), .val (.int w0), .val (.int w1), .val (.int w2), .val (.int w3), .val (.int w4), .val (.int w5), .unset, .unset, .unset, .unset, .unset, .unset, .unset, .unset, .unset] [(.ref b1_)])) _
  refine XS.astore X2_.here hx rfl (hb hby at_68) rfl rfl (l' := #[s0, .val (.int i1), .val (.int i2), s3, s4, s5, s6, s7, s8, .val (.int (3 : Int32)), .val (.int kk), .val (.int w0), .val (.int w1), .val (.int w2), .val (.int w3), .val (.int w4), .val (.int w5), .val (.ref b1_), .unset, .unset, .unset, .unset, .unset, .unset, .unset, .unset]) rfl ?_
  exact k
set_option maxRecDepth 65536 in
set_option maxHeartbeats 40000000 in
theorem pcM3 {p : Program} {l : Launch} {e : Env} {R : Room} {s : State} {m : MethodId} {args : Array Value} {below : List Frame} {meth : Method} {c : Code} {T0 : State} {locs : List Loc} {cells slots : Nat} (Z : State) (a0 : Array Value) (hw : ∀ d ∈ tables_1, d.before a0 Z = true) (X0 : Stand p l e R s m args below meth c T0 locs cells slots) (hx : p.tables.exec = Jvm.exec) (hZ : Z.Warmed39 s.vm) (hby : c.code = code) (hml : c.maxLocals = 26) (hown : s.vm.findClass "com/example/whipstill/whipstill/MovingWindowMeanAbovePinLaw" = some m.cls) (s0 : Slot) (i1 : Int32) (i2 : Int32) (s3 : Slot) (s4 : Slot) (s5 : Slot) (s6 : Slot) (s7 : Slot) (s8 : Slot) (kk : Int32) (w0 : Int32) (w1 : Int32) (w2 : Int32) (w3 : Int32) (w4 : Int32) (w5 : Int32) (mm : Addr) (t1 : Addr) (k1 : ClassId) (y0 : Int64) (y1 : Int64) (y2 : Int64) (h0 : Heap) (n0 : Nat) (Z0 : n0 ≤ h0.size) (e0 : T0.heap = h0) (N0 : Fr n0 locs) (hfr : 1 ≤ R.frames) (hlo : 21 ≤ R.locals) (hce : cells + 0 ≤ R.cells) (hsl : slots + 0 ≤ R.slots) (E1 : Exa Z h0 mm "com/example/whipstill/whipstill/MovingWindow") (F1 : Fld Z h0 mm "com/example/whipstill/whipstill/MovingWindow" "values" "[D" (.ref t1)) (V1 : Arv Z h0 t1 k1 .double (3 : Int32) [(.double (FP.l2d y0)), (.double (FP.l2d y1)), (.double (FP.l2d y2))] (.double (0 : UInt64))) (b_y0 : own_R y0 2147483648) (b_y1 : own_R y1 2147483648) (b_y2 : own_R y2 2147483648) :
    ∃ (T' : State) (h' : Heap) (L' : List Loc), Stand p l e R s m args below meth c T' L' (cells + 0) (slots + 0) ∧ T'.heap = h' ∧ Fr n0 L' ∧ h' = h0 ∧ ∀ t, Steps p.tables e below (T'.setTop (mkF m 160 #[s0, .val (.int i1), .val (.int i2), s3, s4, s5, s6, s7, s8, .val (.int (3 : Int32)), .val (.int kk), .val (.int w0), .val (.int w1), .val (.int w2), .val (.int w3), .val (.int w4), .val (.int w5), .val (.ref mm), .unset, .unset, .unset, .unset, .unset, .unset, .unset, .unset] [(.double (FP.ddiv (FP.l2d ((((0 : Int64) + (y0 - (i2.toInt64))) + (y1 - (i2.toInt64))) + (y2 - (i2.toInt64)))) (FP.i2d (3 : Int32))))])) t → Steps p.tables e below (T0.setTop (mkF m 153 #[s0, .val (.int i1), .val (.int i2), s3, s4, s5, s6, s7, s8, .val (.int (3 : Int32)), .val (.int kk), .val (.int w0), .val (.int w1), .val (.int w2), .val (.int w3), .val (.int w4), .val (.int w5), .val (.ref mm), .unset, .unset, .unset, .unset, .unset, .unset, .unset, .unset] [])) t := by
  obtain ⟨cq2_, kq2_, qa2_, qb2_, qc2_⟩ := isOf hZ e0 E1
  obtain ⟨_, _, ⟨T1_, L1_, k1_, n1_⟩, -, X1_, ⟨Lc1_, hQ1_, l1_, y1_, z1_⟩, st1_⟩ := X0.virtualBack hx (y := (⟨"com/example/whipstill/whipstill/MovingWindow", "meanAbove", "(D)D"⟩ : MethodName)) (z := (⟨"com/example/whipstill/whipstill/MovingWindow", "meanAbove", "(D)D"⟩ : MethodName)) hown (mvT hZ (hw _ (List.mem_of_getElem? (i := 20) rfl))) (mvT hZ (hw _ (List.mem_of_getElem? (i := 21) rfl))) (notFace_of_selects (args := #[]) (mvT hZ (hw _ (List.mem_of_getElem? (i := 23) rfl)))) (mvT hZ (hw _ (List.mem_of_getElem? (i := 23) rfl))) (mvT hZ (hw _ (List.mem_of_getElem? (i := 22) rfl))) (by decide) (backOf (W := 0) (rmMa3 l Z a0 hw [] mm (i2.toInt64) t1 k1 y0 y1 y2 h0 n0 Z0 F1 V1 (own_R.i2l _) b_y0 b_y1 b_y2) hZ (hw _ (List.mem_of_getElem? (i := 24) rfl)) (hw _ (List.mem_of_getElem? (i := 6) rfl)) (Nat.le_trans (by decide) hfr) (Nat.le_trans (by decide) hlo)) qa2_ qc2_ (g := (mkF m 157 #[s0, .val (.int i1), .val (.int i2), s3, s4, s5, s6, s7, s8, .val (.int (3 : Int32)), .val (.int kk), .val (.int w0), .val (.int w1), .val (.int w2), .val (.int w3), .val (.int w4), .val (.int w5), .val (.ref mm), .unset, .unset, .unset, .unset, .unset, .unset, .unset, .unset] [(.double (FP.l2d (i2.toInt64))), (.ref mm)])) rfl (by rw [hml]; rfl) (Steps.refl _) (argsL := [(.double (FP.l2d (i2.toInt64)))]) (rest := []) (lenOf pd_qDzD rfl) rfl (by show 2 * 0 + _ ≤ _; exact Nat.le_of_eq rfl) (hb hby at_157) (fun _ _ => ⟨rfl, e0, (Nat.le_trans (Nat.add_le_add_left (by decide : 0 ≤ 0) cells) hce), (Nat.le_trans (Nat.add_le_add_left (by decide : 0 ≤ 0) slots) hsl)⟩)
  dsimp only [Pt.U, Pt.locs, Pt.cells, Pt.slots] at X1_ l1_ y1_ z1_ st1_ hQ1_
  subst L1_ k1_ n1_
  obtain ⟨rfl, Nq1_, ek1_⟩ := hQ1_
  have N1_ := Fr.app N0 Nq1_
  refine ⟨T1_, _, _, X1_, ek1_, N1_, rfl, fun t k => ?_⟩
  show Steps p.tables e below (T0.setTop (mkF m 153 #[s0, .val (.int i1), .val (.int i2), s3, s4, s5, s6, s7, s8, .val (.int (3 : Int32)), .val (.int kk), .val (.int w0), .val (.int w1), .val (.int w2), .val (.int w3), .val (.int w4), .val (.int w5), .val (.ref mm), .unset, .unset, .unset, .unset, .unset, .unset, .unset, .unset] [])) _
  refine XS.aload X0.here hx rfl (hb hby at_153) rfl rfl ?_
  refine XS.iloadN X0.here hx rfl (hb hby at_155) rfl ?_
  refine XS.i2dS X0.here hx rfl (hb hby at_156) rfl (v := (FP.l2d (i2.toInt64))) (i2d_w i2) ?_
  show Steps p.tables e below (T0.setTop (mkF m 157 #[s0, .val (.int i1), .val (.int i2), s3, s4, s5, s6, s7, s8, .val (.int (3 : Int32)), .val (.int kk), .val (.int w0), .val (.int w1), .val (.int w2), .val (.int w3), .val (.int w4), .val (.int w5), .val (.ref mm), .unset, .unset, .unset, .unset, .unset, .unset, .unset, .unset] [(.double (FP.l2d (i2.toInt64))), (.ref mm)])) _
  refine st1_.trans ?_
  exact k
set_option maxRecDepth 65536 in
set_option maxHeartbeats 40000000 in
theorem pcI4 {p : Program} {l : Launch} {e : Env} {R : Room} {s : State} {m : MethodId} {args : Array Value} {below : List Frame} {meth : Method} {c : Code} {T0 : State} {locs : List Loc} {cells slots : Nat} (Z : State) (a0 : Array Value) (hw : ∀ d ∈ tables_1, d.before a0 Z = true) (X0 : Stand p l e R s m args below meth c T0 locs cells slots) (hx : p.tables.exec = Jvm.exec) (hZ : Z.Warmed39 s.vm) (hby : c.code = code) (hml : c.maxLocals = 26) (hown : s.vm.findClass "com/example/whipstill/whipstill/MovingWindowMeanAbovePinLaw" = some m.cls) (s0 : Slot) (i1 : Int32) (i2 : Int32) (s3 : Slot) (s4 : Slot) (s5 : Slot) (s6 : Slot) (s7 : Slot) (s8 : Slot) (kk : Int32) (w0 : Int32) (w1 : Int32) (w2 : Int32) (w3 : Int32) (w4 : Int32) (w5 : Int32) (h0 : Heap) (n0 : Nat) (Z0 : n0 ≤ h0.size) (e0 : T0.heap = h0) (N0 : Fr n0 locs) (hfr : 2 ≤ R.frames) (hlo : 32 ≤ R.locals) (hce : cells + 2 ≤ R.cells) (hsl : slots + 6 ≤ R.slots)  :
    ∃ (T' : State) (h' : Heap) (L' : List Loc) (mo : Addr) (ta : Addr) (kc : ClassId), Stand p l e R s m args below meth c T' L' (cells + 2) (slots + 6) ∧ T'.heap = h' ∧ Fr n0 L' ∧ Keep h0 h' [] ∧ (n0 ≤ mo) ∧ (n0 ≤ ta) ∧ (Exa Z h' mo "com/example/whipstill/whipstill/MovingWindow") ∧ (Fld Z h' mo "com/example/whipstill/whipstill/MovingWindow" "values" "[D" (.ref ta)) ∧ (Fld Z h' mo "com/example/whipstill/whipstill/MovingWindow" "oldest" "I" (.int (0 : Int32))) ∧ (Arv Z h' ta kc .double (4 : Int32) [(.double (FP.l2d (i1.toInt64))), (.double (FP.l2d (i1.toInt64))), (.double (FP.l2d (i1.toInt64))), (.double (FP.l2d (i1.toInt64)))] (.double (0 : UInt64))) ∧ ∀ t, Steps p.tables e below (T'.setTop (mkF m 70 #[s0, .val (.int i1), .val (.int i2), s3, s4, s5, s6, s7, s8, .val (.int (4 : Int32)), .val (.int kk), .val (.int w0), .val (.int w1), .val (.int w2), .val (.int w3), .val (.int w4), .val (.int w5), .val (.ref mo), .unset, .unset, .unset, .unset, .unset, .unset, .unset, .unset] [])) t → Steps p.tables e below (T0.setTop (mkF m 57 #[s0, .val (.int i1), .val (.int i2), s3, s4, s5, s6, s7, s8, .val (.int (4 : Int32)), .val (.int kk), .val (.int w0), .val (.int w1), .val (.int w2), .val (.int w3), .val (.int w4), .val (.int w5), .unset, .unset, .unset, .unset, .unset, .unset, .unset, .unset, .unset] [])) t := by
  obtain ⟨T1_, h1_, X1_, e1_, E1_, A1_, D1_, U1_, st1_⟩ := newO X0 hx hZ hown (hw _ (List.mem_of_getElem? (i := 4) rfl)) (hw _ (List.mem_of_getElem? (i := 5) rfl)) (hw _ (List.mem_of_getElem? (i := 6) rfl)) e0 (g := (mkF m 57 #[s0, .val (.int i1), .val (.int i2), s3, s4, s5, s6, s7, s8, .val (.int (4 : Int32)), .val (.int kk), .val (.int w0), .val (.int w1), .val (.int w2), .val (.int w3), .val (.int w4), .val (.int w5), .unset, .unset, .unset, .unset, .unset, .unset, .unset, .unset, .unset] [])) rfl (hb hby at_57) (Nat.le_trans (Nat.add_le_add_left (by decide : 1 ≤ 2) cells) hce) (Nat.le_trans (Nat.add_le_add_left (by decide : 2 ≤ 6) slots) hsl)
  obtain ⟨b1_, g1_⟩ : ∃ z, z = h0.size := ⟨_, rfl⟩
  rw [← g1_] at A1_ D1_ U1_ st1_
  have F1__values : Fld Z h1_ b1_ "com/example/whipstill/whipstill/MovingWindow" "values" "[D" .null := D1_ (Or.inr (hw _ (List.mem_of_getElem? (i := 15) rfl))) (ty := (.array .double)) (by decide)
  have F1__oldest : Fld Z h1_ b1_ "com/example/whipstill/whipstill/MovingWindow" "oldest" "I" (.int (0 : Int32)) := D1_ (Or.inl (hw _ (List.mem_of_getElem? (i := 38) rfl))) (ty := .int) (by decide)
  have g3_ : n0 ≤ b1_ := Nat.le_trans Z0 (Nat.le_of_eq g1_.symm)
  have z4_ : n0 ≤ h1_.size := Nat.le_trans Z0 E1_.1
  obtain ⟨_, _, ⟨T2_, L2_, k2_, n2_⟩, -, X2_, ⟨Lc2_, hQ2_, l2_, y2_, z2_⟩, st2_⟩ := X1_.specialBack hx (y := (⟨"com/example/whipstill/whipstill/MovingWindow", "<init>", "(ID)V"⟩ : MethodName)) rfl hown (mvT hZ (hw _ (List.mem_of_getElem? (i := 7) rfl))) (mvT hZ (hw _ (List.mem_of_getElem? (i := 8) rfl))) (mvT hZ (hw _ (List.mem_of_getElem? (i := 9) rfl))) (by decide) (backOf (W := 1) (rmInit4 l Z a0 hw [] b1_ (FP.l2d (i1.toInt64)) h1_ n0 z4_ A1_ F1__values F1__oldest g3_) hZ (hw _ (List.mem_of_getElem? (i := 9) rfl)) (hw _ (List.mem_of_getElem? (i := 6) rfl)) (Nat.le_trans (by decide) hfr) (Nat.le_trans (by decide) hlo)) (g := (mkF m 65 #[s0, .val (.int i1), .val (.int i2), s3, s4, s5, s6, s7, s8, .val (.int (4 : Int32)), .val (.int kk), .val (.int w0), .val (.int w1), .val (.int w2), .val (.int w3), .val (.int w4), .val (.int w5), .unset, .unset, .unset, .unset, .unset, .unset, .unset, .unset, .unset] [(.double (FP.l2d (i1.toInt64))), (.int (4 : Int32)), (.ref b1_), (.ref b1_)])) rfl (by rw [hml]; rfl) (Steps.refl _) (a := b1_) (argsL := [(.int (4 : Int32)), (.double (FP.l2d (i1.toInt64)))]) (rest := [(.ref b1_)]) (lenOf pd_qIDzV rfl) rfl (by show 2 * 0 + _ ≤ _; exact Nat.le_of_eq rfl) (hb hby at_65) (fun _ _ => ⟨rfl, e1_, (Nat.le_trans (Nat.add_le_add_left (by decide : 2 ≤ 2) cells) hce), (Nat.le_trans (Nat.add_le_add_left (by decide : 6 ≤ 6) slots) hsl)⟩)
  dsimp only [Pt.U, Pt.locs, Pt.cells, Pt.slots] at X2_ l2_ y2_ z2_ st2_ hQ2_
  subst L2_ k2_ n2_
  obtain ⟨t_2_, k_2_, rfl, Nq2_, ek2_, p2__0, p2__1, p2__2, p2__3, p2__4⟩ := hQ2_
  have N2_ := Fr.app N0 Nq2_
  have g5_ : n0 ≤ t_2_ := Nat.le_trans z4_ p2__0
  have k6_ : Keep h0 h1_ [] := (Keep.refl h0 []).ext E1_
  have k7_ : Keep h0 T2_.heap [] := k6_.trans ek2_ (allS (Or.inr (Nat.le_trans (Keep.refl h0 []).1 (Nat.le_of_eq g1_.symm))) all0)
  refine ⟨T2_, _, _, b1_, t_2_, k_2_, X2_, rfl, N2_, k7_, g3_, g5_, p2__1, p2__2, p2__3, p2__4, fun t k => ?_⟩
  show Steps p.tables e below (T0.setTop (mkF m 57 #[s0, .val (.int i1), .val (.int i2), s3, s4, s5, s6, s7, s8, .val (.int (4 : Int32)), .val (.int kk), .val (.int w0), .val (.int w1), .val (.int w2), .val (.int w3), .val (.int w4), .val (.int w5), .unset, .unset, .unset, .unset, .unset, .unset, .unset, .unset, .unset] [])) _
  refine st1_ _ ?_
  show Steps p.tables e below (T1_.setTop (mkF m 60 #[s0, .val (.int i1), .val (.int i2), s3, s4, s5, s6, s7, s8, .val (.int (4 : Int32)), .val (.int kk), .val (.int w0), .val (.int w1), .val (.int w2), .val (.int w3), .val (.int w4), .val (.int w5), .unset, .unset, .unset, .unset, .unset, .unset, .unset, .unset, .unset] [(.ref b1_)])) _
  refine XS.dup X1_.here hx rfl (hb hby at_60) rfl rfl ?_
  show Steps p.tables e below (T1_.setTop (mkF m 61 #[s0, .val (.int i1), .val (.int i2), s3, s4, s5, s6, s7, s8, .val (.int (4 : Int32)), .val (.int kk), .val (.int w0), .val (.int w1), .val (.int w2), .val (.int w3), .val (.int w4), .val (.int w5), .unset, .unset, .unset, .unset, .unset, .unset, .unset, .unset, .unset] [(.ref b1_), (.ref b1_)])) _
  refine XS.iload X1_.here hx rfl (hb hby at_61) rfl ?_
  refine XS.iloadN X1_.here hx rfl (hb hby at_63) rfl ?_
  refine XS.i2dS X1_.here hx rfl (hb hby at_64) rfl (v := (FP.l2d (i1.toInt64))) (i2d_w i1) ?_
  show Steps p.tables e below (T1_.setTop (mkF m 65 #[s0, .val (.int i1), .val (.int i2), s3, s4, s5, s6, s7, s8, .val (.int (4 : Int32)), .val (.int kk), .val (.int w0), .val (.int w1), .val (.int w2), .val (.int w3), .val (.int w4), .val (.int w5), .unset, .unset, .unset, .unset, .unset, .unset, .unset, .unset, .unset] [(.double (FP.l2d (i1.toInt64))), (.int (4 : Int32)), (.ref b1_), (.ref b1_)])) _
  refine st2_.trans ?_
  show Steps p.tables e below (T2_.setTop (mkF m 68 #[s0, .val (.int i1), .val (.int i2), s3, s4, s5, s6, s7, s8, .val (.int (4 : Int32)), .val (.int kk), .val (.int w0), .val (.int w1), .val (.int w2), .val (.int w3), .val (.int w4), .val (.int w5), .unset, .unset, .unset, .unset, .unset, .unset, .unset, .unset, .unset] [(.ref b1_)])) _
  refine XS.astore X2_.here hx rfl (hb hby at_68) rfl rfl (l' := #[s0, .val (.int i1), .val (.int i2), s3, s4, s5, s6, s7, s8, .val (.int (4 : Int32)), .val (.int kk), .val (.int w0), .val (.int w1), .val (.int w2), .val (.int w3), .val (.int w4), .val (.int w5), .val (.ref b1_), .unset, .unset, .unset, .unset, .unset, .unset, .unset, .unset]) rfl ?_
  exact k
set_option maxRecDepth 65536 in
set_option maxHeartbeats 40000000 in
theorem pcM4 {p : Program} {l : Launch} {e : Env} {R : Room} {s : State} {m : MethodId} {args : Array Value} {below : List Frame} {meth : Method} {c : Code} {T0 : State} {locs : List Loc} {cells slots : Nat} (Z : State) (a0 : Array Value) (hw : ∀ d ∈ tables_1, d.before a0 Z = true) (X0 : Stand p l e R s m args below meth c T0 locs cells slots) (hx : p.tables.exec = Jvm.exec) (hZ : Z.Warmed39 s.vm) (hby : c.code = code) (hml : c.maxLocals = 26) (hown : s.vm.findClass "com/example/whipstill/whipstill/MovingWindowMeanAbovePinLaw" = some m.cls) (s0 : Slot) (i1 : Int32) (i2 : Int32) (s3 : Slot) (s4 : Slot) (s5 : Slot) (s6 : Slot) (s7 : Slot) (s8 : Slot) (kk : Int32) (w0 : Int32) (w1 : Int32) (w2 : Int32) (w3 : Int32) (w4 : Int32) (w5 : Int32) (mm : Addr) (t1 : Addr) (k1 : ClassId) (y0 : Int64) (y1 : Int64) (y2 : Int64) (y3 : Int64) (h0 : Heap) (n0 : Nat) (Z0 : n0 ≤ h0.size) (e0 : T0.heap = h0) (N0 : Fr n0 locs) (hfr : 1 ≤ R.frames) (hlo : 21 ≤ R.locals) (hce : cells + 0 ≤ R.cells) (hsl : slots + 0 ≤ R.slots) (E1 : Exa Z h0 mm "com/example/whipstill/whipstill/MovingWindow") (F1 : Fld Z h0 mm "com/example/whipstill/whipstill/MovingWindow" "values" "[D" (.ref t1)) (V1 : Arv Z h0 t1 k1 .double (4 : Int32) [(.double (FP.l2d y0)), (.double (FP.l2d y1)), (.double (FP.l2d y2)), (.double (FP.l2d y3))] (.double (0 : UInt64))) (b_y0 : own_R y0 2147483648) (b_y1 : own_R y1 2147483648) (b_y2 : own_R y2 2147483648) (b_y3 : own_R y3 2147483648) :
    ∃ (T' : State) (h' : Heap) (L' : List Loc), Stand p l e R s m args below meth c T' L' (cells + 0) (slots + 0) ∧ T'.heap = h' ∧ Fr n0 L' ∧ h' = h0 ∧ ∀ t, Steps p.tables e below (T'.setTop (mkF m 160 #[s0, .val (.int i1), .val (.int i2), s3, s4, s5, s6, s7, s8, .val (.int (4 : Int32)), .val (.int kk), .val (.int w0), .val (.int w1), .val (.int w2), .val (.int w3), .val (.int w4), .val (.int w5), .val (.ref mm), .unset, .unset, .unset, .unset, .unset, .unset, .unset, .unset] [(.double (FP.ddiv (FP.l2d (((((0 : Int64) + (y0 - (i2.toInt64))) + (y1 - (i2.toInt64))) + (y2 - (i2.toInt64))) + (y3 - (i2.toInt64)))) (FP.i2d (4 : Int32))))])) t → Steps p.tables e below (T0.setTop (mkF m 153 #[s0, .val (.int i1), .val (.int i2), s3, s4, s5, s6, s7, s8, .val (.int (4 : Int32)), .val (.int kk), .val (.int w0), .val (.int w1), .val (.int w2), .val (.int w3), .val (.int w4), .val (.int w5), .val (.ref mm), .unset, .unset, .unset, .unset, .unset, .unset, .unset, .unset] [])) t := by
  obtain ⟨cq2_, kq2_, qa2_, qb2_, qc2_⟩ := isOf hZ e0 E1
  obtain ⟨_, _, ⟨T1_, L1_, k1_, n1_⟩, -, X1_, ⟨Lc1_, hQ1_, l1_, y1_, z1_⟩, st1_⟩ := X0.virtualBack hx (y := (⟨"com/example/whipstill/whipstill/MovingWindow", "meanAbove", "(D)D"⟩ : MethodName)) (z := (⟨"com/example/whipstill/whipstill/MovingWindow", "meanAbove", "(D)D"⟩ : MethodName)) hown (mvT hZ (hw _ (List.mem_of_getElem? (i := 20) rfl))) (mvT hZ (hw _ (List.mem_of_getElem? (i := 21) rfl))) (notFace_of_selects (args := #[]) (mvT hZ (hw _ (List.mem_of_getElem? (i := 23) rfl)))) (mvT hZ (hw _ (List.mem_of_getElem? (i := 23) rfl))) (mvT hZ (hw _ (List.mem_of_getElem? (i := 22) rfl))) (by decide) (backOf (W := 0) (rmMa4 l Z a0 hw [] mm (i2.toInt64) t1 k1 y0 y1 y2 y3 h0 n0 Z0 F1 V1 (own_R.i2l _) b_y0 b_y1 b_y2 b_y3) hZ (hw _ (List.mem_of_getElem? (i := 24) rfl)) (hw _ (List.mem_of_getElem? (i := 6) rfl)) (Nat.le_trans (by decide) hfr) (Nat.le_trans (by decide) hlo)) qa2_ qc2_ (g := (mkF m 157 #[s0, .val (.int i1), .val (.int i2), s3, s4, s5, s6, s7, s8, .val (.int (4 : Int32)), .val (.int kk), .val (.int w0), .val (.int w1), .val (.int w2), .val (.int w3), .val (.int w4), .val (.int w5), .val (.ref mm), .unset, .unset, .unset, .unset, .unset, .unset, .unset, .unset] [(.double (FP.l2d (i2.toInt64))), (.ref mm)])) rfl (by rw [hml]; rfl) (Steps.refl _) (argsL := [(.double (FP.l2d (i2.toInt64)))]) (rest := []) (lenOf pd_qDzD rfl) rfl (by show 2 * 0 + _ ≤ _; exact Nat.le_of_eq rfl) (hb hby at_157) (fun _ _ => ⟨rfl, e0, (Nat.le_trans (Nat.add_le_add_left (by decide : 0 ≤ 0) cells) hce), (Nat.le_trans (Nat.add_le_add_left (by decide : 0 ≤ 0) slots) hsl)⟩)
  dsimp only [Pt.U, Pt.locs, Pt.cells, Pt.slots] at X1_ l1_ y1_ z1_ st1_ hQ1_
  subst L1_ k1_ n1_
  obtain ⟨rfl, Nq1_, ek1_⟩ := hQ1_
  have N1_ := Fr.app N0 Nq1_
  refine ⟨T1_, _, _, X1_, ek1_, N1_, rfl, fun t k => ?_⟩
  show Steps p.tables e below (T0.setTop (mkF m 153 #[s0, .val (.int i1), .val (.int i2), s3, s4, s5, s6, s7, s8, .val (.int (4 : Int32)), .val (.int kk), .val (.int w0), .val (.int w1), .val (.int w2), .val (.int w3), .val (.int w4), .val (.int w5), .val (.ref mm), .unset, .unset, .unset, .unset, .unset, .unset, .unset, .unset] [])) _
  refine XS.aload X0.here hx rfl (hb hby at_153) rfl rfl ?_
  refine XS.iloadN X0.here hx rfl (hb hby at_155) rfl ?_
  refine XS.i2dS X0.here hx rfl (hb hby at_156) rfl (v := (FP.l2d (i2.toInt64))) (i2d_w i2) ?_
  show Steps p.tables e below (T0.setTop (mkF m 157 #[s0, .val (.int i1), .val (.int i2), s3, s4, s5, s6, s7, s8, .val (.int (4 : Int32)), .val (.int kk), .val (.int w0), .val (.int w1), .val (.int w2), .val (.int w3), .val (.int w4), .val (.int w5), .val (.ref mm), .unset, .unset, .unset, .unset, .unset, .unset, .unset, .unset] [(.double (FP.l2d (i2.toInt64))), (.ref mm)])) _
  refine st1_.trans ?_
  exact k
set_option maxRecDepth 65536 in
set_option maxHeartbeats 40000000 in
theorem pcS0 {p : Program} {l : Launch} {e : Env} {R : Room} {s : State} {m : MethodId} {args : Array Value} {below : List Frame} {meth : Method} {c : Code} {T0 : State} {locs : List Loc} {cells slots : Nat} (Z : State) (a0 : Array Value) (hw : ∀ d ∈ tables_1, d.before a0 Z = true) (X0 : Stand p l e R s m args below meth c T0 locs cells slots) (hx : p.tables.exec = Jvm.exec) (hZ : Z.Warmed39 s.vm) (hby : c.code = code) (hml : c.maxLocals = 26) (hown : s.vm.findClass "com/example/whipstill/whipstill/MovingWindowMeanAbovePinLaw" = some m.cls) (s0 : Slot) (i1 : Int32) (i2 : Int32) (s3 : Slot) (s4 : Slot) (s5 : Slot) (s6 : Slot) (s7 : Slot) (s8 : Slot) (nn : Int32) (kk : Int32) (w0 : Int32) (w1 : Int32) (w2 : Int32) (w3 : Int32) (w4 : Int32) (w5 : Int32) (mm : Addr) (h0 : Heap) (n0 : Nat) (Z0 : n0 ≤ h0.size) (e0 : T0.heap = h0) (N0 : Fr n0 locs) (hfr : 0 ≤ R.frames) (hlo : 0 ≤ R.locals) (hce : cells + 0 ≤ R.cells) (hsl : slots + 0 ≤ R.slots) (hs : ¬ ((0 : Int32) < kk)) :
    ∃ (T' : State) (h' : Heap) (L' : List Loc), Stand p l e R s m args below meth c T' L' (cells + 0) (slots + 0) ∧ T'.heap = h' ∧ Fr n0 L' ∧ h' = h0 ∧ ∀ t, Steps p.tables e below (T'.setTop (mkF m 83 #[s0, .val (.int i1), .val (.int i2), s3, s4, s5, s6, s7, s8, .val (.int nn), .val (.int kk), .val (.int w0), .val (.int w1), .val (.int w2), .val (.int w3), .val (.int w4), .val (.int w5), .val (.ref mm), .unset, .unset, .unset, .unset, .unset, .unset, .unset, .unset] [])) t → Steps p.tables e below (T0.setTop (mkF m 70 #[s0, .val (.int i1), .val (.int i2), s3, s4, s5, s6, s7, s8, .val (.int nn), .val (.int kk), .val (.int w0), .val (.int w1), .val (.int w2), .val (.int w3), .val (.int w4), .val (.int w5), .val (.ref mm), .unset, .unset, .unset, .unset, .unset, .unset, .unset, .unset] [])) t := by
  refine ⟨T0, _, _, X0, e0, N0, rfl, fun t k => ?_⟩
  show Steps p.tables e below (T0.setTop (mkF m 70 #[s0, .val (.int i1), .val (.int i2), s3, s4, s5, s6, s7, s8, .val (.int nn), .val (.int kk), .val (.int w0), .val (.int w1), .val (.int w2), .val (.int w3), .val (.int w4), .val (.int w5), .val (.ref mm), .unset, .unset, .unset, .unset, .unset, .unset, .unset, .unset] [])) _
  refine XS.iload X0.here hx rfl (hb hby at_70) rfl ?_
  refine XS.ifYes X0.here hx rfl (pc0 := 72) (pc' := 83) rfl (hb hby at_72) rfl ((if0 _ _).trans (flt (hs : ¬ ((0 : Int32) < kk))).2.2.2) (by decide) (by decide) ?_
  exact k
theorem pd_qDzV : parseMethodDescriptor "(D)V" = some ⟨[.double], none⟩ := by decide +kernel
set_option maxRecDepth 65536 in
set_option maxHeartbeats 40000000 in
theorem pcT1_0 {p : Program} {l : Launch} {e : Env} {R : Room} {s : State} {m : MethodId} {args : Array Value} {below : List Frame} {meth : Method} {c : Code} {T0 : State} {locs : List Loc} {cells slots : Nat} (Z : State) (a0 : Array Value) (hw : ∀ d ∈ tables_1, d.before a0 Z = true) (X0 : Stand p l e R s m args below meth c T0 locs cells slots) (hx : p.tables.exec = Jvm.exec) (hZ : Z.Warmed39 s.vm) (hby : c.code = code) (hml : c.maxLocals = 26) (hown : s.vm.findClass "com/example/whipstill/whipstill/MovingWindowMeanAbovePinLaw" = some m.cls) (s0 : Slot) (i1 : Int32) (i2 : Int32) (s3 : Slot) (s4 : Slot) (s5 : Slot) (s6 : Slot) (s7 : Slot) (s8 : Slot) (kk : Int32) (w0 : Int32) (w1 : Int32) (w2 : Int32) (w3 : Int32) (w4 : Int32) (w5 : Int32) (mm : Addr) (t1 : Addr) (k1 : ClassId) (y0 : Int64) (h0 : Heap) (n0 : Nat) (Z0 : n0 ≤ h0.size) (e0 : T0.heap = h0) (N0 : Fr n0 locs) (hfr : 1 ≤ R.frames) (hlo : 14 ≤ R.locals) (hce : cells + 0 ≤ R.cells) (hsl : slots + 0 ≤ R.slots) (hs : (0 : Int32) < kk) (E1 : Exa Z h0 mm "com/example/whipstill/whipstill/MovingWindow") (F1 : Fld Z h0 mm "com/example/whipstill/whipstill/MovingWindow" "values" "[D" (.ref t1)) (F2 : Fld Z h0 mm "com/example/whipstill/whipstill/MovingWindow" "oldest" "I" (.int (0 : Int32))) (V1 : Arv Z h0 t1 k1 .double (1 : Int32) [(.double (FP.l2d y0))] (.double (0 : UInt64))) (g1 : n0 ≤ mm) (g2 : n0 ≤ t1) :
    ∃ (T' : State) (h' : Heap) (L' : List Loc), Stand p l e R s m args below meth c T' L' (cells + 0) (slots + 0) ∧ T'.heap = h' ∧ Fr n0 L' ∧ Keep h0 h' [mm, t1] ∧ (Exa Z h' mm "com/example/whipstill/whipstill/MovingWindow") ∧ (Fld Z h' mm "com/example/whipstill/whipstill/MovingWindow" "values" "[D" (.ref t1)) ∧ (Fld Z h' mm "com/example/whipstill/whipstill/MovingWindow" "oldest" "I" (.int (0 : Int32))) ∧ (Arv Z h' t1 k1 .double (1 : Int32) [(.double (FP.l2d (w0.toInt64)))] (.double (0 : UInt64))) ∧ ∀ t, Steps p.tables e below (T'.setTop (mkF m 83 #[s0, .val (.int i1), .val (.int i2), s3, s4, s5, s6, s7, s8, .val (.int (1 : Int32)), .val (.int kk), .val (.int w0), .val (.int w1), .val (.int w2), .val (.int w3), .val (.int w4), .val (.int w5), .val (.ref mm), .unset, .unset, .unset, .unset, .unset, .unset, .unset, .unset] [])) t → Steps p.tables e below (T0.setTop (mkF m 70 #[s0, .val (.int i1), .val (.int i2), s3, s4, s5, s6, s7, s8, .val (.int (1 : Int32)), .val (.int kk), .val (.int w0), .val (.int w1), .val (.int w2), .val (.int w3), .val (.int w4), .val (.int w5), .val (.ref mm), .unset, .unset, .unset, .unset, .unset, .unset, .unset, .unset] [])) t := by
  obtain ⟨cq2_, kq2_, qa2_, qb2_, qc2_⟩ := isOf hZ e0 E1
  obtain ⟨_, _, ⟨T1_, L1_, k1_, n1_⟩, -, X1_, ⟨Lc1_, hQ1_, l1_, y1_, z1_⟩, st1_⟩ := X0.virtualBack hx (y := (⟨"com/example/whipstill/whipstill/MovingWindow", "add", "(D)V"⟩ : MethodName)) (z := (⟨"com/example/whipstill/whipstill/MovingWindow", "add", "(D)V"⟩ : MethodName)) hown (mvT hZ (hw _ (List.mem_of_getElem? (i := 32) rfl))) (mvT hZ (hw _ (List.mem_of_getElem? (i := 33) rfl))) (notFace_of_selects (args := #[]) (mvT hZ (hw _ (List.mem_of_getElem? (i := 35) rfl)))) (mvT hZ (hw _ (List.mem_of_getElem? (i := 35) rfl))) (mvT hZ (hw _ (List.mem_of_getElem? (i := 34) rfl))) (by decide) (backOf (W := 0) (rmAdd1_0 l Z a0 hw [] mm (FP.l2d (w0.toInt64)) t1 k1 (FP.l2d y0) h0 n0 Z0 E1 F1 F2 V1 g1 g2) hZ (hw _ (List.mem_of_getElem? (i := 36) rfl)) (hw _ (List.mem_of_getElem? (i := 6) rfl)) (Nat.le_trans (by decide) hfr) (Nat.le_trans (by decide) hlo)) qa2_ qc2_ (g := (mkF m 80 #[s0, .val (.int i1), .val (.int i2), s3, s4, s5, s6, s7, s8, .val (.int (1 : Int32)), .val (.int kk), .val (.int w0), .val (.int w1), .val (.int w2), .val (.int w3), .val (.int w4), .val (.int w5), .val (.ref mm), .unset, .unset, .unset, .unset, .unset, .unset, .unset, .unset] [(.double (FP.l2d (w0.toInt64))), (.ref mm)])) rfl (by rw [hml]; rfl) (Steps.refl _) (argsL := [(.double (FP.l2d (w0.toInt64)))]) (rest := []) (lenOf pd_qDzV rfl) rfl (by show 2 * 0 + _ ≤ _; exact Nat.le_of_eq rfl) (hb hby at_80) (fun _ _ => ⟨rfl, e0, (Nat.le_trans (Nat.add_le_add_left (by decide : 0 ≤ 0) cells) hce), (Nat.le_trans (Nat.add_le_add_left (by decide : 0 ≤ 0) slots) hsl)⟩)
  dsimp only [Pt.U, Pt.locs, Pt.cells, Pt.slots] at X1_ l1_ y1_ z1_ st1_ hQ1_
  subst L1_ k1_ n1_
  obtain ⟨rfl, Nq1_, ek1_, p1__0, p1__1, p1__2, p1__3⟩ := hQ1_
  have N1_ := Fr.app N0 Nq1_
  have k3_ : Keep h0 T1_.heap [mm, t1] := (Keep.refl h0 [mm, t1]).trans ek1_ (allS (Or.inl (List.mem_of_getElem? (i := 0) rfl)) (allS (Or.inl (List.mem_of_getElem? (i := 1) rfl)) all0))
  refine ⟨T1_, _, _, X1_, rfl, N1_, k3_, p1__0, p1__1, p1__2, p1__3, fun t k => ?_⟩
  show Steps p.tables e below (T0.setTop (mkF m 70 #[s0, .val (.int i1), .val (.int i2), s3, s4, s5, s6, s7, s8, .val (.int (1 : Int32)), .val (.int kk), .val (.int w0), .val (.int w1), .val (.int w2), .val (.int w3), .val (.int w4), .val (.int w5), .val (.ref mm), .unset, .unset, .unset, .unset, .unset, .unset, .unset, .unset] [])) _
  refine XS.iload X0.here hx rfl (hb hby at_70) rfl ?_
  refine XS.ifNo X0.here hx rfl (hb hby at_72) rfl ((if0 _ _).trans (tlt (hs : (0 : Int32) < kk)).2.2.2) ?_
  show Steps p.tables e below (T0.setTop (mkF m 75 #[s0, .val (.int i1), .val (.int i2), s3, s4, s5, s6, s7, s8, .val (.int (1 : Int32)), .val (.int kk), .val (.int w0), .val (.int w1), .val (.int w2), .val (.int w3), .val (.int w4), .val (.int w5), .val (.ref mm), .unset, .unset, .unset, .unset, .unset, .unset, .unset, .unset] [])) _
  refine XS.aload X0.here hx rfl (hb hby at_75) rfl rfl ?_
  refine XS.iload X0.here hx rfl (hb hby at_77) rfl ?_
  refine XS.i2dS X0.here hx rfl (hb hby at_79) rfl (v := (FP.l2d (w0.toInt64))) (i2d_w w0) ?_
  show Steps p.tables e below (T0.setTop (mkF m 80 #[s0, .val (.int i1), .val (.int i2), s3, s4, s5, s6, s7, s8, .val (.int (1 : Int32)), .val (.int kk), .val (.int w0), .val (.int w1), .val (.int w2), .val (.int w3), .val (.int w4), .val (.int w5), .val (.ref mm), .unset, .unset, .unset, .unset, .unset, .unset, .unset, .unset] [(.double (FP.l2d (w0.toInt64))), (.ref mm)])) _
  refine st1_.trans ?_
  exact k
set_option maxRecDepth 65536 in
set_option maxHeartbeats 40000000 in
theorem pcT2_0 {p : Program} {l : Launch} {e : Env} {R : Room} {s : State} {m : MethodId} {args : Array Value} {below : List Frame} {meth : Method} {c : Code} {T0 : State} {locs : List Loc} {cells slots : Nat} (Z : State) (a0 : Array Value) (hw : ∀ d ∈ tables_1, d.before a0 Z = true) (X0 : Stand p l e R s m args below meth c T0 locs cells slots) (hx : p.tables.exec = Jvm.exec) (hZ : Z.Warmed39 s.vm) (hby : c.code = code) (hml : c.maxLocals = 26) (hown : s.vm.findClass "com/example/whipstill/whipstill/MovingWindowMeanAbovePinLaw" = some m.cls) (s0 : Slot) (i1 : Int32) (i2 : Int32) (s3 : Slot) (s4 : Slot) (s5 : Slot) (s6 : Slot) (s7 : Slot) (s8 : Slot) (kk : Int32) (w0 : Int32) (w1 : Int32) (w2 : Int32) (w3 : Int32) (w4 : Int32) (w5 : Int32) (mm : Addr) (t1 : Addr) (k1 : ClassId) (y0 : Int64) (y1 : Int64) (h0 : Heap) (n0 : Nat) (Z0 : n0 ≤ h0.size) (e0 : T0.heap = h0) (N0 : Fr n0 locs) (hfr : 1 ≤ R.frames) (hlo : 14 ≤ R.locals) (hce : cells + 0 ≤ R.cells) (hsl : slots + 0 ≤ R.slots) (hs : (0 : Int32) < kk) (E1 : Exa Z h0 mm "com/example/whipstill/whipstill/MovingWindow") (F1 : Fld Z h0 mm "com/example/whipstill/whipstill/MovingWindow" "values" "[D" (.ref t1)) (F2 : Fld Z h0 mm "com/example/whipstill/whipstill/MovingWindow" "oldest" "I" (.int (0 : Int32))) (V1 : Arv Z h0 t1 k1 .double (2 : Int32) [(.double (FP.l2d y0)), (.double (FP.l2d y1))] (.double (0 : UInt64))) (g1 : n0 ≤ mm) (g2 : n0 ≤ t1) :
    ∃ (T' : State) (h' : Heap) (L' : List Loc), Stand p l e R s m args below meth c T' L' (cells + 0) (slots + 0) ∧ T'.heap = h' ∧ Fr n0 L' ∧ Keep h0 h' [mm, t1] ∧ (Exa Z h' mm "com/example/whipstill/whipstill/MovingWindow") ∧ (Fld Z h' mm "com/example/whipstill/whipstill/MovingWindow" "values" "[D" (.ref t1)) ∧ (Fld Z h' mm "com/example/whipstill/whipstill/MovingWindow" "oldest" "I" (.int (1 : Int32))) ∧ (Arv Z h' t1 k1 .double (2 : Int32) [(.double (FP.l2d (w0.toInt64))), (.double (FP.l2d y1))] (.double (0 : UInt64))) ∧ ∀ t, Steps p.tables e below (T'.setTop (mkF m 83 #[s0, .val (.int i1), .val (.int i2), s3, s4, s5, s6, s7, s8, .val (.int (2 : Int32)), .val (.int kk), .val (.int w0), .val (.int w1), .val (.int w2), .val (.int w3), .val (.int w4), .val (.int w5), .val (.ref mm), .unset, .unset, .unset, .unset, .unset, .unset, .unset, .unset] [])) t → Steps p.tables e below (T0.setTop (mkF m 70 #[s0, .val (.int i1), .val (.int i2), s3, s4, s5, s6, s7, s8, .val (.int (2 : Int32)), .val (.int kk), .val (.int w0), .val (.int w1), .val (.int w2), .val (.int w3), .val (.int w4), .val (.int w5), .val (.ref mm), .unset, .unset, .unset, .unset, .unset, .unset, .unset, .unset] [])) t := by
  obtain ⟨cq2_, kq2_, qa2_, qb2_, qc2_⟩ := isOf hZ e0 E1
  obtain ⟨_, _, ⟨T1_, L1_, k1_, n1_⟩, -, X1_, ⟨Lc1_, hQ1_, l1_, y1_, z1_⟩, st1_⟩ := X0.virtualBack hx (y := (⟨"com/example/whipstill/whipstill/MovingWindow", "add", "(D)V"⟩ : MethodName)) (z := (⟨"com/example/whipstill/whipstill/MovingWindow", "add", "(D)V"⟩ : MethodName)) hown (mvT hZ (hw _ (List.mem_of_getElem? (i := 32) rfl))) (mvT hZ (hw _ (List.mem_of_getElem? (i := 33) rfl))) (notFace_of_selects (args := #[]) (mvT hZ (hw _ (List.mem_of_getElem? (i := 35) rfl)))) (mvT hZ (hw _ (List.mem_of_getElem? (i := 35) rfl))) (mvT hZ (hw _ (List.mem_of_getElem? (i := 34) rfl))) (by decide) (backOf (W := 0) (rmAdd2_0 l Z a0 hw [] mm (FP.l2d (w0.toInt64)) t1 k1 (FP.l2d y0) (FP.l2d y1) h0 n0 Z0 E1 F1 F2 V1 g1 g2) hZ (hw _ (List.mem_of_getElem? (i := 36) rfl)) (hw _ (List.mem_of_getElem? (i := 6) rfl)) (Nat.le_trans (by decide) hfr) (Nat.le_trans (by decide) hlo)) qa2_ qc2_ (g := (mkF m 80 #[s0, .val (.int i1), .val (.int i2), s3, s4, s5, s6, s7, s8, .val (.int (2 : Int32)), .val (.int kk), .val (.int w0), .val (.int w1), .val (.int w2), .val (.int w3), .val (.int w4), .val (.int w5), .val (.ref mm), .unset, .unset, .unset, .unset, .unset, .unset, .unset, .unset] [(.double (FP.l2d (w0.toInt64))), (.ref mm)])) rfl (by rw [hml]; rfl) (Steps.refl _) (argsL := [(.double (FP.l2d (w0.toInt64)))]) (rest := []) (lenOf pd_qDzV rfl) rfl (by show 2 * 0 + _ ≤ _; exact Nat.le_of_eq rfl) (hb hby at_80) (fun _ _ => ⟨rfl, e0, (Nat.le_trans (Nat.add_le_add_left (by decide : 0 ≤ 0) cells) hce), (Nat.le_trans (Nat.add_le_add_left (by decide : 0 ≤ 0) slots) hsl)⟩)
  dsimp only [Pt.U, Pt.locs, Pt.cells, Pt.slots] at X1_ l1_ y1_ z1_ st1_ hQ1_
  subst L1_ k1_ n1_
  obtain ⟨rfl, Nq1_, ek1_, p1__0, p1__1, p1__2, p1__3⟩ := hQ1_
  have N1_ := Fr.app N0 Nq1_
  have k3_ : Keep h0 T1_.heap [mm, t1] := (Keep.refl h0 [mm, t1]).trans ek1_ (allS (Or.inl (List.mem_of_getElem? (i := 0) rfl)) (allS (Or.inl (List.mem_of_getElem? (i := 1) rfl)) all0))
  refine ⟨T1_, _, _, X1_, rfl, N1_, k3_, p1__0, p1__1, p1__2, p1__3, fun t k => ?_⟩
  show Steps p.tables e below (T0.setTop (mkF m 70 #[s0, .val (.int i1), .val (.int i2), s3, s4, s5, s6, s7, s8, .val (.int (2 : Int32)), .val (.int kk), .val (.int w0), .val (.int w1), .val (.int w2), .val (.int w3), .val (.int w4), .val (.int w5), .val (.ref mm), .unset, .unset, .unset, .unset, .unset, .unset, .unset, .unset] [])) _
  refine XS.iload X0.here hx rfl (hb hby at_70) rfl ?_
  refine XS.ifNo X0.here hx rfl (hb hby at_72) rfl ((if0 _ _).trans (tlt (hs : (0 : Int32) < kk)).2.2.2) ?_
  show Steps p.tables e below (T0.setTop (mkF m 75 #[s0, .val (.int i1), .val (.int i2), s3, s4, s5, s6, s7, s8, .val (.int (2 : Int32)), .val (.int kk), .val (.int w0), .val (.int w1), .val (.int w2), .val (.int w3), .val (.int w4), .val (.int w5), .val (.ref mm), .unset, .unset, .unset, .unset, .unset, .unset, .unset, .unset] [])) _
  refine XS.aload X0.here hx rfl (hb hby at_75) rfl rfl ?_
  refine XS.iload X0.here hx rfl (hb hby at_77) rfl ?_
  refine XS.i2dS X0.here hx rfl (hb hby at_79) rfl (v := (FP.l2d (w0.toInt64))) (i2d_w w0) ?_
  show Steps p.tables e below (T0.setTop (mkF m 80 #[s0, .val (.int i1), .val (.int i2), s3, s4, s5, s6, s7, s8, .val (.int (2 : Int32)), .val (.int kk), .val (.int w0), .val (.int w1), .val (.int w2), .val (.int w3), .val (.int w4), .val (.int w5), .val (.ref mm), .unset, .unset, .unset, .unset, .unset, .unset, .unset, .unset] [(.double (FP.l2d (w0.toInt64))), (.ref mm)])) _
  refine st1_.trans ?_
  exact k
set_option maxRecDepth 65536 in
set_option maxHeartbeats 40000000 in
theorem pcT3_0 {p : Program} {l : Launch} {e : Env} {R : Room} {s : State} {m : MethodId} {args : Array Value} {below : List Frame} {meth : Method} {c : Code} {T0 : State} {locs : List Loc} {cells slots : Nat} (Z : State) (a0 : Array Value) (hw : ∀ d ∈ tables_1, d.before a0 Z = true) (X0 : Stand p l e R s m args below meth c T0 locs cells slots) (hx : p.tables.exec = Jvm.exec) (hZ : Z.Warmed39 s.vm) (hby : c.code = code) (hml : c.maxLocals = 26) (hown : s.vm.findClass "com/example/whipstill/whipstill/MovingWindowMeanAbovePinLaw" = some m.cls) (s0 : Slot) (i1 : Int32) (i2 : Int32) (s3 : Slot) (s4 : Slot) (s5 : Slot) (s6 : Slot) (s7 : Slot) (s8 : Slot) (kk : Int32) (w0 : Int32) (w1 : Int32) (w2 : Int32) (w3 : Int32) (w4 : Int32) (w5 : Int32) (mm : Addr) (t1 : Addr) (k1 : ClassId) (y0 : Int64) (y1 : Int64) (y2 : Int64) (h0 : Heap) (n0 : Nat) (Z0 : n0 ≤ h0.size) (e0 : T0.heap = h0) (N0 : Fr n0 locs) (hfr : 1 ≤ R.frames) (hlo : 14 ≤ R.locals) (hce : cells + 0 ≤ R.cells) (hsl : slots + 0 ≤ R.slots) (hs : (0 : Int32) < kk) (E1 : Exa Z h0 mm "com/example/whipstill/whipstill/MovingWindow") (F1 : Fld Z h0 mm "com/example/whipstill/whipstill/MovingWindow" "values" "[D" (.ref t1)) (F2 : Fld Z h0 mm "com/example/whipstill/whipstill/MovingWindow" "oldest" "I" (.int (0 : Int32))) (V1 : Arv Z h0 t1 k1 .double (3 : Int32) [(.double (FP.l2d y0)), (.double (FP.l2d y1)), (.double (FP.l2d y2))] (.double (0 : UInt64))) (g1 : n0 ≤ mm) (g2 : n0 ≤ t1) :
    ∃ (T' : State) (h' : Heap) (L' : List Loc), Stand p l e R s m args below meth c T' L' (cells + 0) (slots + 0) ∧ T'.heap = h' ∧ Fr n0 L' ∧ Keep h0 h' [mm, t1] ∧ (Exa Z h' mm "com/example/whipstill/whipstill/MovingWindow") ∧ (Fld Z h' mm "com/example/whipstill/whipstill/MovingWindow" "values" "[D" (.ref t1)) ∧ (Fld Z h' mm "com/example/whipstill/whipstill/MovingWindow" "oldest" "I" (.int (1 : Int32))) ∧ (Arv Z h' t1 k1 .double (3 : Int32) [(.double (FP.l2d (w0.toInt64))), (.double (FP.l2d y1)), (.double (FP.l2d y2))] (.double (0 : UInt64))) ∧ ∀ t, Steps p.tables e below (T'.setTop (mkF m 83 #[s0, .val (.int i1), .val (.int i2), s3, s4, s5, s6, s7, s8, .val (.int (3 : Int32)), .val (.int kk), .val (.int w0), .val (.int w1), .val (.int w2), .val (.int w3), .val (.int w4), .val (.int w5), .val (.ref mm), .unset, .unset, .unset, .unset, .unset, .unset, .unset, .unset] [])) t → Steps p.tables e below (T0.setTop (mkF m 70 #[s0, .val (.int i1), .val (.int i2), s3, s4, s5, s6, s7, s8, .val (.int (3 : Int32)), .val (.int kk), .val (.int w0), .val (.int w1), .val (.int w2), .val (.int w3), .val (.int w4), .val (.int w5), .val (.ref mm), .unset, .unset, .unset, .unset, .unset, .unset, .unset, .unset] [])) t := by
  obtain ⟨cq2_, kq2_, qa2_, qb2_, qc2_⟩ := isOf hZ e0 E1
  obtain ⟨_, _, ⟨T1_, L1_, k1_, n1_⟩, -, X1_, ⟨Lc1_, hQ1_, l1_, y1_, z1_⟩, st1_⟩ := X0.virtualBack hx (y := (⟨"com/example/whipstill/whipstill/MovingWindow", "add", "(D)V"⟩ : MethodName)) (z := (⟨"com/example/whipstill/whipstill/MovingWindow", "add", "(D)V"⟩ : MethodName)) hown (mvT hZ (hw _ (List.mem_of_getElem? (i := 32) rfl))) (mvT hZ (hw _ (List.mem_of_getElem? (i := 33) rfl))) (notFace_of_selects (args := #[]) (mvT hZ (hw _ (List.mem_of_getElem? (i := 35) rfl)))) (mvT hZ (hw _ (List.mem_of_getElem? (i := 35) rfl))) (mvT hZ (hw _ (List.mem_of_getElem? (i := 34) rfl))) (by decide) (backOf (W := 0) (rmAdd3_0 l Z a0 hw [] mm (FP.l2d (w0.toInt64)) t1 k1 (FP.l2d y0) (FP.l2d y1) (FP.l2d y2) h0 n0 Z0 E1 F1 F2 V1 g1 g2) hZ (hw _ (List.mem_of_getElem? (i := 36) rfl)) (hw _ (List.mem_of_getElem? (i := 6) rfl)) (Nat.le_trans (by decide) hfr) (Nat.le_trans (by decide) hlo)) qa2_ qc2_ (g := (mkF m 80 #[s0, .val (.int i1), .val (.int i2), s3, s4, s5, s6, s7, s8, .val (.int (3 : Int32)), .val (.int kk), .val (.int w0), .val (.int w1), .val (.int w2), .val (.int w3), .val (.int w4), .val (.int w5), .val (.ref mm), .unset, .unset, .unset, .unset, .unset, .unset, .unset, .unset] [(.double (FP.l2d (w0.toInt64))), (.ref mm)])) rfl (by rw [hml]; rfl) (Steps.refl _) (argsL := [(.double (FP.l2d (w0.toInt64)))]) (rest := []) (lenOf pd_qDzV rfl) rfl (by show 2 * 0 + _ ≤ _; exact Nat.le_of_eq rfl) (hb hby at_80) (fun _ _ => ⟨rfl, e0, (Nat.le_trans (Nat.add_le_add_left (by decide : 0 ≤ 0) cells) hce), (Nat.le_trans (Nat.add_le_add_left (by decide : 0 ≤ 0) slots) hsl)⟩)
  dsimp only [Pt.U, Pt.locs, Pt.cells, Pt.slots] at X1_ l1_ y1_ z1_ st1_ hQ1_
  subst L1_ k1_ n1_
  obtain ⟨rfl, Nq1_, ek1_, p1__0, p1__1, p1__2, p1__3⟩ := hQ1_
  have N1_ := Fr.app N0 Nq1_
  have k3_ : Keep h0 T1_.heap [mm, t1] := (Keep.refl h0 [mm, t1]).trans ek1_ (allS (Or.inl (List.mem_of_getElem? (i := 0) rfl)) (allS (Or.inl (List.mem_of_getElem? (i := 1) rfl)) all0))
  refine ⟨T1_, _, _, X1_, rfl, N1_, k3_, p1__0, p1__1, p1__2, p1__3, fun t k => ?_⟩
  show Steps p.tables e below (T0.setTop (mkF m 70 #[s0, .val (.int i1), .val (.int i2), s3, s4, s5, s6, s7, s8, .val (.int (3 : Int32)), .val (.int kk), .val (.int w0), .val (.int w1), .val (.int w2), .val (.int w3), .val (.int w4), .val (.int w5), .val (.ref mm), .unset, .unset, .unset, .unset, .unset, .unset, .unset, .unset] [])) _
  refine XS.iload X0.here hx rfl (hb hby at_70) rfl ?_
  refine XS.ifNo X0.here hx rfl (hb hby at_72) rfl ((if0 _ _).trans (tlt (hs : (0 : Int32) < kk)).2.2.2) ?_
  show Steps p.tables e below (T0.setTop (mkF m 75 #[s0, .val (.int i1), .val (.int i2), s3, s4, s5, s6, s7, s8, .val (.int (3 : Int32)), .val (.int kk), .val (.int w0), .val (.int w1), .val (.int w2), .val (.int w3), .val (.int w4), .val (.int w5), .val (.ref mm), .unset, .unset, .unset, .unset, .unset, .unset, .unset, .unset] [])) _
  refine XS.aload X0.here hx rfl (hb hby at_75) rfl rfl ?_
  refine XS.iload X0.here hx rfl (hb hby at_77) rfl ?_
  refine XS.i2dS X0.here hx rfl (hb hby at_79) rfl (v := (FP.l2d (w0.toInt64))) (i2d_w w0) ?_
  show Steps p.tables e below (T0.setTop (mkF m 80 #[s0, .val (.int i1), .val (.int i2), s3, s4, s5, s6, s7, s8, .val (.int (3 : Int32)), .val (.int kk), .val (.int w0), .val (.int w1), .val (.int w2), .val (.int w3), .val (.int w4), .val (.int w5), .val (.ref mm), .unset, .unset, .unset, .unset, .unset, .unset, .unset, .unset] [(.double (FP.l2d (w0.toInt64))), (.ref mm)])) _
  refine st1_.trans ?_
  exact k
set_option maxRecDepth 65536 in
set_option maxHeartbeats 40000000 in
theorem pcT4_0 {p : Program} {l : Launch} {e : Env} {R : Room} {s : State} {m : MethodId} {args : Array Value} {below : List Frame} {meth : Method} {c : Code} {T0 : State} {locs : List Loc} {cells slots : Nat} (Z : State) (a0 : Array Value) (hw : ∀ d ∈ tables_1, d.before a0 Z = true) (X0 : Stand p l e R s m args below meth c T0 locs cells slots) (hx : p.tables.exec = Jvm.exec) (hZ : Z.Warmed39 s.vm) (hby : c.code = code) (hml : c.maxLocals = 26) (hown : s.vm.findClass "com/example/whipstill/whipstill/MovingWindowMeanAbovePinLaw" = some m.cls) (s0 : Slot) (i1 : Int32) (i2 : Int32) (s3 : Slot) (s4 : Slot) (s5 : Slot) (s6 : Slot) (s7 : Slot) (s8 : Slot) (kk : Int32) (w0 : Int32) (w1 : Int32) (w2 : Int32) (w3 : Int32) (w4 : Int32) (w5 : Int32) (mm : Addr) (t1 : Addr) (k1 : ClassId) (y0 : Int64) (y1 : Int64) (y2 : Int64) (y3 : Int64) (h0 : Heap) (n0 : Nat) (Z0 : n0 ≤ h0.size) (e0 : T0.heap = h0) (N0 : Fr n0 locs) (hfr : 1 ≤ R.frames) (hlo : 14 ≤ R.locals) (hce : cells + 0 ≤ R.cells) (hsl : slots + 0 ≤ R.slots) (hs : (0 : Int32) < kk) (E1 : Exa Z h0 mm "com/example/whipstill/whipstill/MovingWindow") (F1 : Fld Z h0 mm "com/example/whipstill/whipstill/MovingWindow" "values" "[D" (.ref t1)) (F2 : Fld Z h0 mm "com/example/whipstill/whipstill/MovingWindow" "oldest" "I" (.int (0 : Int32))) (V1 : Arv Z h0 t1 k1 .double (4 : Int32) [(.double (FP.l2d y0)), (.double (FP.l2d y1)), (.double (FP.l2d y2)), (.double (FP.l2d y3))] (.double (0 : UInt64))) (g1 : n0 ≤ mm) (g2 : n0 ≤ t1) :
    ∃ (T' : State) (h' : Heap) (L' : List Loc), Stand p l e R s m args below meth c T' L' (cells + 0) (slots + 0) ∧ T'.heap = h' ∧ Fr n0 L' ∧ Keep h0 h' [mm, t1] ∧ (Exa Z h' mm "com/example/whipstill/whipstill/MovingWindow") ∧ (Fld Z h' mm "com/example/whipstill/whipstill/MovingWindow" "values" "[D" (.ref t1)) ∧ (Fld Z h' mm "com/example/whipstill/whipstill/MovingWindow" "oldest" "I" (.int (1 : Int32))) ∧ (Arv Z h' t1 k1 .double (4 : Int32) [(.double (FP.l2d (w0.toInt64))), (.double (FP.l2d y1)), (.double (FP.l2d y2)), (.double (FP.l2d y3))] (.double (0 : UInt64))) ∧ ∀ t, Steps p.tables e below (T'.setTop (mkF m 83 #[s0, .val (.int i1), .val (.int i2), s3, s4, s5, s6, s7, s8, .val (.int (4 : Int32)), .val (.int kk), .val (.int w0), .val (.int w1), .val (.int w2), .val (.int w3), .val (.int w4), .val (.int w5), .val (.ref mm), .unset, .unset, .unset, .unset, .unset, .unset, .unset, .unset] [])) t → Steps p.tables e below (T0.setTop (mkF m 70 #[s0, .val (.int i1), .val (.int i2), s3, s4, s5, s6, s7, s8, .val (.int (4 : Int32)), .val (.int kk), .val (.int w0), .val (.int w1), .val (.int w2), .val (.int w3), .val (.int w4), .val (.int w5), .val (.ref mm), .unset, .unset, .unset, .unset, .unset, .unset, .unset, .unset] [])) t := by
  obtain ⟨cq2_, kq2_, qa2_, qb2_, qc2_⟩ := isOf hZ e0 E1
  obtain ⟨_, _, ⟨T1_, L1_, k1_, n1_⟩, -, X1_, ⟨Lc1_, hQ1_, l1_, y1_, z1_⟩, st1_⟩ := X0.virtualBack hx (y := (⟨"com/example/whipstill/whipstill/MovingWindow", "add", "(D)V"⟩ : MethodName)) (z := (⟨"com/example/whipstill/whipstill/MovingWindow", "add", "(D)V"⟩ : MethodName)) hown (mvT hZ (hw _ (List.mem_of_getElem? (i := 32) rfl))) (mvT hZ (hw _ (List.mem_of_getElem? (i := 33) rfl))) (notFace_of_selects (args := #[]) (mvT hZ (hw _ (List.mem_of_getElem? (i := 35) rfl)))) (mvT hZ (hw _ (List.mem_of_getElem? (i := 35) rfl))) (mvT hZ (hw _ (List.mem_of_getElem? (i := 34) rfl))) (by decide) (backOf (W := 0) (rmAdd4_0 l Z a0 hw [] mm (FP.l2d (w0.toInt64)) t1 k1 (FP.l2d y0) (FP.l2d y1) (FP.l2d y2) (FP.l2d y3) h0 n0 Z0 E1 F1 F2 V1 g1 g2) hZ (hw _ (List.mem_of_getElem? (i := 36) rfl)) (hw _ (List.mem_of_getElem? (i := 6) rfl)) (Nat.le_trans (by decide) hfr) (Nat.le_trans (by decide) hlo)) qa2_ qc2_ (g := (mkF m 80 #[s0, .val (.int i1), .val (.int i2), s3, s4, s5, s6, s7, s8, .val (.int (4 : Int32)), .val (.int kk), .val (.int w0), .val (.int w1), .val (.int w2), .val (.int w3), .val (.int w4), .val (.int w5), .val (.ref mm), .unset, .unset, .unset, .unset, .unset, .unset, .unset, .unset] [(.double (FP.l2d (w0.toInt64))), (.ref mm)])) rfl (by rw [hml]; rfl) (Steps.refl _) (argsL := [(.double (FP.l2d (w0.toInt64)))]) (rest := []) (lenOf pd_qDzV rfl) rfl (by show 2 * 0 + _ ≤ _; exact Nat.le_of_eq rfl) (hb hby at_80) (fun _ _ => ⟨rfl, e0, (Nat.le_trans (Nat.add_le_add_left (by decide : 0 ≤ 0) cells) hce), (Nat.le_trans (Nat.add_le_add_left (by decide : 0 ≤ 0) slots) hsl)⟩)
  dsimp only [Pt.U, Pt.locs, Pt.cells, Pt.slots] at X1_ l1_ y1_ z1_ st1_ hQ1_
  subst L1_ k1_ n1_
  obtain ⟨rfl, Nq1_, ek1_, p1__0, p1__1, p1__2, p1__3⟩ := hQ1_
  have N1_ := Fr.app N0 Nq1_
  have k3_ : Keep h0 T1_.heap [mm, t1] := (Keep.refl h0 [mm, t1]).trans ek1_ (allS (Or.inl (List.mem_of_getElem? (i := 0) rfl)) (allS (Or.inl (List.mem_of_getElem? (i := 1) rfl)) all0))
  refine ⟨T1_, _, _, X1_, rfl, N1_, k3_, p1__0, p1__1, p1__2, p1__3, fun t k => ?_⟩
  show Steps p.tables e below (T0.setTop (mkF m 70 #[s0, .val (.int i1), .val (.int i2), s3, s4, s5, s6, s7, s8, .val (.int (4 : Int32)), .val (.int kk), .val (.int w0), .val (.int w1), .val (.int w2), .val (.int w3), .val (.int w4), .val (.int w5), .val (.ref mm), .unset, .unset, .unset, .unset, .unset, .unset, .unset, .unset] [])) _
  refine XS.iload X0.here hx rfl (hb hby at_70) rfl ?_
  refine XS.ifNo X0.here hx rfl (hb hby at_72) rfl ((if0 _ _).trans (tlt (hs : (0 : Int32) < kk)).2.2.2) ?_
  show Steps p.tables e below (T0.setTop (mkF m 75 #[s0, .val (.int i1), .val (.int i2), s3, s4, s5, s6, s7, s8, .val (.int (4 : Int32)), .val (.int kk), .val (.int w0), .val (.int w1), .val (.int w2), .val (.int w3), .val (.int w4), .val (.int w5), .val (.ref mm), .unset, .unset, .unset, .unset, .unset, .unset, .unset, .unset] [])) _
  refine XS.aload X0.here hx rfl (hb hby at_75) rfl rfl ?_
  refine XS.iload X0.here hx rfl (hb hby at_77) rfl ?_
  refine XS.i2dS X0.here hx rfl (hb hby at_79) rfl (v := (FP.l2d (w0.toInt64))) (i2d_w w0) ?_
  show Steps p.tables e below (T0.setTop (mkF m 80 #[s0, .val (.int i1), .val (.int i2), s3, s4, s5, s6, s7, s8, .val (.int (4 : Int32)), .val (.int kk), .val (.int w0), .val (.int w1), .val (.int w2), .val (.int w3), .val (.int w4), .val (.int w5), .val (.ref mm), .unset, .unset, .unset, .unset, .unset, .unset, .unset, .unset] [(.double (FP.l2d (w0.toInt64))), (.ref mm)])) _
  refine st1_.trans ?_
  exact k
set_option maxRecDepth 65536 in
set_option maxHeartbeats 40000000 in
theorem pcS1 {p : Program} {l : Launch} {e : Env} {R : Room} {s : State} {m : MethodId} {args : Array Value} {below : List Frame} {meth : Method} {c : Code} {T0 : State} {locs : List Loc} {cells slots : Nat} (Z : State) (a0 : Array Value) (hw : ∀ d ∈ tables_1, d.before a0 Z = true) (X0 : Stand p l e R s m args below meth c T0 locs cells slots) (hx : p.tables.exec = Jvm.exec) (hZ : Z.Warmed39 s.vm) (hby : c.code = code) (hml : c.maxLocals = 26) (hown : s.vm.findClass "com/example/whipstill/whipstill/MovingWindowMeanAbovePinLaw" = some m.cls) (s0 : Slot) (i1 : Int32) (i2 : Int32) (s3 : Slot) (s4 : Slot) (s5 : Slot) (s6 : Slot) (s7 : Slot) (s8 : Slot) (nn : Int32) (kk : Int32) (w0 : Int32) (w1 : Int32) (w2 : Int32) (w3 : Int32) (w4 : Int32) (w5 : Int32) (mm : Addr) (h0 : Heap) (n0 : Nat) (Z0 : n0 ≤ h0.size) (e0 : T0.heap = h0) (N0 : Fr n0 locs) (hfr : 0 ≤ R.frames) (hlo : 0 ≤ R.locals) (hce : cells + 0 ≤ R.cells) (hsl : slots + 0 ≤ R.slots) (hs : ¬ ((1 : Int32) < kk)) :
    ∃ (T' : State) (h' : Heap) (L' : List Loc), Stand p l e R s m args below meth c T' L' (cells + 0) (slots + 0) ∧ T'.heap = h' ∧ Fr n0 L' ∧ h' = h0 ∧ ∀ t, Steps p.tables e below (T'.setTop (mkF m 97 #[s0, .val (.int i1), .val (.int i2), s3, s4, s5, s6, s7, s8, .val (.int nn), .val (.int kk), .val (.int w0), .val (.int w1), .val (.int w2), .val (.int w3), .val (.int w4), .val (.int w5), .val (.ref mm), .unset, .unset, .unset, .unset, .unset, .unset, .unset, .unset] [])) t → Steps p.tables e below (T0.setTop (mkF m 83 #[s0, .val (.int i1), .val (.int i2), s3, s4, s5, s6, s7, s8, .val (.int nn), .val (.int kk), .val (.int w0), .val (.int w1), .val (.int w2), .val (.int w3), .val (.int w4), .val (.int w5), .val (.ref mm), .unset, .unset, .unset, .unset, .unset, .unset, .unset, .unset] [])) t := by
  refine ⟨T0, _, _, X0, e0, N0, rfl, fun t k => ?_⟩
  show Steps p.tables e below (T0.setTop (mkF m 83 #[s0, .val (.int i1), .val (.int i2), s3, s4, s5, s6, s7, s8, .val (.int nn), .val (.int kk), .val (.int w0), .val (.int w1), .val (.int w2), .val (.int w3), .val (.int w4), .val (.int w5), .val (.ref mm), .unset, .unset, .unset, .unset, .unset, .unset, .unset, .unset] [])) _
  refine XS.iload X0.here hx rfl (hb hby at_83) rfl ?_
  refine XS.iconst X0.here hx rfl (hb hby at_85) ?_
  refine XS.icmpYes X0.here hx rfl (pc0 := 86) (pc' := 97) rfl (hb hby at_86) rfl (flt (hs : ¬ ((1 : Int32) < kk))).2.2.2 (by decide) (by decide) ?_
  exact k
set_option maxRecDepth 65536 in
set_option maxHeartbeats 40000000 in
theorem pcT1_1 {p : Program} {l : Launch} {e : Env} {R : Room} {s : State} {m : MethodId} {args : Array Value} {below : List Frame} {meth : Method} {c : Code} {T0 : State} {locs : List Loc} {cells slots : Nat} (Z : State) (a0 : Array Value) (hw : ∀ d ∈ tables_1, d.before a0 Z = true) (X0 : Stand p l e R s m args below meth c T0 locs cells slots) (hx : p.tables.exec = Jvm.exec) (hZ : Z.Warmed39 s.vm) (hby : c.code = code) (hml : c.maxLocals = 26) (hown : s.vm.findClass "com/example/whipstill/whipstill/MovingWindowMeanAbovePinLaw" = some m.cls) (s0 : Slot) (i1 : Int32) (i2 : Int32) (s3 : Slot) (s4 : Slot) (s5 : Slot) (s6 : Slot) (s7 : Slot) (s8 : Slot) (kk : Int32) (w0 : Int32) (w1 : Int32) (w2 : Int32) (w3 : Int32) (w4 : Int32) (w5 : Int32) (mm : Addr) (t1 : Addr) (k1 : ClassId) (y0 : Int64) (h0 : Heap) (n0 : Nat) (Z0 : n0 ≤ h0.size) (e0 : T0.heap = h0) (N0 : Fr n0 locs) (hfr : 1 ≤ R.frames) (hlo : 14 ≤ R.locals) (hce : cells + 0 ≤ R.cells) (hsl : slots + 0 ≤ R.slots) (hs : (1 : Int32) < kk) (E1 : Exa Z h0 mm "com/example/whipstill/whipstill/MovingWindow") (F1 : Fld Z h0 mm "com/example/whipstill/whipstill/MovingWindow" "values" "[D" (.ref t1)) (F2 : Fld Z h0 mm "com/example/whipstill/whipstill/MovingWindow" "oldest" "I" (.int (0 : Int32))) (V1 : Arv Z h0 t1 k1 .double (1 : Int32) [(.double (FP.l2d y0))] (.double (0 : UInt64))) (g1 : n0 ≤ mm) (g2 : n0 ≤ t1) :
    ∃ (T' : State) (h' : Heap) (L' : List Loc), Stand p l e R s m args below meth c T' L' (cells + 0) (slots + 0) ∧ T'.heap = h' ∧ Fr n0 L' ∧ Keep h0 h' [mm, t1] ∧ (Exa Z h' mm "com/example/whipstill/whipstill/MovingWindow") ∧ (Fld Z h' mm "com/example/whipstill/whipstill/MovingWindow" "values" "[D" (.ref t1)) ∧ (Fld Z h' mm "com/example/whipstill/whipstill/MovingWindow" "oldest" "I" (.int (0 : Int32))) ∧ (Arv Z h' t1 k1 .double (1 : Int32) [(.double (FP.l2d (w1.toInt64)))] (.double (0 : UInt64))) ∧ ∀ t, Steps p.tables e below (T'.setTop (mkF m 97 #[s0, .val (.int i1), .val (.int i2), s3, s4, s5, s6, s7, s8, .val (.int (1 : Int32)), .val (.int kk), .val (.int w0), .val (.int w1), .val (.int w2), .val (.int w3), .val (.int w4), .val (.int w5), .val (.ref mm), .unset, .unset, .unset, .unset, .unset, .unset, .unset, .unset] [])) t → Steps p.tables e below (T0.setTop (mkF m 83 #[s0, .val (.int i1), .val (.int i2), s3, s4, s5, s6, s7, s8, .val (.int (1 : Int32)), .val (.int kk), .val (.int w0), .val (.int w1), .val (.int w2), .val (.int w3), .val (.int w4), .val (.int w5), .val (.ref mm), .unset, .unset, .unset, .unset, .unset, .unset, .unset, .unset] [])) t := by
  obtain ⟨cq2_, kq2_, qa2_, qb2_, qc2_⟩ := isOf hZ e0 E1
  obtain ⟨_, _, ⟨T1_, L1_, k1_, n1_⟩, -, X1_, ⟨Lc1_, hQ1_, l1_, y1_, z1_⟩, st1_⟩ := X0.virtualBack hx (y := (⟨"com/example/whipstill/whipstill/MovingWindow", "add", "(D)V"⟩ : MethodName)) (z := (⟨"com/example/whipstill/whipstill/MovingWindow", "add", "(D)V"⟩ : MethodName)) hown (mvT hZ (hw _ (List.mem_of_getElem? (i := 32) rfl))) (mvT hZ (hw _ (List.mem_of_getElem? (i := 33) rfl))) (notFace_of_selects (args := #[]) (mvT hZ (hw _ (List.mem_of_getElem? (i := 35) rfl)))) (mvT hZ (hw _ (List.mem_of_getElem? (i := 35) rfl))) (mvT hZ (hw _ (List.mem_of_getElem? (i := 34) rfl))) (by decide) (backOf (W := 0) (rmAdd1_0 l Z a0 hw [] mm (FP.l2d (w1.toInt64)) t1 k1 (FP.l2d y0) h0 n0 Z0 E1 F1 F2 V1 g1 g2) hZ (hw _ (List.mem_of_getElem? (i := 36) rfl)) (hw _ (List.mem_of_getElem? (i := 6) rfl)) (Nat.le_trans (by decide) hfr) (Nat.le_trans (by decide) hlo)) qa2_ qc2_ (g := (mkF m 94 #[s0, .val (.int i1), .val (.int i2), s3, s4, s5, s6, s7, s8, .val (.int (1 : Int32)), .val (.int kk), .val (.int w0), .val (.int w1), .val (.int w2), .val (.int w3), .val (.int w4), .val (.int w5), .val (.ref mm), .unset, .unset, .unset, .unset, .unset, .unset, .unset, .unset] [(.double (FP.l2d (w1.toInt64))), (.ref mm)])) rfl (by rw [hml]; rfl) (Steps.refl _) (argsL := [(.double (FP.l2d (w1.toInt64)))]) (rest := []) (lenOf pd_qDzV rfl) rfl (by show 2 * 0 + _ ≤ _; exact Nat.le_of_eq rfl) (hb hby at_94) (fun _ _ => ⟨rfl, e0, (Nat.le_trans (Nat.add_le_add_left (by decide : 0 ≤ 0) cells) hce), (Nat.le_trans (Nat.add_le_add_left (by decide : 0 ≤ 0) slots) hsl)⟩)
  dsimp only [Pt.U, Pt.locs, Pt.cells, Pt.slots] at X1_ l1_ y1_ z1_ st1_ hQ1_
  subst L1_ k1_ n1_
  obtain ⟨rfl, Nq1_, ek1_, p1__0, p1__1, p1__2, p1__3⟩ := hQ1_
  have N1_ := Fr.app N0 Nq1_
  have k3_ : Keep h0 T1_.heap [mm, t1] := (Keep.refl h0 [mm, t1]).trans ek1_ (allS (Or.inl (List.mem_of_getElem? (i := 0) rfl)) (allS (Or.inl (List.mem_of_getElem? (i := 1) rfl)) all0))
  refine ⟨T1_, _, _, X1_, rfl, N1_, k3_, p1__0, p1__1, p1__2, p1__3, fun t k => ?_⟩
  show Steps p.tables e below (T0.setTop (mkF m 83 #[s0, .val (.int i1), .val (.int i2), s3, s4, s5, s6, s7, s8, .val (.int (1 : Int32)), .val (.int kk), .val (.int w0), .val (.int w1), .val (.int w2), .val (.int w3), .val (.int w4), .val (.int w5), .val (.ref mm), .unset, .unset, .unset, .unset, .unset, .unset, .unset, .unset] [])) _
  refine XS.iload X0.here hx rfl (hb hby at_83) rfl ?_
  refine XS.iconst X0.here hx rfl (hb hby at_85) ?_
  refine XS.icmpNo X0.here hx rfl (hb hby at_86) rfl (tlt (hs : (1 : Int32) < kk)).2.2.2 ?_
  show Steps p.tables e below (T0.setTop (mkF m 89 #[s0, .val (.int i1), .val (.int i2), s3, s4, s5, s6, s7, s8, .val (.int (1 : Int32)), .val (.int kk), .val (.int w0), .val (.int w1), .val (.int w2), .val (.int w3), .val (.int w4), .val (.int w5), .val (.ref mm), .unset, .unset, .unset, .unset, .unset, .unset, .unset, .unset] [])) _
  refine XS.aload X0.here hx rfl (hb hby at_89) rfl rfl ?_
  refine XS.iload X0.here hx rfl (hb hby at_91) rfl ?_
  refine XS.i2dS X0.here hx rfl (hb hby at_93) rfl (v := (FP.l2d (w1.toInt64))) (i2d_w w1) ?_
  show Steps p.tables e below (T0.setTop (mkF m 94 #[s0, .val (.int i1), .val (.int i2), s3, s4, s5, s6, s7, s8, .val (.int (1 : Int32)), .val (.int kk), .val (.int w0), .val (.int w1), .val (.int w2), .val (.int w3), .val (.int w4), .val (.int w5), .val (.ref mm), .unset, .unset, .unset, .unset, .unset, .unset, .unset, .unset] [(.double (FP.l2d (w1.toInt64))), (.ref mm)])) _
  refine st1_.trans ?_
  exact k
set_option maxRecDepth 65536 in
set_option maxHeartbeats 40000000 in
theorem pcT2_1 {p : Program} {l : Launch} {e : Env} {R : Room} {s : State} {m : MethodId} {args : Array Value} {below : List Frame} {meth : Method} {c : Code} {T0 : State} {locs : List Loc} {cells slots : Nat} (Z : State) (a0 : Array Value) (hw : ∀ d ∈ tables_1, d.before a0 Z = true) (X0 : Stand p l e R s m args below meth c T0 locs cells slots) (hx : p.tables.exec = Jvm.exec) (hZ : Z.Warmed39 s.vm) (hby : c.code = code) (hml : c.maxLocals = 26) (hown : s.vm.findClass "com/example/whipstill/whipstill/MovingWindowMeanAbovePinLaw" = some m.cls) (s0 : Slot) (i1 : Int32) (i2 : Int32) (s3 : Slot) (s4 : Slot) (s5 : Slot) (s6 : Slot) (s7 : Slot) (s8 : Slot) (kk : Int32) (w0 : Int32) (w1 : Int32) (w2 : Int32) (w3 : Int32) (w4 : Int32) (w5 : Int32) (mm : Addr) (t1 : Addr) (k1 : ClassId) (y0 : Int64) (y1 : Int64) (h0 : Heap) (n0 : Nat) (Z0 : n0 ≤ h0.size) (e0 : T0.heap = h0) (N0 : Fr n0 locs) (hfr : 1 ≤ R.frames) (hlo : 14 ≤ R.locals) (hce : cells + 0 ≤ R.cells) (hsl : slots + 0 ≤ R.slots) (hs : (1 : Int32) < kk) (E1 : Exa Z h0 mm "com/example/whipstill/whipstill/MovingWindow") (F1 : Fld Z h0 mm "com/example/whipstill/whipstill/MovingWindow" "values" "[D" (.ref t1)) (F2 : Fld Z h0 mm "com/example/whipstill/whipstill/MovingWindow" "oldest" "I" (.int (1 : Int32))) (V1 : Arv Z h0 t1 k1 .double (2 : Int32) [(.double (FP.l2d y0)), (.double (FP.l2d y1))] (.double (0 : UInt64))) (g1 : n0 ≤ mm) (g2 : n0 ≤ t1) :
    ∃ (T' : State) (h' : Heap) (L' : List Loc), Stand p l e R s m args below meth c T' L' (cells + 0) (slots + 0) ∧ T'.heap = h' ∧ Fr n0 L' ∧ Keep h0 h' [mm, t1] ∧ (Exa Z h' mm "com/example/whipstill/whipstill/MovingWindow") ∧ (Fld Z h' mm "com/example/whipstill/whipstill/MovingWindow" "values" "[D" (.ref t1)) ∧ (Fld Z h' mm "com/example/whipstill/whipstill/MovingWindow" "oldest" "I" (.int (0 : Int32))) ∧ (Arv Z h' t1 k1 .double (2 : Int32) [(.double (FP.l2d y0)), (.double (FP.l2d (w1.toInt64)))] (.double (0 : UInt64))) ∧ ∀ t, Steps p.tables e below (T'.setTop (mkF m 97 #[s0, .val (.int i1), .val (.int i2), s3, s4, s5, s6, s7, s8, .val (.int (2 : Int32)), .val (.int kk), .val (.int w0), .val (.int w1), .val (.int w2), .val (.int w3), .val (.int w4), .val (.int w5), .val (.ref mm), .unset, .unset, .unset, .unset, .unset, .unset, .unset, .unset] [])) t → Steps p.tables e below (T0.setTop (mkF m 83 #[s0, .val (.int i1), .val (.int i2), s3, s4, s5, s6, s7, s8, .val (.int (2 : Int32)), .val (.int kk), .val (.int w0), .val (.int w1), .val (.int w2), .val (.int w3), .val (.int w4), .val (.int w5), .val (.ref mm), .unset, .unset, .unset, .unset, .unset, .unset, .unset, .unset] [])) t := by
  obtain ⟨cq2_, kq2_, qa2_, qb2_, qc2_⟩ := isOf hZ e0 E1
  obtain ⟨_, _, ⟨T1_, L1_, k1_, n1_⟩, -, X1_, ⟨Lc1_, hQ1_, l1_, y1_, z1_⟩, st1_⟩ := X0.virtualBack hx (y := (⟨"com/example/whipstill/whipstill/MovingWindow", "add", "(D)V"⟩ : MethodName)) (z := (⟨"com/example/whipstill/whipstill/MovingWindow", "add", "(D)V"⟩ : MethodName)) hown (mvT hZ (hw _ (List.mem_of_getElem? (i := 32) rfl))) (mvT hZ (hw _ (List.mem_of_getElem? (i := 33) rfl))) (notFace_of_selects (args := #[]) (mvT hZ (hw _ (List.mem_of_getElem? (i := 35) rfl)))) (mvT hZ (hw _ (List.mem_of_getElem? (i := 35) rfl))) (mvT hZ (hw _ (List.mem_of_getElem? (i := 34) rfl))) (by decide) (backOf (W := 0) (rmAdd2_1 l Z a0 hw [] mm (FP.l2d (w1.toInt64)) t1 k1 (FP.l2d y0) (FP.l2d y1) h0 n0 Z0 E1 F1 F2 V1 g1 g2) hZ (hw _ (List.mem_of_getElem? (i := 36) rfl)) (hw _ (List.mem_of_getElem? (i := 6) rfl)) (Nat.le_trans (by decide) hfr) (Nat.le_trans (by decide) hlo)) qa2_ qc2_ (g := (mkF m 94 #[s0, .val (.int i1), .val (.int i2), s3, s4, s5, s6, s7, s8, .val (.int (2 : Int32)), .val (.int kk), .val (.int w0), .val (.int w1), .val (.int w2), .val (.int w3), .val (.int w4), .val (.int w5), .val (.ref mm), .unset, .unset, .unset, .unset, .unset, .unset, .unset, .unset] [(.double (FP.l2d (w1.toInt64))), (.ref mm)])) rfl (by rw [hml]; rfl) (Steps.refl _) (argsL := [(.double (FP.l2d (w1.toInt64)))]) (rest := []) (lenOf pd_qDzV rfl) rfl (by show 2 * 0 + _ ≤ _; exact Nat.le_of_eq rfl) (hb hby at_94) (fun _ _ => ⟨rfl, e0, (Nat.le_trans (Nat.add_le_add_left (by decide : 0 ≤ 0) cells) hce), (Nat.le_trans (Nat.add_le_add_left (by decide : 0 ≤ 0) slots) hsl)⟩)
  dsimp only [Pt.U, Pt.locs, Pt.cells, Pt.slots] at X1_ l1_ y1_ z1_ st1_ hQ1_
  subst L1_ k1_ n1_
  obtain ⟨rfl, Nq1_, ek1_, p1__0, p1__1, p1__2, p1__3⟩ := hQ1_
  have N1_ := Fr.app N0 Nq1_
  have k3_ : Keep h0 T1_.heap [mm, t1] := (Keep.refl h0 [mm, t1]).trans ek1_ (allS (Or.inl (List.mem_of_getElem? (i := 0) rfl)) (allS (Or.inl (List.mem_of_getElem? (i := 1) rfl)) all0))
  refine ⟨T1_, _, _, X1_, rfl, N1_, k3_, p1__0, p1__1, p1__2, p1__3, fun t k => ?_⟩
  show Steps p.tables e below (T0.setTop (mkF m 83 #[s0, .val (.int i1), .val (.int i2), s3, s4, s5, s6, s7, s8, .val (.int (2 : Int32)), .val (.int kk), .val (.int w0), .val (.int w1), .val (.int w2), .val (.int w3), .val (.int w4), .val (.int w5), .val (.ref mm), .unset, .unset, .unset, .unset, .unset, .unset, .unset, .unset] [])) _
  refine XS.iload X0.here hx rfl (hb hby at_83) rfl ?_
  refine XS.iconst X0.here hx rfl (hb hby at_85) ?_
  refine XS.icmpNo X0.here hx rfl (hb hby at_86) rfl (tlt (hs : (1 : Int32) < kk)).2.2.2 ?_
  show Steps p.tables e below (T0.setTop (mkF m 89 #[s0, .val (.int i1), .val (.int i2), s3, s4, s5, s6, s7, s8, .val (.int (2 : Int32)), .val (.int kk), .val (.int w0), .val (.int w1), .val (.int w2), .val (.int w3), .val (.int w4), .val (.int w5), .val (.ref mm), .unset, .unset, .unset, .unset, .unset, .unset, .unset, .unset] [])) _
  refine XS.aload X0.here hx rfl (hb hby at_89) rfl rfl ?_
  refine XS.iload X0.here hx rfl (hb hby at_91) rfl ?_
  refine XS.i2dS X0.here hx rfl (hb hby at_93) rfl (v := (FP.l2d (w1.toInt64))) (i2d_w w1) ?_
  show Steps p.tables e below (T0.setTop (mkF m 94 #[s0, .val (.int i1), .val (.int i2), s3, s4, s5, s6, s7, s8, .val (.int (2 : Int32)), .val (.int kk), .val (.int w0), .val (.int w1), .val (.int w2), .val (.int w3), .val (.int w4), .val (.int w5), .val (.ref mm), .unset, .unset, .unset, .unset, .unset, .unset, .unset, .unset] [(.double (FP.l2d (w1.toInt64))), (.ref mm)])) _
  refine st1_.trans ?_
  exact k
set_option maxRecDepth 65536 in
set_option maxHeartbeats 40000000 in
theorem pcT3_1 {p : Program} {l : Launch} {e : Env} {R : Room} {s : State} {m : MethodId} {args : Array Value} {below : List Frame} {meth : Method} {c : Code} {T0 : State} {locs : List Loc} {cells slots : Nat} (Z : State) (a0 : Array Value) (hw : ∀ d ∈ tables_1, d.before a0 Z = true) (X0 : Stand p l e R s m args below meth c T0 locs cells slots) (hx : p.tables.exec = Jvm.exec) (hZ : Z.Warmed39 s.vm) (hby : c.code = code) (hml : c.maxLocals = 26) (hown : s.vm.findClass "com/example/whipstill/whipstill/MovingWindowMeanAbovePinLaw" = some m.cls) (s0 : Slot) (i1 : Int32) (i2 : Int32) (s3 : Slot) (s4 : Slot) (s5 : Slot) (s6 : Slot) (s7 : Slot) (s8 : Slot) (kk : Int32) (w0 : Int32) (w1 : Int32) (w2 : Int32) (w3 : Int32) (w4 : Int32) (w5 : Int32) (mm : Addr) (t1 : Addr) (k1 : ClassId) (y0 : Int64) (y1 : Int64) (y2 : Int64) (h0 : Heap) (n0 : Nat) (Z0 : n0 ≤ h0.size) (e0 : T0.heap = h0) (N0 : Fr n0 locs) (hfr : 1 ≤ R.frames) (hlo : 14 ≤ R.locals) (hce : cells + 0 ≤ R.cells) (hsl : slots + 0 ≤ R.slots) (hs : (1 : Int32) < kk) (E1 : Exa Z h0 mm "com/example/whipstill/whipstill/MovingWindow") (F1 : Fld Z h0 mm "com/example/whipstill/whipstill/MovingWindow" "values" "[D" (.ref t1)) (F2 : Fld Z h0 mm "com/example/whipstill/whipstill/MovingWindow" "oldest" "I" (.int (1 : Int32))) (V1 : Arv Z h0 t1 k1 .double (3 : Int32) [(.double (FP.l2d y0)), (.double (FP.l2d y1)), (.double (FP.l2d y2))] (.double (0 : UInt64))) (g1 : n0 ≤ mm) (g2 : n0 ≤ t1) :
    ∃ (T' : State) (h' : Heap) (L' : List Loc), Stand p l e R s m args below meth c T' L' (cells + 0) (slots + 0) ∧ T'.heap = h' ∧ Fr n0 L' ∧ Keep h0 h' [mm, t1] ∧ (Exa Z h' mm "com/example/whipstill/whipstill/MovingWindow") ∧ (Fld Z h' mm "com/example/whipstill/whipstill/MovingWindow" "values" "[D" (.ref t1)) ∧ (Fld Z h' mm "com/example/whipstill/whipstill/MovingWindow" "oldest" "I" (.int (2 : Int32))) ∧ (Arv Z h' t1 k1 .double (3 : Int32) [(.double (FP.l2d y0)), (.double (FP.l2d (w1.toInt64))), (.double (FP.l2d y2))] (.double (0 : UInt64))) ∧ ∀ t, Steps p.tables e below (T'.setTop (mkF m 97 #[s0, .val (.int i1), .val (.int i2), s3, s4, s5, s6, s7, s8, .val (.int (3 : Int32)), .val (.int kk), .val (.int w0), .val (.int w1), .val (.int w2), .val (.int w3), .val (.int w4), .val (.int w5), .val (.ref mm), .unset, .unset, .unset, .unset, .unset, .unset, .unset, .unset] [])) t → Steps p.tables e below (T0.setTop (mkF m 83 #[s0, .val (.int i1), .val (.int i2), s3, s4, s5, s6, s7, s8, .val (.int (3 : Int32)), .val (.int kk), .val (.int w0), .val (.int w1), .val (.int w2), .val (.int w3), .val (.int w4), .val (.int w5), .val (.ref mm), .unset, .unset, .unset, .unset, .unset, .unset, .unset, .unset] [])) t := by
  obtain ⟨cq2_, kq2_, qa2_, qb2_, qc2_⟩ := isOf hZ e0 E1
  obtain ⟨_, _, ⟨T1_, L1_, k1_, n1_⟩, -, X1_, ⟨Lc1_, hQ1_, l1_, y1_, z1_⟩, st1_⟩ := X0.virtualBack hx (y := (⟨"com/example/whipstill/whipstill/MovingWindow", "add", "(D)V"⟩ : MethodName)) (z := (⟨"com/example/whipstill/whipstill/MovingWindow", "add", "(D)V"⟩ : MethodName)) hown (mvT hZ (hw _ (List.mem_of_getElem? (i := 32) rfl))) (mvT hZ (hw _ (List.mem_of_getElem? (i := 33) rfl))) (notFace_of_selects (args := #[]) (mvT hZ (hw _ (List.mem_of_getElem? (i := 35) rfl)))) (mvT hZ (hw _ (List.mem_of_getElem? (i := 35) rfl))) (mvT hZ (hw _ (List.mem_of_getElem? (i := 34) rfl))) (by decide) (backOf (W := 0) (rmAdd3_1 l Z a0 hw [] mm (FP.l2d (w1.toInt64)) t1 k1 (FP.l2d y0) (FP.l2d y1) (FP.l2d y2) h0 n0 Z0 E1 F1 F2 V1 g1 g2) hZ (hw _ (List.mem_of_getElem? (i := 36) rfl)) (hw _ (List.mem_of_getElem? (i := 6) rfl)) (Nat.le_trans (by decide) hfr) (Nat.le_trans (by decide) hlo)) qa2_ qc2_ (g := (mkF m 94 #[s0, .val (.int i1), .val (.int i2), s3, s4, s5, s6, s7, s8, .val (.int (3 : Int32)), .val (.int kk), .val (.int w0), .val (.int w1), .val (.int w2), .val (.int w3), .val (.int w4), .val (.int w5), .val (.ref mm), .unset, .unset, .unset, .unset, .unset, .unset, .unset, .unset] [(.double (FP.l2d (w1.toInt64))), (.ref mm)])) rfl (by rw [hml]; rfl) (Steps.refl _) (argsL := [(.double (FP.l2d (w1.toInt64)))]) (rest := []) (lenOf pd_qDzV rfl) rfl (by show 2 * 0 + _ ≤ _; exact Nat.le_of_eq rfl) (hb hby at_94) (fun _ _ => ⟨rfl, e0, (Nat.le_trans (Nat.add_le_add_left (by decide : 0 ≤ 0) cells) hce), (Nat.le_trans (Nat.add_le_add_left (by decide : 0 ≤ 0) slots) hsl)⟩)
  dsimp only [Pt.U, Pt.locs, Pt.cells, Pt.slots] at X1_ l1_ y1_ z1_ st1_ hQ1_
  subst L1_ k1_ n1_
  obtain ⟨rfl, Nq1_, ek1_, p1__0, p1__1, p1__2, p1__3⟩ := hQ1_
  have N1_ := Fr.app N0 Nq1_
  have k3_ : Keep h0 T1_.heap [mm, t1] := (Keep.refl h0 [mm, t1]).trans ek1_ (allS (Or.inl (List.mem_of_getElem? (i := 0) rfl)) (allS (Or.inl (List.mem_of_getElem? (i := 1) rfl)) all0))
  refine ⟨T1_, _, _, X1_, rfl, N1_, k3_, p1__0, p1__1, p1__2, p1__3, fun t k => ?_⟩
  show Steps p.tables e below (T0.setTop (mkF m 83 #[s0, .val (.int i1), .val (.int i2), s3, s4, s5, s6, s7, s8, .val (.int (3 : Int32)), .val (.int kk), .val (.int w0), .val (.int w1), .val (.int w2), .val (.int w3), .val (.int w4), .val (.int w5), .val (.ref mm), .unset, .unset, .unset, .unset, .unset, .unset, .unset, .unset] [])) _
  refine XS.iload X0.here hx rfl (hb hby at_83) rfl ?_
  refine XS.iconst X0.here hx rfl (hb hby at_85) ?_
  refine XS.icmpNo X0.here hx rfl (hb hby at_86) rfl (tlt (hs : (1 : Int32) < kk)).2.2.2 ?_
  show Steps p.tables e below (T0.setTop (mkF m 89 #[s0, .val (.int i1), .val (.int i2), s3, s4, s5, s6, s7, s8, .val (.int (3 : Int32)), .val (.int kk), .val (.int w0), .val (.int w1), .val (.int w2), .val (.int w3), .val (.int w4), .val (.int w5), .val (.ref mm), .unset, .unset, .unset, .unset, .unset, .unset, .unset, .unset] [])) _
  refine XS.aload X0.here hx rfl (hb hby at_89) rfl rfl ?_
  refine XS.iload X0.here hx rfl (hb hby at_91) rfl ?_
  refine XS.i2dS X0.here hx rfl (hb hby at_93) rfl (v := (FP.l2d (w1.toInt64))) (i2d_w w1) ?_
  show Steps p.tables e below (T0.setTop (mkF m 94 #[s0, .val (.int i1), .val (.int i2), s3, s4, s5, s6, s7, s8, .val (.int (3 : Int32)), .val (.int kk), .val (.int w0), .val (.int w1), .val (.int w2), .val (.int w3), .val (.int w4), .val (.int w5), .val (.ref mm), .unset, .unset, .unset, .unset, .unset, .unset, .unset, .unset] [(.double (FP.l2d (w1.toInt64))), (.ref mm)])) _
  refine st1_.trans ?_
  exact k
set_option maxRecDepth 65536 in
set_option maxHeartbeats 40000000 in
theorem pcT4_1 {p : Program} {l : Launch} {e : Env} {R : Room} {s : State} {m : MethodId} {args : Array Value} {below : List Frame} {meth : Method} {c : Code} {T0 : State} {locs : List Loc} {cells slots : Nat} (Z : State) (a0 : Array Value) (hw : ∀ d ∈ tables_1, d.before a0 Z = true) (X0 : Stand p l e R s m args below meth c T0 locs cells slots) (hx : p.tables.exec = Jvm.exec) (hZ : Z.Warmed39 s.vm) (hby : c.code = code) (hml : c.maxLocals = 26) (hown : s.vm.findClass "com/example/whipstill/whipstill/MovingWindowMeanAbovePinLaw" = some m.cls) (s0 : Slot) (i1 : Int32) (i2 : Int32) (s3 : Slot) (s4 : Slot) (s5 : Slot) (s6 : Slot) (s7 : Slot) (s8 : Slot) (kk : Int32) (w0 : Int32) (w1 : Int32) (w2 : Int32) (w3 : Int32) (w4 : Int32) (w5 : Int32) (mm : Addr) (t1 : Addr) (k1 : ClassId) (y0 : Int64) (y1 : Int64) (y2 : Int64) (y3 : Int64) (h0 : Heap) (n0 : Nat) (Z0 : n0 ≤ h0.size) (e0 : T0.heap = h0) (N0 : Fr n0 locs) (hfr : 1 ≤ R.frames) (hlo : 14 ≤ R.locals) (hce : cells + 0 ≤ R.cells) (hsl : slots + 0 ≤ R.slots) (hs : (1 : Int32) < kk) (E1 : Exa Z h0 mm "com/example/whipstill/whipstill/MovingWindow") (F1 : Fld Z h0 mm "com/example/whipstill/whipstill/MovingWindow" "values" "[D" (.ref t1)) (F2 : Fld Z h0 mm "com/example/whipstill/whipstill/MovingWindow" "oldest" "I" (.int (1 : Int32))) (V1 : Arv Z h0 t1 k1 .double (4 : Int32) [(.double (FP.l2d y0)), (.double (FP.l2d y1)), (.double (FP.l2d y2)), (.double (FP.l2d y3))] (.double (0 : UInt64))) (g1 : n0 ≤ mm) (g2 : n0 ≤ t1) :
    ∃ (T' : State) (h' : Heap) (L' : List Loc), Stand p l e R s m args below meth c T' L' (cells + 0) (slots + 0) ∧ T'.heap = h' ∧ Fr n0 L' ∧ Keep h0 h' [mm, t1] ∧ (Exa Z h' mm "com/example/whipstill/whipstill/MovingWindow") ∧ (Fld Z h' mm "com/example/whipstill/whipstill/MovingWindow" "values" "[D" (.ref t1)) ∧ (Fld Z h' mm "com/example/whipstill/whipstill/MovingWindow" "oldest" "I" (.int (2 : Int32))) ∧ (Arv Z h' t1 k1 .double (4 : Int32) [(.double (FP.l2d y0)), (.double (FP.l2d (w1.toInt64))), (.double (FP.l2d y2)), (.double (FP.l2d y3))] (.double (0 : UInt64))) ∧ ∀ t, Steps p.tables e below (T'.setTop (mkF m 97 #[s0, .val (.int i1), .val (.int i2), s3, s4, s5, s6, s7, s8, .val (.int (4 : Int32)), .val (.int kk), .val (.int w0), .val (.int w1), .val (.int w2), .val (.int w3), .val (.int w4), .val (.int w5), .val (.ref mm), .unset, .unset, .unset, .unset, .unset, .unset, .unset, .unset] [])) t → Steps p.tables e below (T0.setTop (mkF m 83 #[s0, .val (.int i1), .val (.int i2), s3, s4, s5, s6, s7, s8, .val (.int (4 : Int32)), .val (.int kk), .val (.int w0), .val (.int w1), .val (.int w2), .val (.int w3), .val (.int w4), .val (.int w5), .val (.ref mm), .unset, .unset, .unset, .unset, .unset, .unset, .unset, .unset] [])) t := by
  obtain ⟨cq2_, kq2_, qa2_, qb2_, qc2_⟩ := isOf hZ e0 E1
  obtain ⟨_, _, ⟨T1_, L1_, k1_, n1_⟩, -, X1_, ⟨Lc1_, hQ1_, l1_, y1_, z1_⟩, st1_⟩ := X0.virtualBack hx (y := (⟨"com/example/whipstill/whipstill/MovingWindow", "add", "(D)V"⟩ : MethodName)) (z := (⟨"com/example/whipstill/whipstill/MovingWindow", "add", "(D)V"⟩ : MethodName)) hown (mvT hZ (hw _ (List.mem_of_getElem? (i := 32) rfl))) (mvT hZ (hw _ (List.mem_of_getElem? (i := 33) rfl))) (notFace_of_selects (args := #[]) (mvT hZ (hw _ (List.mem_of_getElem? (i := 35) rfl)))) (mvT hZ (hw _ (List.mem_of_getElem? (i := 35) rfl))) (mvT hZ (hw _ (List.mem_of_getElem? (i := 34) rfl))) (by decide) (backOf (W := 0) (rmAdd4_1 l Z a0 hw [] mm (FP.l2d (w1.toInt64)) t1 k1 (FP.l2d y0) (FP.l2d y1) (FP.l2d y2) (FP.l2d y3) h0 n0 Z0 E1 F1 F2 V1 g1 g2) hZ (hw _ (List.mem_of_getElem? (i := 36) rfl)) (hw _ (List.mem_of_getElem? (i := 6) rfl)) (Nat.le_trans (by decide) hfr) (Nat.le_trans (by decide) hlo)) qa2_ qc2_ (g := (mkF m 94 #[s0, .val (.int i1), .val (.int i2), s3, s4, s5, s6, s7, s8, .val (.int (4 : Int32)), .val (.int kk), .val (.int w0), .val (.int w1), .val (.int w2), .val (.int w3), .val (.int w4), .val (.int w5), .val (.ref mm), .unset, .unset, .unset, .unset, .unset, .unset, .unset, .unset] [(.double (FP.l2d (w1.toInt64))), (.ref mm)])) rfl (by rw [hml]; rfl) (Steps.refl _) (argsL := [(.double (FP.l2d (w1.toInt64)))]) (rest := []) (lenOf pd_qDzV rfl) rfl (by show 2 * 0 + _ ≤ _; exact Nat.le_of_eq rfl) (hb hby at_94) (fun _ _ => ⟨rfl, e0, (Nat.le_trans (Nat.add_le_add_left (by decide : 0 ≤ 0) cells) hce), (Nat.le_trans (Nat.add_le_add_left (by decide : 0 ≤ 0) slots) hsl)⟩)
  dsimp only [Pt.U, Pt.locs, Pt.cells, Pt.slots] at X1_ l1_ y1_ z1_ st1_ hQ1_
  subst L1_ k1_ n1_
  obtain ⟨rfl, Nq1_, ek1_, p1__0, p1__1, p1__2, p1__3⟩ := hQ1_
  have N1_ := Fr.app N0 Nq1_
  have k3_ : Keep h0 T1_.heap [mm, t1] := (Keep.refl h0 [mm, t1]).trans ek1_ (allS (Or.inl (List.mem_of_getElem? (i := 0) rfl)) (allS (Or.inl (List.mem_of_getElem? (i := 1) rfl)) all0))
  refine ⟨T1_, _, _, X1_, rfl, N1_, k3_, p1__0, p1__1, p1__2, p1__3, fun t k => ?_⟩
  show Steps p.tables e below (T0.setTop (mkF m 83 #[s0, .val (.int i1), .val (.int i2), s3, s4, s5, s6, s7, s8, .val (.int (4 : Int32)), .val (.int kk), .val (.int w0), .val (.int w1), .val (.int w2), .val (.int w3), .val (.int w4), .val (.int w5), .val (.ref mm), .unset, .unset, .unset, .unset, .unset, .unset, .unset, .unset] [])) _
  refine XS.iload X0.here hx rfl (hb hby at_83) rfl ?_
  refine XS.iconst X0.here hx rfl (hb hby at_85) ?_
  refine XS.icmpNo X0.here hx rfl (hb hby at_86) rfl (tlt (hs : (1 : Int32) < kk)).2.2.2 ?_
  show Steps p.tables e below (T0.setTop (mkF m 89 #[s0, .val (.int i1), .val (.int i2), s3, s4, s5, s6, s7, s8, .val (.int (4 : Int32)), .val (.int kk), .val (.int w0), .val (.int w1), .val (.int w2), .val (.int w3), .val (.int w4), .val (.int w5), .val (.ref mm), .unset, .unset, .unset, .unset, .unset, .unset, .unset, .unset] [])) _
  refine XS.aload X0.here hx rfl (hb hby at_89) rfl rfl ?_
  refine XS.iload X0.here hx rfl (hb hby at_91) rfl ?_
  refine XS.i2dS X0.here hx rfl (hb hby at_93) rfl (v := (FP.l2d (w1.toInt64))) (i2d_w w1) ?_
  show Steps p.tables e below (T0.setTop (mkF m 94 #[s0, .val (.int i1), .val (.int i2), s3, s4, s5, s6, s7, s8, .val (.int (4 : Int32)), .val (.int kk), .val (.int w0), .val (.int w1), .val (.int w2), .val (.int w3), .val (.int w4), .val (.int w5), .val (.ref mm), .unset, .unset, .unset, .unset, .unset, .unset, .unset, .unset] [(.double (FP.l2d (w1.toInt64))), (.ref mm)])) _
  refine st1_.trans ?_
  exact k
set_option maxRecDepth 65536 in
set_option maxHeartbeats 40000000 in
theorem pcS2 {p : Program} {l : Launch} {e : Env} {R : Room} {s : State} {m : MethodId} {args : Array Value} {below : List Frame} {meth : Method} {c : Code} {T0 : State} {locs : List Loc} {cells slots : Nat} (Z : State) (a0 : Array Value) (hw : ∀ d ∈ tables_1, d.before a0 Z = true) (X0 : Stand p l e R s m args below meth c T0 locs cells slots) (hx : p.tables.exec = Jvm.exec) (hZ : Z.Warmed39 s.vm) (hby : c.code = code) (hml : c.maxLocals = 26) (hown : s.vm.findClass "com/example/whipstill/whipstill/MovingWindowMeanAbovePinLaw" = some m.cls) (s0 : Slot) (i1 : Int32) (i2 : Int32) (s3 : Slot) (s4 : Slot) (s5 : Slot) (s6 : Slot) (s7 : Slot) (s8 : Slot) (nn : Int32) (kk : Int32) (w0 : Int32) (w1 : Int32) (w2 : Int32) (w3 : Int32) (w4 : Int32) (w5 : Int32) (mm : Addr) (h0 : Heap) (n0 : Nat) (Z0 : n0 ≤ h0.size) (e0 : T0.heap = h0) (N0 : Fr n0 locs) (hfr : 0 ≤ R.frames) (hlo : 0 ≤ R.locals) (hce : cells + 0 ≤ R.cells) (hsl : slots + 0 ≤ R.slots) (hs : ¬ ((2 : Int32) < kk)) :
    ∃ (T' : State) (h' : Heap) (L' : List Loc), Stand p l e R s m args below meth c T' L' (cells + 0) (slots + 0) ∧ T'.heap = h' ∧ Fr n0 L' ∧ h' = h0 ∧ ∀ t, Steps p.tables e below (T'.setTop (mkF m 111 #[s0, .val (.int i1), .val (.int i2), s3, s4, s5, s6, s7, s8, .val (.int nn), .val (.int kk), .val (.int w0), .val (.int w1), .val (.int w2), .val (.int w3), .val (.int w4), .val (.int w5), .val (.ref mm), .unset, .unset, .unset, .unset, .unset, .unset, .unset, .unset] [])) t → Steps p.tables e below (T0.setTop (mkF m 97 #[s0, .val (.int i1), .val (.int i2), s3, s4, s5, s6, s7, s8, .val (.int nn), .val (.int kk), .val (.int w0), .val (.int w1), .val (.int w2), .val (.int w3), .val (.int w4), .val (.int w5), .val (.ref mm), .unset, .unset, .unset, .unset, .unset, .unset, .unset, .unset] [])) t := by
  refine ⟨T0, _, _, X0, e0, N0, rfl, fun t k => ?_⟩
  show Steps p.tables e below (T0.setTop (mkF m 97 #[s0, .val (.int i1), .val (.int i2), s3, s4, s5, s6, s7, s8, .val (.int nn), .val (.int kk), .val (.int w0), .val (.int w1), .val (.int w2), .val (.int w3), .val (.int w4), .val (.int w5), .val (.ref mm), .unset, .unset, .unset, .unset, .unset, .unset, .unset, .unset] [])) _
  refine XS.iload X0.here hx rfl (hb hby at_97) rfl ?_
  refine XS.iconst X0.here hx rfl (hb hby at_99) ?_
  refine XS.icmpYes X0.here hx rfl (pc0 := 100) (pc' := 111) rfl (hb hby at_100) rfl (flt (hs : ¬ ((2 : Int32) < kk))).2.2.2 (by decide) (by decide) ?_
  exact k
set_option maxRecDepth 65536 in
set_option maxHeartbeats 40000000 in
theorem pcT1_2 {p : Program} {l : Launch} {e : Env} {R : Room} {s : State} {m : MethodId} {args : Array Value} {below : List Frame} {meth : Method} {c : Code} {T0 : State} {locs : List Loc} {cells slots : Nat} (Z : State) (a0 : Array Value) (hw : ∀ d ∈ tables_1, d.before a0 Z = true) (X0 : Stand p l e R s m args below meth c T0 locs cells slots) (hx : p.tables.exec = Jvm.exec) (hZ : Z.Warmed39 s.vm) (hby : c.code = code) (hml : c.maxLocals = 26) (hown : s.vm.findClass "com/example/whipstill/whipstill/MovingWindowMeanAbovePinLaw" = some m.cls) (s0 : Slot) (i1 : Int32) (i2 : Int32) (s3 : Slot) (s4 : Slot) (s5 : Slot) (s6 : Slot) (s7 : Slot) (s8 : Slot) (kk : Int32) (w0 : Int32) (w1 : Int32) (w2 : Int32) (w3 : Int32) (w4 : Int32) (w5 : Int32) (mm : Addr) (t1 : Addr) (k1 : ClassId) (y0 : Int64) (h0 : Heap) (n0 : Nat) (Z0 : n0 ≤ h0.size) (e0 : T0.heap = h0) (N0 : Fr n0 locs) (hfr : 1 ≤ R.frames) (hlo : 14 ≤ R.locals) (hce : cells + 0 ≤ R.cells) (hsl : slots + 0 ≤ R.slots) (hs : (2 : Int32) < kk) (E1 : Exa Z h0 mm "com/example/whipstill/whipstill/MovingWindow") (F1 : Fld Z h0 mm "com/example/whipstill/whipstill/MovingWindow" "values" "[D" (.ref t1)) (F2 : Fld Z h0 mm "com/example/whipstill/whipstill/MovingWindow" "oldest" "I" (.int (0 : Int32))) (V1 : Arv Z h0 t1 k1 .double (1 : Int32) [(.double (FP.l2d y0))] (.double (0 : UInt64))) (g1 : n0 ≤ mm) (g2 : n0 ≤ t1) :
    ∃ (T' : State) (h' : Heap) (L' : List Loc), Stand p l e R s m args below meth c T' L' (cells + 0) (slots + 0) ∧ T'.heap = h' ∧ Fr n0 L' ∧ Keep h0 h' [mm, t1] ∧ (Exa Z h' mm "com/example/whipstill/whipstill/MovingWindow") ∧ (Fld Z h' mm "com/example/whipstill/whipstill/MovingWindow" "values" "[D" (.ref t1)) ∧ (Fld Z h' mm "com/example/whipstill/whipstill/MovingWindow" "oldest" "I" (.int (0 : Int32))) ∧ (Arv Z h' t1 k1 .double (1 : Int32) [(.double (FP.l2d (w2.toInt64)))] (.double (0 : UInt64))) ∧ ∀ t, Steps p.tables e below (T'.setTop (mkF m 111 #[s0, .val (.int i1), .val (.int i2), s3, s4, s5, s6, s7, s8, .val (.int (1 : Int32)), .val (.int kk), .val (.int w0), .val (.int w1), .val (.int w2), .val (.int w3), .val (.int w4), .val (.int w5), .val (.ref mm), .unset, .unset, .unset, .unset, .unset, .unset, .unset, .unset] [])) t → Steps p.tables e below (T0.setTop (mkF m 97 #[s0, .val (.int i1), .val (.int i2), s3, s4, s5, s6, s7, s8, .val (.int (1 : Int32)), .val (.int kk), .val (.int w0), .val (.int w1), .val (.int w2), .val (.int w3), .val (.int w4), .val (.int w5), .val (.ref mm), .unset, .unset, .unset, .unset, .unset, .unset, .unset, .unset] [])) t := by
  obtain ⟨cq2_, kq2_, qa2_, qb2_, qc2_⟩ := isOf hZ e0 E1
  obtain ⟨_, _, ⟨T1_, L1_, k1_, n1_⟩, -, X1_, ⟨Lc1_, hQ1_, l1_, y1_, z1_⟩, st1_⟩ := X0.virtualBack hx (y := (⟨"com/example/whipstill/whipstill/MovingWindow", "add", "(D)V"⟩ : MethodName)) (z := (⟨"com/example/whipstill/whipstill/MovingWindow", "add", "(D)V"⟩ : MethodName)) hown (mvT hZ (hw _ (List.mem_of_getElem? (i := 32) rfl))) (mvT hZ (hw _ (List.mem_of_getElem? (i := 33) rfl))) (notFace_of_selects (args := #[]) (mvT hZ (hw _ (List.mem_of_getElem? (i := 35) rfl)))) (mvT hZ (hw _ (List.mem_of_getElem? (i := 35) rfl))) (mvT hZ (hw _ (List.mem_of_getElem? (i := 34) rfl))) (by decide) (backOf (W := 0) (rmAdd1_0 l Z a0 hw [] mm (FP.l2d (w2.toInt64)) t1 k1 (FP.l2d y0) h0 n0 Z0 E1 F1 F2 V1 g1 g2) hZ (hw _ (List.mem_of_getElem? (i := 36) rfl)) (hw _ (List.mem_of_getElem? (i := 6) rfl)) (Nat.le_trans (by decide) hfr) (Nat.le_trans (by decide) hlo)) qa2_ qc2_ (g := (mkF m 108 #[s0, .val (.int i1), .val (.int i2), s3, s4, s5, s6, s7, s8, .val (.int (1 : Int32)), .val (.int kk), .val (.int w0), .val (.int w1), .val (.int w2), .val (.int w3), .val (.int w4), .val (.int w5), .val (.ref mm), .unset, .unset, .unset, .unset, .unset, .unset, .unset, .unset] [(.double (FP.l2d (w2.toInt64))), (.ref mm)])) rfl (by rw [hml]; rfl) (Steps.refl _) (argsL := [(.double (FP.l2d (w2.toInt64)))]) (rest := []) (lenOf pd_qDzV rfl) rfl (by show 2 * 0 + _ ≤ _; exact Nat.le_of_eq rfl) (hb hby at_108) (fun _ _ => ⟨rfl, e0, (Nat.le_trans (Nat.add_le_add_left (by decide : 0 ≤ 0) cells) hce), (Nat.le_trans (Nat.add_le_add_left (by decide : 0 ≤ 0) slots) hsl)⟩)
  dsimp only [Pt.U, Pt.locs, Pt.cells, Pt.slots] at X1_ l1_ y1_ z1_ st1_ hQ1_
  subst L1_ k1_ n1_
  obtain ⟨rfl, Nq1_, ek1_, p1__0, p1__1, p1__2, p1__3⟩ := hQ1_
  have N1_ := Fr.app N0 Nq1_
  have k3_ : Keep h0 T1_.heap [mm, t1] := (Keep.refl h0 [mm, t1]).trans ek1_ (allS (Or.inl (List.mem_of_getElem? (i := 0) rfl)) (allS (Or.inl (List.mem_of_getElem? (i := 1) rfl)) all0))
  refine ⟨T1_, _, _, X1_, rfl, N1_, k3_, p1__0, p1__1, p1__2, p1__3, fun t k => ?_⟩
  show Steps p.tables e below (T0.setTop (mkF m 97 #[s0, .val (.int i1), .val (.int i2), s3, s4, s5, s6, s7, s8, .val (.int (1 : Int32)), .val (.int kk), .val (.int w0), .val (.int w1), .val (.int w2), .val (.int w3), .val (.int w4), .val (.int w5), .val (.ref mm), .unset, .unset, .unset, .unset, .unset, .unset, .unset, .unset] [])) _
  refine XS.iload X0.here hx rfl (hb hby at_97) rfl ?_
  refine XS.iconst X0.here hx rfl (hb hby at_99) ?_
  refine XS.icmpNo X0.here hx rfl (hb hby at_100) rfl (tlt (hs : (2 : Int32) < kk)).2.2.2 ?_
  show Steps p.tables e below (T0.setTop (mkF m 103 #[s0, .val (.int i1), .val (.int i2), s3, s4, s5, s6, s7, s8, .val (.int (1 : Int32)), .val (.int kk), .val (.int w0), .val (.int w1), .val (.int w2), .val (.int w3), .val (.int w4), .val (.int w5), .val (.ref mm), .unset, .unset, .unset, .unset, .unset, .unset, .unset, .unset] [])) _
  refine XS.aload X0.here hx rfl (hb hby at_103) rfl rfl ?_
  refine XS.iload X0.here hx rfl (hb hby at_105) rfl ?_
  refine XS.i2dS X0.here hx rfl (hb hby at_107) rfl (v := (FP.l2d (w2.toInt64))) (i2d_w w2) ?_
  show Steps p.tables e below (T0.setTop (mkF m 108 #[s0, .val (.int i1), .val (.int i2), s3, s4, s5, s6, s7, s8, .val (.int (1 : Int32)), .val (.int kk), .val (.int w0), .val (.int w1), .val (.int w2), .val (.int w3), .val (.int w4), .val (.int w5), .val (.ref mm), .unset, .unset, .unset, .unset, .unset, .unset, .unset, .unset] [(.double (FP.l2d (w2.toInt64))), (.ref mm)])) _
  refine st1_.trans ?_
  exact k
set_option maxRecDepth 65536 in
set_option maxHeartbeats 40000000 in
theorem pcT2_2 {p : Program} {l : Launch} {e : Env} {R : Room} {s : State} {m : MethodId} {args : Array Value} {below : List Frame} {meth : Method} {c : Code} {T0 : State} {locs : List Loc} {cells slots : Nat} (Z : State) (a0 : Array Value) (hw : ∀ d ∈ tables_1, d.before a0 Z = true) (X0 : Stand p l e R s m args below meth c T0 locs cells slots) (hx : p.tables.exec = Jvm.exec) (hZ : Z.Warmed39 s.vm) (hby : c.code = code) (hml : c.maxLocals = 26) (hown : s.vm.findClass "com/example/whipstill/whipstill/MovingWindowMeanAbovePinLaw" = some m.cls) (s0 : Slot) (i1 : Int32) (i2 : Int32) (s3 : Slot) (s4 : Slot) (s5 : Slot) (s6 : Slot) (s7 : Slot) (s8 : Slot) (kk : Int32) (w0 : Int32) (w1 : Int32) (w2 : Int32) (w3 : Int32) (w4 : Int32) (w5 : Int32) (mm : Addr) (t1 : Addr) (k1 : ClassId) (y0 : Int64) (y1 : Int64) (h0 : Heap) (n0 : Nat) (Z0 : n0 ≤ h0.size) (e0 : T0.heap = h0) (N0 : Fr n0 locs) (hfr : 1 ≤ R.frames) (hlo : 14 ≤ R.locals) (hce : cells + 0 ≤ R.cells) (hsl : slots + 0 ≤ R.slots) (hs : (2 : Int32) < kk) (E1 : Exa Z h0 mm "com/example/whipstill/whipstill/MovingWindow") (F1 : Fld Z h0 mm "com/example/whipstill/whipstill/MovingWindow" "values" "[D" (.ref t1)) (F2 : Fld Z h0 mm "com/example/whipstill/whipstill/MovingWindow" "oldest" "I" (.int (0 : Int32))) (V1 : Arv Z h0 t1 k1 .double (2 : Int32) [(.double (FP.l2d y0)), (.double (FP.l2d y1))] (.double (0 : UInt64))) (g1 : n0 ≤ mm) (g2 : n0 ≤ t1) :
    ∃ (T' : State) (h' : Heap) (L' : List Loc), Stand p l e R s m args below meth c T' L' (cells + 0) (slots + 0) ∧ T'.heap = h' ∧ Fr n0 L' ∧ Keep h0 h' [mm, t1] ∧ (Exa Z h' mm "com/example/whipstill/whipstill/MovingWindow") ∧ (Fld Z h' mm "com/example/whipstill/whipstill/MovingWindow" "values" "[D" (.ref t1)) ∧ (Fld Z h' mm "com/example/whipstill/whipstill/MovingWindow" "oldest" "I" (.int (1 : Int32))) ∧ (Arv Z h' t1 k1 .double (2 : Int32) [(.double (FP.l2d (w2.toInt64))), (.double (FP.l2d y1))] (.double (0 : UInt64))) ∧ ∀ t, Steps p.tables e below (T'.setTop (mkF m 111 #[s0, .val (.int i1), .val (.int i2), s3, s4, s5, s6, s7, s8, .val (.int (2 : Int32)), .val (.int kk), .val (.int w0), .val (.int w1), .val (.int w2), .val (.int w3), .val (.int w4), .val (.int w5), .val (.ref mm), .unset, .unset, .unset, .unset, .unset, .unset, .unset, .unset] [])) t → Steps p.tables e below (T0.setTop (mkF m 97 #[s0, .val (.int i1), .val (.int i2), s3, s4, s5, s6, s7, s8, .val (.int (2 : Int32)), .val (.int kk), .val (.int w0), .val (.int w1), .val (.int w2), .val (.int w3), .val (.int w4), .val (.int w5), .val (.ref mm), .unset, .unset, .unset, .unset, .unset, .unset, .unset, .unset] [])) t := by
  obtain ⟨cq2_, kq2_, qa2_, qb2_, qc2_⟩ := isOf hZ e0 E1
  obtain ⟨_, _, ⟨T1_, L1_, k1_, n1_⟩, -, X1_, ⟨Lc1_, hQ1_, l1_, y1_, z1_⟩, st1_⟩ := X0.virtualBack hx (y := (⟨"com/example/whipstill/whipstill/MovingWindow", "add", "(D)V"⟩ : MethodName)) (z := (⟨"com/example/whipstill/whipstill/MovingWindow", "add", "(D)V"⟩ : MethodName)) hown (mvT hZ (hw _ (List.mem_of_getElem? (i := 32) rfl))) (mvT hZ (hw _ (List.mem_of_getElem? (i := 33) rfl))) (notFace_of_selects (args := #[]) (mvT hZ (hw _ (List.mem_of_getElem? (i := 35) rfl)))) (mvT hZ (hw _ (List.mem_of_getElem? (i := 35) rfl))) (mvT hZ (hw _ (List.mem_of_getElem? (i := 34) rfl))) (by decide) (backOf (W := 0) (rmAdd2_0 l Z a0 hw [] mm (FP.l2d (w2.toInt64)) t1 k1 (FP.l2d y0) (FP.l2d y1) h0 n0 Z0 E1 F1 F2 V1 g1 g2) hZ (hw _ (List.mem_of_getElem? (i := 36) rfl)) (hw _ (List.mem_of_getElem? (i := 6) rfl)) (Nat.le_trans (by decide) hfr) (Nat.le_trans (by decide) hlo)) qa2_ qc2_ (g := (mkF m 108 #[s0, .val (.int i1), .val (.int i2), s3, s4, s5, s6, s7, s8, .val (.int (2 : Int32)), .val (.int kk), .val (.int w0), .val (.int w1), .val (.int w2), .val (.int w3), .val (.int w4), .val (.int w5), .val (.ref mm), .unset, .unset, .unset, .unset, .unset, .unset, .unset, .unset] [(.double (FP.l2d (w2.toInt64))), (.ref mm)])) rfl (by rw [hml]; rfl) (Steps.refl _) (argsL := [(.double (FP.l2d (w2.toInt64)))]) (rest := []) (lenOf pd_qDzV rfl) rfl (by show 2 * 0 + _ ≤ _; exact Nat.le_of_eq rfl) (hb hby at_108) (fun _ _ => ⟨rfl, e0, (Nat.le_trans (Nat.add_le_add_left (by decide : 0 ≤ 0) cells) hce), (Nat.le_trans (Nat.add_le_add_left (by decide : 0 ≤ 0) slots) hsl)⟩)
  dsimp only [Pt.U, Pt.locs, Pt.cells, Pt.slots] at X1_ l1_ y1_ z1_ st1_ hQ1_
  subst L1_ k1_ n1_
  obtain ⟨rfl, Nq1_, ek1_, p1__0, p1__1, p1__2, p1__3⟩ := hQ1_
  have N1_ := Fr.app N0 Nq1_
  have k3_ : Keep h0 T1_.heap [mm, t1] := (Keep.refl h0 [mm, t1]).trans ek1_ (allS (Or.inl (List.mem_of_getElem? (i := 0) rfl)) (allS (Or.inl (List.mem_of_getElem? (i := 1) rfl)) all0))
  refine ⟨T1_, _, _, X1_, rfl, N1_, k3_, p1__0, p1__1, p1__2, p1__3, fun t k => ?_⟩
  show Steps p.tables e below (T0.setTop (mkF m 97 #[s0, .val (.int i1), .val (.int i2), s3, s4, s5, s6, s7, s8, .val (.int (2 : Int32)), .val (.int kk), .val (.int w0), .val (.int w1), .val (.int w2), .val (.int w3), .val (.int w4), .val (.int w5), .val (.ref mm), .unset, .unset, .unset, .unset, .unset, .unset, .unset, .unset] [])) _
  refine XS.iload X0.here hx rfl (hb hby at_97) rfl ?_
  refine XS.iconst X0.here hx rfl (hb hby at_99) ?_
  refine XS.icmpNo X0.here hx rfl (hb hby at_100) rfl (tlt (hs : (2 : Int32) < kk)).2.2.2 ?_
  show Steps p.tables e below (T0.setTop (mkF m 103 #[s0, .val (.int i1), .val (.int i2), s3, s4, s5, s6, s7, s8, .val (.int (2 : Int32)), .val (.int kk), .val (.int w0), .val (.int w1), .val (.int w2), .val (.int w3), .val (.int w4), .val (.int w5), .val (.ref mm), .unset, .unset, .unset, .unset, .unset, .unset, .unset, .unset] [])) _
  refine XS.aload X0.here hx rfl (hb hby at_103) rfl rfl ?_
  refine XS.iload X0.here hx rfl (hb hby at_105) rfl ?_
  refine XS.i2dS X0.here hx rfl (hb hby at_107) rfl (v := (FP.l2d (w2.toInt64))) (i2d_w w2) ?_
  show Steps p.tables e below (T0.setTop (mkF m 108 #[s0, .val (.int i1), .val (.int i2), s3, s4, s5, s6, s7, s8, .val (.int (2 : Int32)), .val (.int kk), .val (.int w0), .val (.int w1), .val (.int w2), .val (.int w3), .val (.int w4), .val (.int w5), .val (.ref mm), .unset, .unset, .unset, .unset, .unset, .unset, .unset, .unset] [(.double (FP.l2d (w2.toInt64))), (.ref mm)])) _
  refine st1_.trans ?_
  exact k
set_option maxRecDepth 65536 in
set_option maxHeartbeats 40000000 in
theorem pcT3_2 {p : Program} {l : Launch} {e : Env} {R : Room} {s : State} {m : MethodId} {args : Array Value} {below : List Frame} {meth : Method} {c : Code} {T0 : State} {locs : List Loc} {cells slots : Nat} (Z : State) (a0 : Array Value) (hw : ∀ d ∈ tables_1, d.before a0 Z = true) (X0 : Stand p l e R s m args below meth c T0 locs cells slots) (hx : p.tables.exec = Jvm.exec) (hZ : Z.Warmed39 s.vm) (hby : c.code = code) (hml : c.maxLocals = 26) (hown : s.vm.findClass "com/example/whipstill/whipstill/MovingWindowMeanAbovePinLaw" = some m.cls) (s0 : Slot) (i1 : Int32) (i2 : Int32) (s3 : Slot) (s4 : Slot) (s5 : Slot) (s6 : Slot) (s7 : Slot) (s8 : Slot) (kk : Int32) (w0 : Int32) (w1 : Int32) (w2 : Int32) (w3 : Int32) (w4 : Int32) (w5 : Int32) (mm : Addr) (t1 : Addr) (k1 : ClassId) (y0 : Int64) (y1 : Int64) (y2 : Int64) (h0 : Heap) (n0 : Nat) (Z0 : n0 ≤ h0.size) (e0 : T0.heap = h0) (N0 : Fr n0 locs) (hfr : 1 ≤ R.frames) (hlo : 14 ≤ R.locals) (hce : cells + 0 ≤ R.cells) (hsl : slots + 0 ≤ R.slots) (hs : (2 : Int32) < kk) (E1 : Exa Z h0 mm "com/example/whipstill/whipstill/MovingWindow") (F1 : Fld Z h0 mm "com/example/whipstill/whipstill/MovingWindow" "values" "[D" (.ref t1)) (F2 : Fld Z h0 mm "com/example/whipstill/whipstill/MovingWindow" "oldest" "I" (.int (2 : Int32))) (V1 : Arv Z h0 t1 k1 .double (3 : Int32) [(.double (FP.l2d y0)), (.double (FP.l2d y1)), (.double (FP.l2d y2))] (.double (0 : UInt64))) (g1 : n0 ≤ mm) (g2 : n0 ≤ t1) :
    ∃ (T' : State) (h' : Heap) (L' : List Loc), Stand p l e R s m args below meth c T' L' (cells + 0) (slots + 0) ∧ T'.heap = h' ∧ Fr n0 L' ∧ Keep h0 h' [mm, t1] ∧ (Exa Z h' mm "com/example/whipstill/whipstill/MovingWindow") ∧ (Fld Z h' mm "com/example/whipstill/whipstill/MovingWindow" "values" "[D" (.ref t1)) ∧ (Fld Z h' mm "com/example/whipstill/whipstill/MovingWindow" "oldest" "I" (.int (0 : Int32))) ∧ (Arv Z h' t1 k1 .double (3 : Int32) [(.double (FP.l2d y0)), (.double (FP.l2d y1)), (.double (FP.l2d (w2.toInt64)))] (.double (0 : UInt64))) ∧ ∀ t, Steps p.tables e below (T'.setTop (mkF m 111 #[s0, .val (.int i1), .val (.int i2), s3, s4, s5, s6, s7, s8, .val (.int (3 : Int32)), .val (.int kk), .val (.int w0), .val (.int w1), .val (.int w2), .val (.int w3), .val (.int w4), .val (.int w5), .val (.ref mm), .unset, .unset, .unset, .unset, .unset, .unset, .unset, .unset] [])) t → Steps p.tables e below (T0.setTop (mkF m 97 #[s0, .val (.int i1), .val (.int i2), s3, s4, s5, s6, s7, s8, .val (.int (3 : Int32)), .val (.int kk), .val (.int w0), .val (.int w1), .val (.int w2), .val (.int w3), .val (.int w4), .val (.int w5), .val (.ref mm), .unset, .unset, .unset, .unset, .unset, .unset, .unset, .unset] [])) t := by
  obtain ⟨cq2_, kq2_, qa2_, qb2_, qc2_⟩ := isOf hZ e0 E1
  obtain ⟨_, _, ⟨T1_, L1_, k1_, n1_⟩, -, X1_, ⟨Lc1_, hQ1_, l1_, y1_, z1_⟩, st1_⟩ := X0.virtualBack hx (y := (⟨"com/example/whipstill/whipstill/MovingWindow", "add", "(D)V"⟩ : MethodName)) (z := (⟨"com/example/whipstill/whipstill/MovingWindow", "add", "(D)V"⟩ : MethodName)) hown (mvT hZ (hw _ (List.mem_of_getElem? (i := 32) rfl))) (mvT hZ (hw _ (List.mem_of_getElem? (i := 33) rfl))) (notFace_of_selects (args := #[]) (mvT hZ (hw _ (List.mem_of_getElem? (i := 35) rfl)))) (mvT hZ (hw _ (List.mem_of_getElem? (i := 35) rfl))) (mvT hZ (hw _ (List.mem_of_getElem? (i := 34) rfl))) (by decide) (backOf (W := 0) (rmAdd3_2 l Z a0 hw [] mm (FP.l2d (w2.toInt64)) t1 k1 (FP.l2d y0) (FP.l2d y1) (FP.l2d y2) h0 n0 Z0 E1 F1 F2 V1 g1 g2) hZ (hw _ (List.mem_of_getElem? (i := 36) rfl)) (hw _ (List.mem_of_getElem? (i := 6) rfl)) (Nat.le_trans (by decide) hfr) (Nat.le_trans (by decide) hlo)) qa2_ qc2_ (g := (mkF m 108 #[s0, .val (.int i1), .val (.int i2), s3, s4, s5, s6, s7, s8, .val (.int (3 : Int32)), .val (.int kk), .val (.int w0), .val (.int w1), .val (.int w2), .val (.int w3), .val (.int w4), .val (.int w5), .val (.ref mm), .unset, .unset, .unset, .unset, .unset, .unset, .unset, .unset] [(.double (FP.l2d (w2.toInt64))), (.ref mm)])) rfl (by rw [hml]; rfl) (Steps.refl _) (argsL := [(.double (FP.l2d (w2.toInt64)))]) (rest := []) (lenOf pd_qDzV rfl) rfl (by show 2 * 0 + _ ≤ _; exact Nat.le_of_eq rfl) (hb hby at_108) (fun _ _ => ⟨rfl, e0, (Nat.le_trans (Nat.add_le_add_left (by decide : 0 ≤ 0) cells) hce), (Nat.le_trans (Nat.add_le_add_left (by decide : 0 ≤ 0) slots) hsl)⟩)
  dsimp only [Pt.U, Pt.locs, Pt.cells, Pt.slots] at X1_ l1_ y1_ z1_ st1_ hQ1_
  subst L1_ k1_ n1_
  obtain ⟨rfl, Nq1_, ek1_, p1__0, p1__1, p1__2, p1__3⟩ := hQ1_
  have N1_ := Fr.app N0 Nq1_
  have k3_ : Keep h0 T1_.heap [mm, t1] := (Keep.refl h0 [mm, t1]).trans ek1_ (allS (Or.inl (List.mem_of_getElem? (i := 0) rfl)) (allS (Or.inl (List.mem_of_getElem? (i := 1) rfl)) all0))
  refine ⟨T1_, _, _, X1_, rfl, N1_, k3_, p1__0, p1__1, p1__2, p1__3, fun t k => ?_⟩
  show Steps p.tables e below (T0.setTop (mkF m 97 #[s0, .val (.int i1), .val (.int i2), s3, s4, s5, s6, s7, s8, .val (.int (3 : Int32)), .val (.int kk), .val (.int w0), .val (.int w1), .val (.int w2), .val (.int w3), .val (.int w4), .val (.int w5), .val (.ref mm), .unset, .unset, .unset, .unset, .unset, .unset, .unset, .unset] [])) _
  refine XS.iload X0.here hx rfl (hb hby at_97) rfl ?_
  refine XS.iconst X0.here hx rfl (hb hby at_99) ?_
  refine XS.icmpNo X0.here hx rfl (hb hby at_100) rfl (tlt (hs : (2 : Int32) < kk)).2.2.2 ?_
  show Steps p.tables e below (T0.setTop (mkF m 103 #[s0, .val (.int i1), .val (.int i2), s3, s4, s5, s6, s7, s8, .val (.int (3 : Int32)), .val (.int kk), .val (.int w0), .val (.int w1), .val (.int w2), .val (.int w3), .val (.int w4), .val (.int w5), .val (.ref mm), .unset, .unset, .unset, .unset, .unset, .unset, .unset, .unset] [])) _
  refine XS.aload X0.here hx rfl (hb hby at_103) rfl rfl ?_
  refine XS.iload X0.here hx rfl (hb hby at_105) rfl ?_
  refine XS.i2dS X0.here hx rfl (hb hby at_107) rfl (v := (FP.l2d (w2.toInt64))) (i2d_w w2) ?_
  show Steps p.tables e below (T0.setTop (mkF m 108 #[s0, .val (.int i1), .val (.int i2), s3, s4, s5, s6, s7, s8, .val (.int (3 : Int32)), .val (.int kk), .val (.int w0), .val (.int w1), .val (.int w2), .val (.int w3), .val (.int w4), .val (.int w5), .val (.ref mm), .unset, .unset, .unset, .unset, .unset, .unset, .unset, .unset] [(.double (FP.l2d (w2.toInt64))), (.ref mm)])) _
  refine st1_.trans ?_
  exact k
set_option maxRecDepth 65536 in
set_option maxHeartbeats 40000000 in
theorem pcT4_2 {p : Program} {l : Launch} {e : Env} {R : Room} {s : State} {m : MethodId} {args : Array Value} {below : List Frame} {meth : Method} {c : Code} {T0 : State} {locs : List Loc} {cells slots : Nat} (Z : State) (a0 : Array Value) (hw : ∀ d ∈ tables_1, d.before a0 Z = true) (X0 : Stand p l e R s m args below meth c T0 locs cells slots) (hx : p.tables.exec = Jvm.exec) (hZ : Z.Warmed39 s.vm) (hby : c.code = code) (hml : c.maxLocals = 26) (hown : s.vm.findClass "com/example/whipstill/whipstill/MovingWindowMeanAbovePinLaw" = some m.cls) (s0 : Slot) (i1 : Int32) (i2 : Int32) (s3 : Slot) (s4 : Slot) (s5 : Slot) (s6 : Slot) (s7 : Slot) (s8 : Slot) (kk : Int32) (w0 : Int32) (w1 : Int32) (w2 : Int32) (w3 : Int32) (w4 : Int32) (w5 : Int32) (mm : Addr) (t1 : Addr) (k1 : ClassId) (y0 : Int64) (y1 : Int64) (y2 : Int64) (y3 : Int64) (h0 : Heap) (n0 : Nat) (Z0 : n0 ≤ h0.size) (e0 : T0.heap = h0) (N0 : Fr n0 locs) (hfr : 1 ≤ R.frames) (hlo : 14 ≤ R.locals) (hce : cells + 0 ≤ R.cells) (hsl : slots + 0 ≤ R.slots) (hs : (2 : Int32) < kk) (E1 : Exa Z h0 mm "com/example/whipstill/whipstill/MovingWindow") (F1 : Fld Z h0 mm "com/example/whipstill/whipstill/MovingWindow" "values" "[D" (.ref t1)) (F2 : Fld Z h0 mm "com/example/whipstill/whipstill/MovingWindow" "oldest" "I" (.int (2 : Int32))) (V1 : Arv Z h0 t1 k1 .double (4 : Int32) [(.double (FP.l2d y0)), (.double (FP.l2d y1)), (.double (FP.l2d y2)), (.double (FP.l2d y3))] (.double (0 : UInt64))) (g1 : n0 ≤ mm) (g2 : n0 ≤ t1) :
    ∃ (T' : State) (h' : Heap) (L' : List Loc), Stand p l e R s m args below meth c T' L' (cells + 0) (slots + 0) ∧ T'.heap = h' ∧ Fr n0 L' ∧ Keep h0 h' [mm, t1] ∧ (Exa Z h' mm "com/example/whipstill/whipstill/MovingWindow") ∧ (Fld Z h' mm "com/example/whipstill/whipstill/MovingWindow" "values" "[D" (.ref t1)) ∧ (Fld Z h' mm "com/example/whipstill/whipstill/MovingWindow" "oldest" "I" (.int (3 : Int32))) ∧ (Arv Z h' t1 k1 .double (4 : Int32) [(.double (FP.l2d y0)), (.double (FP.l2d y1)), (.double (FP.l2d (w2.toInt64))), (.double (FP.l2d y3))] (.double (0 : UInt64))) ∧ ∀ t, Steps p.tables e below (T'.setTop (mkF m 111 #[s0, .val (.int i1), .val (.int i2), s3, s4, s5, s6, s7, s8, .val (.int (4 : Int32)), .val (.int kk), .val (.int w0), .val (.int w1), .val (.int w2), .val (.int w3), .val (.int w4), .val (.int w5), .val (.ref mm), .unset, .unset, .unset, .unset, .unset, .unset, .unset, .unset] [])) t → Steps p.tables e below (T0.setTop (mkF m 97 #[s0, .val (.int i1), .val (.int i2), s3, s4, s5, s6, s7, s8, .val (.int (4 : Int32)), .val (.int kk), .val (.int w0), .val (.int w1), .val (.int w2), .val (.int w3), .val (.int w4), .val (.int w5), .val (.ref mm), .unset, .unset, .unset, .unset, .unset, .unset, .unset, .unset] [])) t := by
  obtain ⟨cq2_, kq2_, qa2_, qb2_, qc2_⟩ := isOf hZ e0 E1
  obtain ⟨_, _, ⟨T1_, L1_, k1_, n1_⟩, -, X1_, ⟨Lc1_, hQ1_, l1_, y1_, z1_⟩, st1_⟩ := X0.virtualBack hx (y := (⟨"com/example/whipstill/whipstill/MovingWindow", "add", "(D)V"⟩ : MethodName)) (z := (⟨"com/example/whipstill/whipstill/MovingWindow", "add", "(D)V"⟩ : MethodName)) hown (mvT hZ (hw _ (List.mem_of_getElem? (i := 32) rfl))) (mvT hZ (hw _ (List.mem_of_getElem? (i := 33) rfl))) (notFace_of_selects (args := #[]) (mvT hZ (hw _ (List.mem_of_getElem? (i := 35) rfl)))) (mvT hZ (hw _ (List.mem_of_getElem? (i := 35) rfl))) (mvT hZ (hw _ (List.mem_of_getElem? (i := 34) rfl))) (by decide) (backOf (W := 0) (rmAdd4_2 l Z a0 hw [] mm (FP.l2d (w2.toInt64)) t1 k1 (FP.l2d y0) (FP.l2d y1) (FP.l2d y2) (FP.l2d y3) h0 n0 Z0 E1 F1 F2 V1 g1 g2) hZ (hw _ (List.mem_of_getElem? (i := 36) rfl)) (hw _ (List.mem_of_getElem? (i := 6) rfl)) (Nat.le_trans (by decide) hfr) (Nat.le_trans (by decide) hlo)) qa2_ qc2_ (g := (mkF m 108 #[s0, .val (.int i1), .val (.int i2), s3, s4, s5, s6, s7, s8, .val (.int (4 : Int32)), .val (.int kk), .val (.int w0), .val (.int w1), .val (.int w2), .val (.int w3), .val (.int w4), .val (.int w5), .val (.ref mm), .unset, .unset, .unset, .unset, .unset, .unset, .unset, .unset] [(.double (FP.l2d (w2.toInt64))), (.ref mm)])) rfl (by rw [hml]; rfl) (Steps.refl _) (argsL := [(.double (FP.l2d (w2.toInt64)))]) (rest := []) (lenOf pd_qDzV rfl) rfl (by show 2 * 0 + _ ≤ _; exact Nat.le_of_eq rfl) (hb hby at_108) (fun _ _ => ⟨rfl, e0, (Nat.le_trans (Nat.add_le_add_left (by decide : 0 ≤ 0) cells) hce), (Nat.le_trans (Nat.add_le_add_left (by decide : 0 ≤ 0) slots) hsl)⟩)
  dsimp only [Pt.U, Pt.locs, Pt.cells, Pt.slots] at X1_ l1_ y1_ z1_ st1_ hQ1_
  subst L1_ k1_ n1_
  obtain ⟨rfl, Nq1_, ek1_, p1__0, p1__1, p1__2, p1__3⟩ := hQ1_
  have N1_ := Fr.app N0 Nq1_
  have k3_ : Keep h0 T1_.heap [mm, t1] := (Keep.refl h0 [mm, t1]).trans ek1_ (allS (Or.inl (List.mem_of_getElem? (i := 0) rfl)) (allS (Or.inl (List.mem_of_getElem? (i := 1) rfl)) all0))
  refine ⟨T1_, _, _, X1_, rfl, N1_, k3_, p1__0, p1__1, p1__2, p1__3, fun t k => ?_⟩
  show Steps p.tables e below (T0.setTop (mkF m 97 #[s0, .val (.int i1), .val (.int i2), s3, s4, s5, s6, s7, s8, .val (.int (4 : Int32)), .val (.int kk), .val (.int w0), .val (.int w1), .val (.int w2), .val (.int w3), .val (.int w4), .val (.int w5), .val (.ref mm), .unset, .unset, .unset, .unset, .unset, .unset, .unset, .unset] [])) _
  refine XS.iload X0.here hx rfl (hb hby at_97) rfl ?_
  refine XS.iconst X0.here hx rfl (hb hby at_99) ?_
  refine XS.icmpNo X0.here hx rfl (hb hby at_100) rfl (tlt (hs : (2 : Int32) < kk)).2.2.2 ?_
  show Steps p.tables e below (T0.setTop (mkF m 103 #[s0, .val (.int i1), .val (.int i2), s3, s4, s5, s6, s7, s8, .val (.int (4 : Int32)), .val (.int kk), .val (.int w0), .val (.int w1), .val (.int w2), .val (.int w3), .val (.int w4), .val (.int w5), .val (.ref mm), .unset, .unset, .unset, .unset, .unset, .unset, .unset, .unset] [])) _
  refine XS.aload X0.here hx rfl (hb hby at_103) rfl rfl ?_
  refine XS.iload X0.here hx rfl (hb hby at_105) rfl ?_
  refine XS.i2dS X0.here hx rfl (hb hby at_107) rfl (v := (FP.l2d (w2.toInt64))) (i2d_w w2) ?_
  show Steps p.tables e below (T0.setTop (mkF m 108 #[s0, .val (.int i1), .val (.int i2), s3, s4, s5, s6, s7, s8, .val (.int (4 : Int32)), .val (.int kk), .val (.int w0), .val (.int w1), .val (.int w2), .val (.int w3), .val (.int w4), .val (.int w5), .val (.ref mm), .unset, .unset, .unset, .unset, .unset, .unset, .unset, .unset] [(.double (FP.l2d (w2.toInt64))), (.ref mm)])) _
  refine st1_.trans ?_
  exact k
set_option maxRecDepth 65536 in
set_option maxHeartbeats 40000000 in
theorem pcS3 {p : Program} {l : Launch} {e : Env} {R : Room} {s : State} {m : MethodId} {args : Array Value} {below : List Frame} {meth : Method} {c : Code} {T0 : State} {locs : List Loc} {cells slots : Nat} (Z : State) (a0 : Array Value) (hw : ∀ d ∈ tables_1, d.before a0 Z = true) (X0 : Stand p l e R s m args below meth c T0 locs cells slots) (hx : p.tables.exec = Jvm.exec) (hZ : Z.Warmed39 s.vm) (hby : c.code = code) (hml : c.maxLocals = 26) (hown : s.vm.findClass "com/example/whipstill/whipstill/MovingWindowMeanAbovePinLaw" = some m.cls) (s0 : Slot) (i1 : Int32) (i2 : Int32) (s3 : Slot) (s4 : Slot) (s5 : Slot) (s6 : Slot) (s7 : Slot) (s8 : Slot) (nn : Int32) (kk : Int32) (w0 : Int32) (w1 : Int32) (w2 : Int32) (w3 : Int32) (w4 : Int32) (w5 : Int32) (mm : Addr) (h0 : Heap) (n0 : Nat) (Z0 : n0 ≤ h0.size) (e0 : T0.heap = h0) (N0 : Fr n0 locs) (hfr : 0 ≤ R.frames) (hlo : 0 ≤ R.locals) (hce : cells + 0 ≤ R.cells) (hsl : slots + 0 ≤ R.slots) (hs : ¬ ((3 : Int32) < kk)) :
    ∃ (T' : State) (h' : Heap) (L' : List Loc), Stand p l e R s m args below meth c T' L' (cells + 0) (slots + 0) ∧ T'.heap = h' ∧ Fr n0 L' ∧ h' = h0 ∧ ∀ t, Steps p.tables e below (T'.setTop (mkF m 125 #[s0, .val (.int i1), .val (.int i2), s3, s4, s5, s6, s7, s8, .val (.int nn), .val (.int kk), .val (.int w0), .val (.int w1), .val (.int w2), .val (.int w3), .val (.int w4), .val (.int w5), .val (.ref mm), .unset, .unset, .unset, .unset, .unset, .unset, .unset, .unset] [])) t → Steps p.tables e below (T0.setTop (mkF m 111 #[s0, .val (.int i1), .val (.int i2), s3, s4, s5, s6, s7, s8, .val (.int nn), .val (.int kk), .val (.int w0), .val (.int w1), .val (.int w2), .val (.int w3), .val (.int w4), .val (.int w5), .val (.ref mm), .unset, .unset, .unset, .unset, .unset, .unset, .unset, .unset] [])) t := by
  refine ⟨T0, _, _, X0, e0, N0, rfl, fun t k => ?_⟩
  show Steps p.tables e below (T0.setTop (mkF m 111 #[s0, .val (.int i1), .val (.int i2), s3, s4, s5, s6, s7, s8, .val (.int nn), .val (.int kk), .val (.int w0), .val (.int w1), .val (.int w2), .val (.int w3), .val (.int w4), .val (.int w5), .val (.ref mm), .unset, .unset, .unset, .unset, .unset, .unset, .unset, .unset] [])) _
  refine XS.iload X0.here hx rfl (hb hby at_111) rfl ?_
  refine XS.iconst X0.here hx rfl (hb hby at_113) ?_
  refine XS.icmpYes X0.here hx rfl (pc0 := 114) (pc' := 125) rfl (hb hby at_114) rfl (flt (hs : ¬ ((3 : Int32) < kk))).2.2.2 (by decide) (by decide) ?_
  exact k
set_option maxRecDepth 65536 in
set_option maxHeartbeats 40000000 in
theorem pcT1_3 {p : Program} {l : Launch} {e : Env} {R : Room} {s : State} {m : MethodId} {args : Array Value} {below : List Frame} {meth : Method} {c : Code} {T0 : State} {locs : List Loc} {cells slots : Nat} (Z : State) (a0 : Array Value) (hw : ∀ d ∈ tables_1, d.before a0 Z = true) (X0 : Stand p l e R s m args below meth c T0 locs cells slots) (hx : p.tables.exec = Jvm.exec) (hZ : Z.Warmed39 s.vm) (hby : c.code = code) (hml : c.maxLocals = 26) (hown : s.vm.findClass "com/example/whipstill/whipstill/MovingWindowMeanAbovePinLaw" = some m.cls) (s0 : Slot) (i1 : Int32) (i2 : Int32) (s3 : Slot) (s4 : Slot) (s5 : Slot) (s6 : Slot) (s7 : Slot) (s8 : Slot) (kk : Int32) (w0 : Int32) (w1 : Int32) (w2 : Int32) (w3 : Int32) (w4 : Int32) (w5 : Int32) (mm : Addr) (t1 : Addr) (k1 : ClassId) (y0 : Int64) (h0 : Heap) (n0 : Nat) (Z0 : n0 ≤ h0.size) (e0 : T0.heap = h0) (N0 : Fr n0 locs) (hfr : 1 ≤ R.frames) (hlo : 14 ≤ R.locals) (hce : cells + 0 ≤ R.cells) (hsl : slots + 0 ≤ R.slots) (hs : (3 : Int32) < kk) (E1 : Exa Z h0 mm "com/example/whipstill/whipstill/MovingWindow") (F1 : Fld Z h0 mm "com/example/whipstill/whipstill/MovingWindow" "values" "[D" (.ref t1)) (F2 : Fld Z h0 mm "com/example/whipstill/whipstill/MovingWindow" "oldest" "I" (.int (0 : Int32))) (V1 : Arv Z h0 t1 k1 .double (1 : Int32) [(.double (FP.l2d y0))] (.double (0 : UInt64))) (g1 : n0 ≤ mm) (g2 : n0 ≤ t1) :
    ∃ (T' : State) (h' : Heap) (L' : List Loc), Stand p l e R s m args below meth c T' L' (cells + 0) (slots + 0) ∧ T'.heap = h' ∧ Fr n0 L' ∧ Keep h0 h' [mm, t1] ∧ (Exa Z h' mm "com/example/whipstill/whipstill/MovingWindow") ∧ (Fld Z h' mm "com/example/whipstill/whipstill/MovingWindow" "values" "[D" (.ref t1)) ∧ (Fld Z h' mm "com/example/whipstill/whipstill/MovingWindow" "oldest" "I" (.int (0 : Int32))) ∧ (Arv Z h' t1 k1 .double (1 : Int32) [(.double (FP.l2d (w3.toInt64)))] (.double (0 : UInt64))) ∧ ∀ t, Steps p.tables e below (T'.setTop (mkF m 125 #[s0, .val (.int i1), .val (.int i2), s3, s4, s5, s6, s7, s8, .val (.int (1 : Int32)), .val (.int kk), .val (.int w0), .val (.int w1), .val (.int w2), .val (.int w3), .val (.int w4), .val (.int w5), .val (.ref mm), .unset, .unset, .unset, .unset, .unset, .unset, .unset, .unset] [])) t → Steps p.tables e below (T0.setTop (mkF m 111 #[s0, .val (.int i1), .val (.int i2), s3, s4, s5, s6, s7, s8, .val (.int (1 : Int32)), .val (.int kk), .val (.int w0), .val (.int w1), .val (.int w2), .val (.int w3), .val (.int w4), .val (.int w5), .val (.ref mm), .unset, .unset, .unset, .unset, .unset, .unset, .unset, .unset] [])) t := by
  obtain ⟨cq2_, kq2_, qa2_, qb2_, qc2_⟩ := isOf hZ e0 E1
  obtain ⟨_, _, ⟨T1_, L1_, k1_, n1_⟩, -, X1_, ⟨Lc1_, hQ1_, l1_, y1_, z1_⟩, st1_⟩ := X0.virtualBack hx (y := (⟨"com/example/whipstill/whipstill/MovingWindow", "add", "(D)V"⟩ : MethodName)) (z := (⟨"com/example/whipstill/whipstill/MovingWindow", "add", "(D)V"⟩ : MethodName)) hown (mvT hZ (hw _ (List.mem_of_getElem? (i := 32) rfl))) (mvT hZ (hw _ (List.mem_of_getElem? (i := 33) rfl))) (notFace_of_selects (args := #[]) (mvT hZ (hw _ (List.mem_of_getElem? (i := 35) rfl)))) (mvT hZ (hw _ (List.mem_of_getElem? (i := 35) rfl))) (mvT hZ (hw _ (List.mem_of_getElem? (i := 34) rfl))) (by decide) (backOf (W := 0) (rmAdd1_0 l Z a0 hw [] mm (FP.l2d (w3.toInt64)) t1 k1 (FP.l2d y0) h0 n0 Z0 E1 F1 F2 V1 g1 g2) hZ (hw _ (List.mem_of_getElem? (i := 36) rfl)) (hw _ (List.mem_of_getElem? (i := 6) rfl)) (Nat.le_trans (by decide) hfr) (Nat.le_trans (by decide) hlo)) qa2_ qc2_ (g := (mkF m 122 #[s0, .val (.int i1), .val (.int i2), s3, s4, s5, s6, s7, s8, .val (.int (1 : Int32)), .val (.int kk), .val (.int w0), .val (.int w1), .val (.int w2), .val (.int w3), .val (.int w4), .val (.int w5), .val (.ref mm), .unset, .unset, .unset, .unset, .unset, .unset, .unset, .unset] [(.double (FP.l2d (w3.toInt64))), (.ref mm)])) rfl (by rw [hml]; rfl) (Steps.refl _) (argsL := [(.double (FP.l2d (w3.toInt64)))]) (rest := []) (lenOf pd_qDzV rfl) rfl (by show 2 * 0 + _ ≤ _; exact Nat.le_of_eq rfl) (hb hby at_122) (fun _ _ => ⟨rfl, e0, (Nat.le_trans (Nat.add_le_add_left (by decide : 0 ≤ 0) cells) hce), (Nat.le_trans (Nat.add_le_add_left (by decide : 0 ≤ 0) slots) hsl)⟩)
  dsimp only [Pt.U, Pt.locs, Pt.cells, Pt.slots] at X1_ l1_ y1_ z1_ st1_ hQ1_
  subst L1_ k1_ n1_
  obtain ⟨rfl, Nq1_, ek1_, p1__0, p1__1, p1__2, p1__3⟩ := hQ1_
  have N1_ := Fr.app N0 Nq1_
  have k3_ : Keep h0 T1_.heap [mm, t1] := (Keep.refl h0 [mm, t1]).trans ek1_ (allS (Or.inl (List.mem_of_getElem? (i := 0) rfl)) (allS (Or.inl (List.mem_of_getElem? (i := 1) rfl)) all0))
  refine ⟨T1_, _, _, X1_, rfl, N1_, k3_, p1__0, p1__1, p1__2, p1__3, fun t k => ?_⟩
  show Steps p.tables e below (T0.setTop (mkF m 111 #[s0, .val (.int i1), .val (.int i2), s3, s4, s5, s6, s7, s8, .val (.int (1 : Int32)), .val (.int kk), .val (.int w0), .val (.int w1), .val (.int w2), .val (.int w3), .val (.int w4), .val (.int w5), .val (.ref mm), .unset, .unset, .unset, .unset, .unset, .unset, .unset, .unset] [])) _
  refine XS.iload X0.here hx rfl (hb hby at_111) rfl ?_
  refine XS.iconst X0.here hx rfl (hb hby at_113) ?_
  refine XS.icmpNo X0.here hx rfl (hb hby at_114) rfl (tlt (hs : (3 : Int32) < kk)).2.2.2 ?_
  show Steps p.tables e below (T0.setTop (mkF m 117 #[s0, .val (.int i1), .val (.int i2), s3, s4, s5, s6, s7, s8, .val (.int (1 : Int32)), .val (.int kk), .val (.int w0), .val (.int w1), .val (.int w2), .val (.int w3), .val (.int w4), .val (.int w5), .val (.ref mm), .unset, .unset, .unset, .unset, .unset, .unset, .unset, .unset] [])) _
  refine XS.aload X0.here hx rfl (hb hby at_117) rfl rfl ?_
  refine XS.iload X0.here hx rfl (hb hby at_119) rfl ?_
  refine XS.i2dS X0.here hx rfl (hb hby at_121) rfl (v := (FP.l2d (w3.toInt64))) (i2d_w w3) ?_
  show Steps p.tables e below (T0.setTop (mkF m 122 #[s0, .val (.int i1), .val (.int i2), s3, s4, s5, s6, s7, s8, .val (.int (1 : Int32)), .val (.int kk), .val (.int w0), .val (.int w1), .val (.int w2), .val (.int w3), .val (.int w4), .val (.int w5), .val (.ref mm), .unset, .unset, .unset, .unset, .unset, .unset, .unset, .unset] [(.double (FP.l2d (w3.toInt64))), (.ref mm)])) _
  refine st1_.trans ?_
  exact k
set_option maxRecDepth 65536 in
set_option maxHeartbeats 40000000 in
theorem pcT2_3 {p : Program} {l : Launch} {e : Env} {R : Room} {s : State} {m : MethodId} {args : Array Value} {below : List Frame} {meth : Method} {c : Code} {T0 : State} {locs : List Loc} {cells slots : Nat} (Z : State) (a0 : Array Value) (hw : ∀ d ∈ tables_1, d.before a0 Z = true) (X0 : Stand p l e R s m args below meth c T0 locs cells slots) (hx : p.tables.exec = Jvm.exec) (hZ : Z.Warmed39 s.vm) (hby : c.code = code) (hml : c.maxLocals = 26) (hown : s.vm.findClass "com/example/whipstill/whipstill/MovingWindowMeanAbovePinLaw" = some m.cls) (s0 : Slot) (i1 : Int32) (i2 : Int32) (s3 : Slot) (s4 : Slot) (s5 : Slot) (s6 : Slot) (s7 : Slot) (s8 : Slot) (kk : Int32) (w0 : Int32) (w1 : Int32) (w2 : Int32) (w3 : Int32) (w4 : Int32) (w5 : Int32) (mm : Addr) (t1 : Addr) (k1 : ClassId) (y0 : Int64) (y1 : Int64) (h0 : Heap) (n0 : Nat) (Z0 : n0 ≤ h0.size) (e0 : T0.heap = h0) (N0 : Fr n0 locs) (hfr : 1 ≤ R.frames) (hlo : 14 ≤ R.locals) (hce : cells + 0 ≤ R.cells) (hsl : slots + 0 ≤ R.slots) (hs : (3 : Int32) < kk) (E1 : Exa Z h0 mm "com/example/whipstill/whipstill/MovingWindow") (F1 : Fld Z h0 mm "com/example/whipstill/whipstill/MovingWindow" "values" "[D" (.ref t1)) (F2 : Fld Z h0 mm "com/example/whipstill/whipstill/MovingWindow" "oldest" "I" (.int (1 : Int32))) (V1 : Arv Z h0 t1 k1 .double (2 : Int32) [(.double (FP.l2d y0)), (.double (FP.l2d y1))] (.double (0 : UInt64))) (g1 : n0 ≤ mm) (g2 : n0 ≤ t1) :
    ∃ (T' : State) (h' : Heap) (L' : List Loc), Stand p l e R s m args below meth c T' L' (cells + 0) (slots + 0) ∧ T'.heap = h' ∧ Fr n0 L' ∧ Keep h0 h' [mm, t1] ∧ (Exa Z h' mm "com/example/whipstill/whipstill/MovingWindow") ∧ (Fld Z h' mm "com/example/whipstill/whipstill/MovingWindow" "values" "[D" (.ref t1)) ∧ (Fld Z h' mm "com/example/whipstill/whipstill/MovingWindow" "oldest" "I" (.int (0 : Int32))) ∧ (Arv Z h' t1 k1 .double (2 : Int32) [(.double (FP.l2d y0)), (.double (FP.l2d (w3.toInt64)))] (.double (0 : UInt64))) ∧ ∀ t, Steps p.tables e below (T'.setTop (mkF m 125 #[s0, .val (.int i1), .val (.int i2), s3, s4, s5, s6, s7, s8, .val (.int (2 : Int32)), .val (.int kk), .val (.int w0), .val (.int w1), .val (.int w2), .val (.int w3), .val (.int w4), .val (.int w5), .val (.ref mm), .unset, .unset, .unset, .unset, .unset, .unset, .unset, .unset] [])) t → Steps p.tables e below (T0.setTop (mkF m 111 #[s0, .val (.int i1), .val (.int i2), s3, s4, s5, s6, s7, s8, .val (.int (2 : Int32)), .val (.int kk), .val (.int w0), .val (.int w1), .val (.int w2), .val (.int w3), .val (.int w4), .val (.int w5), .val (.ref mm), .unset, .unset, .unset, .unset, .unset, .unset, .unset, .unset] [])) t := by
  obtain ⟨cq2_, kq2_, qa2_, qb2_, qc2_⟩ := isOf hZ e0 E1
  obtain ⟨_, _, ⟨T1_, L1_, k1_, n1_⟩, -, X1_, ⟨Lc1_, hQ1_, l1_, y1_, z1_⟩, st1_⟩ := X0.virtualBack hx (y := (⟨"com/example/whipstill/whipstill/MovingWindow", "add", "(D)V"⟩ : MethodName)) (z := (⟨"com/example/whipstill/whipstill/MovingWindow", "add", "(D)V"⟩ : MethodName)) hown (mvT hZ (hw _ (List.mem_of_getElem? (i := 32) rfl))) (mvT hZ (hw _ (List.mem_of_getElem? (i := 33) rfl))) (notFace_of_selects (args := #[]) (mvT hZ (hw _ (List.mem_of_getElem? (i := 35) rfl)))) (mvT hZ (hw _ (List.mem_of_getElem? (i := 35) rfl))) (mvT hZ (hw _ (List.mem_of_getElem? (i := 34) rfl))) (by decide) (backOf (W := 0) (rmAdd2_1 l Z a0 hw [] mm (FP.l2d (w3.toInt64)) t1 k1 (FP.l2d y0) (FP.l2d y1) h0 n0 Z0 E1 F1 F2 V1 g1 g2) hZ (hw _ (List.mem_of_getElem? (i := 36) rfl)) (hw _ (List.mem_of_getElem? (i := 6) rfl)) (Nat.le_trans (by decide) hfr) (Nat.le_trans (by decide) hlo)) qa2_ qc2_ (g := (mkF m 122 #[s0, .val (.int i1), .val (.int i2), s3, s4, s5, s6, s7, s8, .val (.int (2 : Int32)), .val (.int kk), .val (.int w0), .val (.int w1), .val (.int w2), .val (.int w3), .val (.int w4), .val (.int w5), .val (.ref mm), .unset, .unset, .unset, .unset, .unset, .unset, .unset, .unset] [(.double (FP.l2d (w3.toInt64))), (.ref mm)])) rfl (by rw [hml]; rfl) (Steps.refl _) (argsL := [(.double (FP.l2d (w3.toInt64)))]) (rest := []) (lenOf pd_qDzV rfl) rfl (by show 2 * 0 + _ ≤ _; exact Nat.le_of_eq rfl) (hb hby at_122) (fun _ _ => ⟨rfl, e0, (Nat.le_trans (Nat.add_le_add_left (by decide : 0 ≤ 0) cells) hce), (Nat.le_trans (Nat.add_le_add_left (by decide : 0 ≤ 0) slots) hsl)⟩)
  dsimp only [Pt.U, Pt.locs, Pt.cells, Pt.slots] at X1_ l1_ y1_ z1_ st1_ hQ1_
  subst L1_ k1_ n1_
  obtain ⟨rfl, Nq1_, ek1_, p1__0, p1__1, p1__2, p1__3⟩ := hQ1_
  have N1_ := Fr.app N0 Nq1_
  have k3_ : Keep h0 T1_.heap [mm, t1] := (Keep.refl h0 [mm, t1]).trans ek1_ (allS (Or.inl (List.mem_of_getElem? (i := 0) rfl)) (allS (Or.inl (List.mem_of_getElem? (i := 1) rfl)) all0))
  refine ⟨T1_, _, _, X1_, rfl, N1_, k3_, p1__0, p1__1, p1__2, p1__3, fun t k => ?_⟩
  show Steps p.tables e below (T0.setTop (mkF m 111 #[s0, .val (.int i1), .val (.int i2), s3, s4, s5, s6, s7, s8, .val (.int (2 : Int32)), .val (.int kk), .val (.int w0), .val (.int w1), .val (.int w2), .val (.int w3), .val (.int w4), .val (.int w5), .val (.ref mm), .unset, .unset, .unset, .unset, .unset, .unset, .unset, .unset] [])) _
  refine XS.iload X0.here hx rfl (hb hby at_111) rfl ?_
  refine XS.iconst X0.here hx rfl (hb hby at_113) ?_
  refine XS.icmpNo X0.here hx rfl (hb hby at_114) rfl (tlt (hs : (3 : Int32) < kk)).2.2.2 ?_
  show Steps p.tables e below (T0.setTop (mkF m 117 #[s0, .val (.int i1), .val (.int i2), s3, s4, s5, s6, s7, s8, .val (.int (2 : Int32)), .val (.int kk), .val (.int w0), .val (.int w1), .val (.int w2), .val (.int w3), .val (.int w4), .val (.int w5), .val (.ref mm), .unset, .unset, .unset, .unset, .unset, .unset, .unset, .unset] [])) _
  refine XS.aload X0.here hx rfl (hb hby at_117) rfl rfl ?_
  refine XS.iload X0.here hx rfl (hb hby at_119) rfl ?_
  refine XS.i2dS X0.here hx rfl (hb hby at_121) rfl (v := (FP.l2d (w3.toInt64))) (i2d_w w3) ?_
  show Steps p.tables e below (T0.setTop (mkF m 122 #[s0, .val (.int i1), .val (.int i2), s3, s4, s5, s6, s7, s8, .val (.int (2 : Int32)), .val (.int kk), .val (.int w0), .val (.int w1), .val (.int w2), .val (.int w3), .val (.int w4), .val (.int w5), .val (.ref mm), .unset, .unset, .unset, .unset, .unset, .unset, .unset, .unset] [(.double (FP.l2d (w3.toInt64))), (.ref mm)])) _
  refine st1_.trans ?_
  exact k
set_option maxRecDepth 65536 in
set_option maxHeartbeats 40000000 in
theorem pcT3_3 {p : Program} {l : Launch} {e : Env} {R : Room} {s : State} {m : MethodId} {args : Array Value} {below : List Frame} {meth : Method} {c : Code} {T0 : State} {locs : List Loc} {cells slots : Nat} (Z : State) (a0 : Array Value) (hw : ∀ d ∈ tables_1, d.before a0 Z = true) (X0 : Stand p l e R s m args below meth c T0 locs cells slots) (hx : p.tables.exec = Jvm.exec) (hZ : Z.Warmed39 s.vm) (hby : c.code = code) (hml : c.maxLocals = 26) (hown : s.vm.findClass "com/example/whipstill/whipstill/MovingWindowMeanAbovePinLaw" = some m.cls) (s0 : Slot) (i1 : Int32) (i2 : Int32) (s3 : Slot) (s4 : Slot) (s5 : Slot) (s6 : Slot) (s7 : Slot) (s8 : Slot) (kk : Int32) (w0 : Int32) (w1 : Int32) (w2 : Int32) (w3 : Int32) (w4 : Int32) (w5 : Int32) (mm : Addr) (t1 : Addr) (k1 : ClassId) (y0 : Int64) (y1 : Int64) (y2 : Int64) (h0 : Heap) (n0 : Nat) (Z0 : n0 ≤ h0.size) (e0 : T0.heap = h0) (N0 : Fr n0 locs) (hfr : 1 ≤ R.frames) (hlo : 14 ≤ R.locals) (hce : cells + 0 ≤ R.cells) (hsl : slots + 0 ≤ R.slots) (hs : (3 : Int32) < kk) (E1 : Exa Z h0 mm "com/example/whipstill/whipstill/MovingWindow") (F1 : Fld Z h0 mm "com/example/whipstill/whipstill/MovingWindow" "values" "[D" (.ref t1)) (F2 : Fld Z h0 mm "com/example/whipstill/whipstill/MovingWindow" "oldest" "I" (.int (0 : Int32))) (V1 : Arv Z h0 t1 k1 .double (3 : Int32) [(.double (FP.l2d y0)), (.double (FP.l2d y1)), (.double (FP.l2d y2))] (.double (0 : UInt64))) (g1 : n0 ≤ mm) (g2 : n0 ≤ t1) :
    ∃ (T' : State) (h' : Heap) (L' : List Loc), Stand p l e R s m args below meth c T' L' (cells + 0) (slots + 0) ∧ T'.heap = h' ∧ Fr n0 L' ∧ Keep h0 h' [mm, t1] ∧ (Exa Z h' mm "com/example/whipstill/whipstill/MovingWindow") ∧ (Fld Z h' mm "com/example/whipstill/whipstill/MovingWindow" "values" "[D" (.ref t1)) ∧ (Fld Z h' mm "com/example/whipstill/whipstill/MovingWindow" "oldest" "I" (.int (1 : Int32))) ∧ (Arv Z h' t1 k1 .double (3 : Int32) [(.double (FP.l2d (w3.toInt64))), (.double (FP.l2d y1)), (.double (FP.l2d y2))] (.double (0 : UInt64))) ∧ ∀ t, Steps p.tables e below (T'.setTop (mkF m 125 #[s0, .val (.int i1), .val (.int i2), s3, s4, s5, s6, s7, s8, .val (.int (3 : Int32)), .val (.int kk), .val (.int w0), .val (.int w1), .val (.int w2), .val (.int w3), .val (.int w4), .val (.int w5), .val (.ref mm), .unset, .unset, .unset, .unset, .unset, .unset, .unset, .unset] [])) t → Steps p.tables e below (T0.setTop (mkF m 111 #[s0, .val (.int i1), .val (.int i2), s3, s4, s5, s6, s7, s8, .val (.int (3 : Int32)), .val (.int kk), .val (.int w0), .val (.int w1), .val (.int w2), .val (.int w3), .val (.int w4), .val (.int w5), .val (.ref mm), .unset, .unset, .unset, .unset, .unset, .unset, .unset, .unset] [])) t := by
  obtain ⟨cq2_, kq2_, qa2_, qb2_, qc2_⟩ := isOf hZ e0 E1
  obtain ⟨_, _, ⟨T1_, L1_, k1_, n1_⟩, -, X1_, ⟨Lc1_, hQ1_, l1_, y1_, z1_⟩, st1_⟩ := X0.virtualBack hx (y := (⟨"com/example/whipstill/whipstill/MovingWindow", "add", "(D)V"⟩ : MethodName)) (z := (⟨"com/example/whipstill/whipstill/MovingWindow", "add", "(D)V"⟩ : MethodName)) hown (mvT hZ (hw _ (List.mem_of_getElem? (i := 32) rfl))) (mvT hZ (hw _ (List.mem_of_getElem? (i := 33) rfl))) (notFace_of_selects (args := #[]) (mvT hZ (hw _ (List.mem_of_getElem? (i := 35) rfl)))) (mvT hZ (hw _ (List.mem_of_getElem? (i := 35) rfl))) (mvT hZ (hw _ (List.mem_of_getElem? (i := 34) rfl))) (by decide) (backOf (W := 0) (rmAdd3_0 l Z a0 hw [] mm (FP.l2d (w3.toInt64)) t1 k1 (FP.l2d y0) (FP.l2d y1) (FP.l2d y2) h0 n0 Z0 E1 F1 F2 V1 g1 g2) hZ (hw _ (List.mem_of_getElem? (i := 36) rfl)) (hw _ (List.mem_of_getElem? (i := 6) rfl)) (Nat.le_trans (by decide) hfr) (Nat.le_trans (by decide) hlo)) qa2_ qc2_ (g := (mkF m 122 #[s0, .val (.int i1), .val (.int i2), s3, s4, s5, s6, s7, s8, .val (.int (3 : Int32)), .val (.int kk), .val (.int w0), .val (.int w1), .val (.int w2), .val (.int w3), .val (.int w4), .val (.int w5), .val (.ref mm), .unset, .unset, .unset, .unset, .unset, .unset, .unset, .unset] [(.double (FP.l2d (w3.toInt64))), (.ref mm)])) rfl (by rw [hml]; rfl) (Steps.refl _) (argsL := [(.double (FP.l2d (w3.toInt64)))]) (rest := []) (lenOf pd_qDzV rfl) rfl (by show 2 * 0 + _ ≤ _; exact Nat.le_of_eq rfl) (hb hby at_122) (fun _ _ => ⟨rfl, e0, (Nat.le_trans (Nat.add_le_add_left (by decide : 0 ≤ 0) cells) hce), (Nat.le_trans (Nat.add_le_add_left (by decide : 0 ≤ 0) slots) hsl)⟩)
  dsimp only [Pt.U, Pt.locs, Pt.cells, Pt.slots] at X1_ l1_ y1_ z1_ st1_ hQ1_
  subst L1_ k1_ n1_
  obtain ⟨rfl, Nq1_, ek1_, p1__0, p1__1, p1__2, p1__3⟩ := hQ1_
  have N1_ := Fr.app N0 Nq1_
  have k3_ : Keep h0 T1_.heap [mm, t1] := (Keep.refl h0 [mm, t1]).trans ek1_ (allS (Or.inl (List.mem_of_getElem? (i := 0) rfl)) (allS (Or.inl (List.mem_of_getElem? (i := 1) rfl)) all0))
  refine ⟨T1_, _, _, X1_, rfl, N1_, k3_, p1__0, p1__1, p1__2, p1__3, fun t k => ?_⟩
  show Steps p.tables e below (T0.setTop (mkF m 111 #[s0, .val (.int i1), .val (.int i2), s3, s4, s5, s6, s7, s8, .val (.int (3 : Int32)), .val (.int kk), .val (.int w0), .val (.int w1), .val (.int w2), .val (.int w3), .val (.int w4), .val (.int w5), .val (.ref mm), .unset, .unset, .unset, .unset, .unset, .unset, .unset, .unset] [])) _
  refine XS.iload X0.here hx rfl (hb hby at_111) rfl ?_
  refine XS.iconst X0.here hx rfl (hb hby at_113) ?_
  refine XS.icmpNo X0.here hx rfl (hb hby at_114) rfl (tlt (hs : (3 : Int32) < kk)).2.2.2 ?_
  show Steps p.tables e below (T0.setTop (mkF m 117 #[s0, .val (.int i1), .val (.int i2), s3, s4, s5, s6, s7, s8, .val (.int (3 : Int32)), .val (.int kk), .val (.int w0), .val (.int w1), .val (.int w2), .val (.int w3), .val (.int w4), .val (.int w5), .val (.ref mm), .unset, .unset, .unset, .unset, .unset, .unset, .unset, .unset] [])) _
  refine XS.aload X0.here hx rfl (hb hby at_117) rfl rfl ?_
  refine XS.iload X0.here hx rfl (hb hby at_119) rfl ?_
  refine XS.i2dS X0.here hx rfl (hb hby at_121) rfl (v := (FP.l2d (w3.toInt64))) (i2d_w w3) ?_
  show Steps p.tables e below (T0.setTop (mkF m 122 #[s0, .val (.int i1), .val (.int i2), s3, s4, s5, s6, s7, s8, .val (.int (3 : Int32)), .val (.int kk), .val (.int w0), .val (.int w1), .val (.int w2), .val (.int w3), .val (.int w4), .val (.int w5), .val (.ref mm), .unset, .unset, .unset, .unset, .unset, .unset, .unset, .unset] [(.double (FP.l2d (w3.toInt64))), (.ref mm)])) _
  refine st1_.trans ?_
  exact k
set_option maxRecDepth 65536 in
set_option maxHeartbeats 40000000 in
theorem pcT4_3 {p : Program} {l : Launch} {e : Env} {R : Room} {s : State} {m : MethodId} {args : Array Value} {below : List Frame} {meth : Method} {c : Code} {T0 : State} {locs : List Loc} {cells slots : Nat} (Z : State) (a0 : Array Value) (hw : ∀ d ∈ tables_1, d.before a0 Z = true) (X0 : Stand p l e R s m args below meth c T0 locs cells slots) (hx : p.tables.exec = Jvm.exec) (hZ : Z.Warmed39 s.vm) (hby : c.code = code) (hml : c.maxLocals = 26) (hown : s.vm.findClass "com/example/whipstill/whipstill/MovingWindowMeanAbovePinLaw" = some m.cls) (s0 : Slot) (i1 : Int32) (i2 : Int32) (s3 : Slot) (s4 : Slot) (s5 : Slot) (s6 : Slot) (s7 : Slot) (s8 : Slot) (kk : Int32) (w0 : Int32) (w1 : Int32) (w2 : Int32) (w3 : Int32) (w4 : Int32) (w5 : Int32) (mm : Addr) (t1 : Addr) (k1 : ClassId) (y0 : Int64) (y1 : Int64) (y2 : Int64) (y3 : Int64) (h0 : Heap) (n0 : Nat) (Z0 : n0 ≤ h0.size) (e0 : T0.heap = h0) (N0 : Fr n0 locs) (hfr : 1 ≤ R.frames) (hlo : 14 ≤ R.locals) (hce : cells + 0 ≤ R.cells) (hsl : slots + 0 ≤ R.slots) (hs : (3 : Int32) < kk) (E1 : Exa Z h0 mm "com/example/whipstill/whipstill/MovingWindow") (F1 : Fld Z h0 mm "com/example/whipstill/whipstill/MovingWindow" "values" "[D" (.ref t1)) (F2 : Fld Z h0 mm "com/example/whipstill/whipstill/MovingWindow" "oldest" "I" (.int (3 : Int32))) (V1 : Arv Z h0 t1 k1 .double (4 : Int32) [(.double (FP.l2d y0)), (.double (FP.l2d y1)), (.double (FP.l2d y2)), (.double (FP.l2d y3))] (.double (0 : UInt64))) (g1 : n0 ≤ mm) (g2 : n0 ≤ t1) :
    ∃ (T' : State) (h' : Heap) (L' : List Loc), Stand p l e R s m args below meth c T' L' (cells + 0) (slots + 0) ∧ T'.heap = h' ∧ Fr n0 L' ∧ Keep h0 h' [mm, t1] ∧ (Exa Z h' mm "com/example/whipstill/whipstill/MovingWindow") ∧ (Fld Z h' mm "com/example/whipstill/whipstill/MovingWindow" "values" "[D" (.ref t1)) ∧ (Fld Z h' mm "com/example/whipstill/whipstill/MovingWindow" "oldest" "I" (.int (0 : Int32))) ∧ (Arv Z h' t1 k1 .double (4 : Int32) [(.double (FP.l2d y0)), (.double (FP.l2d y1)), (.double (FP.l2d y2)), (.double (FP.l2d (w3.toInt64)))] (.double (0 : UInt64))) ∧ ∀ t, Steps p.tables e below (T'.setTop (mkF m 125 #[s0, .val (.int i1), .val (.int i2), s3, s4, s5, s6, s7, s8, .val (.int (4 : Int32)), .val (.int kk), .val (.int w0), .val (.int w1), .val (.int w2), .val (.int w3), .val (.int w4), .val (.int w5), .val (.ref mm), .unset, .unset, .unset, .unset, .unset, .unset, .unset, .unset] [])) t → Steps p.tables e below (T0.setTop (mkF m 111 #[s0, .val (.int i1), .val (.int i2), s3, s4, s5, s6, s7, s8, .val (.int (4 : Int32)), .val (.int kk), .val (.int w0), .val (.int w1), .val (.int w2), .val (.int w3), .val (.int w4), .val (.int w5), .val (.ref mm), .unset, .unset, .unset, .unset, .unset, .unset, .unset, .unset] [])) t := by
  obtain ⟨cq2_, kq2_, qa2_, qb2_, qc2_⟩ := isOf hZ e0 E1
  obtain ⟨_, _, ⟨T1_, L1_, k1_, n1_⟩, -, X1_, ⟨Lc1_, hQ1_, l1_, y1_, z1_⟩, st1_⟩ := X0.virtualBack hx (y := (⟨"com/example/whipstill/whipstill/MovingWindow", "add", "(D)V"⟩ : MethodName)) (z := (⟨"com/example/whipstill/whipstill/MovingWindow", "add", "(D)V"⟩ : MethodName)) hown (mvT hZ (hw _ (List.mem_of_getElem? (i := 32) rfl))) (mvT hZ (hw _ (List.mem_of_getElem? (i := 33) rfl))) (notFace_of_selects (args := #[]) (mvT hZ (hw _ (List.mem_of_getElem? (i := 35) rfl)))) (mvT hZ (hw _ (List.mem_of_getElem? (i := 35) rfl))) (mvT hZ (hw _ (List.mem_of_getElem? (i := 34) rfl))) (by decide) (backOf (W := 0) (rmAdd4_3 l Z a0 hw [] mm (FP.l2d (w3.toInt64)) t1 k1 (FP.l2d y0) (FP.l2d y1) (FP.l2d y2) (FP.l2d y3) h0 n0 Z0 E1 F1 F2 V1 g1 g2) hZ (hw _ (List.mem_of_getElem? (i := 36) rfl)) (hw _ (List.mem_of_getElem? (i := 6) rfl)) (Nat.le_trans (by decide) hfr) (Nat.le_trans (by decide) hlo)) qa2_ qc2_ (g := (mkF m 122 #[s0, .val (.int i1), .val (.int i2), s3, s4, s5, s6, s7, s8, .val (.int (4 : Int32)), .val (.int kk), .val (.int w0), .val (.int w1), .val (.int w2), .val (.int w3), .val (.int w4), .val (.int w5), .val (.ref mm), .unset, .unset, .unset, .unset, .unset, .unset, .unset, .unset] [(.double (FP.l2d (w3.toInt64))), (.ref mm)])) rfl (by rw [hml]; rfl) (Steps.refl _) (argsL := [(.double (FP.l2d (w3.toInt64)))]) (rest := []) (lenOf pd_qDzV rfl) rfl (by show 2 * 0 + _ ≤ _; exact Nat.le_of_eq rfl) (hb hby at_122) (fun _ _ => ⟨rfl, e0, (Nat.le_trans (Nat.add_le_add_left (by decide : 0 ≤ 0) cells) hce), (Nat.le_trans (Nat.add_le_add_left (by decide : 0 ≤ 0) slots) hsl)⟩)
  dsimp only [Pt.U, Pt.locs, Pt.cells, Pt.slots] at X1_ l1_ y1_ z1_ st1_ hQ1_
  subst L1_ k1_ n1_
  obtain ⟨rfl, Nq1_, ek1_, p1__0, p1__1, p1__2, p1__3⟩ := hQ1_
  have N1_ := Fr.app N0 Nq1_
  have k3_ : Keep h0 T1_.heap [mm, t1] := (Keep.refl h0 [mm, t1]).trans ek1_ (allS (Or.inl (List.mem_of_getElem? (i := 0) rfl)) (allS (Or.inl (List.mem_of_getElem? (i := 1) rfl)) all0))
  refine ⟨T1_, _, _, X1_, rfl, N1_, k3_, p1__0, p1__1, p1__2, p1__3, fun t k => ?_⟩
  show Steps p.tables e below (T0.setTop (mkF m 111 #[s0, .val (.int i1), .val (.int i2), s3, s4, s5, s6, s7, s8, .val (.int (4 : Int32)), .val (.int kk), .val (.int w0), .val (.int w1), .val (.int w2), .val (.int w3), .val (.int w4), .val (.int w5), .val (.ref mm), .unset, .unset, .unset, .unset, .unset, .unset, .unset, .unset] [])) _
  refine XS.iload X0.here hx rfl (hb hby at_111) rfl ?_
  refine XS.iconst X0.here hx rfl (hb hby at_113) ?_
  refine XS.icmpNo X0.here hx rfl (hb hby at_114) rfl (tlt (hs : (3 : Int32) < kk)).2.2.2 ?_
  show Steps p.tables e below (T0.setTop (mkF m 117 #[s0, .val (.int i1), .val (.int i2), s3, s4, s5, s6, s7, s8, .val (.int (4 : Int32)), .val (.int kk), .val (.int w0), .val (.int w1), .val (.int w2), .val (.int w3), .val (.int w4), .val (.int w5), .val (.ref mm), .unset, .unset, .unset, .unset, .unset, .unset, .unset, .unset] [])) _
  refine XS.aload X0.here hx rfl (hb hby at_117) rfl rfl ?_
  refine XS.iload X0.here hx rfl (hb hby at_119) rfl ?_
  refine XS.i2dS X0.here hx rfl (hb hby at_121) rfl (v := (FP.l2d (w3.toInt64))) (i2d_w w3) ?_
  show Steps p.tables e below (T0.setTop (mkF m 122 #[s0, .val (.int i1), .val (.int i2), s3, s4, s5, s6, s7, s8, .val (.int (4 : Int32)), .val (.int kk), .val (.int w0), .val (.int w1), .val (.int w2), .val (.int w3), .val (.int w4), .val (.int w5), .val (.ref mm), .unset, .unset, .unset, .unset, .unset, .unset, .unset, .unset] [(.double (FP.l2d (w3.toInt64))), (.ref mm)])) _
  refine st1_.trans ?_
  exact k
set_option maxRecDepth 65536 in
set_option maxHeartbeats 40000000 in
theorem pcS4 {p : Program} {l : Launch} {e : Env} {R : Room} {s : State} {m : MethodId} {args : Array Value} {below : List Frame} {meth : Method} {c : Code} {T0 : State} {locs : List Loc} {cells slots : Nat} (Z : State) (a0 : Array Value) (hw : ∀ d ∈ tables_1, d.before a0 Z = true) (X0 : Stand p l e R s m args below meth c T0 locs cells slots) (hx : p.tables.exec = Jvm.exec) (hZ : Z.Warmed39 s.vm) (hby : c.code = code) (hml : c.maxLocals = 26) (hown : s.vm.findClass "com/example/whipstill/whipstill/MovingWindowMeanAbovePinLaw" = some m.cls) (s0 : Slot) (i1 : Int32) (i2 : Int32) (s3 : Slot) (s4 : Slot) (s5 : Slot) (s6 : Slot) (s7 : Slot) (s8 : Slot) (nn : Int32) (kk : Int32) (w0 : Int32) (w1 : Int32) (w2 : Int32) (w3 : Int32) (w4 : Int32) (w5 : Int32) (mm : Addr) (h0 : Heap) (n0 : Nat) (Z0 : n0 ≤ h0.size) (e0 : T0.heap = h0) (N0 : Fr n0 locs) (hfr : 0 ≤ R.frames) (hlo : 0 ≤ R.locals) (hce : cells + 0 ≤ R.cells) (hsl : slots + 0 ≤ R.slots) (hs : ¬ ((4 : Int32) < kk)) :
    ∃ (T' : State) (h' : Heap) (L' : List Loc), Stand p l e R s m args below meth c T' L' (cells + 0) (slots + 0) ∧ T'.heap = h' ∧ Fr n0 L' ∧ h' = h0 ∧ ∀ t, Steps p.tables e below (T'.setTop (mkF m 139 #[s0, .val (.int i1), .val (.int i2), s3, s4, s5, s6, s7, s8, .val (.int nn), .val (.int kk), .val (.int w0), .val (.int w1), .val (.int w2), .val (.int w3), .val (.int w4), .val (.int w5), .val (.ref mm), .unset, .unset, .unset, .unset, .unset, .unset, .unset, .unset] [])) t → Steps p.tables e below (T0.setTop (mkF m 125 #[s0, .val (.int i1), .val (.int i2), s3, s4, s5, s6, s7, s8, .val (.int nn), .val (.int kk), .val (.int w0), .val (.int w1), .val (.int w2), .val (.int w3), .val (.int w4), .val (.int w5), .val (.ref mm), .unset, .unset, .unset, .unset, .unset, .unset, .unset, .unset] [])) t := by
  refine ⟨T0, _, _, X0, e0, N0, rfl, fun t k => ?_⟩
  show Steps p.tables e below (T0.setTop (mkF m 125 #[s0, .val (.int i1), .val (.int i2), s3, s4, s5, s6, s7, s8, .val (.int nn), .val (.int kk), .val (.int w0), .val (.int w1), .val (.int w2), .val (.int w3), .val (.int w4), .val (.int w5), .val (.ref mm), .unset, .unset, .unset, .unset, .unset, .unset, .unset, .unset] [])) _
  refine XS.iload X0.here hx rfl (hb hby at_125) rfl ?_
  refine XS.iconst X0.here hx rfl (hb hby at_127) ?_
  refine XS.icmpYes X0.here hx rfl (pc0 := 128) (pc' := 139) rfl (hb hby at_128) rfl (flt (hs : ¬ ((4 : Int32) < kk))).2.2.2 (by decide) (by decide) ?_
  exact k
set_option maxRecDepth 65536 in
set_option maxHeartbeats 40000000 in
theorem pcT1_4 {p : Program} {l : Launch} {e : Env} {R : Room} {s : State} {m : MethodId} {args : Array Value} {below : List Frame} {meth : Method} {c : Code} {T0 : State} {locs : List Loc} {cells slots : Nat} (Z : State) (a0 : Array Value) (hw : ∀ d ∈ tables_1, d.before a0 Z = true) (X0 : Stand p l e R s m args below meth c T0 locs cells slots) (hx : p.tables.exec = Jvm.exec) (hZ : Z.Warmed39 s.vm) (hby : c.code = code) (hml : c.maxLocals = 26) (hown : s.vm.findClass "com/example/whipstill/whipstill/MovingWindowMeanAbovePinLaw" = some m.cls) (s0 : Slot) (i1 : Int32) (i2 : Int32) (s3 : Slot) (s4 : Slot) (s5 : Slot) (s6 : Slot) (s7 : Slot) (s8 : Slot) (kk : Int32) (w0 : Int32) (w1 : Int32) (w2 : Int32) (w3 : Int32) (w4 : Int32) (w5 : Int32) (mm : Addr) (t1 : Addr) (k1 : ClassId) (y0 : Int64) (h0 : Heap) (n0 : Nat) (Z0 : n0 ≤ h0.size) (e0 : T0.heap = h0) (N0 : Fr n0 locs) (hfr : 1 ≤ R.frames) (hlo : 14 ≤ R.locals) (hce : cells + 0 ≤ R.cells) (hsl : slots + 0 ≤ R.slots) (hs : (4 : Int32) < kk) (E1 : Exa Z h0 mm "com/example/whipstill/whipstill/MovingWindow") (F1 : Fld Z h0 mm "com/example/whipstill/whipstill/MovingWindow" "values" "[D" (.ref t1)) (F2 : Fld Z h0 mm "com/example/whipstill/whipstill/MovingWindow" "oldest" "I" (.int (0 : Int32))) (V1 : Arv Z h0 t1 k1 .double (1 : Int32) [(.double (FP.l2d y0))] (.double (0 : UInt64))) (g1 : n0 ≤ mm) (g2 : n0 ≤ t1) :
    ∃ (T' : State) (h' : Heap) (L' : List Loc), Stand p l e R s m args below meth c T' L' (cells + 0) (slots + 0) ∧ T'.heap = h' ∧ Fr n0 L' ∧ Keep h0 h' [mm, t1] ∧ (Exa Z h' mm "com/example/whipstill/whipstill/MovingWindow") ∧ (Fld Z h' mm "com/example/whipstill/whipstill/MovingWindow" "values" "[D" (.ref t1)) ∧ (Fld Z h' mm "com/example/whipstill/whipstill/MovingWindow" "oldest" "I" (.int (0 : Int32))) ∧ (Arv Z h' t1 k1 .double (1 : Int32) [(.double (FP.l2d (w4.toInt64)))] (.double (0 : UInt64))) ∧ ∀ t, Steps p.tables e below (T'.setTop (mkF m 139 #[s0, .val (.int i1), .val (.int i2), s3, s4, s5, s6, s7, s8, .val (.int (1 : Int32)), .val (.int kk), .val (.int w0), .val (.int w1), .val (.int w2), .val (.int w3), .val (.int w4), .val (.int w5), .val (.ref mm), .unset, .unset, .unset, .unset, .unset, .unset, .unset, .unset] [])) t → Steps p.tables e below (T0.setTop (mkF m 125 #[s0, .val (.int i1), .val (.int i2), s3, s4, s5, s6, s7, s8, .val (.int (1 : Int32)), .val (.int kk), .val (.int w0), .val (.int w1), .val (.int w2), .val (.int w3), .val (.int w4), .val (.int w5), .val (.ref mm), .unset, .unset, .unset, .unset, .unset, .unset, .unset, .unset] [])) t := by
  obtain ⟨cq2_, kq2_, qa2_, qb2_, qc2_⟩ := isOf hZ e0 E1
  obtain ⟨_, _, ⟨T1_, L1_, k1_, n1_⟩, -, X1_, ⟨Lc1_, hQ1_, l1_, y1_, z1_⟩, st1_⟩ := X0.virtualBack hx (y := (⟨"com/example/whipstill/whipstill/MovingWindow", "add", "(D)V"⟩ : MethodName)) (z := (⟨"com/example/whipstill/whipstill/MovingWindow", "add", "(D)V"⟩ : MethodName)) hown (mvT hZ (hw _ (List.mem_of_getElem? (i := 32) rfl))) (mvT hZ (hw _ (List.mem_of_getElem? (i := 33) rfl))) (notFace_of_selects (args := #[]) (mvT hZ (hw _ (List.mem_of_getElem? (i := 35) rfl)))) (mvT hZ (hw _ (List.mem_of_getElem? (i := 35) rfl))) (mvT hZ (hw _ (List.mem_of_getElem? (i := 34) rfl))) (by decide) (backOf (W := 0) (rmAdd1_0 l Z a0 hw [] mm (FP.l2d (w4.toInt64)) t1 k1 (FP.l2d y0) h0 n0 Z0 E1 F1 F2 V1 g1 g2) hZ (hw _ (List.mem_of_getElem? (i := 36) rfl)) (hw _ (List.mem_of_getElem? (i := 6) rfl)) (Nat.le_trans (by decide) hfr) (Nat.le_trans (by decide) hlo)) qa2_ qc2_ (g := (mkF m 136 #[s0, .val (.int i1), .val (.int i2), s3, s4, s5, s6, s7, s8, .val (.int (1 : Int32)), .val (.int kk), .val (.int w0), .val (.int w1), .val (.int w2), .val (.int w3), .val (.int w4), .val (.int w5), .val (.ref mm), .unset, .unset, .unset, .unset, .unset, .unset, .unset, .unset] [(.double (FP.l2d (w4.toInt64))), (.ref mm)])) rfl (by rw [hml]; rfl) (Steps.refl _) (argsL := [(.double (FP.l2d (w4.toInt64)))]) (rest := []) (lenOf pd_qDzV rfl) rfl (by show 2 * 0 + _ ≤ _; exact Nat.le_of_eq rfl) (hb hby at_136) (fun _ _ => ⟨rfl, e0, (Nat.le_trans (Nat.add_le_add_left (by decide : 0 ≤ 0) cells) hce), (Nat.le_trans (Nat.add_le_add_left (by decide : 0 ≤ 0) slots) hsl)⟩)
  dsimp only [Pt.U, Pt.locs, Pt.cells, Pt.slots] at X1_ l1_ y1_ z1_ st1_ hQ1_
  subst L1_ k1_ n1_
  obtain ⟨rfl, Nq1_, ek1_, p1__0, p1__1, p1__2, p1__3⟩ := hQ1_
  have N1_ := Fr.app N0 Nq1_
  have k3_ : Keep h0 T1_.heap [mm, t1] := (Keep.refl h0 [mm, t1]).trans ek1_ (allS (Or.inl (List.mem_of_getElem? (i := 0) rfl)) (allS (Or.inl (List.mem_of_getElem? (i := 1) rfl)) all0))
  refine ⟨T1_, _, _, X1_, rfl, N1_, k3_, p1__0, p1__1, p1__2, p1__3, fun t k => ?_⟩
  show Steps p.tables e below (T0.setTop (mkF m 125 #[s0, .val (.int i1), .val (.int i2), s3, s4, s5, s6, s7, s8, .val (.int (1 : Int32)), .val (.int kk), .val (.int w0), .val (.int w1), .val (.int w2), .val (.int w3), .val (.int w4), .val (.int w5), .val (.ref mm), .unset, .unset, .unset, .unset, .unset, .unset, .unset, .unset] [])) _
  refine XS.iload X0.here hx rfl (hb hby at_125) rfl ?_
  refine XS.iconst X0.here hx rfl (hb hby at_127) ?_
  refine XS.icmpNo X0.here hx rfl (hb hby at_128) rfl (tlt (hs : (4 : Int32) < kk)).2.2.2 ?_
  show Steps p.tables e below (T0.setTop (mkF m 131 #[s0, .val (.int i1), .val (.int i2), s3, s4, s5, s6, s7, s8, .val (.int (1 : Int32)), .val (.int kk), .val (.int w0), .val (.int w1), .val (.int w2), .val (.int w3), .val (.int w4), .val (.int w5), .val (.ref mm), .unset, .unset, .unset, .unset, .unset, .unset, .unset, .unset] [])) _
  refine XS.aload X0.here hx rfl (hb hby at_131) rfl rfl ?_
  refine XS.iload X0.here hx rfl (hb hby at_133) rfl ?_
  refine XS.i2dS X0.here hx rfl (hb hby at_135) rfl (v := (FP.l2d (w4.toInt64))) (i2d_w w4) ?_
  show Steps p.tables e below (T0.setTop (mkF m 136 #[s0, .val (.int i1), .val (.int i2), s3, s4, s5, s6, s7, s8, .val (.int (1 : Int32)), .val (.int kk), .val (.int w0), .val (.int w1), .val (.int w2), .val (.int w3), .val (.int w4), .val (.int w5), .val (.ref mm), .unset, .unset, .unset, .unset, .unset, .unset, .unset, .unset] [(.double (FP.l2d (w4.toInt64))), (.ref mm)])) _
  refine st1_.trans ?_
  exact k
set_option maxRecDepth 65536 in
set_option maxHeartbeats 40000000 in
theorem pcT2_4 {p : Program} {l : Launch} {e : Env} {R : Room} {s : State} {m : MethodId} {args : Array Value} {below : List Frame} {meth : Method} {c : Code} {T0 : State} {locs : List Loc} {cells slots : Nat} (Z : State) (a0 : Array Value) (hw : ∀ d ∈ tables_1, d.before a0 Z = true) (X0 : Stand p l e R s m args below meth c T0 locs cells slots) (hx : p.tables.exec = Jvm.exec) (hZ : Z.Warmed39 s.vm) (hby : c.code = code) (hml : c.maxLocals = 26) (hown : s.vm.findClass "com/example/whipstill/whipstill/MovingWindowMeanAbovePinLaw" = some m.cls) (s0 : Slot) (i1 : Int32) (i2 : Int32) (s3 : Slot) (s4 : Slot) (s5 : Slot) (s6 : Slot) (s7 : Slot) (s8 : Slot) (kk : Int32) (w0 : Int32) (w1 : Int32) (w2 : Int32) (w3 : Int32) (w4 : Int32) (w5 : Int32) (mm : Addr) (t1 : Addr) (k1 : ClassId) (y0 : Int64) (y1 : Int64) (h0 : Heap) (n0 : Nat) (Z0 : n0 ≤ h0.size) (e0 : T0.heap = h0) (N0 : Fr n0 locs) (hfr : 1 ≤ R.frames) (hlo : 14 ≤ R.locals) (hce : cells + 0 ≤ R.cells) (hsl : slots + 0 ≤ R.slots) (hs : (4 : Int32) < kk) (E1 : Exa Z h0 mm "com/example/whipstill/whipstill/MovingWindow") (F1 : Fld Z h0 mm "com/example/whipstill/whipstill/MovingWindow" "values" "[D" (.ref t1)) (F2 : Fld Z h0 mm "com/example/whipstill/whipstill/MovingWindow" "oldest" "I" (.int (0 : Int32))) (V1 : Arv Z h0 t1 k1 .double (2 : Int32) [(.double (FP.l2d y0)), (.double (FP.l2d y1))] (.double (0 : UInt64))) (g1 : n0 ≤ mm) (g2 : n0 ≤ t1) :
    ∃ (T' : State) (h' : Heap) (L' : List Loc), Stand p l e R s m args below meth c T' L' (cells + 0) (slots + 0) ∧ T'.heap = h' ∧ Fr n0 L' ∧ Keep h0 h' [mm, t1] ∧ (Exa Z h' mm "com/example/whipstill/whipstill/MovingWindow") ∧ (Fld Z h' mm "com/example/whipstill/whipstill/MovingWindow" "values" "[D" (.ref t1)) ∧ (Fld Z h' mm "com/example/whipstill/whipstill/MovingWindow" "oldest" "I" (.int (1 : Int32))) ∧ (Arv Z h' t1 k1 .double (2 : Int32) [(.double (FP.l2d (w4.toInt64))), (.double (FP.l2d y1))] (.double (0 : UInt64))) ∧ ∀ t, Steps p.tables e below (T'.setTop (mkF m 139 #[s0, .val (.int i1), .val (.int i2), s3, s4, s5, s6, s7, s8, .val (.int (2 : Int32)), .val (.int kk), .val (.int w0), .val (.int w1), .val (.int w2), .val (.int w3), .val (.int w4), .val (.int w5), .val (.ref mm), .unset, .unset, .unset, .unset, .unset, .unset, .unset, .unset] [])) t → Steps p.tables e below (T0.setTop (mkF m 125 #[s0, .val (.int i1), .val (.int i2), s3, s4, s5, s6, s7, s8, .val (.int (2 : Int32)), .val (.int kk), .val (.int w0), .val (.int w1), .val (.int w2), .val (.int w3), .val (.int w4), .val (.int w5), .val (.ref mm), .unset, .unset, .unset, .unset, .unset, .unset, .unset, .unset] [])) t := by
  obtain ⟨cq2_, kq2_, qa2_, qb2_, qc2_⟩ := isOf hZ e0 E1
  obtain ⟨_, _, ⟨T1_, L1_, k1_, n1_⟩, -, X1_, ⟨Lc1_, hQ1_, l1_, y1_, z1_⟩, st1_⟩ := X0.virtualBack hx (y := (⟨"com/example/whipstill/whipstill/MovingWindow", "add", "(D)V"⟩ : MethodName)) (z := (⟨"com/example/whipstill/whipstill/MovingWindow", "add", "(D)V"⟩ : MethodName)) hown (mvT hZ (hw _ (List.mem_of_getElem? (i := 32) rfl))) (mvT hZ (hw _ (List.mem_of_getElem? (i := 33) rfl))) (notFace_of_selects (args := #[]) (mvT hZ (hw _ (List.mem_of_getElem? (i := 35) rfl)))) (mvT hZ (hw _ (List.mem_of_getElem? (i := 35) rfl))) (mvT hZ (hw _ (List.mem_of_getElem? (i := 34) rfl))) (by decide) (backOf (W := 0) (rmAdd2_0 l Z a0 hw [] mm (FP.l2d (w4.toInt64)) t1 k1 (FP.l2d y0) (FP.l2d y1) h0 n0 Z0 E1 F1 F2 V1 g1 g2) hZ (hw _ (List.mem_of_getElem? (i := 36) rfl)) (hw _ (List.mem_of_getElem? (i := 6) rfl)) (Nat.le_trans (by decide) hfr) (Nat.le_trans (by decide) hlo)) qa2_ qc2_ (g := (mkF m 136 #[s0, .val (.int i1), .val (.int i2), s3, s4, s5, s6, s7, s8, .val (.int (2 : Int32)), .val (.int kk), .val (.int w0), .val (.int w1), .val (.int w2), .val (.int w3), .val (.int w4), .val (.int w5), .val (.ref mm), .unset, .unset, .unset, .unset, .unset, .unset, .unset, .unset] [(.double (FP.l2d (w4.toInt64))), (.ref mm)])) rfl (by rw [hml]; rfl) (Steps.refl _) (argsL := [(.double (FP.l2d (w4.toInt64)))]) (rest := []) (lenOf pd_qDzV rfl) rfl (by show 2 * 0 + _ ≤ _; exact Nat.le_of_eq rfl) (hb hby at_136) (fun _ _ => ⟨rfl, e0, (Nat.le_trans (Nat.add_le_add_left (by decide : 0 ≤ 0) cells) hce), (Nat.le_trans (Nat.add_le_add_left (by decide : 0 ≤ 0) slots) hsl)⟩)
  dsimp only [Pt.U, Pt.locs, Pt.cells, Pt.slots] at X1_ l1_ y1_ z1_ st1_ hQ1_
  subst L1_ k1_ n1_
  obtain ⟨rfl, Nq1_, ek1_, p1__0, p1__1, p1__2, p1__3⟩ := hQ1_
  have N1_ := Fr.app N0 Nq1_
  have k3_ : Keep h0 T1_.heap [mm, t1] := (Keep.refl h0 [mm, t1]).trans ek1_ (allS (Or.inl (List.mem_of_getElem? (i := 0) rfl)) (allS (Or.inl (List.mem_of_getElem? (i := 1) rfl)) all0))
  refine ⟨T1_, _, _, X1_, rfl, N1_, k3_, p1__0, p1__1, p1__2, p1__3, fun t k => ?_⟩
  show Steps p.tables e below (T0.setTop (mkF m 125 #[s0, .val (.int i1), .val (.int i2), s3, s4, s5, s6, s7, s8, .val (.int (2 : Int32)), .val (.int kk), .val (.int w0), .val (.int w1), .val (.int w2), .val (.int w3), .val (.int w4), .val (.int w5), .val (.ref mm), .unset, .unset, .unset, .unset, .unset, .unset, .unset, .unset] [])) _
  refine XS.iload X0.here hx rfl (hb hby at_125) rfl ?_
  refine XS.iconst X0.here hx rfl (hb hby at_127) ?_
  refine XS.icmpNo X0.here hx rfl (hb hby at_128) rfl (tlt (hs : (4 : Int32) < kk)).2.2.2 ?_
  show Steps p.tables e below (T0.setTop (mkF m 131 #[s0, .val (.int i1), .val (.int i2), s3, s4, s5, s6, s7, s8, .val (.int (2 : Int32)), .val (.int kk), .val (.int w0), .val (.int w1), .val (.int w2), .val (.int w3), .val (.int w4), .val (.int w5), .val (.ref mm), .unset, .unset, .unset, .unset, .unset, .unset, .unset, .unset] [])) _
  refine XS.aload X0.here hx rfl (hb hby at_131) rfl rfl ?_
  refine XS.iload X0.here hx rfl (hb hby at_133) rfl ?_
  refine XS.i2dS X0.here hx rfl (hb hby at_135) rfl (v := (FP.l2d (w4.toInt64))) (i2d_w w4) ?_
  show Steps p.tables e below (T0.setTop (mkF m 136 #[s0, .val (.int i1), .val (.int i2), s3, s4, s5, s6, s7, s8, .val (.int (2 : Int32)), .val (.int kk), .val (.int w0), .val (.int w1), .val (.int w2), .val (.int w3), .val (.int w4), .val (.int w5), .val (.ref mm), .unset, .unset, .unset, .unset, .unset, .unset, .unset, .unset] [(.double (FP.l2d (w4.toInt64))), (.ref mm)])) _
  refine st1_.trans ?_
  exact k
set_option maxRecDepth 65536 in
set_option maxHeartbeats 40000000 in
theorem pcT3_4 {p : Program} {l : Launch} {e : Env} {R : Room} {s : State} {m : MethodId} {args : Array Value} {below : List Frame} {meth : Method} {c : Code} {T0 : State} {locs : List Loc} {cells slots : Nat} (Z : State) (a0 : Array Value) (hw : ∀ d ∈ tables_1, d.before a0 Z = true) (X0 : Stand p l e R s m args below meth c T0 locs cells slots) (hx : p.tables.exec = Jvm.exec) (hZ : Z.Warmed39 s.vm) (hby : c.code = code) (hml : c.maxLocals = 26) (hown : s.vm.findClass "com/example/whipstill/whipstill/MovingWindowMeanAbovePinLaw" = some m.cls) (s0 : Slot) (i1 : Int32) (i2 : Int32) (s3 : Slot) (s4 : Slot) (s5 : Slot) (s6 : Slot) (s7 : Slot) (s8 : Slot) (kk : Int32) (w0 : Int32) (w1 : Int32) (w2 : Int32) (w3 : Int32) (w4 : Int32) (w5 : Int32) (mm : Addr) (t1 : Addr) (k1 : ClassId) (y0 : Int64) (y1 : Int64) (y2 : Int64) (h0 : Heap) (n0 : Nat) (Z0 : n0 ≤ h0.size) (e0 : T0.heap = h0) (N0 : Fr n0 locs) (hfr : 1 ≤ R.frames) (hlo : 14 ≤ R.locals) (hce : cells + 0 ≤ R.cells) (hsl : slots + 0 ≤ R.slots) (hs : (4 : Int32) < kk) (E1 : Exa Z h0 mm "com/example/whipstill/whipstill/MovingWindow") (F1 : Fld Z h0 mm "com/example/whipstill/whipstill/MovingWindow" "values" "[D" (.ref t1)) (F2 : Fld Z h0 mm "com/example/whipstill/whipstill/MovingWindow" "oldest" "I" (.int (1 : Int32))) (V1 : Arv Z h0 t1 k1 .double (3 : Int32) [(.double (FP.l2d y0)), (.double (FP.l2d y1)), (.double (FP.l2d y2))] (.double (0 : UInt64))) (g1 : n0 ≤ mm) (g2 : n0 ≤ t1) :
    ∃ (T' : State) (h' : Heap) (L' : List Loc), Stand p l e R s m args below meth c T' L' (cells + 0) (slots + 0) ∧ T'.heap = h' ∧ Fr n0 L' ∧ Keep h0 h' [mm, t1] ∧ (Exa Z h' mm "com/example/whipstill/whipstill/MovingWindow") ∧ (Fld Z h' mm "com/example/whipstill/whipstill/MovingWindow" "values" "[D" (.ref t1)) ∧ (Fld Z h' mm "com/example/whipstill/whipstill/MovingWindow" "oldest" "I" (.int (2 : Int32))) ∧ (Arv Z h' t1 k1 .double (3 : Int32) [(.double (FP.l2d y0)), (.double (FP.l2d (w4.toInt64))), (.double (FP.l2d y2))] (.double (0 : UInt64))) ∧ ∀ t, Steps p.tables e below (T'.setTop (mkF m 139 #[s0, .val (.int i1), .val (.int i2), s3, s4, s5, s6, s7, s8, .val (.int (3 : Int32)), .val (.int kk), .val (.int w0), .val (.int w1), .val (.int w2), .val (.int w3), .val (.int w4), .val (.int w5), .val (.ref mm), .unset, .unset, .unset, .unset, .unset, .unset, .unset, .unset] [])) t → Steps p.tables e below (T0.setTop (mkF m 125 #[s0, .val (.int i1), .val (.int i2), s3, s4, s5, s6, s7, s8, .val (.int (3 : Int32)), .val (.int kk), .val (.int w0), .val (.int w1), .val (.int w2), .val (.int w3), .val (.int w4), .val (.int w5), .val (.ref mm), .unset, .unset, .unset, .unset, .unset, .unset, .unset, .unset] [])) t := by
  obtain ⟨cq2_, kq2_, qa2_, qb2_, qc2_⟩ := isOf hZ e0 E1
  obtain ⟨_, _, ⟨T1_, L1_, k1_, n1_⟩, -, X1_, ⟨Lc1_, hQ1_, l1_, y1_, z1_⟩, st1_⟩ := X0.virtualBack hx (y := (⟨"com/example/whipstill/whipstill/MovingWindow", "add", "(D)V"⟩ : MethodName)) (z := (⟨"com/example/whipstill/whipstill/MovingWindow", "add", "(D)V"⟩ : MethodName)) hown (mvT hZ (hw _ (List.mem_of_getElem? (i := 32) rfl))) (mvT hZ (hw _ (List.mem_of_getElem? (i := 33) rfl))) (notFace_of_selects (args := #[]) (mvT hZ (hw _ (List.mem_of_getElem? (i := 35) rfl)))) (mvT hZ (hw _ (List.mem_of_getElem? (i := 35) rfl))) (mvT hZ (hw _ (List.mem_of_getElem? (i := 34) rfl))) (by decide) (backOf (W := 0) (rmAdd3_1 l Z a0 hw [] mm (FP.l2d (w4.toInt64)) t1 k1 (FP.l2d y0) (FP.l2d y1) (FP.l2d y2) h0 n0 Z0 E1 F1 F2 V1 g1 g2) hZ (hw _ (List.mem_of_getElem? (i := 36) rfl)) (hw _ (List.mem_of_getElem? (i := 6) rfl)) (Nat.le_trans (by decide) hfr) (Nat.le_trans (by decide) hlo)) qa2_ qc2_ (g := (mkF m 136 #[s0, .val (.int i1), .val (.int i2), s3, s4, s5, s6, s7, s8, .val (.int (3 : Int32)), .val (.int kk), .val (.int w0), .val (.int w1), .val (.int w2), .val (.int w3), .val (.int w4), .val (.int w5), .val (.ref mm), .unset, .unset, .unset, .unset, .unset, .unset, .unset, .unset] [(.double (FP.l2d (w4.toInt64))), (.ref mm)])) rfl (by rw [hml]; rfl) (Steps.refl _) (argsL := [(.double (FP.l2d (w4.toInt64)))]) (rest := []) (lenOf pd_qDzV rfl) rfl (by show 2 * 0 + _ ≤ _; exact Nat.le_of_eq rfl) (hb hby at_136) (fun _ _ => ⟨rfl, e0, (Nat.le_trans (Nat.add_le_add_left (by decide : 0 ≤ 0) cells) hce), (Nat.le_trans (Nat.add_le_add_left (by decide : 0 ≤ 0) slots) hsl)⟩)
  dsimp only [Pt.U, Pt.locs, Pt.cells, Pt.slots] at X1_ l1_ y1_ z1_ st1_ hQ1_
  subst L1_ k1_ n1_
  obtain ⟨rfl, Nq1_, ek1_, p1__0, p1__1, p1__2, p1__3⟩ := hQ1_
  have N1_ := Fr.app N0 Nq1_
  have k3_ : Keep h0 T1_.heap [mm, t1] := (Keep.refl h0 [mm, t1]).trans ek1_ (allS (Or.inl (List.mem_of_getElem? (i := 0) rfl)) (allS (Or.inl (List.mem_of_getElem? (i := 1) rfl)) all0))
  refine ⟨T1_, _, _, X1_, rfl, N1_, k3_, p1__0, p1__1, p1__2, p1__3, fun t k => ?_⟩
  show Steps p.tables e below (T0.setTop (mkF m 125 #[s0, .val (.int i1), .val (.int i2), s3, s4, s5, s6, s7, s8, .val (.int (3 : Int32)), .val (.int kk), .val (.int w0), .val (.int w1), .val (.int w2), .val (.int w3), .val (.int w4), .val (.int w5), .val (.ref mm), .unset, .unset, .unset, .unset, .unset, .unset, .unset, .unset] [])) _
  refine XS.iload X0.here hx rfl (hb hby at_125) rfl ?_
  refine XS.iconst X0.here hx rfl (hb hby at_127) ?_
  refine XS.icmpNo X0.here hx rfl (hb hby at_128) rfl (tlt (hs : (4 : Int32) < kk)).2.2.2 ?_
  show Steps p.tables e below (T0.setTop (mkF m 131 #[s0, .val (.int i1), .val (.int i2), s3, s4, s5, s6, s7, s8, .val (.int (3 : Int32)), .val (.int kk), .val (.int w0), .val (.int w1), .val (.int w2), .val (.int w3), .val (.int w4), .val (.int w5), .val (.ref mm), .unset, .unset, .unset, .unset, .unset, .unset, .unset, .unset] [])) _
  refine XS.aload X0.here hx rfl (hb hby at_131) rfl rfl ?_
  refine XS.iload X0.here hx rfl (hb hby at_133) rfl ?_
  refine XS.i2dS X0.here hx rfl (hb hby at_135) rfl (v := (FP.l2d (w4.toInt64))) (i2d_w w4) ?_
  show Steps p.tables e below (T0.setTop (mkF m 136 #[s0, .val (.int i1), .val (.int i2), s3, s4, s5, s6, s7, s8, .val (.int (3 : Int32)), .val (.int kk), .val (.int w0), .val (.int w1), .val (.int w2), .val (.int w3), .val (.int w4), .val (.int w5), .val (.ref mm), .unset, .unset, .unset, .unset, .unset, .unset, .unset, .unset] [(.double (FP.l2d (w4.toInt64))), (.ref mm)])) _
  refine st1_.trans ?_
  exact k
set_option maxRecDepth 65536 in
set_option maxHeartbeats 40000000 in
theorem pcT4_4 {p : Program} {l : Launch} {e : Env} {R : Room} {s : State} {m : MethodId} {args : Array Value} {below : List Frame} {meth : Method} {c : Code} {T0 : State} {locs : List Loc} {cells slots : Nat} (Z : State) (a0 : Array Value) (hw : ∀ d ∈ tables_1, d.before a0 Z = true) (X0 : Stand p l e R s m args below meth c T0 locs cells slots) (hx : p.tables.exec = Jvm.exec) (hZ : Z.Warmed39 s.vm) (hby : c.code = code) (hml : c.maxLocals = 26) (hown : s.vm.findClass "com/example/whipstill/whipstill/MovingWindowMeanAbovePinLaw" = some m.cls) (s0 : Slot) (i1 : Int32) (i2 : Int32) (s3 : Slot) (s4 : Slot) (s5 : Slot) (s6 : Slot) (s7 : Slot) (s8 : Slot) (kk : Int32) (w0 : Int32) (w1 : Int32) (w2 : Int32) (w3 : Int32) (w4 : Int32) (w5 : Int32) (mm : Addr) (t1 : Addr) (k1 : ClassId) (y0 : Int64) (y1 : Int64) (y2 : Int64) (y3 : Int64) (h0 : Heap) (n0 : Nat) (Z0 : n0 ≤ h0.size) (e0 : T0.heap = h0) (N0 : Fr n0 locs) (hfr : 1 ≤ R.frames) (hlo : 14 ≤ R.locals) (hce : cells + 0 ≤ R.cells) (hsl : slots + 0 ≤ R.slots) (hs : (4 : Int32) < kk) (E1 : Exa Z h0 mm "com/example/whipstill/whipstill/MovingWindow") (F1 : Fld Z h0 mm "com/example/whipstill/whipstill/MovingWindow" "values" "[D" (.ref t1)) (F2 : Fld Z h0 mm "com/example/whipstill/whipstill/MovingWindow" "oldest" "I" (.int (0 : Int32))) (V1 : Arv Z h0 t1 k1 .double (4 : Int32) [(.double (FP.l2d y0)), (.double (FP.l2d y1)), (.double (FP.l2d y2)), (.double (FP.l2d y3))] (.double (0 : UInt64))) (g1 : n0 ≤ mm) (g2 : n0 ≤ t1) :
    ∃ (T' : State) (h' : Heap) (L' : List Loc), Stand p l e R s m args below meth c T' L' (cells + 0) (slots + 0) ∧ T'.heap = h' ∧ Fr n0 L' ∧ Keep h0 h' [mm, t1] ∧ (Exa Z h' mm "com/example/whipstill/whipstill/MovingWindow") ∧ (Fld Z h' mm "com/example/whipstill/whipstill/MovingWindow" "values" "[D" (.ref t1)) ∧ (Fld Z h' mm "com/example/whipstill/whipstill/MovingWindow" "oldest" "I" (.int (1 : Int32))) ∧ (Arv Z h' t1 k1 .double (4 : Int32) [(.double (FP.l2d (w4.toInt64))), (.double (FP.l2d y1)), (.double (FP.l2d y2)), (.double (FP.l2d y3))] (.double (0 : UInt64))) ∧ ∀ t, Steps p.tables e below (T'.setTop (mkF m 139 #[s0, .val (.int i1), .val (.int i2), s3, s4, s5, s6, s7, s8, .val (.int (4 : Int32)), .val (.int kk), .val (.int w0), .val (.int w1), .val (.int w2), .val (.int w3), .val (.int w4), .val (.int w5), .val (.ref mm), .unset, .unset, .unset, .unset, .unset, .unset, .unset, .unset] [])) t → Steps p.tables e below (T0.setTop (mkF m 125 #[s0, .val (.int i1), .val (.int i2), s3, s4, s5, s6, s7, s8, .val (.int (4 : Int32)), .val (.int kk), .val (.int w0), .val (.int w1), .val (.int w2), .val (.int w3), .val (.int w4), .val (.int w5), .val (.ref mm), .unset, .unset, .unset, .unset, .unset, .unset, .unset, .unset] [])) t := by
  obtain ⟨cq2_, kq2_, qa2_, qb2_, qc2_⟩ := isOf hZ e0 E1
  obtain ⟨_, _, ⟨T1_, L1_, k1_, n1_⟩, -, X1_, ⟨Lc1_, hQ1_, l1_, y1_, z1_⟩, st1_⟩ := X0.virtualBack hx (y := (⟨"com/example/whipstill/whipstill/MovingWindow", "add", "(D)V"⟩ : MethodName)) (z := (⟨"com/example/whipstill/whipstill/MovingWindow", "add", "(D)V"⟩ : MethodName)) hown (mvT hZ (hw _ (List.mem_of_getElem? (i := 32) rfl))) (mvT hZ (hw _ (List.mem_of_getElem? (i := 33) rfl))) (notFace_of_selects (args := #[]) (mvT hZ (hw _ (List.mem_of_getElem? (i := 35) rfl)))) (mvT hZ (hw _ (List.mem_of_getElem? (i := 35) rfl))) (mvT hZ (hw _ (List.mem_of_getElem? (i := 34) rfl))) (by decide) (backOf (W := 0) (rmAdd4_0 l Z a0 hw [] mm (FP.l2d (w4.toInt64)) t1 k1 (FP.l2d y0) (FP.l2d y1) (FP.l2d y2) (FP.l2d y3) h0 n0 Z0 E1 F1 F2 V1 g1 g2) hZ (hw _ (List.mem_of_getElem? (i := 36) rfl)) (hw _ (List.mem_of_getElem? (i := 6) rfl)) (Nat.le_trans (by decide) hfr) (Nat.le_trans (by decide) hlo)) qa2_ qc2_ (g := (mkF m 136 #[s0, .val (.int i1), .val (.int i2), s3, s4, s5, s6, s7, s8, .val (.int (4 : Int32)), .val (.int kk), .val (.int w0), .val (.int w1), .val (.int w2), .val (.int w3), .val (.int w4), .val (.int w5), .val (.ref mm), .unset, .unset, .unset, .unset, .unset, .unset, .unset, .unset] [(.double (FP.l2d (w4.toInt64))), (.ref mm)])) rfl (by rw [hml]; rfl) (Steps.refl _) (argsL := [(.double (FP.l2d (w4.toInt64)))]) (rest := []) (lenOf pd_qDzV rfl) rfl (by show 2 * 0 + _ ≤ _; exact Nat.le_of_eq rfl) (hb hby at_136) (fun _ _ => ⟨rfl, e0, (Nat.le_trans (Nat.add_le_add_left (by decide : 0 ≤ 0) cells) hce), (Nat.le_trans (Nat.add_le_add_left (by decide : 0 ≤ 0) slots) hsl)⟩)
  dsimp only [Pt.U, Pt.locs, Pt.cells, Pt.slots] at X1_ l1_ y1_ z1_ st1_ hQ1_
  subst L1_ k1_ n1_
  obtain ⟨rfl, Nq1_, ek1_, p1__0, p1__1, p1__2, p1__3⟩ := hQ1_
  have N1_ := Fr.app N0 Nq1_
  have k3_ : Keep h0 T1_.heap [mm, t1] := (Keep.refl h0 [mm, t1]).trans ek1_ (allS (Or.inl (List.mem_of_getElem? (i := 0) rfl)) (allS (Or.inl (List.mem_of_getElem? (i := 1) rfl)) all0))
  refine ⟨T1_, _, _, X1_, rfl, N1_, k3_, p1__0, p1__1, p1__2, p1__3, fun t k => ?_⟩
  show Steps p.tables e below (T0.setTop (mkF m 125 #[s0, .val (.int i1), .val (.int i2), s3, s4, s5, s6, s7, s8, .val (.int (4 : Int32)), .val (.int kk), .val (.int w0), .val (.int w1), .val (.int w2), .val (.int w3), .val (.int w4), .val (.int w5), .val (.ref mm), .unset, .unset, .unset, .unset, .unset, .unset, .unset, .unset] [])) _
  refine XS.iload X0.here hx rfl (hb hby at_125) rfl ?_
  refine XS.iconst X0.here hx rfl (hb hby at_127) ?_
  refine XS.icmpNo X0.here hx rfl (hb hby at_128) rfl (tlt (hs : (4 : Int32) < kk)).2.2.2 ?_
  show Steps p.tables e below (T0.setTop (mkF m 131 #[s0, .val (.int i1), .val (.int i2), s3, s4, s5, s6, s7, s8, .val (.int (4 : Int32)), .val (.int kk), .val (.int w0), .val (.int w1), .val (.int w2), .val (.int w3), .val (.int w4), .val (.int w5), .val (.ref mm), .unset, .unset, .unset, .unset, .unset, .unset, .unset, .unset] [])) _
  refine XS.aload X0.here hx rfl (hb hby at_131) rfl rfl ?_
  refine XS.iload X0.here hx rfl (hb hby at_133) rfl ?_
  refine XS.i2dS X0.here hx rfl (hb hby at_135) rfl (v := (FP.l2d (w4.toInt64))) (i2d_w w4) ?_
  show Steps p.tables e below (T0.setTop (mkF m 136 #[s0, .val (.int i1), .val (.int i2), s3, s4, s5, s6, s7, s8, .val (.int (4 : Int32)), .val (.int kk), .val (.int w0), .val (.int w1), .val (.int w2), .val (.int w3), .val (.int w4), .val (.int w5), .val (.ref mm), .unset, .unset, .unset, .unset, .unset, .unset, .unset, .unset] [(.double (FP.l2d (w4.toInt64))), (.ref mm)])) _
  refine st1_.trans ?_
  exact k
set_option maxRecDepth 65536 in
set_option maxHeartbeats 40000000 in
theorem pcS5 {p : Program} {l : Launch} {e : Env} {R : Room} {s : State} {m : MethodId} {args : Array Value} {below : List Frame} {meth : Method} {c : Code} {T0 : State} {locs : List Loc} {cells slots : Nat} (Z : State) (a0 : Array Value) (hw : ∀ d ∈ tables_1, d.before a0 Z = true) (X0 : Stand p l e R s m args below meth c T0 locs cells slots) (hx : p.tables.exec = Jvm.exec) (hZ : Z.Warmed39 s.vm) (hby : c.code = code) (hml : c.maxLocals = 26) (hown : s.vm.findClass "com/example/whipstill/whipstill/MovingWindowMeanAbovePinLaw" = some m.cls) (s0 : Slot) (i1 : Int32) (i2 : Int32) (s3 : Slot) (s4 : Slot) (s5 : Slot) (s6 : Slot) (s7 : Slot) (s8 : Slot) (nn : Int32) (kk : Int32) (w0 : Int32) (w1 : Int32) (w2 : Int32) (w3 : Int32) (w4 : Int32) (w5 : Int32) (mm : Addr) (h0 : Heap) (n0 : Nat) (Z0 : n0 ≤ h0.size) (e0 : T0.heap = h0) (N0 : Fr n0 locs) (hfr : 0 ≤ R.frames) (hlo : 0 ≤ R.locals) (hce : cells + 0 ≤ R.cells) (hsl : slots + 0 ≤ R.slots) (hs : ¬ ((5 : Int32) < kk)) :
    ∃ (T' : State) (h' : Heap) (L' : List Loc), Stand p l e R s m args below meth c T' L' (cells + 0) (slots + 0) ∧ T'.heap = h' ∧ Fr n0 L' ∧ h' = h0 ∧ ∀ t, Steps p.tables e below (T'.setTop (mkF m 153 #[s0, .val (.int i1), .val (.int i2), s3, s4, s5, s6, s7, s8, .val (.int nn), .val (.int kk), .val (.int w0), .val (.int w1), .val (.int w2), .val (.int w3), .val (.int w4), .val (.int w5), .val (.ref mm), .unset, .unset, .unset, .unset, .unset, .unset, .unset, .unset] [])) t → Steps p.tables e below (T0.setTop (mkF m 139 #[s0, .val (.int i1), .val (.int i2), s3, s4, s5, s6, s7, s8, .val (.int nn), .val (.int kk), .val (.int w0), .val (.int w1), .val (.int w2), .val (.int w3), .val (.int w4), .val (.int w5), .val (.ref mm), .unset, .unset, .unset, .unset, .unset, .unset, .unset, .unset] [])) t := by
  refine ⟨T0, _, _, X0, e0, N0, rfl, fun t k => ?_⟩
  show Steps p.tables e below (T0.setTop (mkF m 139 #[s0, .val (.int i1), .val (.int i2), s3, s4, s5, s6, s7, s8, .val (.int nn), .val (.int kk), .val (.int w0), .val (.int w1), .val (.int w2), .val (.int w3), .val (.int w4), .val (.int w5), .val (.ref mm), .unset, .unset, .unset, .unset, .unset, .unset, .unset, .unset] [])) _
  refine XS.iload X0.here hx rfl (hb hby at_139) rfl ?_
  refine XS.iconst X0.here hx rfl (hb hby at_141) ?_
  refine XS.icmpYes X0.here hx rfl (pc0 := 142) (pc' := 153) rfl (hb hby at_142) rfl (flt (hs : ¬ ((5 : Int32) < kk))).2.2.2 (by decide) (by decide) ?_
  exact k
set_option maxRecDepth 65536 in
set_option maxHeartbeats 40000000 in
theorem pcT1_5 {p : Program} {l : Launch} {e : Env} {R : Room} {s : State} {m : MethodId} {args : Array Value} {below : List Frame} {meth : Method} {c : Code} {T0 : State} {locs : List Loc} {cells slots : Nat} (Z : State) (a0 : Array Value) (hw : ∀ d ∈ tables_1, d.before a0 Z = true) (X0 : Stand p l e R s m args below meth c T0 locs cells slots) (hx : p.tables.exec = Jvm.exec) (hZ : Z.Warmed39 s.vm) (hby : c.code = code) (hml : c.maxLocals = 26) (hown : s.vm.findClass "com/example/whipstill/whipstill/MovingWindowMeanAbovePinLaw" = some m.cls) (s0 : Slot) (i1 : Int32) (i2 : Int32) (s3 : Slot) (s4 : Slot) (s5 : Slot) (s6 : Slot) (s7 : Slot) (s8 : Slot) (kk : Int32) (w0 : Int32) (w1 : Int32) (w2 : Int32) (w3 : Int32) (w4 : Int32) (w5 : Int32) (mm : Addr) (t1 : Addr) (k1 : ClassId) (y0 : Int64) (h0 : Heap) (n0 : Nat) (Z0 : n0 ≤ h0.size) (e0 : T0.heap = h0) (N0 : Fr n0 locs) (hfr : 1 ≤ R.frames) (hlo : 14 ≤ R.locals) (hce : cells + 0 ≤ R.cells) (hsl : slots + 0 ≤ R.slots) (hs : (5 : Int32) < kk) (E1 : Exa Z h0 mm "com/example/whipstill/whipstill/MovingWindow") (F1 : Fld Z h0 mm "com/example/whipstill/whipstill/MovingWindow" "values" "[D" (.ref t1)) (F2 : Fld Z h0 mm "com/example/whipstill/whipstill/MovingWindow" "oldest" "I" (.int (0 : Int32))) (V1 : Arv Z h0 t1 k1 .double (1 : Int32) [(.double (FP.l2d y0))] (.double (0 : UInt64))) (g1 : n0 ≤ mm) (g2 : n0 ≤ t1) :
    ∃ (T' : State) (h' : Heap) (L' : List Loc), Stand p l e R s m args below meth c T' L' (cells + 0) (slots + 0) ∧ T'.heap = h' ∧ Fr n0 L' ∧ Keep h0 h' [mm, t1] ∧ (Exa Z h' mm "com/example/whipstill/whipstill/MovingWindow") ∧ (Fld Z h' mm "com/example/whipstill/whipstill/MovingWindow" "values" "[D" (.ref t1)) ∧ (Fld Z h' mm "com/example/whipstill/whipstill/MovingWindow" "oldest" "I" (.int (0 : Int32))) ∧ (Arv Z h' t1 k1 .double (1 : Int32) [(.double (FP.l2d (w5.toInt64)))] (.double (0 : UInt64))) ∧ ∀ t, Steps p.tables e below (T'.setTop (mkF m 153 #[s0, .val (.int i1), .val (.int i2), s3, s4, s5, s6, s7, s8, .val (.int (1 : Int32)), .val (.int kk), .val (.int w0), .val (.int w1), .val (.int w2), .val (.int w3), .val (.int w4), .val (.int w5), .val (.ref mm), .unset, .unset, .unset, .unset, .unset, .unset, .unset, .unset] [])) t → Steps p.tables e below (T0.setTop (mkF m 139 #[s0, .val (.int i1), .val (.int i2), s3, s4, s5, s6, s7, s8, .val (.int (1 : Int32)), .val (.int kk), .val (.int w0), .val (.int w1), .val (.int w2), .val (.int w3), .val (.int w4), .val (.int w5), .val (.ref mm), .unset, .unset, .unset, .unset, .unset, .unset, .unset, .unset] [])) t := by
  obtain ⟨cq2_, kq2_, qa2_, qb2_, qc2_⟩ := isOf hZ e0 E1
  obtain ⟨_, _, ⟨T1_, L1_, k1_, n1_⟩, -, X1_, ⟨Lc1_, hQ1_, l1_, y1_, z1_⟩, st1_⟩ := X0.virtualBack hx (y := (⟨"com/example/whipstill/whipstill/MovingWindow", "add", "(D)V"⟩ : MethodName)) (z := (⟨"com/example/whipstill/whipstill/MovingWindow", "add", "(D)V"⟩ : MethodName)) hown (mvT hZ (hw _ (List.mem_of_getElem? (i := 32) rfl))) (mvT hZ (hw _ (List.mem_of_getElem? (i := 33) rfl))) (notFace_of_selects (args := #[]) (mvT hZ (hw _ (List.mem_of_getElem? (i := 35) rfl)))) (mvT hZ (hw _ (List.mem_of_getElem? (i := 35) rfl))) (mvT hZ (hw _ (List.mem_of_getElem? (i := 34) rfl))) (by decide) (backOf (W := 0) (rmAdd1_0 l Z a0 hw [] mm (FP.l2d (w5.toInt64)) t1 k1 (FP.l2d y0) h0 n0 Z0 E1 F1 F2 V1 g1 g2) hZ (hw _ (List.mem_of_getElem? (i := 36) rfl)) (hw _ (List.mem_of_getElem? (i := 6) rfl)) (Nat.le_trans (by decide) hfr) (Nat.le_trans (by decide) hlo)) qa2_ qc2_ (g := (mkF m 150 #[s0, .val (.int i1), .val (.int i2), s3, s4, s5, s6, s7, s8, .val (.int (1 : Int32)), .val (.int kk), .val (.int w0), .val (.int w1), .val (.int w2), .val (.int w3), .val (.int w4), .val (.int w5), .val (.ref mm), .unset, .unset, .unset, .unset, .unset, .unset, .unset, .unset] [(.double (FP.l2d (w5.toInt64))), (.ref mm)])) rfl (by rw [hml]; rfl) (Steps.refl _) (argsL := [(.double (FP.l2d (w5.toInt64)))]) (rest := []) (lenOf pd_qDzV rfl) rfl (by show 2 * 0 + _ ≤ _; exact Nat.le_of_eq rfl) (hb hby at_150) (fun _ _ => ⟨rfl, e0, (Nat.le_trans (Nat.add_le_add_left (by decide : 0 ≤ 0) cells) hce), (Nat.le_trans (Nat.add_le_add_left (by decide : 0 ≤ 0) slots) hsl)⟩)
  dsimp only [Pt.U, Pt.locs, Pt.cells, Pt.slots] at X1_ l1_ y1_ z1_ st1_ hQ1_
  subst L1_ k1_ n1_
  obtain ⟨rfl, Nq1_, ek1_, p1__0, p1__1, p1__2, p1__3⟩ := hQ1_
  have N1_ := Fr.app N0 Nq1_
  have k3_ : Keep h0 T1_.heap [mm, t1] := (Keep.refl h0 [mm, t1]).trans ek1_ (allS (Or.inl (List.mem_of_getElem? (i := 0) rfl)) (allS (Or.inl (List.mem_of_getElem? (i := 1) rfl)) all0))
  refine ⟨T1_, _, _, X1_, rfl, N1_, k3_, p1__0, p1__1, p1__2, p1__3, fun t k => ?_⟩
  show Steps p.tables e below (T0.setTop (mkF m 139 #[s0, .val (.int i1), .val (.int i2), s3, s4, s5, s6, s7, s8, .val (.int (1 : Int32)), .val (.int kk), .val (.int w0), .val (.int w1), .val (.int w2), .val (.int w3), .val (.int w4), .val (.int w5), .val (.ref mm), .unset, .unset, .unset, .unset, .unset, .unset, .unset, .unset] [])) _
  refine XS.iload X0.here hx rfl (hb hby at_139) rfl ?_
  refine XS.iconst X0.here hx rfl (hb hby at_141) ?_
  refine XS.icmpNo X0.here hx rfl (hb hby at_142) rfl (tlt (hs : (5 : Int32) < kk)).2.2.2 ?_
  show Steps p.tables e below (T0.setTop (mkF m 145 #[s0, .val (.int i1), .val (.int i2), s3, s4, s5, s6, s7, s8, .val (.int (1 : Int32)), .val (.int kk), .val (.int w0), .val (.int w1), .val (.int w2), .val (.int w3), .val (.int w4), .val (.int w5), .val (.ref mm), .unset, .unset, .unset, .unset, .unset, .unset, .unset, .unset] [])) _
  refine XS.aload X0.here hx rfl (hb hby at_145) rfl rfl ?_
  refine XS.iload X0.here hx rfl (hb hby at_147) rfl ?_
  refine XS.i2dS X0.here hx rfl (hb hby at_149) rfl (v := (FP.l2d (w5.toInt64))) (i2d_w w5) ?_
  show Steps p.tables e below (T0.setTop (mkF m 150 #[s0, .val (.int i1), .val (.int i2), s3, s4, s5, s6, s7, s8, .val (.int (1 : Int32)), .val (.int kk), .val (.int w0), .val (.int w1), .val (.int w2), .val (.int w3), .val (.int w4), .val (.int w5), .val (.ref mm), .unset, .unset, .unset, .unset, .unset, .unset, .unset, .unset] [(.double (FP.l2d (w5.toInt64))), (.ref mm)])) _
  refine st1_.trans ?_
  exact k
set_option maxRecDepth 65536 in
set_option maxHeartbeats 40000000 in
theorem pcT2_5 {p : Program} {l : Launch} {e : Env} {R : Room} {s : State} {m : MethodId} {args : Array Value} {below : List Frame} {meth : Method} {c : Code} {T0 : State} {locs : List Loc} {cells slots : Nat} (Z : State) (a0 : Array Value) (hw : ∀ d ∈ tables_1, d.before a0 Z = true) (X0 : Stand p l e R s m args below meth c T0 locs cells slots) (hx : p.tables.exec = Jvm.exec) (hZ : Z.Warmed39 s.vm) (hby : c.code = code) (hml : c.maxLocals = 26) (hown : s.vm.findClass "com/example/whipstill/whipstill/MovingWindowMeanAbovePinLaw" = some m.cls) (s0 : Slot) (i1 : Int32) (i2 : Int32) (s3 : Slot) (s4 : Slot) (s5 : Slot) (s6 : Slot) (s7 : Slot) (s8 : Slot) (kk : Int32) (w0 : Int32) (w1 : Int32) (w2 : Int32) (w3 : Int32) (w4 : Int32) (w5 : Int32) (mm : Addr) (t1 : Addr) (k1 : ClassId) (y0 : Int64) (y1 : Int64) (h0 : Heap) (n0 : Nat) (Z0 : n0 ≤ h0.size) (e0 : T0.heap = h0) (N0 : Fr n0 locs) (hfr : 1 ≤ R.frames) (hlo : 14 ≤ R.locals) (hce : cells + 0 ≤ R.cells) (hsl : slots + 0 ≤ R.slots) (hs : (5 : Int32) < kk) (E1 : Exa Z h0 mm "com/example/whipstill/whipstill/MovingWindow") (F1 : Fld Z h0 mm "com/example/whipstill/whipstill/MovingWindow" "values" "[D" (.ref t1)) (F2 : Fld Z h0 mm "com/example/whipstill/whipstill/MovingWindow" "oldest" "I" (.int (1 : Int32))) (V1 : Arv Z h0 t1 k1 .double (2 : Int32) [(.double (FP.l2d y0)), (.double (FP.l2d y1))] (.double (0 : UInt64))) (g1 : n0 ≤ mm) (g2 : n0 ≤ t1) :
    ∃ (T' : State) (h' : Heap) (L' : List Loc), Stand p l e R s m args below meth c T' L' (cells + 0) (slots + 0) ∧ T'.heap = h' ∧ Fr n0 L' ∧ Keep h0 h' [mm, t1] ∧ (Exa Z h' mm "com/example/whipstill/whipstill/MovingWindow") ∧ (Fld Z h' mm "com/example/whipstill/whipstill/MovingWindow" "values" "[D" (.ref t1)) ∧ (Fld Z h' mm "com/example/whipstill/whipstill/MovingWindow" "oldest" "I" (.int (0 : Int32))) ∧ (Arv Z h' t1 k1 .double (2 : Int32) [(.double (FP.l2d y0)), (.double (FP.l2d (w5.toInt64)))] (.double (0 : UInt64))) ∧ ∀ t, Steps p.tables e below (T'.setTop (mkF m 153 #[s0, .val (.int i1), .val (.int i2), s3, s4, s5, s6, s7, s8, .val (.int (2 : Int32)), .val (.int kk), .val (.int w0), .val (.int w1), .val (.int w2), .val (.int w3), .val (.int w4), .val (.int w5), .val (.ref mm), .unset, .unset, .unset, .unset, .unset, .unset, .unset, .unset] [])) t → Steps p.tables e below (T0.setTop (mkF m 139 #[s0, .val (.int i1), .val (.int i2), s3, s4, s5, s6, s7, s8, .val (.int (2 : Int32)), .val (.int kk), .val (.int w0), .val (.int w1), .val (.int w2), .val (.int w3), .val (.int w4), .val (.int w5), .val (.ref mm), .unset, .unset, .unset, .unset, .unset, .unset, .unset, .unset] [])) t := by
  obtain ⟨cq2_, kq2_, qa2_, qb2_, qc2_⟩ := isOf hZ e0 E1
  obtain ⟨_, _, ⟨T1_, L1_, k1_, n1_⟩, -, X1_, ⟨Lc1_, hQ1_, l1_, y1_, z1_⟩, st1_⟩ := X0.virtualBack hx (y := (⟨"com/example/whipstill/whipstill/MovingWindow", "add", "(D)V"⟩ : MethodName)) (z := (⟨"com/example/whipstill/whipstill/MovingWindow", "add", "(D)V"⟩ : MethodName)) hown (mvT hZ (hw _ (List.mem_of_getElem? (i := 32) rfl))) (mvT hZ (hw _ (List.mem_of_getElem? (i := 33) rfl))) (notFace_of_selects (args := #[]) (mvT hZ (hw _ (List.mem_of_getElem? (i := 35) rfl)))) (mvT hZ (hw _ (List.mem_of_getElem? (i := 35) rfl))) (mvT hZ (hw _ (List.mem_of_getElem? (i := 34) rfl))) (by decide) (backOf (W := 0) (rmAdd2_1 l Z a0 hw [] mm (FP.l2d (w5.toInt64)) t1 k1 (FP.l2d y0) (FP.l2d y1) h0 n0 Z0 E1 F1 F2 V1 g1 g2) hZ (hw _ (List.mem_of_getElem? (i := 36) rfl)) (hw _ (List.mem_of_getElem? (i := 6) rfl)) (Nat.le_trans (by decide) hfr) (Nat.le_trans (by decide) hlo)) qa2_ qc2_ (g := (mkF m 150 #[s0, .val (.int i1), .val (.int i2), s3, s4, s5, s6, s7, s8, .val (.int (2 : Int32)), .val (.int kk), .val (.int w0), .val (.int w1), .val (.int w2), .val (.int w3), .val (.int w4), .val (.int w5), .val (.ref mm), .unset, .unset, .unset, .unset, .unset, .unset, .unset, .unset] [(.double (FP.l2d (w5.toInt64))), (.ref mm)])) rfl (by rw [hml]; rfl) (Steps.refl _) (argsL := [(.double (FP.l2d (w5.toInt64)))]) (rest := []) (lenOf pd_qDzV rfl) rfl (by show 2 * 0 + _ ≤ _; exact Nat.le_of_eq rfl) (hb hby at_150) (fun _ _ => ⟨rfl, e0, (Nat.le_trans (Nat.add_le_add_left (by decide : 0 ≤ 0) cells) hce), (Nat.le_trans (Nat.add_le_add_left (by decide : 0 ≤ 0) slots) hsl)⟩)
  dsimp only [Pt.U, Pt.locs, Pt.cells, Pt.slots] at X1_ l1_ y1_ z1_ st1_ hQ1_
  subst L1_ k1_ n1_
  obtain ⟨rfl, Nq1_, ek1_, p1__0, p1__1, p1__2, p1__3⟩ := hQ1_
  have N1_ := Fr.app N0 Nq1_
  have k3_ : Keep h0 T1_.heap [mm, t1] := (Keep.refl h0 [mm, t1]).trans ek1_ (allS (Or.inl (List.mem_of_getElem? (i := 0) rfl)) (allS (Or.inl (List.mem_of_getElem? (i := 1) rfl)) all0))
  refine ⟨T1_, _, _, X1_, rfl, N1_, k3_, p1__0, p1__1, p1__2, p1__3, fun t k => ?_⟩
  show Steps p.tables e below (T0.setTop (mkF m 139 #[s0, .val (.int i1), .val (.int i2), s3, s4, s5, s6, s7, s8, .val (.int (2 : Int32)), .val (.int kk), .val (.int w0), .val (.int w1), .val (.int w2), .val (.int w3), .val (.int w4), .val (.int w5), .val (.ref mm), .unset, .unset, .unset, .unset, .unset, .unset, .unset, .unset] [])) _
  refine XS.iload X0.here hx rfl (hb hby at_139) rfl ?_
  refine XS.iconst X0.here hx rfl (hb hby at_141) ?_
  refine XS.icmpNo X0.here hx rfl (hb hby at_142) rfl (tlt (hs : (5 : Int32) < kk)).2.2.2 ?_
  show Steps p.tables e below (T0.setTop (mkF m 145 #[s0, .val (.int i1), .val (.int i2), s3, s4, s5, s6, s7, s8, .val (.int (2 : Int32)), .val (.int kk), .val (.int w0), .val (.int w1), .val (.int w2), .val (.int w3), .val (.int w4), .val (.int w5), .val (.ref mm), .unset, .unset, .unset, .unset, .unset, .unset, .unset, .unset] [])) _
  refine XS.aload X0.here hx rfl (hb hby at_145) rfl rfl ?_
  refine XS.iload X0.here hx rfl (hb hby at_147) rfl ?_
  refine XS.i2dS X0.here hx rfl (hb hby at_149) rfl (v := (FP.l2d (w5.toInt64))) (i2d_w w5) ?_
  show Steps p.tables e below (T0.setTop (mkF m 150 #[s0, .val (.int i1), .val (.int i2), s3, s4, s5, s6, s7, s8, .val (.int (2 : Int32)), .val (.int kk), .val (.int w0), .val (.int w1), .val (.int w2), .val (.int w3), .val (.int w4), .val (.int w5), .val (.ref mm), .unset, .unset, .unset, .unset, .unset, .unset, .unset, .unset] [(.double (FP.l2d (w5.toInt64))), (.ref mm)])) _
  refine st1_.trans ?_
  exact k
set_option maxRecDepth 65536 in
set_option maxHeartbeats 40000000 in
theorem pcT3_5 {p : Program} {l : Launch} {e : Env} {R : Room} {s : State} {m : MethodId} {args : Array Value} {below : List Frame} {meth : Method} {c : Code} {T0 : State} {locs : List Loc} {cells slots : Nat} (Z : State) (a0 : Array Value) (hw : ∀ d ∈ tables_1, d.before a0 Z = true) (X0 : Stand p l e R s m args below meth c T0 locs cells slots) (hx : p.tables.exec = Jvm.exec) (hZ : Z.Warmed39 s.vm) (hby : c.code = code) (hml : c.maxLocals = 26) (hown : s.vm.findClass "com/example/whipstill/whipstill/MovingWindowMeanAbovePinLaw" = some m.cls) (s0 : Slot) (i1 : Int32) (i2 : Int32) (s3 : Slot) (s4 : Slot) (s5 : Slot) (s6 : Slot) (s7 : Slot) (s8 : Slot) (kk : Int32) (w0 : Int32) (w1 : Int32) (w2 : Int32) (w3 : Int32) (w4 : Int32) (w5 : Int32) (mm : Addr) (t1 : Addr) (k1 : ClassId) (y0 : Int64) (y1 : Int64) (y2 : Int64) (h0 : Heap) (n0 : Nat) (Z0 : n0 ≤ h0.size) (e0 : T0.heap = h0) (N0 : Fr n0 locs) (hfr : 1 ≤ R.frames) (hlo : 14 ≤ R.locals) (hce : cells + 0 ≤ R.cells) (hsl : slots + 0 ≤ R.slots) (hs : (5 : Int32) < kk) (E1 : Exa Z h0 mm "com/example/whipstill/whipstill/MovingWindow") (F1 : Fld Z h0 mm "com/example/whipstill/whipstill/MovingWindow" "values" "[D" (.ref t1)) (F2 : Fld Z h0 mm "com/example/whipstill/whipstill/MovingWindow" "oldest" "I" (.int (2 : Int32))) (V1 : Arv Z h0 t1 k1 .double (3 : Int32) [(.double (FP.l2d y0)), (.double (FP.l2d y1)), (.double (FP.l2d y2))] (.double (0 : UInt64))) (g1 : n0 ≤ mm) (g2 : n0 ≤ t1) :
    ∃ (T' : State) (h' : Heap) (L' : List Loc), Stand p l e R s m args below meth c T' L' (cells + 0) (slots + 0) ∧ T'.heap = h' ∧ Fr n0 L' ∧ Keep h0 h' [mm, t1] ∧ (Exa Z h' mm "com/example/whipstill/whipstill/MovingWindow") ∧ (Fld Z h' mm "com/example/whipstill/whipstill/MovingWindow" "values" "[D" (.ref t1)) ∧ (Fld Z h' mm "com/example/whipstill/whipstill/MovingWindow" "oldest" "I" (.int (0 : Int32))) ∧ (Arv Z h' t1 k1 .double (3 : Int32) [(.double (FP.l2d y0)), (.double (FP.l2d y1)), (.double (FP.l2d (w5.toInt64)))] (.double (0 : UInt64))) ∧ ∀ t, Steps p.tables e below (T'.setTop (mkF m 153 #[s0, .val (.int i1), .val (.int i2), s3, s4, s5, s6, s7, s8, .val (.int (3 : Int32)), .val (.int kk), .val (.int w0), .val (.int w1), .val (.int w2), .val (.int w3), .val (.int w4), .val (.int w5), .val (.ref mm), .unset, .unset, .unset, .unset, .unset, .unset, .unset, .unset] [])) t → Steps p.tables e below (T0.setTop (mkF m 139 #[s0, .val (.int i1), .val (.int i2), s3, s4, s5, s6, s7, s8, .val (.int (3 : Int32)), .val (.int kk), .val (.int w0), .val (.int w1), .val (.int w2), .val (.int w3), .val (.int w4), .val (.int w5), .val (.ref mm), .unset, .unset, .unset, .unset, .unset, .unset, .unset, .unset] [])) t := by
  obtain ⟨cq2_, kq2_, qa2_, qb2_, qc2_⟩ := isOf hZ e0 E1
  obtain ⟨_, _, ⟨T1_, L1_, k1_, n1_⟩, -, X1_, ⟨Lc1_, hQ1_, l1_, y1_, z1_⟩, st1_⟩ := X0.virtualBack hx (y := (⟨"com/example/whipstill/whipstill/MovingWindow", "add", "(D)V"⟩ : MethodName)) (z := (⟨"com/example/whipstill/whipstill/MovingWindow", "add", "(D)V"⟩ : MethodName)) hown (mvT hZ (hw _ (List.mem_of_getElem? (i := 32) rfl))) (mvT hZ (hw _ (List.mem_of_getElem? (i := 33) rfl))) (notFace_of_selects (args := #[]) (mvT hZ (hw _ (List.mem_of_getElem? (i := 35) rfl)))) (mvT hZ (hw _ (List.mem_of_getElem? (i := 35) rfl))) (mvT hZ (hw _ (List.mem_of_getElem? (i := 34) rfl))) (by decide) (backOf (W := 0) (rmAdd3_2 l Z a0 hw [] mm (FP.l2d (w5.toInt64)) t1 k1 (FP.l2d y0) (FP.l2d y1) (FP.l2d y2) h0 n0 Z0 E1 F1 F2 V1 g1 g2) hZ (hw _ (List.mem_of_getElem? (i := 36) rfl)) (hw _ (List.mem_of_getElem? (i := 6) rfl)) (Nat.le_trans (by decide) hfr) (Nat.le_trans (by decide) hlo)) qa2_ qc2_ (g := (mkF m 150 #[s0, .val (.int i1), .val (.int i2), s3, s4, s5, s6, s7, s8, .val (.int (3 : Int32)), .val (.int kk), .val (.int w0), .val (.int w1), .val (.int w2), .val (.int w3), .val (.int w4), .val (.int w5), .val (.ref mm), .unset, .unset, .unset, .unset, .unset, .unset, .unset, .unset] [(.double (FP.l2d (w5.toInt64))), (.ref mm)])) rfl (by rw [hml]; rfl) (Steps.refl _) (argsL := [(.double (FP.l2d (w5.toInt64)))]) (rest := []) (lenOf pd_qDzV rfl) rfl (by show 2 * 0 + _ ≤ _; exact Nat.le_of_eq rfl) (hb hby at_150) (fun _ _ => ⟨rfl, e0, (Nat.le_trans (Nat.add_le_add_left (by decide : 0 ≤ 0) cells) hce), (Nat.le_trans (Nat.add_le_add_left (by decide : 0 ≤ 0) slots) hsl)⟩)
  dsimp only [Pt.U, Pt.locs, Pt.cells, Pt.slots] at X1_ l1_ y1_ z1_ st1_ hQ1_
  subst L1_ k1_ n1_
  obtain ⟨rfl, Nq1_, ek1_, p1__0, p1__1, p1__2, p1__3⟩ := hQ1_
  have N1_ := Fr.app N0 Nq1_
  have k3_ : Keep h0 T1_.heap [mm, t1] := (Keep.refl h0 [mm, t1]).trans ek1_ (allS (Or.inl (List.mem_of_getElem? (i := 0) rfl)) (allS (Or.inl (List.mem_of_getElem? (i := 1) rfl)) all0))
  refine ⟨T1_, _, _, X1_, rfl, N1_, k3_, p1__0, p1__1, p1__2, p1__3, fun t k => ?_⟩
  show Steps p.tables e below (T0.setTop (mkF m 139 #[s0, .val (.int i1), .val (.int i2), s3, s4, s5, s6, s7, s8, .val (.int (3 : Int32)), .val (.int kk), .val (.int w0), .val (.int w1), .val (.int w2), .val (.int w3), .val (.int w4), .val (.int w5), .val (.ref mm), .unset, .unset, .unset, .unset, .unset, .unset, .unset, .unset] [])) _
  refine XS.iload X0.here hx rfl (hb hby at_139) rfl ?_
  refine XS.iconst X0.here hx rfl (hb hby at_141) ?_
  refine XS.icmpNo X0.here hx rfl (hb hby at_142) rfl (tlt (hs : (5 : Int32) < kk)).2.2.2 ?_
  show Steps p.tables e below (T0.setTop (mkF m 145 #[s0, .val (.int i1), .val (.int i2), s3, s4, s5, s6, s7, s8, .val (.int (3 : Int32)), .val (.int kk), .val (.int w0), .val (.int w1), .val (.int w2), .val (.int w3), .val (.int w4), .val (.int w5), .val (.ref mm), .unset, .unset, .unset, .unset, .unset, .unset, .unset, .unset] [])) _
  refine XS.aload X0.here hx rfl (hb hby at_145) rfl rfl ?_
  refine XS.iload X0.here hx rfl (hb hby at_147) rfl ?_
  refine XS.i2dS X0.here hx rfl (hb hby at_149) rfl (v := (FP.l2d (w5.toInt64))) (i2d_w w5) ?_
  show Steps p.tables e below (T0.setTop (mkF m 150 #[s0, .val (.int i1), .val (.int i2), s3, s4, s5, s6, s7, s8, .val (.int (3 : Int32)), .val (.int kk), .val (.int w0), .val (.int w1), .val (.int w2), .val (.int w3), .val (.int w4), .val (.int w5), .val (.ref mm), .unset, .unset, .unset, .unset, .unset, .unset, .unset, .unset] [(.double (FP.l2d (w5.toInt64))), (.ref mm)])) _
  refine st1_.trans ?_
  exact k
set_option maxRecDepth 65536 in
set_option maxHeartbeats 40000000 in
theorem pcT4_5 {p : Program} {l : Launch} {e : Env} {R : Room} {s : State} {m : MethodId} {args : Array Value} {below : List Frame} {meth : Method} {c : Code} {T0 : State} {locs : List Loc} {cells slots : Nat} (Z : State) (a0 : Array Value) (hw : ∀ d ∈ tables_1, d.before a0 Z = true) (X0 : Stand p l e R s m args below meth c T0 locs cells slots) (hx : p.tables.exec = Jvm.exec) (hZ : Z.Warmed39 s.vm) (hby : c.code = code) (hml : c.maxLocals = 26) (hown : s.vm.findClass "com/example/whipstill/whipstill/MovingWindowMeanAbovePinLaw" = some m.cls) (s0 : Slot) (i1 : Int32) (i2 : Int32) (s3 : Slot) (s4 : Slot) (s5 : Slot) (s6 : Slot) (s7 : Slot) (s8 : Slot) (kk : Int32) (w0 : Int32) (w1 : Int32) (w2 : Int32) (w3 : Int32) (w4 : Int32) (w5 : Int32) (mm : Addr) (t1 : Addr) (k1 : ClassId) (y0 : Int64) (y1 : Int64) (y2 : Int64) (y3 : Int64) (h0 : Heap) (n0 : Nat) (Z0 : n0 ≤ h0.size) (e0 : T0.heap = h0) (N0 : Fr n0 locs) (hfr : 1 ≤ R.frames) (hlo : 14 ≤ R.locals) (hce : cells + 0 ≤ R.cells) (hsl : slots + 0 ≤ R.slots) (hs : (5 : Int32) < kk) (E1 : Exa Z h0 mm "com/example/whipstill/whipstill/MovingWindow") (F1 : Fld Z h0 mm "com/example/whipstill/whipstill/MovingWindow" "values" "[D" (.ref t1)) (F2 : Fld Z h0 mm "com/example/whipstill/whipstill/MovingWindow" "oldest" "I" (.int (1 : Int32))) (V1 : Arv Z h0 t1 k1 .double (4 : Int32) [(.double (FP.l2d y0)), (.double (FP.l2d y1)), (.double (FP.l2d y2)), (.double (FP.l2d y3))] (.double (0 : UInt64))) (g1 : n0 ≤ mm) (g2 : n0 ≤ t1) :
    ∃ (T' : State) (h' : Heap) (L' : List Loc), Stand p l e R s m args below meth c T' L' (cells + 0) (slots + 0) ∧ T'.heap = h' ∧ Fr n0 L' ∧ Keep h0 h' [mm, t1] ∧ (Exa Z h' mm "com/example/whipstill/whipstill/MovingWindow") ∧ (Fld Z h' mm "com/example/whipstill/whipstill/MovingWindow" "values" "[D" (.ref t1)) ∧ (Fld Z h' mm "com/example/whipstill/whipstill/MovingWindow" "oldest" "I" (.int (2 : Int32))) ∧ (Arv Z h' t1 k1 .double (4 : Int32) [(.double (FP.l2d y0)), (.double (FP.l2d (w5.toInt64))), (.double (FP.l2d y2)), (.double (FP.l2d y3))] (.double (0 : UInt64))) ∧ ∀ t, Steps p.tables e below (T'.setTop (mkF m 153 #[s0, .val (.int i1), .val (.int i2), s3, s4, s5, s6, s7, s8, .val (.int (4 : Int32)), .val (.int kk), .val (.int w0), .val (.int w1), .val (.int w2), .val (.int w3), .val (.int w4), .val (.int w5), .val (.ref mm), .unset, .unset, .unset, .unset, .unset, .unset, .unset, .unset] [])) t → Steps p.tables e below (T0.setTop (mkF m 139 #[s0, .val (.int i1), .val (.int i2), s3, s4, s5, s6, s7, s8, .val (.int (4 : Int32)), .val (.int kk), .val (.int w0), .val (.int w1), .val (.int w2), .val (.int w3), .val (.int w4), .val (.int w5), .val (.ref mm), .unset, .unset, .unset, .unset, .unset, .unset, .unset, .unset] [])) t := by
  obtain ⟨cq2_, kq2_, qa2_, qb2_, qc2_⟩ := isOf hZ e0 E1
  obtain ⟨_, _, ⟨T1_, L1_, k1_, n1_⟩, -, X1_, ⟨Lc1_, hQ1_, l1_, y1_, z1_⟩, st1_⟩ := X0.virtualBack hx (y := (⟨"com/example/whipstill/whipstill/MovingWindow", "add", "(D)V"⟩ : MethodName)) (z := (⟨"com/example/whipstill/whipstill/MovingWindow", "add", "(D)V"⟩ : MethodName)) hown (mvT hZ (hw _ (List.mem_of_getElem? (i := 32) rfl))) (mvT hZ (hw _ (List.mem_of_getElem? (i := 33) rfl))) (notFace_of_selects (args := #[]) (mvT hZ (hw _ (List.mem_of_getElem? (i := 35) rfl)))) (mvT hZ (hw _ (List.mem_of_getElem? (i := 35) rfl))) (mvT hZ (hw _ (List.mem_of_getElem? (i := 34) rfl))) (by decide) (backOf (W := 0) (rmAdd4_1 l Z a0 hw [] mm (FP.l2d (w5.toInt64)) t1 k1 (FP.l2d y0) (FP.l2d y1) (FP.l2d y2) (FP.l2d y3) h0 n0 Z0 E1 F1 F2 V1 g1 g2) hZ (hw _ (List.mem_of_getElem? (i := 36) rfl)) (hw _ (List.mem_of_getElem? (i := 6) rfl)) (Nat.le_trans (by decide) hfr) (Nat.le_trans (by decide) hlo)) qa2_ qc2_ (g := (mkF m 150 #[s0, .val (.int i1), .val (.int i2), s3, s4, s5, s6, s7, s8, .val (.int (4 : Int32)), .val (.int kk), .val (.int w0), .val (.int w1), .val (.int w2), .val (.int w3), .val (.int w4), .val (.int w5), .val (.ref mm), .unset, .unset, .unset, .unset, .unset, .unset, .unset, .unset] [(.double (FP.l2d (w5.toInt64))), (.ref mm)])) rfl (by rw [hml]; rfl) (Steps.refl _) (argsL := [(.double (FP.l2d (w5.toInt64)))]) (rest := []) (lenOf pd_qDzV rfl) rfl (by show 2 * 0 + _ ≤ _; exact Nat.le_of_eq rfl) (hb hby at_150) (fun _ _ => ⟨rfl, e0, (Nat.le_trans (Nat.add_le_add_left (by decide : 0 ≤ 0) cells) hce), (Nat.le_trans (Nat.add_le_add_left (by decide : 0 ≤ 0) slots) hsl)⟩)
  dsimp only [Pt.U, Pt.locs, Pt.cells, Pt.slots] at X1_ l1_ y1_ z1_ st1_ hQ1_
  subst L1_ k1_ n1_
  obtain ⟨rfl, Nq1_, ek1_, p1__0, p1__1, p1__2, p1__3⟩ := hQ1_
  have N1_ := Fr.app N0 Nq1_
  have k3_ : Keep h0 T1_.heap [mm, t1] := (Keep.refl h0 [mm, t1]).trans ek1_ (allS (Or.inl (List.mem_of_getElem? (i := 0) rfl)) (allS (Or.inl (List.mem_of_getElem? (i := 1) rfl)) all0))
  refine ⟨T1_, _, _, X1_, rfl, N1_, k3_, p1__0, p1__1, p1__2, p1__3, fun t k => ?_⟩
  show Steps p.tables e below (T0.setTop (mkF m 139 #[s0, .val (.int i1), .val (.int i2), s3, s4, s5, s6, s7, s8, .val (.int (4 : Int32)), .val (.int kk), .val (.int w0), .val (.int w1), .val (.int w2), .val (.int w3), .val (.int w4), .val (.int w5), .val (.ref mm), .unset, .unset, .unset, .unset, .unset, .unset, .unset, .unset] [])) _
  refine XS.iload X0.here hx rfl (hb hby at_139) rfl ?_
  refine XS.iconst X0.here hx rfl (hb hby at_141) ?_
  refine XS.icmpNo X0.here hx rfl (hb hby at_142) rfl (tlt (hs : (5 : Int32) < kk)).2.2.2 ?_
  show Steps p.tables e below (T0.setTop (mkF m 145 #[s0, .val (.int i1), .val (.int i2), s3, s4, s5, s6, s7, s8, .val (.int (4 : Int32)), .val (.int kk), .val (.int w0), .val (.int w1), .val (.int w2), .val (.int w3), .val (.int w4), .val (.int w5), .val (.ref mm), .unset, .unset, .unset, .unset, .unset, .unset, .unset, .unset] [])) _
  refine XS.aload X0.here hx rfl (hb hby at_145) rfl rfl ?_
  refine XS.iload X0.here hx rfl (hb hby at_147) rfl ?_
  refine XS.i2dS X0.here hx rfl (hb hby at_149) rfl (v := (FP.l2d (w5.toInt64))) (i2d_w w5) ?_
  show Steps p.tables e below (T0.setTop (mkF m 150 #[s0, .val (.int i1), .val (.int i2), s3, s4, s5, s6, s7, s8, .val (.int (4 : Int32)), .val (.int kk), .val (.int w0), .val (.int w1), .val (.int w2), .val (.int w3), .val (.int w4), .val (.int w5), .val (.ref mm), .unset, .unset, .unset, .unset, .unset, .unset, .unset, .unset] [(.double (FP.l2d (w5.toInt64))), (.ref mm)])) _
  refine st1_.trans ?_
  exact k
theorem pd_qIIIIzJ : parseMethodDescriptor "(IIII)J" = some ⟨[.int, .int, .int, .int], some .long⟩ := by decide +kernel
set_option maxRecDepth 65536 in
set_option maxHeartbeats 40000000 in
theorem pcB {p : Program} {l : Launch} {e : Env} {R : Room} {s : State} {m : MethodId} {args : Array Value} {below : List Frame} {meth : Method} {c : Code} {T0 : State} {locs : List Loc} {cells slots : Nat} (Z : State) (a0 : Array Value) (hw : ∀ d ∈ tables_1, d.before a0 Z = true) (X0 : Stand p l e R s m args below meth c T0 locs cells slots) (hx : p.tables.exec = Jvm.exec) (hZ : Z.Warmed39 s.vm) (hby : c.code = code) (hml : c.maxLocals = 26) (hown : s.vm.findClass "com/example/whipstill/whipstill/MovingWindowMeanAbovePinLaw" = some m.cls) (s0 : Slot) (i1 : Int32) (i2 : Int32) (s3 : Slot) (s4 : Slot) (s5 : Slot) (s6 : Slot) (s7 : Slot) (s8 : Slot) (nn : Int32) (kk : Int32) (w0 : Int32) (w1 : Int32) (w2 : Int32) (w3 : Int32) (w4 : Int32) (w5 : Int32) (mm : Addr) (gg : UInt64) (h0 : Heap) (n0 : Nat) (Z0 : n0 ≤ h0.size) (e0 : T0.heap = h0) (N0 : Fr n0 locs) (hfr : 1 ≤ R.frames) (hlo : 17 ≤ R.locals) (hce : cells + 0 ≤ R.cells) (hsl : slots + 0 ≤ R.slots) (hnz : nn.toInt64 ≠ 0) (hcmp : (cmpValue (FP.dcmp gg (FP.ddiv (FP.l2d ((((((((((own_maxI (0 : Int32) (nn - kk)).toInt64) * (i1.toInt64)) + (own_held (0 : Int32) kk nn w0)) + (own_held (1 : Int32) kk nn w1)) + (own_held (2 : Int32) kk nn w2)) + (own_held (3 : Int32) kk nn w3)) + (own_held (4 : Int32) kk nn w4)) + (own_held (5 : Int32) kk nn w5)) - ((nn.toInt64) * (i2.toInt64)))) (FP.i2d nn))) .l) = (0 : Int32)) :
    ∃ (T' : State) (h' : Heap) (L' : List Loc), Stand p l e R s m args below meth c T' L' (cells + 0) (slots + 0) ∧ T'.heap = h' ∧ Fr n0 L' ∧ h' = h0 ∧ ∀ t, Steps p.tables e below (T'.setTop (mkF m 300 #[s0, .val (.int i1), .val (.int i2), s3, s4, s5, s6, s7, s8, .val (.int nn), .val (.int kk), .val (.int w0), .val (.int w1), .val (.int w2), .val (.int w3), .val (.int w4), .val (.int w5), .val (.ref mm), .val (.double gg), .second, .val (.long (((((((((own_maxI (0 : Int32) (nn - kk)).toInt64) * (i1.toInt64)) + (own_held (0 : Int32) kk nn w0)) + (own_held (1 : Int32) kk nn w1)) + (own_held (2 : Int32) kk nn w2)) + (own_held (3 : Int32) kk nn w3)) + (own_held (4 : Int32) kk nn w4)) + (own_held (5 : Int32) kk nn w5))), .second, .val (.long ((((((((((own_maxI (0 : Int32) (nn - kk)).toInt64) * (i1.toInt64)) + (own_held (0 : Int32) kk nn w0)) + (own_held (1 : Int32) kk nn w1)) + (own_held (2 : Int32) kk nn w2)) + (own_held (3 : Int32) kk nn w3)) + (own_held (4 : Int32) kk nn w4)) + (own_held (5 : Int32) kk nn w5)) - ((nn.toInt64) * (i2.toInt64)))), .second, .val (.double (FP.ddiv (FP.l2d ((((((((((own_maxI (0 : Int32) (nn - kk)).toInt64) * (i1.toInt64)) + (own_held (0 : Int32) kk nn w0)) + (own_held (1 : Int32) kk nn w1)) + (own_held (2 : Int32) kk nn w2)) + (own_held (3 : Int32) kk nn w3)) + (own_held (4 : Int32) kk nn w4)) + (own_held (5 : Int32) kk nn w5)) - ((nn.toInt64) * (i2.toInt64)))) (FP.i2d nn))), .second] [(.int (1 : Int32))])) t → Steps p.tables e below (T0.setTop (mkF m 160 #[s0, .val (.int i1), .val (.int i2), s3, s4, s5, s6, s7, s8, .val (.int nn), .val (.int kk), .val (.int w0), .val (.int w1), .val (.int w2), .val (.int w3), .val (.int w4), .val (.int w5), .val (.ref mm), .unset, .unset, .unset, .unset, .unset, .unset, .unset, .unset] [(.double gg)])) t := by
  obtain ⟨_, _, ⟨T1_, L1_, k1_, n1_⟩, -, X1_, ⟨Lc1_, hQ1_, l1_, y1_, z1_⟩, st1_⟩ := Jvm.LawKit.callS X0 hx (y := (⟨"java/lang/Math", "max", "(II)I"⟩ : MethodName)) hown (mvT hZ (hw _ (List.mem_of_getElem? (i := 25) rfl))) (mvT hZ (hw _ (List.mem_of_getElem? (i := 26) rfl))) (mvT hZ (hw _ (List.mem_of_getElem? (i := 2) rfl))) (mvT hZ (hw _ (List.mem_of_getElem? (i := 27) rfl))) (by decide) (backOf (W := 0) (rmMax l Z a0 hw [] (0 : Int32) (nn - kk) h0 n0 Z0 ) hZ (hw _ (List.mem_of_getElem? (i := 27) rfl)) (hw _ (List.mem_of_getElem? (i := 2) rfl)) (Nat.le_trans (by decide) hfr) (Nat.le_trans (by decide) hlo)) (g := (mkF m 168 #[s0, .val (.int i1), .val (.int i2), s3, s4, s5, s6, s7, s8, .val (.int nn), .val (.int kk), .val (.int w0), .val (.int w1), .val (.int w2), .val (.int w3), .val (.int w4), .val (.int w5), .val (.ref mm), .val (.double gg), .second, .unset, .unset, .unset, .unset, .unset, .unset] [(.int (nn - kk)), (.int (0 : Int32))])) rfl (by rw [hml]; rfl) (argsL := [(.int (0 : Int32)), (.int (nn - kk))]) (rest := []) (lenOf pd_qIIzI rfl) rfl (by show 2 * 0 + _ ≤ _; exact Nat.le_of_eq rfl) (hb hby at_168) (fun _ _ => ⟨rfl, e0, (Nat.le_trans (Nat.add_le_add_left (by decide : 0 ≤ 0) cells) hce), (Nat.le_trans (Nat.add_le_add_left (by decide : 0 ≤ 0) slots) hsl)⟩)
  dsimp only [Pt.U, Pt.locs, Pt.cells, Pt.slots] at X1_ l1_ y1_ z1_ st1_ hQ1_
  subst L1_ k1_ n1_
  obtain ⟨rfl, Nq1_, ek1_⟩ := hQ1_
  have N1_ := Fr.app N0 Nq1_
  obtain ⟨_, _, ⟨T2_, L2_, k2_, n2_⟩, -, X2_, ⟨Lc2_, hQ2_, l2_, y2_, z2_⟩, st2_⟩ := Jvm.LawKit.callS X1_ hx (y := (⟨"com/example/whipstill/whipstill/MovingWindowMeanAbovePinLaw", "held", "(IIII)J"⟩ : MethodName)) hown (mvT hZ (hw _ (List.mem_of_getElem? (i := 28) rfl))) (mvT hZ (hw _ (List.mem_of_getElem? (i := 29) rfl))) (mvT hZ (hw _ (List.mem_of_getElem? (i := 30) rfl))) (mvT hZ (hw _ (List.mem_of_getElem? (i := 31) rfl))) (by decide) (backOf (W := 2) (rmHeld l Z a0 hw [] (0 : Int32) kk nn w0 h0 n0 Z0 ) hZ (hw _ (List.mem_of_getElem? (i := 31) rfl)) (hw _ (List.mem_of_getElem? (i := 30) rfl)) (Nat.le_trans (by decide) hfr) (Nat.le_trans (by decide) hlo)) (g := (mkF m 186 #[s0, .val (.int i1), .val (.int i2), s3, s4, s5, s6, s7, s8, .val (.int nn), .val (.int kk), .val (.int w0), .val (.int w1), .val (.int w2), .val (.int w3), .val (.int w4), .val (.int w5), .val (.ref mm), .val (.double gg), .second, .val (.long (((own_maxI (0 : Int32) (nn - kk)).toInt64) * (i1.toInt64))), .second, .unset, .unset, .unset, .unset] [(.int w0), (.int nn), (.int kk), (.int (0 : Int32)), (.long (((own_maxI (0 : Int32) (nn - kk)).toInt64) * (i1.toInt64)))])) rfl (by rw [hml]; rfl) (argsL := [(.int (0 : Int32)), (.int kk), (.int nn), (.int w0)]) (rest := [(.long (((own_maxI (0 : Int32) (nn - kk)).toInt64) * (i1.toInt64)))]) (lenOf pd_qIIIIzJ rfl) rfl (by show 2 * 0 + _ ≤ _; exact Nat.le_of_eq rfl) (hb hby at_186) (fun _ _ => ⟨rfl, ek1_, (Nat.le_trans (Nat.add_le_add_left (by decide : 0 ≤ 0) cells) hce), (Nat.le_trans (Nat.add_le_add_left (by decide : 0 ≤ 0) slots) hsl)⟩)
  dsimp only [Pt.U, Pt.locs, Pt.cells, Pt.slots] at X2_ l2_ y2_ z2_ st2_ hQ2_
  subst L2_ k2_ n2_
  obtain ⟨rfl, Nq2_, ek2_⟩ := hQ2_
  have N2_ := Fr.app N1_ Nq2_
  obtain ⟨_, _, ⟨T3_, L3_, k3_, n3_⟩, -, X3_, ⟨Lc3_, hQ3_, l3_, y3_, z3_⟩, st3_⟩ := Jvm.LawKit.callS X2_ hx (y := (⟨"com/example/whipstill/whipstill/MovingWindowMeanAbovePinLaw", "held", "(IIII)J"⟩ : MethodName)) hown (mvT hZ (hw _ (List.mem_of_getElem? (i := 28) rfl))) (mvT hZ (hw _ (List.mem_of_getElem? (i := 29) rfl))) (mvT hZ (hw _ (List.mem_of_getElem? (i := 30) rfl))) (mvT hZ (hw _ (List.mem_of_getElem? (i := 31) rfl))) (by decide) (backOf (W := 2) (rmHeld l Z a0 hw [] (1 : Int32) kk nn w1 h0 n0 Z0 ) hZ (hw _ (List.mem_of_getElem? (i := 31) rfl)) (hw _ (List.mem_of_getElem? (i := 30) rfl)) (Nat.le_trans (by decide) hfr) (Nat.le_trans (by decide) hlo)) (g := (mkF m 201 #[s0, .val (.int i1), .val (.int i2), s3, s4, s5, s6, s7, s8, .val (.int nn), .val (.int kk), .val (.int w0), .val (.int w1), .val (.int w2), .val (.int w3), .val (.int w4), .val (.int w5), .val (.ref mm), .val (.double gg), .second, .val (.long ((((own_maxI (0 : Int32) (nn - kk)).toInt64) * (i1.toInt64)) + (own_held (0 : Int32) kk nn w0))), .second, .unset, .unset, .unset, .unset] [(.int w1), (.int nn), (.int kk), (.int (1 : Int32)), (.long ((((own_maxI (0 : Int32) (nn - kk)).toInt64) * (i1.toInt64)) + (own_held (0 : Int32) kk nn w0)))])) rfl (by rw [hml]; rfl) (argsL := [(.int (1 : Int32)), (.int kk), (.int nn), (.int w1)]) (rest := [(.long ((((own_maxI (0 : Int32) (nn - kk)).toInt64) * (i1.toInt64)) + (own_held (0 : Int32) kk nn w0)))]) (lenOf pd_qIIIIzJ rfl) rfl (by show 2 * 0 + _ ≤ _; exact Nat.le_of_eq rfl) (hb hby at_201) (fun _ _ => ⟨rfl, ek2_, (Nat.le_trans (Nat.add_le_add_left (by decide : 0 ≤ 0) cells) hce), (Nat.le_trans (Nat.add_le_add_left (by decide : 0 ≤ 0) slots) hsl)⟩)
  dsimp only [Pt.U, Pt.locs, Pt.cells, Pt.slots] at X3_ l3_ y3_ z3_ st3_ hQ3_
  subst L3_ k3_ n3_
  obtain ⟨rfl, Nq3_, ek3_⟩ := hQ3_
  have N3_ := Fr.app N2_ Nq3_
  obtain ⟨_, _, ⟨T4_, L4_, k4_, n4_⟩, -, X4_, ⟨Lc4_, hQ4_, l4_, y4_, z4_⟩, st4_⟩ := Jvm.LawKit.callS X3_ hx (y := (⟨"com/example/whipstill/whipstill/MovingWindowMeanAbovePinLaw", "held", "(IIII)J"⟩ : MethodName)) hown (mvT hZ (hw _ (List.mem_of_getElem? (i := 28) rfl))) (mvT hZ (hw _ (List.mem_of_getElem? (i := 29) rfl))) (mvT hZ (hw _ (List.mem_of_getElem? (i := 30) rfl))) (mvT hZ (hw _ (List.mem_of_getElem? (i := 31) rfl))) (by decide) (backOf (W := 2) (rmHeld l Z a0 hw [] (2 : Int32) kk nn w2 h0 n0 Z0 ) hZ (hw _ (List.mem_of_getElem? (i := 31) rfl)) (hw _ (List.mem_of_getElem? (i := 30) rfl)) (Nat.le_trans (by decide) hfr) (Nat.le_trans (by decide) hlo)) (g := (mkF m 216 #[s0, .val (.int i1), .val (.int i2), s3, s4, s5, s6, s7, s8, .val (.int nn), .val (.int kk), .val (.int w0), .val (.int w1), .val (.int w2), .val (.int w3), .val (.int w4), .val (.int w5), .val (.ref mm), .val (.double gg), .second, .val (.long (((((own_maxI (0 : Int32) (nn - kk)).toInt64) * (i1.toInt64)) + (own_held (0 : Int32) kk nn w0)) + (own_held (1 : Int32) kk nn w1))), .second, .unset, .unset, .unset, .unset] [(.int w2), (.int nn), (.int kk), (.int (2 : Int32)), (.long (((((own_maxI (0 : Int32) (nn - kk)).toInt64) * (i1.toInt64)) + (own_held (0 : Int32) kk nn w0)) + (own_held (1 : Int32) kk nn w1)))])) rfl (by rw [hml]; rfl) (argsL := [(.int (2 : Int32)), (.int kk), (.int nn), (.int w2)]) (rest := [(.long (((((own_maxI (0 : Int32) (nn - kk)).toInt64) * (i1.toInt64)) + (own_held (0 : Int32) kk nn w0)) + (own_held (1 : Int32) kk nn w1)))]) (lenOf pd_qIIIIzJ rfl) rfl (by show 2 * 0 + _ ≤ _; exact Nat.le_of_eq rfl) (hb hby at_216) (fun _ _ => ⟨rfl, ek3_, (Nat.le_trans (Nat.add_le_add_left (by decide : 0 ≤ 0) cells) hce), (Nat.le_trans (Nat.add_le_add_left (by decide : 0 ≤ 0) slots) hsl)⟩)
  dsimp only [Pt.U, Pt.locs, Pt.cells, Pt.slots] at X4_ l4_ y4_ z4_ st4_ hQ4_
  subst L4_ k4_ n4_
  obtain ⟨rfl, Nq4_, ek4_⟩ := hQ4_
  have N4_ := Fr.app N3_ Nq4_
  obtain ⟨_, _, ⟨T5_, L5_, k5_, n5_⟩, -, X5_, ⟨Lc5_, hQ5_, l5_, y5_, z5_⟩, st5_⟩ := Jvm.LawKit.callS X4_ hx (y := (⟨"com/example/whipstill/whipstill/MovingWindowMeanAbovePinLaw", "held", "(IIII)J"⟩ : MethodName)) hown (mvT hZ (hw _ (List.mem_of_getElem? (i := 28) rfl))) (mvT hZ (hw _ (List.mem_of_getElem? (i := 29) rfl))) (mvT hZ (hw _ (List.mem_of_getElem? (i := 30) rfl))) (mvT hZ (hw _ (List.mem_of_getElem? (i := 31) rfl))) (by decide) (backOf (W := 2) (rmHeld l Z a0 hw [] (3 : Int32) kk nn w3 h0 n0 Z0 ) hZ (hw _ (List.mem_of_getElem? (i := 31) rfl)) (hw _ (List.mem_of_getElem? (i := 30) rfl)) (Nat.le_trans (by decide) hfr) (Nat.le_trans (by decide) hlo)) (g := (mkF m 231 #[s0, .val (.int i1), .val (.int i2), s3, s4, s5, s6, s7, s8, .val (.int nn), .val (.int kk), .val (.int w0), .val (.int w1), .val (.int w2), .val (.int w3), .val (.int w4), .val (.int w5), .val (.ref mm), .val (.double gg), .second, .val (.long ((((((own_maxI (0 : Int32) (nn - kk)).toInt64) * (i1.toInt64)) + (own_held (0 : Int32) kk nn w0)) + (own_held (1 : Int32) kk nn w1)) + (own_held (2 : Int32) kk nn w2))), .second, .unset, .unset, .unset, .unset] [(.int w3), (.int nn), (.int kk), (.int (3 : Int32)), (.long ((((((own_maxI (0 : Int32) (nn - kk)).toInt64) * (i1.toInt64)) + (own_held (0 : Int32) kk nn w0)) + (own_held (1 : Int32) kk nn w1)) + (own_held (2 : Int32) kk nn w2)))])) rfl (by rw [hml]; rfl) (argsL := [(.int (3 : Int32)), (.int kk), (.int nn), (.int w3)]) (rest := [(.long ((((((own_maxI (0 : Int32) (nn - kk)).toInt64) * (i1.toInt64)) + (own_held (0 : Int32) kk nn w0)) + (own_held (1 : Int32) kk nn w1)) + (own_held (2 : Int32) kk nn w2)))]) (lenOf pd_qIIIIzJ rfl) rfl (by show 2 * 0 + _ ≤ _; exact Nat.le_of_eq rfl) (hb hby at_231) (fun _ _ => ⟨rfl, ek4_, (Nat.le_trans (Nat.add_le_add_left (by decide : 0 ≤ 0) cells) hce), (Nat.le_trans (Nat.add_le_add_left (by decide : 0 ≤ 0) slots) hsl)⟩)
  dsimp only [Pt.U, Pt.locs, Pt.cells, Pt.slots] at X5_ l5_ y5_ z5_ st5_ hQ5_
  subst L5_ k5_ n5_
  obtain ⟨rfl, Nq5_, ek5_⟩ := hQ5_
  have N5_ := Fr.app N4_ Nq5_
  obtain ⟨_, _, ⟨T6_, L6_, k6_, n6_⟩, -, X6_, ⟨Lc6_, hQ6_, l6_, y6_, z6_⟩, st6_⟩ := Jvm.LawKit.callS X5_ hx (y := (⟨"com/example/whipstill/whipstill/MovingWindowMeanAbovePinLaw", "held", "(IIII)J"⟩ : MethodName)) hown (mvT hZ (hw _ (List.mem_of_getElem? (i := 28) rfl))) (mvT hZ (hw _ (List.mem_of_getElem? (i := 29) rfl))) (mvT hZ (hw _ (List.mem_of_getElem? (i := 30) rfl))) (mvT hZ (hw _ (List.mem_of_getElem? (i := 31) rfl))) (by decide) (backOf (W := 2) (rmHeld l Z a0 hw [] (4 : Int32) kk nn w4 h0 n0 Z0 ) hZ (hw _ (List.mem_of_getElem? (i := 31) rfl)) (hw _ (List.mem_of_getElem? (i := 30) rfl)) (Nat.le_trans (by decide) hfr) (Nat.le_trans (by decide) hlo)) (g := (mkF m 246 #[s0, .val (.int i1), .val (.int i2), s3, s4, s5, s6, s7, s8, .val (.int nn), .val (.int kk), .val (.int w0), .val (.int w1), .val (.int w2), .val (.int w3), .val (.int w4), .val (.int w5), .val (.ref mm), .val (.double gg), .second, .val (.long (((((((own_maxI (0 : Int32) (nn - kk)).toInt64) * (i1.toInt64)) + (own_held (0 : Int32) kk nn w0)) + (own_held (1 : Int32) kk nn w1)) + (own_held (2 : Int32) kk nn w2)) + (own_held (3 : Int32) kk nn w3))), .second, .unset, .unset, .unset, .unset] [(.int w4), (.int nn), (.int kk), (.int (4 : Int32)), (.long (((((((own_maxI (0 : Int32) (nn - kk)).toInt64) * (i1.toInt64)) + (own_held (0 : Int32) kk nn w0)) + (own_held (1 : Int32) kk nn w1)) + (own_held (2 : Int32) kk nn w2)) + (own_held (3 : Int32) kk nn w3)))])) rfl (by rw [hml]; rfl) (argsL := [(.int (4 : Int32)), (.int kk), (.int nn), (.int w4)]) (rest := [(.long (((((((own_maxI (0 : Int32) (nn - kk)).toInt64) * (i1.toInt64)) + (own_held (0 : Int32) kk nn w0)) + (own_held (1 : Int32) kk nn w1)) + (own_held (2 : Int32) kk nn w2)) + (own_held (3 : Int32) kk nn w3)))]) (lenOf pd_qIIIIzJ rfl) rfl (by show 2 * 0 + _ ≤ _; exact Nat.le_of_eq rfl) (hb hby at_246) (fun _ _ => ⟨rfl, ek5_, (Nat.le_trans (Nat.add_le_add_left (by decide : 0 ≤ 0) cells) hce), (Nat.le_trans (Nat.add_le_add_left (by decide : 0 ≤ 0) slots) hsl)⟩)
  dsimp only [Pt.U, Pt.locs, Pt.cells, Pt.slots] at X6_ l6_ y6_ z6_ st6_ hQ6_
  subst L6_ k6_ n6_
  obtain ⟨rfl, Nq6_, ek6_⟩ := hQ6_
  have N6_ := Fr.app N5_ Nq6_
  obtain ⟨_, _, ⟨T7_, L7_, k7_, n7_⟩, -, X7_, ⟨Lc7_, hQ7_, l7_, y7_, z7_⟩, st7_⟩ := Jvm.LawKit.callS X6_ hx (y := (⟨"com/example/whipstill/whipstill/MovingWindowMeanAbovePinLaw", "held", "(IIII)J"⟩ : MethodName)) hown (mvT hZ (hw _ (List.mem_of_getElem? (i := 28) rfl))) (mvT hZ (hw _ (List.mem_of_getElem? (i := 29) rfl))) (mvT hZ (hw _ (List.mem_of_getElem? (i := 30) rfl))) (mvT hZ (hw _ (List.mem_of_getElem? (i := 31) rfl))) (by decide) (backOf (W := 2) (rmHeld l Z a0 hw [] (5 : Int32) kk nn w5 h0 n0 Z0 ) hZ (hw _ (List.mem_of_getElem? (i := 31) rfl)) (hw _ (List.mem_of_getElem? (i := 30) rfl)) (Nat.le_trans (by decide) hfr) (Nat.le_trans (by decide) hlo)) (g := (mkF m 261 #[s0, .val (.int i1), .val (.int i2), s3, s4, s5, s6, s7, s8, .val (.int nn), .val (.int kk), .val (.int w0), .val (.int w1), .val (.int w2), .val (.int w3), .val (.int w4), .val (.int w5), .val (.ref mm), .val (.double gg), .second, .val (.long ((((((((own_maxI (0 : Int32) (nn - kk)).toInt64) * (i1.toInt64)) + (own_held (0 : Int32) kk nn w0)) + (own_held (1 : Int32) kk nn w1)) + (own_held (2 : Int32) kk nn w2)) + (own_held (3 : Int32) kk nn w3)) + (own_held (4 : Int32) kk nn w4))), .second, .unset, .unset, .unset, .unset] [(.int w5), (.int nn), (.int kk), (.int (5 : Int32)), (.long ((((((((own_maxI (0 : Int32) (nn - kk)).toInt64) * (i1.toInt64)) + (own_held (0 : Int32) kk nn w0)) + (own_held (1 : Int32) kk nn w1)) + (own_held (2 : Int32) kk nn w2)) + (own_held (3 : Int32) kk nn w3)) + (own_held (4 : Int32) kk nn w4)))])) rfl (by rw [hml]; rfl) (argsL := [(.int (5 : Int32)), (.int kk), (.int nn), (.int w5)]) (rest := [(.long ((((((((own_maxI (0 : Int32) (nn - kk)).toInt64) * (i1.toInt64)) + (own_held (0 : Int32) kk nn w0)) + (own_held (1 : Int32) kk nn w1)) + (own_held (2 : Int32) kk nn w2)) + (own_held (3 : Int32) kk nn w3)) + (own_held (4 : Int32) kk nn w4)))]) (lenOf pd_qIIIIzJ rfl) rfl (by show 2 * 0 + _ ≤ _; exact Nat.le_of_eq rfl) (hb hby at_261) (fun _ _ => ⟨rfl, ek6_, (Nat.le_trans (Nat.add_le_add_left (by decide : 0 ≤ 0) cells) hce), (Nat.le_trans (Nat.add_le_add_left (by decide : 0 ≤ 0) slots) hsl)⟩)
  dsimp only [Pt.U, Pt.locs, Pt.cells, Pt.slots] at X7_ l7_ y7_ z7_ st7_ hQ7_
  subst L7_ k7_ n7_
  obtain ⟨rfl, Nq7_, ek7_⟩ := hQ7_
  have N7_ := Fr.app N6_ Nq7_
  have qd : Jvm.Free.Fl.NoNaN64 (FP.ddiv (FP.l2d ((((((((((own_maxI (0 : Int32) (nn - kk)).toInt64) * (i1.toInt64)) + (own_held (0 : Int32) kk nn w0)) + (own_held (1 : Int32) kk nn w1)) + (own_held (2 : Int32) kk nn w2)) + (own_held (3 : Int32) kk nn w3)) + (own_held (4 : Int32) kk nn w4)) + (own_held (5 : Int32) kk nn w5)) - ((nn.toInt64) * (i2.toInt64)))) (FP.i2d nn)) := own_ddiv _ _ hnz
  refine ⟨T7_, _, _, X7_, ek7_, N7_, rfl, fun t k => ?_⟩
  show Steps p.tables e below (T0.setTop (mkF m 160 #[s0, .val (.int i1), .val (.int i2), s3, s4, s5, s6, s7, s8, .val (.int nn), .val (.int kk), .val (.int w0), .val (.int w1), .val (.int w2), .val (.int w3), .val (.int w4), .val (.int w5), .val (.ref mm), .unset, .unset, .unset, .unset, .unset, .unset, .unset, .unset] [(.double gg)])) _
  refine XS.dstore X0.here hx rfl (hb hby at_160) rfl (l' := #[s0, .val (.int i1), .val (.int i2), s3, s4, s5, s6, s7, s8, .val (.int nn), .val (.int kk), .val (.int w0), .val (.int w1), .val (.int w2), .val (.int w3), .val (.int w4), .val (.int w5), .val (.ref mm), .val (.double gg), .second, .unset, .unset, .unset, .unset, .unset, .unset]) rfl ?_
  show Steps p.tables e below (T0.setTop (mkF m 162 #[s0, .val (.int i1), .val (.int i2), s3, s4, s5, s6, s7, s8, .val (.int nn), .val (.int kk), .val (.int w0), .val (.int w1), .val (.int w2), .val (.int w3), .val (.int w4), .val (.int w5), .val (.ref mm), .val (.double gg), .second, .unset, .unset, .unset, .unset, .unset, .unset] [])) _
  refine XS.iconst X0.here hx rfl (hb hby at_162) ?_
  refine XS.iload X0.here hx rfl (hb hby at_163) rfl ?_
  refine XS.iload X0.here hx rfl (hb hby at_165) rfl ?_
  refine XS.isub X0.here hx rfl (hb hby at_167) rfl ?_
  show Steps p.tables e below (T0.setTop (mkF m 168 #[s0, .val (.int i1), .val (.int i2), s3, s4, s5, s6, s7, s8, .val (.int nn), .val (.int kk), .val (.int w0), .val (.int w1), .val (.int w2), .val (.int w3), .val (.int w4), .val (.int w5), .val (.ref mm), .val (.double gg), .second, .unset, .unset, .unset, .unset, .unset, .unset] [(.int (nn - kk)), (.int (0 : Int32))])) _
  refine st1_ _ ?_
  show Steps p.tables e below (T1_.setTop (mkF m 171 #[s0, .val (.int i1), .val (.int i2), s3, s4, s5, s6, s7, s8, .val (.int nn), .val (.int kk), .val (.int w0), .val (.int w1), .val (.int w2), .val (.int w3), .val (.int w4), .val (.int w5), .val (.ref mm), .val (.double gg), .second, .unset, .unset, .unset, .unset, .unset, .unset] [(.int (own_maxI (0 : Int32) (nn - kk)))])) _
  refine XS.i2l X1_.here hx rfl (hb hby at_171) rfl ?_
  show Steps p.tables e below (T1_.setTop (mkF m 172 #[s0, .val (.int i1), .val (.int i2), s3, s4, s5, s6, s7, s8, .val (.int nn), .val (.int kk), .val (.int w0), .val (.int w1), .val (.int w2), .val (.int w3), .val (.int w4), .val (.int w5), .val (.ref mm), .val (.double gg), .second, .unset, .unset, .unset, .unset, .unset, .unset] [(.long ((own_maxI (0 : Int32) (nn - kk)).toInt64))])) _
  refine XS.iloadN X1_.here hx rfl (hb hby at_172) rfl ?_
  refine XS.i2l X1_.here hx rfl (hb hby at_173) rfl ?_
  show Steps p.tables e below (T1_.setTop (mkF m 174 #[s0, .val (.int i1), .val (.int i2), s3, s4, s5, s6, s7, s8, .val (.int nn), .val (.int kk), .val (.int w0), .val (.int w1), .val (.int w2), .val (.int w3), .val (.int w4), .val (.int w5), .val (.ref mm), .val (.double gg), .second, .unset, .unset, .unset, .unset, .unset, .unset] [(.long (i1.toInt64)), (.long ((own_maxI (0 : Int32) (nn - kk)).toInt64))])) _
  refine XS.lmul X1_.here hx rfl (hb hby at_174) rfl ?_
  show Steps p.tables e below (T1_.setTop (mkF m 175 #[s0, .val (.int i1), .val (.int i2), s3, s4, s5, s6, s7, s8, .val (.int nn), .val (.int kk), .val (.int w0), .val (.int w1), .val (.int w2), .val (.int w3), .val (.int w4), .val (.int w5), .val (.ref mm), .val (.double gg), .second, .unset, .unset, .unset, .unset, .unset, .unset] [(.long (((own_maxI (0 : Int32) (nn - kk)).toInt64) * (i1.toInt64)))])) _
  refine XS.lstore X1_.here hx rfl (hb hby at_175) rfl (l' := #[s0, .val (.int i1), .val (.int i2), s3, s4, s5, s6, s7, s8, .val (.int nn), .val (.int kk), .val (.int w0), .val (.int w1), .val (.int w2), .val (.int w3), .val (.int w4), .val (.int w5), .val (.ref mm), .val (.double gg), .second, .val (.long (((own_maxI (0 : Int32) (nn - kk)).toInt64) * (i1.toInt64))), .second, .unset, .unset, .unset, .unset]) rfl ?_
  show Steps p.tables e below (T1_.setTop (mkF m 177 #[s0, .val (.int i1), .val (.int i2), s3, s4, s5, s6, s7, s8, .val (.int nn), .val (.int kk), .val (.int w0), .val (.int w1), .val (.int w2), .val (.int w3), .val (.int w4), .val (.int w5), .val (.ref mm), .val (.double gg), .second, .val (.long (((own_maxI (0 : Int32) (nn - kk)).toInt64) * (i1.toInt64))), .second, .unset, .unset, .unset, .unset] [])) _
  refine XS.lload X1_.here hx rfl (hb hby at_177) rfl ?_
  refine XS.iconst X1_.here hx rfl (hb hby at_179) ?_
  refine XS.iload X1_.here hx rfl (hb hby at_180) rfl ?_
  refine XS.iload X1_.here hx rfl (hb hby at_182) rfl ?_
  refine XS.iload X1_.here hx rfl (hb hby at_184) rfl ?_
  refine st2_ _ ?_
  show Steps p.tables e below (T2_.setTop (mkF m 189 #[s0, .val (.int i1), .val (.int i2), s3, s4, s5, s6, s7, s8, .val (.int nn), .val (.int kk), .val (.int w0), .val (.int w1), .val (.int w2), .val (.int w3), .val (.int w4), .val (.int w5), .val (.ref mm), .val (.double gg), .second, .val (.long (((own_maxI (0 : Int32) (nn - kk)).toInt64) * (i1.toInt64))), .second, .unset, .unset, .unset, .unset] [(.long (own_held (0 : Int32) kk nn w0)), (.long (((own_maxI (0 : Int32) (nn - kk)).toInt64) * (i1.toInt64)))])) _
  refine XS.ladd X2_.here hx rfl (hb hby at_189) rfl ?_
  show Steps p.tables e below (T2_.setTop (mkF m 190 #[s0, .val (.int i1), .val (.int i2), s3, s4, s5, s6, s7, s8, .val (.int nn), .val (.int kk), .val (.int w0), .val (.int w1), .val (.int w2), .val (.int w3), .val (.int w4), .val (.int w5), .val (.ref mm), .val (.double gg), .second, .val (.long (((own_maxI (0 : Int32) (nn - kk)).toInt64) * (i1.toInt64))), .second, .unset, .unset, .unset, .unset] [(.long ((((own_maxI (0 : Int32) (nn - kk)).toInt64) * (i1.toInt64)) + (own_held (0 : Int32) kk nn w0)))])) _
  refine XS.lstore X2_.here hx rfl (hb hby at_190) rfl (l' := #[s0, .val (.int i1), .val (.int i2), s3, s4, s5, s6, s7, s8, .val (.int nn), .val (.int kk), .val (.int w0), .val (.int w1), .val (.int w2), .val (.int w3), .val (.int w4), .val (.int w5), .val (.ref mm), .val (.double gg), .second, .val (.long ((((own_maxI (0 : Int32) (nn - kk)).toInt64) * (i1.toInt64)) + (own_held (0 : Int32) kk nn w0))), .second, .unset, .unset, .unset, .unset]) rfl ?_
  show Steps p.tables e below (T2_.setTop (mkF m 192 #[s0, .val (.int i1), .val (.int i2), s3, s4, s5, s6, s7, s8, .val (.int nn), .val (.int kk), .val (.int w0), .val (.int w1), .val (.int w2), .val (.int w3), .val (.int w4), .val (.int w5), .val (.ref mm), .val (.double gg), .second, .val (.long ((((own_maxI (0 : Int32) (nn - kk)).toInt64) * (i1.toInt64)) + (own_held (0 : Int32) kk nn w0))), .second, .unset, .unset, .unset, .unset] [])) _
  refine XS.lload X2_.here hx rfl (hb hby at_192) rfl ?_
  refine XS.iconst X2_.here hx rfl (hb hby at_194) ?_
  refine XS.iload X2_.here hx rfl (hb hby at_195) rfl ?_
  refine XS.iload X2_.here hx rfl (hb hby at_197) rfl ?_
  refine XS.iload X2_.here hx rfl (hb hby at_199) rfl ?_
  refine st3_ _ ?_
  show Steps p.tables e below (T3_.setTop (mkF m 204 #[s0, .val (.int i1), .val (.int i2), s3, s4, s5, s6, s7, s8, .val (.int nn), .val (.int kk), .val (.int w0), .val (.int w1), .val (.int w2), .val (.int w3), .val (.int w4), .val (.int w5), .val (.ref mm), .val (.double gg), .second, .val (.long ((((own_maxI (0 : Int32) (nn - kk)).toInt64) * (i1.toInt64)) + (own_held (0 : Int32) kk nn w0))), .second, .unset, .unset, .unset, .unset] [(.long (own_held (1 : Int32) kk nn w1)), (.long ((((own_maxI (0 : Int32) (nn - kk)).toInt64) * (i1.toInt64)) + (own_held (0 : Int32) kk nn w0)))])) _
  refine XS.ladd X3_.here hx rfl (hb hby at_204) rfl ?_
  show Steps p.tables e below (T3_.setTop (mkF m 205 #[s0, .val (.int i1), .val (.int i2), s3, s4, s5, s6, s7, s8, .val (.int nn), .val (.int kk), .val (.int w0), .val (.int w1), .val (.int w2), .val (.int w3), .val (.int w4), .val (.int w5), .val (.ref mm), .val (.double gg), .second, .val (.long ((((own_maxI (0 : Int32) (nn - kk)).toInt64) * (i1.toInt64)) + (own_held (0 : Int32) kk nn w0))), .second, .unset, .unset, .unset, .unset] [(.long (((((own_maxI (0 : Int32) (nn - kk)).toInt64) * (i1.toInt64)) + (own_held (0 : Int32) kk nn w0)) + (own_held (1 : Int32) kk nn w1)))])) _
  refine XS.lstore X3_.here hx rfl (hb hby at_205) rfl (l' := #[s0, .val (.int i1), .val (.int i2), s3, s4, s5, s6, s7, s8, .val (.int nn), .val (.int kk), .val (.int w0), .val (.int w1), .val (.int w2), .val (.int w3), .val (.int w4), .val (.int w5), .val (.ref mm), .val (.double gg), .second, .val (.long (((((own_maxI (0 : Int32) (nn - kk)).toInt64) * (i1.toInt64)) + (own_held (0 : Int32) kk nn w0)) + (own_held (1 : Int32) kk nn w1))), .second, .unset, .unset, .unset, .unset]) rfl ?_
  show Steps p.tables e below (T3_.setTop (mkF m 207 #[s0, .val (.int i1), .val (.int i2), s3, s4, s5, s6, s7, s8, .val (.int nn), .val (.int kk), .val (.int w0), .val (.int w1), .val (.int w2), .val (.int w3), .val (.int w4), .val (.int w5), .val (.ref mm), .val (.double gg), .second, .val (.long (((((own_maxI (0 : Int32) (nn - kk)).toInt64) * (i1.toInt64)) + (own_held (0 : Int32) kk nn w0)) + (own_held (1 : Int32) kk nn w1))), .second, .unset, .unset, .unset, .unset] [])) _
  refine XS.lload X3_.here hx rfl (hb hby at_207) rfl ?_
  refine XS.iconst X3_.here hx rfl (hb hby at_209) ?_
  refine XS.iload X3_.here hx rfl (hb hby at_210) rfl ?_
  refine XS.iload X3_.here hx rfl (hb hby at_212) rfl ?_
  refine XS.iload X3_.here hx rfl (hb hby at_214) rfl ?_
  refine st4_ _ ?_
  show Steps p.tables e below (T4_.setTop (mkF m 219 #[s0, .val (.int i1), .val (.int i2), s3, s4, s5, s6, s7, s8, .val (.int nn), .val (.int kk), .val (.int w0), .val (.int w1), .val (.int w2), .val (.int w3), .val (.int w4), .val (.int w5), .val (.ref mm), .val (.double gg), .second, .val (.long (((((own_maxI (0 : Int32) (nn - kk)).toInt64) * (i1.toInt64)) + (own_held (0 : Int32) kk nn w0)) + (own_held (1 : Int32) kk nn w1))), .second, .unset, .unset, .unset, .unset] [(.long (own_held (2 : Int32) kk nn w2)), (.long (((((own_maxI (0 : Int32) (nn - kk)).toInt64) * (i1.toInt64)) + (own_held (0 : Int32) kk nn w0)) + (own_held (1 : Int32) kk nn w1)))])) _
  refine XS.ladd X4_.here hx rfl (hb hby at_219) rfl ?_
  show Steps p.tables e below (T4_.setTop (mkF m 220 #[s0, .val (.int i1), .val (.int i2), s3, s4, s5, s6, s7, s8, .val (.int nn), .val (.int kk), .val (.int w0), .val (.int w1), .val (.int w2), .val (.int w3), .val (.int w4), .val (.int w5), .val (.ref mm), .val (.double gg), .second, .val (.long (((((own_maxI (0 : Int32) (nn - kk)).toInt64) * (i1.toInt64)) + (own_held (0 : Int32) kk nn w0)) + (own_held (1 : Int32) kk nn w1))), .second, .unset, .unset, .unset, .unset] [(.long ((((((own_maxI (0 : Int32) (nn - kk)).toInt64) * (i1.toInt64)) + (own_held (0 : Int32) kk nn w0)) + (own_held (1 : Int32) kk nn w1)) + (own_held (2 : Int32) kk nn w2)))])) _
  refine XS.lstore X4_.here hx rfl (hb hby at_220) rfl (l' := #[s0, .val (.int i1), .val (.int i2), s3, s4, s5, s6, s7, s8, .val (.int nn), .val (.int kk), .val (.int w0), .val (.int w1), .val (.int w2), .val (.int w3), .val (.int w4), .val (.int w5), .val (.ref mm), .val (.double gg), .second, .val (.long ((((((own_maxI (0 : Int32) (nn - kk)).toInt64) * (i1.toInt64)) + (own_held (0 : Int32) kk nn w0)) + (own_held (1 : Int32) kk nn w1)) + (own_held (2 : Int32) kk nn w2))), .second, .unset, .unset, .unset, .unset]) rfl ?_
  show Steps p.tables e below (T4_.setTop (mkF m 222 #[s0, .val (.int i1), .val (.int i2), s3, s4, s5, s6, s7, s8, .val (.int nn), .val (.int kk), .val (.int w0), .val (.int w1), .val (.int w2), .val (.int w3), .val (.int w4), .val (.int w5), .val (.ref mm), .val (.double gg), .second, .val (.long ((((((own_maxI (0 : Int32) (nn - kk)).toInt64) * (i1.toInt64)) + (own_held (0 : Int32) kk nn w0)) + (own_held (1 : Int32) kk nn w1)) + (own_held (2 : Int32) kk nn w2))), .second, .unset, .unset, .unset, .unset] [])) _
  refine XS.lload X4_.here hx rfl (hb hby at_222) rfl ?_
  refine XS.iconst X4_.here hx rfl (hb hby at_224) ?_
  refine XS.iload X4_.here hx rfl (hb hby at_225) rfl ?_
  refine XS.iload X4_.here hx rfl (hb hby at_227) rfl ?_
  refine XS.iload X4_.here hx rfl (hb hby at_229) rfl ?_
  refine st5_ _ ?_
  show Steps p.tables e below (T5_.setTop (mkF m 234 #[s0, .val (.int i1), .val (.int i2), s3, s4, s5, s6, s7, s8, .val (.int nn), .val (.int kk), .val (.int w0), .val (.int w1), .val (.int w2), .val (.int w3), .val (.int w4), .val (.int w5), .val (.ref mm), .val (.double gg), .second, .val (.long ((((((own_maxI (0 : Int32) (nn - kk)).toInt64) * (i1.toInt64)) + (own_held (0 : Int32) kk nn w0)) + (own_held (1 : Int32) kk nn w1)) + (own_held (2 : Int32) kk nn w2))), .second, .unset, .unset, .unset, .unset] [(.long (own_held (3 : Int32) kk nn w3)), (.long ((((((own_maxI (0 : Int32) (nn - kk)).toInt64) * (i1.toInt64)) + (own_held (0 : Int32) kk nn w0)) + (own_held (1 : Int32) kk nn w1)) + (own_held (2 : Int32) kk nn w2)))])) _
  refine XS.ladd X5_.here hx rfl (hb hby at_234) rfl ?_
  show Steps p.tables e below (T5_.setTop (mkF m 235 #[s0, .val (.int i1), .val (.int i2), s3, s4, s5, s6, s7, s8, .val (.int nn), .val (.int kk), .val (.int w0), .val (.int w1), .val (.int w2), .val (.int w3), .val (.int w4), .val (.int w5), .val (.ref mm), .val (.double gg), .second, .val (.long ((((((own_maxI (0 : Int32) (nn - kk)).toInt64) * (i1.toInt64)) + (own_held (0 : Int32) kk nn w0)) + (own_held (1 : Int32) kk nn w1)) + (own_held (2 : Int32) kk nn w2))), .second, .unset, .unset, .unset, .unset] [(.long (((((((own_maxI (0 : Int32) (nn - kk)).toInt64) * (i1.toInt64)) + (own_held (0 : Int32) kk nn w0)) + (own_held (1 : Int32) kk nn w1)) + (own_held (2 : Int32) kk nn w2)) + (own_held (3 : Int32) kk nn w3)))])) _
  refine XS.lstore X5_.here hx rfl (hb hby at_235) rfl (l' := #[s0, .val (.int i1), .val (.int i2), s3, s4, s5, s6, s7, s8, .val (.int nn), .val (.int kk), .val (.int w0), .val (.int w1), .val (.int w2), .val (.int w3), .val (.int w4), .val (.int w5), .val (.ref mm), .val (.double gg), .second, .val (.long (((((((own_maxI (0 : Int32) (nn - kk)).toInt64) * (i1.toInt64)) + (own_held (0 : Int32) kk nn w0)) + (own_held (1 : Int32) kk nn w1)) + (own_held (2 : Int32) kk nn w2)) + (own_held (3 : Int32) kk nn w3))), .second, .unset, .unset, .unset, .unset]) rfl ?_
  show Steps p.tables e below (T5_.setTop (mkF m 237 #[s0, .val (.int i1), .val (.int i2), s3, s4, s5, s6, s7, s8, .val (.int nn), .val (.int kk), .val (.int w0), .val (.int w1), .val (.int w2), .val (.int w3), .val (.int w4), .val (.int w5), .val (.ref mm), .val (.double gg), .second, .val (.long (((((((own_maxI (0 : Int32) (nn - kk)).toInt64) * (i1.toInt64)) + (own_held (0 : Int32) kk nn w0)) + (own_held (1 : Int32) kk nn w1)) + (own_held (2 : Int32) kk nn w2)) + (own_held (3 : Int32) kk nn w3))), .second, .unset, .unset, .unset, .unset] [])) _
  refine XS.lload X5_.here hx rfl (hb hby at_237) rfl ?_
  refine XS.iconst X5_.here hx rfl (hb hby at_239) ?_
  refine XS.iload X5_.here hx rfl (hb hby at_240) rfl ?_
  refine XS.iload X5_.here hx rfl (hb hby at_242) rfl ?_
  refine XS.iload X5_.here hx rfl (hb hby at_244) rfl ?_
  refine st6_ _ ?_
  show Steps p.tables e below (T6_.setTop (mkF m 249 #[s0, .val (.int i1), .val (.int i2), s3, s4, s5, s6, s7, s8, .val (.int nn), .val (.int kk), .val (.int w0), .val (.int w1), .val (.int w2), .val (.int w3), .val (.int w4), .val (.int w5), .val (.ref mm), .val (.double gg), .second, .val (.long (((((((own_maxI (0 : Int32) (nn - kk)).toInt64) * (i1.toInt64)) + (own_held (0 : Int32) kk nn w0)) + (own_held (1 : Int32) kk nn w1)) + (own_held (2 : Int32) kk nn w2)) + (own_held (3 : Int32) kk nn w3))), .second, .unset, .unset, .unset, .unset] [(.long (own_held (4 : Int32) kk nn w4)), (.long (((((((own_maxI (0 : Int32) (nn - kk)).toInt64) * (i1.toInt64)) + (own_held (0 : Int32) kk nn w0)) + (own_held (1 : Int32) kk nn w1)) + (own_held (2 : Int32) kk nn w2)) + (own_held (3 : Int32) kk nn w3)))])) _
  refine XS.ladd X6_.here hx rfl (hb hby at_249) rfl ?_
  show Steps p.tables e below (T6_.setTop (mkF m 250 #[s0, .val (.int i1), .val (.int i2), s3, s4, s5, s6, s7, s8, .val (.int nn), .val (.int kk), .val (.int w0), .val (.int w1), .val (.int w2), .val (.int w3), .val (.int w4), .val (.int w5), .val (.ref mm), .val (.double gg), .second, .val (.long (((((((own_maxI (0 : Int32) (nn - kk)).toInt64) * (i1.toInt64)) + (own_held (0 : Int32) kk nn w0)) + (own_held (1 : Int32) kk nn w1)) + (own_held (2 : Int32) kk nn w2)) + (own_held (3 : Int32) kk nn w3))), .second, .unset, .unset, .unset, .unset] [(.long ((((((((own_maxI (0 : Int32) (nn - kk)).toInt64) * (i1.toInt64)) + (own_held (0 : Int32) kk nn w0)) + (own_held (1 : Int32) kk nn w1)) + (own_held (2 : Int32) kk nn w2)) + (own_held (3 : Int32) kk nn w3)) + (own_held (4 : Int32) kk nn w4)))])) _
  refine XS.lstore X6_.here hx rfl (hb hby at_250) rfl (l' := #[s0, .val (.int i1), .val (.int i2), s3, s4, s5, s6, s7, s8, .val (.int nn), .val (.int kk), .val (.int w0), .val (.int w1), .val (.int w2), .val (.int w3), .val (.int w4), .val (.int w5), .val (.ref mm), .val (.double gg), .second, .val (.long ((((((((own_maxI (0 : Int32) (nn - kk)).toInt64) * (i1.toInt64)) + (own_held (0 : Int32) kk nn w0)) + (own_held (1 : Int32) kk nn w1)) + (own_held (2 : Int32) kk nn w2)) + (own_held (3 : Int32) kk nn w3)) + (own_held (4 : Int32) kk nn w4))), .second, .unset, .unset, .unset, .unset]) rfl ?_
  show Steps p.tables e below (T6_.setTop (mkF m 252 #[s0, .val (.int i1), .val (.int i2), s3, s4, s5, s6, s7, s8, .val (.int nn), .val (.int kk), .val (.int w0), .val (.int w1), .val (.int w2), .val (.int w3), .val (.int w4), .val (.int w5), .val (.ref mm), .val (.double gg), .second, .val (.long ((((((((own_maxI (0 : Int32) (nn - kk)).toInt64) * (i1.toInt64)) + (own_held (0 : Int32) kk nn w0)) + (own_held (1 : Int32) kk nn w1)) + (own_held (2 : Int32) kk nn w2)) + (own_held (3 : Int32) kk nn w3)) + (own_held (4 : Int32) kk nn w4))), .second, .unset, .unset, .unset, .unset] [])) _
  refine XS.lload X6_.here hx rfl (hb hby at_252) rfl ?_
  refine XS.iconst X6_.here hx rfl (hb hby at_254) ?_
  refine XS.iload X6_.here hx rfl (hb hby at_255) rfl ?_
  refine XS.iload X6_.here hx rfl (hb hby at_257) rfl ?_
  refine XS.iload X6_.here hx rfl (hb hby at_259) rfl ?_
  refine st7_ _ ?_
  show Steps p.tables e below (T7_.setTop (mkF m 264 #[s0, .val (.int i1), .val (.int i2), s3, s4, s5, s6, s7, s8, .val (.int nn), .val (.int kk), .val (.int w0), .val (.int w1), .val (.int w2), .val (.int w3), .val (.int w4), .val (.int w5), .val (.ref mm), .val (.double gg), .second, .val (.long ((((((((own_maxI (0 : Int32) (nn - kk)).toInt64) * (i1.toInt64)) + (own_held (0 : Int32) kk nn w0)) + (own_held (1 : Int32) kk nn w1)) + (own_held (2 : Int32) kk nn w2)) + (own_held (3 : Int32) kk nn w3)) + (own_held (4 : Int32) kk nn w4))), .second, .unset, .unset, .unset, .unset] [(.long (own_held (5 : Int32) kk nn w5)), (.long ((((((((own_maxI (0 : Int32) (nn - kk)).toInt64) * (i1.toInt64)) + (own_held (0 : Int32) kk nn w0)) + (own_held (1 : Int32) kk nn w1)) + (own_held (2 : Int32) kk nn w2)) + (own_held (3 : Int32) kk nn w3)) + (own_held (4 : Int32) kk nn w4)))])) _
  refine XS.ladd X7_.here hx rfl (hb hby at_264) rfl ?_
  show Steps p.tables e below (T7_.setTop (mkF m 265 #[s0, .val (.int i1), .val (.int i2), s3, s4, s5, s6, s7, s8, .val (.int nn), .val (.int kk), .val (.int w0), .val (.int w1), .val (.int w2), .val (.int w3), .val (.int w4), .val (.int w5), .val (.ref mm), .val (.double gg), .second, .val (.long ((((((((own_maxI (0 : Int32) (nn - kk)).toInt64) * (i1.toInt64)) + (own_held (0 : Int32) kk nn w0)) + (own_held (1 : Int32) kk nn w1)) + (own_held (2 : Int32) kk nn w2)) + (own_held (3 : Int32) kk nn w3)) + (own_held (4 : Int32) kk nn w4))), .second, .unset, .unset, .unset, .unset] [(.long (((((((((own_maxI (0 : Int32) (nn - kk)).toInt64) * (i1.toInt64)) + (own_held (0 : Int32) kk nn w0)) + (own_held (1 : Int32) kk nn w1)) + (own_held (2 : Int32) kk nn w2)) + (own_held (3 : Int32) kk nn w3)) + (own_held (4 : Int32) kk nn w4)) + (own_held (5 : Int32) kk nn w5)))])) _
  refine XS.lstore X7_.here hx rfl (hb hby at_265) rfl (l' := #[s0, .val (.int i1), .val (.int i2), s3, s4, s5, s6, s7, s8, .val (.int nn), .val (.int kk), .val (.int w0), .val (.int w1), .val (.int w2), .val (.int w3), .val (.int w4), .val (.int w5), .val (.ref mm), .val (.double gg), .second, .val (.long (((((((((own_maxI (0 : Int32) (nn - kk)).toInt64) * (i1.toInt64)) + (own_held (0 : Int32) kk nn w0)) + (own_held (1 : Int32) kk nn w1)) + (own_held (2 : Int32) kk nn w2)) + (own_held (3 : Int32) kk nn w3)) + (own_held (4 : Int32) kk nn w4)) + (own_held (5 : Int32) kk nn w5))), .second, .unset, .unset, .unset, .unset]) rfl ?_
  show Steps p.tables e below (T7_.setTop (mkF m 267 #[s0, .val (.int i1), .val (.int i2), s3, s4, s5, s6, s7, s8, .val (.int nn), .val (.int kk), .val (.int w0), .val (.int w1), .val (.int w2), .val (.int w3), .val (.int w4), .val (.int w5), .val (.ref mm), .val (.double gg), .second, .val (.long (((((((((own_maxI (0 : Int32) (nn - kk)).toInt64) * (i1.toInt64)) + (own_held (0 : Int32) kk nn w0)) + (own_held (1 : Int32) kk nn w1)) + (own_held (2 : Int32) kk nn w2)) + (own_held (3 : Int32) kk nn w3)) + (own_held (4 : Int32) kk nn w4)) + (own_held (5 : Int32) kk nn w5))), .second, .unset, .unset, .unset, .unset] [])) _
  refine XS.lload X7_.here hx rfl (hb hby at_267) rfl ?_
  refine XS.iload X7_.here hx rfl (hb hby at_269) rfl ?_
  refine XS.i2l X7_.here hx rfl (hb hby at_271) rfl ?_
  show Steps p.tables e below (T7_.setTop (mkF m 272 #[s0, .val (.int i1), .val (.int i2), s3, s4, s5, s6, s7, s8, .val (.int nn), .val (.int kk), .val (.int w0), .val (.int w1), .val (.int w2), .val (.int w3), .val (.int w4), .val (.int w5), .val (.ref mm), .val (.double gg), .second, .val (.long (((((((((own_maxI (0 : Int32) (nn - kk)).toInt64) * (i1.toInt64)) + (own_held (0 : Int32) kk nn w0)) + (own_held (1 : Int32) kk nn w1)) + (own_held (2 : Int32) kk nn w2)) + (own_held (3 : Int32) kk nn w3)) + (own_held (4 : Int32) kk nn w4)) + (own_held (5 : Int32) kk nn w5))), .second, .unset, .unset, .unset, .unset] [(.long (nn.toInt64)), (.long (((((((((own_maxI (0 : Int32) (nn - kk)).toInt64) * (i1.toInt64)) + (own_held (0 : Int32) kk nn w0)) + (own_held (1 : Int32) kk nn w1)) + (own_held (2 : Int32) kk nn w2)) + (own_held (3 : Int32) kk nn w3)) + (own_held (4 : Int32) kk nn w4)) + (own_held (5 : Int32) kk nn w5)))])) _
  refine XS.iloadN X7_.here hx rfl (hb hby at_272) rfl ?_
  refine XS.i2l X7_.here hx rfl (hb hby at_273) rfl ?_
  show Steps p.tables e below (T7_.setTop (mkF m 274 #[s0, .val (.int i1), .val (.int i2), s3, s4, s5, s6, s7, s8, .val (.int nn), .val (.int kk), .val (.int w0), .val (.int w1), .val (.int w2), .val (.int w3), .val (.int w4), .val (.int w5), .val (.ref mm), .val (.double gg), .second, .val (.long (((((((((own_maxI (0 : Int32) (nn - kk)).toInt64) * (i1.toInt64)) + (own_held (0 : Int32) kk nn w0)) + (own_held (1 : Int32) kk nn w1)) + (own_held (2 : Int32) kk nn w2)) + (own_held (3 : Int32) kk nn w3)) + (own_held (4 : Int32) kk nn w4)) + (own_held (5 : Int32) kk nn w5))), .second, .unset, .unset, .unset, .unset] [(.long (i2.toInt64)), (.long (nn.toInt64)), (.long (((((((((own_maxI (0 : Int32) (nn - kk)).toInt64) * (i1.toInt64)) + (own_held (0 : Int32) kk nn w0)) + (own_held (1 : Int32) kk nn w1)) + (own_held (2 : Int32) kk nn w2)) + (own_held (3 : Int32) kk nn w3)) + (own_held (4 : Int32) kk nn w4)) + (own_held (5 : Int32) kk nn w5)))])) _
  refine XS.lmul X7_.here hx rfl (hb hby at_274) rfl ?_
  show Steps p.tables e below (T7_.setTop (mkF m 275 #[s0, .val (.int i1), .val (.int i2), s3, s4, s5, s6, s7, s8, .val (.int nn), .val (.int kk), .val (.int w0), .val (.int w1), .val (.int w2), .val (.int w3), .val (.int w4), .val (.int w5), .val (.ref mm), .val (.double gg), .second, .val (.long (((((((((own_maxI (0 : Int32) (nn - kk)).toInt64) * (i1.toInt64)) + (own_held (0 : Int32) kk nn w0)) + (own_held (1 : Int32) kk nn w1)) + (own_held (2 : Int32) kk nn w2)) + (own_held (3 : Int32) kk nn w3)) + (own_held (4 : Int32) kk nn w4)) + (own_held (5 : Int32) kk nn w5))), .second, .unset, .unset, .unset, .unset] [(.long ((nn.toInt64) * (i2.toInt64))), (.long (((((((((own_maxI (0 : Int32) (nn - kk)).toInt64) * (i1.toInt64)) + (own_held (0 : Int32) kk nn w0)) + (own_held (1 : Int32) kk nn w1)) + (own_held (2 : Int32) kk nn w2)) + (own_held (3 : Int32) kk nn w3)) + (own_held (4 : Int32) kk nn w4)) + (own_held (5 : Int32) kk nn w5)))])) _
  refine XS.lsub X7_.here hx rfl (hb hby at_275) rfl ?_
  show Steps p.tables e below (T7_.setTop (mkF m 276 #[s0, .val (.int i1), .val (.int i2), s3, s4, s5, s6, s7, s8, .val (.int nn), .val (.int kk), .val (.int w0), .val (.int w1), .val (.int w2), .val (.int w3), .val (.int w4), .val (.int w5), .val (.ref mm), .val (.double gg), .second, .val (.long (((((((((own_maxI (0 : Int32) (nn - kk)).toInt64) * (i1.toInt64)) + (own_held (0 : Int32) kk nn w0)) + (own_held (1 : Int32) kk nn w1)) + (own_held (2 : Int32) kk nn w2)) + (own_held (3 : Int32) kk nn w3)) + (own_held (4 : Int32) kk nn w4)) + (own_held (5 : Int32) kk nn w5))), .second, .unset, .unset, .unset, .unset] [(.long ((((((((((own_maxI (0 : Int32) (nn - kk)).toInt64) * (i1.toInt64)) + (own_held (0 : Int32) kk nn w0)) + (own_held (1 : Int32) kk nn w1)) + (own_held (2 : Int32) kk nn w2)) + (own_held (3 : Int32) kk nn w3)) + (own_held (4 : Int32) kk nn w4)) + (own_held (5 : Int32) kk nn w5)) - ((nn.toInt64) * (i2.toInt64))))])) _
  refine XS.lstore X7_.here hx rfl (hb hby at_276) rfl (l' := #[s0, .val (.int i1), .val (.int i2), s3, s4, s5, s6, s7, s8, .val (.int nn), .val (.int kk), .val (.int w0), .val (.int w1), .val (.int w2), .val (.int w3), .val (.int w4), .val (.int w5), .val (.ref mm), .val (.double gg), .second, .val (.long (((((((((own_maxI (0 : Int32) (nn - kk)).toInt64) * (i1.toInt64)) + (own_held (0 : Int32) kk nn w0)) + (own_held (1 : Int32) kk nn w1)) + (own_held (2 : Int32) kk nn w2)) + (own_held (3 : Int32) kk nn w3)) + (own_held (4 : Int32) kk nn w4)) + (own_held (5 : Int32) kk nn w5))), .second, .val (.long ((((((((((own_maxI (0 : Int32) (nn - kk)).toInt64) * (i1.toInt64)) + (own_held (0 : Int32) kk nn w0)) + (own_held (1 : Int32) kk nn w1)) + (own_held (2 : Int32) kk nn w2)) + (own_held (3 : Int32) kk nn w3)) + (own_held (4 : Int32) kk nn w4)) + (own_held (5 : Int32) kk nn w5)) - ((nn.toInt64) * (i2.toInt64)))), .second, .unset, .unset]) rfl ?_
  show Steps p.tables e below (T7_.setTop (mkF m 278 #[s0, .val (.int i1), .val (.int i2), s3, s4, s5, s6, s7, s8, .val (.int nn), .val (.int kk), .val (.int w0), .val (.int w1), .val (.int w2), .val (.int w3), .val (.int w4), .val (.int w5), .val (.ref mm), .val (.double gg), .second, .val (.long (((((((((own_maxI (0 : Int32) (nn - kk)).toInt64) * (i1.toInt64)) + (own_held (0 : Int32) kk nn w0)) + (own_held (1 : Int32) kk nn w1)) + (own_held (2 : Int32) kk nn w2)) + (own_held (3 : Int32) kk nn w3)) + (own_held (4 : Int32) kk nn w4)) + (own_held (5 : Int32) kk nn w5))), .second, .val (.long ((((((((((own_maxI (0 : Int32) (nn - kk)).toInt64) * (i1.toInt64)) + (own_held (0 : Int32) kk nn w0)) + (own_held (1 : Int32) kk nn w1)) + (own_held (2 : Int32) kk nn w2)) + (own_held (3 : Int32) kk nn w3)) + (own_held (4 : Int32) kk nn w4)) + (own_held (5 : Int32) kk nn w5)) - ((nn.toInt64) * (i2.toInt64)))), .second, .unset, .unset] [])) _
  refine XS.lload X7_.here hx rfl (hb hby at_278) rfl ?_
  refine XS.l2dS X7_.here hx rfl (hb hby at_280) rfl (v := (FP.l2d ((((((((((own_maxI (0 : Int32) (nn - kk)).toInt64) * (i1.toInt64)) + (own_held (0 : Int32) kk nn w0)) + (own_held (1 : Int32) kk nn w1)) + (own_held (2 : Int32) kk nn w2)) + (own_held (3 : Int32) kk nn w3)) + (own_held (4 : Int32) kk nn w4)) + (own_held (5 : Int32) kk nn w5)) - ((nn.toInt64) * (i2.toInt64))))) rfl ?_
  show Steps p.tables e below (T7_.setTop (mkF m 281 #[s0, .val (.int i1), .val (.int i2), s3, s4, s5, s6, s7, s8, .val (.int nn), .val (.int kk), .val (.int w0), .val (.int w1), .val (.int w2), .val (.int w3), .val (.int w4), .val (.int w5), .val (.ref mm), .val (.double gg), .second, .val (.long (((((((((own_maxI (0 : Int32) (nn - kk)).toInt64) * (i1.toInt64)) + (own_held (0 : Int32) kk nn w0)) + (own_held (1 : Int32) kk nn w1)) + (own_held (2 : Int32) kk nn w2)) + (own_held (3 : Int32) kk nn w3)) + (own_held (4 : Int32) kk nn w4)) + (own_held (5 : Int32) kk nn w5))), .second, .val (.long ((((((((((own_maxI (0 : Int32) (nn - kk)).toInt64) * (i1.toInt64)) + (own_held (0 : Int32) kk nn w0)) + (own_held (1 : Int32) kk nn w1)) + (own_held (2 : Int32) kk nn w2)) + (own_held (3 : Int32) kk nn w3)) + (own_held (4 : Int32) kk nn w4)) + (own_held (5 : Int32) kk nn w5)) - ((nn.toInt64) * (i2.toInt64)))), .second, .unset, .unset] [(.double (FP.l2d ((((((((((own_maxI (0 : Int32) (nn - kk)).toInt64) * (i1.toInt64)) + (own_held (0 : Int32) kk nn w0)) + (own_held (1 : Int32) kk nn w1)) + (own_held (2 : Int32) kk nn w2)) + (own_held (3 : Int32) kk nn w3)) + (own_held (4 : Int32) kk nn w4)) + (own_held (5 : Int32) kk nn w5)) - ((nn.toInt64) * (i2.toInt64)))))])) _
  refine XS.iload X7_.here hx rfl (hb hby at_281) rfl ?_
  refine XS.i2dS X7_.here hx rfl (hb hby at_283) rfl (v := (FP.i2d nn)) rfl ?_
  show Steps p.tables e below (T7_.setTop (mkF m 284 #[s0, .val (.int i1), .val (.int i2), s3, s4, s5, s6, s7, s8, .val (.int nn), .val (.int kk), .val (.int w0), .val (.int w1), .val (.int w2), .val (.int w3), .val (.int w4), .val (.int w5), .val (.ref mm), .val (.double gg), .second, .val (.long (((((((((own_maxI (0 : Int32) (nn - kk)).toInt64) * (i1.toInt64)) + (own_held (0 : Int32) kk nn w0)) + (own_held (1 : Int32) kk nn w1)) + (own_held (2 : Int32) kk nn w2)) + (own_held (3 : Int32) kk nn w3)) + (own_held (4 : Int32) kk nn w4)) + (own_held (5 : Int32) kk nn w5))), .second, .val (.long ((((((((((own_maxI (0 : Int32) (nn - kk)).toInt64) * (i1.toInt64)) + (own_held (0 : Int32) kk nn w0)) + (own_held (1 : Int32) kk nn w1)) + (own_held (2 : Int32) kk nn w2)) + (own_held (3 : Int32) kk nn w3)) + (own_held (4 : Int32) kk nn w4)) + (own_held (5 : Int32) kk nn w5)) - ((nn.toInt64) * (i2.toInt64)))), .second, .unset, .unset] [(.double (FP.i2d nn)), (.double (FP.l2d ((((((((((own_maxI (0 : Int32) (nn - kk)).toInt64) * (i1.toInt64)) + (own_held (0 : Int32) kk nn w0)) + (own_held (1 : Int32) kk nn w1)) + (own_held (2 : Int32) kk nn w2)) + (own_held (3 : Int32) kk nn w3)) + (own_held (4 : Int32) kk nn w4)) + (own_held (5 : Int32) kk nn w5)) - ((nn.toInt64) * (i2.toInt64)))))])) _
  refine XS.ddivS X7_.here hx rfl (hb hby at_284) rfl qd (v := (FP.ddiv (FP.l2d ((((((((((own_maxI (0 : Int32) (nn - kk)).toInt64) * (i1.toInt64)) + (own_held (0 : Int32) kk nn w0)) + (own_held (1 : Int32) kk nn w1)) + (own_held (2 : Int32) kk nn w2)) + (own_held (3 : Int32) kk nn w3)) + (own_held (4 : Int32) kk nn w4)) + (own_held (5 : Int32) kk nn w5)) - ((nn.toInt64) * (i2.toInt64)))) (FP.i2d nn))) rfl ?_
  show Steps p.tables e below (T7_.setTop (mkF m 285 #[s0, .val (.int i1), .val (.int i2), s3, s4, s5, s6, s7, s8, .val (.int nn), .val (.int kk), .val (.int w0), .val (.int w1), .val (.int w2), .val (.int w3), .val (.int w4), .val (.int w5), .val (.ref mm), .val (.double gg), .second, .val (.long (((((((((own_maxI (0 : Int32) (nn - kk)).toInt64) * (i1.toInt64)) + (own_held (0 : Int32) kk nn w0)) + (own_held (1 : Int32) kk nn w1)) + (own_held (2 : Int32) kk nn w2)) + (own_held (3 : Int32) kk nn w3)) + (own_held (4 : Int32) kk nn w4)) + (own_held (5 : Int32) kk nn w5))), .second, .val (.long ((((((((((own_maxI (0 : Int32) (nn - kk)).toInt64) * (i1.toInt64)) + (own_held (0 : Int32) kk nn w0)) + (own_held (1 : Int32) kk nn w1)) + (own_held (2 : Int32) kk nn w2)) + (own_held (3 : Int32) kk nn w3)) + (own_held (4 : Int32) kk nn w4)) + (own_held (5 : Int32) kk nn w5)) - ((nn.toInt64) * (i2.toInt64)))), .second, .unset, .unset] [(.double (FP.ddiv (FP.l2d ((((((((((own_maxI (0 : Int32) (nn - kk)).toInt64) * (i1.toInt64)) + (own_held (0 : Int32) kk nn w0)) + (own_held (1 : Int32) kk nn w1)) + (own_held (2 : Int32) kk nn w2)) + (own_held (3 : Int32) kk nn w3)) + (own_held (4 : Int32) kk nn w4)) + (own_held (5 : Int32) kk nn w5)) - ((nn.toInt64) * (i2.toInt64)))) (FP.i2d nn)))])) _
  refine XS.dstore X7_.here hx rfl (hb hby at_285) rfl (l' := #[s0, .val (.int i1), .val (.int i2), s3, s4, s5, s6, s7, s8, .val (.int nn), .val (.int kk), .val (.int w0), .val (.int w1), .val (.int w2), .val (.int w3), .val (.int w4), .val (.int w5), .val (.ref mm), .val (.double gg), .second, .val (.long (((((((((own_maxI (0 : Int32) (nn - kk)).toInt64) * (i1.toInt64)) + (own_held (0 : Int32) kk nn w0)) + (own_held (1 : Int32) kk nn w1)) + (own_held (2 : Int32) kk nn w2)) + (own_held (3 : Int32) kk nn w3)) + (own_held (4 : Int32) kk nn w4)) + (own_held (5 : Int32) kk nn w5))), .second, .val (.long ((((((((((own_maxI (0 : Int32) (nn - kk)).toInt64) * (i1.toInt64)) + (own_held (0 : Int32) kk nn w0)) + (own_held (1 : Int32) kk nn w1)) + (own_held (2 : Int32) kk nn w2)) + (own_held (3 : Int32) kk nn w3)) + (own_held (4 : Int32) kk nn w4)) + (own_held (5 : Int32) kk nn w5)) - ((nn.toInt64) * (i2.toInt64)))), .second, .val (.double (FP.ddiv (FP.l2d ((((((((((own_maxI (0 : Int32) (nn - kk)).toInt64) * (i1.toInt64)) + (own_held (0 : Int32) kk nn w0)) + (own_held (1 : Int32) kk nn w1)) + (own_held (2 : Int32) kk nn w2)) + (own_held (3 : Int32) kk nn w3)) + (own_held (4 : Int32) kk nn w4)) + (own_held (5 : Int32) kk nn w5)) - ((nn.toInt64) * (i2.toInt64)))) (FP.i2d nn))), .second]) rfl ?_
  show Steps p.tables e below (T7_.setTop (mkF m 287 #[s0, .val (.int i1), .val (.int i2), s3, s4, s5, s6, s7, s8, .val (.int nn), .val (.int kk), .val (.int w0), .val (.int w1), .val (.int w2), .val (.int w3), .val (.int w4), .val (.int w5), .val (.ref mm), .val (.double gg), .second, .val (.long (((((((((own_maxI (0 : Int32) (nn - kk)).toInt64) * (i1.toInt64)) + (own_held (0 : Int32) kk nn w0)) + (own_held (1 : Int32) kk nn w1)) + (own_held (2 : Int32) kk nn w2)) + (own_held (3 : Int32) kk nn w3)) + (own_held (4 : Int32) kk nn w4)) + (own_held (5 : Int32) kk nn w5))), .second, .val (.long ((((((((((own_maxI (0 : Int32) (nn - kk)).toInt64) * (i1.toInt64)) + (own_held (0 : Int32) kk nn w0)) + (own_held (1 : Int32) kk nn w1)) + (own_held (2 : Int32) kk nn w2)) + (own_held (3 : Int32) kk nn w3)) + (own_held (4 : Int32) kk nn w4)) + (own_held (5 : Int32) kk nn w5)) - ((nn.toInt64) * (i2.toInt64)))), .second, .val (.double (FP.ddiv (FP.l2d ((((((((((own_maxI (0 : Int32) (nn - kk)).toInt64) * (i1.toInt64)) + (own_held (0 : Int32) kk nn w0)) + (own_held (1 : Int32) kk nn w1)) + (own_held (2 : Int32) kk nn w2)) + (own_held (3 : Int32) kk nn w3)) + (own_held (4 : Int32) kk nn w4)) + (own_held (5 : Int32) kk nn w5)) - ((nn.toInt64) * (i2.toInt64)))) (FP.i2d nn))), .second] [])) _
  refine XS.dload X7_.here hx rfl (hb hby at_287) rfl ?_
  refine XS.dload X7_.here hx rfl (hb hby at_289) rfl ?_
  refine XS.dcmpS X7_.here hx rfl (hb hby at_291) rfl (v := (cmpValue (FP.dcmp gg (FP.ddiv (FP.l2d ((((((((((own_maxI (0 : Int32) (nn - kk)).toInt64) * (i1.toInt64)) + (own_held (0 : Int32) kk nn w0)) + (own_held (1 : Int32) kk nn w1)) + (own_held (2 : Int32) kk nn w2)) + (own_held (3 : Int32) kk nn w3)) + (own_held (4 : Int32) kk nn w4)) + (own_held (5 : Int32) kk nn w5)) - ((nn.toInt64) * (i2.toInt64)))) (FP.i2d nn))) .l)) rfl ?_
  show Steps p.tables e below (T7_.setTop (mkF m 292 #[s0, .val (.int i1), .val (.int i2), s3, s4, s5, s6, s7, s8, .val (.int nn), .val (.int kk), .val (.int w0), .val (.int w1), .val (.int w2), .val (.int w3), .val (.int w4), .val (.int w5), .val (.ref mm), .val (.double gg), .second, .val (.long (((((((((own_maxI (0 : Int32) (nn - kk)).toInt64) * (i1.toInt64)) + (own_held (0 : Int32) kk nn w0)) + (own_held (1 : Int32) kk nn w1)) + (own_held (2 : Int32) kk nn w2)) + (own_held (3 : Int32) kk nn w3)) + (own_held (4 : Int32) kk nn w4)) + (own_held (5 : Int32) kk nn w5))), .second, .val (.long ((((((((((own_maxI (0 : Int32) (nn - kk)).toInt64) * (i1.toInt64)) + (own_held (0 : Int32) kk nn w0)) + (own_held (1 : Int32) kk nn w1)) + (own_held (2 : Int32) kk nn w2)) + (own_held (3 : Int32) kk nn w3)) + (own_held (4 : Int32) kk nn w4)) + (own_held (5 : Int32) kk nn w5)) - ((nn.toInt64) * (i2.toInt64)))), .second, .val (.double (FP.ddiv (FP.l2d ((((((((((own_maxI (0 : Int32) (nn - kk)).toInt64) * (i1.toInt64)) + (own_held (0 : Int32) kk nn w0)) + (own_held (1 : Int32) kk nn w1)) + (own_held (2 : Int32) kk nn w2)) + (own_held (3 : Int32) kk nn w3)) + (own_held (4 : Int32) kk nn w4)) + (own_held (5 : Int32) kk nn w5)) - ((nn.toInt64) * (i2.toInt64)))) (FP.i2d nn))), .second] [(.int (cmpValue (FP.dcmp gg (FP.ddiv (FP.l2d ((((((((((own_maxI (0 : Int32) (nn - kk)).toInt64) * (i1.toInt64)) + (own_held (0 : Int32) kk nn w0)) + (own_held (1 : Int32) kk nn w1)) + (own_held (2 : Int32) kk nn w2)) + (own_held (3 : Int32) kk nn w3)) + (own_held (4 : Int32) kk nn w4)) + (own_held (5 : Int32) kk nn w5)) - ((nn.toInt64) * (i2.toInt64)))) (FP.i2d nn))) .l))])) _
  refine XS.ifNo X7_.here hx rfl (hb hby at_292) rfl ((if0 _ _).trans (teq (hcmp : (cmpValue (FP.dcmp gg (FP.ddiv (FP.l2d ((((((((((own_maxI (0 : Int32) (nn - kk)).toInt64) * (i1.toInt64)) + (own_held (0 : Int32) kk nn w0)) + (own_held (1 : Int32) kk nn w1)) + (own_held (2 : Int32) kk nn w2)) + (own_held (3 : Int32) kk nn w3)) + (own_held (4 : Int32) kk nn w4)) + (own_held (5 : Int32) kk nn w5)) - ((nn.toInt64) * (i2.toInt64)))) (FP.i2d nn))) .l) = (0 : Int32))).2) ?_
  show Steps p.tables e below (T7_.setTop (mkF m 295 #[s0, .val (.int i1), .val (.int i2), s3, s4, s5, s6, s7, s8, .val (.int nn), .val (.int kk), .val (.int w0), .val (.int w1), .val (.int w2), .val (.int w3), .val (.int w4), .val (.int w5), .val (.ref mm), .val (.double gg), .second, .val (.long (((((((((own_maxI (0 : Int32) (nn - kk)).toInt64) * (i1.toInt64)) + (own_held (0 : Int32) kk nn w0)) + (own_held (1 : Int32) kk nn w1)) + (own_held (2 : Int32) kk nn w2)) + (own_held (3 : Int32) kk nn w3)) + (own_held (4 : Int32) kk nn w4)) + (own_held (5 : Int32) kk nn w5))), .second, .val (.long ((((((((((own_maxI (0 : Int32) (nn - kk)).toInt64) * (i1.toInt64)) + (own_held (0 : Int32) kk nn w0)) + (own_held (1 : Int32) kk nn w1)) + (own_held (2 : Int32) kk nn w2)) + (own_held (3 : Int32) kk nn w3)) + (own_held (4 : Int32) kk nn w4)) + (own_held (5 : Int32) kk nn w5)) - ((nn.toInt64) * (i2.toInt64)))), .second, .val (.double (FP.ddiv (FP.l2d ((((((((((own_maxI (0 : Int32) (nn - kk)).toInt64) * (i1.toInt64)) + (own_held (0 : Int32) kk nn w0)) + (own_held (1 : Int32) kk nn w1)) + (own_held (2 : Int32) kk nn w2)) + (own_held (3 : Int32) kk nn w3)) + (own_held (4 : Int32) kk nn w4)) + (own_held (5 : Int32) kk nn w5)) - ((nn.toInt64) * (i2.toInt64)))) (FP.i2d nn))), .second] [])) _
  refine XS.iconst X7_.here hx rfl (hb hby at_295) ?_
  refine XS.goto X7_.here hx rfl (pc0 := 296) (pc' := 300) rfl (hb hby at_296) (by decide) (by decide) ?_
  exact k
theorem ef_rm0_1_0 (m : MethodId) (x0 : Int32) (x1 : Int32) (x2 : Int32) (x3 : Int64) (x4 : Int64) (x5 : Int64) : entryFrame m #[(.int x0), (.int x1), (.int x2), (.long x3), (.long x4), (.long x5)] maxLocals = mkF m 0 #[.val (.int x0), .val (.int x1), .val (.int x2), .val (.long x3), .second, .val (.long x4), .second, .val (.long x5), .second, .unset, .unset, .unset, .unset, .unset, .unset, .unset, .unset, .unset, .unset, .unset, .unset, .unset, .unset, .unset, .unset, .unset] [] := by first | (simp [entryFrame, mkF, argsToLocals, Value.category, maxLocals]; done) | rfl
def Q_rm0_1_0 (Z : State) (p0 : Int32) (i1 : Int32) (i2 : Int32) (q1 : Int64) (q2 : Int64) (q3 : Int64) (w0 : Int32) (w1 : Int32) (w2 : Int32) (w3 : Int32) (w4 : Int32) (w5 : Int32) (h0 : Heap) (n0 : Nat) (v : Option Value) (h : Heap) (L : List Loc) : Prop := v = some (.int (1 : Int32)) ∧ Fr n0 L
set_option maxRecDepth 65536 in
set_option maxHeartbeats 40000000 in
theorem rm0_1_0 (l : Launch) (Z : State) (a0 : Array Value) (hw : ∀ d ∈ tables_1, d.before a0 Z = true) (ws : List Jvm.Cond) (p0 : Int32) (i1 : Int32) (i2 : Int32) (q1 : Int64) (q2 : Int64) (q3 : Int64) (w0 : Int32) (w1 : Int32) (w2 : Int32) (w3 : Int32) (w4 : Int32) (w5 : Int32) (h0 : Heap) (n0 : Nat) (Z0 : n0 ≤ h0.size) (hn : ((1 : Int32) + (p0 &&& (3 : Int32))) = (1 : Int32)) (hk : (own_minI (((p0.toUInt32 >>> ((2 : Int32) &&& 31).toUInt32).toInt32) &&& (7 : Int32)) (6 : Int32)) = (0 : Int32)) (hw0 : (q1.toInt32) = w0) (hw1 : (((q1.toUInt64 >>> ((32 : Int32) &&& 0x3f).toInt64.toUInt64).toInt64).toInt32) = w1) (hw2 : (q2.toInt32) = w2) (hw3 : (((q2.toUInt64 >>> ((32 : Int32) &&& 0x3f).toInt64.toUInt64).toInt64).toInt32) = w3) (hw4 : (q3.toInt32) = w4) (hw5 : (((q3.toUInt64 >>> ((32 : Int32) &&& 0x3f).toInt64.toUInt64).toInt64).toInt32) = w5) :
    MetFree l x (head1 (Jvm.Cond.code x code maxLocals ret :: ws) room_1) (fun a U => a = #[(.int p0), (.int i1), (.int i2), (.long q1), (.long q2), (.long q3)] ∧ Z.Warmed39 U.vm ∧ U.heap = h0) (fun _ _ _ _ _ => True) (fun _ U o U' => ∃ v L, o = .returned v ∧ Q_rm0_1_0 Z p0 i1 i2 q1 q2 q3 w0 w1 w2 w3 w4 w5 h0 n0 v U'.heap L ∧ FrameEnd U o U' L room_1.cells room_1.slots) := by
  refine MetFree.of_bodySF (plainFor_of_name pn_com_example_whipstill_whipstill_MovingWindowMeanAbovePinLaw) hisR ?_
  intro p e s m args below meth c s₁ Bd hml0 hP hK
  obtain ⟨rfl, hZ, hh⟩ := hP
  have hx := Bd.exec
  have hby := Bd.bytes
  have hml : c.maxLocals = 26 := hml0
  have hown : s.vm.findClass "com/example/whipstill/whipstill/MovingWindowMeanAbovePinLaw" = some m.cls := findClass_of_methodNamed Bd.named
  have hnm := (name_of_methodNamed Bd.named Bd.method).1
  have X0 : Stand p l e room_1 s m #[(.int p0), (.int i1), (.int i2), (.long q1), (.long q2), (.long q3)] below meth c s₁ [] 0 0 := Stand.of_body Bd
  have e0 : s₁.heap = h0 := by rw [← hh, Bd.state]; rfl
  have N0 := Fr.nil n0
  have pre0 : ∀ t, Steps p.tables e below (s₁.setTop (mkF m 0 #[.val (.int p0), .val (.int i1), .val (.int i2), .val (.long q1), .second, .val (.long q2), .second, .val (.long q3), .second, .unset, .unset, .unset, .unset, .unset, .unset, .unset, .unset, .unset, .unset, .unset, .unset, .unset, .unset, .unset, .unset, .unset] [])) t → Steps p.tables e below (s₁.setTop (entryFrame m #[(.int p0), (.int i1), (.int i2), (.long q1), (.long q2), (.long q3)] maxLocals)) t := fun t k => castTop (ef_rm0_1_0 m p0 i1 i2 q1 q2 q3) k
  obtain ⟨T1_, h1_, L1_, X1_, e1_, N1_, K1_, st1_⟩ := pcA Z a0 hw X0 hx hZ hby hml hown p0 i1 i2 q1 q2 q3 (1 : Int32) (0 : Int32) w0 w1 w2 w3 w4 w5 h0 n0 Z0 e0 N0 (by decide) (by decide) (by exact Nat.le_of_ble_eq_true rfl) (by exact Nat.le_of_ble_eq_true rfl) hn hk hw0 hw1 hw2 hw3 hw4 hw5
  have e1_q := e1_.trans K1_
  obtain ⟨T2_, h2_, L2_, mo_2_, ta_2_, kc_2_, X2_, e2_, N2_, K2_, p2_0, p2_1, p2_2, p2_3, p2_4, p2_5, st2_⟩ := pcI1 Z a0 hw X1_ hx hZ hby hml hown (.val (.int p0)) i1 i2 (.val (.long q1)) (.second) (.val (.long q2)) (.second) (.val (.long q3)) (.second) (0 : Int32) w0 w1 w2 w3 w4 w5 h0 n0 Z0 e1_q N1_ (by decide) (by decide) (by exact Nat.le_of_ble_eq_true rfl) (by exact Nat.le_of_ble_eq_true rfl) 
  have z4_ : n0 ≤ h2_.size := Nat.le_trans Z0 K2_.1
  obtain ⟨T3_, h3_, L3_, X3_, e3_, N3_, K3_, st3_⟩ := pcS0 Z a0 hw X2_ hx hZ hby hml hown (.val (.int p0)) i1 i2 (.val (.long q1)) (.second) (.val (.long q2)) (.second) (.val (.long q3)) (.second) (1 : Int32) (0 : Int32) w0 w1 w2 w3 w4 w5 mo_2_ h2_ n0 z4_ e2_ N2_ (by decide) (by decide) (by exact Nat.le_of_ble_eq_true rfl) (by exact Nat.le_of_ble_eq_true rfl) (by decide)
  have e3_q := e3_.trans K3_
  obtain ⟨T5_, h5_, L5_, X5_, e5_, N5_, K5_, st5_⟩ := pcS1 Z a0 hw X3_ hx hZ hby hml hown (.val (.int p0)) i1 i2 (.val (.long q1)) (.second) (.val (.long q2)) (.second) (.val (.long q3)) (.second) (1 : Int32) (0 : Int32) w0 w1 w2 w3 w4 w5 mo_2_ h2_ n0 z4_ e3_q N3_ (by decide) (by decide) (by exact Nat.le_of_ble_eq_true rfl) (by exact Nat.le_of_ble_eq_true rfl) (by decide)
  have e5_q := e5_.trans K5_
  obtain ⟨T6_, h6_, L6_, X6_, e6_, N6_, K6_, st6_⟩ := pcS2 Z a0 hw X5_ hx hZ hby hml hown (.val (.int p0)) i1 i2 (.val (.long q1)) (.second) (.val (.long q2)) (.second) (.val (.long q3)) (.second) (1 : Int32) (0 : Int32) w0 w1 w2 w3 w4 w5 mo_2_ h2_ n0 z4_ e5_q N5_ (by decide) (by decide) (by exact Nat.le_of_ble_eq_true rfl) (by exact Nat.le_of_ble_eq_true rfl) (by decide)
  have e6_q := e6_.trans K6_
  obtain ⟨T7_, h7_, L7_, X7_, e7_, N7_, K7_, st7_⟩ := pcS3 Z a0 hw X6_ hx hZ hby hml hown (.val (.int p0)) i1 i2 (.val (.long q1)) (.second) (.val (.long q2)) (.second) (.val (.long q3)) (.second) (1 : Int32) (0 : Int32) w0 w1 w2 w3 w4 w5 mo_2_ h2_ n0 z4_ e6_q N6_ (by decide) (by decide) (by exact Nat.le_of_ble_eq_true rfl) (by exact Nat.le_of_ble_eq_true rfl) (by decide)
  have e7_q := e7_.trans K7_
  obtain ⟨T8_, h8_, L8_, X8_, e8_, N8_, K8_, st8_⟩ := pcS4 Z a0 hw X7_ hx hZ hby hml hown (.val (.int p0)) i1 i2 (.val (.long q1)) (.second) (.val (.long q2)) (.second) (.val (.long q3)) (.second) (1 : Int32) (0 : Int32) w0 w1 w2 w3 w4 w5 mo_2_ h2_ n0 z4_ e7_q N7_ (by decide) (by decide) (by exact Nat.le_of_ble_eq_true rfl) (by exact Nat.le_of_ble_eq_true rfl) (by decide)
  have e8_q := e8_.trans K8_
  obtain ⟨T9_, h9_, L9_, X9_, e9_, N9_, K9_, st9_⟩ := pcS5 Z a0 hw X8_ hx hZ hby hml hown (.val (.int p0)) i1 i2 (.val (.long q1)) (.second) (.val (.long q2)) (.second) (.val (.long q3)) (.second) (1 : Int32) (0 : Int32) w0 w1 w2 w3 w4 w5 mo_2_ h2_ n0 z4_ e8_q N8_ (by decide) (by decide) (by exact Nat.le_of_ble_eq_true rfl) (by exact Nat.le_of_ble_eq_true rfl) (by decide)
  have e9_q := e9_.trans K9_
  obtain ⟨T10_, h10_, L10_, X10_, e10_, N10_, K10_, st10_⟩ := pcM1 Z a0 hw X9_ hx hZ hby hml hown (.val (.int p0)) i1 i2 (.val (.long q1)) (.second) (.val (.long q2)) (.second) (.val (.long q3)) (.second) (0 : Int32) w0 w1 w2 w3 w4 w5 mo_2_ ta_2_ kc_2_ (i1.toInt64) h2_ n0 z4_ e9_q N9_ (by decide) (by decide) (by exact Nat.le_of_ble_eq_true rfl) (by exact Nat.le_of_ble_eq_true rfl) p2_2 p2_3 p2_5 (own_R.i2l i1)
  have e10_q := e10_.trans K10_
  have hAB : ((0 : Int64) + ((i1.toInt64) - (i2.toInt64))) = ((((((((((own_maxI (0 : Int32) ((1 : Int32) - (0 : Int32))).toInt64) * (i1.toInt64)) + (own_held (0 : Int32) (0 : Int32) (1 : Int32) w0)) + (own_held (1 : Int32) (0 : Int32) (1 : Int32) w1)) + (own_held (2 : Int32) (0 : Int32) (1 : Int32) w2)) + (own_held (3 : Int32) (0 : Int32) (1 : Int32) w3)) + (own_held (4 : Int32) (0 : Int32) (1 : Int32) w4)) + (own_held (5 : Int32) (0 : Int32) (1 : Int32) w5)) - (((1 : Int32).toInt64) * (i2.toInt64))) := by
    rw [show own_maxI (0 : Int32) ((1 : Int32) - (0 : Int32)) = (1 : Int32) from rfl, show own_held (0 : Int32) (0 : Int32) (1 : Int32) w0 = 0 from rfl, show own_held (1 : Int32) (0 : Int32) (1 : Int32) w1 = 0 from rfl, show own_held (2 : Int32) (0 : Int32) (1 : Int32) w2 = 0 from rfl, show own_held (3 : Int32) (0 : Int32) (1 : Int32) w3 = 0 from rfl, show own_held (4 : Int32) (0 : Int32) (1 : Int32) w4 = 0 from rfl, show own_held (5 : Int32) (0 : Int32) (1 : Int32) w5 = 0 from rfl, show (1 : Int32).toInt64 = 1 from rfl]
    generalize i1.toInt64 = x1, i2.toInt64 = x2, w0.toInt64 = x3, w1.toInt64 = x4, w2.toInt64 = x5, w3.toInt64 = x6, w4.toInt64 = x7, w5.toInt64 = x8
    grind
  obtain ⟨T11_, h11_, L11_, X11_, e11_, N11_, K11_, st11_⟩ := pcB Z a0 hw X10_ hx hZ hby hml hown (.val (.int p0)) i1 i2 (.val (.long q1)) (.second) (.val (.long q2)) (.second) (.val (.long q3)) (.second) (1 : Int32) (0 : Int32) w0 w1 w2 w3 w4 w5 mo_2_ (FP.ddiv (FP.l2d ((0 : Int64) + ((i1.toInt64) - (i2.toInt64)))) (FP.i2d (1 : Int32))) h2_ n0 z4_ e10_q N10_ (by decide) (by decide) (by exact Nat.le_of_ble_eq_true rfl) (by exact Nat.le_of_ble_eq_true rfl) (by decide) (dcmpV_eq (congrArg (fun z => FP.ddiv (FP.l2d z) (FP.i2d (1 : Int32))) hAB) (own_ddiv _ _ (by decide)) .l)
  have e11_q := e11_.trans K11_
  obtain ⟨fs, hr, hrun, hended, hW, hsame⟩ := X11_.leave (v := some (.int (1 : Int32))) (fun h => by first | rfl | (rw [Bd.returns] at h; cases h))
  refine ⟨_, _, pre0 _ ?_, hrun, hended, _, _, rfl, ?_, ⟨_, rfl⟩, hW, hsame.mono (by exact Nat.le_of_ble_eq_true rfl) (by exact Nat.le_of_ble_eq_true rfl)⟩
  · show Steps p.tables e below (s₁.setTop (mkF m 0 #[.val (.int p0), .val (.int i1), .val (.int i2), .val (.long q1), .second, .val (.long q2), .second, .val (.long q3), .second, .unset, .unset, .unset, .unset, .unset, .unset, .unset, .unset, .unset, .unset, .unset, .unset, .unset, .unset, .unset, .unset, .unset] [])) _
    refine st1_ _ ?_
    refine st2_ _ ?_
    refine st3_ _ ?_
    refine st5_ _ ?_
    refine st6_ _ ?_
    refine st7_ _ ?_
    refine st8_ _ ?_
    refine st9_ _ ?_
    refine st10_ _ ?_
    refine st11_ _ ?_
    exact retN X11_ hx (t := .boolean) Bd.returns (by simp) (hb hby at_300) hr
  · show Q_rm0_1_0 Z p0 i1 i2 q1 q2 q3 w0 w1 w2 w3 w4 w5 h0 n0 _ T11_.heap _
    rw [e11_q]
    exact ⟨rfl, N11_⟩
theorem ef_rm0_1_1 (m : MethodId) (x0 : Int32) (x1 : Int32) (x2 : Int32) (x3 : Int64) (x4 : Int64) (x5 : Int64) : entryFrame m #[(.int x0), (.int x1), (.int x2), (.long x3), (.long x4), (.long x5)] maxLocals = mkF m 0 #[.val (.int x0), .val (.int x1), .val (.int x2), .val (.long x3), .second, .val (.long x4), .second, .val (.long x5), .second, .unset, .unset, .unset, .unset, .unset, .unset, .unset, .unset, .unset, .unset, .unset, .unset, .unset, .unset, .unset, .unset, .unset] [] := by first | (simp [entryFrame, mkF, argsToLocals, Value.category, maxLocals]; done) | rfl
def Q_rm0_1_1 (Z : State) (p0 : Int32) (i1 : Int32) (i2 : Int32) (q1 : Int64) (q2 : Int64) (q3 : Int64) (w0 : Int32) (w1 : Int32) (w2 : Int32) (w3 : Int32) (w4 : Int32) (w5 : Int32) (h0 : Heap) (n0 : Nat) (v : Option Value) (h : Heap) (L : List Loc) : Prop := v = some (.int (1 : Int32)) ∧ Fr n0 L
set_option maxRecDepth 65536 in
set_option maxHeartbeats 40000000 in
theorem rm0_1_1 (l : Launch) (Z : State) (a0 : Array Value) (hw : ∀ d ∈ tables_1, d.before a0 Z = true) (ws : List Jvm.Cond) (p0 : Int32) (i1 : Int32) (i2 : Int32) (q1 : Int64) (q2 : Int64) (q3 : Int64) (w0 : Int32) (w1 : Int32) (w2 : Int32) (w3 : Int32) (w4 : Int32) (w5 : Int32) (h0 : Heap) (n0 : Nat) (Z0 : n0 ≤ h0.size) (hn : ((1 : Int32) + (p0 &&& (3 : Int32))) = (1 : Int32)) (hk : (own_minI (((p0.toUInt32 >>> ((2 : Int32) &&& 31).toUInt32).toInt32) &&& (7 : Int32)) (6 : Int32)) = (1 : Int32)) (hw0 : (q1.toInt32) = w0) (hw1 : (((q1.toUInt64 >>> ((32 : Int32) &&& 0x3f).toInt64.toUInt64).toInt64).toInt32) = w1) (hw2 : (q2.toInt32) = w2) (hw3 : (((q2.toUInt64 >>> ((32 : Int32) &&& 0x3f).toInt64.toUInt64).toInt64).toInt32) = w3) (hw4 : (q3.toInt32) = w4) (hw5 : (((q3.toUInt64 >>> ((32 : Int32) &&& 0x3f).toInt64.toUInt64).toInt64).toInt32) = w5) :
    MetFree l x (head1 (Jvm.Cond.code x code maxLocals ret :: ws) room_1) (fun a U => a = #[(.int p0), (.int i1), (.int i2), (.long q1), (.long q2), (.long q3)] ∧ Z.Warmed39 U.vm ∧ U.heap = h0) (fun _ _ _ _ _ => True) (fun _ U o U' => ∃ v L, o = .returned v ∧ Q_rm0_1_1 Z p0 i1 i2 q1 q2 q3 w0 w1 w2 w3 w4 w5 h0 n0 v U'.heap L ∧ FrameEnd U o U' L room_1.cells room_1.slots) := by
  refine MetFree.of_bodySF (plainFor_of_name pn_com_example_whipstill_whipstill_MovingWindowMeanAbovePinLaw) hisR ?_
  intro p e s m args below meth c s₁ Bd hml0 hP hK
  obtain ⟨rfl, hZ, hh⟩ := hP
  have hx := Bd.exec
  have hby := Bd.bytes
  have hml : c.maxLocals = 26 := hml0
  have hown : s.vm.findClass "com/example/whipstill/whipstill/MovingWindowMeanAbovePinLaw" = some m.cls := findClass_of_methodNamed Bd.named
  have hnm := (name_of_methodNamed Bd.named Bd.method).1
  have X0 : Stand p l e room_1 s m #[(.int p0), (.int i1), (.int i2), (.long q1), (.long q2), (.long q3)] below meth c s₁ [] 0 0 := Stand.of_body Bd
  have e0 : s₁.heap = h0 := by rw [← hh, Bd.state]; rfl
  have N0 := Fr.nil n0
  have pre0 : ∀ t, Steps p.tables e below (s₁.setTop (mkF m 0 #[.val (.int p0), .val (.int i1), .val (.int i2), .val (.long q1), .second, .val (.long q2), .second, .val (.long q3), .second, .unset, .unset, .unset, .unset, .unset, .unset, .unset, .unset, .unset, .unset, .unset, .unset, .unset, .unset, .unset, .unset, .unset] [])) t → Steps p.tables e below (s₁.setTop (entryFrame m #[(.int p0), (.int i1), (.int i2), (.long q1), (.long q2), (.long q3)] maxLocals)) t := fun t k => castTop (ef_rm0_1_1 m p0 i1 i2 q1 q2 q3) k
  obtain ⟨T1_, h1_, L1_, X1_, e1_, N1_, K1_, st1_⟩ := pcA Z a0 hw X0 hx hZ hby hml hown p0 i1 i2 q1 q2 q3 (1 : Int32) (1 : Int32) w0 w1 w2 w3 w4 w5 h0 n0 Z0 e0 N0 (by decide) (by decide) (by exact Nat.le_of_ble_eq_true rfl) (by exact Nat.le_of_ble_eq_true rfl) hn hk hw0 hw1 hw2 hw3 hw4 hw5
  have e1_q := e1_.trans K1_
  obtain ⟨T2_, h2_, L2_, mo_2_, ta_2_, kc_2_, X2_, e2_, N2_, K2_, p2_0, p2_1, p2_2, p2_3, p2_4, p2_5, st2_⟩ := pcI1 Z a0 hw X1_ hx hZ hby hml hown (.val (.int p0)) i1 i2 (.val (.long q1)) (.second) (.val (.long q2)) (.second) (.val (.long q3)) (.second) (1 : Int32) w0 w1 w2 w3 w4 w5 h0 n0 Z0 e1_q N1_ (by decide) (by decide) (by exact Nat.le_of_ble_eq_true rfl) (by exact Nat.le_of_ble_eq_true rfl) 
  have z4_ : n0 ≤ h2_.size := Nat.le_trans Z0 K2_.1
  obtain ⟨T3_, h3_, L3_, X3_, e3_, N3_, K3_, p3_0, p3_1, p3_2, p3_3, st3_⟩ := pcT1_0 Z a0 hw X2_ hx hZ hby hml hown (.val (.int p0)) i1 i2 (.val (.long q1)) (.second) (.val (.long q2)) (.second) (.val (.long q3)) (.second) (1 : Int32) w0 w1 w2 w3 w4 w5 mo_2_ ta_2_ kc_2_ (i1.toInt64) h2_ n0 z4_ e2_ N2_ (by decide) (by decide) (by exact Nat.le_of_ble_eq_true rfl) (by exact Nat.le_of_ble_eq_true rfl) (by decide) p2_2 p2_3 p2_4 p2_5 p2_0 p2_1
  have z6_ : n0 ≤ h3_.size := Nat.le_trans z4_ K3_.1
  obtain ⟨T5_, h5_, L5_, X5_, e5_, N5_, K5_, st5_⟩ := pcS1 Z a0 hw X3_ hx hZ hby hml hown (.val (.int p0)) i1 i2 (.val (.long q1)) (.second) (.val (.long q2)) (.second) (.val (.long q3)) (.second) (1 : Int32) (1 : Int32) w0 w1 w2 w3 w4 w5 mo_2_ h3_ n0 z6_ e3_ N3_ (by decide) (by decide) (by exact Nat.le_of_ble_eq_true rfl) (by exact Nat.le_of_ble_eq_true rfl) (by decide)
  have e5_q := e5_.trans K5_
  obtain ⟨T7_, h7_, L7_, X7_, e7_, N7_, K7_, st7_⟩ := pcS2 Z a0 hw X5_ hx hZ hby hml hown (.val (.int p0)) i1 i2 (.val (.long q1)) (.second) (.val (.long q2)) (.second) (.val (.long q3)) (.second) (1 : Int32) (1 : Int32) w0 w1 w2 w3 w4 w5 mo_2_ h3_ n0 z6_ e5_q N5_ (by decide) (by decide) (by exact Nat.le_of_ble_eq_true rfl) (by exact Nat.le_of_ble_eq_true rfl) (by decide)
  have e7_q := e7_.trans K7_
  obtain ⟨T8_, h8_, L8_, X8_, e8_, N8_, K8_, st8_⟩ := pcS3 Z a0 hw X7_ hx hZ hby hml hown (.val (.int p0)) i1 i2 (.val (.long q1)) (.second) (.val (.long q2)) (.second) (.val (.long q3)) (.second) (1 : Int32) (1 : Int32) w0 w1 w2 w3 w4 w5 mo_2_ h3_ n0 z6_ e7_q N7_ (by decide) (by decide) (by exact Nat.le_of_ble_eq_true rfl) (by exact Nat.le_of_ble_eq_true rfl) (by decide)
  have e8_q := e8_.trans K8_
  obtain ⟨T9_, h9_, L9_, X9_, e9_, N9_, K9_, st9_⟩ := pcS4 Z a0 hw X8_ hx hZ hby hml hown (.val (.int p0)) i1 i2 (.val (.long q1)) (.second) (.val (.long q2)) (.second) (.val (.long q3)) (.second) (1 : Int32) (1 : Int32) w0 w1 w2 w3 w4 w5 mo_2_ h3_ n0 z6_ e8_q N8_ (by decide) (by decide) (by exact Nat.le_of_ble_eq_true rfl) (by exact Nat.le_of_ble_eq_true rfl) (by decide)
  have e9_q := e9_.trans K9_
  obtain ⟨T10_, h10_, L10_, X10_, e10_, N10_, K10_, st10_⟩ := pcS5 Z a0 hw X9_ hx hZ hby hml hown (.val (.int p0)) i1 i2 (.val (.long q1)) (.second) (.val (.long q2)) (.second) (.val (.long q3)) (.second) (1 : Int32) (1 : Int32) w0 w1 w2 w3 w4 w5 mo_2_ h3_ n0 z6_ e9_q N9_ (by decide) (by decide) (by exact Nat.le_of_ble_eq_true rfl) (by exact Nat.le_of_ble_eq_true rfl) (by decide)
  have e10_q := e10_.trans K10_
  obtain ⟨T11_, h11_, L11_, X11_, e11_, N11_, K11_, st11_⟩ := pcM1 Z a0 hw X10_ hx hZ hby hml hown (.val (.int p0)) i1 i2 (.val (.long q1)) (.second) (.val (.long q2)) (.second) (.val (.long q3)) (.second) (1 : Int32) w0 w1 w2 w3 w4 w5 mo_2_ ta_2_ kc_2_ (w0.toInt64) h3_ n0 z6_ e10_q N10_ (by decide) (by decide) (by exact Nat.le_of_ble_eq_true rfl) (by exact Nat.le_of_ble_eq_true rfl) p3_0 p3_1 p3_3 (own_R.i2l w0)
  have e11_q := e11_.trans K11_
  have hAB : ((0 : Int64) + ((w0.toInt64) - (i2.toInt64))) = ((((((((((own_maxI (0 : Int32) ((1 : Int32) - (1 : Int32))).toInt64) * (i1.toInt64)) + (own_held (0 : Int32) (1 : Int32) (1 : Int32) w0)) + (own_held (1 : Int32) (1 : Int32) (1 : Int32) w1)) + (own_held (2 : Int32) (1 : Int32) (1 : Int32) w2)) + (own_held (3 : Int32) (1 : Int32) (1 : Int32) w3)) + (own_held (4 : Int32) (1 : Int32) (1 : Int32) w4)) + (own_held (5 : Int32) (1 : Int32) (1 : Int32) w5)) - (((1 : Int32).toInt64) * (i2.toInt64))) := by
    rw [show own_maxI (0 : Int32) ((1 : Int32) - (1 : Int32)) = (0 : Int32) from rfl, show own_held (0 : Int32) (1 : Int32) (1 : Int32) w0 = w0.toInt64 from rfl, show own_held (1 : Int32) (1 : Int32) (1 : Int32) w1 = 0 from rfl, show own_held (2 : Int32) (1 : Int32) (1 : Int32) w2 = 0 from rfl, show own_held (3 : Int32) (1 : Int32) (1 : Int32) w3 = 0 from rfl, show own_held (4 : Int32) (1 : Int32) (1 : Int32) w4 = 0 from rfl, show own_held (5 : Int32) (1 : Int32) (1 : Int32) w5 = 0 from rfl, show (0 : Int32).toInt64 = 0 from rfl, show (1 : Int32).toInt64 = 1 from rfl]
    generalize i1.toInt64 = x1, i2.toInt64 = x2, w0.toInt64 = x3, w1.toInt64 = x4, w2.toInt64 = x5, w3.toInt64 = x6, w4.toInt64 = x7, w5.toInt64 = x8
    grind
  obtain ⟨T12_, h12_, L12_, X12_, e12_, N12_, K12_, st12_⟩ := pcB Z a0 hw X11_ hx hZ hby hml hown (.val (.int p0)) i1 i2 (.val (.long q1)) (.second) (.val (.long q2)) (.second) (.val (.long q3)) (.second) (1 : Int32) (1 : Int32) w0 w1 w2 w3 w4 w5 mo_2_ (FP.ddiv (FP.l2d ((0 : Int64) + ((w0.toInt64) - (i2.toInt64)))) (FP.i2d (1 : Int32))) h3_ n0 z6_ e11_q N11_ (by decide) (by decide) (by exact Nat.le_of_ble_eq_true rfl) (by exact Nat.le_of_ble_eq_true rfl) (by decide) (dcmpV_eq (congrArg (fun z => FP.ddiv (FP.l2d z) (FP.i2d (1 : Int32))) hAB) (own_ddiv _ _ (by decide)) .l)
  have e12_q := e12_.trans K12_
  obtain ⟨fs, hr, hrun, hended, hW, hsame⟩ := X12_.leave (v := some (.int (1 : Int32))) (fun h => by first | rfl | (rw [Bd.returns] at h; cases h))
  refine ⟨_, _, pre0 _ ?_, hrun, hended, _, _, rfl, ?_, ⟨_, rfl⟩, hW, hsame.mono (by exact Nat.le_of_ble_eq_true rfl) (by exact Nat.le_of_ble_eq_true rfl)⟩
  · show Steps p.tables e below (s₁.setTop (mkF m 0 #[.val (.int p0), .val (.int i1), .val (.int i2), .val (.long q1), .second, .val (.long q2), .second, .val (.long q3), .second, .unset, .unset, .unset, .unset, .unset, .unset, .unset, .unset, .unset, .unset, .unset, .unset, .unset, .unset, .unset, .unset, .unset] [])) _
    refine st1_ _ ?_
    refine st2_ _ ?_
    refine st3_ _ ?_
    refine st5_ _ ?_
    refine st7_ _ ?_
    refine st8_ _ ?_
    refine st9_ _ ?_
    refine st10_ _ ?_
    refine st11_ _ ?_
    refine st12_ _ ?_
    exact retN X12_ hx (t := .boolean) Bd.returns (by simp) (hb hby at_300) hr
  · show Q_rm0_1_1 Z p0 i1 i2 q1 q2 q3 w0 w1 w2 w3 w4 w5 h0 n0 _ T12_.heap _
    rw [e12_q]
    exact ⟨rfl, N12_⟩
theorem ef_rm0_1_2 (m : MethodId) (x0 : Int32) (x1 : Int32) (x2 : Int32) (x3 : Int64) (x4 : Int64) (x5 : Int64) : entryFrame m #[(.int x0), (.int x1), (.int x2), (.long x3), (.long x4), (.long x5)] maxLocals = mkF m 0 #[.val (.int x0), .val (.int x1), .val (.int x2), .val (.long x3), .second, .val (.long x4), .second, .val (.long x5), .second, .unset, .unset, .unset, .unset, .unset, .unset, .unset, .unset, .unset, .unset, .unset, .unset, .unset, .unset, .unset, .unset, .unset] [] := by first | (simp [entryFrame, mkF, argsToLocals, Value.category, maxLocals]; done) | rfl
def Q_rm0_1_2 (Z : State) (p0 : Int32) (i1 : Int32) (i2 : Int32) (q1 : Int64) (q2 : Int64) (q3 : Int64) (w0 : Int32) (w1 : Int32) (w2 : Int32) (w3 : Int32) (w4 : Int32) (w5 : Int32) (h0 : Heap) (n0 : Nat) (v : Option Value) (h : Heap) (L : List Loc) : Prop := v = some (.int (1 : Int32)) ∧ Fr n0 L
set_option maxRecDepth 65536 in
set_option maxHeartbeats 40000000 in
theorem rm0_1_2 (l : Launch) (Z : State) (a0 : Array Value) (hw : ∀ d ∈ tables_1, d.before a0 Z = true) (ws : List Jvm.Cond) (p0 : Int32) (i1 : Int32) (i2 : Int32) (q1 : Int64) (q2 : Int64) (q3 : Int64) (w0 : Int32) (w1 : Int32) (w2 : Int32) (w3 : Int32) (w4 : Int32) (w5 : Int32) (h0 : Heap) (n0 : Nat) (Z0 : n0 ≤ h0.size) (hn : ((1 : Int32) + (p0 &&& (3 : Int32))) = (1 : Int32)) (hk : (own_minI (((p0.toUInt32 >>> ((2 : Int32) &&& 31).toUInt32).toInt32) &&& (7 : Int32)) (6 : Int32)) = (2 : Int32)) (hw0 : (q1.toInt32) = w0) (hw1 : (((q1.toUInt64 >>> ((32 : Int32) &&& 0x3f).toInt64.toUInt64).toInt64).toInt32) = w1) (hw2 : (q2.toInt32) = w2) (hw3 : (((q2.toUInt64 >>> ((32 : Int32) &&& 0x3f).toInt64.toUInt64).toInt64).toInt32) = w3) (hw4 : (q3.toInt32) = w4) (hw5 : (((q3.toUInt64 >>> ((32 : Int32) &&& 0x3f).toInt64.toUInt64).toInt64).toInt32) = w5) :
    MetFree l x (head1 (Jvm.Cond.code x code maxLocals ret :: ws) room_1) (fun a U => a = #[(.int p0), (.int i1), (.int i2), (.long q1), (.long q2), (.long q3)] ∧ Z.Warmed39 U.vm ∧ U.heap = h0) (fun _ _ _ _ _ => True) (fun _ U o U' => ∃ v L, o = .returned v ∧ Q_rm0_1_2 Z p0 i1 i2 q1 q2 q3 w0 w1 w2 w3 w4 w5 h0 n0 v U'.heap L ∧ FrameEnd U o U' L room_1.cells room_1.slots) := by
  refine MetFree.of_bodySF (plainFor_of_name pn_com_example_whipstill_whipstill_MovingWindowMeanAbovePinLaw) hisR ?_
  intro p e s m args below meth c s₁ Bd hml0 hP hK
  obtain ⟨rfl, hZ, hh⟩ := hP
  have hx := Bd.exec
  have hby := Bd.bytes
  have hml : c.maxLocals = 26 := hml0
  have hown : s.vm.findClass "com/example/whipstill/whipstill/MovingWindowMeanAbovePinLaw" = some m.cls := findClass_of_methodNamed Bd.named
  have hnm := (name_of_methodNamed Bd.named Bd.method).1
  have X0 : Stand p l e room_1 s m #[(.int p0), (.int i1), (.int i2), (.long q1), (.long q2), (.long q3)] below meth c s₁ [] 0 0 := Stand.of_body Bd
  have e0 : s₁.heap = h0 := by rw [← hh, Bd.state]; rfl
  have N0 := Fr.nil n0
  have pre0 : ∀ t, Steps p.tables e below (s₁.setTop (mkF m 0 #[.val (.int p0), .val (.int i1), .val (.int i2), .val (.long q1), .second, .val (.long q2), .second, .val (.long q3), .second, .unset, .unset, .unset, .unset, .unset, .unset, .unset, .unset, .unset, .unset, .unset, .unset, .unset, .unset, .unset, .unset, .unset] [])) t → Steps p.tables e below (s₁.setTop (entryFrame m #[(.int p0), (.int i1), (.int i2), (.long q1), (.long q2), (.long q3)] maxLocals)) t := fun t k => castTop (ef_rm0_1_2 m p0 i1 i2 q1 q2 q3) k
  obtain ⟨T1_, h1_, L1_, X1_, e1_, N1_, K1_, st1_⟩ := pcA Z a0 hw X0 hx hZ hby hml hown p0 i1 i2 q1 q2 q3 (1 : Int32) (2 : Int32) w0 w1 w2 w3 w4 w5 h0 n0 Z0 e0 N0 (by decide) (by decide) (by exact Nat.le_of_ble_eq_true rfl) (by exact Nat.le_of_ble_eq_true rfl) hn hk hw0 hw1 hw2 hw3 hw4 hw5
  have e1_q := e1_.trans K1_
  obtain ⟨T2_, h2_, L2_, mo_2_, ta_2_, kc_2_, X2_, e2_, N2_, K2_, p2_0, p2_1, p2_2, p2_3, p2_4, p2_5, st2_⟩ := pcI1 Z a0 hw X1_ hx hZ hby hml hown (.val (.int p0)) i1 i2 (.val (.long q1)) (.second) (.val (.long q2)) (.second) (.val (.long q3)) (.second) (2 : Int32) w0 w1 w2 w3 w4 w5 h0 n0 Z0 e1_q N1_ (by decide) (by decide) (by exact Nat.le_of_ble_eq_true rfl) (by exact Nat.le_of_ble_eq_true rfl) 
  have z4_ : n0 ≤ h2_.size := Nat.le_trans Z0 K2_.1
  obtain ⟨T3_, h3_, L3_, X3_, e3_, N3_, K3_, p3_0, p3_1, p3_2, p3_3, st3_⟩ := pcT1_0 Z a0 hw X2_ hx hZ hby hml hown (.val (.int p0)) i1 i2 (.val (.long q1)) (.second) (.val (.long q2)) (.second) (.val (.long q3)) (.second) (2 : Int32) w0 w1 w2 w3 w4 w5 mo_2_ ta_2_ kc_2_ (i1.toInt64) h2_ n0 z4_ e2_ N2_ (by decide) (by decide) (by exact Nat.le_of_ble_eq_true rfl) (by exact Nat.le_of_ble_eq_true rfl) (by decide) p2_2 p2_3 p2_4 p2_5 p2_0 p2_1
  have z6_ : n0 ≤ h3_.size := Nat.le_trans z4_ K3_.1
  obtain ⟨T5_, h5_, L5_, X5_, e5_, N5_, K5_, p5_0, p5_1, p5_2, p5_3, st5_⟩ := pcT1_1 Z a0 hw X3_ hx hZ hby hml hown (.val (.int p0)) i1 i2 (.val (.long q1)) (.second) (.val (.long q2)) (.second) (.val (.long q3)) (.second) (2 : Int32) w0 w1 w2 w3 w4 w5 mo_2_ ta_2_ kc_2_ (w0.toInt64) h3_ n0 z6_ e3_ N3_ (by decide) (by decide) (by exact Nat.le_of_ble_eq_true rfl) (by exact Nat.le_of_ble_eq_true rfl) (by decide) p3_0 p3_1 p3_2 p3_3 p2_0 p2_1
  have z8_ : n0 ≤ h5_.size := Nat.le_trans z6_ K5_.1
  obtain ⟨T7_, h7_, L7_, X7_, e7_, N7_, K7_, st7_⟩ := pcS2 Z a0 hw X5_ hx hZ hby hml hown (.val (.int p0)) i1 i2 (.val (.long q1)) (.second) (.val (.long q2)) (.second) (.val (.long q3)) (.second) (1 : Int32) (2 : Int32) w0 w1 w2 w3 w4 w5 mo_2_ h5_ n0 z8_ e5_ N5_ (by decide) (by decide) (by exact Nat.le_of_ble_eq_true rfl) (by exact Nat.le_of_ble_eq_true rfl) (by decide)
  have e7_q := e7_.trans K7_
  obtain ⟨T9_, h9_, L9_, X9_, e9_, N9_, K9_, st9_⟩ := pcS3 Z a0 hw X7_ hx hZ hby hml hown (.val (.int p0)) i1 i2 (.val (.long q1)) (.second) (.val (.long q2)) (.second) (.val (.long q3)) (.second) (1 : Int32) (2 : Int32) w0 w1 w2 w3 w4 w5 mo_2_ h5_ n0 z8_ e7_q N7_ (by decide) (by decide) (by exact Nat.le_of_ble_eq_true rfl) (by exact Nat.le_of_ble_eq_true rfl) (by decide)
  have e9_q := e9_.trans K9_
  obtain ⟨T10_, h10_, L10_, X10_, e10_, N10_, K10_, st10_⟩ := pcS4 Z a0 hw X9_ hx hZ hby hml hown (.val (.int p0)) i1 i2 (.val (.long q1)) (.second) (.val (.long q2)) (.second) (.val (.long q3)) (.second) (1 : Int32) (2 : Int32) w0 w1 w2 w3 w4 w5 mo_2_ h5_ n0 z8_ e9_q N9_ (by decide) (by decide) (by exact Nat.le_of_ble_eq_true rfl) (by exact Nat.le_of_ble_eq_true rfl) (by decide)
  have e10_q := e10_.trans K10_
  obtain ⟨T11_, h11_, L11_, X11_, e11_, N11_, K11_, st11_⟩ := pcS5 Z a0 hw X10_ hx hZ hby hml hown (.val (.int p0)) i1 i2 (.val (.long q1)) (.second) (.val (.long q2)) (.second) (.val (.long q3)) (.second) (1 : Int32) (2 : Int32) w0 w1 w2 w3 w4 w5 mo_2_ h5_ n0 z8_ e10_q N10_ (by decide) (by decide) (by exact Nat.le_of_ble_eq_true rfl) (by exact Nat.le_of_ble_eq_true rfl) (by decide)
  have e11_q := e11_.trans K11_
  obtain ⟨T12_, h12_, L12_, X12_, e12_, N12_, K12_, st12_⟩ := pcM1 Z a0 hw X11_ hx hZ hby hml hown (.val (.int p0)) i1 i2 (.val (.long q1)) (.second) (.val (.long q2)) (.second) (.val (.long q3)) (.second) (2 : Int32) w0 w1 w2 w3 w4 w5 mo_2_ ta_2_ kc_2_ (w1.toInt64) h5_ n0 z8_ e11_q N11_ (by decide) (by decide) (by exact Nat.le_of_ble_eq_true rfl) (by exact Nat.le_of_ble_eq_true rfl) p5_0 p5_1 p5_3 (own_R.i2l w1)
  have e12_q := e12_.trans K12_
  have hAB : ((0 : Int64) + ((w1.toInt64) - (i2.toInt64))) = ((((((((((own_maxI (0 : Int32) ((1 : Int32) - (2 : Int32))).toInt64) * (i1.toInt64)) + (own_held (0 : Int32) (2 : Int32) (1 : Int32) w0)) + (own_held (1 : Int32) (2 : Int32) (1 : Int32) w1)) + (own_held (2 : Int32) (2 : Int32) (1 : Int32) w2)) + (own_held (3 : Int32) (2 : Int32) (1 : Int32) w3)) + (own_held (4 : Int32) (2 : Int32) (1 : Int32) w4)) + (own_held (5 : Int32) (2 : Int32) (1 : Int32) w5)) - (((1 : Int32).toInt64) * (i2.toInt64))) := by
    rw [show own_maxI (0 : Int32) ((1 : Int32) - (2 : Int32)) = (0 : Int32) from rfl, show own_held (0 : Int32) (2 : Int32) (1 : Int32) w0 = 0 from rfl, show own_held (1 : Int32) (2 : Int32) (1 : Int32) w1 = w1.toInt64 from rfl, show own_held (2 : Int32) (2 : Int32) (1 : Int32) w2 = 0 from rfl, show own_held (3 : Int32) (2 : Int32) (1 : Int32) w3 = 0 from rfl, show own_held (4 : Int32) (2 : Int32) (1 : Int32) w4 = 0 from rfl, show own_held (5 : Int32) (2 : Int32) (1 : Int32) w5 = 0 from rfl, show (0 : Int32).toInt64 = 0 from rfl, show (1 : Int32).toInt64 = 1 from rfl]
    generalize i1.toInt64 = x1, i2.toInt64 = x2, w0.toInt64 = x3, w1.toInt64 = x4, w2.toInt64 = x5, w3.toInt64 = x6, w4.toInt64 = x7, w5.toInt64 = x8
    grind
  obtain ⟨T13_, h13_, L13_, X13_, e13_, N13_, K13_, st13_⟩ := pcB Z a0 hw X12_ hx hZ hby hml hown (.val (.int p0)) i1 i2 (.val (.long q1)) (.second) (.val (.long q2)) (.second) (.val (.long q3)) (.second) (1 : Int32) (2 : Int32) w0 w1 w2 w3 w4 w5 mo_2_ (FP.ddiv (FP.l2d ((0 : Int64) + ((w1.toInt64) - (i2.toInt64)))) (FP.i2d (1 : Int32))) h5_ n0 z8_ e12_q N12_ (by decide) (by decide) (by exact Nat.le_of_ble_eq_true rfl) (by exact Nat.le_of_ble_eq_true rfl) (by decide) (dcmpV_eq (congrArg (fun z => FP.ddiv (FP.l2d z) (FP.i2d (1 : Int32))) hAB) (own_ddiv _ _ (by decide)) .l)
  have e13_q := e13_.trans K13_
  obtain ⟨fs, hr, hrun, hended, hW, hsame⟩ := X13_.leave (v := some (.int (1 : Int32))) (fun h => by first | rfl | (rw [Bd.returns] at h; cases h))
  refine ⟨_, _, pre0 _ ?_, hrun, hended, _, _, rfl, ?_, ⟨_, rfl⟩, hW, hsame.mono (by exact Nat.le_of_ble_eq_true rfl) (by exact Nat.le_of_ble_eq_true rfl)⟩
  · show Steps p.tables e below (s₁.setTop (mkF m 0 #[.val (.int p0), .val (.int i1), .val (.int i2), .val (.long q1), .second, .val (.long q2), .second, .val (.long q3), .second, .unset, .unset, .unset, .unset, .unset, .unset, .unset, .unset, .unset, .unset, .unset, .unset, .unset, .unset, .unset, .unset, .unset] [])) _
    refine st1_ _ ?_
    refine st2_ _ ?_
    refine st3_ _ ?_
    refine st5_ _ ?_
    refine st7_ _ ?_
    refine st9_ _ ?_
    refine st10_ _ ?_
    refine st11_ _ ?_
    refine st12_ _ ?_
    refine st13_ _ ?_
    exact retN X13_ hx (t := .boolean) Bd.returns (by simp) (hb hby at_300) hr
  · show Q_rm0_1_2 Z p0 i1 i2 q1 q2 q3 w0 w1 w2 w3 w4 w5 h0 n0 _ T13_.heap _
    rw [e13_q]
    exact ⟨rfl, N13_⟩
theorem ef_rm0_1_3 (m : MethodId) (x0 : Int32) (x1 : Int32) (x2 : Int32) (x3 : Int64) (x4 : Int64) (x5 : Int64) : entryFrame m #[(.int x0), (.int x1), (.int x2), (.long x3), (.long x4), (.long x5)] maxLocals = mkF m 0 #[.val (.int x0), .val (.int x1), .val (.int x2), .val (.long x3), .second, .val (.long x4), .second, .val (.long x5), .second, .unset, .unset, .unset, .unset, .unset, .unset, .unset, .unset, .unset, .unset, .unset, .unset, .unset, .unset, .unset, .unset, .unset] [] := by first | (simp [entryFrame, mkF, argsToLocals, Value.category, maxLocals]; done) | rfl
def Q_rm0_1_3 (Z : State) (p0 : Int32) (i1 : Int32) (i2 : Int32) (q1 : Int64) (q2 : Int64) (q3 : Int64) (w0 : Int32) (w1 : Int32) (w2 : Int32) (w3 : Int32) (w4 : Int32) (w5 : Int32) (h0 : Heap) (n0 : Nat) (v : Option Value) (h : Heap) (L : List Loc) : Prop := v = some (.int (1 : Int32)) ∧ Fr n0 L
set_option maxRecDepth 65536 in
set_option maxHeartbeats 40000000 in
theorem rm0_1_3 (l : Launch) (Z : State) (a0 : Array Value) (hw : ∀ d ∈ tables_1, d.before a0 Z = true) (ws : List Jvm.Cond) (p0 : Int32) (i1 : Int32) (i2 : Int32) (q1 : Int64) (q2 : Int64) (q3 : Int64) (w0 : Int32) (w1 : Int32) (w2 : Int32) (w3 : Int32) (w4 : Int32) (w5 : Int32) (h0 : Heap) (n0 : Nat) (Z0 : n0 ≤ h0.size) (hn : ((1 : Int32) + (p0 &&& (3 : Int32))) = (1 : Int32)) (hk : (own_minI (((p0.toUInt32 >>> ((2 : Int32) &&& 31).toUInt32).toInt32) &&& (7 : Int32)) (6 : Int32)) = (3 : Int32)) (hw0 : (q1.toInt32) = w0) (hw1 : (((q1.toUInt64 >>> ((32 : Int32) &&& 0x3f).toInt64.toUInt64).toInt64).toInt32) = w1) (hw2 : (q2.toInt32) = w2) (hw3 : (((q2.toUInt64 >>> ((32 : Int32) &&& 0x3f).toInt64.toUInt64).toInt64).toInt32) = w3) (hw4 : (q3.toInt32) = w4) (hw5 : (((q3.toUInt64 >>> ((32 : Int32) &&& 0x3f).toInt64.toUInt64).toInt64).toInt32) = w5) :
    MetFree l x (head1 (Jvm.Cond.code x code maxLocals ret :: ws) room_1) (fun a U => a = #[(.int p0), (.int i1), (.int i2), (.long q1), (.long q2), (.long q3)] ∧ Z.Warmed39 U.vm ∧ U.heap = h0) (fun _ _ _ _ _ => True) (fun _ U o U' => ∃ v L, o = .returned v ∧ Q_rm0_1_3 Z p0 i1 i2 q1 q2 q3 w0 w1 w2 w3 w4 w5 h0 n0 v U'.heap L ∧ FrameEnd U o U' L room_1.cells room_1.slots) := by
  refine MetFree.of_bodySF (plainFor_of_name pn_com_example_whipstill_whipstill_MovingWindowMeanAbovePinLaw) hisR ?_
  intro p e s m args below meth c s₁ Bd hml0 hP hK
  obtain ⟨rfl, hZ, hh⟩ := hP
  have hx := Bd.exec
  have hby := Bd.bytes
  have hml : c.maxLocals = 26 := hml0
  have hown : s.vm.findClass "com/example/whipstill/whipstill/MovingWindowMeanAbovePinLaw" = some m.cls := findClass_of_methodNamed Bd.named
  have hnm := (name_of_methodNamed Bd.named Bd.method).1
  have X0 : Stand p l e room_1 s m #[(.int p0), (.int i1), (.int i2), (.long q1), (.long q2), (.long q3)] below meth c s₁ [] 0 0 := Stand.of_body Bd
  have e0 : s₁.heap = h0 := by rw [← hh, Bd.state]; rfl
  have N0 := Fr.nil n0
  have pre0 : ∀ t, Steps p.tables e below (s₁.setTop (mkF m 0 #[.val (.int p0), .val (.int i1), .val (.int i2), .val (.long q1), .second, .val (.long q2), .second, .val (.long q3), .second, .unset, .unset, .unset, .unset, .unset, .unset, .unset, .unset, .unset, .unset, .unset, .unset, .unset, .unset, .unset, .unset, .unset] [])) t → Steps p.tables e below (s₁.setTop (entryFrame m #[(.int p0), (.int i1), (.int i2), (.long q1), (.long q2), (.long q3)] maxLocals)) t := fun t k => castTop (ef_rm0_1_3 m p0 i1 i2 q1 q2 q3) k
  obtain ⟨T1_, h1_, L1_, X1_, e1_, N1_, K1_, st1_⟩ := pcA Z a0 hw X0 hx hZ hby hml hown p0 i1 i2 q1 q2 q3 (1 : Int32) (3 : Int32) w0 w1 w2 w3 w4 w5 h0 n0 Z0 e0 N0 (by decide) (by decide) (by exact Nat.le_of_ble_eq_true rfl) (by exact Nat.le_of_ble_eq_true rfl) hn hk hw0 hw1 hw2 hw3 hw4 hw5
  have e1_q := e1_.trans K1_
  obtain ⟨T2_, h2_, L2_, mo_2_, ta_2_, kc_2_, X2_, e2_, N2_, K2_, p2_0, p2_1, p2_2, p2_3, p2_4, p2_5, st2_⟩ := pcI1 Z a0 hw X1_ hx hZ hby hml hown (.val (.int p0)) i1 i2 (.val (.long q1)) (.second) (.val (.long q2)) (.second) (.val (.long q3)) (.second) (3 : Int32) w0 w1 w2 w3 w4 w5 h0 n0 Z0 e1_q N1_ (by decide) (by decide) (by exact Nat.le_of_ble_eq_true rfl) (by exact Nat.le_of_ble_eq_true rfl) 
  have z4_ : n0 ≤ h2_.size := Nat.le_trans Z0 K2_.1
  obtain ⟨T3_, h3_, L3_, X3_, e3_, N3_, K3_, p3_0, p3_1, p3_2, p3_3, st3_⟩ := pcT1_0 Z a0 hw X2_ hx hZ hby hml hown (.val (.int p0)) i1 i2 (.val (.long q1)) (.second) (.val (.long q2)) (.second) (.val (.long q3)) (.second) (3 : Int32) w0 w1 w2 w3 w4 w5 mo_2_ ta_2_ kc_2_ (i1.toInt64) h2_ n0 z4_ e2_ N2_ (by decide) (by decide) (by exact Nat.le_of_ble_eq_true rfl) (by exact Nat.le_of_ble_eq_true rfl) (by decide) p2_2 p2_3 p2_4 p2_5 p2_0 p2_1
  have z6_ : n0 ≤ h3_.size := Nat.le_trans z4_ K3_.1
  obtain ⟨T5_, h5_, L5_, X5_, e5_, N5_, K5_, p5_0, p5_1, p5_2, p5_3, st5_⟩ := pcT1_1 Z a0 hw X3_ hx hZ hby hml hown (.val (.int p0)) i1 i2 (.val (.long q1)) (.second) (.val (.long q2)) (.second) (.val (.long q3)) (.second) (3 : Int32) w0 w1 w2 w3 w4 w5 mo_2_ ta_2_ kc_2_ (w0.toInt64) h3_ n0 z6_ e3_ N3_ (by decide) (by decide) (by exact Nat.le_of_ble_eq_true rfl) (by exact Nat.le_of_ble_eq_true rfl) (by decide) p3_0 p3_1 p3_2 p3_3 p2_0 p2_1
  have z8_ : n0 ≤ h5_.size := Nat.le_trans z6_ K5_.1
  obtain ⟨T7_, h7_, L7_, X7_, e7_, N7_, K7_, p7_0, p7_1, p7_2, p7_3, st7_⟩ := pcT1_2 Z a0 hw X5_ hx hZ hby hml hown (.val (.int p0)) i1 i2 (.val (.long q1)) (.second) (.val (.long q2)) (.second) (.val (.long q3)) (.second) (3 : Int32) w0 w1 w2 w3 w4 w5 mo_2_ ta_2_ kc_2_ (w1.toInt64) h5_ n0 z8_ e5_ N5_ (by decide) (by decide) (by exact Nat.le_of_ble_eq_true rfl) (by exact Nat.le_of_ble_eq_true rfl) (by decide) p5_0 p5_1 p5_2 p5_3 p2_0 p2_1
  have z10_ : n0 ≤ h7_.size := Nat.le_trans z8_ K7_.1
  obtain ⟨T9_, h9_, L9_, X9_, e9_, N9_, K9_, st9_⟩ := pcS3 Z a0 hw X7_ hx hZ hby hml hown (.val (.int p0)) i1 i2 (.val (.long q1)) (.second) (.val (.long q2)) (.second) (.val (.long q3)) (.second) (1 : Int32) (3 : Int32) w0 w1 w2 w3 w4 w5 mo_2_ h7_ n0 z10_ e7_ N7_ (by decide) (by decide) (by exact Nat.le_of_ble_eq_true rfl) (by exact Nat.le_of_ble_eq_true rfl) (by decide)
  have e9_q := e9_.trans K9_
  obtain ⟨T11_, h11_, L11_, X11_, e11_, N11_, K11_, st11_⟩ := pcS4 Z a0 hw X9_ hx hZ hby hml hown (.val (.int p0)) i1 i2 (.val (.long q1)) (.second) (.val (.long q2)) (.second) (.val (.long q3)) (.second) (1 : Int32) (3 : Int32) w0 w1 w2 w3 w4 w5 mo_2_ h7_ n0 z10_ e9_q N9_ (by decide) (by decide) (by exact Nat.le_of_ble_eq_true rfl) (by exact Nat.le_of_ble_eq_true rfl) (by decide)
  have e11_q := e11_.trans K11_
  obtain ⟨T12_, h12_, L12_, X12_, e12_, N12_, K12_, st12_⟩ := pcS5 Z a0 hw X11_ hx hZ hby hml hown (.val (.int p0)) i1 i2 (.val (.long q1)) (.second) (.val (.long q2)) (.second) (.val (.long q3)) (.second) (1 : Int32) (3 : Int32) w0 w1 w2 w3 w4 w5 mo_2_ h7_ n0 z10_ e11_q N11_ (by decide) (by decide) (by exact Nat.le_of_ble_eq_true rfl) (by exact Nat.le_of_ble_eq_true rfl) (by decide)
  have e12_q := e12_.trans K12_
  obtain ⟨T13_, h13_, L13_, X13_, e13_, N13_, K13_, st13_⟩ := pcM1 Z a0 hw X12_ hx hZ hby hml hown (.val (.int p0)) i1 i2 (.val (.long q1)) (.second) (.val (.long q2)) (.second) (.val (.long q3)) (.second) (3 : Int32) w0 w1 w2 w3 w4 w5 mo_2_ ta_2_ kc_2_ (w2.toInt64) h7_ n0 z10_ e12_q N12_ (by decide) (by decide) (by exact Nat.le_of_ble_eq_true rfl) (by exact Nat.le_of_ble_eq_true rfl) p7_0 p7_1 p7_3 (own_R.i2l w2)
  have e13_q := e13_.trans K13_
  have hAB : ((0 : Int64) + ((w2.toInt64) - (i2.toInt64))) = ((((((((((own_maxI (0 : Int32) ((1 : Int32) - (3 : Int32))).toInt64) * (i1.toInt64)) + (own_held (0 : Int32) (3 : Int32) (1 : Int32) w0)) + (own_held (1 : Int32) (3 : Int32) (1 : Int32) w1)) + (own_held (2 : Int32) (3 : Int32) (1 : Int32) w2)) + (own_held (3 : Int32) (3 : Int32) (1 : Int32) w3)) + (own_held (4 : Int32) (3 : Int32) (1 : Int32) w4)) + (own_held (5 : Int32) (3 : Int32) (1 : Int32) w5)) - (((1 : Int32).toInt64) * (i2.toInt64))) := by
    rw [show own_maxI (0 : Int32) ((1 : Int32) - (3 : Int32)) = (0 : Int32) from rfl, show own_held (0 : Int32) (3 : Int32) (1 : Int32) w0 = 0 from rfl, show own_held (1 : Int32) (3 : Int32) (1 : Int32) w1 = 0 from rfl, show own_held (2 : Int32) (3 : Int32) (1 : Int32) w2 = w2.toInt64 from rfl, show own_held (3 : Int32) (3 : Int32) (1 : Int32) w3 = 0 from rfl, show own_held (4 : Int32) (3 : Int32) (1 : Int32) w4 = 0 from rfl, show own_held (5 : Int32) (3 : Int32) (1 : Int32) w5 = 0 from rfl, show (0 : Int32).toInt64 = 0 from rfl, show (1 : Int32).toInt64 = 1 from rfl]
    generalize i1.toInt64 = x1, i2.toInt64 = x2, w0.toInt64 = x3, w1.toInt64 = x4, w2.toInt64 = x5, w3.toInt64 = x6, w4.toInt64 = x7, w5.toInt64 = x8
    grind
  obtain ⟨T14_, h14_, L14_, X14_, e14_, N14_, K14_, st14_⟩ := pcB Z a0 hw X13_ hx hZ hby hml hown (.val (.int p0)) i1 i2 (.val (.long q1)) (.second) (.val (.long q2)) (.second) (.val (.long q3)) (.second) (1 : Int32) (3 : Int32) w0 w1 w2 w3 w4 w5 mo_2_ (FP.ddiv (FP.l2d ((0 : Int64) + ((w2.toInt64) - (i2.toInt64)))) (FP.i2d (1 : Int32))) h7_ n0 z10_ e13_q N13_ (by decide) (by decide) (by exact Nat.le_of_ble_eq_true rfl) (by exact Nat.le_of_ble_eq_true rfl) (by decide) (dcmpV_eq (congrArg (fun z => FP.ddiv (FP.l2d z) (FP.i2d (1 : Int32))) hAB) (own_ddiv _ _ (by decide)) .l)
  have e14_q := e14_.trans K14_
  obtain ⟨fs, hr, hrun, hended, hW, hsame⟩ := X14_.leave (v := some (.int (1 : Int32))) (fun h => by first | rfl | (rw [Bd.returns] at h; cases h))
  refine ⟨_, _, pre0 _ ?_, hrun, hended, _, _, rfl, ?_, ⟨_, rfl⟩, hW, hsame.mono (by exact Nat.le_of_ble_eq_true rfl) (by exact Nat.le_of_ble_eq_true rfl)⟩
  · show Steps p.tables e below (s₁.setTop (mkF m 0 #[.val (.int p0), .val (.int i1), .val (.int i2), .val (.long q1), .second, .val (.long q2), .second, .val (.long q3), .second, .unset, .unset, .unset, .unset, .unset, .unset, .unset, .unset, .unset, .unset, .unset, .unset, .unset, .unset, .unset, .unset, .unset] [])) _
    refine st1_ _ ?_
    refine st2_ _ ?_
    refine st3_ _ ?_
    refine st5_ _ ?_
    refine st7_ _ ?_
    refine st9_ _ ?_
    refine st11_ _ ?_
    refine st12_ _ ?_
    refine st13_ _ ?_
    refine st14_ _ ?_
    exact retN X14_ hx (t := .boolean) Bd.returns (by simp) (hb hby at_300) hr
  · show Q_rm0_1_3 Z p0 i1 i2 q1 q2 q3 w0 w1 w2 w3 w4 w5 h0 n0 _ T14_.heap _
    rw [e14_q]
    exact ⟨rfl, N14_⟩
theorem ef_rm0_1_4 (m : MethodId) (x0 : Int32) (x1 : Int32) (x2 : Int32) (x3 : Int64) (x4 : Int64) (x5 : Int64) : entryFrame m #[(.int x0), (.int x1), (.int x2), (.long x3), (.long x4), (.long x5)] maxLocals = mkF m 0 #[.val (.int x0), .val (.int x1), .val (.int x2), .val (.long x3), .second, .val (.long x4), .second, .val (.long x5), .second, .unset, .unset, .unset, .unset, .unset, .unset, .unset, .unset, .unset, .unset, .unset, .unset, .unset, .unset, .unset, .unset, .unset] [] := by first | (simp [entryFrame, mkF, argsToLocals, Value.category, maxLocals]; done) | rfl
def Q_rm0_1_4 (Z : State) (p0 : Int32) (i1 : Int32) (i2 : Int32) (q1 : Int64) (q2 : Int64) (q3 : Int64) (w0 : Int32) (w1 : Int32) (w2 : Int32) (w3 : Int32) (w4 : Int32) (w5 : Int32) (h0 : Heap) (n0 : Nat) (v : Option Value) (h : Heap) (L : List Loc) : Prop := v = some (.int (1 : Int32)) ∧ Fr n0 L
set_option maxRecDepth 65536 in
set_option maxHeartbeats 40000000 in
theorem rm0_1_4 (l : Launch) (Z : State) (a0 : Array Value) (hw : ∀ d ∈ tables_1, d.before a0 Z = true) (ws : List Jvm.Cond) (p0 : Int32) (i1 : Int32) (i2 : Int32) (q1 : Int64) (q2 : Int64) (q3 : Int64) (w0 : Int32) (w1 : Int32) (w2 : Int32) (w3 : Int32) (w4 : Int32) (w5 : Int32) (h0 : Heap) (n0 : Nat) (Z0 : n0 ≤ h0.size) (hn : ((1 : Int32) + (p0 &&& (3 : Int32))) = (1 : Int32)) (hk : (own_minI (((p0.toUInt32 >>> ((2 : Int32) &&& 31).toUInt32).toInt32) &&& (7 : Int32)) (6 : Int32)) = (4 : Int32)) (hw0 : (q1.toInt32) = w0) (hw1 : (((q1.toUInt64 >>> ((32 : Int32) &&& 0x3f).toInt64.toUInt64).toInt64).toInt32) = w1) (hw2 : (q2.toInt32) = w2) (hw3 : (((q2.toUInt64 >>> ((32 : Int32) &&& 0x3f).toInt64.toUInt64).toInt64).toInt32) = w3) (hw4 : (q3.toInt32) = w4) (hw5 : (((q3.toUInt64 >>> ((32 : Int32) &&& 0x3f).toInt64.toUInt64).toInt64).toInt32) = w5) :
    MetFree l x (head1 (Jvm.Cond.code x code maxLocals ret :: ws) room_1) (fun a U => a = #[(.int p0), (.int i1), (.int i2), (.long q1), (.long q2), (.long q3)] ∧ Z.Warmed39 U.vm ∧ U.heap = h0) (fun _ _ _ _ _ => True) (fun _ U o U' => ∃ v L, o = .returned v ∧ Q_rm0_1_4 Z p0 i1 i2 q1 q2 q3 w0 w1 w2 w3 w4 w5 h0 n0 v U'.heap L ∧ FrameEnd U o U' L room_1.cells room_1.slots) := by
  refine MetFree.of_bodySF (plainFor_of_name pn_com_example_whipstill_whipstill_MovingWindowMeanAbovePinLaw) hisR ?_
  intro p e s m args below meth c s₁ Bd hml0 hP hK
  obtain ⟨rfl, hZ, hh⟩ := hP
  have hx := Bd.exec
  have hby := Bd.bytes
  have hml : c.maxLocals = 26 := hml0
  have hown : s.vm.findClass "com/example/whipstill/whipstill/MovingWindowMeanAbovePinLaw" = some m.cls := findClass_of_methodNamed Bd.named
  have hnm := (name_of_methodNamed Bd.named Bd.method).1
  have X0 : Stand p l e room_1 s m #[(.int p0), (.int i1), (.int i2), (.long q1), (.long q2), (.long q3)] below meth c s₁ [] 0 0 := Stand.of_body Bd
  have e0 : s₁.heap = h0 := by rw [← hh, Bd.state]; rfl
  have N0 := Fr.nil n0
  have pre0 : ∀ t, Steps p.tables e below (s₁.setTop (mkF m 0 #[.val (.int p0), .val (.int i1), .val (.int i2), .val (.long q1), .second, .val (.long q2), .second, .val (.long q3), .second, .unset, .unset, .unset, .unset, .unset, .unset, .unset, .unset, .unset, .unset, .unset, .unset, .unset, .unset, .unset, .unset, .unset] [])) t → Steps p.tables e below (s₁.setTop (entryFrame m #[(.int p0), (.int i1), (.int i2), (.long q1), (.long q2), (.long q3)] maxLocals)) t := fun t k => castTop (ef_rm0_1_4 m p0 i1 i2 q1 q2 q3) k
  obtain ⟨T1_, h1_, L1_, X1_, e1_, N1_, K1_, st1_⟩ := pcA Z a0 hw X0 hx hZ hby hml hown p0 i1 i2 q1 q2 q3 (1 : Int32) (4 : Int32) w0 w1 w2 w3 w4 w5 h0 n0 Z0 e0 N0 (by decide) (by decide) (by exact Nat.le_of_ble_eq_true rfl) (by exact Nat.le_of_ble_eq_true rfl) hn hk hw0 hw1 hw2 hw3 hw4 hw5
  have e1_q := e1_.trans K1_
  obtain ⟨T2_, h2_, L2_, mo_2_, ta_2_, kc_2_, X2_, e2_, N2_, K2_, p2_0, p2_1, p2_2, p2_3, p2_4, p2_5, st2_⟩ := pcI1 Z a0 hw X1_ hx hZ hby hml hown (.val (.int p0)) i1 i2 (.val (.long q1)) (.second) (.val (.long q2)) (.second) (.val (.long q3)) (.second) (4 : Int32) w0 w1 w2 w3 w4 w5 h0 n0 Z0 e1_q N1_ (by decide) (by decide) (by exact Nat.le_of_ble_eq_true rfl) (by exact Nat.le_of_ble_eq_true rfl) 
  have z4_ : n0 ≤ h2_.size := Nat.le_trans Z0 K2_.1
  obtain ⟨T3_, h3_, L3_, X3_, e3_, N3_, K3_, p3_0, p3_1, p3_2, p3_3, st3_⟩ := pcT1_0 Z a0 hw X2_ hx hZ hby hml hown (.val (.int p0)) i1 i2 (.val (.long q1)) (.second) (.val (.long q2)) (.second) (.val (.long q3)) (.second) (4 : Int32) w0 w1 w2 w3 w4 w5 mo_2_ ta_2_ kc_2_ (i1.toInt64) h2_ n0 z4_ e2_ N2_ (by decide) (by decide) (by exact Nat.le_of_ble_eq_true rfl) (by exact Nat.le_of_ble_eq_true rfl) (by decide) p2_2 p2_3 p2_4 p2_5 p2_0 p2_1
  have z6_ : n0 ≤ h3_.size := Nat.le_trans z4_ K3_.1
  obtain ⟨T5_, h5_, L5_, X5_, e5_, N5_, K5_, p5_0, p5_1, p5_2, p5_3, st5_⟩ := pcT1_1 Z a0 hw X3_ hx hZ hby hml hown (.val (.int p0)) i1 i2 (.val (.long q1)) (.second) (.val (.long q2)) (.second) (.val (.long q3)) (.second) (4 : Int32) w0 w1 w2 w3 w4 w5 mo_2_ ta_2_ kc_2_ (w0.toInt64) h3_ n0 z6_ e3_ N3_ (by decide) (by decide) (by exact Nat.le_of_ble_eq_true rfl) (by exact Nat.le_of_ble_eq_true rfl) (by decide) p3_0 p3_1 p3_2 p3_3 p2_0 p2_1
  have z8_ : n0 ≤ h5_.size := Nat.le_trans z6_ K5_.1
  obtain ⟨T7_, h7_, L7_, X7_, e7_, N7_, K7_, p7_0, p7_1, p7_2, p7_3, st7_⟩ := pcT1_2 Z a0 hw X5_ hx hZ hby hml hown (.val (.int p0)) i1 i2 (.val (.long q1)) (.second) (.val (.long q2)) (.second) (.val (.long q3)) (.second) (4 : Int32) w0 w1 w2 w3 w4 w5 mo_2_ ta_2_ kc_2_ (w1.toInt64) h5_ n0 z8_ e5_ N5_ (by decide) (by decide) (by exact Nat.le_of_ble_eq_true rfl) (by exact Nat.le_of_ble_eq_true rfl) (by decide) p5_0 p5_1 p5_2 p5_3 p2_0 p2_1
  have z10_ : n0 ≤ h7_.size := Nat.le_trans z8_ K7_.1
  obtain ⟨T9_, h9_, L9_, X9_, e9_, N9_, K9_, p9_0, p9_1, p9_2, p9_3, st9_⟩ := pcT1_3 Z a0 hw X7_ hx hZ hby hml hown (.val (.int p0)) i1 i2 (.val (.long q1)) (.second) (.val (.long q2)) (.second) (.val (.long q3)) (.second) (4 : Int32) w0 w1 w2 w3 w4 w5 mo_2_ ta_2_ kc_2_ (w2.toInt64) h7_ n0 z10_ e7_ N7_ (by decide) (by decide) (by exact Nat.le_of_ble_eq_true rfl) (by exact Nat.le_of_ble_eq_true rfl) (by decide) p7_0 p7_1 p7_2 p7_3 p2_0 p2_1
  have z12_ : n0 ≤ h9_.size := Nat.le_trans z10_ K9_.1
  obtain ⟨T11_, h11_, L11_, X11_, e11_, N11_, K11_, st11_⟩ := pcS4 Z a0 hw X9_ hx hZ hby hml hown (.val (.int p0)) i1 i2 (.val (.long q1)) (.second) (.val (.long q2)) (.second) (.val (.long q3)) (.second) (1 : Int32) (4 : Int32) w0 w1 w2 w3 w4 w5 mo_2_ h9_ n0 z12_ e9_ N9_ (by decide) (by decide) (by exact Nat.le_of_ble_eq_true rfl) (by exact Nat.le_of_ble_eq_true rfl) (by decide)
  have e11_q := e11_.trans K11_
  obtain ⟨T13_, h13_, L13_, X13_, e13_, N13_, K13_, st13_⟩ := pcS5 Z a0 hw X11_ hx hZ hby hml hown (.val (.int p0)) i1 i2 (.val (.long q1)) (.second) (.val (.long q2)) (.second) (.val (.long q3)) (.second) (1 : Int32) (4 : Int32) w0 w1 w2 w3 w4 w5 mo_2_ h9_ n0 z12_ e11_q N11_ (by decide) (by decide) (by exact Nat.le_of_ble_eq_true rfl) (by exact Nat.le_of_ble_eq_true rfl) (by decide)
  have e13_q := e13_.trans K13_
  obtain ⟨T14_, h14_, L14_, X14_, e14_, N14_, K14_, st14_⟩ := pcM1 Z a0 hw X13_ hx hZ hby hml hown (.val (.int p0)) i1 i2 (.val (.long q1)) (.second) (.val (.long q2)) (.second) (.val (.long q3)) (.second) (4 : Int32) w0 w1 w2 w3 w4 w5 mo_2_ ta_2_ kc_2_ (w3.toInt64) h9_ n0 z12_ e13_q N13_ (by decide) (by decide) (by exact Nat.le_of_ble_eq_true rfl) (by exact Nat.le_of_ble_eq_true rfl) p9_0 p9_1 p9_3 (own_R.i2l w3)
  have e14_q := e14_.trans K14_
  have hAB : ((0 : Int64) + ((w3.toInt64) - (i2.toInt64))) = ((((((((((own_maxI (0 : Int32) ((1 : Int32) - (4 : Int32))).toInt64) * (i1.toInt64)) + (own_held (0 : Int32) (4 : Int32) (1 : Int32) w0)) + (own_held (1 : Int32) (4 : Int32) (1 : Int32) w1)) + (own_held (2 : Int32) (4 : Int32) (1 : Int32) w2)) + (own_held (3 : Int32) (4 : Int32) (1 : Int32) w3)) + (own_held (4 : Int32) (4 : Int32) (1 : Int32) w4)) + (own_held (5 : Int32) (4 : Int32) (1 : Int32) w5)) - (((1 : Int32).toInt64) * (i2.toInt64))) := by
    rw [show own_maxI (0 : Int32) ((1 : Int32) - (4 : Int32)) = (0 : Int32) from rfl, show own_held (0 : Int32) (4 : Int32) (1 : Int32) w0 = 0 from rfl, show own_held (1 : Int32) (4 : Int32) (1 : Int32) w1 = 0 from rfl, show own_held (2 : Int32) (4 : Int32) (1 : Int32) w2 = 0 from rfl, show own_held (3 : Int32) (4 : Int32) (1 : Int32) w3 = w3.toInt64 from rfl, show own_held (4 : Int32) (4 : Int32) (1 : Int32) w4 = 0 from rfl, show own_held (5 : Int32) (4 : Int32) (1 : Int32) w5 = 0 from rfl, show (0 : Int32).toInt64 = 0 from rfl, show (1 : Int32).toInt64 = 1 from rfl]
    generalize i1.toInt64 = x1, i2.toInt64 = x2, w0.toInt64 = x3, w1.toInt64 = x4, w2.toInt64 = x5, w3.toInt64 = x6, w4.toInt64 = x7, w5.toInt64 = x8
    grind
  obtain ⟨T15_, h15_, L15_, X15_, e15_, N15_, K15_, st15_⟩ := pcB Z a0 hw X14_ hx hZ hby hml hown (.val (.int p0)) i1 i2 (.val (.long q1)) (.second) (.val (.long q2)) (.second) (.val (.long q3)) (.second) (1 : Int32) (4 : Int32) w0 w1 w2 w3 w4 w5 mo_2_ (FP.ddiv (FP.l2d ((0 : Int64) + ((w3.toInt64) - (i2.toInt64)))) (FP.i2d (1 : Int32))) h9_ n0 z12_ e14_q N14_ (by decide) (by decide) (by exact Nat.le_of_ble_eq_true rfl) (by exact Nat.le_of_ble_eq_true rfl) (by decide) (dcmpV_eq (congrArg (fun z => FP.ddiv (FP.l2d z) (FP.i2d (1 : Int32))) hAB) (own_ddiv _ _ (by decide)) .l)
  have e15_q := e15_.trans K15_
  obtain ⟨fs, hr, hrun, hended, hW, hsame⟩ := X15_.leave (v := some (.int (1 : Int32))) (fun h => by first | rfl | (rw [Bd.returns] at h; cases h))
  refine ⟨_, _, pre0 _ ?_, hrun, hended, _, _, rfl, ?_, ⟨_, rfl⟩, hW, hsame.mono (by exact Nat.le_of_ble_eq_true rfl) (by exact Nat.le_of_ble_eq_true rfl)⟩
  · show Steps p.tables e below (s₁.setTop (mkF m 0 #[.val (.int p0), .val (.int i1), .val (.int i2), .val (.long q1), .second, .val (.long q2), .second, .val (.long q3), .second, .unset, .unset, .unset, .unset, .unset, .unset, .unset, .unset, .unset, .unset, .unset, .unset, .unset, .unset, .unset, .unset, .unset] [])) _
    refine st1_ _ ?_
    refine st2_ _ ?_
    refine st3_ _ ?_
    refine st5_ _ ?_
    refine st7_ _ ?_
    refine st9_ _ ?_
    refine st11_ _ ?_
    refine st13_ _ ?_
    refine st14_ _ ?_
    refine st15_ _ ?_
    exact retN X15_ hx (t := .boolean) Bd.returns (by simp) (hb hby at_300) hr
  · show Q_rm0_1_4 Z p0 i1 i2 q1 q2 q3 w0 w1 w2 w3 w4 w5 h0 n0 _ T15_.heap _
    rw [e15_q]
    exact ⟨rfl, N15_⟩
theorem ef_rm0_1_5 (m : MethodId) (x0 : Int32) (x1 : Int32) (x2 : Int32) (x3 : Int64) (x4 : Int64) (x5 : Int64) : entryFrame m #[(.int x0), (.int x1), (.int x2), (.long x3), (.long x4), (.long x5)] maxLocals = mkF m 0 #[.val (.int x0), .val (.int x1), .val (.int x2), .val (.long x3), .second, .val (.long x4), .second, .val (.long x5), .second, .unset, .unset, .unset, .unset, .unset, .unset, .unset, .unset, .unset, .unset, .unset, .unset, .unset, .unset, .unset, .unset, .unset] [] := by first | (simp [entryFrame, mkF, argsToLocals, Value.category, maxLocals]; done) | rfl
def Q_rm0_1_5 (Z : State) (p0 : Int32) (i1 : Int32) (i2 : Int32) (q1 : Int64) (q2 : Int64) (q3 : Int64) (w0 : Int32) (w1 : Int32) (w2 : Int32) (w3 : Int32) (w4 : Int32) (w5 : Int32) (h0 : Heap) (n0 : Nat) (v : Option Value) (h : Heap) (L : List Loc) : Prop := v = some (.int (1 : Int32)) ∧ Fr n0 L
set_option maxRecDepth 65536 in
set_option maxHeartbeats 40000000 in
theorem rm0_1_5 (l : Launch) (Z : State) (a0 : Array Value) (hw : ∀ d ∈ tables_1, d.before a0 Z = true) (ws : List Jvm.Cond) (p0 : Int32) (i1 : Int32) (i2 : Int32) (q1 : Int64) (q2 : Int64) (q3 : Int64) (w0 : Int32) (w1 : Int32) (w2 : Int32) (w3 : Int32) (w4 : Int32) (w5 : Int32) (h0 : Heap) (n0 : Nat) (Z0 : n0 ≤ h0.size) (hn : ((1 : Int32) + (p0 &&& (3 : Int32))) = (1 : Int32)) (hk : (own_minI (((p0.toUInt32 >>> ((2 : Int32) &&& 31).toUInt32).toInt32) &&& (7 : Int32)) (6 : Int32)) = (5 : Int32)) (hw0 : (q1.toInt32) = w0) (hw1 : (((q1.toUInt64 >>> ((32 : Int32) &&& 0x3f).toInt64.toUInt64).toInt64).toInt32) = w1) (hw2 : (q2.toInt32) = w2) (hw3 : (((q2.toUInt64 >>> ((32 : Int32) &&& 0x3f).toInt64.toUInt64).toInt64).toInt32) = w3) (hw4 : (q3.toInt32) = w4) (hw5 : (((q3.toUInt64 >>> ((32 : Int32) &&& 0x3f).toInt64.toUInt64).toInt64).toInt32) = w5) :
    MetFree l x (head1 (Jvm.Cond.code x code maxLocals ret :: ws) room_1) (fun a U => a = #[(.int p0), (.int i1), (.int i2), (.long q1), (.long q2), (.long q3)] ∧ Z.Warmed39 U.vm ∧ U.heap = h0) (fun _ _ _ _ _ => True) (fun _ U o U' => ∃ v L, o = .returned v ∧ Q_rm0_1_5 Z p0 i1 i2 q1 q2 q3 w0 w1 w2 w3 w4 w5 h0 n0 v U'.heap L ∧ FrameEnd U o U' L room_1.cells room_1.slots) := by
  refine MetFree.of_bodySF (plainFor_of_name pn_com_example_whipstill_whipstill_MovingWindowMeanAbovePinLaw) hisR ?_
  intro p e s m args below meth c s₁ Bd hml0 hP hK
  obtain ⟨rfl, hZ, hh⟩ := hP
  have hx := Bd.exec
  have hby := Bd.bytes
  have hml : c.maxLocals = 26 := hml0
  have hown : s.vm.findClass "com/example/whipstill/whipstill/MovingWindowMeanAbovePinLaw" = some m.cls := findClass_of_methodNamed Bd.named
  have hnm := (name_of_methodNamed Bd.named Bd.method).1
  have X0 : Stand p l e room_1 s m #[(.int p0), (.int i1), (.int i2), (.long q1), (.long q2), (.long q3)] below meth c s₁ [] 0 0 := Stand.of_body Bd
  have e0 : s₁.heap = h0 := by rw [← hh, Bd.state]; rfl
  have N0 := Fr.nil n0
  have pre0 : ∀ t, Steps p.tables e below (s₁.setTop (mkF m 0 #[.val (.int p0), .val (.int i1), .val (.int i2), .val (.long q1), .second, .val (.long q2), .second, .val (.long q3), .second, .unset, .unset, .unset, .unset, .unset, .unset, .unset, .unset, .unset, .unset, .unset, .unset, .unset, .unset, .unset, .unset, .unset] [])) t → Steps p.tables e below (s₁.setTop (entryFrame m #[(.int p0), (.int i1), (.int i2), (.long q1), (.long q2), (.long q3)] maxLocals)) t := fun t k => castTop (ef_rm0_1_5 m p0 i1 i2 q1 q2 q3) k
  obtain ⟨T1_, h1_, L1_, X1_, e1_, N1_, K1_, st1_⟩ := pcA Z a0 hw X0 hx hZ hby hml hown p0 i1 i2 q1 q2 q3 (1 : Int32) (5 : Int32) w0 w1 w2 w3 w4 w5 h0 n0 Z0 e0 N0 (by decide) (by decide) (by exact Nat.le_of_ble_eq_true rfl) (by exact Nat.le_of_ble_eq_true rfl) hn hk hw0 hw1 hw2 hw3 hw4 hw5
  have e1_q := e1_.trans K1_
  obtain ⟨T2_, h2_, L2_, mo_2_, ta_2_, kc_2_, X2_, e2_, N2_, K2_, p2_0, p2_1, p2_2, p2_3, p2_4, p2_5, st2_⟩ := pcI1 Z a0 hw X1_ hx hZ hby hml hown (.val (.int p0)) i1 i2 (.val (.long q1)) (.second) (.val (.long q2)) (.second) (.val (.long q3)) (.second) (5 : Int32) w0 w1 w2 w3 w4 w5 h0 n0 Z0 e1_q N1_ (by decide) (by decide) (by exact Nat.le_of_ble_eq_true rfl) (by exact Nat.le_of_ble_eq_true rfl) 
  have z4_ : n0 ≤ h2_.size := Nat.le_trans Z0 K2_.1
  obtain ⟨T3_, h3_, L3_, X3_, e3_, N3_, K3_, p3_0, p3_1, p3_2, p3_3, st3_⟩ := pcT1_0 Z a0 hw X2_ hx hZ hby hml hown (.val (.int p0)) i1 i2 (.val (.long q1)) (.second) (.val (.long q2)) (.second) (.val (.long q3)) (.second) (5 : Int32) w0 w1 w2 w3 w4 w5 mo_2_ ta_2_ kc_2_ (i1.toInt64) h2_ n0 z4_ e2_ N2_ (by decide) (by decide) (by exact Nat.le_of_ble_eq_true rfl) (by exact Nat.le_of_ble_eq_true rfl) (by decide) p2_2 p2_3 p2_4 p2_5 p2_0 p2_1
  have z6_ : n0 ≤ h3_.size := Nat.le_trans z4_ K3_.1
  obtain ⟨T5_, h5_, L5_, X5_, e5_, N5_, K5_, p5_0, p5_1, p5_2, p5_3, st5_⟩ := pcT1_1 Z a0 hw X3_ hx hZ hby hml hown (.val (.int p0)) i1 i2 (.val (.long q1)) (.second) (.val (.long q2)) (.second) (.val (.long q3)) (.second) (5 : Int32) w0 w1 w2 w3 w4 w5 mo_2_ ta_2_ kc_2_ (w0.toInt64) h3_ n0 z6_ e3_ N3_ (by decide) (by decide) (by exact Nat.le_of_ble_eq_true rfl) (by exact Nat.le_of_ble_eq_true rfl) (by decide) p3_0 p3_1 p3_2 p3_3 p2_0 p2_1
  have z8_ : n0 ≤ h5_.size := Nat.le_trans z6_ K5_.1
  obtain ⟨T7_, h7_, L7_, X7_, e7_, N7_, K7_, p7_0, p7_1, p7_2, p7_3, st7_⟩ := pcT1_2 Z a0 hw X5_ hx hZ hby hml hown (.val (.int p0)) i1 i2 (.val (.long q1)) (.second) (.val (.long q2)) (.second) (.val (.long q3)) (.second) (5 : Int32) w0 w1 w2 w3 w4 w5 mo_2_ ta_2_ kc_2_ (w1.toInt64) h5_ n0 z8_ e5_ N5_ (by decide) (by decide) (by exact Nat.le_of_ble_eq_true rfl) (by exact Nat.le_of_ble_eq_true rfl) (by decide) p5_0 p5_1 p5_2 p5_3 p2_0 p2_1
  have z10_ : n0 ≤ h7_.size := Nat.le_trans z8_ K7_.1
  obtain ⟨T9_, h9_, L9_, X9_, e9_, N9_, K9_, p9_0, p9_1, p9_2, p9_3, st9_⟩ := pcT1_3 Z a0 hw X7_ hx hZ hby hml hown (.val (.int p0)) i1 i2 (.val (.long q1)) (.second) (.val (.long q2)) (.second) (.val (.long q3)) (.second) (5 : Int32) w0 w1 w2 w3 w4 w5 mo_2_ ta_2_ kc_2_ (w2.toInt64) h7_ n0 z10_ e7_ N7_ (by decide) (by decide) (by exact Nat.le_of_ble_eq_true rfl) (by exact Nat.le_of_ble_eq_true rfl) (by decide) p7_0 p7_1 p7_2 p7_3 p2_0 p2_1
  have z12_ : n0 ≤ h9_.size := Nat.le_trans z10_ K9_.1
  obtain ⟨T11_, h11_, L11_, X11_, e11_, N11_, K11_, p11_0, p11_1, p11_2, p11_3, st11_⟩ := pcT1_4 Z a0 hw X9_ hx hZ hby hml hown (.val (.int p0)) i1 i2 (.val (.long q1)) (.second) (.val (.long q2)) (.second) (.val (.long q3)) (.second) (5 : Int32) w0 w1 w2 w3 w4 w5 mo_2_ ta_2_ kc_2_ (w3.toInt64) h9_ n0 z12_ e9_ N9_ (by decide) (by decide) (by exact Nat.le_of_ble_eq_true rfl) (by exact Nat.le_of_ble_eq_true rfl) (by decide) p9_0 p9_1 p9_2 p9_3 p2_0 p2_1
  have z14_ : n0 ≤ h11_.size := Nat.le_trans z12_ K11_.1
  obtain ⟨T13_, h13_, L13_, X13_, e13_, N13_, K13_, st13_⟩ := pcS5 Z a0 hw X11_ hx hZ hby hml hown (.val (.int p0)) i1 i2 (.val (.long q1)) (.second) (.val (.long q2)) (.second) (.val (.long q3)) (.second) (1 : Int32) (5 : Int32) w0 w1 w2 w3 w4 w5 mo_2_ h11_ n0 z14_ e11_ N11_ (by decide) (by decide) (by exact Nat.le_of_ble_eq_true rfl) (by exact Nat.le_of_ble_eq_true rfl) (by decide)
  have e13_q := e13_.trans K13_
  obtain ⟨T15_, h15_, L15_, X15_, e15_, N15_, K15_, st15_⟩ := pcM1 Z a0 hw X13_ hx hZ hby hml hown (.val (.int p0)) i1 i2 (.val (.long q1)) (.second) (.val (.long q2)) (.second) (.val (.long q3)) (.second) (5 : Int32) w0 w1 w2 w3 w4 w5 mo_2_ ta_2_ kc_2_ (w4.toInt64) h11_ n0 z14_ e13_q N13_ (by decide) (by decide) (by exact Nat.le_of_ble_eq_true rfl) (by exact Nat.le_of_ble_eq_true rfl) p11_0 p11_1 p11_3 (own_R.i2l w4)
  have e15_q := e15_.trans K15_
  have hAB : ((0 : Int64) + ((w4.toInt64) - (i2.toInt64))) = ((((((((((own_maxI (0 : Int32) ((1 : Int32) - (5 : Int32))).toInt64) * (i1.toInt64)) + (own_held (0 : Int32) (5 : Int32) (1 : Int32) w0)) + (own_held (1 : Int32) (5 : Int32) (1 : Int32) w1)) + (own_held (2 : Int32) (5 : Int32) (1 : Int32) w2)) + (own_held (3 : Int32) (5 : Int32) (1 : Int32) w3)) + (own_held (4 : Int32) (5 : Int32) (1 : Int32) w4)) + (own_held (5 : Int32) (5 : Int32) (1 : Int32) w5)) - (((1 : Int32).toInt64) * (i2.toInt64))) := by
    rw [show own_maxI (0 : Int32) ((1 : Int32) - (5 : Int32)) = (0 : Int32) from rfl, show own_held (0 : Int32) (5 : Int32) (1 : Int32) w0 = 0 from rfl, show own_held (1 : Int32) (5 : Int32) (1 : Int32) w1 = 0 from rfl, show own_held (2 : Int32) (5 : Int32) (1 : Int32) w2 = 0 from rfl, show own_held (3 : Int32) (5 : Int32) (1 : Int32) w3 = 0 from rfl, show own_held (4 : Int32) (5 : Int32) (1 : Int32) w4 = w4.toInt64 from rfl, show own_held (5 : Int32) (5 : Int32) (1 : Int32) w5 = 0 from rfl, show (0 : Int32).toInt64 = 0 from rfl, show (1 : Int32).toInt64 = 1 from rfl]
    generalize i1.toInt64 = x1, i2.toInt64 = x2, w0.toInt64 = x3, w1.toInt64 = x4, w2.toInt64 = x5, w3.toInt64 = x6, w4.toInt64 = x7, w5.toInt64 = x8
    grind
  obtain ⟨T16_, h16_, L16_, X16_, e16_, N16_, K16_, st16_⟩ := pcB Z a0 hw X15_ hx hZ hby hml hown (.val (.int p0)) i1 i2 (.val (.long q1)) (.second) (.val (.long q2)) (.second) (.val (.long q3)) (.second) (1 : Int32) (5 : Int32) w0 w1 w2 w3 w4 w5 mo_2_ (FP.ddiv (FP.l2d ((0 : Int64) + ((w4.toInt64) - (i2.toInt64)))) (FP.i2d (1 : Int32))) h11_ n0 z14_ e15_q N15_ (by decide) (by decide) (by exact Nat.le_of_ble_eq_true rfl) (by exact Nat.le_of_ble_eq_true rfl) (by decide) (dcmpV_eq (congrArg (fun z => FP.ddiv (FP.l2d z) (FP.i2d (1 : Int32))) hAB) (own_ddiv _ _ (by decide)) .l)
  have e16_q := e16_.trans K16_
  obtain ⟨fs, hr, hrun, hended, hW, hsame⟩ := X16_.leave (v := some (.int (1 : Int32))) (fun h => by first | rfl | (rw [Bd.returns] at h; cases h))
  refine ⟨_, _, pre0 _ ?_, hrun, hended, _, _, rfl, ?_, ⟨_, rfl⟩, hW, hsame.mono (by exact Nat.le_of_ble_eq_true rfl) (by exact Nat.le_of_ble_eq_true rfl)⟩
  · show Steps p.tables e below (s₁.setTop (mkF m 0 #[.val (.int p0), .val (.int i1), .val (.int i2), .val (.long q1), .second, .val (.long q2), .second, .val (.long q3), .second, .unset, .unset, .unset, .unset, .unset, .unset, .unset, .unset, .unset, .unset, .unset, .unset, .unset, .unset, .unset, .unset, .unset] [])) _
    refine st1_ _ ?_
    refine st2_ _ ?_
    refine st3_ _ ?_
    refine st5_ _ ?_
    refine st7_ _ ?_
    refine st9_ _ ?_
    refine st11_ _ ?_
    refine st13_ _ ?_
    refine st15_ _ ?_
    refine st16_ _ ?_
    exact retN X16_ hx (t := .boolean) Bd.returns (by simp) (hb hby at_300) hr
  · show Q_rm0_1_5 Z p0 i1 i2 q1 q2 q3 w0 w1 w2 w3 w4 w5 h0 n0 _ T16_.heap _
    rw [e16_q]
    exact ⟨rfl, N16_⟩
theorem ef_rm0_1_6 (m : MethodId) (x0 : Int32) (x1 : Int32) (x2 : Int32) (x3 : Int64) (x4 : Int64) (x5 : Int64) : entryFrame m #[(.int x0), (.int x1), (.int x2), (.long x3), (.long x4), (.long x5)] maxLocals = mkF m 0 #[.val (.int x0), .val (.int x1), .val (.int x2), .val (.long x3), .second, .val (.long x4), .second, .val (.long x5), .second, .unset, .unset, .unset, .unset, .unset, .unset, .unset, .unset, .unset, .unset, .unset, .unset, .unset, .unset, .unset, .unset, .unset] [] := by first | (simp [entryFrame, mkF, argsToLocals, Value.category, maxLocals]; done) | rfl
def Q_rm0_1_6 (Z : State) (p0 : Int32) (i1 : Int32) (i2 : Int32) (q1 : Int64) (q2 : Int64) (q3 : Int64) (w0 : Int32) (w1 : Int32) (w2 : Int32) (w3 : Int32) (w4 : Int32) (w5 : Int32) (h0 : Heap) (n0 : Nat) (v : Option Value) (h : Heap) (L : List Loc) : Prop := v = some (.int (1 : Int32)) ∧ Fr n0 L
set_option maxRecDepth 65536 in
set_option maxHeartbeats 40000000 in
theorem rm0_1_6 (l : Launch) (Z : State) (a0 : Array Value) (hw : ∀ d ∈ tables_1, d.before a0 Z = true) (ws : List Jvm.Cond) (p0 : Int32) (i1 : Int32) (i2 : Int32) (q1 : Int64) (q2 : Int64) (q3 : Int64) (w0 : Int32) (w1 : Int32) (w2 : Int32) (w3 : Int32) (w4 : Int32) (w5 : Int32) (h0 : Heap) (n0 : Nat) (Z0 : n0 ≤ h0.size) (hn : ((1 : Int32) + (p0 &&& (3 : Int32))) = (1 : Int32)) (hk : (own_minI (((p0.toUInt32 >>> ((2 : Int32) &&& 31).toUInt32).toInt32) &&& (7 : Int32)) (6 : Int32)) = (6 : Int32)) (hw0 : (q1.toInt32) = w0) (hw1 : (((q1.toUInt64 >>> ((32 : Int32) &&& 0x3f).toInt64.toUInt64).toInt64).toInt32) = w1) (hw2 : (q2.toInt32) = w2) (hw3 : (((q2.toUInt64 >>> ((32 : Int32) &&& 0x3f).toInt64.toUInt64).toInt64).toInt32) = w3) (hw4 : (q3.toInt32) = w4) (hw5 : (((q3.toUInt64 >>> ((32 : Int32) &&& 0x3f).toInt64.toUInt64).toInt64).toInt32) = w5) :
    MetFree l x (head1 (Jvm.Cond.code x code maxLocals ret :: ws) room_1) (fun a U => a = #[(.int p0), (.int i1), (.int i2), (.long q1), (.long q2), (.long q3)] ∧ Z.Warmed39 U.vm ∧ U.heap = h0) (fun _ _ _ _ _ => True) (fun _ U o U' => ∃ v L, o = .returned v ∧ Q_rm0_1_6 Z p0 i1 i2 q1 q2 q3 w0 w1 w2 w3 w4 w5 h0 n0 v U'.heap L ∧ FrameEnd U o U' L room_1.cells room_1.slots) := by
  refine MetFree.of_bodySF (plainFor_of_name pn_com_example_whipstill_whipstill_MovingWindowMeanAbovePinLaw) hisR ?_
  intro p e s m args below meth c s₁ Bd hml0 hP hK
  obtain ⟨rfl, hZ, hh⟩ := hP
  have hx := Bd.exec
  have hby := Bd.bytes
  have hml : c.maxLocals = 26 := hml0
  have hown : s.vm.findClass "com/example/whipstill/whipstill/MovingWindowMeanAbovePinLaw" = some m.cls := findClass_of_methodNamed Bd.named
  have hnm := (name_of_methodNamed Bd.named Bd.method).1
  have X0 : Stand p l e room_1 s m #[(.int p0), (.int i1), (.int i2), (.long q1), (.long q2), (.long q3)] below meth c s₁ [] 0 0 := Stand.of_body Bd
  have e0 : s₁.heap = h0 := by rw [← hh, Bd.state]; rfl
  have N0 := Fr.nil n0
  have pre0 : ∀ t, Steps p.tables e below (s₁.setTop (mkF m 0 #[.val (.int p0), .val (.int i1), .val (.int i2), .val (.long q1), .second, .val (.long q2), .second, .val (.long q3), .second, .unset, .unset, .unset, .unset, .unset, .unset, .unset, .unset, .unset, .unset, .unset, .unset, .unset, .unset, .unset, .unset, .unset] [])) t → Steps p.tables e below (s₁.setTop (entryFrame m #[(.int p0), (.int i1), (.int i2), (.long q1), (.long q2), (.long q3)] maxLocals)) t := fun t k => castTop (ef_rm0_1_6 m p0 i1 i2 q1 q2 q3) k
  obtain ⟨T1_, h1_, L1_, X1_, e1_, N1_, K1_, st1_⟩ := pcA Z a0 hw X0 hx hZ hby hml hown p0 i1 i2 q1 q2 q3 (1 : Int32) (6 : Int32) w0 w1 w2 w3 w4 w5 h0 n0 Z0 e0 N0 (by decide) (by decide) (by exact Nat.le_of_ble_eq_true rfl) (by exact Nat.le_of_ble_eq_true rfl) hn hk hw0 hw1 hw2 hw3 hw4 hw5
  have e1_q := e1_.trans K1_
  obtain ⟨T2_, h2_, L2_, mo_2_, ta_2_, kc_2_, X2_, e2_, N2_, K2_, p2_0, p2_1, p2_2, p2_3, p2_4, p2_5, st2_⟩ := pcI1 Z a0 hw X1_ hx hZ hby hml hown (.val (.int p0)) i1 i2 (.val (.long q1)) (.second) (.val (.long q2)) (.second) (.val (.long q3)) (.second) (6 : Int32) w0 w1 w2 w3 w4 w5 h0 n0 Z0 e1_q N1_ (by decide) (by decide) (by exact Nat.le_of_ble_eq_true rfl) (by exact Nat.le_of_ble_eq_true rfl) 
  have z4_ : n0 ≤ h2_.size := Nat.le_trans Z0 K2_.1
  obtain ⟨T3_, h3_, L3_, X3_, e3_, N3_, K3_, p3_0, p3_1, p3_2, p3_3, st3_⟩ := pcT1_0 Z a0 hw X2_ hx hZ hby hml hown (.val (.int p0)) i1 i2 (.val (.long q1)) (.second) (.val (.long q2)) (.second) (.val (.long q3)) (.second) (6 : Int32) w0 w1 w2 w3 w4 w5 mo_2_ ta_2_ kc_2_ (i1.toInt64) h2_ n0 z4_ e2_ N2_ (by decide) (by decide) (by exact Nat.le_of_ble_eq_true rfl) (by exact Nat.le_of_ble_eq_true rfl) (by decide) p2_2 p2_3 p2_4 p2_5 p2_0 p2_1
  have z6_ : n0 ≤ h3_.size := Nat.le_trans z4_ K3_.1
  obtain ⟨T5_, h5_, L5_, X5_, e5_, N5_, K5_, p5_0, p5_1, p5_2, p5_3, st5_⟩ := pcT1_1 Z a0 hw X3_ hx hZ hby hml hown (.val (.int p0)) i1 i2 (.val (.long q1)) (.second) (.val (.long q2)) (.second) (.val (.long q3)) (.second) (6 : Int32) w0 w1 w2 w3 w4 w5 mo_2_ ta_2_ kc_2_ (w0.toInt64) h3_ n0 z6_ e3_ N3_ (by decide) (by decide) (by exact Nat.le_of_ble_eq_true rfl) (by exact Nat.le_of_ble_eq_true rfl) (by decide) p3_0 p3_1 p3_2 p3_3 p2_0 p2_1
  have z8_ : n0 ≤ h5_.size := Nat.le_trans z6_ K5_.1
  obtain ⟨T7_, h7_, L7_, X7_, e7_, N7_, K7_, p7_0, p7_1, p7_2, p7_3, st7_⟩ := pcT1_2 Z a0 hw X5_ hx hZ hby hml hown (.val (.int p0)) i1 i2 (.val (.long q1)) (.second) (.val (.long q2)) (.second) (.val (.long q3)) (.second) (6 : Int32) w0 w1 w2 w3 w4 w5 mo_2_ ta_2_ kc_2_ (w1.toInt64) h5_ n0 z8_ e5_ N5_ (by decide) (by decide) (by exact Nat.le_of_ble_eq_true rfl) (by exact Nat.le_of_ble_eq_true rfl) (by decide) p5_0 p5_1 p5_2 p5_3 p2_0 p2_1
  have z10_ : n0 ≤ h7_.size := Nat.le_trans z8_ K7_.1
  obtain ⟨T9_, h9_, L9_, X9_, e9_, N9_, K9_, p9_0, p9_1, p9_2, p9_3, st9_⟩ := pcT1_3 Z a0 hw X7_ hx hZ hby hml hown (.val (.int p0)) i1 i2 (.val (.long q1)) (.second) (.val (.long q2)) (.second) (.val (.long q3)) (.second) (6 : Int32) w0 w1 w2 w3 w4 w5 mo_2_ ta_2_ kc_2_ (w2.toInt64) h7_ n0 z10_ e7_ N7_ (by decide) (by decide) (by exact Nat.le_of_ble_eq_true rfl) (by exact Nat.le_of_ble_eq_true rfl) (by decide) p7_0 p7_1 p7_2 p7_3 p2_0 p2_1
  have z12_ : n0 ≤ h9_.size := Nat.le_trans z10_ K9_.1
  obtain ⟨T11_, h11_, L11_, X11_, e11_, N11_, K11_, p11_0, p11_1, p11_2, p11_3, st11_⟩ := pcT1_4 Z a0 hw X9_ hx hZ hby hml hown (.val (.int p0)) i1 i2 (.val (.long q1)) (.second) (.val (.long q2)) (.second) (.val (.long q3)) (.second) (6 : Int32) w0 w1 w2 w3 w4 w5 mo_2_ ta_2_ kc_2_ (w3.toInt64) h9_ n0 z12_ e9_ N9_ (by decide) (by decide) (by exact Nat.le_of_ble_eq_true rfl) (by exact Nat.le_of_ble_eq_true rfl) (by decide) p9_0 p9_1 p9_2 p9_3 p2_0 p2_1
  have z14_ : n0 ≤ h11_.size := Nat.le_trans z12_ K11_.1
  obtain ⟨T13_, h13_, L13_, X13_, e13_, N13_, K13_, p13_0, p13_1, p13_2, p13_3, st13_⟩ := pcT1_5 Z a0 hw X11_ hx hZ hby hml hown (.val (.int p0)) i1 i2 (.val (.long q1)) (.second) (.val (.long q2)) (.second) (.val (.long q3)) (.second) (6 : Int32) w0 w1 w2 w3 w4 w5 mo_2_ ta_2_ kc_2_ (w4.toInt64) h11_ n0 z14_ e11_ N11_ (by decide) (by decide) (by exact Nat.le_of_ble_eq_true rfl) (by exact Nat.le_of_ble_eq_true rfl) (by decide) p11_0 p11_1 p11_2 p11_3 p2_0 p2_1
  have z16_ : n0 ≤ h13_.size := Nat.le_trans z14_ K13_.1
  obtain ⟨T15_, h15_, L15_, X15_, e15_, N15_, K15_, st15_⟩ := pcM1 Z a0 hw X13_ hx hZ hby hml hown (.val (.int p0)) i1 i2 (.val (.long q1)) (.second) (.val (.long q2)) (.second) (.val (.long q3)) (.second) (6 : Int32) w0 w1 w2 w3 w4 w5 mo_2_ ta_2_ kc_2_ (w5.toInt64) h13_ n0 z16_ e13_ N13_ (by decide) (by decide) (by exact Nat.le_of_ble_eq_true rfl) (by exact Nat.le_of_ble_eq_true rfl) p13_0 p13_1 p13_3 (own_R.i2l w5)
  have e15_q := e15_.trans K15_
  have hAB : ((0 : Int64) + ((w5.toInt64) - (i2.toInt64))) = ((((((((((own_maxI (0 : Int32) ((1 : Int32) - (6 : Int32))).toInt64) * (i1.toInt64)) + (own_held (0 : Int32) (6 : Int32) (1 : Int32) w0)) + (own_held (1 : Int32) (6 : Int32) (1 : Int32) w1)) + (own_held (2 : Int32) (6 : Int32) (1 : Int32) w2)) + (own_held (3 : Int32) (6 : Int32) (1 : Int32) w3)) + (own_held (4 : Int32) (6 : Int32) (1 : Int32) w4)) + (own_held (5 : Int32) (6 : Int32) (1 : Int32) w5)) - (((1 : Int32).toInt64) * (i2.toInt64))) := by
    rw [show own_maxI (0 : Int32) ((1 : Int32) - (6 : Int32)) = (0 : Int32) from rfl, show own_held (0 : Int32) (6 : Int32) (1 : Int32) w0 = 0 from rfl, show own_held (1 : Int32) (6 : Int32) (1 : Int32) w1 = 0 from rfl, show own_held (2 : Int32) (6 : Int32) (1 : Int32) w2 = 0 from rfl, show own_held (3 : Int32) (6 : Int32) (1 : Int32) w3 = 0 from rfl, show own_held (4 : Int32) (6 : Int32) (1 : Int32) w4 = 0 from rfl, show own_held (5 : Int32) (6 : Int32) (1 : Int32) w5 = w5.toInt64 from rfl, show (0 : Int32).toInt64 = 0 from rfl, show (1 : Int32).toInt64 = 1 from rfl]
    generalize i1.toInt64 = x1, i2.toInt64 = x2, w0.toInt64 = x3, w1.toInt64 = x4, w2.toInt64 = x5, w3.toInt64 = x6, w4.toInt64 = x7, w5.toInt64 = x8
    grind
  obtain ⟨T17_, h17_, L17_, X17_, e17_, N17_, K17_, st17_⟩ := pcB Z a0 hw X15_ hx hZ hby hml hown (.val (.int p0)) i1 i2 (.val (.long q1)) (.second) (.val (.long q2)) (.second) (.val (.long q3)) (.second) (1 : Int32) (6 : Int32) w0 w1 w2 w3 w4 w5 mo_2_ (FP.ddiv (FP.l2d ((0 : Int64) + ((w5.toInt64) - (i2.toInt64)))) (FP.i2d (1 : Int32))) h13_ n0 z16_ e15_q N15_ (by decide) (by decide) (by exact Nat.le_of_ble_eq_true rfl) (by exact Nat.le_of_ble_eq_true rfl) (by decide) (dcmpV_eq (congrArg (fun z => FP.ddiv (FP.l2d z) (FP.i2d (1 : Int32))) hAB) (own_ddiv _ _ (by decide)) .l)
  have e17_q := e17_.trans K17_
  obtain ⟨fs, hr, hrun, hended, hW, hsame⟩ := X17_.leave (v := some (.int (1 : Int32))) (fun h => by first | rfl | (rw [Bd.returns] at h; cases h))
  refine ⟨_, _, pre0 _ ?_, hrun, hended, _, _, rfl, ?_, ⟨_, rfl⟩, hW, hsame.mono (by exact Nat.le_of_ble_eq_true rfl) (by exact Nat.le_of_ble_eq_true rfl)⟩
  · show Steps p.tables e below (s₁.setTop (mkF m 0 #[.val (.int p0), .val (.int i1), .val (.int i2), .val (.long q1), .second, .val (.long q2), .second, .val (.long q3), .second, .unset, .unset, .unset, .unset, .unset, .unset, .unset, .unset, .unset, .unset, .unset, .unset, .unset, .unset, .unset, .unset, .unset] [])) _
    refine st1_ _ ?_
    refine st2_ _ ?_
    refine st3_ _ ?_
    refine st5_ _ ?_
    refine st7_ _ ?_
    refine st9_ _ ?_
    refine st11_ _ ?_
    refine st13_ _ ?_
    refine st15_ _ ?_
    refine st17_ _ ?_
    exact retN X17_ hx (t := .boolean) Bd.returns (by simp) (hb hby at_300) hr
  · show Q_rm0_1_6 Z p0 i1 i2 q1 q2 q3 w0 w1 w2 w3 w4 w5 h0 n0 _ T17_.heap _
    rw [e17_q]
    exact ⟨rfl, N17_⟩
theorem ef_rm0_2_0 (m : MethodId) (x0 : Int32) (x1 : Int32) (x2 : Int32) (x3 : Int64) (x4 : Int64) (x5 : Int64) : entryFrame m #[(.int x0), (.int x1), (.int x2), (.long x3), (.long x4), (.long x5)] maxLocals = mkF m 0 #[.val (.int x0), .val (.int x1), .val (.int x2), .val (.long x3), .second, .val (.long x4), .second, .val (.long x5), .second, .unset, .unset, .unset, .unset, .unset, .unset, .unset, .unset, .unset, .unset, .unset, .unset, .unset, .unset, .unset, .unset, .unset] [] := by first | (simp [entryFrame, mkF, argsToLocals, Value.category, maxLocals]; done) | rfl
def Q_rm0_2_0 (Z : State) (p0 : Int32) (i1 : Int32) (i2 : Int32) (q1 : Int64) (q2 : Int64) (q3 : Int64) (w0 : Int32) (w1 : Int32) (w2 : Int32) (w3 : Int32) (w4 : Int32) (w5 : Int32) (h0 : Heap) (n0 : Nat) (v : Option Value) (h : Heap) (L : List Loc) : Prop := v = some (.int (1 : Int32)) ∧ Fr n0 L
set_option maxRecDepth 65536 in
set_option maxHeartbeats 40000000 in
theorem rm0_2_0 (l : Launch) (Z : State) (a0 : Array Value) (hw : ∀ d ∈ tables_1, d.before a0 Z = true) (ws : List Jvm.Cond) (p0 : Int32) (i1 : Int32) (i2 : Int32) (q1 : Int64) (q2 : Int64) (q3 : Int64) (w0 : Int32) (w1 : Int32) (w2 : Int32) (w3 : Int32) (w4 : Int32) (w5 : Int32) (h0 : Heap) (n0 : Nat) (Z0 : n0 ≤ h0.size) (hn : ((1 : Int32) + (p0 &&& (3 : Int32))) = (2 : Int32)) (hk : (own_minI (((p0.toUInt32 >>> ((2 : Int32) &&& 31).toUInt32).toInt32) &&& (7 : Int32)) (6 : Int32)) = (0 : Int32)) (hw0 : (q1.toInt32) = w0) (hw1 : (((q1.toUInt64 >>> ((32 : Int32) &&& 0x3f).toInt64.toUInt64).toInt64).toInt32) = w1) (hw2 : (q2.toInt32) = w2) (hw3 : (((q2.toUInt64 >>> ((32 : Int32) &&& 0x3f).toInt64.toUInt64).toInt64).toInt32) = w3) (hw4 : (q3.toInt32) = w4) (hw5 : (((q3.toUInt64 >>> ((32 : Int32) &&& 0x3f).toInt64.toUInt64).toInt64).toInt32) = w5) :
    MetFree l x (head1 (Jvm.Cond.code x code maxLocals ret :: ws) room_1) (fun a U => a = #[(.int p0), (.int i1), (.int i2), (.long q1), (.long q2), (.long q3)] ∧ Z.Warmed39 U.vm ∧ U.heap = h0) (fun _ _ _ _ _ => True) (fun _ U o U' => ∃ v L, o = .returned v ∧ Q_rm0_2_0 Z p0 i1 i2 q1 q2 q3 w0 w1 w2 w3 w4 w5 h0 n0 v U'.heap L ∧ FrameEnd U o U' L room_1.cells room_1.slots) := by
  refine MetFree.of_bodySF (plainFor_of_name pn_com_example_whipstill_whipstill_MovingWindowMeanAbovePinLaw) hisR ?_
  intro p e s m args below meth c s₁ Bd hml0 hP hK
  obtain ⟨rfl, hZ, hh⟩ := hP
  have hx := Bd.exec
  have hby := Bd.bytes
  have hml : c.maxLocals = 26 := hml0
  have hown : s.vm.findClass "com/example/whipstill/whipstill/MovingWindowMeanAbovePinLaw" = some m.cls := findClass_of_methodNamed Bd.named
  have hnm := (name_of_methodNamed Bd.named Bd.method).1
  have X0 : Stand p l e room_1 s m #[(.int p0), (.int i1), (.int i2), (.long q1), (.long q2), (.long q3)] below meth c s₁ [] 0 0 := Stand.of_body Bd
  have e0 : s₁.heap = h0 := by rw [← hh, Bd.state]; rfl
  have N0 := Fr.nil n0
  have pre0 : ∀ t, Steps p.tables e below (s₁.setTop (mkF m 0 #[.val (.int p0), .val (.int i1), .val (.int i2), .val (.long q1), .second, .val (.long q2), .second, .val (.long q3), .second, .unset, .unset, .unset, .unset, .unset, .unset, .unset, .unset, .unset, .unset, .unset, .unset, .unset, .unset, .unset, .unset, .unset] [])) t → Steps p.tables e below (s₁.setTop (entryFrame m #[(.int p0), (.int i1), (.int i2), (.long q1), (.long q2), (.long q3)] maxLocals)) t := fun t k => castTop (ef_rm0_2_0 m p0 i1 i2 q1 q2 q3) k
  obtain ⟨T1_, h1_, L1_, X1_, e1_, N1_, K1_, st1_⟩ := pcA Z a0 hw X0 hx hZ hby hml hown p0 i1 i2 q1 q2 q3 (2 : Int32) (0 : Int32) w0 w1 w2 w3 w4 w5 h0 n0 Z0 e0 N0 (by decide) (by decide) (by exact Nat.le_of_ble_eq_true rfl) (by exact Nat.le_of_ble_eq_true rfl) hn hk hw0 hw1 hw2 hw3 hw4 hw5
  have e1_q := e1_.trans K1_
  obtain ⟨T2_, h2_, L2_, mo_2_, ta_2_, kc_2_, X2_, e2_, N2_, K2_, p2_0, p2_1, p2_2, p2_3, p2_4, p2_5, st2_⟩ := pcI2 Z a0 hw X1_ hx hZ hby hml hown (.val (.int p0)) i1 i2 (.val (.long q1)) (.second) (.val (.long q2)) (.second) (.val (.long q3)) (.second) (0 : Int32) w0 w1 w2 w3 w4 w5 h0 n0 Z0 e1_q N1_ (by decide) (by decide) (by exact Nat.le_of_ble_eq_true rfl) (by exact Nat.le_of_ble_eq_true rfl) 
  have z4_ : n0 ≤ h2_.size := Nat.le_trans Z0 K2_.1
  obtain ⟨T3_, h3_, L3_, X3_, e3_, N3_, K3_, st3_⟩ := pcS0 Z a0 hw X2_ hx hZ hby hml hown (.val (.int p0)) i1 i2 (.val (.long q1)) (.second) (.val (.long q2)) (.second) (.val (.long q3)) (.second) (2 : Int32) (0 : Int32) w0 w1 w2 w3 w4 w5 mo_2_ h2_ n0 z4_ e2_ N2_ (by decide) (by decide) (by exact Nat.le_of_ble_eq_true rfl) (by exact Nat.le_of_ble_eq_true rfl) (by decide)
  have e3_q := e3_.trans K3_
  obtain ⟨T5_, h5_, L5_, X5_, e5_, N5_, K5_, st5_⟩ := pcS1 Z a0 hw X3_ hx hZ hby hml hown (.val (.int p0)) i1 i2 (.val (.long q1)) (.second) (.val (.long q2)) (.second) (.val (.long q3)) (.second) (2 : Int32) (0 : Int32) w0 w1 w2 w3 w4 w5 mo_2_ h2_ n0 z4_ e3_q N3_ (by decide) (by decide) (by exact Nat.le_of_ble_eq_true rfl) (by exact Nat.le_of_ble_eq_true rfl) (by decide)
  have e5_q := e5_.trans K5_
  obtain ⟨T6_, h6_, L6_, X6_, e6_, N6_, K6_, st6_⟩ := pcS2 Z a0 hw X5_ hx hZ hby hml hown (.val (.int p0)) i1 i2 (.val (.long q1)) (.second) (.val (.long q2)) (.second) (.val (.long q3)) (.second) (2 : Int32) (0 : Int32) w0 w1 w2 w3 w4 w5 mo_2_ h2_ n0 z4_ e5_q N5_ (by decide) (by decide) (by exact Nat.le_of_ble_eq_true rfl) (by exact Nat.le_of_ble_eq_true rfl) (by decide)
  have e6_q := e6_.trans K6_
  obtain ⟨T7_, h7_, L7_, X7_, e7_, N7_, K7_, st7_⟩ := pcS3 Z a0 hw X6_ hx hZ hby hml hown (.val (.int p0)) i1 i2 (.val (.long q1)) (.second) (.val (.long q2)) (.second) (.val (.long q3)) (.second) (2 : Int32) (0 : Int32) w0 w1 w2 w3 w4 w5 mo_2_ h2_ n0 z4_ e6_q N6_ (by decide) (by decide) (by exact Nat.le_of_ble_eq_true rfl) (by exact Nat.le_of_ble_eq_true rfl) (by decide)
  have e7_q := e7_.trans K7_
  obtain ⟨T8_, h8_, L8_, X8_, e8_, N8_, K8_, st8_⟩ := pcS4 Z a0 hw X7_ hx hZ hby hml hown (.val (.int p0)) i1 i2 (.val (.long q1)) (.second) (.val (.long q2)) (.second) (.val (.long q3)) (.second) (2 : Int32) (0 : Int32) w0 w1 w2 w3 w4 w5 mo_2_ h2_ n0 z4_ e7_q N7_ (by decide) (by decide) (by exact Nat.le_of_ble_eq_true rfl) (by exact Nat.le_of_ble_eq_true rfl) (by decide)
  have e8_q := e8_.trans K8_
  obtain ⟨T9_, h9_, L9_, X9_, e9_, N9_, K9_, st9_⟩ := pcS5 Z a0 hw X8_ hx hZ hby hml hown (.val (.int p0)) i1 i2 (.val (.long q1)) (.second) (.val (.long q2)) (.second) (.val (.long q3)) (.second) (2 : Int32) (0 : Int32) w0 w1 w2 w3 w4 w5 mo_2_ h2_ n0 z4_ e8_q N8_ (by decide) (by decide) (by exact Nat.le_of_ble_eq_true rfl) (by exact Nat.le_of_ble_eq_true rfl) (by decide)
  have e9_q := e9_.trans K9_
  obtain ⟨T10_, h10_, L10_, X10_, e10_, N10_, K10_, st10_⟩ := pcM2 Z a0 hw X9_ hx hZ hby hml hown (.val (.int p0)) i1 i2 (.val (.long q1)) (.second) (.val (.long q2)) (.second) (.val (.long q3)) (.second) (0 : Int32) w0 w1 w2 w3 w4 w5 mo_2_ ta_2_ kc_2_ (i1.toInt64) (i1.toInt64) h2_ n0 z4_ e9_q N9_ (by decide) (by decide) (by exact Nat.le_of_ble_eq_true rfl) (by exact Nat.le_of_ble_eq_true rfl) p2_2 p2_3 p2_5 (own_R.i2l i1) (own_R.i2l i1)
  have e10_q := e10_.trans K10_
  have hAB : (((0 : Int64) + ((i1.toInt64) - (i2.toInt64))) + ((i1.toInt64) - (i2.toInt64))) = ((((((((((own_maxI (0 : Int32) ((2 : Int32) - (0 : Int32))).toInt64) * (i1.toInt64)) + (own_held (0 : Int32) (0 : Int32) (2 : Int32) w0)) + (own_held (1 : Int32) (0 : Int32) (2 : Int32) w1)) + (own_held (2 : Int32) (0 : Int32) (2 : Int32) w2)) + (own_held (3 : Int32) (0 : Int32) (2 : Int32) w3)) + (own_held (4 : Int32) (0 : Int32) (2 : Int32) w4)) + (own_held (5 : Int32) (0 : Int32) (2 : Int32) w5)) - (((2 : Int32).toInt64) * (i2.toInt64))) := by
    rw [show own_maxI (0 : Int32) ((2 : Int32) - (0 : Int32)) = (2 : Int32) from rfl, show own_held (0 : Int32) (0 : Int32) (2 : Int32) w0 = 0 from rfl, show own_held (1 : Int32) (0 : Int32) (2 : Int32) w1 = 0 from rfl, show own_held (2 : Int32) (0 : Int32) (2 : Int32) w2 = 0 from rfl, show own_held (3 : Int32) (0 : Int32) (2 : Int32) w3 = 0 from rfl, show own_held (4 : Int32) (0 : Int32) (2 : Int32) w4 = 0 from rfl, show own_held (5 : Int32) (0 : Int32) (2 : Int32) w5 = 0 from rfl, show (2 : Int32).toInt64 = 2 from rfl]
    generalize i1.toInt64 = x1, i2.toInt64 = x2, w0.toInt64 = x3, w1.toInt64 = x4, w2.toInt64 = x5, w3.toInt64 = x6, w4.toInt64 = x7, w5.toInt64 = x8
    grind
  obtain ⟨T11_, h11_, L11_, X11_, e11_, N11_, K11_, st11_⟩ := pcB Z a0 hw X10_ hx hZ hby hml hown (.val (.int p0)) i1 i2 (.val (.long q1)) (.second) (.val (.long q2)) (.second) (.val (.long q3)) (.second) (2 : Int32) (0 : Int32) w0 w1 w2 w3 w4 w5 mo_2_ (FP.ddiv (FP.l2d (((0 : Int64) + ((i1.toInt64) - (i2.toInt64))) + ((i1.toInt64) - (i2.toInt64)))) (FP.i2d (2 : Int32))) h2_ n0 z4_ e10_q N10_ (by decide) (by decide) (by exact Nat.le_of_ble_eq_true rfl) (by exact Nat.le_of_ble_eq_true rfl) (by decide) (dcmpV_eq (congrArg (fun z => FP.ddiv (FP.l2d z) (FP.i2d (2 : Int32))) hAB) (own_ddiv _ _ (by decide)) .l)
  have e11_q := e11_.trans K11_
  obtain ⟨fs, hr, hrun, hended, hW, hsame⟩ := X11_.leave (v := some (.int (1 : Int32))) (fun h => by first | rfl | (rw [Bd.returns] at h; cases h))
  refine ⟨_, _, pre0 _ ?_, hrun, hended, _, _, rfl, ?_, ⟨_, rfl⟩, hW, hsame.mono (by exact Nat.le_of_ble_eq_true rfl) (by exact Nat.le_of_ble_eq_true rfl)⟩
  · show Steps p.tables e below (s₁.setTop (mkF m 0 #[.val (.int p0), .val (.int i1), .val (.int i2), .val (.long q1), .second, .val (.long q2), .second, .val (.long q3), .second, .unset, .unset, .unset, .unset, .unset, .unset, .unset, .unset, .unset, .unset, .unset, .unset, .unset, .unset, .unset, .unset, .unset] [])) _
    refine st1_ _ ?_
    refine st2_ _ ?_
    refine st3_ _ ?_
    refine st5_ _ ?_
    refine st6_ _ ?_
    refine st7_ _ ?_
    refine st8_ _ ?_
    refine st9_ _ ?_
    refine st10_ _ ?_
    refine st11_ _ ?_
    exact retN X11_ hx (t := .boolean) Bd.returns (by simp) (hb hby at_300) hr
  · show Q_rm0_2_0 Z p0 i1 i2 q1 q2 q3 w0 w1 w2 w3 w4 w5 h0 n0 _ T11_.heap _
    rw [e11_q]
    exact ⟨rfl, N11_⟩
theorem ef_rm0_2_1 (m : MethodId) (x0 : Int32) (x1 : Int32) (x2 : Int32) (x3 : Int64) (x4 : Int64) (x5 : Int64) : entryFrame m #[(.int x0), (.int x1), (.int x2), (.long x3), (.long x4), (.long x5)] maxLocals = mkF m 0 #[.val (.int x0), .val (.int x1), .val (.int x2), .val (.long x3), .second, .val (.long x4), .second, .val (.long x5), .second, .unset, .unset, .unset, .unset, .unset, .unset, .unset, .unset, .unset, .unset, .unset, .unset, .unset, .unset, .unset, .unset, .unset] [] := by first | (simp [entryFrame, mkF, argsToLocals, Value.category, maxLocals]; done) | rfl
def Q_rm0_2_1 (Z : State) (p0 : Int32) (i1 : Int32) (i2 : Int32) (q1 : Int64) (q2 : Int64) (q3 : Int64) (w0 : Int32) (w1 : Int32) (w2 : Int32) (w3 : Int32) (w4 : Int32) (w5 : Int32) (h0 : Heap) (n0 : Nat) (v : Option Value) (h : Heap) (L : List Loc) : Prop := v = some (.int (1 : Int32)) ∧ Fr n0 L
set_option maxRecDepth 65536 in
set_option maxHeartbeats 40000000 in
theorem rm0_2_1 (l : Launch) (Z : State) (a0 : Array Value) (hw : ∀ d ∈ tables_1, d.before a0 Z = true) (ws : List Jvm.Cond) (p0 : Int32) (i1 : Int32) (i2 : Int32) (q1 : Int64) (q2 : Int64) (q3 : Int64) (w0 : Int32) (w1 : Int32) (w2 : Int32) (w3 : Int32) (w4 : Int32) (w5 : Int32) (h0 : Heap) (n0 : Nat) (Z0 : n0 ≤ h0.size) (hn : ((1 : Int32) + (p0 &&& (3 : Int32))) = (2 : Int32)) (hk : (own_minI (((p0.toUInt32 >>> ((2 : Int32) &&& 31).toUInt32).toInt32) &&& (7 : Int32)) (6 : Int32)) = (1 : Int32)) (hw0 : (q1.toInt32) = w0) (hw1 : (((q1.toUInt64 >>> ((32 : Int32) &&& 0x3f).toInt64.toUInt64).toInt64).toInt32) = w1) (hw2 : (q2.toInt32) = w2) (hw3 : (((q2.toUInt64 >>> ((32 : Int32) &&& 0x3f).toInt64.toUInt64).toInt64).toInt32) = w3) (hw4 : (q3.toInt32) = w4) (hw5 : (((q3.toUInt64 >>> ((32 : Int32) &&& 0x3f).toInt64.toUInt64).toInt64).toInt32) = w5) :
    MetFree l x (head1 (Jvm.Cond.code x code maxLocals ret :: ws) room_1) (fun a U => a = #[(.int p0), (.int i1), (.int i2), (.long q1), (.long q2), (.long q3)] ∧ Z.Warmed39 U.vm ∧ U.heap = h0) (fun _ _ _ _ _ => True) (fun _ U o U' => ∃ v L, o = .returned v ∧ Q_rm0_2_1 Z p0 i1 i2 q1 q2 q3 w0 w1 w2 w3 w4 w5 h0 n0 v U'.heap L ∧ FrameEnd U o U' L room_1.cells room_1.slots) := by
  refine MetFree.of_bodySF (plainFor_of_name pn_com_example_whipstill_whipstill_MovingWindowMeanAbovePinLaw) hisR ?_
  intro p e s m args below meth c s₁ Bd hml0 hP hK
  obtain ⟨rfl, hZ, hh⟩ := hP
  have hx := Bd.exec
  have hby := Bd.bytes
  have hml : c.maxLocals = 26 := hml0
  have hown : s.vm.findClass "com/example/whipstill/whipstill/MovingWindowMeanAbovePinLaw" = some m.cls := findClass_of_methodNamed Bd.named
  have hnm := (name_of_methodNamed Bd.named Bd.method).1
  have X0 : Stand p l e room_1 s m #[(.int p0), (.int i1), (.int i2), (.long q1), (.long q2), (.long q3)] below meth c s₁ [] 0 0 := Stand.of_body Bd
  have e0 : s₁.heap = h0 := by rw [← hh, Bd.state]; rfl
  have N0 := Fr.nil n0
  have pre0 : ∀ t, Steps p.tables e below (s₁.setTop (mkF m 0 #[.val (.int p0), .val (.int i1), .val (.int i2), .val (.long q1), .second, .val (.long q2), .second, .val (.long q3), .second, .unset, .unset, .unset, .unset, .unset, .unset, .unset, .unset, .unset, .unset, .unset, .unset, .unset, .unset, .unset, .unset, .unset] [])) t → Steps p.tables e below (s₁.setTop (entryFrame m #[(.int p0), (.int i1), (.int i2), (.long q1), (.long q2), (.long q3)] maxLocals)) t := fun t k => castTop (ef_rm0_2_1 m p0 i1 i2 q1 q2 q3) k
  obtain ⟨T1_, h1_, L1_, X1_, e1_, N1_, K1_, st1_⟩ := pcA Z a0 hw X0 hx hZ hby hml hown p0 i1 i2 q1 q2 q3 (2 : Int32) (1 : Int32) w0 w1 w2 w3 w4 w5 h0 n0 Z0 e0 N0 (by decide) (by decide) (by exact Nat.le_of_ble_eq_true rfl) (by exact Nat.le_of_ble_eq_true rfl) hn hk hw0 hw1 hw2 hw3 hw4 hw5
  have e1_q := e1_.trans K1_
  obtain ⟨T2_, h2_, L2_, mo_2_, ta_2_, kc_2_, X2_, e2_, N2_, K2_, p2_0, p2_1, p2_2, p2_3, p2_4, p2_5, st2_⟩ := pcI2 Z a0 hw X1_ hx hZ hby hml hown (.val (.int p0)) i1 i2 (.val (.long q1)) (.second) (.val (.long q2)) (.second) (.val (.long q3)) (.second) (1 : Int32) w0 w1 w2 w3 w4 w5 h0 n0 Z0 e1_q N1_ (by decide) (by decide) (by exact Nat.le_of_ble_eq_true rfl) (by exact Nat.le_of_ble_eq_true rfl) 
  have z4_ : n0 ≤ h2_.size := Nat.le_trans Z0 K2_.1
  obtain ⟨T3_, h3_, L3_, X3_, e3_, N3_, K3_, p3_0, p3_1, p3_2, p3_3, st3_⟩ := pcT2_0 Z a0 hw X2_ hx hZ hby hml hown (.val (.int p0)) i1 i2 (.val (.long q1)) (.second) (.val (.long q2)) (.second) (.val (.long q3)) (.second) (1 : Int32) w0 w1 w2 w3 w4 w5 mo_2_ ta_2_ kc_2_ (i1.toInt64) (i1.toInt64) h2_ n0 z4_ e2_ N2_ (by decide) (by decide) (by exact Nat.le_of_ble_eq_true rfl) (by exact Nat.le_of_ble_eq_true rfl) (by decide) p2_2 p2_3 p2_4 p2_5 p2_0 p2_1
  have z6_ : n0 ≤ h3_.size := Nat.le_trans z4_ K3_.1
  obtain ⟨T5_, h5_, L5_, X5_, e5_, N5_, K5_, st5_⟩ := pcS1 Z a0 hw X3_ hx hZ hby hml hown (.val (.int p0)) i1 i2 (.val (.long q1)) (.second) (.val (.long q2)) (.second) (.val (.long q3)) (.second) (2 : Int32) (1 : Int32) w0 w1 w2 w3 w4 w5 mo_2_ h3_ n0 z6_ e3_ N3_ (by decide) (by decide) (by exact Nat.le_of_ble_eq_true rfl) (by exact Nat.le_of_ble_eq_true rfl) (by decide)
  have e5_q := e5_.trans K5_
  obtain ⟨T7_, h7_, L7_, X7_, e7_, N7_, K7_, st7_⟩ := pcS2 Z a0 hw X5_ hx hZ hby hml hown (.val (.int p0)) i1 i2 (.val (.long q1)) (.second) (.val (.long q2)) (.second) (.val (.long q3)) (.second) (2 : Int32) (1 : Int32) w0 w1 w2 w3 w4 w5 mo_2_ h3_ n0 z6_ e5_q N5_ (by decide) (by decide) (by exact Nat.le_of_ble_eq_true rfl) (by exact Nat.le_of_ble_eq_true rfl) (by decide)
  have e7_q := e7_.trans K7_
  obtain ⟨T8_, h8_, L8_, X8_, e8_, N8_, K8_, st8_⟩ := pcS3 Z a0 hw X7_ hx hZ hby hml hown (.val (.int p0)) i1 i2 (.val (.long q1)) (.second) (.val (.long q2)) (.second) (.val (.long q3)) (.second) (2 : Int32) (1 : Int32) w0 w1 w2 w3 w4 w5 mo_2_ h3_ n0 z6_ e7_q N7_ (by decide) (by decide) (by exact Nat.le_of_ble_eq_true rfl) (by exact Nat.le_of_ble_eq_true rfl) (by decide)
  have e8_q := e8_.trans K8_
  obtain ⟨T9_, h9_, L9_, X9_, e9_, N9_, K9_, st9_⟩ := pcS4 Z a0 hw X8_ hx hZ hby hml hown (.val (.int p0)) i1 i2 (.val (.long q1)) (.second) (.val (.long q2)) (.second) (.val (.long q3)) (.second) (2 : Int32) (1 : Int32) w0 w1 w2 w3 w4 w5 mo_2_ h3_ n0 z6_ e8_q N8_ (by decide) (by decide) (by exact Nat.le_of_ble_eq_true rfl) (by exact Nat.le_of_ble_eq_true rfl) (by decide)
  have e9_q := e9_.trans K9_
  obtain ⟨T10_, h10_, L10_, X10_, e10_, N10_, K10_, st10_⟩ := pcS5 Z a0 hw X9_ hx hZ hby hml hown (.val (.int p0)) i1 i2 (.val (.long q1)) (.second) (.val (.long q2)) (.second) (.val (.long q3)) (.second) (2 : Int32) (1 : Int32) w0 w1 w2 w3 w4 w5 mo_2_ h3_ n0 z6_ e9_q N9_ (by decide) (by decide) (by exact Nat.le_of_ble_eq_true rfl) (by exact Nat.le_of_ble_eq_true rfl) (by decide)
  have e10_q := e10_.trans K10_
  obtain ⟨T11_, h11_, L11_, X11_, e11_, N11_, K11_, st11_⟩ := pcM2 Z a0 hw X10_ hx hZ hby hml hown (.val (.int p0)) i1 i2 (.val (.long q1)) (.second) (.val (.long q2)) (.second) (.val (.long q3)) (.second) (1 : Int32) w0 w1 w2 w3 w4 w5 mo_2_ ta_2_ kc_2_ (w0.toInt64) (i1.toInt64) h3_ n0 z6_ e10_q N10_ (by decide) (by decide) (by exact Nat.le_of_ble_eq_true rfl) (by exact Nat.le_of_ble_eq_true rfl) p3_0 p3_1 p3_3 (own_R.i2l w0) (own_R.i2l i1)
  have e11_q := e11_.trans K11_
  have hAB : (((0 : Int64) + ((w0.toInt64) - (i2.toInt64))) + ((i1.toInt64) - (i2.toInt64))) = ((((((((((own_maxI (0 : Int32) ((2 : Int32) - (1 : Int32))).toInt64) * (i1.toInt64)) + (own_held (0 : Int32) (1 : Int32) (2 : Int32) w0)) + (own_held (1 : Int32) (1 : Int32) (2 : Int32) w1)) + (own_held (2 : Int32) (1 : Int32) (2 : Int32) w2)) + (own_held (3 : Int32) (1 : Int32) (2 : Int32) w3)) + (own_held (4 : Int32) (1 : Int32) (2 : Int32) w4)) + (own_held (5 : Int32) (1 : Int32) (2 : Int32) w5)) - (((2 : Int32).toInt64) * (i2.toInt64))) := by
    rw [show own_maxI (0 : Int32) ((2 : Int32) - (1 : Int32)) = (1 : Int32) from rfl, show own_held (0 : Int32) (1 : Int32) (2 : Int32) w0 = w0.toInt64 from rfl, show own_held (1 : Int32) (1 : Int32) (2 : Int32) w1 = 0 from rfl, show own_held (2 : Int32) (1 : Int32) (2 : Int32) w2 = 0 from rfl, show own_held (3 : Int32) (1 : Int32) (2 : Int32) w3 = 0 from rfl, show own_held (4 : Int32) (1 : Int32) (2 : Int32) w4 = 0 from rfl, show own_held (5 : Int32) (1 : Int32) (2 : Int32) w5 = 0 from rfl, show (1 : Int32).toInt64 = 1 from rfl, show (2 : Int32).toInt64 = 2 from rfl]
    generalize i1.toInt64 = x1, i2.toInt64 = x2, w0.toInt64 = x3, w1.toInt64 = x4, w2.toInt64 = x5, w3.toInt64 = x6, w4.toInt64 = x7, w5.toInt64 = x8
    grind
  obtain ⟨T12_, h12_, L12_, X12_, e12_, N12_, K12_, st12_⟩ := pcB Z a0 hw X11_ hx hZ hby hml hown (.val (.int p0)) i1 i2 (.val (.long q1)) (.second) (.val (.long q2)) (.second) (.val (.long q3)) (.second) (2 : Int32) (1 : Int32) w0 w1 w2 w3 w4 w5 mo_2_ (FP.ddiv (FP.l2d (((0 : Int64) + ((w0.toInt64) - (i2.toInt64))) + ((i1.toInt64) - (i2.toInt64)))) (FP.i2d (2 : Int32))) h3_ n0 z6_ e11_q N11_ (by decide) (by decide) (by exact Nat.le_of_ble_eq_true rfl) (by exact Nat.le_of_ble_eq_true rfl) (by decide) (dcmpV_eq (congrArg (fun z => FP.ddiv (FP.l2d z) (FP.i2d (2 : Int32))) hAB) (own_ddiv _ _ (by decide)) .l)
  have e12_q := e12_.trans K12_
  obtain ⟨fs, hr, hrun, hended, hW, hsame⟩ := X12_.leave (v := some (.int (1 : Int32))) (fun h => by first | rfl | (rw [Bd.returns] at h; cases h))
  refine ⟨_, _, pre0 _ ?_, hrun, hended, _, _, rfl, ?_, ⟨_, rfl⟩, hW, hsame.mono (by exact Nat.le_of_ble_eq_true rfl) (by exact Nat.le_of_ble_eq_true rfl)⟩
  · show Steps p.tables e below (s₁.setTop (mkF m 0 #[.val (.int p0), .val (.int i1), .val (.int i2), .val (.long q1), .second, .val (.long q2), .second, .val (.long q3), .second, .unset, .unset, .unset, .unset, .unset, .unset, .unset, .unset, .unset, .unset, .unset, .unset, .unset, .unset, .unset, .unset, .unset] [])) _
    refine st1_ _ ?_
    refine st2_ _ ?_
    refine st3_ _ ?_
    refine st5_ _ ?_
    refine st7_ _ ?_
    refine st8_ _ ?_
    refine st9_ _ ?_
    refine st10_ _ ?_
    refine st11_ _ ?_
    refine st12_ _ ?_
    exact retN X12_ hx (t := .boolean) Bd.returns (by simp) (hb hby at_300) hr
  · show Q_rm0_2_1 Z p0 i1 i2 q1 q2 q3 w0 w1 w2 w3 w4 w5 h0 n0 _ T12_.heap _
    rw [e12_q]
    exact ⟨rfl, N12_⟩
theorem ef_rm0_2_2 (m : MethodId) (x0 : Int32) (x1 : Int32) (x2 : Int32) (x3 : Int64) (x4 : Int64) (x5 : Int64) : entryFrame m #[(.int x0), (.int x1), (.int x2), (.long x3), (.long x4), (.long x5)] maxLocals = mkF m 0 #[.val (.int x0), .val (.int x1), .val (.int x2), .val (.long x3), .second, .val (.long x4), .second, .val (.long x5), .second, .unset, .unset, .unset, .unset, .unset, .unset, .unset, .unset, .unset, .unset, .unset, .unset, .unset, .unset, .unset, .unset, .unset] [] := by first | (simp [entryFrame, mkF, argsToLocals, Value.category, maxLocals]; done) | rfl
def Q_rm0_2_2 (Z : State) (p0 : Int32) (i1 : Int32) (i2 : Int32) (q1 : Int64) (q2 : Int64) (q3 : Int64) (w0 : Int32) (w1 : Int32) (w2 : Int32) (w3 : Int32) (w4 : Int32) (w5 : Int32) (h0 : Heap) (n0 : Nat) (v : Option Value) (h : Heap) (L : List Loc) : Prop := v = some (.int (1 : Int32)) ∧ Fr n0 L
set_option maxRecDepth 65536 in
set_option maxHeartbeats 40000000 in
theorem rm0_2_2 (l : Launch) (Z : State) (a0 : Array Value) (hw : ∀ d ∈ tables_1, d.before a0 Z = true) (ws : List Jvm.Cond) (p0 : Int32) (i1 : Int32) (i2 : Int32) (q1 : Int64) (q2 : Int64) (q3 : Int64) (w0 : Int32) (w1 : Int32) (w2 : Int32) (w3 : Int32) (w4 : Int32) (w5 : Int32) (h0 : Heap) (n0 : Nat) (Z0 : n0 ≤ h0.size) (hn : ((1 : Int32) + (p0 &&& (3 : Int32))) = (2 : Int32)) (hk : (own_minI (((p0.toUInt32 >>> ((2 : Int32) &&& 31).toUInt32).toInt32) &&& (7 : Int32)) (6 : Int32)) = (2 : Int32)) (hw0 : (q1.toInt32) = w0) (hw1 : (((q1.toUInt64 >>> ((32 : Int32) &&& 0x3f).toInt64.toUInt64).toInt64).toInt32) = w1) (hw2 : (q2.toInt32) = w2) (hw3 : (((q2.toUInt64 >>> ((32 : Int32) &&& 0x3f).toInt64.toUInt64).toInt64).toInt32) = w3) (hw4 : (q3.toInt32) = w4) (hw5 : (((q3.toUInt64 >>> ((32 : Int32) &&& 0x3f).toInt64.toUInt64).toInt64).toInt32) = w5) :
    MetFree l x (head1 (Jvm.Cond.code x code maxLocals ret :: ws) room_1) (fun a U => a = #[(.int p0), (.int i1), (.int i2), (.long q1), (.long q2), (.long q3)] ∧ Z.Warmed39 U.vm ∧ U.heap = h0) (fun _ _ _ _ _ => True) (fun _ U o U' => ∃ v L, o = .returned v ∧ Q_rm0_2_2 Z p0 i1 i2 q1 q2 q3 w0 w1 w2 w3 w4 w5 h0 n0 v U'.heap L ∧ FrameEnd U o U' L room_1.cells room_1.slots) := by
  refine MetFree.of_bodySF (plainFor_of_name pn_com_example_whipstill_whipstill_MovingWindowMeanAbovePinLaw) hisR ?_
  intro p e s m args below meth c s₁ Bd hml0 hP hK
  obtain ⟨rfl, hZ, hh⟩ := hP
  have hx := Bd.exec
  have hby := Bd.bytes
  have hml : c.maxLocals = 26 := hml0
  have hown : s.vm.findClass "com/example/whipstill/whipstill/MovingWindowMeanAbovePinLaw" = some m.cls := findClass_of_methodNamed Bd.named
  have hnm := (name_of_methodNamed Bd.named Bd.method).1
  have X0 : Stand p l e room_1 s m #[(.int p0), (.int i1), (.int i2), (.long q1), (.long q2), (.long q3)] below meth c s₁ [] 0 0 := Stand.of_body Bd
  have e0 : s₁.heap = h0 := by rw [← hh, Bd.state]; rfl
  have N0 := Fr.nil n0
  have pre0 : ∀ t, Steps p.tables e below (s₁.setTop (mkF m 0 #[.val (.int p0), .val (.int i1), .val (.int i2), .val (.long q1), .second, .val (.long q2), .second, .val (.long q3), .second, .unset, .unset, .unset, .unset, .unset, .unset, .unset, .unset, .unset, .unset, .unset, .unset, .unset, .unset, .unset, .unset, .unset] [])) t → Steps p.tables e below (s₁.setTop (entryFrame m #[(.int p0), (.int i1), (.int i2), (.long q1), (.long q2), (.long q3)] maxLocals)) t := fun t k => castTop (ef_rm0_2_2 m p0 i1 i2 q1 q2 q3) k
  obtain ⟨T1_, h1_, L1_, X1_, e1_, N1_, K1_, st1_⟩ := pcA Z a0 hw X0 hx hZ hby hml hown p0 i1 i2 q1 q2 q3 (2 : Int32) (2 : Int32) w0 w1 w2 w3 w4 w5 h0 n0 Z0 e0 N0 (by decide) (by decide) (by exact Nat.le_of_ble_eq_true rfl) (by exact Nat.le_of_ble_eq_true rfl) hn hk hw0 hw1 hw2 hw3 hw4 hw5
  have e1_q := e1_.trans K1_
  obtain ⟨T2_, h2_, L2_, mo_2_, ta_2_, kc_2_, X2_, e2_, N2_, K2_, p2_0, p2_1, p2_2, p2_3, p2_4, p2_5, st2_⟩ := pcI2 Z a0 hw X1_ hx hZ hby hml hown (.val (.int p0)) i1 i2 (.val (.long q1)) (.second) (.val (.long q2)) (.second) (.val (.long q3)) (.second) (2 : Int32) w0 w1 w2 w3 w4 w5 h0 n0 Z0 e1_q N1_ (by decide) (by decide) (by exact Nat.le_of_ble_eq_true rfl) (by exact Nat.le_of_ble_eq_true rfl) 
  have z4_ : n0 ≤ h2_.size := Nat.le_trans Z0 K2_.1
  obtain ⟨T3_, h3_, L3_, X3_, e3_, N3_, K3_, p3_0, p3_1, p3_2, p3_3, st3_⟩ := pcT2_0 Z a0 hw X2_ hx hZ hby hml hown (.val (.int p0)) i1 i2 (.val (.long q1)) (.second) (.val (.long q2)) (.second) (.val (.long q3)) (.second) (2 : Int32) w0 w1 w2 w3 w4 w5 mo_2_ ta_2_ kc_2_ (i1.toInt64) (i1.toInt64) h2_ n0 z4_ e2_ N2_ (by decide) (by decide) (by exact Nat.le_of_ble_eq_true rfl) (by exact Nat.le_of_ble_eq_true rfl) (by decide) p2_2 p2_3 p2_4 p2_5 p2_0 p2_1
  have z6_ : n0 ≤ h3_.size := Nat.le_trans z4_ K3_.1
  obtain ⟨T5_, h5_, L5_, X5_, e5_, N5_, K5_, p5_0, p5_1, p5_2, p5_3, st5_⟩ := pcT2_1 Z a0 hw X3_ hx hZ hby hml hown (.val (.int p0)) i1 i2 (.val (.long q1)) (.second) (.val (.long q2)) (.second) (.val (.long q3)) (.second) (2 : Int32) w0 w1 w2 w3 w4 w5 mo_2_ ta_2_ kc_2_ (w0.toInt64) (i1.toInt64) h3_ n0 z6_ e3_ N3_ (by decide) (by decide) (by exact Nat.le_of_ble_eq_true rfl) (by exact Nat.le_of_ble_eq_true rfl) (by decide) p3_0 p3_1 p3_2 p3_3 p2_0 p2_1
  have z8_ : n0 ≤ h5_.size := Nat.le_trans z6_ K5_.1
  obtain ⟨T7_, h7_, L7_, X7_, e7_, N7_, K7_, st7_⟩ := pcS2 Z a0 hw X5_ hx hZ hby hml hown (.val (.int p0)) i1 i2 (.val (.long q1)) (.second) (.val (.long q2)) (.second) (.val (.long q3)) (.second) (2 : Int32) (2 : Int32) w0 w1 w2 w3 w4 w5 mo_2_ h5_ n0 z8_ e5_ N5_ (by decide) (by decide) (by exact Nat.le_of_ble_eq_true rfl) (by exact Nat.le_of_ble_eq_true rfl) (by decide)
  have e7_q := e7_.trans K7_
  obtain ⟨T9_, h9_, L9_, X9_, e9_, N9_, K9_, st9_⟩ := pcS3 Z a0 hw X7_ hx hZ hby hml hown (.val (.int p0)) i1 i2 (.val (.long q1)) (.second) (.val (.long q2)) (.second) (.val (.long q3)) (.second) (2 : Int32) (2 : Int32) w0 w1 w2 w3 w4 w5 mo_2_ h5_ n0 z8_ e7_q N7_ (by decide) (by decide) (by exact Nat.le_of_ble_eq_true rfl) (by exact Nat.le_of_ble_eq_true rfl) (by decide)
  have e9_q := e9_.trans K9_
  obtain ⟨T10_, h10_, L10_, X10_, e10_, N10_, K10_, st10_⟩ := pcS4 Z a0 hw X9_ hx hZ hby hml hown (.val (.int p0)) i1 i2 (.val (.long q1)) (.second) (.val (.long q2)) (.second) (.val (.long q3)) (.second) (2 : Int32) (2 : Int32) w0 w1 w2 w3 w4 w5 mo_2_ h5_ n0 z8_ e9_q N9_ (by decide) (by decide) (by exact Nat.le_of_ble_eq_true rfl) (by exact Nat.le_of_ble_eq_true rfl) (by decide)
  have e10_q := e10_.trans K10_
  obtain ⟨T11_, h11_, L11_, X11_, e11_, N11_, K11_, st11_⟩ := pcS5 Z a0 hw X10_ hx hZ hby hml hown (.val (.int p0)) i1 i2 (.val (.long q1)) (.second) (.val (.long q2)) (.second) (.val (.long q3)) (.second) (2 : Int32) (2 : Int32) w0 w1 w2 w3 w4 w5 mo_2_ h5_ n0 z8_ e10_q N10_ (by decide) (by decide) (by exact Nat.le_of_ble_eq_true rfl) (by exact Nat.le_of_ble_eq_true rfl) (by decide)
  have e11_q := e11_.trans K11_
  obtain ⟨T12_, h12_, L12_, X12_, e12_, N12_, K12_, st12_⟩ := pcM2 Z a0 hw X11_ hx hZ hby hml hown (.val (.int p0)) i1 i2 (.val (.long q1)) (.second) (.val (.long q2)) (.second) (.val (.long q3)) (.second) (2 : Int32) w0 w1 w2 w3 w4 w5 mo_2_ ta_2_ kc_2_ (w0.toInt64) (w1.toInt64) h5_ n0 z8_ e11_q N11_ (by decide) (by decide) (by exact Nat.le_of_ble_eq_true rfl) (by exact Nat.le_of_ble_eq_true rfl) p5_0 p5_1 p5_3 (own_R.i2l w0) (own_R.i2l w1)
  have e12_q := e12_.trans K12_
  have hAB : (((0 : Int64) + ((w0.toInt64) - (i2.toInt64))) + ((w1.toInt64) - (i2.toInt64))) = ((((((((((own_maxI (0 : Int32) ((2 : Int32) - (2 : Int32))).toInt64) * (i1.toInt64)) + (own_held (0 : Int32) (2 : Int32) (2 : Int32) w0)) + (own_held (1 : Int32) (2 : Int32) (2 : Int32) w1)) + (own_held (2 : Int32) (2 : Int32) (2 : Int32) w2)) + (own_held (3 : Int32) (2 : Int32) (2 : Int32) w3)) + (own_held (4 : Int32) (2 : Int32) (2 : Int32) w4)) + (own_held (5 : Int32) (2 : Int32) (2 : Int32) w5)) - (((2 : Int32).toInt64) * (i2.toInt64))) := by
    rw [show own_maxI (0 : Int32) ((2 : Int32) - (2 : Int32)) = (0 : Int32) from rfl, show own_held (0 : Int32) (2 : Int32) (2 : Int32) w0 = w0.toInt64 from rfl, show own_held (1 : Int32) (2 : Int32) (2 : Int32) w1 = w1.toInt64 from rfl, show own_held (2 : Int32) (2 : Int32) (2 : Int32) w2 = 0 from rfl, show own_held (3 : Int32) (2 : Int32) (2 : Int32) w3 = 0 from rfl, show own_held (4 : Int32) (2 : Int32) (2 : Int32) w4 = 0 from rfl, show own_held (5 : Int32) (2 : Int32) (2 : Int32) w5 = 0 from rfl, show (0 : Int32).toInt64 = 0 from rfl, show (2 : Int32).toInt64 = 2 from rfl]
    generalize i1.toInt64 = x1, i2.toInt64 = x2, w0.toInt64 = x3, w1.toInt64 = x4, w2.toInt64 = x5, w3.toInt64 = x6, w4.toInt64 = x7, w5.toInt64 = x8
    grind
  obtain ⟨T13_, h13_, L13_, X13_, e13_, N13_, K13_, st13_⟩ := pcB Z a0 hw X12_ hx hZ hby hml hown (.val (.int p0)) i1 i2 (.val (.long q1)) (.second) (.val (.long q2)) (.second) (.val (.long q3)) (.second) (2 : Int32) (2 : Int32) w0 w1 w2 w3 w4 w5 mo_2_ (FP.ddiv (FP.l2d (((0 : Int64) + ((w0.toInt64) - (i2.toInt64))) + ((w1.toInt64) - (i2.toInt64)))) (FP.i2d (2 : Int32))) h5_ n0 z8_ e12_q N12_ (by decide) (by decide) (by exact Nat.le_of_ble_eq_true rfl) (by exact Nat.le_of_ble_eq_true rfl) (by decide) (dcmpV_eq (congrArg (fun z => FP.ddiv (FP.l2d z) (FP.i2d (2 : Int32))) hAB) (own_ddiv _ _ (by decide)) .l)
  have e13_q := e13_.trans K13_
  obtain ⟨fs, hr, hrun, hended, hW, hsame⟩ := X13_.leave (v := some (.int (1 : Int32))) (fun h => by first | rfl | (rw [Bd.returns] at h; cases h))
  refine ⟨_, _, pre0 _ ?_, hrun, hended, _, _, rfl, ?_, ⟨_, rfl⟩, hW, hsame.mono (by exact Nat.le_of_ble_eq_true rfl) (by exact Nat.le_of_ble_eq_true rfl)⟩
  · show Steps p.tables e below (s₁.setTop (mkF m 0 #[.val (.int p0), .val (.int i1), .val (.int i2), .val (.long q1), .second, .val (.long q2), .second, .val (.long q3), .second, .unset, .unset, .unset, .unset, .unset, .unset, .unset, .unset, .unset, .unset, .unset, .unset, .unset, .unset, .unset, .unset, .unset] [])) _
    refine st1_ _ ?_
    refine st2_ _ ?_
    refine st3_ _ ?_
    refine st5_ _ ?_
    refine st7_ _ ?_
    refine st9_ _ ?_
    refine st10_ _ ?_
    refine st11_ _ ?_
    refine st12_ _ ?_
    refine st13_ _ ?_
    exact retN X13_ hx (t := .boolean) Bd.returns (by simp) (hb hby at_300) hr
  · show Q_rm0_2_2 Z p0 i1 i2 q1 q2 q3 w0 w1 w2 w3 w4 w5 h0 n0 _ T13_.heap _
    rw [e13_q]
    exact ⟨rfl, N13_⟩
theorem ef_rm0_2_3 (m : MethodId) (x0 : Int32) (x1 : Int32) (x2 : Int32) (x3 : Int64) (x4 : Int64) (x5 : Int64) : entryFrame m #[(.int x0), (.int x1), (.int x2), (.long x3), (.long x4), (.long x5)] maxLocals = mkF m 0 #[.val (.int x0), .val (.int x1), .val (.int x2), .val (.long x3), .second, .val (.long x4), .second, .val (.long x5), .second, .unset, .unset, .unset, .unset, .unset, .unset, .unset, .unset, .unset, .unset, .unset, .unset, .unset, .unset, .unset, .unset, .unset] [] := by first | (simp [entryFrame, mkF, argsToLocals, Value.category, maxLocals]; done) | rfl
def Q_rm0_2_3 (Z : State) (p0 : Int32) (i1 : Int32) (i2 : Int32) (q1 : Int64) (q2 : Int64) (q3 : Int64) (w0 : Int32) (w1 : Int32) (w2 : Int32) (w3 : Int32) (w4 : Int32) (w5 : Int32) (h0 : Heap) (n0 : Nat) (v : Option Value) (h : Heap) (L : List Loc) : Prop := v = some (.int (1 : Int32)) ∧ Fr n0 L
set_option maxRecDepth 65536 in
set_option maxHeartbeats 40000000 in
theorem rm0_2_3 (l : Launch) (Z : State) (a0 : Array Value) (hw : ∀ d ∈ tables_1, d.before a0 Z = true) (ws : List Jvm.Cond) (p0 : Int32) (i1 : Int32) (i2 : Int32) (q1 : Int64) (q2 : Int64) (q3 : Int64) (w0 : Int32) (w1 : Int32) (w2 : Int32) (w3 : Int32) (w4 : Int32) (w5 : Int32) (h0 : Heap) (n0 : Nat) (Z0 : n0 ≤ h0.size) (hn : ((1 : Int32) + (p0 &&& (3 : Int32))) = (2 : Int32)) (hk : (own_minI (((p0.toUInt32 >>> ((2 : Int32) &&& 31).toUInt32).toInt32) &&& (7 : Int32)) (6 : Int32)) = (3 : Int32)) (hw0 : (q1.toInt32) = w0) (hw1 : (((q1.toUInt64 >>> ((32 : Int32) &&& 0x3f).toInt64.toUInt64).toInt64).toInt32) = w1) (hw2 : (q2.toInt32) = w2) (hw3 : (((q2.toUInt64 >>> ((32 : Int32) &&& 0x3f).toInt64.toUInt64).toInt64).toInt32) = w3) (hw4 : (q3.toInt32) = w4) (hw5 : (((q3.toUInt64 >>> ((32 : Int32) &&& 0x3f).toInt64.toUInt64).toInt64).toInt32) = w5) :
    MetFree l x (head1 (Jvm.Cond.code x code maxLocals ret :: ws) room_1) (fun a U => a = #[(.int p0), (.int i1), (.int i2), (.long q1), (.long q2), (.long q3)] ∧ Z.Warmed39 U.vm ∧ U.heap = h0) (fun _ _ _ _ _ => True) (fun _ U o U' => ∃ v L, o = .returned v ∧ Q_rm0_2_3 Z p0 i1 i2 q1 q2 q3 w0 w1 w2 w3 w4 w5 h0 n0 v U'.heap L ∧ FrameEnd U o U' L room_1.cells room_1.slots) := by
  refine MetFree.of_bodySF (plainFor_of_name pn_com_example_whipstill_whipstill_MovingWindowMeanAbovePinLaw) hisR ?_
  intro p e s m args below meth c s₁ Bd hml0 hP hK
  obtain ⟨rfl, hZ, hh⟩ := hP
  have hx := Bd.exec
  have hby := Bd.bytes
  have hml : c.maxLocals = 26 := hml0
  have hown : s.vm.findClass "com/example/whipstill/whipstill/MovingWindowMeanAbovePinLaw" = some m.cls := findClass_of_methodNamed Bd.named
  have hnm := (name_of_methodNamed Bd.named Bd.method).1
  have X0 : Stand p l e room_1 s m #[(.int p0), (.int i1), (.int i2), (.long q1), (.long q2), (.long q3)] below meth c s₁ [] 0 0 := Stand.of_body Bd
  have e0 : s₁.heap = h0 := by rw [← hh, Bd.state]; rfl
  have N0 := Fr.nil n0
  have pre0 : ∀ t, Steps p.tables e below (s₁.setTop (mkF m 0 #[.val (.int p0), .val (.int i1), .val (.int i2), .val (.long q1), .second, .val (.long q2), .second, .val (.long q3), .second, .unset, .unset, .unset, .unset, .unset, .unset, .unset, .unset, .unset, .unset, .unset, .unset, .unset, .unset, .unset, .unset, .unset] [])) t → Steps p.tables e below (s₁.setTop (entryFrame m #[(.int p0), (.int i1), (.int i2), (.long q1), (.long q2), (.long q3)] maxLocals)) t := fun t k => castTop (ef_rm0_2_3 m p0 i1 i2 q1 q2 q3) k
  obtain ⟨T1_, h1_, L1_, X1_, e1_, N1_, K1_, st1_⟩ := pcA Z a0 hw X0 hx hZ hby hml hown p0 i1 i2 q1 q2 q3 (2 : Int32) (3 : Int32) w0 w1 w2 w3 w4 w5 h0 n0 Z0 e0 N0 (by decide) (by decide) (by exact Nat.le_of_ble_eq_true rfl) (by exact Nat.le_of_ble_eq_true rfl) hn hk hw0 hw1 hw2 hw3 hw4 hw5
  have e1_q := e1_.trans K1_
  obtain ⟨T2_, h2_, L2_, mo_2_, ta_2_, kc_2_, X2_, e2_, N2_, K2_, p2_0, p2_1, p2_2, p2_3, p2_4, p2_5, st2_⟩ := pcI2 Z a0 hw X1_ hx hZ hby hml hown (.val (.int p0)) i1 i2 (.val (.long q1)) (.second) (.val (.long q2)) (.second) (.val (.long q3)) (.second) (3 : Int32) w0 w1 w2 w3 w4 w5 h0 n0 Z0 e1_q N1_ (by decide) (by decide) (by exact Nat.le_of_ble_eq_true rfl) (by exact Nat.le_of_ble_eq_true rfl) 
  have z4_ : n0 ≤ h2_.size := Nat.le_trans Z0 K2_.1
  obtain ⟨T3_, h3_, L3_, X3_, e3_, N3_, K3_, p3_0, p3_1, p3_2, p3_3, st3_⟩ := pcT2_0 Z a0 hw X2_ hx hZ hby hml hown (.val (.int p0)) i1 i2 (.val (.long q1)) (.second) (.val (.long q2)) (.second) (.val (.long q3)) (.second) (3 : Int32) w0 w1 w2 w3 w4 w5 mo_2_ ta_2_ kc_2_ (i1.toInt64) (i1.toInt64) h2_ n0 z4_ e2_ N2_ (by decide) (by decide) (by exact Nat.le_of_ble_eq_true rfl) (by exact Nat.le_of_ble_eq_true rfl) (by decide) p2_2 p2_3 p2_4 p2_5 p2_0 p2_1
  have z6_ : n0 ≤ h3_.size := Nat.le_trans z4_ K3_.1
  obtain ⟨T5_, h5_, L5_, X5_, e5_, N5_, K5_, p5_0, p5_1, p5_2, p5_3, st5_⟩ := pcT2_1 Z a0 hw X3_ hx hZ hby hml hown (.val (.int p0)) i1 i2 (.val (.long q1)) (.second) (.val (.long q2)) (.second) (.val (.long q3)) (.second) (3 : Int32) w0 w1 w2 w3 w4 w5 mo_2_ ta_2_ kc_2_ (w0.toInt64) (i1.toInt64) h3_ n0 z6_ e3_ N3_ (by decide) (by decide) (by exact Nat.le_of_ble_eq_true rfl) (by exact Nat.le_of_ble_eq_true rfl) (by decide) p3_0 p3_1 p3_2 p3_3 p2_0 p2_1
  have z8_ : n0 ≤ h5_.size := Nat.le_trans z6_ K5_.1
  obtain ⟨T7_, h7_, L7_, X7_, e7_, N7_, K7_, p7_0, p7_1, p7_2, p7_3, st7_⟩ := pcT2_2 Z a0 hw X5_ hx hZ hby hml hown (.val (.int p0)) i1 i2 (.val (.long q1)) (.second) (.val (.long q2)) (.second) (.val (.long q3)) (.second) (3 : Int32) w0 w1 w2 w3 w4 w5 mo_2_ ta_2_ kc_2_ (w0.toInt64) (w1.toInt64) h5_ n0 z8_ e5_ N5_ (by decide) (by decide) (by exact Nat.le_of_ble_eq_true rfl) (by exact Nat.le_of_ble_eq_true rfl) (by decide) p5_0 p5_1 p5_2 p5_3 p2_0 p2_1
  have z10_ : n0 ≤ h7_.size := Nat.le_trans z8_ K7_.1
  obtain ⟨T9_, h9_, L9_, X9_, e9_, N9_, K9_, st9_⟩ := pcS3 Z a0 hw X7_ hx hZ hby hml hown (.val (.int p0)) i1 i2 (.val (.long q1)) (.second) (.val (.long q2)) (.second) (.val (.long q3)) (.second) (2 : Int32) (3 : Int32) w0 w1 w2 w3 w4 w5 mo_2_ h7_ n0 z10_ e7_ N7_ (by decide) (by decide) (by exact Nat.le_of_ble_eq_true rfl) (by exact Nat.le_of_ble_eq_true rfl) (by decide)
  have e9_q := e9_.trans K9_
  obtain ⟨T11_, h11_, L11_, X11_, e11_, N11_, K11_, st11_⟩ := pcS4 Z a0 hw X9_ hx hZ hby hml hown (.val (.int p0)) i1 i2 (.val (.long q1)) (.second) (.val (.long q2)) (.second) (.val (.long q3)) (.second) (2 : Int32) (3 : Int32) w0 w1 w2 w3 w4 w5 mo_2_ h7_ n0 z10_ e9_q N9_ (by decide) (by decide) (by exact Nat.le_of_ble_eq_true rfl) (by exact Nat.le_of_ble_eq_true rfl) (by decide)
  have e11_q := e11_.trans K11_
  obtain ⟨T12_, h12_, L12_, X12_, e12_, N12_, K12_, st12_⟩ := pcS5 Z a0 hw X11_ hx hZ hby hml hown (.val (.int p0)) i1 i2 (.val (.long q1)) (.second) (.val (.long q2)) (.second) (.val (.long q3)) (.second) (2 : Int32) (3 : Int32) w0 w1 w2 w3 w4 w5 mo_2_ h7_ n0 z10_ e11_q N11_ (by decide) (by decide) (by exact Nat.le_of_ble_eq_true rfl) (by exact Nat.le_of_ble_eq_true rfl) (by decide)
  have e12_q := e12_.trans K12_
  obtain ⟨T13_, h13_, L13_, X13_, e13_, N13_, K13_, st13_⟩ := pcM2 Z a0 hw X12_ hx hZ hby hml hown (.val (.int p0)) i1 i2 (.val (.long q1)) (.second) (.val (.long q2)) (.second) (.val (.long q3)) (.second) (3 : Int32) w0 w1 w2 w3 w4 w5 mo_2_ ta_2_ kc_2_ (w2.toInt64) (w1.toInt64) h7_ n0 z10_ e12_q N12_ (by decide) (by decide) (by exact Nat.le_of_ble_eq_true rfl) (by exact Nat.le_of_ble_eq_true rfl) p7_0 p7_1 p7_3 (own_R.i2l w2) (own_R.i2l w1)
  have e13_q := e13_.trans K13_
  have hAB : (((0 : Int64) + ((w2.toInt64) - (i2.toInt64))) + ((w1.toInt64) - (i2.toInt64))) = ((((((((((own_maxI (0 : Int32) ((2 : Int32) - (3 : Int32))).toInt64) * (i1.toInt64)) + (own_held (0 : Int32) (3 : Int32) (2 : Int32) w0)) + (own_held (1 : Int32) (3 : Int32) (2 : Int32) w1)) + (own_held (2 : Int32) (3 : Int32) (2 : Int32) w2)) + (own_held (3 : Int32) (3 : Int32) (2 : Int32) w3)) + (own_held (4 : Int32) (3 : Int32) (2 : Int32) w4)) + (own_held (5 : Int32) (3 : Int32) (2 : Int32) w5)) - (((2 : Int32).toInt64) * (i2.toInt64))) := by
    rw [show own_maxI (0 : Int32) ((2 : Int32) - (3 : Int32)) = (0 : Int32) from rfl, show own_held (0 : Int32) (3 : Int32) (2 : Int32) w0 = 0 from rfl, show own_held (1 : Int32) (3 : Int32) (2 : Int32) w1 = w1.toInt64 from rfl, show own_held (2 : Int32) (3 : Int32) (2 : Int32) w2 = w2.toInt64 from rfl, show own_held (3 : Int32) (3 : Int32) (2 : Int32) w3 = 0 from rfl, show own_held (4 : Int32) (3 : Int32) (2 : Int32) w4 = 0 from rfl, show own_held (5 : Int32) (3 : Int32) (2 : Int32) w5 = 0 from rfl, show (0 : Int32).toInt64 = 0 from rfl, show (2 : Int32).toInt64 = 2 from rfl]
    generalize i1.toInt64 = x1, i2.toInt64 = x2, w0.toInt64 = x3, w1.toInt64 = x4, w2.toInt64 = x5, w3.toInt64 = x6, w4.toInt64 = x7, w5.toInt64 = x8
    grind
  obtain ⟨T14_, h14_, L14_, X14_, e14_, N14_, K14_, st14_⟩ := pcB Z a0 hw X13_ hx hZ hby hml hown (.val (.int p0)) i1 i2 (.val (.long q1)) (.second) (.val (.long q2)) (.second) (.val (.long q3)) (.second) (2 : Int32) (3 : Int32) w0 w1 w2 w3 w4 w5 mo_2_ (FP.ddiv (FP.l2d (((0 : Int64) + ((w2.toInt64) - (i2.toInt64))) + ((w1.toInt64) - (i2.toInt64)))) (FP.i2d (2 : Int32))) h7_ n0 z10_ e13_q N13_ (by decide) (by decide) (by exact Nat.le_of_ble_eq_true rfl) (by exact Nat.le_of_ble_eq_true rfl) (by decide) (dcmpV_eq (congrArg (fun z => FP.ddiv (FP.l2d z) (FP.i2d (2 : Int32))) hAB) (own_ddiv _ _ (by decide)) .l)
  have e14_q := e14_.trans K14_
  obtain ⟨fs, hr, hrun, hended, hW, hsame⟩ := X14_.leave (v := some (.int (1 : Int32))) (fun h => by first | rfl | (rw [Bd.returns] at h; cases h))
  refine ⟨_, _, pre0 _ ?_, hrun, hended, _, _, rfl, ?_, ⟨_, rfl⟩, hW, hsame.mono (by exact Nat.le_of_ble_eq_true rfl) (by exact Nat.le_of_ble_eq_true rfl)⟩
  · show Steps p.tables e below (s₁.setTop (mkF m 0 #[.val (.int p0), .val (.int i1), .val (.int i2), .val (.long q1), .second, .val (.long q2), .second, .val (.long q3), .second, .unset, .unset, .unset, .unset, .unset, .unset, .unset, .unset, .unset, .unset, .unset, .unset, .unset, .unset, .unset, .unset, .unset] [])) _
    refine st1_ _ ?_
    refine st2_ _ ?_
    refine st3_ _ ?_
    refine st5_ _ ?_
    refine st7_ _ ?_
    refine st9_ _ ?_
    refine st11_ _ ?_
    refine st12_ _ ?_
    refine st13_ _ ?_
    refine st14_ _ ?_
    exact retN X14_ hx (t := .boolean) Bd.returns (by simp) (hb hby at_300) hr
  · show Q_rm0_2_3 Z p0 i1 i2 q1 q2 q3 w0 w1 w2 w3 w4 w5 h0 n0 _ T14_.heap _
    rw [e14_q]
    exact ⟨rfl, N14_⟩
theorem ef_rm0_2_4 (m : MethodId) (x0 : Int32) (x1 : Int32) (x2 : Int32) (x3 : Int64) (x4 : Int64) (x5 : Int64) : entryFrame m #[(.int x0), (.int x1), (.int x2), (.long x3), (.long x4), (.long x5)] maxLocals = mkF m 0 #[.val (.int x0), .val (.int x1), .val (.int x2), .val (.long x3), .second, .val (.long x4), .second, .val (.long x5), .second, .unset, .unset, .unset, .unset, .unset, .unset, .unset, .unset, .unset, .unset, .unset, .unset, .unset, .unset, .unset, .unset, .unset] [] := by first | (simp [entryFrame, mkF, argsToLocals, Value.category, maxLocals]; done) | rfl
def Q_rm0_2_4 (Z : State) (p0 : Int32) (i1 : Int32) (i2 : Int32) (q1 : Int64) (q2 : Int64) (q3 : Int64) (w0 : Int32) (w1 : Int32) (w2 : Int32) (w3 : Int32) (w4 : Int32) (w5 : Int32) (h0 : Heap) (n0 : Nat) (v : Option Value) (h : Heap) (L : List Loc) : Prop := v = some (.int (1 : Int32)) ∧ Fr n0 L
set_option maxRecDepth 65536 in
set_option maxHeartbeats 40000000 in
theorem rm0_2_4 (l : Launch) (Z : State) (a0 : Array Value) (hw : ∀ d ∈ tables_1, d.before a0 Z = true) (ws : List Jvm.Cond) (p0 : Int32) (i1 : Int32) (i2 : Int32) (q1 : Int64) (q2 : Int64) (q3 : Int64) (w0 : Int32) (w1 : Int32) (w2 : Int32) (w3 : Int32) (w4 : Int32) (w5 : Int32) (h0 : Heap) (n0 : Nat) (Z0 : n0 ≤ h0.size) (hn : ((1 : Int32) + (p0 &&& (3 : Int32))) = (2 : Int32)) (hk : (own_minI (((p0.toUInt32 >>> ((2 : Int32) &&& 31).toUInt32).toInt32) &&& (7 : Int32)) (6 : Int32)) = (4 : Int32)) (hw0 : (q1.toInt32) = w0) (hw1 : (((q1.toUInt64 >>> ((32 : Int32) &&& 0x3f).toInt64.toUInt64).toInt64).toInt32) = w1) (hw2 : (q2.toInt32) = w2) (hw3 : (((q2.toUInt64 >>> ((32 : Int32) &&& 0x3f).toInt64.toUInt64).toInt64).toInt32) = w3) (hw4 : (q3.toInt32) = w4) (hw5 : (((q3.toUInt64 >>> ((32 : Int32) &&& 0x3f).toInt64.toUInt64).toInt64).toInt32) = w5) :
    MetFree l x (head1 (Jvm.Cond.code x code maxLocals ret :: ws) room_1) (fun a U => a = #[(.int p0), (.int i1), (.int i2), (.long q1), (.long q2), (.long q3)] ∧ Z.Warmed39 U.vm ∧ U.heap = h0) (fun _ _ _ _ _ => True) (fun _ U o U' => ∃ v L, o = .returned v ∧ Q_rm0_2_4 Z p0 i1 i2 q1 q2 q3 w0 w1 w2 w3 w4 w5 h0 n0 v U'.heap L ∧ FrameEnd U o U' L room_1.cells room_1.slots) := by
  refine MetFree.of_bodySF (plainFor_of_name pn_com_example_whipstill_whipstill_MovingWindowMeanAbovePinLaw) hisR ?_
  intro p e s m args below meth c s₁ Bd hml0 hP hK
  obtain ⟨rfl, hZ, hh⟩ := hP
  have hx := Bd.exec
  have hby := Bd.bytes
  have hml : c.maxLocals = 26 := hml0
  have hown : s.vm.findClass "com/example/whipstill/whipstill/MovingWindowMeanAbovePinLaw" = some m.cls := findClass_of_methodNamed Bd.named
  have hnm := (name_of_methodNamed Bd.named Bd.method).1
  have X0 : Stand p l e room_1 s m #[(.int p0), (.int i1), (.int i2), (.long q1), (.long q2), (.long q3)] below meth c s₁ [] 0 0 := Stand.of_body Bd
  have e0 : s₁.heap = h0 := by rw [← hh, Bd.state]; rfl
  have N0 := Fr.nil n0
  have pre0 : ∀ t, Steps p.tables e below (s₁.setTop (mkF m 0 #[.val (.int p0), .val (.int i1), .val (.int i2), .val (.long q1), .second, .val (.long q2), .second, .val (.long q3), .second, .unset, .unset, .unset, .unset, .unset, .unset, .unset, .unset, .unset, .unset, .unset, .unset, .unset, .unset, .unset, .unset, .unset] [])) t → Steps p.tables e below (s₁.setTop (entryFrame m #[(.int p0), (.int i1), (.int i2), (.long q1), (.long q2), (.long q3)] maxLocals)) t := fun t k => castTop (ef_rm0_2_4 m p0 i1 i2 q1 q2 q3) k
  obtain ⟨T1_, h1_, L1_, X1_, e1_, N1_, K1_, st1_⟩ := pcA Z a0 hw X0 hx hZ hby hml hown p0 i1 i2 q1 q2 q3 (2 : Int32) (4 : Int32) w0 w1 w2 w3 w4 w5 h0 n0 Z0 e0 N0 (by decide) (by decide) (by exact Nat.le_of_ble_eq_true rfl) (by exact Nat.le_of_ble_eq_true rfl) hn hk hw0 hw1 hw2 hw3 hw4 hw5
  have e1_q := e1_.trans K1_
  obtain ⟨T2_, h2_, L2_, mo_2_, ta_2_, kc_2_, X2_, e2_, N2_, K2_, p2_0, p2_1, p2_2, p2_3, p2_4, p2_5, st2_⟩ := pcI2 Z a0 hw X1_ hx hZ hby hml hown (.val (.int p0)) i1 i2 (.val (.long q1)) (.second) (.val (.long q2)) (.second) (.val (.long q3)) (.second) (4 : Int32) w0 w1 w2 w3 w4 w5 h0 n0 Z0 e1_q N1_ (by decide) (by decide) (by exact Nat.le_of_ble_eq_true rfl) (by exact Nat.le_of_ble_eq_true rfl) 
  have z4_ : n0 ≤ h2_.size := Nat.le_trans Z0 K2_.1
  obtain ⟨T3_, h3_, L3_, X3_, e3_, N3_, K3_, p3_0, p3_1, p3_2, p3_3, st3_⟩ := pcT2_0 Z a0 hw X2_ hx hZ hby hml hown (.val (.int p0)) i1 i2 (.val (.long q1)) (.second) (.val (.long q2)) (.second) (.val (.long q3)) (.second) (4 : Int32) w0 w1 w2 w3 w4 w5 mo_2_ ta_2_ kc_2_ (i1.toInt64) (i1.toInt64) h2_ n0 z4_ e2_ N2_ (by decide) (by decide) (by exact Nat.le_of_ble_eq_true rfl) (by exact Nat.le_of_ble_eq_true rfl) (by decide) p2_2 p2_3 p2_4 p2_5 p2_0 p2_1
  have z6_ : n0 ≤ h3_.size := Nat.le_trans z4_ K3_.1
  obtain ⟨T5_, h5_, L5_, X5_, e5_, N5_, K5_, p5_0, p5_1, p5_2, p5_3, st5_⟩ := pcT2_1 Z a0 hw X3_ hx hZ hby hml hown (.val (.int p0)) i1 i2 (.val (.long q1)) (.second) (.val (.long q2)) (.second) (.val (.long q3)) (.second) (4 : Int32) w0 w1 w2 w3 w4 w5 mo_2_ ta_2_ kc_2_ (w0.toInt64) (i1.toInt64) h3_ n0 z6_ e3_ N3_ (by decide) (by decide) (by exact Nat.le_of_ble_eq_true rfl) (by exact Nat.le_of_ble_eq_true rfl) (by decide) p3_0 p3_1 p3_2 p3_3 p2_0 p2_1
  have z8_ : n0 ≤ h5_.size := Nat.le_trans z6_ K5_.1
  obtain ⟨T7_, h7_, L7_, X7_, e7_, N7_, K7_, p7_0, p7_1, p7_2, p7_3, st7_⟩ := pcT2_2 Z a0 hw X5_ hx hZ hby hml hown (.val (.int p0)) i1 i2 (.val (.long q1)) (.second) (.val (.long q2)) (.second) (.val (.long q3)) (.second) (4 : Int32) w0 w1 w2 w3 w4 w5 mo_2_ ta_2_ kc_2_ (w0.toInt64) (w1.toInt64) h5_ n0 z8_ e5_ N5_ (by decide) (by decide) (by exact Nat.le_of_ble_eq_true rfl) (by exact Nat.le_of_ble_eq_true rfl) (by decide) p5_0 p5_1 p5_2 p5_3 p2_0 p2_1
  have z10_ : n0 ≤ h7_.size := Nat.le_trans z8_ K7_.1
  obtain ⟨T9_, h9_, L9_, X9_, e9_, N9_, K9_, p9_0, p9_1, p9_2, p9_3, st9_⟩ := pcT2_3 Z a0 hw X7_ hx hZ hby hml hown (.val (.int p0)) i1 i2 (.val (.long q1)) (.second) (.val (.long q2)) (.second) (.val (.long q3)) (.second) (4 : Int32) w0 w1 w2 w3 w4 w5 mo_2_ ta_2_ kc_2_ (w2.toInt64) (w1.toInt64) h7_ n0 z10_ e7_ N7_ (by decide) (by decide) (by exact Nat.le_of_ble_eq_true rfl) (by exact Nat.le_of_ble_eq_true rfl) (by decide) p7_0 p7_1 p7_2 p7_3 p2_0 p2_1
  have z12_ : n0 ≤ h9_.size := Nat.le_trans z10_ K9_.1
  obtain ⟨T11_, h11_, L11_, X11_, e11_, N11_, K11_, st11_⟩ := pcS4 Z a0 hw X9_ hx hZ hby hml hown (.val (.int p0)) i1 i2 (.val (.long q1)) (.second) (.val (.long q2)) (.second) (.val (.long q3)) (.second) (2 : Int32) (4 : Int32) w0 w1 w2 w3 w4 w5 mo_2_ h9_ n0 z12_ e9_ N9_ (by decide) (by decide) (by exact Nat.le_of_ble_eq_true rfl) (by exact Nat.le_of_ble_eq_true rfl) (by decide)
  have e11_q := e11_.trans K11_
  obtain ⟨T13_, h13_, L13_, X13_, e13_, N13_, K13_, st13_⟩ := pcS5 Z a0 hw X11_ hx hZ hby hml hown (.val (.int p0)) i1 i2 (.val (.long q1)) (.second) (.val (.long q2)) (.second) (.val (.long q3)) (.second) (2 : Int32) (4 : Int32) w0 w1 w2 w3 w4 w5 mo_2_ h9_ n0 z12_ e11_q N11_ (by decide) (by decide) (by exact Nat.le_of_ble_eq_true rfl) (by exact Nat.le_of_ble_eq_true rfl) (by decide)
  have e13_q := e13_.trans K13_
  obtain ⟨T14_, h14_, L14_, X14_, e14_, N14_, K14_, st14_⟩ := pcM2 Z a0 hw X13_ hx hZ hby hml hown (.val (.int p0)) i1 i2 (.val (.long q1)) (.second) (.val (.long q2)) (.second) (.val (.long q3)) (.second) (4 : Int32) w0 w1 w2 w3 w4 w5 mo_2_ ta_2_ kc_2_ (w2.toInt64) (w3.toInt64) h9_ n0 z12_ e13_q N13_ (by decide) (by decide) (by exact Nat.le_of_ble_eq_true rfl) (by exact Nat.le_of_ble_eq_true rfl) p9_0 p9_1 p9_3 (own_R.i2l w2) (own_R.i2l w3)
  have e14_q := e14_.trans K14_
  have hAB : (((0 : Int64) + ((w2.toInt64) - (i2.toInt64))) + ((w3.toInt64) - (i2.toInt64))) = ((((((((((own_maxI (0 : Int32) ((2 : Int32) - (4 : Int32))).toInt64) * (i1.toInt64)) + (own_held (0 : Int32) (4 : Int32) (2 : Int32) w0)) + (own_held (1 : Int32) (4 : Int32) (2 : Int32) w1)) + (own_held (2 : Int32) (4 : Int32) (2 : Int32) w2)) + (own_held (3 : Int32) (4 : Int32) (2 : Int32) w3)) + (own_held (4 : Int32) (4 : Int32) (2 : Int32) w4)) + (own_held (5 : Int32) (4 : Int32) (2 : Int32) w5)) - (((2 : Int32).toInt64) * (i2.toInt64))) := by
    rw [show own_maxI (0 : Int32) ((2 : Int32) - (4 : Int32)) = (0 : Int32) from rfl, show own_held (0 : Int32) (4 : Int32) (2 : Int32) w0 = 0 from rfl, show own_held (1 : Int32) (4 : Int32) (2 : Int32) w1 = 0 from rfl, show own_held (2 : Int32) (4 : Int32) (2 : Int32) w2 = w2.toInt64 from rfl, show own_held (3 : Int32) (4 : Int32) (2 : Int32) w3 = w3.toInt64 from rfl, show own_held (4 : Int32) (4 : Int32) (2 : Int32) w4 = 0 from rfl, show own_held (5 : Int32) (4 : Int32) (2 : Int32) w5 = 0 from rfl, show (0 : Int32).toInt64 = 0 from rfl, show (2 : Int32).toInt64 = 2 from rfl]
    generalize i1.toInt64 = x1, i2.toInt64 = x2, w0.toInt64 = x3, w1.toInt64 = x4, w2.toInt64 = x5, w3.toInt64 = x6, w4.toInt64 = x7, w5.toInt64 = x8
    grind
  obtain ⟨T15_, h15_, L15_, X15_, e15_, N15_, K15_, st15_⟩ := pcB Z a0 hw X14_ hx hZ hby hml hown (.val (.int p0)) i1 i2 (.val (.long q1)) (.second) (.val (.long q2)) (.second) (.val (.long q3)) (.second) (2 : Int32) (4 : Int32) w0 w1 w2 w3 w4 w5 mo_2_ (FP.ddiv (FP.l2d (((0 : Int64) + ((w2.toInt64) - (i2.toInt64))) + ((w3.toInt64) - (i2.toInt64)))) (FP.i2d (2 : Int32))) h9_ n0 z12_ e14_q N14_ (by decide) (by decide) (by exact Nat.le_of_ble_eq_true rfl) (by exact Nat.le_of_ble_eq_true rfl) (by decide) (dcmpV_eq (congrArg (fun z => FP.ddiv (FP.l2d z) (FP.i2d (2 : Int32))) hAB) (own_ddiv _ _ (by decide)) .l)
  have e15_q := e15_.trans K15_
  obtain ⟨fs, hr, hrun, hended, hW, hsame⟩ := X15_.leave (v := some (.int (1 : Int32))) (fun h => by first | rfl | (rw [Bd.returns] at h; cases h))
  refine ⟨_, _, pre0 _ ?_, hrun, hended, _, _, rfl, ?_, ⟨_, rfl⟩, hW, hsame.mono (by exact Nat.le_of_ble_eq_true rfl) (by exact Nat.le_of_ble_eq_true rfl)⟩
  · show Steps p.tables e below (s₁.setTop (mkF m 0 #[.val (.int p0), .val (.int i1), .val (.int i2), .val (.long q1), .second, .val (.long q2), .second, .val (.long q3), .second, .unset, .unset, .unset, .unset, .unset, .unset, .unset, .unset, .unset, .unset, .unset, .unset, .unset, .unset, .unset, .unset, .unset] [])) _
    refine st1_ _ ?_
    refine st2_ _ ?_
    refine st3_ _ ?_
    refine st5_ _ ?_
    refine st7_ _ ?_
    refine st9_ _ ?_
    refine st11_ _ ?_
    refine st13_ _ ?_
    refine st14_ _ ?_
    refine st15_ _ ?_
    exact retN X15_ hx (t := .boolean) Bd.returns (by simp) (hb hby at_300) hr
  · show Q_rm0_2_4 Z p0 i1 i2 q1 q2 q3 w0 w1 w2 w3 w4 w5 h0 n0 _ T15_.heap _
    rw [e15_q]
    exact ⟨rfl, N15_⟩
theorem ef_rm0_2_5 (m : MethodId) (x0 : Int32) (x1 : Int32) (x2 : Int32) (x3 : Int64) (x4 : Int64) (x5 : Int64) : entryFrame m #[(.int x0), (.int x1), (.int x2), (.long x3), (.long x4), (.long x5)] maxLocals = mkF m 0 #[.val (.int x0), .val (.int x1), .val (.int x2), .val (.long x3), .second, .val (.long x4), .second, .val (.long x5), .second, .unset, .unset, .unset, .unset, .unset, .unset, .unset, .unset, .unset, .unset, .unset, .unset, .unset, .unset, .unset, .unset, .unset] [] := by first | (simp [entryFrame, mkF, argsToLocals, Value.category, maxLocals]; done) | rfl
def Q_rm0_2_5 (Z : State) (p0 : Int32) (i1 : Int32) (i2 : Int32) (q1 : Int64) (q2 : Int64) (q3 : Int64) (w0 : Int32) (w1 : Int32) (w2 : Int32) (w3 : Int32) (w4 : Int32) (w5 : Int32) (h0 : Heap) (n0 : Nat) (v : Option Value) (h : Heap) (L : List Loc) : Prop := v = some (.int (1 : Int32)) ∧ Fr n0 L
set_option maxRecDepth 65536 in
set_option maxHeartbeats 40000000 in
theorem rm0_2_5 (l : Launch) (Z : State) (a0 : Array Value) (hw : ∀ d ∈ tables_1, d.before a0 Z = true) (ws : List Jvm.Cond) (p0 : Int32) (i1 : Int32) (i2 : Int32) (q1 : Int64) (q2 : Int64) (q3 : Int64) (w0 : Int32) (w1 : Int32) (w2 : Int32) (w3 : Int32) (w4 : Int32) (w5 : Int32) (h0 : Heap) (n0 : Nat) (Z0 : n0 ≤ h0.size) (hn : ((1 : Int32) + (p0 &&& (3 : Int32))) = (2 : Int32)) (hk : (own_minI (((p0.toUInt32 >>> ((2 : Int32) &&& 31).toUInt32).toInt32) &&& (7 : Int32)) (6 : Int32)) = (5 : Int32)) (hw0 : (q1.toInt32) = w0) (hw1 : (((q1.toUInt64 >>> ((32 : Int32) &&& 0x3f).toInt64.toUInt64).toInt64).toInt32) = w1) (hw2 : (q2.toInt32) = w2) (hw3 : (((q2.toUInt64 >>> ((32 : Int32) &&& 0x3f).toInt64.toUInt64).toInt64).toInt32) = w3) (hw4 : (q3.toInt32) = w4) (hw5 : (((q3.toUInt64 >>> ((32 : Int32) &&& 0x3f).toInt64.toUInt64).toInt64).toInt32) = w5) :
    MetFree l x (head1 (Jvm.Cond.code x code maxLocals ret :: ws) room_1) (fun a U => a = #[(.int p0), (.int i1), (.int i2), (.long q1), (.long q2), (.long q3)] ∧ Z.Warmed39 U.vm ∧ U.heap = h0) (fun _ _ _ _ _ => True) (fun _ U o U' => ∃ v L, o = .returned v ∧ Q_rm0_2_5 Z p0 i1 i2 q1 q2 q3 w0 w1 w2 w3 w4 w5 h0 n0 v U'.heap L ∧ FrameEnd U o U' L room_1.cells room_1.slots) := by
  refine MetFree.of_bodySF (plainFor_of_name pn_com_example_whipstill_whipstill_MovingWindowMeanAbovePinLaw) hisR ?_
  intro p e s m args below meth c s₁ Bd hml0 hP hK
  obtain ⟨rfl, hZ, hh⟩ := hP
  have hx := Bd.exec
  have hby := Bd.bytes
  have hml : c.maxLocals = 26 := hml0
  have hown : s.vm.findClass "com/example/whipstill/whipstill/MovingWindowMeanAbovePinLaw" = some m.cls := findClass_of_methodNamed Bd.named
  have hnm := (name_of_methodNamed Bd.named Bd.method).1
  have X0 : Stand p l e room_1 s m #[(.int p0), (.int i1), (.int i2), (.long q1), (.long q2), (.long q3)] below meth c s₁ [] 0 0 := Stand.of_body Bd
  have e0 : s₁.heap = h0 := by rw [← hh, Bd.state]; rfl
  have N0 := Fr.nil n0
  have pre0 : ∀ t, Steps p.tables e below (s₁.setTop (mkF m 0 #[.val (.int p0), .val (.int i1), .val (.int i2), .val (.long q1), .second, .val (.long q2), .second, .val (.long q3), .second, .unset, .unset, .unset, .unset, .unset, .unset, .unset, .unset, .unset, .unset, .unset, .unset, .unset, .unset, .unset, .unset, .unset] [])) t → Steps p.tables e below (s₁.setTop (entryFrame m #[(.int p0), (.int i1), (.int i2), (.long q1), (.long q2), (.long q3)] maxLocals)) t := fun t k => castTop (ef_rm0_2_5 m p0 i1 i2 q1 q2 q3) k
  obtain ⟨T1_, h1_, L1_, X1_, e1_, N1_, K1_, st1_⟩ := pcA Z a0 hw X0 hx hZ hby hml hown p0 i1 i2 q1 q2 q3 (2 : Int32) (5 : Int32) w0 w1 w2 w3 w4 w5 h0 n0 Z0 e0 N0 (by decide) (by decide) (by exact Nat.le_of_ble_eq_true rfl) (by exact Nat.le_of_ble_eq_true rfl) hn hk hw0 hw1 hw2 hw3 hw4 hw5
  have e1_q := e1_.trans K1_
  obtain ⟨T2_, h2_, L2_, mo_2_, ta_2_, kc_2_, X2_, e2_, N2_, K2_, p2_0, p2_1, p2_2, p2_3, p2_4, p2_5, st2_⟩ := pcI2 Z a0 hw X1_ hx hZ hby hml hown (.val (.int p0)) i1 i2 (.val (.long q1)) (.second) (.val (.long q2)) (.second) (.val (.long q3)) (.second) (5 : Int32) w0 w1 w2 w3 w4 w5 h0 n0 Z0 e1_q N1_ (by decide) (by decide) (by exact Nat.le_of_ble_eq_true rfl) (by exact Nat.le_of_ble_eq_true rfl) 
  have z4_ : n0 ≤ h2_.size := Nat.le_trans Z0 K2_.1
  obtain ⟨T3_, h3_, L3_, X3_, e3_, N3_, K3_, p3_0, p3_1, p3_2, p3_3, st3_⟩ := pcT2_0 Z a0 hw X2_ hx hZ hby hml hown (.val (.int p0)) i1 i2 (.val (.long q1)) (.second) (.val (.long q2)) (.second) (.val (.long q3)) (.second) (5 : Int32) w0 w1 w2 w3 w4 w5 mo_2_ ta_2_ kc_2_ (i1.toInt64) (i1.toInt64) h2_ n0 z4_ e2_ N2_ (by decide) (by decide) (by exact Nat.le_of_ble_eq_true rfl) (by exact Nat.le_of_ble_eq_true rfl) (by decide) p2_2 p2_3 p2_4 p2_5 p2_0 p2_1
  have z6_ : n0 ≤ h3_.size := Nat.le_trans z4_ K3_.1
  obtain ⟨T5_, h5_, L5_, X5_, e5_, N5_, K5_, p5_0, p5_1, p5_2, p5_3, st5_⟩ := pcT2_1 Z a0 hw X3_ hx hZ hby hml hown (.val (.int p0)) i1 i2 (.val (.long q1)) (.second) (.val (.long q2)) (.second) (.val (.long q3)) (.second) (5 : Int32) w0 w1 w2 w3 w4 w5 mo_2_ ta_2_ kc_2_ (w0.toInt64) (i1.toInt64) h3_ n0 z6_ e3_ N3_ (by decide) (by decide) (by exact Nat.le_of_ble_eq_true rfl) (by exact Nat.le_of_ble_eq_true rfl) (by decide) p3_0 p3_1 p3_2 p3_3 p2_0 p2_1
  have z8_ : n0 ≤ h5_.size := Nat.le_trans z6_ K5_.1
  obtain ⟨T7_, h7_, L7_, X7_, e7_, N7_, K7_, p7_0, p7_1, p7_2, p7_3, st7_⟩ := pcT2_2 Z a0 hw X5_ hx hZ hby hml hown (.val (.int p0)) i1 i2 (.val (.long q1)) (.second) (.val (.long q2)) (.second) (.val (.long q3)) (.second) (5 : Int32) w0 w1 w2 w3 w4 w5 mo_2_ ta_2_ kc_2_ (w0.toInt64) (w1.toInt64) h5_ n0 z8_ e5_ N5_ (by decide) (by decide) (by exact Nat.le_of_ble_eq_true rfl) (by exact Nat.le_of_ble_eq_true rfl) (by decide) p5_0 p5_1 p5_2 p5_3 p2_0 p2_1
  have z10_ : n0 ≤ h7_.size := Nat.le_trans z8_ K7_.1
  obtain ⟨T9_, h9_, L9_, X9_, e9_, N9_, K9_, p9_0, p9_1, p9_2, p9_3, st9_⟩ := pcT2_3 Z a0 hw X7_ hx hZ hby hml hown (.val (.int p0)) i1 i2 (.val (.long q1)) (.second) (.val (.long q2)) (.second) (.val (.long q3)) (.second) (5 : Int32) w0 w1 w2 w3 w4 w5 mo_2_ ta_2_ kc_2_ (w2.toInt64) (w1.toInt64) h7_ n0 z10_ e7_ N7_ (by decide) (by decide) (by exact Nat.le_of_ble_eq_true rfl) (by exact Nat.le_of_ble_eq_true rfl) (by decide) p7_0 p7_1 p7_2 p7_3 p2_0 p2_1
  have z12_ : n0 ≤ h9_.size := Nat.le_trans z10_ K9_.1
  obtain ⟨T11_, h11_, L11_, X11_, e11_, N11_, K11_, p11_0, p11_1, p11_2, p11_3, st11_⟩ := pcT2_4 Z a0 hw X9_ hx hZ hby hml hown (.val (.int p0)) i1 i2 (.val (.long q1)) (.second) (.val (.long q2)) (.second) (.val (.long q3)) (.second) (5 : Int32) w0 w1 w2 w3 w4 w5 mo_2_ ta_2_ kc_2_ (w2.toInt64) (w3.toInt64) h9_ n0 z12_ e9_ N9_ (by decide) (by decide) (by exact Nat.le_of_ble_eq_true rfl) (by exact Nat.le_of_ble_eq_true rfl) (by decide) p9_0 p9_1 p9_2 p9_3 p2_0 p2_1
  have z14_ : n0 ≤ h11_.size := Nat.le_trans z12_ K11_.1
  obtain ⟨T13_, h13_, L13_, X13_, e13_, N13_, K13_, st13_⟩ := pcS5 Z a0 hw X11_ hx hZ hby hml hown (.val (.int p0)) i1 i2 (.val (.long q1)) (.second) (.val (.long q2)) (.second) (.val (.long q3)) (.second) (2 : Int32) (5 : Int32) w0 w1 w2 w3 w4 w5 mo_2_ h11_ n0 z14_ e11_ N11_ (by decide) (by decide) (by exact Nat.le_of_ble_eq_true rfl) (by exact Nat.le_of_ble_eq_true rfl) (by decide)
  have e13_q := e13_.trans K13_
  obtain ⟨T15_, h15_, L15_, X15_, e15_, N15_, K15_, st15_⟩ := pcM2 Z a0 hw X13_ hx hZ hby hml hown (.val (.int p0)) i1 i2 (.val (.long q1)) (.second) (.val (.long q2)) (.second) (.val (.long q3)) (.second) (5 : Int32) w0 w1 w2 w3 w4 w5 mo_2_ ta_2_ kc_2_ (w4.toInt64) (w3.toInt64) h11_ n0 z14_ e13_q N13_ (by decide) (by decide) (by exact Nat.le_of_ble_eq_true rfl) (by exact Nat.le_of_ble_eq_true rfl) p11_0 p11_1 p11_3 (own_R.i2l w4) (own_R.i2l w3)
  have e15_q := e15_.trans K15_
  have hAB : (((0 : Int64) + ((w4.toInt64) - (i2.toInt64))) + ((w3.toInt64) - (i2.toInt64))) = ((((((((((own_maxI (0 : Int32) ((2 : Int32) - (5 : Int32))).toInt64) * (i1.toInt64)) + (own_held (0 : Int32) (5 : Int32) (2 : Int32) w0)) + (own_held (1 : Int32) (5 : Int32) (2 : Int32) w1)) + (own_held (2 : Int32) (5 : Int32) (2 : Int32) w2)) + (own_held (3 : Int32) (5 : Int32) (2 : Int32) w3)) + (own_held (4 : Int32) (5 : Int32) (2 : Int32) w4)) + (own_held (5 : Int32) (5 : Int32) (2 : Int32) w5)) - (((2 : Int32).toInt64) * (i2.toInt64))) := by
    rw [show own_maxI (0 : Int32) ((2 : Int32) - (5 : Int32)) = (0 : Int32) from rfl, show own_held (0 : Int32) (5 : Int32) (2 : Int32) w0 = 0 from rfl, show own_held (1 : Int32) (5 : Int32) (2 : Int32) w1 = 0 from rfl, show own_held (2 : Int32) (5 : Int32) (2 : Int32) w2 = 0 from rfl, show own_held (3 : Int32) (5 : Int32) (2 : Int32) w3 = w3.toInt64 from rfl, show own_held (4 : Int32) (5 : Int32) (2 : Int32) w4 = w4.toInt64 from rfl, show own_held (5 : Int32) (5 : Int32) (2 : Int32) w5 = 0 from rfl, show (0 : Int32).toInt64 = 0 from rfl, show (2 : Int32).toInt64 = 2 from rfl]
    generalize i1.toInt64 = x1, i2.toInt64 = x2, w0.toInt64 = x3, w1.toInt64 = x4, w2.toInt64 = x5, w3.toInt64 = x6, w4.toInt64 = x7, w5.toInt64 = x8
    grind
  obtain ⟨T16_, h16_, L16_, X16_, e16_, N16_, K16_, st16_⟩ := pcB Z a0 hw X15_ hx hZ hby hml hown (.val (.int p0)) i1 i2 (.val (.long q1)) (.second) (.val (.long q2)) (.second) (.val (.long q3)) (.second) (2 : Int32) (5 : Int32) w0 w1 w2 w3 w4 w5 mo_2_ (FP.ddiv (FP.l2d (((0 : Int64) + ((w4.toInt64) - (i2.toInt64))) + ((w3.toInt64) - (i2.toInt64)))) (FP.i2d (2 : Int32))) h11_ n0 z14_ e15_q N15_ (by decide) (by decide) (by exact Nat.le_of_ble_eq_true rfl) (by exact Nat.le_of_ble_eq_true rfl) (by decide) (dcmpV_eq (congrArg (fun z => FP.ddiv (FP.l2d z) (FP.i2d (2 : Int32))) hAB) (own_ddiv _ _ (by decide)) .l)
  have e16_q := e16_.trans K16_
  obtain ⟨fs, hr, hrun, hended, hW, hsame⟩ := X16_.leave (v := some (.int (1 : Int32))) (fun h => by first | rfl | (rw [Bd.returns] at h; cases h))
  refine ⟨_, _, pre0 _ ?_, hrun, hended, _, _, rfl, ?_, ⟨_, rfl⟩, hW, hsame.mono (by exact Nat.le_of_ble_eq_true rfl) (by exact Nat.le_of_ble_eq_true rfl)⟩
  · show Steps p.tables e below (s₁.setTop (mkF m 0 #[.val (.int p0), .val (.int i1), .val (.int i2), .val (.long q1), .second, .val (.long q2), .second, .val (.long q3), .second, .unset, .unset, .unset, .unset, .unset, .unset, .unset, .unset, .unset, .unset, .unset, .unset, .unset, .unset, .unset, .unset, .unset] [])) _
    refine st1_ _ ?_
    refine st2_ _ ?_
    refine st3_ _ ?_
    refine st5_ _ ?_
    refine st7_ _ ?_
    refine st9_ _ ?_
    refine st11_ _ ?_
    refine st13_ _ ?_
    refine st15_ _ ?_
    refine st16_ _ ?_
    exact retN X16_ hx (t := .boolean) Bd.returns (by simp) (hb hby at_300) hr
  · show Q_rm0_2_5 Z p0 i1 i2 q1 q2 q3 w0 w1 w2 w3 w4 w5 h0 n0 _ T16_.heap _
    rw [e16_q]
    exact ⟨rfl, N16_⟩
theorem ef_rm0_2_6 (m : MethodId) (x0 : Int32) (x1 : Int32) (x2 : Int32) (x3 : Int64) (x4 : Int64) (x5 : Int64) : entryFrame m #[(.int x0), (.int x1), (.int x2), (.long x3), (.long x4), (.long x5)] maxLocals = mkF m 0 #[.val (.int x0), .val (.int x1), .val (.int x2), .val (.long x3), .second, .val (.long x4), .second, .val (.long x5), .second, .unset, .unset, .unset, .unset, .unset, .unset, .unset, .unset, .unset, .unset, .unset, .unset, .unset, .unset, .unset, .unset, .unset] [] := by first | (simp [entryFrame, mkF, argsToLocals, Value.category, maxLocals]; done) | rfl
def Q_rm0_2_6 (Z : State) (p0 : Int32) (i1 : Int32) (i2 : Int32) (q1 : Int64) (q2 : Int64) (q3 : Int64) (w0 : Int32) (w1 : Int32) (w2 : Int32) (w3 : Int32) (w4 : Int32) (w5 : Int32) (h0 : Heap) (n0 : Nat) (v : Option Value) (h : Heap) (L : List Loc) : Prop := v = some (.int (1 : Int32)) ∧ Fr n0 L
set_option maxRecDepth 65536 in
set_option maxHeartbeats 40000000 in
theorem rm0_2_6 (l : Launch) (Z : State) (a0 : Array Value) (hw : ∀ d ∈ tables_1, d.before a0 Z = true) (ws : List Jvm.Cond) (p0 : Int32) (i1 : Int32) (i2 : Int32) (q1 : Int64) (q2 : Int64) (q3 : Int64) (w0 : Int32) (w1 : Int32) (w2 : Int32) (w3 : Int32) (w4 : Int32) (w5 : Int32) (h0 : Heap) (n0 : Nat) (Z0 : n0 ≤ h0.size) (hn : ((1 : Int32) + (p0 &&& (3 : Int32))) = (2 : Int32)) (hk : (own_minI (((p0.toUInt32 >>> ((2 : Int32) &&& 31).toUInt32).toInt32) &&& (7 : Int32)) (6 : Int32)) = (6 : Int32)) (hw0 : (q1.toInt32) = w0) (hw1 : (((q1.toUInt64 >>> ((32 : Int32) &&& 0x3f).toInt64.toUInt64).toInt64).toInt32) = w1) (hw2 : (q2.toInt32) = w2) (hw3 : (((q2.toUInt64 >>> ((32 : Int32) &&& 0x3f).toInt64.toUInt64).toInt64).toInt32) = w3) (hw4 : (q3.toInt32) = w4) (hw5 : (((q3.toUInt64 >>> ((32 : Int32) &&& 0x3f).toInt64.toUInt64).toInt64).toInt32) = w5) :
    MetFree l x (head1 (Jvm.Cond.code x code maxLocals ret :: ws) room_1) (fun a U => a = #[(.int p0), (.int i1), (.int i2), (.long q1), (.long q2), (.long q3)] ∧ Z.Warmed39 U.vm ∧ U.heap = h0) (fun _ _ _ _ _ => True) (fun _ U o U' => ∃ v L, o = .returned v ∧ Q_rm0_2_6 Z p0 i1 i2 q1 q2 q3 w0 w1 w2 w3 w4 w5 h0 n0 v U'.heap L ∧ FrameEnd U o U' L room_1.cells room_1.slots) := by
  refine MetFree.of_bodySF (plainFor_of_name pn_com_example_whipstill_whipstill_MovingWindowMeanAbovePinLaw) hisR ?_
  intro p e s m args below meth c s₁ Bd hml0 hP hK
  obtain ⟨rfl, hZ, hh⟩ := hP
  have hx := Bd.exec
  have hby := Bd.bytes
  have hml : c.maxLocals = 26 := hml0
  have hown : s.vm.findClass "com/example/whipstill/whipstill/MovingWindowMeanAbovePinLaw" = some m.cls := findClass_of_methodNamed Bd.named
  have hnm := (name_of_methodNamed Bd.named Bd.method).1
  have X0 : Stand p l e room_1 s m #[(.int p0), (.int i1), (.int i2), (.long q1), (.long q2), (.long q3)] below meth c s₁ [] 0 0 := Stand.of_body Bd
  have e0 : s₁.heap = h0 := by rw [← hh, Bd.state]; rfl
  have N0 := Fr.nil n0
  have pre0 : ∀ t, Steps p.tables e below (s₁.setTop (mkF m 0 #[.val (.int p0), .val (.int i1), .val (.int i2), .val (.long q1), .second, .val (.long q2), .second, .val (.long q3), .second, .unset, .unset, .unset, .unset, .unset, .unset, .unset, .unset, .unset, .unset, .unset, .unset, .unset, .unset, .unset, .unset, .unset] [])) t → Steps p.tables e below (s₁.setTop (entryFrame m #[(.int p0), (.int i1), (.int i2), (.long q1), (.long q2), (.long q3)] maxLocals)) t := fun t k => castTop (ef_rm0_2_6 m p0 i1 i2 q1 q2 q3) k
  obtain ⟨T1_, h1_, L1_, X1_, e1_, N1_, K1_, st1_⟩ := pcA Z a0 hw X0 hx hZ hby hml hown p0 i1 i2 q1 q2 q3 (2 : Int32) (6 : Int32) w0 w1 w2 w3 w4 w5 h0 n0 Z0 e0 N0 (by decide) (by decide) (by exact Nat.le_of_ble_eq_true rfl) (by exact Nat.le_of_ble_eq_true rfl) hn hk hw0 hw1 hw2 hw3 hw4 hw5
  have e1_q := e1_.trans K1_
  obtain ⟨T2_, h2_, L2_, mo_2_, ta_2_, kc_2_, X2_, e2_, N2_, K2_, p2_0, p2_1, p2_2, p2_3, p2_4, p2_5, st2_⟩ := pcI2 Z a0 hw X1_ hx hZ hby hml hown (.val (.int p0)) i1 i2 (.val (.long q1)) (.second) (.val (.long q2)) (.second) (.val (.long q3)) (.second) (6 : Int32) w0 w1 w2 w3 w4 w5 h0 n0 Z0 e1_q N1_ (by decide) (by decide) (by exact Nat.le_of_ble_eq_true rfl) (by exact Nat.le_of_ble_eq_true rfl) 
  have z4_ : n0 ≤ h2_.size := Nat.le_trans Z0 K2_.1
  obtain ⟨T3_, h3_, L3_, X3_, e3_, N3_, K3_, p3_0, p3_1, p3_2, p3_3, st3_⟩ := pcT2_0 Z a0 hw X2_ hx hZ hby hml hown (.val (.int p0)) i1 i2 (.val (.long q1)) (.second) (.val (.long q2)) (.second) (.val (.long q3)) (.second) (6 : Int32) w0 w1 w2 w3 w4 w5 mo_2_ ta_2_ kc_2_ (i1.toInt64) (i1.toInt64) h2_ n0 z4_ e2_ N2_ (by decide) (by decide) (by exact Nat.le_of_ble_eq_true rfl) (by exact Nat.le_of_ble_eq_true rfl) (by decide) p2_2 p2_3 p2_4 p2_5 p2_0 p2_1
  have z6_ : n0 ≤ h3_.size := Nat.le_trans z4_ K3_.1
  obtain ⟨T5_, h5_, L5_, X5_, e5_, N5_, K5_, p5_0, p5_1, p5_2, p5_3, st5_⟩ := pcT2_1 Z a0 hw X3_ hx hZ hby hml hown (.val (.int p0)) i1 i2 (.val (.long q1)) (.second) (.val (.long q2)) (.second) (.val (.long q3)) (.second) (6 : Int32) w0 w1 w2 w3 w4 w5 mo_2_ ta_2_ kc_2_ (w0.toInt64) (i1.toInt64) h3_ n0 z6_ e3_ N3_ (by decide) (by decide) (by exact Nat.le_of_ble_eq_true rfl) (by exact Nat.le_of_ble_eq_true rfl) (by decide) p3_0 p3_1 p3_2 p3_3 p2_0 p2_1
  have z8_ : n0 ≤ h5_.size := Nat.le_trans z6_ K5_.1
  obtain ⟨T7_, h7_, L7_, X7_, e7_, N7_, K7_, p7_0, p7_1, p7_2, p7_3, st7_⟩ := pcT2_2 Z a0 hw X5_ hx hZ hby hml hown (.val (.int p0)) i1 i2 (.val (.long q1)) (.second) (.val (.long q2)) (.second) (.val (.long q3)) (.second) (6 : Int32) w0 w1 w2 w3 w4 w5 mo_2_ ta_2_ kc_2_ (w0.toInt64) (w1.toInt64) h5_ n0 z8_ e5_ N5_ (by decide) (by decide) (by exact Nat.le_of_ble_eq_true rfl) (by exact Nat.le_of_ble_eq_true rfl) (by decide) p5_0 p5_1 p5_2 p5_3 p2_0 p2_1
  have z10_ : n0 ≤ h7_.size := Nat.le_trans z8_ K7_.1
  obtain ⟨T9_, h9_, L9_, X9_, e9_, N9_, K9_, p9_0, p9_1, p9_2, p9_3, st9_⟩ := pcT2_3 Z a0 hw X7_ hx hZ hby hml hown (.val (.int p0)) i1 i2 (.val (.long q1)) (.second) (.val (.long q2)) (.second) (.val (.long q3)) (.second) (6 : Int32) w0 w1 w2 w3 w4 w5 mo_2_ ta_2_ kc_2_ (w2.toInt64) (w1.toInt64) h7_ n0 z10_ e7_ N7_ (by decide) (by decide) (by exact Nat.le_of_ble_eq_true rfl) (by exact Nat.le_of_ble_eq_true rfl) (by decide) p7_0 p7_1 p7_2 p7_3 p2_0 p2_1
  have z12_ : n0 ≤ h9_.size := Nat.le_trans z10_ K9_.1
  obtain ⟨T11_, h11_, L11_, X11_, e11_, N11_, K11_, p11_0, p11_1, p11_2, p11_3, st11_⟩ := pcT2_4 Z a0 hw X9_ hx hZ hby hml hown (.val (.int p0)) i1 i2 (.val (.long q1)) (.second) (.val (.long q2)) (.second) (.val (.long q3)) (.second) (6 : Int32) w0 w1 w2 w3 w4 w5 mo_2_ ta_2_ kc_2_ (w2.toInt64) (w3.toInt64) h9_ n0 z12_ e9_ N9_ (by decide) (by decide) (by exact Nat.le_of_ble_eq_true rfl) (by exact Nat.le_of_ble_eq_true rfl) (by decide) p9_0 p9_1 p9_2 p9_3 p2_0 p2_1
  have z14_ : n0 ≤ h11_.size := Nat.le_trans z12_ K11_.1
  obtain ⟨T13_, h13_, L13_, X13_, e13_, N13_, K13_, p13_0, p13_1, p13_2, p13_3, st13_⟩ := pcT2_5 Z a0 hw X11_ hx hZ hby hml hown (.val (.int p0)) i1 i2 (.val (.long q1)) (.second) (.val (.long q2)) (.second) (.val (.long q3)) (.second) (6 : Int32) w0 w1 w2 w3 w4 w5 mo_2_ ta_2_ kc_2_ (w4.toInt64) (w3.toInt64) h11_ n0 z14_ e11_ N11_ (by decide) (by decide) (by exact Nat.le_of_ble_eq_true rfl) (by exact Nat.le_of_ble_eq_true rfl) (by decide) p11_0 p11_1 p11_2 p11_3 p2_0 p2_1
  have z16_ : n0 ≤ h13_.size := Nat.le_trans z14_ K13_.1
  obtain ⟨T15_, h15_, L15_, X15_, e15_, N15_, K15_, st15_⟩ := pcM2 Z a0 hw X13_ hx hZ hby hml hown (.val (.int p0)) i1 i2 (.val (.long q1)) (.second) (.val (.long q2)) (.second) (.val (.long q3)) (.second) (6 : Int32) w0 w1 w2 w3 w4 w5 mo_2_ ta_2_ kc_2_ (w4.toInt64) (w5.toInt64) h13_ n0 z16_ e13_ N13_ (by decide) (by decide) (by exact Nat.le_of_ble_eq_true rfl) (by exact Nat.le_of_ble_eq_true rfl) p13_0 p13_1 p13_3 (own_R.i2l w4) (own_R.i2l w5)
  have e15_q := e15_.trans K15_
  have hAB : (((0 : Int64) + ((w4.toInt64) - (i2.toInt64))) + ((w5.toInt64) - (i2.toInt64))) = ((((((((((own_maxI (0 : Int32) ((2 : Int32) - (6 : Int32))).toInt64) * (i1.toInt64)) + (own_held (0 : Int32) (6 : Int32) (2 : Int32) w0)) + (own_held (1 : Int32) (6 : Int32) (2 : Int32) w1)) + (own_held (2 : Int32) (6 : Int32) (2 : Int32) w2)) + (own_held (3 : Int32) (6 : Int32) (2 : Int32) w3)) + (own_held (4 : Int32) (6 : Int32) (2 : Int32) w4)) + (own_held (5 : Int32) (6 : Int32) (2 : Int32) w5)) - (((2 : Int32).toInt64) * (i2.toInt64))) := by
    rw [show own_maxI (0 : Int32) ((2 : Int32) - (6 : Int32)) = (0 : Int32) from rfl, show own_held (0 : Int32) (6 : Int32) (2 : Int32) w0 = 0 from rfl, show own_held (1 : Int32) (6 : Int32) (2 : Int32) w1 = 0 from rfl, show own_held (2 : Int32) (6 : Int32) (2 : Int32) w2 = 0 from rfl, show own_held (3 : Int32) (6 : Int32) (2 : Int32) w3 = 0 from rfl, show own_held (4 : Int32) (6 : Int32) (2 : Int32) w4 = w4.toInt64 from rfl, show own_held (5 : Int32) (6 : Int32) (2 : Int32) w5 = w5.toInt64 from rfl, show (0 : Int32).toInt64 = 0 from rfl, show (2 : Int32).toInt64 = 2 from rfl]
    generalize i1.toInt64 = x1, i2.toInt64 = x2, w0.toInt64 = x3, w1.toInt64 = x4, w2.toInt64 = x5, w3.toInt64 = x6, w4.toInt64 = x7, w5.toInt64 = x8
    grind
  obtain ⟨T17_, h17_, L17_, X17_, e17_, N17_, K17_, st17_⟩ := pcB Z a0 hw X15_ hx hZ hby hml hown (.val (.int p0)) i1 i2 (.val (.long q1)) (.second) (.val (.long q2)) (.second) (.val (.long q3)) (.second) (2 : Int32) (6 : Int32) w0 w1 w2 w3 w4 w5 mo_2_ (FP.ddiv (FP.l2d (((0 : Int64) + ((w4.toInt64) - (i2.toInt64))) + ((w5.toInt64) - (i2.toInt64)))) (FP.i2d (2 : Int32))) h13_ n0 z16_ e15_q N15_ (by decide) (by decide) (by exact Nat.le_of_ble_eq_true rfl) (by exact Nat.le_of_ble_eq_true rfl) (by decide) (dcmpV_eq (congrArg (fun z => FP.ddiv (FP.l2d z) (FP.i2d (2 : Int32))) hAB) (own_ddiv _ _ (by decide)) .l)
  have e17_q := e17_.trans K17_
  obtain ⟨fs, hr, hrun, hended, hW, hsame⟩ := X17_.leave (v := some (.int (1 : Int32))) (fun h => by first | rfl | (rw [Bd.returns] at h; cases h))
  refine ⟨_, _, pre0 _ ?_, hrun, hended, _, _, rfl, ?_, ⟨_, rfl⟩, hW, hsame.mono (by exact Nat.le_of_ble_eq_true rfl) (by exact Nat.le_of_ble_eq_true rfl)⟩
  · show Steps p.tables e below (s₁.setTop (mkF m 0 #[.val (.int p0), .val (.int i1), .val (.int i2), .val (.long q1), .second, .val (.long q2), .second, .val (.long q3), .second, .unset, .unset, .unset, .unset, .unset, .unset, .unset, .unset, .unset, .unset, .unset, .unset, .unset, .unset, .unset, .unset, .unset] [])) _
    refine st1_ _ ?_
    refine st2_ _ ?_
    refine st3_ _ ?_
    refine st5_ _ ?_
    refine st7_ _ ?_
    refine st9_ _ ?_
    refine st11_ _ ?_
    refine st13_ _ ?_
    refine st15_ _ ?_
    refine st17_ _ ?_
    exact retN X17_ hx (t := .boolean) Bd.returns (by simp) (hb hby at_300) hr
  · show Q_rm0_2_6 Z p0 i1 i2 q1 q2 q3 w0 w1 w2 w3 w4 w5 h0 n0 _ T17_.heap _
    rw [e17_q]
    exact ⟨rfl, N17_⟩
theorem ef_rm0_3_0 (m : MethodId) (x0 : Int32) (x1 : Int32) (x2 : Int32) (x3 : Int64) (x4 : Int64) (x5 : Int64) : entryFrame m #[(.int x0), (.int x1), (.int x2), (.long x3), (.long x4), (.long x5)] maxLocals = mkF m 0 #[.val (.int x0), .val (.int x1), .val (.int x2), .val (.long x3), .second, .val (.long x4), .second, .val (.long x5), .second, .unset, .unset, .unset, .unset, .unset, .unset, .unset, .unset, .unset, .unset, .unset, .unset, .unset, .unset, .unset, .unset, .unset] [] := by first | (simp [entryFrame, mkF, argsToLocals, Value.category, maxLocals]; done) | rfl
def Q_rm0_3_0 (Z : State) (p0 : Int32) (i1 : Int32) (i2 : Int32) (q1 : Int64) (q2 : Int64) (q3 : Int64) (w0 : Int32) (w1 : Int32) (w2 : Int32) (w3 : Int32) (w4 : Int32) (w5 : Int32) (h0 : Heap) (n0 : Nat) (v : Option Value) (h : Heap) (L : List Loc) : Prop := v = some (.int (1 : Int32)) ∧ Fr n0 L
set_option maxRecDepth 65536 in
set_option maxHeartbeats 40000000 in
theorem rm0_3_0 (l : Launch) (Z : State) (a0 : Array Value) (hw : ∀ d ∈ tables_1, d.before a0 Z = true) (ws : List Jvm.Cond) (p0 : Int32) (i1 : Int32) (i2 : Int32) (q1 : Int64) (q2 : Int64) (q3 : Int64) (w0 : Int32) (w1 : Int32) (w2 : Int32) (w3 : Int32) (w4 : Int32) (w5 : Int32) (h0 : Heap) (n0 : Nat) (Z0 : n0 ≤ h0.size) (hn : ((1 : Int32) + (p0 &&& (3 : Int32))) = (3 : Int32)) (hk : (own_minI (((p0.toUInt32 >>> ((2 : Int32) &&& 31).toUInt32).toInt32) &&& (7 : Int32)) (6 : Int32)) = (0 : Int32)) (hw0 : (q1.toInt32) = w0) (hw1 : (((q1.toUInt64 >>> ((32 : Int32) &&& 0x3f).toInt64.toUInt64).toInt64).toInt32) = w1) (hw2 : (q2.toInt32) = w2) (hw3 : (((q2.toUInt64 >>> ((32 : Int32) &&& 0x3f).toInt64.toUInt64).toInt64).toInt32) = w3) (hw4 : (q3.toInt32) = w4) (hw5 : (((q3.toUInt64 >>> ((32 : Int32) &&& 0x3f).toInt64.toUInt64).toInt64).toInt32) = w5) :
    MetFree l x (head1 (Jvm.Cond.code x code maxLocals ret :: ws) room_1) (fun a U => a = #[(.int p0), (.int i1), (.int i2), (.long q1), (.long q2), (.long q3)] ∧ Z.Warmed39 U.vm ∧ U.heap = h0) (fun _ _ _ _ _ => True) (fun _ U o U' => ∃ v L, o = .returned v ∧ Q_rm0_3_0 Z p0 i1 i2 q1 q2 q3 w0 w1 w2 w3 w4 w5 h0 n0 v U'.heap L ∧ FrameEnd U o U' L room_1.cells room_1.slots) := by
  refine MetFree.of_bodySF (plainFor_of_name pn_com_example_whipstill_whipstill_MovingWindowMeanAbovePinLaw) hisR ?_
  intro p e s m args below meth c s₁ Bd hml0 hP hK
  obtain ⟨rfl, hZ, hh⟩ := hP
  have hx := Bd.exec
  have hby := Bd.bytes
  have hml : c.maxLocals = 26 := hml0
  have hown : s.vm.findClass "com/example/whipstill/whipstill/MovingWindowMeanAbovePinLaw" = some m.cls := findClass_of_methodNamed Bd.named
  have hnm := (name_of_methodNamed Bd.named Bd.method).1
  have X0 : Stand p l e room_1 s m #[(.int p0), (.int i1), (.int i2), (.long q1), (.long q2), (.long q3)] below meth c s₁ [] 0 0 := Stand.of_body Bd
  have e0 : s₁.heap = h0 := by rw [← hh, Bd.state]; rfl
  have N0 := Fr.nil n0
  have pre0 : ∀ t, Steps p.tables e below (s₁.setTop (mkF m 0 #[.val (.int p0), .val (.int i1), .val (.int i2), .val (.long q1), .second, .val (.long q2), .second, .val (.long q3), .second, .unset, .unset, .unset, .unset, .unset, .unset, .unset, .unset, .unset, .unset, .unset, .unset, .unset, .unset, .unset, .unset, .unset] [])) t → Steps p.tables e below (s₁.setTop (entryFrame m #[(.int p0), (.int i1), (.int i2), (.long q1), (.long q2), (.long q3)] maxLocals)) t := fun t k => castTop (ef_rm0_3_0 m p0 i1 i2 q1 q2 q3) k
  obtain ⟨T1_, h1_, L1_, X1_, e1_, N1_, K1_, st1_⟩ := pcA Z a0 hw X0 hx hZ hby hml hown p0 i1 i2 q1 q2 q3 (3 : Int32) (0 : Int32) w0 w1 w2 w3 w4 w5 h0 n0 Z0 e0 N0 (by decide) (by decide) (by exact Nat.le_of_ble_eq_true rfl) (by exact Nat.le_of_ble_eq_true rfl) hn hk hw0 hw1 hw2 hw3 hw4 hw5
  have e1_q := e1_.trans K1_
  obtain ⟨T2_, h2_, L2_, mo_2_, ta_2_, kc_2_, X2_, e2_, N2_, K2_, p2_0, p2_1, p2_2, p2_3, p2_4, p2_5, st2_⟩ := pcI3 Z a0 hw X1_ hx hZ hby hml hown (.val (.int p0)) i1 i2 (.val (.long q1)) (.second) (.val (.long q2)) (.second) (.val (.long q3)) (.second) (0 : Int32) w0 w1 w2 w3 w4 w5 h0 n0 Z0 e1_q N1_ (by decide) (by decide) (by exact Nat.le_of_ble_eq_true rfl) (by exact Nat.le_of_ble_eq_true rfl) 
  have z4_ : n0 ≤ h2_.size := Nat.le_trans Z0 K2_.1
  obtain ⟨T3_, h3_, L3_, X3_, e3_, N3_, K3_, st3_⟩ := pcS0 Z a0 hw X2_ hx hZ hby hml hown (.val (.int p0)) i1 i2 (.val (.long q1)) (.second) (.val (.long q2)) (.second) (.val (.long q3)) (.second) (3 : Int32) (0 : Int32) w0 w1 w2 w3 w4 w5 mo_2_ h2_ n0 z4_ e2_ N2_ (by decide) (by decide) (by exact Nat.le_of_ble_eq_true rfl) (by exact Nat.le_of_ble_eq_true rfl) (by decide)
  have e3_q := e3_.trans K3_
  obtain ⟨T5_, h5_, L5_, X5_, e5_, N5_, K5_, st5_⟩ := pcS1 Z a0 hw X3_ hx hZ hby hml hown (.val (.int p0)) i1 i2 (.val (.long q1)) (.second) (.val (.long q2)) (.second) (.val (.long q3)) (.second) (3 : Int32) (0 : Int32) w0 w1 w2 w3 w4 w5 mo_2_ h2_ n0 z4_ e3_q N3_ (by decide) (by decide) (by exact Nat.le_of_ble_eq_true rfl) (by exact Nat.le_of_ble_eq_true rfl) (by decide)
  have e5_q := e5_.trans K5_
  obtain ⟨T6_, h6_, L6_, X6_, e6_, N6_, K6_, st6_⟩ := pcS2 Z a0 hw X5_ hx hZ hby hml hown (.val (.int p0)) i1 i2 (.val (.long q1)) (.second) (.val (.long q2)) (.second) (.val (.long q3)) (.second) (3 : Int32) (0 : Int32) w0 w1 w2 w3 w4 w5 mo_2_ h2_ n0 z4_ e5_q N5_ (by decide) (by decide) (by exact Nat.le_of_ble_eq_true rfl) (by exact Nat.le_of_ble_eq_true rfl) (by decide)
  have e6_q := e6_.trans K6_
  obtain ⟨T7_, h7_, L7_, X7_, e7_, N7_, K7_, st7_⟩ := pcS3 Z a0 hw X6_ hx hZ hby hml hown (.val (.int p0)) i1 i2 (.val (.long q1)) (.second) (.val (.long q2)) (.second) (.val (.long q3)) (.second) (3 : Int32) (0 : Int32) w0 w1 w2 w3 w4 w5 mo_2_ h2_ n0 z4_ e6_q N6_ (by decide) (by decide) (by exact Nat.le_of_ble_eq_true rfl) (by exact Nat.le_of_ble_eq_true rfl) (by decide)
  have e7_q := e7_.trans K7_
  obtain ⟨T8_, h8_, L8_, X8_, e8_, N8_, K8_, st8_⟩ := pcS4 Z a0 hw X7_ hx hZ hby hml hown (.val (.int p0)) i1 i2 (.val (.long q1)) (.second) (.val (.long q2)) (.second) (.val (.long q3)) (.second) (3 : Int32) (0 : Int32) w0 w1 w2 w3 w4 w5 mo_2_ h2_ n0 z4_ e7_q N7_ (by decide) (by decide) (by exact Nat.le_of_ble_eq_true rfl) (by exact Nat.le_of_ble_eq_true rfl) (by decide)
  have e8_q := e8_.trans K8_
  obtain ⟨T9_, h9_, L9_, X9_, e9_, N9_, K9_, st9_⟩ := pcS5 Z a0 hw X8_ hx hZ hby hml hown (.val (.int p0)) i1 i2 (.val (.long q1)) (.second) (.val (.long q2)) (.second) (.val (.long q3)) (.second) (3 : Int32) (0 : Int32) w0 w1 w2 w3 w4 w5 mo_2_ h2_ n0 z4_ e8_q N8_ (by decide) (by decide) (by exact Nat.le_of_ble_eq_true rfl) (by exact Nat.le_of_ble_eq_true rfl) (by decide)
  have e9_q := e9_.trans K9_
  obtain ⟨T10_, h10_, L10_, X10_, e10_, N10_, K10_, st10_⟩ := pcM3 Z a0 hw X9_ hx hZ hby hml hown (.val (.int p0)) i1 i2 (.val (.long q1)) (.second) (.val (.long q2)) (.second) (.val (.long q3)) (.second) (0 : Int32) w0 w1 w2 w3 w4 w5 mo_2_ ta_2_ kc_2_ (i1.toInt64) (i1.toInt64) (i1.toInt64) h2_ n0 z4_ e9_q N9_ (by decide) (by decide) (by exact Nat.le_of_ble_eq_true rfl) (by exact Nat.le_of_ble_eq_true rfl) p2_2 p2_3 p2_5 (own_R.i2l i1) (own_R.i2l i1) (own_R.i2l i1)
  have e10_q := e10_.trans K10_
  have hAB : ((((0 : Int64) + ((i1.toInt64) - (i2.toInt64))) + ((i1.toInt64) - (i2.toInt64))) + ((i1.toInt64) - (i2.toInt64))) = ((((((((((own_maxI (0 : Int32) ((3 : Int32) - (0 : Int32))).toInt64) * (i1.toInt64)) + (own_held (0 : Int32) (0 : Int32) (3 : Int32) w0)) + (own_held (1 : Int32) (0 : Int32) (3 : Int32) w1)) + (own_held (2 : Int32) (0 : Int32) (3 : Int32) w2)) + (own_held (3 : Int32) (0 : Int32) (3 : Int32) w3)) + (own_held (4 : Int32) (0 : Int32) (3 : Int32) w4)) + (own_held (5 : Int32) (0 : Int32) (3 : Int32) w5)) - (((3 : Int32).toInt64) * (i2.toInt64))) := by
    rw [show own_maxI (0 : Int32) ((3 : Int32) - (0 : Int32)) = (3 : Int32) from rfl, show own_held (0 : Int32) (0 : Int32) (3 : Int32) w0 = 0 from rfl, show own_held (1 : Int32) (0 : Int32) (3 : Int32) w1 = 0 from rfl, show own_held (2 : Int32) (0 : Int32) (3 : Int32) w2 = 0 from rfl, show own_held (3 : Int32) (0 : Int32) (3 : Int32) w3 = 0 from rfl, show own_held (4 : Int32) (0 : Int32) (3 : Int32) w4 = 0 from rfl, show own_held (5 : Int32) (0 : Int32) (3 : Int32) w5 = 0 from rfl, show (3 : Int32).toInt64 = 3 from rfl]
    generalize i1.toInt64 = x1, i2.toInt64 = x2, w0.toInt64 = x3, w1.toInt64 = x4, w2.toInt64 = x5, w3.toInt64 = x6, w4.toInt64 = x7, w5.toInt64 = x8
    grind
  obtain ⟨T11_, h11_, L11_, X11_, e11_, N11_, K11_, st11_⟩ := pcB Z a0 hw X10_ hx hZ hby hml hown (.val (.int p0)) i1 i2 (.val (.long q1)) (.second) (.val (.long q2)) (.second) (.val (.long q3)) (.second) (3 : Int32) (0 : Int32) w0 w1 w2 w3 w4 w5 mo_2_ (FP.ddiv (FP.l2d ((((0 : Int64) + ((i1.toInt64) - (i2.toInt64))) + ((i1.toInt64) - (i2.toInt64))) + ((i1.toInt64) - (i2.toInt64)))) (FP.i2d (3 : Int32))) h2_ n0 z4_ e10_q N10_ (by decide) (by decide) (by exact Nat.le_of_ble_eq_true rfl) (by exact Nat.le_of_ble_eq_true rfl) (by decide) (dcmpV_eq (congrArg (fun z => FP.ddiv (FP.l2d z) (FP.i2d (3 : Int32))) hAB) (own_ddiv _ _ (by decide)) .l)
  have e11_q := e11_.trans K11_
  obtain ⟨fs, hr, hrun, hended, hW, hsame⟩ := X11_.leave (v := some (.int (1 : Int32))) (fun h => by first | rfl | (rw [Bd.returns] at h; cases h))
  refine ⟨_, _, pre0 _ ?_, hrun, hended, _, _, rfl, ?_, ⟨_, rfl⟩, hW, hsame.mono (by exact Nat.le_of_ble_eq_true rfl) (by exact Nat.le_of_ble_eq_true rfl)⟩
  · show Steps p.tables e below (s₁.setTop (mkF m 0 #[.val (.int p0), .val (.int i1), .val (.int i2), .val (.long q1), .second, .val (.long q2), .second, .val (.long q3), .second, .unset, .unset, .unset, .unset, .unset, .unset, .unset, .unset, .unset, .unset, .unset, .unset, .unset, .unset, .unset, .unset, .unset] [])) _
    refine st1_ _ ?_
    refine st2_ _ ?_
    refine st3_ _ ?_
    refine st5_ _ ?_
    refine st6_ _ ?_
    refine st7_ _ ?_
    refine st8_ _ ?_
    refine st9_ _ ?_
    refine st10_ _ ?_
    refine st11_ _ ?_
    exact retN X11_ hx (t := .boolean) Bd.returns (by simp) (hb hby at_300) hr
  · show Q_rm0_3_0 Z p0 i1 i2 q1 q2 q3 w0 w1 w2 w3 w4 w5 h0 n0 _ T11_.heap _
    rw [e11_q]
    exact ⟨rfl, N11_⟩
theorem ef_rm0_3_1 (m : MethodId) (x0 : Int32) (x1 : Int32) (x2 : Int32) (x3 : Int64) (x4 : Int64) (x5 : Int64) : entryFrame m #[(.int x0), (.int x1), (.int x2), (.long x3), (.long x4), (.long x5)] maxLocals = mkF m 0 #[.val (.int x0), .val (.int x1), .val (.int x2), .val (.long x3), .second, .val (.long x4), .second, .val (.long x5), .second, .unset, .unset, .unset, .unset, .unset, .unset, .unset, .unset, .unset, .unset, .unset, .unset, .unset, .unset, .unset, .unset, .unset] [] := by first | (simp [entryFrame, mkF, argsToLocals, Value.category, maxLocals]; done) | rfl
def Q_rm0_3_1 (Z : State) (p0 : Int32) (i1 : Int32) (i2 : Int32) (q1 : Int64) (q2 : Int64) (q3 : Int64) (w0 : Int32) (w1 : Int32) (w2 : Int32) (w3 : Int32) (w4 : Int32) (w5 : Int32) (h0 : Heap) (n0 : Nat) (v : Option Value) (h : Heap) (L : List Loc) : Prop := v = some (.int (1 : Int32)) ∧ Fr n0 L
set_option maxRecDepth 65536 in
set_option maxHeartbeats 40000000 in
theorem rm0_3_1 (l : Launch) (Z : State) (a0 : Array Value) (hw : ∀ d ∈ tables_1, d.before a0 Z = true) (ws : List Jvm.Cond) (p0 : Int32) (i1 : Int32) (i2 : Int32) (q1 : Int64) (q2 : Int64) (q3 : Int64) (w0 : Int32) (w1 : Int32) (w2 : Int32) (w3 : Int32) (w4 : Int32) (w5 : Int32) (h0 : Heap) (n0 : Nat) (Z0 : n0 ≤ h0.size) (hn : ((1 : Int32) + (p0 &&& (3 : Int32))) = (3 : Int32)) (hk : (own_minI (((p0.toUInt32 >>> ((2 : Int32) &&& 31).toUInt32).toInt32) &&& (7 : Int32)) (6 : Int32)) = (1 : Int32)) (hw0 : (q1.toInt32) = w0) (hw1 : (((q1.toUInt64 >>> ((32 : Int32) &&& 0x3f).toInt64.toUInt64).toInt64).toInt32) = w1) (hw2 : (q2.toInt32) = w2) (hw3 : (((q2.toUInt64 >>> ((32 : Int32) &&& 0x3f).toInt64.toUInt64).toInt64).toInt32) = w3) (hw4 : (q3.toInt32) = w4) (hw5 : (((q3.toUInt64 >>> ((32 : Int32) &&& 0x3f).toInt64.toUInt64).toInt64).toInt32) = w5) :
    MetFree l x (head1 (Jvm.Cond.code x code maxLocals ret :: ws) room_1) (fun a U => a = #[(.int p0), (.int i1), (.int i2), (.long q1), (.long q2), (.long q3)] ∧ Z.Warmed39 U.vm ∧ U.heap = h0) (fun _ _ _ _ _ => True) (fun _ U o U' => ∃ v L, o = .returned v ∧ Q_rm0_3_1 Z p0 i1 i2 q1 q2 q3 w0 w1 w2 w3 w4 w5 h0 n0 v U'.heap L ∧ FrameEnd U o U' L room_1.cells room_1.slots) := by
  refine MetFree.of_bodySF (plainFor_of_name pn_com_example_whipstill_whipstill_MovingWindowMeanAbovePinLaw) hisR ?_
  intro p e s m args below meth c s₁ Bd hml0 hP hK
  obtain ⟨rfl, hZ, hh⟩ := hP
  have hx := Bd.exec
  have hby := Bd.bytes
  have hml : c.maxLocals = 26 := hml0
  have hown : s.vm.findClass "com/example/whipstill/whipstill/MovingWindowMeanAbovePinLaw" = some m.cls := findClass_of_methodNamed Bd.named
  have hnm := (name_of_methodNamed Bd.named Bd.method).1
  have X0 : Stand p l e room_1 s m #[(.int p0), (.int i1), (.int i2), (.long q1), (.long q2), (.long q3)] below meth c s₁ [] 0 0 := Stand.of_body Bd
  have e0 : s₁.heap = h0 := by rw [← hh, Bd.state]; rfl
  have N0 := Fr.nil n0
  have pre0 : ∀ t, Steps p.tables e below (s₁.setTop (mkF m 0 #[.val (.int p0), .val (.int i1), .val (.int i2), .val (.long q1), .second, .val (.long q2), .second, .val (.long q3), .second, .unset, .unset, .unset, .unset, .unset, .unset, .unset, .unset, .unset, .unset, .unset, .unset, .unset, .unset, .unset, .unset, .unset] [])) t → Steps p.tables e below (s₁.setTop (entryFrame m #[(.int p0), (.int i1), (.int i2), (.long q1), (.long q2), (.long q3)] maxLocals)) t := fun t k => castTop (ef_rm0_3_1 m p0 i1 i2 q1 q2 q3) k
  obtain ⟨T1_, h1_, L1_, X1_, e1_, N1_, K1_, st1_⟩ := pcA Z a0 hw X0 hx hZ hby hml hown p0 i1 i2 q1 q2 q3 (3 : Int32) (1 : Int32) w0 w1 w2 w3 w4 w5 h0 n0 Z0 e0 N0 (by decide) (by decide) (by exact Nat.le_of_ble_eq_true rfl) (by exact Nat.le_of_ble_eq_true rfl) hn hk hw0 hw1 hw2 hw3 hw4 hw5
  have e1_q := e1_.trans K1_
  obtain ⟨T2_, h2_, L2_, mo_2_, ta_2_, kc_2_, X2_, e2_, N2_, K2_, p2_0, p2_1, p2_2, p2_3, p2_4, p2_5, st2_⟩ := pcI3 Z a0 hw X1_ hx hZ hby hml hown (.val (.int p0)) i1 i2 (.val (.long q1)) (.second) (.val (.long q2)) (.second) (.val (.long q3)) (.second) (1 : Int32) w0 w1 w2 w3 w4 w5 h0 n0 Z0 e1_q N1_ (by decide) (by decide) (by exact Nat.le_of_ble_eq_true rfl) (by exact Nat.le_of_ble_eq_true rfl) 
  have z4_ : n0 ≤ h2_.size := Nat.le_trans Z0 K2_.1
  obtain ⟨T3_, h3_, L3_, X3_, e3_, N3_, K3_, p3_0, p3_1, p3_2, p3_3, st3_⟩ := pcT3_0 Z a0 hw X2_ hx hZ hby hml hown (.val (.int p0)) i1 i2 (.val (.long q1)) (.second) (.val (.long q2)) (.second) (.val (.long q3)) (.second) (1 : Int32) w0 w1 w2 w3 w4 w5 mo_2_ ta_2_ kc_2_ (i1.toInt64) (i1.toInt64) (i1.toInt64) h2_ n0 z4_ e2_ N2_ (by decide) (by decide) (by exact Nat.le_of_ble_eq_true rfl) (by exact Nat.le_of_ble_eq_true rfl) (by decide) p2_2 p2_3 p2_4 p2_5 p2_0 p2_1
  have z6_ : n0 ≤ h3_.size := Nat.le_trans z4_ K3_.1
  obtain ⟨T5_, h5_, L5_, X5_, e5_, N5_, K5_, st5_⟩ := pcS1 Z a0 hw X3_ hx hZ hby hml hown (.val (.int p0)) i1 i2 (.val (.long q1)) (.second) (.val (.long q2)) (.second) (.val (.long q3)) (.second) (3 : Int32) (1 : Int32) w0 w1 w2 w3 w4 w5 mo_2_ h3_ n0 z6_ e3_ N3_ (by decide) (by decide) (by exact Nat.le_of_ble_eq_true rfl) (by exact Nat.le_of_ble_eq_true rfl) (by decide)
  have e5_q := e5_.trans K5_
  obtain ⟨T7_, h7_, L7_, X7_, e7_, N7_, K7_, st7_⟩ := pcS2 Z a0 hw X5_ hx hZ hby hml hown (.val (.int p0)) i1 i2 (.val (.long q1)) (.second) (.val (.long q2)) (.second) (.val (.long q3)) (.second) (3 : Int32) (1 : Int32) w0 w1 w2 w3 w4 w5 mo_2_ h3_ n0 z6_ e5_q N5_ (by decide) (by decide) (by exact Nat.le_of_ble_eq_true rfl) (by exact Nat.le_of_ble_eq_true rfl) (by decide)
  have e7_q := e7_.trans K7_
  obtain ⟨T8_, h8_, L8_, X8_, e8_, N8_, K8_, st8_⟩ := pcS3 Z a0 hw X7_ hx hZ hby hml hown (.val (.int p0)) i1 i2 (.val (.long q1)) (.second) (.val (.long q2)) (.second) (.val (.long q3)) (.second) (3 : Int32) (1 : Int32) w0 w1 w2 w3 w4 w5 mo_2_ h3_ n0 z6_ e7_q N7_ (by decide) (by decide) (by exact Nat.le_of_ble_eq_true rfl) (by exact Nat.le_of_ble_eq_true rfl) (by decide)
  have e8_q := e8_.trans K8_
  obtain ⟨T9_, h9_, L9_, X9_, e9_, N9_, K9_, st9_⟩ := pcS4 Z a0 hw X8_ hx hZ hby hml hown (.val (.int p0)) i1 i2 (.val (.long q1)) (.second) (.val (.long q2)) (.second) (.val (.long q3)) (.second) (3 : Int32) (1 : Int32) w0 w1 w2 w3 w4 w5 mo_2_ h3_ n0 z6_ e8_q N8_ (by decide) (by decide) (by exact Nat.le_of_ble_eq_true rfl) (by exact Nat.le_of_ble_eq_true rfl) (by decide)
  have e9_q := e9_.trans K9_
  obtain ⟨T10_, h10_, L10_, X10_, e10_, N10_, K10_, st10_⟩ := pcS5 Z a0 hw X9_ hx hZ hby hml hown (.val (.int p0)) i1 i2 (.val (.long q1)) (.second) (.val (.long q2)) (.second) (.val (.long q3)) (.second) (3 : Int32) (1 : Int32) w0 w1 w2 w3 w4 w5 mo_2_ h3_ n0 z6_ e9_q N9_ (by decide) (by decide) (by exact Nat.le_of_ble_eq_true rfl) (by exact Nat.le_of_ble_eq_true rfl) (by decide)
  have e10_q := e10_.trans K10_
  obtain ⟨T11_, h11_, L11_, X11_, e11_, N11_, K11_, st11_⟩ := pcM3 Z a0 hw X10_ hx hZ hby hml hown (.val (.int p0)) i1 i2 (.val (.long q1)) (.second) (.val (.long q2)) (.second) (.val (.long q3)) (.second) (1 : Int32) w0 w1 w2 w3 w4 w5 mo_2_ ta_2_ kc_2_ (w0.toInt64) (i1.toInt64) (i1.toInt64) h3_ n0 z6_ e10_q N10_ (by decide) (by decide) (by exact Nat.le_of_ble_eq_true rfl) (by exact Nat.le_of_ble_eq_true rfl) p3_0 p3_1 p3_3 (own_R.i2l w0) (own_R.i2l i1) (own_R.i2l i1)
  have e11_q := e11_.trans K11_
  have hAB : ((((0 : Int64) + ((w0.toInt64) - (i2.toInt64))) + ((i1.toInt64) - (i2.toInt64))) + ((i1.toInt64) - (i2.toInt64))) = ((((((((((own_maxI (0 : Int32) ((3 : Int32) - (1 : Int32))).toInt64) * (i1.toInt64)) + (own_held (0 : Int32) (1 : Int32) (3 : Int32) w0)) + (own_held (1 : Int32) (1 : Int32) (3 : Int32) w1)) + (own_held (2 : Int32) (1 : Int32) (3 : Int32) w2)) + (own_held (3 : Int32) (1 : Int32) (3 : Int32) w3)) + (own_held (4 : Int32) (1 : Int32) (3 : Int32) w4)) + (own_held (5 : Int32) (1 : Int32) (3 : Int32) w5)) - (((3 : Int32).toInt64) * (i2.toInt64))) := by
    rw [show own_maxI (0 : Int32) ((3 : Int32) - (1 : Int32)) = (2 : Int32) from rfl, show own_held (0 : Int32) (1 : Int32) (3 : Int32) w0 = w0.toInt64 from rfl, show own_held (1 : Int32) (1 : Int32) (3 : Int32) w1 = 0 from rfl, show own_held (2 : Int32) (1 : Int32) (3 : Int32) w2 = 0 from rfl, show own_held (3 : Int32) (1 : Int32) (3 : Int32) w3 = 0 from rfl, show own_held (4 : Int32) (1 : Int32) (3 : Int32) w4 = 0 from rfl, show own_held (5 : Int32) (1 : Int32) (3 : Int32) w5 = 0 from rfl, show (2 : Int32).toInt64 = 2 from rfl, show (3 : Int32).toInt64 = 3 from rfl]
    generalize i1.toInt64 = x1, i2.toInt64 = x2, w0.toInt64 = x3, w1.toInt64 = x4, w2.toInt64 = x5, w3.toInt64 = x6, w4.toInt64 = x7, w5.toInt64 = x8
    grind
  obtain ⟨T12_, h12_, L12_, X12_, e12_, N12_, K12_, st12_⟩ := pcB Z a0 hw X11_ hx hZ hby hml hown (.val (.int p0)) i1 i2 (.val (.long q1)) (.second) (.val (.long q2)) (.second) (.val (.long q3)) (.second) (3 : Int32) (1 : Int32) w0 w1 w2 w3 w4 w5 mo_2_ (FP.ddiv (FP.l2d ((((0 : Int64) + ((w0.toInt64) - (i2.toInt64))) + ((i1.toInt64) - (i2.toInt64))) + ((i1.toInt64) - (i2.toInt64)))) (FP.i2d (3 : Int32))) h3_ n0 z6_ e11_q N11_ (by decide) (by decide) (by exact Nat.le_of_ble_eq_true rfl) (by exact Nat.le_of_ble_eq_true rfl) (by decide) (dcmpV_eq (congrArg (fun z => FP.ddiv (FP.l2d z) (FP.i2d (3 : Int32))) hAB) (own_ddiv _ _ (by decide)) .l)
  have e12_q := e12_.trans K12_
  obtain ⟨fs, hr, hrun, hended, hW, hsame⟩ := X12_.leave (v := some (.int (1 : Int32))) (fun h => by first | rfl | (rw [Bd.returns] at h; cases h))
  refine ⟨_, _, pre0 _ ?_, hrun, hended, _, _, rfl, ?_, ⟨_, rfl⟩, hW, hsame.mono (by exact Nat.le_of_ble_eq_true rfl) (by exact Nat.le_of_ble_eq_true rfl)⟩
  · show Steps p.tables e below (s₁.setTop (mkF m 0 #[.val (.int p0), .val (.int i1), .val (.int i2), .val (.long q1), .second, .val (.long q2), .second, .val (.long q3), .second, .unset, .unset, .unset, .unset, .unset, .unset, .unset, .unset, .unset, .unset, .unset, .unset, .unset, .unset, .unset, .unset, .unset] [])) _
    refine st1_ _ ?_
    refine st2_ _ ?_
    refine st3_ _ ?_
    refine st5_ _ ?_
    refine st7_ _ ?_
    refine st8_ _ ?_
    refine st9_ _ ?_
    refine st10_ _ ?_
    refine st11_ _ ?_
    refine st12_ _ ?_
    exact retN X12_ hx (t := .boolean) Bd.returns (by simp) (hb hby at_300) hr
  · show Q_rm0_3_1 Z p0 i1 i2 q1 q2 q3 w0 w1 w2 w3 w4 w5 h0 n0 _ T12_.heap _
    rw [e12_q]
    exact ⟨rfl, N12_⟩
theorem ef_rm0_3_2 (m : MethodId) (x0 : Int32) (x1 : Int32) (x2 : Int32) (x3 : Int64) (x4 : Int64) (x5 : Int64) : entryFrame m #[(.int x0), (.int x1), (.int x2), (.long x3), (.long x4), (.long x5)] maxLocals = mkF m 0 #[.val (.int x0), .val (.int x1), .val (.int x2), .val (.long x3), .second, .val (.long x4), .second, .val (.long x5), .second, .unset, .unset, .unset, .unset, .unset, .unset, .unset, .unset, .unset, .unset, .unset, .unset, .unset, .unset, .unset, .unset, .unset] [] := by first | (simp [entryFrame, mkF, argsToLocals, Value.category, maxLocals]; done) | rfl
def Q_rm0_3_2 (Z : State) (p0 : Int32) (i1 : Int32) (i2 : Int32) (q1 : Int64) (q2 : Int64) (q3 : Int64) (w0 : Int32) (w1 : Int32) (w2 : Int32) (w3 : Int32) (w4 : Int32) (w5 : Int32) (h0 : Heap) (n0 : Nat) (v : Option Value) (h : Heap) (L : List Loc) : Prop := v = some (.int (1 : Int32)) ∧ Fr n0 L
set_option maxRecDepth 65536 in
set_option maxHeartbeats 40000000 in
theorem rm0_3_2 (l : Launch) (Z : State) (a0 : Array Value) (hw : ∀ d ∈ tables_1, d.before a0 Z = true) (ws : List Jvm.Cond) (p0 : Int32) (i1 : Int32) (i2 : Int32) (q1 : Int64) (q2 : Int64) (q3 : Int64) (w0 : Int32) (w1 : Int32) (w2 : Int32) (w3 : Int32) (w4 : Int32) (w5 : Int32) (h0 : Heap) (n0 : Nat) (Z0 : n0 ≤ h0.size) (hn : ((1 : Int32) + (p0 &&& (3 : Int32))) = (3 : Int32)) (hk : (own_minI (((p0.toUInt32 >>> ((2 : Int32) &&& 31).toUInt32).toInt32) &&& (7 : Int32)) (6 : Int32)) = (2 : Int32)) (hw0 : (q1.toInt32) = w0) (hw1 : (((q1.toUInt64 >>> ((32 : Int32) &&& 0x3f).toInt64.toUInt64).toInt64).toInt32) = w1) (hw2 : (q2.toInt32) = w2) (hw3 : (((q2.toUInt64 >>> ((32 : Int32) &&& 0x3f).toInt64.toUInt64).toInt64).toInt32) = w3) (hw4 : (q3.toInt32) = w4) (hw5 : (((q3.toUInt64 >>> ((32 : Int32) &&& 0x3f).toInt64.toUInt64).toInt64).toInt32) = w5) :
    MetFree l x (head1 (Jvm.Cond.code x code maxLocals ret :: ws) room_1) (fun a U => a = #[(.int p0), (.int i1), (.int i2), (.long q1), (.long q2), (.long q3)] ∧ Z.Warmed39 U.vm ∧ U.heap = h0) (fun _ _ _ _ _ => True) (fun _ U o U' => ∃ v L, o = .returned v ∧ Q_rm0_3_2 Z p0 i1 i2 q1 q2 q3 w0 w1 w2 w3 w4 w5 h0 n0 v U'.heap L ∧ FrameEnd U o U' L room_1.cells room_1.slots) := by
  refine MetFree.of_bodySF (plainFor_of_name pn_com_example_whipstill_whipstill_MovingWindowMeanAbovePinLaw) hisR ?_
  intro p e s m args below meth c s₁ Bd hml0 hP hK
  obtain ⟨rfl, hZ, hh⟩ := hP
  have hx := Bd.exec
  have hby := Bd.bytes
  have hml : c.maxLocals = 26 := hml0
  have hown : s.vm.findClass "com/example/whipstill/whipstill/MovingWindowMeanAbovePinLaw" = some m.cls := findClass_of_methodNamed Bd.named
  have hnm := (name_of_methodNamed Bd.named Bd.method).1
  have X0 : Stand p l e room_1 s m #[(.int p0), (.int i1), (.int i2), (.long q1), (.long q2), (.long q3)] below meth c s₁ [] 0 0 := Stand.of_body Bd
  have e0 : s₁.heap = h0 := by rw [← hh, Bd.state]; rfl
  have N0 := Fr.nil n0
  have pre0 : ∀ t, Steps p.tables e below (s₁.setTop (mkF m 0 #[.val (.int p0), .val (.int i1), .val (.int i2), .val (.long q1), .second, .val (.long q2), .second, .val (.long q3), .second, .unset, .unset, .unset, .unset, .unset, .unset, .unset, .unset, .unset, .unset, .unset, .unset, .unset, .unset, .unset, .unset, .unset] [])) t → Steps p.tables e below (s₁.setTop (entryFrame m #[(.int p0), (.int i1), (.int i2), (.long q1), (.long q2), (.long q3)] maxLocals)) t := fun t k => castTop (ef_rm0_3_2 m p0 i1 i2 q1 q2 q3) k
  obtain ⟨T1_, h1_, L1_, X1_, e1_, N1_, K1_, st1_⟩ := pcA Z a0 hw X0 hx hZ hby hml hown p0 i1 i2 q1 q2 q3 (3 : Int32) (2 : Int32) w0 w1 w2 w3 w4 w5 h0 n0 Z0 e0 N0 (by decide) (by decide) (by exact Nat.le_of_ble_eq_true rfl) (by exact Nat.le_of_ble_eq_true rfl) hn hk hw0 hw1 hw2 hw3 hw4 hw5
  have e1_q := e1_.trans K1_
  obtain ⟨T2_, h2_, L2_, mo_2_, ta_2_, kc_2_, X2_, e2_, N2_, K2_, p2_0, p2_1, p2_2, p2_3, p2_4, p2_5, st2_⟩ := pcI3 Z a0 hw X1_ hx hZ hby hml hown (.val (.int p0)) i1 i2 (.val (.long q1)) (.second) (.val (.long q2)) (.second) (.val (.long q3)) (.second) (2 : Int32) w0 w1 w2 w3 w4 w5 h0 n0 Z0 e1_q N1_ (by decide) (by decide) (by exact Nat.le_of_ble_eq_true rfl) (by exact Nat.le_of_ble_eq_true rfl) 
  have z4_ : n0 ≤ h2_.size := Nat.le_trans Z0 K2_.1
  obtain ⟨T3_, h3_, L3_, X3_, e3_, N3_, K3_, p3_0, p3_1, p3_2, p3_3, st3_⟩ := pcT3_0 Z a0 hw X2_ hx hZ hby hml hown (.val (.int p0)) i1 i2 (.val (.long q1)) (.second) (.val (.long q2)) (.second) (.val (.long q3)) (.second) (2 : Int32) w0 w1 w2 w3 w4 w5 mo_2_ ta_2_ kc_2_ (i1.toInt64) (i1.toInt64) (i1.toInt64) h2_ n0 z4_ e2_ N2_ (by decide) (by decide) (by exact Nat.le_of_ble_eq_true rfl) (by exact Nat.le_of_ble_eq_true rfl) (by decide) p2_2 p2_3 p2_4 p2_5 p2_0 p2_1
  have z6_ : n0 ≤ h3_.size := Nat.le_trans z4_ K3_.1
  obtain ⟨T5_, h5_, L5_, X5_, e5_, N5_, K5_, p5_0, p5_1, p5_2, p5_3, st5_⟩ := pcT3_1 Z a0 hw X3_ hx hZ hby hml hown (.val (.int p0)) i1 i2 (.val (.long q1)) (.second) (.val (.long q2)) (.second) (.val (.long q3)) (.second) (2 : Int32) w0 w1 w2 w3 w4 w5 mo_2_ ta_2_ kc_2_ (w0.toInt64) (i1.toInt64) (i1.toInt64) h3_ n0 z6_ e3_ N3_ (by decide) (by decide) (by exact Nat.le_of_ble_eq_true rfl) (by exact Nat.le_of_ble_eq_true rfl) (by decide) p3_0 p3_1 p3_2 p3_3 p2_0 p2_1
  have z8_ : n0 ≤ h5_.size := Nat.le_trans z6_ K5_.1
  obtain ⟨T7_, h7_, L7_, X7_, e7_, N7_, K7_, st7_⟩ := pcS2 Z a0 hw X5_ hx hZ hby hml hown (.val (.int p0)) i1 i2 (.val (.long q1)) (.second) (.val (.long q2)) (.second) (.val (.long q3)) (.second) (3 : Int32) (2 : Int32) w0 w1 w2 w3 w4 w5 mo_2_ h5_ n0 z8_ e5_ N5_ (by decide) (by decide) (by exact Nat.le_of_ble_eq_true rfl) (by exact Nat.le_of_ble_eq_true rfl) (by decide)
  have e7_q := e7_.trans K7_
  obtain ⟨T9_, h9_, L9_, X9_, e9_, N9_, K9_, st9_⟩ := pcS3 Z a0 hw X7_ hx hZ hby hml hown (.val (.int p0)) i1 i2 (.val (.long q1)) (.second) (.val (.long q2)) (.second) (.val (.long q3)) (.second) (3 : Int32) (2 : Int32) w0 w1 w2 w3 w4 w5 mo_2_ h5_ n0 z8_ e7_q N7_ (by decide) (by decide) (by exact Nat.le_of_ble_eq_true rfl) (by exact Nat.le_of_ble_eq_true rfl) (by decide)
  have e9_q := e9_.trans K9_
  obtain ⟨T10_, h10_, L10_, X10_, e10_, N10_, K10_, st10_⟩ := pcS4 Z a0 hw X9_ hx hZ hby hml hown (.val (.int p0)) i1 i2 (.val (.long q1)) (.second) (.val (.long q2)) (.second) (.val (.long q3)) (.second) (3 : Int32) (2 : Int32) w0 w1 w2 w3 w4 w5 mo_2_ h5_ n0 z8_ e9_q N9_ (by decide) (by decide) (by exact Nat.le_of_ble_eq_true rfl) (by exact Nat.le_of_ble_eq_true rfl) (by decide)
  have e10_q := e10_.trans K10_
  obtain ⟨T11_, h11_, L11_, X11_, e11_, N11_, K11_, st11_⟩ := pcS5 Z a0 hw X10_ hx hZ hby hml hown (.val (.int p0)) i1 i2 (.val (.long q1)) (.second) (.val (.long q2)) (.second) (.val (.long q3)) (.second) (3 : Int32) (2 : Int32) w0 w1 w2 w3 w4 w5 mo_2_ h5_ n0 z8_ e10_q N10_ (by decide) (by decide) (by exact Nat.le_of_ble_eq_true rfl) (by exact Nat.le_of_ble_eq_true rfl) (by decide)
  have e11_q := e11_.trans K11_
  obtain ⟨T12_, h12_, L12_, X12_, e12_, N12_, K12_, st12_⟩ := pcM3 Z a0 hw X11_ hx hZ hby hml hown (.val (.int p0)) i1 i2 (.val (.long q1)) (.second) (.val (.long q2)) (.second) (.val (.long q3)) (.second) (2 : Int32) w0 w1 w2 w3 w4 w5 mo_2_ ta_2_ kc_2_ (w0.toInt64) (w1.toInt64) (i1.toInt64) h5_ n0 z8_ e11_q N11_ (by decide) (by decide) (by exact Nat.le_of_ble_eq_true rfl) (by exact Nat.le_of_ble_eq_true rfl) p5_0 p5_1 p5_3 (own_R.i2l w0) (own_R.i2l w1) (own_R.i2l i1)
  have e12_q := e12_.trans K12_
  have hAB : ((((0 : Int64) + ((w0.toInt64) - (i2.toInt64))) + ((w1.toInt64) - (i2.toInt64))) + ((i1.toInt64) - (i2.toInt64))) = ((((((((((own_maxI (0 : Int32) ((3 : Int32) - (2 : Int32))).toInt64) * (i1.toInt64)) + (own_held (0 : Int32) (2 : Int32) (3 : Int32) w0)) + (own_held (1 : Int32) (2 : Int32) (3 : Int32) w1)) + (own_held (2 : Int32) (2 : Int32) (3 : Int32) w2)) + (own_held (3 : Int32) (2 : Int32) (3 : Int32) w3)) + (own_held (4 : Int32) (2 : Int32) (3 : Int32) w4)) + (own_held (5 : Int32) (2 : Int32) (3 : Int32) w5)) - (((3 : Int32).toInt64) * (i2.toInt64))) := by
    rw [show own_maxI (0 : Int32) ((3 : Int32) - (2 : Int32)) = (1 : Int32) from rfl, show own_held (0 : Int32) (2 : Int32) (3 : Int32) w0 = w0.toInt64 from rfl, show own_held (1 : Int32) (2 : Int32) (3 : Int32) w1 = w1.toInt64 from rfl, show own_held (2 : Int32) (2 : Int32) (3 : Int32) w2 = 0 from rfl, show own_held (3 : Int32) (2 : Int32) (3 : Int32) w3 = 0 from rfl, show own_held (4 : Int32) (2 : Int32) (3 : Int32) w4 = 0 from rfl, show own_held (5 : Int32) (2 : Int32) (3 : Int32) w5 = 0 from rfl, show (1 : Int32).toInt64 = 1 from rfl, show (3 : Int32).toInt64 = 3 from rfl]
    generalize i1.toInt64 = x1, i2.toInt64 = x2, w0.toInt64 = x3, w1.toInt64 = x4, w2.toInt64 = x5, w3.toInt64 = x6, w4.toInt64 = x7, w5.toInt64 = x8
    grind
  obtain ⟨T13_, h13_, L13_, X13_, e13_, N13_, K13_, st13_⟩ := pcB Z a0 hw X12_ hx hZ hby hml hown (.val (.int p0)) i1 i2 (.val (.long q1)) (.second) (.val (.long q2)) (.second) (.val (.long q3)) (.second) (3 : Int32) (2 : Int32) w0 w1 w2 w3 w4 w5 mo_2_ (FP.ddiv (FP.l2d ((((0 : Int64) + ((w0.toInt64) - (i2.toInt64))) + ((w1.toInt64) - (i2.toInt64))) + ((i1.toInt64) - (i2.toInt64)))) (FP.i2d (3 : Int32))) h5_ n0 z8_ e12_q N12_ (by decide) (by decide) (by exact Nat.le_of_ble_eq_true rfl) (by exact Nat.le_of_ble_eq_true rfl) (by decide) (dcmpV_eq (congrArg (fun z => FP.ddiv (FP.l2d z) (FP.i2d (3 : Int32))) hAB) (own_ddiv _ _ (by decide)) .l)
  have e13_q := e13_.trans K13_
  obtain ⟨fs, hr, hrun, hended, hW, hsame⟩ := X13_.leave (v := some (.int (1 : Int32))) (fun h => by first | rfl | (rw [Bd.returns] at h; cases h))
  refine ⟨_, _, pre0 _ ?_, hrun, hended, _, _, rfl, ?_, ⟨_, rfl⟩, hW, hsame.mono (by exact Nat.le_of_ble_eq_true rfl) (by exact Nat.le_of_ble_eq_true rfl)⟩
  · show Steps p.tables e below (s₁.setTop (mkF m 0 #[.val (.int p0), .val (.int i1), .val (.int i2), .val (.long q1), .second, .val (.long q2), .second, .val (.long q3), .second, .unset, .unset, .unset, .unset, .unset, .unset, .unset, .unset, .unset, .unset, .unset, .unset, .unset, .unset, .unset, .unset, .unset] [])) _
    refine st1_ _ ?_
    refine st2_ _ ?_
    refine st3_ _ ?_
    refine st5_ _ ?_
    refine st7_ _ ?_
    refine st9_ _ ?_
    refine st10_ _ ?_
    refine st11_ _ ?_
    refine st12_ _ ?_
    refine st13_ _ ?_
    exact retN X13_ hx (t := .boolean) Bd.returns (by simp) (hb hby at_300) hr
  · show Q_rm0_3_2 Z p0 i1 i2 q1 q2 q3 w0 w1 w2 w3 w4 w5 h0 n0 _ T13_.heap _
    rw [e13_q]
    exact ⟨rfl, N13_⟩
theorem ef_rm0_3_3 (m : MethodId) (x0 : Int32) (x1 : Int32) (x2 : Int32) (x3 : Int64) (x4 : Int64) (x5 : Int64) : entryFrame m #[(.int x0), (.int x1), (.int x2), (.long x3), (.long x4), (.long x5)] maxLocals = mkF m 0 #[.val (.int x0), .val (.int x1), .val (.int x2), .val (.long x3), .second, .val (.long x4), .second, .val (.long x5), .second, .unset, .unset, .unset, .unset, .unset, .unset, .unset, .unset, .unset, .unset, .unset, .unset, .unset, .unset, .unset, .unset, .unset] [] := by first | (simp [entryFrame, mkF, argsToLocals, Value.category, maxLocals]; done) | rfl
def Q_rm0_3_3 (Z : State) (p0 : Int32) (i1 : Int32) (i2 : Int32) (q1 : Int64) (q2 : Int64) (q3 : Int64) (w0 : Int32) (w1 : Int32) (w2 : Int32) (w3 : Int32) (w4 : Int32) (w5 : Int32) (h0 : Heap) (n0 : Nat) (v : Option Value) (h : Heap) (L : List Loc) : Prop := v = some (.int (1 : Int32)) ∧ Fr n0 L
set_option maxRecDepth 65536 in
set_option maxHeartbeats 40000000 in
theorem rm0_3_3 (l : Launch) (Z : State) (a0 : Array Value) (hw : ∀ d ∈ tables_1, d.before a0 Z = true) (ws : List Jvm.Cond) (p0 : Int32) (i1 : Int32) (i2 : Int32) (q1 : Int64) (q2 : Int64) (q3 : Int64) (w0 : Int32) (w1 : Int32) (w2 : Int32) (w3 : Int32) (w4 : Int32) (w5 : Int32) (h0 : Heap) (n0 : Nat) (Z0 : n0 ≤ h0.size) (hn : ((1 : Int32) + (p0 &&& (3 : Int32))) = (3 : Int32)) (hk : (own_minI (((p0.toUInt32 >>> ((2 : Int32) &&& 31).toUInt32).toInt32) &&& (7 : Int32)) (6 : Int32)) = (3 : Int32)) (hw0 : (q1.toInt32) = w0) (hw1 : (((q1.toUInt64 >>> ((32 : Int32) &&& 0x3f).toInt64.toUInt64).toInt64).toInt32) = w1) (hw2 : (q2.toInt32) = w2) (hw3 : (((q2.toUInt64 >>> ((32 : Int32) &&& 0x3f).toInt64.toUInt64).toInt64).toInt32) = w3) (hw4 : (q3.toInt32) = w4) (hw5 : (((q3.toUInt64 >>> ((32 : Int32) &&& 0x3f).toInt64.toUInt64).toInt64).toInt32) = w5) :
    MetFree l x (head1 (Jvm.Cond.code x code maxLocals ret :: ws) room_1) (fun a U => a = #[(.int p0), (.int i1), (.int i2), (.long q1), (.long q2), (.long q3)] ∧ Z.Warmed39 U.vm ∧ U.heap = h0) (fun _ _ _ _ _ => True) (fun _ U o U' => ∃ v L, o = .returned v ∧ Q_rm0_3_3 Z p0 i1 i2 q1 q2 q3 w0 w1 w2 w3 w4 w5 h0 n0 v U'.heap L ∧ FrameEnd U o U' L room_1.cells room_1.slots) := by
  refine MetFree.of_bodySF (plainFor_of_name pn_com_example_whipstill_whipstill_MovingWindowMeanAbovePinLaw) hisR ?_
  intro p e s m args below meth c s₁ Bd hml0 hP hK
  obtain ⟨rfl, hZ, hh⟩ := hP
  have hx := Bd.exec
  have hby := Bd.bytes
  have hml : c.maxLocals = 26 := hml0
  have hown : s.vm.findClass "com/example/whipstill/whipstill/MovingWindowMeanAbovePinLaw" = some m.cls := findClass_of_methodNamed Bd.named
  have hnm := (name_of_methodNamed Bd.named Bd.method).1
  have X0 : Stand p l e room_1 s m #[(.int p0), (.int i1), (.int i2), (.long q1), (.long q2), (.long q3)] below meth c s₁ [] 0 0 := Stand.of_body Bd
  have e0 : s₁.heap = h0 := by rw [← hh, Bd.state]; rfl
  have N0 := Fr.nil n0
  have pre0 : ∀ t, Steps p.tables e below (s₁.setTop (mkF m 0 #[.val (.int p0), .val (.int i1), .val (.int i2), .val (.long q1), .second, .val (.long q2), .second, .val (.long q3), .second, .unset, .unset, .unset, .unset, .unset, .unset, .unset, .unset, .unset, .unset, .unset, .unset, .unset, .unset, .unset, .unset, .unset] [])) t → Steps p.tables e below (s₁.setTop (entryFrame m #[(.int p0), (.int i1), (.int i2), (.long q1), (.long q2), (.long q3)] maxLocals)) t := fun t k => castTop (ef_rm0_3_3 m p0 i1 i2 q1 q2 q3) k
  obtain ⟨T1_, h1_, L1_, X1_, e1_, N1_, K1_, st1_⟩ := pcA Z a0 hw X0 hx hZ hby hml hown p0 i1 i2 q1 q2 q3 (3 : Int32) (3 : Int32) w0 w1 w2 w3 w4 w5 h0 n0 Z0 e0 N0 (by decide) (by decide) (by exact Nat.le_of_ble_eq_true rfl) (by exact Nat.le_of_ble_eq_true rfl) hn hk hw0 hw1 hw2 hw3 hw4 hw5
  have e1_q := e1_.trans K1_
  obtain ⟨T2_, h2_, L2_, mo_2_, ta_2_, kc_2_, X2_, e2_, N2_, K2_, p2_0, p2_1, p2_2, p2_3, p2_4, p2_5, st2_⟩ := pcI3 Z a0 hw X1_ hx hZ hby hml hown (.val (.int p0)) i1 i2 (.val (.long q1)) (.second) (.val (.long q2)) (.second) (.val (.long q3)) (.second) (3 : Int32) w0 w1 w2 w3 w4 w5 h0 n0 Z0 e1_q N1_ (by decide) (by decide) (by exact Nat.le_of_ble_eq_true rfl) (by exact Nat.le_of_ble_eq_true rfl) 
  have z4_ : n0 ≤ h2_.size := Nat.le_trans Z0 K2_.1
  obtain ⟨T3_, h3_, L3_, X3_, e3_, N3_, K3_, p3_0, p3_1, p3_2, p3_3, st3_⟩ := pcT3_0 Z a0 hw X2_ hx hZ hby hml hown (.val (.int p0)) i1 i2 (.val (.long q1)) (.second) (.val (.long q2)) (.second) (.val (.long q3)) (.second) (3 : Int32) w0 w1 w2 w3 w4 w5 mo_2_ ta_2_ kc_2_ (i1.toInt64) (i1.toInt64) (i1.toInt64) h2_ n0 z4_ e2_ N2_ (by decide) (by decide) (by exact Nat.le_of_ble_eq_true rfl) (by exact Nat.le_of_ble_eq_true rfl) (by decide) p2_2 p2_3 p2_4 p2_5 p2_0 p2_1
  have z6_ : n0 ≤ h3_.size := Nat.le_trans z4_ K3_.1
  obtain ⟨T5_, h5_, L5_, X5_, e5_, N5_, K5_, p5_0, p5_1, p5_2, p5_3, st5_⟩ := pcT3_1 Z a0 hw X3_ hx hZ hby hml hown (.val (.int p0)) i1 i2 (.val (.long q1)) (.second) (.val (.long q2)) (.second) (.val (.long q3)) (.second) (3 : Int32) w0 w1 w2 w3 w4 w5 mo_2_ ta_2_ kc_2_ (w0.toInt64) (i1.toInt64) (i1.toInt64) h3_ n0 z6_ e3_ N3_ (by decide) (by decide) (by exact Nat.le_of_ble_eq_true rfl) (by exact Nat.le_of_ble_eq_true rfl) (by decide) p3_0 p3_1 p3_2 p3_3 p2_0 p2_1
  have z8_ : n0 ≤ h5_.size := Nat.le_trans z6_ K5_.1
  obtain ⟨T7_, h7_, L7_, X7_, e7_, N7_, K7_, p7_0, p7_1, p7_2, p7_3, st7_⟩ := pcT3_2 Z a0 hw X5_ hx hZ hby hml hown (.val (.int p0)) i1 i2 (.val (.long q1)) (.second) (.val (.long q2)) (.second) (.val (.long q3)) (.second) (3 : Int32) w0 w1 w2 w3 w4 w5 mo_2_ ta_2_ kc_2_ (w0.toInt64) (w1.toInt64) (i1.toInt64) h5_ n0 z8_ e5_ N5_ (by decide) (by decide) (by exact Nat.le_of_ble_eq_true rfl) (by exact Nat.le_of_ble_eq_true rfl) (by decide) p5_0 p5_1 p5_2 p5_3 p2_0 p2_1
  have z10_ : n0 ≤ h7_.size := Nat.le_trans z8_ K7_.1
  obtain ⟨T9_, h9_, L9_, X9_, e9_, N9_, K9_, st9_⟩ := pcS3 Z a0 hw X7_ hx hZ hby hml hown (.val (.int p0)) i1 i2 (.val (.long q1)) (.second) (.val (.long q2)) (.second) (.val (.long q3)) (.second) (3 : Int32) (3 : Int32) w0 w1 w2 w3 w4 w5 mo_2_ h7_ n0 z10_ e7_ N7_ (by decide) (by decide) (by exact Nat.le_of_ble_eq_true rfl) (by exact Nat.le_of_ble_eq_true rfl) (by decide)
  have e9_q := e9_.trans K9_
  obtain ⟨T11_, h11_, L11_, X11_, e11_, N11_, K11_, st11_⟩ := pcS4 Z a0 hw X9_ hx hZ hby hml hown (.val (.int p0)) i1 i2 (.val (.long q1)) (.second) (.val (.long q2)) (.second) (.val (.long q3)) (.second) (3 : Int32) (3 : Int32) w0 w1 w2 w3 w4 w5 mo_2_ h7_ n0 z10_ e9_q N9_ (by decide) (by decide) (by exact Nat.le_of_ble_eq_true rfl) (by exact Nat.le_of_ble_eq_true rfl) (by decide)
  have e11_q := e11_.trans K11_
  obtain ⟨T12_, h12_, L12_, X12_, e12_, N12_, K12_, st12_⟩ := pcS5 Z a0 hw X11_ hx hZ hby hml hown (.val (.int p0)) i1 i2 (.val (.long q1)) (.second) (.val (.long q2)) (.second) (.val (.long q3)) (.second) (3 : Int32) (3 : Int32) w0 w1 w2 w3 w4 w5 mo_2_ h7_ n0 z10_ e11_q N11_ (by decide) (by decide) (by exact Nat.le_of_ble_eq_true rfl) (by exact Nat.le_of_ble_eq_true rfl) (by decide)
  have e12_q := e12_.trans K12_
  obtain ⟨T13_, h13_, L13_, X13_, e13_, N13_, K13_, st13_⟩ := pcM3 Z a0 hw X12_ hx hZ hby hml hown (.val (.int p0)) i1 i2 (.val (.long q1)) (.second) (.val (.long q2)) (.second) (.val (.long q3)) (.second) (3 : Int32) w0 w1 w2 w3 w4 w5 mo_2_ ta_2_ kc_2_ (w0.toInt64) (w1.toInt64) (w2.toInt64) h7_ n0 z10_ e12_q N12_ (by decide) (by decide) (by exact Nat.le_of_ble_eq_true rfl) (by exact Nat.le_of_ble_eq_true rfl) p7_0 p7_1 p7_3 (own_R.i2l w0) (own_R.i2l w1) (own_R.i2l w2)
  have e13_q := e13_.trans K13_
  have hAB : ((((0 : Int64) + ((w0.toInt64) - (i2.toInt64))) + ((w1.toInt64) - (i2.toInt64))) + ((w2.toInt64) - (i2.toInt64))) = ((((((((((own_maxI (0 : Int32) ((3 : Int32) - (3 : Int32))).toInt64) * (i1.toInt64)) + (own_held (0 : Int32) (3 : Int32) (3 : Int32) w0)) + (own_held (1 : Int32) (3 : Int32) (3 : Int32) w1)) + (own_held (2 : Int32) (3 : Int32) (3 : Int32) w2)) + (own_held (3 : Int32) (3 : Int32) (3 : Int32) w3)) + (own_held (4 : Int32) (3 : Int32) (3 : Int32) w4)) + (own_held (5 : Int32) (3 : Int32) (3 : Int32) w5)) - (((3 : Int32).toInt64) * (i2.toInt64))) := by
    rw [show own_maxI (0 : Int32) ((3 : Int32) - (3 : Int32)) = (0 : Int32) from rfl, show own_held (0 : Int32) (3 : Int32) (3 : Int32) w0 = w0.toInt64 from rfl, show own_held (1 : Int32) (3 : Int32) (3 : Int32) w1 = w1.toInt64 from rfl, show own_held (2 : Int32) (3 : Int32) (3 : Int32) w2 = w2.toInt64 from rfl, show own_held (3 : Int32) (3 : Int32) (3 : Int32) w3 = 0 from rfl, show own_held (4 : Int32) (3 : Int32) (3 : Int32) w4 = 0 from rfl, show own_held (5 : Int32) (3 : Int32) (3 : Int32) w5 = 0 from rfl, show (0 : Int32).toInt64 = 0 from rfl, show (3 : Int32).toInt64 = 3 from rfl]
    generalize i1.toInt64 = x1, i2.toInt64 = x2, w0.toInt64 = x3, w1.toInt64 = x4, w2.toInt64 = x5, w3.toInt64 = x6, w4.toInt64 = x7, w5.toInt64 = x8
    grind
  obtain ⟨T14_, h14_, L14_, X14_, e14_, N14_, K14_, st14_⟩ := pcB Z a0 hw X13_ hx hZ hby hml hown (.val (.int p0)) i1 i2 (.val (.long q1)) (.second) (.val (.long q2)) (.second) (.val (.long q3)) (.second) (3 : Int32) (3 : Int32) w0 w1 w2 w3 w4 w5 mo_2_ (FP.ddiv (FP.l2d ((((0 : Int64) + ((w0.toInt64) - (i2.toInt64))) + ((w1.toInt64) - (i2.toInt64))) + ((w2.toInt64) - (i2.toInt64)))) (FP.i2d (3 : Int32))) h7_ n0 z10_ e13_q N13_ (by decide) (by decide) (by exact Nat.le_of_ble_eq_true rfl) (by exact Nat.le_of_ble_eq_true rfl) (by decide) (dcmpV_eq (congrArg (fun z => FP.ddiv (FP.l2d z) (FP.i2d (3 : Int32))) hAB) (own_ddiv _ _ (by decide)) .l)
  have e14_q := e14_.trans K14_
  obtain ⟨fs, hr, hrun, hended, hW, hsame⟩ := X14_.leave (v := some (.int (1 : Int32))) (fun h => by first | rfl | (rw [Bd.returns] at h; cases h))
  refine ⟨_, _, pre0 _ ?_, hrun, hended, _, _, rfl, ?_, ⟨_, rfl⟩, hW, hsame.mono (by exact Nat.le_of_ble_eq_true rfl) (by exact Nat.le_of_ble_eq_true rfl)⟩
  · show Steps p.tables e below (s₁.setTop (mkF m 0 #[.val (.int p0), .val (.int i1), .val (.int i2), .val (.long q1), .second, .val (.long q2), .second, .val (.long q3), .second, .unset, .unset, .unset, .unset, .unset, .unset, .unset, .unset, .unset, .unset, .unset, .unset, .unset, .unset, .unset, .unset, .unset] [])) _
    refine st1_ _ ?_
    refine st2_ _ ?_
    refine st3_ _ ?_
    refine st5_ _ ?_
    refine st7_ _ ?_
    refine st9_ _ ?_
    refine st11_ _ ?_
    refine st12_ _ ?_
    refine st13_ _ ?_
    refine st14_ _ ?_
    exact retN X14_ hx (t := .boolean) Bd.returns (by simp) (hb hby at_300) hr
  · show Q_rm0_3_3 Z p0 i1 i2 q1 q2 q3 w0 w1 w2 w3 w4 w5 h0 n0 _ T14_.heap _
    rw [e14_q]
    exact ⟨rfl, N14_⟩
theorem ef_rm0_3_4 (m : MethodId) (x0 : Int32) (x1 : Int32) (x2 : Int32) (x3 : Int64) (x4 : Int64) (x5 : Int64) : entryFrame m #[(.int x0), (.int x1), (.int x2), (.long x3), (.long x4), (.long x5)] maxLocals = mkF m 0 #[.val (.int x0), .val (.int x1), .val (.int x2), .val (.long x3), .second, .val (.long x4), .second, .val (.long x5), .second, .unset, .unset, .unset, .unset, .unset, .unset, .unset, .unset, .unset, .unset, .unset, .unset, .unset, .unset, .unset, .unset, .unset] [] := by first | (simp [entryFrame, mkF, argsToLocals, Value.category, maxLocals]; done) | rfl
def Q_rm0_3_4 (Z : State) (p0 : Int32) (i1 : Int32) (i2 : Int32) (q1 : Int64) (q2 : Int64) (q3 : Int64) (w0 : Int32) (w1 : Int32) (w2 : Int32) (w3 : Int32) (w4 : Int32) (w5 : Int32) (h0 : Heap) (n0 : Nat) (v : Option Value) (h : Heap) (L : List Loc) : Prop := v = some (.int (1 : Int32)) ∧ Fr n0 L
set_option maxRecDepth 65536 in
set_option maxHeartbeats 40000000 in
theorem rm0_3_4 (l : Launch) (Z : State) (a0 : Array Value) (hw : ∀ d ∈ tables_1, d.before a0 Z = true) (ws : List Jvm.Cond) (p0 : Int32) (i1 : Int32) (i2 : Int32) (q1 : Int64) (q2 : Int64) (q3 : Int64) (w0 : Int32) (w1 : Int32) (w2 : Int32) (w3 : Int32) (w4 : Int32) (w5 : Int32) (h0 : Heap) (n0 : Nat) (Z0 : n0 ≤ h0.size) (hn : ((1 : Int32) + (p0 &&& (3 : Int32))) = (3 : Int32)) (hk : (own_minI (((p0.toUInt32 >>> ((2 : Int32) &&& 31).toUInt32).toInt32) &&& (7 : Int32)) (6 : Int32)) = (4 : Int32)) (hw0 : (q1.toInt32) = w0) (hw1 : (((q1.toUInt64 >>> ((32 : Int32) &&& 0x3f).toInt64.toUInt64).toInt64).toInt32) = w1) (hw2 : (q2.toInt32) = w2) (hw3 : (((q2.toUInt64 >>> ((32 : Int32) &&& 0x3f).toInt64.toUInt64).toInt64).toInt32) = w3) (hw4 : (q3.toInt32) = w4) (hw5 : (((q3.toUInt64 >>> ((32 : Int32) &&& 0x3f).toInt64.toUInt64).toInt64).toInt32) = w5) :
    MetFree l x (head1 (Jvm.Cond.code x code maxLocals ret :: ws) room_1) (fun a U => a = #[(.int p0), (.int i1), (.int i2), (.long q1), (.long q2), (.long q3)] ∧ Z.Warmed39 U.vm ∧ U.heap = h0) (fun _ _ _ _ _ => True) (fun _ U o U' => ∃ v L, o = .returned v ∧ Q_rm0_3_4 Z p0 i1 i2 q1 q2 q3 w0 w1 w2 w3 w4 w5 h0 n0 v U'.heap L ∧ FrameEnd U o U' L room_1.cells room_1.slots) := by
  refine MetFree.of_bodySF (plainFor_of_name pn_com_example_whipstill_whipstill_MovingWindowMeanAbovePinLaw) hisR ?_
  intro p e s m args below meth c s₁ Bd hml0 hP hK
  obtain ⟨rfl, hZ, hh⟩ := hP
  have hx := Bd.exec
  have hby := Bd.bytes
  have hml : c.maxLocals = 26 := hml0
  have hown : s.vm.findClass "com/example/whipstill/whipstill/MovingWindowMeanAbovePinLaw" = some m.cls := findClass_of_methodNamed Bd.named
  have hnm := (name_of_methodNamed Bd.named Bd.method).1
  have X0 : Stand p l e room_1 s m #[(.int p0), (.int i1), (.int i2), (.long q1), (.long q2), (.long q3)] below meth c s₁ [] 0 0 := Stand.of_body Bd
  have e0 : s₁.heap = h0 := by rw [← hh, Bd.state]; rfl
  have N0 := Fr.nil n0
  have pre0 : ∀ t, Steps p.tables e below (s₁.setTop (mkF m 0 #[.val (.int p0), .val (.int i1), .val (.int i2), .val (.long q1), .second, .val (.long q2), .second, .val (.long q3), .second, .unset, .unset, .unset, .unset, .unset, .unset, .unset, .unset, .unset, .unset, .unset, .unset, .unset, .unset, .unset, .unset, .unset] [])) t → Steps p.tables e below (s₁.setTop (entryFrame m #[(.int p0), (.int i1), (.int i2), (.long q1), (.long q2), (.long q3)] maxLocals)) t := fun t k => castTop (ef_rm0_3_4 m p0 i1 i2 q1 q2 q3) k
  obtain ⟨T1_, h1_, L1_, X1_, e1_, N1_, K1_, st1_⟩ := pcA Z a0 hw X0 hx hZ hby hml hown p0 i1 i2 q1 q2 q3 (3 : Int32) (4 : Int32) w0 w1 w2 w3 w4 w5 h0 n0 Z0 e0 N0 (by decide) (by decide) (by exact Nat.le_of_ble_eq_true rfl) (by exact Nat.le_of_ble_eq_true rfl) hn hk hw0 hw1 hw2 hw3 hw4 hw5
  have e1_q := e1_.trans K1_
  obtain ⟨T2_, h2_, L2_, mo_2_, ta_2_, kc_2_, X2_, e2_, N2_, K2_, p2_0, p2_1, p2_2, p2_3, p2_4, p2_5, st2_⟩ := pcI3 Z a0 hw X1_ hx hZ hby hml hown (.val (.int p0)) i1 i2 (.val (.long q1)) (.second) (.val (.long q2)) (.second) (.val (.long q3)) (.second) (4 : Int32) w0 w1 w2 w3 w4 w5 h0 n0 Z0 e1_q N1_ (by decide) (by decide) (by exact Nat.le_of_ble_eq_true rfl) (by exact Nat.le_of_ble_eq_true rfl) 
  have z4_ : n0 ≤ h2_.size := Nat.le_trans Z0 K2_.1
  obtain ⟨T3_, h3_, L3_, X3_, e3_, N3_, K3_, p3_0, p3_1, p3_2, p3_3, st3_⟩ := pcT3_0 Z a0 hw X2_ hx hZ hby hml hown (.val (.int p0)) i1 i2 (.val (.long q1)) (.second) (.val (.long q2)) (.second) (.val (.long q3)) (.second) (4 : Int32) w0 w1 w2 w3 w4 w5 mo_2_ ta_2_ kc_2_ (i1.toInt64) (i1.toInt64) (i1.toInt64) h2_ n0 z4_ e2_ N2_ (by decide) (by decide) (by exact Nat.le_of_ble_eq_true rfl) (by exact Nat.le_of_ble_eq_true rfl) (by decide) p2_2 p2_3 p2_4 p2_5 p2_0 p2_1
  have z6_ : n0 ≤ h3_.size := Nat.le_trans z4_ K3_.1
  obtain ⟨T5_, h5_, L5_, X5_, e5_, N5_, K5_, p5_0, p5_1, p5_2, p5_3, st5_⟩ := pcT3_1 Z a0 hw X3_ hx hZ hby hml hown (.val (.int p0)) i1 i2 (.val (.long q1)) (.second) (.val (.long q2)) (.second) (.val (.long q3)) (.second) (4 : Int32) w0 w1 w2 w3 w4 w5 mo_2_ ta_2_ kc_2_ (w0.toInt64) (i1.toInt64) (i1.toInt64) h3_ n0 z6_ e3_ N3_ (by decide) (by decide) (by exact Nat.le_of_ble_eq_true rfl) (by exact Nat.le_of_ble_eq_true rfl) (by decide) p3_0 p3_1 p3_2 p3_3 p2_0 p2_1
  have z8_ : n0 ≤ h5_.size := Nat.le_trans z6_ K5_.1
  obtain ⟨T7_, h7_, L7_, X7_, e7_, N7_, K7_, p7_0, p7_1, p7_2, p7_3, st7_⟩ := pcT3_2 Z a0 hw X5_ hx hZ hby hml hown (.val (.int p0)) i1 i2 (.val (.long q1)) (.second) (.val (.long q2)) (.second) (.val (.long q3)) (.second) (4 : Int32) w0 w1 w2 w3 w4 w5 mo_2_ ta_2_ kc_2_ (w0.toInt64) (w1.toInt64) (i1.toInt64) h5_ n0 z8_ e5_ N5_ (by decide) (by decide) (by exact Nat.le_of_ble_eq_true rfl) (by exact Nat.le_of_ble_eq_true rfl) (by decide) p5_0 p5_1 p5_2 p5_3 p2_0 p2_1
  have z10_ : n0 ≤ h7_.size := Nat.le_trans z8_ K7_.1
  obtain ⟨T9_, h9_, L9_, X9_, e9_, N9_, K9_, p9_0, p9_1, p9_2, p9_3, st9_⟩ := pcT3_3 Z a0 hw X7_ hx hZ hby hml hown (.val (.int p0)) i1 i2 (.val (.long q1)) (.second) (.val (.long q2)) (.second) (.val (.long q3)) (.second) (4 : Int32) w0 w1 w2 w3 w4 w5 mo_2_ ta_2_ kc_2_ (w0.toInt64) (w1.toInt64) (w2.toInt64) h7_ n0 z10_ e7_ N7_ (by decide) (by decide) (by exact Nat.le_of_ble_eq_true rfl) (by exact Nat.le_of_ble_eq_true rfl) (by decide) p7_0 p7_1 p7_2 p7_3 p2_0 p2_1
  have z12_ : n0 ≤ h9_.size := Nat.le_trans z10_ K9_.1
  obtain ⟨T11_, h11_, L11_, X11_, e11_, N11_, K11_, st11_⟩ := pcS4 Z a0 hw X9_ hx hZ hby hml hown (.val (.int p0)) i1 i2 (.val (.long q1)) (.second) (.val (.long q2)) (.second) (.val (.long q3)) (.second) (3 : Int32) (4 : Int32) w0 w1 w2 w3 w4 w5 mo_2_ h9_ n0 z12_ e9_ N9_ (by decide) (by decide) (by exact Nat.le_of_ble_eq_true rfl) (by exact Nat.le_of_ble_eq_true rfl) (by decide)
  have e11_q := e11_.trans K11_
  obtain ⟨T13_, h13_, L13_, X13_, e13_, N13_, K13_, st13_⟩ := pcS5 Z a0 hw X11_ hx hZ hby hml hown (.val (.int p0)) i1 i2 (.val (.long q1)) (.second) (.val (.long q2)) (.second) (.val (.long q3)) (.second) (3 : Int32) (4 : Int32) w0 w1 w2 w3 w4 w5 mo_2_ h9_ n0 z12_ e11_q N11_ (by decide) (by decide) (by exact Nat.le_of_ble_eq_true rfl) (by exact Nat.le_of_ble_eq_true rfl) (by decide)
  have e13_q := e13_.trans K13_
  obtain ⟨T14_, h14_, L14_, X14_, e14_, N14_, K14_, st14_⟩ := pcM3 Z a0 hw X13_ hx hZ hby hml hown (.val (.int p0)) i1 i2 (.val (.long q1)) (.second) (.val (.long q2)) (.second) (.val (.long q3)) (.second) (4 : Int32) w0 w1 w2 w3 w4 w5 mo_2_ ta_2_ kc_2_ (w3.toInt64) (w1.toInt64) (w2.toInt64) h9_ n0 z12_ e13_q N13_ (by decide) (by decide) (by exact Nat.le_of_ble_eq_true rfl) (by exact Nat.le_of_ble_eq_true rfl) p9_0 p9_1 p9_3 (own_R.i2l w3) (own_R.i2l w1) (own_R.i2l w2)
  have e14_q := e14_.trans K14_
  have hAB : ((((0 : Int64) + ((w3.toInt64) - (i2.toInt64))) + ((w1.toInt64) - (i2.toInt64))) + ((w2.toInt64) - (i2.toInt64))) = ((((((((((own_maxI (0 : Int32) ((3 : Int32) - (4 : Int32))).toInt64) * (i1.toInt64)) + (own_held (0 : Int32) (4 : Int32) (3 : Int32) w0)) + (own_held (1 : Int32) (4 : Int32) (3 : Int32) w1)) + (own_held (2 : Int32) (4 : Int32) (3 : Int32) w2)) + (own_held (3 : Int32) (4 : Int32) (3 : Int32) w3)) + (own_held (4 : Int32) (4 : Int32) (3 : Int32) w4)) + (own_held (5 : Int32) (4 : Int32) (3 : Int32) w5)) - (((3 : Int32).toInt64) * (i2.toInt64))) := by
    rw [show own_maxI (0 : Int32) ((3 : Int32) - (4 : Int32)) = (0 : Int32) from rfl, show own_held (0 : Int32) (4 : Int32) (3 : Int32) w0 = 0 from rfl, show own_held (1 : Int32) (4 : Int32) (3 : Int32) w1 = w1.toInt64 from rfl, show own_held (2 : Int32) (4 : Int32) (3 : Int32) w2 = w2.toInt64 from rfl, show own_held (3 : Int32) (4 : Int32) (3 : Int32) w3 = w3.toInt64 from rfl, show own_held (4 : Int32) (4 : Int32) (3 : Int32) w4 = 0 from rfl, show own_held (5 : Int32) (4 : Int32) (3 : Int32) w5 = 0 from rfl, show (0 : Int32).toInt64 = 0 from rfl, show (3 : Int32).toInt64 = 3 from rfl]
    generalize i1.toInt64 = x1, i2.toInt64 = x2, w0.toInt64 = x3, w1.toInt64 = x4, w2.toInt64 = x5, w3.toInt64 = x6, w4.toInt64 = x7, w5.toInt64 = x8
    grind
  obtain ⟨T15_, h15_, L15_, X15_, e15_, N15_, K15_, st15_⟩ := pcB Z a0 hw X14_ hx hZ hby hml hown (.val (.int p0)) i1 i2 (.val (.long q1)) (.second) (.val (.long q2)) (.second) (.val (.long q3)) (.second) (3 : Int32) (4 : Int32) w0 w1 w2 w3 w4 w5 mo_2_ (FP.ddiv (FP.l2d ((((0 : Int64) + ((w3.toInt64) - (i2.toInt64))) + ((w1.toInt64) - (i2.toInt64))) + ((w2.toInt64) - (i2.toInt64)))) (FP.i2d (3 : Int32))) h9_ n0 z12_ e14_q N14_ (by decide) (by decide) (by exact Nat.le_of_ble_eq_true rfl) (by exact Nat.le_of_ble_eq_true rfl) (by decide) (dcmpV_eq (congrArg (fun z => FP.ddiv (FP.l2d z) (FP.i2d (3 : Int32))) hAB) (own_ddiv _ _ (by decide)) .l)
  have e15_q := e15_.trans K15_
  obtain ⟨fs, hr, hrun, hended, hW, hsame⟩ := X15_.leave (v := some (.int (1 : Int32))) (fun h => by first | rfl | (rw [Bd.returns] at h; cases h))
  refine ⟨_, _, pre0 _ ?_, hrun, hended, _, _, rfl, ?_, ⟨_, rfl⟩, hW, hsame.mono (by exact Nat.le_of_ble_eq_true rfl) (by exact Nat.le_of_ble_eq_true rfl)⟩
  · show Steps p.tables e below (s₁.setTop (mkF m 0 #[.val (.int p0), .val (.int i1), .val (.int i2), .val (.long q1), .second, .val (.long q2), .second, .val (.long q3), .second, .unset, .unset, .unset, .unset, .unset, .unset, .unset, .unset, .unset, .unset, .unset, .unset, .unset, .unset, .unset, .unset, .unset] [])) _
    refine st1_ _ ?_
    refine st2_ _ ?_
    refine st3_ _ ?_
    refine st5_ _ ?_
    refine st7_ _ ?_
    refine st9_ _ ?_
    refine st11_ _ ?_
    refine st13_ _ ?_
    refine st14_ _ ?_
    refine st15_ _ ?_
    exact retN X15_ hx (t := .boolean) Bd.returns (by simp) (hb hby at_300) hr
  · show Q_rm0_3_4 Z p0 i1 i2 q1 q2 q3 w0 w1 w2 w3 w4 w5 h0 n0 _ T15_.heap _
    rw [e15_q]
    exact ⟨rfl, N15_⟩
theorem ef_rm0_3_5 (m : MethodId) (x0 : Int32) (x1 : Int32) (x2 : Int32) (x3 : Int64) (x4 : Int64) (x5 : Int64) : entryFrame m #[(.int x0), (.int x1), (.int x2), (.long x3), (.long x4), (.long x5)] maxLocals = mkF m 0 #[.val (.int x0), .val (.int x1), .val (.int x2), .val (.long x3), .second, .val (.long x4), .second, .val (.long x5), .second, .unset, .unset, .unset, .unset, .unset, .unset, .unset, .unset, .unset, .unset, .unset, .unset, .unset, .unset, .unset, .unset, .unset] [] := by first | (simp [entryFrame, mkF, argsToLocals, Value.category, maxLocals]; done) | rfl
def Q_rm0_3_5 (Z : State) (p0 : Int32) (i1 : Int32) (i2 : Int32) (q1 : Int64) (q2 : Int64) (q3 : Int64) (w0 : Int32) (w1 : Int32) (w2 : Int32) (w3 : Int32) (w4 : Int32) (w5 : Int32) (h0 : Heap) (n0 : Nat) (v : Option Value) (h : Heap) (L : List Loc) : Prop := v = some (.int (1 : Int32)) ∧ Fr n0 L
set_option maxRecDepth 65536 in
set_option maxHeartbeats 40000000 in
theorem rm0_3_5 (l : Launch) (Z : State) (a0 : Array Value) (hw : ∀ d ∈ tables_1, d.before a0 Z = true) (ws : List Jvm.Cond) (p0 : Int32) (i1 : Int32) (i2 : Int32) (q1 : Int64) (q2 : Int64) (q3 : Int64) (w0 : Int32) (w1 : Int32) (w2 : Int32) (w3 : Int32) (w4 : Int32) (w5 : Int32) (h0 : Heap) (n0 : Nat) (Z0 : n0 ≤ h0.size) (hn : ((1 : Int32) + (p0 &&& (3 : Int32))) = (3 : Int32)) (hk : (own_minI (((p0.toUInt32 >>> ((2 : Int32) &&& 31).toUInt32).toInt32) &&& (7 : Int32)) (6 : Int32)) = (5 : Int32)) (hw0 : (q1.toInt32) = w0) (hw1 : (((q1.toUInt64 >>> ((32 : Int32) &&& 0x3f).toInt64.toUInt64).toInt64).toInt32) = w1) (hw2 : (q2.toInt32) = w2) (hw3 : (((q2.toUInt64 >>> ((32 : Int32) &&& 0x3f).toInt64.toUInt64).toInt64).toInt32) = w3) (hw4 : (q3.toInt32) = w4) (hw5 : (((q3.toUInt64 >>> ((32 : Int32) &&& 0x3f).toInt64.toUInt64).toInt64).toInt32) = w5) :
    MetFree l x (head1 (Jvm.Cond.code x code maxLocals ret :: ws) room_1) (fun a U => a = #[(.int p0), (.int i1), (.int i2), (.long q1), (.long q2), (.long q3)] ∧ Z.Warmed39 U.vm ∧ U.heap = h0) (fun _ _ _ _ _ => True) (fun _ U o U' => ∃ v L, o = .returned v ∧ Q_rm0_3_5 Z p0 i1 i2 q1 q2 q3 w0 w1 w2 w3 w4 w5 h0 n0 v U'.heap L ∧ FrameEnd U o U' L room_1.cells room_1.slots) := by
  refine MetFree.of_bodySF (plainFor_of_name pn_com_example_whipstill_whipstill_MovingWindowMeanAbovePinLaw) hisR ?_
  intro p e s m args below meth c s₁ Bd hml0 hP hK
  obtain ⟨rfl, hZ, hh⟩ := hP
  have hx := Bd.exec
  have hby := Bd.bytes
  have hml : c.maxLocals = 26 := hml0
  have hown : s.vm.findClass "com/example/whipstill/whipstill/MovingWindowMeanAbovePinLaw" = some m.cls := findClass_of_methodNamed Bd.named
  have hnm := (name_of_methodNamed Bd.named Bd.method).1
  have X0 : Stand p l e room_1 s m #[(.int p0), (.int i1), (.int i2), (.long q1), (.long q2), (.long q3)] below meth c s₁ [] 0 0 := Stand.of_body Bd
  have e0 : s₁.heap = h0 := by rw [← hh, Bd.state]; rfl
  have N0 := Fr.nil n0
  have pre0 : ∀ t, Steps p.tables e below (s₁.setTop (mkF m 0 #[.val (.int p0), .val (.int i1), .val (.int i2), .val (.long q1), .second, .val (.long q2), .second, .val (.long q3), .second, .unset, .unset, .unset, .unset, .unset, .unset, .unset, .unset, .unset, .unset, .unset, .unset, .unset, .unset, .unset, .unset, .unset] [])) t → Steps p.tables e below (s₁.setTop (entryFrame m #[(.int p0), (.int i1), (.int i2), (.long q1), (.long q2), (.long q3)] maxLocals)) t := fun t k => castTop (ef_rm0_3_5 m p0 i1 i2 q1 q2 q3) k
  obtain ⟨T1_, h1_, L1_, X1_, e1_, N1_, K1_, st1_⟩ := pcA Z a0 hw X0 hx hZ hby hml hown p0 i1 i2 q1 q2 q3 (3 : Int32) (5 : Int32) w0 w1 w2 w3 w4 w5 h0 n0 Z0 e0 N0 (by decide) (by decide) (by exact Nat.le_of_ble_eq_true rfl) (by exact Nat.le_of_ble_eq_true rfl) hn hk hw0 hw1 hw2 hw3 hw4 hw5
  have e1_q := e1_.trans K1_
  obtain ⟨T2_, h2_, L2_, mo_2_, ta_2_, kc_2_, X2_, e2_, N2_, K2_, p2_0, p2_1, p2_2, p2_3, p2_4, p2_5, st2_⟩ := pcI3 Z a0 hw X1_ hx hZ hby hml hown (.val (.int p0)) i1 i2 (.val (.long q1)) (.second) (.val (.long q2)) (.second) (.val (.long q3)) (.second) (5 : Int32) w0 w1 w2 w3 w4 w5 h0 n0 Z0 e1_q N1_ (by decide) (by decide) (by exact Nat.le_of_ble_eq_true rfl) (by exact Nat.le_of_ble_eq_true rfl) 
  have z4_ : n0 ≤ h2_.size := Nat.le_trans Z0 K2_.1
  obtain ⟨T3_, h3_, L3_, X3_, e3_, N3_, K3_, p3_0, p3_1, p3_2, p3_3, st3_⟩ := pcT3_0 Z a0 hw X2_ hx hZ hby hml hown (.val (.int p0)) i1 i2 (.val (.long q1)) (.second) (.val (.long q2)) (.second) (.val (.long q3)) (.second) (5 : Int32) w0 w1 w2 w3 w4 w5 mo_2_ ta_2_ kc_2_ (i1.toInt64) (i1.toInt64) (i1.toInt64) h2_ n0 z4_ e2_ N2_ (by decide) (by decide) (by exact Nat.le_of_ble_eq_true rfl) (by exact Nat.le_of_ble_eq_true rfl) (by decide) p2_2 p2_3 p2_4 p2_5 p2_0 p2_1
  have z6_ : n0 ≤ h3_.size := Nat.le_trans z4_ K3_.1
  obtain ⟨T5_, h5_, L5_, X5_, e5_, N5_, K5_, p5_0, p5_1, p5_2, p5_3, st5_⟩ := pcT3_1 Z a0 hw X3_ hx hZ hby hml hown (.val (.int p0)) i1 i2 (.val (.long q1)) (.second) (.val (.long q2)) (.second) (.val (.long q3)) (.second) (5 : Int32) w0 w1 w2 w3 w4 w5 mo_2_ ta_2_ kc_2_ (w0.toInt64) (i1.toInt64) (i1.toInt64) h3_ n0 z6_ e3_ N3_ (by decide) (by decide) (by exact Nat.le_of_ble_eq_true rfl) (by exact Nat.le_of_ble_eq_true rfl) (by decide) p3_0 p3_1 p3_2 p3_3 p2_0 p2_1
  have z8_ : n0 ≤ h5_.size := Nat.le_trans z6_ K5_.1
  obtain ⟨T7_, h7_, L7_, X7_, e7_, N7_, K7_, p7_0, p7_1, p7_2, p7_3, st7_⟩ := pcT3_2 Z a0 hw X5_ hx hZ hby hml hown (.val (.int p0)) i1 i2 (.val (.long q1)) (.second) (.val (.long q2)) (.second) (.val (.long q3)) (.second) (5 : Int32) w0 w1 w2 w3 w4 w5 mo_2_ ta_2_ kc_2_ (w0.toInt64) (w1.toInt64) (i1.toInt64) h5_ n0 z8_ e5_ N5_ (by decide) (by decide) (by exact Nat.le_of_ble_eq_true rfl) (by exact Nat.le_of_ble_eq_true rfl) (by decide) p5_0 p5_1 p5_2 p5_3 p2_0 p2_1
  have z10_ : n0 ≤ h7_.size := Nat.le_trans z8_ K7_.1
  obtain ⟨T9_, h9_, L9_, X9_, e9_, N9_, K9_, p9_0, p9_1, p9_2, p9_3, st9_⟩ := pcT3_3 Z a0 hw X7_ hx hZ hby hml hown (.val (.int p0)) i1 i2 (.val (.long q1)) (.second) (.val (.long q2)) (.second) (.val (.long q3)) (.second) (5 : Int32) w0 w1 w2 w3 w4 w5 mo_2_ ta_2_ kc_2_ (w0.toInt64) (w1.toInt64) (w2.toInt64) h7_ n0 z10_ e7_ N7_ (by decide) (by decide) (by exact Nat.le_of_ble_eq_true rfl) (by exact Nat.le_of_ble_eq_true rfl) (by decide) p7_0 p7_1 p7_2 p7_3 p2_0 p2_1
  have z12_ : n0 ≤ h9_.size := Nat.le_trans z10_ K9_.1
  obtain ⟨T11_, h11_, L11_, X11_, e11_, N11_, K11_, p11_0, p11_1, p11_2, p11_3, st11_⟩ := pcT3_4 Z a0 hw X9_ hx hZ hby hml hown (.val (.int p0)) i1 i2 (.val (.long q1)) (.second) (.val (.long q2)) (.second) (.val (.long q3)) (.second) (5 : Int32) w0 w1 w2 w3 w4 w5 mo_2_ ta_2_ kc_2_ (w3.toInt64) (w1.toInt64) (w2.toInt64) h9_ n0 z12_ e9_ N9_ (by decide) (by decide) (by exact Nat.le_of_ble_eq_true rfl) (by exact Nat.le_of_ble_eq_true rfl) (by decide) p9_0 p9_1 p9_2 p9_3 p2_0 p2_1
  have z14_ : n0 ≤ h11_.size := Nat.le_trans z12_ K11_.1
  obtain ⟨T13_, h13_, L13_, X13_, e13_, N13_, K13_, st13_⟩ := pcS5 Z a0 hw X11_ hx hZ hby hml hown (.val (.int p0)) i1 i2 (.val (.long q1)) (.second) (.val (.long q2)) (.second) (.val (.long q3)) (.second) (3 : Int32) (5 : Int32) w0 w1 w2 w3 w4 w5 mo_2_ h11_ n0 z14_ e11_ N11_ (by decide) (by decide) (by exact Nat.le_of_ble_eq_true rfl) (by exact Nat.le_of_ble_eq_true rfl) (by decide)
  have e13_q := e13_.trans K13_
  obtain ⟨T15_, h15_, L15_, X15_, e15_, N15_, K15_, st15_⟩ := pcM3 Z a0 hw X13_ hx hZ hby hml hown (.val (.int p0)) i1 i2 (.val (.long q1)) (.second) (.val (.long q2)) (.second) (.val (.long q3)) (.second) (5 : Int32) w0 w1 w2 w3 w4 w5 mo_2_ ta_2_ kc_2_ (w3.toInt64) (w4.toInt64) (w2.toInt64) h11_ n0 z14_ e13_q N13_ (by decide) (by decide) (by exact Nat.le_of_ble_eq_true rfl) (by exact Nat.le_of_ble_eq_true rfl) p11_0 p11_1 p11_3 (own_R.i2l w3) (own_R.i2l w4) (own_R.i2l w2)
  have e15_q := e15_.trans K15_
  have hAB : ((((0 : Int64) + ((w3.toInt64) - (i2.toInt64))) + ((w4.toInt64) - (i2.toInt64))) + ((w2.toInt64) - (i2.toInt64))) = ((((((((((own_maxI (0 : Int32) ((3 : Int32) - (5 : Int32))).toInt64) * (i1.toInt64)) + (own_held (0 : Int32) (5 : Int32) (3 : Int32) w0)) + (own_held (1 : Int32) (5 : Int32) (3 : Int32) w1)) + (own_held (2 : Int32) (5 : Int32) (3 : Int32) w2)) + (own_held (3 : Int32) (5 : Int32) (3 : Int32) w3)) + (own_held (4 : Int32) (5 : Int32) (3 : Int32) w4)) + (own_held (5 : Int32) (5 : Int32) (3 : Int32) w5)) - (((3 : Int32).toInt64) * (i2.toInt64))) := by
    rw [show own_maxI (0 : Int32) ((3 : Int32) - (5 : Int32)) = (0 : Int32) from rfl, show own_held (0 : Int32) (5 : Int32) (3 : Int32) w0 = 0 from rfl, show own_held (1 : Int32) (5 : Int32) (3 : Int32) w1 = 0 from rfl, show own_held (2 : Int32) (5 : Int32) (3 : Int32) w2 = w2.toInt64 from rfl, show own_held (3 : Int32) (5 : Int32) (3 : Int32) w3 = w3.toInt64 from rfl, show own_held (4 : Int32) (5 : Int32) (3 : Int32) w4 = w4.toInt64 from rfl, show own_held (5 : Int32) (5 : Int32) (3 : Int32) w5 = 0 from rfl, show (0 : Int32).toInt64 = 0 from rfl, show (3 : Int32).toInt64 = 3 from rfl]
    generalize i1.toInt64 = x1, i2.toInt64 = x2, w0.toInt64 = x3, w1.toInt64 = x4, w2.toInt64 = x5, w3.toInt64 = x6, w4.toInt64 = x7, w5.toInt64 = x8
    grind
  obtain ⟨T16_, h16_, L16_, X16_, e16_, N16_, K16_, st16_⟩ := pcB Z a0 hw X15_ hx hZ hby hml hown (.val (.int p0)) i1 i2 (.val (.long q1)) (.second) (.val (.long q2)) (.second) (.val (.long q3)) (.second) (3 : Int32) (5 : Int32) w0 w1 w2 w3 w4 w5 mo_2_ (FP.ddiv (FP.l2d ((((0 : Int64) + ((w3.toInt64) - (i2.toInt64))) + ((w4.toInt64) - (i2.toInt64))) + ((w2.toInt64) - (i2.toInt64)))) (FP.i2d (3 : Int32))) h11_ n0 z14_ e15_q N15_ (by decide) (by decide) (by exact Nat.le_of_ble_eq_true rfl) (by exact Nat.le_of_ble_eq_true rfl) (by decide) (dcmpV_eq (congrArg (fun z => FP.ddiv (FP.l2d z) (FP.i2d (3 : Int32))) hAB) (own_ddiv _ _ (by decide)) .l)
  have e16_q := e16_.trans K16_
  obtain ⟨fs, hr, hrun, hended, hW, hsame⟩ := X16_.leave (v := some (.int (1 : Int32))) (fun h => by first | rfl | (rw [Bd.returns] at h; cases h))
  refine ⟨_, _, pre0 _ ?_, hrun, hended, _, _, rfl, ?_, ⟨_, rfl⟩, hW, hsame.mono (by exact Nat.le_of_ble_eq_true rfl) (by exact Nat.le_of_ble_eq_true rfl)⟩
  · show Steps p.tables e below (s₁.setTop (mkF m 0 #[.val (.int p0), .val (.int i1), .val (.int i2), .val (.long q1), .second, .val (.long q2), .second, .val (.long q3), .second, .unset, .unset, .unset, .unset, .unset, .unset, .unset, .unset, .unset, .unset, .unset, .unset, .unset, .unset, .unset, .unset, .unset] [])) _
    refine st1_ _ ?_
    refine st2_ _ ?_
    refine st3_ _ ?_
    refine st5_ _ ?_
    refine st7_ _ ?_
    refine st9_ _ ?_
    refine st11_ _ ?_
    refine st13_ _ ?_
    refine st15_ _ ?_
    refine st16_ _ ?_
    exact retN X16_ hx (t := .boolean) Bd.returns (by simp) (hb hby at_300) hr
  · show Q_rm0_3_5 Z p0 i1 i2 q1 q2 q3 w0 w1 w2 w3 w4 w5 h0 n0 _ T16_.heap _
    rw [e16_q]
    exact ⟨rfl, N16_⟩
theorem ef_rm0_3_6 (m : MethodId) (x0 : Int32) (x1 : Int32) (x2 : Int32) (x3 : Int64) (x4 : Int64) (x5 : Int64) : entryFrame m #[(.int x0), (.int x1), (.int x2), (.long x3), (.long x4), (.long x5)] maxLocals = mkF m 0 #[.val (.int x0), .val (.int x1), .val (.int x2), .val (.long x3), .second, .val (.long x4), .second, .val (.long x5), .second, .unset, .unset, .unset, .unset, .unset, .unset, .unset, .unset, .unset, .unset, .unset, .unset, .unset, .unset, .unset, .unset, .unset] [] := by first | (simp [entryFrame, mkF, argsToLocals, Value.category, maxLocals]; done) | rfl
def Q_rm0_3_6 (Z : State) (p0 : Int32) (i1 : Int32) (i2 : Int32) (q1 : Int64) (q2 : Int64) (q3 : Int64) (w0 : Int32) (w1 : Int32) (w2 : Int32) (w3 : Int32) (w4 : Int32) (w5 : Int32) (h0 : Heap) (n0 : Nat) (v : Option Value) (h : Heap) (L : List Loc) : Prop := v = some (.int (1 : Int32)) ∧ Fr n0 L
set_option maxRecDepth 65536 in
set_option maxHeartbeats 40000000 in
theorem rm0_3_6 (l : Launch) (Z : State) (a0 : Array Value) (hw : ∀ d ∈ tables_1, d.before a0 Z = true) (ws : List Jvm.Cond) (p0 : Int32) (i1 : Int32) (i2 : Int32) (q1 : Int64) (q2 : Int64) (q3 : Int64) (w0 : Int32) (w1 : Int32) (w2 : Int32) (w3 : Int32) (w4 : Int32) (w5 : Int32) (h0 : Heap) (n0 : Nat) (Z0 : n0 ≤ h0.size) (hn : ((1 : Int32) + (p0 &&& (3 : Int32))) = (3 : Int32)) (hk : (own_minI (((p0.toUInt32 >>> ((2 : Int32) &&& 31).toUInt32).toInt32) &&& (7 : Int32)) (6 : Int32)) = (6 : Int32)) (hw0 : (q1.toInt32) = w0) (hw1 : (((q1.toUInt64 >>> ((32 : Int32) &&& 0x3f).toInt64.toUInt64).toInt64).toInt32) = w1) (hw2 : (q2.toInt32) = w2) (hw3 : (((q2.toUInt64 >>> ((32 : Int32) &&& 0x3f).toInt64.toUInt64).toInt64).toInt32) = w3) (hw4 : (q3.toInt32) = w4) (hw5 : (((q3.toUInt64 >>> ((32 : Int32) &&& 0x3f).toInt64.toUInt64).toInt64).toInt32) = w5) :
    MetFree l x (head1 (Jvm.Cond.code x code maxLocals ret :: ws) room_1) (fun a U => a = #[(.int p0), (.int i1), (.int i2), (.long q1), (.long q2), (.long q3)] ∧ Z.Warmed39 U.vm ∧ U.heap = h0) (fun _ _ _ _ _ => True) (fun _ U o U' => ∃ v L, o = .returned v ∧ Q_rm0_3_6 Z p0 i1 i2 q1 q2 q3 w0 w1 w2 w3 w4 w5 h0 n0 v U'.heap L ∧ FrameEnd U o U' L room_1.cells room_1.slots) := by
  refine MetFree.of_bodySF (plainFor_of_name pn_com_example_whipstill_whipstill_MovingWindowMeanAbovePinLaw) hisR ?_
  intro p e s m args below meth c s₁ Bd hml0 hP hK
  obtain ⟨rfl, hZ, hh⟩ := hP
  have hx := Bd.exec
  have hby := Bd.bytes
  have hml : c.maxLocals = 26 := hml0
  have hown : s.vm.findClass "com/example/whipstill/whipstill/MovingWindowMeanAbovePinLaw" = some m.cls := findClass_of_methodNamed Bd.named
  have hnm := (name_of_methodNamed Bd.named Bd.method).1
  have X0 : Stand p l e room_1 s m #[(.int p0), (.int i1), (.int i2), (.long q1), (.long q2), (.long q3)] below meth c s₁ [] 0 0 := Stand.of_body Bd
  have e0 : s₁.heap = h0 := by rw [← hh, Bd.state]; rfl
  have N0 := Fr.nil n0
  have pre0 : ∀ t, Steps p.tables e below (s₁.setTop (mkF m 0 #[.val (.int p0), .val (.int i1), .val (.int i2), .val (.long q1), .second, .val (.long q2), .second, .val (.long q3), .second, .unset, .unset, .unset, .unset, .unset, .unset, .unset, .unset, .unset, .unset, .unset, .unset, .unset, .unset, .unset, .unset, .unset] [])) t → Steps p.tables e below (s₁.setTop (entryFrame m #[(.int p0), (.int i1), (.int i2), (.long q1), (.long q2), (.long q3)] maxLocals)) t := fun t k => castTop (ef_rm0_3_6 m p0 i1 i2 q1 q2 q3) k
  obtain ⟨T1_, h1_, L1_, X1_, e1_, N1_, K1_, st1_⟩ := pcA Z a0 hw X0 hx hZ hby hml hown p0 i1 i2 q1 q2 q3 (3 : Int32) (6 : Int32) w0 w1 w2 w3 w4 w5 h0 n0 Z0 e0 N0 (by decide) (by decide) (by exact Nat.le_of_ble_eq_true rfl) (by exact Nat.le_of_ble_eq_true rfl) hn hk hw0 hw1 hw2 hw3 hw4 hw5
  have e1_q := e1_.trans K1_
  obtain ⟨T2_, h2_, L2_, mo_2_, ta_2_, kc_2_, X2_, e2_, N2_, K2_, p2_0, p2_1, p2_2, p2_3, p2_4, p2_5, st2_⟩ := pcI3 Z a0 hw X1_ hx hZ hby hml hown (.val (.int p0)) i1 i2 (.val (.long q1)) (.second) (.val (.long q2)) (.second) (.val (.long q3)) (.second) (6 : Int32) w0 w1 w2 w3 w4 w5 h0 n0 Z0 e1_q N1_ (by decide) (by decide) (by exact Nat.le_of_ble_eq_true rfl) (by exact Nat.le_of_ble_eq_true rfl) 
  have z4_ : n0 ≤ h2_.size := Nat.le_trans Z0 K2_.1
  obtain ⟨T3_, h3_, L3_, X3_, e3_, N3_, K3_, p3_0, p3_1, p3_2, p3_3, st3_⟩ := pcT3_0 Z a0 hw X2_ hx hZ hby hml hown (.val (.int p0)) i1 i2 (.val (.long q1)) (.second) (.val (.long q2)) (.second) (.val (.long q3)) (.second) (6 : Int32) w0 w1 w2 w3 w4 w5 mo_2_ ta_2_ kc_2_ (i1.toInt64) (i1.toInt64) (i1.toInt64) h2_ n0 z4_ e2_ N2_ (by decide) (by decide) (by exact Nat.le_of_ble_eq_true rfl) (by exact Nat.le_of_ble_eq_true rfl) (by decide) p2_2 p2_3 p2_4 p2_5 p2_0 p2_1
  have z6_ : n0 ≤ h3_.size := Nat.le_trans z4_ K3_.1
  obtain ⟨T5_, h5_, L5_, X5_, e5_, N5_, K5_, p5_0, p5_1, p5_2, p5_3, st5_⟩ := pcT3_1 Z a0 hw X3_ hx hZ hby hml hown (.val (.int p0)) i1 i2 (.val (.long q1)) (.second) (.val (.long q2)) (.second) (.val (.long q3)) (.second) (6 : Int32) w0 w1 w2 w3 w4 w5 mo_2_ ta_2_ kc_2_ (w0.toInt64) (i1.toInt64) (i1.toInt64) h3_ n0 z6_ e3_ N3_ (by decide) (by decide) (by exact Nat.le_of_ble_eq_true rfl) (by exact Nat.le_of_ble_eq_true rfl) (by decide) p3_0 p3_1 p3_2 p3_3 p2_0 p2_1
  have z8_ : n0 ≤ h5_.size := Nat.le_trans z6_ K5_.1
  obtain ⟨T7_, h7_, L7_, X7_, e7_, N7_, K7_, p7_0, p7_1, p7_2, p7_3, st7_⟩ := pcT3_2 Z a0 hw X5_ hx hZ hby hml hown (.val (.int p0)) i1 i2 (.val (.long q1)) (.second) (.val (.long q2)) (.second) (.val (.long q3)) (.second) (6 : Int32) w0 w1 w2 w3 w4 w5 mo_2_ ta_2_ kc_2_ (w0.toInt64) (w1.toInt64) (i1.toInt64) h5_ n0 z8_ e5_ N5_ (by decide) (by decide) (by exact Nat.le_of_ble_eq_true rfl) (by exact Nat.le_of_ble_eq_true rfl) (by decide) p5_0 p5_1 p5_2 p5_3 p2_0 p2_1
  have z10_ : n0 ≤ h7_.size := Nat.le_trans z8_ K7_.1
  obtain ⟨T9_, h9_, L9_, X9_, e9_, N9_, K9_, p9_0, p9_1, p9_2, p9_3, st9_⟩ := pcT3_3 Z a0 hw X7_ hx hZ hby hml hown (.val (.int p0)) i1 i2 (.val (.long q1)) (.second) (.val (.long q2)) (.second) (.val (.long q3)) (.second) (6 : Int32) w0 w1 w2 w3 w4 w5 mo_2_ ta_2_ kc_2_ (w0.toInt64) (w1.toInt64) (w2.toInt64) h7_ n0 z10_ e7_ N7_ (by decide) (by decide) (by exact Nat.le_of_ble_eq_true rfl) (by exact Nat.le_of_ble_eq_true rfl) (by decide) p7_0 p7_1 p7_2 p7_3 p2_0 p2_1
  have z12_ : n0 ≤ h9_.size := Nat.le_trans z10_ K9_.1
  obtain ⟨T11_, h11_, L11_, X11_, e11_, N11_, K11_, p11_0, p11_1, p11_2, p11_3, st11_⟩ := pcT3_4 Z a0 hw X9_ hx hZ hby hml hown (.val (.int p0)) i1 i2 (.val (.long q1)) (.second) (.val (.long q2)) (.second) (.val (.long q3)) (.second) (6 : Int32) w0 w1 w2 w3 w4 w5 mo_2_ ta_2_ kc_2_ (w3.toInt64) (w1.toInt64) (w2.toInt64) h9_ n0 z12_ e9_ N9_ (by decide) (by decide) (by exact Nat.le_of_ble_eq_true rfl) (by exact Nat.le_of_ble_eq_true rfl) (by decide) p9_0 p9_1 p9_2 p9_3 p2_0 p2_1
  have z14_ : n0 ≤ h11_.size := Nat.le_trans z12_ K11_.1
  obtain ⟨T13_, h13_, L13_, X13_, e13_, N13_, K13_, p13_0, p13_1, p13_2, p13_3, st13_⟩ := pcT3_5 Z a0 hw X11_ hx hZ hby hml hown (.val (.int p0)) i1 i2 (.val (.long q1)) (.second) (.val (.long q2)) (.second) (.val (.long q3)) (.second) (6 : Int32) w0 w1 w2 w3 w4 w5 mo_2_ ta_2_ kc_2_ (w3.toInt64) (w4.toInt64) (w2.toInt64) h11_ n0 z14_ e11_ N11_ (by decide) (by decide) (by exact Nat.le_of_ble_eq_true rfl) (by exact Nat.le_of_ble_eq_true rfl) (by decide) p11_0 p11_1 p11_2 p11_3 p2_0 p2_1
  have z16_ : n0 ≤ h13_.size := Nat.le_trans z14_ K13_.1
  obtain ⟨T15_, h15_, L15_, X15_, e15_, N15_, K15_, st15_⟩ := pcM3 Z a0 hw X13_ hx hZ hby hml hown (.val (.int p0)) i1 i2 (.val (.long q1)) (.second) (.val (.long q2)) (.second) (.val (.long q3)) (.second) (6 : Int32) w0 w1 w2 w3 w4 w5 mo_2_ ta_2_ kc_2_ (w3.toInt64) (w4.toInt64) (w5.toInt64) h13_ n0 z16_ e13_ N13_ (by decide) (by decide) (by exact Nat.le_of_ble_eq_true rfl) (by exact Nat.le_of_ble_eq_true rfl) p13_0 p13_1 p13_3 (own_R.i2l w3) (own_R.i2l w4) (own_R.i2l w5)
  have e15_q := e15_.trans K15_
  have hAB : ((((0 : Int64) + ((w3.toInt64) - (i2.toInt64))) + ((w4.toInt64) - (i2.toInt64))) + ((w5.toInt64) - (i2.toInt64))) = ((((((((((own_maxI (0 : Int32) ((3 : Int32) - (6 : Int32))).toInt64) * (i1.toInt64)) + (own_held (0 : Int32) (6 : Int32) (3 : Int32) w0)) + (own_held (1 : Int32) (6 : Int32) (3 : Int32) w1)) + (own_held (2 : Int32) (6 : Int32) (3 : Int32) w2)) + (own_held (3 : Int32) (6 : Int32) (3 : Int32) w3)) + (own_held (4 : Int32) (6 : Int32) (3 : Int32) w4)) + (own_held (5 : Int32) (6 : Int32) (3 : Int32) w5)) - (((3 : Int32).toInt64) * (i2.toInt64))) := by
    rw [show own_maxI (0 : Int32) ((3 : Int32) - (6 : Int32)) = (0 : Int32) from rfl, show own_held (0 : Int32) (6 : Int32) (3 : Int32) w0 = 0 from rfl, show own_held (1 : Int32) (6 : Int32) (3 : Int32) w1 = 0 from rfl, show own_held (2 : Int32) (6 : Int32) (3 : Int32) w2 = 0 from rfl, show own_held (3 : Int32) (6 : Int32) (3 : Int32) w3 = w3.toInt64 from rfl, show own_held (4 : Int32) (6 : Int32) (3 : Int32) w4 = w4.toInt64 from rfl, show own_held (5 : Int32) (6 : Int32) (3 : Int32) w5 = w5.toInt64 from rfl, show (0 : Int32).toInt64 = 0 from rfl, show (3 : Int32).toInt64 = 3 from rfl]
    generalize i1.toInt64 = x1, i2.toInt64 = x2, w0.toInt64 = x3, w1.toInt64 = x4, w2.toInt64 = x5, w3.toInt64 = x6, w4.toInt64 = x7, w5.toInt64 = x8
    grind
  obtain ⟨T17_, h17_, L17_, X17_, e17_, N17_, K17_, st17_⟩ := pcB Z a0 hw X15_ hx hZ hby hml hown (.val (.int p0)) i1 i2 (.val (.long q1)) (.second) (.val (.long q2)) (.second) (.val (.long q3)) (.second) (3 : Int32) (6 : Int32) w0 w1 w2 w3 w4 w5 mo_2_ (FP.ddiv (FP.l2d ((((0 : Int64) + ((w3.toInt64) - (i2.toInt64))) + ((w4.toInt64) - (i2.toInt64))) + ((w5.toInt64) - (i2.toInt64)))) (FP.i2d (3 : Int32))) h13_ n0 z16_ e15_q N15_ (by decide) (by decide) (by exact Nat.le_of_ble_eq_true rfl) (by exact Nat.le_of_ble_eq_true rfl) (by decide) (dcmpV_eq (congrArg (fun z => FP.ddiv (FP.l2d z) (FP.i2d (3 : Int32))) hAB) (own_ddiv _ _ (by decide)) .l)
  have e17_q := e17_.trans K17_
  obtain ⟨fs, hr, hrun, hended, hW, hsame⟩ := X17_.leave (v := some (.int (1 : Int32))) (fun h => by first | rfl | (rw [Bd.returns] at h; cases h))
  refine ⟨_, _, pre0 _ ?_, hrun, hended, _, _, rfl, ?_, ⟨_, rfl⟩, hW, hsame.mono (by exact Nat.le_of_ble_eq_true rfl) (by exact Nat.le_of_ble_eq_true rfl)⟩
  · show Steps p.tables e below (s₁.setTop (mkF m 0 #[.val (.int p0), .val (.int i1), .val (.int i2), .val (.long q1), .second, .val (.long q2), .second, .val (.long q3), .second, .unset, .unset, .unset, .unset, .unset, .unset, .unset, .unset, .unset, .unset, .unset, .unset, .unset, .unset, .unset, .unset, .unset] [])) _
    refine st1_ _ ?_
    refine st2_ _ ?_
    refine st3_ _ ?_
    refine st5_ _ ?_
    refine st7_ _ ?_
    refine st9_ _ ?_
    refine st11_ _ ?_
    refine st13_ _ ?_
    refine st15_ _ ?_
    refine st17_ _ ?_
    exact retN X17_ hx (t := .boolean) Bd.returns (by simp) (hb hby at_300) hr
  · show Q_rm0_3_6 Z p0 i1 i2 q1 q2 q3 w0 w1 w2 w3 w4 w5 h0 n0 _ T17_.heap _
    rw [e17_q]
    exact ⟨rfl, N17_⟩
theorem ef_rm0_4_0 (m : MethodId) (x0 : Int32) (x1 : Int32) (x2 : Int32) (x3 : Int64) (x4 : Int64) (x5 : Int64) : entryFrame m #[(.int x0), (.int x1), (.int x2), (.long x3), (.long x4), (.long x5)] maxLocals = mkF m 0 #[.val (.int x0), .val (.int x1), .val (.int x2), .val (.long x3), .second, .val (.long x4), .second, .val (.long x5), .second, .unset, .unset, .unset, .unset, .unset, .unset, .unset, .unset, .unset, .unset, .unset, .unset, .unset, .unset, .unset, .unset, .unset] [] := by first | (simp [entryFrame, mkF, argsToLocals, Value.category, maxLocals]; done) | rfl
def Q_rm0_4_0 (Z : State) (p0 : Int32) (i1 : Int32) (i2 : Int32) (q1 : Int64) (q2 : Int64) (q3 : Int64) (w0 : Int32) (w1 : Int32) (w2 : Int32) (w3 : Int32) (w4 : Int32) (w5 : Int32) (h0 : Heap) (n0 : Nat) (v : Option Value) (h : Heap) (L : List Loc) : Prop := v = some (.int (1 : Int32)) ∧ Fr n0 L
set_option maxRecDepth 65536 in
set_option maxHeartbeats 40000000 in
theorem rm0_4_0 (l : Launch) (Z : State) (a0 : Array Value) (hw : ∀ d ∈ tables_1, d.before a0 Z = true) (ws : List Jvm.Cond) (p0 : Int32) (i1 : Int32) (i2 : Int32) (q1 : Int64) (q2 : Int64) (q3 : Int64) (w0 : Int32) (w1 : Int32) (w2 : Int32) (w3 : Int32) (w4 : Int32) (w5 : Int32) (h0 : Heap) (n0 : Nat) (Z0 : n0 ≤ h0.size) (hn : ((1 : Int32) + (p0 &&& (3 : Int32))) = (4 : Int32)) (hk : (own_minI (((p0.toUInt32 >>> ((2 : Int32) &&& 31).toUInt32).toInt32) &&& (7 : Int32)) (6 : Int32)) = (0 : Int32)) (hw0 : (q1.toInt32) = w0) (hw1 : (((q1.toUInt64 >>> ((32 : Int32) &&& 0x3f).toInt64.toUInt64).toInt64).toInt32) = w1) (hw2 : (q2.toInt32) = w2) (hw3 : (((q2.toUInt64 >>> ((32 : Int32) &&& 0x3f).toInt64.toUInt64).toInt64).toInt32) = w3) (hw4 : (q3.toInt32) = w4) (hw5 : (((q3.toUInt64 >>> ((32 : Int32) &&& 0x3f).toInt64.toUInt64).toInt64).toInt32) = w5) :
    MetFree l x (head1 (Jvm.Cond.code x code maxLocals ret :: ws) room_1) (fun a U => a = #[(.int p0), (.int i1), (.int i2), (.long q1), (.long q2), (.long q3)] ∧ Z.Warmed39 U.vm ∧ U.heap = h0) (fun _ _ _ _ _ => True) (fun _ U o U' => ∃ v L, o = .returned v ∧ Q_rm0_4_0 Z p0 i1 i2 q1 q2 q3 w0 w1 w2 w3 w4 w5 h0 n0 v U'.heap L ∧ FrameEnd U o U' L room_1.cells room_1.slots) := by
  refine MetFree.of_bodySF (plainFor_of_name pn_com_example_whipstill_whipstill_MovingWindowMeanAbovePinLaw) hisR ?_
  intro p e s m args below meth c s₁ Bd hml0 hP hK
  obtain ⟨rfl, hZ, hh⟩ := hP
  have hx := Bd.exec
  have hby := Bd.bytes
  have hml : c.maxLocals = 26 := hml0
  have hown : s.vm.findClass "com/example/whipstill/whipstill/MovingWindowMeanAbovePinLaw" = some m.cls := findClass_of_methodNamed Bd.named
  have hnm := (name_of_methodNamed Bd.named Bd.method).1
  have X0 : Stand p l e room_1 s m #[(.int p0), (.int i1), (.int i2), (.long q1), (.long q2), (.long q3)] below meth c s₁ [] 0 0 := Stand.of_body Bd
  have e0 : s₁.heap = h0 := by rw [← hh, Bd.state]; rfl
  have N0 := Fr.nil n0
  have pre0 : ∀ t, Steps p.tables e below (s₁.setTop (mkF m 0 #[.val (.int p0), .val (.int i1), .val (.int i2), .val (.long q1), .second, .val (.long q2), .second, .val (.long q3), .second, .unset, .unset, .unset, .unset, .unset, .unset, .unset, .unset, .unset, .unset, .unset, .unset, .unset, .unset, .unset, .unset, .unset] [])) t → Steps p.tables e below (s₁.setTop (entryFrame m #[(.int p0), (.int i1), (.int i2), (.long q1), (.long q2), (.long q3)] maxLocals)) t := fun t k => castTop (ef_rm0_4_0 m p0 i1 i2 q1 q2 q3) k
  obtain ⟨T1_, h1_, L1_, X1_, e1_, N1_, K1_, st1_⟩ := pcA Z a0 hw X0 hx hZ hby hml hown p0 i1 i2 q1 q2 q3 (4 : Int32) (0 : Int32) w0 w1 w2 w3 w4 w5 h0 n0 Z0 e0 N0 (by decide) (by decide) (by exact Nat.le_of_ble_eq_true rfl) (by exact Nat.le_of_ble_eq_true rfl) hn hk hw0 hw1 hw2 hw3 hw4 hw5
  have e1_q := e1_.trans K1_
  obtain ⟨T2_, h2_, L2_, mo_2_, ta_2_, kc_2_, X2_, e2_, N2_, K2_, p2_0, p2_1, p2_2, p2_3, p2_4, p2_5, st2_⟩ := pcI4 Z a0 hw X1_ hx hZ hby hml hown (.val (.int p0)) i1 i2 (.val (.long q1)) (.second) (.val (.long q2)) (.second) (.val (.long q3)) (.second) (0 : Int32) w0 w1 w2 w3 w4 w5 h0 n0 Z0 e1_q N1_ (by decide) (by decide) (by exact Nat.le_of_ble_eq_true rfl) (by exact Nat.le_of_ble_eq_true rfl) 
  have z4_ : n0 ≤ h2_.size := Nat.le_trans Z0 K2_.1
  obtain ⟨T3_, h3_, L3_, X3_, e3_, N3_, K3_, st3_⟩ := pcS0 Z a0 hw X2_ hx hZ hby hml hown (.val (.int p0)) i1 i2 (.val (.long q1)) (.second) (.val (.long q2)) (.second) (.val (.long q3)) (.second) (4 : Int32) (0 : Int32) w0 w1 w2 w3 w4 w5 mo_2_ h2_ n0 z4_ e2_ N2_ (by decide) (by decide) (by exact Nat.le_of_ble_eq_true rfl) (by exact Nat.le_of_ble_eq_true rfl) (by decide)
  have e3_q := e3_.trans K3_
  obtain ⟨T5_, h5_, L5_, X5_, e5_, N5_, K5_, st5_⟩ := pcS1 Z a0 hw X3_ hx hZ hby hml hown (.val (.int p0)) i1 i2 (.val (.long q1)) (.second) (.val (.long q2)) (.second) (.val (.long q3)) (.second) (4 : Int32) (0 : Int32) w0 w1 w2 w3 w4 w5 mo_2_ h2_ n0 z4_ e3_q N3_ (by decide) (by decide) (by exact Nat.le_of_ble_eq_true rfl) (by exact Nat.le_of_ble_eq_true rfl) (by decide)
  have e5_q := e5_.trans K5_
  obtain ⟨T6_, h6_, L6_, X6_, e6_, N6_, K6_, st6_⟩ := pcS2 Z a0 hw X5_ hx hZ hby hml hown (.val (.int p0)) i1 i2 (.val (.long q1)) (.second) (.val (.long q2)) (.second) (.val (.long q3)) (.second) (4 : Int32) (0 : Int32) w0 w1 w2 w3 w4 w5 mo_2_ h2_ n0 z4_ e5_q N5_ (by decide) (by decide) (by exact Nat.le_of_ble_eq_true rfl) (by exact Nat.le_of_ble_eq_true rfl) (by decide)
  have e6_q := e6_.trans K6_
  obtain ⟨T7_, h7_, L7_, X7_, e7_, N7_, K7_, st7_⟩ := pcS3 Z a0 hw X6_ hx hZ hby hml hown (.val (.int p0)) i1 i2 (.val (.long q1)) (.second) (.val (.long q2)) (.second) (.val (.long q3)) (.second) (4 : Int32) (0 : Int32) w0 w1 w2 w3 w4 w5 mo_2_ h2_ n0 z4_ e6_q N6_ (by decide) (by decide) (by exact Nat.le_of_ble_eq_true rfl) (by exact Nat.le_of_ble_eq_true rfl) (by decide)
  have e7_q := e7_.trans K7_
  obtain ⟨T8_, h8_, L8_, X8_, e8_, N8_, K8_, st8_⟩ := pcS4 Z a0 hw X7_ hx hZ hby hml hown (.val (.int p0)) i1 i2 (.val (.long q1)) (.second) (.val (.long q2)) (.second) (.val (.long q3)) (.second) (4 : Int32) (0 : Int32) w0 w1 w2 w3 w4 w5 mo_2_ h2_ n0 z4_ e7_q N7_ (by decide) (by decide) (by exact Nat.le_of_ble_eq_true rfl) (by exact Nat.le_of_ble_eq_true rfl) (by decide)
  have e8_q := e8_.trans K8_
  obtain ⟨T9_, h9_, L9_, X9_, e9_, N9_, K9_, st9_⟩ := pcS5 Z a0 hw X8_ hx hZ hby hml hown (.val (.int p0)) i1 i2 (.val (.long q1)) (.second) (.val (.long q2)) (.second) (.val (.long q3)) (.second) (4 : Int32) (0 : Int32) w0 w1 w2 w3 w4 w5 mo_2_ h2_ n0 z4_ e8_q N8_ (by decide) (by decide) (by exact Nat.le_of_ble_eq_true rfl) (by exact Nat.le_of_ble_eq_true rfl) (by decide)
  have e9_q := e9_.trans K9_
  obtain ⟨T10_, h10_, L10_, X10_, e10_, N10_, K10_, st10_⟩ := pcM4 Z a0 hw X9_ hx hZ hby hml hown (.val (.int p0)) i1 i2 (.val (.long q1)) (.second) (.val (.long q2)) (.second) (.val (.long q3)) (.second) (0 : Int32) w0 w1 w2 w3 w4 w5 mo_2_ ta_2_ kc_2_ (i1.toInt64) (i1.toInt64) (i1.toInt64) (i1.toInt64) h2_ n0 z4_ e9_q N9_ (by decide) (by decide) (by exact Nat.le_of_ble_eq_true rfl) (by exact Nat.le_of_ble_eq_true rfl) p2_2 p2_3 p2_5 (own_R.i2l i1) (own_R.i2l i1) (own_R.i2l i1) (own_R.i2l i1)
  have e10_q := e10_.trans K10_
  have hAB : (((((0 : Int64) + ((i1.toInt64) - (i2.toInt64))) + ((i1.toInt64) - (i2.toInt64))) + ((i1.toInt64) - (i2.toInt64))) + ((i1.toInt64) - (i2.toInt64))) = ((((((((((own_maxI (0 : Int32) ((4 : Int32) - (0 : Int32))).toInt64) * (i1.toInt64)) + (own_held (0 : Int32) (0 : Int32) (4 : Int32) w0)) + (own_held (1 : Int32) (0 : Int32) (4 : Int32) w1)) + (own_held (2 : Int32) (0 : Int32) (4 : Int32) w2)) + (own_held (3 : Int32) (0 : Int32) (4 : Int32) w3)) + (own_held (4 : Int32) (0 : Int32) (4 : Int32) w4)) + (own_held (5 : Int32) (0 : Int32) (4 : Int32) w5)) - (((4 : Int32).toInt64) * (i2.toInt64))) := by
    rw [show own_maxI (0 : Int32) ((4 : Int32) - (0 : Int32)) = (4 : Int32) from rfl, show own_held (0 : Int32) (0 : Int32) (4 : Int32) w0 = 0 from rfl, show own_held (1 : Int32) (0 : Int32) (4 : Int32) w1 = 0 from rfl, show own_held (2 : Int32) (0 : Int32) (4 : Int32) w2 = 0 from rfl, show own_held (3 : Int32) (0 : Int32) (4 : Int32) w3 = 0 from rfl, show own_held (4 : Int32) (0 : Int32) (4 : Int32) w4 = 0 from rfl, show own_held (5 : Int32) (0 : Int32) (4 : Int32) w5 = 0 from rfl, show (4 : Int32).toInt64 = 4 from rfl]
    generalize i1.toInt64 = x1, i2.toInt64 = x2, w0.toInt64 = x3, w1.toInt64 = x4, w2.toInt64 = x5, w3.toInt64 = x6, w4.toInt64 = x7, w5.toInt64 = x8
    grind
  obtain ⟨T11_, h11_, L11_, X11_, e11_, N11_, K11_, st11_⟩ := pcB Z a0 hw X10_ hx hZ hby hml hown (.val (.int p0)) i1 i2 (.val (.long q1)) (.second) (.val (.long q2)) (.second) (.val (.long q3)) (.second) (4 : Int32) (0 : Int32) w0 w1 w2 w3 w4 w5 mo_2_ (FP.ddiv (FP.l2d (((((0 : Int64) + ((i1.toInt64) - (i2.toInt64))) + ((i1.toInt64) - (i2.toInt64))) + ((i1.toInt64) - (i2.toInt64))) + ((i1.toInt64) - (i2.toInt64)))) (FP.i2d (4 : Int32))) h2_ n0 z4_ e10_q N10_ (by decide) (by decide) (by exact Nat.le_of_ble_eq_true rfl) (by exact Nat.le_of_ble_eq_true rfl) (by decide) (dcmpV_eq (congrArg (fun z => FP.ddiv (FP.l2d z) (FP.i2d (4 : Int32))) hAB) (own_ddiv _ _ (by decide)) .l)
  have e11_q := e11_.trans K11_
  obtain ⟨fs, hr, hrun, hended, hW, hsame⟩ := X11_.leave (v := some (.int (1 : Int32))) (fun h => by first | rfl | (rw [Bd.returns] at h; cases h))
  refine ⟨_, _, pre0 _ ?_, hrun, hended, _, _, rfl, ?_, ⟨_, rfl⟩, hW, hsame.mono (by exact Nat.le_of_ble_eq_true rfl) (by exact Nat.le_of_ble_eq_true rfl)⟩
  · show Steps p.tables e below (s₁.setTop (mkF m 0 #[.val (.int p0), .val (.int i1), .val (.int i2), .val (.long q1), .second, .val (.long q2), .second, .val (.long q3), .second, .unset, .unset, .unset, .unset, .unset, .unset, .unset, .unset, .unset, .unset, .unset, .unset, .unset, .unset, .unset, .unset, .unset] [])) _
    refine st1_ _ ?_
    refine st2_ _ ?_
    refine st3_ _ ?_
    refine st5_ _ ?_
    refine st6_ _ ?_
    refine st7_ _ ?_
    refine st8_ _ ?_
    refine st9_ _ ?_
    refine st10_ _ ?_
    refine st11_ _ ?_
    exact retN X11_ hx (t := .boolean) Bd.returns (by simp) (hb hby at_300) hr
  · show Q_rm0_4_0 Z p0 i1 i2 q1 q2 q3 w0 w1 w2 w3 w4 w5 h0 n0 _ T11_.heap _
    rw [e11_q]
    exact ⟨rfl, N11_⟩
theorem ef_rm0_4_1 (m : MethodId) (x0 : Int32) (x1 : Int32) (x2 : Int32) (x3 : Int64) (x4 : Int64) (x5 : Int64) : entryFrame m #[(.int x0), (.int x1), (.int x2), (.long x3), (.long x4), (.long x5)] maxLocals = mkF m 0 #[.val (.int x0), .val (.int x1), .val (.int x2), .val (.long x3), .second, .val (.long x4), .second, .val (.long x5), .second, .unset, .unset, .unset, .unset, .unset, .unset, .unset, .unset, .unset, .unset, .unset, .unset, .unset, .unset, .unset, .unset, .unset] [] := by first | (simp [entryFrame, mkF, argsToLocals, Value.category, maxLocals]; done) | rfl
def Q_rm0_4_1 (Z : State) (p0 : Int32) (i1 : Int32) (i2 : Int32) (q1 : Int64) (q2 : Int64) (q3 : Int64) (w0 : Int32) (w1 : Int32) (w2 : Int32) (w3 : Int32) (w4 : Int32) (w5 : Int32) (h0 : Heap) (n0 : Nat) (v : Option Value) (h : Heap) (L : List Loc) : Prop := v = some (.int (1 : Int32)) ∧ Fr n0 L
set_option maxRecDepth 65536 in
set_option maxHeartbeats 40000000 in
theorem rm0_4_1 (l : Launch) (Z : State) (a0 : Array Value) (hw : ∀ d ∈ tables_1, d.before a0 Z = true) (ws : List Jvm.Cond) (p0 : Int32) (i1 : Int32) (i2 : Int32) (q1 : Int64) (q2 : Int64) (q3 : Int64) (w0 : Int32) (w1 : Int32) (w2 : Int32) (w3 : Int32) (w4 : Int32) (w5 : Int32) (h0 : Heap) (n0 : Nat) (Z0 : n0 ≤ h0.size) (hn : ((1 : Int32) + (p0 &&& (3 : Int32))) = (4 : Int32)) (hk : (own_minI (((p0.toUInt32 >>> ((2 : Int32) &&& 31).toUInt32).toInt32) &&& (7 : Int32)) (6 : Int32)) = (1 : Int32)) (hw0 : (q1.toInt32) = w0) (hw1 : (((q1.toUInt64 >>> ((32 : Int32) &&& 0x3f).toInt64.toUInt64).toInt64).toInt32) = w1) (hw2 : (q2.toInt32) = w2) (hw3 : (((q2.toUInt64 >>> ((32 : Int32) &&& 0x3f).toInt64.toUInt64).toInt64).toInt32) = w3) (hw4 : (q3.toInt32) = w4) (hw5 : (((q3.toUInt64 >>> ((32 : Int32) &&& 0x3f).toInt64.toUInt64).toInt64).toInt32) = w5) :
    MetFree l x (head1 (Jvm.Cond.code x code maxLocals ret :: ws) room_1) (fun a U => a = #[(.int p0), (.int i1), (.int i2), (.long q1), (.long q2), (.long q3)] ∧ Z.Warmed39 U.vm ∧ U.heap = h0) (fun _ _ _ _ _ => True) (fun _ U o U' => ∃ v L, o = .returned v ∧ Q_rm0_4_1 Z p0 i1 i2 q1 q2 q3 w0 w1 w2 w3 w4 w5 h0 n0 v U'.heap L ∧ FrameEnd U o U' L room_1.cells room_1.slots) := by
  refine MetFree.of_bodySF (plainFor_of_name pn_com_example_whipstill_whipstill_MovingWindowMeanAbovePinLaw) hisR ?_
  intro p e s m args below meth c s₁ Bd hml0 hP hK
  obtain ⟨rfl, hZ, hh⟩ := hP
  have hx := Bd.exec
  have hby := Bd.bytes
  have hml : c.maxLocals = 26 := hml0
  have hown : s.vm.findClass "com/example/whipstill/whipstill/MovingWindowMeanAbovePinLaw" = some m.cls := findClass_of_methodNamed Bd.named
  have hnm := (name_of_methodNamed Bd.named Bd.method).1
  have X0 : Stand p l e room_1 s m #[(.int p0), (.int i1), (.int i2), (.long q1), (.long q2), (.long q3)] below meth c s₁ [] 0 0 := Stand.of_body Bd
  have e0 : s₁.heap = h0 := by rw [← hh, Bd.state]; rfl
  have N0 := Fr.nil n0
  have pre0 : ∀ t, Steps p.tables e below (s₁.setTop (mkF m 0 #[.val (.int p0), .val (.int i1), .val (.int i2), .val (.long q1), .second, .val (.long q2), .second, .val (.long q3), .second, .unset, .unset, .unset, .unset, .unset, .unset, .unset, .unset, .unset, .unset, .unset, .unset, .unset, .unset, .unset, .unset, .unset] [])) t → Steps p.tables e below (s₁.setTop (entryFrame m #[(.int p0), (.int i1), (.int i2), (.long q1), (.long q2), (.long q3)] maxLocals)) t := fun t k => castTop (ef_rm0_4_1 m p0 i1 i2 q1 q2 q3) k
  obtain ⟨T1_, h1_, L1_, X1_, e1_, N1_, K1_, st1_⟩ := pcA Z a0 hw X0 hx hZ hby hml hown p0 i1 i2 q1 q2 q3 (4 : Int32) (1 : Int32) w0 w1 w2 w3 w4 w5 h0 n0 Z0 e0 N0 (by decide) (by decide) (by exact Nat.le_of_ble_eq_true rfl) (by exact Nat.le_of_ble_eq_true rfl) hn hk hw0 hw1 hw2 hw3 hw4 hw5
  have e1_q := e1_.trans K1_
  obtain ⟨T2_, h2_, L2_, mo_2_, ta_2_, kc_2_, X2_, e2_, N2_, K2_, p2_0, p2_1, p2_2, p2_3, p2_4, p2_5, st2_⟩ := pcI4 Z a0 hw X1_ hx hZ hby hml hown (.val (.int p0)) i1 i2 (.val (.long q1)) (.second) (.val (.long q2)) (.second) (.val (.long q3)) (.second) (1 : Int32) w0 w1 w2 w3 w4 w5 h0 n0 Z0 e1_q N1_ (by decide) (by decide) (by exact Nat.le_of_ble_eq_true rfl) (by exact Nat.le_of_ble_eq_true rfl) 
  have z4_ : n0 ≤ h2_.size := Nat.le_trans Z0 K2_.1
  obtain ⟨T3_, h3_, L3_, X3_, e3_, N3_, K3_, p3_0, p3_1, p3_2, p3_3, st3_⟩ := pcT4_0 Z a0 hw X2_ hx hZ hby hml hown (.val (.int p0)) i1 i2 (.val (.long q1)) (.second) (.val (.long q2)) (.second) (.val (.long q3)) (.second) (1 : Int32) w0 w1 w2 w3 w4 w5 mo_2_ ta_2_ kc_2_ (i1.toInt64) (i1.toInt64) (i1.toInt64) (i1.toInt64) h2_ n0 z4_ e2_ N2_ (by decide) (by decide) (by exact Nat.le_of_ble_eq_true rfl) (by exact Nat.le_of_ble_eq_true rfl) (by decide) p2_2 p2_3 p2_4 p2_5 p2_0 p2_1
  have z6_ : n0 ≤ h3_.size := Nat.le_trans z4_ K3_.1
  obtain ⟨T5_, h5_, L5_, X5_, e5_, N5_, K5_, st5_⟩ := pcS1 Z a0 hw X3_ hx hZ hby hml hown (.val (.int p0)) i1 i2 (.val (.long q1)) (.second) (.val (.long q2)) (.second) (.val (.long q3)) (.second) (4 : Int32) (1 : Int32) w0 w1 w2 w3 w4 w5 mo_2_ h3_ n0 z6_ e3_ N3_ (by decide) (by decide) (by exact Nat.le_of_ble_eq_true rfl) (by exact Nat.le_of_ble_eq_true rfl) (by decide)
  have e5_q := e5_.trans K5_
  obtain ⟨T7_, h7_, L7_, X7_, e7_, N7_, K7_, st7_⟩ := pcS2 Z a0 hw X5_ hx hZ hby hml hown (.val (.int p0)) i1 i2 (.val (.long q1)) (.second) (.val (.long q2)) (.second) (.val (.long q3)) (.second) (4 : Int32) (1 : Int32) w0 w1 w2 w3 w4 w5 mo_2_ h3_ n0 z6_ e5_q N5_ (by decide) (by decide) (by exact Nat.le_of_ble_eq_true rfl) (by exact Nat.le_of_ble_eq_true rfl) (by decide)
  have e7_q := e7_.trans K7_
  obtain ⟨T8_, h8_, L8_, X8_, e8_, N8_, K8_, st8_⟩ := pcS3 Z a0 hw X7_ hx hZ hby hml hown (.val (.int p0)) i1 i2 (.val (.long q1)) (.second) (.val (.long q2)) (.second) (.val (.long q3)) (.second) (4 : Int32) (1 : Int32) w0 w1 w2 w3 w4 w5 mo_2_ h3_ n0 z6_ e7_q N7_ (by decide) (by decide) (by exact Nat.le_of_ble_eq_true rfl) (by exact Nat.le_of_ble_eq_true rfl) (by decide)
  have e8_q := e8_.trans K8_
  obtain ⟨T9_, h9_, L9_, X9_, e9_, N9_, K9_, st9_⟩ := pcS4 Z a0 hw X8_ hx hZ hby hml hown (.val (.int p0)) i1 i2 (.val (.long q1)) (.second) (.val (.long q2)) (.second) (.val (.long q3)) (.second) (4 : Int32) (1 : Int32) w0 w1 w2 w3 w4 w5 mo_2_ h3_ n0 z6_ e8_q N8_ (by decide) (by decide) (by exact Nat.le_of_ble_eq_true rfl) (by exact Nat.le_of_ble_eq_true rfl) (by decide)
  have e9_q := e9_.trans K9_
  obtain ⟨T10_, h10_, L10_, X10_, e10_, N10_, K10_, st10_⟩ := pcS5 Z a0 hw X9_ hx hZ hby hml hown (.val (.int p0)) i1 i2 (.val (.long q1)) (.second) (.val (.long q2)) (.second) (.val (.long q3)) (.second) (4 : Int32) (1 : Int32) w0 w1 w2 w3 w4 w5 mo_2_ h3_ n0 z6_ e9_q N9_ (by decide) (by decide) (by exact Nat.le_of_ble_eq_true rfl) (by exact Nat.le_of_ble_eq_true rfl) (by decide)
  have e10_q := e10_.trans K10_
  obtain ⟨T11_, h11_, L11_, X11_, e11_, N11_, K11_, st11_⟩ := pcM4 Z a0 hw X10_ hx hZ hby hml hown (.val (.int p0)) i1 i2 (.val (.long q1)) (.second) (.val (.long q2)) (.second) (.val (.long q3)) (.second) (1 : Int32) w0 w1 w2 w3 w4 w5 mo_2_ ta_2_ kc_2_ (w0.toInt64) (i1.toInt64) (i1.toInt64) (i1.toInt64) h3_ n0 z6_ e10_q N10_ (by decide) (by decide) (by exact Nat.le_of_ble_eq_true rfl) (by exact Nat.le_of_ble_eq_true rfl) p3_0 p3_1 p3_3 (own_R.i2l w0) (own_R.i2l i1) (own_R.i2l i1) (own_R.i2l i1)
  have e11_q := e11_.trans K11_
  have hAB : (((((0 : Int64) + ((w0.toInt64) - (i2.toInt64))) + ((i1.toInt64) - (i2.toInt64))) + ((i1.toInt64) - (i2.toInt64))) + ((i1.toInt64) - (i2.toInt64))) = ((((((((((own_maxI (0 : Int32) ((4 : Int32) - (1 : Int32))).toInt64) * (i1.toInt64)) + (own_held (0 : Int32) (1 : Int32) (4 : Int32) w0)) + (own_held (1 : Int32) (1 : Int32) (4 : Int32) w1)) + (own_held (2 : Int32) (1 : Int32) (4 : Int32) w2)) + (own_held (3 : Int32) (1 : Int32) (4 : Int32) w3)) + (own_held (4 : Int32) (1 : Int32) (4 : Int32) w4)) + (own_held (5 : Int32) (1 : Int32) (4 : Int32) w5)) - (((4 : Int32).toInt64) * (i2.toInt64))) := by
    rw [show own_maxI (0 : Int32) ((4 : Int32) - (1 : Int32)) = (3 : Int32) from rfl, show own_held (0 : Int32) (1 : Int32) (4 : Int32) w0 = w0.toInt64 from rfl, show own_held (1 : Int32) (1 : Int32) (4 : Int32) w1 = 0 from rfl, show own_held (2 : Int32) (1 : Int32) (4 : Int32) w2 = 0 from rfl, show own_held (3 : Int32) (1 : Int32) (4 : Int32) w3 = 0 from rfl, show own_held (4 : Int32) (1 : Int32) (4 : Int32) w4 = 0 from rfl, show own_held (5 : Int32) (1 : Int32) (4 : Int32) w5 = 0 from rfl, show (3 : Int32).toInt64 = 3 from rfl, show (4 : Int32).toInt64 = 4 from rfl]
    generalize i1.toInt64 = x1, i2.toInt64 = x2, w0.toInt64 = x3, w1.toInt64 = x4, w2.toInt64 = x5, w3.toInt64 = x6, w4.toInt64 = x7, w5.toInt64 = x8
    grind
  obtain ⟨T12_, h12_, L12_, X12_, e12_, N12_, K12_, st12_⟩ := pcB Z a0 hw X11_ hx hZ hby hml hown (.val (.int p0)) i1 i2 (.val (.long q1)) (.second) (.val (.long q2)) (.second) (.val (.long q3)) (.second) (4 : Int32) (1 : Int32) w0 w1 w2 w3 w4 w5 mo_2_ (FP.ddiv (FP.l2d (((((0 : Int64) + ((w0.toInt64) - (i2.toInt64))) + ((i1.toInt64) - (i2.toInt64))) + ((i1.toInt64) - (i2.toInt64))) + ((i1.toInt64) - (i2.toInt64)))) (FP.i2d (4 : Int32))) h3_ n0 z6_ e11_q N11_ (by decide) (by decide) (by exact Nat.le_of_ble_eq_true rfl) (by exact Nat.le_of_ble_eq_true rfl) (by decide) (dcmpV_eq (congrArg (fun z => FP.ddiv (FP.l2d z) (FP.i2d (4 : Int32))) hAB) (own_ddiv _ _ (by decide)) .l)
  have e12_q := e12_.trans K12_
  obtain ⟨fs, hr, hrun, hended, hW, hsame⟩ := X12_.leave (v := some (.int (1 : Int32))) (fun h => by first | rfl | (rw [Bd.returns] at h; cases h))
  refine ⟨_, _, pre0 _ ?_, hrun, hended, _, _, rfl, ?_, ⟨_, rfl⟩, hW, hsame.mono (by exact Nat.le_of_ble_eq_true rfl) (by exact Nat.le_of_ble_eq_true rfl)⟩
  · show Steps p.tables e below (s₁.setTop (mkF m 0 #[.val (.int p0), .val (.int i1), .val (.int i2), .val (.long q1), .second, .val (.long q2), .second, .val (.long q3), .second, .unset, .unset, .unset, .unset, .unset, .unset, .unset, .unset, .unset, .unset, .unset, .unset, .unset, .unset, .unset, .unset, .unset] [])) _
    refine st1_ _ ?_
    refine st2_ _ ?_
    refine st3_ _ ?_
    refine st5_ _ ?_
    refine st7_ _ ?_
    refine st8_ _ ?_
    refine st9_ _ ?_
    refine st10_ _ ?_
    refine st11_ _ ?_
    refine st12_ _ ?_
    exact retN X12_ hx (t := .boolean) Bd.returns (by simp) (hb hby at_300) hr
  · show Q_rm0_4_1 Z p0 i1 i2 q1 q2 q3 w0 w1 w2 w3 w4 w5 h0 n0 _ T12_.heap _
    rw [e12_q]
    exact ⟨rfl, N12_⟩
theorem ef_rm0_4_2 (m : MethodId) (x0 : Int32) (x1 : Int32) (x2 : Int32) (x3 : Int64) (x4 : Int64) (x5 : Int64) : entryFrame m #[(.int x0), (.int x1), (.int x2), (.long x3), (.long x4), (.long x5)] maxLocals = mkF m 0 #[.val (.int x0), .val (.int x1), .val (.int x2), .val (.long x3), .second, .val (.long x4), .second, .val (.long x5), .second, .unset, .unset, .unset, .unset, .unset, .unset, .unset, .unset, .unset, .unset, .unset, .unset, .unset, .unset, .unset, .unset, .unset] [] := by first | (simp [entryFrame, mkF, argsToLocals, Value.category, maxLocals]; done) | rfl
def Q_rm0_4_2 (Z : State) (p0 : Int32) (i1 : Int32) (i2 : Int32) (q1 : Int64) (q2 : Int64) (q3 : Int64) (w0 : Int32) (w1 : Int32) (w2 : Int32) (w3 : Int32) (w4 : Int32) (w5 : Int32) (h0 : Heap) (n0 : Nat) (v : Option Value) (h : Heap) (L : List Loc) : Prop := v = some (.int (1 : Int32)) ∧ Fr n0 L
set_option maxRecDepth 65536 in
set_option maxHeartbeats 40000000 in
theorem rm0_4_2 (l : Launch) (Z : State) (a0 : Array Value) (hw : ∀ d ∈ tables_1, d.before a0 Z = true) (ws : List Jvm.Cond) (p0 : Int32) (i1 : Int32) (i2 : Int32) (q1 : Int64) (q2 : Int64) (q3 : Int64) (w0 : Int32) (w1 : Int32) (w2 : Int32) (w3 : Int32) (w4 : Int32) (w5 : Int32) (h0 : Heap) (n0 : Nat) (Z0 : n0 ≤ h0.size) (hn : ((1 : Int32) + (p0 &&& (3 : Int32))) = (4 : Int32)) (hk : (own_minI (((p0.toUInt32 >>> ((2 : Int32) &&& 31).toUInt32).toInt32) &&& (7 : Int32)) (6 : Int32)) = (2 : Int32)) (hw0 : (q1.toInt32) = w0) (hw1 : (((q1.toUInt64 >>> ((32 : Int32) &&& 0x3f).toInt64.toUInt64).toInt64).toInt32) = w1) (hw2 : (q2.toInt32) = w2) (hw3 : (((q2.toUInt64 >>> ((32 : Int32) &&& 0x3f).toInt64.toUInt64).toInt64).toInt32) = w3) (hw4 : (q3.toInt32) = w4) (hw5 : (((q3.toUInt64 >>> ((32 : Int32) &&& 0x3f).toInt64.toUInt64).toInt64).toInt32) = w5) :
    MetFree l x (head1 (Jvm.Cond.code x code maxLocals ret :: ws) room_1) (fun a U => a = #[(.int p0), (.int i1), (.int i2), (.long q1), (.long q2), (.long q3)] ∧ Z.Warmed39 U.vm ∧ U.heap = h0) (fun _ _ _ _ _ => True) (fun _ U o U' => ∃ v L, o = .returned v ∧ Q_rm0_4_2 Z p0 i1 i2 q1 q2 q3 w0 w1 w2 w3 w4 w5 h0 n0 v U'.heap L ∧ FrameEnd U o U' L room_1.cells room_1.slots) := by
  refine MetFree.of_bodySF (plainFor_of_name pn_com_example_whipstill_whipstill_MovingWindowMeanAbovePinLaw) hisR ?_
  intro p e s m args below meth c s₁ Bd hml0 hP hK
  obtain ⟨rfl, hZ, hh⟩ := hP
  have hx := Bd.exec
  have hby := Bd.bytes
  have hml : c.maxLocals = 26 := hml0
  have hown : s.vm.findClass "com/example/whipstill/whipstill/MovingWindowMeanAbovePinLaw" = some m.cls := findClass_of_methodNamed Bd.named
  have hnm := (name_of_methodNamed Bd.named Bd.method).1
  have X0 : Stand p l e room_1 s m #[(.int p0), (.int i1), (.int i2), (.long q1), (.long q2), (.long q3)] below meth c s₁ [] 0 0 := Stand.of_body Bd
  have e0 : s₁.heap = h0 := by rw [← hh, Bd.state]; rfl
  have N0 := Fr.nil n0
  have pre0 : ∀ t, Steps p.tables e below (s₁.setTop (mkF m 0 #[.val (.int p0), .val (.int i1), .val (.int i2), .val (.long q1), .second, .val (.long q2), .second, .val (.long q3), .second, .unset, .unset, .unset, .unset, .unset, .unset, .unset, .unset, .unset, .unset, .unset, .unset, .unset, .unset, .unset, .unset, .unset] [])) t → Steps p.tables e below (s₁.setTop (entryFrame m #[(.int p0), (.int i1), (.int i2), (.long q1), (.long q2), (.long q3)] maxLocals)) t := fun t k => castTop (ef_rm0_4_2 m p0 i1 i2 q1 q2 q3) k
  obtain ⟨T1_, h1_, L1_, X1_, e1_, N1_, K1_, st1_⟩ := pcA Z a0 hw X0 hx hZ hby hml hown p0 i1 i2 q1 q2 q3 (4 : Int32) (2 : Int32) w0 w1 w2 w3 w4 w5 h0 n0 Z0 e0 N0 (by decide) (by decide) (by exact Nat.le_of_ble_eq_true rfl) (by exact Nat.le_of_ble_eq_true rfl) hn hk hw0 hw1 hw2 hw3 hw4 hw5
  have e1_q := e1_.trans K1_
  obtain ⟨T2_, h2_, L2_, mo_2_, ta_2_, kc_2_, X2_, e2_, N2_, K2_, p2_0, p2_1, p2_2, p2_3, p2_4, p2_5, st2_⟩ := pcI4 Z a0 hw X1_ hx hZ hby hml hown (.val (.int p0)) i1 i2 (.val (.long q1)) (.second) (.val (.long q2)) (.second) (.val (.long q3)) (.second) (2 : Int32) w0 w1 w2 w3 w4 w5 h0 n0 Z0 e1_q N1_ (by decide) (by decide) (by exact Nat.le_of_ble_eq_true rfl) (by exact Nat.le_of_ble_eq_true rfl) 
  have z4_ : n0 ≤ h2_.size := Nat.le_trans Z0 K2_.1
  obtain ⟨T3_, h3_, L3_, X3_, e3_, N3_, K3_, p3_0, p3_1, p3_2, p3_3, st3_⟩ := pcT4_0 Z a0 hw X2_ hx hZ hby hml hown (.val (.int p0)) i1 i2 (.val (.long q1)) (.second) (.val (.long q2)) (.second) (.val (.long q3)) (.second) (2 : Int32) w0 w1 w2 w3 w4 w5 mo_2_ ta_2_ kc_2_ (i1.toInt64) (i1.toInt64) (i1.toInt64) (i1.toInt64) h2_ n0 z4_ e2_ N2_ (by decide) (by decide) (by exact Nat.le_of_ble_eq_true rfl) (by exact Nat.le_of_ble_eq_true rfl) (by decide) p2_2 p2_3 p2_4 p2_5 p2_0 p2_1
  have z6_ : n0 ≤ h3_.size := Nat.le_trans z4_ K3_.1
  obtain ⟨T5_, h5_, L5_, X5_, e5_, N5_, K5_, p5_0, p5_1, p5_2, p5_3, st5_⟩ := pcT4_1 Z a0 hw X3_ hx hZ hby hml hown (.val (.int p0)) i1 i2 (.val (.long q1)) (.second) (.val (.long q2)) (.second) (.val (.long q3)) (.second) (2 : Int32) w0 w1 w2 w3 w4 w5 mo_2_ ta_2_ kc_2_ (w0.toInt64) (i1.toInt64) (i1.toInt64) (i1.toInt64) h3_ n0 z6_ e3_ N3_ (by decide) (by decide) (by exact Nat.le_of_ble_eq_true rfl) (by exact Nat.le_of_ble_eq_true rfl) (by decide) p3_0 p3_1 p3_2 p3_3 p2_0 p2_1
  have z8_ : n0 ≤ h5_.size := Nat.le_trans z6_ K5_.1
  obtain ⟨T7_, h7_, L7_, X7_, e7_, N7_, K7_, st7_⟩ := pcS2 Z a0 hw X5_ hx hZ hby hml hown (.val (.int p0)) i1 i2 (.val (.long q1)) (.second) (.val (.long q2)) (.second) (.val (.long q3)) (.second) (4 : Int32) (2 : Int32) w0 w1 w2 w3 w4 w5 mo_2_ h5_ n0 z8_ e5_ N5_ (by decide) (by decide) (by exact Nat.le_of_ble_eq_true rfl) (by exact Nat.le_of_ble_eq_true rfl) (by decide)
  have e7_q := e7_.trans K7_
  obtain ⟨T9_, h9_, L9_, X9_, e9_, N9_, K9_, st9_⟩ := pcS3 Z a0 hw X7_ hx hZ hby hml hown (.val (.int p0)) i1 i2 (.val (.long q1)) (.second) (.val (.long q2)) (.second) (.val (.long q3)) (.second) (4 : Int32) (2 : Int32) w0 w1 w2 w3 w4 w5 mo_2_ h5_ n0 z8_ e7_q N7_ (by decide) (by decide) (by exact Nat.le_of_ble_eq_true rfl) (by exact Nat.le_of_ble_eq_true rfl) (by decide)
  have e9_q := e9_.trans K9_
  obtain ⟨T10_, h10_, L10_, X10_, e10_, N10_, K10_, st10_⟩ := pcS4 Z a0 hw X9_ hx hZ hby hml hown (.val (.int p0)) i1 i2 (.val (.long q1)) (.second) (.val (.long q2)) (.second) (.val (.long q3)) (.second) (4 : Int32) (2 : Int32) w0 w1 w2 w3 w4 w5 mo_2_ h5_ n0 z8_ e9_q N9_ (by decide) (by decide) (by exact Nat.le_of_ble_eq_true rfl) (by exact Nat.le_of_ble_eq_true rfl) (by decide)
  have e10_q := e10_.trans K10_
  obtain ⟨T11_, h11_, L11_, X11_, e11_, N11_, K11_, st11_⟩ := pcS5 Z a0 hw X10_ hx hZ hby hml hown (.val (.int p0)) i1 i2 (.val (.long q1)) (.second) (.val (.long q2)) (.second) (.val (.long q3)) (.second) (4 : Int32) (2 : Int32) w0 w1 w2 w3 w4 w5 mo_2_ h5_ n0 z8_ e10_q N10_ (by decide) (by decide) (by exact Nat.le_of_ble_eq_true rfl) (by exact Nat.le_of_ble_eq_true rfl) (by decide)
  have e11_q := e11_.trans K11_
  obtain ⟨T12_, h12_, L12_, X12_, e12_, N12_, K12_, st12_⟩ := pcM4 Z a0 hw X11_ hx hZ hby hml hown (.val (.int p0)) i1 i2 (.val (.long q1)) (.second) (.val (.long q2)) (.second) (.val (.long q3)) (.second) (2 : Int32) w0 w1 w2 w3 w4 w5 mo_2_ ta_2_ kc_2_ (w0.toInt64) (w1.toInt64) (i1.toInt64) (i1.toInt64) h5_ n0 z8_ e11_q N11_ (by decide) (by decide) (by exact Nat.le_of_ble_eq_true rfl) (by exact Nat.le_of_ble_eq_true rfl) p5_0 p5_1 p5_3 (own_R.i2l w0) (own_R.i2l w1) (own_R.i2l i1) (own_R.i2l i1)
  have e12_q := e12_.trans K12_
  have hAB : (((((0 : Int64) + ((w0.toInt64) - (i2.toInt64))) + ((w1.toInt64) - (i2.toInt64))) + ((i1.toInt64) - (i2.toInt64))) + ((i1.toInt64) - (i2.toInt64))) = ((((((((((own_maxI (0 : Int32) ((4 : Int32) - (2 : Int32))).toInt64) * (i1.toInt64)) + (own_held (0 : Int32) (2 : Int32) (4 : Int32) w0)) + (own_held (1 : Int32) (2 : Int32) (4 : Int32) w1)) + (own_held (2 : Int32) (2 : Int32) (4 : Int32) w2)) + (own_held (3 : Int32) (2 : Int32) (4 : Int32) w3)) + (own_held (4 : Int32) (2 : Int32) (4 : Int32) w4)) + (own_held (5 : Int32) (2 : Int32) (4 : Int32) w5)) - (((4 : Int32).toInt64) * (i2.toInt64))) := by
    rw [show own_maxI (0 : Int32) ((4 : Int32) - (2 : Int32)) = (2 : Int32) from rfl, show own_held (0 : Int32) (2 : Int32) (4 : Int32) w0 = w0.toInt64 from rfl, show own_held (1 : Int32) (2 : Int32) (4 : Int32) w1 = w1.toInt64 from rfl, show own_held (2 : Int32) (2 : Int32) (4 : Int32) w2 = 0 from rfl, show own_held (3 : Int32) (2 : Int32) (4 : Int32) w3 = 0 from rfl, show own_held (4 : Int32) (2 : Int32) (4 : Int32) w4 = 0 from rfl, show own_held (5 : Int32) (2 : Int32) (4 : Int32) w5 = 0 from rfl, show (2 : Int32).toInt64 = 2 from rfl, show (4 : Int32).toInt64 = 4 from rfl]
    generalize i1.toInt64 = x1, i2.toInt64 = x2, w0.toInt64 = x3, w1.toInt64 = x4, w2.toInt64 = x5, w3.toInt64 = x6, w4.toInt64 = x7, w5.toInt64 = x8
    grind
  obtain ⟨T13_, h13_, L13_, X13_, e13_, N13_, K13_, st13_⟩ := pcB Z a0 hw X12_ hx hZ hby hml hown (.val (.int p0)) i1 i2 (.val (.long q1)) (.second) (.val (.long q2)) (.second) (.val (.long q3)) (.second) (4 : Int32) (2 : Int32) w0 w1 w2 w3 w4 w5 mo_2_ (FP.ddiv (FP.l2d (((((0 : Int64) + ((w0.toInt64) - (i2.toInt64))) + ((w1.toInt64) - (i2.toInt64))) + ((i1.toInt64) - (i2.toInt64))) + ((i1.toInt64) - (i2.toInt64)))) (FP.i2d (4 : Int32))) h5_ n0 z8_ e12_q N12_ (by decide) (by decide) (by exact Nat.le_of_ble_eq_true rfl) (by exact Nat.le_of_ble_eq_true rfl) (by decide) (dcmpV_eq (congrArg (fun z => FP.ddiv (FP.l2d z) (FP.i2d (4 : Int32))) hAB) (own_ddiv _ _ (by decide)) .l)
  have e13_q := e13_.trans K13_
  obtain ⟨fs, hr, hrun, hended, hW, hsame⟩ := X13_.leave (v := some (.int (1 : Int32))) (fun h => by first | rfl | (rw [Bd.returns] at h; cases h))
  refine ⟨_, _, pre0 _ ?_, hrun, hended, _, _, rfl, ?_, ⟨_, rfl⟩, hW, hsame.mono (by exact Nat.le_of_ble_eq_true rfl) (by exact Nat.le_of_ble_eq_true rfl)⟩
  · show Steps p.tables e below (s₁.setTop (mkF m 0 #[.val (.int p0), .val (.int i1), .val (.int i2), .val (.long q1), .second, .val (.long q2), .second, .val (.long q3), .second, .unset, .unset, .unset, .unset, .unset, .unset, .unset, .unset, .unset, .unset, .unset, .unset, .unset, .unset, .unset, .unset, .unset] [])) _
    refine st1_ _ ?_
    refine st2_ _ ?_
    refine st3_ _ ?_
    refine st5_ _ ?_
    refine st7_ _ ?_
    refine st9_ _ ?_
    refine st10_ _ ?_
    refine st11_ _ ?_
    refine st12_ _ ?_
    refine st13_ _ ?_
    exact retN X13_ hx (t := .boolean) Bd.returns (by simp) (hb hby at_300) hr
  · show Q_rm0_4_2 Z p0 i1 i2 q1 q2 q3 w0 w1 w2 w3 w4 w5 h0 n0 _ T13_.heap _
    rw [e13_q]
    exact ⟨rfl, N13_⟩
theorem ef_rm0_4_3 (m : MethodId) (x0 : Int32) (x1 : Int32) (x2 : Int32) (x3 : Int64) (x4 : Int64) (x5 : Int64) : entryFrame m #[(.int x0), (.int x1), (.int x2), (.long x3), (.long x4), (.long x5)] maxLocals = mkF m 0 #[.val (.int x0), .val (.int x1), .val (.int x2), .val (.long x3), .second, .val (.long x4), .second, .val (.long x5), .second, .unset, .unset, .unset, .unset, .unset, .unset, .unset, .unset, .unset, .unset, .unset, .unset, .unset, .unset, .unset, .unset, .unset] [] := by first | (simp [entryFrame, mkF, argsToLocals, Value.category, maxLocals]; done) | rfl
def Q_rm0_4_3 (Z : State) (p0 : Int32) (i1 : Int32) (i2 : Int32) (q1 : Int64) (q2 : Int64) (q3 : Int64) (w0 : Int32) (w1 : Int32) (w2 : Int32) (w3 : Int32) (w4 : Int32) (w5 : Int32) (h0 : Heap) (n0 : Nat) (v : Option Value) (h : Heap) (L : List Loc) : Prop := v = some (.int (1 : Int32)) ∧ Fr n0 L
set_option maxRecDepth 65536 in
set_option maxHeartbeats 40000000 in
theorem rm0_4_3 (l : Launch) (Z : State) (a0 : Array Value) (hw : ∀ d ∈ tables_1, d.before a0 Z = true) (ws : List Jvm.Cond) (p0 : Int32) (i1 : Int32) (i2 : Int32) (q1 : Int64) (q2 : Int64) (q3 : Int64) (w0 : Int32) (w1 : Int32) (w2 : Int32) (w3 : Int32) (w4 : Int32) (w5 : Int32) (h0 : Heap) (n0 : Nat) (Z0 : n0 ≤ h0.size) (hn : ((1 : Int32) + (p0 &&& (3 : Int32))) = (4 : Int32)) (hk : (own_minI (((p0.toUInt32 >>> ((2 : Int32) &&& 31).toUInt32).toInt32) &&& (7 : Int32)) (6 : Int32)) = (3 : Int32)) (hw0 : (q1.toInt32) = w0) (hw1 : (((q1.toUInt64 >>> ((32 : Int32) &&& 0x3f).toInt64.toUInt64).toInt64).toInt32) = w1) (hw2 : (q2.toInt32) = w2) (hw3 : (((q2.toUInt64 >>> ((32 : Int32) &&& 0x3f).toInt64.toUInt64).toInt64).toInt32) = w3) (hw4 : (q3.toInt32) = w4) (hw5 : (((q3.toUInt64 >>> ((32 : Int32) &&& 0x3f).toInt64.toUInt64).toInt64).toInt32) = w5) :
    MetFree l x (head1 (Jvm.Cond.code x code maxLocals ret :: ws) room_1) (fun a U => a = #[(.int p0), (.int i1), (.int i2), (.long q1), (.long q2), (.long q3)] ∧ Z.Warmed39 U.vm ∧ U.heap = h0) (fun _ _ _ _ _ => True) (fun _ U o U' => ∃ v L, o = .returned v ∧ Q_rm0_4_3 Z p0 i1 i2 q1 q2 q3 w0 w1 w2 w3 w4 w5 h0 n0 v U'.heap L ∧ FrameEnd U o U' L room_1.cells room_1.slots) := by
  refine MetFree.of_bodySF (plainFor_of_name pn_com_example_whipstill_whipstill_MovingWindowMeanAbovePinLaw) hisR ?_
  intro p e s m args below meth c s₁ Bd hml0 hP hK
  obtain ⟨rfl, hZ, hh⟩ := hP
  have hx := Bd.exec
  have hby := Bd.bytes
  have hml : c.maxLocals = 26 := hml0
  have hown : s.vm.findClass "com/example/whipstill/whipstill/MovingWindowMeanAbovePinLaw" = some m.cls := findClass_of_methodNamed Bd.named
  have hnm := (name_of_methodNamed Bd.named Bd.method).1
  have X0 : Stand p l e room_1 s m #[(.int p0), (.int i1), (.int i2), (.long q1), (.long q2), (.long q3)] below meth c s₁ [] 0 0 := Stand.of_body Bd
  have e0 : s₁.heap = h0 := by rw [← hh, Bd.state]; rfl
  have N0 := Fr.nil n0
  have pre0 : ∀ t, Steps p.tables e below (s₁.setTop (mkF m 0 #[.val (.int p0), .val (.int i1), .val (.int i2), .val (.long q1), .second, .val (.long q2), .second, .val (.long q3), .second, .unset, .unset, .unset, .unset, .unset, .unset, .unset, .unset, .unset, .unset, .unset, .unset, .unset, .unset, .unset, .unset, .unset] [])) t → Steps p.tables e below (s₁.setTop (entryFrame m #[(.int p0), (.int i1), (.int i2), (.long q1), (.long q2), (.long q3)] maxLocals)) t := fun t k => castTop (ef_rm0_4_3 m p0 i1 i2 q1 q2 q3) k
  obtain ⟨T1_, h1_, L1_, X1_, e1_, N1_, K1_, st1_⟩ := pcA Z a0 hw X0 hx hZ hby hml hown p0 i1 i2 q1 q2 q3 (4 : Int32) (3 : Int32) w0 w1 w2 w3 w4 w5 h0 n0 Z0 e0 N0 (by decide) (by decide) (by exact Nat.le_of_ble_eq_true rfl) (by exact Nat.le_of_ble_eq_true rfl) hn hk hw0 hw1 hw2 hw3 hw4 hw5
  have e1_q := e1_.trans K1_
  obtain ⟨T2_, h2_, L2_, mo_2_, ta_2_, kc_2_, X2_, e2_, N2_, K2_, p2_0, p2_1, p2_2, p2_3, p2_4, p2_5, st2_⟩ := pcI4 Z a0 hw X1_ hx hZ hby hml hown (.val (.int p0)) i1 i2 (.val (.long q1)) (.second) (.val (.long q2)) (.second) (.val (.long q3)) (.second) (3 : Int32) w0 w1 w2 w3 w4 w5 h0 n0 Z0 e1_q N1_ (by decide) (by decide) (by exact Nat.le_of_ble_eq_true rfl) (by exact Nat.le_of_ble_eq_true rfl) 
  have z4_ : n0 ≤ h2_.size := Nat.le_trans Z0 K2_.1
  obtain ⟨T3_, h3_, L3_, X3_, e3_, N3_, K3_, p3_0, p3_1, p3_2, p3_3, st3_⟩ := pcT4_0 Z a0 hw X2_ hx hZ hby hml hown (.val (.int p0)) i1 i2 (.val (.long q1)) (.second) (.val (.long q2)) (.second) (.val (.long q3)) (.second) (3 : Int32) w0 w1 w2 w3 w4 w5 mo_2_ ta_2_ kc_2_ (i1.toInt64) (i1.toInt64) (i1.toInt64) (i1.toInt64) h2_ n0 z4_ e2_ N2_ (by decide) (by decide) (by exact Nat.le_of_ble_eq_true rfl) (by exact Nat.le_of_ble_eq_true rfl) (by decide) p2_2 p2_3 p2_4 p2_5 p2_0 p2_1
  have z6_ : n0 ≤ h3_.size := Nat.le_trans z4_ K3_.1
  obtain ⟨T5_, h5_, L5_, X5_, e5_, N5_, K5_, p5_0, p5_1, p5_2, p5_3, st5_⟩ := pcT4_1 Z a0 hw X3_ hx hZ hby hml hown (.val (.int p0)) i1 i2 (.val (.long q1)) (.second) (.val (.long q2)) (.second) (.val (.long q3)) (.second) (3 : Int32) w0 w1 w2 w3 w4 w5 mo_2_ ta_2_ kc_2_ (w0.toInt64) (i1.toInt64) (i1.toInt64) (i1.toInt64) h3_ n0 z6_ e3_ N3_ (by decide) (by decide) (by exact Nat.le_of_ble_eq_true rfl) (by exact Nat.le_of_ble_eq_true rfl) (by decide) p3_0 p3_1 p3_2 p3_3 p2_0 p2_1
  have z8_ : n0 ≤ h5_.size := Nat.le_trans z6_ K5_.1
  obtain ⟨T7_, h7_, L7_, X7_, e7_, N7_, K7_, p7_0, p7_1, p7_2, p7_3, st7_⟩ := pcT4_2 Z a0 hw X5_ hx hZ hby hml hown (.val (.int p0)) i1 i2 (.val (.long q1)) (.second) (.val (.long q2)) (.second) (.val (.long q3)) (.second) (3 : Int32) w0 w1 w2 w3 w4 w5 mo_2_ ta_2_ kc_2_ (w0.toInt64) (w1.toInt64) (i1.toInt64) (i1.toInt64) h5_ n0 z8_ e5_ N5_ (by decide) (by decide) (by exact Nat.le_of_ble_eq_true rfl) (by exact Nat.le_of_ble_eq_true rfl) (by decide) p5_0 p5_1 p5_2 p5_3 p2_0 p2_1
  have z10_ : n0 ≤ h7_.size := Nat.le_trans z8_ K7_.1
  obtain ⟨T9_, h9_, L9_, X9_, e9_, N9_, K9_, st9_⟩ := pcS3 Z a0 hw X7_ hx hZ hby hml hown (.val (.int p0)) i1 i2 (.val (.long q1)) (.second) (.val (.long q2)) (.second) (.val (.long q3)) (.second) (4 : Int32) (3 : Int32) w0 w1 w2 w3 w4 w5 mo_2_ h7_ n0 z10_ e7_ N7_ (by decide) (by decide) (by exact Nat.le_of_ble_eq_true rfl) (by exact Nat.le_of_ble_eq_true rfl) (by decide)
  have e9_q := e9_.trans K9_
  obtain ⟨T11_, h11_, L11_, X11_, e11_, N11_, K11_, st11_⟩ := pcS4 Z a0 hw X9_ hx hZ hby hml hown (.val (.int p0)) i1 i2 (.val (.long q1)) (.second) (.val (.long q2)) (.second) (.val (.long q3)) (.second) (4 : Int32) (3 : Int32) w0 w1 w2 w3 w4 w5 mo_2_ h7_ n0 z10_ e9_q N9_ (by decide) (by decide) (by exact Nat.le_of_ble_eq_true rfl) (by exact Nat.le_of_ble_eq_true rfl) (by decide)
  have e11_q := e11_.trans K11_
  obtain ⟨T12_, h12_, L12_, X12_, e12_, N12_, K12_, st12_⟩ := pcS5 Z a0 hw X11_ hx hZ hby hml hown (.val (.int p0)) i1 i2 (.val (.long q1)) (.second) (.val (.long q2)) (.second) (.val (.long q3)) (.second) (4 : Int32) (3 : Int32) w0 w1 w2 w3 w4 w5 mo_2_ h7_ n0 z10_ e11_q N11_ (by decide) (by decide) (by exact Nat.le_of_ble_eq_true rfl) (by exact Nat.le_of_ble_eq_true rfl) (by decide)
  have e12_q := e12_.trans K12_
  obtain ⟨T13_, h13_, L13_, X13_, e13_, N13_, K13_, st13_⟩ := pcM4 Z a0 hw X12_ hx hZ hby hml hown (.val (.int p0)) i1 i2 (.val (.long q1)) (.second) (.val (.long q2)) (.second) (.val (.long q3)) (.second) (3 : Int32) w0 w1 w2 w3 w4 w5 mo_2_ ta_2_ kc_2_ (w0.toInt64) (w1.toInt64) (w2.toInt64) (i1.toInt64) h7_ n0 z10_ e12_q N12_ (by decide) (by decide) (by exact Nat.le_of_ble_eq_true rfl) (by exact Nat.le_of_ble_eq_true rfl) p7_0 p7_1 p7_3 (own_R.i2l w0) (own_R.i2l w1) (own_R.i2l w2) (own_R.i2l i1)
  have e13_q := e13_.trans K13_
  have hAB : (((((0 : Int64) + ((w0.toInt64) - (i2.toInt64))) + ((w1.toInt64) - (i2.toInt64))) + ((w2.toInt64) - (i2.toInt64))) + ((i1.toInt64) - (i2.toInt64))) = ((((((((((own_maxI (0 : Int32) ((4 : Int32) - (3 : Int32))).toInt64) * (i1.toInt64)) + (own_held (0 : Int32) (3 : Int32) (4 : Int32) w0)) + (own_held (1 : Int32) (3 : Int32) (4 : Int32) w1)) + (own_held (2 : Int32) (3 : Int32) (4 : Int32) w2)) + (own_held (3 : Int32) (3 : Int32) (4 : Int32) w3)) + (own_held (4 : Int32) (3 : Int32) (4 : Int32) w4)) + (own_held (5 : Int32) (3 : Int32) (4 : Int32) w5)) - (((4 : Int32).toInt64) * (i2.toInt64))) := by
    rw [show own_maxI (0 : Int32) ((4 : Int32) - (3 : Int32)) = (1 : Int32) from rfl, show own_held (0 : Int32) (3 : Int32) (4 : Int32) w0 = w0.toInt64 from rfl, show own_held (1 : Int32) (3 : Int32) (4 : Int32) w1 = w1.toInt64 from rfl, show own_held (2 : Int32) (3 : Int32) (4 : Int32) w2 = w2.toInt64 from rfl, show own_held (3 : Int32) (3 : Int32) (4 : Int32) w3 = 0 from rfl, show own_held (4 : Int32) (3 : Int32) (4 : Int32) w4 = 0 from rfl, show own_held (5 : Int32) (3 : Int32) (4 : Int32) w5 = 0 from rfl, show (1 : Int32).toInt64 = 1 from rfl, show (4 : Int32).toInt64 = 4 from rfl]
    generalize i1.toInt64 = x1, i2.toInt64 = x2, w0.toInt64 = x3, w1.toInt64 = x4, w2.toInt64 = x5, w3.toInt64 = x6, w4.toInt64 = x7, w5.toInt64 = x8
    grind
  obtain ⟨T14_, h14_, L14_, X14_, e14_, N14_, K14_, st14_⟩ := pcB Z a0 hw X13_ hx hZ hby hml hown (.val (.int p0)) i1 i2 (.val (.long q1)) (.second) (.val (.long q2)) (.second) (.val (.long q3)) (.second) (4 : Int32) (3 : Int32) w0 w1 w2 w3 w4 w5 mo_2_ (FP.ddiv (FP.l2d (((((0 : Int64) + ((w0.toInt64) - (i2.toInt64))) + ((w1.toInt64) - (i2.toInt64))) + ((w2.toInt64) - (i2.toInt64))) + ((i1.toInt64) - (i2.toInt64)))) (FP.i2d (4 : Int32))) h7_ n0 z10_ e13_q N13_ (by decide) (by decide) (by exact Nat.le_of_ble_eq_true rfl) (by exact Nat.le_of_ble_eq_true rfl) (by decide) (dcmpV_eq (congrArg (fun z => FP.ddiv (FP.l2d z) (FP.i2d (4 : Int32))) hAB) (own_ddiv _ _ (by decide)) .l)
  have e14_q := e14_.trans K14_
  obtain ⟨fs, hr, hrun, hended, hW, hsame⟩ := X14_.leave (v := some (.int (1 : Int32))) (fun h => by first | rfl | (rw [Bd.returns] at h; cases h))
  refine ⟨_, _, pre0 _ ?_, hrun, hended, _, _, rfl, ?_, ⟨_, rfl⟩, hW, hsame.mono (by exact Nat.le_of_ble_eq_true rfl) (by exact Nat.le_of_ble_eq_true rfl)⟩
  · show Steps p.tables e below (s₁.setTop (mkF m 0 #[.val (.int p0), .val (.int i1), .val (.int i2), .val (.long q1), .second, .val (.long q2), .second, .val (.long q3), .second, .unset, .unset, .unset, .unset, .unset, .unset, .unset, .unset, .unset, .unset, .unset, .unset, .unset, .unset, .unset, .unset, .unset] [])) _
    refine st1_ _ ?_
    refine st2_ _ ?_
    refine st3_ _ ?_
    refine st5_ _ ?_
    refine st7_ _ ?_
    refine st9_ _ ?_
    refine st11_ _ ?_
    refine st12_ _ ?_
    refine st13_ _ ?_
    refine st14_ _ ?_
    exact retN X14_ hx (t := .boolean) Bd.returns (by simp) (hb hby at_300) hr
  · show Q_rm0_4_3 Z p0 i1 i2 q1 q2 q3 w0 w1 w2 w3 w4 w5 h0 n0 _ T14_.heap _
    rw [e14_q]
    exact ⟨rfl, N14_⟩
theorem ef_rm0_4_4 (m : MethodId) (x0 : Int32) (x1 : Int32) (x2 : Int32) (x3 : Int64) (x4 : Int64) (x5 : Int64) : entryFrame m #[(.int x0), (.int x1), (.int x2), (.long x3), (.long x4), (.long x5)] maxLocals = mkF m 0 #[.val (.int x0), .val (.int x1), .val (.int x2), .val (.long x3), .second, .val (.long x4), .second, .val (.long x5), .second, .unset, .unset, .unset, .unset, .unset, .unset, .unset, .unset, .unset, .unset, .unset, .unset, .unset, .unset, .unset, .unset, .unset] [] := by first | (simp [entryFrame, mkF, argsToLocals, Value.category, maxLocals]; done) | rfl
def Q_rm0_4_4 (Z : State) (p0 : Int32) (i1 : Int32) (i2 : Int32) (q1 : Int64) (q2 : Int64) (q3 : Int64) (w0 : Int32) (w1 : Int32) (w2 : Int32) (w3 : Int32) (w4 : Int32) (w5 : Int32) (h0 : Heap) (n0 : Nat) (v : Option Value) (h : Heap) (L : List Loc) : Prop := v = some (.int (1 : Int32)) ∧ Fr n0 L
set_option maxRecDepth 65536 in
set_option maxHeartbeats 40000000 in
theorem rm0_4_4 (l : Launch) (Z : State) (a0 : Array Value) (hw : ∀ d ∈ tables_1, d.before a0 Z = true) (ws : List Jvm.Cond) (p0 : Int32) (i1 : Int32) (i2 : Int32) (q1 : Int64) (q2 : Int64) (q3 : Int64) (w0 : Int32) (w1 : Int32) (w2 : Int32) (w3 : Int32) (w4 : Int32) (w5 : Int32) (h0 : Heap) (n0 : Nat) (Z0 : n0 ≤ h0.size) (hn : ((1 : Int32) + (p0 &&& (3 : Int32))) = (4 : Int32)) (hk : (own_minI (((p0.toUInt32 >>> ((2 : Int32) &&& 31).toUInt32).toInt32) &&& (7 : Int32)) (6 : Int32)) = (4 : Int32)) (hw0 : (q1.toInt32) = w0) (hw1 : (((q1.toUInt64 >>> ((32 : Int32) &&& 0x3f).toInt64.toUInt64).toInt64).toInt32) = w1) (hw2 : (q2.toInt32) = w2) (hw3 : (((q2.toUInt64 >>> ((32 : Int32) &&& 0x3f).toInt64.toUInt64).toInt64).toInt32) = w3) (hw4 : (q3.toInt32) = w4) (hw5 : (((q3.toUInt64 >>> ((32 : Int32) &&& 0x3f).toInt64.toUInt64).toInt64).toInt32) = w5) :
    MetFree l x (head1 (Jvm.Cond.code x code maxLocals ret :: ws) room_1) (fun a U => a = #[(.int p0), (.int i1), (.int i2), (.long q1), (.long q2), (.long q3)] ∧ Z.Warmed39 U.vm ∧ U.heap = h0) (fun _ _ _ _ _ => True) (fun _ U o U' => ∃ v L, o = .returned v ∧ Q_rm0_4_4 Z p0 i1 i2 q1 q2 q3 w0 w1 w2 w3 w4 w5 h0 n0 v U'.heap L ∧ FrameEnd U o U' L room_1.cells room_1.slots) := by
  refine MetFree.of_bodySF (plainFor_of_name pn_com_example_whipstill_whipstill_MovingWindowMeanAbovePinLaw) hisR ?_
  intro p e s m args below meth c s₁ Bd hml0 hP hK
  obtain ⟨rfl, hZ, hh⟩ := hP
  have hx := Bd.exec
  have hby := Bd.bytes
  have hml : c.maxLocals = 26 := hml0
  have hown : s.vm.findClass "com/example/whipstill/whipstill/MovingWindowMeanAbovePinLaw" = some m.cls := findClass_of_methodNamed Bd.named
  have hnm := (name_of_methodNamed Bd.named Bd.method).1
  have X0 : Stand p l e room_1 s m #[(.int p0), (.int i1), (.int i2), (.long q1), (.long q2), (.long q3)] below meth c s₁ [] 0 0 := Stand.of_body Bd
  have e0 : s₁.heap = h0 := by rw [← hh, Bd.state]; rfl
  have N0 := Fr.nil n0
  have pre0 : ∀ t, Steps p.tables e below (s₁.setTop (mkF m 0 #[.val (.int p0), .val (.int i1), .val (.int i2), .val (.long q1), .second, .val (.long q2), .second, .val (.long q3), .second, .unset, .unset, .unset, .unset, .unset, .unset, .unset, .unset, .unset, .unset, .unset, .unset, .unset, .unset, .unset, .unset, .unset] [])) t → Steps p.tables e below (s₁.setTop (entryFrame m #[(.int p0), (.int i1), (.int i2), (.long q1), (.long q2), (.long q3)] maxLocals)) t := fun t k => castTop (ef_rm0_4_4 m p0 i1 i2 q1 q2 q3) k
  obtain ⟨T1_, h1_, L1_, X1_, e1_, N1_, K1_, st1_⟩ := pcA Z a0 hw X0 hx hZ hby hml hown p0 i1 i2 q1 q2 q3 (4 : Int32) (4 : Int32) w0 w1 w2 w3 w4 w5 h0 n0 Z0 e0 N0 (by decide) (by decide) (by exact Nat.le_of_ble_eq_true rfl) (by exact Nat.le_of_ble_eq_true rfl) hn hk hw0 hw1 hw2 hw3 hw4 hw5
  have e1_q := e1_.trans K1_
  obtain ⟨T2_, h2_, L2_, mo_2_, ta_2_, kc_2_, X2_, e2_, N2_, K2_, p2_0, p2_1, p2_2, p2_3, p2_4, p2_5, st2_⟩ := pcI4 Z a0 hw X1_ hx hZ hby hml hown (.val (.int p0)) i1 i2 (.val (.long q1)) (.second) (.val (.long q2)) (.second) (.val (.long q3)) (.second) (4 : Int32) w0 w1 w2 w3 w4 w5 h0 n0 Z0 e1_q N1_ (by decide) (by decide) (by exact Nat.le_of_ble_eq_true rfl) (by exact Nat.le_of_ble_eq_true rfl) 
  have z4_ : n0 ≤ h2_.size := Nat.le_trans Z0 K2_.1
  obtain ⟨T3_, h3_, L3_, X3_, e3_, N3_, K3_, p3_0, p3_1, p3_2, p3_3, st3_⟩ := pcT4_0 Z a0 hw X2_ hx hZ hby hml hown (.val (.int p0)) i1 i2 (.val (.long q1)) (.second) (.val (.long q2)) (.second) (.val (.long q3)) (.second) (4 : Int32) w0 w1 w2 w3 w4 w5 mo_2_ ta_2_ kc_2_ (i1.toInt64) (i1.toInt64) (i1.toInt64) (i1.toInt64) h2_ n0 z4_ e2_ N2_ (by decide) (by decide) (by exact Nat.le_of_ble_eq_true rfl) (by exact Nat.le_of_ble_eq_true rfl) (by decide) p2_2 p2_3 p2_4 p2_5 p2_0 p2_1
  have z6_ : n0 ≤ h3_.size := Nat.le_trans z4_ K3_.1
  obtain ⟨T5_, h5_, L5_, X5_, e5_, N5_, K5_, p5_0, p5_1, p5_2, p5_3, st5_⟩ := pcT4_1 Z a0 hw X3_ hx hZ hby hml hown (.val (.int p0)) i1 i2 (.val (.long q1)) (.second) (.val (.long q2)) (.second) (.val (.long q3)) (.second) (4 : Int32) w0 w1 w2 w3 w4 w5 mo_2_ ta_2_ kc_2_ (w0.toInt64) (i1.toInt64) (i1.toInt64) (i1.toInt64) h3_ n0 z6_ e3_ N3_ (by decide) (by decide) (by exact Nat.le_of_ble_eq_true rfl) (by exact Nat.le_of_ble_eq_true rfl) (by decide) p3_0 p3_1 p3_2 p3_3 p2_0 p2_1
  have z8_ : n0 ≤ h5_.size := Nat.le_trans z6_ K5_.1
  obtain ⟨T7_, h7_, L7_, X7_, e7_, N7_, K7_, p7_0, p7_1, p7_2, p7_3, st7_⟩ := pcT4_2 Z a0 hw X5_ hx hZ hby hml hown (.val (.int p0)) i1 i2 (.val (.long q1)) (.second) (.val (.long q2)) (.second) (.val (.long q3)) (.second) (4 : Int32) w0 w1 w2 w3 w4 w5 mo_2_ ta_2_ kc_2_ (w0.toInt64) (w1.toInt64) (i1.toInt64) (i1.toInt64) h5_ n0 z8_ e5_ N5_ (by decide) (by decide) (by exact Nat.le_of_ble_eq_true rfl) (by exact Nat.le_of_ble_eq_true rfl) (by decide) p5_0 p5_1 p5_2 p5_3 p2_0 p2_1
  have z10_ : n0 ≤ h7_.size := Nat.le_trans z8_ K7_.1
  obtain ⟨T9_, h9_, L9_, X9_, e9_, N9_, K9_, p9_0, p9_1, p9_2, p9_3, st9_⟩ := pcT4_3 Z a0 hw X7_ hx hZ hby hml hown (.val (.int p0)) i1 i2 (.val (.long q1)) (.second) (.val (.long q2)) (.second) (.val (.long q3)) (.second) (4 : Int32) w0 w1 w2 w3 w4 w5 mo_2_ ta_2_ kc_2_ (w0.toInt64) (w1.toInt64) (w2.toInt64) (i1.toInt64) h7_ n0 z10_ e7_ N7_ (by decide) (by decide) (by exact Nat.le_of_ble_eq_true rfl) (by exact Nat.le_of_ble_eq_true rfl) (by decide) p7_0 p7_1 p7_2 p7_3 p2_0 p2_1
  have z12_ : n0 ≤ h9_.size := Nat.le_trans z10_ K9_.1
  obtain ⟨T11_, h11_, L11_, X11_, e11_, N11_, K11_, st11_⟩ := pcS4 Z a0 hw X9_ hx hZ hby hml hown (.val (.int p0)) i1 i2 (.val (.long q1)) (.second) (.val (.long q2)) (.second) (.val (.long q3)) (.second) (4 : Int32) (4 : Int32) w0 w1 w2 w3 w4 w5 mo_2_ h9_ n0 z12_ e9_ N9_ (by decide) (by decide) (by exact Nat.le_of_ble_eq_true rfl) (by exact Nat.le_of_ble_eq_true rfl) (by decide)
  have e11_q := e11_.trans K11_
  obtain ⟨T13_, h13_, L13_, X13_, e13_, N13_, K13_, st13_⟩ := pcS5 Z a0 hw X11_ hx hZ hby hml hown (.val (.int p0)) i1 i2 (.val (.long q1)) (.second) (.val (.long q2)) (.second) (.val (.long q3)) (.second) (4 : Int32) (4 : Int32) w0 w1 w2 w3 w4 w5 mo_2_ h9_ n0 z12_ e11_q N11_ (by decide) (by decide) (by exact Nat.le_of_ble_eq_true rfl) (by exact Nat.le_of_ble_eq_true rfl) (by decide)
  have e13_q := e13_.trans K13_
  obtain ⟨T14_, h14_, L14_, X14_, e14_, N14_, K14_, st14_⟩ := pcM4 Z a0 hw X13_ hx hZ hby hml hown (.val (.int p0)) i1 i2 (.val (.long q1)) (.second) (.val (.long q2)) (.second) (.val (.long q3)) (.second) (4 : Int32) w0 w1 w2 w3 w4 w5 mo_2_ ta_2_ kc_2_ (w0.toInt64) (w1.toInt64) (w2.toInt64) (w3.toInt64) h9_ n0 z12_ e13_q N13_ (by decide) (by decide) (by exact Nat.le_of_ble_eq_true rfl) (by exact Nat.le_of_ble_eq_true rfl) p9_0 p9_1 p9_3 (own_R.i2l w0) (own_R.i2l w1) (own_R.i2l w2) (own_R.i2l w3)
  have e14_q := e14_.trans K14_
  have hAB : (((((0 : Int64) + ((w0.toInt64) - (i2.toInt64))) + ((w1.toInt64) - (i2.toInt64))) + ((w2.toInt64) - (i2.toInt64))) + ((w3.toInt64) - (i2.toInt64))) = ((((((((((own_maxI (0 : Int32) ((4 : Int32) - (4 : Int32))).toInt64) * (i1.toInt64)) + (own_held (0 : Int32) (4 : Int32) (4 : Int32) w0)) + (own_held (1 : Int32) (4 : Int32) (4 : Int32) w1)) + (own_held (2 : Int32) (4 : Int32) (4 : Int32) w2)) + (own_held (3 : Int32) (4 : Int32) (4 : Int32) w3)) + (own_held (4 : Int32) (4 : Int32) (4 : Int32) w4)) + (own_held (5 : Int32) (4 : Int32) (4 : Int32) w5)) - (((4 : Int32).toInt64) * (i2.toInt64))) := by
    rw [show own_maxI (0 : Int32) ((4 : Int32) - (4 : Int32)) = (0 : Int32) from rfl, show own_held (0 : Int32) (4 : Int32) (4 : Int32) w0 = w0.toInt64 from rfl, show own_held (1 : Int32) (4 : Int32) (4 : Int32) w1 = w1.toInt64 from rfl, show own_held (2 : Int32) (4 : Int32) (4 : Int32) w2 = w2.toInt64 from rfl, show own_held (3 : Int32) (4 : Int32) (4 : Int32) w3 = w3.toInt64 from rfl, show own_held (4 : Int32) (4 : Int32) (4 : Int32) w4 = 0 from rfl, show own_held (5 : Int32) (4 : Int32) (4 : Int32) w5 = 0 from rfl, show (0 : Int32).toInt64 = 0 from rfl, show (4 : Int32).toInt64 = 4 from rfl]
    generalize i1.toInt64 = x1, i2.toInt64 = x2, w0.toInt64 = x3, w1.toInt64 = x4, w2.toInt64 = x5, w3.toInt64 = x6, w4.toInt64 = x7, w5.toInt64 = x8
    grind
  obtain ⟨T15_, h15_, L15_, X15_, e15_, N15_, K15_, st15_⟩ := pcB Z a0 hw X14_ hx hZ hby hml hown (.val (.int p0)) i1 i2 (.val (.long q1)) (.second) (.val (.long q2)) (.second) (.val (.long q3)) (.second) (4 : Int32) (4 : Int32) w0 w1 w2 w3 w4 w5 mo_2_ (FP.ddiv (FP.l2d (((((0 : Int64) + ((w0.toInt64) - (i2.toInt64))) + ((w1.toInt64) - (i2.toInt64))) + ((w2.toInt64) - (i2.toInt64))) + ((w3.toInt64) - (i2.toInt64)))) (FP.i2d (4 : Int32))) h9_ n0 z12_ e14_q N14_ (by decide) (by decide) (by exact Nat.le_of_ble_eq_true rfl) (by exact Nat.le_of_ble_eq_true rfl) (by decide) (dcmpV_eq (congrArg (fun z => FP.ddiv (FP.l2d z) (FP.i2d (4 : Int32))) hAB) (own_ddiv _ _ (by decide)) .l)
  have e15_q := e15_.trans K15_
  obtain ⟨fs, hr, hrun, hended, hW, hsame⟩ := X15_.leave (v := some (.int (1 : Int32))) (fun h => by first | rfl | (rw [Bd.returns] at h; cases h))
  refine ⟨_, _, pre0 _ ?_, hrun, hended, _, _, rfl, ?_, ⟨_, rfl⟩, hW, hsame.mono (by exact Nat.le_of_ble_eq_true rfl) (by exact Nat.le_of_ble_eq_true rfl)⟩
  · show Steps p.tables e below (s₁.setTop (mkF m 0 #[.val (.int p0), .val (.int i1), .val (.int i2), .val (.long q1), .second, .val (.long q2), .second, .val (.long q3), .second, .unset, .unset, .unset, .unset, .unset, .unset, .unset, .unset, .unset, .unset, .unset, .unset, .unset, .unset, .unset, .unset, .unset] [])) _
    refine st1_ _ ?_
    refine st2_ _ ?_
    refine st3_ _ ?_
    refine st5_ _ ?_
    refine st7_ _ ?_
    refine st9_ _ ?_
    refine st11_ _ ?_
    refine st13_ _ ?_
    refine st14_ _ ?_
    refine st15_ _ ?_
    exact retN X15_ hx (t := .boolean) Bd.returns (by simp) (hb hby at_300) hr
  · show Q_rm0_4_4 Z p0 i1 i2 q1 q2 q3 w0 w1 w2 w3 w4 w5 h0 n0 _ T15_.heap _
    rw [e15_q]
    exact ⟨rfl, N15_⟩
theorem ef_rm0_4_5 (m : MethodId) (x0 : Int32) (x1 : Int32) (x2 : Int32) (x3 : Int64) (x4 : Int64) (x5 : Int64) : entryFrame m #[(.int x0), (.int x1), (.int x2), (.long x3), (.long x4), (.long x5)] maxLocals = mkF m 0 #[.val (.int x0), .val (.int x1), .val (.int x2), .val (.long x3), .second, .val (.long x4), .second, .val (.long x5), .second, .unset, .unset, .unset, .unset, .unset, .unset, .unset, .unset, .unset, .unset, .unset, .unset, .unset, .unset, .unset, .unset, .unset] [] := by first | (simp [entryFrame, mkF, argsToLocals, Value.category, maxLocals]; done) | rfl
def Q_rm0_4_5 (Z : State) (p0 : Int32) (i1 : Int32) (i2 : Int32) (q1 : Int64) (q2 : Int64) (q3 : Int64) (w0 : Int32) (w1 : Int32) (w2 : Int32) (w3 : Int32) (w4 : Int32) (w5 : Int32) (h0 : Heap) (n0 : Nat) (v : Option Value) (h : Heap) (L : List Loc) : Prop := v = some (.int (1 : Int32)) ∧ Fr n0 L
set_option maxRecDepth 65536 in
set_option maxHeartbeats 40000000 in
theorem rm0_4_5 (l : Launch) (Z : State) (a0 : Array Value) (hw : ∀ d ∈ tables_1, d.before a0 Z = true) (ws : List Jvm.Cond) (p0 : Int32) (i1 : Int32) (i2 : Int32) (q1 : Int64) (q2 : Int64) (q3 : Int64) (w0 : Int32) (w1 : Int32) (w2 : Int32) (w3 : Int32) (w4 : Int32) (w5 : Int32) (h0 : Heap) (n0 : Nat) (Z0 : n0 ≤ h0.size) (hn : ((1 : Int32) + (p0 &&& (3 : Int32))) = (4 : Int32)) (hk : (own_minI (((p0.toUInt32 >>> ((2 : Int32) &&& 31).toUInt32).toInt32) &&& (7 : Int32)) (6 : Int32)) = (5 : Int32)) (hw0 : (q1.toInt32) = w0) (hw1 : (((q1.toUInt64 >>> ((32 : Int32) &&& 0x3f).toInt64.toUInt64).toInt64).toInt32) = w1) (hw2 : (q2.toInt32) = w2) (hw3 : (((q2.toUInt64 >>> ((32 : Int32) &&& 0x3f).toInt64.toUInt64).toInt64).toInt32) = w3) (hw4 : (q3.toInt32) = w4) (hw5 : (((q3.toUInt64 >>> ((32 : Int32) &&& 0x3f).toInt64.toUInt64).toInt64).toInt32) = w5) :
    MetFree l x (head1 (Jvm.Cond.code x code maxLocals ret :: ws) room_1) (fun a U => a = #[(.int p0), (.int i1), (.int i2), (.long q1), (.long q2), (.long q3)] ∧ Z.Warmed39 U.vm ∧ U.heap = h0) (fun _ _ _ _ _ => True) (fun _ U o U' => ∃ v L, o = .returned v ∧ Q_rm0_4_5 Z p0 i1 i2 q1 q2 q3 w0 w1 w2 w3 w4 w5 h0 n0 v U'.heap L ∧ FrameEnd U o U' L room_1.cells room_1.slots) := by
  refine MetFree.of_bodySF (plainFor_of_name pn_com_example_whipstill_whipstill_MovingWindowMeanAbovePinLaw) hisR ?_
  intro p e s m args below meth c s₁ Bd hml0 hP hK
  obtain ⟨rfl, hZ, hh⟩ := hP
  have hx := Bd.exec
  have hby := Bd.bytes
  have hml : c.maxLocals = 26 := hml0
  have hown : s.vm.findClass "com/example/whipstill/whipstill/MovingWindowMeanAbovePinLaw" = some m.cls := findClass_of_methodNamed Bd.named
  have hnm := (name_of_methodNamed Bd.named Bd.method).1
  have X0 : Stand p l e room_1 s m #[(.int p0), (.int i1), (.int i2), (.long q1), (.long q2), (.long q3)] below meth c s₁ [] 0 0 := Stand.of_body Bd
  have e0 : s₁.heap = h0 := by rw [← hh, Bd.state]; rfl
  have N0 := Fr.nil n0
  have pre0 : ∀ t, Steps p.tables e below (s₁.setTop (mkF m 0 #[.val (.int p0), .val (.int i1), .val (.int i2), .val (.long q1), .second, .val (.long q2), .second, .val (.long q3), .second, .unset, .unset, .unset, .unset, .unset, .unset, .unset, .unset, .unset, .unset, .unset, .unset, .unset, .unset, .unset, .unset, .unset] [])) t → Steps p.tables e below (s₁.setTop (entryFrame m #[(.int p0), (.int i1), (.int i2), (.long q1), (.long q2), (.long q3)] maxLocals)) t := fun t k => castTop (ef_rm0_4_5 m p0 i1 i2 q1 q2 q3) k
  obtain ⟨T1_, h1_, L1_, X1_, e1_, N1_, K1_, st1_⟩ := pcA Z a0 hw X0 hx hZ hby hml hown p0 i1 i2 q1 q2 q3 (4 : Int32) (5 : Int32) w0 w1 w2 w3 w4 w5 h0 n0 Z0 e0 N0 (by decide) (by decide) (by exact Nat.le_of_ble_eq_true rfl) (by exact Nat.le_of_ble_eq_true rfl) hn hk hw0 hw1 hw2 hw3 hw4 hw5
  have e1_q := e1_.trans K1_
  obtain ⟨T2_, h2_, L2_, mo_2_, ta_2_, kc_2_, X2_, e2_, N2_, K2_, p2_0, p2_1, p2_2, p2_3, p2_4, p2_5, st2_⟩ := pcI4 Z a0 hw X1_ hx hZ hby hml hown (.val (.int p0)) i1 i2 (.val (.long q1)) (.second) (.val (.long q2)) (.second) (.val (.long q3)) (.second) (5 : Int32) w0 w1 w2 w3 w4 w5 h0 n0 Z0 e1_q N1_ (by decide) (by decide) (by exact Nat.le_of_ble_eq_true rfl) (by exact Nat.le_of_ble_eq_true rfl) 
  have z4_ : n0 ≤ h2_.size := Nat.le_trans Z0 K2_.1
  obtain ⟨T3_, h3_, L3_, X3_, e3_, N3_, K3_, p3_0, p3_1, p3_2, p3_3, st3_⟩ := pcT4_0 Z a0 hw X2_ hx hZ hby hml hown (.val (.int p0)) i1 i2 (.val (.long q1)) (.second) (.val (.long q2)) (.second) (.val (.long q3)) (.second) (5 : Int32) w0 w1 w2 w3 w4 w5 mo_2_ ta_2_ kc_2_ (i1.toInt64) (i1.toInt64) (i1.toInt64) (i1.toInt64) h2_ n0 z4_ e2_ N2_ (by decide) (by decide) (by exact Nat.le_of_ble_eq_true rfl) (by exact Nat.le_of_ble_eq_true rfl) (by decide) p2_2 p2_3 p2_4 p2_5 p2_0 p2_1
  have z6_ : n0 ≤ h3_.size := Nat.le_trans z4_ K3_.1
  obtain ⟨T5_, h5_, L5_, X5_, e5_, N5_, K5_, p5_0, p5_1, p5_2, p5_3, st5_⟩ := pcT4_1 Z a0 hw X3_ hx hZ hby hml hown (.val (.int p0)) i1 i2 (.val (.long q1)) (.second) (.val (.long q2)) (.second) (.val (.long q3)) (.second) (5 : Int32) w0 w1 w2 w3 w4 w5 mo_2_ ta_2_ kc_2_ (w0.toInt64) (i1.toInt64) (i1.toInt64) (i1.toInt64) h3_ n0 z6_ e3_ N3_ (by decide) (by decide) (by exact Nat.le_of_ble_eq_true rfl) (by exact Nat.le_of_ble_eq_true rfl) (by decide) p3_0 p3_1 p3_2 p3_3 p2_0 p2_1
  have z8_ : n0 ≤ h5_.size := Nat.le_trans z6_ K5_.1
  obtain ⟨T7_, h7_, L7_, X7_, e7_, N7_, K7_, p7_0, p7_1, p7_2, p7_3, st7_⟩ := pcT4_2 Z a0 hw X5_ hx hZ hby hml hown (.val (.int p0)) i1 i2 (.val (.long q1)) (.second) (.val (.long q2)) (.second) (.val (.long q3)) (.second) (5 : Int32) w0 w1 w2 w3 w4 w5 mo_2_ ta_2_ kc_2_ (w0.toInt64) (w1.toInt64) (i1.toInt64) (i1.toInt64) h5_ n0 z8_ e5_ N5_ (by decide) (by decide) (by exact Nat.le_of_ble_eq_true rfl) (by exact Nat.le_of_ble_eq_true rfl) (by decide) p5_0 p5_1 p5_2 p5_3 p2_0 p2_1
  have z10_ : n0 ≤ h7_.size := Nat.le_trans z8_ K7_.1
  obtain ⟨T9_, h9_, L9_, X9_, e9_, N9_, K9_, p9_0, p9_1, p9_2, p9_3, st9_⟩ := pcT4_3 Z a0 hw X7_ hx hZ hby hml hown (.val (.int p0)) i1 i2 (.val (.long q1)) (.second) (.val (.long q2)) (.second) (.val (.long q3)) (.second) (5 : Int32) w0 w1 w2 w3 w4 w5 mo_2_ ta_2_ kc_2_ (w0.toInt64) (w1.toInt64) (w2.toInt64) (i1.toInt64) h7_ n0 z10_ e7_ N7_ (by decide) (by decide) (by exact Nat.le_of_ble_eq_true rfl) (by exact Nat.le_of_ble_eq_true rfl) (by decide) p7_0 p7_1 p7_2 p7_3 p2_0 p2_1
  have z12_ : n0 ≤ h9_.size := Nat.le_trans z10_ K9_.1
  obtain ⟨T11_, h11_, L11_, X11_, e11_, N11_, K11_, p11_0, p11_1, p11_2, p11_3, st11_⟩ := pcT4_4 Z a0 hw X9_ hx hZ hby hml hown (.val (.int p0)) i1 i2 (.val (.long q1)) (.second) (.val (.long q2)) (.second) (.val (.long q3)) (.second) (5 : Int32) w0 w1 w2 w3 w4 w5 mo_2_ ta_2_ kc_2_ (w0.toInt64) (w1.toInt64) (w2.toInt64) (w3.toInt64) h9_ n0 z12_ e9_ N9_ (by decide) (by decide) (by exact Nat.le_of_ble_eq_true rfl) (by exact Nat.le_of_ble_eq_true rfl) (by decide) p9_0 p9_1 p9_2 p9_3 p2_0 p2_1
  have z14_ : n0 ≤ h11_.size := Nat.le_trans z12_ K11_.1
  obtain ⟨T13_, h13_, L13_, X13_, e13_, N13_, K13_, st13_⟩ := pcS5 Z a0 hw X11_ hx hZ hby hml hown (.val (.int p0)) i1 i2 (.val (.long q1)) (.second) (.val (.long q2)) (.second) (.val (.long q3)) (.second) (4 : Int32) (5 : Int32) w0 w1 w2 w3 w4 w5 mo_2_ h11_ n0 z14_ e11_ N11_ (by decide) (by decide) (by exact Nat.le_of_ble_eq_true rfl) (by exact Nat.le_of_ble_eq_true rfl) (by decide)
  have e13_q := e13_.trans K13_
  obtain ⟨T15_, h15_, L15_, X15_, e15_, N15_, K15_, st15_⟩ := pcM4 Z a0 hw X13_ hx hZ hby hml hown (.val (.int p0)) i1 i2 (.val (.long q1)) (.second) (.val (.long q2)) (.second) (.val (.long q3)) (.second) (5 : Int32) w0 w1 w2 w3 w4 w5 mo_2_ ta_2_ kc_2_ (w4.toInt64) (w1.toInt64) (w2.toInt64) (w3.toInt64) h11_ n0 z14_ e13_q N13_ (by decide) (by decide) (by exact Nat.le_of_ble_eq_true rfl) (by exact Nat.le_of_ble_eq_true rfl) p11_0 p11_1 p11_3 (own_R.i2l w4) (own_R.i2l w1) (own_R.i2l w2) (own_R.i2l w3)
  have e15_q := e15_.trans K15_
  have hAB : (((((0 : Int64) + ((w4.toInt64) - (i2.toInt64))) + ((w1.toInt64) - (i2.toInt64))) + ((w2.toInt64) - (i2.toInt64))) + ((w3.toInt64) - (i2.toInt64))) = ((((((((((own_maxI (0 : Int32) ((4 : Int32) - (5 : Int32))).toInt64) * (i1.toInt64)) + (own_held (0 : Int32) (5 : Int32) (4 : Int32) w0)) + (own_held (1 : Int32) (5 : Int32) (4 : Int32) w1)) + (own_held (2 : Int32) (5 : Int32) (4 : Int32) w2)) + (own_held (3 : Int32) (5 : Int32) (4 : Int32) w3)) + (own_held (4 : Int32) (5 : Int32) (4 : Int32) w4)) + (own_held (5 : Int32) (5 : Int32) (4 : Int32) w5)) - (((4 : Int32).toInt64) * (i2.toInt64))) := by
    rw [show own_maxI (0 : Int32) ((4 : Int32) - (5 : Int32)) = (0 : Int32) from rfl, show own_held (0 : Int32) (5 : Int32) (4 : Int32) w0 = 0 from rfl, show own_held (1 : Int32) (5 : Int32) (4 : Int32) w1 = w1.toInt64 from rfl, show own_held (2 : Int32) (5 : Int32) (4 : Int32) w2 = w2.toInt64 from rfl, show own_held (3 : Int32) (5 : Int32) (4 : Int32) w3 = w3.toInt64 from rfl, show own_held (4 : Int32) (5 : Int32) (4 : Int32) w4 = w4.toInt64 from rfl, show own_held (5 : Int32) (5 : Int32) (4 : Int32) w5 = 0 from rfl, show (0 : Int32).toInt64 = 0 from rfl, show (4 : Int32).toInt64 = 4 from rfl]
    generalize i1.toInt64 = x1, i2.toInt64 = x2, w0.toInt64 = x3, w1.toInt64 = x4, w2.toInt64 = x5, w3.toInt64 = x6, w4.toInt64 = x7, w5.toInt64 = x8
    grind
  obtain ⟨T16_, h16_, L16_, X16_, e16_, N16_, K16_, st16_⟩ := pcB Z a0 hw X15_ hx hZ hby hml hown (.val (.int p0)) i1 i2 (.val (.long q1)) (.second) (.val (.long q2)) (.second) (.val (.long q3)) (.second) (4 : Int32) (5 : Int32) w0 w1 w2 w3 w4 w5 mo_2_ (FP.ddiv (FP.l2d (((((0 : Int64) + ((w4.toInt64) - (i2.toInt64))) + ((w1.toInt64) - (i2.toInt64))) + ((w2.toInt64) - (i2.toInt64))) + ((w3.toInt64) - (i2.toInt64)))) (FP.i2d (4 : Int32))) h11_ n0 z14_ e15_q N15_ (by decide) (by decide) (by exact Nat.le_of_ble_eq_true rfl) (by exact Nat.le_of_ble_eq_true rfl) (by decide) (dcmpV_eq (congrArg (fun z => FP.ddiv (FP.l2d z) (FP.i2d (4 : Int32))) hAB) (own_ddiv _ _ (by decide)) .l)
  have e16_q := e16_.trans K16_
  obtain ⟨fs, hr, hrun, hended, hW, hsame⟩ := X16_.leave (v := some (.int (1 : Int32))) (fun h => by first | rfl | (rw [Bd.returns] at h; cases h))
  refine ⟨_, _, pre0 _ ?_, hrun, hended, _, _, rfl, ?_, ⟨_, rfl⟩, hW, hsame.mono (by exact Nat.le_of_ble_eq_true rfl) (by exact Nat.le_of_ble_eq_true rfl)⟩
  · show Steps p.tables e below (s₁.setTop (mkF m 0 #[.val (.int p0), .val (.int i1), .val (.int i2), .val (.long q1), .second, .val (.long q2), .second, .val (.long q3), .second, .unset, .unset, .unset, .unset, .unset, .unset, .unset, .unset, .unset, .unset, .unset, .unset, .unset, .unset, .unset, .unset, .unset] [])) _
    refine st1_ _ ?_
    refine st2_ _ ?_
    refine st3_ _ ?_
    refine st5_ _ ?_
    refine st7_ _ ?_
    refine st9_ _ ?_
    refine st11_ _ ?_
    refine st13_ _ ?_
    refine st15_ _ ?_
    refine st16_ _ ?_
    exact retN X16_ hx (t := .boolean) Bd.returns (by simp) (hb hby at_300) hr
  · show Q_rm0_4_5 Z p0 i1 i2 q1 q2 q3 w0 w1 w2 w3 w4 w5 h0 n0 _ T16_.heap _
    rw [e16_q]
    exact ⟨rfl, N16_⟩
theorem ef_rm0_4_6 (m : MethodId) (x0 : Int32) (x1 : Int32) (x2 : Int32) (x3 : Int64) (x4 : Int64) (x5 : Int64) : entryFrame m #[(.int x0), (.int x1), (.int x2), (.long x3), (.long x4), (.long x5)] maxLocals = mkF m 0 #[.val (.int x0), .val (.int x1), .val (.int x2), .val (.long x3), .second, .val (.long x4), .second, .val (.long x5), .second, .unset, .unset, .unset, .unset, .unset, .unset, .unset, .unset, .unset, .unset, .unset, .unset, .unset, .unset, .unset, .unset, .unset] [] := by first | (simp [entryFrame, mkF, argsToLocals, Value.category, maxLocals]; done) | rfl
def Q_rm0_4_6 (Z : State) (p0 : Int32) (i1 : Int32) (i2 : Int32) (q1 : Int64) (q2 : Int64) (q3 : Int64) (w0 : Int32) (w1 : Int32) (w2 : Int32) (w3 : Int32) (w4 : Int32) (w5 : Int32) (h0 : Heap) (n0 : Nat) (v : Option Value) (h : Heap) (L : List Loc) : Prop := v = some (.int (1 : Int32)) ∧ Fr n0 L
set_option maxRecDepth 65536 in
set_option maxHeartbeats 40000000 in
theorem rm0_4_6 (l : Launch) (Z : State) (a0 : Array Value) (hw : ∀ d ∈ tables_1, d.before a0 Z = true) (ws : List Jvm.Cond) (p0 : Int32) (i1 : Int32) (i2 : Int32) (q1 : Int64) (q2 : Int64) (q3 : Int64) (w0 : Int32) (w1 : Int32) (w2 : Int32) (w3 : Int32) (w4 : Int32) (w5 : Int32) (h0 : Heap) (n0 : Nat) (Z0 : n0 ≤ h0.size) (hn : ((1 : Int32) + (p0 &&& (3 : Int32))) = (4 : Int32)) (hk : (own_minI (((p0.toUInt32 >>> ((2 : Int32) &&& 31).toUInt32).toInt32) &&& (7 : Int32)) (6 : Int32)) = (6 : Int32)) (hw0 : (q1.toInt32) = w0) (hw1 : (((q1.toUInt64 >>> ((32 : Int32) &&& 0x3f).toInt64.toUInt64).toInt64).toInt32) = w1) (hw2 : (q2.toInt32) = w2) (hw3 : (((q2.toUInt64 >>> ((32 : Int32) &&& 0x3f).toInt64.toUInt64).toInt64).toInt32) = w3) (hw4 : (q3.toInt32) = w4) (hw5 : (((q3.toUInt64 >>> ((32 : Int32) &&& 0x3f).toInt64.toUInt64).toInt64).toInt32) = w5) :
    MetFree l x (head1 (Jvm.Cond.code x code maxLocals ret :: ws) room_1) (fun a U => a = #[(.int p0), (.int i1), (.int i2), (.long q1), (.long q2), (.long q3)] ∧ Z.Warmed39 U.vm ∧ U.heap = h0) (fun _ _ _ _ _ => True) (fun _ U o U' => ∃ v L, o = .returned v ∧ Q_rm0_4_6 Z p0 i1 i2 q1 q2 q3 w0 w1 w2 w3 w4 w5 h0 n0 v U'.heap L ∧ FrameEnd U o U' L room_1.cells room_1.slots) := by
  refine MetFree.of_bodySF (plainFor_of_name pn_com_example_whipstill_whipstill_MovingWindowMeanAbovePinLaw) hisR ?_
  intro p e s m args below meth c s₁ Bd hml0 hP hK
  obtain ⟨rfl, hZ, hh⟩ := hP
  have hx := Bd.exec
  have hby := Bd.bytes
  have hml : c.maxLocals = 26 := hml0
  have hown : s.vm.findClass "com/example/whipstill/whipstill/MovingWindowMeanAbovePinLaw" = some m.cls := findClass_of_methodNamed Bd.named
  have hnm := (name_of_methodNamed Bd.named Bd.method).1
  have X0 : Stand p l e room_1 s m #[(.int p0), (.int i1), (.int i2), (.long q1), (.long q2), (.long q3)] below meth c s₁ [] 0 0 := Stand.of_body Bd
  have e0 : s₁.heap = h0 := by rw [← hh, Bd.state]; rfl
  have N0 := Fr.nil n0
  have pre0 : ∀ t, Steps p.tables e below (s₁.setTop (mkF m 0 #[.val (.int p0), .val (.int i1), .val (.int i2), .val (.long q1), .second, .val (.long q2), .second, .val (.long q3), .second, .unset, .unset, .unset, .unset, .unset, .unset, .unset, .unset, .unset, .unset, .unset, .unset, .unset, .unset, .unset, .unset, .unset] [])) t → Steps p.tables e below (s₁.setTop (entryFrame m #[(.int p0), (.int i1), (.int i2), (.long q1), (.long q2), (.long q3)] maxLocals)) t := fun t k => castTop (ef_rm0_4_6 m p0 i1 i2 q1 q2 q3) k
  obtain ⟨T1_, h1_, L1_, X1_, e1_, N1_, K1_, st1_⟩ := pcA Z a0 hw X0 hx hZ hby hml hown p0 i1 i2 q1 q2 q3 (4 : Int32) (6 : Int32) w0 w1 w2 w3 w4 w5 h0 n0 Z0 e0 N0 (by decide) (by decide) (by exact Nat.le_of_ble_eq_true rfl) (by exact Nat.le_of_ble_eq_true rfl) hn hk hw0 hw1 hw2 hw3 hw4 hw5
  have e1_q := e1_.trans K1_
  obtain ⟨T2_, h2_, L2_, mo_2_, ta_2_, kc_2_, X2_, e2_, N2_, K2_, p2_0, p2_1, p2_2, p2_3, p2_4, p2_5, st2_⟩ := pcI4 Z a0 hw X1_ hx hZ hby hml hown (.val (.int p0)) i1 i2 (.val (.long q1)) (.second) (.val (.long q2)) (.second) (.val (.long q3)) (.second) (6 : Int32) w0 w1 w2 w3 w4 w5 h0 n0 Z0 e1_q N1_ (by decide) (by decide) (by exact Nat.le_of_ble_eq_true rfl) (by exact Nat.le_of_ble_eq_true rfl) 
  have z4_ : n0 ≤ h2_.size := Nat.le_trans Z0 K2_.1
  obtain ⟨T3_, h3_, L3_, X3_, e3_, N3_, K3_, p3_0, p3_1, p3_2, p3_3, st3_⟩ := pcT4_0 Z a0 hw X2_ hx hZ hby hml hown (.val (.int p0)) i1 i2 (.val (.long q1)) (.second) (.val (.long q2)) (.second) (.val (.long q3)) (.second) (6 : Int32) w0 w1 w2 w3 w4 w5 mo_2_ ta_2_ kc_2_ (i1.toInt64) (i1.toInt64) (i1.toInt64) (i1.toInt64) h2_ n0 z4_ e2_ N2_ (by decide) (by decide) (by exact Nat.le_of_ble_eq_true rfl) (by exact Nat.le_of_ble_eq_true rfl) (by decide) p2_2 p2_3 p2_4 p2_5 p2_0 p2_1
  have z6_ : n0 ≤ h3_.size := Nat.le_trans z4_ K3_.1
  obtain ⟨T5_, h5_, L5_, X5_, e5_, N5_, K5_, p5_0, p5_1, p5_2, p5_3, st5_⟩ := pcT4_1 Z a0 hw X3_ hx hZ hby hml hown (.val (.int p0)) i1 i2 (.val (.long q1)) (.second) (.val (.long q2)) (.second) (.val (.long q3)) (.second) (6 : Int32) w0 w1 w2 w3 w4 w5 mo_2_ ta_2_ kc_2_ (w0.toInt64) (i1.toInt64) (i1.toInt64) (i1.toInt64) h3_ n0 z6_ e3_ N3_ (by decide) (by decide) (by exact Nat.le_of_ble_eq_true rfl) (by exact Nat.le_of_ble_eq_true rfl) (by decide) p3_0 p3_1 p3_2 p3_3 p2_0 p2_1
  have z8_ : n0 ≤ h5_.size := Nat.le_trans z6_ K5_.1
  obtain ⟨T7_, h7_, L7_, X7_, e7_, N7_, K7_, p7_0, p7_1, p7_2, p7_3, st7_⟩ := pcT4_2 Z a0 hw X5_ hx hZ hby hml hown (.val (.int p0)) i1 i2 (.val (.long q1)) (.second) (.val (.long q2)) (.second) (.val (.long q3)) (.second) (6 : Int32) w0 w1 w2 w3 w4 w5 mo_2_ ta_2_ kc_2_ (w0.toInt64) (w1.toInt64) (i1.toInt64) (i1.toInt64) h5_ n0 z8_ e5_ N5_ (by decide) (by decide) (by exact Nat.le_of_ble_eq_true rfl) (by exact Nat.le_of_ble_eq_true rfl) (by decide) p5_0 p5_1 p5_2 p5_3 p2_0 p2_1
  have z10_ : n0 ≤ h7_.size := Nat.le_trans z8_ K7_.1
  obtain ⟨T9_, h9_, L9_, X9_, e9_, N9_, K9_, p9_0, p9_1, p9_2, p9_3, st9_⟩ := pcT4_3 Z a0 hw X7_ hx hZ hby hml hown (.val (.int p0)) i1 i2 (.val (.long q1)) (.second) (.val (.long q2)) (.second) (.val (.long q3)) (.second) (6 : Int32) w0 w1 w2 w3 w4 w5 mo_2_ ta_2_ kc_2_ (w0.toInt64) (w1.toInt64) (w2.toInt64) (i1.toInt64) h7_ n0 z10_ e7_ N7_ (by decide) (by decide) (by exact Nat.le_of_ble_eq_true rfl) (by exact Nat.le_of_ble_eq_true rfl) (by decide) p7_0 p7_1 p7_2 p7_3 p2_0 p2_1
  have z12_ : n0 ≤ h9_.size := Nat.le_trans z10_ K9_.1
  obtain ⟨T11_, h11_, L11_, X11_, e11_, N11_, K11_, p11_0, p11_1, p11_2, p11_3, st11_⟩ := pcT4_4 Z a0 hw X9_ hx hZ hby hml hown (.val (.int p0)) i1 i2 (.val (.long q1)) (.second) (.val (.long q2)) (.second) (.val (.long q3)) (.second) (6 : Int32) w0 w1 w2 w3 w4 w5 mo_2_ ta_2_ kc_2_ (w0.toInt64) (w1.toInt64) (w2.toInt64) (w3.toInt64) h9_ n0 z12_ e9_ N9_ (by decide) (by decide) (by exact Nat.le_of_ble_eq_true rfl) (by exact Nat.le_of_ble_eq_true rfl) (by decide) p9_0 p9_1 p9_2 p9_3 p2_0 p2_1
  have z14_ : n0 ≤ h11_.size := Nat.le_trans z12_ K11_.1
  obtain ⟨T13_, h13_, L13_, X13_, e13_, N13_, K13_, p13_0, p13_1, p13_2, p13_3, st13_⟩ := pcT4_5 Z a0 hw X11_ hx hZ hby hml hown (.val (.int p0)) i1 i2 (.val (.long q1)) (.second) (.val (.long q2)) (.second) (.val (.long q3)) (.second) (6 : Int32) w0 w1 w2 w3 w4 w5 mo_2_ ta_2_ kc_2_ (w4.toInt64) (w1.toInt64) (w2.toInt64) (w3.toInt64) h11_ n0 z14_ e11_ N11_ (by decide) (by decide) (by exact Nat.le_of_ble_eq_true rfl) (by exact Nat.le_of_ble_eq_true rfl) (by decide) p11_0 p11_1 p11_2 p11_3 p2_0 p2_1
  have z16_ : n0 ≤ h13_.size := Nat.le_trans z14_ K13_.1
  obtain ⟨T15_, h15_, L15_, X15_, e15_, N15_, K15_, st15_⟩ := pcM4 Z a0 hw X13_ hx hZ hby hml hown (.val (.int p0)) i1 i2 (.val (.long q1)) (.second) (.val (.long q2)) (.second) (.val (.long q3)) (.second) (6 : Int32) w0 w1 w2 w3 w4 w5 mo_2_ ta_2_ kc_2_ (w4.toInt64) (w5.toInt64) (w2.toInt64) (w3.toInt64) h13_ n0 z16_ e13_ N13_ (by decide) (by decide) (by exact Nat.le_of_ble_eq_true rfl) (by exact Nat.le_of_ble_eq_true rfl) p13_0 p13_1 p13_3 (own_R.i2l w4) (own_R.i2l w5) (own_R.i2l w2) (own_R.i2l w3)
  have e15_q := e15_.trans K15_
  have hAB : (((((0 : Int64) + ((w4.toInt64) - (i2.toInt64))) + ((w5.toInt64) - (i2.toInt64))) + ((w2.toInt64) - (i2.toInt64))) + ((w3.toInt64) - (i2.toInt64))) = ((((((((((own_maxI (0 : Int32) ((4 : Int32) - (6 : Int32))).toInt64) * (i1.toInt64)) + (own_held (0 : Int32) (6 : Int32) (4 : Int32) w0)) + (own_held (1 : Int32) (6 : Int32) (4 : Int32) w1)) + (own_held (2 : Int32) (6 : Int32) (4 : Int32) w2)) + (own_held (3 : Int32) (6 : Int32) (4 : Int32) w3)) + (own_held (4 : Int32) (6 : Int32) (4 : Int32) w4)) + (own_held (5 : Int32) (6 : Int32) (4 : Int32) w5)) - (((4 : Int32).toInt64) * (i2.toInt64))) := by
    rw [show own_maxI (0 : Int32) ((4 : Int32) - (6 : Int32)) = (0 : Int32) from rfl, show own_held (0 : Int32) (6 : Int32) (4 : Int32) w0 = 0 from rfl, show own_held (1 : Int32) (6 : Int32) (4 : Int32) w1 = 0 from rfl, show own_held (2 : Int32) (6 : Int32) (4 : Int32) w2 = w2.toInt64 from rfl, show own_held (3 : Int32) (6 : Int32) (4 : Int32) w3 = w3.toInt64 from rfl, show own_held (4 : Int32) (6 : Int32) (4 : Int32) w4 = w4.toInt64 from rfl, show own_held (5 : Int32) (6 : Int32) (4 : Int32) w5 = w5.toInt64 from rfl, show (0 : Int32).toInt64 = 0 from rfl, show (4 : Int32).toInt64 = 4 from rfl]
    generalize i1.toInt64 = x1, i2.toInt64 = x2, w0.toInt64 = x3, w1.toInt64 = x4, w2.toInt64 = x5, w3.toInt64 = x6, w4.toInt64 = x7, w5.toInt64 = x8
    grind
  obtain ⟨T17_, h17_, L17_, X17_, e17_, N17_, K17_, st17_⟩ := pcB Z a0 hw X15_ hx hZ hby hml hown (.val (.int p0)) i1 i2 (.val (.long q1)) (.second) (.val (.long q2)) (.second) (.val (.long q3)) (.second) (4 : Int32) (6 : Int32) w0 w1 w2 w3 w4 w5 mo_2_ (FP.ddiv (FP.l2d (((((0 : Int64) + ((w4.toInt64) - (i2.toInt64))) + ((w5.toInt64) - (i2.toInt64))) + ((w2.toInt64) - (i2.toInt64))) + ((w3.toInt64) - (i2.toInt64)))) (FP.i2d (4 : Int32))) h13_ n0 z16_ e15_q N15_ (by decide) (by decide) (by exact Nat.le_of_ble_eq_true rfl) (by exact Nat.le_of_ble_eq_true rfl) (by decide) (dcmpV_eq (congrArg (fun z => FP.ddiv (FP.l2d z) (FP.i2d (4 : Int32))) hAB) (own_ddiv _ _ (by decide)) .l)
  have e17_q := e17_.trans K17_
  obtain ⟨fs, hr, hrun, hended, hW, hsame⟩ := X17_.leave (v := some (.int (1 : Int32))) (fun h => by first | rfl | (rw [Bd.returns] at h; cases h))
  refine ⟨_, _, pre0 _ ?_, hrun, hended, _, _, rfl, ?_, ⟨_, rfl⟩, hW, hsame.mono (by exact Nat.le_of_ble_eq_true rfl) (by exact Nat.le_of_ble_eq_true rfl)⟩
  · show Steps p.tables e below (s₁.setTop (mkF m 0 #[.val (.int p0), .val (.int i1), .val (.int i2), .val (.long q1), .second, .val (.long q2), .second, .val (.long q3), .second, .unset, .unset, .unset, .unset, .unset, .unset, .unset, .unset, .unset, .unset, .unset, .unset, .unset, .unset, .unset, .unset, .unset] [])) _
    refine st1_ _ ?_
    refine st2_ _ ?_
    refine st3_ _ ?_
    refine st5_ _ ?_
    refine st7_ _ ?_
    refine st9_ _ ?_
    refine st11_ _ ?_
    refine st13_ _ ?_
    refine st15_ _ ?_
    refine st17_ _ ?_
    exact retN X17_ hx (t := .boolean) Bd.returns (by simp) (hb hby at_300) hr
  · show Q_rm0_4_6 Z p0 i1 i2 q1 q2 q3 w0 w1 w2 w3 w4 w5 h0 n0 _ T17_.heap _
    rw [e17_q]
    exact ⟨rfl, N17_⟩
theorem own_small (x : Int32) (M : Nat) (hM : M < 100) : (x &&& (Int32.ofNat M)).toBitVec.toNat ≤ M ∧ (x &&& Int32.ofNat M) = Int32.ofNat (x &&& Int32.ofNat M).toBitVec.toNat := by
  constructor
  · have e : (Int32.ofNat M).toBitVec.toNat = M := by show (BitVec.ofNat 32 M).toNat = M; rw [BitVec.toNat_ofNat]; omega
    have h : (x &&& Int32.ofNat M).toBitVec.toNat ≤ (Int32.ofNat M).toBitVec.toNat := by
      simp only [Int32.toBitVec_and, BitVec.toNat_and]
      exact Nat.and_le_right
    omega
  · apply Int32.toBitVec_inj.mp
    show _ = BitVec.ofNat 32 _
    rw [BitVec.ofNat_toNat]; simp
theorem own_n4 (x : Int32) : ((1 : Int32) + (x &&& (3 : Int32))) = (1 : Int32) ∨ ((1 : Int32) + (x &&& (3 : Int32))) = (2 : Int32) ∨ ((1 : Int32) + (x &&& (3 : Int32))) = (3 : Int32) ∨ ((1 : Int32) + (x &&& (3 : Int32))) = (4 : Int32) := by
  obtain ⟨h, e⟩ := own_small x 3 (by decide)
  have e' : (x &&& (3 : Int32)) = _ := e
  have h' : (x &&& (3 : Int32)).toBitVec.toNat ≤ 3 := h
  have t : ∀ k : Fin 4, (1 : Int32) + Int32.ofNat k.val = (1 : Int32) ∨ (1 : Int32) + Int32.ofNat k.val = (2 : Int32) ∨ (1 : Int32) + Int32.ofNat k.val = (3 : Int32) ∨ (1 : Int32) + Int32.ofNat k.val = (4 : Int32) := by decide +kernel
  have q := t ⟨_, Nat.lt_succ_of_le h'⟩
  rw [e']; exact q
theorem own_k7 (x : Int32) : (own_minI (((x.toUInt32 >>> ((2 : Int32) &&& 31).toUInt32).toInt32) &&& (7 : Int32)) (6 : Int32)) = (0 : Int32) ∨ (own_minI (((x.toUInt32 >>> ((2 : Int32) &&& 31).toUInt32).toInt32) &&& (7 : Int32)) (6 : Int32)) = (1 : Int32) ∨ (own_minI (((x.toUInt32 >>> ((2 : Int32) &&& 31).toUInt32).toInt32) &&& (7 : Int32)) (6 : Int32)) = (2 : Int32) ∨ (own_minI (((x.toUInt32 >>> ((2 : Int32) &&& 31).toUInt32).toInt32) &&& (7 : Int32)) (6 : Int32)) = (3 : Int32) ∨ (own_minI (((x.toUInt32 >>> ((2 : Int32) &&& 31).toUInt32).toInt32) &&& (7 : Int32)) (6 : Int32)) = (4 : Int32) ∨ (own_minI (((x.toUInt32 >>> ((2 : Int32) &&& 31).toUInt32).toInt32) &&& (7 : Int32)) (6 : Int32)) = (5 : Int32) ∨ (own_minI (((x.toUInt32 >>> ((2 : Int32) &&& 31).toUInt32).toInt32) &&& (7 : Int32)) (6 : Int32)) = (6 : Int32) := by
  obtain ⟨h, e⟩ := own_small ((x.toUInt32 >>> ((2 : Int32) &&& 31).toUInt32).toInt32) 7 (by decide)
  generalize (x.toUInt32 >>> ((2 : Int32) &&& 31).toUInt32).toInt32 = y at h e ⊢
  have e' : (y &&& (7 : Int32)) = _ := e
  have h' : (y &&& (7 : Int32)).toBitVec.toNat ≤ 7 := h
  have t : ∀ k : Fin 8, own_minI (Int32.ofNat k.val) (6 : Int32) = (0 : Int32) ∨ own_minI (Int32.ofNat k.val) (6 : Int32) = (1 : Int32) ∨ own_minI (Int32.ofNat k.val) (6 : Int32) = (2 : Int32) ∨ own_minI (Int32.ofNat k.val) (6 : Int32) = (3 : Int32) ∨ own_minI (Int32.ofNat k.val) (6 : Int32) = (4 : Int32) ∨ own_minI (Int32.ofNat k.val) (6 : Int32) = (5 : Int32) ∨ own_minI (Int32.ofNat k.val) (6 : Int32) = (6 : Int32) := by decide +kernel
  have q := t ⟨_, Nat.lt_succ_of_le h'⟩
  rw [e']; exact q
set_option maxRecDepth 65536 in
set_option maxHeartbeats 40000000 in
theorem comes_1 {Post : Tables → Env → Array Value → State → Outcome → State → Prop} (hpost : ∀ tb e args s v u, (limb_1_1.after args s (.returned v) u = true ∧ limb_1_2.after args s (.returned v) u = true ∧ True) → FrameEnd s (.returned v) u (Jvm.fieldLocs frame_1_writes args s ++ Jvm.arrayLocs frame_1_arrays args s ++ Jvm.staticLocs frame_1_statics s) 16 128 → Post tb e args s (.returned v) u) :
    ArmFor flags0 classFile x code maxLocals ret World_1 tables_1 room_1 Calls_1 rest_1 Pre_1 Post := by
  intro l hfl _ _ p e ha hc hk s m args below hf hA hF happ hP
  obtain ⟨hcalls, hrest, hpre⟩ := hP
  obtain ⟨-, -, -, hnamed, -, -, -, hat⟩ := (Spec.applies_iff hf).mp happ
  obtain ⟨hg, hn⟩ := and_e (Cond.before_iff.mp (show (Jvm.Cond.and given_1 narrow_1).before args s = true from hpre))
  obtain ⟨g0, r0⟩ := and_e hg
  obtain ⟨g1, r1⟩ := and_e r0
  obtain ⟨g2, r2⟩ := and_e r1
  obtain ⟨g3, r3⟩ := and_e r2
  obtain ⟨g4, r4⟩ := and_e r3
  obtain ⟨g5, r5⟩ := and_e r4
  have g6 := r5
  obtain ⟨w0, w1, w2, w3, w4, w5, rfl⟩ : ∃ w0 w1 w2 w3 w4 w5 : Value, args = #[w0, w1, w2, w3, w4, w5] := by
    have hs : args.size = 6 := by simpa [Cond.value, given_1] using g0
    obtain ⟨L⟩ := args
    match L, hs with
    | [w0, w1, w2, w3, w4, w5], _ => exact ⟨w0, w1, w2, w3, w4, w5, rfl⟩
  have hw := fun d (hd : d ∈ tables_1) => atoms_spec (ws := Jvm.Cond.code x code maxLocals ret :: tables_1) hat d (List.mem_cons_of_mem _ hd)
  obtain ⟨i0, ei0⟩ := is_v g1
  obtain rfl : w0 = (.int i0) := Option.some.inj ei0
  obtain ⟨i1, ei1⟩ := is_v g2
  obtain rfl : w1 = (.int i1) := Option.some.inj ei1
  obtain ⟨i2, ei2⟩ := is_v g3
  obtain rfl : w2 = (.int i2) := Option.some.inj ei2
  obtain ⟨i3, ei3⟩ := isL_v g4
  obtain rfl : w3 = (.long i3) := Option.some.inj ei3
  obtain ⟨i4, ei4⟩ := isL_v g5
  obtain rfl : w4 = (.long i4) := Option.some.inj ei4
  obtain ⟨i5, ei5⟩ := isL_v g6
  obtain rfl : w5 = (.long i5) := Option.some.inj ei5
  rcases own_n4 i0 with hn0 | hn0 | hn0 | hn0
  · rcases own_k7 i0 with hk0 | hk0 | hk0 | hk0 | hk0 | hk0 | hk0
    · obtain ⟨n, o, h1, h2, h3, _, L, rfl, ⟨rfl, N⟩, hq⟩ := rm0_1_0 l s _ hw tables_1 i0 i1 i2 i3 i4 i5 _ _ _ _ _ _ s.heap s.heap.size (Nat.le_refl _) hn0 hk0 rfl rfl rfl rfl rfl rfl p e ha hc hk s m _ below hf ((Spec.applies_iff_loose hf).mp happ).1 ⟨rfl, State.Warmed39.refl s, rfl⟩ trivial
      refine ⟨n, _, h1, h2, h3, hpost _ _ _ _ _ _ ⟨Cond.after_iff.mpr rfl, Cond.after_iff.mpr (eq_i res_at (Term.int_eval (1)) rfl), trivial⟩ ⟨hq.1, hq.2.1, (hq.2.2.sift fun y hy => Or.inr (N y hy)).mono (by decide) (by decide)⟩⟩
    · obtain ⟨n, o, h1, h2, h3, _, L, rfl, ⟨rfl, N⟩, hq⟩ := rm0_1_1 l s _ hw tables_1 i0 i1 i2 i3 i4 i5 _ _ _ _ _ _ s.heap s.heap.size (Nat.le_refl _) hn0 hk0 rfl rfl rfl rfl rfl rfl p e ha hc hk s m _ below hf ((Spec.applies_iff_loose hf).mp happ).1 ⟨rfl, State.Warmed39.refl s, rfl⟩ trivial
      refine ⟨n, _, h1, h2, h3, hpost _ _ _ _ _ _ ⟨Cond.after_iff.mpr rfl, Cond.after_iff.mpr (eq_i res_at (Term.int_eval (1)) rfl), trivial⟩ ⟨hq.1, hq.2.1, (hq.2.2.sift fun y hy => Or.inr (N y hy)).mono (by decide) (by decide)⟩⟩
    · obtain ⟨n, o, h1, h2, h3, _, L, rfl, ⟨rfl, N⟩, hq⟩ := rm0_1_2 l s _ hw tables_1 i0 i1 i2 i3 i4 i5 _ _ _ _ _ _ s.heap s.heap.size (Nat.le_refl _) hn0 hk0 rfl rfl rfl rfl rfl rfl p e ha hc hk s m _ below hf ((Spec.applies_iff_loose hf).mp happ).1 ⟨rfl, State.Warmed39.refl s, rfl⟩ trivial
      refine ⟨n, _, h1, h2, h3, hpost _ _ _ _ _ _ ⟨Cond.after_iff.mpr rfl, Cond.after_iff.mpr (eq_i res_at (Term.int_eval (1)) rfl), trivial⟩ ⟨hq.1, hq.2.1, (hq.2.2.sift fun y hy => Or.inr (N y hy)).mono (by decide) (by decide)⟩⟩
    · obtain ⟨n, o, h1, h2, h3, _, L, rfl, ⟨rfl, N⟩, hq⟩ := rm0_1_3 l s _ hw tables_1 i0 i1 i2 i3 i4 i5 _ _ _ _ _ _ s.heap s.heap.size (Nat.le_refl _) hn0 hk0 rfl rfl rfl rfl rfl rfl p e ha hc hk s m _ below hf ((Spec.applies_iff_loose hf).mp happ).1 ⟨rfl, State.Warmed39.refl s, rfl⟩ trivial
      refine ⟨n, _, h1, h2, h3, hpost _ _ _ _ _ _ ⟨Cond.after_iff.mpr rfl, Cond.after_iff.mpr (eq_i res_at (Term.int_eval (1)) rfl), trivial⟩ ⟨hq.1, hq.2.1, (hq.2.2.sift fun y hy => Or.inr (N y hy)).mono (by decide) (by decide)⟩⟩
    · obtain ⟨n, o, h1, h2, h3, _, L, rfl, ⟨rfl, N⟩, hq⟩ := rm0_1_4 l s _ hw tables_1 i0 i1 i2 i3 i4 i5 _ _ _ _ _ _ s.heap s.heap.size (Nat.le_refl _) hn0 hk0 rfl rfl rfl rfl rfl rfl p e ha hc hk s m _ below hf ((Spec.applies_iff_loose hf).mp happ).1 ⟨rfl, State.Warmed39.refl s, rfl⟩ trivial
      refine ⟨n, _, h1, h2, h3, hpost _ _ _ _ _ _ ⟨Cond.after_iff.mpr rfl, Cond.after_iff.mpr (eq_i res_at (Term.int_eval (1)) rfl), trivial⟩ ⟨hq.1, hq.2.1, (hq.2.2.sift fun y hy => Or.inr (N y hy)).mono (by decide) (by decide)⟩⟩
    · obtain ⟨n, o, h1, h2, h3, _, L, rfl, ⟨rfl, N⟩, hq⟩ := rm0_1_5 l s _ hw tables_1 i0 i1 i2 i3 i4 i5 _ _ _ _ _ _ s.heap s.heap.size (Nat.le_refl _) hn0 hk0 rfl rfl rfl rfl rfl rfl p e ha hc hk s m _ below hf ((Spec.applies_iff_loose hf).mp happ).1 ⟨rfl, State.Warmed39.refl s, rfl⟩ trivial
      refine ⟨n, _, h1, h2, h3, hpost _ _ _ _ _ _ ⟨Cond.after_iff.mpr rfl, Cond.after_iff.mpr (eq_i res_at (Term.int_eval (1)) rfl), trivial⟩ ⟨hq.1, hq.2.1, (hq.2.2.sift fun y hy => Or.inr (N y hy)).mono (by decide) (by decide)⟩⟩
    · obtain ⟨n, o, h1, h2, h3, _, L, rfl, ⟨rfl, N⟩, hq⟩ := rm0_1_6 l s _ hw tables_1 i0 i1 i2 i3 i4 i5 _ _ _ _ _ _ s.heap s.heap.size (Nat.le_refl _) hn0 hk0 rfl rfl rfl rfl rfl rfl p e ha hc hk s m _ below hf ((Spec.applies_iff_loose hf).mp happ).1 ⟨rfl, State.Warmed39.refl s, rfl⟩ trivial
      refine ⟨n, _, h1, h2, h3, hpost _ _ _ _ _ _ ⟨Cond.after_iff.mpr rfl, Cond.after_iff.mpr (eq_i res_at (Term.int_eval (1)) rfl), trivial⟩ ⟨hq.1, hq.2.1, (hq.2.2.sift fun y hy => Or.inr (N y hy)).mono (by decide) (by decide)⟩⟩
  · rcases own_k7 i0 with hk0 | hk0 | hk0 | hk0 | hk0 | hk0 | hk0
    · obtain ⟨n, o, h1, h2, h3, _, L, rfl, ⟨rfl, N⟩, hq⟩ := rm0_2_0 l s _ hw tables_1 i0 i1 i2 i3 i4 i5 _ _ _ _ _ _ s.heap s.heap.size (Nat.le_refl _) hn0 hk0 rfl rfl rfl rfl rfl rfl p e ha hc hk s m _ below hf ((Spec.applies_iff_loose hf).mp happ).1 ⟨rfl, State.Warmed39.refl s, rfl⟩ trivial
      refine ⟨n, _, h1, h2, h3, hpost _ _ _ _ _ _ ⟨Cond.after_iff.mpr rfl, Cond.after_iff.mpr (eq_i res_at (Term.int_eval (1)) rfl), trivial⟩ ⟨hq.1, hq.2.1, (hq.2.2.sift fun y hy => Or.inr (N y hy)).mono (by decide) (by decide)⟩⟩
    · obtain ⟨n, o, h1, h2, h3, _, L, rfl, ⟨rfl, N⟩, hq⟩ := rm0_2_1 l s _ hw tables_1 i0 i1 i2 i3 i4 i5 _ _ _ _ _ _ s.heap s.heap.size (Nat.le_refl _) hn0 hk0 rfl rfl rfl rfl rfl rfl p e ha hc hk s m _ below hf ((Spec.applies_iff_loose hf).mp happ).1 ⟨rfl, State.Warmed39.refl s, rfl⟩ trivial
      refine ⟨n, _, h1, h2, h3, hpost _ _ _ _ _ _ ⟨Cond.after_iff.mpr rfl, Cond.after_iff.mpr (eq_i res_at (Term.int_eval (1)) rfl), trivial⟩ ⟨hq.1, hq.2.1, (hq.2.2.sift fun y hy => Or.inr (N y hy)).mono (by decide) (by decide)⟩⟩
    · obtain ⟨n, o, h1, h2, h3, _, L, rfl, ⟨rfl, N⟩, hq⟩ := rm0_2_2 l s _ hw tables_1 i0 i1 i2 i3 i4 i5 _ _ _ _ _ _ s.heap s.heap.size (Nat.le_refl _) hn0 hk0 rfl rfl rfl rfl rfl rfl p e ha hc hk s m _ below hf ((Spec.applies_iff_loose hf).mp happ).1 ⟨rfl, State.Warmed39.refl s, rfl⟩ trivial
      refine ⟨n, _, h1, h2, h3, hpost _ _ _ _ _ _ ⟨Cond.after_iff.mpr rfl, Cond.after_iff.mpr (eq_i res_at (Term.int_eval (1)) rfl), trivial⟩ ⟨hq.1, hq.2.1, (hq.2.2.sift fun y hy => Or.inr (N y hy)).mono (by decide) (by decide)⟩⟩
    · obtain ⟨n, o, h1, h2, h3, _, L, rfl, ⟨rfl, N⟩, hq⟩ := rm0_2_3 l s _ hw tables_1 i0 i1 i2 i3 i4 i5 _ _ _ _ _ _ s.heap s.heap.size (Nat.le_refl _) hn0 hk0 rfl rfl rfl rfl rfl rfl p e ha hc hk s m _ below hf ((Spec.applies_iff_loose hf).mp happ).1 ⟨rfl, State.Warmed39.refl s, rfl⟩ trivial
      refine ⟨n, _, h1, h2, h3, hpost _ _ _ _ _ _ ⟨Cond.after_iff.mpr rfl, Cond.after_iff.mpr (eq_i res_at (Term.int_eval (1)) rfl), trivial⟩ ⟨hq.1, hq.2.1, (hq.2.2.sift fun y hy => Or.inr (N y hy)).mono (by decide) (by decide)⟩⟩
    · obtain ⟨n, o, h1, h2, h3, _, L, rfl, ⟨rfl, N⟩, hq⟩ := rm0_2_4 l s _ hw tables_1 i0 i1 i2 i3 i4 i5 _ _ _ _ _ _ s.heap s.heap.size (Nat.le_refl _) hn0 hk0 rfl rfl rfl rfl rfl rfl p e ha hc hk s m _ below hf ((Spec.applies_iff_loose hf).mp happ).1 ⟨rfl, State.Warmed39.refl s, rfl⟩ trivial
      refine ⟨n, _, h1, h2, h3, hpost _ _ _ _ _ _ ⟨Cond.after_iff.mpr rfl, Cond.after_iff.mpr (eq_i res_at (Term.int_eval (1)) rfl), trivial⟩ ⟨hq.1, hq.2.1, (hq.2.2.sift fun y hy => Or.inr (N y hy)).mono (by decide) (by decide)⟩⟩
    · obtain ⟨n, o, h1, h2, h3, _, L, rfl, ⟨rfl, N⟩, hq⟩ := rm0_2_5 l s _ hw tables_1 i0 i1 i2 i3 i4 i5 _ _ _ _ _ _ s.heap s.heap.size (Nat.le_refl _) hn0 hk0 rfl rfl rfl rfl rfl rfl p e ha hc hk s m _ below hf ((Spec.applies_iff_loose hf).mp happ).1 ⟨rfl, State.Warmed39.refl s, rfl⟩ trivial
      refine ⟨n, _, h1, h2, h3, hpost _ _ _ _ _ _ ⟨Cond.after_iff.mpr rfl, Cond.after_iff.mpr (eq_i res_at (Term.int_eval (1)) rfl), trivial⟩ ⟨hq.1, hq.2.1, (hq.2.2.sift fun y hy => Or.inr (N y hy)).mono (by decide) (by decide)⟩⟩
    · obtain ⟨n, o, h1, h2, h3, _, L, rfl, ⟨rfl, N⟩, hq⟩ := rm0_2_6 l s _ hw tables_1 i0 i1 i2 i3 i4 i5 _ _ _ _ _ _ s.heap s.heap.size (Nat.le_refl _) hn0 hk0 rfl rfl rfl rfl rfl rfl p e ha hc hk s m _ below hf ((Spec.applies_iff_loose hf).mp happ).1 ⟨rfl, State.Warmed39.refl s, rfl⟩ trivial
      refine ⟨n, _, h1, h2, h3, hpost _ _ _ _ _ _ ⟨Cond.after_iff.mpr rfl, Cond.after_iff.mpr (eq_i res_at (Term.int_eval (1)) rfl), trivial⟩ ⟨hq.1, hq.2.1, (hq.2.2.sift fun y hy => Or.inr (N y hy)).mono (by decide) (by decide)⟩⟩
  · rcases own_k7 i0 with hk0 | hk0 | hk0 | hk0 | hk0 | hk0 | hk0
    · obtain ⟨n, o, h1, h2, h3, _, L, rfl, ⟨rfl, N⟩, hq⟩ := rm0_3_0 l s _ hw tables_1 i0 i1 i2 i3 i4 i5 _ _ _ _ _ _ s.heap s.heap.size (Nat.le_refl _) hn0 hk0 rfl rfl rfl rfl rfl rfl p e ha hc hk s m _ below hf ((Spec.applies_iff_loose hf).mp happ).1 ⟨rfl, State.Warmed39.refl s, rfl⟩ trivial
      refine ⟨n, _, h1, h2, h3, hpost _ _ _ _ _ _ ⟨Cond.after_iff.mpr rfl, Cond.after_iff.mpr (eq_i res_at (Term.int_eval (1)) rfl), trivial⟩ ⟨hq.1, hq.2.1, (hq.2.2.sift fun y hy => Or.inr (N y hy)).mono (by decide) (by decide)⟩⟩
    · obtain ⟨n, o, h1, h2, h3, _, L, rfl, ⟨rfl, N⟩, hq⟩ := rm0_3_1 l s _ hw tables_1 i0 i1 i2 i3 i4 i5 _ _ _ _ _ _ s.heap s.heap.size (Nat.le_refl _) hn0 hk0 rfl rfl rfl rfl rfl rfl p e ha hc hk s m _ below hf ((Spec.applies_iff_loose hf).mp happ).1 ⟨rfl, State.Warmed39.refl s, rfl⟩ trivial
      refine ⟨n, _, h1, h2, h3, hpost _ _ _ _ _ _ ⟨Cond.after_iff.mpr rfl, Cond.after_iff.mpr (eq_i res_at (Term.int_eval (1)) rfl), trivial⟩ ⟨hq.1, hq.2.1, (hq.2.2.sift fun y hy => Or.inr (N y hy)).mono (by decide) (by decide)⟩⟩
    · obtain ⟨n, o, h1, h2, h3, _, L, rfl, ⟨rfl, N⟩, hq⟩ := rm0_3_2 l s _ hw tables_1 i0 i1 i2 i3 i4 i5 _ _ _ _ _ _ s.heap s.heap.size (Nat.le_refl _) hn0 hk0 rfl rfl rfl rfl rfl rfl p e ha hc hk s m _ below hf ((Spec.applies_iff_loose hf).mp happ).1 ⟨rfl, State.Warmed39.refl s, rfl⟩ trivial
      refine ⟨n, _, h1, h2, h3, hpost _ _ _ _ _ _ ⟨Cond.after_iff.mpr rfl, Cond.after_iff.mpr (eq_i res_at (Term.int_eval (1)) rfl), trivial⟩ ⟨hq.1, hq.2.1, (hq.2.2.sift fun y hy => Or.inr (N y hy)).mono (by decide) (by decide)⟩⟩
    · obtain ⟨n, o, h1, h2, h3, _, L, rfl, ⟨rfl, N⟩, hq⟩ := rm0_3_3 l s _ hw tables_1 i0 i1 i2 i3 i4 i5 _ _ _ _ _ _ s.heap s.heap.size (Nat.le_refl _) hn0 hk0 rfl rfl rfl rfl rfl rfl p e ha hc hk s m _ below hf ((Spec.applies_iff_loose hf).mp happ).1 ⟨rfl, State.Warmed39.refl s, rfl⟩ trivial
      refine ⟨n, _, h1, h2, h3, hpost _ _ _ _ _ _ ⟨Cond.after_iff.mpr rfl, Cond.after_iff.mpr (eq_i res_at (Term.int_eval (1)) rfl), trivial⟩ ⟨hq.1, hq.2.1, (hq.2.2.sift fun y hy => Or.inr (N y hy)).mono (by decide) (by decide)⟩⟩
    · obtain ⟨n, o, h1, h2, h3, _, L, rfl, ⟨rfl, N⟩, hq⟩ := rm0_3_4 l s _ hw tables_1 i0 i1 i2 i3 i4 i5 _ _ _ _ _ _ s.heap s.heap.size (Nat.le_refl _) hn0 hk0 rfl rfl rfl rfl rfl rfl p e ha hc hk s m _ below hf ((Spec.applies_iff_loose hf).mp happ).1 ⟨rfl, State.Warmed39.refl s, rfl⟩ trivial
      refine ⟨n, _, h1, h2, h3, hpost _ _ _ _ _ _ ⟨Cond.after_iff.mpr rfl, Cond.after_iff.mpr (eq_i res_at (Term.int_eval (1)) rfl), trivial⟩ ⟨hq.1, hq.2.1, (hq.2.2.sift fun y hy => Or.inr (N y hy)).mono (by decide) (by decide)⟩⟩
    · obtain ⟨n, o, h1, h2, h3, _, L, rfl, ⟨rfl, N⟩, hq⟩ := rm0_3_5 l s _ hw tables_1 i0 i1 i2 i3 i4 i5 _ _ _ _ _ _ s.heap s.heap.size (Nat.le_refl _) hn0 hk0 rfl rfl rfl rfl rfl rfl p e ha hc hk s m _ below hf ((Spec.applies_iff_loose hf).mp happ).1 ⟨rfl, State.Warmed39.refl s, rfl⟩ trivial
      refine ⟨n, _, h1, h2, h3, hpost _ _ _ _ _ _ ⟨Cond.after_iff.mpr rfl, Cond.after_iff.mpr (eq_i res_at (Term.int_eval (1)) rfl), trivial⟩ ⟨hq.1, hq.2.1, (hq.2.2.sift fun y hy => Or.inr (N y hy)).mono (by decide) (by decide)⟩⟩
    · obtain ⟨n, o, h1, h2, h3, _, L, rfl, ⟨rfl, N⟩, hq⟩ := rm0_3_6 l s _ hw tables_1 i0 i1 i2 i3 i4 i5 _ _ _ _ _ _ s.heap s.heap.size (Nat.le_refl _) hn0 hk0 rfl rfl rfl rfl rfl rfl p e ha hc hk s m _ below hf ((Spec.applies_iff_loose hf).mp happ).1 ⟨rfl, State.Warmed39.refl s, rfl⟩ trivial
      refine ⟨n, _, h1, h2, h3, hpost _ _ _ _ _ _ ⟨Cond.after_iff.mpr rfl, Cond.after_iff.mpr (eq_i res_at (Term.int_eval (1)) rfl), trivial⟩ ⟨hq.1, hq.2.1, (hq.2.2.sift fun y hy => Or.inr (N y hy)).mono (by decide) (by decide)⟩⟩
  · rcases own_k7 i0 with hk0 | hk0 | hk0 | hk0 | hk0 | hk0 | hk0
    · obtain ⟨n, o, h1, h2, h3, _, L, rfl, ⟨rfl, N⟩, hq⟩ := rm0_4_0 l s _ hw tables_1 i0 i1 i2 i3 i4 i5 _ _ _ _ _ _ s.heap s.heap.size (Nat.le_refl _) hn0 hk0 rfl rfl rfl rfl rfl rfl p e ha hc hk s m _ below hf ((Spec.applies_iff_loose hf).mp happ).1 ⟨rfl, State.Warmed39.refl s, rfl⟩ trivial
      refine ⟨n, _, h1, h2, h3, hpost _ _ _ _ _ _ ⟨Cond.after_iff.mpr rfl, Cond.after_iff.mpr (eq_i res_at (Term.int_eval (1)) rfl), trivial⟩ ⟨hq.1, hq.2.1, (hq.2.2.sift fun y hy => Or.inr (N y hy)).mono (by decide) (by decide)⟩⟩
    · obtain ⟨n, o, h1, h2, h3, _, L, rfl, ⟨rfl, N⟩, hq⟩ := rm0_4_1 l s _ hw tables_1 i0 i1 i2 i3 i4 i5 _ _ _ _ _ _ s.heap s.heap.size (Nat.le_refl _) hn0 hk0 rfl rfl rfl rfl rfl rfl p e ha hc hk s m _ below hf ((Spec.applies_iff_loose hf).mp happ).1 ⟨rfl, State.Warmed39.refl s, rfl⟩ trivial
      refine ⟨n, _, h1, h2, h3, hpost _ _ _ _ _ _ ⟨Cond.after_iff.mpr rfl, Cond.after_iff.mpr (eq_i res_at (Term.int_eval (1)) rfl), trivial⟩ ⟨hq.1, hq.2.1, (hq.2.2.sift fun y hy => Or.inr (N y hy)).mono (by decide) (by decide)⟩⟩
    · obtain ⟨n, o, h1, h2, h3, _, L, rfl, ⟨rfl, N⟩, hq⟩ := rm0_4_2 l s _ hw tables_1 i0 i1 i2 i3 i4 i5 _ _ _ _ _ _ s.heap s.heap.size (Nat.le_refl _) hn0 hk0 rfl rfl rfl rfl rfl rfl p e ha hc hk s m _ below hf ((Spec.applies_iff_loose hf).mp happ).1 ⟨rfl, State.Warmed39.refl s, rfl⟩ trivial
      refine ⟨n, _, h1, h2, h3, hpost _ _ _ _ _ _ ⟨Cond.after_iff.mpr rfl, Cond.after_iff.mpr (eq_i res_at (Term.int_eval (1)) rfl), trivial⟩ ⟨hq.1, hq.2.1, (hq.2.2.sift fun y hy => Or.inr (N y hy)).mono (by decide) (by decide)⟩⟩
    · obtain ⟨n, o, h1, h2, h3, _, L, rfl, ⟨rfl, N⟩, hq⟩ := rm0_4_3 l s _ hw tables_1 i0 i1 i2 i3 i4 i5 _ _ _ _ _ _ s.heap s.heap.size (Nat.le_refl _) hn0 hk0 rfl rfl rfl rfl rfl rfl p e ha hc hk s m _ below hf ((Spec.applies_iff_loose hf).mp happ).1 ⟨rfl, State.Warmed39.refl s, rfl⟩ trivial
      refine ⟨n, _, h1, h2, h3, hpost _ _ _ _ _ _ ⟨Cond.after_iff.mpr rfl, Cond.after_iff.mpr (eq_i res_at (Term.int_eval (1)) rfl), trivial⟩ ⟨hq.1, hq.2.1, (hq.2.2.sift fun y hy => Or.inr (N y hy)).mono (by decide) (by decide)⟩⟩
    · obtain ⟨n, o, h1, h2, h3, _, L, rfl, ⟨rfl, N⟩, hq⟩ := rm0_4_4 l s _ hw tables_1 i0 i1 i2 i3 i4 i5 _ _ _ _ _ _ s.heap s.heap.size (Nat.le_refl _) hn0 hk0 rfl rfl rfl rfl rfl rfl p e ha hc hk s m _ below hf ((Spec.applies_iff_loose hf).mp happ).1 ⟨rfl, State.Warmed39.refl s, rfl⟩ trivial
      refine ⟨n, _, h1, h2, h3, hpost _ _ _ _ _ _ ⟨Cond.after_iff.mpr rfl, Cond.after_iff.mpr (eq_i res_at (Term.int_eval (1)) rfl), trivial⟩ ⟨hq.1, hq.2.1, (hq.2.2.sift fun y hy => Or.inr (N y hy)).mono (by decide) (by decide)⟩⟩
    · obtain ⟨n, o, h1, h2, h3, _, L, rfl, ⟨rfl, N⟩, hq⟩ := rm0_4_5 l s _ hw tables_1 i0 i1 i2 i3 i4 i5 _ _ _ _ _ _ s.heap s.heap.size (Nat.le_refl _) hn0 hk0 rfl rfl rfl rfl rfl rfl p e ha hc hk s m _ below hf ((Spec.applies_iff_loose hf).mp happ).1 ⟨rfl, State.Warmed39.refl s, rfl⟩ trivial
      refine ⟨n, _, h1, h2, h3, hpost _ _ _ _ _ _ ⟨Cond.after_iff.mpr rfl, Cond.after_iff.mpr (eq_i res_at (Term.int_eval (1)) rfl), trivial⟩ ⟨hq.1, hq.2.1, (hq.2.2.sift fun y hy => Or.inr (N y hy)).mono (by decide) (by decide)⟩⟩
    · obtain ⟨n, o, h1, h2, h3, _, L, rfl, ⟨rfl, N⟩, hq⟩ := rm0_4_6 l s _ hw tables_1 i0 i1 i2 i3 i4 i5 _ _ _ _ _ _ s.heap s.heap.size (Nat.le_refl _) hn0 hk0 rfl rfl rfl rfl rfl rfl p e ha hc hk s m _ below hf ((Spec.applies_iff_loose hf).mp happ).1 ⟨rfl, State.Warmed39.refl s, rfl⟩ trivial
      refine ⟨n, _, h1, h2, h3, hpost _ _ _ _ _ _ ⟨Cond.after_iff.mpr rfl, Cond.after_iff.mpr (eq_i res_at (Term.int_eval (1)) rfl), trivial⟩ ⟨hq.1, hq.2.1, (hq.2.2.sift fun y hy => Or.inr (N y hy)).mono (by decide) (by decide)⟩⟩
theorem main_1_1 : Claimed_1_1 := comes_1 fun _ _ _ _ _ _ h hF => ⟨h.1, hF⟩
theorem main_1_2 : Claimed_1_2 := comes_1 fun _ _ _ _ _ _ h hF => ⟨h.2.1, hF⟩

end Jvm.Pilot.@@N@@
namespace Jvm.Pilot.@@N@@
open Jvm Jvm.ClassFile Sem Op Lib Jvm.Free Jvm.Stand Jvm.Pilot.@@N@@.Jvm.D
/-! MADE BY PROGRAM (witnessworld.py) out of the Statement's table words and the real class files: 11 classes; the members and pool entries that the words name. The judged class is class 1, her method 1. -/
namespace start1
open Jvm.ClassFile
def u (s : String) : CpInfo := .utf8 (stringToUtf16 s)
/-- a pool by its gaps: so many unusable entries, then the entry; so many at the end -/
def gap : Nat → List CpInfo → List CpInfo
  | 0, r => r
  | n + 1, r => .unusable :: gap n r
def poolList (es : List (Nat × CpInfo)) (last : Nat) : List CpInfo := es.foldr (fun e r => gap e.1 (e.2 :: r)) (gap last [])
def pool (es : List (Nat × CpInfo)) (last : Nat) : Array CpInfo := ⟨poolList es last⟩
def fileOf (pool : Array CpInfo) (this : Nat) (attrs : Array Attribute := #[]) (ms : Array MethodInfo := #[]) (fl : Nat := 33) (sup : Nat := 0) (ifs : Array Nat := #[]) (fds : Array FieldInfo := #[]) : ClassFile where
  minorVersion := 0
  majorVersion := 65
  constantPool := pool
  accessFlags := fl
  thisClass := this
  superClass := sup
  interfaces := ifs
  fields := fds
  methods := ms
  attributes := attrs
def plain (name : String) (sup : Option ClassId) : Class where
  name := name
  kind := .ordinary
  loader := none
  accessFlags := 33
  super := sup
  interfaces := #[]
  cf := none
  fields := #[]
  methods := #[]
  instanceTypes := #[]
  staticTypes := #[]
  resolved := #[]
  callSites := []
  init := .initialized
  statics := none
  mirror := none

def pool0 : Array CpInfo := pool [(5, u "<init>"), (0, u "()V"), (1, .class_ 10), (1, u "java/lang/Object")] 113

def k0c0 : Code := { maxStack := 0, maxLocals := 1, code := object_method_1_code, exceptionTable := #[], attributes := #[] }
def k0m0 : Method := { name := "<init>", desc := "()V", sig := { parameters := [], returnType := none }, accessFlags := 1, code := some k0c0 }
/-- java/lang/Object -/
def k0 : Class := { plain "java/lang/Object" none with
  accessFlags := 33
  interfaces := #[]
  cf := some (fileOf pool0 8 #[] #[{ accessFlags := 1, nameIndex := 5, descriptorIndex := 6, attributes := #[] }] 33 0 #[] #[])
  fields := #[]
  methods := #[k0m0]
  instanceTypes := #[]
  staticTypes := #[]
  resolved := Array.replicate 124 none
  statics := none }

def pool1 : Array CpInfo := pool [(2, .class_ 4), (1, u "java/lang/Object"), (0, u "<init>"), (0, u "()V"), (0, .methodref 8 9), (0, .class_ 10), (0, .nameAndType 11 12), (0, u "java/lang/Math"), (0, u "min"), (0, u "(II)I"), (0, .class_ 14), (0, u "com/example/whipstill/whipstill/MovingWindow"), (0, .methodref 13 16), (0, .nameAndType 5 17), (0, u "(ID)V"), (0, .methodref 13 19), (0, .nameAndType 20 21), (0, u "add"), (0, u "(D)V"), (0, .methodref 13 23), (0, .nameAndType 24 25), (0, u "meanAbove"), (0, u "(D)D"), (0, .methodref 8 27), (0, .nameAndType 28 12), (0, u "max"), (0, .methodref 30 31), (0, .class_ 32), (0, .nameAndType 33 34), (0, u "com/example/whipstill/whipstill/MovingWindowMeanAbovePinLaw"), (0, u "held"), (0, u "(IIII)J"), (2, u "law"), (0, u "(IIIJJJ)Z")] 3

def k1m0 : Method := { name := "<init>", desc := "()V", sig := { parameters := [], returnType := none }, accessFlags := 1, code := none }
def k1c1 : Code := { maxStack := 6, maxLocals := 26, code := code, exceptionTable := #[], attributes := #[] }
def k1m1 : Method := { name := "law", desc := "(IIIJJJ)Z", sig := { parameters := [.int, .int, .int, .long, .long, .long], returnType := some .boolean }, accessFlags := 9, code := some k1c1 }
def k1c2 : Code := { maxStack := 3, maxLocals := 4, code := method_3_code, exceptionTable := #[], attributes := #[] }
def k1m2 : Method := { name := "held", desc := "(IIII)J", sig := { parameters := [.int, .int, .int, .int], returnType := some .long }, accessFlags := 10, code := some k1c2 }
/-- com/example/whipstill/whipstill/MovingWindowMeanAbovePinLaw -/
def k1 : Class := { plain "com/example/whipstill/whipstill/MovingWindowMeanAbovePinLaw" (some 0) with
  accessFlags := 49
  interfaces := #[]
  cf := some (fileOf pool1 30 #[] #[{ accessFlags := 1, nameIndex := 5, descriptorIndex := 6, attributes := #[] }, { accessFlags := 9, nameIndex := 37, descriptorIndex := 38, attributes := #[] }, { accessFlags := 10, nameIndex := 33, descriptorIndex := 34, attributes := #[] }] 49 2 #[] #[])
  fields := #[]
  methods := #[k1m0, k1m1, k1m2]
  instanceTypes := #[]
  staticTypes := #[]
  resolved := Array.replicate 42 none
  statics := none }

def pool2 : Array CpInfo := pool [(1, .class_ 2), (0, u "java/lang/Math"), (1, .class_ 6), (1, u "java/lang/Object"), (0, u "<init>"), (0, u "()V"), (89, .class_ 100), (1, u "java/lang/Math$RandomNumberGeneratorHolder"), (71, u "negativeZeroFloatBits"), (0, u "J"), (2, u "negativeZeroDoubleBits"), (21, u "max"), (2, u "min"), (43, u "$assertionsDisabled"), (0, u "Z"), (88, u "(II)I"), (2, u "twoToTheDoubleScaleDown"), (0, u "D"), (4, u "twoToTheDoubleScaleUp"), (9, u "E"), (3, u "PI"), (2, u "TAU"), (2, u "DEGREES_TO_RADIANS"), (0, u "RADIANS_TO_DEGREES")] 94

def k2m0 : Method := { name := "<init>", desc := "()V", sig := { parameters := [], returnType := none }, accessFlags := 2, code := none }
def k2c1 : Code := { maxStack := 2, maxLocals := 2, code := jdk_29_method_65_code, exceptionTable := #[], attributes := #[] }
def k2m1 : Method := { name := "max", desc := "(II)I", sig := { parameters := [.int, .int], returnType := some .int }, accessFlags := 9, code := some k2c1 }
def k2c2 : Code := { maxStack := 2, maxLocals := 2, code := jdk_29_method_69_code, exceptionTable := #[], attributes := #[] }
def k2m2 : Method := { name := "min", desc := "(II)I", sig := { parameters := [.int, .int], returnType := some .int }, accessFlags := 9, code := some k2c2 }
/-- java/lang/Math -/
def k2 : Class := { plain "java/lang/Math" (some 0) with
  accessFlags := 49
  interfaces := #[]
  cf := some (fileOf pool2 1 #[.nestMembers #[98]] #[{ accessFlags := 2, nameIndex := 7, descriptorIndex := 8, attributes := #[] }, { accessFlags := 9, nameIndex := 198, descriptorIndex := 335, attributes := #[] }, { accessFlags := 9, nameIndex := 201, descriptorIndex := 335, attributes := #[] }] 49 4 #[] #[{ accessFlags := 25, nameIndex := 354, descriptorIndex := 339, attributes := #[] }, { accessFlags := 25, nameIndex := 358, descriptorIndex := 339, attributes := #[] }, { accessFlags := 25, nameIndex := 361, descriptorIndex := 339, attributes := #[] }, { accessFlags := 26, nameIndex := 364, descriptorIndex := 339, attributes := #[] }, { accessFlags := 26, nameIndex := 365, descriptorIndex := 339, attributes := #[] }, { accessFlags := 26, nameIndex := 172, descriptorIndex := 173, attributes := #[] }, { accessFlags := 26, nameIndex := 176, descriptorIndex := 173, attributes := #[] }, { accessFlags := 8, nameIndex := 344, descriptorIndex := 339, attributes := #[] }, { accessFlags := 8, nameIndex := 338, descriptorIndex := 339, attributes := #[] }, { accessFlags := 4120, nameIndex := 245, descriptorIndex := 246, attributes := #[] }])
  fields := #[{ name := "E", type := .double, accessFlags := 25, slot := 0, constantValue := 0 }, { name := "PI", type := .double, accessFlags := 25, slot := 1, constantValue := 0 }, { name := "TAU", type := .double, accessFlags := 25, slot := 2, constantValue := 0 }, { name := "DEGREES_TO_RADIANS", type := .double, accessFlags := 26, slot := 3, constantValue := 0 }, { name := "RADIANS_TO_DEGREES", type := .double, accessFlags := 26, slot := 4, constantValue := 0 }, { name := "negativeZeroFloatBits", type := .long, accessFlags := 26, slot := 5, constantValue := 0 }, { name := "negativeZeroDoubleBits", type := .long, accessFlags := 26, slot := 6, constantValue := 0 }, { name := "twoToTheDoubleScaleUp", type := .double, accessFlags := 8, slot := 7, constantValue := 0 }, { name := "twoToTheDoubleScaleDown", type := .double, accessFlags := 8, slot := 8, constantValue := 0 }, { name := "$assertionsDisabled", type := .boolean, accessFlags := 4120, slot := 9, constantValue := 0 }]
  methods := #[k2m0, k2m1, k2m2]
  instanceTypes := #[]
  staticTypes := #[.double, .double, .double, .double, .double, .long, .long, .double, .double, .boolean]
  resolved := Array.replicate 460 none
  statics := none }

def pool3 : Array CpInfo := pool [(1, .methodref 2 3), (0, .class_ 4), (0, .nameAndType 5 6), (0, u "java/lang/Object"), (0, u "<init>"), (0, u "()V"), (9, .fieldref 17 18), (0, .class_ 19), (0, .nameAndType 20 21), (0, u "com/example/whipstill/whipstill/MovingWindow"), (0, u "values"), (0, u "[D"), (0, .methodref 23 24), (0, .class_ 25), (0, .nameAndType 26 27), (0, u "java/util/Arrays"), (0, u "fill"), (0, u "([DD)V"), (0, .fieldref 17 29), (0, .nameAndType 30 31), (0, u "oldest"), (0, u "I"), (37, u "(ID)V"), (3, u "add"), (0, u "(D)V"), (3, u "meanAbove"), (0, u "(D)D")] 40

def k3c0 : Code := { maxStack := 3, maxLocals := 4, code := prog_11_method_1_code, exceptionTable := #[], attributes := #[] }
def k3m0 : Method := { name := "<init>", desc := "(ID)V", sig := { parameters := [.int, .double], returnType := none }, accessFlags := 0, code := some k3c0 }
def k3c1 : Code := { maxStack := 4, maxLocals := 3, code := prog_11_method_2_code, exceptionTable := #[], attributes := #[] }
def k3m1 : Method := { name := "add", desc := "(D)V", sig := { parameters := [.double], returnType := none }, accessFlags := 0, code := some k3c1 }
def k3c2 : Code := { maxStack := 6, maxLocals := 10, code := prog_11_method_5_code, exceptionTable := #[], attributes := #[] }
def k3m2 : Method := { name := "meanAbove", desc := "(D)D", sig := { parameters := [.double], returnType := some .double }, accessFlags := 0, code := some k3c2 }
/-- com/example/whipstill/whipstill/MovingWindow -/
def k3 : Class := { plain "com/example/whipstill/whipstill/MovingWindow" (some 0) with
  accessFlags := 48
  interfaces := #[]
  cf := some (fileOf pool3 17 #[] #[{ accessFlags := 0, nameIndex := 5, descriptorIndex := 69, attributes := #[] }, { accessFlags := 0, nameIndex := 73, descriptorIndex := 74, attributes := #[] }, { accessFlags := 0, nameIndex := 78, descriptorIndex := 79, attributes := #[] }] 48 2 #[] #[{ accessFlags := 18, nameIndex := 20, descriptorIndex := 21, attributes := #[] }, { accessFlags := 2, nameIndex := 30, descriptorIndex := 31, attributes := #[] }])
  fields := #[{ name := "values", type := (.array .double), accessFlags := 18, slot := 0, constantValue := 0 }, { name := "oldest", type := .int, accessFlags := 2, slot := 1, constantValue := 0 }]
  methods := #[k3m0, k3m1, k3m2]
  instanceTypes := #[(.array .double), .int]
  staticTypes := #[]
  resolved := Array.replicate 120 none
  statics := none }

def pool4 : Array CpInfo := pool [(2, .class_ 4), (1, u "java/lang/Object"), (0, u "<init>"), (0, u "()V"), (7, .class_ 16), (1, u "java/util/Arrays"), (57, .class_ 76), (1, u "java/util/Arrays$NaturalOrder"), (36, .class_ 115), (1, u "java/util/Arrays$LegacyMergeSort"), (1, u "Z"), (257, .class_ 376), (0, u "java/util/Arrays$ArrayList"), (68, u "$assertionsDisabled"), (269, u "MIN_ARRAY_SORT_GRAN"), (0, u "I"), (2, u "INSERTIONSORT_THRESHOLD"), (120, u "fill"), (13, u "([DD)V"), (120, .class_ 976), (0, u "java/util/Arrays$ArrayItr")] 52

def k4m0 : Method := { name := "<init>", desc := "()V", sig := { parameters := [], returnType := none }, accessFlags := 2, code := none }
def k4c1 : Code := { maxStack := 4, maxLocals := 5, code := jdk_65_method_113_code, exceptionTable := #[], attributes := #[] }
def k4m1 : Method := { name := "fill", desc := "([DD)V", sig := { parameters := [(.array .double), .double], returnType := none }, accessFlags := 9, code := some k4c1 }
/-- java/util/Arrays -/
def k4 : Class := { plain "java/util/Arrays" (some 0) with
  accessFlags := 49
  interfaces := #[]
  cf := some (fileOf pool4 14 #[.nestMembers #[975, 375, 113, 74]] #[{ accessFlags := 2, nameIndex := 5, descriptorIndex := 6, attributes := #[] }, { accessFlags := 9, nameIndex := 840, descriptorIndex := 854, attributes := #[] }] 49 2 #[] #[{ accessFlags := 26, nameIndex := 715, descriptorIndex := 716, attributes := #[] }, { accessFlags := 26, nameIndex := 719, descriptorIndex := 716, attributes := #[] }, { accessFlags := 4120, nameIndex := 445, descriptorIndex := 117, attributes := #[] }])
  fields := #[{ name := "MIN_ARRAY_SORT_GRAN", type := .int, accessFlags := 26, slot := 0, constantValue := 0 }, { name := "INSERTIONSORT_THRESHOLD", type := .int, accessFlags := 26, slot := 1, constantValue := 0 }, { name := "$assertionsDisabled", type := .boolean, accessFlags := 4120, slot := 2, constantValue := 0 }]
  methods := #[k4m0, k4m1]
  instanceTypes := #[]
  staticTypes := #[.int, .int, .boolean]
  resolved := Array.replicate 1029 none
  statics := none }

def pool5 : Array CpInfo := pool [(1, u "java/lang/Cloneable"), (0, .class_ 1), (0, u "java/lang/Object"), (0, .class_ 3)] 3

/-- java/lang/Cloneable -/
def k5 : Class := { plain "java/lang/Cloneable" (some 0) with
  accessFlags := 1537
  interfaces := #[]
  cf := some (fileOf pool5 2 #[] #[] 1537 4 #[] #[])
  fields := #[]
  methods := #[]
  instanceTypes := #[]
  staticTypes := #[]
  resolved := Array.replicate 8 none
  statics := none }

def pool6 : Array CpInfo := pool [(1, u "java/io/Serializable"), (0, .class_ 1), (0, u "java/lang/Object"), (0, .class_ 3)] 3

/-- java/io/Serializable -/
def k6 : Class := { plain "java/io/Serializable" (some 0) with
  accessFlags := 1537
  interfaces := #[]
  cf := some (fileOf pool6 2 #[] #[] 1537 4 #[] #[])
  fields := #[]
  methods := #[]
  instanceTypes := #[]
  staticTypes := #[]
  resolved := Array.replicate 8 none
  statics := none }

/-- the primitive byte -/
def k7 : Class := { plain "byte" none with kind := .primitive 'B', accessFlags := 0x411 }
/-- [B -/
def k8 : Class := { plain "[B" (some 0) with kind := .array 7 .byte, interfaces := #[5, 6], accessFlags := 1041 }

/-- the primitive int -/
def k9 : Class := { plain "int" none with kind := .primitive 'I', accessFlags := 0x411 }
/-- [I -/
def k10 : Class := { plain "[I" (some 0) with kind := .array 9 .int, interfaces := #[5, 6], accessFlags := 1041 }

/-- the primitive double -/
def k11 : Class := { plain "double" none with kind := .primitive 'D', accessFlags := 0x411 }
def k12 : Class := { plain "[D" (some 0) with kind := .array 11 .double, interfaces := #[5, 6], accessFlags := 1041 }
def heap : Heap := #[]
def classes : Array Class := #[k0, k1, k2, k3, k4, k5, k6, k7, k8, k9, k10, k11, k12]
def interned : List (Array UInt16 × Addr) := []
def slotsUsed : Nat := 0
def theMethod : MethodId := ⟨1, 1⟩
def args0 : Array Value := #[.int 5, .int 5, .int 5, .long 5, .long 5, .long 5]
def aboutOver (below : List Frame) : State where
  vm := { classes := classes, interned := interned.toArray }
  heap := heap
  slotsUsed := slotsUsed
  threads := #[{ frames := .invoking theMethod args0 :: below }]
def below0 : List Frame := [.native { method := ⟨0, 0⟩, args := #[] }]
def about1 : State := aboutOver below0
def p0 : Program := .bare "" "" ""
def e0 : Env := launch0.env 0 0 0
theorem w_frames : about1.frames = Frame.invoking theMethod args0 :: below0 := rfl
set_option maxRecDepth 65536 in
theorem w_args : argsFit about1.vm theMethod args0 = true := by decide +kernel
set_option maxRecDepth 65536 in
theorem w_heap : heapFits about1 = true := by decide +kernel
set_option maxRecDepth 65536 in
theorem w_runnable : about1.curStatus? = some .runnable := by decide +kernel
set_option maxRecDepth 65536 in
theorem w_alone : about1.alone = true := by decide +kernel
set_option maxRecDepth 65536 in
theorem w_named : about1.methodNamed? x = some theMethod := by decide +kernel
set_option maxRecDepth 65536 in
theorem w_hears : about1.hears theMethod below0 = true := by decide +kernel
set_option maxRecDepth 65536 in
theorem w_ripe : about1.ripe theMethod args0 below0 = true := by decide +kernel
theorem w_running : about1.status = .running := rfl
set_option maxRecDepth 65536 in
theorem w_room : about1.hasRoom e0.platform room_1 = true :=
  launch0.hasRoom_least _ room_1 (by decide +kernel) (by decide +kernel) (by decide +kernel) (by decide +kernel) (by decide +kernel) (by decide +kernel)
theorem allAtoms_all (ts : List Jvm.Cond) (a : Array Jvm.Value) (st : Jvm.State) : (allAtoms ts).before a st = ts.all (fun c => c.before a st) := by
  induction ts with
  | nil => rfl
  | cons c t ih =>
    show (Jvm.Cond.and c (allAtoms t)).before a st = _
    rw [Jvm.Cond.before_and, ih, List.all_cons]
def words1 : List Jvm.Cond := Jvm.Cond.code x code maxLocals ret :: tables_1
/-- a 'code' word, met by the world's own term for the bytes: nothing is compared byte by byte -/
theorem code_word {y : MethodName} {bytes : ByteArray} {mx : Nat} {rt : Option FieldType} {a : Array Value} {s : State} {m : MethodId} {meth : Method} {c : Code} (h1 : s.methodNamed? y = some m) (h2 : s.vm.method? m = some meth) (h3 : meth.code = some c) (h4 : c.code = bytes)
    (h5 : (c.maxLocals == mx && c.exceptionTable.isEmpty && decide (c.maxStack ≤ mostOperands) && decide (meth.sig.returnType = rt) && !meth.locks && decide (parseMethodDescriptor y.desc = some meth.sig)) = true) : (Jvm.Cond.code y bytes mx rt).before a s = true := by
  simp only [Bool.and_eq_true, beq_iff_eq, Bool.not_eq_true', decide_eq_true_eq] at h5
  obtain ⟨⟨⟨⟨⟨g1, g2⟩, g3⟩, g4⟩, g5⟩, g6⟩ := h5
  simp [Cond.before, Cond.holds, Cond.value, h1, h2, h3, h4, g1, g2, g3, g4, g5, g6]
def isCode : Jvm.Cond → Bool
  | .code _ _ _ _ => true
  | _ => false
theorem all_split {L : List Jvm.Cond} {P : Jvm.Cond → Bool} (h1 : L.all (fun c => isCode c || P c) = true) (h2 : ∀ c ∈ L.filter isCode, P c = true) : L.all P = true := by
  refine List.all_eq_true.mpr fun c hc => ?_
  have h := List.all_eq_true.mp h1 c hc
  rcases Bool.eq_false_or_eq_true (isCode c) with hi | hi
  · exact h2 c (List.mem_filter.mpr ⟨hc, hi⟩)
  · simpa [hi] using h
set_option maxRecDepth 65536 in
theorem w_c0 : (Jvm.Cond.code x code maxLocals ret).before args0 about1 = true := code_word (m := ⟨1, 1⟩) (meth := k1m1) (c := k1c1) (by decide +kernel) rfl rfl rfl (by decide +kernel)
set_option maxRecDepth 65536 in
theorem w_c1 : (Jvm.Cond.code ({ cls := "java/lang/Math", name := "min", desc := "(II)I" } : Jvm.MethodName) jdk_29_method_69_code (2 : Nat) (Option.some Jvm.ClassFile.FieldType.int)).before args0 about1 = true := code_word (m := ⟨2, 2⟩) (meth := k2m2) (c := k2c2) (by decide +kernel) rfl rfl rfl (by decide +kernel)
set_option maxRecDepth 65536 in
theorem w_c2 : (Jvm.Cond.code ({ cls := "com/example/whipstill/whipstill/MovingWindow", name := "<init>", desc := "(ID)V" } : Jvm.MethodName) prog_11_method_1_code (4 : Nat) (Option.none : Option Jvm.ClassFile.FieldType)).before args0 about1 = true := code_word (m := ⟨3, 0⟩) (meth := k3m0) (c := k3c0) (by decide +kernel) rfl rfl rfl (by decide +kernel)
set_option maxRecDepth 65536 in
theorem w_c3 : (Jvm.Cond.code ({ cls := "java/lang/Object", name := "<init>", desc := "()V" } : Jvm.MethodName) object_method_1_code (1 : Nat) (Option.none : Option Jvm.ClassFile.FieldType)).before args0 about1 = true := code_word (m := ⟨0, 0⟩) (meth := k0m0) (c := k0c0) (by decide +kernel) rfl rfl rfl (by decide +kernel)
set_option maxRecDepth 65536 in
theorem w_c4 : (Jvm.Cond.code ({ cls := "java/util/Arrays", name := "fill", desc := "([DD)V" } : Jvm.MethodName) jdk_65_method_113_code (5 : Nat) (Option.none : Option Jvm.ClassFile.FieldType)).before args0 about1 = true := code_word (m := ⟨4, 1⟩) (meth := k4m1) (c := k4c1) (by decide +kernel) rfl rfl rfl (by decide +kernel)
set_option maxRecDepth 65536 in
theorem w_c5 : (Jvm.Cond.code ({ cls := "com/example/whipstill/whipstill/MovingWindow", name := "meanAbove", desc := "(D)D" } : Jvm.MethodName) prog_11_method_5_code (10 : Nat) (Option.some Jvm.ClassFile.FieldType.double)).before args0 about1 = true := code_word (m := ⟨3, 2⟩) (meth := k3m2) (c := k3c2) (by decide +kernel) rfl rfl rfl (by decide +kernel)
set_option maxRecDepth 65536 in
theorem w_c6 : (Jvm.Cond.code ({ cls := "java/lang/Math", name := "max", desc := "(II)I" } : Jvm.MethodName) jdk_29_method_65_code (2 : Nat) (Option.some Jvm.ClassFile.FieldType.int)).before args0 about1 = true := code_word (m := ⟨2, 1⟩) (meth := k2m1) (c := k2c1) (by decide +kernel) rfl rfl rfl (by decide +kernel)
set_option maxRecDepth 65536 in
theorem w_c7 : (Jvm.Cond.code ({ cls := "com/example/whipstill/whipstill/MovingWindowMeanAbovePinLaw", name := "held", desc := "(IIII)J" } : Jvm.MethodName) method_3_code (4 : Nat) (Option.some Jvm.ClassFile.FieldType.long)).before args0 about1 = true := code_word (m := ⟨1, 2⟩) (meth := k1m2) (c := k1c2) (by decide +kernel) rfl rfl rfl (by decide +kernel)
set_option maxRecDepth 65536 in
theorem w_c8 : (Jvm.Cond.code ({ cls := "com/example/whipstill/whipstill/MovingWindow", name := "add", desc := "(D)V" } : Jvm.MethodName) prog_11_method_2_code (3 : Nat) (Option.none : Option Jvm.ClassFile.FieldType)).before args0 about1 = true := code_word (m := ⟨3, 1⟩) (meth := k3m1) (c := k3c1) (by decide +kernel) rfl rfl rfl (by decide +kernel)
def codes1 : List Jvm.Cond := [Jvm.Cond.code x code maxLocals ret, Jvm.Cond.code ({ cls := "java/lang/Math", name := "min", desc := "(II)I" } : Jvm.MethodName) jdk_29_method_69_code (2 : Nat) (Option.some Jvm.ClassFile.FieldType.int), Jvm.Cond.code ({ cls := "com/example/whipstill/whipstill/MovingWindow", name := "<init>", desc := "(ID)V" } : Jvm.MethodName) prog_11_method_1_code (4 : Nat) (Option.none : Option Jvm.ClassFile.FieldType), Jvm.Cond.code ({ cls := "java/lang/Object", name := "<init>", desc := "()V" } : Jvm.MethodName) object_method_1_code (1 : Nat) (Option.none : Option Jvm.ClassFile.FieldType), Jvm.Cond.code ({ cls := "java/util/Arrays", name := "fill", desc := "([DD)V" } : Jvm.MethodName) jdk_65_method_113_code (5 : Nat) (Option.none : Option Jvm.ClassFile.FieldType), Jvm.Cond.code ({ cls := "com/example/whipstill/whipstill/MovingWindow", name := "meanAbove", desc := "(D)D" } : Jvm.MethodName) prog_11_method_5_code (10 : Nat) (Option.some Jvm.ClassFile.FieldType.double), Jvm.Cond.code ({ cls := "java/lang/Math", name := "max", desc := "(II)I" } : Jvm.MethodName) jdk_29_method_65_code (2 : Nat) (Option.some Jvm.ClassFile.FieldType.int), Jvm.Cond.code ({ cls := "com/example/whipstill/whipstill/MovingWindowMeanAbovePinLaw", name := "held", desc := "(IIII)J" } : Jvm.MethodName) method_3_code (4 : Nat) (Option.some Jvm.ClassFile.FieldType.long), Jvm.Cond.code ({ cls := "com/example/whipstill/whipstill/MovingWindow", name := "add", desc := "(D)V" } : Jvm.MethodName) prog_11_method_2_code (3 : Nat) (Option.none : Option Jvm.ClassFile.FieldType)]
set_option maxRecDepth 65536 in
theorem codes_eq : words1.filter isCode = codes1 := rfl
theorem w_codes : ∀ c ∈ words1.filter isCode, c.before args0 about1 = true := by
  rw [codes_eq]
  intro c hc
  simp only [codes1, List.mem_cons, List.not_mem_nil, or_false] at hc
  rcases hc with rfl | rfl | rfl | rfl | rfl | rfl | rfl | rfl | rfl
  · exact w_c0
  · exact w_c1
  · exact w_c2
  · exact w_c3
  · exact w_c4
  · exact w_c5
  · exact w_c6
  · exact w_c7
  · exact w_c8
set_option maxRecDepth 65536 in
theorem w_t1 : (words1.take 24).all (fun c => isCode c || c.before args0 about1) = true := by decide +kernel
set_option maxRecDepth 65536 in
theorem w_t2 : (words1.drop 24).all (fun c => isCode c || c.before args0 about1) = true := by decide +kernel
theorem w_tables : (allAtoms (Jvm.Cond.code x code maxLocals ret :: tables_1)).before args0 about1 = true := by
  rw [allAtoms_all]
  show words1.all (fun c => c.before args0 about1) = true
  refine all_split ?_ w_codes
  rw [← List.take_append_drop 24 words1, List.all_append, w_t1, w_t2]
  rfl
set_option maxRecDepth 65536 in
theorem w_case : (Jvm.Cond.and given_1 narrow_1).before args0 about1 = true := by decide +kernel
theorem w_applies : (headSpec (Jvm.Cond.code x code maxLocals ret :: tables_1) room_1).applies x e0.platform about1 = true :=
  (Spec.applies_iff w_frames).mpr ⟨w_running, w_runnable, w_alone, w_named, w_hears, w_ripe, w_room, w_tables⟩
theorem atStart : AtStart classFile x code maxLocals ret World_1 tables_1 room_1 Calls_1 rest_1 Pre_1 launch0 p0 e0 about1 theMethod args0 below0 :=
  ⟨lists_1, trivial, launch0.admits_env _ _ _, launch0.least_env, fairChoices_fair.cas, fairChoices_fair.clock, w_frames, w_args, w_heap, w_applies, trivial, trivial, w_case⟩
end start1
theorem witness_1 : WitnessClaimed_1 := ⟨start1.p0, start1.e0, start1.about1, start1.theMethod, start1.args0, start1.below0, start1.atStart⟩
end Jvm.Pilot.@@N@@
