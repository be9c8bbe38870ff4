import JvmDerived
import JvmDerived.Pilot.@@N@@Statement
import JvmDerived.Pilot.@@N@@Code
set_option linter.unusedVariables false
set_option linter.unusedSimpArgs false
namespace Jvm.RoadKit
open Sem ClassFile Op Lib Jvm.Stand Jvm.Free Jvm.LawKit
section New
variable {p : Program} {l : Launch} {e : Env} {R : Room} {s : State} {m : MethodId} {args : Array Value} {below : List Frame} {meth : Method} {c : Code} {T : State} {locs : List Loc} {cells slots : Nat}
theorem retI (X : Stand p l e R s m args below meth c T locs cells slots) (hx : p.tables.exec = Jvm.exec) {pc : Nat} {Ls : Array Slot} {z : Int32} {rest : List Value} (hret : meth.sig.returnType = some .int) (hd : decode c.code pc = .ok (.ireturn, 1)) {fs : List Frame}
    (hl : ∀ (f : JFrame) (acts : List Action), f.method = m → f.locked = none → f.entered = [] → (doReturn e (T.setTop f) acts (some (.int z))).1 = T.setFrames fs) : Steps p.tables e below (T.setTop (mkF m pc Ls (.int z :: rest))) (T.setFrames fs) := by
  have hm' : T.vm.method? m = some meth := X.method'
  have hn : narrow .int (.int z) = .int z := rfl
  show Steps p.tables e below (T.setTop { method := m, pc := pc, locals := Ls, stack := _ :: rest, locked := none }) _
  jvm_step X.here [X.here.top, hx, hd, hm', hret, hn]
  first | (intro acts; rw [hl _ acts rfl rfl rfl]) | rw [hl _ _ rfl rfl rfl]
  exact Steps.refl _
theorem retR (X : Stand p l e R s m args below meth c T locs cells slots) (hx : p.tables.exec = Jvm.exec) {pc : Nat} {Ls : Array Slot} {w : Value} {t : FieldType} {rest : List Value} (hret : meth.sig.returnType = some t) (hn : narrow t w = w) (ht : t.isReference = true) (hw : w.isRef = true) (hd : decode c.code pc = .ok (.areturn, 1)) {fs : List Frame}
    (hl : ∀ (f : JFrame) (acts : List Action), f.method = m → f.locked = none → f.entered = [] → (doReturn e (T.setTop f) acts (some w)).1 = T.setFrames fs) : Steps p.tables e below (T.setTop (mkF m pc Ls (w :: rest))) (T.setFrames fs) := by
  have hm' : T.vm.method? m = some meth := X.method'
  show Steps p.tables e below (T.setTop { method := m, pc := pc, locals := Ls, stack := _ :: rest, locked := none }) _
  jvm_step X.here [X.here.top, hx, hd, hm', hret, hn, hw]
  try (refine ⟨ht, ?_⟩)
  first | (intro acts; rw [hl _ acts rfl rfl rfl]) | rw [hl _ _ rfl rfl rfl]
  exact Steps.refl _
end New
end Jvm.RoadKit
namespace Jvm.Pilot.@@N@@
open Jvm Jvm.ClassFile Sem Op Lib Jvm.Free Jvm.Stand Jvm.LawKit Jvm.RoadKit Bundle Jvm.Pilot.@@N@@.Jvm.D
def own_Len (Z : State) (h : Heap) (a : Addr) (ty : FieldType) (z : Int32) : Prop := ∃ c : Cell, Arr Z h a c ty ∧ c.slots.size = z.toNatClampNeg ∧ ¬ z < 0
theorem own_Len.ext {Z : State} {h h' : Heap} {a : Addr} {ty : FieldType} {z : Int32} (F : own_Len Z h a ty z) (E : Ext h h') : own_Len Z h' a ty z := by obtain ⟨c, A, r⟩ := F; exact ⟨c, A.ext E, r⟩
theorem own_len {s : State} {args : Array Value} {t : Term} {a : Addr} {ty : FieldType} {k : Int32} (ev : t.eval args s none [] s = some (.ref a)) (hA : (Cond.arrayOf t ty).value args s none s [] = some true) (hl : (Cond.eq (.length t) (.int k)).value args s none s [] = some true) (hk : ¬ k < 0) : own_Len s s.heap a ty k := by
  obtain ⟨c, A⟩ := Arr.start ev hA
  have hat := A.fin (Vm.Alike.refl _)
  by_cases hn : c.slots.size < 2 ^ 31
  · have e := len_f (args := args) (first := s) (o := none) (idx := []) ev hat hn
    have q := gotT (Cond.eq_ints e (Term.int_eval k)) hl
    refine ⟨c, A, ?_, hk⟩
    rw [← q]
    simp [Int32.toNatClampNeg, len_toInt hn]
  · exfalso
    obtain ⟨x, y, e1, -, -, -⟩ := cmp_v (Or.inl hl)
    have hn' : ¬ c.slots.size < 2147483648 := hn
    simp [Term.eval, ev, hat, hn'] at e1
theorem own_fld {s : State} {args : Array Value} {t : Term} {a : Addr} {v : Value} {C n d : String} (ev : t.eval args s none [] s = some (.ref a)) (h : (Term.field t C n d).eval args s none [] s = some v) : Fld s s.heap a C n d v := Fld.start ((fld_at ev).symm.trans h)
theorem own_eqR {s : State} {args : Array Value} {t u : Term} {b : Addr} (hu : u.eval args s none [] s = some (.ref b)) (h : (Cond.eq t u).value args s none s [] = some true) : t.eval args s none [] s = some (.ref b) := by
  obtain ⟨x, y, e1, e2, hk, hk'⟩ := cmp_v (Or.inl h)
  cases hu.symm.trans e2
  have hx : x.isRef = true := by cases x <;> simp [Kin, Value.isRef] at hk ⊢
  have q := gotT (eq_R e1 e2 hx rfl) h
  rw [e1, q]
theorem d2_0 : decode jdk_45_method_3_code 0 = .ok (.aload_n 0, 1) := by decide +kernel
theorem d2_1 : decode jdk_45_method_3_code 1 = .ok (.getfield 7, 3) := by decide +kernel
theorem d2_4 : decode jdk_45_method_3_code 4 = .ok (.arraylength, 1) := by decide +kernel
theorem d2_5 : decode jdk_45_method_3_code 5 = .ok (.ireturn, 1) := by decide +kernel
theorem pn_java_util_ImmutableCollections_ListN : plainName "java/util/ImmutableCollections$ListN" = true := by first | (simp [plainName, overriddenIn]; done) | decide +kernel
theorem ef_rmN (m : MethodId) (x0 : Addr) : entryFrame m #[(.ref x0)] 1 = mkF m 0 #[.val (.ref x0)] [] := by first | (simp [entryFrame, mkF, argsToLocals, Value.category]; done) | rfl
def Q_rmN (Z : State) (a1 : Addr) (w2 : Addr) (z2 : Int32) (h0 : Heap) (n0 : Nat) (v : Option Value) (h : Heap) (L : List Loc) : Prop := v = some (.int z2) ∧ Fr n0 L ∧ h = h0
set_option maxRecDepth 65536 in
set_option maxHeartbeats 40000000 in
theorem rmN (l : Launch) (Z : State) (a0 : Array Value) (hw : ∀ d ∈ tables_1, d.before a0 Z = true) (ws : List Jvm.Cond) (a1 : Addr) (w2 : Addr) (z2 : Int32) (h0 : Heap) (n0 : Nat) (Z0 : n0 ≤ h0.size) (F1 : Fld Z h0 a1 "java/util/ImmutableCollections$ListN" "elements" "[Ljava/lang/Object;" (.ref w2)) (V1 : own_Len Z h0 w2 (.object "java/lang/Object") z2) :
    MetFree l (⟨"java/util/ImmutableCollections$ListN", "size", "()I"⟩ : MethodName) (head1 (Jvm.Cond.code (⟨"java/util/ImmutableCollections$ListN", "size", "()I"⟩ : MethodName) jdk_45_method_3_code 1 (some .int) :: ws) ({ frames := 0, cells := 0, slots := 0, locals := 0 } : Room)) (fun a U => a = #[(.ref a1)] ∧ Z.Warmed39 U.vm ∧ U.heap = h0) (fun _ _ _ _ _ => True) (fun _ U o U' => ∃ v L, o = .returned v ∧ Q_rmN Z a1 w2 z2 h0 n0 v U'.heap L ∧ FrameEnd U o U' L ({ frames := 0, cells := 0, slots := 0, locals := 0 } : Room).cells ({ frames := 0, cells := 0, slots := 0, locals := 0 } : Room).slots) := by
  refine MetFree.of_bodySF (plainFor_of_name pn_java_util_ImmutableCollections_ListN) hisR ?_
  intro p e s m args below meth c s₁ Bd hml0 hP hK
  obtain ⟨rfl, hZ, hh⟩ := hP
  have hx := Bd.exec
  have hby := Bd.bytes
  have hml : c.maxLocals = 1 := hml0
  have hown : s.vm.findClass "java/util/ImmutableCollections$ListN" = some m.cls := findClass_of_methodNamed Bd.named
  have hnm := (name_of_methodNamed Bd.named Bd.method).1
  have X0 : Stand p l e ({ frames := 0, cells := 0, slots := 0, locals := 0 } : Room) s m #[(.ref a1)] below meth c s₁ [] 0 0 := Stand.of_body Bd
  have e0 : s₁.heap = h0 := by rw [← hh, Bd.state]; rfl
  have N0 := Fr.nil n0
  have pre0 : ∀ t, Steps p.tables e below (s₁.setTop (mkF m 0 #[.val (.ref a1)] [])) t → Steps p.tables e below (s₁.setTop (entryFrame m #[(.ref a1)] 1)) t := fun t k => castTop (ef_rmN m a1) k
  obtain ⟨T1_, X1_, e1_, st1_⟩ := getF X0 hx hZ hown (host := "") (Or.inl (hw _ (List.mem_of_getElem? (i := 21) rfl))) Via.refl e0 F1 (g := (mkF m 1 #[.val (.ref a1)] [(.ref a1)])) rfl rfl (hb hby d2_1)
  obtain ⟨cl2_, Ar2_, S2_, M2_⟩ := id V1
  obtain ⟨fs, hr, hrun, hended, hW, hsame⟩ := X1_.leave (v := some (.int z2)) (fun h => by first | rfl | (rw [Bd.returns] at h; cases h))
  refine ⟨_, _, pre0 _ ?_, hrun, hended, _, _, rfl, ?_, ⟨_, rfl⟩, hW, hsame.mono (by decide) (by decide)⟩
  · show Steps p.tables e below (s₁.setTop (mkF m 0 #[.val (.ref a1)] [])) _
    refine XS.aloadN X0.here hx rfl (hb hby d2_0) rfl rfl ?_
    show Steps p.tables e below (s₁.setTop (mkF m 1 #[.val (.ref a1)] [(.ref a1)])) _
    refine st1_ _ ?_
    show Steps p.tables e below (T1_.setTop (mkF m 4 #[.val (.ref a1)] [(.ref w2)])) _
    refine X1_.arraylength hx (by rw [e1_]; exact Ar2_.1) (State.isArrayOf_alike (State.Warmed39.alike hZ) Ar2_.2.1) (g := (mkF m 4 #[.val (.ref a1)] [(.ref w2)])) rfl rfl (hb hby d2_4) _ ?_
    rw [len_of S2_ M2_]
    show Steps p.tables e below (T1_.setTop (mkF m 5 #[.val (.ref a1)] [(.int z2)])) _
    exact retI X1_ hx Bd.returns (hb hby d2_5) hr
  · show Q_rmN Z a1 w2 z2 h0 n0 _ T1_.heap _
    rw [e1_]
    exact ⟨rfl, N0, rfl⟩
theorem d3_0 : decode jdk_44_method_3_code 0 = .ok (.aload_n 0, 1) := by decide +kernel
theorem d3_1 : decode jdk_44_method_3_code 1 = .ok (.getfield 24, 3) := by decide +kernel
theorem d3_4 : decode jdk_44_method_3_code 4 = .ok (.getstatic 19, 3) := by decide +kernel
theorem d3_7 : decode jdk_44_method_3_code 7 = .ok (.if_acmp .eq 7, 3) := by decide +kernel
theorem d3_10 : decode jdk_44_method_3_code 10 = .ok (.iconst 2, 1) := by decide +kernel
theorem d3_11 : decode jdk_44_method_3_code 11 = .ok (.goto 4, 3) := by decide +kernel
theorem d3_15 : decode jdk_44_method_3_code 15 = .ok (.ireturn, 1) := by decide +kernel
theorem pn_java_util_ImmutableCollections_List12 : plainName "java/util/ImmutableCollections$List12" = true := by first | (simp [plainName, overriddenIn]; done) | decide +kernel
theorem ef_rmT (m : MethodId) (x0 : Addr) : entryFrame m #[(.ref x0)] 1 = mkF m 0 #[.val (.ref x0)] [] := by first | (simp [entryFrame, mkF, argsToLocals, Value.category]; done) | rfl
def Q_rmT (Z : State) (a1 : Addr) (w2 : Addr) (w4 : Addr) (h0 : Heap) (n0 : Nat) (v : Option Value) (h : Heap) (L : List Loc) : Prop := v = some (.int (2 : Int32)) ∧ Fr n0 L ∧ h = h0
set_option maxRecDepth 65536 in
set_option maxHeartbeats 40000000 in
theorem rmT (l : Launch) (Z : State) (a0 : Array Value) (hw : ∀ d ∈ tables_1, d.before a0 Z = true) (ws : List Jvm.Cond) (a1 : Addr) (w2 : Addr) (w4 : Addr) (h0 : Heap) (n0 : Nat) (Z0 : n0 ≤ h0.size) (F1 : Fld Z h0 a1 "java/util/ImmutableCollections$List12" "e1" "Ljava/lang/Object;" (.ref w2)) (S1 : Sta Z Z.heap "java/util/ImmutableCollections" "EMPTY" "Ljava/lang/Object;" (.ref w4)) (O1 : Old Z n0 h0) (ne1 : w2 ≠ w4) :
    MetFree l (⟨"java/util/ImmutableCollections$List12", "size", "()I"⟩ : MethodName) (head1 (Jvm.Cond.code (⟨"java/util/ImmutableCollections$List12", "size", "()I"⟩ : MethodName) jdk_44_method_3_code 1 (some .int) :: ws) ({ frames := 0, cells := 0, slots := 0, locals := 0 } : Room)) (fun a U => a = #[(.ref a1)] ∧ Z.Warmed39 U.vm ∧ U.heap = h0) (fun _ _ _ _ _ => True) (fun _ U o U' => ∃ v L, o = .returned v ∧ Q_rmT Z a1 w2 w4 h0 n0 v U'.heap L ∧ FrameEnd U o U' L ({ frames := 0, cells := 0, slots := 0, locals := 0 } : Room).cells ({ frames := 0, cells := 0, slots := 0, locals := 0 } : Room).slots) := by
  refine MetFree.of_bodySF (plainFor_of_name pn_java_util_ImmutableCollections_List12) hisR ?_
  intro p e s m args below meth c s₁ Bd hml0 hP hK
  obtain ⟨rfl, hZ, hh⟩ := hP
  have hx := Bd.exec
  have hby := Bd.bytes
  have hml : c.maxLocals = 1 := hml0
  have hown : s.vm.findClass "java/util/ImmutableCollections$List12" = some m.cls := findClass_of_methodNamed Bd.named
  have hnm := (name_of_methodNamed Bd.named Bd.method).1
  have X0 : Stand p l e ({ frames := 0, cells := 0, slots := 0, locals := 0 } : Room) s m #[(.ref a1)] below meth c s₁ [] 0 0 := Stand.of_body Bd
  have e0 : s₁.heap = h0 := by rw [← hh, Bd.state]; rfl
  have N0 := Fr.nil n0
  have pre0 : ∀ t, Steps p.tables e below (s₁.setTop (mkF m 0 #[.val (.ref a1)] [])) t → Steps p.tables e below (s₁.setTop (entryFrame m #[(.ref a1)] 1)) t := fun t k => castTop (ef_rmT m a1) k
  obtain ⟨T1_, X1_, e1_, st1_⟩ := getF X0 hx hZ hown (host := "") (Or.inl (hw _ (List.mem_of_getElem? (i := 34) rfl))) Via.refl e0 F1 (g := (mkF m 1 #[.val (.ref a1)] [(.ref a1)])) rfl rfl (hb hby d3_1)
  obtain ⟨T2_, X2_, e2_, st2_⟩ := getS2 X1_ hx hZ hown (Or.inr (hw _ (List.mem_of_getElem? (i := 38) rfl))) Via.refl e1_ (S1.ext O1.2) (g := (mkF m 4 #[.val (.ref a1)] [(.ref w2)])) rfl (hb hby d3_4)
  obtain ⟨fs, hr, hrun, hended, hW, hsame⟩ := X2_.leave (v := some (.int (2 : Int32))) (fun h => by first | rfl | (rw [Bd.returns] at h; cases h))
  refine ⟨_, _, pre0 _ ?_, hrun, hended, _, _, rfl, ?_, ⟨_, rfl⟩, hW, hsame.mono (by decide) (by decide)⟩
  · show Steps p.tables e below (s₁.setTop (mkF m 0 #[.val (.ref a1)] [])) _
    refine XS.aloadN X0.here hx rfl (hb hby d3_0) rfl rfl ?_
    show Steps p.tables e below (s₁.setTop (mkF m 1 #[.val (.ref a1)] [(.ref a1)])) _
    refine st1_ _ ?_
    show Steps p.tables e below (T1_.setTop (mkF m 4 #[.val (.ref a1)] [(.ref w2)])) _
    refine st2_ _ ?_
    show Steps p.tables e below (T2_.setTop (mkF m 7 #[.val (.ref a1)] [(.ref w4), (.ref w2)])) _
    refine Jvm.RoadKit.acmp (g := (mkF m 7 #[.val (.ref a1)] [(.ref w4), (.ref w2)])) X2_ hx rfl rfl rfl (pc0 := 7) (pc' := 10) (same := false) rfl (hb hby d3_7) rfl (decide_eq_false fun q => ne1 (Value.ref.inj q)) (by decide) (by decide) ?_
    show Steps p.tables e below (T2_.setTop (mkF m 10 #[.val (.ref a1)] [])) _
    refine XS.iconst X2_.here hx rfl (hb hby d3_10) ?_
    show Steps p.tables e below (T2_.setTop (mkF m 11 #[.val (.ref a1)] [(.int (2 : Int32))])) _
    refine XS.goto X2_.here hx rfl (pc0 := 11) (pc' := 15) rfl (hb hby d3_11) (by decide) (by decide) ?_
    show Steps p.tables e below (T2_.setTop (mkF m 15 #[.val (.ref a1)] [(.int (2 : Int32))])) _
    exact retI X2_ hx Bd.returns (hb hby d3_15) hr
  · show Q_rmT Z a1 w2 w4 h0 n0 _ T2_.heap _
    rw [e2_]
    exact ⟨rfl, N0, rfl⟩
theorem d1_0 : decode prog_34_method_5_code 0 = .ok (.aload_n 0, 1) := by decide +kernel
theorem d1_1 : decode prog_34_method_5_code 1 = .ok (.getfield 36, 3) := by decide +kernel
theorem d1_4 : decode prog_34_method_5_code 4 = .ok (.invokeinterface 43 1, 5) := by decide +kernel
theorem pd_qzI : parseMethodDescriptor "()I" = some ⟨[], some .int⟩ := by decide +kernel
theorem d1_9 : decode prog_34_method_5_code 9 = .ok (.aload_n 0, 1) := by decide +kernel
theorem d1_10 : decode prog_34_method_5_code 10 = .ok (.getfield 40, 3) := by decide +kernel
theorem d1_13 : decode prog_34_method_5_code 13 = .ok (.invokeinterface 43 1, 5) := by decide +kernel
theorem d1_18 : decode prog_34_method_5_code 18 = .ok (.iadd, 1) := by decide +kernel
theorem d1_19 : decode prog_34_method_5_code 19 = .ok (.ireturn, 1) := by decide +kernel
theorem pn_com_example_nieuwmarkt_nieuwmarkt_signals_SignalGroup : plainName "com/example/nieuwmarkt/nieuwmarkt/signals/SignalGroup" = true := by first | (simp [plainName, overriddenIn]; done) | decide +kernel
theorem ef_rmSN (m : MethodId) (x0 : Addr) : entryFrame m #[(.ref x0)] 1 = mkF m 0 #[.val (.ref x0)] [] := by first | (simp [entryFrame, mkF, argsToLocals, Value.category]; done) | rfl
def Q_rmSN (Z : State) (a1 : Addr) (p1 : Addr) (e1 : Addr) (z1 : Int32) (p2 : Addr) (e2 : Addr) (z2 : Int32) (h0 : Heap) (n0 : Nat) (v : Option Value) (h : Heap) (L : List Loc) : Prop := v = some (.int (z1 + z2)) ∧ Fr n0 L ∧ h = h0
set_option maxRecDepth 65536 in
set_option maxHeartbeats 40000000 in
theorem rmSN (l : Launch) (Z : State) (a0 : Array Value) (hw : ∀ d ∈ tables_1, d.before a0 Z = true) (ws : List Jvm.Cond) (a1 : Addr) (p1 : Addr) (e1 : Addr) (z1 : Int32) (p2 : Addr) (e2 : Addr) (z2 : Int32) (h0 : Heap) (n0 : Nat) (Z0 : n0 ≤ h0.size) (F1 : Fld Z h0 a1 "com/example/nieuwmarkt/nieuwmarkt/signals/SignalGroup" "postSignals" "Ljava/util/List;" (.ref p1)) (E1 : Exa Z h0 p1 "java/util/ImmutableCollections$ListN") (F2 : Fld Z h0 p1 "java/util/ImmutableCollections$ListN" "elements" "[Ljava/lang/Object;" (.ref e1)) (V1 : own_Len Z h0 e1 (.object "java/lang/Object") z1) (F3 : Fld Z h0 a1 "com/example/nieuwmarkt/nieuwmarkt/signals/SignalGroup" "blogSignals" "Ljava/util/List;" (.ref p2)) (E2 : Exa Z h0 p2 "java/util/ImmutableCollections$ListN") (F4 : Fld Z h0 p2 "java/util/ImmutableCollections$ListN" "elements" "[Ljava/lang/Object;" (.ref e2)) (V2 : own_Len Z h0 e2 (.object "java/lang/Object") z2) :
    MetFree l (⟨"com/example/nieuwmarkt/nieuwmarkt/signals/SignalGroup", "size", "()I"⟩ : MethodName) (head1 (Jvm.Cond.code (⟨"com/example/nieuwmarkt/nieuwmarkt/signals/SignalGroup", "size", "()I"⟩ : MethodName) prog_34_method_5_code 1 (some .int) :: ws) ({ frames := 1, cells := 0, slots := 0, locals := 13 } : Room)) (fun a U => a = #[(.ref a1)] ∧ Z.Warmed39 U.vm ∧ U.heap = h0) (fun _ _ _ _ _ => True) (fun _ U o U' => ∃ v L, o = .returned v ∧ Q_rmSN Z a1 p1 e1 z1 p2 e2 z2 h0 n0 v U'.heap L ∧ FrameEnd U o U' L ({ frames := 1, cells := 0, slots := 0, locals := 13 } : Room).cells ({ frames := 1, cells := 0, slots := 0, locals := 13 } : Room).slots) := by
  refine MetFree.of_bodySF (plainFor_of_name pn_com_example_nieuwmarkt_nieuwmarkt_signals_SignalGroup) hisR ?_
  intro p e s m args below meth c s₁ Bd hml0 hP hK
  obtain ⟨rfl, hZ, hh⟩ := hP
  have hx := Bd.exec
  have hby := Bd.bytes
  have hml : c.maxLocals = 1 := hml0
  have hown : s.vm.findClass "com/example/nieuwmarkt/nieuwmarkt/signals/SignalGroup" = some m.cls := findClass_of_methodNamed Bd.named
  have hnm := (name_of_methodNamed Bd.named Bd.method).1
  have X0 : Stand p l e ({ frames := 1, cells := 0, slots := 0, locals := 13 } : Room) s m #[(.ref a1)] below meth c s₁ [] 0 0 := Stand.of_body Bd
  have e0 : s₁.heap = h0 := by rw [← hh, Bd.state]; rfl
  have N0 := Fr.nil n0
  have pre0 : ∀ t, Steps p.tables e below (s₁.setTop (mkF m 0 #[.val (.ref a1)] [])) t → Steps p.tables e below (s₁.setTop (entryFrame m #[(.ref a1)] 1)) t := fun t k => castTop (ef_rmSN m a1) k
  obtain ⟨T1_, X1_, e1_, st1_⟩ := getF X0 hx hZ hown (host := "") (Or.inl (hw _ (List.mem_of_getElem? (i := 9) rfl))) Via.refl e0 F1 (g := (mkF m 1 #[.val (.ref a1)] [(.ref a1)])) rfl rfl (hb hby d1_1)
  obtain ⟨cq3_, kq3_, qa3_, qb3_, qc3_⟩ := isOf hZ e1_ E1
  obtain ⟨_, _, ⟨T2_, L2_, k2_, n2_⟩, -, X2_, ⟨Lc2_, hQ2_, l2_, y2_, z2_⟩, st2_⟩ := X1_.interfaceBack hx (xi := (⟨"java/util/List", "size", "()I"⟩ : MethodName)) (y := (⟨"java/util/ImmutableCollections$ListN", "size", "()I"⟩ : MethodName)) hown (mvT hZ (hw _ (List.mem_of_getElem? (i := 11) rfl))) (mvT hZ (hw _ (List.mem_of_getElem? (i := 12) rfl))) (mvT hZ (hw _ (List.mem_of_getElem? (i := 13) rfl))) (mvT hZ (hw _ (List.mem_of_getElem? (i := 14) rfl))) (mvT hZ (hw _ (List.mem_of_getElem? (i := 15) rfl))) (mvT hZ (hw _ (List.mem_of_getElem? (i := 16) rfl))) (mvT hZ (hw _ (List.mem_of_getElem? (i := 17) rfl))) (mvT hZ (hw _ (List.mem_of_getElem? (i := 18) rfl))) (by decide) (backOf (W := 0) (rmN l Z a0 hw [] p1 e1 z1 h0 n0 Z0 F2 V1) hZ (hw _ (List.mem_of_getElem? (i := 20) rfl)) (hw _ (List.mem_of_getElem? (i := 19) rfl)) (by decide) (by decide)) qa3_ qb3_ qc3_ (g := (mkF m 4 #[.val (.ref a1)] [(.ref p1)])) rfl (by rw [hml]; rfl) (Steps.refl _) (argsL := []) (rest := []) (lenOf pd_qzI rfl) rfl (by show 2 * 0 + _ ≤ _; exact Nat.le_of_eq rfl) (hb hby d1_4) (fun _ _ => ⟨rfl, e1_, (by decide : 0 + 0 ≤ _), (by decide : 0 + 0 ≤ _)⟩)
  dsimp only [Pt.U, Pt.locs, Pt.cells, Pt.slots] at X2_ l2_ y2_ z2_ st2_ hQ2_
  subst l2_ y2_ z2_
  obtain ⟨rfl, Nq2_, ek2_⟩ := hQ2_
  have N2_ := Fr.app N0 Nq2_
  obtain ⟨T4_, X4_, e4_, st4_⟩ := getF X2_ hx hZ hown (host := "") (Or.inl (hw _ (List.mem_of_getElem? (i := 23) rfl))) Via.refl ek2_ F3 (g := (mkF m 10 #[.val (.ref a1)] [(.ref a1), (.int z1)])) rfl rfl (hb hby d1_10)
  obtain ⟨cq6_, kq6_, qa6_, qb6_, qc6_⟩ := isOf hZ e4_ E2
  obtain ⟨_, _, ⟨T5_, L5_, k5_, n5_⟩, -, X5_, ⟨Lc5_, hQ5_, l5_, y5_, z5_⟩, st5_⟩ := X4_.interfaceBack hx (xi := (⟨"java/util/List", "size", "()I"⟩ : MethodName)) (y := (⟨"java/util/ImmutableCollections$ListN", "size", "()I"⟩ : MethodName)) hown (mvT hZ (hw _ (List.mem_of_getElem? (i := 11) rfl))) (mvT hZ (hw _ (List.mem_of_getElem? (i := 12) rfl))) (mvT hZ (hw _ (List.mem_of_getElem? (i := 13) rfl))) (mvT hZ (hw _ (List.mem_of_getElem? (i := 14) rfl))) (mvT hZ (hw _ (List.mem_of_getElem? (i := 15) rfl))) (mvT hZ (hw _ (List.mem_of_getElem? (i := 16) rfl))) (mvT hZ (hw _ (List.mem_of_getElem? (i := 17) rfl))) (mvT hZ (hw _ (List.mem_of_getElem? (i := 18) rfl))) (by decide) (backOf (W := 1) (rmN l Z a0 hw [] p2 e2 z2 h0 n0 Z0 F4 V2) hZ (hw _ (List.mem_of_getElem? (i := 20) rfl)) (hw _ (List.mem_of_getElem? (i := 19) rfl)) (by decide) (by decide)) qa6_ qb6_ qc6_ (g := (mkF m 13 #[.val (.ref a1)] [(.ref p2), (.int z1)])) rfl (by rw [hml]; rfl) (Steps.refl _) (argsL := []) (rest := [(.int z1)]) (lenOf pd_qzI rfl) rfl (by show 2 * 0 + _ ≤ _; exact Nat.le_of_eq rfl) (hb hby d1_13) (fun _ _ => ⟨rfl, e4_, (by decide : 0 + 0 ≤ _), (by decide : 0 + 0 ≤ _)⟩)
  dsimp only [Pt.U, Pt.locs, Pt.cells, Pt.slots] at X5_ l5_ y5_ z5_ st5_ hQ5_
  subst l5_ y5_ z5_
  obtain ⟨rfl, Nq5_, ek5_⟩ := hQ5_
  have N5_ := Fr.app N2_ Nq5_
  obtain ⟨fs, hr, hrun, hended, hW, hsame⟩ := X5_.leave (v := some (.int (z1 + z2))) (fun h => by first | rfl | (rw [Bd.returns] at h; cases h))
  refine ⟨_, _, pre0 _ ?_, hrun, hended, _, _, rfl, ?_, ⟨_, rfl⟩, hW, hsame.mono (by decide) (by decide)⟩
  · show Steps p.tables e below (s₁.setTop (mkF m 0 #[.val (.ref a1)] [])) _
    refine XS.aloadN X0.here hx rfl (hb hby d1_0) rfl rfl ?_
    show Steps p.tables e below (s₁.setTop (mkF m 1 #[.val (.ref a1)] [(.ref a1)])) _
    refine st1_ _ ?_
    show Steps p.tables e below (T1_.setTop (mkF m 4 #[.val (.ref a1)] [(.ref p1)])) _
    refine st2_.trans ?_
    show Steps p.tables e below (T2_.setTop (mkF m 9 #[.val (.ref a1)] [(.int z1)])) _
    refine XS.aloadN X2_.here hx rfl (hb hby d1_9) rfl rfl ?_
    show Steps p.tables e below (T2_.setTop (mkF m 10 #[.val (.ref a1)] [(.ref a1), (.int z1)])) _
    refine st4_ _ ?_
    show Steps p.tables e below (T4_.setTop (mkF m 13 #[.val (.ref a1)] [(.ref p2), (.int z1)])) _
    refine st5_.trans ?_
    show Steps p.tables e below (T5_.setTop (mkF m 18 #[.val (.ref a1)] [(.int z2), (.int z1)])) _
    refine XS.iadd X5_.here hx rfl (hb hby d1_18) rfl ?_
    show Steps p.tables e below (T5_.setTop (mkF m 19 #[.val (.ref a1)] [(.int (z1 + z2))])) _
    exact retI X5_ hx Bd.returns (hb hby d1_19) hr
  · show Q_rmSN Z a1 p1 e1 z1 p2 e2 z2 h0 n0 _ T5_.heap _
    rw [ek5_]
    exact ⟨rfl, N5_, rfl⟩
theorem ef_rmST (m : MethodId) (x0 : Addr) : entryFrame m #[(.ref x0)] 1 = mkF m 0 #[.val (.ref x0)] [] := by first | (simp [entryFrame, mkF, argsToLocals, Value.category]; done) | rfl
def Q_rmST (Z : State) (a1 : Addr) (p1 : Addr) (e1 : Addr) (z1 : Int32) (p2 : Addr) (e2 : Addr) (w4 : Addr) (h0 : Heap) (n0 : Nat) (v : Option Value) (h : Heap) (L : List Loc) : Prop := v = some (.int (z1 + (2 : Int32))) ∧ Fr n0 L ∧ h = h0
set_option maxRecDepth 65536 in
set_option maxHeartbeats 40000000 in
theorem rmST (l : Launch) (Z : State) (a0 : Array Value) (hw : ∀ d ∈ tables_1, d.before a0 Z = true) (ws : List Jvm.Cond) (a1 : Addr) (p1 : Addr) (e1 : Addr) (z1 : Int32) (p2 : Addr) (e2 : Addr) (w4 : Addr) (h0 : Heap) (n0 : Nat) (Z0 : n0 ≤ h0.size) (F1 : Fld Z h0 a1 "com/example/nieuwmarkt/nieuwmarkt/signals/SignalGroup" "postSignals" "Ljava/util/List;" (.ref p1)) (E1 : Exa Z h0 p1 "java/util/ImmutableCollections$ListN") (F2 : Fld Z h0 p1 "java/util/ImmutableCollections$ListN" "elements" "[Ljava/lang/Object;" (.ref e1)) (V1 : own_Len Z h0 e1 (.object "java/lang/Object") z1) (F3 : Fld Z h0 a1 "com/example/nieuwmarkt/nieuwmarkt/signals/SignalGroup" "blogSignals" "Ljava/util/List;" (.ref p2)) (E2 : Exa Z h0 p2 "java/util/ImmutableCollections$List12") (F4 : Fld Z h0 p2 "java/util/ImmutableCollections$List12" "e1" "Ljava/lang/Object;" (.ref e2)) (S1 : Sta Z Z.heap "java/util/ImmutableCollections" "EMPTY" "Ljava/lang/Object;" (.ref w4)) (O1 : Old Z n0 h0) (ne1 : e2 ≠ w4) :
    MetFree l (⟨"com/example/nieuwmarkt/nieuwmarkt/signals/SignalGroup", "size", "()I"⟩ : MethodName) (head1 (Jvm.Cond.code (⟨"com/example/nieuwmarkt/nieuwmarkt/signals/SignalGroup", "size", "()I"⟩ : MethodName) prog_34_method_5_code 1 (some .int) :: ws) ({ frames := 1, cells := 0, slots := 0, locals := 13 } : Room)) (fun a U => a = #[(.ref a1)] ∧ Z.Warmed39 U.vm ∧ U.heap = h0) (fun _ _ _ _ _ => True) (fun _ U o U' => ∃ v L, o = .returned v ∧ Q_rmST Z a1 p1 e1 z1 p2 e2 w4 h0 n0 v U'.heap L ∧ FrameEnd U o U' L ({ frames := 1, cells := 0, slots := 0, locals := 13 } : Room).cells ({ frames := 1, cells := 0, slots := 0, locals := 13 } : Room).slots) := by
  refine MetFree.of_bodySF (plainFor_of_name pn_com_example_nieuwmarkt_nieuwmarkt_signals_SignalGroup) hisR ?_
  intro p e s m args below meth c s₁ Bd hml0 hP hK
  obtain ⟨rfl, hZ, hh⟩ := hP
  have hx := Bd.exec
  have hby := Bd.bytes
  have hml : c.maxLocals = 1 := hml0
  have hown : s.vm.findClass "com/example/nieuwmarkt/nieuwmarkt/signals/SignalGroup" = some m.cls := findClass_of_methodNamed Bd.named
  have hnm := (name_of_methodNamed Bd.named Bd.method).1
  have X0 : Stand p l e ({ frames := 1, cells := 0, slots := 0, locals := 13 } : Room) s m #[(.ref a1)] below meth c s₁ [] 0 0 := Stand.of_body Bd
  have e0 : s₁.heap = h0 := by rw [← hh, Bd.state]; rfl
  have N0 := Fr.nil n0
  have pre0 : ∀ t, Steps p.tables e below (s₁.setTop (mkF m 0 #[.val (.ref a1)] [])) t → Steps p.tables e below (s₁.setTop (entryFrame m #[(.ref a1)] 1)) t := fun t k => castTop (ef_rmST m a1) k
  obtain ⟨T1_, X1_, e1_, st1_⟩ := getF X0 hx hZ hown (host := "") (Or.inl (hw _ (List.mem_of_getElem? (i := 9) rfl))) Via.refl e0 F1 (g := (mkF m 1 #[.val (.ref a1)] [(.ref a1)])) rfl rfl (hb hby d1_1)
  obtain ⟨cq3_, kq3_, qa3_, qb3_, qc3_⟩ := isOf hZ e1_ E1
  obtain ⟨_, _, ⟨T2_, L2_, k2_, n2_⟩, -, X2_, ⟨Lc2_, hQ2_, l2_, y2_, z2_⟩, st2_⟩ := X1_.interfaceBack hx (xi := (⟨"java/util/List", "size", "()I"⟩ : MethodName)) (y := (⟨"java/util/ImmutableCollections$ListN", "size", "()I"⟩ : MethodName)) hown (mvT hZ (hw _ (List.mem_of_getElem? (i := 11) rfl))) (mvT hZ (hw _ (List.mem_of_getElem? (i := 12) rfl))) (mvT hZ (hw _ (List.mem_of_getElem? (i := 13) rfl))) (mvT hZ (hw _ (List.mem_of_getElem? (i := 14) rfl))) (mvT hZ (hw _ (List.mem_of_getElem? (i := 15) rfl))) (mvT hZ (hw _ (List.mem_of_getElem? (i := 16) rfl))) (mvT hZ (hw _ (List.mem_of_getElem? (i := 17) rfl))) (mvT hZ (hw _ (List.mem_of_getElem? (i := 18) rfl))) (by decide) (backOf (W := 0) (rmN l Z a0 hw [] p1 e1 z1 h0 n0 Z0 F2 V1) hZ (hw _ (List.mem_of_getElem? (i := 20) rfl)) (hw _ (List.mem_of_getElem? (i := 19) rfl)) (by decide) (by decide)) qa3_ qb3_ qc3_ (g := (mkF m 4 #[.val (.ref a1)] [(.ref p1)])) rfl (by rw [hml]; rfl) (Steps.refl _) (argsL := []) (rest := []) (lenOf pd_qzI rfl) rfl (by show 2 * 0 + _ ≤ _; exact Nat.le_of_eq rfl) (hb hby d1_4) (fun _ _ => ⟨rfl, e1_, (by decide : 0 + 0 ≤ _), (by decide : 0 + 0 ≤ _)⟩)
  dsimp only [Pt.U, Pt.locs, Pt.cells, Pt.slots] at X2_ l2_ y2_ z2_ st2_ hQ2_
  subst l2_ y2_ z2_
  obtain ⟨rfl, Nq2_, ek2_⟩ := hQ2_
  have N2_ := Fr.app N0 Nq2_
  obtain ⟨T4_, X4_, e4_, st4_⟩ := getF X2_ hx hZ hown (host := "") (Or.inl (hw _ (List.mem_of_getElem? (i := 23) rfl))) Via.refl ek2_ F3 (g := (mkF m 10 #[.val (.ref a1)] [(.ref a1), (.int z1)])) rfl rfl (hb hby d1_10)
  obtain ⟨cq6_, kq6_, qa6_, qb6_, qc6_⟩ := isOf hZ e4_ E2
  obtain ⟨_, _, ⟨T5_, L5_, k5_, n5_⟩, -, X5_, ⟨Lc5_, hQ5_, l5_, y5_, z5_⟩, st5_⟩ := X4_.interfaceBack hx (xi := (⟨"java/util/List", "size", "()I"⟩ : MethodName)) (y := (⟨"java/util/ImmutableCollections$List12", "size", "()I"⟩ : MethodName)) hown (mvT hZ (hw _ (List.mem_of_getElem? (i := 11) rfl))) (mvT hZ (hw _ (List.mem_of_getElem? (i := 12) rfl))) (mvT hZ (hw _ (List.mem_of_getElem? (i := 13) rfl))) (mvT hZ (hw _ (List.mem_of_getElem? (i := 27) rfl))) (mvT hZ (hw _ (List.mem_of_getElem? (i := 28) rfl))) (mvT hZ (hw _ (List.mem_of_getElem? (i := 29) rfl))) (mvT hZ (hw _ (List.mem_of_getElem? (i := 30) rfl))) (mvT hZ (hw _ (List.mem_of_getElem? (i := 31) rfl))) (by decide) (backOf (W := 1) (rmT l Z a0 hw [] p2 e2 w4 h0 n0 Z0 F4 S1 O1 ne1) hZ (hw _ (List.mem_of_getElem? (i := 33) rfl)) (hw _ (List.mem_of_getElem? (i := 32) rfl)) (by decide) (by decide)) qa6_ qb6_ qc6_ (g := (mkF m 13 #[.val (.ref a1)] [(.ref p2), (.int z1)])) rfl (by rw [hml]; rfl) (Steps.refl _) (argsL := []) (rest := [(.int z1)]) (lenOf pd_qzI rfl) rfl (by show 2 * 0 + _ ≤ _; exact Nat.le_of_eq rfl) (hb hby d1_13) (fun _ _ => ⟨rfl, e4_, (by decide : 0 + 0 ≤ _), (by decide : 0 + 0 ≤ _)⟩)
  dsimp only [Pt.U, Pt.locs, Pt.cells, Pt.slots] at X5_ l5_ y5_ z5_ st5_ hQ5_
  subst l5_ y5_ z5_
  obtain ⟨rfl, Nq5_, ek5_⟩ := hQ5_
  have N5_ := Fr.app N2_ Nq5_
  obtain ⟨fs, hr, hrun, hended, hW, hsame⟩ := X5_.leave (v := some (.int (z1 + (2 : Int32)))) (fun h => by first | rfl | (rw [Bd.returns] at h; cases h))
  refine ⟨_, _, pre0 _ ?_, hrun, hended, _, _, rfl, ?_, ⟨_, rfl⟩, hW, hsame.mono (by decide) (by decide)⟩
  · show Steps p.tables e below (s₁.setTop (mkF m 0 #[.val (.ref a1)] [])) _
    refine XS.aloadN X0.here hx rfl (hb hby d1_0) rfl rfl ?_
    show Steps p.tables e below (s₁.setTop (mkF m 1 #[.val (.ref a1)] [(.ref a1)])) _
    refine st1_ _ ?_
    show Steps p.tables e below (T1_.setTop (mkF m 4 #[.val (.ref a1)] [(.ref p1)])) _
    refine st2_.trans ?_
    show Steps p.tables e below (T2_.setTop (mkF m 9 #[.val (.ref a1)] [(.int z1)])) _
    refine XS.aloadN X2_.here hx rfl (hb hby d1_9) rfl rfl ?_
    show Steps p.tables e below (T2_.setTop (mkF m 10 #[.val (.ref a1)] [(.ref a1), (.int z1)])) _
    refine st4_ _ ?_
    show Steps p.tables e below (T4_.setTop (mkF m 13 #[.val (.ref a1)] [(.ref p2), (.int z1)])) _
    refine st5_.trans ?_
    show Steps p.tables e below (T5_.setTop (mkF m 18 #[.val (.ref a1)] [(.int (2 : Int32)), (.int z1)])) _
    refine XS.iadd X5_.here hx rfl (hb hby d1_18) rfl ?_
    show Steps p.tables e below (T5_.setTop (mkF m 19 #[.val (.ref a1)] [(.int (z1 + (2 : Int32)))])) _
    exact retI X5_ hx Bd.returns (hb hby d1_19) hr
  · show Q_rmST Z a1 p1 e1 z1 p2 e2 w4 h0 n0 _ T5_.heap _
    rw [ek5_]
    exact ⟨rfl, N5_, rfl⟩
theorem pn_com_example_nieuwmarkt_nieuwmarkt_signals_SignalGroupSizePinLaw : plainName "com/example/nieuwmarkt/nieuwmarkt/signals/SignalGroupSizePinLaw" = true := by first | (simp [plainName, overriddenIn]; done) | decide +kernel
theorem ef_rm0a (m : MethodId) (x0 : Int32) : entryFrame m #[(.int x0)] maxLocals = mkF m 0 #[.val (.int x0), .unset, .unset, .unset, .unset, .unset] [] := by first | (simp [entryFrame, mkF, argsToLocals, Value.category, maxLocals]; done) | rfl
def Q_rm0a (Z : State) (p1 : Int32) (oP : Addr) (oB : Addr) (oA : Addr) (w4 : Addr) (eR : Addr) (pP : Addr) (eP : Addr) (qP : Addr) (fP : Addr) (pA : Addr) (eA : Addr) (qA : Addr) (qB : Addr) (h0 : Heap) (n0 : Nat) (v : Option Value) (h : Heap) (L : List Loc) : Prop := v = some (.int (1 : Int32)) ∧ Fr n0 L
set_option maxRecDepth 65536 in
set_option maxHeartbeats 40000000 in
theorem rm0a (l : Launch) (Z : State) (a0 : Array Value) (hw : ∀ d ∈ tables_1, d.before a0 Z = true) (ws : List Jvm.Cond) (p1 : Int32) (oP : Addr) (oB : Addr) (oA : Addr) (w4 : Addr) (eR : Addr) (pP : Addr) (eP : Addr) (qP : Addr) (fP : Addr) (pA : Addr) (eA : Addr) (qA : Addr) (qB : Addr) (h0 : Heap) (n0 : Nat) (Z0 : n0 ≤ h0.size) (S_POST : Sta Z Z.heap "com/example/nieuwmarkt/nieuwmarkt/signals/SignalGroup" "POST" "Lcom/example/nieuwmarkt/nieuwmarkt/signals/SignalGroup;" (.ref oP)) (S_BLOG : Sta Z Z.heap "com/example/nieuwmarkt/nieuwmarkt/signals/SignalGroup" "BLOG" "Lcom/example/nieuwmarkt/nieuwmarkt/signals/SignalGroup;" (.ref oB)) (S_ALL : Sta Z Z.heap "com/example/nieuwmarkt/nieuwmarkt/signals/SignalGroup" "ALL" "Lcom/example/nieuwmarkt/nieuwmarkt/signals/SignalGroup;" (.ref oA)) (S_EMPTY : Sta Z Z.heap "java/util/ImmutableCollections" "EMPTY" "Ljava/lang/Object;" (.ref w4)) (X00 : Old Z n0 h0) (neR : eR ≠ w4) (E_P : Exa Z h0 oP "com/example/nieuwmarkt/nieuwmarkt/signals/SignalGroup") (E_B : Exa Z h0 oB "com/example/nieuwmarkt/nieuwmarkt/signals/SignalGroup") (E_A : Exa Z h0 oA "com/example/nieuwmarkt/nieuwmarkt/signals/SignalGroup") (P1 : Fld Z h0 oP "com/example/nieuwmarkt/nieuwmarkt/signals/SignalGroup" "postSignals" "Ljava/util/List;" (.ref pP)) (P2 : Exa Z h0 pP "java/util/ImmutableCollections$ListN") (P3 : Fld Z h0 pP "java/util/ImmutableCollections$ListN" "elements" "[Ljava/lang/Object;" (.ref eP)) (P4 : own_Len Z h0 eP (.object "java/lang/Object") (6 : Int32)) (P5 : Fld Z h0 oP "com/example/nieuwmarkt/nieuwmarkt/signals/SignalGroup" "blogSignals" "Ljava/util/List;" (.ref qP)) (P6 : Exa Z h0 qP "java/util/ImmutableCollections$ListN") (P7 : Fld Z h0 qP "java/util/ImmutableCollections$ListN" "elements" "[Ljava/lang/Object;" (.ref fP)) (P8 : own_Len Z h0 fP (.object "java/lang/Object") (0 : Int32)) (A1 : Fld Z h0 oA "com/example/nieuwmarkt/nieuwmarkt/signals/SignalGroup" "postSignals" "Ljava/util/List;" (.ref pA)) (A2 : Exa Z h0 pA "java/util/ImmutableCollections$ListN") (A3 : Fld Z h0 pA "java/util/ImmutableCollections$ListN" "elements" "[Ljava/lang/Object;" (.ref eA)) (A4 : own_Len Z h0 eA (.object "java/lang/Object") (6 : Int32)) (A5 : Fld Z h0 oA "com/example/nieuwmarkt/nieuwmarkt/signals/SignalGroup" "blogSignals" "Ljava/util/List;" (.ref qA)) (A6 : Exa Z h0 qA "java/util/ImmutableCollections$List12") (A7 : Fld Z h0 qA "java/util/ImmutableCollections$List12" "e1" "Ljava/lang/Object;" (.ref eR)) (B1 : Fld Z h0 oB "com/example/nieuwmarkt/nieuwmarkt/signals/SignalGroup" "postSignals" "Ljava/util/List;" (.ref qP)) (B5 : Fld Z h0 oB "com/example/nieuwmarkt/nieuwmarkt/signals/SignalGroup" "blogSignals" "Ljava/util/List;" (.ref qB)) (B6 : Exa Z h0 qB "java/util/ImmutableCollections$List12") (B7 : Fld Z h0 qB "java/util/ImmutableCollections$List12" "e1" "Ljava/lang/Object;" (.ref eR)) (hk : ((p1 &&& (2147483647 : Int32)) - (((p1 &&& (2147483647 : Int32)) / (3 : Int32)) * (3 : Int32))) = (0 : Int32)) :
    MetFree l x (head1 (Jvm.Cond.code x code maxLocals ret :: ws) room_1) (fun a U => a = #[(.int p1)] ∧ Z.Warmed39 U.vm ∧ U.heap = h0) (fun _ _ _ _ _ => True) (fun _ U o U' => ∃ v L, o = .returned v ∧ Q_rm0a Z p1 oP oB oA w4 eR pP eP qP fP pA eA qA qB h0 n0 v U'.heap L ∧ FrameEnd U o U' L room_1.cells room_1.slots) := by
  refine MetFree.of_bodySF (plainFor_of_name pn_com_example_nieuwmarkt_nieuwmarkt_signals_SignalGroupSizePinLaw) hisR ?_
  intro p e s m args below meth c s₁ Bd hml0 hP hK
  obtain ⟨rfl, hZ, hh⟩ := hP
  have hx := Bd.exec
  have hby := Bd.bytes
  have hml : c.maxLocals = 6 := hml0
  have hown : s.vm.findClass "com/example/nieuwmarkt/nieuwmarkt/signals/SignalGroupSizePinLaw" = some m.cls := findClass_of_methodNamed Bd.named
  have hnm := (name_of_methodNamed Bd.named Bd.method).1
  have X0 : Stand p l e room_1 s m #[(.int p1)] below meth c s₁ [] 0 0 := Stand.of_body Bd
  have e0 : s₁.heap = h0 := by rw [← hh, Bd.state]; rfl
  have N0 := Fr.nil n0
  have pre0 : ∀ t, Steps p.tables e below (s₁.setTop (mkF m 0 #[.val (.int p1), .unset, .unset, .unset, .unset, .unset] [])) t → Steps p.tables e below (s₁.setTop (entryFrame m #[(.int p1)] maxLocals)) t := fun t k => castTop (ef_rm0a m p1) k
  obtain ⟨T1_, X1_, e1_, st1_⟩ := getS2 X0 hx hZ hown (host := "") (Or.inl (hw _ (List.mem_of_getElem? (i := 1) rfl))) Via.refl e0 (S_POST.ext X00.2) (g := (mkF m 11 #[.val (.int p1), .val (.int ((p1 &&& (2147483647 : Int32)) - (((p1 &&& (2147483647 : Int32)) / (3 : Int32)) * (3 : Int32)))), .unset, .unset, .unset, .unset] [])) rfl (hb hby at_11)
  obtain ⟨cq3_, kq3_, qa3_, qb3_, qc3_⟩ := isOf hZ e1_ E_P
  obtain ⟨_, _, ⟨T2_, L2_, k2_, n2_⟩, -, X2_, ⟨Lc2_, hQ2_, l2_, y2_, z2_⟩, st2_⟩ := X1_.virtualBack hx (y := (⟨"com/example/nieuwmarkt/nieuwmarkt/signals/SignalGroup", "size", "()I"⟩ : MethodName)) (z := (⟨"com/example/nieuwmarkt/nieuwmarkt/signals/SignalGroup", "size", "()I"⟩ : MethodName)) hown (mvT hZ (hw _ (List.mem_of_getElem? (i := 4) rfl))) (mvT hZ (hw _ (List.mem_of_getElem? (i := 5) rfl))) (notFace_of_selects (args := #[]) (mvT hZ (hw _ (List.mem_of_getElem? (i := 7) rfl)))) (mvT hZ (hw _ (List.mem_of_getElem? (i := 7) rfl))) (mvT hZ (hw _ (List.mem_of_getElem? (i := 6) rfl))) (by decide) (backOf (W := 0) (rmSN l Z a0 hw [] oP pP eP (6 : Int32) qP fP (0 : Int32) h0 n0 Z0 P1 P2 P3 P4 P5 P6 P7 P8) hZ (hw _ (List.mem_of_getElem? (i := 8) rfl)) (hw _ (List.mem_of_getElem? (i := 2) rfl)) (by decide) (by decide)) qa3_ qc3_ (g := (mkF m 43 #[.val (.int p1), .val (.int ((p1 &&& (2147483647 : Int32)) - (((p1 &&& (2147483647 : Int32)) / (3 : Int32)) * (3 : Int32)))), .val (.ref oP), .val (.int (6 : Int32)), .unset, .unset] [(.ref oP)])) rfl (by rw [hml]; rfl) (Steps.refl _) (argsL := []) (rest := []) (lenOf pd_qzI rfl) rfl (by show 2 * 0 + _ ≤ _; exact Nat.le_of_eq rfl) (hb hby at_43) (fun _ _ => ⟨rfl, e1_, (by decide : 0 + 0 ≤ _), (by decide : 0 + 0 ≤ _)⟩)
  dsimp only [Pt.U, Pt.locs, Pt.cells, Pt.slots] at X2_ l2_ y2_ z2_ st2_ hQ2_
  subst l2_ y2_ z2_
  obtain ⟨rfl, Nq2_, ek2_⟩ := hQ2_
  have N2_ := Fr.app N0 Nq2_
  obtain ⟨T4_, X4_, e4_, st4_⟩ := getS2 X2_ hx hZ hown (host := "") (Or.inl (hw _ (List.mem_of_getElem? (i := 25) rfl))) Via.refl ek2_ (S_ALL.ext X00.2) (g := (mkF m 57 #[.val (.int p1), .val (.int ((p1 &&& (2147483647 : Int32)) - (((p1 &&& (2147483647 : Int32)) / (3 : Int32)) * (3 : Int32)))), .val (.ref oP), .val (.int (6 : Int32)), .val (.int (1 : Int32)), .unset] [])) rfl (hb hby at_57)
  obtain ⟨cq6_, kq6_, qa6_, qb6_, qc6_⟩ := isOf hZ e4_ E_A
  obtain ⟨_, _, ⟨T5_, L5_, k5_, n5_⟩, -, X5_, ⟨Lc5_, hQ5_, l5_, y5_, z5_⟩, st5_⟩ := X4_.virtualBack hx (y := (⟨"com/example/nieuwmarkt/nieuwmarkt/signals/SignalGroup", "size", "()I"⟩ : MethodName)) (z := (⟨"com/example/nieuwmarkt/nieuwmarkt/signals/SignalGroup", "size", "()I"⟩ : MethodName)) hown (mvT hZ (hw _ (List.mem_of_getElem? (i := 4) rfl))) (mvT hZ (hw _ (List.mem_of_getElem? (i := 5) rfl))) (notFace_of_selects (args := #[]) (mvT hZ (hw _ (List.mem_of_getElem? (i := 7) rfl)))) (mvT hZ (hw _ (List.mem_of_getElem? (i := 7) rfl))) (mvT hZ (hw _ (List.mem_of_getElem? (i := 6) rfl))) (by decide) (backOf (W := 0) (rmST l Z a0 hw [] oA pA eA (6 : Int32) qA eR w4 h0 n0 Z0 A1 A2 A3 A4 A5 A6 A7 S_EMPTY X00 neR) hZ (hw _ (List.mem_of_getElem? (i := 8) rfl)) (hw _ (List.mem_of_getElem? (i := 2) rfl)) (by decide) (by decide)) qa6_ qc6_ (g := (mkF m 60 #[.val (.int p1), .val (.int ((p1 &&& (2147483647 : Int32)) - (((p1 &&& (2147483647 : Int32)) / (3 : Int32)) * (3 : Int32)))), .val (.ref oP), .val (.int (6 : Int32)), .val (.int (1 : Int32)), .unset] [(.ref oA)])) rfl (by rw [hml]; rfl) (Steps.refl _) (argsL := []) (rest := []) (lenOf pd_qzI rfl) rfl (by show 2 * 0 + _ ≤ _; exact Nat.le_of_eq rfl) (hb hby at_60) (fun _ _ => ⟨rfl, e4_, (by decide : 0 + 0 ≤ _), (by decide : 0 + 0 ≤ _)⟩)
  dsimp only [Pt.U, Pt.locs, Pt.cells, Pt.slots] at X5_ l5_ y5_ z5_ st5_ hQ5_
  subst l5_ y5_ z5_
  obtain ⟨rfl, Nq5_, ek5_⟩ := hQ5_
  have N5_ := Fr.app N2_ Nq5_
  obtain ⟨T7_, X7_, e7_, st7_⟩ := getS2 X5_ hx hZ hown (host := "") (Or.inl (hw _ (List.mem_of_getElem? (i := 1) rfl))) Via.refl ek5_ (S_POST.ext X00.2) (g := (mkF m 63 #[.val (.int p1), .val (.int ((p1 &&& (2147483647 : Int32)) - (((p1 &&& (2147483647 : Int32)) / (3 : Int32)) * (3 : Int32)))), .val (.ref oP), .val (.int (6 : Int32)), .val (.int (1 : Int32)), .unset] [(.int ((6 : Int32) + (2 : Int32)))])) rfl (hb hby at_63)
  obtain ⟨cq9_, kq9_, qa9_, qb9_, qc9_⟩ := isOf hZ e7_ E_P
  obtain ⟨_, _, ⟨T8_, L8_, k8_, n8_⟩, -, X8_, ⟨Lc8_, hQ8_, l8_, y8_, z8_⟩, st8_⟩ := X7_.virtualBack hx (y := (⟨"com/example/nieuwmarkt/nieuwmarkt/signals/SignalGroup", "size", "()I"⟩ : MethodName)) (z := (⟨"com/example/nieuwmarkt/nieuwmarkt/signals/SignalGroup", "size", "()I"⟩ : MethodName)) hown (mvT hZ (hw _ (List.mem_of_getElem? (i := 4) rfl))) (mvT hZ (hw _ (List.mem_of_getElem? (i := 5) rfl))) (notFace_of_selects (args := #[]) (mvT hZ (hw _ (List.mem_of_getElem? (i := 7) rfl)))) (mvT hZ (hw _ (List.mem_of_getElem? (i := 7) rfl))) (mvT hZ (hw _ (List.mem_of_getElem? (i := 6) rfl))) (by decide) (backOf (W := 1) (rmSN l Z a0 hw [] oP pP eP (6 : Int32) qP fP (0 : Int32) h0 n0 Z0 P1 P2 P3 P4 P5 P6 P7 P8) hZ (hw _ (List.mem_of_getElem? (i := 8) rfl)) (hw _ (List.mem_of_getElem? (i := 2) rfl)) (by decide) (by decide)) qa9_ qc9_ (g := (mkF m 66 #[.val (.int p1), .val (.int ((p1 &&& (2147483647 : Int32)) - (((p1 &&& (2147483647 : Int32)) / (3 : Int32)) * (3 : Int32)))), .val (.ref oP), .val (.int (6 : Int32)), .val (.int (1 : Int32)), .unset] [(.ref oP), (.int ((6 : Int32) + (2 : Int32)))])) rfl (by rw [hml]; rfl) (Steps.refl _) (argsL := []) (rest := [(.int ((6 : Int32) + (2 : Int32)))]) (lenOf pd_qzI rfl) rfl (by show 2 * 0 + _ ≤ _; exact Nat.le_of_eq rfl) (hb hby at_66) (fun _ _ => ⟨rfl, e7_, (by decide : 0 + 0 ≤ _), (by decide : 0 + 0 ≤ _)⟩)
  dsimp only [Pt.U, Pt.locs, Pt.cells, Pt.slots] at X8_ l8_ y8_ z8_ st8_ hQ8_
  subst l8_ y8_ z8_
  obtain ⟨rfl, Nq8_, ek8_⟩ := hQ8_
  have N8_ := Fr.app N5_ Nq8_
  obtain ⟨T10_, X10_, e10_, st10_⟩ := getS2 X8_ hx hZ hown (host := "") (Or.inl (hw _ (List.mem_of_getElem? (i := 40) rfl))) Via.refl ek8_ (S_BLOG.ext X00.2) (g := (mkF m 69 #[.val (.int p1), .val (.int ((p1 &&& (2147483647 : Int32)) - (((p1 &&& (2147483647 : Int32)) / (3 : Int32)) * (3 : Int32)))), .val (.ref oP), .val (.int (6 : Int32)), .val (.int (1 : Int32)), .unset] [(.int ((6 : Int32) + (0 : Int32))), (.int ((6 : Int32) + (2 : Int32)))])) rfl (hb hby at_69)
  obtain ⟨cq12_, kq12_, qa12_, qb12_, qc12_⟩ := isOf hZ e10_ E_B
  obtain ⟨_, _, ⟨T11_, L11_, k11_, n11_⟩, -, X11_, ⟨Lc11_, hQ11_, l11_, y11_, z11_⟩, st11_⟩ := X10_.virtualBack hx (y := (⟨"com/example/nieuwmarkt/nieuwmarkt/signals/SignalGroup", "size", "()I"⟩ : MethodName)) (z := (⟨"com/example/nieuwmarkt/nieuwmarkt/signals/SignalGroup", "size", "()I"⟩ : MethodName)) hown (mvT hZ (hw _ (List.mem_of_getElem? (i := 4) rfl))) (mvT hZ (hw _ (List.mem_of_getElem? (i := 5) rfl))) (notFace_of_selects (args := #[]) (mvT hZ (hw _ (List.mem_of_getElem? (i := 7) rfl)))) (mvT hZ (hw _ (List.mem_of_getElem? (i := 7) rfl))) (mvT hZ (hw _ (List.mem_of_getElem? (i := 6) rfl))) (by decide) (backOf (W := 2) (rmST l Z a0 hw [] oB qP fP (0 : Int32) qB eR w4 h0 n0 Z0 B1 P6 P7 P8 B5 B6 B7 S_EMPTY X00 neR) hZ (hw _ (List.mem_of_getElem? (i := 8) rfl)) (hw _ (List.mem_of_getElem? (i := 2) rfl)) (by decide) (by decide)) qa12_ qc12_ (g := (mkF m 72 #[.val (.int p1), .val (.int ((p1 &&& (2147483647 : Int32)) - (((p1 &&& (2147483647 : Int32)) / (3 : Int32)) * (3 : Int32)))), .val (.ref oP), .val (.int (6 : Int32)), .val (.int (1 : Int32)), .unset] [(.ref oB), (.int ((6 : Int32) + (0 : Int32))), (.int ((6 : Int32) + (2 : Int32)))])) rfl (by rw [hml]; rfl) (Steps.refl _) (argsL := []) (rest := [(.int ((6 : Int32) + (0 : Int32))), (.int ((6 : Int32) + (2 : Int32)))]) (lenOf pd_qzI rfl) rfl (by show 2 * 0 + _ ≤ _; exact Nat.le_of_eq rfl) (hb hby at_72) (fun _ _ => ⟨rfl, e10_, (by decide : 0 + 0 ≤ _), (by decide : 0 + 0 ≤ _)⟩)
  dsimp only [Pt.U, Pt.locs, Pt.cells, Pt.slots] at X11_ l11_ y11_ z11_ st11_ hQ11_
  subst l11_ y11_ z11_
  obtain ⟨rfl, Nq11_, ek11_⟩ := hQ11_
  have N11_ := Fr.app N8_ Nq11_
  obtain ⟨fs, hr, hrun, hended, hW, hsame⟩ := X11_.leave (v := some (.int (1 : Int32))) (fun h => by first | rfl | (rw [Bd.returns] at h; cases h))
  refine ⟨_, _, pre0 _ ?_, hrun, hended, _, _, rfl, ?_, ⟨_, rfl⟩, hW, hsame.mono (by decide) (by decide)⟩
  · show Steps p.tables e below (s₁.setTop (mkF m 0 #[.val (.int p1), .unset, .unset, .unset, .unset, .unset] [])) _
    refine XS.iloadN X0.here hx rfl (hb hby at_0) rfl ?_
    show Steps p.tables e below (s₁.setTop (mkF m 1 #[.val (.int p1), .unset, .unset, .unset, .unset, .unset] [(.int p1)])) _
    refine X0.ldcInt hx hown (mvT hZ (hw _ (List.mem_of_getElem? (i := 0) rfl))) (g := (mkF m 1 #[.val (.int p1), .unset, .unset, .unset, .unset, .unset] [(.int p1)])) rfl (hb hby at_1) _ ?_
    show Steps p.tables e below (s₁.setTop (mkF m 3 #[.val (.int p1), .unset, .unset, .unset, .unset, .unset] [(.int (2147483647 : Int32)), (.int p1)])) _
    refine XS.iand X0.here hx rfl (hb hby at_3) rfl ?_
    show Steps p.tables e below (s₁.setTop (mkF m 4 #[.val (.int p1), .unset, .unset, .unset, .unset, .unset] [(.int (p1 &&& (2147483647 : Int32)))])) _
    refine XS.iconst X0.here hx rfl (hb hby at_4) ?_
    show Steps p.tables e below (s₁.setTop (mkF m 5 #[.val (.int p1), .unset, .unset, .unset, .unset, .unset] [(.int (3 : Int32)), (.int (p1 &&& (2147483647 : Int32)))])) _
    refine XS.irem X0.here hx rfl (hb hby at_5) rfl (by decide) ?_
    show Steps p.tables e below (s₁.setTop (mkF m 6 #[.val (.int p1), .unset, .unset, .unset, .unset, .unset] [(.int ((p1 &&& (2147483647 : Int32)) - (((p1 &&& (2147483647 : Int32)) / (3 : Int32)) * (3 : Int32))))])) _
    refine XS.istoreN X0.here hx rfl (hb hby at_6) rfl (l' := #[.val (.int p1), .val (.int ((p1 &&& (2147483647 : Int32)) - (((p1 &&& (2147483647 : Int32)) / (3 : Int32)) * (3 : Int32)))), .unset, .unset, .unset, .unset]) rfl ?_
    show Steps p.tables e below (s₁.setTop (mkF m 7 #[.val (.int p1), .val (.int ((p1 &&& (2147483647 : Int32)) - (((p1 &&& (2147483647 : Int32)) / (3 : Int32)) * (3 : Int32)))), .unset, .unset, .unset, .unset] [])) _
    refine XS.iloadN X0.here hx rfl (hb hby at_7) rfl ?_
    show Steps p.tables e below (s₁.setTop (mkF m 8 #[.val (.int p1), .val (.int ((p1 &&& (2147483647 : Int32)) - (((p1 &&& (2147483647 : Int32)) / (3 : Int32)) * (3 : Int32)))), .unset, .unset, .unset, .unset] [(.int ((p1 &&& (2147483647 : Int32)) - (((p1 &&& (2147483647 : Int32)) / (3 : Int32)) * (3 : Int32))))])) _
    refine XS.ifNo X0.here hx rfl (hb hby at_8) rfl ((if0 _ _).trans (teq (hk : ((p1 &&& (2147483647 : Int32)) - (((p1 &&& (2147483647 : Int32)) / (3 : Int32)) * (3 : Int32))) = (0 : Int32))).2) ?_
    show Steps p.tables e below (s₁.setTop (mkF m 11 #[.val (.int p1), .val (.int ((p1 &&& (2147483647 : Int32)) - (((p1 &&& (2147483647 : Int32)) / (3 : Int32)) * (3 : Int32)))), .unset, .unset, .unset, .unset] [])) _
    refine st1_ _ ?_
    show Steps p.tables e below (T1_.setTop (mkF m 14 #[.val (.int p1), .val (.int ((p1 &&& (2147483647 : Int32)) - (((p1 &&& (2147483647 : Int32)) / (3 : Int32)) * (3 : Int32)))), .unset, .unset, .unset, .unset] [(.ref oP)])) _
    refine XS.astoreN X1_.here hx rfl (hb hby at_14) rfl rfl (l' := #[.val (.int p1), .val (.int ((p1 &&& (2147483647 : Int32)) - (((p1 &&& (2147483647 : Int32)) / (3 : Int32)) * (3 : Int32)))), .val (.ref oP), .unset, .unset, .unset]) rfl ?_
    show Steps p.tables e below (T1_.setTop (mkF m 15 #[.val (.int p1), .val (.int ((p1 &&& (2147483647 : Int32)) - (((p1 &&& (2147483647 : Int32)) / (3 : Int32)) * (3 : Int32)))), .val (.ref oP), .unset, .unset, .unset] [])) _
    refine XS.bipush X1_.here hx rfl (hb hby at_15) ?_
    show Steps p.tables e below (T1_.setTop (mkF m 17 #[.val (.int p1), .val (.int ((p1 &&& (2147483647 : Int32)) - (((p1 &&& (2147483647 : Int32)) / (3 : Int32)) * (3 : Int32)))), .val (.ref oP), .unset, .unset, .unset] [(.int (6 : Int32))])) _
    refine XS.istoreN X1_.here hx rfl (hb hby at_17) rfl (l' := #[.val (.int p1), .val (.int ((p1 &&& (2147483647 : Int32)) - (((p1 &&& (2147483647 : Int32)) / (3 : Int32)) * (3 : Int32)))), .val (.ref oP), .val (.int (6 : Int32)), .unset, .unset]) rfl ?_
    show Steps p.tables e below (T1_.setTop (mkF m 18 #[.val (.int p1), .val (.int ((p1 &&& (2147483647 : Int32)) - (((p1 &&& (2147483647 : Int32)) / (3 : Int32)) * (3 : Int32)))), .val (.ref oP), .val (.int (6 : Int32)), .unset, .unset] [])) _
    refine XS.goto X1_.here hx rfl (pc0 := 18) (pc' := 42) rfl (hb hby at_18) (by decide) (by decide) ?_
    show Steps p.tables e below (T1_.setTop (mkF m 42 #[.val (.int p1), .val (.int ((p1 &&& (2147483647 : Int32)) - (((p1 &&& (2147483647 : Int32)) / (3 : Int32)) * (3 : Int32)))), .val (.ref oP), .val (.int (6 : Int32)), .unset, .unset] [])) _
    refine XS.aloadN X1_.here hx rfl (hb hby at_42) rfl rfl ?_
    show Steps p.tables e below (T1_.setTop (mkF m 43 #[.val (.int p1), .val (.int ((p1 &&& (2147483647 : Int32)) - (((p1 &&& (2147483647 : Int32)) / (3 : Int32)) * (3 : Int32)))), .val (.ref oP), .val (.int (6 : Int32)), .unset, .unset] [(.ref oP)])) _
    refine st2_.trans ?_
    show Steps p.tables e below (T2_.setTop (mkF m 46 #[.val (.int p1), .val (.int ((p1 &&& (2147483647 : Int32)) - (((p1 &&& (2147483647 : Int32)) / (3 : Int32)) * (3 : Int32)))), .val (.ref oP), .val (.int (6 : Int32)), .unset, .unset] [(.int ((6 : Int32) + (0 : Int32)))])) _
    refine XS.iloadN X2_.here hx rfl (hb hby at_46) rfl ?_
    show Steps p.tables e below (T2_.setTop (mkF m 47 #[.val (.int p1), .val (.int ((p1 &&& (2147483647 : Int32)) - (((p1 &&& (2147483647 : Int32)) / (3 : Int32)) * (3 : Int32)))), .val (.ref oP), .val (.int (6 : Int32)), .unset, .unset] [(.int (6 : Int32)), (.int ((6 : Int32) + (0 : Int32)))])) _
    refine XS.icmpNo X2_.here hx rfl (hb hby at_47) rfl (teq ((by decide) : ((6 : Int32) + (0 : Int32)) = (6 : Int32))).2 ?_
    show Steps p.tables e below (T2_.setTop (mkF m 50 #[.val (.int p1), .val (.int ((p1 &&& (2147483647 : Int32)) - (((p1 &&& (2147483647 : Int32)) / (3 : Int32)) * (3 : Int32)))), .val (.ref oP), .val (.int (6 : Int32)), .unset, .unset] [])) _
    refine XS.iconst X2_.here hx rfl (hb hby at_50) ?_
    show Steps p.tables e below (T2_.setTop (mkF m 51 #[.val (.int p1), .val (.int ((p1 &&& (2147483647 : Int32)) - (((p1 &&& (2147483647 : Int32)) / (3 : Int32)) * (3 : Int32)))), .val (.ref oP), .val (.int (6 : Int32)), .unset, .unset] [(.int (1 : Int32))])) _
    refine XS.goto X2_.here hx rfl (pc0 := 51) (pc' := 55) rfl (hb hby at_51) (by decide) (by decide) ?_
    show Steps p.tables e below (T2_.setTop (mkF m 55 #[.val (.int p1), .val (.int ((p1 &&& (2147483647 : Int32)) - (((p1 &&& (2147483647 : Int32)) / (3 : Int32)) * (3 : Int32)))), .val (.ref oP), .val (.int (6 : Int32)), .unset, .unset] [(.int (1 : Int32))])) _
    refine XS.istore X2_.here hx rfl (hb hby at_55) rfl (l' := #[.val (.int p1), .val (.int ((p1 &&& (2147483647 : Int32)) - (((p1 &&& (2147483647 : Int32)) / (3 : Int32)) * (3 : Int32)))), .val (.ref oP), .val (.int (6 : Int32)), .val (.int (1 : Int32)), .unset]) rfl ?_
    show Steps p.tables e below (T2_.setTop (mkF m 57 #[.val (.int p1), .val (.int ((p1 &&& (2147483647 : Int32)) - (((p1 &&& (2147483647 : Int32)) / (3 : Int32)) * (3 : Int32)))), .val (.ref oP), .val (.int (6 : Int32)), .val (.int (1 : Int32)), .unset] [])) _
    refine st4_ _ ?_
    show Steps p.tables e below (T4_.setTop (mkF m 60 #[.val (.int p1), .val (.int ((p1 &&& (2147483647 : Int32)) - (((p1 &&& (2147483647 : Int32)) / (3 : Int32)) * (3 : Int32)))), .val (.ref oP), .val (.int (6 : Int32)), .val (.int (1 : Int32)), .unset] [(.ref oA)])) _
    refine st5_.trans ?_
    show Steps p.tables e below (T5_.setTop (mkF m 63 #[.val (.int p1), .val (.int ((p1 &&& (2147483647 : Int32)) - (((p1 &&& (2147483647 : Int32)) / (3 : Int32)) * (3 : Int32)))), .val (.ref oP), .val (.int (6 : Int32)), .val (.int (1 : Int32)), .unset] [(.int ((6 : Int32) + (2 : Int32)))])) _
    refine st7_ _ ?_
    show Steps p.tables e below (T7_.setTop (mkF m 66 #[.val (.int p1), .val (.int ((p1 &&& (2147483647 : Int32)) - (((p1 &&& (2147483647 : Int32)) / (3 : Int32)) * (3 : Int32)))), .val (.ref oP), .val (.int (6 : Int32)), .val (.int (1 : Int32)), .unset] [(.ref oP), (.int ((6 : Int32) + (2 : Int32)))])) _
    refine st8_.trans ?_
    show Steps p.tables e below (T8_.setTop (mkF m 69 #[.val (.int p1), .val (.int ((p1 &&& (2147483647 : Int32)) - (((p1 &&& (2147483647 : Int32)) / (3 : Int32)) * (3 : Int32)))), .val (.ref oP), .val (.int (6 : Int32)), .val (.int (1 : Int32)), .unset] [(.int ((6 : Int32) + (0 : Int32))), (.int ((6 : Int32) + (2 : Int32)))])) _
    refine st10_ _ ?_
    show Steps p.tables e below (T10_.setTop (mkF m 72 #[.val (.int p1), .val (.int ((p1 &&& (2147483647 : Int32)) - (((p1 &&& (2147483647 : Int32)) / (3 : Int32)) * (3 : Int32)))), .val (.ref oP), .val (.int (6 : Int32)), .val (.int (1 : Int32)), .unset] [(.ref oB), (.int ((6 : Int32) + (0 : Int32))), (.int ((6 : Int32) + (2 : Int32)))])) _
    refine st11_.trans ?_
    show Steps p.tables e below (T11_.setTop (mkF m 75 #[.val (.int p1), .val (.int ((p1 &&& (2147483647 : Int32)) - (((p1 &&& (2147483647 : Int32)) / (3 : Int32)) * (3 : Int32)))), .val (.ref oP), .val (.int (6 : Int32)), .val (.int (1 : Int32)), .unset] [(.int ((0 : Int32) + (2 : Int32))), (.int ((6 : Int32) + (0 : Int32))), (.int ((6 : Int32) + (2 : Int32)))])) _
    refine XS.iadd X11_.here hx rfl (hb hby at_75) rfl ?_
    show Steps p.tables e below (T11_.setTop (mkF m 76 #[.val (.int p1), .val (.int ((p1 &&& (2147483647 : Int32)) - (((p1 &&& (2147483647 : Int32)) / (3 : Int32)) * (3 : Int32)))), .val (.ref oP), .val (.int (6 : Int32)), .val (.int (1 : Int32)), .unset] [(.int (((6 : Int32) + (0 : Int32)) + ((0 : Int32) + (2 : Int32)))), (.int ((6 : Int32) + (2 : Int32)))])) _
    refine XS.icmpNo X11_.here hx rfl (hb hby at_76) rfl (teq ((by decide) : ((6 : Int32) + (2 : Int32)) = (((6 : Int32) + (0 : Int32)) + ((0 : Int32) + (2 : Int32))))).2 ?_
    show Steps p.tables e below (T11_.setTop (mkF m 79 #[.val (.int p1), .val (.int ((p1 &&& (2147483647 : Int32)) - (((p1 &&& (2147483647 : Int32)) / (3 : Int32)) * (3 : Int32)))), .val (.ref oP), .val (.int (6 : Int32)), .val (.int (1 : Int32)), .unset] [])) _
    refine XS.iconst X11_.here hx rfl (hb hby at_79) ?_
    show Steps p.tables e below (T11_.setTop (mkF m 80 #[.val (.int p1), .val (.int ((p1 &&& (2147483647 : Int32)) - (((p1 &&& (2147483647 : Int32)) / (3 : Int32)) * (3 : Int32)))), .val (.ref oP), .val (.int (6 : Int32)), .val (.int (1 : Int32)), .unset] [(.int (1 : Int32))])) _
    refine XS.goto X11_.here hx rfl (pc0 := 80) (pc' := 84) rfl (hb hby at_80) (by decide) (by decide) ?_
    show Steps p.tables e below (T11_.setTop (mkF m 84 #[.val (.int p1), .val (.int ((p1 &&& (2147483647 : Int32)) - (((p1 &&& (2147483647 : Int32)) / (3 : Int32)) * (3 : Int32)))), .val (.ref oP), .val (.int (6 : Int32)), .val (.int (1 : Int32)), .unset] [(.int (1 : Int32))])) _
    refine XS.istore X11_.here hx rfl (hb hby at_84) rfl (l' := #[.val (.int p1), .val (.int ((p1 &&& (2147483647 : Int32)) - (((p1 &&& (2147483647 : Int32)) / (3 : Int32)) * (3 : Int32)))), .val (.ref oP), .val (.int (6 : Int32)), .val (.int (1 : Int32)), .val (.int (1 : Int32))]) rfl ?_
    show Steps p.tables e below (T11_.setTop (mkF m 86 #[.val (.int p1), .val (.int ((p1 &&& (2147483647 : Int32)) - (((p1 &&& (2147483647 : Int32)) / (3 : Int32)) * (3 : Int32)))), .val (.ref oP), .val (.int (6 : Int32)), .val (.int (1 : Int32)), .val (.int (1 : Int32))] [])) _
    refine XS.iload X11_.here hx rfl (hb hby at_86) rfl ?_
    show Steps p.tables e below (T11_.setTop (mkF m 88 #[.val (.int p1), .val (.int ((p1 &&& (2147483647 : Int32)) - (((p1 &&& (2147483647 : Int32)) / (3 : Int32)) * (3 : Int32)))), .val (.ref oP), .val (.int (6 : Int32)), .val (.int (1 : Int32)), .val (.int (1 : Int32))] [(.int (1 : Int32))])) _
    refine XS.ifNo X11_.here hx rfl (hb hby at_88) rfl ((if0 _ _).trans (feq ((by decide) : ¬ ((1 : Int32) = (0 : Int32)))).1) ?_
    show Steps p.tables e below (T11_.setTop (mkF m 91 #[.val (.int p1), .val (.int ((p1 &&& (2147483647 : Int32)) - (((p1 &&& (2147483647 : Int32)) / (3 : Int32)) * (3 : Int32)))), .val (.ref oP), .val (.int (6 : Int32)), .val (.int (1 : Int32)), .val (.int (1 : Int32))] [])) _
    refine XS.iload X11_.here hx rfl (hb hby at_91) rfl ?_
    show Steps p.tables e below (T11_.setTop (mkF m 93 #[.val (.int p1), .val (.int ((p1 &&& (2147483647 : Int32)) - (((p1 &&& (2147483647 : Int32)) / (3 : Int32)) * (3 : Int32)))), .val (.ref oP), .val (.int (6 : Int32)), .val (.int (1 : Int32)), .val (.int (1 : Int32))] [(.int (1 : Int32))])) _
    refine XS.ifNo X11_.here hx rfl (hb hby at_93) rfl ((if0 _ _).trans (feq ((by decide) : ¬ ((1 : Int32) = (0 : Int32)))).1) ?_
    show Steps p.tables e below (T11_.setTop (mkF m 96 #[.val (.int p1), .val (.int ((p1 &&& (2147483647 : Int32)) - (((p1 &&& (2147483647 : Int32)) / (3 : Int32)) * (3 : Int32)))), .val (.ref oP), .val (.int (6 : Int32)), .val (.int (1 : Int32)), .val (.int (1 : Int32))] [])) _
    refine XS.iconst X11_.here hx rfl (hb hby at_96) ?_
    show Steps p.tables e below (T11_.setTop (mkF m 97 #[.val (.int p1), .val (.int ((p1 &&& (2147483647 : Int32)) - (((p1 &&& (2147483647 : Int32)) / (3 : Int32)) * (3 : Int32)))), .val (.ref oP), .val (.int (6 : Int32)), .val (.int (1 : Int32)), .val (.int (1 : Int32))] [(.int (1 : Int32))])) _
    refine XS.goto X11_.here hx rfl (pc0 := 97) (pc' := 101) rfl (hb hby at_97) (by decide) (by decide) ?_
    show Steps p.tables e below (T11_.setTop (mkF m 101 #[.val (.int p1), .val (.int ((p1 &&& (2147483647 : Int32)) - (((p1 &&& (2147483647 : Int32)) / (3 : Int32)) * (3 : Int32)))), .val (.ref oP), .val (.int (6 : Int32)), .val (.int (1 : Int32)), .val (.int (1 : Int32))] [(.int (1 : Int32))])) _
    exact retN X11_ hx (t := .boolean) Bd.returns (by simp) (hb hby at_101) hr
  · show Q_rm0a Z p1 oP oB oA w4 eR pP eP qP fP pA eA qA qB h0 n0 _ T11_.heap _
    rw [ek11_]
    exact ⟨rfl, N11_⟩
theorem ef_rm0b (m : MethodId) (x0 : Int32) : entryFrame m #[(.int x0)] maxLocals = mkF m 0 #[.val (.int x0), .unset, .unset, .unset, .unset, .unset] [] := by first | (simp [entryFrame, mkF, argsToLocals, Value.category, maxLocals]; done) | rfl
def Q_rm0b (Z : State) (p1 : Int32) (oP : Addr) (oB : Addr) (oA : Addr) (w4 : Addr) (eR : Addr) (pP : Addr) (eP : Addr) (qP : Addr) (fP : Addr) (pA : Addr) (eA : Addr) (qA : Addr) (qB : Addr) (h0 : Heap) (n0 : Nat) (v : Option Value) (h : Heap) (L : List Loc) : Prop := v = some (.int (1 : Int32)) ∧ Fr n0 L
set_option maxRecDepth 65536 in
set_option maxHeartbeats 40000000 in
theorem rm0b (l : Launch) (Z : State) (a0 : Array Value) (hw : ∀ d ∈ tables_1, d.before a0 Z = true) (ws : List Jvm.Cond) (p1 : Int32) (oP : Addr) (oB : Addr) (oA : Addr) (w4 : Addr) (eR : Addr) (pP : Addr) (eP : Addr) (qP : Addr) (fP : Addr) (pA : Addr) (eA : Addr) (qA : Addr) (qB : Addr) (h0 : Heap) (n0 : Nat) (Z0 : n0 ≤ h0.size) (S_POST : Sta Z Z.heap "com/example/nieuwmarkt/nieuwmarkt/signals/SignalGroup" "POST" "Lcom/example/nieuwmarkt/nieuwmarkt/signals/SignalGroup;" (.ref oP)) (S_BLOG : Sta Z Z.heap "com/example/nieuwmarkt/nieuwmarkt/signals/SignalGroup" "BLOG" "Lcom/example/nieuwmarkt/nieuwmarkt/signals/SignalGroup;" (.ref oB)) (S_ALL : Sta Z Z.heap "com/example/nieuwmarkt/nieuwmarkt/signals/SignalGroup" "ALL" "Lcom/example/nieuwmarkt/nieuwmarkt/signals/SignalGroup;" (.ref oA)) (S_EMPTY : Sta Z Z.heap "java/util/ImmutableCollections" "EMPTY" "Ljava/lang/Object;" (.ref w4)) (X00 : Old Z n0 h0) (neR : eR ≠ w4) (E_P : Exa Z h0 oP "com/example/nieuwmarkt/nieuwmarkt/signals/SignalGroup") (E_B : Exa Z h0 oB "com/example/nieuwmarkt/nieuwmarkt/signals/SignalGroup") (E_A : Exa Z h0 oA "com/example/nieuwmarkt/nieuwmarkt/signals/SignalGroup") (P1 : Fld Z h0 oP "com/example/nieuwmarkt/nieuwmarkt/signals/SignalGroup" "postSignals" "Ljava/util/List;" (.ref pP)) (P2 : Exa Z h0 pP "java/util/ImmutableCollections$ListN") (P3 : Fld Z h0 pP "java/util/ImmutableCollections$ListN" "elements" "[Ljava/lang/Object;" (.ref eP)) (P4 : own_Len Z h0 eP (.object "java/lang/Object") (6 : Int32)) (P5 : Fld Z h0 oP "com/example/nieuwmarkt/nieuwmarkt/signals/SignalGroup" "blogSignals" "Ljava/util/List;" (.ref qP)) (P6 : Exa Z h0 qP "java/util/ImmutableCollections$ListN") (P7 : Fld Z h0 qP "java/util/ImmutableCollections$ListN" "elements" "[Ljava/lang/Object;" (.ref fP)) (P8 : own_Len Z h0 fP (.object "java/lang/Object") (0 : Int32)) (A1 : Fld Z h0 oA "com/example/nieuwmarkt/nieuwmarkt/signals/SignalGroup" "postSignals" "Ljava/util/List;" (.ref pA)) (A2 : Exa Z h0 pA "java/util/ImmutableCollections$ListN") (A3 : Fld Z h0 pA "java/util/ImmutableCollections$ListN" "elements" "[Ljava/lang/Object;" (.ref eA)) (A4 : own_Len Z h0 eA (.object "java/lang/Object") (6 : Int32)) (A5 : Fld Z h0 oA "com/example/nieuwmarkt/nieuwmarkt/signals/SignalGroup" "blogSignals" "Ljava/util/List;" (.ref qA)) (A6 : Exa Z h0 qA "java/util/ImmutableCollections$List12") (A7 : Fld Z h0 qA "java/util/ImmutableCollections$List12" "e1" "Ljava/lang/Object;" (.ref eR)) (B1 : Fld Z h0 oB "com/example/nieuwmarkt/nieuwmarkt/signals/SignalGroup" "postSignals" "Ljava/util/List;" (.ref qP)) (B5 : Fld Z h0 oB "com/example/nieuwmarkt/nieuwmarkt/signals/SignalGroup" "blogSignals" "Ljava/util/List;" (.ref qB)) (B6 : Exa Z h0 qB "java/util/ImmutableCollections$List12") (B7 : Fld Z h0 qB "java/util/ImmutableCollections$List12" "e1" "Ljava/lang/Object;" (.ref eR)) (hk : ¬ (((p1 &&& (2147483647 : Int32)) - (((p1 &&& (2147483647 : Int32)) / (3 : Int32)) * (3 : Int32))) = (0 : Int32))) (hk1 : ((p1 &&& (2147483647 : Int32)) - (((p1 &&& (2147483647 : Int32)) / (3 : Int32)) * (3 : Int32))) = (1 : Int32)) :
    MetFree l x (head1 (Jvm.Cond.code x code maxLocals ret :: ws) room_1) (fun a U => a = #[(.int p1)] ∧ Z.Warmed39 U.vm ∧ U.heap = h0) (fun _ _ _ _ _ => True) (fun _ U o U' => ∃ v L, o = .returned v ∧ Q_rm0b Z p1 oP oB oA w4 eR pP eP qP fP pA eA qA qB h0 n0 v U'.heap L ∧ FrameEnd U o U' L room_1.cells room_1.slots) := by
  refine MetFree.of_bodySF (plainFor_of_name pn_com_example_nieuwmarkt_nieuwmarkt_signals_SignalGroupSizePinLaw) hisR ?_
  intro p e s m args below meth c s₁ Bd hml0 hP hK
  obtain ⟨rfl, hZ, hh⟩ := hP
  have hx := Bd.exec
  have hby := Bd.bytes
  have hml : c.maxLocals = 6 := hml0
  have hown : s.vm.findClass "com/example/nieuwmarkt/nieuwmarkt/signals/SignalGroupSizePinLaw" = some m.cls := findClass_of_methodNamed Bd.named
  have hnm := (name_of_methodNamed Bd.named Bd.method).1
  have X0 : Stand p l e room_1 s m #[(.int p1)] below meth c s₁ [] 0 0 := Stand.of_body Bd
  have e0 : s₁.heap = h0 := by rw [← hh, Bd.state]; rfl
  have N0 := Fr.nil n0
  have pre0 : ∀ t, Steps p.tables e below (s₁.setTop (mkF m 0 #[.val (.int p1), .unset, .unset, .unset, .unset, .unset] [])) t → Steps p.tables e below (s₁.setTop (entryFrame m #[(.int p1)] maxLocals)) t := fun t k => castTop (ef_rm0b m p1) k
  obtain ⟨T1_, X1_, e1_, st1_⟩ := getS2 X0 hx hZ hown (host := "") (Or.inl (hw _ (List.mem_of_getElem? (i := 40) rfl))) Via.refl e0 (S_BLOG.ext X00.2) (g := (mkF m 26 #[.val (.int p1), .val (.int ((p1 &&& (2147483647 : Int32)) - (((p1 &&& (2147483647 : Int32)) / (3 : Int32)) * (3 : Int32)))), .unset, .unset, .unset, .unset] [])) rfl (hb hby at_26)
  obtain ⟨cq3_, kq3_, qa3_, qb3_, qc3_⟩ := isOf hZ e1_ E_B
  obtain ⟨_, _, ⟨T2_, L2_, k2_, n2_⟩, -, X2_, ⟨Lc2_, hQ2_, l2_, y2_, z2_⟩, st2_⟩ := X1_.virtualBack hx (y := (⟨"com/example/nieuwmarkt/nieuwmarkt/signals/SignalGroup", "size", "()I"⟩ : MethodName)) (z := (⟨"com/example/nieuwmarkt/nieuwmarkt/signals/SignalGroup", "size", "()I"⟩ : MethodName)) hown (mvT hZ (hw _ (List.mem_of_getElem? (i := 4) rfl))) (mvT hZ (hw _ (List.mem_of_getElem? (i := 5) rfl))) (notFace_of_selects (args := #[]) (mvT hZ (hw _ (List.mem_of_getElem? (i := 7) rfl)))) (mvT hZ (hw _ (List.mem_of_getElem? (i := 7) rfl))) (mvT hZ (hw _ (List.mem_of_getElem? (i := 6) rfl))) (by decide) (backOf (W := 0) (rmST l Z a0 hw [] oB qP fP (0 : Int32) qB eR w4 h0 n0 Z0 B1 P6 P7 P8 B5 B6 B7 S_EMPTY X00 neR) hZ (hw _ (List.mem_of_getElem? (i := 8) rfl)) (hw _ (List.mem_of_getElem? (i := 2) rfl)) (by decide) (by decide)) qa3_ qc3_ (g := (mkF m 43 #[.val (.int p1), .val (.int ((p1 &&& (2147483647 : Int32)) - (((p1 &&& (2147483647 : Int32)) / (3 : Int32)) * (3 : Int32)))), .val (.ref oB), .val (.int (2 : Int32)), .unset, .unset] [(.ref oB)])) rfl (by rw [hml]; rfl) (Steps.refl _) (argsL := []) (rest := []) (lenOf pd_qzI rfl) rfl (by show 2 * 0 + _ ≤ _; exact Nat.le_of_eq rfl) (hb hby at_43) (fun _ _ => ⟨rfl, e1_, (by decide : 0 + 0 ≤ _), (by decide : 0 + 0 ≤ _)⟩)
  dsimp only [Pt.U, Pt.locs, Pt.cells, Pt.slots] at X2_ l2_ y2_ z2_ st2_ hQ2_
  subst l2_ y2_ z2_
  obtain ⟨rfl, Nq2_, ek2_⟩ := hQ2_
  have N2_ := Fr.app N0 Nq2_
  obtain ⟨T4_, X4_, e4_, st4_⟩ := getS2 X2_ hx hZ hown (host := "") (Or.inl (hw _ (List.mem_of_getElem? (i := 25) rfl))) Via.refl ek2_ (S_ALL.ext X00.2) (g := (mkF m 57 #[.val (.int p1), .val (.int ((p1 &&& (2147483647 : Int32)) - (((p1 &&& (2147483647 : Int32)) / (3 : Int32)) * (3 : Int32)))), .val (.ref oB), .val (.int (2 : Int32)), .val (.int (1 : Int32)), .unset] [])) rfl (hb hby at_57)
  obtain ⟨cq6_, kq6_, qa6_, qb6_, qc6_⟩ := isOf hZ e4_ E_A
  obtain ⟨_, _, ⟨T5_, L5_, k5_, n5_⟩, -, X5_, ⟨Lc5_, hQ5_, l5_, y5_, z5_⟩, st5_⟩ := X4_.virtualBack hx (y := (⟨"com/example/nieuwmarkt/nieuwmarkt/signals/SignalGroup", "size", "()I"⟩ : MethodName)) (z := (⟨"com/example/nieuwmarkt/nieuwmarkt/signals/SignalGroup", "size", "()I"⟩ : MethodName)) hown (mvT hZ (hw _ (List.mem_of_getElem? (i := 4) rfl))) (mvT hZ (hw _ (List.mem_of_getElem? (i := 5) rfl))) (notFace_of_selects (args := #[]) (mvT hZ (hw _ (List.mem_of_getElem? (i := 7) rfl)))) (mvT hZ (hw _ (List.mem_of_getElem? (i := 7) rfl))) (mvT hZ (hw _ (List.mem_of_getElem? (i := 6) rfl))) (by decide) (backOf (W := 0) (rmST l Z a0 hw [] oA pA eA (6 : Int32) qA eR w4 h0 n0 Z0 A1 A2 A3 A4 A5 A6 A7 S_EMPTY X00 neR) hZ (hw _ (List.mem_of_getElem? (i := 8) rfl)) (hw _ (List.mem_of_getElem? (i := 2) rfl)) (by decide) (by decide)) qa6_ qc6_ (g := (mkF m 60 #[.val (.int p1), .val (.int ((p1 &&& (2147483647 : Int32)) - (((p1 &&& (2147483647 : Int32)) / (3 : Int32)) * (3 : Int32)))), .val (.ref oB), .val (.int (2 : Int32)), .val (.int (1 : Int32)), .unset] [(.ref oA)])) rfl (by rw [hml]; rfl) (Steps.refl _) (argsL := []) (rest := []) (lenOf pd_qzI rfl) rfl (by show 2 * 0 + _ ≤ _; exact Nat.le_of_eq rfl) (hb hby at_60) (fun _ _ => ⟨rfl, e4_, (by decide : 0 + 0 ≤ _), (by decide : 0 + 0 ≤ _)⟩)
  dsimp only [Pt.U, Pt.locs, Pt.cells, Pt.slots] at X5_ l5_ y5_ z5_ st5_ hQ5_
  subst l5_ y5_ z5_
  obtain ⟨rfl, Nq5_, ek5_⟩ := hQ5_
  have N5_ := Fr.app N2_ Nq5_
  obtain ⟨T7_, X7_, e7_, st7_⟩ := getS2 X5_ hx hZ hown (host := "") (Or.inl (hw _ (List.mem_of_getElem? (i := 1) rfl))) Via.refl ek5_ (S_POST.ext X00.2) (g := (mkF m 63 #[.val (.int p1), .val (.int ((p1 &&& (2147483647 : Int32)) - (((p1 &&& (2147483647 : Int32)) / (3 : Int32)) * (3 : Int32)))), .val (.ref oB), .val (.int (2 : Int32)), .val (.int (1 : Int32)), .unset] [(.int ((6 : Int32) + (2 : Int32)))])) rfl (hb hby at_63)
  obtain ⟨cq9_, kq9_, qa9_, qb9_, qc9_⟩ := isOf hZ e7_ E_P
  obtain ⟨_, _, ⟨T8_, L8_, k8_, n8_⟩, -, X8_, ⟨Lc8_, hQ8_, l8_, y8_, z8_⟩, st8_⟩ := X7_.virtualBack hx (y := (⟨"com/example/nieuwmarkt/nieuwmarkt/signals/SignalGroup", "size", "()I"⟩ : MethodName)) (z := (⟨"com/example/nieuwmarkt/nieuwmarkt/signals/SignalGroup", "size", "()I"⟩ : MethodName)) hown (mvT hZ (hw _ (List.mem_of_getElem? (i := 4) rfl))) (mvT hZ (hw _ (List.mem_of_getElem? (i := 5) rfl))) (notFace_of_selects (args := #[]) (mvT hZ (hw _ (List.mem_of_getElem? (i := 7) rfl)))) (mvT hZ (hw _ (List.mem_of_getElem? (i := 7) rfl))) (mvT hZ (hw _ (List.mem_of_getElem? (i := 6) rfl))) (by decide) (backOf (W := 1) (rmSN l Z a0 hw [] oP pP eP (6 : Int32) qP fP (0 : Int32) h0 n0 Z0 P1 P2 P3 P4 P5 P6 P7 P8) hZ (hw _ (List.mem_of_getElem? (i := 8) rfl)) (hw _ (List.mem_of_getElem? (i := 2) rfl)) (by decide) (by decide)) qa9_ qc9_ (g := (mkF m 66 #[.val (.int p1), .val (.int ((p1 &&& (2147483647 : Int32)) - (((p1 &&& (2147483647 : Int32)) / (3 : Int32)) * (3 : Int32)))), .val (.ref oB), .val (.int (2 : Int32)), .val (.int (1 : Int32)), .unset] [(.ref oP), (.int ((6 : Int32) + (2 : Int32)))])) rfl (by rw [hml]; rfl) (Steps.refl _) (argsL := []) (rest := [(.int ((6 : Int32) + (2 : Int32)))]) (lenOf pd_qzI rfl) rfl (by show 2 * 0 + _ ≤ _; exact Nat.le_of_eq rfl) (hb hby at_66) (fun _ _ => ⟨rfl, e7_, (by decide : 0 + 0 ≤ _), (by decide : 0 + 0 ≤ _)⟩)
  dsimp only [Pt.U, Pt.locs, Pt.cells, Pt.slots] at X8_ l8_ y8_ z8_ st8_ hQ8_
  subst l8_ y8_ z8_
  obtain ⟨rfl, Nq8_, ek8_⟩ := hQ8_
  have N8_ := Fr.app N5_ Nq8_
  obtain ⟨T10_, X10_, e10_, st10_⟩ := getS2 X8_ hx hZ hown (host := "") (Or.inl (hw _ (List.mem_of_getElem? (i := 40) rfl))) Via.refl ek8_ (S_BLOG.ext X00.2) (g := (mkF m 69 #[.val (.int p1), .val (.int ((p1 &&& (2147483647 : Int32)) - (((p1 &&& (2147483647 : Int32)) / (3 : Int32)) * (3 : Int32)))), .val (.ref oB), .val (.int (2 : Int32)), .val (.int (1 : Int32)), .unset] [(.int ((6 : Int32) + (0 : Int32))), (.int ((6 : Int32) + (2 : Int32)))])) rfl (hb hby at_69)
  obtain ⟨cq12_, kq12_, qa12_, qb12_, qc12_⟩ := isOf hZ e10_ E_B
  obtain ⟨_, _, ⟨T11_, L11_, k11_, n11_⟩, -, X11_, ⟨Lc11_, hQ11_, l11_, y11_, z11_⟩, st11_⟩ := X10_.virtualBack hx (y := (⟨"com/example/nieuwmarkt/nieuwmarkt/signals/SignalGroup", "size", "()I"⟩ : MethodName)) (z := (⟨"com/example/nieuwmarkt/nieuwmarkt/signals/SignalGroup", "size", "()I"⟩ : MethodName)) hown (mvT hZ (hw _ (List.mem_of_getElem? (i := 4) rfl))) (mvT hZ (hw _ (List.mem_of_getElem? (i := 5) rfl))) (notFace_of_selects (args := #[]) (mvT hZ (hw _ (List.mem_of_getElem? (i := 7) rfl)))) (mvT hZ (hw _ (List.mem_of_getElem? (i := 7) rfl))) (mvT hZ (hw _ (List.mem_of_getElem? (i := 6) rfl))) (by decide) (backOf (W := 2) (rmST l Z a0 hw [] oB qP fP (0 : Int32) qB eR w4 h0 n0 Z0 B1 P6 P7 P8 B5 B6 B7 S_EMPTY X00 neR) hZ (hw _ (List.mem_of_getElem? (i := 8) rfl)) (hw _ (List.mem_of_getElem? (i := 2) rfl)) (by decide) (by decide)) qa12_ qc12_ (g := (mkF m 72 #[.val (.int p1), .val (.int ((p1 &&& (2147483647 : Int32)) - (((p1 &&& (2147483647 : Int32)) / (3 : Int32)) * (3 : Int32)))), .val (.ref oB), .val (.int (2 : Int32)), .val (.int (1 : Int32)), .unset] [(.ref oB), (.int ((6 : Int32) + (0 : Int32))), (.int ((6 : Int32) + (2 : Int32)))])) rfl (by rw [hml]; rfl) (Steps.refl _) (argsL := []) (rest := [(.int ((6 : Int32) + (0 : Int32))), (.int ((6 : Int32) + (2 : Int32)))]) (lenOf pd_qzI rfl) rfl (by show 2 * 0 + _ ≤ _; exact Nat.le_of_eq rfl) (hb hby at_72) (fun _ _ => ⟨rfl, e10_, (by decide : 0 + 0 ≤ _), (by decide : 0 + 0 ≤ _)⟩)
  dsimp only [Pt.U, Pt.locs, Pt.cells, Pt.slots] at X11_ l11_ y11_ z11_ st11_ hQ11_
  subst l11_ y11_ z11_
  obtain ⟨rfl, Nq11_, ek11_⟩ := hQ11_
  have N11_ := Fr.app N8_ Nq11_
  obtain ⟨fs, hr, hrun, hended, hW, hsame⟩ := X11_.leave (v := some (.int (1 : Int32))) (fun h => by first | rfl | (rw [Bd.returns] at h; cases h))
  refine ⟨_, _, pre0 _ ?_, hrun, hended, _, _, rfl, ?_, ⟨_, rfl⟩, hW, hsame.mono (by decide) (by decide)⟩
  · show Steps p.tables e below (s₁.setTop (mkF m 0 #[.val (.int p1), .unset, .unset, .unset, .unset, .unset] [])) _
    refine XS.iloadN X0.here hx rfl (hb hby at_0) rfl ?_
    show Steps p.tables e below (s₁.setTop (mkF m 1 #[.val (.int p1), .unset, .unset, .unset, .unset, .unset] [(.int p1)])) _
    refine X0.ldcInt hx hown (mvT hZ (hw _ (List.mem_of_getElem? (i := 0) rfl))) (g := (mkF m 1 #[.val (.int p1), .unset, .unset, .unset, .unset, .unset] [(.int p1)])) rfl (hb hby at_1) _ ?_
    show Steps p.tables e below (s₁.setTop (mkF m 3 #[.val (.int p1), .unset, .unset, .unset, .unset, .unset] [(.int (2147483647 : Int32)), (.int p1)])) _
    refine XS.iand X0.here hx rfl (hb hby at_3) rfl ?_
    show Steps p.tables e below (s₁.setTop (mkF m 4 #[.val (.int p1), .unset, .unset, .unset, .unset, .unset] [(.int (p1 &&& (2147483647 : Int32)))])) _
    refine XS.iconst X0.here hx rfl (hb hby at_4) ?_
    show Steps p.tables e below (s₁.setTop (mkF m 5 #[.val (.int p1), .unset, .unset, .unset, .unset, .unset] [(.int (3 : Int32)), (.int (p1 &&& (2147483647 : Int32)))])) _
    refine XS.irem X0.here hx rfl (hb hby at_5) rfl (by decide) ?_
    show Steps p.tables e below (s₁.setTop (mkF m 6 #[.val (.int p1), .unset, .unset, .unset, .unset, .unset] [(.int ((p1 &&& (2147483647 : Int32)) - (((p1 &&& (2147483647 : Int32)) / (3 : Int32)) * (3 : Int32))))])) _
    refine XS.istoreN X0.here hx rfl (hb hby at_6) rfl (l' := #[.val (.int p1), .val (.int ((p1 &&& (2147483647 : Int32)) - (((p1 &&& (2147483647 : Int32)) / (3 : Int32)) * (3 : Int32)))), .unset, .unset, .unset, .unset]) rfl ?_
    show Steps p.tables e below (s₁.setTop (mkF m 7 #[.val (.int p1), .val (.int ((p1 &&& (2147483647 : Int32)) - (((p1 &&& (2147483647 : Int32)) / (3 : Int32)) * (3 : Int32)))), .unset, .unset, .unset, .unset] [])) _
    refine XS.iloadN X0.here hx rfl (hb hby at_7) rfl ?_
    show Steps p.tables e below (s₁.setTop (mkF m 8 #[.val (.int p1), .val (.int ((p1 &&& (2147483647 : Int32)) - (((p1 &&& (2147483647 : Int32)) / (3 : Int32)) * (3 : Int32)))), .unset, .unset, .unset, .unset] [(.int ((p1 &&& (2147483647 : Int32)) - (((p1 &&& (2147483647 : Int32)) / (3 : Int32)) * (3 : Int32))))])) _
    refine XS.ifYes X0.here hx rfl (pc0 := 8) (pc' := 21) rfl (hb hby at_8) rfl ((if0 _ _).trans (feq (hk : ¬ (((p1 &&& (2147483647 : Int32)) - (((p1 &&& (2147483647 : Int32)) / (3 : Int32)) * (3 : Int32))) = (0 : Int32)))).2) (by decide) (by decide) ?_
    show Steps p.tables e below (s₁.setTop (mkF m 21 #[.val (.int p1), .val (.int ((p1 &&& (2147483647 : Int32)) - (((p1 &&& (2147483647 : Int32)) / (3 : Int32)) * (3 : Int32)))), .unset, .unset, .unset, .unset] [])) _
    refine XS.iloadN X0.here hx rfl (hb hby at_21) rfl ?_
    show Steps p.tables e below (s₁.setTop (mkF m 22 #[.val (.int p1), .val (.int ((p1 &&& (2147483647 : Int32)) - (((p1 &&& (2147483647 : Int32)) / (3 : Int32)) * (3 : Int32)))), .unset, .unset, .unset, .unset] [(.int ((p1 &&& (2147483647 : Int32)) - (((p1 &&& (2147483647 : Int32)) / (3 : Int32)) * (3 : Int32))))])) _
    refine XS.iconst X0.here hx rfl (hb hby at_22) ?_
    show Steps p.tables e below (s₁.setTop (mkF m 23 #[.val (.int p1), .val (.int ((p1 &&& (2147483647 : Int32)) - (((p1 &&& (2147483647 : Int32)) / (3 : Int32)) * (3 : Int32)))), .unset, .unset, .unset, .unset] [(.int (1 : Int32)), (.int ((p1 &&& (2147483647 : Int32)) - (((p1 &&& (2147483647 : Int32)) / (3 : Int32)) * (3 : Int32))))])) _
    refine XS.icmpNo X0.here hx rfl (hb hby at_23) rfl (teq (hk1 : ((p1 &&& (2147483647 : Int32)) - (((p1 &&& (2147483647 : Int32)) / (3 : Int32)) * (3 : Int32))) = (1 : Int32))).2 ?_
    show Steps p.tables e below (s₁.setTop (mkF m 26 #[.val (.int p1), .val (.int ((p1 &&& (2147483647 : Int32)) - (((p1 &&& (2147483647 : Int32)) / (3 : Int32)) * (3 : Int32)))), .unset, .unset, .unset, .unset] [])) _
    refine st1_ _ ?_
    show Steps p.tables e below (T1_.setTop (mkF m 29 #[.val (.int p1), .val (.int ((p1 &&& (2147483647 : Int32)) - (((p1 &&& (2147483647 : Int32)) / (3 : Int32)) * (3 : Int32)))), .unset, .unset, .unset, .unset] [(.ref oB)])) _
    refine XS.astoreN X1_.here hx rfl (hb hby at_29) rfl rfl (l' := #[.val (.int p1), .val (.int ((p1 &&& (2147483647 : Int32)) - (((p1 &&& (2147483647 : Int32)) / (3 : Int32)) * (3 : Int32)))), .val (.ref oB), .unset, .unset, .unset]) rfl ?_
    show Steps p.tables e below (T1_.setTop (mkF m 30 #[.val (.int p1), .val (.int ((p1 &&& (2147483647 : Int32)) - (((p1 &&& (2147483647 : Int32)) / (3 : Int32)) * (3 : Int32)))), .val (.ref oB), .unset, .unset, .unset] [])) _
    refine XS.iconst X1_.here hx rfl (hb hby at_30) ?_
    show Steps p.tables e below (T1_.setTop (mkF m 31 #[.val (.int p1), .val (.int ((p1 &&& (2147483647 : Int32)) - (((p1 &&& (2147483647 : Int32)) / (3 : Int32)) * (3 : Int32)))), .val (.ref oB), .unset, .unset, .unset] [(.int (2 : Int32))])) _
    refine XS.istoreN X1_.here hx rfl (hb hby at_31) rfl (l' := #[.val (.int p1), .val (.int ((p1 &&& (2147483647 : Int32)) - (((p1 &&& (2147483647 : Int32)) / (3 : Int32)) * (3 : Int32)))), .val (.ref oB), .val (.int (2 : Int32)), .unset, .unset]) rfl ?_
    show Steps p.tables e below (T1_.setTop (mkF m 32 #[.val (.int p1), .val (.int ((p1 &&& (2147483647 : Int32)) - (((p1 &&& (2147483647 : Int32)) / (3 : Int32)) * (3 : Int32)))), .val (.ref oB), .val (.int (2 : Int32)), .unset, .unset] [])) _
    refine XS.goto X1_.here hx rfl (pc0 := 32) (pc' := 42) rfl (hb hby at_32) (by decide) (by decide) ?_
    show Steps p.tables e below (T1_.setTop (mkF m 42 #[.val (.int p1), .val (.int ((p1 &&& (2147483647 : Int32)) - (((p1 &&& (2147483647 : Int32)) / (3 : Int32)) * (3 : Int32)))), .val (.ref oB), .val (.int (2 : Int32)), .unset, .unset] [])) _
    refine XS.aloadN X1_.here hx rfl (hb hby at_42) rfl rfl ?_
    show Steps p.tables e below (T1_.setTop (mkF m 43 #[.val (.int p1), .val (.int ((p1 &&& (2147483647 : Int32)) - (((p1 &&& (2147483647 : Int32)) / (3 : Int32)) * (3 : Int32)))), .val (.ref oB), .val (.int (2 : Int32)), .unset, .unset] [(.ref oB)])) _
    refine st2_.trans ?_
    show Steps p.tables e below (T2_.setTop (mkF m 46 #[.val (.int p1), .val (.int ((p1 &&& (2147483647 : Int32)) - (((p1 &&& (2147483647 : Int32)) / (3 : Int32)) * (3 : Int32)))), .val (.ref oB), .val (.int (2 : Int32)), .unset, .unset] [(.int ((0 : Int32) + (2 : Int32)))])) _
    refine XS.iloadN X2_.here hx rfl (hb hby at_46) rfl ?_
    show Steps p.tables e below (T2_.setTop (mkF m 47 #[.val (.int p1), .val (.int ((p1 &&& (2147483647 : Int32)) - (((p1 &&& (2147483647 : Int32)) / (3 : Int32)) * (3 : Int32)))), .val (.ref oB), .val (.int (2 : Int32)), .unset, .unset] [(.int (2 : Int32)), (.int ((0 : Int32) + (2 : Int32)))])) _
    refine XS.icmpNo X2_.here hx rfl (hb hby at_47) rfl (teq ((by decide) : ((0 : Int32) + (2 : Int32)) = (2 : Int32))).2 ?_
    show Steps p.tables e below (T2_.setTop (mkF m 50 #[.val (.int p1), .val (.int ((p1 &&& (2147483647 : Int32)) - (((p1 &&& (2147483647 : Int32)) / (3 : Int32)) * (3 : Int32)))), .val (.ref oB), .val (.int (2 : Int32)), .unset, .unset] [])) _
    refine XS.iconst X2_.here hx rfl (hb hby at_50) ?_
    show Steps p.tables e below (T2_.setTop (mkF m 51 #[.val (.int p1), .val (.int ((p1 &&& (2147483647 : Int32)) - (((p1 &&& (2147483647 : Int32)) / (3 : Int32)) * (3 : Int32)))), .val (.ref oB), .val (.int (2 : Int32)), .unset, .unset] [(.int (1 : Int32))])) _
    refine XS.goto X2_.here hx rfl (pc0 := 51) (pc' := 55) rfl (hb hby at_51) (by decide) (by decide) ?_
    show Steps p.tables e below (T2_.setTop (mkF m 55 #[.val (.int p1), .val (.int ((p1 &&& (2147483647 : Int32)) - (((p1 &&& (2147483647 : Int32)) / (3 : Int32)) * (3 : Int32)))), .val (.ref oB), .val (.int (2 : Int32)), .unset, .unset] [(.int (1 : Int32))])) _
    refine XS.istore X2_.here hx rfl (hb hby at_55) rfl (l' := #[.val (.int p1), .val (.int ((p1 &&& (2147483647 : Int32)) - (((p1 &&& (2147483647 : Int32)) / (3 : Int32)) * (3 : Int32)))), .val (.ref oB), .val (.int (2 : Int32)), .val (.int (1 : Int32)), .unset]) rfl ?_
    show Steps p.tables e below (T2_.setTop (mkF m 57 #[.val (.int p1), .val (.int ((p1 &&& (2147483647 : Int32)) - (((p1 &&& (2147483647 : Int32)) / (3 : Int32)) * (3 : Int32)))), .val (.ref oB), .val (.int (2 : Int32)), .val (.int (1 : Int32)), .unset] [])) _
    refine st4_ _ ?_
    show Steps p.tables e below (T4_.setTop (mkF m 60 #[.val (.int p1), .val (.int ((p1 &&& (2147483647 : Int32)) - (((p1 &&& (2147483647 : Int32)) / (3 : Int32)) * (3 : Int32)))), .val (.ref oB), .val (.int (2 : Int32)), .val (.int (1 : Int32)), .unset] [(.ref oA)])) _
    refine st5_.trans ?_
    show Steps p.tables e below (T5_.setTop (mkF m 63 #[.val (.int p1), .val (.int ((p1 &&& (2147483647 : Int32)) - (((p1 &&& (2147483647 : Int32)) / (3 : Int32)) * (3 : Int32)))), .val (.ref oB), .val (.int (2 : Int32)), .val (.int (1 : Int32)), .unset] [(.int ((6 : Int32) + (2 : Int32)))])) _
    refine st7_ _ ?_
    show Steps p.tables e below (T7_.setTop (mkF m 66 #[.val (.int p1), .val (.int ((p1 &&& (2147483647 : Int32)) - (((p1 &&& (2147483647 : Int32)) / (3 : Int32)) * (3 : Int32)))), .val (.ref oB), .val (.int (2 : Int32)), .val (.int (1 : Int32)), .unset] [(.ref oP), (.int ((6 : Int32) + (2 : Int32)))])) _
    refine st8_.trans ?_
    show Steps p.tables e below (T8_.setTop (mkF m 69 #[.val (.int p1), .val (.int ((p1 &&& (2147483647 : Int32)) - (((p1 &&& (2147483647 : Int32)) / (3 : Int32)) * (3 : Int32)))), .val (.ref oB), .val (.int (2 : Int32)), .val (.int (1 : Int32)), .unset] [(.int ((6 : Int32) + (0 : Int32))), (.int ((6 : Int32) + (2 : Int32)))])) _
    refine st10_ _ ?_
    show Steps p.tables e below (T10_.setTop (mkF m 72 #[.val (.int p1), .val (.int ((p1 &&& (2147483647 : Int32)) - (((p1 &&& (2147483647 : Int32)) / (3 : Int32)) * (3 : Int32)))), .val (.ref oB), .val (.int (2 : Int32)), .val (.int (1 : Int32)), .unset] [(.ref oB), (.int ((6 : Int32) + (0 : Int32))), (.int ((6 : Int32) + (2 : Int32)))])) _
    refine st11_.trans ?_
    show Steps p.tables e below (T11_.setTop (mkF m 75 #[.val (.int p1), .val (.int ((p1 &&& (2147483647 : Int32)) - (((p1 &&& (2147483647 : Int32)) / (3 : Int32)) * (3 : Int32)))), .val (.ref oB), .val (.int (2 : Int32)), .val (.int (1 : Int32)), .unset] [(.int ((0 : Int32) + (2 : Int32))), (.int ((6 : Int32) + (0 : Int32))), (.int ((6 : Int32) + (2 : Int32)))])) _
    refine XS.iadd X11_.here hx rfl (hb hby at_75) rfl ?_
    show Steps p.tables e below (T11_.setTop (mkF m 76 #[.val (.int p1), .val (.int ((p1 &&& (2147483647 : Int32)) - (((p1 &&& (2147483647 : Int32)) / (3 : Int32)) * (3 : Int32)))), .val (.ref oB), .val (.int (2 : Int32)), .val (.int (1 : Int32)), .unset] [(.int (((6 : Int32) + (0 : Int32)) + ((0 : Int32) + (2 : Int32)))), (.int ((6 : Int32) + (2 : Int32)))])) _
    refine XS.icmpNo X11_.here hx rfl (hb hby at_76) rfl (teq ((by decide) : ((6 : Int32) + (2 : Int32)) = (((6 : Int32) + (0 : Int32)) + ((0 : Int32) + (2 : Int32))))).2 ?_
    show Steps p.tables e below (T11_.setTop (mkF m 79 #[.val (.int p1), .val (.int ((p1 &&& (2147483647 : Int32)) - (((p1 &&& (2147483647 : Int32)) / (3 : Int32)) * (3 : Int32)))), .val (.ref oB), .val (.int (2 : Int32)), .val (.int (1 : Int32)), .unset] [])) _
    refine XS.iconst X11_.here hx rfl (hb hby at_79) ?_
    show Steps p.tables e below (T11_.setTop (mkF m 80 #[.val (.int p1), .val (.int ((p1 &&& (2147483647 : Int32)) - (((p1 &&& (2147483647 : Int32)) / (3 : Int32)) * (3 : Int32)))), .val (.ref oB), .val (.int (2 : Int32)), .val (.int (1 : Int32)), .unset] [(.int (1 : Int32))])) _
    refine XS.goto X11_.here hx rfl (pc0 := 80) (pc' := 84) rfl (hb hby at_80) (by decide) (by decide) ?_
    show Steps p.tables e below (T11_.setTop (mkF m 84 #[.val (.int p1), .val (.int ((p1 &&& (2147483647 : Int32)) - (((p1 &&& (2147483647 : Int32)) / (3 : Int32)) * (3 : Int32)))), .val (.ref oB), .val (.int (2 : Int32)), .val (.int (1 : Int32)), .unset] [(.int (1 : Int32))])) _
    refine XS.istore X11_.here hx rfl (hb hby at_84) rfl (l' := #[.val (.int p1), .val (.int ((p1 &&& (2147483647 : Int32)) - (((p1 &&& (2147483647 : Int32)) / (3 : Int32)) * (3 : Int32)))), .val (.ref oB), .val (.int (2 : Int32)), .val (.int (1 : Int32)), .val (.int (1 : Int32))]) rfl ?_
    show Steps p.tables e below (T11_.setTop (mkF m 86 #[.val (.int p1), .val (.int ((p1 &&& (2147483647 : Int32)) - (((p1 &&& (2147483647 : Int32)) / (3 : Int32)) * (3 : Int32)))), .val (.ref oB), .val (.int (2 : Int32)), .val (.int (1 : Int32)), .val (.int (1 : Int32))] [])) _
    refine XS.iload X11_.here hx rfl (hb hby at_86) rfl ?_
    show Steps p.tables e below (T11_.setTop (mkF m 88 #[.val (.int p1), .val (.int ((p1 &&& (2147483647 : Int32)) - (((p1 &&& (2147483647 : Int32)) / (3 : Int32)) * (3 : Int32)))), .val (.ref oB), .val (.int (2 : Int32)), .val (.int (1 : Int32)), .val (.int (1 : Int32))] [(.int (1 : Int32))])) _
    refine XS.ifNo X11_.here hx rfl (hb hby at_88) rfl ((if0 _ _).trans (feq ((by decide) : ¬ ((1 : Int32) = (0 : Int32)))).1) ?_
    show Steps p.tables e below (T11_.setTop (mkF m 91 #[.val (.int p1), .val (.int ((p1 &&& (2147483647 : Int32)) - (((p1 &&& (2147483647 : Int32)) / (3 : Int32)) * (3 : Int32)))), .val (.ref oB), .val (.int (2 : Int32)), .val (.int (1 : Int32)), .val (.int (1 : Int32))] [])) _
    refine XS.iload X11_.here hx rfl (hb hby at_91) rfl ?_
    show Steps p.tables e below (T11_.setTop (mkF m 93 #[.val (.int p1), .val (.int ((p1 &&& (2147483647 : Int32)) - (((p1 &&& (2147483647 : Int32)) / (3 : Int32)) * (3 : Int32)))), .val (.ref oB), .val (.int (2 : Int32)), .val (.int (1 : Int32)), .val (.int (1 : Int32))] [(.int (1 : Int32))])) _
    refine XS.ifNo X11_.here hx rfl (hb hby at_93) rfl ((if0 _ _).trans (feq ((by decide) : ¬ ((1 : Int32) = (0 : Int32)))).1) ?_
    show Steps p.tables e below (T11_.setTop (mkF m 96 #[.val (.int p1), .val (.int ((p1 &&& (2147483647 : Int32)) - (((p1 &&& (2147483647 : Int32)) / (3 : Int32)) * (3 : Int32)))), .val (.ref oB), .val (.int (2 : Int32)), .val (.int (1 : Int32)), .val (.int (1 : Int32))] [])) _
    refine XS.iconst X11_.here hx rfl (hb hby at_96) ?_
    show Steps p.tables e below (T11_.setTop (mkF m 97 #[.val (.int p1), .val (.int ((p1 &&& (2147483647 : Int32)) - (((p1 &&& (2147483647 : Int32)) / (3 : Int32)) * (3 : Int32)))), .val (.ref oB), .val (.int (2 : Int32)), .val (.int (1 : Int32)), .val (.int (1 : Int32))] [(.int (1 : Int32))])) _
    refine XS.goto X11_.here hx rfl (pc0 := 97) (pc' := 101) rfl (hb hby at_97) (by decide) (by decide) ?_
    show Steps p.tables e below (T11_.setTop (mkF m 101 #[.val (.int p1), .val (.int ((p1 &&& (2147483647 : Int32)) - (((p1 &&& (2147483647 : Int32)) / (3 : Int32)) * (3 : Int32)))), .val (.ref oB), .val (.int (2 : Int32)), .val (.int (1 : Int32)), .val (.int (1 : Int32))] [(.int (1 : Int32))])) _
    exact retN X11_ hx (t := .boolean) Bd.returns (by simp) (hb hby at_101) hr
  · show Q_rm0b Z p1 oP oB oA w4 eR pP eP qP fP pA eA qA qB h0 n0 _ T11_.heap _
    rw [ek11_]
    exact ⟨rfl, N11_⟩
theorem ef_rm0c (m : MethodId) (x0 : Int32) : entryFrame m #[(.int x0)] maxLocals = mkF m 0 #[.val (.int x0), .unset, .unset, .unset, .unset, .unset] [] := by first | (simp [entryFrame, mkF, argsToLocals, Value.category, maxLocals]; done) | rfl
def Q_rm0c (Z : State) (p1 : Int32) (oP : Addr) (oB : Addr) (oA : Addr) (w4 : Addr) (eR : Addr) (pP : Addr) (eP : Addr) (qP : Addr) (fP : Addr) (pA : Addr) (eA : Addr) (qA : Addr) (qB : Addr) (h0 : Heap) (n0 : Nat) (v : Option Value) (h : Heap) (L : List Loc) : Prop := v = some (.int (1 : Int32)) ∧ Fr n0 L
set_option maxRecDepth 65536 in
set_option maxHeartbeats 40000000 in
theorem rm0c (l : Launch) (Z : State) (a0 : Array Value) (hw : ∀ d ∈ tables_1, d.before a0 Z = true) (ws : List Jvm.Cond) (p1 : Int32) (oP : Addr) (oB : Addr) (oA : Addr) (w4 : Addr) (eR : Addr) (pP : Addr) (eP : Addr) (qP : Addr) (fP : Addr) (pA : Addr) (eA : Addr) (qA : Addr) (qB : Addr) (h0 : Heap) (n0 : Nat) (Z0 : n0 ≤ h0.size) (S_POST : Sta Z Z.heap "com/example/nieuwmarkt/nieuwmarkt/signals/SignalGroup" "POST" "Lcom/example/nieuwmarkt/nieuwmarkt/signals/SignalGroup;" (.ref oP)) (S_BLOG : Sta Z Z.heap "com/example/nieuwmarkt/nieuwmarkt/signals/SignalGroup" "BLOG" "Lcom/example/nieuwmarkt/nieuwmarkt/signals/SignalGroup;" (.ref oB)) (S_ALL : Sta Z Z.heap "com/example/nieuwmarkt/nieuwmarkt/signals/SignalGroup" "ALL" "Lcom/example/nieuwmarkt/nieuwmarkt/signals/SignalGroup;" (.ref oA)) (S_EMPTY : Sta Z Z.heap "java/util/ImmutableCollections" "EMPTY" "Ljava/lang/Object;" (.ref w4)) (X00 : Old Z n0 h0) (neR : eR ≠ w4) (E_P : Exa Z h0 oP "com/example/nieuwmarkt/nieuwmarkt/signals/SignalGroup") (E_B : Exa Z h0 oB "com/example/nieuwmarkt/nieuwmarkt/signals/SignalGroup") (E_A : Exa Z h0 oA "com/example/nieuwmarkt/nieuwmarkt/signals/SignalGroup") (P1 : Fld Z h0 oP "com/example/nieuwmarkt/nieuwmarkt/signals/SignalGroup" "postSignals" "Ljava/util/List;" (.ref pP)) (P2 : Exa Z h0 pP "java/util/ImmutableCollections$ListN") (P3 : Fld Z h0 pP "java/util/ImmutableCollections$ListN" "elements" "[Ljava/lang/Object;" (.ref eP)) (P4 : own_Len Z h0 eP (.object "java/lang/Object") (6 : Int32)) (P5 : Fld Z h0 oP "com/example/nieuwmarkt/nieuwmarkt/signals/SignalGroup" "blogSignals" "Ljava/util/List;" (.ref qP)) (P6 : Exa Z h0 qP "java/util/ImmutableCollections$ListN") (P7 : Fld Z h0 qP "java/util/ImmutableCollections$ListN" "elements" "[Ljava/lang/Object;" (.ref fP)) (P8 : own_Len Z h0 fP (.object "java/lang/Object") (0 : Int32)) (A1 : Fld Z h0 oA "com/example/nieuwmarkt/nieuwmarkt/signals/SignalGroup" "postSignals" "Ljava/util/List;" (.ref pA)) (A2 : Exa Z h0 pA "java/util/ImmutableCollections$ListN") (A3 : Fld Z h0 pA "java/util/ImmutableCollections$ListN" "elements" "[Ljava/lang/Object;" (.ref eA)) (A4 : own_Len Z h0 eA (.object "java/lang/Object") (6 : Int32)) (A5 : Fld Z h0 oA "com/example/nieuwmarkt/nieuwmarkt/signals/SignalGroup" "blogSignals" "Ljava/util/List;" (.ref qA)) (A6 : Exa Z h0 qA "java/util/ImmutableCollections$List12") (A7 : Fld Z h0 qA "java/util/ImmutableCollections$List12" "e1" "Ljava/lang/Object;" (.ref eR)) (B1 : Fld Z h0 oB "com/example/nieuwmarkt/nieuwmarkt/signals/SignalGroup" "postSignals" "Ljava/util/List;" (.ref qP)) (B5 : Fld Z h0 oB "com/example/nieuwmarkt/nieuwmarkt/signals/SignalGroup" "blogSignals" "Ljava/util/List;" (.ref qB)) (B6 : Exa Z h0 qB "java/util/ImmutableCollections$List12") (B7 : Fld Z h0 qB "java/util/ImmutableCollections$List12" "e1" "Ljava/lang/Object;" (.ref eR)) (hk : ¬ (((p1 &&& (2147483647 : Int32)) - (((p1 &&& (2147483647 : Int32)) / (3 : Int32)) * (3 : Int32))) = (0 : Int32))) (hk1 : ¬ (((p1 &&& (2147483647 : Int32)) - (((p1 &&& (2147483647 : Int32)) / (3 : Int32)) * (3 : Int32))) = (1 : Int32))) :
    MetFree l x (head1 (Jvm.Cond.code x code maxLocals ret :: ws) room_1) (fun a U => a = #[(.int p1)] ∧ Z.Warmed39 U.vm ∧ U.heap = h0) (fun _ _ _ _ _ => True) (fun _ U o U' => ∃ v L, o = .returned v ∧ Q_rm0c Z p1 oP oB oA w4 eR pP eP qP fP pA eA qA qB h0 n0 v U'.heap L ∧ FrameEnd U o U' L room_1.cells room_1.slots) := by
  refine MetFree.of_bodySF (plainFor_of_name pn_com_example_nieuwmarkt_nieuwmarkt_signals_SignalGroupSizePinLaw) hisR ?_
  intro p e s m args below meth c s₁ Bd hml0 hP hK
  obtain ⟨rfl, hZ, hh⟩ := hP
  have hx := Bd.exec
  have hby := Bd.bytes
  have hml : c.maxLocals = 6 := hml0
  have hown : s.vm.findClass "com/example/nieuwmarkt/nieuwmarkt/signals/SignalGroupSizePinLaw" = some m.cls := findClass_of_methodNamed Bd.named
  have hnm := (name_of_methodNamed Bd.named Bd.method).1
  have X0 : Stand p l e room_1 s m #[(.int p1)] below meth c s₁ [] 0 0 := Stand.of_body Bd
  have e0 : s₁.heap = h0 := by rw [← hh, Bd.state]; rfl
  have N0 := Fr.nil n0
  have pre0 : ∀ t, Steps p.tables e below (s₁.setTop (mkF m 0 #[.val (.int p1), .unset, .unset, .unset, .unset, .unset] [])) t → Steps p.tables e below (s₁.setTop (entryFrame m #[(.int p1)] maxLocals)) t := fun t k => castTop (ef_rm0c m p1) k
  obtain ⟨T1_, X1_, e1_, st1_⟩ := getS2 X0 hx hZ hown (host := "") (Or.inl (hw _ (List.mem_of_getElem? (i := 25) rfl))) Via.refl e0 (S_ALL.ext X00.2) (g := (mkF m 35 #[.val (.int p1), .val (.int ((p1 &&& (2147483647 : Int32)) - (((p1 &&& (2147483647 : Int32)) / (3 : Int32)) * (3 : Int32)))), .unset, .unset, .unset, .unset] [])) rfl (hb hby at_35)
  obtain ⟨cq3_, kq3_, qa3_, qb3_, qc3_⟩ := isOf hZ e1_ E_A
  obtain ⟨_, _, ⟨T2_, L2_, k2_, n2_⟩, -, X2_, ⟨Lc2_, hQ2_, l2_, y2_, z2_⟩, st2_⟩ := X1_.virtualBack hx (y := (⟨"com/example/nieuwmarkt/nieuwmarkt/signals/SignalGroup", "size", "()I"⟩ : MethodName)) (z := (⟨"com/example/nieuwmarkt/nieuwmarkt/signals/SignalGroup", "size", "()I"⟩ : MethodName)) hown (mvT hZ (hw _ (List.mem_of_getElem? (i := 4) rfl))) (mvT hZ (hw _ (List.mem_of_getElem? (i := 5) rfl))) (notFace_of_selects (args := #[]) (mvT hZ (hw _ (List.mem_of_getElem? (i := 7) rfl)))) (mvT hZ (hw _ (List.mem_of_getElem? (i := 7) rfl))) (mvT hZ (hw _ (List.mem_of_getElem? (i := 6) rfl))) (by decide) (backOf (W := 0) (rmST l Z a0 hw [] oA pA eA (6 : Int32) qA eR w4 h0 n0 Z0 A1 A2 A3 A4 A5 A6 A7 S_EMPTY X00 neR) hZ (hw _ (List.mem_of_getElem? (i := 8) rfl)) (hw _ (List.mem_of_getElem? (i := 2) rfl)) (by decide) (by decide)) qa3_ qc3_ (g := (mkF m 43 #[.val (.int p1), .val (.int ((p1 &&& (2147483647 : Int32)) - (((p1 &&& (2147483647 : Int32)) / (3 : Int32)) * (3 : Int32)))), .val (.ref oA), .val (.int (8 : Int32)), .unset, .unset] [(.ref oA)])) rfl (by rw [hml]; rfl) (Steps.refl _) (argsL := []) (rest := []) (lenOf pd_qzI rfl) rfl (by show 2 * 0 + _ ≤ _; exact Nat.le_of_eq rfl) (hb hby at_43) (fun _ _ => ⟨rfl, e1_, (by decide : 0 + 0 ≤ _), (by decide : 0 + 0 ≤ _)⟩)
  dsimp only [Pt.U, Pt.locs, Pt.cells, Pt.slots] at X2_ l2_ y2_ z2_ st2_ hQ2_
  subst l2_ y2_ z2_
  obtain ⟨rfl, Nq2_, ek2_⟩ := hQ2_
  have N2_ := Fr.app N0 Nq2_
  obtain ⟨T4_, X4_, e4_, st4_⟩ := getS2 X2_ hx hZ hown (host := "") (Or.inl (hw _ (List.mem_of_getElem? (i := 25) rfl))) Via.refl ek2_ (S_ALL.ext X00.2) (g := (mkF m 57 #[.val (.int p1), .val (.int ((p1 &&& (2147483647 : Int32)) - (((p1 &&& (2147483647 : Int32)) / (3 : Int32)) * (3 : Int32)))), .val (.ref oA), .val (.int (8 : Int32)), .val (.int (1 : Int32)), .unset] [])) rfl (hb hby at_57)
  obtain ⟨cq6_, kq6_, qa6_, qb6_, qc6_⟩ := isOf hZ e4_ E_A
  obtain ⟨_, _, ⟨T5_, L5_, k5_, n5_⟩, -, X5_, ⟨Lc5_, hQ5_, l5_, y5_, z5_⟩, st5_⟩ := X4_.virtualBack hx (y := (⟨"com/example/nieuwmarkt/nieuwmarkt/signals/SignalGroup", "size", "()I"⟩ : MethodName)) (z := (⟨"com/example/nieuwmarkt/nieuwmarkt/signals/SignalGroup", "size", "()I"⟩ : MethodName)) hown (mvT hZ (hw _ (List.mem_of_getElem? (i := 4) rfl))) (mvT hZ (hw _ (List.mem_of_getElem? (i := 5) rfl))) (notFace_of_selects (args := #[]) (mvT hZ (hw _ (List.mem_of_getElem? (i := 7) rfl)))) (mvT hZ (hw _ (List.mem_of_getElem? (i := 7) rfl))) (mvT hZ (hw _ (List.mem_of_getElem? (i := 6) rfl))) (by decide) (backOf (W := 0) (rmST l Z a0 hw [] oA pA eA (6 : Int32) qA eR w4 h0 n0 Z0 A1 A2 A3 A4 A5 A6 A7 S_EMPTY X00 neR) hZ (hw _ (List.mem_of_getElem? (i := 8) rfl)) (hw _ (List.mem_of_getElem? (i := 2) rfl)) (by decide) (by decide)) qa6_ qc6_ (g := (mkF m 60 #[.val (.int p1), .val (.int ((p1 &&& (2147483647 : Int32)) - (((p1 &&& (2147483647 : Int32)) / (3 : Int32)) * (3 : Int32)))), .val (.ref oA), .val (.int (8 : Int32)), .val (.int (1 : Int32)), .unset] [(.ref oA)])) rfl (by rw [hml]; rfl) (Steps.refl _) (argsL := []) (rest := []) (lenOf pd_qzI rfl) rfl (by show 2 * 0 + _ ≤ _; exact Nat.le_of_eq rfl) (hb hby at_60) (fun _ _ => ⟨rfl, e4_, (by decide : 0 + 0 ≤ _), (by decide : 0 + 0 ≤ _)⟩)
  dsimp only [Pt.U, Pt.locs, Pt.cells, Pt.slots] at X5_ l5_ y5_ z5_ st5_ hQ5_
  subst l5_ y5_ z5_
  obtain ⟨rfl, Nq5_, ek5_⟩ := hQ5_
  have N5_ := Fr.app N2_ Nq5_
  obtain ⟨T7_, X7_, e7_, st7_⟩ := getS2 X5_ hx hZ hown (host := "") (Or.inl (hw _ (List.mem_of_getElem? (i := 1) rfl))) Via.refl ek5_ (S_POST.ext X00.2) (g := (mkF m 63 #[.val (.int p1), .val (.int ((p1 &&& (2147483647 : Int32)) - (((p1 &&& (2147483647 : Int32)) / (3 : Int32)) * (3 : Int32)))), .val (.ref oA), .val (.int (8 : Int32)), .val (.int (1 : Int32)), .unset] [(.int ((6 : Int32) + (2 : Int32)))])) rfl (hb hby at_63)
  obtain ⟨cq9_, kq9_, qa9_, qb9_, qc9_⟩ := isOf hZ e7_ E_P
  obtain ⟨_, _, ⟨T8_, L8_, k8_, n8_⟩, -, X8_, ⟨Lc8_, hQ8_, l8_, y8_, z8_⟩, st8_⟩ := X7_.virtualBack hx (y := (⟨"com/example/nieuwmarkt/nieuwmarkt/signals/SignalGroup", "size", "()I"⟩ : MethodName)) (z := (⟨"com/example/nieuwmarkt/nieuwmarkt/signals/SignalGroup", "size", "()I"⟩ : MethodName)) hown (mvT hZ (hw _ (List.mem_of_getElem? (i := 4) rfl))) (mvT hZ (hw _ (List.mem_of_getElem? (i := 5) rfl))) (notFace_of_selects (args := #[]) (mvT hZ (hw _ (List.mem_of_getElem? (i := 7) rfl)))) (mvT hZ (hw _ (List.mem_of_getElem? (i := 7) rfl))) (mvT hZ (hw _ (List.mem_of_getElem? (i := 6) rfl))) (by decide) (backOf (W := 1) (rmSN l Z a0 hw [] oP pP eP (6 : Int32) qP fP (0 : Int32) h0 n0 Z0 P1 P2 P3 P4 P5 P6 P7 P8) hZ (hw _ (List.mem_of_getElem? (i := 8) rfl)) (hw _ (List.mem_of_getElem? (i := 2) rfl)) (by decide) (by decide)) qa9_ qc9_ (g := (mkF m 66 #[.val (.int p1), .val (.int ((p1 &&& (2147483647 : Int32)) - (((p1 &&& (2147483647 : Int32)) / (3 : Int32)) * (3 : Int32)))), .val (.ref oA), .val (.int (8 : Int32)), .val (.int (1 : Int32)), .unset] [(.ref oP), (.int ((6 : Int32) + (2 : Int32)))])) rfl (by rw [hml]; rfl) (Steps.refl _) (argsL := []) (rest := [(.int ((6 : Int32) + (2 : Int32)))]) (lenOf pd_qzI rfl) rfl (by show 2 * 0 + _ ≤ _; exact Nat.le_of_eq rfl) (hb hby at_66) (fun _ _ => ⟨rfl, e7_, (by decide : 0 + 0 ≤ _), (by decide : 0 + 0 ≤ _)⟩)
  dsimp only [Pt.U, Pt.locs, Pt.cells, Pt.slots] at X8_ l8_ y8_ z8_ st8_ hQ8_
  subst l8_ y8_ z8_
  obtain ⟨rfl, Nq8_, ek8_⟩ := hQ8_
  have N8_ := Fr.app N5_ Nq8_
  obtain ⟨T10_, X10_, e10_, st10_⟩ := getS2 X8_ hx hZ hown (host := "") (Or.inl (hw _ (List.mem_of_getElem? (i := 40) rfl))) Via.refl ek8_ (S_BLOG.ext X00.2) (g := (mkF m 69 #[.val (.int p1), .val (.int ((p1 &&& (2147483647 : Int32)) - (((p1 &&& (2147483647 : Int32)) / (3 : Int32)) * (3 : Int32)))), .val (.ref oA), .val (.int (8 : Int32)), .val (.int (1 : Int32)), .unset] [(.int ((6 : Int32) + (0 : Int32))), (.int ((6 : Int32) + (2 : Int32)))])) rfl (hb hby at_69)
  obtain ⟨cq12_, kq12_, qa12_, qb12_, qc12_⟩ := isOf hZ e10_ E_B
  obtain ⟨_, _, ⟨T11_, L11_, k11_, n11_⟩, -, X11_, ⟨Lc11_, hQ11_, l11_, y11_, z11_⟩, st11_⟩ := X10_.virtualBack hx (y := (⟨"com/example/nieuwmarkt/nieuwmarkt/signals/SignalGroup", "size", "()I"⟩ : MethodName)) (z := (⟨"com/example/nieuwmarkt/nieuwmarkt/signals/SignalGroup", "size", "()I"⟩ : MethodName)) hown (mvT hZ (hw _ (List.mem_of_getElem? (i := 4) rfl))) (mvT hZ (hw _ (List.mem_of_getElem? (i := 5) rfl))) (notFace_of_selects (args := #[]) (mvT hZ (hw _ (List.mem_of_getElem? (i := 7) rfl)))) (mvT hZ (hw _ (List.mem_of_getElem? (i := 7) rfl))) (mvT hZ (hw _ (List.mem_of_getElem? (i := 6) rfl))) (by decide) (backOf (W := 2) (rmST l Z a0 hw [] oB qP fP (0 : Int32) qB eR w4 h0 n0 Z0 B1 P6 P7 P8 B5 B6 B7 S_EMPTY X00 neR) hZ (hw _ (List.mem_of_getElem? (i := 8) rfl)) (hw _ (List.mem_of_getElem? (i := 2) rfl)) (by decide) (by decide)) qa12_ qc12_ (g := (mkF m 72 #[.val (.int p1), .val (.int ((p1 &&& (2147483647 : Int32)) - (((p1 &&& (2147483647 : Int32)) / (3 : Int32)) * (3 : Int32)))), .val (.ref oA), .val (.int (8 : Int32)), .val (.int (1 : Int32)), .unset] [(.ref oB), (.int ((6 : Int32) + (0 : Int32))), (.int ((6 : Int32) + (2 : Int32)))])) rfl (by rw [hml]; rfl) (Steps.refl _) (argsL := []) (rest := [(.int ((6 : Int32) + (0 : Int32))), (.int ((6 : Int32) + (2 : Int32)))]) (lenOf pd_qzI rfl) rfl (by show 2 * 0 + _ ≤ _; exact Nat.le_of_eq rfl) (hb hby at_72) (fun _ _ => ⟨rfl, e10_, (by decide : 0 + 0 ≤ _), (by decide : 0 + 0 ≤ _)⟩)
  dsimp only [Pt.U, Pt.locs, Pt.cells, Pt.slots] at X11_ l11_ y11_ z11_ st11_ hQ11_
  subst l11_ y11_ z11_
  obtain ⟨rfl, Nq11_, ek11_⟩ := hQ11_
  have N11_ := Fr.app N8_ Nq11_
  obtain ⟨fs, hr, hrun, hended, hW, hsame⟩ := X11_.leave (v := some (.int (1 : Int32))) (fun h => by first | rfl | (rw [Bd.returns] at h; cases h))
  refine ⟨_, _, pre0 _ ?_, hrun, hended, _, _, rfl, ?_, ⟨_, rfl⟩, hW, hsame.mono (by decide) (by decide)⟩
  · show Steps p.tables e below (s₁.setTop (mkF m 0 #[.val (.int p1), .unset, .unset, .unset, .unset, .unset] [])) _
    refine XS.iloadN X0.here hx rfl (hb hby at_0) rfl ?_
    show Steps p.tables e below (s₁.setTop (mkF m 1 #[.val (.int p1), .unset, .unset, .unset, .unset, .unset] [(.int p1)])) _
    refine X0.ldcInt hx hown (mvT hZ (hw _ (List.mem_of_getElem? (i := 0) rfl))) (g := (mkF m 1 #[.val (.int p1), .unset, .unset, .unset, .unset, .unset] [(.int p1)])) rfl (hb hby at_1) _ ?_
    show Steps p.tables e below (s₁.setTop (mkF m 3 #[.val (.int p1), .unset, .unset, .unset, .unset, .unset] [(.int (2147483647 : Int32)), (.int p1)])) _
    refine XS.iand X0.here hx rfl (hb hby at_3) rfl ?_
    show Steps p.tables e below (s₁.setTop (mkF m 4 #[.val (.int p1), .unset, .unset, .unset, .unset, .unset] [(.int (p1 &&& (2147483647 : Int32)))])) _
    refine XS.iconst X0.here hx rfl (hb hby at_4) ?_
    show Steps p.tables e below (s₁.setTop (mkF m 5 #[.val (.int p1), .unset, .unset, .unset, .unset, .unset] [(.int (3 : Int32)), (.int (p1 &&& (2147483647 : Int32)))])) _
    refine XS.irem X0.here hx rfl (hb hby at_5) rfl (by decide) ?_
    show Steps p.tables e below (s₁.setTop (mkF m 6 #[.val (.int p1), .unset, .unset, .unset, .unset, .unset] [(.int ((p1 &&& (2147483647 : Int32)) - (((p1 &&& (2147483647 : Int32)) / (3 : Int32)) * (3 : Int32))))])) _
    refine XS.istoreN X0.here hx rfl (hb hby at_6) rfl (l' := #[.val (.int p1), .val (.int ((p1 &&& (2147483647 : Int32)) - (((p1 &&& (2147483647 : Int32)) / (3 : Int32)) * (3 : Int32)))), .unset, .unset, .unset, .unset]) rfl ?_
    show Steps p.tables e below (s₁.setTop (mkF m 7 #[.val (.int p1), .val (.int ((p1 &&& (2147483647 : Int32)) - (((p1 &&& (2147483647 : Int32)) / (3 : Int32)) * (3 : Int32)))), .unset, .unset, .unset, .unset] [])) _
    refine XS.iloadN X0.here hx rfl (hb hby at_7) rfl ?_
    show Steps p.tables e below (s₁.setTop (mkF m 8 #[.val (.int p1), .val (.int ((p1 &&& (2147483647 : Int32)) - (((p1 &&& (2147483647 : Int32)) / (3 : Int32)) * (3 : Int32)))), .unset, .unset, .unset, .unset] [(.int ((p1 &&& (2147483647 : Int32)) - (((p1 &&& (2147483647 : Int32)) / (3 : Int32)) * (3 : Int32))))])) _
    refine XS.ifYes X0.here hx rfl (pc0 := 8) (pc' := 21) rfl (hb hby at_8) rfl ((if0 _ _).trans (feq (hk : ¬ (((p1 &&& (2147483647 : Int32)) - (((p1 &&& (2147483647 : Int32)) / (3 : Int32)) * (3 : Int32))) = (0 : Int32)))).2) (by decide) (by decide) ?_
    show Steps p.tables e below (s₁.setTop (mkF m 21 #[.val (.int p1), .val (.int ((p1 &&& (2147483647 : Int32)) - (((p1 &&& (2147483647 : Int32)) / (3 : Int32)) * (3 : Int32)))), .unset, .unset, .unset, .unset] [])) _
    refine XS.iloadN X0.here hx rfl (hb hby at_21) rfl ?_
    show Steps p.tables e below (s₁.setTop (mkF m 22 #[.val (.int p1), .val (.int ((p1 &&& (2147483647 : Int32)) - (((p1 &&& (2147483647 : Int32)) / (3 : Int32)) * (3 : Int32)))), .unset, .unset, .unset, .unset] [(.int ((p1 &&& (2147483647 : Int32)) - (((p1 &&& (2147483647 : Int32)) / (3 : Int32)) * (3 : Int32))))])) _
    refine XS.iconst X0.here hx rfl (hb hby at_22) ?_
    show Steps p.tables e below (s₁.setTop (mkF m 23 #[.val (.int p1), .val (.int ((p1 &&& (2147483647 : Int32)) - (((p1 &&& (2147483647 : Int32)) / (3 : Int32)) * (3 : Int32)))), .unset, .unset, .unset, .unset] [(.int (1 : Int32)), (.int ((p1 &&& (2147483647 : Int32)) - (((p1 &&& (2147483647 : Int32)) / (3 : Int32)) * (3 : Int32))))])) _
    refine XS.icmpYes X0.here hx rfl (pc0 := 23) (pc' := 35) rfl (hb hby at_23) rfl (feq (hk1 : ¬ (((p1 &&& (2147483647 : Int32)) - (((p1 &&& (2147483647 : Int32)) / (3 : Int32)) * (3 : Int32))) = (1 : Int32)))).2 (by decide) (by decide) ?_
    show Steps p.tables e below (s₁.setTop (mkF m 35 #[.val (.int p1), .val (.int ((p1 &&& (2147483647 : Int32)) - (((p1 &&& (2147483647 : Int32)) / (3 : Int32)) * (3 : Int32)))), .unset, .unset, .unset, .unset] [])) _
    refine st1_ _ ?_
    show Steps p.tables e below (T1_.setTop (mkF m 38 #[.val (.int p1), .val (.int ((p1 &&& (2147483647 : Int32)) - (((p1 &&& (2147483647 : Int32)) / (3 : Int32)) * (3 : Int32)))), .unset, .unset, .unset, .unset] [(.ref oA)])) _
    refine XS.astoreN X1_.here hx rfl (hb hby at_38) rfl rfl (l' := #[.val (.int p1), .val (.int ((p1 &&& (2147483647 : Int32)) - (((p1 &&& (2147483647 : Int32)) / (3 : Int32)) * (3 : Int32)))), .val (.ref oA), .unset, .unset, .unset]) rfl ?_
    show Steps p.tables e below (T1_.setTop (mkF m 39 #[.val (.int p1), .val (.int ((p1 &&& (2147483647 : Int32)) - (((p1 &&& (2147483647 : Int32)) / (3 : Int32)) * (3 : Int32)))), .val (.ref oA), .unset, .unset, .unset] [])) _
    refine XS.bipush X1_.here hx rfl (hb hby at_39) ?_
    show Steps p.tables e below (T1_.setTop (mkF m 41 #[.val (.int p1), .val (.int ((p1 &&& (2147483647 : Int32)) - (((p1 &&& (2147483647 : Int32)) / (3 : Int32)) * (3 : Int32)))), .val (.ref oA), .unset, .unset, .unset] [(.int (8 : Int32))])) _
    refine XS.istoreN X1_.here hx rfl (hb hby at_41) rfl (l' := #[.val (.int p1), .val (.int ((p1 &&& (2147483647 : Int32)) - (((p1 &&& (2147483647 : Int32)) / (3 : Int32)) * (3 : Int32)))), .val (.ref oA), .val (.int (8 : Int32)), .unset, .unset]) rfl ?_
    show Steps p.tables e below (T1_.setTop (mkF m 42 #[.val (.int p1), .val (.int ((p1 &&& (2147483647 : Int32)) - (((p1 &&& (2147483647 : Int32)) / (3 : Int32)) * (3 : Int32)))), .val (.ref oA), .val (.int (8 : Int32)), .unset, .unset] [])) _
    refine XS.aloadN X1_.here hx rfl (hb hby at_42) rfl rfl ?_
    show Steps p.tables e below (T1_.setTop (mkF m 43 #[.val (.int p1), .val (.int ((p1 &&& (2147483647 : Int32)) - (((p1 &&& (2147483647 : Int32)) / (3 : Int32)) * (3 : Int32)))), .val (.ref oA), .val (.int (8 : Int32)), .unset, .unset] [(.ref oA)])) _
    refine st2_.trans ?_
    show Steps p.tables e below (T2_.setTop (mkF m 46 #[.val (.int p1), .val (.int ((p1 &&& (2147483647 : Int32)) - (((p1 &&& (2147483647 : Int32)) / (3 : Int32)) * (3 : Int32)))), .val (.ref oA), .val (.int (8 : Int32)), .unset, .unset] [(.int ((6 : Int32) + (2 : Int32)))])) _
    refine XS.iloadN X2_.here hx rfl (hb hby at_46) rfl ?_
    show Steps p.tables e below (T2_.setTop (mkF m 47 #[.val (.int p1), .val (.int ((p1 &&& (2147483647 : Int32)) - (((p1 &&& (2147483647 : Int32)) / (3 : Int32)) * (3 : Int32)))), .val (.ref oA), .val (.int (8 : Int32)), .unset, .unset] [(.int (8 : Int32)), (.int ((6 : Int32) + (2 : Int32)))])) _
    refine XS.icmpNo X2_.here hx rfl (hb hby at_47) rfl (teq ((by decide) : ((6 : Int32) + (2 : Int32)) = (8 : Int32))).2 ?_
    show Steps p.tables e below (T2_.setTop (mkF m 50 #[.val (.int p1), .val (.int ((p1 &&& (2147483647 : Int32)) - (((p1 &&& (2147483647 : Int32)) / (3 : Int32)) * (3 : Int32)))), .val (.ref oA), .val (.int (8 : Int32)), .unset, .unset] [])) _
    refine XS.iconst X2_.here hx rfl (hb hby at_50) ?_
    show Steps p.tables e below (T2_.setTop (mkF m 51 #[.val (.int p1), .val (.int ((p1 &&& (2147483647 : Int32)) - (((p1 &&& (2147483647 : Int32)) / (3 : Int32)) * (3 : Int32)))), .val (.ref oA), .val (.int (8 : Int32)), .unset, .unset] [(.int (1 : Int32))])) _
    refine XS.goto X2_.here hx rfl (pc0 := 51) (pc' := 55) rfl (hb hby at_51) (by decide) (by decide) ?_
    show Steps p.tables e below (T2_.setTop (mkF m 55 #[.val (.int p1), .val (.int ((p1 &&& (2147483647 : Int32)) - (((p1 &&& (2147483647 : Int32)) / (3 : Int32)) * (3 : Int32)))), .val (.ref oA), .val (.int (8 : Int32)), .unset, .unset] [(.int (1 : Int32))])) _
    refine XS.istore X2_.here hx rfl (hb hby at_55) rfl (l' := #[.val (.int p1), .val (.int ((p1 &&& (2147483647 : Int32)) - (((p1 &&& (2147483647 : Int32)) / (3 : Int32)) * (3 : Int32)))), .val (.ref oA), .val (.int (8 : Int32)), .val (.int (1 : Int32)), .unset]) rfl ?_
    show Steps p.tables e below (T2_.setTop (mkF m 57 #[.val (.int p1), .val (.int ((p1 &&& (2147483647 : Int32)) - (((p1 &&& (2147483647 : Int32)) / (3 : Int32)) * (3 : Int32)))), .val (.ref oA), .val (.int (8 : Int32)), .val (.int (1 : Int32)), .unset] [])) _
    refine st4_ _ ?_
    show Steps p.tables e below (T4_.setTop (mkF m 60 #[.val (.int p1), .val (.int ((p1 &&& (2147483647 : Int32)) - (((p1 &&& (2147483647 : Int32)) / (3 : Int32)) * (3 : Int32)))), .val (.ref oA), .val (.int (8 : Int32)), .val (.int (1 : Int32)), .unset] [(.ref oA)])) _
    refine st5_.trans ?_
    show Steps p.tables e below (T5_.setTop (mkF m 63 #[.val (.int p1), .val (.int ((p1 &&& (2147483647 : Int32)) - (((p1 &&& (2147483647 : Int32)) / (3 : Int32)) * (3 : Int32)))), .val (.ref oA), .val (.int (8 : Int32)), .val (.int (1 : Int32)), .unset] [(.int ((6 : Int32) + (2 : Int32)))])) _
    refine st7_ _ ?_
    show Steps p.tables e below (T7_.setTop (mkF m 66 #[.val (.int p1), .val (.int ((p1 &&& (2147483647 : Int32)) - (((p1 &&& (2147483647 : Int32)) / (3 : Int32)) * (3 : Int32)))), .val (.ref oA), .val (.int (8 : Int32)), .val (.int (1 : Int32)), .unset] [(.ref oP), (.int ((6 : Int32) + (2 : Int32)))])) _
    refine st8_.trans ?_
    show Steps p.tables e below (T8_.setTop (mkF m 69 #[.val (.int p1), .val (.int ((p1 &&& (2147483647 : Int32)) - (((p1 &&& (2147483647 : Int32)) / (3 : Int32)) * (3 : Int32)))), .val (.ref oA), .val (.int (8 : Int32)), .val (.int (1 : Int32)), .unset] [(.int ((6 : Int32) + (0 : Int32))), (.int ((6 : Int32) + (2 : Int32)))])) _
    refine st10_ _ ?_
    show Steps p.tables e below (T10_.setTop (mkF m 72 #[.val (.int p1), .val (.int ((p1 &&& (2147483647 : Int32)) - (((p1 &&& (2147483647 : Int32)) / (3 : Int32)) * (3 : Int32)))), .val (.ref oA), .val (.int (8 : Int32)), .val (.int (1 : Int32)), .unset] [(.ref oB), (.int ((6 : Int32) + (0 : Int32))), (.int ((6 : Int32) + (2 : Int32)))])) _
    refine st11_.trans ?_
    show Steps p.tables e below (T11_.setTop (mkF m 75 #[.val (.int p1), .val (.int ((p1 &&& (2147483647 : Int32)) - (((p1 &&& (2147483647 : Int32)) / (3 : Int32)) * (3 : Int32)))), .val (.ref oA), .val (.int (8 : Int32)), .val (.int (1 : Int32)), .unset] [(.int ((0 : Int32) + (2 : Int32))), (.int ((6 : Int32) + (0 : Int32))), (.int ((6 : Int32) + (2 : Int32)))])) _
    refine XS.iadd X11_.here hx rfl (hb hby at_75) rfl ?_
    show Steps p.tables e below (T11_.setTop (mkF m 76 #[.val (.int p1), .val (.int ((p1 &&& (2147483647 : Int32)) - (((p1 &&& (2147483647 : Int32)) / (3 : Int32)) * (3 : Int32)))), .val (.ref oA), .val (.int (8 : Int32)), .val (.int (1 : Int32)), .unset] [(.int (((6 : Int32) + (0 : Int32)) + ((0 : Int32) + (2 : Int32)))), (.int ((6 : Int32) + (2 : Int32)))])) _
    refine XS.icmpNo X11_.here hx rfl (hb hby at_76) rfl (teq ((by decide) : ((6 : Int32) + (2 : Int32)) = (((6 : Int32) + (0 : Int32)) + ((0 : Int32) + (2 : Int32))))).2 ?_
    show Steps p.tables e below (T11_.setTop (mkF m 79 #[.val (.int p1), .val (.int ((p1 &&& (2147483647 : Int32)) - (((p1 &&& (2147483647 : Int32)) / (3 : Int32)) * (3 : Int32)))), .val (.ref oA), .val (.int (8 : Int32)), .val (.int (1 : Int32)), .unset] [])) _
    refine XS.iconst X11_.here hx rfl (hb hby at_79) ?_
    show Steps p.tables e below (T11_.setTop (mkF m 80 #[.val (.int p1), .val (.int ((p1 &&& (2147483647 : Int32)) - (((p1 &&& (2147483647 : Int32)) / (3 : Int32)) * (3 : Int32)))), .val (.ref oA), .val (.int (8 : Int32)), .val (.int (1 : Int32)), .unset] [(.int (1 : Int32))])) _
    refine XS.goto X11_.here hx rfl (pc0 := 80) (pc' := 84) rfl (hb hby at_80) (by decide) (by decide) ?_
    show Steps p.tables e below (T11_.setTop (mkF m 84 #[.val (.int p1), .val (.int ((p1 &&& (2147483647 : Int32)) - (((p1 &&& (2147483647 : Int32)) / (3 : Int32)) * (3 : Int32)))), .val (.ref oA), .val (.int (8 : Int32)), .val (.int (1 : Int32)), .unset] [(.int (1 : Int32))])) _
    refine XS.istore X11_.here hx rfl (hb hby at_84) rfl (l' := #[.val (.int p1), .val (.int ((p1 &&& (2147483647 : Int32)) - (((p1 &&& (2147483647 : Int32)) / (3 : Int32)) * (3 : Int32)))), .val (.ref oA), .val (.int (8 : Int32)), .val (.int (1 : Int32)), .val (.int (1 : Int32))]) rfl ?_
    show Steps p.tables e below (T11_.setTop (mkF m 86 #[.val (.int p1), .val (.int ((p1 &&& (2147483647 : Int32)) - (((p1 &&& (2147483647 : Int32)) / (3 : Int32)) * (3 : Int32)))), .val (.ref oA), .val (.int (8 : Int32)), .val (.int (1 : Int32)), .val (.int (1 : Int32))] [])) _
    refine XS.iload X11_.here hx rfl (hb hby at_86) rfl ?_
    show Steps p.tables e below (T11_.setTop (mkF m 88 #[.val (.int p1), .val (.int ((p1 &&& (2147483647 : Int32)) - (((p1 &&& (2147483647 : Int32)) / (3 : Int32)) * (3 : Int32)))), .val (.ref oA), .val (.int (8 : Int32)), .val (.int (1 : Int32)), .val (.int (1 : Int32))] [(.int (1 : Int32))])) _
    refine XS.ifNo X11_.here hx rfl (hb hby at_88) rfl ((if0 _ _).trans (feq ((by decide) : ¬ ((1 : Int32) = (0 : Int32)))).1) ?_
    show Steps p.tables e below (T11_.setTop (mkF m 91 #[.val (.int p1), .val (.int ((p1 &&& (2147483647 : Int32)) - (((p1 &&& (2147483647 : Int32)) / (3 : Int32)) * (3 : Int32)))), .val (.ref oA), .val (.int (8 : Int32)), .val (.int (1 : Int32)), .val (.int (1 : Int32))] [])) _
    refine XS.iload X11_.here hx rfl (hb hby at_91) rfl ?_
    show Steps p.tables e below (T11_.setTop (mkF m 93 #[.val (.int p1), .val (.int ((p1 &&& (2147483647 : Int32)) - (((p1 &&& (2147483647 : Int32)) / (3 : Int32)) * (3 : Int32)))), .val (.ref oA), .val (.int (8 : Int32)), .val (.int (1 : Int32)), .val (.int (1 : Int32))] [(.int (1 : Int32))])) _
    refine XS.ifNo X11_.here hx rfl (hb hby at_93) rfl ((if0 _ _).trans (feq ((by decide) : ¬ ((1 : Int32) = (0 : Int32)))).1) ?_
    show Steps p.tables e below (T11_.setTop (mkF m 96 #[.val (.int p1), .val (.int ((p1 &&& (2147483647 : Int32)) - (((p1 &&& (2147483647 : Int32)) / (3 : Int32)) * (3 : Int32)))), .val (.ref oA), .val (.int (8 : Int32)), .val (.int (1 : Int32)), .val (.int (1 : Int32))] [])) _
    refine XS.iconst X11_.here hx rfl (hb hby at_96) ?_
    show Steps p.tables e below (T11_.setTop (mkF m 97 #[.val (.int p1), .val (.int ((p1 &&& (2147483647 : Int32)) - (((p1 &&& (2147483647 : Int32)) / (3 : Int32)) * (3 : Int32)))), .val (.ref oA), .val (.int (8 : Int32)), .val (.int (1 : Int32)), .val (.int (1 : Int32))] [(.int (1 : Int32))])) _
    refine XS.goto X11_.here hx rfl (pc0 := 97) (pc' := 101) rfl (hb hby at_97) (by decide) (by decide) ?_
    show Steps p.tables e below (T11_.setTop (mkF m 101 #[.val (.int p1), .val (.int ((p1 &&& (2147483647 : Int32)) - (((p1 &&& (2147483647 : Int32)) / (3 : Int32)) * (3 : Int32)))), .val (.ref oA), .val (.int (8 : Int32)), .val (.int (1 : Int32)), .val (.int (1 : Int32))] [(.int (1 : Int32))])) _
    exact retN X11_ hx (t := .boolean) Bd.returns (by simp) (hb hby at_101) hr
  · show Q_rm0c Z p1 oP oB oA w4 eR pP eP qP fP pA eA qA qB h0 n0 _ T11_.heap _
    rw [ek11_]
    exact ⟨rfl, N11_⟩
set_option maxRecDepth 65536 in
set_option maxHeartbeats 40000000 in
theorem comes_1 {Post : Tables → Env → Array Value → State → Outcome → State → Prop} (hpost : ∀ tb e args s v u, (limb_1_1.after args s (.returned v) u = true ∧ limb_1_2.after args s (.returned v) u = true ∧ True) → FrameEnd s (.returned v) u (Jvm.fieldLocs frame_1_writes args s ++ Jvm.arrayLocs frame_1_arrays args s ++ Jvm.staticLocs frame_1_statics s) 0 0 → Post tb e args s (.returned v) u) :
    ArmFor flags0 classFile x code maxLocals ret World_1 tables_1 room_1 Calls_1 rest_1 Pre_1 Post := by
  intro l hfl _ _ p e ha hc hk s m args below hf hA hF happ hP
  obtain ⟨hcalls, hrest, hpre⟩ := hP
  obtain ⟨-, -, -, hnamed, -, -, -, hat⟩ := (Spec.applies_iff hf).mp happ
  obtain ⟨hg, hn⟩ := and_e (Cond.before_iff.mp (show (Jvm.Cond.and given_1 narrow_1).before args s = true from hpre))
  obtain ⟨g9, g10⟩ := and_e hg
  obtain ⟨w0, rfl⟩ : ∃ w0 : Value, args = #[w0] := by
    have hs : args.size = 1 := by simpa [Cond.value, given_1] using g9
    obtain ⟨L⟩ := args
    match L, hs with
    | [w0], _ => exact ⟨w0, rfl⟩
  have hw := fun d (hd : d ∈ tables_1) => atoms_spec (ws := Jvm.Cond.code x code maxLocals ret :: tables_1) hat d (List.mem_cons_of_mem _ hd)
  obtain ⟨hsets, hown0⟩ := atoms_of _ (rest_1_c_eq ▸ (show rest_1_c.before _ s = true from hrest))
  obtain ⟨i0, ei0⟩ := is_v g10
  obtain rfl : w0 = (.int i0) := Option.some.inj ei0
  obtain ⟨n1, m1⟩ := and_e hn
  obtain ⟨n2, m2⟩ := and_e m1
  obtain ⟨n3, m3⟩ := and_e m2
  obtain ⟨n4, m4⟩ := and_e m3
  obtain ⟨n5, m5⟩ := and_e m4
  obtain ⟨n6, m6⟩ := and_e m5
  obtain ⟨n7, m7⟩ := and_e m6
  obtain ⟨n8, m8⟩ := and_e m7
  obtain ⟨n9, m9⟩ := and_e m8
  obtain ⟨n10, m10⟩ := and_e m9
  obtain ⟨n11, m11⟩ := and_e m10
  obtain ⟨n12, m12⟩ := and_e m11
  obtain ⟨n13, m13⟩ := and_e m12
  obtain ⟨n14, m14⟩ := and_e m13
  obtain ⟨n15, m15⟩ := and_e m14
  obtain ⟨n16, m16⟩ := and_e m15
  obtain ⟨n17, m17⟩ := and_e m16
  have n18 := m17
  obtain ⟨oP, vP⟩ := exa_v n1
  have E_P := Exa.start vP n1
  have S_POST := Sta.start vP (Or.inr ⟨(hw _ (List.mem_of_getElem? (i := 2) rfl)), (hw _ (List.mem_of_getElem? (i := 3) rfl))⟩)
  obtain ⟨pP, v1⟩ := exa_v n2
  have P1 := own_fld vP v1
  have P2 := Exa.start v1 n2
  obtain ⟨eP, v2⟩ := arr_v n3
  have P3 := own_fld v1 v2
  have P4 := own_len v2 n3 n4 (by decide)
  obtain ⟨qP, v3⟩ := exa_v n5
  have P5 := own_fld vP v3
  have P6 := Exa.start v3 n5
  obtain ⟨fP, v4⟩ := arr_v n6
  have P7 := own_fld v3 v4
  have P8 := own_len v4 n6 n7 (by decide)
  obtain ⟨oA, vA⟩ := exa_v n8
  have E_A := Exa.start vA n8
  have S_ALL := Sta.start vA (Or.inr ⟨(hw _ (List.mem_of_getElem? (i := 2) rfl)), (hw _ (List.mem_of_getElem? (i := 26) rfl))⟩)
  obtain ⟨pA, v5⟩ := exa_v n9
  have A1 := own_fld vA v5
  have A2 := Exa.start v5 n9
  obtain ⟨eA, v6⟩ := arr_v n10
  have A3 := own_fld v5 v6
  have A4 := own_len v6 n10 n11 (by decide)
  obtain ⟨qA, v7⟩ := exa_v n12
  have A5 := own_fld vA v7
  have A6 := Exa.start v7 n12
  obtain ⟨eR, vR⟩ := exa_v n13
  have E_R := Exa.start vR n13
  have A7 := own_fld v7 (own_eqR vR n14)
  obtain ⟨oB, vB⟩ := exa_v n15
  have E_B := Exa.start vB n15
  have S_BLOG := Sta.start vB (Or.inr ⟨(hw _ (List.mem_of_getElem? (i := 2) rfl)), (hw _ (List.mem_of_getElem? (i := 41) rfl))⟩)
  have B1 := own_fld vB (own_eqR v3 n16)
  obtain ⟨qB, v8⟩ := exa_v n17
  have B5 := own_fld vB v8
  have B6 := Exa.start v8 n17
  have B7 := own_fld v8 (own_eqR vR n18)
  have x0 := Cond.before_iff.mp (hsets _ (List.mem_of_getElem? (i := 2) rfl))
  obtain ⟨w4, vE⟩ := exa_v x0
  have E_E := Exa.start vE x0
  have S_EMPTY := Sta.start vE (Or.inl (hsets _ (List.mem_of_getElem? (i := 1) rfl)))
  have neR : eR ≠ w4 := ne_exa E_R E_E (by decide)
  by_cases k0 : ((i0 &&& (2147483647 : Int32)) - (((i0 &&& (2147483647 : Int32)) / (3 : Int32)) * (3 : Int32))) = (0 : Int32)
  · obtain ⟨n, o, h1, h2, h3, _, L, rfl, ⟨rfl, N⟩, hq⟩ := rm0a l s _ hw tables_1 i0 oP oB oA w4 eR pP eP qP fP pA eA qA qB s.heap s.heap.size (Nat.le_refl _) S_POST S_BLOG S_ALL S_EMPTY (Old.start s) neR E_P E_B E_A P1 P2 P3 P4 P5 P6 P7 P8 A1 A2 A3 A4 A5 A6 A7 B1 B5 B6 B7 k0 p e ha hc hk s m _ below hf ((Spec.applies_iff_loose hf).mp happ).1 ⟨rfl, State.Warmed39.refl s, rfl⟩ trivial
    refine ⟨n, _, h1, h2, h3, hpost _ _ _ _ _ _ ⟨Cond.after_iff.mpr rfl, Cond.after_iff.mpr (eq_i res_at (Term.int_eval (1)) rfl), trivial⟩ ⟨hq.1, hq.2.1, (hq.2.2.sift fun y hy => Or.inr (N y hy)).mono (by decide) (by decide)⟩⟩
  · by_cases k1 : ((i0 &&& (2147483647 : Int32)) - (((i0 &&& (2147483647 : Int32)) / (3 : Int32)) * (3 : Int32))) = (1 : Int32)
    · obtain ⟨n, o, h1, h2, h3, _, L, rfl, ⟨rfl, N⟩, hq⟩ := rm0b l s _ hw tables_1 i0 oP oB oA w4 eR pP eP qP fP pA eA qA qB s.heap s.heap.size (Nat.le_refl _) S_POST S_BLOG S_ALL S_EMPTY (Old.start s) neR E_P E_B E_A P1 P2 P3 P4 P5 P6 P7 P8 A1 A2 A3 A4 A5 A6 A7 B1 B5 B6 B7 k0 k1 p e ha hc hk s m _ below hf ((Spec.applies_iff_loose hf).mp happ).1 ⟨rfl, State.Warmed39.refl s, rfl⟩ trivial
      refine ⟨n, _, h1, h2, h3, hpost _ _ _ _ _ _ ⟨Cond.after_iff.mpr rfl, Cond.after_iff.mpr (eq_i res_at (Term.int_eval (1)) rfl), trivial⟩ ⟨hq.1, hq.2.1, (hq.2.2.sift fun y hy => Or.inr (N y hy)).mono (by decide) (by decide)⟩⟩
    · obtain ⟨n, o, h1, h2, h3, _, L, rfl, ⟨rfl, N⟩, hq⟩ := rm0c l s _ hw tables_1 i0 oP oB oA w4 eR pP eP qP fP pA eA qA qB s.heap s.heap.size (Nat.le_refl _) S_POST S_BLOG S_ALL S_EMPTY (Old.start s) neR E_P E_B E_A P1 P2 P3 P4 P5 P6 P7 P8 A1 A2 A3 A4 A5 A6 A7 B1 B5 B6 B7 k0 k1 p e ha hc hk s m _ below hf ((Spec.applies_iff_loose hf).mp happ).1 ⟨rfl, State.Warmed39.refl s, rfl⟩ trivial
      refine ⟨n, _, h1, h2, h3, hpost _ _ _ _ _ _ ⟨Cond.after_iff.mpr rfl, Cond.after_iff.mpr (eq_i res_at (Term.int_eval (1)) rfl), trivial⟩ ⟨hq.1, hq.2.1, (hq.2.2.sift fun y hy => Or.inr (N y hy)).mono (by decide) (by decide)⟩⟩
theorem main_1_1 : Claimed_1_1 := comes_1 fun _ _ _ _ _ _ h hF => ⟨h.1, hF⟩
theorem main_1_2 : Claimed_1_2 := comes_1 fun _ _ _ _ _ _ h hF => ⟨h.2.1, hF⟩

end Jvm.Pilot.@@N@@
namespace Jvm.Pilot.@@N@@
open Jvm Jvm.ClassFile Sem Op Lib Jvm.Free Jvm.Stand Jvm.Pilot.@@N@@.Jvm.D
/-! MADE BY PROGRAM (witnessworld.py) out of the Statement's table words and the real class files: 25 classes; the members and pool entries that the words name. The judged class is class 1, her method 1. -/
namespace start1
open Jvm.ClassFile
def u (s : String) : CpInfo := .utf8 (stringToUtf16 s)
/-- a pool by its gaps: so many unusable entries, then the entry; so many at the end -/
def gap : Nat → List CpInfo → List CpInfo
  | 0, r => r
  | n + 1, r => .unusable :: gap n r
def poolList (es : List (Nat × CpInfo)) (last : Nat) : List CpInfo := es.foldr (fun e r => gap e.1 (e.2 :: r)) (gap last [])
def pool (es : List (Nat × CpInfo)) (last : Nat) : Array CpInfo := ⟨poolList es last⟩
def fileOf (pool : Array CpInfo) (this : Nat) (attrs : Array Attribute := #[]) (ms : Array MethodInfo := #[]) (fl : Nat := 33) (sup : Nat := 0) (ifs : Array Nat := #[]) (fds : Array FieldInfo := #[]) : ClassFile where
  minorVersion := 0
  majorVersion := 65
  constantPool := pool
  accessFlags := fl
  thisClass := this
  superClass := sup
  interfaces := ifs
  fields := fds
  methods := ms
  attributes := attrs
def plain (name : String) (sup : Option ClassId) : Class where
  name := name
  kind := .ordinary
  loader := none
  accessFlags := 33
  super := sup
  interfaces := #[]
  cf := none
  fields := #[]
  methods := #[]
  instanceTypes := #[]
  staticTypes := #[]
  resolved := #[]
  callSites := []
  init := .initialized
  statics := none
  mirror := none

def pool0 : Array CpInfo := pool [(5, u "<init>"), (0, u "()V"), (1, .class_ 10), (1, u "java/lang/Object")] 113

def k0m0 : Method := { name := "<init>", desc := "()V", sig := { parameters := [], returnType := none }, accessFlags := 1, code := none }
/-- java/lang/Object -/
def k0 : Class := { plain "java/lang/Object" none with
  accessFlags := 33
  interfaces := #[]
  cf := some (fileOf pool0 8 #[] #[{ accessFlags := 1, nameIndex := 5, descriptorIndex := 6, attributes := #[] }] 33 0 #[] #[])
  fields := #[]
  methods := #[k0m0]
  instanceTypes := #[]
  staticTypes := #[]
  resolved := Array.replicate 124 none
  statics := none }

def pool1 : Array CpInfo := pool [(2, .class_ 4), (1, u "java/lang/Object"), (0, u "<init>"), (0, u "()V"), (0, .integer 2147483647), (0, .fieldref 9 10), (0, .class_ 11), (0, .nameAndType 12 13), (0, u "com/example/nieuwmarkt/nieuwmarkt/signals/SignalGroup"), (0, u "POST"), (0, u "Lcom/example/nieuwmarkt/nieuwmarkt/signals/SignalGroup;"), (0, .fieldref 9 15), (0, .nameAndType 16 13), (0, u "BLOG"), (0, .fieldref 9 18), (0, .nameAndType 19 13), (0, u "ALL"), (0, .methodref 9 21), (0, .nameAndType 22 23), (0, u "size"), (0, u "()I"), (0, .class_ 25), (0, u "com/example/nieuwmarkt/nieuwmarkt/signals/SignalGroupSizePinLaw"), (2, u "law"), (0, u "(I)Z")] 3

def k1m0 : Method := { name := "<init>", desc := "()V", sig := { parameters := [], returnType := none }, accessFlags := 2, code := none }
def k1c1 : Code := { maxStack := 3, maxLocals := 6, code := code, exceptionTable := #[], attributes := #[] }
def k1m1 : Method := { name := "law", desc := "(I)Z", sig := { parameters := [.int], returnType := some .boolean }, accessFlags := 9, code := some k1c1 }
/-- com/example/nieuwmarkt/nieuwmarkt/signals/SignalGroupSizePinLaw -/
def k1 : Class := { plain "com/example/nieuwmarkt/nieuwmarkt/signals/SignalGroupSizePinLaw" (some 0) with
  accessFlags := 49
  interfaces := #[]
  cf := some (fileOf pool1 24 #[] #[{ accessFlags := 2, nameIndex := 5, descriptorIndex := 6, attributes := #[] }, { accessFlags := 9, nameIndex := 28, descriptorIndex := 29, attributes := #[] }] 49 2 #[] #[])
  fields := #[]
  methods := #[k1m0, k1m1]
  instanceTypes := #[]
  staticTypes := #[]
  resolved := Array.replicate 33 none
  statics := none }

def pool2 : Array CpInfo := pool [(1, .class_ 2), (0, u "java/lang/constant/Constable"), (0, .class_ 4), (0, u "java/lang/Object")] 6

/-- java/lang/constant/Constable -/
def k2 : Class := { plain "java/lang/constant/Constable" (some 0) with
  accessFlags := 1537
  interfaces := #[]
  cf := some (fileOf pool2 1 #[] #[] 1537 3 #[] #[])
  fields := #[]
  methods := #[]
  instanceTypes := #[]
  staticTypes := #[]
  resolved := Array.replicate 11 none
  statics := none }

def pool3 : Array CpInfo := pool [(1, .class_ 2), (0, u "java/lang/Comparable"), (0, .class_ 4), (0, u "java/lang/Object")] 7

/-- java/lang/Comparable -/
def k3 : Class := { plain "java/lang/Comparable" (some 0) with
  accessFlags := 1537
  interfaces := #[]
  cf := some (fileOf pool3 1 #[] #[] 1537 3 #[] #[])
  fields := #[]
  methods := #[]
  instanceTypes := #[]
  staticTypes := #[]
  resolved := Array.replicate 12 none
  statics := none }

def pool4 : Array CpInfo := pool [(1, .class_ 2), (0, u "java/io/Serializable"), (0, .class_ 4), (0, u "java/lang/Object")] 2

/-- java/io/Serializable -/
def k4 : Class := { plain "java/io/Serializable" (some 0) with
  accessFlags := 1537
  interfaces := #[]
  cf := some (fileOf pool4 1 #[] #[] 1537 3 #[] #[])
  fields := #[]
  methods := #[]
  instanceTypes := #[]
  staticTypes := #[]
  resolved := Array.replicate 7 none
  statics := none }

def pool5 : Array CpInfo := pool [(2, .class_ 4), (1, u "java/lang/Enum"), (0, u "name"), (0, u "Ljava/lang/String;"), (2, u "ordinal"), (0, u "I"), (1, .class_ 14), (1, u "java/lang/Object"), (4, u "hash"), (86, .class_ 108), (1, u "java/lang/Enum$EnumDesc"), (2, .class_ 112), (0, u "java/lang/constant/Constable"), (0, .class_ 114), (0, u "java/lang/Comparable"), (0, .class_ 116), (0, u "java/io/Serializable")] 87

/-- java/lang/Enum -/
def k5 : Class := { plain "java/lang/Enum" (some 0) with
  accessFlags := 1057
  interfaces := #[2, 3, 4]
  cf := some (fileOf pool5 2 #[.nestMembers #[106]] #[] 1057 12 #[111, 113, 115] #[{ accessFlags := 18, nameIndex := 5, descriptorIndex := 6, attributes := #[] }, { accessFlags := 18, nameIndex := 9, descriptorIndex := 10, attributes := #[] }, { accessFlags := 2, nameIndex := 19, descriptorIndex := 10, attributes := #[] }])
  fields := #[{ name := "name", type := (.object "java/lang/String"), accessFlags := 18, slot := 0, constantValue := 0 }, { name := "ordinal", type := .int, accessFlags := 18, slot := 1, constantValue := 0 }, { name := "hash", type := .int, accessFlags := 2, slot := 2, constantValue := 0 }]
  methods := #[]
  instanceTypes := #[(.object "java/lang/String"), .int, .int]
  staticTypes := #[]
  resolved := Array.replicate 204 none
  statics := none }

def pool6 : Array CpInfo := pool [(1, .class_ 2), (0, u "com/example/nieuwmarkt/nieuwmarkt/signals/SignalGroup"), (2, u "POST"), (0, u "Lcom/example/nieuwmarkt/nieuwmarkt/signals/SignalGroup;"), (2, u "BLOG"), (2, u "ALL"), (2, u "$VALUES"), (0, u "[Lcom/example/nieuwmarkt/nieuwmarkt/signals/SignalGroup;"), (6, .class_ 25), (1, u "java/lang/Enum"), (8, u "label"), (0, u "Ljava/lang/String;"), (0, .fieldref 1 37), (0, .nameAndType 38 39), (0, u "postSignals"), (0, u "Ljava/util/List;"), (0, .fieldref 1 41), (0, .nameAndType 42 39), (0, u "blogSignals"), (0, .interfaceMethodref 44 45), (0, .class_ 46), (0, .nameAndType 47 48), (0, u "java/util/List"), (0, u "size"), (0, u "()I")] 72

def k6c0 : Code := { maxStack := 2, maxLocals := 1, code := prog_34_method_5_code, exceptionTable := #[], attributes := #[] }
def k6m0 : Method := { name := "size", desc := "()I", sig := { parameters := [], returnType := some .int }, accessFlags := 1, code := some k6c0 }
/-- com/example/nieuwmarkt/nieuwmarkt/signals/SignalGroup -/
def k6 : Class := { plain "com/example/nieuwmarkt/nieuwmarkt/signals/SignalGroup" (some 5) with
  accessFlags := 16433
  interfaces := #[]
  cf := some (fileOf pool6 1 #[] #[{ accessFlags := 1, nameIndex := 47, descriptorIndex := 48, attributes := #[] }] 16433 23 #[] #[{ accessFlags := 16409, nameIndex := 5, descriptorIndex := 6, attributes := #[] }, { accessFlags := 16409, nameIndex := 9, descriptorIndex := 6, attributes := #[] }, { accessFlags := 16409, nameIndex := 12, descriptorIndex := 6, attributes := #[] }, { accessFlags := 18, nameIndex := 34, descriptorIndex := 35, attributes := #[] }, { accessFlags := 18, nameIndex := 38, descriptorIndex := 39, attributes := #[] }, { accessFlags := 18, nameIndex := 42, descriptorIndex := 39, attributes := #[] }, { accessFlags := 4122, nameIndex := 15, descriptorIndex := 16, attributes := #[] }])
  fields := #[{ name := "POST", type := (.object "com/example/nieuwmarkt/nieuwmarkt/signals/SignalGroup"), accessFlags := 16409, slot := 0, constantValue := 0 }, { name := "BLOG", type := (.object "com/example/nieuwmarkt/nieuwmarkt/signals/SignalGroup"), accessFlags := 16409, slot := 1, constantValue := 0 }, { name := "ALL", type := (.object "com/example/nieuwmarkt/nieuwmarkt/signals/SignalGroup"), accessFlags := 16409, slot := 2, constantValue := 0 }, { name := "label", type := (.object "java/lang/String"), accessFlags := 18, slot := 3, constantValue := 0 }, { name := "postSignals", type := (.object "java/util/List"), accessFlags := 18, slot := 4, constantValue := 0 }, { name := "blogSignals", type := (.object "java/util/List"), accessFlags := 18, slot := 5, constantValue := 0 }, { name := "$VALUES", type := (.array (.object "com/example/nieuwmarkt/nieuwmarkt/signals/SignalGroup")), accessFlags := 4122, slot := 3, constantValue := 0 }]
  methods := #[k6m0]
  instanceTypes := #[(.object "java/lang/String"), .int, .int, (.object "java/lang/String"), (.object "java/util/List"), (.object "java/util/List")]
  staticTypes := #[(.object "com/example/nieuwmarkt/nieuwmarkt/signals/SignalGroup"), (.object "com/example/nieuwmarkt/nieuwmarkt/signals/SignalGroup"), (.object "com/example/nieuwmarkt/nieuwmarkt/signals/SignalGroup"), (.array (.object "com/example/nieuwmarkt/nieuwmarkt/signals/SignalGroup"))]
  resolved := Array.replicate 121 none
  statics := some 0 }

def pool7 : Array CpInfo := pool [(8, .class_ 10), (1, u "java/lang/Iterable"), (24, .class_ 36), (0, u "java/lang/Object")] 25

/-- java/lang/Iterable -/
def k7 : Class := { plain "java/lang/Iterable" (some 0) with
  accessFlags := 1537
  interfaces := #[]
  cf := some (fileOf pool7 8 #[] #[] 1537 35 #[] #[])
  fields := #[]
  methods := #[]
  instanceTypes := #[]
  staticTypes := #[]
  resolved := Array.replicate 62 none
  statics := none }

def pool8 : Array CpInfo := pool [(10, .class_ 12), (1, u "java/util/Collection"), (47, .class_ 61), (0, u "java/lang/Object"), (0, .class_ 63), (0, u "java/lang/Iterable")] 51

/-- java/util/Collection -/
def k8 : Class := { plain "java/util/Collection" (some 0) with
  accessFlags := 1537
  interfaces := #[7]
  cf := some (fileOf pool8 10 #[] #[] 1537 60 #[62] #[])
  fields := #[]
  methods := #[]
  instanceTypes := #[]
  staticTypes := #[]
  resolved := Array.replicate 115 none
  statics := none }

def pool9 : Array CpInfo := pool [(8, .class_ 10), (1, u "java/util/SequencedCollection"), (15, .class_ 27), (0, u "java/lang/Object"), (0, .class_ 29), (0, u "java/util/Collection")] 27

/-- java/util/SequencedCollection -/
def k9 : Class := { plain "java/util/SequencedCollection" (some 0) with
  accessFlags := 1537
  interfaces := #[8]
  cf := some (fileOf pool9 8 #[] #[] 1537 26 #[28] #[])
  fields := #[]
  methods := #[]
  instanceTypes := #[]
  staticTypes := #[]
  resolved := Array.replicate 57 none
  statics := none }

def pool10 : Array CpInfo := pool [(8, .class_ 10), (1, u "java/util/List"), (68, u "size"), (0, u "()I"), (22, .class_ 104), (0, u "java/lang/Object"), (15, .class_ 121), (0, u "java/util/SequencedCollection")] 129

def k10m0 : Method := { name := "size", desc := "()I", sig := { parameters := [], returnType := some .int }, accessFlags := 1025, code := none }
/-- java/util/List -/
def k10 : Class := { plain "java/util/List" (some 0) with
  accessFlags := 1537
  interfaces := #[9]
  cf := some (fileOf pool10 8 #[] #[{ accessFlags := 1025, nameIndex := 79, descriptorIndex := 80, attributes := #[] }] 1537 103 #[120] #[])
  fields := #[]
  methods := #[k10m0]
  instanceTypes := #[]
  staticTypes := #[]
  resolved := Array.replicate 251 none
  statics := none }

def pool11 : Array CpInfo := pool [(2, .class_ 4), (1, u "java/lang/Object"), (0, u "<init>"), (0, u "()V"), (1, .class_ 10), (1, u "java/util/AbstractCollection"), (66, .class_ 78), (0, u "java/util/Collection")] 81

def k11m0 : Method := { name := "<init>", desc := "()V", sig := { parameters := [], returnType := none }, accessFlags := 4, code := none }
/-- java/util/AbstractCollection -/
def k11 : Class := { plain "java/util/AbstractCollection" (some 0) with
  accessFlags := 1057
  interfaces := #[8]
  cf := some (fileOf pool11 8 #[] #[{ accessFlags := 4, nameIndex := 5, descriptorIndex := 6, attributes := #[] }] 1057 2 #[77] #[])
  fields := #[]
  methods := #[k11m0]
  instanceTypes := #[]
  staticTypes := #[]
  resolved := Array.replicate 160 none
  statics := none }

def pool12 : Array CpInfo := pool [(2, .class_ 4), (1, u "java/util/AbstractCollection"), (0, u "<init>"), (0, u "()V"), (1, .class_ 10), (1, u "java/util/ImmutableCollections"), (2, .class_ 14), (0, u "java/util/ImmutableCollections$AbstractImmutableCollection")] 41

def k12m0 : Method := { name := "<init>", desc := "()V", sig := { parameters := [], returnType := none }, accessFlags := 0, code := none }
/-- java/util/ImmutableCollections$AbstractImmutableCollection -/
def k12 : Class := { plain "java/util/ImmutableCollections$AbstractImmutableCollection" (some 11) with
  accessFlags := 1056
  interfaces := #[]
  cf := some (fileOf pool12 13 #[.nestHost 8] #[{ accessFlags := 0, nameIndex := 5, descriptorIndex := 6, attributes := #[] }] 1056 2 #[] #[])
  fields := #[]
  methods := #[k12m0]
  instanceTypes := #[]
  staticTypes := #[]
  resolved := Array.replicate 56 none
  statics := none }

def pool13 : Array CpInfo := pool [(1, .class_ 2), (0, u "java/util/RandomAccess"), (0, .class_ 4), (0, u "java/lang/Object")] 2

/-- java/util/RandomAccess -/
def k13 : Class := { plain "java/util/RandomAccess" (some 0) with
  accessFlags := 1537
  interfaces := #[]
  cf := some (fileOf pool13 1 #[] #[] 1537 3 #[] #[])
  fields := #[]
  methods := #[]
  instanceTypes := #[]
  staticTypes := #[]
  resolved := Array.replicate 7 none
  statics := none }

def pool14 : Array CpInfo := pool [(2, .class_ 4), (1, u "java/util/ImmutableCollections$AbstractImmutableCollection"), (0, u "<init>"), (0, u "()V"), (1, .class_ 10), (1, u "java/util/ImmutableCollections"), (3, .class_ 16), (1, u "java/util/ImmutableCollections$AbstractImmutableList"), (60, .class_ 78), (0, u "java/util/List"), (45, .class_ 125), (0, u "java/util/RandomAccess")] 70

def k14m0 : Method := { name := "<init>", desc := "()V", sig := { parameters := [], returnType := none }, accessFlags := 0, code := none }
/-- java/util/ImmutableCollections$AbstractImmutableList -/
def k14 : Class := { plain "java/util/ImmutableCollections$AbstractImmutableList" (some 12) with
  accessFlags := 1056
  interfaces := #[10, 13]
  cf := some (fileOf pool14 14 #[.nestHost 8] #[{ accessFlags := 0, nameIndex := 5, descriptorIndex := 6, attributes := #[] }] 1056 2 #[77, 124] #[])
  fields := #[]
  methods := #[k14m0]
  instanceTypes := #[]
  staticTypes := #[]
  resolved := Array.replicate 196 none
  statics := none }

def pool15 : Array CpInfo := pool [(2, .class_ 4), (1, u "java/util/ImmutableCollections$AbstractImmutableList"), (2, .fieldref 8 9), (0, .class_ 10), (0, .nameAndType 11 12), (0, u "java/util/ImmutableCollections$ListN"), (0, u "elements"), (0, u "[Ljava/lang/Object;"), (2, u "allowNulls"), (0, u "Z"), (42, .class_ 60), (0, u "java/io/Serializable"), (16, u "size"), (0, u "()I"), (35, .class_ 115), (0, u "java/util/ImmutableCollections")] 3

def k15c0 : Code := { maxStack := 1, maxLocals := 1, code := jdk_45_method_3_code, exceptionTable := #[], attributes := #[] }
def k15m0 : Method := { name := "size", desc := "()I", sig := { parameters := [], returnType := some .int }, accessFlags := 1, code := some k15c0 }
/-- java/util/ImmutableCollections$ListN -/
def k15 : Class := { plain "java/util/ImmutableCollections$ListN" (some 14) with
  accessFlags := 48
  interfaces := #[4]
  cf := some (fileOf pool15 8 #[.nestHost 114] #[{ accessFlags := 1, nameIndex := 77, descriptorIndex := 78, attributes := #[] }] 48 2 #[59] #[{ accessFlags := 18, nameIndex := 11, descriptorIndex := 12, attributes := #[] }, { accessFlags := 18, nameIndex := 15, descriptorIndex := 16, attributes := #[] }])
  fields := #[{ name := "elements", type := (.array (.object "java/lang/Object")), accessFlags := 18, slot := 0, constantValue := 0 }, { name := "allowNulls", type := .boolean, accessFlags := 18, slot := 1, constantValue := 0 }]
  methods := #[k15m0]
  instanceTypes := #[(.array (.object "java/lang/Object")), .boolean]
  staticTypes := #[]
  resolved := Array.replicate 119 none
  statics := none }

def pool16 : Array CpInfo := pool [(2, .class_ 4), (1, u "java/util/ImmutableCollections$AbstractImmutableList"), (9, .class_ 16), (1, u "java/util/ImmutableCollections$List12"), (0, u "e0"), (0, u "Ljava/lang/Object;"), (0, .fieldref 20 21), (0, .class_ 22), (0, .nameAndType 23 18), (0, u "java/util/ImmutableCollections"), (0, u "EMPTY"), (0, .fieldref 14 25), (0, .nameAndType 26 18), (0, u "e1"), (24, u "size"), (0, u "()I"), (17, .class_ 71), (0, u "java/io/Serializable")] 53

def k16c0 : Code := { maxStack := 2, maxLocals := 1, code := jdk_44_method_3_code, exceptionTable := #[], attributes := #[] }
def k16m0 : Method := { name := "size", desc := "()I", sig := { parameters := [], returnType := some .int }, accessFlags := 1, code := some k16c0 }
/-- java/util/ImmutableCollections$List12 -/
def k16 : Class := { plain "java/util/ImmutableCollections$List12" (some 14) with
  accessFlags := 48
  interfaces := #[4]
  cf := some (fileOf pool16 14 #[.nestHost 20] #[{ accessFlags := 1, nameIndex := 51, descriptorIndex := 52, attributes := #[] }] 48 2 #[70] #[{ accessFlags := 18, nameIndex := 17, descriptorIndex := 18, attributes := #[] }, { accessFlags := 18, nameIndex := 26, descriptorIndex := 18, attributes := #[] }])
  fields := #[{ name := "e0", type := (.object "java/lang/Object"), accessFlags := 18, slot := 0, constantValue := 0 }, { name := "e1", type := (.object "java/lang/Object"), accessFlags := 18, slot := 1, constantValue := 0 }]
  methods := #[k16m0]
  instanceTypes := #[(.object "java/lang/Object"), (.object "java/lang/Object")]
  staticTypes := #[]
  resolved := Array.replicate 125 none
  statics := none }

def pool17 : Array CpInfo := pool [(1, .class_ 2), (0, u "com/example/nieuwmarkt/nieuwmarkt/signals/BlogSignal"), (2, u "PRONOUNS"), (0, u "Lcom/example/nieuwmarkt/nieuwmarkt/signals/BlogSignal;"), (2, u "REGULARITY"), (2, u "$VALUES"), (0, u "[Lcom/example/nieuwmarkt/nieuwmarkt/signals/BlogSignal;"), (6, .class_ 22), (1, u "java/lang/Enum"), (8, u "label"), (0, u "Ljava/lang/String;"), (2, u "value"), (0, u "Ljava/util/function/ToDoubleFunction;")] 78

/-- com/example/nieuwmarkt/nieuwmarkt/signals/BlogSignal -/
def k17 : Class := { plain "com/example/nieuwmarkt/nieuwmarkt/signals/BlogSignal" (some 5) with
  accessFlags := 16433
  interfaces := #[]
  cf := some (fileOf pool17 1 #[] #[] 16433 20 #[] #[{ accessFlags := 16409, nameIndex := 5, descriptorIndex := 6, attributes := #[] }, { accessFlags := 16409, nameIndex := 9, descriptorIndex := 6, attributes := #[] }, { accessFlags := 18, nameIndex := 31, descriptorIndex := 32, attributes := #[] }, { accessFlags := 18, nameIndex := 35, descriptorIndex := 36, attributes := #[] }, { accessFlags := 4122, nameIndex := 12, descriptorIndex := 13, attributes := #[] }])
  fields := #[{ name := "PRONOUNS", type := (.object "com/example/nieuwmarkt/nieuwmarkt/signals/BlogSignal"), accessFlags := 16409, slot := 0, constantValue := 0 }, { name := "REGULARITY", type := (.object "com/example/nieuwmarkt/nieuwmarkt/signals/BlogSignal"), accessFlags := 16409, slot := 1, constantValue := 0 }, { name := "label", type := (.object "java/lang/String"), accessFlags := 18, slot := 3, constantValue := 0 }, { name := "value", type := (.object "java/util/function/ToDoubleFunction"), accessFlags := 18, slot := 4, constantValue := 0 }, { name := "$VALUES", type := (.array (.object "com/example/nieuwmarkt/nieuwmarkt/signals/BlogSignal")), accessFlags := 4122, slot := 2, constantValue := 0 }]
  methods := #[]
  instanceTypes := #[(.object "java/lang/String"), .int, .int, (.object "java/lang/String"), (.object "java/util/function/ToDoubleFunction")]
  staticTypes := #[(.object "com/example/nieuwmarkt/nieuwmarkt/signals/BlogSignal"), (.object "com/example/nieuwmarkt/nieuwmarkt/signals/BlogSignal"), (.array (.object "com/example/nieuwmarkt/nieuwmarkt/signals/BlogSignal"))]
  resolved := Array.replicate 115 none
  statics := some 1 }

def pool18 : Array CpInfo := pool [(2, .class_ 4), (1, u "java/lang/Object"), (0, u "<init>"), (0, u "()V"), (3, .class_ 11), (0, u "java/util/ImmutableCollections$List12"), (0, .class_ 13), (0, u "java/util/ImmutableCollections$ListN"), (3, u "Z"), (29, .class_ 49), (1, u "java/util/ImmutableCollections"), (0, u "$assertionsDisabled"), (5, u "[Ljava/lang/Object;"), (5, u "EMPTY_LIST"), (0, u "Ljava/util/ImmutableCollections$ListN;"), (8, u "EMPTY_LIST_NULLS"), (22, u "SALT32L"), (0, u "J"), (2, u "REVERSE"), (6, u "archivedObjects"), (2, u "EMPTY"), (0, u "Ljava/lang/Object;"), (0, .class_ 112), (0, u "java/util/ImmutableCollections$SetN"), (5, u "EMPTY_SET"), (0, u "Ljava/util/ImmutableCollections$SetN;"), (0, .class_ 121), (0, u "java/util/ImmutableCollections$MapN"), (3, u "EMPTY_MAP"), (0, u "Ljava/util/ImmutableCollections$MapN;"), (4, u "EXPAND_FACTOR"), (0, u "I"), (36, .class_ 170), (0, u "java/util/ImmutableCollections$MapN$MapNIterator"), (0, .class_ 172), (0, u "java/util/ImmutableCollections$MapN$1"), (0, .class_ 174), (0, u "java/util/ImmutableCollections$Map1"), (0, .class_ 176), (0, u "java/util/ImmutableCollections$AbstractImmutableMap"), (0, .class_ 178), (0, u "java/util/ImmutableCollections$SetN$SetNIterator"), (0, .class_ 180), (0, u "java/util/ImmutableCollections$Set12"), (0, .class_ 182), (0, u "java/util/ImmutableCollections$Set12$1"), (0, .class_ 184), (0, u "java/util/ImmutableCollections$AbstractImmutableSet"), (0, .class_ 186), (0, u "java/util/ImmutableCollections$SubList"), (0, .class_ 188), (0, u "java/util/ImmutableCollections$ListItr"), (0, .class_ 190), (0, u "java/util/ImmutableCollections$AbstractImmutableList"), (0, .class_ 192), (0, u "java/util/ImmutableCollections$AbstractImmutableCollection"), (0, .class_ 194), (0, u "java/util/ImmutableCollections$Access"), (0, .class_ 196), (0, u "java/util/ImmutableCollections$Access$1")] 16

def k18m0 : Method := { name := "<init>", desc := "()V", sig := { parameters := [], returnType := none }, accessFlags := 2, code := none }
/-- java/util/ImmutableCollections -/
def k18 : Class := { plain "java/util/ImmutableCollections" (some 0) with
  accessFlags := 32
  interfaces := #[]
  cf := some (fileOf pool18 47 #[.nestMembers #[120, 169, 171, 173, 175, 111, 177, 179, 181, 183, 12, 10, 185, 187, 189, 191, 193, 195]] #[{ accessFlags := 2, nameIndex := 5, descriptorIndex := 6, attributes := #[] }] 32 2 #[] #[{ accessFlags := 26, nameIndex := 95, descriptorIndex := 96, attributes := #[] }, { accessFlags := 26, nameIndex := 99, descriptorIndex := 17, attributes := #[] }, { accessFlags := 10, nameIndex := 106, descriptorIndex := 56, attributes := #[] }, { accessFlags := 26, nameIndex := 109, descriptorIndex := 110, attributes := #[] }, { accessFlags := 24, nameIndex := 62, descriptorIndex := 63, attributes := #[] }, { accessFlags := 24, nameIndex := 72, descriptorIndex := 63, attributes := #[] }, { accessFlags := 24, nameIndex := 118, descriptorIndex := 119, attributes := #[] }, { accessFlags := 24, nameIndex := 125, descriptorIndex := 126, attributes := #[] }, { accessFlags := 24, nameIndex := 131, descriptorIndex := 132, attributes := #[] }, { accessFlags := 4120, nameIndex := 50, descriptorIndex := 17, attributes := #[] }])
  fields := #[{ name := "SALT32L", type := .long, accessFlags := 26, slot := 0, constantValue := 0 }, { name := "REVERSE", type := .boolean, accessFlags := 26, slot := 1, constantValue := 0 }, { name := "archivedObjects", type := (.array (.object "java/lang/Object")), accessFlags := 10, slot := 2, constantValue := 0 }, { name := "EMPTY", type := (.object "java/lang/Object"), accessFlags := 26, slot := 3, constantValue := 0 }, { name := "EMPTY_LIST", type := (.object "java/util/ImmutableCollections$ListN"), accessFlags := 24, slot := 4, constantValue := 0 }, { name := "EMPTY_LIST_NULLS", type := (.object "java/util/ImmutableCollections$ListN"), accessFlags := 24, slot := 5, constantValue := 0 }, { name := "EMPTY_SET", type := (.object "java/util/ImmutableCollections$SetN"), accessFlags := 24, slot := 6, constantValue := 0 }, { name := "EMPTY_MAP", type := (.object "java/util/ImmutableCollections$MapN"), accessFlags := 24, slot := 7, constantValue := 0 }, { name := "EXPAND_FACTOR", type := .int, accessFlags := 24, slot := 8, constantValue := 0 }, { name := "$assertionsDisabled", type := .boolean, accessFlags := 4120, slot := 9, constantValue := 0 }]
  methods := #[k18m0]
  instanceTypes := #[]
  staticTypes := #[.long, .boolean, (.array (.object "java/lang/Object")), (.object "java/lang/Object"), (.object "java/util/ImmutableCollections$ListN"), (.object "java/util/ImmutableCollections$ListN"), (.object "java/util/ImmutableCollections$SetN"), (.object "java/util/ImmutableCollections$MapN"), .int, .boolean]
  resolved := Array.replicate 213 none
  statics := some 2 }

def pool19 : Array CpInfo := pool [(1, u "java/lang/Cloneable"), (0, .class_ 1), (0, u "java/lang/Object"), (0, .class_ 3)] 3

/-- java/lang/Cloneable -/
def k19 : Class := { plain "java/lang/Cloneable" (some 0) with
  accessFlags := 1537
  interfaces := #[]
  cf := some (fileOf pool19 2 #[] #[] 1537 4 #[] #[])
  fields := #[]
  methods := #[]
  instanceTypes := #[]
  staticTypes := #[]
  resolved := Array.replicate 8 none
  statics := none }

/-- the primitive byte -/
def k20 : Class := { plain "byte" none with kind := .primitive 'B', accessFlags := 0x411 }
/-- [B -/
def k21 : Class := { plain "[B" (some 0) with kind := .array 20 .byte, interfaces := #[19, 4], accessFlags := 1041 }

/-- the primitive int -/
def k22 : Class := { plain "int" none with kind := .primitive 'I', accessFlags := 0x411 }
/-- [I -/
def k23 : Class := { plain "[I" (some 0) with kind := .array 22 .int, interfaces := #[19, 4], accessFlags := 1041 }

/-- [Ljava/lang/Object; -/
def k24 : Class := { plain "[Ljava/lang/Object;" (some 0) with kind := .array 0 (.object "java/lang/Object"), interfaces := #[19, 4], accessFlags := 1041 }

def heap : Heap := #[{ cls := 6, slots := #[.ref 13, .ref 14, .ref 15, .null], vm := .statics 6 },
  { cls := 17, slots := #[.null, .ref 11, .null], vm := .statics 17 },
  { cls := 18, slots := #[.long 0, .int 0, .null, .ref 12, .ref 16, .null, .null, .null, .int 0, .int 1], vm := .statics 18 },
  { cls := 24, slots := #[.null, .null, .null, .null, .null, .null], vm := .none },
  { cls := 24, slots := #[], vm := .none },
  { cls := 24, slots := #[.null, .null, .null, .null, .null, .null], vm := .none },
  { cls := 15, slots := #[.ref 3, .int 0], vm := .none },
  { cls := 15, slots := #[.ref 4, .int 0], vm := .none },
  { cls := 15, slots := #[.ref 5, .int 0], vm := .none },
  { cls := 16, slots := #[.null, .ref 11], vm := .none },
  { cls := 16, slots := #[.null, .ref 11], vm := .none },
  { cls := 17, slots := #[.null, .int 1, .int 0, .null, .null], vm := .none },
  { cls := 0, slots := #[], vm := .none },
  { cls := 6, slots := #[.null, .int 0, .int 0, .null, .ref 6, .ref 7], vm := .none },
  { cls := 6, slots := #[.null, .int 1, .int 0, .null, .ref 7, .ref 10], vm := .none },
  { cls := 6, slots := #[.null, .int 2, .int 0, .null, .ref 8, .ref 9], vm := .none },
  { cls := 15, slots := #[.ref 4, .int 0], vm := .none }]
def classes : Array Class := #[k0, k1, k2, k3, k4, k5, k6, k7, k8, k9, k10, k11, k12, k13, k14, k15, k16, k17, k18, k19, k20, k21, k22, k23, k24]
def interned : List (Array UInt16 × Addr) := []
def slotsUsed : Nat := 64
def theMethod : MethodId := ⟨1, 1⟩
def args0 : Array Value := #[.int 5]
def aboutOver (below : List Frame) : State where
  vm := { classes := classes, interned := interned.toArray }
  heap := heap
  slotsUsed := slotsUsed
  threads := #[{ frames := .invoking theMethod args0 :: below }]
def below0 : List Frame := [.native { method := ⟨0, 0⟩, args := #[] }]
def about1 : State := aboutOver below0
def p0 : Program := .bare "" "" ""
def e0 : Env := launch0.env 0 0 0
theorem w_frames : about1.frames = Frame.invoking theMethod args0 :: below0 := rfl
set_option maxRecDepth 65536 in
theorem w_args : argsFit about1.vm theMethod args0 = true := by decide +kernel
set_option maxRecDepth 65536 in
theorem w_heap : heapFits about1 = true := by decide +kernel
set_option maxRecDepth 65536 in
theorem w_runnable : about1.curStatus? = some .runnable := by decide +kernel
set_option maxRecDepth 65536 in
theorem w_alone : about1.alone = true := by decide +kernel
set_option maxRecDepth 65536 in
theorem w_named : about1.methodNamed? x = some theMethod := by decide +kernel
set_option maxRecDepth 65536 in
theorem w_hears : about1.hears theMethod below0 = true := by decide +kernel
set_option maxRecDepth 65536 in
theorem w_ripe : about1.ripe theMethod args0 below0 = true := by decide +kernel
theorem w_running : about1.status = .running := rfl
set_option maxRecDepth 65536 in
theorem w_room : about1.hasRoom e0.platform room_1 = true :=
  launch0.hasRoom_least _ room_1 (by decide +kernel) (by decide +kernel) (by decide +kernel) (by decide +kernel) (by decide +kernel) (by decide +kernel)
theorem allAtoms_all (ts : List Jvm.Cond) (a : Array Jvm.Value) (st : Jvm.State) : (allAtoms ts).before a st = ts.all (fun c => c.before a st) := by
  induction ts with
  | nil => rfl
  | cons c t ih =>
    show (Jvm.Cond.and c (allAtoms t)).before a st = _
    rw [Jvm.Cond.before_and, ih, List.all_cons]
def words1 : List Jvm.Cond := Jvm.Cond.code x code maxLocals ret :: tables_1
/-- a 'code' word, met by the world's own term for the bytes: nothing is compared byte by byte -/
theorem code_word {y : MethodName} {bytes : ByteArray} {mx : Nat} {rt : Option FieldType} {a : Array Value} {s : State} {m : MethodId} {meth : Method} {c : Code} (h1 : s.methodNamed? y = some m) (h2 : s.vm.method? m = some meth) (h3 : meth.code = some c) (h4 : c.code = bytes)
    (h5 : (c.maxLocals == mx && c.exceptionTable.isEmpty && decide (c.maxStack ≤ mostOperands) && decide (meth.sig.returnType = rt) && !meth.locks && decide (parseMethodDescriptor y.desc = some meth.sig)) = true) : (Jvm.Cond.code y bytes mx rt).before a s = true := by
  simp only [Bool.and_eq_true, beq_iff_eq, Bool.not_eq_true', decide_eq_true_eq] at h5
  obtain ⟨⟨⟨⟨⟨g1, g2⟩, g3⟩, g4⟩, g5⟩, g6⟩ := h5
  simp [Cond.before, Cond.holds, Cond.value, h1, h2, h3, h4, g1, g2, g3, g4, g5, g6]
def isCode : Jvm.Cond → Bool
  | .code _ _ _ _ => true
  | _ => false
theorem all_split {L : List Jvm.Cond} {P : Jvm.Cond → Bool} (h1 : L.all (fun c => isCode c || P c) = true) (h2 : ∀ c ∈ L.filter isCode, P c = true) : L.all P = true := by
  refine List.all_eq_true.mpr fun c hc => ?_
  have h := List.all_eq_true.mp h1 c hc
  rcases Bool.eq_false_or_eq_true (isCode c) with hi | hi
  · exact h2 c (List.mem_filter.mpr ⟨hc, hi⟩)
  · simpa [hi] using h
set_option maxRecDepth 65536 in
theorem w_c0 : (Jvm.Cond.code x code maxLocals ret).before args0 about1 = true := code_word (m := ⟨1, 1⟩) (meth := k1m1) (c := k1c1) (by decide +kernel) rfl rfl rfl (by decide +kernel)
set_option maxRecDepth 65536 in
theorem w_c1 : (Jvm.Cond.code ({ cls := "com/example/nieuwmarkt/nieuwmarkt/signals/SignalGroup", name := "size", desc := "()I" } : Jvm.MethodName) prog_34_method_5_code (1 : Nat) (Option.some Jvm.ClassFile.FieldType.int)).before args0 about1 = true := code_word (m := ⟨6, 0⟩) (meth := k6m0) (c := k6c0) (by decide +kernel) rfl rfl rfl (by decide +kernel)
set_option maxRecDepth 65536 in
theorem w_c2 : (Jvm.Cond.code ({ cls := "java/util/ImmutableCollections$ListN", name := "size", desc := "()I" } : Jvm.MethodName) jdk_45_method_3_code (1 : Nat) (Option.some Jvm.ClassFile.FieldType.int)).before args0 about1 = true := code_word (m := ⟨15, 0⟩) (meth := k15m0) (c := k15c0) (by decide +kernel) rfl rfl rfl (by decide +kernel)
set_option maxRecDepth 65536 in
theorem w_c3 : (Jvm.Cond.code ({ cls := "java/util/ImmutableCollections$List12", name := "size", desc := "()I" } : Jvm.MethodName) jdk_44_method_3_code (1 : Nat) (Option.some Jvm.ClassFile.FieldType.int)).before args0 about1 = true := code_word (m := ⟨16, 0⟩) (meth := k16m0) (c := k16c0) (by decide +kernel) rfl rfl rfl (by decide +kernel)
def codes1 : List Jvm.Cond := [Jvm.Cond.code x code maxLocals ret, Jvm.Cond.code ({ cls := "com/example/nieuwmarkt/nieuwmarkt/signals/SignalGroup", name := "size", desc := "()I" } : Jvm.MethodName) prog_34_method_5_code (1 : Nat) (Option.some Jvm.ClassFile.FieldType.int), Jvm.Cond.code ({ cls := "java/util/ImmutableCollections$ListN", name := "size", desc := "()I" } : Jvm.MethodName) jdk_45_method_3_code (1 : Nat) (Option.some Jvm.ClassFile.FieldType.int), Jvm.Cond.code ({ cls := "java/util/ImmutableCollections$List12", name := "size", desc := "()I" } : Jvm.MethodName) jdk_44_method_3_code (1 : Nat) (Option.some Jvm.ClassFile.FieldType.int)]
set_option maxRecDepth 65536 in
theorem codes_eq : words1.filter isCode = codes1 := rfl
theorem w_codes : ∀ c ∈ words1.filter isCode, c.before args0 about1 = true := by
  rw [codes_eq]
  intro c hc
  simp only [codes1, List.mem_cons, List.not_mem_nil, or_false] at hc
  rcases hc with rfl | rfl | rfl | rfl
  · exact w_c0
  · exact w_c1
  · exact w_c2
  · exact w_c3
set_option maxRecDepth 65536 in
theorem w_t1 : (words1.take 24).all (fun c => isCode c || c.before args0 about1) = true := by decide +kernel
set_option maxRecDepth 65536 in
theorem w_t2 : (words1.drop 24).all (fun c => isCode c || c.before args0 about1) = true := by decide +kernel
theorem w_tables : (allAtoms (Jvm.Cond.code x code maxLocals ret :: tables_1)).before args0 about1 = true := by
  rw [allAtoms_all]
  show words1.all (fun c => c.before args0 about1) = true
  refine all_split ?_ w_codes
  rw [← List.take_append_drop 24 words1, List.all_append, w_t1, w_t2]
  rfl
set_option maxRecDepth 65536 in
theorem w_rest : rest_1_c.before args0 about1 = true := by decide +kernel
set_option maxRecDepth 65536 in
theorem w_case : (Jvm.Cond.and given_1 narrow_1).before args0 about1 = true := by decide +kernel
theorem w_applies : (headSpec (Jvm.Cond.code x code maxLocals ret :: tables_1) room_1).applies x e0.platform about1 = true :=
  (Spec.applies_iff w_frames).mpr ⟨w_running, w_runnable, w_alone, w_named, w_hears, w_ripe, w_room, w_tables⟩
theorem atStart : AtStart classFile x code maxLocals ret World_1 tables_1 room_1 Calls_1 rest_1 Pre_1 launch0 p0 e0 about1 theMethod args0 below0 :=
  ⟨lists_1, trivial, launch0.admits_env _ _ _, launch0.least_env, fairChoices_fair.cas, fairChoices_fair.clock, w_frames, w_args, w_heap, w_applies, trivial, w_rest, w_case⟩
end start1
theorem witness_1 : WitnessClaimed_1 := ⟨start1.p0, start1.e0, start1.about1, start1.theMethod, start1.args0, start1.below0, start1.atStart⟩
end Jvm.Pilot.@@N@@
