import JvmDerived
import JvmDerived.Pilot.@@N@@Statement
import JvmDerived.Pilot.@@N@@Code
set_option linter.unusedVariables false
set_option linter.unusedSimpArgs false
namespace Jvm.RoadKit
open Sem ClassFile Op Lib Jvm.Stand Jvm.Free Jvm.LawKit
section New
variable {p : Program} {l : Launch} {e : Env} {R : Room} {s : State} {m : MethodId} {args : Array Value} {below : List Frame} {meth : Method} {c : Code} {T : State} {locs : List Loc} {cells slots : Nat}
theorem retI (X : Stand p l e R s m args below meth c T locs cells slots) (hx : p.tables.exec = Jvm.exec) {pc : Nat} {Ls : Array Slot} {z : Int32} {rest : List Value} (hret : meth.sig.returnType = some .int) (hd : decode c.code pc = .ok (.ireturn, 1)) {fs : List Frame}
    (hl : ∀ (f : JFrame) (acts : List Action), f.method = m → f.locked = none → f.entered = [] → (doReturn e (T.setTop f) acts (some (.int z))).1 = T.setFrames fs) : Steps p.tables e below (T.setTop (mkF m pc Ls (.int z :: rest))) (T.setFrames fs) := by
  have hm' : T.vm.method? m = some meth := X.method'
  have hn : narrow .int (.int z) = .int z := rfl
  show Steps p.tables e below (T.setTop { method := m, pc := pc, locals := Ls, stack := _ :: rest, locked := none }) _
  jvm_step X.here [X.here.top, hx, hd, hm', hret, hn]
  first | (intro acts; rw [hl _ acts rfl rfl rfl]) | rw [hl _ _ rfl rfl rfl]
  exact Steps.refl _
theorem retR (X : Stand p l e R s m args below meth c T locs cells slots) (hx : p.tables.exec = Jvm.exec) {pc : Nat} {Ls : Array Slot} {w : Value} {t : FieldType} {rest : List Value} (hret : meth.sig.returnType = some t) (hn : narrow t w = w) (ht : t.isReference = true) (hw : w.isRef = true) (hd : decode c.code pc = .ok (.areturn, 1)) {fs : List Frame}
    (hl : ∀ (f : JFrame) (acts : List Action), f.method = m → f.locked = none → f.entered = [] → (doReturn e (T.setTop f) acts (some w)).1 = T.setFrames fs) : Steps p.tables e below (T.setTop (mkF m pc Ls (w :: rest))) (T.setFrames fs) := by
  have hm' : T.vm.method? m = some meth := X.method'
  show Steps p.tables e below (T.setTop { method := m, pc := pc, locals := Ls, stack := _ :: rest, locked := none }) _
  jvm_step X.here [X.here.top, hx, hd, hm', hret, hn, hw]
  try (refine ⟨ht, ?_⟩)
  first | (intro acts; rw [hl _ acts rfl rfl rfl]) | rw [hl _ _ rfl rfl rfl]
  exact Steps.refl _
end New
end Jvm.RoadKit
namespace Jvm.Pilot.@@N@@
open Jvm Jvm.ClassFile Sem Op Lib Jvm.Free Jvm.Stand Jvm.LawKit Jvm.RoadKit Bundle Jvm.Pilot.@@N@@.Jvm.D
set_option maxRecDepth 65536
set_option maxHeartbeats 4000000
theorem wt {a0 : Array Value} {Z : State} (hw : ∀ d ∈ tables_1, d.before a0 Z = true) (i : Nat) {d : Jvm.Cond} (h : tables_1[i]? = some d) : d.before a0 Z = true := hw d (List.mem_of_getElem? h)
theorem own_decl {y : MethodName} {a0 : Array Value} {Z : State} {bytes : ByteArray} {mx : Nat} {rt : Option FieldType} (wi : (Cond.instanceMethod y).before a0 Z = true) (wc : (Cond.code y bytes mx rt).before a0 Z = true) : (Cond.declares y).before a0 Z = true := by
  obtain ⟨mk, methM, hnamed, hmethM, hst, -⟩ := Cond.instanceMethod_spec wi
  obtain ⟨m2, cM, q1, -, -, -, -, -, -, hsig⟩ := Cond.code_spec hnamed wc
  cases hmethM.symm.trans q1
  simp [Cond.before, Cond.holds, Cond.value, hnamed, hmethM, hst, hsig]
theorem own_same {y x2 y2 : MethodName} {C : String} {a0 : Array Value} {Z : State} (wi : (Cond.instanceMethod y).before a0 Z = true) (ws : (Cond.selects C x2 y2).before a0 Z = true) (hc : y2.cls = y.cls ∧ y.cls ≠ "java/lang/invoke/MethodHandle" ∧ y.cls ≠ "java/lang/invoke/VarHandle") : (Cond.sameMethod y.cls y.cls y.name y.desc).before a0 Z = true := by
  obtain ⟨mk, methM, hnamed, -, -, -⟩ := Cond.instanceMethod_spec wi
  obtain ⟨c2, r2, m2, -, -, q3, -, kP, hkP, hkPi⟩ := Cond.selects_spec ws
  have h1 := findClass_of_methodNamed hnamed
  have h2 := findClass_of_methodNamed q3
  rw [hc.1, h1] at h2
  rw [← Option.some.inj h2] at hkP
  have h3 := State.methodFound?_of_named hnamed hc.2
  have h4 : Z.methodNamed? ⟨y.cls, y.name, y.desc⟩ = some mk := hnamed
  simp [Cond.before, Cond.holds, Cond.value, h1, h3, h4, hkP, hkPi]
theorem own_nf {y x2 y2 : MethodName} {C : String} {a0 : Array Value} {s : State} (ws : (Cond.selects C x2 y2).before a0 s = true) (hc : y2.cls = y.cls) : NotFace s y := fun r0 h0 => by
  obtain ⟨c2, r2, m2, -, -, q3, -, kP, hkP, hkPi⟩ := Cond.selects_spec ws
  have h1 := findClass_of_methodNamed h0
  have h2 := findClass_of_methodNamed q3
  rw [hc, h1] at h2
  rw [← Option.some.inj h2] at hkP
  exact ⟨kP, hkP, hkPi⟩
abbrev own_W (Z : State) (a0 : Array Value) : Prop := ∀ d ∈ tables_1, d.before a0 Z = true
theorem own_b {a b : Nat} (h : Nat.ble a b = true) : a ≤ b := Nat.le_of_ble_eq_true h
theorem own_in {x : Addr} {L : List Addr} {P : Prop} (i : Nat) (h : L[i]? = some x) : x ∈ L ∨ P := Or.inl (List.mem_of_getElem? h)
abbrev lv (x : Int64) : Slot := .val (.long x)
abbrev own_Met (l : Launch) (y : MethodName) (code : ByteArray) (ml : Nat) (ret : Option FieldType) (R : Room) (ws : List Jvm.Cond) (args : Array Value) (Z : State) (h0 : Heap) (Q : Option Value → Heap → List Loc → Prop) : Prop :=
  MetFree l y (head1 (Jvm.Cond.code y code ml ret :: ws) R) (fun a U => a = args ∧ Z.Warmed39 U.vm ∧ U.heap = h0) (fun _ _ _ _ _ => True) (fun _ U o U' => ∃ v L, o = .returned v ∧ Q v U'.heap L ∧ FrameEnd U o U' L R.cells R.slots)
theorem own_go {l : Launch} {y : MethodName} {code : ByteArray} {ml : Nat} {ret : Option FieldType} {R : Room} {ws : List Jvm.Cond} {args : Array Value} {Z : State} {h0 : Heap} {Q : Option Value → Heap → List Loc → Prop} {Ls : Array Slot} (hpl : plainFor y = true) (hef : ∀ m, entryFrame m args ml = mkF m 0 Ls [])
    (H : ∀ (p : Program) (e : Env) (s : State) (m : MethodId) (below : List Frame) (meth : Method) (c : Code) (s₁ : State), p.tables.exec = Jvm.exec → c.code = code → c.maxLocals = ml → s.vm.findClass y.cls = some m.cls → meth.name = y.name → meth.sig.returnType = ret → Z.Warmed39 s.vm → s₁.heap = h0 → Stand p l e R s m args below meth c s₁ [] 0 0 →
      ∃ (T : State) (L : List Loc) (ce sl : Nat) (v : Option Value), Stand p l e R s m args below meth c T L ce sl ∧ ce ≤ R.cells ∧ sl ≤ R.slots ∧ (ret = none → v = none) ∧ Q v T.heap L ∧ ∀ fs, (∀ (f : JFrame) (acts : List Action), f.method = m → f.locked = none → f.entered = [] → (doReturn e (T.setTop f) acts v).1 = T.setFrames fs) → Steps p.tables e below (s₁.setTop (mkF m 0 Ls [])) (T.setFrames fs)) :
    own_Met l y code ml ret R ws args Z h0 Q := by
  refine MetFree.of_bodySF hpl hisR ?_
  intro p e s m as below meth c s₁ Bd hml0 hP hK
  obtain ⟨rfl, hZ, hh⟩ := hP
  obtain ⟨T, L, ce, sl, v, X, h1, h2, h3, hQ, st⟩ := H p e s m below meth c s₁ Bd.exec Bd.bytes hml0 (findClass_of_methodNamed Bd.named) (name_of_methodNamed Bd.named Bd.method).1 Bd.returns hZ (by rw [← hh, Bd.state]; rfl) (Stand.of_body Bd)
  obtain ⟨fs, hr, hrun, hended, hW, hsame⟩ := X.leave (v := v) (fun h => h3 (by rw [← Bd.returns]; exact h))
  refine ⟨_, _, castTop (hef m) (st fs hr), hrun, hended, _, _, rfl, hQ, ⟨_, rfl⟩, hW, hsame.mono h1 h2⟩
section OwnK
variable {p : Program} {l : Launch} {e : Env} {R : Room} {s : State} {m : MethodId} {args : Array Value} {below : List Frame} {meth : Method} {c : Code} {T target : State} {locs : List Loc} {cells slots pc : Nat} {Ls : Array Slot} {st : List Value} {code : ByteArray}
theorem kiN (X : Stand p l e R s m args below meth c T locs cells slots) (hx : p.tables.exec = Jvm.exec) {k : Fin 4} {v : Int32} (hby : c.code = code) (hd : decode code pc = .ok (.iload_n k, 1)) (hl : Ls[k.val]? = some (.val (.int v))) (hr : Steps p.tables e below (T.setTop (mkF m (pc + 1) (Ls) (.int v :: st))) target) : Steps p.tables e below (T.setTop (mkF m pc Ls (st))) target := Jvm.Free.XS.iloadN (g := mkF m pc Ls (st)) X.here hx rfl (hb hby hd) hl hr
theorem kc (X : Stand p l e R s m args below meth c T locs cells slots) (hx : p.tables.exec = Jvm.exec) {i : Int} (hby : c.code = code) (hd : decode code pc = .ok (.iconst i, 1))  (hr : Steps p.tables e below (T.setTop (mkF m (pc + 1) (Ls) (.int (Int32.ofInt i) :: st))) target) : Steps p.tables e below (T.setTop (mkF m pc Ls (st))) target := Jvm.Free.XS.iconst (g := mkF m pc Ls (st)) X.here hx rfl (hb hby hd) hr
theorem kixor (X : Stand p l e R s m args below meth c T locs cells slots) (hx : p.tables.exec = Jvm.exec) {x : Int32} {y : Int32} {rest : List Value} (hby : c.code = code) (hd : decode code pc = .ok (.ixor, 1)) (hr : Steps p.tables e below (T.setTop (mkF m (pc + 1) (Ls) (.int (x ^^^ y) :: rest))) target) : Steps p.tables e below (T.setTop (mkF m pc Ls (.int y :: .int x :: rest))) target := Jvm.Free.XS.ixor (g := mkF m pc Ls (.int y :: .int x :: rest)) X.here hx rfl (hb hby hd) rfl hr
theorem kis (X : Stand p l e R s m args below meth c T locs cells slots) (hx : p.tables.exec = Jvm.exec) {x y : Int32} {rest : List Value} (hby : c.code = code) (hd : decode code pc = .ok (.isub, 1)) (hr : Steps p.tables e below (T.setTop (mkF m (pc + 1) (Ls) (.int (x - y) :: rest))) target) : Steps p.tables e below (T.setTop (mkF m pc Ls (.int y :: .int x :: rest))) target := Jvm.Free.XS.isub (g := mkF m pc Ls (.int y :: .int x :: rest)) X.here hx rfl (hb hby hd) rfl hr
theorem kiand (X : Stand p l e R s m args below meth c T locs cells slots) (hx : p.tables.exec = Jvm.exec) {x y : Int32} {rest : List Value} (hby : c.code = code) (hd : decode code pc = .ok (.iand, 1)) (hr : Steps p.tables e below (T.setTop (mkF m (pc + 1) (Ls) (.int (x &&& y) :: rest))) target) : Steps p.tables e below (T.setTop (mkF m pc Ls (.int y :: .int x :: rest))) target := Jvm.Free.XS.iand (g := mkF m pc Ls (.int y :: .int x :: rest)) X.here hx rfl (hb hby hd) rfl hr
theorem ksN (X : Stand p l e R s m args below meth c T locs cells slots) (hx : p.tables.exec = Jvm.exec) {k : Fin 4} {x : Int32} {rest : List Value} {l' : Array Slot} (hby : c.code = code) (hd : decode code pc = .ok (.istore_n k, 1)) (hl : storeLocals Ls k.val (.int x) = some l') (hr : Steps p.tables e below (T.setTop (mkF m (pc + 1) (l') (rest))) target) : Steps p.tables e below (T.setTop (mkF m pc Ls (.int x :: rest))) target := Jvm.Free.XS.istoreN (g := mkF m pc Ls (.int x :: rest)) X.here hx rfl (hb hby hd) rfl hl hr
theorem kfN (X : Stand p l e R s m args below meth c T locs cells slots) (hx : p.tables.exec = Jvm.exec) {cd : ClassFile.Cond} {o : Int} {x : Int32} {rest : List Value} (hby : c.code = code) (hd : decode code pc = .ok (.ifCond cd o, 3)) (hc : ifCond.holds cd x = false) (hr : Steps p.tables e below (T.setTop (mkF m (pc + 3) (Ls) (rest))) target) : Steps p.tables e below (T.setTop (mkF m pc Ls (.int x :: rest))) target := Jvm.Free.XS.ifNo (g := mkF m pc Ls (.int x :: rest)) X.here hx rfl (hb hby hd) rfl hc hr
theorem kb (X : Stand p l e R s m args below meth c T locs cells slots) (hx : p.tables.exec = Jvm.exec) {i : Int} (hby : c.code = code) (hd : decode code pc = .ok (.bipush i, 2))  (hr : Steps p.tables e below (T.setTop (mkF m (pc + 2) (Ls) (.int (Int8.ofInt i).toInt32 :: st))) target) : Steps p.tables e below (T.setTop (mkF m pc Ls (st))) target := Jvm.Free.XS.bipush (g := mkF m pc Ls (st)) X.here hx rfl (hb hby hd) hr
theorem kfY (X : Stand p l e R s m args below meth c T locs cells slots) (hx : p.tables.exec = Jvm.exec) {cd : ClassFile.Cond} {x : Int32} {rest : List Value} {o : Int} {pc0 pc' : Nat} (hpc : pc = pc0) (hby : c.code = code) (hd : decode code pc = .ok (.ifCond cd o, 3)) (hc : ifCond.holds cd x = true) (ho : 0 ≤ (pc0 : Int) + o) (hp : ((pc0 : Int) + o).toNat = pc') (hr : Steps p.tables e below (T.setTop (mkF m (pc') (Ls) (rest))) target) : Steps p.tables e below (T.setTop (mkF m pc Ls (.int x :: rest))) target := Jvm.Free.XS.ifYes (g := mkF m pc Ls (.int x :: rest)) X.here hx rfl hpc (hb hby hd) rfl hc ho hp hr
theorem kcY (X : Stand p l e R s m args below meth c T locs cells slots) (hx : p.tables.exec = Jvm.exec) {cd : ClassFile.Cond} {x y : Int32} {rest : List Value} {o : Int} {pc0 pc' : Nat} (hpc : pc = pc0) (hby : c.code = code) (hd : decode code pc = .ok (.if_icmp cd o, 3)) (hc : if_icmp.holds cd x y = true) (ho : 0 ≤ (pc0 : Int) + o) (hp : ((pc0 : Int) + o).toNat = pc') (hr : Steps p.tables e below (T.setTop (mkF m (pc') (Ls) (rest))) target) : Steps p.tables e below (T.setTop (mkF m pc Ls (.int y :: .int x :: rest))) target := Jvm.Free.XS.icmpYes (g := mkF m pc Ls (.int y :: .int x :: rest)) X.here hx rfl hpc (hb hby hd) rfl hc ho hp hr
theorem kcN (X : Stand p l e R s m args below meth c T locs cells slots) (hx : p.tables.exec = Jvm.exec) {cd : ClassFile.Cond} {o : Int} {x y : Int32} {rest : List Value} (hby : c.code = code) (hd : decode code pc = .ok (.if_icmp cd o, 3)) (hc : if_icmp.holds cd x y = false) (hr : Steps p.tables e below (T.setTop (mkF m (pc + 3) (Ls) (rest))) target) : Steps p.tables e below (T.setTop (mkF m pc Ls (.int y :: .int x :: rest))) target := Jvm.Free.XS.icmpNo (g := mkF m pc Ls (.int y :: .int x :: rest)) X.here hx rfl (hb hby hd) rfl hc hr
theorem kn (X : Stand p l e R s m args below meth c T locs cells slots) (hx : p.tables.exec = Jvm.exec) {k : Nat} {cst : Int} {x : Int32} {l' : Array Slot} (hby : c.code = code) (hd : decode code pc = .ok (.iinc k cst, 3)) (hl : Ls[k]? = some (.val (.int x))) (hl' : storeLocals Ls k (.int (x + Int32.ofInt cst)) = some l') (hr : Steps p.tables e below (T.setTop (mkF m (pc + 3) (l') (st))) target) : Steps p.tables e below (T.setTop (mkF m pc Ls (st))) target := Jvm.Free.XS.iinc (g := mkF m pc Ls (st)) X.here hx rfl (hb hby hd) hl hl' hr
theorem kiushr (X : Stand p l e R s m args below meth c T locs cells slots) (hx : p.tables.exec = Jvm.exec) {x : Int32} {y : Int32} {rest : List Value} (hby : c.code = code) (hd : decode code pc = .ok (.iushr, 1)) (hr : Steps p.tables e below (T.setTop (mkF m (pc + 1) (Ls) (.int ((x.toUInt32 >>> (y &&& 31).toUInt32).toInt32) :: rest))) target) : Steps p.tables e below (T.setTop (mkF m pc Ls (.int y :: .int x :: rest))) target := Jvm.Free.XS.iushr (g := mkF m pc Ls (.int y :: .int x :: rest)) X.here hx rfl (hb hby hd) rfl hr
theorem ksipush (X : Stand p l e R s m args below meth c T locs cells slots) (hx : p.tables.exec = Jvm.exec) {i : Int} (hby : c.code = code) (hd : decode code pc = .ok (.sipush i, 3))  (hr : Steps p.tables e below (T.setTop (mkF m (pc + 3) (Ls) (.int (Int16.ofInt i).toInt32 :: st))) target) : Steps p.tables e below (T.setTop (mkF m pc Ls (st))) target := Jvm.Free.XS.sipush (g := mkF m pc Ls (st)) X.here hx rfl (hb hby hd) hr
theorem kia (X : Stand p l e R s m args below meth c T locs cells slots) (hx : p.tables.exec = Jvm.exec) {x y : Int32} {rest : List Value} (hby : c.code = code) (hd : decode code pc = .ok (.iadd, 1)) (hr : Steps p.tables e below (T.setTop (mkF m (pc + 1) (Ls) (.int (x + y) :: rest))) target) : Steps p.tables e below (T.setTop (mkF m pc Ls (.int y :: .int x :: rest))) target := Jvm.Free.XS.iadd (g := mkF m pc Ls (.int y :: .int x :: rest)) X.here hx rfl (hb hby hd) rfl hr
theorem kg (X : Stand p l e R s m args below meth c T locs cells slots) (hx : p.tables.exec = Jvm.exec)  {o : Int} {pc0 pc' : Nat} (hpc : pc = pc0) (hby : c.code = code) (hd : decode code pc = .ok (.goto o, 3))  (ho : 0 ≤ (pc0 : Int) + o) (hp : ((pc0 : Int) + o).toNat = pc') (hr : Steps p.tables e below (T.setTop (mkF m (pc') (Ls) (st))) target) : Steps p.tables e below (T.setTop (mkF m pc Ls (st))) target := Jvm.Free.XS.goto (g := mkF m pc Ls (st)) X.here hx rfl hpc (hb hby hd) ho hp hr
theorem kishl (X : Stand p l e R s m args below meth c T locs cells slots) (hx : p.tables.exec = Jvm.exec) {x : Int32} {y : Int32} {rest : List Value} (hby : c.code = code) (hd : decode code pc = .ok (.ishl, 1)) (hr : Steps p.tables e below (T.setTop (mkF m (pc + 1) (Ls) (.int (x <<< (y &&& 31)) :: rest))) target) : Steps p.tables e below (T.setTop (mkF m pc Ls (.int y :: .int x :: rest))) target := Jvm.Free.XS.ishl (g := mkF m pc Ls (.int y :: .int x :: rest)) X.here hx rfl (hb hby hd) rfl hr
theorem ktN (X : Stand p l e R s m args below meth c T locs cells slots) (hx : p.tables.exec = Jvm.exec) {k : Fin 4} {x : Value} {rest : List Value} {l' : Array Slot} (hby : c.code = code) (hd : decode code pc = .ok (.astore_n k, 1)) (hv : x.isRef = true) (hl : storeLocals Ls k.val x = some l') (hr : Steps p.tables e below (T.setTop (mkF m (pc + 1) (l') (rest))) target) : Steps p.tables e below (T.setTop (mkF m pc Ls (x :: rest))) target := Jvm.Free.XS.astoreN (g := mkF m pc Ls (x :: rest)) X.here hx rfl (hb hby hd) rfl hv hl hr
theorem ks (X : Stand p l e R s m args below meth c T locs cells slots) (hx : p.tables.exec = Jvm.exec) {k : Nat} {x : Int32} {rest : List Value} {l' : Array Slot} (hby : c.code = code) (hd : decode code pc = .ok (.istore k, 2)) (hl : storeLocals Ls k (.int x) = some l') (hr : Steps p.tables e below (T.setTop (mkF m (pc + 2) (l') (rest))) target) : Steps p.tables e below (T.setTop (mkF m pc Ls (.int x :: rest))) target := Jvm.Free.XS.istore (g := mkF m pc Ls (.int x :: rest)) X.here hx rfl (hb hby hd) rfl hl hr
theorem kaN (X : Stand p l e R s m args below meth c T locs cells slots) (hx : p.tables.exec = Jvm.exec) {k : Fin 4} {v : Value} (hby : c.code = code) (hd : decode code pc = .ok (.aload_n k, 1)) (hl : Ls[k.val]? = some (.val v)) (hv : v.isRef = true) (hr : Steps p.tables e below (T.setTop (mkF m (pc + 1) (Ls) (v :: st))) target) : Steps p.tables e below (T.setTop (mkF m pc Ls (st))) target := Jvm.Free.XS.aloadN (g := mkF m pc Ls (st)) X.here hx rfl (hb hby hd) hl hv hr
theorem ki (X : Stand p l e R s m args below meth c T locs cells slots) (hx : p.tables.exec = Jvm.exec) {k : Nat} {v : Int32} (hby : c.code = code) (hd : decode code pc = .ok (.iload k, 2)) (hl : Ls[k]? = some (.val (.int v))) (hr : Steps p.tables e below (T.setTop (mkF m (pc + 2) (Ls) (.int v :: st))) target) : Steps p.tables e below (T.setTop (mkF m pc Ls (st))) target := Jvm.Free.XS.iload (g := mkF m pc Ls (st)) X.here hx rfl (hb hby hd) hl hr
theorem kior (X : Stand p l e R s m args below meth c T locs cells slots) (hx : p.tables.exec = Jvm.exec) {x : Int32} {y : Int32} {rest : List Value} (hby : c.code = code) (hd : decode code pc = .ok (.ior, 1)) (hr : Steps p.tables e below (T.setTop (mkF m (pc + 1) (Ls) (.int (x ||| y) :: rest))) target) : Steps p.tables e below (T.setTop (mkF m pc Ls (.int y :: .int x :: rest))) target := Jvm.Free.XS.ior (g := mkF m pc Ls (.int y :: .int x :: rest)) X.here hx rfl (hb hby hd) rfl hr
theorem kdup (X : Stand p l e R s m args below meth c T locs cells slots) (hx : p.tables.exec = Jvm.exec) {x : Value} {rest : List Value} (hby : c.code = code) (hd : decode code pc = .ok (.dup, 1)) (hc : x.category = 1) (hr : Steps p.tables e below (T.setTop (mkF m (pc + 1) (Ls) (x :: x :: rest))) target) : Steps p.tables e below (T.setTop (mkF m pc Ls (x :: rest))) target := Jvm.Free.XS.dup (g := mkF m pc Ls (x :: rest)) X.here hx rfl (hb hby hd) rfl hc hr
theorem klc (X : Stand p l e R s m args below meth c T locs cells slots) (hx : p.tables.exec = Jvm.exec) {k : Fin 2} (hby : c.code = code) (hd : decode code pc = .ok (.lconst k, 1)) (hr : Steps p.tables e below (T.setTop (mkF m (pc + 1) (Ls) (.long (Int64.ofNat k) :: st))) target) : Steps p.tables e below (T.setTop (mkF m pc Ls (st))) target := Jvm.Free.XS.lconst (g := mkF m pc Ls (st)) X.here hx rfl (hb hby hd) hr
theorem kls (X : Stand p l e R s m args below meth c T locs cells slots) (hx : p.tables.exec = Jvm.exec) {k : Nat} {x : Int64} {rest : List Value} {l' : Array Slot} (hby : c.code = code) (hd : decode code pc = .ok (.lstore k, 2)) (hl : storeLocals Ls k (.long x) = some l') (hr : Steps p.tables e below (T.setTop (mkF m (pc + 2) (l') (rest))) target) : Steps p.tables e below (T.setTop (mkF m pc Ls (.long x :: rest))) target := Jvm.Free.XS.lstore (g := mkF m pc Ls (.long x :: rest)) X.here hx rfl (hb hby hd) rfl hl hr
theorem ki2l (X : Stand p l e R s m args below meth c T locs cells slots) (hx : p.tables.exec = Jvm.exec) {v : Int32} {rest : List Value} (hby : c.code = code) (hd : decode code pc = .ok (.i2l, 1)) (hr : Steps p.tables e below (T.setTop (mkF m (pc + 1) (Ls) (.long (v.toInt64) :: rest))) target) : Steps p.tables e below (T.setTop (mkF m pc Ls (.int v :: rest))) target := Jvm.Free.XS.i2l (g := mkF m pc Ls (.int v :: rest)) X.here hx rfl (hb hby hd) rfl hr
theorem kla (X : Stand p l e R s m args below meth c T locs cells slots) (hx : p.tables.exec = Jvm.exec) {x : Int64} {y : Int64} {rest : List Value} (hby : c.code = code) (hd : decode code pc = .ok (.land, 1)) (hr : Steps p.tables e below (T.setTop (mkF m (pc + 1) (Ls) (.long (x &&& y) :: rest))) target) : Steps p.tables e below (T.setTop (mkF m pc Ls (.long y :: .long x :: rest))) target := Jvm.Free.XS.land (g := mkF m pc Ls (.long y :: .long x :: rest)) X.here hx rfl (hb hby hd) rfl hr
theorem klsub (X : Stand p l e R s m args below meth c T locs cells slots) (hx : p.tables.exec = Jvm.exec) {x : Int64} {y : Int64} {rest : List Value} (hby : c.code = code) (hd : decode code pc = .ok (.lsub, 1)) (hr : Steps p.tables e below (T.setTop (mkF m (pc + 1) (Ls) (.long (x - y) :: rest))) target) : Steps p.tables e below (T.setTop (mkF m pc Ls (.long y :: .long x :: rest))) target := Jvm.Free.XS.lsub (g := mkF m pc Ls (.long y :: .long x :: rest)) X.here hx rfl (hb hby hd) rfl hr
theorem kl (X : Stand p l e R s m args below meth c T locs cells slots) (hx : p.tables.exec = Jvm.exec) {k : Nat} {v : Int64} (hby : c.code = code) (hd : decode code pc = .ok (.lload k, 2)) (hl : Ls[k]? = some (.val (.long v))) (hr : Steps p.tables e below (T.setTop (mkF m (pc + 2) (Ls) (.long v :: st))) target) : Steps p.tables e below (T.setTop (mkF m pc Ls (st))) target := Jvm.Free.XS.lload (g := mkF m pc Ls (st)) X.here hx rfl (hb hby hd) hl hr
theorem klshr (X : Stand p l e R s m args below meth c T locs cells slots) (hx : p.tables.exec = Jvm.exec) {x : Int64} {y : Int32} {rest : List Value} (hby : c.code = code) (hd : decode code pc = .ok (.lshr, 1)) (hr : Steps p.tables e below (T.setTop (mkF m (pc + 1) (Ls) (.long (x >>> (y &&& 0x3f).toInt64) :: rest))) target) : Steps p.tables e below (T.setTop (mkF m pc Ls (.int y :: .long x :: rest))) target := Jvm.Free.XS.lshr (g := mkF m pc Ls (.int y :: .long x :: rest)) X.here hx rfl (hb hby hd) rfl hr
theorem kladd (X : Stand p l e R s m args below meth c T locs cells slots) (hx : p.tables.exec = Jvm.exec) {x : Int64} {y : Int64} {rest : List Value} (hby : c.code = code) (hd : decode code pc = .ok (.ladd, 1)) (hr : Steps p.tables e below (T.setTop (mkF m (pc + 1) (Ls) (.long (x + y) :: rest))) target) : Steps p.tables e below (T.setTop (mkF m pc Ls (.long y :: .long x :: rest))) target := Jvm.Free.XS.ladd (g := mkF m pc Ls (.long y :: .long x :: rest)) X.here hx rfl (hb hby hd) rfl hr
theorem kl2i (X : Stand p l e R s m args below meth c T locs cells slots) (hx : p.tables.exec = Jvm.exec) {v : Int64} {rest : List Value} (hby : c.code = code) (hd : decode code pc = .ok (.l2i, 1)) (hr : Steps p.tables e below (T.setTop (mkF m (pc + 1) (Ls) (.int (v.toInt32) :: rest))) target) : Steps p.tables e below (T.setTop (mkF m pc Ls (.long v :: rest))) target := Jvm.Free.XS.l2i (g := mkF m pc Ls (.long v :: rest)) X.here hx rfl (hb hby hd) rfl hr
theorem klcmp (X : Stand p l e R s m args below meth c T locs cells slots) (hx : p.tables.exec = Jvm.exec) {x y : Int64} {rest : List Value} (hby : c.code = code) (hd : decode code pc = .ok (.lcmp, 1)) (hr : Steps p.tables e below (T.setTop (mkF m (pc + 1) (Ls) (.int (if x > y then 1 else if x = y then 0 else -1) :: rest))) target) : Steps p.tables e below (T.setTop (mkF m pc Ls (.long y :: .long x :: rest))) target := Jvm.Free.XS.lcmp (g := mkF m pc Ls (.long y :: .long x :: rest)) X.here hx rfl (hb hby hd) rfl hr
theorem kastore (X : Stand p l e R s m args below meth c T locs cells slots) (hx : p.tables.exec = Jvm.exec) {k : Nat} {x : Value} {rest : List Value} {l' : Array Slot} (hby : c.code = code) (hd : decode code pc = .ok (.astore k, 2)) (hv : x.isRef = true) (hl : storeLocals Ls k x = some l') (hr : Steps p.tables e below (T.setTop (mkF m (pc + 2) (l') (rest))) target) : Steps p.tables e below (T.setTop (mkF m pc Ls (x :: rest))) target := Jvm.Free.XS.astore (g := mkF m pc Ls (x :: rest)) X.here hx rfl (hb hby hd) rfl hv hl hr
theorem ka (X : Stand p l e R s m args below meth c T locs cells slots) (hx : p.tables.exec = Jvm.exec) {k : Nat} {v : Value} (hby : c.code = code) (hd : decode code pc = .ok (.aload k, 2)) (hl : Ls[k]? = some (.val v)) (hv : v.isRef = true) (hr : Steps p.tables e below (T.setTop (mkF m (pc + 2) (Ls) (v :: st))) target) : Steps p.tables e below (T.setTop (mkF m pc Ls (st))) target := Jvm.Free.XS.aload (g := mkF m pc Ls (st)) X.here hx rfl (hb hby hd) hl hv hr
theorem kineg (X : Stand p l e R s m args below meth c T locs cells slots) (hx : p.tables.exec = Jvm.exec) {x : Int32} {rest : List Value} (hby : c.code = code) (hd : decode code pc = .ok (.ineg, 1)) (hr : Steps p.tables e below (T.setTop (mkF m (pc + 1) (Ls) (.int (-x) :: rest))) target) : Steps p.tables e below (T.setTop (mkF m pc Ls (.int x :: rest))) target := Jvm.Free.XS.ineg (g := mkF m pc Ls (.int x :: rest)) X.here hx rfl (hb hby hd) rfl hr
theorem kdupX1 (X : Stand p l e R s m args below meth c T locs cells slots) (hx : p.tables.exec = Jvm.exec) {x y : Value} {rest : List Value} (hby : c.code = code) (hd : decode code pc = .ok (.dup_x1, 1)) (hc : x.category = 1) (hc2 : y.category = 1) (hr : Steps p.tables e below (T.setTop (mkF m (pc + 1) (Ls) (x :: y :: x :: rest))) target) : Steps p.tables e below (T.setTop (mkF m pc Ls (x :: y :: rest))) target := Jvm.Free.XS.dupX1 (g := mkF m pc Ls (x :: y :: rest)) X.here hx rfl (hb hby hd) rfl hc hc2 hr
theorem klstoreN (X : Stand p l e R s m args below meth c T locs cells slots) (hx : p.tables.exec = Jvm.exec) {k : Fin 4} {x : Int64} {rest : List Value} {l' : Array Slot} (hby : c.code = code) (hd : decode code pc = .ok (.lstore_n k, 1)) (hl : storeLocals Ls k.val (.long x) = some l') (hr : Steps p.tables e below (T.setTop (mkF m (pc + 1) (l') (rest))) target) : Steps p.tables e below (T.setTop (mkF m pc Ls (.long x :: rest))) target := Jvm.Free.XS.lstoreN (g := mkF m pc Ls (.long x :: rest)) X.here hx rfl (hb hby hd) rfl hl hr
theorem klloadN (X : Stand p l e R s m args below meth c T locs cells slots) (hx : p.tables.exec = Jvm.exec) {k : Fin 4} {v : Int64} (hby : c.code = code) (hd : decode code pc = .ok (.lload_n k, 1)) (hl : Ls[k.val]? = some (.val (.long v))) (hr : Steps p.tables e below (T.setTop (mkF m (pc + 1) (Ls) (.long v :: st))) target) : Steps p.tables e below (T.setTop (mkF m pc Ls (st))) target := Jvm.Free.XS.lloadN (g := mkF m pc Ls (st)) X.here hx rfl (hb hby hd) hl hr
theorem kldiv (X : Stand p l e R s m args below meth c T locs cells slots) (hx : p.tables.exec = Jvm.exec) {x y : Int64} {rest : List Value} (hby : c.code = code) (hd : decode code pc = .ok (.ldiv, 1)) (hy : y ≠ 0) (hr : Steps p.tables e below (T.setTop (mkF m (pc + 1) (Ls) (.long (x / y) :: rest))) target) : Steps p.tables e below (T.setTop (mkF m pc Ls (.long y :: .long x :: rest))) target := Jvm.Free.XS.ldiv (g := mkF m pc Ls (.long y :: .long x :: rest)) X.here hx rfl (hb hby hd) rfl hy hr
theorem klmul (X : Stand p l e R s m args below meth c T locs cells slots) (hx : p.tables.exec = Jvm.exec) {x : Int64} {y : Int64} {rest : List Value} (hby : c.code = code) (hd : decode code pc = .ok (.lmul, 1)) (hr : Steps p.tables e below (T.setTop (mkF m (pc + 1) (Ls) (.long (x * y) :: rest))) target) : Steps p.tables e below (T.setTop (mkF m pc Ls (.long y :: .long x :: rest))) target := Jvm.Free.XS.lmul (g := mkF m pc Ls (.long y :: .long x :: rest)) X.here hx rfl (hb hby hd) rfl hr
theorem klshl (X : Stand p l e R s m args below meth c T locs cells slots) (hx : p.tables.exec = Jvm.exec) {x : Int64} {y : Int32} {rest : List Value} (hby : c.code = code) (hd : decode code pc = .ok (.lshl, 1)) (hr : Steps p.tables e below (T.setTop (mkF m (pc + 1) (Ls) (.long (x <<< (y &&& 0x3f).toInt64) :: rest))) target) : Steps p.tables e below (T.setTop (mkF m pc Ls (.int y :: .long x :: rest))) target := Jvm.Free.XS.lshl (g := mkF m pc Ls (.int y :: .long x :: rest)) X.here hx rfl (hb hby hd) rfl hr
theorem klor (X : Stand p l e R s m args below meth c T locs cells slots) (hx : p.tables.exec = Jvm.exec) {x : Int64} {y : Int64} {rest : List Value} (hby : c.code = code) (hd : decode code pc = .ok (.lor, 1)) (hr : Steps p.tables e below (T.setTop (mkF m (pc + 1) (Ls) (.long (x ||| y) :: rest))) target) : Steps p.tables e below (T.setTop (mkF m pc Ls (.long y :: .long x :: rest))) target := Jvm.Free.XS.lor (g := mkF m pc Ls (.long y :: .long x :: rest)) X.here hx rfl (hb hby hd) rfl hr
theorem kirem (X : Stand p l e R s m args below meth c T locs cells slots) (hx : p.tables.exec = Jvm.exec) {x y : Int32} {rest : List Value} (hby : c.code = code) (hd : decode code pc = .ok (.irem, 1)) (hy : y ≠ 0) (hr : Steps p.tables e below (T.setTop (mkF m (pc + 1) (Ls) (.int (x - (x / y) * y) :: rest))) target) : Steps p.tables e below (T.setTop (mkF m pc Ls (.int y :: .int x :: rest))) target := Jvm.Free.XS.irem (g := mkF m pc Ls (.int y :: .int x :: rest)) X.here hx rfl (hb hby hd) rfl hy hr
theorem kaconstNull (X : Stand p l e R s m args below meth c T locs cells slots) (hx : p.tables.exec = Jvm.exec)  (hby : c.code = code) (hd : decode code pc = .ok (.aconst_null, 1))  (hr : Steps p.tables e below (T.setTop (mkF m (pc + 1) (Ls) (.null :: st))) target) : Steps p.tables e below (T.setTop (mkF m pc Ls (st))) target := Jvm.Free.XS.aconstNull (g := mkF m pc Ls (st)) X.here hx rfl (hb hby hd) hr
theorem kpop (X : Stand p l e R s m args below meth c T locs cells slots) (hx : p.tables.exec = Jvm.exec) {x : Value} {rest : List Value} (hby : c.code = code) (hd : decode code pc = .ok (.pop, 1)) (hc : x.category = 1) (hr : Steps p.tables e below (T.setTop (mkF m (pc + 1) (Ls) (rest))) target) : Steps p.tables e below (T.setTop (mkF m pc Ls (x :: rest))) target := Jvm.Free.XS.pop (g := mkF m pc Ls (x :: rest)) X.here hx rfl (hb hby hd) rfl hc hr
theorem kimul (X : Stand p l e R s m args below meth c T locs cells slots) (hx : p.tables.exec = Jvm.exec) {x y : Int32} {rest : List Value} (hby : c.code = code) (hd : decode code pc = .ok (.imul, 1)) (hr : Steps p.tables e below (T.setTop (mkF m (pc + 1) (Ls) (.int (x * y) :: rest))) target) : Steps p.tables e below (T.setTop (mkF m pc Ls (.int y :: .int x :: rest))) target := Jvm.Free.XS.imul (g := mkF m pc Ls (.int y :: .int x :: rest)) X.here hx rfl (hb hby hd) rfl hr
theorem klneg (X : Stand p l e R s m args below meth c T locs cells slots) (hx : p.tables.exec = Jvm.exec) {v : Int64} {rest : List Value} (hby : c.code = code) (hd : decode code pc = .ok (.lneg, 1)) (hr : Steps p.tables e below (T.setTop (mkF m (pc + 1) (Ls) (.long (-v) :: rest))) target) : Steps p.tables e below (T.setTop (mkF m pc Ls (.long v :: rest))) target := Jvm.Free.XS.lneg (g := mkF m pc Ls (.long v :: rest)) X.here hx rfl (hb hby hd) rfl hr
theorem klushr (X : Stand p l e R s m args below meth c T locs cells slots) (hx : p.tables.exec = Jvm.exec) {x : Int64} {y : Int32} {rest : List Value} (hby : c.code = code) (hd : decode code pc = .ok (.lushr, 1)) (hr : Steps p.tables e below (T.setTop (mkF m (pc + 1) (Ls) (.long ((x.toUInt64 >>> (y &&& 0x3f).toInt64.toUInt64).toInt64) :: rest))) target) : Steps p.tables e below (T.setTop (mkF m pc Ls (.int y :: .long x :: rest))) target := Jvm.Free.XS.lushr (g := mkF m pc Ls (.int y :: .long x :: rest)) X.here hx rfl (hb hby hd) rfl hr
theorem ki2s (X : Stand p l e R s m args below meth c T locs cells slots) (hx : p.tables.exec = Jvm.exec) {v : Int32} {rest : List Value} (hby : c.code = code) (hd : decode code pc = .ok (.i2s, 1)) (hr : Steps p.tables e below (T.setTop (mkF m (pc + 1) (Ls) (.int (v.toInt16.toInt32) :: rest))) target) : Steps p.tables e below (T.setTop (mkF m pc Ls (.int v :: rest))) target := Jvm.Free.XS.i2s (g := mkF m pc Ls (.int v :: rest)) X.here hx rfl (hb hby hd) rfl hr
end OwnK
section OwnCall
variable {p : Program} {l : Launch} {e : Env} {R : Room} {s : State} {m : MethodId} {args : Array Value} {below : List Frame} {meth : Method} {c : Code} {T : State} {locs : List Loc} {cells slots : Nat} {Z : State} {a0 : Array Value} {h : Heap} {own C : String} {index : Nat} {y : MethodName} {bytes : ByteArray} {maxL : Nat} {ret : Option FieldType} {rm : Room} {W : Nat} {Q : Option Value → Heap → List Loc → Prop} {b : Addr} {argsL rest : List Value} {ps : List FieldType} {r : Option FieldType} {pc : Nat} {Ls : Array Slot} {stk : List Value} {code : ByteArray}
theorem own_cV (X : Stand p l e R s m args below meth c T locs cells slots) (hx : p.tables.exec = Jvm.exec) (hZ : Z.Warmed39 s.vm) (hown : s.vm.findClass own = some m.cls) (w1 : (Cond.methodLink own index y).before a0 Z = true) (w3 : (Cond.instanceMethod y).before a0 Z = true) (w4 : (Cond.selects C y y).before a0 Z = true) (w5 : (Cond.code y bytes maxL ret).before a0 Z = true) (w6 : (Cond.initialized y.cls).before a0 Z = true) (hy : y.cls ≠ "java/lang/invoke/MethodHandle" ∧ y.cls ≠ "java/lang/invoke/VarHandle")
    (M : own_Met l y bytes maxL ret rm [] (.ref b :: argsL).toArray Z h Q) (E : Exa Z h b C) (eT : T.heap = h) (hsize : Ls.size = c.maxLocals) (hp : parseMethodDescriptor y.desc = some ⟨ps, r⟩) (hl : argsL.length = ps.length) (hst : stk = argsL.reverse ++ .ref b :: rest) (hW : (rest.map fun v => v.category).sum = W) (hby : c.code = code) (hd : decode code pc = .ok (.invokevirtual index, 3)) (hf : rm.frames + 1 ≤ R.frames) (hlo : W + (maxL + 11) + rm.locals ≤ R.locals) (hc : cells + rm.cells ≤ R.cells) (hs : slots + rm.slots ≤ R.slots) :
    ∃ (T' : State) (L : List Loc) (v : Option Value), Stand p l e R s m args below meth c T' (locs ++ L) (cells + rm.cells) (slots + rm.slots) ∧ Q v T'.heap L ∧ ∀ t, Steps p.tables e below (T'.setTop (mkF m (pc + 3) Ls (v.toList ++ rest))) t → Steps p.tables e below (T.setTop (mkF m pc Ls stk)) t := by
  obtain ⟨cq, kq, qa, qb, qc⟩ := isOf hZ eT E
  obtain ⟨v, _, ⟨T', L', k', n'⟩, -, X', ⟨Lc, hQ, l', y', z'⟩, st⟩ := X.virtualBack hx (y := y) (z := y) hown (mvT hZ w1) (mvT hZ (own_decl w3 w5)) (notFace_of_selects (args := #[]) (mvT hZ w4)) (mvT hZ w4) (mvT hZ w3) hy (backOf (W := W) M hZ w5 w6 hf hlo) qa qc (g := mkF m pc Ls stk) rfl hsize (Steps.refl _) (lenOf hp hl) hst (by rw [hW]; exact Nat.le_of_eq (Nat.zero_add _)) (hb hby hd) (fun _ _ => ⟨rfl, eT, hc, hs⟩)
  dsimp only [Pt.U, Pt.locs, Pt.cells, Pt.slots] at X' hQ l' y' z' st
  subst l' y' z'
  exact ⟨T', Lc, v, X', hQ, fun t k => st.trans k⟩
theorem own_cI (X : Stand p l e R s m args below meth c T locs cells slots) (hx : p.tables.exec = Jvm.exec) (hZ : Z.Warmed39 s.vm) (hown : s.vm.findClass own = some m.cls) (w1 : (Cond.methodLink own index y).before a0 Z = true) (w3 : (Cond.instanceMethod y).before a0 Z = true) (w5 : (Cond.code y bytes maxL none).before a0 Z = true) (w6 : (Cond.initialized y.cls).before a0 Z = true) (hn : y.name = "<init>") (hy : y.cls ≠ "java/lang/invoke/MethodHandle" ∧ y.cls ≠ "java/lang/invoke/VarHandle")
    (M : own_Met l y bytes maxL none rm [] (.ref b :: argsL).toArray Z h Q) (eT : T.heap = h) (hsize : Ls.size = c.maxLocals) (hp : parseMethodDescriptor y.desc = some ⟨ps, r⟩) (hl : argsL.length = ps.length) (hst : stk = argsL.reverse ++ .ref b :: rest) (hW : (rest.map fun v => v.category).sum = W) (hby : c.code = code) (hd : decode code pc = .ok (.invokespecial index, 3)) (hf : rm.frames + 1 ≤ R.frames) (hlo : W + (maxL + 11) + rm.locals ≤ R.locals) (hc : cells + rm.cells ≤ R.cells) (hs : slots + rm.slots ≤ R.slots) :
    ∃ (T' : State) (L : List Loc) (v : Option Value), Stand p l e R s m args below meth c T' (locs ++ L) (cells + rm.cells) (slots + rm.slots) ∧ Q v T'.heap L ∧ ∀ t, Steps p.tables e below (T'.setTop (mkF m (pc + 3) Ls (v.toList ++ rest))) t → Steps p.tables e below (T.setTop (mkF m pc Ls stk)) t := by
  obtain ⟨v, _, ⟨T', L', k', n'⟩, -, X', ⟨Lc, hQ, l', y', z'⟩, st⟩ := X.specialBack hx (y := y) hn hown (mvT hZ w1) (mvT hZ w3) (mvT hZ w5) hy (backOf (W := W) M hZ w5 w6 hf hlo) (g := mkF m pc Ls stk) rfl hsize (Steps.refl _) (a := b) (lenOf hp hl) hst (by rw [hW]; exact Nat.le_of_eq (Nat.zero_add _)) (hb hby hd) (fun _ _ => ⟨rfl, eT, hc, hs⟩)
  dsimp only [Pt.U, Pt.locs, Pt.cells, Pt.slots] at X' hQ l' y' z' st
  subst l' y' z'
  exact ⟨T', Lc, v, X', hQ, fun t k => st.trans k⟩
theorem own_cS (X : Stand p l e R s m args below meth c T locs cells slots) (hx : p.tables.exec = Jvm.exec) (hZ : Z.Warmed39 s.vm) (hown : s.vm.findClass own = some m.cls) (w1 : (Cond.methodLink own index y).before a0 Z = true) (w3 : (Cond.static y).before a0 Z = true) (w5 : (Cond.code y bytes maxL ret).before a0 Z = true) (w6 : (Cond.initialized y.cls).before a0 Z = true) (hy : y.cls ≠ "java/lang/invoke/MethodHandle" ∧ y.cls ≠ "java/lang/invoke/VarHandle")
    (M : own_Met l y bytes maxL ret rm [] argsL.toArray Z h Q) (eT : T.heap = h) (hsize : Ls.size = c.maxLocals) (hp : parseMethodDescriptor y.desc = some ⟨ps, r⟩) (hl : argsL.length = ps.length) (hst : stk = argsL.reverse ++ rest) (hW : (rest.map fun v => v.category).sum = W) (hby : c.code = code) (hd : decode code pc = .ok (.invokestatic index, 3)) (hf : rm.frames + 1 ≤ R.frames) (hlo : W + (maxL + 11) + rm.locals ≤ R.locals) (hc : cells + rm.cells ≤ R.cells) (hs : slots + rm.slots ≤ R.slots) :
    ∃ (T' : State) (L : List Loc) (v : Option Value), Stand p l e R s m args below meth c T' (locs ++ L) (cells + rm.cells) (slots + rm.slots) ∧ Q v T'.heap L ∧ ∀ t, Steps p.tables e below (T'.setTop (mkF m (pc + 3) Ls (v.toList ++ rest))) t → Steps p.tables e below (T.setTop (mkF m pc Ls stk)) t := by
  obtain ⟨v, _, ⟨T', L', k', n'⟩, -, X', ⟨Lc, hQ, l', y', z'⟩, st⟩ := Jvm.LawKit.callS X hx (y := y) hown (mvT hZ w1) (mvT hZ w3) (mvT hZ w6) (mvT hZ w5) hy (backOf (W := W) M hZ w5 w6 hf hlo) (g := mkF m pc Ls stk) rfl hsize (lenOf hp hl) hst (by rw [hW]; exact Nat.le_of_eq (Nat.zero_add _)) (hb hby hd) (fun _ _ => ⟨rfl, eT, hc, hs⟩)
  dsimp only [Pt.U, Pt.locs, Pt.cells, Pt.slots] at X' hQ l' y' z' st
  subst l' y' z'
  exact ⟨T', Lc, v, X', hQ, st⟩
theorem own_gf {n d : String} {v : Value} (X : Stand p l e R s m args below meth c T locs cells slots) (hx : p.tables.exec = Jvm.exec) (hZ : Z.Warmed39 s.vm) (hown : s.vm.findClass own = some m.cls) (w : (Cond.fieldLink own index C n d).before a0 Z = true) (eT : T.heap = h) (F : Fld Z h b C n d v) (hby : c.code = code) (hd : decode code pc = .ok (.getfield index, 3)) (hs : stk = .ref b :: rest) :
    ∃ T', Stand p l e R s m args below meth c T' locs cells slots ∧ T'.heap = h ∧ ∀ t, Steps p.tables e below (T'.setTop (mkF m (pc + 3) Ls (v :: rest))) t → Steps p.tables e below (T.setTop (mkF m pc Ls stk)) t :=
  getF X hx hZ hown (host := "") (Or.inl w) Via.refl eT F (g := mkF m pc Ls stk) rfl hs (hb hby hd)
theorem own_gN {n d : String} {v : Value} {k : Fin 4} (X : Stand p l e R s m args below meth c T locs cells slots) (hx : p.tables.exec = Jvm.exec) (hZ : Z.Warmed39 s.vm) (hown : s.vm.findClass own = some m.cls) (w : (Cond.fieldLink own index C n d).before a0 Z = true) (eT : T.heap = h) (F : Fld Z h b C n d v) (hby : c.code = code) (h1 : decode code pc = .ok (.aload_n k, 1)) (hd : decode code (pc + 1) = .ok (.getfield index, 3)) (hl : Ls[k.val]? = some (.val (.ref b))) :
    ∃ T', Stand p l e R s m args below meth c T' locs cells slots ∧ T'.heap = h ∧ ∀ t, Steps p.tables e below (T'.setTop (mkF m (pc + 4) Ls (v :: stk))) t → Steps p.tables e below (T.setTop (mkF m pc Ls stk)) t := by
  obtain ⟨T', X', e', st⟩ := own_gf (pc := pc + 1) (Ls := Ls) (stk := .ref b :: stk) (rest := stk) X hx hZ hown w eT F hby hd rfl
  exact ⟨T', X', e', fun t q => Jvm.Free.XS.aloadN (g := mkF m pc Ls stk) X.here hx rfl (hb hby h1) hl rfl (st t q)⟩
theorem own_g2 {n d : String} {v : Value} {k : Nat} (X : Stand p l e R s m args below meth c T locs cells slots) (hx : p.tables.exec = Jvm.exec) (hZ : Z.Warmed39 s.vm) (hown : s.vm.findClass own = some m.cls) (w : (Cond.fieldLink own index C n d).before a0 Z = true) (eT : T.heap = h) (F : Fld Z h b C n d v) (hby : c.code = code) (h1 : decode code pc = .ok (.aload k, 2)) (hd : decode code (pc + 2) = .ok (.getfield index, 3)) (hl : Ls[k]? = some (.val (.ref b))) :
    ∃ T', Stand p l e R s m args below meth c T' locs cells slots ∧ T'.heap = h ∧ ∀ t, Steps p.tables e below (T'.setTop (mkF m (pc + 5) Ls (v :: stk))) t → Steps p.tables e below (T.setTop (mkF m pc Ls stk)) t := by
  obtain ⟨T', X', e', st⟩ := own_gf (pc := pc + 2) (Ls := Ls) (stk := .ref b :: stk) (rest := stk) X hx hZ hown w eT F hby hd rfl
  exact ⟨T', X', e', fun t q => Jvm.Free.XS.aload (g := mkF m pc Ls stk) X.here hx rfl (hb hby h1) hl rfl (st t q)⟩
theorem own_ia {k : ClassId} {z j x : Int32} {vs : List Value} {d : Value} {t : State} (X : Stand p l e R s m args below meth c T locs cells slots) (hx : p.tables.exec = Jvm.exec) (hZ : Z.Warmed39 s.vm) (eT : T.heap = h) (V : Arv Z h b k .int z vs d) (hj : ¬ j < 0 ∧ j < z) (hv : vs.getD j.toNatClampNeg d = .int x) (hby : c.code = code) (hd : decode code pc = .ok (.iaload, 1))
    (hr : Steps p.tables e below (T.setTop (mkF m (pc + 1) Ls (.int x :: rest))) t) : Steps p.tables e below (T.setTop (mkF m pc Ls (.int j :: .ref b :: rest))) t := by
  obtain ⟨cl, Ar, q, S, M, Hs, G⟩ := V
  have hin := inb_of S hj
  exact X.iaload hx (j := j) (v := .int x) (by rw [eT]; exact Ar.1) (State.isArrayOf_alike (State.Warmed39.alike hZ) Ar.2.1) Ar.2.2 hin (Hs.at hin hv) (g := mkF m pc Ls (.int j :: .ref b :: rest)) rfl rfl (hb hby hd) _ hr
theorem own_al {k : ClassId} {ty : FieldType} {z : Int32} {vs : List Value} {d : Value} {t : State} (X : Stand p l e R s m args below meth c T locs cells slots) (hx : p.tables.exec = Jvm.exec) (hZ : Z.Warmed39 s.vm) (eT : T.heap = h) (V : Arv Z h b k ty z vs d) (hby : c.code = code) (hd : decode code pc = .ok (.arraylength, 1))
    (hr : Steps p.tables e below (T.setTop (mkF m (pc + 1) Ls (.int z :: rest))) t) : Steps p.tables e below (T.setTop (mkF m pc Ls (.ref b :: rest))) t := by
  obtain ⟨cl, Ar, q, S, M, Hs, G⟩ := V
  refine X.arraylength hx (by rw [eT]; exact Ar.1) (State.isArrayOf_alike (State.Warmed39.alike hZ) Ar.2.1) (g := mkF m pc Ls (.ref b :: rest)) rfl rfl (hb hby hd) _ ?_
  rw [len_of S M]
  exact hr
theorem own_si {k : ClassId} {z j x : Int32} {vs : List Value} {d : Value} {n0 : Nat} (X : Stand p l e R s m args below meth c T locs cells slots) (hx : p.tables.exec = Jvm.exec) (hZ : Z.Warmed39 s.vm) (eT : T.heap = h) (V : Arv Z h b k .int z vs d) (hj : ¬ j < 0 ∧ j < z) (i : Nat) (hi : j.toNatClampNeg = i) (hl : i < vs.length) (N : Fr n0 locs) (hb0 : n0 ≤ b) (hby : c.code = code) (hd : decode code pc = .ok (.iastore, 1)) (hs : stk = .int x :: .int j :: .ref b :: rest) :
    ∃ T' h', Stand p l e R s m args below meth c T' (locs ++ [⟨b, j.toNatClampNeg⟩]) cells slots ∧ T'.heap = h' ∧ Wr h h' b j.toNatClampNeg (.int x) ∧ Arv Z h' b k .int z (vs.set i (.int x)) d ∧ Fr n0 (locs ++ [⟨b, j.toNatClampNeg⟩]) ∧ ∀ t, Steps p.tables e below (T'.setTop (mkF m (pc + 1) Ls rest)) t → Steps p.tables e below (T.setTop (mkF m pc Ls stk)) t := by
  obtain ⟨cl, Ar, q, S, M, Hs, G⟩ := V
  obtain ⟨T', h', X', e', W', st⟩ := stI X hx hZ eT Ar (j := j) (inb_of S hj) (g := mkF m pc Ls stk) rfl hs (hb hby hd)
  exact ⟨T', h', X', e', W', Arv.set Ar q S M Hs G rfl W' i hi hl, Fr.snoc X' N hb0, st⟩
theorem own_pf {n d : String} {nn n0 : Nat} {K : String} {ty : FieldType} {v v0 : Value} (X : Stand p l e R s m args below meth c T locs cells slots) (hx : p.tables.exec = Jvm.exec) (hZ : Z.Warmed39 s.vm) (hown : s.vm.findClass own = some m.cls) (w : (Cond.fieldLink own index C n d).before a0 Z = true) (eT : T.heap = h) (F : Fld Z h b C n d v0) (E : Exa Z h b K) (wl : (Cond.lays K C n d).before a0 Z = true ∨ (Cond.laysFinal K C n d).before a0 Z = true ∧ own = C ∧ meth.name = "<init>") (wi : (Cond.instantiable K nn).before a0 Z = true) (hp : parseFieldDescriptor d = some ty) (hna : narrow ty v = v) (hfi : fits ty v = true) (N : Fr n0 locs) (hb0 : n0 ≤ b) (hby : c.code = code) (hd : decode code pc = .ok (.putfield index, 3)) (hs : stk = v :: .ref b :: rest) :
    ∃ T' h', Stand p l e R s m args below meth c T' (locs ++ [⟨b, Jvm.RoadKit.slotOf Z C n d⟩]) cells slots ∧ T'.heap = h' ∧ Wr h h' b (Jvm.RoadKit.slotOf Z C n d) v ∧ Fld Z h' b C n d v ∧ Fr n0 (locs ++ [⟨b, Jvm.RoadKit.slotOf Z C n d⟩]) ∧ ∀ t, Steps p.tables e below (T'.setTop (mkF m (pc + 3) Ls rest)) t → Steps p.tables e below (T.setTop (mkF m pc Ls stk)) t := by
  obtain ⟨T', h', X', e', W', st⟩ := putF X hx hZ hown (host := "") (Or.inl w) Via.refl eT F E wl wi (ty := ty) hp hna hfi (g := mkF m pc Ls stk) rfl hs (hb hby hd)
  exact ⟨T', h', X', e', W', F.same W', Fr.snoc X' N hb0, st⟩
theorem own_rI {x y : Int32} {st : List Value} {t : State} (q : x = y) (hr : Steps p.tables e below (T.setTop (mkF m pc Ls (.int y :: st))) t) : Steps p.tables e below (T.setTop (mkF m pc Ls (.int x :: st))) t := by subst q; exact hr
theorem own_rJ {x y : Int64} {st : List Value} {t : State} (q : x = y) (hr : Steps p.tables e below (T.setTop (mkF m pc Ls (.long y :: st))) t) : Steps p.tables e below (T.setTop (mkF m pc Ls (.long x :: st))) t := by subst q; exact hr
theorem own_ld {x : Int32} {st : List Value} {t : State} (X : Stand p l e R s m args below meth c T locs cells slots) (hx : p.tables.exec = Jvm.exec) (hZ : Z.Warmed39 s.vm) (hown : s.vm.findClass own = some m.cls) (w : (Cond.constant own index x).before a0 Z = true) (hby : c.code = code) (hd : decode code pc = .ok (.ldc index, 2)) (hr : Steps p.tables e below (T.setTop (mkF m (pc + 2) Ls (.int x :: st))) t) : Steps p.tables e below (T.setTop (mkF m pc Ls st)) t := X.ldcInt hx hown (mvT hZ w) (g := mkF m pc Ls st) rfl (hb hby hd) _ hr
theorem own_lw {x : Int32} {st : List Value} {t : State} (X : Stand p l e R s m args below meth c T locs cells slots) (hx : p.tables.exec = Jvm.exec) (hZ : Z.Warmed39 s.vm) (hown : s.vm.findClass own = some m.cls) (w : (Cond.constant own index x).before a0 Z = true) (hby : c.code = code) (hd : decode code pc = .ok (.ldc_w index, 3)) (hr : Steps p.tables e below (T.setTop (mkF m (pc + 3) Ls (.int x :: st))) t) : Steps p.tables e below (T.setTop (mkF m pc Ls st)) t := X.ldcwInt hx hown (mvT hZ w) (g := mkF m pc Ls st) rfl (hb hby hd) _ hr
theorem own_l2 {x : Int64} {st : List Value} {t : State} (X : Stand p l e R s m args below meth c T locs cells slots) (hx : p.tables.exec = Jvm.exec) (hZ : Z.Warmed39 s.vm) (hown : s.vm.findClass own = some m.cls) (w : (Cond.constantLong own index x).before a0 Z = true) (hby : c.code = code) (hd : decode code pc = .ok (.ldc2_w index, 3)) (hr : Steps p.tables e below (T.setTop (mkF m (pc + 3) Ls (.long x :: st))) t) : Steps p.tables e below (T.setTop (mkF m pc Ls st)) t := X.ldc2Long hx hown (mvT hZ w) (g := mkF m pc Ls st) rfl (hb hby hd) _ hr
theorem own_d2 {x : Int32} {b : Addr} {st : List Value} {t : State} (X : Stand p l e R s m args below meth c T locs cells slots) (hx : p.tables.exec = Jvm.exec) (hby : c.code = code) (hd : decode code pc = .ok (.dup2, 1)) (hr : Steps p.tables e below (T.setTop (mkF m (pc + 1) Ls (.int x :: .ref b :: .int x :: .ref b :: st))) t) : Steps p.tables e below (T.setTop (mkF m pc Ls (.int x :: .ref b :: st))) t := by
  have hd' := hb hby hd
  show Steps p.tables e below (T.setTop (mkF m pc Ls (.int x :: .ref b :: st))) t
  jvm_step X.here [X.here.top, hx, hd', Value.category]
  exact hr
end OwnCall
def own_u (x : Int32) : Nat := x.toBitVec.toNat
theorem own_u_lt (x : Int32) : own_u x < 4294967296 := x.toBitVec.isLt
theorem own_u_inj {x y : Int32} (h : own_u x = own_u y) : x = y := Int32.toBitVec_inj.mp (BitVec.eq_of_toNat_eq h)
def own_w (n : Nat) : Int32 := Int32.ofNat n
theorem own_u_w (n : Nat) : own_u (own_w n) = n % 4294967296 := BitVec.toNat_ofNat n 32
theorem own_w_u (x : Int32) : own_w (own_u x) = x := own_u_inj (by rw [own_u_w]; exact Nat.mod_eq_of_lt (own_u_lt x))
theorem own_u0 {x : Int32} : own_u x = 0 ↔ x = 0 := ⟨fun h => own_u_inj (h.trans rfl), fun h => by rw [h]; rfl⟩
theorem own_k31 : ∀ t : Fin 32, (Int32.ofNat t.val &&& (31 : Int32)) = Int32.ofNat t.val ∧ (Int32.ofNat t.val).toBitVec.smod 32#32 = BitVec.ofNat 32 t.val ∧ (Int32.ofNat t.val &&& (31 : Int32)).toUInt32.toNat % 32 = t.val ∧ ((32 : Int32) - Int32.ofNat t.val) = Int32.ofNat (32 - t.val) := by decide +kernel
theorem own_shr_u (x k : Int32) (t : Nat) (ht : t < 32) (hk : k = Int32.ofNat t) : own_u ((x.toUInt32 >>> (k &&& 31).toUInt32).toInt32) = own_u x / 2 ^ t := by
  subst hk
  have e := (own_k31 ⟨t, ht⟩).2.2.1
  show (x.toUInt32 >>> (Int32.ofNat t &&& (31 : Int32)).toUInt32).toNat = _
  rw [UInt32.toNat_shiftRight, e, Nat.shiftRight_eq_div_pow]
  rfl
theorem own_shl_u (x k : Int32) (t : Nat) (ht : t < 32) (hk : k = Int32.ofNat t) : own_u (x <<< (k &&& 31)) = own_u x * 2 ^ t % 4294967296 := by
  subst hk
  have e := own_k31 ⟨t, ht⟩
  unfold own_u
  have e2 : (Int32.ofNat t).toBitVec.smod 32 = BitVec.ofNat 32 t := e.2.1
  have e1 : (Int32.ofNat t &&& (31 : Int32)) = Int32.ofNat t := e.1
  rw [Int32.toBitVec_shiftLeft, e1, e2]
  have ht' : (BitVec.ofNat 32 t).toNat = t := by rw [BitVec.toNat_ofNat]; exact Nat.mod_eq_of_lt (by omega)
  rw [BitVec.shiftLeft_eq', ht', BitVec.toNat_shiftLeft, Nat.shiftLeft_eq]
theorem own_or_u (x y k j : Int32) (t : Nat) (ht : t < 32) (h0 : 0 < t) (hk : k = Int32.ofNat t) (hj : j = Int32.ofNat (32 - t)) : own_u ((x <<< (j &&& 31)) ||| ((y.toUInt32 >>> (k &&& 31).toUInt32).toInt32)) = own_u x * 2 ^ (32 - t) % 4294967296 + own_u y / 2 ^ t := by
  have e1 := own_shl_u x j (32 - t) (by omega) hj
  have e2 := own_shr_u y k t ht hk
  have e3 : own_u ((x <<< (j &&& 31)) ||| ((y.toUInt32 >>> (k &&& 31).toUInt32).toInt32)) = own_u (x <<< (j &&& 31)) ||| own_u ((y.toUInt32 >>> (k &&& 31).toUInt32).toInt32) := by
    unfold own_u; rw [Int32.toBitVec_or, BitVec.toNat_or]
  rw [e3, e1, e2]
  have h1 : own_u y / 2 ^ t < 2 ^ (32 - t) := by
    rw [Nat.div_lt_iff_lt_mul (Nat.two_pow_pos t), ← Nat.pow_add, show 32 - t + t = 32 by omega]; exact own_u_lt y
  have h2 : own_u x * 2 ^ (32 - t) % 4294967296 = 2 ^ (32 - t) * (own_u x % 2 ^ t) := by
    rw [Nat.mul_comm, show (4294967296 : Nat) = 2 ^ (32 - t) * 2 ^ t by rw [← Nat.pow_add, show 32 - t + t = 32 by omega], Nat.mul_mod_mul_left]
  rw [h2, Nat.two_pow_add_eq_or_of_lt h1]
def own_L (x : Int32) : Int64 := x.toInt64 &&& (4294967295 : Int64)
theorem own_L_bv (x : Int32) : (own_L x).toBitVec.toNat = own_u x := by
  unfold own_L own_u
  rw [Int64.toBitVec_and, BitVec.toNat_and, show (4294967295 : Int64).toBitVec.toNat = 2 ^ 32 - 1 from rfl, Nat.and_two_pow_sub_one_eq_mod]
  rw [Int32.toBitVec_toInt64, BitVec.toNat_signExtend]
  have := x.toBitVec.isLt
  rw [BitVec.toNat_setWidth]
  split <;> omega
theorem own_toInt_of {x : Int64} (h : x.toBitVec.toNat < 2 ^ 63) : x.toInt = (x.toBitVec.toNat : Int) := by
  show x.toBitVec.toInt = _
  rw [BitVec.toInt_eq_toNat_cond]; split <;> omega
theorem own_L_toInt (x : Int32) : (own_L x).toInt = (own_u x : Int) := by
  rw [own_toInt_of (by rw [own_L_bv]; have := own_u_lt x; omega), own_L_bv]
theorem own_add64 {a b : Int64} {x y : Int} (ha : a.toInt = x) (hb : b.toInt = y) (h1 : -9223372036854775808 ≤ x + y) (h2 : x + y < 9223372036854775808) : (a + b).toInt = x + y := by
  rw [Int64.toInt_add, ha, hb]; exact Int.bmod_eq_of_le (by omega) (by omega)
theorem own_sub64 {a b : Int64} {x y : Int} (ha : a.toInt = x) (hb : b.toInt = y) (h1 : -9223372036854775808 ≤ x - y) (h2 : x - y < 9223372036854775808) : (a - b).toInt = x - y := by
  rw [Int64.toInt_sub, ha, hb]; exact Int.bmod_eq_of_le (by omega) (by omega)
theorem own_mul64 {a b : Int64} {x y : Int} (ha : a.toInt = x) (hb : b.toInt = y) (h1 : -9223372036854775808 ≤ x * y) (h2 : x * y < 9223372036854775808) : (a * b).toInt = x * y := by
  rw [Int64.toInt_mul, ha, hb]; exact Int.bmod_eq_of_le (by omega) (by omega)
theorem own_neg64 {a : Int64} {x : Int} (ha : a.toInt = x) (h1 : -9223372036854775808 < x) : (-a).toInt = -x := by
  have := Int64.le_toInt a
  have := Int64.toInt_lt a
  rw [Int64.toInt_neg, ha]; exact Int.bmod_eq_of_le (by omega) (by omega)
theorem own_shr64 (a : Int64) : (a >>> ((32 : Int32) &&& 0x3f).toInt64).toInt = a.toInt / 4294967296 := by
  have e : ((32 : Int32) &&& 0x3f).toInt64 = 32 := rfl
  rw [e]
  show (a >>> (32 : Int64)).toBitVec.toInt = _
  rw [Int64.toBitVec_shiftRight, show ((32 : Int64).toBitVec.smod 64) = 32#64 from rfl]
  rw [BitVec.sshiftRight_eq', show (32#64).toNat = 32 from rfl, BitVec.toInt_sshiftRight, Int.shiftRight_eq_div_pow]
  rfl
theorem own_l2i {a : Int64} {x : Int} (ha : a.toInt = x) : (own_u a.toInt32 : Int) = x % 4294967296 := by
  subst ha
  unfold own_u
  rw [show a.toInt32.toBitVec = a.toBitVec.setWidth 32 by rw [Int64.toBitVec_toInt32]; exact BitVec.signExtend_eq_setWidth_of_le _ (by omega), BitVec.toNat_setWidth]
  show _ = a.toBitVec.toInt % _
  rw [BitVec.toInt_eq_toNat_cond]
  split <;> omega
theorem own_div64 {a b : Int64} {x y : Int} (ha : a.toInt = x) (hb : b.toInt = y) (hx : 0 ≤ x) (hy : 0 < y) : (a / b).toInt = x / y := by
  have h1 := Int64.toInt_lt a
  rw [Int64.toInt_div, ha, hb, Int.tdiv_eq_ediv_of_nonneg hx]
  have := Int.ediv_nonneg hx (Int.le_of_lt hy)
  have := Int.ediv_le_self y hx
  exact Int.bmod_eq_of_le (by omega) (by omega)
def own_sh (x : Int32) (k : Int32) : Int32 := (x.toUInt32 >>> (k &&& 31).toUInt32).toInt32
theorem own_pos_u {x : Int32} (h : (0 : Int32) < x) : own_u x < 2147483648 ∧ x.toInt = (own_u x : Int) := by
  rw [Int32.lt_iff_toInt_lt] at h
  have e : (0 : Int32).toInt = 0 := rfl
  have : x.toInt = x.toBitVec.toInt := rfl
  have q := x.toBitVec.isLt
  rw [BitVec.toInt_eq_toNat_cond] at this
  unfold own_u
  split at this <;> omega
theorem own_ltN {x c : Int32} (hx : own_u x < 2147483648) (hc : own_u c < 2147483648) : x < c ↔ own_u x < own_u c := by
  have h1 : x.toInt = (own_u x : Int) := by
    have : x.toInt = x.toBitVec.toInt := rfl
    rw [BitVec.toInt_eq_toNat_cond] at this; unfold own_u at *; split at this <;> omega
  have h2 : c.toInt = (own_u c : Int) := by
    have : c.toInt = c.toBitVec.toInt := rfl
    rw [BitVec.toInt_eq_toNat_cond] at this; unfold own_u at *; split at this <;> omega
  rw [Int32.lt_iff_toInt_lt, h1, h2]; omega
theorem own_stage {i n c kk kn : Int32} {t m k : Nat} (hc : own_u c = 2 ^ k) (hk : k < 31) (hkk : kk = Int32.ofNat k) (hkn : ∀ m : Nat, k ≤ m → m < 32 → Int32.ofNat m + kn = Int32.ofNat (m - k)) (h1 : 2 ^ t ≤ own_u i) (h2 : own_u i < 2 ^ (t + 1)) (ht : t < 2 * k) (hp : own_u i < 2147483648) (hn : n = Int32.ofNat m) (hm : t ≤ m) (hm2 : m < 32) :
    ∃ t' m' : Nat, t' < k ∧ 2 ^ t' ≤ own_u (if i < c then i else own_sh i kk) ∧ own_u (if i < c then i else own_sh i kk) < 2 ^ (t' + 1) ∧ own_u (if i < c then i else own_sh i kk) < 2147483648 ∧ (if i < c then n else n + kn) = Int32.ofNat m' ∧ t' ≤ m' ∧ m' < 32 ∧ m' + t = m + t' := by
  have hc2 : own_u c < 2147483648 := by rw [hc, show 2147483648 = 2 ^ 31 from rfl]; exact Nat.pow_lt_pow_right (by omega) hk
  by_cases q : i < c
  · have q' := (own_ltN hp hc2).mp q
    simp only [if_pos q]
    refine ⟨t, m, ?_, h1, h2, hp, hn, hm, hm2, rfl⟩
    rw [hc] at q'
    exact (Nat.pow_lt_pow_iff_right (a := 2) (by omega)).mp (Nat.lt_of_le_of_lt h1 q')
  · have q' : ¬ own_u i < 2 ^ k := fun z => q ((own_ltN hp hc2).mpr (by rw [hc]; exact z))
    simp only [if_neg q]
    have e : own_u (own_sh i kk) = own_u i / 2 ^ k := own_shr_u i kk k (by omega) hkk
    have hkt : k ≤ t := Nat.le_of_not_lt fun z => q' (Nat.lt_of_lt_of_le h2 (Nat.pow_le_pow_right (by omega) (by omega)))
    rw [e]
    refine ⟨t - k, m - k, by omega, ?_, ?_, ?_, ?_, by omega, by omega, by omega⟩
    · rw [Nat.le_div_iff_mul_le (Nat.two_pow_pos k), ← Nat.pow_add, show t - k + k = t by omega]; exact h1
    · rw [Nat.div_lt_iff_lt_mul (Nat.two_pow_pos k), ← Nat.pow_add, show t - k + 1 + k = t + 1 by omega]; exact h2
    · exact Nat.lt_of_le_of_lt (Nat.div_le_self _ _) hp
    · rw [hn]; exact hkn m (by omega) hm2
def own_nlp (i0 : Int32) : Int32 :=
  let i1 := if i0 < (65536 : Int32) then i0 else own_sh i0 16
  let n1 := if i0 < (65536 : Int32) then (31 : Int32) else (15 : Int32)
  let i2 := if i1 < (256 : Int32) then i1 else own_sh i1 8
  let n2 := if i1 < (256 : Int32) then n1 else (n1 + (-8 : Int32))
  let i3 := if i2 < (16 : Int32) then i2 else own_sh i2 4
  let n3 := if i2 < (16 : Int32) then n2 else (n2 + (-4 : Int32))
  let i4 := if i3 < (4 : Int32) then i3 else own_sh i3 2
  let n4 := if i3 < (4 : Int32) then n3 else (n3 + (-2 : Int32))
  n4 - own_sh i4 1
def own_nlz (x : Int32) : Int32 := if (0 : Int32) < x then own_nlp x else if x = (0 : Int32) then (32 : Int32) else (0 : Int32)
theorem own_log (n : Nat) (h : n ≠ 0) : ∃ t, 2 ^ t ≤ n ∧ n < 2 ^ (t + 1) := ⟨n.log2, (Nat.le_log2 h).mp (Nat.le_refl _), (Nat.log2_lt h).mp (Nat.lt_succ_self _)⟩
theorem own_subk : (∀ m : Fin 32, 16 ≤ m.val → Int32.ofNat m.val + (-16 : Int32) = Int32.ofNat (m.val - 16)) ∧ (∀ m : Fin 32, 8 ≤ m.val → Int32.ofNat m.val + (-8 : Int32) = Int32.ofNat (m.val - 8)) ∧ (∀ m : Fin 32, 4 ≤ m.val → Int32.ofNat m.val + (-4 : Int32) = Int32.ofNat (m.val - 4)) ∧ (∀ m : Fin 32, 2 ≤ m.val → Int32.ofNat m.val + (-2 : Int32) = Int32.ofNat (m.val - 2)) ∧ (∀ m : Fin 32, 1 ≤ m.val → Int32.ofNat m.val - (1 : Int32) = Int32.ofNat (m.val - 1)) := by decide +kernel
theorem own_nlp_eq {x : Int32} (hx : own_u x < 2147483648) {t : Nat} (h1 : 2 ^ t ≤ own_u x) (h2 : own_u x < 2 ^ (t + 1)) : own_nlp x = Int32.ofNat (31 - t) := by
  have ht : t < 31 := (Nat.pow_lt_pow_iff_right (a := 2) (by omega)).mp (Nat.lt_of_le_of_lt h1 hx)
  obtain ⟨t1, m1, a1, b1, c1, d1, e1, f1, g1, r1⟩ := own_stage (i := x) (n := 31) (c := 65536) (kk := 16) (kn := -16) (k := 16) (m := 31) rfl (by omega) rfl (fun m q1 q2 => own_subk.1 ⟨m, q2⟩ q1) h1 h2 (by omega) hx rfl (by omega) (by omega)
  obtain ⟨t2, m2, a2, b2, c2, d2, e2, f2, g2, r2⟩ := own_stage (c := 256) (kk := 8) (kn := -8) (k := 8) rfl (by omega) rfl (fun m q1 q2 => own_subk.2.1 ⟨m, q2⟩ q1) b1 c1 (by omega) d1 e1 f1 g1
  obtain ⟨t3, m3, a3, b3, c3, d3, e3, f3, g3, r3⟩ := own_stage (c := 16) (kk := 4) (kn := -4) (k := 4) rfl (by omega) rfl (fun m q1 q2 => own_subk.2.2.1 ⟨m, q2⟩ q1) b2 c2 (by omega) d2 e2 f2 g2
  obtain ⟨t4, m4, a4, b4, c4, d4, e4, f4, g4, r4⟩ := own_stage (c := 4) (kk := 2) (kn := -2) (k := 2) rfl (by omega) rfl (fun m q1 q2 => own_subk.2.2.2.1 ⟨m, q2⟩ q1) b3 c3 (by omega) d3 e3 f3 g3
  have hN : own_nlp x = Int32.ofNat m4 - own_sh (if (if (if (if x < (65536 : Int32) then x else own_sh x 16) < (256 : Int32) then (if x < (65536 : Int32) then x else own_sh x 16) else own_sh (if x < (65536 : Int32) then x else own_sh x 16) 8) < (16 : Int32) then (if (if x < (65536 : Int32) then x else own_sh x 16) < (256 : Int32) then (if x < (65536 : Int32) then x else own_sh x 16) else own_sh (if x < (65536 : Int32) then x else own_sh x 16) 8) else own_sh (if (if x < (65536 : Int32) then x else own_sh x 16) < (256 : Int32) then (if x < (65536 : Int32) then x else own_sh x 16) else own_sh (if x < (65536 : Int32) then x else own_sh x 16) 8) 4) < (4 : Int32) then (if (if (if x < (65536 : Int32) then x else own_sh x 16) < (256 : Int32) then (if x < (65536 : Int32) then x else own_sh x 16) else own_sh (if x < (65536 : Int32) then x else own_sh x 16) 8) < (16 : Int32) then (if (if x < (65536 : Int32) then x else own_sh x 16) < (256 : Int32) then (if x < (65536 : Int32) then x else own_sh x 16) else own_sh (if x < (65536 : Int32) then x else own_sh x 16) 8) else own_sh (if (if x < (65536 : Int32) then x else own_sh x 16) < (256 : Int32) then (if x < (65536 : Int32) then x else own_sh x 16) else own_sh (if x < (65536 : Int32) then x else own_sh x 16) 8) 4) else own_sh (if (if (if x < (65536 : Int32) then x else own_sh x 16) < (256 : Int32) then (if x < (65536 : Int32) then x else own_sh x 16) else own_sh (if x < (65536 : Int32) then x else own_sh x 16) 8) < (16 : Int32) then (if (if x < (65536 : Int32) then x else own_sh x 16) < (256 : Int32) then (if x < (65536 : Int32) then x else own_sh x 16) else own_sh (if x < (65536 : Int32) then x else own_sh x 16) 8) else own_sh (if (if x < (65536 : Int32) then x else own_sh x 16) < (256 : Int32) then (if x < (65536 : Int32) then x else own_sh x 16) else own_sh (if x < (65536 : Int32) then x else own_sh x 16) 8) 4) 2) 1 := by rw [← e4]; rfl
  rw [hN]
  revert b4 c4 d4
  generalize (if (if (if (if x < (65536 : Int32) then x else own_sh x 16) < (256 : Int32) then (if x < (65536 : Int32) then x else own_sh x 16) else own_sh (if x < (65536 : Int32) then x else own_sh x 16) 8) < (16 : Int32) then (if (if x < (65536 : Int32) then x else own_sh x 16) < (256 : Int32) then (if x < (65536 : Int32) then x else own_sh x 16) else own_sh (if x < (65536 : Int32) then x else own_sh x 16) 8) else own_sh (if (if x < (65536 : Int32) then x else own_sh x 16) < (256 : Int32) then (if x < (65536 : Int32) then x else own_sh x 16) else own_sh (if x < (65536 : Int32) then x else own_sh x 16) 8) 4) < (4 : Int32) then _ else _) = i4
  intro b4 c4 d4
  have e : own_u (own_sh i4 1) = own_u i4 / 2 ^ 1 := own_shr_u i4 1 1 (by omega) rfl
  have hm : m4 = 31 - t + t4 := by omega
  rcases (show t4 = 0 ∨ t4 = 1 by omega) with rfl | rfl
  · have : own_sh i4 1 = 0 := own_u0.mp (by rw [e]; omega)
    rw [this, hm]; simp
  · have : own_sh i4 1 = 1 := own_u_inj (by rw [e]; show _ = 1; omega)
    have q : Int32.ofNat m4 - (1 : Int32) = Int32.ofNat (m4 - 1) := own_subk.2.2.2.2 ⟨m4, g4⟩ (by show 1 ≤ m4; omega)
    rw [this, q, hm]
    congr 1
theorem own_nlz_eq (x : Int32) (hx : x ≠ 0) : ∃ t, t < 32 ∧ own_nlz x = Int32.ofNat (31 - t) ∧ 2 ^ t ≤ own_u x ∧ own_u x < 2 ^ (t + 1) := by
  obtain ⟨t, h1, h2⟩ := own_log (own_u x) (fun q => hx (own_u0.mp q))
  have ht : t < 32 := (Nat.pow_lt_pow_iff_right (a := 2) (by omega)).mp (Nat.lt_of_le_of_lt h1 (own_u_lt x))
  refine ⟨t, ht, ?_, h1, h2⟩
  unfold own_nlz
  by_cases c : (0 : Int32) < x
  · rw [if_pos c]; exact own_nlp_eq (own_pos_u c).1 h1 h2
  · rw [if_neg c, if_neg hx]
    have : ¬ own_u x < 2147483648 := fun q => by
      apply c
      have e : own_u (0 : Int32) = 0 := rfl
      rw [own_ltN (by rw [e]; omega) q, e]
      exact Nat.pos_of_ne_zero fun z => hx (own_u0.mp z)
    have ht2 : t = 31 := by
      apply Nat.le_antisymm (by omega)
      apply Nat.le_of_not_lt
      intro q
      apply this
      exact Nat.lt_of_lt_of_le h2 (Nat.pow_le_pow_right (by omega) (show t + 1 ≤ 31 by omega))
    subst ht2; rfl
/-- bitLengthForInt -/
theorem own_bl_eq (x : Int32) (hx : x ≠ 0) : ∃ b, 0 < b ∧ b ≤ 32 ∧ (32 : Int32) - own_nlz x = Int32.ofNat b ∧ 2 ^ (b - 1) ≤ own_u x ∧ own_u x < 2 ^ b := by
  obtain ⟨t, ht, e, h1, h2⟩ := own_nlz_eq x hx
  refine ⟨t + 1, by omega, by omega, ?_, h1, h2⟩
  have q : ∀ t : Fin 32, (32 : Int32) - Int32.ofNat (31 - t.val) = Int32.ofNat (t.val + 1) := by decide +kernel
  rw [e]; exact q ⟨t, ht⟩
theorem own_ltF : ∀ a : Fin 33, ∀ b : Fin 33, (Int32.ofNat a.val < Int32.ofNat b.val) = decide (a.val < b.val) := by decide +kernel
theorem own_ltS {a b : Nat} (ha : a < 33) (hb : b < 33) : Int32.ofNat a < Int32.ofNat b ↔ a < b := by
  have := own_ltF ⟨a, ha⟩ ⟨b, hb⟩
  simp only at this
  rw [this]; simp
/-- rightShift's branch -/
theorem own_bl_lt (x : Int32) (hx : x ≠ 0) {r : Nat} (hr : r < 32) : Int32.ofNat r < (32 : Int32) - own_nlz x ↔ 2 ^ r ≤ own_u x := by
  obtain ⟨b, b1, b2, e, h1, h2⟩ := own_bl_eq x hx
  rw [e, own_ltS (by omega) (by omega)]
  constructor
  · intro q; exact Nat.le_trans (Nat.pow_le_pow_right (by omega) (by omega)) h1
  · intro q; exact (Nat.pow_lt_pow_iff_right (a := 2) (by omega)).mp (Nat.lt_of_le_of_lt q h2)
/-- leftShift's branch -/
theorem own_bl_fit (x : Int32) (hx : x ≠ 0) {r : Nat} (hr : r < 32) (h : own_u x * 2 ^ r < 4294967296) : ¬ ((32 : Int32) - ((32 : Int32) - own_nlz x) < Int32.ofNat r) := by
  obtain ⟨b, b1, b2, e, h1, h2⟩ := own_bl_eq x hx
  have q : ∀ t : Fin 33, (32 : Int32) - Int32.ofNat t.val = Int32.ofNat (32 - t.val) := by decide +kernel
  rw [e, q ⟨b, by omega⟩, own_ltS (by show 32 - b < 33; omega) (by omega)]
  intro z
  have z' : 32 - b < r := z
  have : 2 ^ 32 ≤ own_u x * 2 ^ r := by
    calc 2 ^ 32 ≤ 2 ^ (b - 1 + r) := Nat.pow_le_pow_right (by omega) (by omega)
      _ = 2 ^ (b - 1) * 2 ^ r := Nat.pow_add _ _ _
      _ ≤ own_u x * 2 ^ r := Nat.mul_le_mul_right _ h1
  omega

theorem own_div2 {n hi lo t : Nat} (h : n = hi * 4294967296 + lo) (hlo : lo < 4294967296) (ht : t < 32) : n / 2 ^ t = (hi / 2 ^ t) * 4294967296 + (hi * 2 ^ (32 - t) % 4294967296 + lo / 2 ^ t) := by
  have e : (4294967296 : Nat) = 2 ^ (32 - t) * 2 ^ t := by rw [← Nat.pow_add, show 32 - t + t = 32 by omega]
  have hp := Nat.two_pow_pos t
  have h1 : n = 2 ^ t * (hi * 2 ^ (32 - t)) + lo := by
    rw [h]; congr 1
    conv => lhs; rw [e]
    rw [← Nat.mul_assoc, Nat.mul_comm]
  rw [h1, Nat.mul_add_div hp]
  have h2 : hi * 2 ^ (32 - t) % 4294967296 = 2 ^ (32 - t) * (hi % 2 ^ t) := by
    rw [Nat.mul_comm, show (4294967296 : Nat) = 2 ^ (32 - t) * 2 ^ t from e, Nat.mul_mod_mul_left]
  rw [h2, ← Nat.add_assoc]
  congr 1
  conv => lhs; rw [← Nat.div_add_mod hi (2 ^ t)]
  rw [Nat.add_mul, Nat.mul_comm (hi % 2 ^ t)]
  congr 1
  rw [Nat.mul_comm (2 ^ t), Nat.mul_assoc, Nat.mul_comm (2 ^ t), ← e]
theorem own_divA {hi lo q : Nat} (hlo : lo < 4294967296) {t r : Nat} (ht : t = 32 + r) (hd : 2 ^ t ∣ hi * 4294967296 + lo) : lo = 0 ∧ (hi * 4294967296 + lo) / 2 ^ t = hi / 2 ^ r := by
  have e : 2 ^ t = 4294967296 * 2 ^ r := by rw [ht, Nat.pow_add]
  have h0 : 4294967296 ∣ hi * 4294967296 + lo := Nat.dvd_trans ⟨2 ^ r, e⟩ hd
  have h1 : lo = 0 := by omega
  refine ⟨h1, ?_⟩
  rw [e, ← Nat.div_div_eq_div_mul]
  congr 1
  omega
theorem own_div_pos {n t : Nat} (hn : n ≠ 0) (hd : 2 ^ t ∣ n) : n / 2 ^ t ≠ 0 := by
  obtain ⟨k, rfl⟩ := hd
  rw [Nat.mul_div_cancel_left _ (Nat.two_pow_pos t)]
  intro q; rw [q] at hn; exact hn (Nat.mul_zero _)
theorem own_dvd_small {n t : Nat} (hn : n ≠ 0) (hd : 2 ^ t ∣ n) (b : Nat) (hb : n < 2 ^ b) : t < b := by
  have := Nat.le_of_dvd (Nat.pos_of_ne_zero hn) hd
  exact (Nat.pow_lt_pow_iff_right (a := 2) (by omega)).mp (Nat.lt_of_le_of_lt this hb)
theorem own_tz_uniq {t s k j : Nat} (h : 2 ^ (t + 1) * k + 2 ^ t = 2 ^ (s + 1) * j + 2 ^ s) : t = s := by
  have key : ∀ {t s k j : Nat}, t < s → 2 ^ (t + 1) * k + 2 ^ t = 2 ^ (s + 1) * j + 2 ^ s → False := by
    intro t s k j hl h
    obtain ⟨d, rfl⟩ := Nat.exists_eq_add_of_lt hl
    have hp := Nat.two_pow_pos t
    have e1 : 2 ^ (t + 1) * k + 2 ^ t = 2 ^ t * (2 * k + 1) := by rw [Nat.pow_succ, Nat.mul_add, Nat.mul_one, Nat.mul_assoc]
    have e2 : 2 ^ (t + d + 1 + 1) * j + 2 ^ (t + d + 1) = 2 ^ t * (2 * (2 ^ d * (2 * j + 1))) := by
      rw [show t + d + 1 + 1 = t + (d + 1 + 1) by omega, show t + d + 1 = t + (d + 1) by omega, Nat.pow_add 2 t, Nat.pow_add 2 t, Nat.pow_succ 2 (d + 1), Nat.pow_succ 2 d]
      generalize 2 ^ t = A
      generalize 2 ^ d = B
      simp only [Nat.mul_add, Nat.mul_one, Nat.mul_assoc]
      congr 1
      · congr 1; simp only [Nat.mul_left_comm]
      · congr 1; exact Nat.mul_comm _ _
    rw [e1, e2] at h
    have := Nat.eq_of_mul_eq_mul_left hp h
    omega
  rcases Nat.lt_trichotomy t s with c | c | c
  · exact (key c h).elim
  · exact c
  · exact (key c h.symm).elim
def own_tzf : Nat → Nat → Nat
  | 0, _ => 0
  | f + 1, n => if n % 2 = 1 then 0 else own_tzf f (n / 2) + 1
theorem own_tzf_spec : ∀ (f n : Nat), n ≠ 0 → n ≤ f → ∃ k, n = 2 ^ (own_tzf f n + 1) * k + 2 ^ own_tzf f n := by
  intro f
  induction f with
  | zero => intro n h1 h2; omega
  | succ f ih =>
    intro n h1 h2
    by_cases c : n % 2 = 1
    · refine ⟨n / 2, ?_⟩
      simp only [own_tzf, if_pos c]; omega
    · obtain ⟨k, e⟩ := ih (n / 2) (by omega) (by omega)
      refine ⟨k, ?_⟩
      simp only [own_tzf, if_neg c]
      have : n = 2 * (n / 2) := by omega
      generalize own_tzf f (n / 2) = t at e ⊢
      rw [this, e, Nat.mul_add, ← Nat.mul_assoc, Nat.pow_succ 2 (t + 1), Nat.pow_succ 2 t]
      rw [Nat.mul_comm 2 (2 ^ t * 2), Nat.mul_comm 2 (2 ^ t)]
def own_tz (n : Nat) : Nat := own_tzf n n
theorem own_tz_spec (n : Nat) (h : n ≠ 0) : ∃ k, n = 2 ^ (own_tz n + 1) * k + 2 ^ own_tz n := own_tzf_spec n n h (Nat.le_refl _)
theorem own_tz_eq {n t k : Nat} (h : n = 2 ^ (t + 1) * k + 2 ^ t) : own_tz n = t := by
  have hp := Nat.two_pow_pos t
  obtain ⟨j, e⟩ := own_tz_spec n (by omega)
  exact own_tz_uniq (e.symm.trans h)
/-- n is 2^tz times an odd number -/
theorem own_tz_odd (n : Nat) (h : n ≠ 0) : n = 2 ^ own_tz n * (n / 2 ^ own_tz n) ∧ (n / 2 ^ own_tz n) % 2 = 1 := by
  obtain ⟨k, e⟩ := own_tz_spec n h
  have hp := Nat.two_pow_pos (own_tz n)
  have e1 : 2 ^ (own_tz n + 1) * k + 2 ^ own_tz n = 2 ^ own_tz n * (2 * k + 1) := by rw [Nat.pow_succ, Nat.mul_add, Nat.mul_one, Nat.mul_assoc]
  have e2 : n / 2 ^ own_tz n = 2 * k + 1 := by
    have : n = 2 ^ own_tz n * (2 * k + 1) := e.trans e1
    exact Nat.div_eq_of_eq_mul_right hp this
  rw [e2]
  exact ⟨e.trans e1, by omega⟩
theorem own_tz_mul (n t : Nat) (h : n % 2 = 1) : own_tz (2 ^ t * n) = t := own_tz_eq (k := n / 2) (by
  rw [Nat.pow_succ, Nat.mul_assoc, ← Nat.mul_add_one]
  congr 1; omega)
theorem own_tz_1 (n : Nat) (h : n % 2 = 1) : own_tz n = 0 := by have := own_tz_mul n 0 h; simpa using this
theorem own_tz_lt (n b : Nat) (h : n ≠ 0) (hb : n < 2 ^ b) : own_tz n < b := by
  obtain ⟨e, -⟩ := own_tz_odd n h
  apply Nat.lt_of_not_le
  intro c
  have h1 : 2 ^ b ≤ 2 ^ own_tz n := Nat.pow_le_pow_right (by omega) c
  have h2 : n / 2 ^ own_tz n ≠ 0 := by intro q; rw [q] at e; omega
  have : 2 ^ own_tz n ≤ 2 ^ own_tz n * (n / 2 ^ own_tz n) := Nat.le_mul_of_pos_right _ (Nat.pos_of_ne_zero h2)
  omega
theorem own_tz_dvd {n t : Nat} (h : n ≠ 0) (ht : t ≤ own_tz n) : 2 ^ t ∣ n := by
  obtain ⟨e, -⟩ := own_tz_odd n h
  have : 2 ^ t ∣ 2 ^ own_tz n := Nat.pow_dvd_pow 2 ht
  exact Nat.dvd_trans this ⟨_, e⟩
/-- what binary gcd does -/
theorem own_cop2 {v : Nat} (hv : v % 2 = 1) (t : Nat) : Nat.Coprime (2 ^ t) v := by
  apply Nat.Coprime.pow_left
  show Nat.gcd 2 v = 1
  rw [Nat.gcd_rec, hv]; rfl
theorem own_gcd_odd {u v : Nat} (hv : v % 2 = 1) (hu : u ≠ 0) : Nat.gcd (u / 2 ^ own_tz u) v = Nat.gcd u v := by
  obtain ⟨e, -⟩ := own_tz_odd u hu
  conv => rhs; rw [e]
  exact (Nat.Coprime.gcd_mul_left_cancel _ (own_cop2 hv _)).symm
theorem own_gcd_step {u v : Nat} (hv : v % 2 = 1) (h : v < u) : Nat.gcd ((u - v) / 2 ^ own_tz (u - v)) v = Nat.gcd u v := by
  rw [own_gcd_odd hv (by omega), Nat.gcd_sub_self_left (by omega)]
theorem own_step_lt {n : Nat} (t : Nat) (h : n ≠ 0) : n / 2 ^ t ≤ n := Nat.div_le_self _ _
theorem own_step_odd {n : Nat} (h : n ≠ 0) : (n / 2 ^ own_tz n) % 2 = 1 := (own_tz_odd n h).2
/-- both shifted by the smaller count -/
theorem own_gcd_min {u v k : Nat} (hu : u ≠ 0) (hv : v ≠ 0) (h1 : k ≤ own_tz u) (h2 : k ≤ own_tz v) : Nat.gcd u v = 2 ^ k * Nat.gcd (u / 2 ^ k) (v / 2 ^ k) := by
  obtain ⟨a, rfl⟩ := own_tz_dvd hu h1
  obtain ⟨b, rfl⟩ := own_tz_dvd hv h2
  have hp := Nat.two_pow_pos k
  rw [Nat.mul_div_cancel_left _ hp, Nat.mul_div_cancel_left _ hp, Nat.gcd_mul_left]
theorem own_tz_div {u k : Nat} (hu : u ≠ 0) (h : k ≤ own_tz u) : own_tz (u / 2 ^ k) = own_tz u - k ∧ u / 2 ^ k ≠ 0 ∧ (u / 2 ^ k) / 2 ^ own_tz (u / 2 ^ k) = u / 2 ^ own_tz u := by
  obtain ⟨e, o⟩ := own_tz_odd u hu
  have hp := Nat.two_pow_pos k
  have e2 : u = 2 ^ k * (2 ^ (own_tz u - k) * (u / 2 ^ own_tz u)) := by rw [← Nat.mul_assoc, ← Nat.pow_add, show k + (own_tz u - k) = own_tz u by omega]; exact e
  have e3 : u / 2 ^ k = 2 ^ (own_tz u - k) * (u / 2 ^ own_tz u) := Nat.div_eq_of_eq_mul_right hp e2
  have e4 : own_tz (u / 2 ^ k) = own_tz u - k := by rw [e3]; exact own_tz_mul _ _ o
  refine ⟨e4, fun q => ?_, ?_⟩
  · rw [q] at e3; have := Nat.two_pow_pos (own_tz u - k); rcases Nat.mul_eq_zero.mp e3.symm with c | c <;> omega
  · rw [e4, e3, Nat.mul_div_cancel_left _ (Nat.two_pow_pos _)]
theorem own_low (X t k : Nat) (h : X = 2 ^ (t + 1) * k + 2 ^ t) (hX : X < 2 ^ 32) : ((BitVec.ofNat 32 X) ^^^ (-1#32)) &&& (BitVec.ofNat 32 X - 1#32) = BitVec.ofNat 32 (2 ^ t - 1) := by
  have hp : 0 < 2 ^ t := Nat.two_pow_pos t
  have h1 : 2 ^ t < 2 ^ (t + 1) := by rw [Nat.pow_succ]; omega
  have e1 : BitVec.ofNat 32 X - 1#32 = BitVec.ofNat 32 (2 ^ (t + 1) * k + (2 ^ t - 1)) := by
    apply BitVec.eq_of_toNat_eq
    rw [BitVec.toNat_sub, BitVec.toNat_ofNat, BitVec.toNat_ofNat, BitVec.toNat_ofNat]
    omega
  rw [e1]
  apply BitVec.eq_of_getLsbD_eq
  intro i hi
  have e2 : (BitVec.ofNat 32 X).getLsbD i = if i < t + 1 then decide (t = i) else k.testBit (i - (t + 1)) := by
    rw [BitVec.getLsbD_ofNat, h, Nat.testBit_two_pow_mul_add k h1 i]
    simp only [hi, decide_true, Bool.true_and, Nat.testBit_two_pow]
  have e3 : (BitVec.ofNat 32 (2 ^ (t + 1) * k + (2 ^ t - 1))).getLsbD i = if i < t + 1 then decide (i < t) else k.testBit (i - (t + 1)) := by
    rw [BitVec.getLsbD_ofNat, Nat.testBit_two_pow_mul_add k (by omega) i]
    simp only [hi, decide_true, Bool.true_and, Nat.testBit_two_pow_sub_one]
  have e4 : (BitVec.ofNat 32 (2 ^ t - 1)).getLsbD i = decide (i < t) := by
    rw [BitVec.getLsbD_ofNat]
    simp only [hi, decide_true, Bool.true_and, Nat.testBit_two_pow_sub_one]
  have e5 : (-1#32).getLsbD i = true := by
    have : (-1#32) = BitVec.allOnes 32 := by decide
    rw [this, BitVec.getLsbD_allOnes]; simp [hi]
  rw [BitVec.getLsbD_and, BitVec.getLsbD_xor, e2, e3, e4, e5]
  by_cases c1 : i < t + 1
  · simp only [c1, if_true]
    by_cases c2 : i < t
    · simp [c2, show ¬ t = i by omega]
    · simp [c2]
  · simp only [c1, if_false]
    simp [show ¬ i < t by omega]

def own_nz (i0 : Int32) : Int32 :=
  let i1 := if (65536 : Int32) < i0 then own_sh i0 16 else i0
  let n1 := if (65536 : Int32) < i0 then ((1 : Int32) + (16 : Int32)) else (1 : Int32)
  let i2 := if (256 : Int32) < i1 then own_sh i1 8 else i1
  let n2 := if (256 : Int32) < i1 then (n1 + (8 : Int32)) else n1
  let i3 := if (16 : Int32) < i2 then own_sh i2 4 else i2
  let n3 := if (16 : Int32) < i2 then (n2 + (4 : Int32)) else n2
  let i4 := if (4 : Int32) < i3 then own_sh i3 2 else i3
  let n4 := if (4 : Int32) < i3 then (n3 + (2 : Int32)) else n3
  n4 + own_sh i4 1
def own_ntz (x : Int32) : Int32 := if (0 : Int32) < ((x ^^^ (-1 : Int32)) &&& (x - (1 : Int32))) then own_nz ((x ^^^ (-1 : Int32)) &&& (x - (1 : Int32))) else (((x ^^^ (-1 : Int32)) &&& (x - (1 : Int32))) &&& (32 : Int32))
theorem own_nzt : ∀ t : Fin 32, (if (0 : Int32) < Int32.ofNat (2 ^ t.val - 1) then own_nz (Int32.ofNat (2 ^ t.val - 1)) else (Int32.ofNat (2 ^ t.val - 1) &&& (32 : Int32))) = Int32.ofNat t.val := by decide +kernel
theorem own_ntz_eq (x : Int32) (t k : Nat) (ht : t < 32) (h : x.toBitVec.toNat = 2 ^ (t + 1) * k + 2 ^ t) : own_ntz x = Int32.ofNat t := by
  have e : ((x ^^^ (-1 : Int32)) &&& (x - (1 : Int32))) = Int32.ofNat (2 ^ t - 1) := by
    apply Int32.toBitVec_inj.mp
    have q := own_low x.toBitVec.toNat t k h x.toBitVec.isLt
    rw [BitVec.ofNat_toNat, BitVec.setWidth_eq] at q
    exact q
  unfold own_ntz
  rw [e]
  exact own_nzt ⟨t, ht⟩
theorem own_ntzE (x : Int32) (hx : x ≠ 0) : own_ntz x = Int32.ofNat (own_tz (own_u x)) ∧ own_tz (own_u x) < 32 := by
  have h0 : own_u x ≠ 0 := fun q => hx (own_u0.mp q)
  obtain ⟨k, e⟩ := own_tz_spec (own_u x) h0
  have hl : own_tz (own_u x) < 32 := own_tz_lt _ 32 h0 (own_u_lt x)
  exact ⟨own_ntz_eq x _ k hl e, hl⟩
theorem own_ls0 (x : Int32) (n : Nat) (nx : ¬ (x = (0 : Int32))) (nu : own_u x = n) : (((0 : Int32) <<< ((5 : Int32) &&& 31)) + (own_ntz x)) = Int32.ofNat (own_tz n) := by
  rw [show ((0 : Int32) <<< ((5 : Int32) &&& 31)) = 0 from by decide, Int32.zero_add, (own_ntzE x nx).1, nu]
theorem own_ls2 (hi lo : Int32) (n : Nat) (nx : ¬ (lo = (0 : Int32))) (nu : n = own_u hi * 4294967296 + own_u lo) : (((0 : Int32) <<< ((5 : Int32) &&& 31)) + (own_ntz lo)) = Int32.ofNat (own_tz n) := by
  rw [own_ls0 lo _ nx rfl]
  have h0 : own_u lo ≠ 0 := fun q => nx (own_u0.mp q)
  obtain ⟨k, e⟩ := own_tz_spec (own_u lo) h0
  have hl : own_tz (own_u lo) < 32 := own_tz_lt _ 32 h0 (own_u_lt lo)
  congr 1
  generalize own_tz (own_u lo) = t at e hl
  refine (own_tz_eq (k := own_u hi * 2 ^ (31 - t) + k) ?_).symm
  rw [nu, e, Nat.mul_add, ← Nat.add_assoc]
  congr 2
  rw [Nat.mul_comm (2 ^ (t + 1)), Nat.mul_assoc, ← Nat.pow_add, show 31 - t + (t + 1) = 32 by omega]
theorem own_ls1 (hi lo : Int32) (n : Nat) (nx : ¬ (hi = (0 : Int32))) (nz : lo = (0 : Int32)) (nu : n = own_u hi * 4294967296 + own_u lo) : (((1 : Int32) <<< ((5 : Int32) &&& 31)) + (own_ntz hi)) = Int32.ofNat (own_tz n) := by
  rw [own_u0.mpr nz, Nat.add_zero] at nu
  obtain ⟨e1, hl⟩ := own_ntzE hi nx
  have h0 : own_u hi ≠ 0 := fun q => nx (own_u0.mp q)
  obtain ⟨k, e⟩ := own_tz_spec (own_u hi) h0
  rw [e1]
  generalize own_tz (own_u hi) = t at e hl
  have : own_tz n = 32 + t := own_tz_eq (k := k) (by rw [nu, e, show 32 + t + 1 = 32 + (t + 1) by omega, Nat.pow_add 2 32, Nat.pow_add 2 32, Nat.add_mul, Nat.mul_comm _ 4294967296, Nat.mul_comm _ 4294967296, Nat.mul_assoc])
  rw [this]
  have q : ∀ t : Fin 32, (((1 : Int32) <<< ((5 : Int32) &&& 31)) + (Int32.ofNat t.val)) = Int32.ofNat (32 + t.val) := by decide +kernel
  exact q ⟨t, hl⟩
theorem own_p5 (t : Nat) (h : t < 64) : (((Int32.ofNat t).toUInt32 >>> ((5 : Int32) &&& 31).toUInt32).toInt32) = Int32.ofNat (t / 32) ∧ (Int32.ofNat t &&& (31 : Int32)) = Int32.ofNat (t % 32) := by
  have q : ∀ t : Fin 64, (((Int32.ofNat t.val).toUInt32 >>> ((5 : Int32) &&& 31).toUInt32).toInt32) = Int32.ofNat (t.val / 32) ∧ (Int32.ofNat t.val &&& (31 : Int32)) = Int32.ofNat (t.val % 32) := by decide +kernel
  exact q ⟨t, h⟩
theorem own_nz32 {t : Nat} (d : ¬ t = 0) (h : t < 32) : ¬ (Int32.ofNat t = (0 : Int32)) := by
  have q : ∀ t : Fin 32, ¬ t.val = 0 → ¬ (Int32.ofNat t.val = (0 : Int32)) := by decide +kernel
  exact q ⟨t, h⟩ d
theorem own_ult (x y : Int32) : (x + (-2147483648 : Int32)) < (y + (-2147483648 : Int32)) ↔ own_u x < own_u y := by
  have h : ∀ x : Int32, (x + (-2147483648 : Int32)).toInt = (own_u x : Int) - 2147483648 := by
    intro x
    have hx : x.toInt = x.toBitVec.toInt := rfl
    rw [BitVec.toInt_eq_toNat_cond] at hx
    have hl := x.toBitVec.isLt
    rw [Int32.toInt_add, show (-2147483648 : Int32).toInt = -2147483648 from by decide]
    unfold own_u
    split at hx
    · rw [hx, Int.bmod_eq_of_le (by omega) (by omega)]; omega
    · rw [hx, show (x.toBitVec.toNat : Int) - (2 ^ 32 : Nat) + -2147483648 = ((x.toBitVec.toNat : Int) - 2147483648) - (2 ^ 32 : Nat) by omega, Int.sub_bmod_right, Int.bmod_eq_of_le (by omega) (by omega)]
  rw [Int32.lt_iff_toInt_lt, h, h]; omega
theorem own_d1 {lo1 lo2 : Int32} {d1 : Int64} (e1 : (((lo1.toInt64 &&& (4294967295 : Int64)) - (lo2.toInt64 &&& (4294967295 : Int64))) + ((0 : Int64) >>> ((32 : Int32) &&& 0x3f).toInt64)) = d1) : d1.toInt = (own_u lo1 : Int) - own_u lo2 := by
  have a1 := own_L_toInt lo1
  have a2 := own_L_toInt lo2
  have b1 := own_u_lt lo1
  have b2 := own_u_lt lo2
  have s0 := own_shr64 (0 : Int64)
  have s1 := own_sub64 a1 a2 (by omega) (by omega)
  have z : (0 : Int64).toInt = 0 := rfl
  rw [z] at s0
  have s2 := own_add64 s1 s0 (by omega) (by omega)
  subst e1
  exact s2.trans (by omega)
theorem own_dAA {hi1 lo1 hi2 lo2 : Int32} {n1 n2 : Nat} {d1 d2 : Int64} (h1 : n1 = own_u hi1 * 4294967296 + own_u lo1) (h2 : n2 = own_u hi2 * 4294967296 + own_u lo2) (hl : n2 < n1)
    (e1 : (((lo1.toInt64 &&& (4294967295 : Int64)) - (lo2.toInt64 &&& (4294967295 : Int64))) + ((0 : Int64) >>> ((32 : Int32) &&& 0x3f).toInt64)) = d1)
    (e2 : (((hi1.toInt64 &&& (4294967295 : Int64)) - (hi2.toInt64 &&& (4294967295 : Int64))) + (d1 >>> ((32 : Int32) &&& 0x3f).toInt64)) = d2) :
    ¬ (d2 < (0 : Int64)) ∧ n1 - n2 = own_u d2.toInt32 * 4294967296 + own_u d1.toInt32 := by
  have q1 := own_d1 e1
  have a1 := own_L_toInt hi1
  have a2 := own_L_toInt hi2
  have b1 := own_u_lt hi1
  have b2 := own_u_lt hi2
  have b3 := own_u_lt lo1
  have b4 := own_u_lt lo2
  have s0 := own_shr64 d1
  rw [q1] at s0
  have s1 := own_sub64 a1 a2 (by omega) (by omega)
  have s2 := own_add64 s1 s0 (by omega) (by omega)
  have q2 : d2.toInt = (own_u hi1 : Int) - own_u hi2 + ((own_u lo1 : Int) - own_u lo2) / 4294967296 := by subst e2; exact s2
  have w1 := own_l2i q1
  have w2 := own_l2i q2
  refine ⟨?_, ?_⟩
  · rw [Int64.lt_iff_toInt_lt, show (0 : Int64).toInt = 0 from rfl, q2]; omega
  · omega
theorem own_dABn {hi1 lo1 x2 : Int32} {n1 n2 : Nat} {d1 : Int64} (h1 : n1 = own_u hi1 * 4294967296 + own_u lo1) (h2 : own_u x2 = n2)
    (e1 : (((lo1.toInt64 &&& (4294967295 : Int64)) - (x2.toInt64 &&& (4294967295 : Int64))) + ((0 : Int64) >>> ((32 : Int32) &&& 0x3f).toInt64)) = d1) (hd : ¬ (d1 < (0 : Int64))) :
    n1 - n2 = own_u hi1 * 4294967296 + own_u d1.toInt32 := by
  have q1 := own_d1 e1
  rw [Int64.lt_iff_toInt_lt, show (0 : Int64).toInt = 0 from rfl, q1] at hd
  have b3 := own_u_lt lo1
  have w1 := own_l2i q1
  omega
theorem own_dABb {hi1 lo1 x2 : Int32} {n1 n2 : Nat} {d1 d2 : Int64} (h1 : n1 = own_u hi1 * 4294967296 + own_u lo1) (h2 : own_u x2 = n2) (hl : n2 < n1) (hb : 4294967296 ≤ n1)
    (e1 : (((lo1.toInt64 &&& (4294967295 : Int64)) - (x2.toInt64 &&& (4294967295 : Int64))) + ((0 : Int64) >>> ((32 : Int32) &&& 0x3f).toInt64)) = d1) (hd : d1 < (0 : Int64))
    (e2 : ((hi1.toInt64 &&& (4294967295 : Int64)) + (d1 >>> ((32 : Int32) &&& 0x3f).toInt64)) = d2) :
    ¬ (d2 < (0 : Int64)) ∧ n1 - n2 = own_u d2.toInt32 * 4294967296 + own_u d1.toInt32 := by
  have q1 := own_d1 e1
  rw [Int64.lt_iff_toInt_lt, show (0 : Int64).toInt = 0 from rfl, q1] at hd
  have a1 := own_L_toInt hi1
  have b1 := own_u_lt hi1
  have b3 := own_u_lt lo1
  have b4 := own_u_lt x2
  have s0 := own_shr64 d1
  rw [q1] at s0
  have s2 := own_add64 a1 s0 (by omega) (by omega)
  have q2 : d2.toInt = (own_u hi1 : Int) + ((own_u lo1 : Int) - own_u x2) / 4294967296 := by subst e2; exact s2
  have w1 := own_l2i q1
  have w2 := own_l2i q2
  refine ⟨?_, ?_⟩
  · rw [Int64.lt_iff_toInt_lt, show (0 : Int64).toInt = 0 from rfl, q2]; omega
  · omega
/-- binaryGcd of two odd words -/
theorem own_ntz1 {x : Int32} (h : own_u x % 2 = 1) : own_ntz x = (0 : Int32) := by
  have h0 : x ≠ 0 := fun q => by rw [q] at h; exact absurd h (by decide)
  rw [(own_ntzE x h0).1, own_tz_1 _ h]; rfl
theorem own_sh0 (x : Int32) : ((x.toUInt32 >>> ((0 : Int32) &&& 31).toUInt32).toInt32) = x := own_u_inj (by rw [own_shr_u x 0 0 (by omega) rfl]; simp)
theorem own_sl0 (x : Int32) : (x <<< ((0 : Int32) &&& 31)) = x := own_u_inj (by rw [own_shl_u x 0 0 (by omega) rfl]; have := own_u_lt x; simp; omega)
theorem own_bstep {a b : Int32} (ha : own_u a % 2 = 1) (hb : own_u b % 2 = 1) (h : own_u b < own_u a) : own_u (((a - b).toUInt32 >>> ((own_ntz (a - b)) &&& 31).toUInt32).toInt32) = (own_u a - own_u b) / 2 ^ own_tz (own_u a - own_u b) := by
  have b1 := own_u_lt a
  have e : own_u (a - b) = own_u a - own_u b := by
    unfold own_u at *
    rw [Int32.toBitVec_sub, BitVec.toNat_sub]; omega
  have h0 : a - b ≠ 0 := fun q => by rw [q] at e; have : own_u (0 : Int32) = 0 := rfl; omega
  obtain ⟨e1, e2⟩ := own_ntzE (a - b) h0
  rw [own_shr_u (a - b) _ _ e2 e1, e]
theorem own_od0 {x : Int32} (h : own_u x % 2 = 1) : ¬ (x = (0 : Int32)) := fun q => by rw [q] at h; exact absurd h (by decide)
theorem own_ofN {a b : Nat} (ha : a < 64) (hb : b < 64) : (Int32.ofNat a = Int32.ofNat b) ↔ a = b := by
  constructor
  · intro h
    have := congrArg own_u h
    have e1 : own_u (Int32.ofNat a) = a := by have := own_u_w a; unfold own_w at this; rw [this]; omega
    have e2 : own_u (Int32.ofNat b) = b := by have := own_u_w b; unfold own_w at this; rw [this]; omega
    omega
  · intro h; rw [h]
theorem own_min {a b : Nat} (ha : a < 64) (hb : b < 64) : (if Int32.ofNat a < Int32.ofNat b then Int32.ofNat a else Int32.ofNat b) = Int32.ofNat (min a b) := by
  have e1 : own_u (Int32.ofNat a) = a := by have := own_u_w a; unfold own_w at this; rw [this]; omega
  have e2 : own_u (Int32.ofNat b) = b := by have := own_u_w b; unfold own_w at this; rw [this]; omega
  by_cases c : a < b
  · rw [if_pos ((own_ltN (by omega) (by omega)).mpr (by omega)), Nat.min_eq_left (by omega)]
  · rw [if_neg (fun q => c (by have := (own_ltN (by omega) (by omega)).mp q; omega)), Nat.min_eq_right (by omega)]
theorem own_pos32 {t : Nat} (d : ¬ t = 0) (h : t < 32) : (0 : Int32) < Int32.ofNat t := by
  have q : ∀ t : Fin 32, ¬ t.val = 0 → (0 : Int32) < Int32.ofNat t.val := by decide +kernel
  exact q ⟨t, h⟩ d
def own_sg (n : Int) : Int32 := if n < 0 then -1 else if n = 0 then 0 else 1
theorem own_sg_neg {m : Int} (h : m < 0) : own_sg m = -1 := if_pos h
theorem own_sg_pos {m : Int} (h : 0 < m) : own_sg m = 1 := by unfold own_sg; rw [if_neg (by omega), if_neg (by omega)]
theorem own_sg_z : own_sg 0 = 0 := rfl
theorem own_sg0 {m : Int} (h : m.natAbs ≠ 0) : ¬ (own_sg m = (0 : Int32)) := by
  rcases Int.lt_trichotomy m 0 with c | c | c
  · rw [own_sg_neg c]; decide
  · rw [c] at h; exact absurd rfl h
  · rw [own_sg_pos c]; decide
theorem own_sgz {s : Int32} {m : Int} {n : Nat} (es : s = own_sg m) (en : m.natAbs = n) (nz : n ≠ 0) : ¬ (s = (0 : Int32)) := by rw [es]; exact own_sg0 (by omega)
theorem own_sgn (m : Int) : (-(own_sg m)) = own_sg (-m) := by
  rcases Int.lt_trichotomy m 0 with c | c | c
  · rw [own_sg_neg c, own_sg_pos (by omega)]; rfl
  · rw [c]; rfl
  · rw [own_sg_pos c, own_sg_neg (by omega)]
theorem own_sgp {m : Int} (h : 0 ≤ m) : ¬ (own_sg m < (0 : Int32)) := by
  rcases Int.lt_trichotomy m 0 with c | c | c
  · omega
  · rw [c]; decide
  · rw [own_sg_pos c]; decide
theorem own_sgm {m : Int} (h : m < 0) : own_sg m < (0 : Int32) := by rw [own_sg_neg h]; decide
theorem own_sgo {n : Nat} (h : n ≠ 0) : (1 : Int32) = own_sg (Int.ofNat n) := (own_sg_pos (by have : (0 : Int) < (n : Int) := by omega
                                                                                              exact this)).symm
theorem own_gnz {a b : Nat} (h : b ≠ 0) : Nat.gcd a b ≠ 0 := fun q => h (Nat.eq_zero_of_gcd_eq_zero_right q)
theorem own_eg {g : Int} {n : Nat} (hg : g.natAbs = n) (h : 0 ≤ g) : Int.ofNat n = g := by show (n : Int) = g; omega
theorem own_eg' {g : Int} {n : Nat} (hg : g.natAbs = n) (h : g < 0) : (-(Int.ofNat n)) = g := by show -(n : Int) = g; omega
theorem own_gpos {m q g : Int} (mq : m = q * g) (qp : 0 < q) (c : 0 ≤ m) : 0 ≤ g := by
  apply Int.not_lt.mp
  intro h
  have := Int.mul_neg_of_pos_of_neg qp h
  omega
theorem own_gneg {m q g : Int} (mq : m = q * g) (qp : 0 < q) (c : m < 0) : g < 0 := by
  apply Int.not_le.mp
  intro h
  have := Int.mul_nonneg (Int.le_of_lt qp) h
  omega
theorem own_q0 {m q g : Int} (m0 : m = 0) (mq : m = q * g) (gz : g.natAbs ≠ 0) : (0 : Int) = q := by
  rw [m0] at mq
  rcases Int.mul_eq_zero.mp mq.symm with c | c
  · exact c.symm
  · rw [c] at gz; exact absurd rfl gz
theorem own_wz {n : Nat} (h : n ≠ 0) (hl : n < 4294967296) : ¬ (own_w n = (0 : Int32)) := fun q => h (by have := own_u_w n; rw [own_u0.mpr q] at this; omega)
theorem own_sgm2 {m q g : Int} (mq : m = q * g) (gz : g.natAbs ≠ 0) : ((own_sg m) * (own_sg g)) = own_sg q := by
  rcases Int.lt_trichotomy g 0 with c | c | c
  · rcases Int.lt_trichotomy q 0 with d | d | d
    · rw [own_sg_pos (by rw [mq]; exact Int.mul_pos_of_neg_of_neg d c), own_sg_neg c, own_sg_neg d]; decide
    · rw [d, Int.zero_mul] at mq; rw [mq, d]; rw [own_sg_neg c]; decide
    · rw [own_sg_neg (by rw [mq]; exact Int.mul_neg_of_pos_of_neg d c), own_sg_neg c, own_sg_pos d]; decide
  · rw [c] at gz; exact absurd rfl gz
  · rcases Int.lt_trichotomy q 0 with d | d | d
    · rw [own_sg_neg (by rw [mq]; exact Int.mul_neg_of_neg_of_pos d c), own_sg_pos c, own_sg_neg d]; decide
    · rw [d, Int.zero_mul] at mq; rw [mq, d]; rw [own_sg_pos c]; decide
    · rw [own_sg_pos (by rw [mq]; exact Int.mul_pos d c), own_sg_pos c, own_sg_pos d]; decide
theorem own_Lnz {d : Int32} (h : ¬ (d = (0 : Int32))) : ¬ ((d.toInt64 &&& (4294967295 : Int64)) = (0 : Int64)) := fun q => by
  have := own_L_toInt d
  unfold own_L at this
  rw [q] at this
  exact h (own_u0.mp (by have e : (0 : Int64).toInt = 0 := rfl; omega))
theorem own_nlz_pos {d : Int32} (d0 : ¬ (d = (0 : Int32))) (db : own_u d < 2147483648) : (0 : Int32) < (own_nlz d) := by
  obtain ⟨t, ht, e, h1, h2⟩ := own_nlz_eq d d0
  have : t < 31 := (Nat.pow_lt_pow_iff_right (a := 2) (by omega)).mp (Nat.lt_of_le_of_lt h1 db)
  rw [e]
  have q : ∀ t : Fin 31, (0 : Int32) < Int32.ofNat (31 - t.val) := by decide +kernel
  exact q ⟨t, this⟩
theorem own_Llt {x y : Int32} : (x.toInt64 &&& (4294967295 : Int64)) < (y.toInt64 &&& (4294967295 : Int64)) ↔ own_u x < own_u y := by
  have h1 := own_L_toInt x
  have h2 := own_L_toInt y
  unfold own_L at h1 h2
  rw [Int64.lt_iff_toInt_lt, h1, h2]; omega
theorem own_dwq {e : Int64} {d : Int32} {n q : Nat} (he : e.toInt = (n : Int)) (hq : n / own_u d = q) (hql : q < 4294967296) (d0 : ¬ (d = (0 : Int32))) : own_u ((e / (d.toInt64 &&& (4294967295 : Int64))).toInt32) = q := by
  have dz : own_u d ≠ 0 := fun z => d0 (own_u0.mp z)
  have h2 := own_L_toInt d
  have h3 := own_div64 he h2 (by omega) (by omega)
  have h4 := own_l2i h3
  have e5 : (n : Int) / (own_u d : Int) = ((n / own_u d : Nat) : Int) := (Int.natCast_ediv n (own_u d)).symm
  rw [e5, hq] at h4
  have h6 : (own_u ((e / (d.toInt64 &&& (4294967295 : Int64))).toInt32) : Int) = (q : Int) % 4294967296 := h4
  omega
theorem own_dw1 {x d : Int32} {q : Nat} (h : own_u x = q * own_u d) (d0 : ¬ (d = (0 : Int32))) : own_u (((x.toInt64 &&& (4294967295 : Int64)) / (d.toInt64 &&& (4294967295 : Int64))).toInt32) = q := by
  have dz : 0 < own_u d := Nat.pos_of_ne_zero fun z => d0 (own_u0.mp z)
  have b := own_u_lt x
  refine own_dwq (own_L_toInt x) (by rw [h]; exact Nat.mul_div_cancel _ dz) ?_ d0
  exact Nat.lt_of_le_of_lt (by rw [h]; exact Nat.le_mul_of_pos_right _ dz) b
theorem own_es {r lo : Int32} (hr : own_u r < 2147483648) : (((r.toInt64 &&& (4294967295 : Int64)) <<< ((32 : Int32) &&& 0x3f).toInt64) ||| (lo.toInt64 &&& (4294967295 : Int64))).toInt = ((own_u r * 4294967296 + own_u lo : Nat) : Int) := by
  have b := own_u_lt lo
  have e : ((32 : Int32) &&& 0x3f).toInt64 = 32 := rfl
  have n1 : ((((r.toInt64 &&& (4294967295 : Int64)) <<< ((32 : Int32) &&& 0x3f).toInt64) ||| (lo.toInt64 &&& (4294967295 : Int64)))).toBitVec.toNat = own_u r * 4294967296 + own_u lo := by
    rw [e, Int64.toBitVec_or, BitVec.toNat_or, Int64.toBitVec_shiftLeft, show ((32 : Int64).toBitVec.smod 64) = 32#64 from rfl, BitVec.shiftLeft_eq', show (32#64).toNat = 32 from rfl, BitVec.toNat_shiftLeft]
    have h1 := own_L_bv r
    have h2 := own_L_bv lo
    unfold own_L at h1 h2
    rw [h1, h2, Nat.shiftLeft_eq, Nat.mod_eq_of_lt (by omega), Nat.mul_comm, ← Nat.two_pow_add_eq_or_of_lt (i := 32) b]
  rw [own_toInt_of (by rw [n1]; omega), n1]
theorem own_dwL {hi lo d : Int32} {n3 : Nat} (c : own_u hi < own_u d) (db : own_u d < 2147483648) (d0 : ¬ (d = (0 : Int32))) (hn : own_u hi * 4294967296 + own_u lo = n3 * own_u d) : ¬ ((((hi.toInt64 &&& (4294967295 : Int64)) <<< ((32 : Int32) &&& 0x3f).toInt64) ||| (lo.toInt64 &&& (4294967295 : Int64))) < (0 : Int64)) ∧ n3 = own_u (0 : Int32) * 4294967296 + own_u (((((hi.toInt64 &&& (4294967295 : Int64)) <<< ((32 : Int32) &&& 0x3f).toInt64) ||| (lo.toInt64 &&& (4294967295 : Int64))) / (d.toInt64 &&& (4294967295 : Int64))).toInt32) := by
  have dz : 0 < own_u d := by omega
  have b := own_u_lt lo
  have he := own_es (lo := lo) (show own_u hi < 2147483648 by omega)
  have hq : (own_u hi * 4294967296 + own_u lo) / own_u d = n3 := by rw [hn]; exact Nat.mul_div_cancel _ dz
  have hql : n3 < 4294967296 := by
    rw [← hq]; apply (Nat.div_lt_iff_lt_mul dz).mpr
    have : own_u hi * 4294967296 + 4294967296 ≤ own_u d * 4294967296 := by omega
    omega
  refine ⟨?_, ?_⟩
  · rw [Int64.lt_iff_toInt_lt, he]; have : (0 : Int64).toInt = 0 := rfl; omega
  · rw [own_dwq he hq hql d0]; have : own_u (0 : Int32) = 0 := rfl; omega
theorem own_dwG {hi lo d : Int32} {n3 : Nat} (c : own_u d ≤ own_u hi) (d0 : ¬ (d = (0 : Int32))) (db : own_u d < 2147483648) (hn : own_u hi * 4294967296 + own_u lo = n3 * own_u d) {q0 r6 : Int32} (e0 : (((hi.toInt64 &&& (4294967295 : Int64)) / (d.toInt64 &&& (4294967295 : Int64))).toInt32) = q0) (e6 : (((hi.toInt64 &&& (4294967295 : Int64)) - (q0.toInt64 * (d.toInt64 &&& (4294967295 : Int64)))).toInt32) = r6) : ¬ ((((r6.toInt64 &&& (4294967295 : Int64)) <<< ((32 : Int32) &&& 0x3f).toInt64) ||| (lo.toInt64 &&& (4294967295 : Int64))) < (0 : Int64)) ∧ n3 = own_u q0 * 4294967296 + own_u (((((r6.toInt64 &&& (4294967295 : Int64)) <<< ((32 : Int32) &&& 0x3f).toInt64) ||| (lo.toInt64 &&& (4294967295 : Int64))) / (d.toInt64 &&& (4294967295 : Int64))).toInt32) := by
  have dz : 0 < own_u d := Nat.pos_of_ne_zero fun z => d0 (own_u0.mp z)
  have b := own_u_lt lo
  have bh := own_u_lt hi
  have q1 : own_u q0 = own_u hi / own_u d := by rw [← e0]; exact own_dwq (own_L_toInt hi) rfl (Nat.lt_of_le_of_lt (Nat.div_le_self _ _) bh) d0
  have hdm := Nat.div_add_mod (own_u hi) (own_u d)
  have hml := Nat.mod_lt (own_u hi) dz
  have q2 : own_u r6 = own_u hi % own_u d := by
    have a1 := own_L_toInt hi
    have a2 := own_L_toInt d
    have s1 : (q0.toInt64.toInt : Int) = q0.toInt := by simp
    have hq0 : q0.toInt64.toInt = (own_u q0 : Int) ∨ q0.toInt64.toInt = (own_u q0 : Int) - 4294967296 := by
      rw [s1]
      have : q0.toInt = q0.toBitVec.toInt := rfl
      rw [BitVec.toInt_eq_toNat_cond] at this
      unfold own_u; split at this <;> omega
    have h4 := own_l2i (a := ((hi.toInt64 &&& (4294967295 : Int64)) - (q0.toInt64 * (d.toInt64 &&& (4294967295 : Int64))))) rfl
    rw [e6] at h4
    have b6 := own_u_lt r6
    have hp : (q0.toInt64 * (d.toInt64 &&& (4294967295 : Int64))).toInt = q0.toInt64.toInt * (own_u d : Int) := own_mul64 rfl a2 (by
      rcases hq0 with z | z <;> rw [z]
      · have := Int.mul_nonneg (Int.natCast_nonneg (own_u q0)) (Int.natCast_nonneg (own_u d)); omega
      · have h7 : ((own_u q0 : Int) - 4294967296) * (own_u d : Int) = (own_u q0 : Int) * (own_u d : Int) - 4294967296 * (own_u d : Int) := by rw [Int.sub_mul]
        have := Int.mul_nonneg (Int.natCast_nonneg (own_u q0)) (Int.natCast_nonneg (own_u d)); omega) (by
      have h8 : (own_u q0 : Int) * (own_u d : Int) = ((own_u d * (own_u hi / own_u d) : Nat) : Int) := by rw [q1, Nat.mul_comm]; exact (Int.natCast_mul _ _).symm
      rcases hq0 with z | z <;> rw [z]
      · omega
      · have h7 : ((own_u q0 : Int) - 4294967296) * (own_u d : Int) = (own_u q0 : Int) * (own_u d : Int) - 4294967296 * (own_u d : Int) := by rw [Int.sub_mul]
        omega)
    have h8 : (own_u q0 : Int) * (own_u d : Int) = ((own_u d * (own_u hi / own_u d) : Nat) : Int) := by rw [q1, Nat.mul_comm]; exact (Int.natCast_mul _ _).symm
    have hs : ((hi.toInt64 &&& (4294967295 : Int64)) - (q0.toInt64 * (d.toInt64 &&& (4294967295 : Int64)))).toInt = (own_u hi : Int) - q0.toInt64.toInt * (own_u d : Int) := own_sub64 a1 hp (by
      rcases hq0 with z | z <;> rw [z]
      · omega
      · have h7 : ((own_u q0 : Int) - 4294967296) * (own_u d : Int) = (own_u q0 : Int) * (own_u d : Int) - 4294967296 * (own_u d : Int) := by rw [Int.sub_mul]
        omega) (by
      rcases hq0 with z | z <;> rw [z]
      · omega
      · have h7 : ((own_u q0 : Int) - 4294967296) * (own_u d : Int) = (own_u q0 : Int) * (own_u d : Int) - 4294967296 * (own_u d : Int) := by rw [Int.sub_mul]
        omega)
    rw [hs] at h4
    rcases hq0 with z | z <;> rw [z] at h4
    · omega
    · have h7 : ((own_u q0 : Int) - 4294967296) * (own_u d : Int) = (own_u q0 : Int) * (own_u d : Int) - 4294967296 * (own_u d : Int) := by rw [Int.sub_mul]
      omega
  have he := own_es (r := r6) (lo := lo) (by omega)
  have hq : (own_u r6 * 4294967296 + own_u lo) / own_u d = n3 - own_u q0 * 4294967296 ∧ own_u q0 * 4294967296 ≤ n3 := by
    have e1 : own_u hi * 4294967296 + own_u lo = own_u d * (own_u q0 * 4294967296) + (own_u r6 * 4294967296 + own_u lo) := by
      rw [q1, q2]
      conv => lhs; rw [← hdm]
      rw [Nat.add_mul, Nat.mul_assoc, Nat.add_assoc]
    have e2 : (own_u hi * 4294967296 + own_u lo) / own_u d = n3 := by rw [hn]; exact Nat.mul_div_cancel _ dz
    rw [e1, Nat.mul_add_div dz] at e2
    generalize (own_u r6 * 4294967296 + own_u lo) / own_u d = Q at e2 ⊢
    omega
  have hql : (own_u r6 * 4294967296 + own_u lo) / own_u d < 4294967296 := by
    apply (Nat.div_lt_iff_lt_mul dz).mpr
    have : own_u r6 * 4294967296 + 4294967296 ≤ own_u d * 4294967296 := by omega
    omega
  refine ⟨?_, ?_⟩
  · rw [Int64.lt_iff_toInt_lt, he]; have : (0 : Int64).toInt = 0 := rfl; omega
  · rw [own_dwq he rfl hql d0, hq.1]
    have := hq.2
    omega
def own_len (n : Nat) : Int32 := if n = 0 then 0 else if n < 4294967296 then 1 else 2
def own_mag (n : Nat) : List Value := if n = 0 then [] else if n < 4294967296 then [.int (own_w n)] else [.int (own_w (n / 4294967296)), .int (own_w n)]
theorem own_len1 {n : Nat} (h0 : n ≠ 0) (h : n < 4294967296) : own_len n = 1 := by unfold own_len; rw [if_neg h0, if_pos h]
theorem own_len2 {n : Nat} (h : 4294967296 ≤ n) : own_len n = 2 := by unfold own_len; rw [if_neg (by omega), if_neg (by omega)]
theorem own_mag1 {n : Nat} (h0 : n ≠ 0) (h : n < 4294967296) : own_mag n = [.int (own_w n)] := by unfold own_mag; rw [if_neg h0, if_pos h]
theorem own_mag2 {n : Nat} (h : 4294967296 ≤ n) : own_mag n = [.int (own_w (n / 4294967296)), .int (own_w n)] := by unfold own_mag; rw [if_neg (by omega), if_neg (by omega)]
theorem own_len_c (n : Nat) : own_len n = 0 ∨ own_len n = 1 ∨ own_len n = 2 := by unfold own_len; split; exact Or.inl rfl; split; exact Or.inr (Or.inl rfl); exact Or.inr (Or.inr rfl)
theorem own_len_nz {n : Nat} (h : n ≠ 0) : ¬ (own_len n = 0) := by unfold own_len; rw [if_neg h]; split <;> decide
theorem own_len_lt (n : Nat) : own_len n < 67108864 ∧ own_len n < 80 := by rcases own_len_c n with e | e | e <;> rw [e] <;> decide
theorem own_len_le (n : Nat) : (own_len n).toNatClampNeg ≤ 2 ∧ ¬ own_len n < 0 := by rcases own_len_c n with e | e | e <;> rw [e] <;> decide
theorem own_magw {x : Int32} (h : x ≠ 0) : own_mag (own_u x) = [.int x] := by rw [own_mag1 (fun q => h (own_u0.mp q)) (own_u_lt x), own_w_u]
theorem own_magw2 {n : Nat} {hi lo : Int32} (h : 4294967296 ≤ n) (e : n = own_u hi * 4294967296 + own_u lo) : own_mag n = [.int hi, .int lo] := by
  have h1 := own_u_lt hi
  have h2 := own_u_lt lo
  rw [own_mag2 h]
  have e1 : own_w (n / 4294967296) = hi := own_u_inj (by rw [own_u_w]; omega)
  have e2 : own_w n = lo := own_u_inj (by rw [own_u_w]; omega)
  rw [e1, e2]
theorem own_abs2 (a b : Nat) (ha : a ≠ 0) (hb : b ≠ 0) : (if (own_len a - own_len b) < (0 : Int32) then (-(own_len a - own_len b)) else (own_len a - own_len b)) < (2 : Int32) := by
  have h1 := own_len_nz ha
  have h2 := own_len_nz hb
  rcases own_len_c a with e | e | e <;> rcases own_len_c b with f | f | f <;> first | exact absurd e h1 | exact absurd f h2 | (rw [e, f]; decide)
theorem own_llt {x y : Int32} (h : own_u x < own_u y) : lcmpW (x.toInt64 &&& (4294967295 : Int64)) (y.toInt64 &&& (4294967295 : Int64)) < (0 : Int32) := (lw_lt _ _).mpr (own_Llt.mpr h)
theorem own_lge {x y : Int32} (h : own_u y ≤ own_u x) : ¬ (lcmpW (x.toInt64 &&& (4294967295 : Int64)) (y.toInt64 &&& (4294967295 : Int64)) < (0 : Int32)) := fun q => absurd (own_Llt.mp ((lw_lt _ _).mp q)) (by omega)
section OwnH
variable {Z : State} {h h' : Heap} {x o a b : Addr} {n : Nat} {m : Int} {sl : Nat} {v : Value} {ws : List Addr}
def own_BI (Z : State) (h : Heap) (x a : Addr) (m : Int) : Prop := Exa Z h x "java/math/BigInteger" ∧ Exa Z h a "[I" ∧ Fld Z h x "java/math/BigInteger" "signum" "I" (.int (own_sg m)) ∧ Fld Z h x "java/math/BigInteger" "mag" "[I" (.ref a) ∧ ∃ k : ClassId, Arv Z h a k .int (own_len m.natAbs) (own_mag m.natAbs) (.int (0 : Int32))
theorem own_BI.ext (F : own_BI Z h x a m) (E : Ext h h') : own_BI Z h' x a m := by obtain ⟨h1, h2, h3, h4, k, h5⟩ := F; exact ⟨h1.ext E, h2.ext E, h3.ext E, h4.ext E, k, h5.ext E⟩
theorem own_BI.keep (F : own_BI Z h x a m) (K : Keep h h' ws) (q1 : x ∉ ws) (q2 : a ∉ ws) : own_BI Z h' x a m := by obtain ⟨h1, h2, h3, h4, k, h5⟩ := F; exact ⟨h1.keep K, h2.keep K, h3.keep K q1, h4.keep K q1, k, h5.keep K q2⟩
theorem own_BI.other (F : own_BI Z h x a m) (W : Wr h h' b sl v) (q1 : x ≠ b) (q2 : a ≠ b) : own_BI Z h' x a m := F.keep (Keep.of_wr W) (ninS q1 nin0) (ninS q2 nin0)
def own_B (z : Int32) (vs : List Value) (j x : Int32) : Prop := (z = 1 ∧ j = 0 ∧ vs = [.int x]) ∨ (∃ y : Int32, z = 2 ∧ j = 0 ∧ vs = [.int x, .int y]) ∨ (∃ y : Int32, z = 2 ∧ j = 1 ∧ vs = [.int y, .int x])
theorem own_B.at {z j x : Int32} {vs : List Value} (B : own_B z vs j x) : (¬ j < 0 ∧ j < z) ∧ vs.getD j.toNatClampNeg (.int (0 : Int32)) = .int x ∧ j.toNatClampNeg < vs.length := by
  rcases B with ⟨rfl, rfl, rfl⟩ | ⟨y, rfl, rfl, rfl⟩ | ⟨y, rfl, rfl, rfl⟩
  · exact ⟨by decide, rfl, Nat.le_of_ble_eq_true rfl⟩
  · exact ⟨by decide, rfl, Nat.le_of_ble_eq_true rfl⟩
  · exact ⟨by decide, rfl, Nat.le_of_ble_eq_true rfl⟩
theorem own_B.set {z j x : Int32} {vs : List Value} (B : own_B z vs j x) (w : Int32) : own_B z (vs.set j.toNatClampNeg (.int w)) j w := by
  rcases B with ⟨rfl, rfl, rfl⟩ | ⟨y, rfl, rfl, rfl⟩ | ⟨y, rfl, rfl, rfl⟩
  · exact Or.inl ⟨rfl, rfl, rfl⟩
  · exact Or.inr (Or.inl ⟨y, rfl, rfl, rfl⟩)
  · exact Or.inr (Or.inr ⟨y, rfl, rfl, rfl⟩)
def own_SH (Z : State) (h : Heap) (o a : Addr) (l j : Int32) (k : ClassId) (z : Int32) (vs : List Value) : Prop := Exa Z h o "java/math/MutableBigInteger" ∧ Exa Z h a "[I" ∧ Fld Z h o "java/math/MutableBigInteger" "value" "[I" (.ref a) ∧ Fld Z h o "java/math/MutableBigInteger" "intLen" "I" (.int l) ∧ Fld Z h o "java/math/MutableBigInteger" "offset" "I" (.int j) ∧ Arv Z h a k .int z vs (.int (0 : Int32))
def own_MB (Z : State) (h : Heap) (o a : Addr) (n : Nat) : Prop := Exa Z h o "java/math/MutableBigInteger" ∧ Exa Z h a "[I" ∧ Fld Z h o "java/math/MutableBigInteger" "value" "[I" (.ref a) ∧ Fld Z h o "java/math/MutableBigInteger" "intLen" "I" (.int (own_len n)) ∧
  ((n ≠ 0 ∧ n < 4294967296 ∧ ∃ (k : ClassId) (z : Int32) (vs : List Value) (j x : Int32), Fld Z h o "java/math/MutableBigInteger" "offset" "I" (.int j) ∧ Arv Z h a k .int z vs (.int (0 : Int32)) ∧ own_B z vs j x ∧ own_u x = n) ∨
   (4294967296 ≤ n ∧ ∃ (k : ClassId) (hi lo : Int32), Fld Z h o "java/math/MutableBigInteger" "offset" "I" (.int (0 : Int32)) ∧ Arv Z h a k .int (2 : Int32) [.int hi, .int lo] (.int (0 : Int32)) ∧ n = own_u hi * 4294967296 + own_u lo))
theorem own_MB.ext (F : own_MB Z h o a n) (E : Ext h h') : own_MB Z h' o a n := by
  obtain ⟨h1, h2, h3, h4, ⟨p1, p2, k, z, vs, j, x, q1, q2, r⟩ | ⟨p1, k, hi, lo, q1, q2, r⟩⟩ := F
  · exact ⟨h1.ext E, h2.ext E, h3.ext E, h4.ext E, Or.inl ⟨p1, p2, k, z, vs, j, x, q1.ext E, q2.ext E, r⟩⟩
  · exact ⟨h1.ext E, h2.ext E, h3.ext E, h4.ext E, Or.inr ⟨p1, k, hi, lo, q1.ext E, q2.ext E, r⟩⟩
theorem own_MB.keep (F : own_MB Z h o a n) (K : Keep h h' ws) (y1 : o ∉ ws) (y2 : a ∉ ws) : own_MB Z h' o a n := by
  obtain ⟨h1, h2, h3, h4, ⟨p1, p2, k, z, vs, j, x, q1, q2, r⟩ | ⟨p1, k, hi, lo, q1, q2, r⟩⟩ := F
  · exact ⟨h1.keep K, h2.keep K, h3.keep K y1, h4.keep K y1, Or.inl ⟨p1, p2, k, z, vs, j, x, q1.keep K y1, q2.keep K y2, r⟩⟩
  · exact ⟨h1.keep K, h2.keep K, h3.keep K y1, h4.keep K y1, Or.inr ⟨p1, k, hi, lo, q1.keep K y1, q2.keep K y2, r⟩⟩
theorem own_MB.other (F : own_MB Z h o a n) (W : Wr h h' b sl v) (q1 : o ≠ b) (q2 : a ≠ b) : own_MB Z h' o a n := F.keep (Keep.of_wr W) (ninS q1 nin0) (ninS q2 nin0)
theorem own_MB.nz (F : own_MB Z h o a n) : n ≠ 0 := by obtain ⟨_, _, _, _, ⟨p1, _⟩ | ⟨p1, _⟩⟩ := F; exact p1; omega
theorem own_MB.big (F : own_MB Z h o a n) : n < 18446744073709551616 := by
  obtain ⟨_, _, _, _, ⟨p1, p2, _⟩ | ⟨p1, k, hi, lo, q1, q2, r⟩⟩ := F
  · omega
  · have := own_u_lt hi
    have := own_u_lt lo
    omega
theorem own_MB.mkB {k : ClassId} {z j w : Int32} {vs : List Value} (S : own_SH Z h o a 1 j k z vs) (B : own_B z vs j w) (hn : own_u w = n) (h0 : n ≠ 0) : own_MB Z h o a n := by
  obtain ⟨E, G, Fv, Fl, Fo, V⟩ := S
  have hl : n < 4294967296 := by rw [← hn]; exact own_u_lt w
  exact ⟨E, G, Fv, by rw [own_len1 h0 hl]; exact Fl, Or.inl ⟨h0, hl, k, z, vs, j, w, Fo, V, B, hn⟩⟩
theorem own_MB.mkA {k : ClassId} {hi lo : Int32} (S : own_SH Z h o a 2 0 k 2 [.int hi, .int lo]) (hn : n = own_u hi * 4294967296 + own_u lo) (h0 : 4294967296 ≤ n) : own_MB Z h o a n := by
  obtain ⟨E, G, Fv, Fl, Fo, V⟩ := S
  exact ⟨E, G, Fv, by rw [own_len2 h0]; exact Fl, Or.inr ⟨h0, k, hi, lo, Fo, V, hn⟩⟩
theorem own_MB.dB (F : own_MB Z h o a n) (hl : n < 4294967296) : ∃ (k : ClassId) (z : Int32) (vs : List Value) (j x : Int32), own_SH Z h o a 1 j k z vs ∧ own_B z vs j x ∧ own_u x = n := by
  obtain ⟨h1, h2, h3, h4, ⟨p1, p2, k, z, vs, j, x, q1, q2, q3, q4⟩ | ⟨p1, _⟩⟩ := F
  · exact ⟨k, z, vs, j, x, ⟨h1, h2, h3, by rw [own_len1 p1 p2] at h4; exact h4, q1, q2⟩, q3, q4⟩
  · omega
theorem own_MB.dA (F : own_MB Z h o a n) (hl : ¬ n < 4294967296) : ∃ (k : ClassId) (hi lo : Int32), own_SH Z h o a 2 0 k 2 [.int hi, .int lo] ∧ n = own_u hi * 4294967296 + own_u lo := by
  obtain ⟨h1, h2, h3, h4, ⟨p1, p2, _⟩ | ⟨p1, k, hi, lo, q1, q2, q3⟩⟩ := F
  · omega
  · exact ⟨k, hi, lo, ⟨h1, h2, h3, by rw [own_len2 p1] at h4; exact h4, q1, q2⟩, q3⟩
/-- a MutableBigInteger of a fresh array that holds a magnitude -/
theorem own_MB.mkM {k : ClassId} (hn : n ≠ 0) (hb : n < 18446744073709551616) (E : Exa Z h o "java/math/MutableBigInteger") (G : Exa Z h a "[I") (Fv : Fld Z h o "java/math/MutableBigInteger" "value" "[I" (.ref a)) (Fl : Fld Z h o "java/math/MutableBigInteger" "intLen" "I" (.int (own_len n))) (Fo : Fld Z h o "java/math/MutableBigInteger" "offset" "I" (.int (0 : Int32))) (V : Arv Z h a k .int (own_len n) (own_mag n) (.int (0 : Int32))) : own_MB Z h o a n := by
  by_cases c : n < 4294967296
  · rw [own_len1 hn c] at Fl V
    rw [own_mag1 hn c] at V
    exact own_MB.mkB ⟨E, G, Fv, Fl, Fo, V⟩ (Or.inl ⟨rfl, rfl, rfl⟩) (by rw [own_u_w]; omega) hn
  · rw [own_len2 (by omega)] at Fl V
    rw [own_mag2 (by omega)] at V
    exact own_MB.mkA ⟨E, G, Fv, Fl, Fo, V⟩ (by rw [own_u_w, own_u_w]; omega) (by omega)
theorem own_hi1 {hi lo : Int32} (nu : n = own_u hi * 4294967296 + own_u lo) (nh : ¬ (hi = (0 : Int32))) : 4294967296 ≤ n := by
  have : own_u hi ≠ 0 := fun q => nh (own_u0.mp q)
  omega
theorem own_lo1 {hi lo : Int32} (nu : n = own_u hi * 4294967296 + own_u lo) (nz : n ≠ 0) (zh : hi = (0 : Int32)) : ¬ (lo = (0 : Int32)) ∧ own_u lo = n := by
  have := own_u0.mpr zh
  exact ⟨fun q => by have := own_u0.mpr q; omega, by omega⟩
theorem own_MB.nn (F : own_MB Z h o a n) : ¬ (Int32.ofNat (own_tz n) < (0 : Int32)) ∧ 2 ^ own_tz n ∣ n := by
  have hl := own_tz_lt n 64 F.nz F.big
  have q : ∀ t : Fin 64, ¬ (Int32.ofNat t.val < (0 : Int32)) := by decide +kernel
  exact ⟨q ⟨_, hl⟩, own_tz_dvd F.nz (Nat.le_refl _)⟩
theorem own_MB.two (F : own_MB Z h o a n) (hb : 4294967296 ≤ n) : ¬ (own_len n < (2 : Int32)) := by rw [own_len2 hb]; decide
theorem own_MB.one (F : own_MB Z h o a n) (hb : n < 4294967296) : own_len n < (2 : Int32) := by rw [own_len1 F.nz hb]; decide
theorem own_MB.cast {n' : Nat} (F : own_MB Z h o a n) (e : n = n') : own_MB Z h o a n' := e ▸ F
end OwnH
theorem own_eqI {s : State} {args : Array Value} {t : Term} {c : Int32} (h : (Cond.eq t (.int c)).value args s none s [] = some true) : t.eval args s none [] s = some (.int c) := by
  obtain ⟨x, y, e1, e2, hk, hk'⟩ := cmp_v (Or.inl h)
  cases (Term.int_eval c).symm.trans e2
  obtain ⟨z, rfl⟩ := hk'
  have q := gotT (Cond.eq_ints e1 (Term.int_eval c)) h
  rw [e1, q]
theorem own_arr {s : State} {args : Array Value} {t : Term} {a : Addr} {ty : FieldType} {k : Int32} (ev : t.eval args s none [] s = some (.ref a)) (hA : (Cond.arrayOf t ty).value args s none s [] = some true) (hl : (Cond.eq (.length t) (.int k)).value args s none s [] = some true) (hk : ¬ k < 0) : ∃ c : Cell, Arr s s.heap a c ty ∧ c.slots.size = k.toNatClampNeg := by
  obtain ⟨c, A⟩ := Arr.start ev hA
  have hat := A.fin (Vm.Alike.refl _)
  by_cases hn : c.slots.size < 2 ^ 31
  · have e := len_f (args := args) (first := s) (o := none) (idx := []) ev hat hn
    have q := gotT (Cond.eq_ints e (Term.int_eval k)) hl
    refine ⟨c, A, ?_⟩
    rw [← q]
    simp [Int32.toNatClampNeg, len_toInt hn]
  · exfalso
    obtain ⟨x, y, e1, -, -, -⟩ := cmp_v (Or.inl hl)
    have hn' : ¬ c.slots.size < 2147483648 := hn
    simp [Term.eval, ev, hat, hn'] at e1
theorem own_bi1 {s : State} {args : Array Value} {t : Term} {m : Int} {sg kk : Int32} (h1 : (Cond.exactly t "java/math/BigInteger").value args s none s [] = some true) (h2 : (Cond.eq (.field t "java/math/BigInteger" "signum" "I") (.int sg)).value args s none s [] = some true) (h3 : (Cond.arrayOf (.field t "java/math/BigInteger" "mag" "[I") .int).value args s none s [] = some true) (h4 : (Cond.exactly (.field t "java/math/BigInteger" "mag" "[I") "[I").value args s none s [] = some true)
    (h5 : (Cond.eq (.length (.field t "java/math/BigInteger" "mag" "[I")) (.int 1)).value args s none s [] = some true) (h6 : (Cond.eq (.elem (.field t "java/math/BigInteger" "mag" "[I") (.int 0)) (.int kk)).value args s none s [] = some true) (hs : sg = own_sg m) (hz : m.natAbs ≠ 0) (hm : m.natAbs < 4294967296) (hk : kk = own_w m.natAbs) :
    ∃ x a, t.eval args s none [] s = some (.ref x) ∧ own_BI s s.heap x a m := by
  obtain ⟨x, ex⟩ := exa_v h1
  obtain ⟨a, ea⟩ := arr_v h3
  obtain ⟨c, A, sz⟩ := own_arr ea h3 h5 (by decide)
  obtain ⟨c', q1, q2, q3⟩ := elem_at (own_eqI h6) ea (Term.int_eval 0)
  cases A.1.symm.trans q1
  refine ⟨x, a, ex, Exa.start ex h1, Exa.start ea h4, ?_, Fld.start ((fld_at ex).symm.trans ea), c.cls, ?_⟩
  · rw [← hs]; exact Fld.start ((fld_at ex).symm.trans (own_eqI h2))
  · rw [own_len1 hz hm, own_mag1 hz hm, ← hk]
    refine ⟨c, A, rfl, sz, by decide, fun i hi => ?_, fun i hi => ?_⟩
    · have : i = 0 := by rw [sz] at hi; exact Nat.lt_one_iff.mp hi
      subst this; exact q3
    · have : i = 0 := by rw [sz] at hi; exact Nat.lt_one_iff.mp hi
      subst this; rfl
theorem own_bi0 {s : State} {args : Array Value} {t : Term} (h1 : (Cond.exactly t "java/math/BigInteger").value args s none s [] = some true) (h2 : (Cond.eq (.field t "java/math/BigInteger" "signum" "I") (.int 0)).value args s none s [] = some true) (h3 : (Cond.arrayOf (.field t "java/math/BigInteger" "mag" "[I") .int).value args s none s [] = some true) (h4 : (Cond.exactly (.field t "java/math/BigInteger" "mag" "[I") "[I").value args s none s [] = some true)
    (h5 : (Cond.eq (.length (.field t "java/math/BigInteger" "mag" "[I")) (.int 0)).value args s none s [] = some true) : ∃ x a, t.eval args s none [] s = some (.ref x) ∧ own_BI s s.heap x a 0 := by
  obtain ⟨x, ex⟩ := exa_v h1
  obtain ⟨a, ea⟩ := arr_v h3
  obtain ⟨c, A, sz⟩ := own_arr ea h3 h5 (by decide)
  refine ⟨x, a, ex, Exa.start ex h1, Exa.start ea h4, Fld.start ((fld_at ex).symm.trans (own_eqI h2)), Fld.start ((fld_at ex).symm.trans ea), c.cls, c, A, rfl, sz, by decide, fun i hi => ?_, fun i hi => ?_⟩
  · rw [sz] at hi; exact absurd hi (Nat.not_lt_zero _)
  · rw [sz] at hi; exact absurd hi (Nat.not_lt_zero _)
def own_Ca (Z : State) (r : Addr) (g : Int) : Prop := ∃ c : Cell, Arr Z Z.heap r c (.object "java/math/BigInteger") ∧ c.slots.size = 17 ∧ ∀ k : Nat, 1 ≤ k → k ≤ 16 → ∃ x a, c.slots[k]? = some (.ref x) ∧ own_BI Z Z.heap x a (g * (k : Int))
theorem own_ci {v : Int64} (h0 : 0 < v.toInt) (h1 : v.toInt ≤ 16) : ¬ (v.toInt32 < 0) ∧ v.toInt32.toNatClampNeg = v.toInt.toNat := by
  have e := own_l2i (a := v) rfl
  have u := own_u_lt v.toInt32
  have q : v.toInt32.toInt = v.toInt := by
    have : v.toInt32.toInt = v.toInt32.toBitVec.toInt := rfl
    rw [BitVec.toInt_eq_toNat_cond] at this
    unfold own_u at e u
    split at this <;> omega
  refine ⟨?_, ?_⟩
  · rw [Int32.lt_iff_toInt_lt, q, show (0 : Int32).toInt = 0 from rfl]; omega
  · simp only [Int32.toNatClampNeg, q]
/-- the two words of a long -/
theorem own_jw {u : Int64} {n : Nat} (h : u.toInt = (n : Int)) : own_u (((u.toUInt64 >>> ((32 : Int32) &&& 0x3f).toInt64.toUInt64).toInt64).toInt32) = n / 4294967296 ∧ own_u (u.toInt32) = n % 4294967296 ∧ n < 9223372036854775808 := by
  have hl := Int64.toInt_lt u
  have hn : u.toBitVec.toNat = n := by
    have : u.toInt = u.toBitVec.toInt := rfl
    rw [BitVec.toInt_eq_toNat_cond] at this
    have hlt := u.toBitVec.isLt
    split at this <;> omega
  refine ⟨?_, ?_, by omega⟩
  · have e1 : ((u.toUInt64 >>> ((32 : Int32) &&& 0x3f).toInt64.toUInt64).toInt64).toInt = ((n / 4294967296 : Nat) : Int) := by
      rw [own_toInt_of]
      · show (((u.toUInt64 >>> ((32 : Int32) &&& 0x3f).toInt64.toUInt64)).toNat : Int) = _
        rw [UInt64.toNat_shiftRight, show ((32 : Int32) &&& 0x3f).toInt64.toUInt64.toNat % 64 = 32 from rfl, Nat.shiftRight_eq_div_pow, show u.toUInt64.toNat = n from hn]
      · show (u.toUInt64 >>> ((32 : Int32) &&& 0x3f).toInt64.toUInt64).toNat < _
        rw [UInt64.toNat_shiftRight, show ((32 : Int32) &&& 0x3f).toInt64.toUInt64.toNat % 64 = 32 from rfl, Nat.shiftRight_eq_div_pow, show u.toUInt64.toNat = n from hn]
        omega
    have := own_l2i e1
    omega
  · have := own_l2i h
    omega
theorem own_jb {u : Int64} {n : Nat} (h : u.toInt = (n : Int)) (h0 : n ≠ 0) : ((((u.toUInt64 >>> ((32 : Int32) &&& 0x3f).toInt64.toUInt64).toInt64).toInt32) = (0 : Int32) → own_len n = (1 : Int32) ∧ own_mag n = [.int (u.toInt32)]) ∧ (¬ ((((u.toUInt64 >>> ((32 : Int32) &&& 0x3f).toInt64.toUInt64).toInt64).toInt32) = (0 : Int32)) → own_len n = (2 : Int32) ∧ own_mag n = [.int (((u.toUInt64 >>> ((32 : Int32) &&& 0x3f).toInt64.toUInt64).toInt64).toInt32), .int (u.toInt32)]) := by
  obtain ⟨w1, w2, w3⟩ := own_jw h
  refine ⟨fun q => ?_, fun q => ?_⟩
  · rw [own_u0.mpr q] at w1
    refine ⟨own_len1 h0 (by omega), ?_⟩
    rw [own_mag1 h0 (by omega)]
    congr 2
    exact own_u_inj (by rw [own_u_w, w2])
  · have : own_u (((u.toUInt64 >>> ((32 : Int32) &&& 0x3f).toInt64.toUInt64).toInt64).toInt32) ≠ 0 := fun z => q (own_u0.mp z)
    refine ⟨own_len2 (by omega), ?_⟩
    exact own_magw2 (by omega) (by rw [w1, w2]; omega)
theorem own_ce {s : State} {args : Array Value} {t : Term} {r : Addr} {c : Cell} {ty : FieldType} {j : Int32} {k : Nat} {m : Int} (er : t.eval args s none [] s = some (.ref r)) (A : Arr s s.heap r c ty) (hj : j.toNatClampNeg = k) (h : ∃ x a, (Term.elem t (.int j)).eval args s none [] s = some (.ref x) ∧ own_BI s s.heap x a m) : ∃ x a, c.slots[k]? = some (.ref x) ∧ own_BI s s.heap x a m := by
  obtain ⟨x, a, e, B⟩ := h
  obtain ⟨c', q1, q2, q3⟩ := elem_at e er (Term.int_eval j)
  cases A.1.symm.trans q1
  exact ⟨x, a, hj ▸ q3, B⟩
theorem own_cop (p m : Int) : Nat.gcd p.natAbs (p * m + 1).natAbs = 1 := by
  apply Nat.eq_one_of_dvd_one
  have h1 : ((Nat.gcd p.natAbs (p * m + 1).natAbs : Nat) : Int) ∣ p := Int.ofNat_dvd_left.mpr (Nat.gcd_dvd_left _ _)
  have h2 : ((Nat.gcd p.natAbs (p * m + 1).natAbs : Nat) : Int) ∣ (p * m + 1) := Int.ofNat_dvd_left.mpr (Nat.gcd_dvd_right _ _)
  have h3 : ((Nat.gcd p.natAbs (p * m + 1).natAbs : Nat) : Int) ∣ 1 := by
    have := Int.dvd_sub h2 (Int.dvd_trans h1 (Int.dvd_mul_right p m))
    rwa [show p * m + 1 - p * m = 1 by omega] at this
  exact Int.natCast_dvd_natCast.mp h3
theorem own_mulb {a b : Int} {x y : Nat} (ha : a.natAbs ≤ x) (hb : b.natAbs ≤ y) : (a * b).natAbs ≤ x * y := by rw [Int.natAbs_mul]; exact Nat.mul_le_mul ha hb
theorem own_law {P M K Q T B N D EN ED : Int64} (hP : P.toInt.natAbs ≤ 2147483648) (hM : M.toInt.natAbs ≤ 32768) (hK : K.toInt.natAbs ≤ 32768) (k0 : K.toInt ≠ 0) (eQ : ((P * M) + (1 : Int64)) = Q) (hTB : (T = P ∧ B = Q) ∨ (T = Q ∧ B = P)) (hb : ¬ (B = (0 : Int64))) (eN : (K * T) = N) (eD : (K * B) = D) (hEN : EN = if (0 : Int64) < B then T else (-T)) (hED : ED = if (0 : Int64) < B then B else (-B)) :
    ∃ g : Int, -9223372036854775808 < (Int64.toInt N) ∧ -9223372036854775808 < (Int64.toInt D) ∧ -9223372036854775808 < (Int64.toInt EN) ∧ -9223372036854775808 < (Int64.toInt ED) ∧ (Int64.toInt D).natAbs ≠ 0 ∧ (Int64.toInt N).natAbs < 18446744073709551616 ∧ (Int64.toInt D).natAbs < 18446744073709551616 ∧ Nat.gcd (Int64.toInt N).natAbs (Int64.toInt D).natAbs < 4294967296 ∧ Nat.gcd (Int64.toInt N).natAbs (Int64.toInt D).natAbs < 2147483648 ∧ (Int64.toInt N) = (Int64.toInt EN) * g ∧ (Int64.toInt D) = (Int64.toInt ED) * g ∧ 0 < (Int64.toInt ED) ∧ g.natAbs = Nat.gcd (Int64.toInt N).natAbs (Int64.toInt D).natAbs := by
  have b1 := own_mulb hP hM
  have hpm : (P * M).toInt = P.toInt * M.toInt := own_mul64 rfl rfl (by omega) (by omega)
  have hq : Q.toInt = P.toInt * M.toInt + 1 := by rw [← eQ]; exact own_add64 hpm rfl (by have : (1 : Int64).toInt = 1 := rfl; omega) (by have : (1 : Int64).toInt = 1 := rfl; omega)
  have hql : Q.toInt.natAbs ≤ 70368744177665 := by rw [hq]; omega
  have cop : Nat.gcd T.toInt.natAbs B.toInt.natAbs = 1 := by
    rcases hTB with ⟨rfl, rfl⟩ | ⟨rfl, rfl⟩
    · rw [hq]; exact own_cop _ _
    · rw [hq, Nat.gcd_comm]; exact own_cop _ _
  have tl : T.toInt.natAbs ≤ 70368744177665 ∧ B.toInt.natAbs ≤ 70368744177665 := by
    rcases hTB with ⟨rfl, rfl⟩ | ⟨rfl, rfl⟩
    · exact ⟨by omega, hql⟩
    · exact ⟨hql, by omega⟩
  have bz : B.toInt ≠ 0 := fun q => hb (Int64.toInt_inj.mp (q.trans rfl))
  have c1 := own_mulb hK tl.1
  have c2 := own_mulb hK tl.2
  have hN : N.toInt = K.toInt * T.toInt := by rw [← eN]; exact own_mul64 rfl rfl (by omega) (by omega)
  have hD : D.toInt = K.toInt * B.toInt := by rw [← eD]; exact own_mul64 rfl rfl (by omega) (by omega)
  have hg : Nat.gcd N.toInt.natAbs D.toInt.natAbs = K.toInt.natAbs := by rw [hN, hD, Int.natAbs_mul, Int.natAbs_mul, Nat.gcd_mul_left, cop, Nat.mul_one]
  have dz : D.toInt ≠ 0 := fun q => by rw [hD] at q; rcases Int.mul_eq_zero.mp q with z | z; exact k0 z; exact bz z
  have nt : (-T).toInt = -T.toInt := own_neg64 rfl (by omega)
  have nb : (-B).toInt = -B.toInt := own_neg64 rfl (by omega)
  by_cases c : (0 : Int64) < B
  · rw [if_pos c] at hEN hED
    rw [Int64.lt_iff_toInt_lt, show (0 : Int64).toInt = 0 from rfl] at c
    subst hEN; subst hED
    exact ⟨K.toInt, by omega, by omega, by omega, by omega, by omega, by omega, by omega, by omega, by omega, by rw [hN, Int.mul_comm], by rw [hD, Int.mul_comm], c, hg.symm⟩
  · rw [if_neg c] at hEN hED
    rw [Int64.lt_iff_toInt_lt, show (0 : Int64).toInt = 0 from rfl] at c
    subst hEN; subst hED
    rw [nt, nb]
    exact ⟨-K.toInt, by omega, by omega, by omega, by omega, by omega, by omega, by omega, by omega, by omega, by rw [hN, Int.neg_mul_neg, Int.mul_comm], by rw [hD, Int.neg_mul_neg, Int.mul_comm], by omega, by rw [Int.natAbs_neg]; exact hg.symm⟩
theorem own_i64b (x : Int32) : (x.toInt64).toInt.natAbs ≤ 2147483648 := by
  have h1 := Int32.le_toInt x
  have h2 := Int32.toInt_lt x
  have : x.toInt64.toInt = x.toInt := by simp
  omega
theorem own_i16b (x : Int32) : ((x.toInt16.toInt32).toInt64).toInt.natAbs ≤ 32768 := by
  have h1 := Int16.le_toInt x.toInt16
  have h2 := Int16.toInt_lt x.toInt16
  have : ((x.toInt16.toInt32).toInt64).toInt = x.toInt16.toInt := by simp
  omega
def own_at (L : List (Nat × Instr × Nat)) (i : Nat) : Nat × Instr × Nat := L.getD i (0, .nop, 1)
abbrev C1 := jdk_2097_method_29_code
def L1 : List (Nat × Instr × Nat) := [(0, .lload_n 0, 1), (1, .lconst 0, 1), (2, .lcmp, 1), (3, .ifCond .ne 7, 3), (6, .getstatic 22, 3), (9, .areturn, 1), (10, .lload_n 0, 1), (11, .lconst 0, 1), (12, .lcmp, 1), (13, .ifCond .le 18, 3), (16, .lload_n 0, 1), (17, .ldc2_w 345, 3), (20, .lcmp, 1), (21, .ifCond .gt 10, 3), (24, .getstatic 347, 3), (27, .lload_n 0, 1), (28, .l2i, 1), (29, .aaload, 1), (30, .areturn, 1), (31, .lload_n 0, 1), (32, .lconst 0, 1), (33, .lcmp, 1), (34, .ifCond .ge 19, 3), (37, .lload_n 0, 1), (38, .ldc2_w 351, 3), (41, .lcmp, 1), (42, .ifCond .lt 11, 3), (45, .getstatic 353, 3), (48, .lload_n 0, 1), (49, .lneg, 1), (50, .l2i, 1), (51, .aaload, 1), (52, .areturn, 1), (53, .new 23, 3), (56, .dup, 1), (57, .lload_n 0, 1), (58, .invokespecial 356, 3), (61, .areturn, 1)]
theorem D1 : ∀ i : Fin 38, decode C1 (own_at L1 i.val).1 = .ok (own_at L1 i.val).2 := by decide +kernel
abbrev C2 := jdk_2097_method_30_code
def L2 : List (Nat × Instr × Nat) := [(0, .aload_n 0, 1), (1, .invokespecial 3, 3), (4, .lload_n 1, 1), (5, .lconst 0, 1), (6, .lcmp, 1), (7, .ifCond .ge 14, 3), (10, .lload_n 1, 1), (11, .lneg, 1), (12, .lstore_n 1, 1), (13, .aload_n 0, 1), (14, .iconst (-1), 1), (15, .putfield 32, 3), (18, .goto 8, 3), (26, .lload_n 1, 1), (27, .bipush 32, 2), (29, .lushr, 1), (30, .l2i, 1), (31, .istore_n 3, 1), (32, .iload_n 3, 1), (33, .ifCond .ne 21, 3), (36, .aload_n 0, 1), (37, .iconst 1, 1), (38, .newarray .int, 2), (40, .putfield 28, 3), (43, .aload_n 0, 1), (44, .getfield 28, 3), (47, .iconst 0, 1), (48, .lload_n 1, 1), (49, .l2i, 1), (50, .iastore, 1), (51, .goto 25, 3), (76, .return_, 1), (54, .aload_n 0, 1), (55, .iconst 2, 1), (56, .newarray .int, 2), (58, .putfield 28, 3), (61, .aload_n 0, 1), (62, .getfield 28, 3), (65, .iconst 0, 1), (66, .iload_n 3, 1), (67, .iastore, 1), (68, .aload_n 0, 1), (69, .getfield 28, 3), (72, .iconst 1, 1), (73, .lload_n 1, 1), (74, .l2i, 1), (75, .iastore, 1), (21, .aload_n 0, 1), (22, .iconst 1, 1), (23, .putfield 32, 3)]
theorem D2 : ∀ i : Fin 50, decode C2 (own_at L2 i.val).1 = .ok (own_at L2 i.val).2 := by decide +kernel
abbrev C3 := jdk_18_method_1_code
def L3 : List (Nat × Instr × Nat) := [(0, .aload_n 0, 1), (1, .invokespecial 1, 3), (4, .return_, 1)]
theorem D3 : ∀ i : Fin 3, decode C3 (own_at L3 i.val).1 = .ok (own_at L3 i.val).2 := by decide +kernel
abbrev C5 := prog_1_method_2_code
def L5 : List (Nat × Instr × Nat) := [(0, .aload_n 1, 1), (1, .invokevirtual 16, 3), (4, .ifCond .ne 20, 3), (24, .aload_n 0, 1), (25, .aload_n 1, 1), (26, .invokevirtual 37, 3), (29, .astore_n 2, 1), (30, .aload_n 1, 1), (31, .invokevirtual 16, 3), (34, .ifCond .ge 8, 3), (42, .new 8, 3), (45, .dup, 1), (46, .aload_n 0, 1), (47, .aload_n 2, 1), (48, .invokevirtual 45, 3), (51, .aload_n 1, 1), (52, .aload_n 2, 1), (53, .invokevirtual 45, 3), (56, .invokespecial 48, 3), (59, .areturn, 1), (37, .aload_n 2, 1), (38, .invokevirtual 41, 3), (41, .astore_n 2, 1)]
theorem D5 : ∀ i : Fin 23, decode C5 (own_at L5 i.val).1 = .ok (own_at L5 i.val).2 := by decide +kernel
abbrev C6 := jdk_2097_method_81_code
def L6 : List (Nat × Instr × Nat) := [(0, .aload_n 0, 1), (1, .getfield 32, 3), (4, .ireturn, 1)]
theorem D6 : ∀ i : Fin 3, decode C6 (own_at L6 i.val).1 = .ok (own_at L6 i.val).2 := by decide +kernel
abbrev C7 := jdk_2097_method_73_code
def L7 : List (Nat × Instr × Nat) := [(0, .aload_n 1, 1), (1, .getfield 32, 3), (4, .ifCond .ne 8, 3), (12, .aload_n 0, 1), (13, .getfield 32, 3), (16, .ifCond .ne 8, 3), (19, .aload_n 1, 1), (20, .invokevirtual 485, 3), (23, .areturn, 1), (24, .new 541, 3), (27, .dup, 1), (28, .aload_n 0, 1), (29, .invokespecial 567, 3), (32, .astore_n 2, 1), (33, .new 541, 3), (36, .dup, 1), (37, .aload_n 1, 1), (38, .invokespecial 567, 3), (41, .astore_n 3, 1), (42, .aload_n 2, 1), (43, .aload_n 3, 1), (44, .invokevirtual 598, 3), (47, .astore 4, 2), (49, .aload 4, 2), (51, .iconst 1, 1), (52, .invokevirtual 548, 3), (55, .areturn, 1)]
theorem D7 : ∀ i : Fin 27, decode C7 (own_at L7 i.val).1 = .ok (own_at L7 i.val).2 := by decide +kernel
abbrev C8 := jdk_2101_method_4_code
def L8 : List (Nat × Instr × Nat) := [(0, .aload_n 0, 1), (1, .invokespecial 5, 3), (4, .aload_n 0, 1), (5, .iconst 0, 1), (6, .putfield 11, 3), (9, .aload_n 0, 1), (10, .aload_n 1, 1), (11, .getfield 24, 3), (14, .arraylength, 1), (15, .putfield 21, 3), (18, .aload_n 0, 1), (19, .aload_n 1, 1), (20, .getfield 24, 3), (23, .aload_n 0, 1), (24, .getfield 21, 3), (27, .invokestatic 27, 3), (30, .putfield 17, 3), (33, .return_, 1)]
theorem D8 : ∀ i : Fin 18, decode C8 (own_at L8 i.val).1 = .ok (own_at L8 i.val).2 := by decide +kernel
abbrev C9 := jdk_65_method_123_code
def L9 : List (Nat × Instr × Nat) := [(0, .iload_n 1, 1), (1, .aload_n 0, 1), (2, .arraylength, 1), (3, .if_icmp .ne 11, 3), (6, .aload_n 0, 1), (7, .invokevirtual 316, 3), (10, .checkcast 317, 3), (13, .areturn, 1)]
theorem D9 : ∀ i : Fin 8, decode C9 (own_at L9 i.val).1 = .ok (own_at L9 i.val).2 := by decide +kernel
abbrev C10 := jdk_2101_method_72_code
def L10 : List (Nat × Instr × Nat) := [(0, .aload_n 0, 1), (1, .astore_n 2, 1), (2, .new 12, 3), (5, .dup, 1), (6, .invokespecial 177, 3), (9, .astore_n 3, 1), (10, .aload_n 1, 1), (11, .getfield 21, 3), (14, .ifCond .eq 41, 3), (17, .aload_n 2, 1), (18, .getfield 21, 3), (21, .aload_n 1, 1), (22, .getfield 21, 3), (25, .isub, 1), (26, .invokestatic 329, 3), (29, .iconst 2, 1), (30, .if_icmp .ge 9, 3), (33, .aload_n 2, 1), (34, .aload_n 1, 1), (35, .invokevirtual 332, 3), (38, .areturn, 1)]
theorem D10 : ∀ i : Fin 21, decode C10 (own_at L10 i.val).1 = .ok (own_at L10 i.val).2 := by decide +kernel
abbrev C11 := jdk_2101_method_1_code
def L11 : List (Nat × Instr × Nat) := [(0, .aload_n 0, 1), (1, .invokespecial 5, 3), (4, .aload_n 0, 1), (5, .iconst 0, 1), (6, .putfield 11, 3), (9, .aload_n 0, 1), (10, .iconst 1, 1), (11, .newarray .int, 2), (13, .putfield 17, 3), (16, .aload_n 0, 1), (17, .iconst 0, 1), (18, .putfield 21, 3), (21, .return_, 1)]
theorem D11 : ∀ i : Fin 13, decode C11 (own_at L11 i.val).1 = .ok (own_at L11 i.val).2 := by decide +kernel
abbrev C12 := jdk_29_method_59_code
def L12 : List (Nat × Instr × Nat) := [(0, .iload_n 0, 1), (1, .ifCond .ge 8, 3), (9, .iload_n 0, 1), (4, .iload_n 0, 1), (5, .ineg, 1), (6, .goto 4, 3), (10, .ireturn, 1)]
theorem D12 : ∀ i : Fin 7, decode C12 (own_at L12 i.val).1 = .ok (own_at L12 i.val).2 := by decide +kernel
abbrev C13 := jdk_2101_method_73_code
def L13 : List (Nat × Instr × Nat) := [(125, .aload_n 2, 1), (126, .getfield 21, 3), (129, .iconst 2, 1), (130, .if_icmp .ge 73, 3), (133, .aload_n 1, 1), (134, .getfield 21, 3), (137, .iconst 2, 1), (138, .if_icmp .ge 65, 3), (203, .aload_n 2, 1), (204, .aload_n 1, 1), (205, .invokevirtual 341, 3), (208, .dup, 1), (209, .istore 9, 2), (211, .ifCond .ne 6, 3), (217, .iload 9, 2), (219, .ifCond .lt 7, 3), (222, .aload_n 2, 1), (223, .goto 4, 3), (227, .astore 8, 2), (229, .goto (-136), 3), (93, .aload 8, 2), (95, .invokevirtual 184, 3), (98, .dup, 1), (99, .istore 10, 2), (101, .ifCond .lt 131, 3), (104, .aload 8, 2), (106, .iload 10, 2), (108, .invokevirtual 108, 3), (111, .iload 9, 2), (113, .ifCond .le 9, 3), (116, .aload 8, 2), (118, .astore_n 2, 1), (119, .goto 6, 3), (226, .aload_n 1, 1), (122, .aload 8, 2), (124, .astore_n 1, 1), (55, .iload 6, 2), (57, .iload 4, 2), (59, .if_icmp .ne 7, 3), (62, .iconst 1, 1), (63, .goto 4, 3), (67, .istore 7, 2), (69, .iload 7, 2), (71, .ifCond .eq 7, 3), (74, .aload_n 1, 1), (75, .goto 4, 3), (79, .astore 8, 2), (81, .iload 7, 2), (83, .ifCond .eq 7, 3), (86, .iconst (-1), 1), (87, .goto 4, 3), (91, .istore 9, 2), (66, .iconst 0, 1), (78, .aload_n 2, 1), (90, .iconst 1, 1), (0, .aload_n 0, 1), (1, .astore_n 2, 1), (2, .new 12, 3), (5, .dup, 1), (6, .invokespecial 177, 3), (9, .astore_n 3, 1), (10, .aload_n 2, 1), (11, .invokevirtual 184, 3), (14, .istore 4, 2), (16, .aload_n 1, 1), (17, .invokevirtual 184, 3), (20, .istore 5, 2), (22, .iload 4, 2), (24, .iload 5, 2), (26, .if_icmp .ge 8, 3), (34, .iload 5, 2), (29, .iload 4, 2), (31, .goto 5, 3), (36, .istore 6, 2), (38, .iload 6, 2), (40, .ifCond .eq 15, 3), (141, .aload_n 2, 1), (142, .getfield 17, 3), (145, .aload_n 2, 1), (146, .getfield 11, 3), (149, .iaload, 1), (150, .istore 11, 2), (152, .aload_n 1, 1), (153, .getfield 17, 3), (156, .aload_n 1, 1), (157, .getfield 11, 3), (160, .iaload, 1), (161, .istore 12, 2), (163, .iload 11, 2), (165, .iload 12, 2), (167, .invokestatic 338, 3), (170, .istore 11, 2), (172, .aload_n 3, 1), (173, .getfield 17, 3), (176, .iconst 0, 1), (177, .iload 11, 2), (179, .iastore, 1), (180, .aload_n 3, 1), (181, .iconst 1, 1), (182, .putfield 21, 3), (185, .aload_n 3, 1), (186, .iconst 0, 1), (187, .putfield 11, 3), (190, .iload 6, 2), (192, .ifCond .le 9, 3), (201, .aload_n 3, 1), (202, .areturn, 1), (43, .aload_n 2, 1), (44, .iload 6, 2), (46, .invokevirtual 108, 3), (49, .aload_n 1, 1), (50, .iload 6, 2), (52, .invokevirtual 108, 3), (195, .aload_n 3, 1), (196, .iload 6, 2), (198, .invokevirtual 121, 3)]
theorem D13 : ∀ i : Fin 116, decode C13 (own_at L13 i.val).1 = .ok (own_at L13 i.val).2 := by decide +kernel
abbrev C14 := jdk_2101_method_18_code
def L14 : List (Nat × Instr × Nat) := [(0, .aload_n 0, 1), (1, .getfield 21, 3), (4, .ifCond .ne 5, 3), (9, .aload_n 0, 1), (10, .getfield 21, 3), (13, .iconst 1, 1), (14, .isub, 1), (15, .istore_n 1, 1), (16, .iload_n 1, 1), (17, .ifCond .le 23, 3), (40, .aload_n 0, 1), (41, .getfield 17, 3), (44, .iload_n 1, 1), (45, .aload_n 0, 1), (46, .getfield 11, 3), (49, .iadd, 1), (50, .iaload, 1), (51, .istore_n 2, 1), (52, .iload_n 2, 1), (53, .ifCond .ne 5, 3), (58, .aload_n 0, 1), (59, .getfield 21, 3), (62, .iconst 1, 1), (63, .isub, 1), (64, .iload_n 1, 1), (65, .isub, 1), (66, .iconst 5, 1), (67, .ishl, 1), (68, .iload_n 2, 1), (69, .invokestatic 89, 3), (72, .iadd, 1), (73, .ireturn, 1), (20, .aload_n 0, 1), (21, .getfield 17, 3), (24, .iload_n 1, 1), (25, .aload_n 0, 1), (26, .getfield 11, 3), (29, .iadd, 1), (30, .iaload, 1), (31, .ifCond .ne 9, 3), (34, .iinc 1 (-1), 3), (37, .goto (-21), 3)]
theorem D14 : ∀ i : Fin 42, decode C14 (own_at L14 i.val).1 = .ok (own_at L14 i.val).2 := by decide +kernel
abbrev C15 := jdk_33_method_48_code
def L15 : List (Nat × Instr × Nat) := [(0, .iload_n 0, 1), (1, .iconst (-1), 1), (2, .ixor, 1), (3, .iload_n 0, 1), (4, .iconst 1, 1), (5, .isub, 1), (6, .iand, 1), (7, .istore_n 0, 1), (8, .iload_n 0, 1), (9, .ifCond .gt 8, 3), (12, .iload_n 0, 1), (13, .bipush 32, 2), (15, .iand, 1), (16, .ireturn, 1), (17, .iconst 1, 1), (18, .istore_n 1, 1), (19, .iload_n 0, 1), (20, .ldc_w 264, 3), (23, .if_icmp .le 11, 3), (26, .iinc 1 16, 3), (29, .iload_n 0, 1), (30, .bipush 16, 2), (32, .iushr, 1), (33, .istore_n 0, 1), (34, .iload_n 0, 1), (35, .sipush 256, 3), (38, .if_icmp .le 11, 3), (41, .iinc 1 8, 3), (44, .iload_n 0, 1), (45, .bipush 8, 2), (47, .iushr, 1), (48, .istore_n 0, 1), (49, .iload_n 0, 1), (50, .bipush 16, 2), (52, .if_icmp .le 10, 3), (55, .iinc 1 4, 3), (58, .iload_n 0, 1), (59, .iconst 4, 1), (60, .iushr, 1), (61, .istore_n 0, 1), (62, .iload_n 0, 1), (63, .iconst 4, 1), (64, .if_icmp .le 10, 3), (67, .iinc 1 2, 3), (70, .iload_n 0, 1), (71, .iconst 2, 1), (72, .iushr, 1), (73, .istore_n 0, 1), (74, .iload_n 1, 1), (75, .iload_n 0, 1), (76, .iconst 1, 1), (77, .iushr, 1), (78, .iadd, 1), (79, .ireturn, 1)]
theorem D15 : ∀ i : Fin 54, decode C15 (own_at L15 i.val).1 = .ok (own_at L15 i.val).2 := by decide +kernel
abbrev C16 := jdk_2101_method_35_code
def L16 : List (Nat × Instr × Nat) := [(0, .aload_n 0, 1), (1, .getfield 21, 3), (4, .ifCond .ne 4, 3), (8, .iload_n 1, 1), (9, .iconst 5, 1), (10, .iushr, 1), (11, .istore_n 2, 1), (12, .iload_n 1, 1), (13, .bipush 31, 2), (15, .iand, 1), (16, .istore_n 3, 1), (17, .aload_n 0, 1), (18, .dup, 1), (19, .getfield 21, 3), (22, .iload_n 2, 1), (23, .isub, 1), (24, .putfield 21, 3), (27, .iload_n 3, 1), (28, .ifCond .ne 4, 3), (31, .return_, 1), (32, .aload_n 0, 1), (33, .getfield 17, 3), (36, .aload_n 0, 1), (37, .getfield 11, 3), (40, .iaload, 1), (41, .invokestatic 112, 3), (44, .istore 4, 2), (46, .iload_n 3, 1), (47, .iload 4, 2), (49, .if_icmp .lt 24, 3), (52, .aload_n 0, 1), (53, .bipush 32, 2), (55, .iload_n 3, 1), (56, .isub, 1), (57, .invokevirtual 115, 3), (60, .aload_n 0, 1), (61, .dup, 1), (62, .getfield 21, 3), (65, .iconst 1, 1), (66, .isub, 1), (67, .putfield 21, 3), (70, .goto 8, 3), (78, .return_, 1), (73, .aload_n 0, 1), (74, .iload_n 3, 1), (75, .invokevirtual 118, 3)]
theorem D16 : ∀ i : Fin 46, decode C16 (own_at L16 i.val).1 = .ok (own_at L16 i.val).2 := by decide +kernel
abbrev C17 := jdk_2097_method_74_code
def L17 : List (Nat × Instr × Nat) := [(0, .bipush 32, 2), (2, .iload_n 0, 1), (3, .invokestatic 602, 3), (6, .isub, 1), (7, .ireturn, 1)]
theorem D17 : ∀ i : Fin 5, decode C17 (own_at L17 i.val).1 = .ok (own_at L17 i.val).2 := by decide +kernel
abbrev C18 := jdk_33_method_47_code
def L18 : List (Nat × Instr × Nat) := [(0, .iload_n 0, 1), (1, .ifCond .gt 14, 3), (4, .iload_n 0, 1), (5, .ifCond .ne 8, 3), (8, .bipush 32, 2), (10, .goto 4, 3), (14, .ireturn, 1), (13, .iconst 0, 1), (15, .bipush 31, 2), (17, .istore_n 1, 1), (18, .iload_n 0, 1), (19, .ldc_w 264, 3), (22, .if_icmp .lt 11, 3), (25, .iinc 1 (-16), 3), (28, .iload_n 0, 1), (29, .bipush 16, 2), (31, .iushr, 1), (32, .istore_n 0, 1), (33, .iload_n 0, 1), (34, .sipush 256, 3), (37, .if_icmp .lt 11, 3), (40, .iinc 1 (-8), 3), (43, .iload_n 0, 1), (44, .bipush 8, 2), (46, .iushr, 1), (47, .istore_n 0, 1), (48, .iload_n 0, 1), (49, .bipush 16, 2), (51, .if_icmp .lt 10, 3), (54, .iinc 1 (-4), 3), (57, .iload_n 0, 1), (58, .iconst 4, 1), (59, .iushr, 1), (60, .istore_n 0, 1), (61, .iload_n 0, 1), (62, .iconst 4, 1), (63, .if_icmp .lt 10, 3), (66, .iinc 1 (-2), 3), (69, .iload_n 0, 1), (70, .iconst 2, 1), (71, .iushr, 1), (72, .istore_n 0, 1), (73, .iload_n 1, 1), (74, .iload_n 0, 1), (75, .iconst 1, 1), (76, .iushr, 1), (77, .isub, 1), (78, .ireturn, 1)]
theorem D18 : ∀ i : Fin 48, decode C18 (own_at L18 i.val).1 = .ok (own_at L18 i.val).2 := by decide +kernel
abbrev C19 := jdk_2101_method_41_code
def L19 : List (Nat × Instr × Nat) := [(0, .aload_n 0, 1), (1, .getfield 17, 3), (4, .astore_n 2, 1), (5, .bipush 32, 2), (7, .iload_n 1, 1), (8, .isub, 1), (9, .istore_n 3, 1), (10, .aload_n 0, 1), (11, .getfield 11, 3), (14, .aload_n 0, 1), (15, .getfield 21, 3), (18, .iadd, 1), (19, .iconst 1, 1), (20, .isub, 1), (21, .istore 4, 2), (23, .aload_n 2, 1), (24, .iload 4, 2), (26, .iaload, 1), (27, .istore 5, 2), (29, .iload 4, 2), (31, .aload_n 0, 1), (32, .getfield 11, 3), (35, .if_icmp .le 34, 3), (38, .iload 5, 2), (40, .istore 6, 2), (42, .aload_n 2, 1), (43, .iload 4, 2), (45, .iconst 1, 1), (46, .isub, 1), (47, .iaload, 1), (48, .istore 5, 2), (50, .aload_n 2, 1), (51, .iload 4, 2), (53, .iload 5, 2), (55, .iload_n 3, 1), (56, .ishl, 1), (57, .iload 6, 2), (59, .iload_n 1, 1), (60, .iushr, 1), (61, .ior, 1), (62, .iastore, 1), (63, .iinc 4 (-1), 3), (66, .goto (-37), 3), (69, .aload_n 2, 1), (70, .aload_n 0, 1), (71, .getfield 11, 3), (74, .dup2, 1), (75, .iaload, 1), (76, .iload_n 1, 1), (77, .iushr, 1), (78, .iastore, 1), (79, .return_, 1)]
theorem D19 : ∀ i : Fin 52, decode C19 (own_at L19 i.val).1 = .ok (own_at L19 i.val).2 := by decide +kernel
abbrev C20 := jdk_2101_method_74_code
def L20 : List (Nat × Instr × Nat) := [(42, .iload_n 0, 1), (43, .iload_n 1, 1), (44, .if_icmp .eq 42, 3), (47, .iload_n 0, 1), (48, .ldc 88, 2), (50, .iadd, 1), (51, .iload_n 1, 1), (52, .ldc 88, 2), (54, .iadd, 1), (55, .if_icmp .le 17, 3), (58, .iload_n 0, 1), (59, .iload_n 1, 1), (60, .isub, 1), (61, .istore_n 0, 1), (62, .iload_n 0, 1), (63, .iload_n 0, 1), (64, .invokestatic 89, 3), (67, .iushr, 1), (68, .istore_n 0, 1), (69, .goto (-27), 3), (72, .iload_n 1, 1), (73, .iload_n 0, 1), (74, .isub, 1), (75, .istore_n 1, 1), (76, .iload_n 1, 1), (77, .iload_n 1, 1), (78, .invokestatic 89, 3), (81, .iushr, 1), (82, .istore_n 1, 1), (83, .goto (-41), 3), (0, .iload_n 1, 1), (1, .ifCond .ne 5, 3), (6, .iload_n 0, 1), (7, .ifCond .ne 5, 3), (12, .iload_n 0, 1), (13, .invokestatic 89, 3), (16, .istore_n 2, 1), (17, .iload_n 1, 1), (18, .invokestatic 89, 3), (21, .istore_n 3, 1), (22, .iload_n 0, 1), (23, .iload_n 2, 1), (24, .iushr, 1), (25, .istore_n 0, 1), (26, .iload_n 1, 1), (27, .iload_n 3, 1), (28, .iushr, 1), (29, .istore_n 1, 1), (30, .iload_n 2, 1), (31, .iload_n 3, 1), (32, .if_icmp .ge 7, 3), (39, .iload_n 3, 1), (40, .istore 4, 2), (86, .iload_n 0, 1), (87, .iload 4, 2), (89, .ishl, 1), (90, .ireturn, 1)]
theorem D20 : ∀ i : Fin 57, decode C20 (own_at L20 i.val).1 = .ok (own_at L20 i.val).2 := by decide +kernel
abbrev C21 := jdk_2101_method_37_code
def L21 : List (Nat × Instr × Nat) := [(0, .aload_n 0, 1), (1, .getfield 21, 3), (4, .ifCond .ne 4, 3), (8, .iload_n 1, 1), (9, .iconst 5, 1), (10, .iushr, 1), (11, .istore_n 2, 1), (12, .iload_n 1, 1), (13, .bipush 31, 2), (15, .iand, 1), (16, .istore_n 3, 1), (17, .aload_n 0, 1), (18, .getfield 17, 3), (21, .aload_n 0, 1), (22, .getfield 11, 3), (25, .iaload, 1), (26, .invokestatic 112, 3), (29, .istore 4, 2), (31, .iload_n 1, 1), (32, .bipush 32, 2), (34, .iload 4, 2), (36, .isub, 1), (37, .if_icmp .gt 9, 3), (40, .aload_n 0, 1), (41, .iload_n 3, 1), (42, .invokevirtual 115, 3), (45, .return_, 1)]
theorem D21 : ∀ i : Fin 27, decode C21 (own_at L21 i.val).1 = .ok (own_at L21 i.val).2 := by decide +kernel
abbrev C22 := jdk_2101_method_42_code
def L22 : List (Nat × Instr × Nat) := [(0, .aload_n 0, 1), (1, .getfield 17, 3), (4, .astore_n 2, 1), (5, .bipush 32, 2), (7, .iload_n 1, 1), (8, .isub, 1), (9, .istore_n 3, 1), (10, .aload_n 0, 1), (11, .getfield 11, 3), (14, .istore 4, 2), (16, .aload_n 2, 1), (17, .iload 4, 2), (19, .iaload, 1), (20, .istore 5, 2), (22, .iload 4, 2), (24, .aload_n 0, 1), (25, .getfield 21, 3), (28, .iadd, 1), (29, .iconst 1, 1), (30, .isub, 1), (31, .istore 6, 2), (33, .iload 4, 2), (35, .iload 6, 2), (37, .if_icmp .ge 34, 3), (40, .iload 5, 2), (42, .istore 7, 2), (44, .aload_n 2, 1), (45, .iload 4, 2), (47, .iconst 1, 1), (48, .iadd, 1), (49, .iaload, 1), (50, .istore 5, 2), (52, .aload_n 2, 1), (53, .iload 4, 2), (55, .iload 7, 2), (57, .iload_n 1, 1), (58, .ishl, 1), (59, .iload 5, 2), (61, .iload_n 3, 1), (62, .iushr, 1), (63, .ior, 1), (64, .iastore, 1), (65, .iinc 4 1, 3), (68, .goto (-35), 3), (71, .aload_n 2, 1), (72, .aload_n 0, 1), (73, .getfield 11, 3), (76, .aload_n 0, 1), (77, .getfield 21, 3), (80, .iadd, 1), (81, .iconst 1, 1), (82, .isub, 1), (83, .dup2, 1), (84, .iaload, 1), (85, .iload_n 1, 1), (86, .ishl, 1), (87, .iastore, 1), (88, .return_, 1)]
theorem D22 : ∀ i : Fin 58, decode C22 (own_at L22 i.val).1 = .ok (own_at L22 i.val).2 := by decide +kernel
abbrev C23 := jdk_2101_method_9_code
def L23 : List (Nat × Instr × Nat) := [(0, .aload_n 0, 1), (1, .getfield 21, 3), (4, .ifCond .eq 7, 3), (7, .iload_n 1, 1), (8, .ifCond .ne 7, 3), (15, .new 1, 3), (18, .dup, 1), (19, .aload_n 0, 1), (20, .invokevirtual 58, 3), (23, .iload_n 1, 1), (24, .invokespecial 62, 3), (27, .areturn, 1), (11, .getstatic 54, 3), (14, .areturn, 1)]
theorem D23 : ∀ i : Fin 14, decode C23 (own_at L23 i.val).1 = .ok (own_at L23 i.val).2 := by decide +kernel
abbrev C24 := jdk_2101_method_7_code
def L24 : List (Nat × Instr × Nat) := [(0, .aload_n 0, 1), (1, .getfield 11, 3), (4, .ifCond .gt 15, 3), (7, .aload_n 0, 1), (8, .getfield 17, 3), (11, .arraylength, 1), (12, .aload_n 0, 1), (13, .getfield 21, 3), (16, .if_icmp .eq 48, 3), (64, .aload_n 0, 1), (65, .getfield 17, 3), (68, .areturn, 1), (19, .aload_n 0, 1), (20, .getfield 17, 3), (23, .aload_n 0, 1), (24, .getfield 11, 3), (27, .aload_n 0, 1), (28, .getfield 11, 3), (31, .aload_n 0, 1), (32, .getfield 21, 3), (35, .iadd, 1), (36, .invokestatic 33, 3), (39, .astore_n 1, 1), (40, .aload_n 0, 1), (41, .getfield 17, 3), (44, .iconst 0, 1), (45, .invokestatic 37, 3), (48, .aload_n 0, 1), (49, .iconst 0, 1), (50, .putfield 11, 3), (53, .aload_n 0, 1), (54, .aload_n 1, 1), (55, .arraylength, 1), (56, .putfield 21, 3), (59, .aload_n 0, 1), (60, .aload_n 1, 1), (61, .putfield 17, 3)]
theorem D24 : ∀ i : Fin 37, decode C24 (own_at L24 i.val).1 = .ok (own_at L24 i.val).2 := by decide +kernel
abbrev C25 := jdk_2097_method_25_code
def L25 : List (Nat × Instr × Nat) := [(0, .aload_n 0, 1), (1, .invokespecial 3, 3), (4, .aload_n 0, 1), (5, .aload_n 1, 1), (6, .arraylength, 1), (7, .ifCond .ne 7, 3), (14, .iload_n 2, 1), (15, .putfield 32, 3), (18, .aload_n 0, 1), (19, .aload_n 1, 1), (20, .putfield 28, 3), (23, .aload_n 0, 1), (24, .getfield 28, 3), (27, .arraylength, 1), (28, .ldc 43, 2), (30, .if_icmp .lt 7, 3), (37, .return_, 1)]
theorem D25 : ∀ i : Fin 17, decode C25 (own_at L25 i.val).1 = .ok (own_at L25 i.val).2 := by decide +kernel
abbrev C26 := jdk_2097_method_61_code
def L26 : List (Nat × Instr × Nat) := [(0, .aload_n 1, 1), (1, .getfield 28, 3), (4, .arraylength, 1), (5, .bipush 80, 2), (7, .if_icmp .lt 19, 3), (26, .aload_n 0, 1), (27, .aload_n 1, 1), (28, .invokevirtual 535, 3), (31, .areturn, 1)]
theorem D26 : ∀ i : Fin 9, decode C26 (own_at L26 i.val).1 = .ok (own_at L26 i.val).2 := by decide +kernel
abbrev C27 := jdk_2097_method_62_code
def L27 : List (Nat × Instr × Nat) := [(0, .new 541, 3), (3, .dup, 1), (4, .invokespecial 543, 3), (7, .astore_n 2, 1), (8, .new 541, 3), (11, .dup, 1), (12, .aload_n 0, 1), (13, .getfield 28, 3), (16, .invokespecial 544, 3), (19, .astore_n 3, 1), (20, .new 541, 3), (23, .dup, 1), (24, .aload_n 1, 1), (25, .getfield 28, 3), (28, .invokespecial 544, 3), (31, .astore 4, 2), (33, .aload_n 3, 1), (34, .aload 4, 2), (36, .aload_n 2, 1), (37, .iconst 0, 1), (38, .invokevirtual 545, 3), (41, .pop, 1), (42, .aload_n 2, 1), (43, .aload_n 0, 1), (44, .getfield 32, 3), (47, .aload_n 1, 1), (48, .getfield 32, 3), (51, .imul, 1), (52, .invokevirtual 548, 3), (55, .areturn, 1)]
theorem D27 : ∀ i : Fin 30, decode C27 (own_at L27 i.val).1 = .ok (own_at L27 i.val).2 := by decide +kernel
abbrev C28 := jdk_2101_method_3_code
def L28 : List (Nat × Instr × Nat) := [(0, .aload_n 0, 1), (1, .invokespecial 5, 3), (4, .aload_n 0, 1), (5, .iconst 0, 1), (6, .putfield 11, 3), (9, .aload_n 0, 1), (10, .aload_n 1, 1), (11, .putfield 17, 3), (14, .aload_n 0, 1), (15, .aload_n 1, 1), (16, .arraylength, 1), (17, .putfield 21, 3), (20, .return_, 1)]
theorem D28 : ∀ i : Fin 13, decode C28 (own_at L28 i.val).1 = .ok (own_at L28 i.val).2 := by decide +kernel
abbrev C29 := jdk_2101_method_57_code
def L29 : List (Nat × Instr × Nat) := [(0, .aload_n 1, 1), (1, .getfield 21, 3), (4, .ifCond .ne 13, 3), (17, .aload_n 0, 1), (18, .getfield 21, 3), (21, .ifCond .ne 29, 3), (24, .aload_n 2, 1), (25, .aload_n 2, 1), (26, .iconst 0, 1), (27, .dup_x1, 1), (28, .putfield 11, 3), (31, .putfield 21, 3), (34, .iload_n 3, 1), (35, .ifCond .eq 13, 3), (48, .aconst_null, 1), (49, .areturn, 1), (50, .aload_n 0, 1), (51, .aload_n 1, 1), (52, .invokevirtual 142, 3), (55, .istore 4, 2), (57, .iload 4, 2), (59, .ifCond .ge 30, 3), (89, .iload 4, 2), (91, .ifCond .ne 36, 3), (94, .aload_n 2, 1), (95, .getfield 17, 3), (98, .iconst 0, 1), (99, .aload_n 2, 1), (100, .iconst 1, 1), (101, .dup_x1, 1), (102, .putfield 21, 3), (105, .iastore, 1), (106, .aload_n 2, 1), (107, .iconst 0, 1), (108, .putfield 11, 3), (111, .iload_n 3, 1), (112, .ifCond .eq 13, 3), (125, .aconst_null, 1), (126, .areturn, 1), (127, .aload_n 2, 1), (128, .invokevirtual 149, 3), (131, .aload_n 1, 1), (132, .getfield 21, 3), (135, .iconst 1, 1), (136, .if_icmp .ne 48, 3), (139, .aload_n 0, 1), (140, .aload_n 1, 1), (141, .getfield 17, 3), (144, .aload_n 1, 1), (145, .getfield 11, 3), (148, .iaload, 1), (149, .aload_n 2, 1), (150, .invokevirtual 178, 3), (153, .istore 5, 2), (155, .iload_n 3, 1), (156, .ifCond .eq 26, 3), (182, .aconst_null, 1), (183, .areturn, 1)]
theorem D29 : ∀ i : Fin 58, decode C29 (own_at L29 i.val).1 = .ok (own_at L29 i.val).2 := by decide +kernel
abbrev C30 := jdk_2101_method_15_code
def L30 : List (Nat × Instr × Nat) := [(0, .aload_n 1, 1), (1, .getfield 21, 3), (4, .istore_n 2, 1), (5, .aload_n 0, 1), (6, .getfield 21, 3), (9, .iload_n 2, 1), (10, .if_icmp .ge 5, 3), (15, .aload_n 0, 1), (16, .getfield 21, 3), (19, .iload_n 2, 1), (20, .if_icmp .le 5, 3), (23, .iconst 1, 1), (24, .ireturn, 1), (13, .iconst (-1), 1), (14, .ireturn, 1), (25, .aload_n 1, 1), (26, .getfield 17, 3), (29, .astore_n 3, 1), (30, .aload_n 0, 1), (31, .getfield 11, 3), (34, .istore 4, 2), (36, .aload_n 1, 1), (37, .getfield 11, 3), (40, .istore 5, 2), (42, .iload 4, 2), (44, .aload_n 0, 1), (45, .getfield 21, 3), (48, .aload_n 0, 1), (49, .getfield 11, 3), (52, .iadd, 1), (53, .if_icmp .ge 51, 3), (56, .aload_n 0, 1), (57, .getfield 17, 3), (60, .iload 4, 2), (62, .iaload, 1), (63, .ldc 88, 2), (65, .iadd, 1), (66, .istore 6, 2), (68, .aload_n 3, 1), (69, .iload 5, 2), (71, .iaload, 1), (72, .ldc 88, 2), (74, .iadd, 1), (75, .istore 7, 2), (77, .iload 6, 2), (79, .iload 7, 2), (81, .if_icmp .ge 5, 3), (86, .iload 6, 2), (88, .iload 7, 2), (90, .if_icmp .le 5, 3), (93, .iconst 1, 1), (94, .ireturn, 1), (95, .iinc 4 1, 3), (98, .iinc 5 1, 3), (101, .goto (-59), 3), (84, .iconst (-1), 1), (85, .ireturn, 1), (104, .iconst 0, 1), (105, .ireturn, 1)]
theorem D30 : ∀ i : Fin 59, decode C30 (own_at L30 i.val).1 = .ok (own_at L30 i.val).2 := by decide +kernel
abbrev C31 := jdk_2101_method_13_code
def L31 : List (Nat × Instr × Nat) := [(0, .aload_n 0, 1), (1, .aload_n 0, 1), (2, .iconst 0, 1), (3, .dup_x1, 1), (4, .putfield 21, 3), (7, .putfield 11, 3), (10, .iconst 0, 1), (11, .istore_n 1, 1), (12, .aload_n 0, 1), (13, .getfield 17, 3), (16, .arraylength, 1), (17, .istore_n 2, 1), (18, .iload_n 1, 1), (19, .iload_n 2, 1), (20, .if_icmp .ge 16, 3), (23, .aload_n 0, 1), (24, .getfield 17, 3), (27, .iload_n 1, 1), (28, .iconst 0, 1), (29, .iastore, 1), (30, .iinc 1 1, 3), (33, .goto (-15), 3), (36, .return_, 1)]
theorem D31 : ∀ i : Fin 23, decode C31 (own_at L31 i.val).1 = .ok (own_at L31 i.val).2 := by decide +kernel
abbrev C32 := jdk_2101_method_53_code
def L32 : List (Nat × Instr × Nat) := [(0, .iload_n 1, 1), (1, .i2l, 1), (2, .ldc2_w 52, 3), (5, .land, 1), (6, .lstore_n 3, 1), (7, .aload_n 0, 1), (8, .getfield 21, 3), (11, .iconst 1, 1), (12, .if_icmp .ne 67, 3), (15, .aload_n 0, 1), (16, .getfield 17, 3), (19, .aload_n 0, 1), (20, .getfield 11, 3), (23, .iaload, 1), (24, .i2l, 1), (25, .ldc2_w 52, 3), (28, .land, 1), (29, .lstore 5, 2), (31, .lload 5, 2), (33, .lload_n 3, 1), (34, .ldiv, 1), (35, .l2i, 1), (36, .istore 7, 2), (38, .lload 5, 2), (40, .iload 7, 2), (42, .i2l, 1), (43, .lload_n 3, 1), (44, .lmul, 1), (45, .lsub, 1), (46, .l2i, 1), (47, .istore 8, 2), (49, .aload_n 2, 1), (50, .getfield 17, 3), (53, .iconst 0, 1), (54, .iload 7, 2), (56, .iastore, 1), (57, .aload_n 2, 1), (58, .iload 7, 2), (60, .ifCond .ne 7, 3), (67, .iconst 1, 1), (68, .putfield 21, 3), (71, .aload_n 2, 1), (72, .iconst 0, 1), (73, .putfield 11, 3), (76, .iload 8, 2), (78, .ireturn, 1), (79, .aload_n 2, 1), (80, .getfield 17, 3), (83, .arraylength, 1), (84, .aload_n 0, 1), (85, .getfield 21, 3), (88, .if_icmp .ge 13, 3), (91, .aload_n 2, 1), (92, .aload_n 0, 1), (93, .getfield 21, 3), (96, .newarray .int, 2), (98, .putfield 17, 3), (101, .aload_n 2, 1), (102, .iconst 0, 1), (103, .putfield 11, 3), (106, .aload_n 2, 1), (107, .aload_n 0, 1), (108, .getfield 21, 3), (111, .putfield 21, 3), (114, .iload_n 1, 1), (115, .invokestatic 152, 3), (118, .istore 5, 2), (120, .aload_n 0, 1), (121, .getfield 17, 3), (124, .aload_n 0, 1), (125, .getfield 11, 3), (128, .iaload, 1), (129, .istore 6, 2), (131, .iload 6, 2), (133, .i2l, 1), (134, .ldc2_w 52, 3), (137, .land, 1), (138, .lstore 7, 2), (140, .lload 7, 2), (142, .lload_n 3, 1), (143, .lcmp, 1), (144, .ifCond .ge 13, 3), (147, .aload_n 2, 1), (148, .getfield 17, 3), (151, .iconst 0, 1), (152, .iconst 0, 1), (153, .iastore, 1), (154, .goto 38, 3), (192, .aload_n 0, 1), (193, .getfield 21, 3), (196, .istore 9, 2), (198, .iinc 9 (-1), 3), (201, .iload 9, 2), (203, .ifCond .le 112, 3), (206, .lload 7, 2), (208, .bipush 32, 2), (210, .lshl, 1), (211, .aload_n 0, 1), (212, .getfield 17, 3), (215, .aload_n 0, 1), (216, .getfield 11, 3), (219, .aload_n 0, 1), (220, .getfield 21, 3), (223, .iadd, 1), (224, .iload 9, 2), (226, .isub, 1), (227, .iaload, 1), (228, .i2l, 1), (229, .ldc2_w 52, 3), (232, .land, 1), (233, .lor, 1), (234, .lstore 10, 2), (236, .lload 10, 2), (238, .lconst 0, 1), (239, .lcmp, 1), (240, .ifCond .lt 24, 3), (243, .lload 10, 2), (245, .lload_n 3, 1), (246, .ldiv, 1), (247, .l2i, 1), (248, .istore 12, 2), (250, .lload 10, 2), (252, .iload 12, 2), (254, .i2l, 1), (255, .lload_n 3, 1), (256, .lmul, 1), (257, .lsub, 1), (258, .l2i, 1), (259, .istore 6, 2), (261, .goto 28, 3), (289, .aload_n 2, 1), (290, .getfield 17, 3), (293, .aload_n 0, 1), (294, .getfield 21, 3), (297, .iload 9, 2), (299, .isub, 1), (300, .iload 12, 2), (302, .iastore, 1), (303, .iload 6, 2), (305, .i2l, 1), (306, .ldc2_w 52, 3), (309, .land, 1), (310, .lstore 7, 2), (312, .goto (-114), 3), (315, .aload_n 2, 1), (316, .invokevirtual 64, 3), (319, .iload 5, 2), (321, .ifCond .le 8, 3), (324, .iload 6, 2), (326, .iload_n 1, 1), (327, .irem, 1), (328, .ireturn, 1), (157, .aload_n 2, 1), (158, .getfield 17, 3), (161, .iconst 0, 1), (162, .lload 7, 2), (164, .lload_n 3, 1), (165, .ldiv, 1), (166, .l2i, 1), (167, .iastore, 1), (168, .lload 7, 2), (170, .aload_n 2, 1), (171, .getfield 17, 3), (174, .iconst 0, 1), (175, .iaload, 1), (176, .i2l, 1), (177, .lload_n 3, 1), (178, .lmul, 1), (179, .lsub, 1), (180, .l2i, 1), (181, .istore 6, 2), (183, .iload 6, 2), (185, .i2l, 1), (186, .ldc2_w 52, 3), (189, .land, 1), (190, .lstore 7, 2)]
theorem D32 : ∀ i : Fin 176, decode C32 (own_at L32 i.val).1 = .ok (own_at L32 i.val).2 := by decide +kernel
abbrev C33 := prog_1_method_1_code
def L33 : List (Nat × Instr × Nat) := [(0, .aload_n 0, 1), (1, .invokespecial 1, 3), (4, .aload_n 0, 1), (5, .aload_n 1, 1), (6, .putfield 7, 3), (9, .aload_n 0, 1), (10, .aload_n 2, 1), (11, .putfield 13, 3), (14, .return_, 1)]
theorem D33 : ∀ i : Fin 9, decode C33 (own_at L33 i.val).1 = .ok (own_at L33 i.val).2 := by decide +kernel
abbrev C34 := prog_1_method_4_code
def L34 : List (Nat × Instr × Nat) := [(0, .aload_n 0, 1), (1, .getfield 7, 3), (4, .areturn, 1)]
theorem D34 : ∀ i : Fin 3, decode C34 (own_at L34 i.val).1 = .ok (own_at L34 i.val).2 := by decide +kernel
abbrev C35 := jdk_2097_method_124_code
def L35 : List (Nat × Instr × Nat) := [(0, .aload_n 1, 1), (1, .aload_n 0, 1), (2, .if_acmp .ne 5, 3), (5, .iconst 1, 1), (6, .ireturn, 1), (7, .aload_n 1, 1), (8, .instanceof 23, 3), (11, .ifCond .eq 11, 3), (14, .aload_n 1, 1), (15, .checkcast 23, 3), (18, .astore_n 2, 1), (19, .goto 5, 3), (24, .aload_n 2, 1), (25, .getfield 32, 3), (28, .aload_n 0, 1), (29, .getfield 32, 3), (32, .if_icmp .eq 5, 3), (37, .aload_n 0, 1), (38, .getfield 28, 3), (41, .astore_n 3, 1), (42, .aload_n 3, 1), (43, .arraylength, 1), (44, .istore 4, 2), (46, .aload_n 2, 1), (47, .getfield 28, 3), (50, .astore 5, 2), (52, .iload 4, 2), (54, .aload 5, 2), (56, .arraylength, 1), (57, .if_icmp .eq 5, 3), (62, .iconst 0, 1), (63, .istore 6, 2), (65, .iload 6, 2), (67, .iload 4, 2), (69, .if_icmp .ge 23, 3), (92, .iconst 1, 1), (93, .ireturn, 1), (72, .aload 5, 2), (74, .iload 6, 2), (76, .iaload, 1), (77, .aload_n 3, 1), (78, .iload 6, 2), (80, .iaload, 1), (81, .if_icmp .eq 5, 3), (86, .iinc 6 1, 3), (89, .goto (-24), 3)]
theorem D35 : ∀ i : Fin 46, decode C35 (own_at L35 i.val).1 = .ok (own_at L35 i.val).2 := by decide +kernel
abbrev C36 := prog_1_method_5_code
def L36 : List (Nat × Instr × Nat) := [(0, .aload_n 0, 1), (1, .getfield 13, 3), (4, .areturn, 1)]
theorem D36 : ∀ i : Fin 3, decode C36 (own_at L36 i.val).1 = .ok (own_at L36 i.val).2 := by decide +kernel
abbrev C37 := jdk_2101_method_50_code
def L37 : List (Nat × Instr × Nat) := [(0, .aload_n 0, 1), (1, .astore_n 2, 1), (2, .aload_n 2, 1), (3, .aload_n 1, 1), (4, .invokevirtual 142, 3), (7, .istore_n 3, 1), (8, .iload_n 3, 1), (9, .ifCond .ne 5, 3), (14, .iload_n 3, 1), (15, .ifCond .ge 11, 3), (26, .lconst 0, 1), (27, .lstore 4, 2), (29, .aload_n 2, 1), (30, .getfield 21, 3), (33, .istore 6, 2), (35, .aload_n 1, 1), (36, .getfield 21, 3), (39, .istore 7, 2), (41, .iload 7, 2), (43, .ifCond .le 70, 3), (46, .iinc 6 (-1), 3), (49, .iinc 7 (-1), 3), (52, .aload_n 2, 1), (53, .getfield 17, 3), (56, .aload_n 2, 1), (57, .getfield 11, 3), (60, .iload 6, 2), (62, .iadd, 1), (63, .iaload, 1), (64, .i2l, 1), (65, .ldc2_w 52, 3), (68, .land, 1), (69, .aload_n 1, 1), (70, .getfield 17, 3), (73, .aload_n 1, 1), (74, .getfield 11, 3), (77, .iload 7, 2), (79, .iadd, 1), (80, .iaload, 1), (81, .i2l, 1), (82, .ldc2_w 52, 3), (85, .land, 1), (86, .lsub, 1), (87, .lload 4, 2), (89, .bipush 32, 2), (91, .lshr, 1), (92, .ladd, 1), (93, .lstore 4, 2), (95, .aload_n 2, 1), (96, .getfield 17, 3), (99, .aload_n 2, 1), (100, .getfield 11, 3), (103, .iload 6, 2), (105, .iadd, 1), (106, .lload 4, 2), (108, .l2i, 1), (109, .iastore, 1), (110, .goto (-69), 3), (113, .lload 4, 2), (115, .lconst 0, 1), (116, .lcmp, 1), (117, .ifCond .ge 54, 3), (171, .aload_n 2, 1), (172, .invokevirtual 64, 3), (175, .iload_n 3, 1), (176, .ireturn, 1), (120, .iload 6, 2), (122, .ifCond .le 49, 3), (125, .iinc 6 (-1), 3), (128, .aload_n 2, 1), (129, .getfield 17, 3), (132, .aload_n 2, 1), (133, .getfield 11, 3), (136, .iload 6, 2), (138, .iadd, 1), (139, .iaload, 1), (140, .i2l, 1), (141, .ldc2_w 52, 3), (144, .land, 1), (145, .lload 4, 2), (147, .bipush 32, 2), (149, .lshr, 1), (150, .ladd, 1), (151, .lstore 4, 2), (153, .aload_n 2, 1), (154, .getfield 17, 3), (157, .aload_n 2, 1), (158, .getfield 11, 3), (161, .iload 6, 2), (163, .iadd, 1), (164, .lload 4, 2), (166, .l2i, 1), (167, .iastore, 1), (168, .goto (-55), 3), (18, .aload_n 2, 1), (19, .astore 4, 2), (21, .aload_n 1, 1), (22, .astore_n 2, 1), (23, .aload 4, 2), (25, .astore_n 1, 1)]
theorem D37 : ∀ i : Fin 100, decode C37 (own_at L37 i.val).1 = .ok (own_at L37 i.val).2 := by decide +kernel
abbrev C38 := jdk_2101_method_21_code
def L38 : List (Nat × Instr × Nat) := [(0, .aload_n 0, 1), (1, .getfield 21, 3), (4, .ifCond .ne 9, 3), (13, .aload_n 0, 1), (14, .getfield 11, 3), (17, .istore_n 1, 1), (18, .aload_n 0, 1), (19, .getfield 17, 3), (22, .iload_n 1, 1), (23, .iaload, 1), (24, .ifCond .eq 4, 3), (27, .return_, 1), (28, .iload_n 1, 1), (29, .aload_n 0, 1), (30, .getfield 21, 3), (33, .iadd, 1), (34, .istore_n 2, 1), (35, .iinc 1 1, 3), (38, .iload_n 1, 1), (39, .iload_n 2, 1), (40, .if_icmp .ge 12, 3), (43, .aload_n 0, 1), (44, .getfield 17, 3), (47, .iload_n 1, 1), (48, .iaload, 1), (49, .ifCond .eq (-14), 3), (52, .iload_n 1, 1), (53, .aload_n 0, 1), (54, .getfield 11, 3), (57, .isub, 1), (58, .istore_n 3, 1), (59, .aload_n 0, 1), (60, .dup, 1), (61, .getfield 21, 3), (64, .iload_n 3, 1), (65, .isub, 1), (66, .putfield 21, 3), (69, .aload_n 0, 1), (70, .aload_n 0, 1), (71, .getfield 21, 3), (74, .ifCond .ne 7, 3), (81, .aload_n 0, 1), (82, .getfield 11, 3), (85, .iload_n 3, 1), (86, .iadd, 1), (87, .putfield 11, 3), (90, .return_, 1)]
theorem D38 : ∀ i : Fin 47, decode C38 (own_at L38 i.val).1 = .ok (own_at L38 i.val).2 := by decide +kernel
abbrev C39 := jdk_2097_method_80_code
def L39 : List (Nat × Instr × Nat) := [(0, .new 23, 3), (3, .dup, 1), (4, .aload_n 0, 1), (5, .getfield 28, 3), (8, .aload_n 0, 1), (9, .getfield 32, 3), (12, .ineg, 1), (13, .invokespecial 175, 3), (16, .areturn, 1)]
theorem D39 : ∀ i : Fin 9, decode C39 (own_at L39 i.val).1 = .ok (own_at L39 i.val).2 := by decide +kernel
abbrev C40 := jdk_65_method_136_code
def L40 : List (Nat × Instr × Nat) := [(0, .iload_n 1, 1), (1, .ifCond .ne 9, 3), (4, .iload_n 2, 1), (5, .aload_n 0, 1), (6, .arraylength, 1), (7, .if_icmp .eq 10, 3), (10, .aload_n 0, 1), (11, .iload_n 1, 1), (12, .iload_n 2, 1), (13, .invokestatic 351, 3), (16, .areturn, 1)]
theorem D40 : ∀ i : Fin 11, decode C40 (own_at L40 i.val).1 = .ok (own_at L40 i.val).2 := by decide +kernel
abbrev C41 := jdk_65_method_137_code
def L41 : List (Nat × Instr × Nat) := [(0, .iload_n 1, 1), (1, .iload_n 2, 1), (2, .invokestatic 343, 3), (5, .iload_n 2, 1), (6, .iload_n 1, 1), (7, .isub, 1), (8, .istore_n 3, 1), (9, .iload_n 3, 1), (10, .newarray .int, 2), (12, .astore 4, 2), (14, .aload_n 0, 1), (15, .iload_n 1, 1), (16, .aload 4, 2), (18, .iconst 0, 1), (19, .aload_n 0, 1), (20, .arraylength, 1), (21, .iload_n 1, 1), (22, .isub, 1), (23, .iload_n 3, 1), (24, .invokestatic 304, 3), (27, .invokestatic 150, 3), (30, .aload 4, 2), (32, .areturn, 1)]
theorem D41 : ∀ i : Fin 23, decode C41 (own_at L41 i.val).1 = .ok (own_at L41 i.val).2 := by decide +kernel
abbrev C42 := jdk_65_method_131_code
def L42 : List (Nat × Instr × Nat) := [(0, .iload_n 1, 1), (1, .iload_n 0, 1), (2, .if_icmp .ge 35, 3), (37, .return_, 1)]
theorem D42 : ∀ i : Fin 4, decode C42 (own_at L42 i.val).1 = .ok (own_at L42 i.val).2 := by decide +kernel
abbrev C43 := jdk_29_method_69_code
def L43 : List (Nat × Instr × Nat) := [(0, .iload_n 0, 1), (1, .iload_n 1, 1), (2, .if_icmp .gt 7, 3), (9, .iload_n 1, 1), (10, .ireturn, 1), (5, .iload_n 0, 1), (6, .goto 4, 3)]
theorem D43 : ∀ i : Fin 7, decode C43 (own_at L43 i.val).1 = .ok (own_at L43 i.val).2 := by decide +kernel
abbrev C44 := jdk_65_method_103_code
def L44 : List (Nat × Instr × Nat) := [(0, .iconst 0, 1), (1, .istore_n 2, 1), (2, .aload_n 0, 1), (3, .arraylength, 1), (4, .istore_n 3, 1), (5, .iload_n 2, 1), (6, .iload_n 3, 1), (7, .if_icmp .ge 13, 3), (10, .aload_n 0, 1), (11, .iload_n 2, 1), (12, .iload_n 1, 1), (13, .iastore, 1), (14, .iinc 2 1, 3), (17, .goto (-12), 3), (20, .return_, 1)]
theorem D44 : ∀ i : Fin 15, decode C44 (own_at L44 i.val).1 = .ok (own_at L44 i.val).2 := by decide +kernel
abbrev C45 := jdk_2097_method_79_code
def L45 : List (Nat × Instr × Nat) := [(0, .aload_n 0, 1), (1, .getfield 32, 3), (4, .ifCond .lt 7, 3), (7, .aload_n 0, 1), (8, .goto 7, 3), (15, .areturn, 1), (11, .aload_n 0, 1), (12, .invokevirtual 394, 3)]
theorem D45 : ∀ i : Fin 8, decode C45 (own_at L45 i.val).1 = .ok (own_at L45 i.val).2 := by decide +kernel
def Q_rmNtz (Z : State) (p1 : Int32) (h0 : Heap) (n0 : Nat) (v : Option Value) (h : Heap) (L : List Loc) : Prop := v = some (.int (own_ntz p1)) ∧ Fr n0 L ∧ h = h0
abbrev Y15 : MethodName := ⟨"java/lang/Integer", "numberOfTrailingZeros", "(I)I"⟩
theorem ef15_I (m : MethodId) (x0 : Int32) : entryFrame m #[(.int x0)] 2 = mkF m 0 #[iv x0, .unset] [] := by first | (simp [entryFrame, mkF, argsToLocals, Value.category]; done) | rfl
theorem pn_java_lang_Integer : plainName "java/lang/Integer" = true := by first | (simp [plainName, overriddenIn]; done) | decide +kernel
theorem ntzS (l : Launch) (Z : State) (a0 : Array Value) (hw : own_W Z a0) (ws : List Jvm.Cond) (p1 : Int32) (h0 : Heap) (n0 : Nat) (Z0 : n0 ≤ h0.size) (gs : ¬ ((0 : Int32) < ((p1 ^^^ (-1 : Int32)) &&& (p1 - (1 : Int32))))) : own_Met l Y15 jdk_33_method_48_code 2 (some .int) ⟨0, 0, 0, 0⟩ ws #[(.int p1)] Z h0 (Q_rmNtz Z p1 h0 n0) := by
 refine own_go (plainFor_of_name pn_java_lang_Integer) (fun m => ef15_I m p1) fun p e s m below meth c s₁ hx hby hml hown hnm hret hZ e0 X0 => ?_
 have N0 := Fr.nil n0
 refine ⟨_, _, _, _, some (.int (own_ntz p1)), X0, (by exact own_b rfl), (by exact own_b rfl), nofun, (by show Q_rmNtz Z p1 h0 n0 _ s₁.heap _; rw [e0]; exact ⟨rfl, N0, rfl⟩), fun fs hr => ?_⟩
 refine kiN X0 hx hby (D15 0) rfl ?_
 refine kc X0 hx hby (D15 1) ?_
 refine kixor X0 hx hby (D15 2) ?_
 refine kiN X0 hx hby (D15 3) rfl ?_
 refine kc X0 hx hby (D15 4) ?_
 refine kis X0 hx hby (D15 5) ?_
 refine kiand X0 hx hby (D15 6) ?_
 refine ksN X0 hx hby (D15 7) (l' := #[iv ((p1 ^^^ (-1 : Int32)) &&& (p1 - (1 : Int32))), .unset]) rfl ?_
 refine kiN X0 hx hby (D15 8) rfl ?_
 refine kfN X0 hx hby (D15 9) ((if0 _ _).trans (flt (gs : ¬ ((0 : Int32) < ((p1 ^^^ (-1 : Int32)) &&& (p1 - (1 : Int32)))))).2.2.1) ?_
 refine kiN X0 hx hby (D15 10) rfl ?_
 refine kb X0 hx hby (D15 11) ?_
 refine kiand X0 hx hby (D15 12) ?_
 refine own_rI (show (((p1 ^^^ (-1 : Int32)) &&& (p1 - (1 : Int32))) &&& (32 : Int32)) = own_ntz p1 from (if_neg gs).symm) ?_
 exact retI X0 hx hret (hb hby (D15 13)) hr
theorem ntzB (l : Launch) (Z : State) (a0 : Array Value) (hw : own_W Z a0) (ws : List Jvm.Cond) (p1 : Int32) (i0 : Int32) (i1 : Int32) (n1 : Int32) (i2 : Int32) (n2 : Int32) (i3 : Int32) (n3 : Int32) (i4 : Int32) (n4 : Int32) (h0 : Heap) (n0 : Nat) (Z0 : n0 ≤ h0.size) (hi0 : ((p1 ^^^ (-1 : Int32)) &&& (p1 - (1 : Int32))) = i0) (gs : (0 : Int32) < i0) (hi1 : i1 = if (65536 : Int32) < i0 then ((i0.toUInt32 >>> ((16 : Int32) &&& 31).toUInt32).toInt32) else i0) (hn1 : n1 = if (65536 : Int32) < i0 then (17 : Int32) else (1 : Int32)) (hi2 : i2 = if (256 : Int32) < i1 then ((i1.toUInt32 >>> ((8 : Int32) &&& 31).toUInt32).toInt32) else i1) (hn2 : n2 = if (256 : Int32) < i1 then (n1 + (8 : Int32)) else n1) (hi3 : i3 = if (16 : Int32) < i2 then ((i2.toUInt32 >>> ((4 : Int32) &&& 31).toUInt32).toInt32) else i2) (hn3 : n3 = if (16 : Int32) < i2 then (n2 + (4 : Int32)) else n2) (hi4 : i4 = if (4 : Int32) < i3 then ((i3.toUInt32 >>> ((2 : Int32) &&& 31).toUInt32).toInt32) else i3) (hn4 : n4 = if (4 : Int32) < i3 then (n3 + (2 : Int32)) else n3) : own_Met l Y15 jdk_33_method_48_code 2 (some .int) ⟨0, 0, 0, 0⟩ ws #[(.int p1)] Z h0 (Q_rmNtz Z p1 h0 n0) := by
 refine own_go (plainFor_of_name pn_java_lang_Integer) (fun m => ef15_I m p1) fun p e s m below meth c s₁ hx hby hml hown hnm hret hZ e0 X0 => ?_
 have N0 := Fr.nil n0
 have er_ : (n4 + ((i4.toUInt32 >>> ((1 : Int32) &&& 31).toUInt32).toInt32)) = own_ntz p1 := by
   unfold own_ntz; rw [hi0, if_pos gs]; subst hn4; subst hi4; subst hn3; subst hi3; subst hn2; subst hi2; subst hn1; subst hi1; rfl
 refine ⟨_, _, _, _, some (.int (own_ntz p1)), X0, (by exact own_b rfl), (by exact own_b rfl), nofun, (by show Q_rmNtz Z p1 h0 n0 _ s₁.heap _; rw [e0]; exact ⟨rfl, N0, rfl⟩), fun fs hr => ?_⟩
 refine kiN X0 hx hby (D15 0) rfl ?_
 refine kc X0 hx hby (D15 1) ?_
 refine kixor X0 hx hby (D15 2) ?_
 refine kiN X0 hx hby (D15 3) rfl ?_
 refine kc X0 hx hby (D15 4) ?_
 refine kis X0 hx hby (D15 5) ?_
 refine kiand X0 hx hby (D15 6) ?_
 refine own_rI (hi0) ?_
 refine ksN X0 hx hby (D15 7) (l' := #[iv i0, .unset]) rfl ?_
 refine kiN X0 hx hby (D15 8) rfl ?_
 refine kfY X0 hx (pc0 := 9) (pc' := 17) rfl hby (D15 9) ((if0 _ _).trans (tlt (gs : (0 : Int32) < i0)).2.2.1) (by decide) (by decide) ?_
 refine kc X0 hx hby (D15 14) ?_
 refine ksN X0 hx hby (D15 15) (l' := #[iv i0, iv 1]) rfl ?_
 refine kiN X0 hx hby (D15 16) rfl ?_
 refine own_lw X0 hx hZ hown (wt hw 94 rfl) hby (D15 17) ?_
 have br1_ : ∀ t, Steps p.tables e below (s₁.setTop (mkF m 34 #[iv i1, iv n1] [])) t → Steps p.tables e below (s₁.setTop (mkF m 23 #[iv i0, iv 1] [(.int 65536), (.int i0)])) t := by
   intro t k
   by_cases hcd : (65536 : Int32) < i0
   · show Steps p.tables e below (s₁.setTop (mkF m 23 #[iv i0, iv 1] [(.int 65536), (.int i0)])) _
     refine kcN X0 hx hby (D15 18) (tlt (hcd : (65536 : Int32) < i0)).2.2.2 ?_
     show Steps p.tables e below (s₁.setTop (mkF m 26 #[iv i0, iv 1] [])) _
     refine kn X0 hx hby (D15 19) rfl (l' := #[iv i0, iv 17]) rfl ?_
     show Steps p.tables e below (s₁.setTop (mkF m 29 #[iv i0, iv 17] [])) _
     refine kiN X0 hx hby (D15 20) rfl ?_
     show Steps p.tables e below (s₁.setTop (mkF m 30 #[iv i0, iv 17] [(.int i0)])) _
     refine kb X0 hx hby (D15 21) ?_
     show Steps p.tables e below (s₁.setTop (mkF m 32 #[iv i0, iv 17] [(.int 16), (.int i0)])) _
     refine kiushr X0 hx hby (D15 22) ?_
     show Steps p.tables e below (s₁.setTop (mkF m 33 #[iv i0, iv 17] [(.int ((i0.toUInt32 >>> ((16 : Int32) &&& 31).toUInt32).toInt32))])) _
     refine ksN X0 hx hby (D15 23) (l' := #[iv ((i0.toUInt32 >>> ((16 : Int32) &&& 31).toUInt32).toInt32), iv 17]) rfl ?_
     show Steps p.tables e below (s₁.setTop (mkF m 34 #[iv ((i0.toUInt32 >>> ((16 : Int32) &&& 31).toUInt32).toInt32), iv 17] [])) _
     rw [hi1, if_pos hcd, hn1, if_pos hcd] at k
     exact k
   · show Steps p.tables e below (s₁.setTop (mkF m 23 #[iv i0, iv 1] [(.int 65536), (.int i0)])) _
     refine kcY X0 hx (pc0 := 23) (pc' := 34) rfl hby (D15 18) (flt (hcd : ¬ ((65536 : Int32) < i0))).2.2.2 (by decide) (by decide) ?_
     show Steps p.tables e below (s₁.setTop (mkF m 34 #[iv i0, iv 1] [])) _
     rw [hi1, if_neg hcd, hn1, if_neg hcd] at k
     exact k
 refine br1_ _ ?_
 refine kiN X0 hx hby (D15 24) rfl ?_
 refine ksipush X0 hx hby (D15 25) ?_
 have br2_ : ∀ t, Steps p.tables e below (s₁.setTop (mkF m 49 #[iv i2, iv n2] [])) t → Steps p.tables e below (s₁.setTop (mkF m 38 #[iv i1, iv n1] [(.int 256), (.int i1)])) t := by
   intro t k
   by_cases hcd : (256 : Int32) < i1
   · show Steps p.tables e below (s₁.setTop (mkF m 38 #[iv i1, iv n1] [(.int 256), (.int i1)])) _
     refine kcN X0 hx hby (D15 26) (tlt (hcd : (256 : Int32) < i1)).2.2.2 ?_
     show Steps p.tables e below (s₁.setTop (mkF m 41 #[iv i1, iv n1] [])) _
     refine kn X0 hx hby (D15 27) rfl (l' := #[iv i1, iv (n1 + (8 : Int32))]) rfl ?_
     show Steps p.tables e below (s₁.setTop (mkF m 44 #[iv i1, iv (n1 + (8 : Int32))] [])) _
     refine kiN X0 hx hby (D15 28) rfl ?_
     show Steps p.tables e below (s₁.setTop (mkF m 45 #[iv i1, iv (n1 + (8 : Int32))] [(.int i1)])) _
     refine kb X0 hx hby (D15 29) ?_
     show Steps p.tables e below (s₁.setTop (mkF m 47 #[iv i1, iv (n1 + (8 : Int32))] [(.int 8), (.int i1)])) _
     refine kiushr X0 hx hby (D15 30) ?_
     show Steps p.tables e below (s₁.setTop (mkF m 48 #[iv i1, iv (n1 + (8 : Int32))] [(.int ((i1.toUInt32 >>> ((8 : Int32) &&& 31).toUInt32).toInt32))])) _
     refine ksN X0 hx hby (D15 31) (l' := #[iv ((i1.toUInt32 >>> ((8 : Int32) &&& 31).toUInt32).toInt32), iv (n1 + (8 : Int32))]) rfl ?_
     show Steps p.tables e below (s₁.setTop (mkF m 49 #[iv ((i1.toUInt32 >>> ((8 : Int32) &&& 31).toUInt32).toInt32), iv (n1 + (8 : Int32))] [])) _
     rw [hi2, if_pos hcd, hn2, if_pos hcd] at k
     exact k
   · show Steps p.tables e below (s₁.setTop (mkF m 38 #[iv i1, iv n1] [(.int 256), (.int i1)])) _
     refine kcY X0 hx (pc0 := 38) (pc' := 49) rfl hby (D15 26) (flt (hcd : ¬ ((256 : Int32) < i1))).2.2.2 (by decide) (by decide) ?_
     show Steps p.tables e below (s₁.setTop (mkF m 49 #[iv i1, iv n1] [])) _
     rw [hi2, if_neg hcd, hn2, if_neg hcd] at k
     exact k
 refine br2_ _ ?_
 refine kiN X0 hx hby (D15 32) rfl ?_
 refine kb X0 hx hby (D15 33) ?_
 have br3_ : ∀ t, Steps p.tables e below (s₁.setTop (mkF m 62 #[iv i3, iv n3] [])) t → Steps p.tables e below (s₁.setTop (mkF m 52 #[iv i2, iv n2] [(.int 16), (.int i2)])) t := by
   intro t k
   by_cases hcd : (16 : Int32) < i2
   · show Steps p.tables e below (s₁.setTop (mkF m 52 #[iv i2, iv n2] [(.int 16), (.int i2)])) _
     refine kcN X0 hx hby (D15 34) (tlt (hcd : (16 : Int32) < i2)).2.2.2 ?_
     show Steps p.tables e below (s₁.setTop (mkF m 55 #[iv i2, iv n2] [])) _
     refine kn X0 hx hby (D15 35) rfl (l' := #[iv i2, iv (n2 + (4 : Int32))]) rfl ?_
     show Steps p.tables e below (s₁.setTop (mkF m 58 #[iv i2, iv (n2 + (4 : Int32))] [])) _
     refine kiN X0 hx hby (D15 36) rfl ?_
     show Steps p.tables e below (s₁.setTop (mkF m 59 #[iv i2, iv (n2 + (4 : Int32))] [(.int i2)])) _
     refine kc X0 hx hby (D15 37) ?_
     show Steps p.tables e below (s₁.setTop (mkF m 60 #[iv i2, iv (n2 + (4 : Int32))] [(.int 4), (.int i2)])) _
     refine kiushr X0 hx hby (D15 38) ?_
     show Steps p.tables e below (s₁.setTop (mkF m 61 #[iv i2, iv (n2 + (4 : Int32))] [(.int ((i2.toUInt32 >>> ((4 : Int32) &&& 31).toUInt32).toInt32))])) _
     refine ksN X0 hx hby (D15 39) (l' := #[iv ((i2.toUInt32 >>> ((4 : Int32) &&& 31).toUInt32).toInt32), iv (n2 + (4 : Int32))]) rfl ?_
     show Steps p.tables e below (s₁.setTop (mkF m 62 #[iv ((i2.toUInt32 >>> ((4 : Int32) &&& 31).toUInt32).toInt32), iv (n2 + (4 : Int32))] [])) _
     rw [hi3, if_pos hcd, hn3, if_pos hcd] at k
     exact k
   · show Steps p.tables e below (s₁.setTop (mkF m 52 #[iv i2, iv n2] [(.int 16), (.int i2)])) _
     refine kcY X0 hx (pc0 := 52) (pc' := 62) rfl hby (D15 34) (flt (hcd : ¬ ((16 : Int32) < i2))).2.2.2 (by decide) (by decide) ?_
     show Steps p.tables e below (s₁.setTop (mkF m 62 #[iv i2, iv n2] [])) _
     rw [hi3, if_neg hcd, hn3, if_neg hcd] at k
     exact k
 refine br3_ _ ?_
 refine kiN X0 hx hby (D15 40) rfl ?_
 refine kc X0 hx hby (D15 41) ?_
 have br4_ : ∀ t, Steps p.tables e below (s₁.setTop (mkF m 74 #[iv i4, iv n4] [])) t → Steps p.tables e below (s₁.setTop (mkF m 64 #[iv i3, iv n3] [(.int 4), (.int i3)])) t := by
   intro t k
   by_cases hcd : (4 : Int32) < i3
   · show Steps p.tables e below (s₁.setTop (mkF m 64 #[iv i3, iv n3] [(.int 4), (.int i3)])) _
     refine kcN X0 hx hby (D15 42) (tlt (hcd : (4 : Int32) < i3)).2.2.2 ?_
     show Steps p.tables e below (s₁.setTop (mkF m 67 #[iv i3, iv n3] [])) _
     refine kn X0 hx hby (D15 43) rfl (l' := #[iv i3, iv (n3 + (2 : Int32))]) rfl ?_
     show Steps p.tables e below (s₁.setTop (mkF m 70 #[iv i3, iv (n3 + (2 : Int32))] [])) _
     refine kiN X0 hx hby (D15 44) rfl ?_
     show Steps p.tables e below (s₁.setTop (mkF m 71 #[iv i3, iv (n3 + (2 : Int32))] [(.int i3)])) _
     refine kc X0 hx hby (D15 45) ?_
     show Steps p.tables e below (s₁.setTop (mkF m 72 #[iv i3, iv (n3 + (2 : Int32))] [(.int 2), (.int i3)])) _
     refine kiushr X0 hx hby (D15 46) ?_
     show Steps p.tables e below (s₁.setTop (mkF m 73 #[iv i3, iv (n3 + (2 : Int32))] [(.int ((i3.toUInt32 >>> ((2 : Int32) &&& 31).toUInt32).toInt32))])) _
     refine ksN X0 hx hby (D15 47) (l' := #[iv ((i3.toUInt32 >>> ((2 : Int32) &&& 31).toUInt32).toInt32), iv (n3 + (2 : Int32))]) rfl ?_
     show Steps p.tables e below (s₁.setTop (mkF m 74 #[iv ((i3.toUInt32 >>> ((2 : Int32) &&& 31).toUInt32).toInt32), iv (n3 + (2 : Int32))] [])) _
     rw [hi4, if_pos hcd, hn4, if_pos hcd] at k
     exact k
   · show Steps p.tables e below (s₁.setTop (mkF m 64 #[iv i3, iv n3] [(.int 4), (.int i3)])) _
     refine kcY X0 hx (pc0 := 64) (pc' := 74) rfl hby (D15 42) (flt (hcd : ¬ ((4 : Int32) < i3))).2.2.2 (by decide) (by decide) ?_
     show Steps p.tables e below (s₁.setTop (mkF m 74 #[iv i3, iv n3] [])) _
     rw [hi4, if_neg hcd, hn4, if_neg hcd] at k
     exact k
 refine br4_ _ ?_
 refine kiN X0 hx hby (D15 48) rfl ?_
 refine kiN X0 hx hby (D15 49) rfl ?_
 refine kc X0 hx hby (D15 50) ?_
 refine kiushr X0 hx hby (D15 51) ?_
 refine kia X0 hx hby (D15 52) ?_
 refine own_rI (er_) ?_
 exact retI X0 hx hret (hb hby (D15 53)) hr
theorem rmNtz (l : Launch) (Z : State) (a0 : Array Value) (hw : own_W Z a0) (ws : List Jvm.Cond) (p1 : Int32) (h0 : Heap) (n0 : Nat) (Z0 : n0 ≤ h0.size)  :
    own_Met l Y15 jdk_33_method_48_code 2 (some .int) ⟨0, 0, 0, 0⟩ ws #[(.int p1)] Z h0 (Q_rmNtz Z p1 h0 n0) := by
  by_cases c : (0 : Int32) < ((p1 ^^^ (-1 : Int32)) &&& (p1 - (1 : Int32)))
  · exact ntzB l Z a0 hw ws _ _ _ _ _ _ _ _ _ _ h0 n0 Z0 rfl c rfl rfl rfl rfl rfl rfl rfl rfl
  · exact ntzS l Z a0 hw ws _ h0 n0 Z0 c
def Q_rmNlz (Z : State) (p1 : Int32) (h0 : Heap) (n0 : Nat) (v : Option Value) (h : Heap) (L : List Loc) : Prop := v = some (.int (own_nlz p1)) ∧ Fr n0 L ∧ h = h0
abbrev Y18 : MethodName := ⟨"java/lang/Integer", "numberOfLeadingZeros", "(I)I"⟩
theorem ef18_I (m : MethodId) (x0 : Int32) : entryFrame m #[(.int x0)] 2 = mkF m 0 #[iv x0, .unset] [] := by first | (simp [entryFrame, mkF, argsToLocals, Value.category]; done) | rfl
theorem nlzZ (l : Launch) (Z : State) (a0 : Array Value) (hw : own_W Z a0) (ws : List Jvm.Cond) (p1 : Int32) (h0 : Heap) (n0 : Nat) (Z0 : n0 ≤ h0.size) (gp : ¬ ((0 : Int32) < p1)) (gz : p1 = (0 : Int32)) : own_Met l Y18 jdk_33_method_47_code 2 (some .int) ⟨0, 0, 0, 0⟩ ws #[(.int p1)] Z h0 (Q_rmNlz Z p1 h0 n0) := by
 refine own_go (plainFor_of_name pn_java_lang_Integer) (fun m => ef18_I m p1) fun p e s m below meth c s₁ hx hby hml hown hnm hret hZ e0 X0 => ?_
 have N0 := Fr.nil n0
 refine ⟨_, _, _, _, some (.int (own_nlz p1)), X0, (by exact own_b rfl), (by exact own_b rfl), nofun, (by show Q_rmNlz Z p1 h0 n0 _ s₁.heap _; rw [e0]; exact ⟨rfl, N0, rfl⟩), fun fs hr => ?_⟩
 refine kiN X0 hx hby (D18 0) rfl ?_
 refine kfN X0 hx hby (D18 1) ((if0 _ _).trans (flt (gp : ¬ ((0 : Int32) < p1))).2.2.1) ?_
 refine kiN X0 hx hby (D18 2) rfl ?_
 refine kfN X0 hx hby (D18 3) ((if0 _ _).trans (teq (gz : p1 = (0 : Int32))).2) ?_
 refine kb X0 hx hby (D18 4) ?_
 refine kg X0 hx (pc0 := 10) (pc' := 14) rfl hby (D18 5) (by decide) (by decide) ?_
 refine own_rI (show (32 : Int32) = own_nlz p1 from by unfold own_nlz; rw [if_neg gp, if_pos gz]) ?_
 exact retI X0 hx hret (hb hby (D18 6)) hr
theorem nlzN (l : Launch) (Z : State) (a0 : Array Value) (hw : own_W Z a0) (ws : List Jvm.Cond) (p1 : Int32) (h0 : Heap) (n0 : Nat) (Z0 : n0 ≤ h0.size) (gp : ¬ ((0 : Int32) < p1)) (gz : ¬ (p1 = (0 : Int32))) : own_Met l Y18 jdk_33_method_47_code 2 (some .int) ⟨0, 0, 0, 0⟩ ws #[(.int p1)] Z h0 (Q_rmNlz Z p1 h0 n0) := by
 refine own_go (plainFor_of_name pn_java_lang_Integer) (fun m => ef18_I m p1) fun p e s m below meth c s₁ hx hby hml hown hnm hret hZ e0 X0 => ?_
 have N0 := Fr.nil n0
 refine ⟨_, _, _, _, some (.int (own_nlz p1)), X0, (by exact own_b rfl), (by exact own_b rfl), nofun, (by show Q_rmNlz Z p1 h0 n0 _ s₁.heap _; rw [e0]; exact ⟨rfl, N0, rfl⟩), fun fs hr => ?_⟩
 refine kiN X0 hx hby (D18 0) rfl ?_
 refine kfN X0 hx hby (D18 1) ((if0 _ _).trans (flt (gp : ¬ ((0 : Int32) < p1))).2.2.1) ?_
 refine kiN X0 hx hby (D18 2) rfl ?_
 refine kfY X0 hx (pc0 := 5) (pc' := 13) rfl hby (D18 3) ((if0 _ _).trans (feq (gz : ¬ (p1 = (0 : Int32)))).2) (by decide) (by decide) ?_
 refine kc X0 hx hby (D18 7) ?_
 refine own_rI (show (0 : Int32) = own_nlz p1 from by unfold own_nlz; rw [if_neg gp, if_neg gz]) ?_
 exact retI X0 hx hret (hb hby (D18 6)) hr
theorem nlzP (l : Launch) (Z : State) (a0 : Array Value) (hw : own_W Z a0) (ws : List Jvm.Cond) (p1 : Int32) (i1 : Int32) (n1 : Int32) (i2 : Int32) (n2 : Int32) (i3 : Int32) (n3 : Int32) (i4 : Int32) (n4 : Int32) (h0 : Heap) (n0 : Nat) (Z0 : n0 ≤ h0.size) (gp : (0 : Int32) < p1) (hi1 : i1 = if p1 < (65536 : Int32) then p1 else ((p1.toUInt32 >>> ((16 : Int32) &&& 31).toUInt32).toInt32)) (hn1 : n1 = if p1 < (65536 : Int32) then (31 : Int32) else (15 : Int32)) (hi2 : i2 = if i1 < (256 : Int32) then i1 else ((i1.toUInt32 >>> ((8 : Int32) &&& 31).toUInt32).toInt32)) (hn2 : n2 = if i1 < (256 : Int32) then n1 else (n1 + (-8 : Int32))) (hi3 : i3 = if i2 < (16 : Int32) then i2 else ((i2.toUInt32 >>> ((4 : Int32) &&& 31).toUInt32).toInt32)) (hn3 : n3 = if i2 < (16 : Int32) then n2 else (n2 + (-4 : Int32))) (hi4 : i4 = if i3 < (4 : Int32) then i3 else ((i3.toUInt32 >>> ((2 : Int32) &&& 31).toUInt32).toInt32)) (hn4 : n4 = if i3 < (4 : Int32) then n3 else (n3 + (-2 : Int32))) : own_Met l Y18 jdk_33_method_47_code 2 (some .int) ⟨0, 0, 0, 0⟩ ws #[(.int p1)] Z h0 (Q_rmNlz Z p1 h0 n0) := by
 refine own_go (plainFor_of_name pn_java_lang_Integer) (fun m => ef18_I m p1) fun p e s m below meth c s₁ hx hby hml hown hnm hret hZ e0 X0 => ?_
 have N0 := Fr.nil n0
 have er_ : (n4 - ((i4.toUInt32 >>> ((1 : Int32) &&& 31).toUInt32).toInt32)) = own_nlz p1 := by
   unfold own_nlz; rw [if_pos gp]; subst hn4; subst hi4; subst hn3; subst hi3; subst hn2; subst hi2; subst hn1; subst hi1; rfl
 refine ⟨_, _, _, _, some (.int (own_nlz p1)), X0, (by exact own_b rfl), (by exact own_b rfl), nofun, (by show Q_rmNlz Z p1 h0 n0 _ s₁.heap _; rw [e0]; exact ⟨rfl, N0, rfl⟩), fun fs hr => ?_⟩
 refine kiN X0 hx hby (D18 0) rfl ?_
 refine kfY X0 hx (pc0 := 1) (pc' := 15) rfl hby (D18 1) ((if0 _ _).trans (tlt (gp : (0 : Int32) < p1)).2.2.1) (by decide) (by decide) ?_
 refine kb X0 hx hby (D18 8) ?_
 refine ksN X0 hx hby (D18 9) (l' := #[iv p1, iv 31]) rfl ?_
 refine kiN X0 hx hby (D18 10) rfl ?_
 refine own_lw X0 hx hZ hown (wt hw 94 rfl) hby (D18 11) ?_
 have br1_ : ∀ t, Steps p.tables e below (s₁.setTop (mkF m 33 #[iv i1, iv n1] [])) t → Steps p.tables e below (s₁.setTop (mkF m 22 #[iv p1, iv 31] [(.int 65536), (.int p1)])) t := by
   intro t k
   by_cases hcd : p1 < (65536 : Int32)
   · show Steps p.tables e below (s₁.setTop (mkF m 22 #[iv p1, iv 31] [(.int 65536), (.int p1)])) _
     refine kcY X0 hx (pc0 := 22) (pc' := 33) rfl hby (D18 12) (tlt (hcd : p1 < (65536 : Int32))).1 (by decide) (by decide) ?_
     show Steps p.tables e below (s₁.setTop (mkF m 33 #[iv p1, iv 31] [])) _
     rw [hi1, if_pos hcd, hn1, if_pos hcd] at k
     exact k
   · show Steps p.tables e below (s₁.setTop (mkF m 22 #[iv p1, iv 31] [(.int 65536), (.int p1)])) _
     refine kcN X0 hx hby (D18 12) (flt (hcd : ¬ (p1 < (65536 : Int32)))).1 ?_
     show Steps p.tables e below (s₁.setTop (mkF m 25 #[iv p1, iv 31] [])) _
     refine kn X0 hx hby (D18 13) rfl (l' := #[iv p1, iv 15]) rfl ?_
     show Steps p.tables e below (s₁.setTop (mkF m 28 #[iv p1, iv 15] [])) _
     refine kiN X0 hx hby (D18 14) rfl ?_
     show Steps p.tables e below (s₁.setTop (mkF m 29 #[iv p1, iv 15] [(.int p1)])) _
     refine kb X0 hx hby (D18 15) ?_
     show Steps p.tables e below (s₁.setTop (mkF m 31 #[iv p1, iv 15] [(.int 16), (.int p1)])) _
     refine kiushr X0 hx hby (D18 16) ?_
     show Steps p.tables e below (s₁.setTop (mkF m 32 #[iv p1, iv 15] [(.int ((p1.toUInt32 >>> ((16 : Int32) &&& 31).toUInt32).toInt32))])) _
     refine ksN X0 hx hby (D18 17) (l' := #[iv ((p1.toUInt32 >>> ((16 : Int32) &&& 31).toUInt32).toInt32), iv 15]) rfl ?_
     show Steps p.tables e below (s₁.setTop (mkF m 33 #[iv ((p1.toUInt32 >>> ((16 : Int32) &&& 31).toUInt32).toInt32), iv 15] [])) _
     rw [hi1, if_neg hcd, hn1, if_neg hcd] at k
     exact k
 refine br1_ _ ?_
 refine kiN X0 hx hby (D18 18) rfl ?_
 refine ksipush X0 hx hby (D18 19) ?_
 have br2_ : ∀ t, Steps p.tables e below (s₁.setTop (mkF m 48 #[iv i2, iv n2] [])) t → Steps p.tables e below (s₁.setTop (mkF m 37 #[iv i1, iv n1] [(.int 256), (.int i1)])) t := by
   intro t k
   by_cases hcd : i1 < (256 : Int32)
   · show Steps p.tables e below (s₁.setTop (mkF m 37 #[iv i1, iv n1] [(.int 256), (.int i1)])) _
     refine kcY X0 hx (pc0 := 37) (pc' := 48) rfl hby (D18 20) (tlt (hcd : i1 < (256 : Int32))).1 (by decide) (by decide) ?_
     show Steps p.tables e below (s₁.setTop (mkF m 48 #[iv i1, iv n1] [])) _
     rw [hi2, if_pos hcd, hn2, if_pos hcd] at k
     exact k
   · show Steps p.tables e below (s₁.setTop (mkF m 37 #[iv i1, iv n1] [(.int 256), (.int i1)])) _
     refine kcN X0 hx hby (D18 20) (flt (hcd : ¬ (i1 < (256 : Int32)))).1 ?_
     show Steps p.tables e below (s₁.setTop (mkF m 40 #[iv i1, iv n1] [])) _
     refine kn X0 hx hby (D18 21) rfl (l' := #[iv i1, iv (n1 + (-8 : Int32))]) rfl ?_
     show Steps p.tables e below (s₁.setTop (mkF m 43 #[iv i1, iv (n1 + (-8 : Int32))] [])) _
     refine kiN X0 hx hby (D18 22) rfl ?_
     show Steps p.tables e below (s₁.setTop (mkF m 44 #[iv i1, iv (n1 + (-8 : Int32))] [(.int i1)])) _
     refine kb X0 hx hby (D18 23) ?_
     show Steps p.tables e below (s₁.setTop (mkF m 46 #[iv i1, iv (n1 + (-8 : Int32))] [(.int 8), (.int i1)])) _
     refine kiushr X0 hx hby (D18 24) ?_
     show Steps p.tables e below (s₁.setTop (mkF m 47 #[iv i1, iv (n1 + (-8 : Int32))] [(.int ((i1.toUInt32 >>> ((8 : Int32) &&& 31).toUInt32).toInt32))])) _
     refine ksN X0 hx hby (D18 25) (l' := #[iv ((i1.toUInt32 >>> ((8 : Int32) &&& 31).toUInt32).toInt32), iv (n1 + (-8 : Int32))]) rfl ?_
     show Steps p.tables e below (s₁.setTop (mkF m 48 #[iv ((i1.toUInt32 >>> ((8 : Int32) &&& 31).toUInt32).toInt32), iv (n1 + (-8 : Int32))] [])) _
     rw [hi2, if_neg hcd, hn2, if_neg hcd] at k
     exact k
 refine br2_ _ ?_
 refine kiN X0 hx hby (D18 26) rfl ?_
 refine kb X0 hx hby (D18 27) ?_
 have br3_ : ∀ t, Steps p.tables e below (s₁.setTop (mkF m 61 #[iv i3, iv n3] [])) t → Steps p.tables e below (s₁.setTop (mkF m 51 #[iv i2, iv n2] [(.int 16), (.int i2)])) t := by
   intro t k
   by_cases hcd : i2 < (16 : Int32)
   · show Steps p.tables e below (s₁.setTop (mkF m 51 #[iv i2, iv n2] [(.int 16), (.int i2)])) _
     refine kcY X0 hx (pc0 := 51) (pc' := 61) rfl hby (D18 28) (tlt (hcd : i2 < (16 : Int32))).1 (by decide) (by decide) ?_
     show Steps p.tables e below (s₁.setTop (mkF m 61 #[iv i2, iv n2] [])) _
     rw [hi3, if_pos hcd, hn3, if_pos hcd] at k
     exact k
   · show Steps p.tables e below (s₁.setTop (mkF m 51 #[iv i2, iv n2] [(.int 16), (.int i2)])) _
     refine kcN X0 hx hby (D18 28) (flt (hcd : ¬ (i2 < (16 : Int32)))).1 ?_
     show Steps p.tables e below (s₁.setTop (mkF m 54 #[iv i2, iv n2] [])) _
     refine kn X0 hx hby (D18 29) rfl (l' := #[iv i2, iv (n2 + (-4 : Int32))]) rfl ?_
     show Steps p.tables e below (s₁.setTop (mkF m 57 #[iv i2, iv (n2 + (-4 : Int32))] [])) _
     refine kiN X0 hx hby (D18 30) rfl ?_
     show Steps p.tables e below (s₁.setTop (mkF m 58 #[iv i2, iv (n2 + (-4 : Int32))] [(.int i2)])) _
     refine kc X0 hx hby (D18 31) ?_
     show Steps p.tables e below (s₁.setTop (mkF m 59 #[iv i2, iv (n2 + (-4 : Int32))] [(.int 4), (.int i2)])) _
     refine kiushr X0 hx hby (D18 32) ?_
     show Steps p.tables e below (s₁.setTop (mkF m 60 #[iv i2, iv (n2 + (-4 : Int32))] [(.int ((i2.toUInt32 >>> ((4 : Int32) &&& 31).toUInt32).toInt32))])) _
     refine ksN X0 hx hby (D18 33) (l' := #[iv ((i2.toUInt32 >>> ((4 : Int32) &&& 31).toUInt32).toInt32), iv (n2 + (-4 : Int32))]) rfl ?_
     show Steps p.tables e below (s₁.setTop (mkF m 61 #[iv ((i2.toUInt32 >>> ((4 : Int32) &&& 31).toUInt32).toInt32), iv (n2 + (-4 : Int32))] [])) _
     rw [hi3, if_neg hcd, hn3, if_neg hcd] at k
     exact k
 refine br3_ _ ?_
 refine kiN X0 hx hby (D18 34) rfl ?_
 refine kc X0 hx hby (D18 35) ?_
 have br4_ : ∀ t, Steps p.tables e below (s₁.setTop (mkF m 73 #[iv i4, iv n4] [])) t → Steps p.tables e below (s₁.setTop (mkF m 63 #[iv i3, iv n3] [(.int 4), (.int i3)])) t := by
   intro t k
   by_cases hcd : i3 < (4 : Int32)
   · show Steps p.tables e below (s₁.setTop (mkF m 63 #[iv i3, iv n3] [(.int 4), (.int i3)])) _
     refine kcY X0 hx (pc0 := 63) (pc' := 73) rfl hby (D18 36) (tlt (hcd : i3 < (4 : Int32))).1 (by decide) (by decide) ?_
     show Steps p.tables e below (s₁.setTop (mkF m 73 #[iv i3, iv n3] [])) _
     rw [hi4, if_pos hcd, hn4, if_pos hcd] at k
     exact k
   · show Steps p.tables e below (s₁.setTop (mkF m 63 #[iv i3, iv n3] [(.int 4), (.int i3)])) _
     refine kcN X0 hx hby (D18 36) (flt (hcd : ¬ (i3 < (4 : Int32)))).1 ?_
     show Steps p.tables e below (s₁.setTop (mkF m 66 #[iv i3, iv n3] [])) _
     refine kn X0 hx hby (D18 37) rfl (l' := #[iv i3, iv (n3 + (-2 : Int32))]) rfl ?_
     show Steps p.tables e below (s₁.setTop (mkF m 69 #[iv i3, iv (n3 + (-2 : Int32))] [])) _
     refine kiN X0 hx hby (D18 38) rfl ?_
     show Steps p.tables e below (s₁.setTop (mkF m 70 #[iv i3, iv (n3 + (-2 : Int32))] [(.int i3)])) _
     refine kc X0 hx hby (D18 39) ?_
     show Steps p.tables e below (s₁.setTop (mkF m 71 #[iv i3, iv (n3 + (-2 : Int32))] [(.int 2), (.int i3)])) _
     refine kiushr X0 hx hby (D18 40) ?_
     show Steps p.tables e below (s₁.setTop (mkF m 72 #[iv i3, iv (n3 + (-2 : Int32))] [(.int ((i3.toUInt32 >>> ((2 : Int32) &&& 31).toUInt32).toInt32))])) _
     refine ksN X0 hx hby (D18 41) (l' := #[iv ((i3.toUInt32 >>> ((2 : Int32) &&& 31).toUInt32).toInt32), iv (n3 + (-2 : Int32))]) rfl ?_
     show Steps p.tables e below (s₁.setTop (mkF m 73 #[iv ((i3.toUInt32 >>> ((2 : Int32) &&& 31).toUInt32).toInt32), iv (n3 + (-2 : Int32))] [])) _
     rw [hi4, if_neg hcd, hn4, if_neg hcd] at k
     exact k
 refine br4_ _ ?_
 refine kiN X0 hx hby (D18 42) rfl ?_
 refine kiN X0 hx hby (D18 43) rfl ?_
 refine kc X0 hx hby (D18 44) ?_
 refine kiushr X0 hx hby (D18 45) ?_
 refine kis X0 hx hby (D18 46) ?_
 refine own_rI (er_) ?_
 exact retI X0 hx hret (hb hby (D18 47)) hr
theorem rmNlz (l : Launch) (Z : State) (a0 : Array Value) (hw : own_W Z a0) (ws : List Jvm.Cond) (p1 : Int32) (h0 : Heap) (n0 : Nat) (Z0 : n0 ≤ h0.size)  :
    own_Met l Y18 jdk_33_method_47_code 2 (some .int) ⟨0, 0, 0, 0⟩ ws #[(.int p1)] Z h0 (Q_rmNlz Z p1 h0 n0) := by
  by_cases c : (0 : Int32) < p1
  · exact nlzP l Z a0 hw ws _ _ _ _ _ _ _ _ _ h0 n0 Z0 c rfl rfl rfl rfl rfl rfl rfl rfl
  · by_cases d : p1 = (0 : Int32)
    · exact nlzZ l Z a0 hw ws _ h0 n0 Z0 c d
    · exact nlzN l Z a0 hw ws _ h0 n0 Z0 c d
theorem pd0 : parseMethodDescriptor "(I)I" = some ⟨[.int], some .int⟩ := by decide +kernel
abbrev Y17 : MethodName := ⟨"java/math/BigInteger", "bitLengthForInt", "(I)I"⟩
theorem ef17_I (m : MethodId) (x0 : Int32) : entryFrame m #[(.int x0)] 1 = mkF m 0 #[iv x0] [] := by first | (simp [entryFrame, mkF, argsToLocals, Value.category]; done) | rfl
theorem pn_java_math_BigInteger : plainName "java/math/BigInteger" = true := by first | (simp [plainName, overriddenIn]; done) | decide +kernel
def Q_rmBl (Z : State) (p1 : Int32) (h0 : Heap) (n0 : Nat) (v : Option Value) (h : Heap) (L : List Loc) : Prop := v = some (.int ((32 : Int32) - (own_nlz p1))) ∧ Fr n0 L ∧ h = h0
theorem rmBl (l : Launch) (Z : State) (a0 : Array Value) (hw : own_W Z a0) (ws : List Jvm.Cond) (p1 : Int32) (h0 : Heap) (n0 : Nat) (Z0 : n0 ≤ h0.size)  : own_Met l Y17 jdk_2097_method_74_code 1 (some .int) ⟨1, 0, 0, 14⟩ ws #[(.int p1)] Z h0 (Q_rmBl Z p1 h0 n0) := by
 refine own_go (plainFor_of_name pn_java_math_BigInteger) (fun m => ef17_I m p1) fun p e s m below meth c s₁ hx hby hml hown hnm hret hZ e0 X0 => ?_
 have N0 := Fr.nil n0
 obtain ⟨T1_, Lc1_, v1_, X1_, hQ1_, st1_⟩ := own_cS (y := Y18) X0 hx hZ hown (wt hw 103 rfl) (wt hw 104 rfl) (wt hw 105 rfl) (wt hw 92 rfl) (by decide) (rmNlz l Z a0 hw [] p1 h0 n0 Z0 ) e0 (pc := 3) (Ls := #[iv p1]) (stk := [(.int p1), (.int 32)]) (rest := [(.int 32)]) (by rw [hml]; rfl) pd0 rfl rfl (W := 1) rfl hby (D17 2) (by decide) (by decide) (by exact own_b rfl) (by exact own_b rfl)
 obtain ⟨rfl, Nq1_, ek1_⟩ := hQ1_
 have N1_ := Fr.app N0 Nq1_
 refine ⟨_, _, _, _, some (.int ((32 : Int32) - (own_nlz p1))), X1_, (by exact own_b rfl), (by exact own_b rfl), nofun, (by show Q_rmBl Z p1 h0 n0 _ T1_.heap _; rw [ek1_]; exact ⟨rfl, N1_, rfl⟩), fun fs hr => ?_⟩
 refine kb X0 hx hby (D17 0) ?_
 refine kiN X0 hx hby (D17 1) rfl ?_
 refine st1_ _ ?_
 refine kis X1_ hx hby (D17 3) ?_
 exact retI X1_ hx hret (hb hby (D17 4)) hr
def Q_rmLsb (Z : State) (o1 : Addr) (a1 : Addr) (n1 : Nat) (h0 : Heap) (n0 : Nat) (v : Option Value) (h : Heap) (L : List Loc) : Prop := v = some (.int (Int32.ofNat (own_tz n1))) ∧ Fr n0 L ∧ h = h0
abbrev Y14 : MethodName := ⟨"java/math/MutableBigInteger", "getLowestSetBit", "()I"⟩
theorem ef14_R (m : MethodId) (x0 : Addr) : entryFrame m #[(.ref x0)] 3 = mkF m 0 #[rv x0, .unset, .unset] [] := by first | (simp [entryFrame, mkF, argsToLocals, Value.category]; done) | rfl
theorem pn_java_math_MutableBigInteger : plainName "java/math/MutableBigInteger" = true := by first | (simp [plainName, overriddenIn]; done) | decide +kernel
theorem lsB (l : Launch) (Z : State) (a0 : Array Value) (hw : own_W Z a0) (ws : List Jvm.Cond) (o1 : Addr) (a1 : Addr) (k1 : ClassId) (z1 : Int32) (vs1 : List Value) (j1 : Int32) (x1 : Int32) (n1 : Nat) (h0 : Heap) (n0 : Nat) (Z0 : n0 ≤ h0.size) (S1 : own_SH Z h0 o1 a1 (1 : Int32) j1 k1 z1 vs1) (xB1 : own_B z1 vs1 j1 x1) (nu : own_u x1 = n1) (nx : ¬ (x1 = (0 : Int32))) : own_Met l Y14 jdk_2101_method_18_code 3 (some .int) ⟨1, 0, 0, 14⟩ ws #[(.ref o1)] Z h0 (Q_rmLsb Z o1 a1 n1 h0 n0) := by
 refine own_go (plainFor_of_name pn_java_math_MutableBigInteger) (fun m => ef14_R m o1) fun p e s m below meth c s₁ hx hby hml hown hnm hret hZ e0 X0 => ?_
 have N0 := Fr.nil n0
 obtain ⟨T1_, X1_, e1_, st1_⟩ := own_gN (pc := 0) (Ls := #[rv o1, .unset, .unset]) (stk := []) X0 hx hZ hown (wt hw 50 rfl) e0 S1.2.2.2.1 hby (D14 0) (D14 1) rfl
 obtain ⟨T2_, X2_, e2_, st2_⟩ := own_gN (pc := 9) (Ls := #[rv o1, .unset, .unset]) (stk := []) X1_ hx hZ hown (wt hw 50 rfl) e1_ S1.2.2.2.1 hby (D14 3) (D14 4) rfl
 obtain ⟨T3_, X3_, e3_, st3_⟩ := own_gN (pc := 40) (Ls := #[rv o1, iv 0, .unset]) (stk := []) X2_ hx hZ hown (wt hw 65 rfl) e2_ S1.2.2.1 hby (D14 10) (D14 11) rfl
 obtain ⟨T4_, X4_, e4_, st4_⟩ := own_gN (pc := 45) (Ls := #[rv o1, iv 0, .unset]) (stk := [(.int 0), (.ref a1)]) X3_ hx hZ hown (wt hw 47 rfl) e3_ S1.2.2.2.2.1 hby (D14 13) (D14 14) rfl
 obtain ⟨T5_, X5_, e5_, st5_⟩ := own_gN (pc := 58) (Ls := #[rv o1, iv 0, iv x1]) (stk := []) X4_ hx hZ hown (wt hw 50 rfl) e4_ S1.2.2.2.1 hby (D14 20) (D14 21) rfl
 obtain ⟨T6_, Lc6_, v6_, X6_, hQ6_, st6_⟩ := own_cS (y := Y15) X5_ hx hZ hown (wt hw 90 rfl) (wt hw 91 rfl) (wt hw 93 rfl) (wt hw 92 rfl) (by decide) (rmNtz l Z a0 hw [] x1 h0 n0 Z0 ) e5_ (pc := 69) (Ls := #[rv o1, iv 0, iv x1]) (stk := [(.int x1), (.int ((0 : Int32) <<< ((5 : Int32) &&& 31)))]) (rest := [(.int ((0 : Int32) <<< ((5 : Int32) &&& 31)))]) (by rw [hml]; rfl) pd0 rfl rfl (W := 1) rfl hby (D14 29) (by decide) (by decide) (by exact own_b rfl) (by exact own_b rfl)
 obtain ⟨rfl, Nq6_, ek6_⟩ := hQ6_
 have N6_ := Fr.app N0 Nq6_
 refine ⟨_, _, _, _, some (.int (Int32.ofNat (own_tz n1))), X6_, (by exact own_b rfl), (by exact own_b rfl), nofun, (by show Q_rmLsb Z o1 a1 n1 h0 n0 _ T6_.heap _; rw [ek6_]; exact ⟨rfl, N6_, rfl⟩), fun fs hr => ?_⟩
 refine st1_ _ ?_
 refine kfY X1_ hx (pc0 := 4) (pc' := 9) rfl hby (D14 2) ((if0 _ _).trans (feq ((by decide) : ¬ ((1 : Int32) = (0 : Int32)))).2) (by decide) (by decide) ?_
 refine st2_ _ ?_
 refine kc X2_ hx hby (D14 5) ?_
 refine kis X2_ hx hby (D14 6) ?_
 refine ksN X2_ hx hby (D14 7) (l' := #[rv o1, iv 0, .unset]) rfl ?_
 refine kiN X2_ hx hby (D14 8) rfl ?_
 refine kfY X2_ hx (pc0 := 17) (pc' := 40) rfl hby (D14 9) ((if0 _ _).trans (flt ((by decide) : ¬ ((0 : Int32) < (0 : Int32)))).2.2.2) (by decide) (by decide) ?_
 refine st3_ _ ?_
 refine kiN X3_ hx hby (D14 12) rfl ?_
 refine st4_ _ ?_
 refine kia X4_ hx hby (D14 15) ?_
 refine own_ia X4_ hx hZ e4_ S1.2.2.2.2.2 (by rw [Int32.zero_add]; exact (own_B.at xB1).1) (by rw [Int32.zero_add]; exact (own_B.at xB1).2.1) hby (D14 16) ?_
 refine ksN X4_ hx hby (D14 17) (l' := #[rv o1, iv 0, iv x1]) rfl ?_
 refine kiN X4_ hx hby (D14 18) rfl ?_
 refine kfY X4_ hx (pc0 := 53) (pc' := 58) rfl hby (D14 19) ((if0 _ _).trans (feq (nx : ¬ (x1 = (0 : Int32)))).2) (by decide) (by decide) ?_
 refine st5_ _ ?_
 refine kc X5_ hx hby (D14 22) ?_
 refine kis X5_ hx hby (D14 23) ?_
 refine kiN X5_ hx hby (D14 24) rfl ?_
 refine kis X5_ hx hby (D14 25) ?_
 refine kc X5_ hx hby (D14 26) ?_
 refine kishl X5_ hx hby (D14 27) ?_
 refine kiN X5_ hx hby (D14 28) rfl ?_
 refine st6_ _ ?_
 refine kia X6_ hx hby (D14 30) ?_
 refine own_rI (show (((0 : Int32) <<< ((5 : Int32) &&& 31)) + (own_ntz x1)) = Int32.ofNat (own_tz n1) from own_ls0 x1 n1 nx nu) ?_
 exact retI X6_ hx hret (hb hby (D14 31)) hr
theorem lsL (l : Launch) (Z : State) (a0 : Array Value) (hw : own_W Z a0) (ws : List Jvm.Cond) (o1 : Addr) (a1 : Addr) (k1 : ClassId) (hi1 : Int32) (lo1 : Int32) (n1 : Nat) (h0 : Heap) (n0 : Nat) (Z0 : n0 ≤ h0.size) (S1 : own_SH Z h0 o1 a1 (2 : Int32) (0 : Int32) k1 (2 : Int32) [(.int hi1), (.int lo1)]) (nu : n1 = own_u hi1 * 4294967296 + own_u lo1) (nx : ¬ (lo1 = (0 : Int32))) : own_Met l Y14 jdk_2101_method_18_code 3 (some .int) ⟨1, 0, 0, 14⟩ ws #[(.ref o1)] Z h0 (Q_rmLsb Z o1 a1 n1 h0 n0) := by
 refine own_go (plainFor_of_name pn_java_math_MutableBigInteger) (fun m => ef14_R m o1) fun p e s m below meth c s₁ hx hby hml hown hnm hret hZ e0 X0 => ?_
 have N0 := Fr.nil n0
 obtain ⟨T1_, X1_, e1_, st1_⟩ := own_gN (pc := 0) (Ls := #[rv o1, .unset, .unset]) (stk := []) X0 hx hZ hown (wt hw 50 rfl) e0 S1.2.2.2.1 hby (D14 0) (D14 1) rfl
 obtain ⟨T2_, X2_, e2_, st2_⟩ := own_gN (pc := 9) (Ls := #[rv o1, .unset, .unset]) (stk := []) X1_ hx hZ hown (wt hw 50 rfl) e1_ S1.2.2.2.1 hby (D14 3) (D14 4) rfl
 obtain ⟨T3_, X3_, e3_, st3_⟩ := own_gN (pc := 20) (Ls := #[rv o1, iv 1, .unset]) (stk := []) X2_ hx hZ hown (wt hw 65 rfl) e2_ S1.2.2.1 hby (D14 32) (D14 33) rfl
 obtain ⟨T4_, X4_, e4_, st4_⟩ := own_gN (pc := 25) (Ls := #[rv o1, iv 1, .unset]) (stk := [(.int 1), (.ref a1)]) X3_ hx hZ hown (wt hw 47 rfl) e3_ S1.2.2.2.2.1 hby (D14 35) (D14 36) rfl
 obtain ⟨T5_, X5_, e5_, st5_⟩ := own_gN (pc := 40) (Ls := #[rv o1, iv 1, .unset]) (stk := []) X4_ hx hZ hown (wt hw 65 rfl) e4_ S1.2.2.1 hby (D14 10) (D14 11) rfl
 obtain ⟨T6_, X6_, e6_, st6_⟩ := own_gN (pc := 45) (Ls := #[rv o1, iv 1, .unset]) (stk := [(.int 1), (.ref a1)]) X5_ hx hZ hown (wt hw 47 rfl) e5_ S1.2.2.2.2.1 hby (D14 13) (D14 14) rfl
 obtain ⟨T7_, X7_, e7_, st7_⟩ := own_gN (pc := 58) (Ls := #[rv o1, iv 1, iv lo1]) (stk := []) X6_ hx hZ hown (wt hw 50 rfl) e6_ S1.2.2.2.1 hby (D14 20) (D14 21) rfl
 obtain ⟨T8_, Lc8_, v8_, X8_, hQ8_, st8_⟩ := own_cS (y := Y15) X7_ hx hZ hown (wt hw 90 rfl) (wt hw 91 rfl) (wt hw 93 rfl) (wt hw 92 rfl) (by decide) (rmNtz l Z a0 hw [] lo1 h0 n0 Z0 ) e7_ (pc := 69) (Ls := #[rv o1, iv 1, iv lo1]) (stk := [(.int lo1), (.int ((0 : Int32) <<< ((5 : Int32) &&& 31)))]) (rest := [(.int ((0 : Int32) <<< ((5 : Int32) &&& 31)))]) (by rw [hml]; rfl) pd0 rfl rfl (W := 1) rfl hby (D14 29) (by decide) (by decide) (by exact own_b rfl) (by exact own_b rfl)
 obtain ⟨rfl, Nq8_, ek8_⟩ := hQ8_
 have N8_ := Fr.app N0 Nq8_
 refine ⟨_, _, _, _, some (.int (Int32.ofNat (own_tz n1))), X8_, (by exact own_b rfl), (by exact own_b rfl), nofun, (by show Q_rmLsb Z o1 a1 n1 h0 n0 _ T8_.heap _; rw [ek8_]; exact ⟨rfl, N8_, rfl⟩), fun fs hr => ?_⟩
 refine st1_ _ ?_
 refine kfY X1_ hx (pc0 := 4) (pc' := 9) rfl hby (D14 2) ((if0 _ _).trans (feq ((by decide) : ¬ ((2 : Int32) = (0 : Int32)))).2) (by decide) (by decide) ?_
 refine st2_ _ ?_
 refine kc X2_ hx hby (D14 5) ?_
 refine kis X2_ hx hby (D14 6) ?_
 refine ksN X2_ hx hby (D14 7) (l' := #[rv o1, iv 1, .unset]) rfl ?_
 refine kiN X2_ hx hby (D14 8) rfl ?_
 refine kfN X2_ hx hby (D14 9) ((if0 _ _).trans (tlt ((by decide) : (0 : Int32) < (1 : Int32))).2.2.2) ?_
 refine st3_ _ ?_
 refine kiN X3_ hx hby (D14 34) rfl ?_
 refine st4_ _ ?_
 refine kia X4_ hx hby (D14 37) ?_
 refine own_ia X4_ hx hZ e4_ S1.2.2.2.2.2 ⟨by decide, by decide⟩ rfl hby (D14 38) ?_
 refine kfY X4_ hx (pc0 := 31) (pc' := 40) rfl hby (D14 39) ((if0 _ _).trans (feq (nx : ¬ (lo1 = (0 : Int32)))).2) (by decide) (by decide) ?_
 refine st5_ _ ?_
 refine kiN X5_ hx hby (D14 12) rfl ?_
 refine st6_ _ ?_
 refine kia X6_ hx hby (D14 15) ?_
 refine own_ia X6_ hx hZ e6_ S1.2.2.2.2.2 ⟨by decide, by decide⟩ rfl hby (D14 16) ?_
 refine ksN X6_ hx hby (D14 17) (l' := #[rv o1, iv 1, iv lo1]) rfl ?_
 refine kiN X6_ hx hby (D14 18) rfl ?_
 refine kfY X6_ hx (pc0 := 53) (pc' := 58) rfl hby (D14 19) ((if0 _ _).trans (feq (nx : ¬ (lo1 = (0 : Int32)))).2) (by decide) (by decide) ?_
 refine st7_ _ ?_
 refine kc X7_ hx hby (D14 22) ?_
 refine kis X7_ hx hby (D14 23) ?_
 refine kiN X7_ hx hby (D14 24) rfl ?_
 refine kis X7_ hx hby (D14 25) ?_
 refine kc X7_ hx hby (D14 26) ?_
 refine kishl X7_ hx hby (D14 27) ?_
 refine kiN X7_ hx hby (D14 28) rfl ?_
 refine st8_ _ ?_
 refine kia X8_ hx hby (D14 30) ?_
 refine own_rI (show (((0 : Int32) <<< ((5 : Int32) &&& 31)) + (own_ntz lo1)) = Int32.ofNat (own_tz n1) from own_ls2 hi1 lo1 n1 nx nu) ?_
 exact retI X8_ hx hret (hb hby (D14 31)) hr
theorem lsH (l : Launch) (Z : State) (a0 : Array Value) (hw : own_W Z a0) (ws : List Jvm.Cond) (o1 : Addr) (a1 : Addr) (k1 : ClassId) (hi1 : Int32) (lo1 : Int32) (n1 : Nat) (h0 : Heap) (n0 : Nat) (Z0 : n0 ≤ h0.size) (S1 : own_SH Z h0 o1 a1 (2 : Int32) (0 : Int32) k1 (2 : Int32) [(.int hi1), (.int lo1)]) (nu : n1 = own_u hi1 * 4294967296 + own_u lo1) (nz : lo1 = (0 : Int32)) (nx : ¬ (hi1 = (0 : Int32))) : own_Met l Y14 jdk_2101_method_18_code 3 (some .int) ⟨1, 0, 0, 14⟩ ws #[(.ref o1)] Z h0 (Q_rmLsb Z o1 a1 n1 h0 n0) := by
 refine own_go (plainFor_of_name pn_java_math_MutableBigInteger) (fun m => ef14_R m o1) fun p e s m below meth c s₁ hx hby hml hown hnm hret hZ e0 X0 => ?_
 have N0 := Fr.nil n0
 obtain ⟨T1_, X1_, e1_, st1_⟩ := own_gN (pc := 0) (Ls := #[rv o1, .unset, .unset]) (stk := []) X0 hx hZ hown (wt hw 50 rfl) e0 S1.2.2.2.1 hby (D14 0) (D14 1) rfl
 obtain ⟨T2_, X2_, e2_, st2_⟩ := own_gN (pc := 9) (Ls := #[rv o1, .unset, .unset]) (stk := []) X1_ hx hZ hown (wt hw 50 rfl) e1_ S1.2.2.2.1 hby (D14 3) (D14 4) rfl
 obtain ⟨T3_, X3_, e3_, st3_⟩ := own_gN (pc := 20) (Ls := #[rv o1, iv 1, .unset]) (stk := []) X2_ hx hZ hown (wt hw 65 rfl) e2_ S1.2.2.1 hby (D14 32) (D14 33) rfl
 obtain ⟨T4_, X4_, e4_, st4_⟩ := own_gN (pc := 25) (Ls := #[rv o1, iv 1, .unset]) (stk := [(.int 1), (.ref a1)]) X3_ hx hZ hown (wt hw 47 rfl) e3_ S1.2.2.2.2.1 hby (D14 35) (D14 36) rfl
 obtain ⟨T5_, X5_, e5_, st5_⟩ := own_gN (pc := 40) (Ls := #[rv o1, iv 0, .unset]) (stk := []) X4_ hx hZ hown (wt hw 65 rfl) e4_ S1.2.2.1 hby (D14 10) (D14 11) rfl
 obtain ⟨T6_, X6_, e6_, st6_⟩ := own_gN (pc := 45) (Ls := #[rv o1, iv 0, .unset]) (stk := [(.int 0), (.ref a1)]) X5_ hx hZ hown (wt hw 47 rfl) e5_ S1.2.2.2.2.1 hby (D14 13) (D14 14) rfl
 obtain ⟨T7_, X7_, e7_, st7_⟩ := own_gN (pc := 58) (Ls := #[rv o1, iv 0, iv hi1]) (stk := []) X6_ hx hZ hown (wt hw 50 rfl) e6_ S1.2.2.2.1 hby (D14 20) (D14 21) rfl
 obtain ⟨T8_, Lc8_, v8_, X8_, hQ8_, st8_⟩ := own_cS (y := Y15) X7_ hx hZ hown (wt hw 90 rfl) (wt hw 91 rfl) (wt hw 93 rfl) (wt hw 92 rfl) (by decide) (rmNtz l Z a0 hw [] hi1 h0 n0 Z0 ) e7_ (pc := 69) (Ls := #[rv o1, iv 0, iv hi1]) (stk := [(.int hi1), (.int ((1 : Int32) <<< ((5 : Int32) &&& 31)))]) (rest := [(.int ((1 : Int32) <<< ((5 : Int32) &&& 31)))]) (by rw [hml]; rfl) pd0 rfl rfl (W := 1) rfl hby (D14 29) (by decide) (by decide) (by exact own_b rfl) (by exact own_b rfl)
 obtain ⟨rfl, Nq8_, ek8_⟩ := hQ8_
 have N8_ := Fr.app N0 Nq8_
 refine ⟨_, _, _, _, some (.int (Int32.ofNat (own_tz n1))), X8_, (by exact own_b rfl), (by exact own_b rfl), nofun, (by show Q_rmLsb Z o1 a1 n1 h0 n0 _ T8_.heap _; rw [ek8_]; exact ⟨rfl, N8_, rfl⟩), fun fs hr => ?_⟩
 refine st1_ _ ?_
 refine kfY X1_ hx (pc0 := 4) (pc' := 9) rfl hby (D14 2) ((if0 _ _).trans (feq ((by decide) : ¬ ((2 : Int32) = (0 : Int32)))).2) (by decide) (by decide) ?_
 refine st2_ _ ?_
 refine kc X2_ hx hby (D14 5) ?_
 refine kis X2_ hx hby (D14 6) ?_
 refine ksN X2_ hx hby (D14 7) (l' := #[rv o1, iv 1, .unset]) rfl ?_
 refine kiN X2_ hx hby (D14 8) rfl ?_
 refine kfN X2_ hx hby (D14 9) ((if0 _ _).trans (tlt ((by decide) : (0 : Int32) < (1 : Int32))).2.2.2) ?_
 refine st3_ _ ?_
 refine kiN X3_ hx hby (D14 34) rfl ?_
 refine st4_ _ ?_
 refine kia X4_ hx hby (D14 37) ?_
 refine own_ia X4_ hx hZ e4_ S1.2.2.2.2.2 ⟨by decide, by decide⟩ rfl hby (D14 38) ?_
 refine kfN X4_ hx hby (D14 39) ((if0 _ _).trans (teq (nz : lo1 = (0 : Int32))).2) ?_
 refine kn X4_ hx hby (D14 40) rfl (l' := #[rv o1, iv 0, .unset]) rfl ?_
 refine kg X4_ hx (pc0 := 37) (pc' := 16) rfl hby (D14 41) (by decide) (by decide) ?_
 refine kiN X4_ hx hby (D14 8) rfl ?_
 refine kfY X4_ hx (pc0 := 17) (pc' := 40) rfl hby (D14 9) ((if0 _ _).trans (flt ((by decide) : ¬ ((0 : Int32) < (0 : Int32)))).2.2.2) (by decide) (by decide) ?_
 refine st5_ _ ?_
 refine kiN X5_ hx hby (D14 12) rfl ?_
 refine st6_ _ ?_
 refine kia X6_ hx hby (D14 15) ?_
 refine own_ia X6_ hx hZ e6_ S1.2.2.2.2.2 ⟨by decide, by decide⟩ rfl hby (D14 16) ?_
 refine ksN X6_ hx hby (D14 17) (l' := #[rv o1, iv 0, iv hi1]) rfl ?_
 refine kiN X6_ hx hby (D14 18) rfl ?_
 refine kfY X6_ hx (pc0 := 53) (pc' := 58) rfl hby (D14 19) ((if0 _ _).trans (feq (nx : ¬ (hi1 = (0 : Int32)))).2) (by decide) (by decide) ?_
 refine st7_ _ ?_
 refine kc X7_ hx hby (D14 22) ?_
 refine kis X7_ hx hby (D14 23) ?_
 refine kiN X7_ hx hby (D14 24) rfl ?_
 refine kis X7_ hx hby (D14 25) ?_
 refine kc X7_ hx hby (D14 26) ?_
 refine kishl X7_ hx hby (D14 27) ?_
 refine kiN X7_ hx hby (D14 28) rfl ?_
 refine st8_ _ ?_
 refine kia X8_ hx hby (D14 30) ?_
 refine own_rI (show (((1 : Int32) <<< ((5 : Int32) &&& 31)) + (own_ntz hi1)) = Int32.ofNat (own_tz n1) from own_ls1 hi1 lo1 n1 nx nz nu) ?_
 exact retI X8_ hx hret (hb hby (D14 31)) hr
theorem rmLsb (l : Launch) (Z : State) (a0 : Array Value) (hw : own_W Z a0) (ws : List Jvm.Cond) (o1 : Addr) (a1 : Addr) (n1 : Nat) (h0 : Heap) (n0 : Nat) (Z0 : n0 ≤ h0.size) (M1 : own_MB Z h0 o1 a1 n1) :
    own_Met l Y14 jdk_2101_method_18_code 3 (some .int) ⟨1, 0, 0, 14⟩ ws #[(.ref o1)] Z h0 (Q_rmLsb Z o1 a1 n1 h0 n0) := by
  by_cases c : n1 < 4294967296
  · obtain ⟨k, z, vs, j, x, S, B, e⟩ := M1.dB c
    have nx : ¬ (x = (0 : Int32)) := fun q => M1.nz (e ▸ own_u0.mpr q)
    exact lsB l Z a0 hw ws _ _ _ _ _ _ _ _ h0 n0 Z0 S B e nx
  · obtain ⟨k, hi, lo, S, e⟩ := M1.dA c
    have nh : ¬ (hi = (0 : Int32)) := fun q => by have q2 := own_u0.mpr q; have := own_u_lt lo; rw [q2] at e; omega
    by_cases d : lo = (0 : Int32)
    · exact lsH l Z a0 hw ws _ _ _ _ _ _ h0 n0 Z0 S e d nh
    · exact lsL l Z a0 hw ws _ _ _ _ _ _ h0 n0 Z0 S e d
abbrev Y19 : MethodName := ⟨"java/math/MutableBigInteger", "primitiveRightShift", "(I)V"⟩
theorem ef19_RI (m : MethodId) (x0 : Addr) (x1 : Int32) : entryFrame m #[(.ref x0), (.int x1)] 7 = mkF m 0 #[rv x0, iv x1, .unset, .unset, .unset, .unset, .unset] [] := by first | (simp [entryFrame, mkF, argsToLocals, Value.category]; done) | rfl
def Q_prsA (Z : State) (o1 : Addr) (p1 : Int32) (a1 : Addr) (k1 : ClassId) (hi1 : Int32) (lo1 : Int32) (h0 : Heap) (n0 : Nat) (v : Option Value) (h : Heap) (L : List Loc) : Prop := v = none ∧ Fr n0 L ∧ Keep h0 h [a1] ∧ (Arv Z h a1 k1 .int (2 : Int32) [(.int ((hi1.toUInt32 >>> (p1 &&& 31).toUInt32).toInt32)), (.int ((hi1 <<< (((32 : Int32) - p1) &&& 31)) ||| ((lo1.toUInt32 >>> (p1 &&& 31).toUInt32).toInt32)))] (.int 0))
theorem prsA (l : Launch) (Z : State) (a0 : Array Value) (hw : own_W Z a0) (ws : List Jvm.Cond) (o1 : Addr) (p1 : Int32) (a1 : Addr) (k1 : ClassId) (hi1 : Int32) (lo1 : Int32) (h0 : Heap) (n0 : Nat) (Z0 : n0 ≤ h0.size) (S1 : own_SH Z h0 o1 a1 (2 : Int32) (0 : Int32) k1 (2 : Int32) [(.int hi1), (.int lo1)]) (g1 : n0 ≤ a1) : own_Met l Y19 jdk_2101_method_41_code 7 none ⟨0, 0, 0, 0⟩ ws #[(.ref o1), (.int p1)] Z h0 (Q_prsA Z o1 p1 a1 k1 hi1 lo1 h0 n0) := by
 refine own_go (plainFor_of_name pn_java_math_MutableBigInteger) (fun m => ef19_RI m o1 p1) fun p e s m below meth c s₁ hx hby hml hown hnm hret hZ e0 X0 => ?_
 have N0 := Fr.nil n0
 obtain ⟨T1_, X1_, e1_, st1_⟩ := own_gN (pc := 0) (Ls := #[rv o1, iv p1, .unset, .unset, .unset, .unset, .unset]) (stk := []) X0 hx hZ hown (wt hw 65 rfl) e0 S1.2.2.1 hby (D19 0) (D19 1) rfl
 obtain ⟨T2_, X2_, e2_, st2_⟩ := own_gN (pc := 10) (Ls := #[rv o1, iv p1, rv a1, iv ((32 : Int32) - p1), .unset, .unset, .unset]) (stk := []) X1_ hx hZ hown (wt hw 47 rfl) e1_ S1.2.2.2.2.1 hby (D19 7) (D19 8) rfl
 obtain ⟨T3_, X3_, e3_, st3_⟩ := own_gN (pc := 14) (Ls := #[rv o1, iv p1, rv a1, iv ((32 : Int32) - p1), .unset, .unset, .unset]) (stk := [(.int 0)]) X2_ hx hZ hown (wt hw 50 rfl) e2_ S1.2.2.2.1 hby (D19 9) (D19 10) rfl
 obtain ⟨T4_, X4_, e4_, st4_⟩ := own_gN (pc := 31) (Ls := #[rv o1, iv p1, rv a1, iv ((32 : Int32) - p1), iv 1, iv lo1, .unset]) (stk := [(.int 1)]) X3_ hx hZ hown (wt hw 47 rfl) e3_ S1.2.2.2.2.1 hby (D19 20) (D19 21) rfl
 obtain ⟨T5_, h5_, X5_, e5_, W5_, v5_, N5_, st5_⟩ := own_si (pc := 62) (Ls := #[rv o1, iv p1, rv a1, iv ((32 : Int32) - p1), iv 1, iv hi1, iv lo1]) (stk := [(.int ((hi1 <<< (((32 : Int32) - p1) &&& 31)) ||| ((lo1.toUInt32 >>> (p1 &&& 31).toUInt32).toInt32))), (.int 1), (.ref a1)]) X4_ hx hZ e4_ S1.2.2.2.2.2 ⟨by decide, by decide⟩ 1 rfl (Nat.le_of_ble_eq_true rfl) N0 g1 hby (D19 40) rfl
 have f6_ := S1.2.2.2.2.1.other W5_ (Or.inl (ne_exa S1.1 S1.2.1 (by decide)))
 obtain ⟨T7_, X7_, e7_, st7_⟩ := own_gN (pc := 31) (Ls := #[rv o1, iv p1, rv a1, iv ((32 : Int32) - p1), iv 0, iv hi1, iv lo1]) (stk := [(.int 0)]) X5_ hx hZ hown (wt hw 47 rfl) e5_ f6_ hby (D19 20) (D19 21) rfl
 obtain ⟨T8_, X8_, e8_, st8_⟩ := own_gN (pc := 70) (Ls := #[rv o1, iv p1, rv a1, iv ((32 : Int32) - p1), iv 0, iv hi1, iv lo1]) (stk := [(.ref a1)]) X7_ hx hZ hown (wt hw 47 rfl) e7_ f6_ hby (D19 44) (D19 45) rfl
 obtain ⟨T9_, h9_, X9_, e9_, W9_, v9_, N9_, st9_⟩ := own_si (pc := 78) (Ls := #[rv o1, iv p1, rv a1, iv ((32 : Int32) - p1), iv 0, iv hi1, iv lo1]) (stk := [(.int ((hi1.toUInt32 >>> (p1 &&& 31).toUInt32).toInt32)), (.int 0), (.ref a1)]) X8_ hx hZ e8_ v5_ ⟨by decide, by decide⟩ 0 rfl (Nat.le_of_ble_eq_true rfl) N5_ g1 hby (D19 50) rfl
 have k10_ := (Keep.refl h0 [a1]).wr W5_ (own_in 0 rfl)
 have k11_ := k10_.wr W9_ (own_in 0 rfl)
 refine ⟨_, _, _, _, none, X9_, (by exact own_b rfl), (by exact own_b rfl), (fun _ => rfl), (by show Q_prsA Z o1 p1 a1 k1 hi1 lo1 h0 n0 _ T9_.heap _; rw [e9_]; exact ⟨rfl, N9_, k11_, v9_⟩), fun fs hr => ?_⟩
 refine st1_ _ ?_
 refine ktN X1_ hx hby (D19 2) rfl (l' := #[rv o1, iv p1, rv a1, .unset, .unset, .unset, .unset]) rfl ?_
 refine kb X1_ hx hby (D19 3) ?_
 refine kiN X1_ hx hby (D19 4) rfl ?_
 refine kis X1_ hx hby (D19 5) ?_
 refine ksN X1_ hx hby (D19 6) (l' := #[rv o1, iv p1, rv a1, iv ((32 : Int32) - p1), .unset, .unset, .unset]) rfl ?_
 refine st2_ _ ?_
 refine st3_ _ ?_
 refine kia X3_ hx hby (D19 11) ?_
 refine kc X3_ hx hby (D19 12) ?_
 refine kis X3_ hx hby (D19 13) ?_
 refine ks X3_ hx hby (D19 14) (l' := #[rv o1, iv p1, rv a1, iv ((32 : Int32) - p1), iv 1, .unset, .unset]) rfl ?_
 refine kaN X3_ hx hby (D19 15) rfl rfl ?_
 refine ki X3_ hx hby (D19 16) rfl ?_
 refine own_ia X3_ hx hZ e3_ S1.2.2.2.2.2 ⟨by decide, by decide⟩ rfl hby (D19 17) ?_
 refine ks X3_ hx hby (D19 18) (l' := #[rv o1, iv p1, rv a1, iv ((32 : Int32) - p1), iv 1, iv lo1, .unset]) rfl ?_
 refine ki X3_ hx hby (D19 19) rfl ?_
 refine st4_ _ ?_
 refine kcN X4_ hx hby (D19 22) (tlt ((by decide) : (0 : Int32) < (1 : Int32))).2.2.2 ?_
 refine ki X4_ hx hby (D19 23) rfl ?_
 refine ks X4_ hx hby (D19 24) (l' := #[rv o1, iv p1, rv a1, iv ((32 : Int32) - p1), iv 1, iv lo1, iv lo1]) rfl ?_
 refine kaN X4_ hx hby (D19 25) rfl rfl ?_
 refine ki X4_ hx hby (D19 26) rfl ?_
 refine kc X4_ hx hby (D19 27) ?_
 refine kis X4_ hx hby (D19 28) ?_
 refine own_ia X4_ hx hZ e4_ S1.2.2.2.2.2 ⟨by decide, by decide⟩ rfl hby (D19 29) ?_
 refine ks X4_ hx hby (D19 30) (l' := #[rv o1, iv p1, rv a1, iv ((32 : Int32) - p1), iv 1, iv hi1, iv lo1]) rfl ?_
 refine kaN X4_ hx hby (D19 31) rfl rfl ?_
 refine ki X4_ hx hby (D19 32) rfl ?_
 refine ki X4_ hx hby (D19 33) rfl ?_
 refine kiN X4_ hx hby (D19 34) rfl ?_
 refine kishl X4_ hx hby (D19 35) ?_
 refine ki X4_ hx hby (D19 36) rfl ?_
 refine kiN X4_ hx hby (D19 37) rfl ?_
 refine kiushr X4_ hx hby (D19 38) ?_
 refine kior X4_ hx hby (D19 39) ?_
 refine st5_ _ ?_
 refine kn X5_ hx hby (D19 41) rfl (l' := #[rv o1, iv p1, rv a1, iv ((32 : Int32) - p1), iv 0, iv hi1, iv lo1]) rfl ?_
 refine kg X5_ hx (pc0 := 66) (pc' := 29) rfl hby (D19 42) (by decide) (by decide) ?_
 refine ki X5_ hx hby (D19 19) rfl ?_
 refine st7_ _ ?_
 refine kcY X7_ hx (pc0 := 35) (pc' := 69) rfl hby (D19 22) (flt ((by decide) : ¬ ((0 : Int32) < (0 : Int32)))).2.2.2 (by decide) (by decide) ?_
 refine kaN X7_ hx hby (D19 43) rfl rfl ?_
 refine st8_ _ ?_
 refine own_d2 X8_ hx hby (D19 46) ?_
 refine own_ia X8_ hx hZ e8_ v5_ ⟨by decide, by decide⟩ rfl hby (D19 47) ?_
 refine kiN X8_ hx hby (D19 48) rfl ?_
 refine kiushr X8_ hx hby (D19 49) ?_
 refine st9_ _ ?_
 exact X9_.returnOut hx hret (hb hby (D19 51)) hr
def Q_prsB (Z : State) (o1 : Addr) (p1 : Int32) (a1 : Addr) (k1 : ClassId) (z1 : Int32) (vs1 : List Value) (j1 : Int32) (x1 : Int32) (h0 : Heap) (n0 : Nat) (v : Option Value) (h : Heap) (L : List Loc) : Prop := v = none ∧ Fr n0 L ∧ Keep h0 h [a1] ∧ (Arv Z h a1 k1 .int z1 (vs1.set (Int32.toNatClampNeg j1) (.int ((x1.toUInt32 >>> (p1 &&& 31).toUInt32).toInt32))) (.int 0))
theorem prsB (l : Launch) (Z : State) (a0 : Array Value) (hw : own_W Z a0) (ws : List Jvm.Cond) (o1 : Addr) (p1 : Int32) (a1 : Addr) (k1 : ClassId) (z1 : Int32) (vs1 : List Value) (j1 : Int32) (x1 : Int32) (h0 : Heap) (n0 : Nat) (Z0 : n0 ≤ h0.size) (S1 : own_SH Z h0 o1 a1 (1 : Int32) j1 k1 z1 vs1) (xB1 : own_B z1 vs1 j1 x1) (g1 : n0 ≤ a1) : own_Met l Y19 jdk_2101_method_41_code 7 none ⟨0, 0, 0, 0⟩ ws #[(.ref o1), (.int p1)] Z h0 (Q_prsB Z o1 p1 a1 k1 z1 vs1 j1 x1 h0 n0) := by
 refine own_go (plainFor_of_name pn_java_math_MutableBigInteger) (fun m => ef19_RI m o1 p1) fun p e s m below meth c s₁ hx hby hml hown hnm hret hZ e0 X0 => ?_
 have N0 := Fr.nil n0
 obtain ⟨T1_, X1_, e1_, st1_⟩ := own_gN (pc := 0) (Ls := #[rv o1, iv p1, .unset, .unset, .unset, .unset, .unset]) (stk := []) X0 hx hZ hown (wt hw 65 rfl) e0 S1.2.2.1 hby (D19 0) (D19 1) rfl
 obtain ⟨T2_, X2_, e2_, st2_⟩ := own_gN (pc := 10) (Ls := #[rv o1, iv p1, rv a1, iv ((32 : Int32) - p1), .unset, .unset, .unset]) (stk := []) X1_ hx hZ hown (wt hw 47 rfl) e1_ S1.2.2.2.2.1 hby (D19 7) (D19 8) rfl
 obtain ⟨T3_, X3_, e3_, st3_⟩ := own_gN (pc := 14) (Ls := #[rv o1, iv p1, rv a1, iv ((32 : Int32) - p1), .unset, .unset, .unset]) (stk := [(.int j1)]) X2_ hx hZ hown (wt hw 50 rfl) e2_ S1.2.2.2.1 hby (D19 9) (D19 10) rfl
 obtain ⟨T4_, X4_, e4_, st4_⟩ := own_gN (pc := 31) (Ls := #[rv o1, iv p1, rv a1, iv ((32 : Int32) - p1), iv ((j1 + (1 : Int32)) - (1 : Int32)), iv x1, .unset]) (stk := [(.int ((j1 + (1 : Int32)) - (1 : Int32)))]) X3_ hx hZ hown (wt hw 47 rfl) e3_ S1.2.2.2.2.1 hby (D19 20) (D19 21) rfl
 obtain ⟨T5_, X5_, e5_, st5_⟩ := own_gN (pc := 70) (Ls := #[rv o1, iv p1, rv a1, iv ((32 : Int32) - p1), iv ((j1 + (1 : Int32)) - (1 : Int32)), iv x1, .unset]) (stk := [(.ref a1)]) X4_ hx hZ hown (wt hw 47 rfl) e4_ S1.2.2.2.2.1 hby (D19 44) (D19 45) rfl
 obtain ⟨T6_, h6_, X6_, e6_, W6_, v6_, N6_, st6_⟩ := own_si (pc := 78) (Ls := #[rv o1, iv p1, rv a1, iv ((32 : Int32) - p1), iv ((j1 + (1 : Int32)) - (1 : Int32)), iv x1, .unset]) (stk := [(.int ((x1.toUInt32 >>> (p1 &&& 31).toUInt32).toInt32)), (.int j1), (.ref a1)]) X5_ hx hZ e5_ S1.2.2.2.2.2 (own_B.at xB1).1 (Int32.toNatClampNeg j1) rfl (own_B.at xB1).2.2 N0 g1 hby (D19 50) rfl
 have k7_ := (Keep.refl h0 [a1]).wr W6_ (own_in 0 rfl)
 refine ⟨_, _, _, _, none, X6_, (by exact own_b rfl), (by exact own_b rfl), (fun _ => rfl), (by show Q_prsB Z o1 p1 a1 k1 z1 vs1 j1 x1 h0 n0 _ T6_.heap _; rw [e6_]; exact ⟨rfl, N6_, k7_, v6_⟩), fun fs hr => ?_⟩
 refine st1_ _ ?_
 refine ktN X1_ hx hby (D19 2) rfl (l' := #[rv o1, iv p1, rv a1, .unset, .unset, .unset, .unset]) rfl ?_
 refine kb X1_ hx hby (D19 3) ?_
 refine kiN X1_ hx hby (D19 4) rfl ?_
 refine kis X1_ hx hby (D19 5) ?_
 refine ksN X1_ hx hby (D19 6) (l' := #[rv o1, iv p1, rv a1, iv ((32 : Int32) - p1), .unset, .unset, .unset]) rfl ?_
 refine st2_ _ ?_
 refine st3_ _ ?_
 refine kia X3_ hx hby (D19 11) ?_
 refine kc X3_ hx hby (D19 12) ?_
 refine kis X3_ hx hby (D19 13) ?_
 refine ks X3_ hx hby (D19 14) (l' := #[rv o1, iv p1, rv a1, iv ((32 : Int32) - p1), iv ((j1 + (1 : Int32)) - (1 : Int32)), .unset, .unset]) rfl ?_
 refine kaN X3_ hx hby (D19 15) rfl rfl ?_
 refine ki X3_ hx hby (D19 16) rfl ?_
 refine own_ia X3_ hx hZ e3_ S1.2.2.2.2.2 (by rw [Int32.add_sub_cancel]; exact (own_B.at xB1).1) (by rw [Int32.add_sub_cancel]; exact (own_B.at xB1).2.1) hby (D19 17) ?_
 refine ks X3_ hx hby (D19 18) (l' := #[rv o1, iv p1, rv a1, iv ((32 : Int32) - p1), iv ((j1 + (1 : Int32)) - (1 : Int32)), iv x1, .unset]) rfl ?_
 refine ki X3_ hx hby (D19 19) rfl ?_
 refine st4_ _ ?_
 refine kcY X4_ hx (pc0 := 35) (pc' := 69) rfl hby (D19 22) (flt ((by rw [Int32.add_sub_cancel]; exact Int32.lt_irrefl) : ¬ (j1 < ((j1 + (1 : Int32)) - (1 : Int32))))).2.2.2 (by decide) (by decide) ?_
 refine kaN X4_ hx hby (D19 43) rfl rfl ?_
 refine st5_ _ ?_
 refine own_d2 X5_ hx hby (D19 46) ?_
 refine own_ia X5_ hx hZ e5_ S1.2.2.2.2.2 (by exact (own_B.at xB1).1) (by exact (own_B.at xB1).2.1) hby (D19 47) ?_
 refine kiN X5_ hx hby (D19 48) rfl ?_
 refine kiushr X5_ hx hby (D19 49) ?_
 refine st6_ _ ?_
 exact X6_.returnOut hx hret (hb hby (D19 51)) hr
abbrev Y22 : MethodName := ⟨"java/math/MutableBigInteger", "primitiveLeftShift", "(I)V"⟩
theorem ef22_RI (m : MethodId) (x0 : Addr) (x1 : Int32) : entryFrame m #[(.ref x0), (.int x1)] 8 = mkF m 0 #[rv x0, iv x1, .unset, .unset, .unset, .unset, .unset, .unset] [] := by first | (simp [entryFrame, mkF, argsToLocals, Value.category]; done) | rfl
def Q_plsA (Z : State) (o1 : Addr) (p1 : Int32) (a1 : Addr) (k1 : ClassId) (hi1 : Int32) (lo1 : Int32) (h0 : Heap) (n0 : Nat) (v : Option Value) (h : Heap) (L : List Loc) : Prop := v = none ∧ Fr n0 L ∧ Keep h0 h [a1] ∧ (Arv Z h a1 k1 .int (2 : Int32) [(.int ((hi1 <<< (p1 &&& 31)) ||| ((lo1.toUInt32 >>> (((32 : Int32) - p1) &&& 31).toUInt32).toInt32))), (.int (lo1 <<< (p1 &&& 31)))] (.int 0))
theorem plsA (l : Launch) (Z : State) (a0 : Array Value) (hw : own_W Z a0) (ws : List Jvm.Cond) (o1 : Addr) (p1 : Int32) (a1 : Addr) (k1 : ClassId) (hi1 : Int32) (lo1 : Int32) (h0 : Heap) (n0 : Nat) (Z0 : n0 ≤ h0.size) (S1 : own_SH Z h0 o1 a1 (2 : Int32) (0 : Int32) k1 (2 : Int32) [(.int hi1), (.int lo1)]) (g1 : n0 ≤ a1) : own_Met l Y22 jdk_2101_method_42_code 8 none ⟨0, 0, 0, 0⟩ ws #[(.ref o1), (.int p1)] Z h0 (Q_plsA Z o1 p1 a1 k1 hi1 lo1 h0 n0) := by
 refine own_go (plainFor_of_name pn_java_math_MutableBigInteger) (fun m => ef22_RI m o1 p1) fun p e s m below meth c s₁ hx hby hml hown hnm hret hZ e0 X0 => ?_
 have N0 := Fr.nil n0
 obtain ⟨T1_, X1_, e1_, st1_⟩ := own_gN (pc := 0) (Ls := #[rv o1, iv p1, .unset, .unset, .unset, .unset, .unset, .unset]) (stk := []) X0 hx hZ hown (wt hw 65 rfl) e0 S1.2.2.1 hby (D22 0) (D22 1) rfl
 obtain ⟨T2_, X2_, e2_, st2_⟩ := own_gN (pc := 10) (Ls := #[rv o1, iv p1, rv a1, iv ((32 : Int32) - p1), .unset, .unset, .unset, .unset]) (stk := []) X1_ hx hZ hown (wt hw 47 rfl) e1_ S1.2.2.2.2.1 hby (D22 7) (D22 8) rfl
 obtain ⟨T3_, X3_, e3_, st3_⟩ := own_gN (pc := 24) (Ls := #[rv o1, iv p1, rv a1, iv ((32 : Int32) - p1), iv 0, iv hi1, .unset, .unset]) (stk := [(.int 0)]) X2_ hx hZ hown (wt hw 50 rfl) e2_ S1.2.2.2.1 hby (D22 15) (D22 16) rfl
 obtain ⟨T4_, h4_, X4_, e4_, W4_, v4_, N4_, st4_⟩ := own_si (pc := 64) (Ls := #[rv o1, iv p1, rv a1, iv ((32 : Int32) - p1), iv 0, iv lo1, iv 1, iv hi1]) (stk := [(.int ((hi1 <<< (p1 &&& 31)) ||| ((lo1.toUInt32 >>> (((32 : Int32) - p1) &&& 31).toUInt32).toInt32))), (.int 0), (.ref a1)]) X3_ hx hZ e3_ S1.2.2.2.2.2 ⟨by decide, by decide⟩ 0 rfl (Nat.le_of_ble_eq_true rfl) N0 g1 hby (D22 41) rfl
 have f5_ := S1.2.2.2.2.1.other W4_ (Or.inl (ne_exa S1.1 S1.2.1 (by decide)))
 obtain ⟨T6_, X6_, e6_, st6_⟩ := own_gN (pc := 72) (Ls := #[rv o1, iv p1, rv a1, iv ((32 : Int32) - p1), iv 1, iv lo1, iv 1, iv hi1]) (stk := [(.ref a1)]) X4_ hx hZ hown (wt hw 47 rfl) e4_ f5_ hby (D22 45) (D22 46) rfl
 have f7_ := S1.2.2.2.1.other W4_ (Or.inl (ne_exa S1.1 S1.2.1 (by decide)))
 obtain ⟨T8_, X8_, e8_, st8_⟩ := own_gN (pc := 76) (Ls := #[rv o1, iv p1, rv a1, iv ((32 : Int32) - p1), iv 1, iv lo1, iv 1, iv hi1]) (stk := [(.int 0), (.ref a1)]) X6_ hx hZ hown (wt hw 50 rfl) e6_ f7_ hby (D22 47) (D22 48) rfl
 obtain ⟨T9_, h9_, X9_, e9_, W9_, v9_, N9_, st9_⟩ := own_si (pc := 87) (Ls := #[rv o1, iv p1, rv a1, iv ((32 : Int32) - p1), iv 1, iv lo1, iv 1, iv hi1]) (stk := [(.int (lo1 <<< (p1 &&& 31))), (.int 1), (.ref a1)]) X8_ hx hZ e8_ v4_ ⟨by decide, by decide⟩ 1 rfl (Nat.le_of_ble_eq_true rfl) N4_ g1 hby (D22 56) rfl
 have k10_ := (Keep.refl h0 [a1]).wr W4_ (own_in 0 rfl)
 have k11_ := k10_.wr W9_ (own_in 0 rfl)
 refine ⟨_, _, _, _, none, X9_, (by exact own_b rfl), (by exact own_b rfl), (fun _ => rfl), (by show Q_plsA Z o1 p1 a1 k1 hi1 lo1 h0 n0 _ T9_.heap _; rw [e9_]; exact ⟨rfl, N9_, k11_, v9_⟩), fun fs hr => ?_⟩
 refine st1_ _ ?_
 refine ktN X1_ hx hby (D22 2) rfl (l' := #[rv o1, iv p1, rv a1, .unset, .unset, .unset, .unset, .unset]) rfl ?_
 refine kb X1_ hx hby (D22 3) ?_
 refine kiN X1_ hx hby (D22 4) rfl ?_
 refine kis X1_ hx hby (D22 5) ?_
 refine ksN X1_ hx hby (D22 6) (l' := #[rv o1, iv p1, rv a1, iv ((32 : Int32) - p1), .unset, .unset, .unset, .unset]) rfl ?_
 refine st2_ _ ?_
 refine ks X2_ hx hby (D22 9) (l' := #[rv o1, iv p1, rv a1, iv ((32 : Int32) - p1), iv 0, .unset, .unset, .unset]) rfl ?_
 refine kaN X2_ hx hby (D22 10) rfl rfl ?_
 refine ki X2_ hx hby (D22 11) rfl ?_
 refine own_ia X2_ hx hZ e2_ S1.2.2.2.2.2 ⟨by decide, by decide⟩ rfl hby (D22 12) ?_
 refine ks X2_ hx hby (D22 13) (l' := #[rv o1, iv p1, rv a1, iv ((32 : Int32) - p1), iv 0, iv hi1, .unset, .unset]) rfl ?_
 refine ki X2_ hx hby (D22 14) rfl ?_
 refine st3_ _ ?_
 refine kia X3_ hx hby (D22 17) ?_
 refine kc X3_ hx hby (D22 18) ?_
 refine kis X3_ hx hby (D22 19) ?_
 refine ks X3_ hx hby (D22 20) (l' := #[rv o1, iv p1, rv a1, iv ((32 : Int32) - p1), iv 0, iv hi1, iv 1, .unset]) rfl ?_
 refine ki X3_ hx hby (D22 21) rfl ?_
 refine ki X3_ hx hby (D22 22) rfl ?_
 refine kcN X3_ hx hby (D22 23) (tlt ((by decide) : (0 : Int32) < (1 : Int32))).2.1 ?_
 refine ki X3_ hx hby (D22 24) rfl ?_
 refine ks X3_ hx hby (D22 25) (l' := #[rv o1, iv p1, rv a1, iv ((32 : Int32) - p1), iv 0, iv hi1, iv 1, iv hi1]) rfl ?_
 refine kaN X3_ hx hby (D22 26) rfl rfl ?_
 refine ki X3_ hx hby (D22 27) rfl ?_
 refine kc X3_ hx hby (D22 28) ?_
 refine kia X3_ hx hby (D22 29) ?_
 refine own_ia X3_ hx hZ e3_ S1.2.2.2.2.2 ⟨by decide, by decide⟩ rfl hby (D22 30) ?_
 refine ks X3_ hx hby (D22 31) (l' := #[rv o1, iv p1, rv a1, iv ((32 : Int32) - p1), iv 0, iv lo1, iv 1, iv hi1]) rfl ?_
 refine kaN X3_ hx hby (D22 32) rfl rfl ?_
 refine ki X3_ hx hby (D22 33) rfl ?_
 refine ki X3_ hx hby (D22 34) rfl ?_
 refine kiN X3_ hx hby (D22 35) rfl ?_
 refine kishl X3_ hx hby (D22 36) ?_
 refine ki X3_ hx hby (D22 37) rfl ?_
 refine kiN X3_ hx hby (D22 38) rfl ?_
 refine kiushr X3_ hx hby (D22 39) ?_
 refine kior X3_ hx hby (D22 40) ?_
 refine st4_ _ ?_
 refine kn X4_ hx hby (D22 42) rfl (l' := #[rv o1, iv p1, rv a1, iv ((32 : Int32) - p1), iv 1, iv lo1, iv 1, iv hi1]) rfl ?_
 refine kg X4_ hx (pc0 := 68) (pc' := 33) rfl hby (D22 43) (by decide) (by decide) ?_
 refine ki X4_ hx hby (D22 21) rfl ?_
 refine ki X4_ hx hby (D22 22) rfl ?_
 refine kcY X4_ hx (pc0 := 37) (pc' := 71) rfl hby (D22 23) (flt ((by decide) : ¬ ((1 : Int32) < (1 : Int32)))).2.1 (by decide) (by decide) ?_
 refine kaN X4_ hx hby (D22 44) rfl rfl ?_
 refine st6_ _ ?_
 refine st8_ _ ?_
 refine kia X8_ hx hby (D22 49) ?_
 refine kc X8_ hx hby (D22 50) ?_
 refine kis X8_ hx hby (D22 51) ?_
 refine own_d2 X8_ hx hby (D22 52) ?_
 refine own_ia X8_ hx hZ e8_ v4_ ⟨by decide, by decide⟩ rfl hby (D22 53) ?_
 refine kiN X8_ hx hby (D22 54) rfl ?_
 refine kishl X8_ hx hby (D22 55) ?_
 refine st9_ _ ?_
 exact X9_.returnOut hx hret (hb hby (D22 57)) hr
def Q_pls1 (Z : State) (o1 : Addr) (p1 : Int32) (a1 : Addr) (k1 : ClassId) (x1 : Int32) (h0 : Heap) (n0 : Nat) (v : Option Value) (h : Heap) (L : List Loc) : Prop := v = none ∧ Fr n0 L ∧ Keep h0 h [a1] ∧ (Arv Z h a1 k1 .int (1 : Int32) [(.int (x1 <<< (p1 &&& 31)))] (.int 0))
theorem pls1 (l : Launch) (Z : State) (a0 : Array Value) (hw : own_W Z a0) (ws : List Jvm.Cond) (o1 : Addr) (p1 : Int32) (a1 : Addr) (k1 : ClassId) (x1 : Int32) (h0 : Heap) (n0 : Nat) (Z0 : n0 ≤ h0.size) (S1 : own_SH Z h0 o1 a1 (1 : Int32) (0 : Int32) k1 (1 : Int32) [(.int x1)]) (g1 : n0 ≤ a1) : own_Met l Y22 jdk_2101_method_42_code 8 none ⟨0, 0, 0, 0⟩ ws #[(.ref o1), (.int p1)] Z h0 (Q_pls1 Z o1 p1 a1 k1 x1 h0 n0) := by
 refine own_go (plainFor_of_name pn_java_math_MutableBigInteger) (fun m => ef22_RI m o1 p1) fun p e s m below meth c s₁ hx hby hml hown hnm hret hZ e0 X0 => ?_
 have N0 := Fr.nil n0
 obtain ⟨T1_, X1_, e1_, st1_⟩ := own_gN (pc := 0) (Ls := #[rv o1, iv p1, .unset, .unset, .unset, .unset, .unset, .unset]) (stk := []) X0 hx hZ hown (wt hw 65 rfl) e0 S1.2.2.1 hby (D22 0) (D22 1) rfl
 obtain ⟨T2_, X2_, e2_, st2_⟩ := own_gN (pc := 10) (Ls := #[rv o1, iv p1, rv a1, iv ((32 : Int32) - p1), .unset, .unset, .unset, .unset]) (stk := []) X1_ hx hZ hown (wt hw 47 rfl) e1_ S1.2.2.2.2.1 hby (D22 7) (D22 8) rfl
 obtain ⟨T3_, X3_, e3_, st3_⟩ := own_gN (pc := 24) (Ls := #[rv o1, iv p1, rv a1, iv ((32 : Int32) - p1), iv 0, iv x1, .unset, .unset]) (stk := [(.int 0)]) X2_ hx hZ hown (wt hw 50 rfl) e2_ S1.2.2.2.1 hby (D22 15) (D22 16) rfl
 obtain ⟨T4_, X4_, e4_, st4_⟩ := own_gN (pc := 72) (Ls := #[rv o1, iv p1, rv a1, iv ((32 : Int32) - p1), iv 0, iv x1, iv 0, .unset]) (stk := [(.ref a1)]) X3_ hx hZ hown (wt hw 47 rfl) e3_ S1.2.2.2.2.1 hby (D22 45) (D22 46) rfl
 obtain ⟨T5_, X5_, e5_, st5_⟩ := own_gN (pc := 76) (Ls := #[rv o1, iv p1, rv a1, iv ((32 : Int32) - p1), iv 0, iv x1, iv 0, .unset]) (stk := [(.int 0), (.ref a1)]) X4_ hx hZ hown (wt hw 50 rfl) e4_ S1.2.2.2.1 hby (D22 47) (D22 48) rfl
 obtain ⟨T6_, h6_, X6_, e6_, W6_, v6_, N6_, st6_⟩ := own_si (pc := 87) (Ls := #[rv o1, iv p1, rv a1, iv ((32 : Int32) - p1), iv 0, iv x1, iv 0, .unset]) (stk := [(.int (x1 <<< (p1 &&& 31))), (.int 0), (.ref a1)]) X5_ hx hZ e5_ S1.2.2.2.2.2 ⟨by decide, by decide⟩ 0 rfl (Nat.le_of_ble_eq_true rfl) N0 g1 hby (D22 56) rfl
 have k7_ := (Keep.refl h0 [a1]).wr W6_ (own_in 0 rfl)
 refine ⟨_, _, _, _, none, X6_, (by exact own_b rfl), (by exact own_b rfl), (fun _ => rfl), (by show Q_pls1 Z o1 p1 a1 k1 x1 h0 n0 _ T6_.heap _; rw [e6_]; exact ⟨rfl, N6_, k7_, v6_⟩), fun fs hr => ?_⟩
 refine st1_ _ ?_
 refine ktN X1_ hx hby (D22 2) rfl (l' := #[rv o1, iv p1, rv a1, .unset, .unset, .unset, .unset, .unset]) rfl ?_
 refine kb X1_ hx hby (D22 3) ?_
 refine kiN X1_ hx hby (D22 4) rfl ?_
 refine kis X1_ hx hby (D22 5) ?_
 refine ksN X1_ hx hby (D22 6) (l' := #[rv o1, iv p1, rv a1, iv ((32 : Int32) - p1), .unset, .unset, .unset, .unset]) rfl ?_
 refine st2_ _ ?_
 refine ks X2_ hx hby (D22 9) (l' := #[rv o1, iv p1, rv a1, iv ((32 : Int32) - p1), iv 0, .unset, .unset, .unset]) rfl ?_
 refine kaN X2_ hx hby (D22 10) rfl rfl ?_
 refine ki X2_ hx hby (D22 11) rfl ?_
 refine own_ia X2_ hx hZ e2_ S1.2.2.2.2.2 ⟨by decide, by decide⟩ rfl hby (D22 12) ?_
 refine ks X2_ hx hby (D22 13) (l' := #[rv o1, iv p1, rv a1, iv ((32 : Int32) - p1), iv 0, iv x1, .unset, .unset]) rfl ?_
 refine ki X2_ hx hby (D22 14) rfl ?_
 refine st3_ _ ?_
 refine kia X3_ hx hby (D22 17) ?_
 refine kc X3_ hx hby (D22 18) ?_
 refine kis X3_ hx hby (D22 19) ?_
 refine ks X3_ hx hby (D22 20) (l' := #[rv o1, iv p1, rv a1, iv ((32 : Int32) - p1), iv 0, iv x1, iv 0, .unset]) rfl ?_
 refine ki X3_ hx hby (D22 21) rfl ?_
 refine ki X3_ hx hby (D22 22) rfl ?_
 refine kcY X3_ hx (pc0 := 37) (pc' := 71) rfl hby (D22 23) (flt ((by decide) : ¬ ((0 : Int32) < (0 : Int32)))).2.1 (by decide) (by decide) ?_
 refine kaN X3_ hx hby (D22 44) rfl rfl ?_
 refine st4_ _ ?_
 refine st5_ _ ?_
 refine kia X5_ hx hby (D22 49) ?_
 refine kc X5_ hx hby (D22 50) ?_
 refine kis X5_ hx hby (D22 51) ?_
 refine own_d2 X5_ hx hby (D22 52) ?_
 refine own_ia X5_ hx hZ e5_ S1.2.2.2.2.2 ⟨by decide, by decide⟩ rfl hby (D22 53) ?_
 refine kiN X5_ hx hby (D22 54) rfl ?_
 refine kishl X5_ hx hby (D22 55) ?_
 refine st6_ _ ?_
 exact X6_.returnOut hx hret (hb hby (D22 57)) hr
theorem pd1 : parseMethodDescriptor "(I)V" = some ⟨[.int], none⟩ := by decide +kernel
def Q_rmRs (Z : State) (o1 : Addr) (p1 : Int32) (a1 : Addr) (n1 : Nat) (t1 : Nat) (h0 : Heap) (n0 : Nat) (v : Option Value) (h : Heap) (L : List Loc) : Prop := v = none ∧ Fr n0 L ∧ Keep h0 h [o1, a1] ∧ (own_MB Z h o1 a1 (n1 / 2 ^ t1))
abbrev Y16 : MethodName := ⟨"java/math/MutableBigInteger", "rightShift", "(I)V"⟩
theorem ef16_RI (m : MethodId) (x0 : Addr) (x1 : Int32) : entryFrame m #[(.ref x0), (.int x1)] 5 = mkF m 0 #[rv x0, iv x1, .unset, .unset, .unset] [] := by first | (simp [entryFrame, mkF, argsToLocals, Value.category]; done) | rfl
theorem rsA0 (l : Launch) (Z : State) (a0 : Array Value) (hw : own_W Z a0) (ws : List Jvm.Cond) (o1 : Addr) (p1 : Int32) (a1 : Addr) (k1 : ClassId) (hi1 : Int32) (lo1 : Int32) (n1 : Nat) (t1 : Nat) (h0 : Heap) (n0 : Nat) (Z0 : n0 ≤ h0.size) (S1 : own_SH Z h0 o1 a1 (2 : Int32) (0 : Int32) k1 (2 : Int32) [(.int hi1), (.int lo1)]) (g1 : n0 ≤ o1) (g2 : n0 ≤ a1) (eq1 : ((p1.toUInt32 >>> ((5 : Int32) &&& 31).toUInt32).toInt32) = (0 : Int32)) (er1 : (p1 &&& (31 : Int32)) = (0 : Int32)) (me : (n1 / 2 ^ t1) = own_u hi1 * 4294967296 + own_u lo1) (mg : 4294967296 ≤ (n1 / 2 ^ t1)) : own_Met l Y16 jdk_2101_method_35_code 5 none ⟨2, 0, 0, 26⟩ ws #[(.ref o1), (.int p1)] Z h0 (Q_rmRs Z o1 p1 a1 n1 t1 h0 n0) := by
 refine own_go (plainFor_of_name pn_java_math_MutableBigInteger) (fun m => ef16_RI m o1 p1) fun p e s m below meth c s₁ hx hby hml hown hnm hret hZ e0 X0 => ?_
 have N0 := Fr.nil n0
 obtain ⟨T1_, X1_, e1_, st1_⟩ := own_gN (pc := 0) (Ls := #[rv o1, iv p1, .unset, .unset, .unset]) (stk := []) X0 hx hZ hown (wt hw 50 rfl) e0 S1.2.2.2.1 hby (D16 0) (D16 1) rfl
 obtain ⟨T2_, X2_, e2_, st2_⟩ := own_gf (pc := 19) (Ls := #[rv o1, iv p1, iv 0, iv 0, .unset]) (stk := [(.ref o1), (.ref o1)]) X1_ hx hZ hown (wt hw 50 rfl) e1_ S1.2.2.2.1 hby (D16 13) rfl
 obtain ⟨T3_, h3_, X3_, e3_, W3_, w3_, N3_, st3_⟩ := own_pf (pc := 24) (Ls := #[rv o1, iv p1, iv 0, iv 0, .unset]) (stk := [(.int 2), (.ref o1)]) X2_ hx hZ hown (wt hw 50 rfl) e2_ S1.2.2.2.1 S1.1 (Or.inl (wt hw 51 rfl)) (wt hw 40 rfl) (ty := .int) (by decide) rfl rfl N0 g1 hby (D16 16) rfl
 have f4_ := S1.1.wr W3_
 have f5_ := S1.2.1.wr W3_
 have f6_ := S1.2.2.1.other W3_ (Or.inr (slot_ne (Or.inl (wt hw 66 rfl)) (Or.inl (wt hw 51 rfl)) (by decide) (t := (.array .int)) (t' := .int) (by decide) (by decide)))
 have f7_ := S1.2.2.2.2.1.other W3_ (Or.inr (slot_ne (Or.inl (wt hw 48 rfl)) (Or.inl (wt hw 51 rfl)) (by decide) (t := .int) (t' := .int) (by decide) (by decide)))
 have f8_ := S1.2.2.2.2.2.other W3_ (ne_exa S1.2.1 S1.1 (by decide))
 have mb_ : own_MB Z h3_ o1 a1 (n1 / 2 ^ t1) := own_MB.mkA ⟨f4_, f5_, f6_, w3_, f7_, f8_⟩ me mg
 have k9_ := (Keep.refl h0 [o1, a1]).wr W3_ (own_in 0 rfl)
 refine ⟨_, _, _, _, none, X3_, (by exact own_b rfl), (by exact own_b rfl), (fun _ => rfl), (by show Q_rmRs Z o1 p1 a1 n1 t1 h0 n0 _ T3_.heap _; rw [e3_]; exact ⟨rfl, N3_, k9_, mb_⟩), fun fs hr => ?_⟩
 refine st1_ _ ?_
 refine kfY X1_ hx (pc0 := 4) (pc' := 8) rfl hby (D16 2) ((if0 _ _).trans (feq ((by decide) : ¬ ((2 : Int32) = (0 : Int32)))).2) (by decide) (by decide) ?_
 refine kiN X1_ hx hby (D16 3) rfl ?_
 refine kc X1_ hx hby (D16 4) ?_
 refine kiushr X1_ hx hby (D16 5) ?_
 refine own_rI (eq1) ?_
 refine ksN X1_ hx hby (D16 6) (l' := #[rv o1, iv p1, iv 0, .unset, .unset]) rfl ?_
 refine kiN X1_ hx hby (D16 7) rfl ?_
 refine kb X1_ hx hby (D16 8) ?_
 refine kiand X1_ hx hby (D16 9) ?_
 refine own_rI (er1) ?_
 refine ksN X1_ hx hby (D16 10) (l' := #[rv o1, iv p1, iv 0, iv 0, .unset]) rfl ?_
 refine kaN X1_ hx hby (D16 11) rfl rfl ?_
 refine kdup X1_ hx hby (D16 12) rfl ?_
 refine st2_ _ ?_
 refine kiN X2_ hx hby (D16 14) rfl ?_
 refine kis X2_ hx hby (D16 15) ?_
 refine st3_ _ ?_
 refine kiN X3_ hx hby (D16 17) rfl ?_
 refine kfN X3_ hx hby (D16 18) ((if0 _ _).trans (teq ((by decide) : (0 : Int32) = (0 : Int32))).2) ?_
 exact X3_.returnOut hx hret (hb hby (D16 19)) hr
theorem rsA1 (l : Launch) (Z : State) (a0 : Array Value) (hw : own_W Z a0) (ws : List Jvm.Cond) (o1 : Addr) (p1 : Int32) (a1 : Addr) (k1 : ClassId) (hi1 : Int32) (lo1 : Int32) (n1 : Nat) (t1 : Nat) (r1 : Int32) (h0 : Heap) (n0 : Nat) (Z0 : n0 ≤ h0.size) (S1 : own_SH Z h0 o1 a1 (2 : Int32) (0 : Int32) k1 (2 : Int32) [(.int hi1), (.int lo1)]) (g1 : n0 ≤ o1) (g2 : n0 ≤ a1) (eq1 : ((p1.toUInt32 >>> ((5 : Int32) &&& 31).toUInt32).toInt32) = (0 : Int32)) (er1 : (p1 &&& (31 : Int32)) = r1) (nr : ¬ (r1 = (0 : Int32))) (nl : ¬ (r1 < ((32 : Int32) - (own_nlz hi1)))) (me : own_u ((hi1 <<< (((32 : Int32) - r1) &&& 31)) ||| ((lo1.toUInt32 >>> (((32 : Int32) - ((32 : Int32) - r1)) &&& 31).toUInt32).toInt32)) = (n1 / 2 ^ t1)) (mz : (n1 / 2 ^ t1) ≠ 0) : own_Met l Y16 jdk_2101_method_35_code 5 none ⟨2, 0, 0, 26⟩ ws #[(.ref o1), (.int p1)] Z h0 (Q_rmRs Z o1 p1 a1 n1 t1 h0 n0) := by
 refine own_go (plainFor_of_name pn_java_math_MutableBigInteger) (fun m => ef16_RI m o1 p1) fun p e s m below meth c s₁ hx hby hml hown hnm hret hZ e0 X0 => ?_
 have N0 := Fr.nil n0
 obtain ⟨T1_, X1_, e1_, st1_⟩ := own_gN (pc := 0) (Ls := #[rv o1, iv p1, .unset, .unset, .unset]) (stk := []) X0 hx hZ hown (wt hw 50 rfl) e0 S1.2.2.2.1 hby (D16 0) (D16 1) rfl
 obtain ⟨T2_, X2_, e2_, st2_⟩ := own_gf (pc := 19) (Ls := #[rv o1, iv p1, iv 0, iv r1, .unset]) (stk := [(.ref o1), (.ref o1)]) X1_ hx hZ hown (wt hw 50 rfl) e1_ S1.2.2.2.1 hby (D16 13) rfl
 obtain ⟨T3_, h3_, X3_, e3_, W3_, w3_, N3_, st3_⟩ := own_pf (pc := 24) (Ls := #[rv o1, iv p1, iv 0, iv r1, .unset]) (stk := [(.int 2), (.ref o1)]) X2_ hx hZ hown (wt hw 50 rfl) e2_ S1.2.2.2.1 S1.1 (Or.inl (wt hw 51 rfl)) (wt hw 40 rfl) (ty := .int) (by decide) rfl rfl N0 g1 hby (D16 16) rfl
 have f4_ := S1.2.2.1.other W3_ (Or.inr (slot_ne (Or.inl (wt hw 66 rfl)) (Or.inl (wt hw 51 rfl)) (by decide) (t := (.array .int)) (t' := .int) (by decide) (by decide)))
 obtain ⟨T5_, X5_, e5_, st5_⟩ := own_gN (pc := 32) (Ls := #[rv o1, iv p1, iv 0, iv r1, .unset]) (stk := []) X3_ hx hZ hown (wt hw 65 rfl) e3_ f4_ hby (D16 20) (D16 21) rfl
 have f6_ := S1.2.2.2.2.1.other W3_ (Or.inr (slot_ne (Or.inl (wt hw 48 rfl)) (Or.inl (wt hw 51 rfl)) (by decide) (t := .int) (t' := .int) (by decide) (by decide)))
 obtain ⟨T7_, X7_, e7_, st7_⟩ := own_gN (pc := 36) (Ls := #[rv o1, iv p1, iv 0, iv r1, .unset]) (stk := [(.ref a1)]) X5_ hx hZ hown (wt hw 47 rfl) e5_ f6_ hby (D16 22) (D16 23) rfl
 have f8_ := S1.2.2.2.2.2.other W3_ (ne_exa S1.2.1 S1.1 (by decide))
 have z10_ : n0 ≤ h3_.size := Nat.le_trans Z0 (Keep.of_wr W3_).1
 obtain ⟨T9_, Lc9_, v9_, X9_, hQ9_, st9_⟩ := own_cS (y := Y17) X7_ hx hZ hown (wt hw 100 rfl) (wt hw 101 rfl) (wt hw 102 rfl) (wt hw 2 rfl) (by decide) (rmBl l Z a0 hw [] hi1 h3_ n0 z10_ ) e7_ (pc := 41) (Ls := #[rv o1, iv p1, iv 0, iv r1, .unset]) (stk := [(.int hi1)]) (rest := []) (by rw [hml]; rfl) pd0 rfl rfl (W := 0) rfl hby (D16 25) (by decide) (by decide) (by exact own_b rfl) (by exact own_b rfl)
 obtain ⟨rfl, Nq9_, ek9_⟩ := hQ9_
 have N9_ := Fr.app N3_ Nq9_
 have f12_ := S1.1.wr W3_
 have f13_ := S1.2.1.wr W3_
 obtain ⟨T11_, Lc11_, v11_, X11_, hQ11_, st11_⟩ := own_cV (y := Y22) X9_ hx hZ hown (wt hw 120 rfl) (wt hw 121 rfl) (wt hw 123 rfl) (wt hw 124 rfl) (wt hw 41 rfl) (by decide) (plsA l Z a0 hw [] o1 ((32 : Int32) - r1) a1 k1 hi1 lo1 h3_ n0 z10_ ⟨f12_, f13_, f4_, w3_, f6_, f8_⟩ g2) f12_ ek9_ (pc := 57) (Ls := #[rv o1, iv p1, iv 0, iv r1, iv ((32 : Int32) - (own_nlz hi1))]) (stk := [(.int ((32 : Int32) - r1)), (.ref o1)]) (rest := []) (by rw [hml]; rfl) pd1 rfl rfl (W := 0) rfl hby (D16 34) (by decide) (by decide) (by exact own_b rfl) (by exact own_b rfl)
 obtain ⟨rfl, Nq11_, ek11_, p11__0⟩ := hQ11_
 have N11_ := Fr.app N9_ Nq11_
 have f14_ := w3_.keep ek11_ (ninS (ne_exa f12_ f13_ (by decide)) nin0)
 obtain ⟨T15_, X15_, e15_, st15_⟩ := own_gf (pc := 62) (Ls := #[rv o1, iv p1, iv 0, iv r1, iv ((32 : Int32) - (own_nlz hi1))]) (stk := [(.ref o1), (.ref o1)]) X11_ hx hZ hown (wt hw 50 rfl) rfl f14_ hby (D16 37) rfl
 have f16_ := f12_.keep ek11_
 obtain ⟨T17_, h17_, X17_, e17_, W17_, w17_, N17_, st17_⟩ := own_pf (pc := 67) (Ls := #[rv o1, iv p1, iv 0, iv r1, iv ((32 : Int32) - (own_nlz hi1))]) (stk := [(.int 1), (.ref o1)]) X15_ hx hZ hown (wt hw 50 rfl) e15_ f14_ f16_ (Or.inl (wt hw 51 rfl)) (wt hw 40 rfl) (ty := .int) (by decide) rfl rfl N11_ g1 hby (D16 40) rfl
 have f18_ := f16_.wr W17_
 have f19_ := (f13_.keep ek11_).wr W17_
 have f20_ := (f4_.keep ek11_ (ninS (ne_exa f12_ f13_ (by decide)) nin0)).other W17_ (Or.inr (slot_ne (Or.inl (wt hw 66 rfl)) (Or.inl (wt hw 51 rfl)) (by decide) (t := (.array .int)) (t' := .int) (by decide) (by decide)))
 have f21_ := (f6_.keep ek11_ (ninS (ne_exa f12_ f13_ (by decide)) nin0)).other W17_ (Or.inr (slot_ne (Or.inl (wt hw 48 rfl)) (Or.inl (wt hw 51 rfl)) (by decide) (t := .int) (t' := .int) (by decide) (by decide)))
 have f22_ := p11__0.other W17_ (ne_exa (f13_.keep ek11_) f16_ (by decide))
 have mb_ : own_MB Z h17_ o1 a1 (n1 / 2 ^ t1) := own_MB.mkB ⟨f18_, f19_, f20_, w17_, f21_, f22_⟩ (Or.inr (Or.inl ⟨_, rfl, rfl, rfl⟩)) me mz
 have k23_ := (Keep.refl h0 [o1, a1]).wr W3_ (own_in 0 rfl)
 have k24_ := k23_.trans ek11_ (allS (own_in 1 rfl) all0)
 have k25_ := k24_.wr W17_ (own_in 0 rfl)
 refine ⟨_, _, _, _, none, X17_, (by exact own_b rfl), (by exact own_b rfl), (fun _ => rfl), (by show Q_rmRs Z o1 p1 a1 n1 t1 h0 n0 _ T17_.heap _; rw [e17_]; exact ⟨rfl, N17_, k25_, mb_⟩), fun fs hr => ?_⟩
 refine st1_ _ ?_
 refine kfY X1_ hx (pc0 := 4) (pc' := 8) rfl hby (D16 2) ((if0 _ _).trans (feq ((by decide) : ¬ ((2 : Int32) = (0 : Int32)))).2) (by decide) (by decide) ?_
 refine kiN X1_ hx hby (D16 3) rfl ?_
 refine kc X1_ hx hby (D16 4) ?_
 refine kiushr X1_ hx hby (D16 5) ?_
 refine own_rI (eq1) ?_
 refine ksN X1_ hx hby (D16 6) (l' := #[rv o1, iv p1, iv 0, .unset, .unset]) rfl ?_
 refine kiN X1_ hx hby (D16 7) rfl ?_
 refine kb X1_ hx hby (D16 8) ?_
 refine kiand X1_ hx hby (D16 9) ?_
 refine own_rI (er1) ?_
 refine ksN X1_ hx hby (D16 10) (l' := #[rv o1, iv p1, iv 0, iv r1, .unset]) rfl ?_
 refine kaN X1_ hx hby (D16 11) rfl rfl ?_
 refine kdup X1_ hx hby (D16 12) rfl ?_
 refine st2_ _ ?_
 refine kiN X2_ hx hby (D16 14) rfl ?_
 refine kis X2_ hx hby (D16 15) ?_
 refine st3_ _ ?_
 refine kiN X3_ hx hby (D16 17) rfl ?_
 refine kfY X3_ hx (pc0 := 28) (pc' := 32) rfl hby (D16 18) ((if0 _ _).trans (feq (nr : ¬ (r1 = (0 : Int32)))).2) (by decide) (by decide) ?_
 refine st5_ _ ?_
 refine st7_ _ ?_
 refine own_ia X7_ hx hZ e7_ f8_ ⟨by decide, by decide⟩ rfl hby (D16 24) ?_
 refine st9_ _ ?_
 refine ks X9_ hx hby (D16 26) (l' := #[rv o1, iv p1, iv 0, iv r1, iv ((32 : Int32) - (own_nlz hi1))]) rfl ?_
 refine kiN X9_ hx hby (D16 27) rfl ?_
 refine ki X9_ hx hby (D16 28) rfl ?_
 refine kcN X9_ hx hby (D16 29) (flt (nl : ¬ (r1 < ((32 : Int32) - (own_nlz hi1))))).1 ?_
 refine kaN X9_ hx hby (D16 30) rfl rfl ?_
 refine kb X9_ hx hby (D16 31) ?_
 refine kiN X9_ hx hby (D16 32) rfl ?_
 refine kis X9_ hx hby (D16 33) ?_
 refine st11_ _ ?_
 refine kaN X11_ hx hby (D16 35) rfl rfl ?_
 refine kdup X11_ hx hby (D16 36) rfl ?_
 refine st15_ _ ?_
 refine kc X15_ hx hby (D16 38) ?_
 refine kis X15_ hx hby (D16 39) ?_
 refine st17_ _ ?_
 refine kg X17_ hx (pc0 := 70) (pc' := 78) rfl hby (D16 41) (by decide) (by decide) ?_
 exact X17_.returnOut hx hret (hb hby (D16 42)) hr
theorem rsA2 (l : Launch) (Z : State) (a0 : Array Value) (hw : own_W Z a0) (ws : List Jvm.Cond) (o1 : Addr) (p1 : Int32) (a1 : Addr) (k1 : ClassId) (hi1 : Int32) (lo1 : Int32) (n1 : Nat) (t1 : Nat) (r1 : Int32) (h0 : Heap) (n0 : Nat) (Z0 : n0 ≤ h0.size) (S1 : own_SH Z h0 o1 a1 (2 : Int32) (0 : Int32) k1 (2 : Int32) [(.int hi1), (.int lo1)]) (g1 : n0 ≤ o1) (g2 : n0 ≤ a1) (eq1 : ((p1.toUInt32 >>> ((5 : Int32) &&& 31).toUInt32).toInt32) = (0 : Int32)) (er1 : (p1 &&& (31 : Int32)) = r1) (nr : ¬ (r1 = (0 : Int32))) (nl : r1 < ((32 : Int32) - (own_nlz hi1))) (me : (n1 / 2 ^ t1) = own_u ((hi1.toUInt32 >>> (r1 &&& 31).toUInt32).toInt32) * 4294967296 + own_u ((hi1 <<< (((32 : Int32) - r1) &&& 31)) ||| ((lo1.toUInt32 >>> (r1 &&& 31).toUInt32).toInt32))) (mg : 4294967296 ≤ (n1 / 2 ^ t1)) : own_Met l Y16 jdk_2101_method_35_code 5 none ⟨2, 0, 0, 26⟩ ws #[(.ref o1), (.int p1)] Z h0 (Q_rmRs Z o1 p1 a1 n1 t1 h0 n0) := by
 refine own_go (plainFor_of_name pn_java_math_MutableBigInteger) (fun m => ef16_RI m o1 p1) fun p e s m below meth c s₁ hx hby hml hown hnm hret hZ e0 X0 => ?_
 have N0 := Fr.nil n0
 obtain ⟨T1_, X1_, e1_, st1_⟩ := own_gN (pc := 0) (Ls := #[rv o1, iv p1, .unset, .unset, .unset]) (stk := []) X0 hx hZ hown (wt hw 50 rfl) e0 S1.2.2.2.1 hby (D16 0) (D16 1) rfl
 obtain ⟨T2_, X2_, e2_, st2_⟩ := own_gf (pc := 19) (Ls := #[rv o1, iv p1, iv 0, iv r1, .unset]) (stk := [(.ref o1), (.ref o1)]) X1_ hx hZ hown (wt hw 50 rfl) e1_ S1.2.2.2.1 hby (D16 13) rfl
 obtain ⟨T3_, h3_, X3_, e3_, W3_, w3_, N3_, st3_⟩ := own_pf (pc := 24) (Ls := #[rv o1, iv p1, iv 0, iv r1, .unset]) (stk := [(.int 2), (.ref o1)]) X2_ hx hZ hown (wt hw 50 rfl) e2_ S1.2.2.2.1 S1.1 (Or.inl (wt hw 51 rfl)) (wt hw 40 rfl) (ty := .int) (by decide) rfl rfl N0 g1 hby (D16 16) rfl
 have f4_ := S1.2.2.1.other W3_ (Or.inr (slot_ne (Or.inl (wt hw 66 rfl)) (Or.inl (wt hw 51 rfl)) (by decide) (t := (.array .int)) (t' := .int) (by decide) (by decide)))
 obtain ⟨T5_, X5_, e5_, st5_⟩ := own_gN (pc := 32) (Ls := #[rv o1, iv p1, iv 0, iv r1, .unset]) (stk := []) X3_ hx hZ hown (wt hw 65 rfl) e3_ f4_ hby (D16 20) (D16 21) rfl
 have f6_ := S1.2.2.2.2.1.other W3_ (Or.inr (slot_ne (Or.inl (wt hw 48 rfl)) (Or.inl (wt hw 51 rfl)) (by decide) (t := .int) (t' := .int) (by decide) (by decide)))
 obtain ⟨T7_, X7_, e7_, st7_⟩ := own_gN (pc := 36) (Ls := #[rv o1, iv p1, iv 0, iv r1, .unset]) (stk := [(.ref a1)]) X5_ hx hZ hown (wt hw 47 rfl) e5_ f6_ hby (D16 22) (D16 23) rfl
 have f8_ := S1.2.2.2.2.2.other W3_ (ne_exa S1.2.1 S1.1 (by decide))
 have z10_ : n0 ≤ h3_.size := Nat.le_trans Z0 (Keep.of_wr W3_).1
 obtain ⟨T9_, Lc9_, v9_, X9_, hQ9_, st9_⟩ := own_cS (y := Y17) X7_ hx hZ hown (wt hw 100 rfl) (wt hw 101 rfl) (wt hw 102 rfl) (wt hw 2 rfl) (by decide) (rmBl l Z a0 hw [] hi1 h3_ n0 z10_ ) e7_ (pc := 41) (Ls := #[rv o1, iv p1, iv 0, iv r1, .unset]) (stk := [(.int hi1)]) (rest := []) (by rw [hml]; rfl) pd0 rfl rfl (W := 0) rfl hby (D16 25) (by decide) (by decide) (by exact own_b rfl) (by exact own_b rfl)
 obtain ⟨rfl, Nq9_, ek9_⟩ := hQ9_
 have N9_ := Fr.app N3_ Nq9_
 have f12_ := S1.1.wr W3_
 have f13_ := S1.2.1.wr W3_
 obtain ⟨T11_, Lc11_, v11_, X11_, hQ11_, st11_⟩ := own_cV (y := Y19) X9_ hx hZ hown (wt hw 106 rfl) (wt hw 107 rfl) (wt hw 109 rfl) (wt hw 110 rfl) (wt hw 41 rfl) (by decide) (prsA l Z a0 hw [] o1 r1 a1 k1 hi1 lo1 h3_ n0 z10_ ⟨f12_, f13_, f4_, w3_, f6_, f8_⟩ g2) f12_ ek9_ (pc := 75) (Ls := #[rv o1, iv p1, iv 0, iv r1, iv ((32 : Int32) - (own_nlz hi1))]) (stk := [(.int r1), (.ref o1)]) (rest := []) (by rw [hml]; rfl) pd1 rfl rfl (W := 0) rfl hby (D16 45) (by decide) (by decide) (by exact own_b rfl) (by exact own_b rfl)
 obtain ⟨rfl, Nq11_, ek11_, p11__0⟩ := hQ11_
 have N11_ := Fr.app N9_ Nq11_
 have f14_ := f12_.keep ek11_
 have f15_ := f13_.keep ek11_
 have f16_ := f4_.keep ek11_ (ninS (ne_exa f12_ f13_ (by decide)) nin0)
 have f17_ := w3_.keep ek11_ (ninS (ne_exa f12_ f13_ (by decide)) nin0)
 have f18_ := f6_.keep ek11_ (ninS (ne_exa f12_ f13_ (by decide)) nin0)
 have mb_ : own_MB Z T11_.heap o1 a1 (n1 / 2 ^ t1) := own_MB.mkA ⟨f14_, f15_, f16_, f17_, f18_, p11__0⟩ me mg
 have k19_ := (Keep.refl h0 [o1, a1]).wr W3_ (own_in 0 rfl)
 have k20_ := k19_.trans ek11_ (allS (own_in 1 rfl) all0)
 refine ⟨_, _, _, _, none, X11_, (by exact own_b rfl), (by exact own_b rfl), (fun _ => rfl), (by show Q_rmRs Z o1 p1 a1 n1 t1 h0 n0 _ T11_.heap _; exact ⟨rfl, N11_, k20_, mb_⟩), fun fs hr => ?_⟩
 refine st1_ _ ?_
 refine kfY X1_ hx (pc0 := 4) (pc' := 8) rfl hby (D16 2) ((if0 _ _).trans (feq ((by decide) : ¬ ((2 : Int32) = (0 : Int32)))).2) (by decide) (by decide) ?_
 refine kiN X1_ hx hby (D16 3) rfl ?_
 refine kc X1_ hx hby (D16 4) ?_
 refine kiushr X1_ hx hby (D16 5) ?_
 refine own_rI (eq1) ?_
 refine ksN X1_ hx hby (D16 6) (l' := #[rv o1, iv p1, iv 0, .unset, .unset]) rfl ?_
 refine kiN X1_ hx hby (D16 7) rfl ?_
 refine kb X1_ hx hby (D16 8) ?_
 refine kiand X1_ hx hby (D16 9) ?_
 refine own_rI (er1) ?_
 refine ksN X1_ hx hby (D16 10) (l' := #[rv o1, iv p1, iv 0, iv r1, .unset]) rfl ?_
 refine kaN X1_ hx hby (D16 11) rfl rfl ?_
 refine kdup X1_ hx hby (D16 12) rfl ?_
 refine st2_ _ ?_
 refine kiN X2_ hx hby (D16 14) rfl ?_
 refine kis X2_ hx hby (D16 15) ?_
 refine st3_ _ ?_
 refine kiN X3_ hx hby (D16 17) rfl ?_
 refine kfY X3_ hx (pc0 := 28) (pc' := 32) rfl hby (D16 18) ((if0 _ _).trans (feq (nr : ¬ (r1 = (0 : Int32)))).2) (by decide) (by decide) ?_
 refine st5_ _ ?_
 refine st7_ _ ?_
 refine own_ia X7_ hx hZ e7_ f8_ ⟨by decide, by decide⟩ rfl hby (D16 24) ?_
 refine st9_ _ ?_
 refine ks X9_ hx hby (D16 26) (l' := #[rv o1, iv p1, iv 0, iv r1, iv ((32 : Int32) - (own_nlz hi1))]) rfl ?_
 refine kiN X9_ hx hby (D16 27) rfl ?_
 refine ki X9_ hx hby (D16 28) rfl ?_
 refine kcY X9_ hx (pc0 := 49) (pc' := 73) rfl hby (D16 29) (tlt (nl : r1 < ((32 : Int32) - (own_nlz hi1)))).1 (by decide) (by decide) ?_
 refine kaN X9_ hx hby (D16 43) rfl rfl ?_
 refine kiN X9_ hx hby (D16 44) rfl ?_
 refine st11_ _ ?_
 exact X11_.returnOut hx hret (hb hby (D16 42)) hr
theorem rsA3 (l : Launch) (Z : State) (a0 : Array Value) (hw : own_W Z a0) (ws : List Jvm.Cond) (o1 : Addr) (p1 : Int32) (a1 : Addr) (k1 : ClassId) (hi1 : Int32) (lo1 : Int32) (n1 : Nat) (t1 : Nat) (h0 : Heap) (n0 : Nat) (Z0 : n0 ≤ h0.size) (S1 : own_SH Z h0 o1 a1 (2 : Int32) (0 : Int32) k1 (2 : Int32) [(.int hi1), (.int lo1)]) (g1 : n0 ≤ o1) (g2 : n0 ≤ a1) (eq1 : ((p1.toUInt32 >>> ((5 : Int32) &&& 31).toUInt32).toInt32) = (1 : Int32)) (er1 : (p1 &&& (31 : Int32)) = (0 : Int32)) (me : own_u hi1 = (n1 / 2 ^ t1)) (mz : (n1 / 2 ^ t1) ≠ 0) : own_Met l Y16 jdk_2101_method_35_code 5 none ⟨2, 0, 0, 26⟩ ws #[(.ref o1), (.int p1)] Z h0 (Q_rmRs Z o1 p1 a1 n1 t1 h0 n0) := by
 refine own_go (plainFor_of_name pn_java_math_MutableBigInteger) (fun m => ef16_RI m o1 p1) fun p e s m below meth c s₁ hx hby hml hown hnm hret hZ e0 X0 => ?_
 have N0 := Fr.nil n0
 obtain ⟨T1_, X1_, e1_, st1_⟩ := own_gN (pc := 0) (Ls := #[rv o1, iv p1, .unset, .unset, .unset]) (stk := []) X0 hx hZ hown (wt hw 50 rfl) e0 S1.2.2.2.1 hby (D16 0) (D16 1) rfl
 obtain ⟨T2_, X2_, e2_, st2_⟩ := own_gf (pc := 19) (Ls := #[rv o1, iv p1, iv 1, iv 0, .unset]) (stk := [(.ref o1), (.ref o1)]) X1_ hx hZ hown (wt hw 50 rfl) e1_ S1.2.2.2.1 hby (D16 13) rfl
 obtain ⟨T3_, h3_, X3_, e3_, W3_, w3_, N3_, st3_⟩ := own_pf (pc := 24) (Ls := #[rv o1, iv p1, iv 1, iv 0, .unset]) (stk := [(.int 1), (.ref o1)]) X2_ hx hZ hown (wt hw 50 rfl) e2_ S1.2.2.2.1 S1.1 (Or.inl (wt hw 51 rfl)) (wt hw 40 rfl) (ty := .int) (by decide) rfl rfl N0 g1 hby (D16 16) rfl
 have f4_ := S1.1.wr W3_
 have f5_ := S1.2.1.wr W3_
 have f6_ := S1.2.2.1.other W3_ (Or.inr (slot_ne (Or.inl (wt hw 66 rfl)) (Or.inl (wt hw 51 rfl)) (by decide) (t := (.array .int)) (t' := .int) (by decide) (by decide)))
 have f7_ := S1.2.2.2.2.1.other W3_ (Or.inr (slot_ne (Or.inl (wt hw 48 rfl)) (Or.inl (wt hw 51 rfl)) (by decide) (t := .int) (t' := .int) (by decide) (by decide)))
 have f8_ := S1.2.2.2.2.2.other W3_ (ne_exa S1.2.1 S1.1 (by decide))
 have mb_ : own_MB Z h3_ o1 a1 (n1 / 2 ^ t1) := own_MB.mkB ⟨f4_, f5_, f6_, w3_, f7_, f8_⟩ (Or.inr (Or.inl ⟨_, rfl, rfl, rfl⟩)) me mz
 have k9_ := (Keep.refl h0 [o1, a1]).wr W3_ (own_in 0 rfl)
 refine ⟨_, _, _, _, none, X3_, (by exact own_b rfl), (by exact own_b rfl), (fun _ => rfl), (by show Q_rmRs Z o1 p1 a1 n1 t1 h0 n0 _ T3_.heap _; rw [e3_]; exact ⟨rfl, N3_, k9_, mb_⟩), fun fs hr => ?_⟩
 refine st1_ _ ?_
 refine kfY X1_ hx (pc0 := 4) (pc' := 8) rfl hby (D16 2) ((if0 _ _).trans (feq ((by decide) : ¬ ((2 : Int32) = (0 : Int32)))).2) (by decide) (by decide) ?_
 refine kiN X1_ hx hby (D16 3) rfl ?_
 refine kc X1_ hx hby (D16 4) ?_
 refine kiushr X1_ hx hby (D16 5) ?_
 refine own_rI (eq1) ?_
 refine ksN X1_ hx hby (D16 6) (l' := #[rv o1, iv p1, iv 1, .unset, .unset]) rfl ?_
 refine kiN X1_ hx hby (D16 7) rfl ?_
 refine kb X1_ hx hby (D16 8) ?_
 refine kiand X1_ hx hby (D16 9) ?_
 refine own_rI (er1) ?_
 refine ksN X1_ hx hby (D16 10) (l' := #[rv o1, iv p1, iv 1, iv 0, .unset]) rfl ?_
 refine kaN X1_ hx hby (D16 11) rfl rfl ?_
 refine kdup X1_ hx hby (D16 12) rfl ?_
 refine st2_ _ ?_
 refine kiN X2_ hx hby (D16 14) rfl ?_
 refine kis X2_ hx hby (D16 15) ?_
 refine st3_ _ ?_
 refine kiN X3_ hx hby (D16 17) rfl ?_
 refine kfN X3_ hx hby (D16 18) ((if0 _ _).trans (teq ((by decide) : (0 : Int32) = (0 : Int32))).2) ?_
 exact X3_.returnOut hx hret (hb hby (D16 19)) hr
theorem rsA4 (l : Launch) (Z : State) (a0 : Array Value) (hw : own_W Z a0) (ws : List Jvm.Cond) (o1 : Addr) (p1 : Int32) (a1 : Addr) (k1 : ClassId) (hi1 : Int32) (lo1 : Int32) (n1 : Nat) (t1 : Nat) (r1 : Int32) (h0 : Heap) (n0 : Nat) (Z0 : n0 ≤ h0.size) (S1 : own_SH Z h0 o1 a1 (2 : Int32) (0 : Int32) k1 (2 : Int32) [(.int hi1), (.int lo1)]) (g1 : n0 ≤ o1) (g2 : n0 ≤ a1) (eq1 : ((p1.toUInt32 >>> ((5 : Int32) &&& 31).toUInt32).toInt32) = (1 : Int32)) (er1 : (p1 &&& (31 : Int32)) = r1) (nr : ¬ (r1 = (0 : Int32))) (nl : r1 < ((32 : Int32) - (own_nlz hi1))) (me : own_u ((hi1.toUInt32 >>> (r1 &&& 31).toUInt32).toInt32) = (n1 / 2 ^ t1)) (mz : (n1 / 2 ^ t1) ≠ 0) : own_Met l Y16 jdk_2101_method_35_code 5 none ⟨2, 0, 0, 26⟩ ws #[(.ref o1), (.int p1)] Z h0 (Q_rmRs Z o1 p1 a1 n1 t1 h0 n0) := by
 refine own_go (plainFor_of_name pn_java_math_MutableBigInteger) (fun m => ef16_RI m o1 p1) fun p e s m below meth c s₁ hx hby hml hown hnm hret hZ e0 X0 => ?_
 have N0 := Fr.nil n0
 obtain ⟨T1_, X1_, e1_, st1_⟩ := own_gN (pc := 0) (Ls := #[rv o1, iv p1, .unset, .unset, .unset]) (stk := []) X0 hx hZ hown (wt hw 50 rfl) e0 S1.2.2.2.1 hby (D16 0) (D16 1) rfl
 obtain ⟨T2_, X2_, e2_, st2_⟩ := own_gf (pc := 19) (Ls := #[rv o1, iv p1, iv 1, iv r1, .unset]) (stk := [(.ref o1), (.ref o1)]) X1_ hx hZ hown (wt hw 50 rfl) e1_ S1.2.2.2.1 hby (D16 13) rfl
 obtain ⟨T3_, h3_, X3_, e3_, W3_, w3_, N3_, st3_⟩ := own_pf (pc := 24) (Ls := #[rv o1, iv p1, iv 1, iv r1, .unset]) (stk := [(.int 1), (.ref o1)]) X2_ hx hZ hown (wt hw 50 rfl) e2_ S1.2.2.2.1 S1.1 (Or.inl (wt hw 51 rfl)) (wt hw 40 rfl) (ty := .int) (by decide) rfl rfl N0 g1 hby (D16 16) rfl
 have f4_ := S1.2.2.1.other W3_ (Or.inr (slot_ne (Or.inl (wt hw 66 rfl)) (Or.inl (wt hw 51 rfl)) (by decide) (t := (.array .int)) (t' := .int) (by decide) (by decide)))
 obtain ⟨T5_, X5_, e5_, st5_⟩ := own_gN (pc := 32) (Ls := #[rv o1, iv p1, iv 1, iv r1, .unset]) (stk := []) X3_ hx hZ hown (wt hw 65 rfl) e3_ f4_ hby (D16 20) (D16 21) rfl
 have f6_ := S1.2.2.2.2.1.other W3_ (Or.inr (slot_ne (Or.inl (wt hw 48 rfl)) (Or.inl (wt hw 51 rfl)) (by decide) (t := .int) (t' := .int) (by decide) (by decide)))
 obtain ⟨T7_, X7_, e7_, st7_⟩ := own_gN (pc := 36) (Ls := #[rv o1, iv p1, iv 1, iv r1, .unset]) (stk := [(.ref a1)]) X5_ hx hZ hown (wt hw 47 rfl) e5_ f6_ hby (D16 22) (D16 23) rfl
 have f8_ := S1.2.2.2.2.2.other W3_ (ne_exa S1.2.1 S1.1 (by decide))
 have z10_ : n0 ≤ h3_.size := Nat.le_trans Z0 (Keep.of_wr W3_).1
 obtain ⟨T9_, Lc9_, v9_, X9_, hQ9_, st9_⟩ := own_cS (y := Y17) X7_ hx hZ hown (wt hw 100 rfl) (wt hw 101 rfl) (wt hw 102 rfl) (wt hw 2 rfl) (by decide) (rmBl l Z a0 hw [] hi1 h3_ n0 z10_ ) e7_ (pc := 41) (Ls := #[rv o1, iv p1, iv 1, iv r1, .unset]) (stk := [(.int hi1)]) (rest := []) (by rw [hml]; rfl) pd0 rfl rfl (W := 0) rfl hby (D16 25) (by decide) (by decide) (by exact own_b rfl) (by exact own_b rfl)
 obtain ⟨rfl, Nq9_, ek9_⟩ := hQ9_
 have N9_ := Fr.app N3_ Nq9_
 have f12_ := S1.1.wr W3_
 have f13_ := S1.2.1.wr W3_
 obtain ⟨T11_, Lc11_, v11_, X11_, hQ11_, st11_⟩ := own_cV (y := Y19) X9_ hx hZ hown (wt hw 106 rfl) (wt hw 107 rfl) (wt hw 109 rfl) (wt hw 110 rfl) (wt hw 41 rfl) (by decide) (prsB l Z a0 hw [] o1 r1 a1 k1 (2 : Int32) [(.int hi1), (.int lo1)] (0 : Int32) hi1 h3_ n0 z10_ ⟨f12_, f13_, f4_, w3_, f6_, f8_⟩ (Or.inr (Or.inl ⟨lo1, rfl, rfl, rfl⟩)) g2) f12_ ek9_ (pc := 75) (Ls := #[rv o1, iv p1, iv 1, iv r1, iv ((32 : Int32) - (own_nlz hi1))]) (stk := [(.int r1), (.ref o1)]) (rest := []) (by rw [hml]; rfl) pd1 rfl rfl (W := 0) rfl hby (D16 45) (by decide) (by decide) (by exact own_b rfl) (by exact own_b rfl)
 obtain ⟨rfl, Nq11_, ek11_, p11__0⟩ := hQ11_
 have N11_ := Fr.app N9_ Nq11_
 have f14_ := f12_.keep ek11_
 have f15_ := f13_.keep ek11_
 have f16_ := f4_.keep ek11_ (ninS (ne_exa f12_ f13_ (by decide)) nin0)
 have f17_ := w3_.keep ek11_ (ninS (ne_exa f12_ f13_ (by decide)) nin0)
 have f18_ := f6_.keep ek11_ (ninS (ne_exa f12_ f13_ (by decide)) nin0)
 have mb_ : own_MB Z T11_.heap o1 a1 (n1 / 2 ^ t1) := own_MB.mkB ⟨f14_, f15_, f16_, f17_, f18_, p11__0⟩ (Or.inr (Or.inl ⟨lo1, rfl, rfl, rfl⟩)) me mz
 have k19_ := (Keep.refl h0 [o1, a1]).wr W3_ (own_in 0 rfl)
 have k20_ := k19_.trans ek11_ (allS (own_in 1 rfl) all0)
 refine ⟨_, _, _, _, none, X11_, (by exact own_b rfl), (by exact own_b rfl), (fun _ => rfl), (by show Q_rmRs Z o1 p1 a1 n1 t1 h0 n0 _ T11_.heap _; exact ⟨rfl, N11_, k20_, mb_⟩), fun fs hr => ?_⟩
 refine st1_ _ ?_
 refine kfY X1_ hx (pc0 := 4) (pc' := 8) rfl hby (D16 2) ((if0 _ _).trans (feq ((by decide) : ¬ ((2 : Int32) = (0 : Int32)))).2) (by decide) (by decide) ?_
 refine kiN X1_ hx hby (D16 3) rfl ?_
 refine kc X1_ hx hby (D16 4) ?_
 refine kiushr X1_ hx hby (D16 5) ?_
 refine own_rI (eq1) ?_
 refine ksN X1_ hx hby (D16 6) (l' := #[rv o1, iv p1, iv 1, .unset, .unset]) rfl ?_
 refine kiN X1_ hx hby (D16 7) rfl ?_
 refine kb X1_ hx hby (D16 8) ?_
 refine kiand X1_ hx hby (D16 9) ?_
 refine own_rI (er1) ?_
 refine ksN X1_ hx hby (D16 10) (l' := #[rv o1, iv p1, iv 1, iv r1, .unset]) rfl ?_
 refine kaN X1_ hx hby (D16 11) rfl rfl ?_
 refine kdup X1_ hx hby (D16 12) rfl ?_
 refine st2_ _ ?_
 refine kiN X2_ hx hby (D16 14) rfl ?_
 refine kis X2_ hx hby (D16 15) ?_
 refine st3_ _ ?_
 refine kiN X3_ hx hby (D16 17) rfl ?_
 refine kfY X3_ hx (pc0 := 28) (pc' := 32) rfl hby (D16 18) ((if0 _ _).trans (feq (nr : ¬ (r1 = (0 : Int32)))).2) (by decide) (by decide) ?_
 refine st5_ _ ?_
 refine st7_ _ ?_
 refine own_ia X7_ hx hZ e7_ f8_ ⟨by decide, by decide⟩ rfl hby (D16 24) ?_
 refine st9_ _ ?_
 refine ks X9_ hx hby (D16 26) (l' := #[rv o1, iv p1, iv 1, iv r1, iv ((32 : Int32) - (own_nlz hi1))]) rfl ?_
 refine kiN X9_ hx hby (D16 27) rfl ?_
 refine ki X9_ hx hby (D16 28) rfl ?_
 refine kcY X9_ hx (pc0 := 49) (pc' := 73) rfl hby (D16 29) (tlt (nl : r1 < ((32 : Int32) - (own_nlz hi1)))).1 (by decide) (by decide) ?_
 refine kaN X9_ hx hby (D16 43) rfl rfl ?_
 refine kiN X9_ hx hby (D16 44) rfl ?_
 refine st11_ _ ?_
 exact X11_.returnOut hx hret (hb hby (D16 42)) hr
theorem rsB0 (l : Launch) (Z : State) (a0 : Array Value) (hw : own_W Z a0) (ws : List Jvm.Cond) (o1 : Addr) (p1 : Int32) (a1 : Addr) (k1 : ClassId) (z1 : Int32) (vs1 : List Value) (j1 : Int32) (x1 : Int32) (n1 : Nat) (t1 : Nat) (h0 : Heap) (n0 : Nat) (Z0 : n0 ≤ h0.size) (S1 : own_SH Z h0 o1 a1 (1 : Int32) j1 k1 z1 vs1) (xB1 : own_B z1 vs1 j1 x1) (g1 : n0 ≤ o1) (g2 : n0 ≤ a1) (eq1 : ((p1.toUInt32 >>> ((5 : Int32) &&& 31).toUInt32).toInt32) = (0 : Int32)) (er1 : (p1 &&& (31 : Int32)) = (0 : Int32)) (me : own_u x1 = (n1 / 2 ^ t1)) (mz : (n1 / 2 ^ t1) ≠ 0) : own_Met l Y16 jdk_2101_method_35_code 5 none ⟨2, 0, 0, 26⟩ ws #[(.ref o1), (.int p1)] Z h0 (Q_rmRs Z o1 p1 a1 n1 t1 h0 n0) := by
 refine own_go (plainFor_of_name pn_java_math_MutableBigInteger) (fun m => ef16_RI m o1 p1) fun p e s m below meth c s₁ hx hby hml hown hnm hret hZ e0 X0 => ?_
 have N0 := Fr.nil n0
 obtain ⟨T1_, X1_, e1_, st1_⟩ := own_gN (pc := 0) (Ls := #[rv o1, iv p1, .unset, .unset, .unset]) (stk := []) X0 hx hZ hown (wt hw 50 rfl) e0 S1.2.2.2.1 hby (D16 0) (D16 1) rfl
 obtain ⟨T2_, X2_, e2_, st2_⟩ := own_gf (pc := 19) (Ls := #[rv o1, iv p1, iv 0, iv 0, .unset]) (stk := [(.ref o1), (.ref o1)]) X1_ hx hZ hown (wt hw 50 rfl) e1_ S1.2.2.2.1 hby (D16 13) rfl
 obtain ⟨T3_, h3_, X3_, e3_, W3_, w3_, N3_, st3_⟩ := own_pf (pc := 24) (Ls := #[rv o1, iv p1, iv 0, iv 0, .unset]) (stk := [(.int 1), (.ref o1)]) X2_ hx hZ hown (wt hw 50 rfl) e2_ S1.2.2.2.1 S1.1 (Or.inl (wt hw 51 rfl)) (wt hw 40 rfl) (ty := .int) (by decide) rfl rfl N0 g1 hby (D16 16) rfl
 have f4_ := S1.1.wr W3_
 have f5_ := S1.2.1.wr W3_
 have f6_ := S1.2.2.1.other W3_ (Or.inr (slot_ne (Or.inl (wt hw 66 rfl)) (Or.inl (wt hw 51 rfl)) (by decide) (t := (.array .int)) (t' := .int) (by decide) (by decide)))
 have f7_ := S1.2.2.2.2.1.other W3_ (Or.inr (slot_ne (Or.inl (wt hw 48 rfl)) (Or.inl (wt hw 51 rfl)) (by decide) (t := .int) (t' := .int) (by decide) (by decide)))
 have f8_ := S1.2.2.2.2.2.other W3_ (ne_exa S1.2.1 S1.1 (by decide))
 have mb_ : own_MB Z h3_ o1 a1 (n1 / 2 ^ t1) := own_MB.mkB ⟨f4_, f5_, f6_, w3_, f7_, f8_⟩ xB1 me mz
 have k9_ := (Keep.refl h0 [o1, a1]).wr W3_ (own_in 0 rfl)
 refine ⟨_, _, _, _, none, X3_, (by exact own_b rfl), (by exact own_b rfl), (fun _ => rfl), (by show Q_rmRs Z o1 p1 a1 n1 t1 h0 n0 _ T3_.heap _; rw [e3_]; exact ⟨rfl, N3_, k9_, mb_⟩), fun fs hr => ?_⟩
 refine st1_ _ ?_
 refine kfY X1_ hx (pc0 := 4) (pc' := 8) rfl hby (D16 2) ((if0 _ _).trans (feq ((by decide) : ¬ ((1 : Int32) = (0 : Int32)))).2) (by decide) (by decide) ?_
 refine kiN X1_ hx hby (D16 3) rfl ?_
 refine kc X1_ hx hby (D16 4) ?_
 refine kiushr X1_ hx hby (D16 5) ?_
 refine own_rI (eq1) ?_
 refine ksN X1_ hx hby (D16 6) (l' := #[rv o1, iv p1, iv 0, .unset, .unset]) rfl ?_
 refine kiN X1_ hx hby (D16 7) rfl ?_
 refine kb X1_ hx hby (D16 8) ?_
 refine kiand X1_ hx hby (D16 9) ?_
 refine own_rI (er1) ?_
 refine ksN X1_ hx hby (D16 10) (l' := #[rv o1, iv p1, iv 0, iv 0, .unset]) rfl ?_
 refine kaN X1_ hx hby (D16 11) rfl rfl ?_
 refine kdup X1_ hx hby (D16 12) rfl ?_
 refine st2_ _ ?_
 refine kiN X2_ hx hby (D16 14) rfl ?_
 refine kis X2_ hx hby (D16 15) ?_
 refine st3_ _ ?_
 refine kiN X3_ hx hby (D16 17) rfl ?_
 refine kfN X3_ hx hby (D16 18) ((if0 _ _).trans (teq ((by decide) : (0 : Int32) = (0 : Int32))).2) ?_
 exact X3_.returnOut hx hret (hb hby (D16 19)) hr
theorem rsB1 (l : Launch) (Z : State) (a0 : Array Value) (hw : own_W Z a0) (ws : List Jvm.Cond) (o1 : Addr) (p1 : Int32) (a1 : Addr) (k1 : ClassId) (z1 : Int32) (vs1 : List Value) (j1 : Int32) (x1 : Int32) (n1 : Nat) (t1 : Nat) (r1 : Int32) (h0 : Heap) (n0 : Nat) (Z0 : n0 ≤ h0.size) (S1 : own_SH Z h0 o1 a1 (1 : Int32) j1 k1 z1 vs1) (xB1 : own_B z1 vs1 j1 x1) (g1 : n0 ≤ o1) (g2 : n0 ≤ a1) (eq1 : ((p1.toUInt32 >>> ((5 : Int32) &&& 31).toUInt32).toInt32) = (0 : Int32)) (er1 : (p1 &&& (31 : Int32)) = r1) (nr : ¬ (r1 = (0 : Int32))) (nl : r1 < ((32 : Int32) - (own_nlz x1))) (me : own_u ((x1.toUInt32 >>> (r1 &&& 31).toUInt32).toInt32) = (n1 / 2 ^ t1)) (mz : (n1 / 2 ^ t1) ≠ 0) : own_Met l Y16 jdk_2101_method_35_code 5 none ⟨2, 0, 0, 26⟩ ws #[(.ref o1), (.int p1)] Z h0 (Q_rmRs Z o1 p1 a1 n1 t1 h0 n0) := by
 refine own_go (plainFor_of_name pn_java_math_MutableBigInteger) (fun m => ef16_RI m o1 p1) fun p e s m below meth c s₁ hx hby hml hown hnm hret hZ e0 X0 => ?_
 have N0 := Fr.nil n0
 obtain ⟨T1_, X1_, e1_, st1_⟩ := own_gN (pc := 0) (Ls := #[rv o1, iv p1, .unset, .unset, .unset]) (stk := []) X0 hx hZ hown (wt hw 50 rfl) e0 S1.2.2.2.1 hby (D16 0) (D16 1) rfl
 obtain ⟨T2_, X2_, e2_, st2_⟩ := own_gf (pc := 19) (Ls := #[rv o1, iv p1, iv 0, iv r1, .unset]) (stk := [(.ref o1), (.ref o1)]) X1_ hx hZ hown (wt hw 50 rfl) e1_ S1.2.2.2.1 hby (D16 13) rfl
 obtain ⟨T3_, h3_, X3_, e3_, W3_, w3_, N3_, st3_⟩ := own_pf (pc := 24) (Ls := #[rv o1, iv p1, iv 0, iv r1, .unset]) (stk := [(.int 1), (.ref o1)]) X2_ hx hZ hown (wt hw 50 rfl) e2_ S1.2.2.2.1 S1.1 (Or.inl (wt hw 51 rfl)) (wt hw 40 rfl) (ty := .int) (by decide) rfl rfl N0 g1 hby (D16 16) rfl
 have f4_ := S1.2.2.1.other W3_ (Or.inr (slot_ne (Or.inl (wt hw 66 rfl)) (Or.inl (wt hw 51 rfl)) (by decide) (t := (.array .int)) (t' := .int) (by decide) (by decide)))
 obtain ⟨T5_, X5_, e5_, st5_⟩ := own_gN (pc := 32) (Ls := #[rv o1, iv p1, iv 0, iv r1, .unset]) (stk := []) X3_ hx hZ hown (wt hw 65 rfl) e3_ f4_ hby (D16 20) (D16 21) rfl
 have f6_ := S1.2.2.2.2.1.other W3_ (Or.inr (slot_ne (Or.inl (wt hw 48 rfl)) (Or.inl (wt hw 51 rfl)) (by decide) (t := .int) (t' := .int) (by decide) (by decide)))
 obtain ⟨T7_, X7_, e7_, st7_⟩ := own_gN (pc := 36) (Ls := #[rv o1, iv p1, iv 0, iv r1, .unset]) (stk := [(.ref a1)]) X5_ hx hZ hown (wt hw 47 rfl) e5_ f6_ hby (D16 22) (D16 23) rfl
 have f8_ := S1.2.2.2.2.2.other W3_ (ne_exa S1.2.1 S1.1 (by decide))
 have z10_ : n0 ≤ h3_.size := Nat.le_trans Z0 (Keep.of_wr W3_).1
 obtain ⟨T9_, Lc9_, v9_, X9_, hQ9_, st9_⟩ := own_cS (y := Y17) X7_ hx hZ hown (wt hw 100 rfl) (wt hw 101 rfl) (wt hw 102 rfl) (wt hw 2 rfl) (by decide) (rmBl l Z a0 hw [] x1 h3_ n0 z10_ ) e7_ (pc := 41) (Ls := #[rv o1, iv p1, iv 0, iv r1, .unset]) (stk := [(.int x1)]) (rest := []) (by rw [hml]; rfl) pd0 rfl rfl (W := 0) rfl hby (D16 25) (by decide) (by decide) (by exact own_b rfl) (by exact own_b rfl)
 obtain ⟨rfl, Nq9_, ek9_⟩ := hQ9_
 have N9_ := Fr.app N3_ Nq9_
 have f12_ := S1.1.wr W3_
 have f13_ := S1.2.1.wr W3_
 obtain ⟨T11_, Lc11_, v11_, X11_, hQ11_, st11_⟩ := own_cV (y := Y19) X9_ hx hZ hown (wt hw 106 rfl) (wt hw 107 rfl) (wt hw 109 rfl) (wt hw 110 rfl) (wt hw 41 rfl) (by decide) (prsB l Z a0 hw [] o1 r1 a1 k1 z1 vs1 j1 x1 h3_ n0 z10_ ⟨f12_, f13_, f4_, w3_, f6_, f8_⟩ xB1 g2) f12_ ek9_ (pc := 75) (Ls := #[rv o1, iv p1, iv 0, iv r1, iv ((32 : Int32) - (own_nlz x1))]) (stk := [(.int r1), (.ref o1)]) (rest := []) (by rw [hml]; rfl) pd1 rfl rfl (W := 0) rfl hby (D16 45) (by decide) (by decide) (by exact own_b rfl) (by exact own_b rfl)
 obtain ⟨rfl, Nq11_, ek11_, p11__0⟩ := hQ11_
 have N11_ := Fr.app N9_ Nq11_
 have f14_ := f12_.keep ek11_
 have f15_ := f13_.keep ek11_
 have f16_ := f4_.keep ek11_ (ninS (ne_exa f12_ f13_ (by decide)) nin0)
 have f17_ := w3_.keep ek11_ (ninS (ne_exa f12_ f13_ (by decide)) nin0)
 have f18_ := f6_.keep ek11_ (ninS (ne_exa f12_ f13_ (by decide)) nin0)
 have mb_ : own_MB Z T11_.heap o1 a1 (n1 / 2 ^ t1) := own_MB.mkB ⟨f14_, f15_, f16_, f17_, f18_, p11__0⟩ (own_B.set xB1 _) me mz
 have k19_ := (Keep.refl h0 [o1, a1]).wr W3_ (own_in 0 rfl)
 have k20_ := k19_.trans ek11_ (allS (own_in 1 rfl) all0)
 refine ⟨_, _, _, _, none, X11_, (by exact own_b rfl), (by exact own_b rfl), (fun _ => rfl), (by show Q_rmRs Z o1 p1 a1 n1 t1 h0 n0 _ T11_.heap _; exact ⟨rfl, N11_, k20_, mb_⟩), fun fs hr => ?_⟩
 refine st1_ _ ?_
 refine kfY X1_ hx (pc0 := 4) (pc' := 8) rfl hby (D16 2) ((if0 _ _).trans (feq ((by decide) : ¬ ((1 : Int32) = (0 : Int32)))).2) (by decide) (by decide) ?_
 refine kiN X1_ hx hby (D16 3) rfl ?_
 refine kc X1_ hx hby (D16 4) ?_
 refine kiushr X1_ hx hby (D16 5) ?_
 refine own_rI (eq1) ?_
 refine ksN X1_ hx hby (D16 6) (l' := #[rv o1, iv p1, iv 0, .unset, .unset]) rfl ?_
 refine kiN X1_ hx hby (D16 7) rfl ?_
 refine kb X1_ hx hby (D16 8) ?_
 refine kiand X1_ hx hby (D16 9) ?_
 refine own_rI (er1) ?_
 refine ksN X1_ hx hby (D16 10) (l' := #[rv o1, iv p1, iv 0, iv r1, .unset]) rfl ?_
 refine kaN X1_ hx hby (D16 11) rfl rfl ?_
 refine kdup X1_ hx hby (D16 12) rfl ?_
 refine st2_ _ ?_
 refine kiN X2_ hx hby (D16 14) rfl ?_
 refine kis X2_ hx hby (D16 15) ?_
 refine st3_ _ ?_
 refine kiN X3_ hx hby (D16 17) rfl ?_
 refine kfY X3_ hx (pc0 := 28) (pc' := 32) rfl hby (D16 18) ((if0 _ _).trans (feq (nr : ¬ (r1 = (0 : Int32)))).2) (by decide) (by decide) ?_
 refine st5_ _ ?_
 refine st7_ _ ?_
 refine own_ia X7_ hx hZ e7_ f8_ (by exact (own_B.at xB1).1) (by exact (own_B.at xB1).2.1) hby (D16 24) ?_
 refine st9_ _ ?_
 refine ks X9_ hx hby (D16 26) (l' := #[rv o1, iv p1, iv 0, iv r1, iv ((32 : Int32) - (own_nlz x1))]) rfl ?_
 refine kiN X9_ hx hby (D16 27) rfl ?_
 refine ki X9_ hx hby (D16 28) rfl ?_
 refine kcY X9_ hx (pc0 := 49) (pc' := 73) rfl hby (D16 29) (tlt (nl : r1 < ((32 : Int32) - (own_nlz x1)))).1 (by decide) (by decide) ?_
 refine kaN X9_ hx hby (D16 43) rfl rfl ?_
 refine kiN X9_ hx hby (D16 44) rfl ?_
 refine st11_ _ ?_
 exact X11_.returnOut hx hret (hb hby (D16 42)) hr
theorem rmRs (l : Launch) (Z : State) (a0 : Array Value) (hw : own_W Z a0) (ws : List Jvm.Cond) (o1 : Addr) (p1 : Int32) (a1 : Addr) (n1 : Nat) (t1 : Nat) (h0 : Heap) (n0 : Nat) (Z0 : n0 ≤ h0.size) (M1 : own_MB Z h0 o1 a1 n1) (g1 : n0 ≤ o1) (g2 : n0 ≤ a1) (ep : p1 = Int32.ofNat t1) (ed : 2 ^ t1 ∣ n1) :
    own_Met l Y16 jdk_2101_method_35_code 5 none ⟨2, 0, 0, 26⟩ ws #[(.ref o1), (.int p1)] Z h0 (Q_rmRs Z o1 p1 a1 n1 t1 h0 n0) := by
  have mz := own_div_pos M1.nz ed
  have tb : t1 < 64 := own_dvd_small M1.nz ed 64 M1.big
  subst ep
  by_cases c : n1 < 4294967296
  · obtain ⟨k, z, vs, j, x, S, B, e⟩ := M1.dB c
    have nx : ¬ (x = (0 : Int32)) := fun q => M1.nz (e ▸ own_u0.mpr q)
    have tl : t1 < 32 := own_dvd_small M1.nz ed 32 c
    have e5 := own_p5 t1 tb
    rw [show t1 / 32 = 0 by omega, show t1 % 32 = t1 by omega] at e5
    by_cases d : t1 = 0
    · subst d
      exact rsB0 l Z a0 hw ws _ _ _ _ _ _ _ _ _ _ h0 n0 Z0 S B g1 g2 e5.1 e5.2 (by rw [e]; simp) mz
    · exact rsB1 l Z a0 hw ws _ _ _ _ _ _ _ _ _ _ _ h0 n0 Z0 S B g1 g2 e5.1 e5.2 (own_nz32 d tl) ((own_bl_lt x nx tl).mpr (by rw [e]; exact Nat.le_of_dvd (Nat.pos_of_ne_zero M1.nz) ed)) (by rw [own_shr_u x _ t1 tl rfl, e]) mz
  · obtain ⟨k, hi, lo, S, e⟩ := M1.dA c
    have nh : ¬ (hi = (0 : Int32)) := fun q => by have q2 := own_u0.mpr q; have := own_u_lt lo; rw [q2] at e; omega
    have hl := own_u_lt lo
    have e5 := own_p5 t1 tb
    by_cases tl : t1 < 32
    · rw [show t1 / 32 = 0 by omega, show t1 % 32 = t1 by omega] at e5
      by_cases d : t1 = 0
      · subst d
        exact rsA0 l Z a0 hw ws _ _ _ _ _ _ _ _ h0 n0 Z0 S g1 g2 e5.1 e5.2 (by rw [e]; simp) (by simp; omega)
      · have dv := own_div2 e hl tl
        have k4 : (32 : Int32) - Int32.ofNat t1 = Int32.ofNat (32 - t1) := (own_k31 ⟨t1, tl⟩).2.2.2
        have k5 : (32 : Int32) - Int32.ofNat (32 - t1) = Int32.ofNat t1 := by have := (own_k31 ⟨32 - t1, by omega⟩).2.2.2; rw [show 32 - (32 - t1) = t1 by omega] at this; exact this
        by_cases q : 2 ^ t1 ≤ own_u hi
        · have qp : 0 < own_u hi / 2 ^ t1 := Nat.div_pos q (Nat.two_pow_pos t1)
          exact rsA2 l Z a0 hw ws _ _ _ _ _ _ _ _ _ h0 n0 Z0 S g1 g2 e5.1 e5.2 (own_nz32 d tl) ((own_bl_lt hi nh tl).mpr q) (by rw [dv, own_shr_u hi _ t1 tl rfl, own_or_u hi lo _ _ t1 tl (by omega) rfl k4]) (by rw [dv]; exact Nat.le_trans (Nat.le_mul_of_pos_left _ qp) (Nat.le_add_right _ _))
        · exact rsA1 l Z a0 hw ws _ _ _ _ _ _ _ _ _ h0 n0 Z0 S g1 g2 e5.1 e5.2 (own_nz32 d tl) (fun z => q ((own_bl_lt hi nh tl).mp z)) (by rw [dv, own_or_u hi lo _ _ t1 tl (by omega) (by rw [k4]; exact k5) k4, Nat.div_eq_of_lt (Nat.lt_of_not_le q)]; omega) mz
    · obtain ⟨r, hr⟩ : ∃ r, t1 = 32 + r := ⟨t1 - 32, by omega⟩
      rw [show t1 / 32 = 1 by omega, show t1 % 32 = r by omega] at e5
      obtain ⟨l0, dv⟩ := own_divA (q := 0) hl hr (e ▸ ed)
      rw [← e] at dv
      by_cases d : r = 0
      · subst d
        exact rsA3 l Z a0 hw ws _ _ _ _ _ _ _ _ h0 n0 Z0 S g1 g2 e5.1 e5.2 (by rw [dv]; simp) mz
      · have rl : r < 32 := by omega
        exact rsA4 l Z a0 hw ws _ _ _ _ _ _ _ _ _ h0 n0 Z0 S g1 g2 e5.1 e5.2 (own_nz32 d rl) ((own_bl_lt hi nh rl).mpr (Nat.le_of_not_lt fun q => mz (by rw [dv, Nat.div_eq_of_lt q]))) (by rw [own_shr_u hi _ r rl rfl, dv]) mz
def Q_rmNo (Z : State) (o1 : Addr) (a1 : Addr) (k1 : ClassId) (hi1 : Int32) (lo1 : Int32) (n1 : Nat) (h0 : Heap) (n0 : Nat) (v : Option Value) (h : Heap) (L : List Loc) : Prop := v = none ∧ Fr n0 L ∧ Keep h0 h [o1, a1] ∧ (own_MB Z h o1 a1 n1)
abbrev Y38 : MethodName := ⟨"java/math/MutableBigInteger", "normalize", "()V"⟩
theorem ef38_R (m : MethodId) (x0 : Addr) : entryFrame m #[(.ref x0)] 4 = mkF m 0 #[rv x0, .unset, .unset, .unset] [] := by first | (simp [entryFrame, mkF, argsToLocals, Value.category]; done) | rfl
theorem noA (l : Launch) (Z : State) (a0 : Array Value) (hw : own_W Z a0) (ws : List Jvm.Cond) (o1 : Addr) (a1 : Addr) (k1 : ClassId) (hi1 : Int32) (lo1 : Int32) (n1 : Nat) (h0 : Heap) (n0 : Nat) (Z0 : n0 ≤ h0.size) (S1 : own_SH Z h0 o1 a1 (2 : Int32) (0 : Int32) k1 (2 : Int32) [(.int hi1), (.int lo1)]) (g1 : n0 ≤ o1) (g2 : n0 ≤ a1) (nu : n1 = own_u hi1 * 4294967296 + own_u lo1) (nz : n1 ≠ 0) (nh : ¬ (hi1 = (0 : Int32))) : own_Met l Y38 jdk_2101_method_21_code 4 none ⟨0, 0, 0, 0⟩ ws #[(.ref o1)] Z h0 (Q_rmNo Z o1 a1 k1 hi1 lo1 n1 h0 n0) := by
 refine own_go (plainFor_of_name pn_java_math_MutableBigInteger) (fun m => ef38_R m o1) fun p e s m below meth c s₁ hx hby hml hown hnm hret hZ e0 X0 => ?_
 have N0 := Fr.nil n0
 obtain ⟨T1_, X1_, e1_, st1_⟩ := own_gN (pc := 0) (Ls := #[rv o1, .unset, .unset, .unset]) (stk := []) X0 hx hZ hown (wt hw 50 rfl) e0 S1.2.2.2.1 hby (D38 0) (D38 1) rfl
 obtain ⟨T2_, X2_, e2_, st2_⟩ := own_gN (pc := 13) (Ls := #[rv o1, .unset, .unset, .unset]) (stk := []) X1_ hx hZ hown (wt hw 47 rfl) e1_ S1.2.2.2.2.1 hby (D38 3) (D38 4) rfl
 obtain ⟨T3_, X3_, e3_, st3_⟩ := own_gN (pc := 18) (Ls := #[rv o1, iv 0, .unset, .unset]) (stk := []) X2_ hx hZ hown (wt hw 65 rfl) e2_ S1.2.2.1 hby (D38 6) (D38 7) rfl
 have mb_ : own_MB Z h0 o1 a1 n1 := own_MB.mkA ⟨S1.1, S1.2.1, S1.2.2.1, S1.2.2.2.1, S1.2.2.2.2.1, S1.2.2.2.2.2⟩ nu (own_hi1 nu nh)
 refine ⟨_, _, _, _, none, X3_, (by exact own_b rfl), (by exact own_b rfl), (fun _ => rfl), (by show Q_rmNo Z o1 a1 k1 hi1 lo1 n1 h0 n0 _ T3_.heap _; rw [e3_]; exact ⟨rfl, N0, (Keep.refl h0 [o1, a1]), mb_⟩), fun fs hr => ?_⟩
 refine st1_ _ ?_
 refine kfY X1_ hx (pc0 := 4) (pc' := 13) rfl hby (D38 2) ((if0 _ _).trans (feq ((by decide) : ¬ ((2 : Int32) = (0 : Int32)))).2) (by decide) (by decide) ?_
 refine st2_ _ ?_
 refine ksN X2_ hx hby (D38 5) (l' := #[rv o1, iv 0, .unset, .unset]) rfl ?_
 refine st3_ _ ?_
 refine kiN X3_ hx hby (D38 8) rfl ?_
 refine own_ia X3_ hx hZ e3_ S1.2.2.2.2.2 ⟨by decide, by decide⟩ rfl hby (D38 9) ?_
 refine kfN X3_ hx hby (D38 10) ((if0 _ _).trans (feq (nh : ¬ (hi1 = (0 : Int32)))).1) ?_
 exact X3_.returnOut hx hret (hb hby (D38 11)) hr
theorem noB (l : Launch) (Z : State) (a0 : Array Value) (hw : own_W Z a0) (ws : List Jvm.Cond) (o1 : Addr) (a1 : Addr) (k1 : ClassId) (hi1 : Int32) (lo1 : Int32) (n1 : Nat) (h0 : Heap) (n0 : Nat) (Z0 : n0 ≤ h0.size) (S1 : own_SH Z h0 o1 a1 (2 : Int32) (0 : Int32) k1 (2 : Int32) [(.int hi1), (.int lo1)]) (g1 : n0 ≤ o1) (g2 : n0 ≤ a1) (nu : n1 = own_u hi1 * 4294967296 + own_u lo1) (nz : n1 ≠ 0) (zh : hi1 = (0 : Int32)) : own_Met l Y38 jdk_2101_method_21_code 4 none ⟨0, 0, 0, 0⟩ ws #[(.ref o1)] Z h0 (Q_rmNo Z o1 a1 k1 hi1 lo1 n1 h0 n0) := by
 refine own_go (plainFor_of_name pn_java_math_MutableBigInteger) (fun m => ef38_R m o1) fun p e s m below meth c s₁ hx hby hml hown hnm hret hZ e0 X0 => ?_
 have N0 := Fr.nil n0
 obtain ⟨T1_, X1_, e1_, st1_⟩ := own_gN (pc := 0) (Ls := #[rv o1, .unset, .unset, .unset]) (stk := []) X0 hx hZ hown (wt hw 50 rfl) e0 S1.2.2.2.1 hby (D38 0) (D38 1) rfl
 obtain ⟨T2_, X2_, e2_, st2_⟩ := own_gN (pc := 13) (Ls := #[rv o1, .unset, .unset, .unset]) (stk := []) X1_ hx hZ hown (wt hw 47 rfl) e1_ S1.2.2.2.2.1 hby (D38 3) (D38 4) rfl
 obtain ⟨T3_, X3_, e3_, st3_⟩ := own_gN (pc := 18) (Ls := #[rv o1, iv 0, .unset, .unset]) (stk := []) X2_ hx hZ hown (wt hw 65 rfl) e2_ S1.2.2.1 hby (D38 6) (D38 7) rfl
 obtain ⟨T4_, X4_, e4_, st4_⟩ := own_gN (pc := 29) (Ls := #[rv o1, iv 0, .unset, .unset]) (stk := [(.int 0)]) X3_ hx hZ hown (wt hw 50 rfl) e3_ S1.2.2.2.1 hby (D38 13) (D38 14) rfl
 obtain ⟨T5_, X5_, e5_, st5_⟩ := own_gN (pc := 43) (Ls := #[rv o1, iv 1, iv 2, .unset]) (stk := []) X4_ hx hZ hown (wt hw 65 rfl) e4_ S1.2.2.1 hby (D38 21) (D38 22) rfl
 obtain ⟨T6_, X6_, e6_, st6_⟩ := own_gN (pc := 53) (Ls := #[rv o1, iv 1, iv 2, .unset]) (stk := [(.int 1)]) X5_ hx hZ hown (wt hw 47 rfl) e5_ S1.2.2.2.2.1 hby (D38 27) (D38 28) rfl
 obtain ⟨T7_, X7_, e7_, st7_⟩ := own_gf (pc := 61) (Ls := #[rv o1, iv 1, iv 2, iv 1]) (stk := [(.ref o1), (.ref o1)]) X6_ hx hZ hown (wt hw 50 rfl) e6_ S1.2.2.2.1 hby (D38 33) rfl
 obtain ⟨T8_, h8_, X8_, e8_, W8_, w8_, N8_, st8_⟩ := own_pf (pc := 66) (Ls := #[rv o1, iv 1, iv 2, iv 1]) (stk := [(.int 1), (.ref o1)]) X7_ hx hZ hown (wt hw 50 rfl) e7_ S1.2.2.2.1 S1.1 (Or.inl (wt hw 51 rfl)) (wt hw 40 rfl) (ty := .int) (by decide) rfl rfl N0 g1 hby (D38 36) rfl
 obtain ⟨T9_, X9_, e9_, st9_⟩ := own_gN (pc := 70) (Ls := #[rv o1, iv 1, iv 2, iv 1]) (stk := [(.ref o1)]) X8_ hx hZ hown (wt hw 50 rfl) e8_ w8_ hby (D38 38) (D38 39) rfl
 have f10_ := S1.2.2.2.2.1.other W8_ (Or.inr (slot_ne (Or.inl (wt hw 48 rfl)) (Or.inl (wt hw 51 rfl)) (by decide) (t := .int) (t' := .int) (by decide) (by decide)))
 obtain ⟨T11_, X11_, e11_, st11_⟩ := own_gN (pc := 81) (Ls := #[rv o1, iv 1, iv 2, iv 1]) (stk := [(.ref o1)]) X9_ hx hZ hown (wt hw 47 rfl) e9_ f10_ hby (D38 41) (D38 42) rfl
 have f12_ := S1.1.wr W8_
 obtain ⟨T13_, h13_, X13_, e13_, W13_, w13_, N13_, st13_⟩ := own_pf (pc := 87) (Ls := #[rv o1, iv 1, iv 2, iv 1]) (stk := [(.int 1), (.ref o1)]) X11_ hx hZ hown (wt hw 47 rfl) e11_ f10_ f12_ (Or.inl (wt hw 48 rfl)) (wt hw 40 rfl) (ty := .int) (by decide) rfl rfl N8_ g1 hby (D38 45) rfl
 have f14_ := f12_.wr W13_
 have f15_ := (S1.2.1.wr W8_).wr W13_
 have f16_ := (S1.2.2.1.other W8_ (Or.inr (slot_ne (Or.inl (wt hw 66 rfl)) (Or.inl (wt hw 51 rfl)) (by decide) (t := (.array .int)) (t' := .int) (by decide) (by decide)))).other W13_ (Or.inr (slot_ne (Or.inl (wt hw 66 rfl)) (Or.inl (wt hw 48 rfl)) (by decide) (t := (.array .int)) (t' := .int) (by decide) (by decide)))
 have f17_ := w8_.other W13_ (Or.inr (slot_ne (Or.inl (wt hw 51 rfl)) (Or.inl (wt hw 48 rfl)) (by decide) (t := .int) (t' := .int) (by decide) (by decide)))
 have f18_ := (S1.2.2.2.2.2.other W8_ (ne_exa S1.2.1 S1.1 (by decide))).other W13_ (ne_exa (S1.2.1.wr W8_) f12_ (by decide))
 have mb_ : own_MB Z h13_ o1 a1 n1 := own_MB.mkB ⟨f14_, f15_, f16_, f17_, w13_, f18_⟩ (Or.inr (Or.inr ⟨hi1, rfl, rfl, rfl⟩)) (own_lo1 nu nz zh).2 nz
 have k19_ := (Keep.refl h0 [o1, a1]).wr W8_ (own_in 0 rfl)
 have k20_ := k19_.wr W13_ (own_in 0 rfl)
 refine ⟨_, _, _, _, none, X13_, (by exact own_b rfl), (by exact own_b rfl), (fun _ => rfl), (by show Q_rmNo Z o1 a1 k1 hi1 lo1 n1 h0 n0 _ T13_.heap _; rw [e13_]; exact ⟨rfl, N13_, k20_, mb_⟩), fun fs hr => ?_⟩
 refine st1_ _ ?_
 refine kfY X1_ hx (pc0 := 4) (pc' := 13) rfl hby (D38 2) ((if0 _ _).trans (feq ((by decide) : ¬ ((2 : Int32) = (0 : Int32)))).2) (by decide) (by decide) ?_
 refine st2_ _ ?_
 refine ksN X2_ hx hby (D38 5) (l' := #[rv o1, iv 0, .unset, .unset]) rfl ?_
 refine st3_ _ ?_
 refine kiN X3_ hx hby (D38 8) rfl ?_
 refine own_ia X3_ hx hZ e3_ S1.2.2.2.2.2 ⟨by decide, by decide⟩ rfl hby (D38 9) ?_
 refine kfY X3_ hx (pc0 := 24) (pc' := 28) rfl hby (D38 10) ((if0 _ _).trans (teq (zh : hi1 = (0 : Int32))).1) (by decide) (by decide) ?_
 refine kiN X3_ hx hby (D38 12) rfl ?_
 refine st4_ _ ?_
 refine kia X4_ hx hby (D38 15) ?_
 refine ksN X4_ hx hby (D38 16) (l' := #[rv o1, iv 0, iv 2, .unset]) rfl ?_
 refine kn X4_ hx hby (D38 17) rfl (l' := #[rv o1, iv 1, iv 2, .unset]) rfl ?_
 refine kiN X4_ hx hby (D38 18) rfl ?_
 refine kiN X4_ hx hby (D38 19) rfl ?_
 refine kcN X4_ hx hby (D38 20) (tlt ((by decide) : (1 : Int32) < (2 : Int32))).2.1 ?_
 refine st5_ _ ?_
 refine kiN X5_ hx hby (D38 23) rfl ?_
 refine own_ia X5_ hx hZ e5_ S1.2.2.2.2.2 ⟨by decide, by decide⟩ rfl hby (D38 24) ?_
 refine kfN X5_ hx hby (D38 25) ((if0 _ _).trans (feq ((own_lo1 nu nz zh).1 : ¬ (lo1 = (0 : Int32)))).1) ?_
 refine kiN X5_ hx hby (D38 26) rfl ?_
 refine st6_ _ ?_
 refine kis X6_ hx hby (D38 29) ?_
 refine ksN X6_ hx hby (D38 30) (l' := #[rv o1, iv 1, iv 2, iv 1]) rfl ?_
 refine kaN X6_ hx hby (D38 31) rfl rfl ?_
 refine kdup X6_ hx hby (D38 32) rfl ?_
 refine st7_ _ ?_
 refine kiN X7_ hx hby (D38 34) rfl ?_
 refine kis X7_ hx hby (D38 35) ?_
 refine st8_ _ ?_
 refine kaN X8_ hx hby (D38 37) rfl rfl ?_
 refine st9_ _ ?_
 refine kfY X9_ hx (pc0 := 74) (pc' := 81) rfl hby (D38 40) ((if0 _ _).trans (feq ((by decide) : ¬ ((1 : Int32) = (0 : Int32)))).2) (by decide) (by decide) ?_
 refine st11_ _ ?_
 refine kiN X11_ hx hby (D38 43) rfl ?_
 refine kia X11_ hx hby (D38 44) ?_
 refine st13_ _ ?_
 exact X13_.returnOut hx hret (hb hby (D38 46)) hr
theorem rmNo (l : Launch) (Z : State) (a0 : Array Value) (hw : own_W Z a0) (ws : List Jvm.Cond) (o1 : Addr) (a1 : Addr) (k1 : ClassId) (hi1 : Int32) (lo1 : Int32) (n1 : Nat) (h0 : Heap) (n0 : Nat) (Z0 : n0 ≤ h0.size) (S1 : own_SH Z h0 o1 a1 (2 : Int32) (0 : Int32) k1 (2 : Int32) [(.int hi1), (.int lo1)]) (g1 : n0 ≤ o1) (g2 : n0 ≤ a1) (nu : n1 = own_u hi1 * 4294967296 + own_u lo1) (nz : n1 ≠ 0) :
    own_Met l Y38 jdk_2101_method_21_code 4 none ⟨0, 0, 0, 0⟩ ws #[(.ref o1)] Z h0 (Q_rmNo Z o1 a1 k1 hi1 lo1 n1 h0 n0) := by
  by_cases c : hi1 = (0 : Int32)
  · exact noB l Z a0 hw ws _ _ _ _ _ _ h0 n0 Z0 S1 g1 g2 nu nz c
  · exact noA l Z a0 hw ws _ _ _ _ _ _ h0 n0 Z0 S1 g1 g2 nu nz c
abbrev Y30 : MethodName := ⟨"java/math/MutableBigInteger", "compare", "(Ljava/math/MutableBigInteger;)I"⟩
theorem ef30_RR (m : MethodId) (x0 : Addr) (x1 : Addr) : entryFrame m #[(.ref x0), (.ref x1)] 8 = mkF m 0 #[rv x0, rv x1, .unset, .unset, .unset, .unset, .unset, .unset] [] := by first | (simp [entryFrame, mkF, argsToLocals, Value.category]; done) | rfl
def Q_cm21 (Z : State) (o1 : Addr) (o2 : Addr) (h0 : Heap) (n0 : Nat) (v : Option Value) (h : Heap) (L : List Loc) : Prop := v = some (.int 1) ∧ Fr n0 L ∧ h = h0
theorem cm21 (l : Launch) (Z : State) (a0 : Array Value) (hw : own_W Z a0) (ws : List Jvm.Cond) (o1 : Addr) (o2 : Addr) (h0 : Heap) (n0 : Nat) (Z0 : n0 ≤ h0.size) (Fl1 : Fld Z h0 o1 "java/math/MutableBigInteger" "intLen" "I" (.int 2)) (Fl2 : Fld Z h0 o2 "java/math/MutableBigInteger" "intLen" "I" (.int 1)) : own_Met l Y30 jdk_2101_method_15_code 8 (some .int) ⟨0, 0, 0, 0⟩ ws #[(.ref o1), (.ref o2)] Z h0 (Q_cm21 Z o1 o2 h0 n0) := by
 refine own_go (plainFor_of_name pn_java_math_MutableBigInteger) (fun m => ef30_RR m o1 o2) fun p e s m below meth c s₁ hx hby hml hown hnm hret hZ e0 X0 => ?_
 have N0 := Fr.nil n0
 obtain ⟨T1_, X1_, e1_, st1_⟩ := own_gN (pc := 0) (Ls := #[rv o1, rv o2, .unset, .unset, .unset, .unset, .unset, .unset]) (stk := []) X0 hx hZ hown (wt hw 50 rfl) e0 Fl2 hby (D30 0) (D30 1) rfl
 obtain ⟨T2_, X2_, e2_, st2_⟩ := own_gN (pc := 5) (Ls := #[rv o1, rv o2, iv 1, .unset, .unset, .unset, .unset, .unset]) (stk := []) X1_ hx hZ hown (wt hw 50 rfl) e1_ Fl1 hby (D30 3) (D30 4) rfl
 obtain ⟨T3_, X3_, e3_, st3_⟩ := own_gN (pc := 15) (Ls := #[rv o1, rv o2, iv 1, .unset, .unset, .unset, .unset, .unset]) (stk := []) X2_ hx hZ hown (wt hw 50 rfl) e2_ Fl1 hby (D30 7) (D30 8) rfl
 refine ⟨_, _, _, _, some (.int 1), X3_, (by exact own_b rfl), (by exact own_b rfl), nofun, (by show Q_cm21 Z o1 o2 h0 n0 _ T3_.heap _; rw [e3_]; exact ⟨rfl, N0, rfl⟩), fun fs hr => ?_⟩
 refine st1_ _ ?_
 refine ksN X1_ hx hby (D30 2) (l' := #[rv o1, rv o2, iv 1, .unset, .unset, .unset, .unset, .unset]) rfl ?_
 refine st2_ _ ?_
 refine kiN X2_ hx hby (D30 5) rfl ?_
 refine kcY X2_ hx (pc0 := 10) (pc' := 15) rfl hby (D30 6) (flt ((by decide) : ¬ ((2 : Int32) < (1 : Int32)))).2.1 (by decide) (by decide) ?_
 refine st3_ _ ?_
 refine kiN X3_ hx hby (D30 9) rfl ?_
 refine kcN X3_ hx hby (D30 10) (tlt ((by decide) : (1 : Int32) < (2 : Int32))).2.2.2 ?_
 refine kc X3_ hx hby (D30 11) ?_
 exact retI X3_ hx hret (hb hby (D30 12)) hr
def Q_cm12 (Z : State) (o1 : Addr) (o2 : Addr) (h0 : Heap) (n0 : Nat) (v : Option Value) (h : Heap) (L : List Loc) : Prop := v = some (.int (-1 : Int32)) ∧ Fr n0 L ∧ h = h0
theorem cm12 (l : Launch) (Z : State) (a0 : Array Value) (hw : own_W Z a0) (ws : List Jvm.Cond) (o1 : Addr) (o2 : Addr) (h0 : Heap) (n0 : Nat) (Z0 : n0 ≤ h0.size) (Fl1 : Fld Z h0 o1 "java/math/MutableBigInteger" "intLen" "I" (.int 1)) (Fl2 : Fld Z h0 o2 "java/math/MutableBigInteger" "intLen" "I" (.int 2)) : own_Met l Y30 jdk_2101_method_15_code 8 (some .int) ⟨0, 0, 0, 0⟩ ws #[(.ref o1), (.ref o2)] Z h0 (Q_cm12 Z o1 o2 h0 n0) := by
 refine own_go (plainFor_of_name pn_java_math_MutableBigInteger) (fun m => ef30_RR m o1 o2) fun p e s m below meth c s₁ hx hby hml hown hnm hret hZ e0 X0 => ?_
 have N0 := Fr.nil n0
 obtain ⟨T1_, X1_, e1_, st1_⟩ := own_gN (pc := 0) (Ls := #[rv o1, rv o2, .unset, .unset, .unset, .unset, .unset, .unset]) (stk := []) X0 hx hZ hown (wt hw 50 rfl) e0 Fl2 hby (D30 0) (D30 1) rfl
 obtain ⟨T2_, X2_, e2_, st2_⟩ := own_gN (pc := 5) (Ls := #[rv o1, rv o2, iv 2, .unset, .unset, .unset, .unset, .unset]) (stk := []) X1_ hx hZ hown (wt hw 50 rfl) e1_ Fl1 hby (D30 3) (D30 4) rfl
 refine ⟨_, _, _, _, some (.int (-1 : Int32)), X2_, (by exact own_b rfl), (by exact own_b rfl), nofun, (by show Q_cm12 Z o1 o2 h0 n0 _ T2_.heap _; rw [e2_]; exact ⟨rfl, N0, rfl⟩), fun fs hr => ?_⟩
 refine st1_ _ ?_
 refine ksN X1_ hx hby (D30 2) (l' := #[rv o1, rv o2, iv 2, .unset, .unset, .unset, .unset, .unset]) rfl ?_
 refine st2_ _ ?_
 refine kiN X2_ hx hby (D30 5) rfl ?_
 refine kcN X2_ hx hby (D30 6) (tlt ((by decide) : (1 : Int32) < (2 : Int32))).2.1 ?_
 refine kc X2_ hx hby (D30 13) ?_
 exact retI X2_ hx hret (hb hby (D30 14)) hr
def Q_cmG (Z : State) (o1 : Addr) (o2 : Addr) (a1 : Addr) (k1 : ClassId) (hi1 : Int32) (lo1 : Int32) (a2 : Addr) (k2 : ClassId) (hi2 : Int32) (lo2 : Int32) (h0 : Heap) (n0 : Nat) (v : Option Value) (h : Heap) (L : List Loc) : Prop := v = some (.int 1) ∧ Fr n0 L ∧ h = h0
theorem cmGH (l : Launch) (Z : State) (a0 : Array Value) (hw : own_W Z a0) (ws : List Jvm.Cond) (o1 : Addr) (o2 : Addr) (a1 : Addr) (k1 : ClassId) (hi1 : Int32) (lo1 : Int32) (a2 : Addr) (k2 : ClassId) (hi2 : Int32) (lo2 : Int32) (h0 : Heap) (n0 : Nat) (Z0 : n0 ≤ h0.size) (S1 : own_SH Z h0 o1 a1 (2 : Int32) (0 : Int32) k1 (2 : Int32) [(.int hi1), (.int lo1)]) (S2 : own_SH Z h0 o2 a2 (2 : Int32) (0 : Int32) k2 (2 : Int32) [(.int hi2), (.int lo2)]) (qh : own_u hi2 < own_u hi1) : own_Met l Y30 jdk_2101_method_15_code 8 (some .int) ⟨0, 0, 0, 0⟩ ws #[(.ref o1), (.ref o2)] Z h0 (Q_cmG Z o1 o2 a1 k1 hi1 lo1 a2 k2 hi2 lo2 h0 n0) := by
 refine own_go (plainFor_of_name pn_java_math_MutableBigInteger) (fun m => ef30_RR m o1 o2) fun p e s m below meth c s₁ hx hby hml hown hnm hret hZ e0 X0 => ?_
 have N0 := Fr.nil n0
 obtain ⟨T1_, X1_, e1_, st1_⟩ := own_gN (pc := 0) (Ls := #[rv o1, rv o2, .unset, .unset, .unset, .unset, .unset, .unset]) (stk := []) X0 hx hZ hown (wt hw 50 rfl) e0 S2.2.2.2.1 hby (D30 0) (D30 1) rfl
 obtain ⟨T2_, X2_, e2_, st2_⟩ := own_gN (pc := 5) (Ls := #[rv o1, rv o2, iv 2, .unset, .unset, .unset, .unset, .unset]) (stk := []) X1_ hx hZ hown (wt hw 50 rfl) e1_ S1.2.2.2.1 hby (D30 3) (D30 4) rfl
 obtain ⟨T3_, X3_, e3_, st3_⟩ := own_gN (pc := 15) (Ls := #[rv o1, rv o2, iv 2, .unset, .unset, .unset, .unset, .unset]) (stk := []) X2_ hx hZ hown (wt hw 50 rfl) e2_ S1.2.2.2.1 hby (D30 7) (D30 8) rfl
 obtain ⟨T4_, X4_, e4_, st4_⟩ := own_gN (pc := 25) (Ls := #[rv o1, rv o2, iv 2, .unset, .unset, .unset, .unset, .unset]) (stk := []) X3_ hx hZ hown (wt hw 65 rfl) e3_ S2.2.2.1 hby (D30 15) (D30 16) rfl
 obtain ⟨T5_, X5_, e5_, st5_⟩ := own_gN (pc := 30) (Ls := #[rv o1, rv o2, iv 2, rv a2, .unset, .unset, .unset, .unset]) (stk := []) X4_ hx hZ hown (wt hw 47 rfl) e4_ S1.2.2.2.2.1 hby (D30 18) (D30 19) rfl
 obtain ⟨T6_, X6_, e6_, st6_⟩ := own_gN (pc := 36) (Ls := #[rv o1, rv o2, iv 2, rv a2, iv 0, .unset, .unset, .unset]) (stk := []) X5_ hx hZ hown (wt hw 47 rfl) e5_ S2.2.2.2.2.1 hby (D30 21) (D30 22) rfl
 obtain ⟨T7_, X7_, e7_, st7_⟩ := own_gN (pc := 44) (Ls := #[rv o1, rv o2, iv 2, rv a2, iv 0, iv 0, .unset, .unset]) (stk := [(.int 0)]) X6_ hx hZ hown (wt hw 50 rfl) e6_ S1.2.2.2.1 hby (D30 25) (D30 26) rfl
 obtain ⟨T8_, X8_, e8_, st8_⟩ := own_gN (pc := 48) (Ls := #[rv o1, rv o2, iv 2, rv a2, iv 0, iv 0, .unset, .unset]) (stk := [(.int 2), (.int 0)]) X7_ hx hZ hown (wt hw 47 rfl) e7_ S1.2.2.2.2.1 hby (D30 27) (D30 28) rfl
 obtain ⟨T9_, X9_, e9_, st9_⟩ := own_gN (pc := 56) (Ls := #[rv o1, rv o2, iv 2, rv a2, iv 0, iv 0, .unset, .unset]) (stk := []) X8_ hx hZ hown (wt hw 65 rfl) e8_ S1.2.2.1 hby (D30 31) (D30 32) rfl
 refine ⟨_, _, _, _, some (.int 1), X9_, (by exact own_b rfl), (by exact own_b rfl), nofun, (by show Q_cmG Z o1 o2 a1 k1 hi1 lo1 a2 k2 hi2 lo2 h0 n0 _ T9_.heap _; rw [e9_]; exact ⟨rfl, N0, rfl⟩), fun fs hr => ?_⟩
 refine st1_ _ ?_
 refine ksN X1_ hx hby (D30 2) (l' := #[rv o1, rv o2, iv 2, .unset, .unset, .unset, .unset, .unset]) rfl ?_
 refine st2_ _ ?_
 refine kiN X2_ hx hby (D30 5) rfl ?_
 refine kcY X2_ hx (pc0 := 10) (pc' := 15) rfl hby (D30 6) (flt ((by decide) : ¬ ((2 : Int32) < (2 : Int32)))).2.1 (by decide) (by decide) ?_
 refine st3_ _ ?_
 refine kiN X3_ hx hby (D30 9) rfl ?_
 refine kcY X3_ hx (pc0 := 20) (pc' := 25) rfl hby (D30 10) (flt ((by decide) : ¬ ((2 : Int32) < (2 : Int32)))).2.2.2 (by decide) (by decide) ?_
 refine st4_ _ ?_
 refine ktN X4_ hx hby (D30 17) rfl (l' := #[rv o1, rv o2, iv 2, rv a2, .unset, .unset, .unset, .unset]) rfl ?_
 refine st5_ _ ?_
 refine ks X5_ hx hby (D30 20) (l' := #[rv o1, rv o2, iv 2, rv a2, iv 0, .unset, .unset, .unset]) rfl ?_
 refine st6_ _ ?_
 refine ks X6_ hx hby (D30 23) (l' := #[rv o1, rv o2, iv 2, rv a2, iv 0, iv 0, .unset, .unset]) rfl ?_
 refine ki X6_ hx hby (D30 24) rfl ?_
 refine st7_ _ ?_
 refine st8_ _ ?_
 refine kia X8_ hx hby (D30 29) ?_
 refine kcN X8_ hx hby (D30 30) (tlt ((by decide) : (0 : Int32) < (2 : Int32))).2.1 ?_
 refine st9_ _ ?_
 refine ki X9_ hx hby (D30 33) rfl ?_
 refine own_ia X9_ hx hZ e9_ S1.2.2.2.2.2 ⟨by decide, by decide⟩ rfl hby (D30 34) ?_
 refine own_ld X9_ hx hZ hown (wt hw 114 rfl) hby (D30 35) ?_
 refine kia X9_ hx hby (D30 36) ?_
 refine ks X9_ hx hby (D30 37) (l' := #[rv o1, rv o2, iv 2, rv a2, iv 0, iv 0, iv (hi1 + (-2147483648 : Int32)), .unset]) rfl ?_
 refine kaN X9_ hx hby (D30 38) rfl rfl ?_
 refine ki X9_ hx hby (D30 39) rfl ?_
 refine own_ia X9_ hx hZ e9_ S2.2.2.2.2.2 ⟨by decide, by decide⟩ rfl hby (D30 40) ?_
 refine own_ld X9_ hx hZ hown (wt hw 114 rfl) hby (D30 41) ?_
 refine kia X9_ hx hby (D30 42) ?_
 refine ks X9_ hx hby (D30 43) (l' := #[rv o1, rv o2, iv 2, rv a2, iv 0, iv 0, iv (hi1 + (-2147483648 : Int32)), iv (hi2 + (-2147483648 : Int32))]) rfl ?_
 refine ki X9_ hx hby (D30 44) rfl ?_
 refine ki X9_ hx hby (D30 45) rfl ?_
 refine kcY X9_ hx (pc0 := 81) (pc' := 86) rfl hby (D30 46) (flt ((fun q => absurd ((own_ult hi1 hi2).mp q) (by omega)) : ¬ ((hi1 + (-2147483648 : Int32)) < (hi2 + (-2147483648 : Int32))))).2.1 (by decide) (by decide) ?_
 refine ki X9_ hx hby (D30 47) rfl ?_
 refine ki X9_ hx hby (D30 48) rfl ?_
 refine kcN X9_ hx hby (D30 49) (tlt (((own_ult hi2 hi1).mpr qh) : (hi2 + (-2147483648 : Int32)) < (hi1 + (-2147483648 : Int32)))).2.2.2 ?_
 refine kc X9_ hx hby (D30 50) ?_
 exact retI X9_ hx hret (hb hby (D30 51)) hr
theorem cmGL (l : Launch) (Z : State) (a0 : Array Value) (hw : own_W Z a0) (ws : List Jvm.Cond) (o1 : Addr) (o2 : Addr) (a1 : Addr) (k1 : ClassId) (hi1 : Int32) (lo1 : Int32) (a2 : Addr) (k2 : ClassId) (hi2 : Int32) (lo2 : Int32) (h0 : Heap) (n0 : Nat) (Z0 : n0 ≤ h0.size) (S1 : own_SH Z h0 o1 a1 (2 : Int32) (0 : Int32) k1 (2 : Int32) [(.int hi1), (.int lo1)]) (S2 : own_SH Z h0 o2 a2 (2 : Int32) (0 : Int32) k2 (2 : Int32) [(.int hi2), (.int lo2)]) (qh : own_u hi1 = own_u hi2) (ql : own_u lo2 < own_u lo1) : own_Met l Y30 jdk_2101_method_15_code 8 (some .int) ⟨0, 0, 0, 0⟩ ws #[(.ref o1), (.ref o2)] Z h0 (Q_cmG Z o1 o2 a1 k1 hi1 lo1 a2 k2 hi2 lo2 h0 n0) := by
 refine own_go (plainFor_of_name pn_java_math_MutableBigInteger) (fun m => ef30_RR m o1 o2) fun p e s m below meth c s₁ hx hby hml hown hnm hret hZ e0 X0 => ?_
 have N0 := Fr.nil n0
 obtain ⟨T1_, X1_, e1_, st1_⟩ := own_gN (pc := 0) (Ls := #[rv o1, rv o2, .unset, .unset, .unset, .unset, .unset, .unset]) (stk := []) X0 hx hZ hown (wt hw 50 rfl) e0 S2.2.2.2.1 hby (D30 0) (D30 1) rfl
 obtain ⟨T2_, X2_, e2_, st2_⟩ := own_gN (pc := 5) (Ls := #[rv o1, rv o2, iv 2, .unset, .unset, .unset, .unset, .unset]) (stk := []) X1_ hx hZ hown (wt hw 50 rfl) e1_ S1.2.2.2.1 hby (D30 3) (D30 4) rfl
 obtain ⟨T3_, X3_, e3_, st3_⟩ := own_gN (pc := 15) (Ls := #[rv o1, rv o2, iv 2, .unset, .unset, .unset, .unset, .unset]) (stk := []) X2_ hx hZ hown (wt hw 50 rfl) e2_ S1.2.2.2.1 hby (D30 7) (D30 8) rfl
 obtain ⟨T4_, X4_, e4_, st4_⟩ := own_gN (pc := 25) (Ls := #[rv o1, rv o2, iv 2, .unset, .unset, .unset, .unset, .unset]) (stk := []) X3_ hx hZ hown (wt hw 65 rfl) e3_ S2.2.2.1 hby (D30 15) (D30 16) rfl
 obtain ⟨T5_, X5_, e5_, st5_⟩ := own_gN (pc := 30) (Ls := #[rv o1, rv o2, iv 2, rv a2, .unset, .unset, .unset, .unset]) (stk := []) X4_ hx hZ hown (wt hw 47 rfl) e4_ S1.2.2.2.2.1 hby (D30 18) (D30 19) rfl
 obtain ⟨T6_, X6_, e6_, st6_⟩ := own_gN (pc := 36) (Ls := #[rv o1, rv o2, iv 2, rv a2, iv 0, .unset, .unset, .unset]) (stk := []) X5_ hx hZ hown (wt hw 47 rfl) e5_ S2.2.2.2.2.1 hby (D30 21) (D30 22) rfl
 obtain ⟨T7_, X7_, e7_, st7_⟩ := own_gN (pc := 44) (Ls := #[rv o1, rv o2, iv 2, rv a2, iv 0, iv 0, .unset, .unset]) (stk := [(.int 0)]) X6_ hx hZ hown (wt hw 50 rfl) e6_ S1.2.2.2.1 hby (D30 25) (D30 26) rfl
 obtain ⟨T8_, X8_, e8_, st8_⟩ := own_gN (pc := 48) (Ls := #[rv o1, rv o2, iv 2, rv a2, iv 0, iv 0, .unset, .unset]) (stk := [(.int 2), (.int 0)]) X7_ hx hZ hown (wt hw 47 rfl) e7_ S1.2.2.2.2.1 hby (D30 27) (D30 28) rfl
 obtain ⟨T9_, X9_, e9_, st9_⟩ := own_gN (pc := 56) (Ls := #[rv o1, rv o2, iv 2, rv a2, iv 0, iv 0, .unset, .unset]) (stk := []) X8_ hx hZ hown (wt hw 65 rfl) e8_ S1.2.2.1 hby (D30 31) (D30 32) rfl
 obtain ⟨T10_, X10_, e10_, st10_⟩ := own_gN (pc := 44) (Ls := #[rv o1, rv o2, iv 2, rv a2, iv 1, iv 1, iv (hi1 + (-2147483648 : Int32)), iv (hi2 + (-2147483648 : Int32))]) (stk := [(.int 1)]) X9_ hx hZ hown (wt hw 50 rfl) e9_ S1.2.2.2.1 hby (D30 25) (D30 26) rfl
 obtain ⟨T11_, X11_, e11_, st11_⟩ := own_gN (pc := 48) (Ls := #[rv o1, rv o2, iv 2, rv a2, iv 1, iv 1, iv (hi1 + (-2147483648 : Int32)), iv (hi2 + (-2147483648 : Int32))]) (stk := [(.int 2), (.int 1)]) X10_ hx hZ hown (wt hw 47 rfl) e10_ S1.2.2.2.2.1 hby (D30 27) (D30 28) rfl
 obtain ⟨T12_, X12_, e12_, st12_⟩ := own_gN (pc := 56) (Ls := #[rv o1, rv o2, iv 2, rv a2, iv 1, iv 1, iv (hi1 + (-2147483648 : Int32)), iv (hi2 + (-2147483648 : Int32))]) (stk := []) X11_ hx hZ hown (wt hw 65 rfl) e11_ S1.2.2.1 hby (D30 31) (D30 32) rfl
 refine ⟨_, _, _, _, some (.int 1), X12_, (by exact own_b rfl), (by exact own_b rfl), nofun, (by show Q_cmG Z o1 o2 a1 k1 hi1 lo1 a2 k2 hi2 lo2 h0 n0 _ T12_.heap _; rw [e12_]; exact ⟨rfl, N0, rfl⟩), fun fs hr => ?_⟩
 refine st1_ _ ?_
 refine ksN X1_ hx hby (D30 2) (l' := #[rv o1, rv o2, iv 2, .unset, .unset, .unset, .unset, .unset]) rfl ?_
 refine st2_ _ ?_
 refine kiN X2_ hx hby (D30 5) rfl ?_
 refine kcY X2_ hx (pc0 := 10) (pc' := 15) rfl hby (D30 6) (flt ((by decide) : ¬ ((2 : Int32) < (2 : Int32)))).2.1 (by decide) (by decide) ?_
 refine st3_ _ ?_
 refine kiN X3_ hx hby (D30 9) rfl ?_
 refine kcY X3_ hx (pc0 := 20) (pc' := 25) rfl hby (D30 10) (flt ((by decide) : ¬ ((2 : Int32) < (2 : Int32)))).2.2.2 (by decide) (by decide) ?_
 refine st4_ _ ?_
 refine ktN X4_ hx hby (D30 17) rfl (l' := #[rv o1, rv o2, iv 2, rv a2, .unset, .unset, .unset, .unset]) rfl ?_
 refine st5_ _ ?_
 refine ks X5_ hx hby (D30 20) (l' := #[rv o1, rv o2, iv 2, rv a2, iv 0, .unset, .unset, .unset]) rfl ?_
 refine st6_ _ ?_
 refine ks X6_ hx hby (D30 23) (l' := #[rv o1, rv o2, iv 2, rv a2, iv 0, iv 0, .unset, .unset]) rfl ?_
 refine ki X6_ hx hby (D30 24) rfl ?_
 refine st7_ _ ?_
 refine st8_ _ ?_
 refine kia X8_ hx hby (D30 29) ?_
 refine kcN X8_ hx hby (D30 30) (tlt ((by decide) : (0 : Int32) < (2 : Int32))).2.1 ?_
 refine st9_ _ ?_
 refine ki X9_ hx hby (D30 33) rfl ?_
 refine own_ia X9_ hx hZ e9_ S1.2.2.2.2.2 ⟨by decide, by decide⟩ rfl hby (D30 34) ?_
 refine own_ld X9_ hx hZ hown (wt hw 114 rfl) hby (D30 35) ?_
 refine kia X9_ hx hby (D30 36) ?_
 refine ks X9_ hx hby (D30 37) (l' := #[rv o1, rv o2, iv 2, rv a2, iv 0, iv 0, iv (hi1 + (-2147483648 : Int32)), .unset]) rfl ?_
 refine kaN X9_ hx hby (D30 38) rfl rfl ?_
 refine ki X9_ hx hby (D30 39) rfl ?_
 refine own_ia X9_ hx hZ e9_ S2.2.2.2.2.2 ⟨by decide, by decide⟩ rfl hby (D30 40) ?_
 refine own_ld X9_ hx hZ hown (wt hw 114 rfl) hby (D30 41) ?_
 refine kia X9_ hx hby (D30 42) ?_
 refine ks X9_ hx hby (D30 43) (l' := #[rv o1, rv o2, iv 2, rv a2, iv 0, iv 0, iv (hi1 + (-2147483648 : Int32)), iv (hi2 + (-2147483648 : Int32))]) rfl ?_
 refine ki X9_ hx hby (D30 44) rfl ?_
 refine ki X9_ hx hby (D30 45) rfl ?_
 refine kcY X9_ hx (pc0 := 81) (pc' := 86) rfl hby (D30 46) (flt ((fun q => absurd ((own_ult hi1 hi2).mp q) (by omega)) : ¬ ((hi1 + (-2147483648 : Int32)) < (hi2 + (-2147483648 : Int32))))).2.1 (by decide) (by decide) ?_
 refine ki X9_ hx hby (D30 47) rfl ?_
 refine ki X9_ hx hby (D30 48) rfl ?_
 refine kcY X9_ hx (pc0 := 90) (pc' := 95) rfl hby (D30 49) (flt ((fun q => absurd ((own_ult hi2 hi1).mp q) (by omega)) : ¬ ((hi2 + (-2147483648 : Int32)) < (hi1 + (-2147483648 : Int32))))).2.2.2 (by decide) (by decide) ?_
 refine kn X9_ hx hby (D30 52) rfl (l' := #[rv o1, rv o2, iv 2, rv a2, iv 1, iv 0, iv (hi1 + (-2147483648 : Int32)), iv (hi2 + (-2147483648 : Int32))]) rfl ?_
 refine kn X9_ hx hby (D30 53) rfl (l' := #[rv o1, rv o2, iv 2, rv a2, iv 1, iv 1, iv (hi1 + (-2147483648 : Int32)), iv (hi2 + (-2147483648 : Int32))]) rfl ?_
 refine kg X9_ hx (pc0 := 101) (pc' := 42) rfl hby (D30 54) (by decide) (by decide) ?_
 refine ki X9_ hx hby (D30 24) rfl ?_
 refine st10_ _ ?_
 refine st11_ _ ?_
 refine kia X11_ hx hby (D30 29) ?_
 refine kcN X11_ hx hby (D30 30) (tlt ((by decide) : (1 : Int32) < (2 : Int32))).2.1 ?_
 refine st12_ _ ?_
 refine ki X12_ hx hby (D30 33) rfl ?_
 refine own_ia X12_ hx hZ e12_ S1.2.2.2.2.2 ⟨by decide, by decide⟩ rfl hby (D30 34) ?_
 refine own_ld X12_ hx hZ hown (wt hw 114 rfl) hby (D30 35) ?_
 refine kia X12_ hx hby (D30 36) ?_
 refine ks X12_ hx hby (D30 37) (l' := #[rv o1, rv o2, iv 2, rv a2, iv 1, iv 1, iv (lo1 + (-2147483648 : Int32)), iv (hi2 + (-2147483648 : Int32))]) rfl ?_
 refine kaN X12_ hx hby (D30 38) rfl rfl ?_
 refine ki X12_ hx hby (D30 39) rfl ?_
 refine own_ia X12_ hx hZ e12_ S2.2.2.2.2.2 ⟨by decide, by decide⟩ rfl hby (D30 40) ?_
 refine own_ld X12_ hx hZ hown (wt hw 114 rfl) hby (D30 41) ?_
 refine kia X12_ hx hby (D30 42) ?_
 refine ks X12_ hx hby (D30 43) (l' := #[rv o1, rv o2, iv 2, rv a2, iv 1, iv 1, iv (lo1 + (-2147483648 : Int32)), iv (lo2 + (-2147483648 : Int32))]) rfl ?_
 refine ki X12_ hx hby (D30 44) rfl ?_
 refine ki X12_ hx hby (D30 45) rfl ?_
 refine kcY X12_ hx (pc0 := 81) (pc' := 86) rfl hby (D30 46) (flt ((fun q => absurd ((own_ult lo1 lo2).mp q) (by omega)) : ¬ ((lo1 + (-2147483648 : Int32)) < (lo2 + (-2147483648 : Int32))))).2.1 (by decide) (by decide) ?_
 refine ki X12_ hx hby (D30 47) rfl ?_
 refine ki X12_ hx hby (D30 48) rfl ?_
 refine kcN X12_ hx hby (D30 49) (tlt (((own_ult lo2 lo1).mpr ql) : (lo2 + (-2147483648 : Int32)) < (lo1 + (-2147483648 : Int32)))).2.2.2 ?_
 refine kc X12_ hx hby (D30 50) ?_
 exact retI X12_ hx hret (hb hby (D30 51)) hr
theorem cmG (l : Launch) (Z : State) (a0 : Array Value) (hw : own_W Z a0) (ws : List Jvm.Cond) (o1 : Addr) (o2 : Addr) (a1 : Addr) (k1 : ClassId) (hi1 : Int32) (lo1 : Int32) (a2 : Addr) (k2 : ClassId) (hi2 : Int32) (lo2 : Int32) (h0 : Heap) (n0 : Nat) (Z0 : n0 ≤ h0.size) (S1 : own_SH Z h0 o1 a1 (2 : Int32) (0 : Int32) k1 (2 : Int32) [(.int hi1), (.int lo1)]) (S2 : own_SH Z h0 o2 a2 (2 : Int32) (0 : Int32) k2 (2 : Int32) [(.int hi2), (.int lo2)]) (qv : own_u hi2 < own_u hi1 ∨ (own_u hi1 = own_u hi2 ∧ own_u lo2 < own_u lo1)) :
    own_Met l Y30 jdk_2101_method_15_code 8 (some .int) ⟨0, 0, 0, 0⟩ ws #[(.ref o1), (.ref o2)] Z h0 (Q_cmG Z o1 o2 a1 k1 hi1 lo1 a2 k2 hi2 lo2 h0 n0) := by
  rcases qv with c | ⟨c, d⟩
  · exact cmGH l Z a0 hw ws _ _ _ _ _ _ _ _ _ _ h0 n0 Z0 S1 S2 c
  · exact cmGL l Z a0 hw ws _ _ _ _ _ _ _ _ _ _ h0 n0 Z0 S1 S2 c d
def Q_cmL (Z : State) (o1 : Addr) (o2 : Addr) (a1 : Addr) (k1 : ClassId) (hi1 : Int32) (lo1 : Int32) (a2 : Addr) (k2 : ClassId) (hi2 : Int32) (lo2 : Int32) (h0 : Heap) (n0 : Nat) (v : Option Value) (h : Heap) (L : List Loc) : Prop := v = some (.int (-1 : Int32)) ∧ Fr n0 L ∧ h = h0
theorem cmLH (l : Launch) (Z : State) (a0 : Array Value) (hw : own_W Z a0) (ws : List Jvm.Cond) (o1 : Addr) (o2 : Addr) (a1 : Addr) (k1 : ClassId) (hi1 : Int32) (lo1 : Int32) (a2 : Addr) (k2 : ClassId) (hi2 : Int32) (lo2 : Int32) (h0 : Heap) (n0 : Nat) (Z0 : n0 ≤ h0.size) (S1 : own_SH Z h0 o1 a1 (2 : Int32) (0 : Int32) k1 (2 : Int32) [(.int hi1), (.int lo1)]) (S2 : own_SH Z h0 o2 a2 (2 : Int32) (0 : Int32) k2 (2 : Int32) [(.int hi2), (.int lo2)]) (qh : own_u hi1 < own_u hi2) : own_Met l Y30 jdk_2101_method_15_code 8 (some .int) ⟨0, 0, 0, 0⟩ ws #[(.ref o1), (.ref o2)] Z h0 (Q_cmL Z o1 o2 a1 k1 hi1 lo1 a2 k2 hi2 lo2 h0 n0) := by
 refine own_go (plainFor_of_name pn_java_math_MutableBigInteger) (fun m => ef30_RR m o1 o2) fun p e s m below meth c s₁ hx hby hml hown hnm hret hZ e0 X0 => ?_
 have N0 := Fr.nil n0
 obtain ⟨T1_, X1_, e1_, st1_⟩ := own_gN (pc := 0) (Ls := #[rv o1, rv o2, .unset, .unset, .unset, .unset, .unset, .unset]) (stk := []) X0 hx hZ hown (wt hw 50 rfl) e0 S2.2.2.2.1 hby (D30 0) (D30 1) rfl
 obtain ⟨T2_, X2_, e2_, st2_⟩ := own_gN (pc := 5) (Ls := #[rv o1, rv o2, iv 2, .unset, .unset, .unset, .unset, .unset]) (stk := []) X1_ hx hZ hown (wt hw 50 rfl) e1_ S1.2.2.2.1 hby (D30 3) (D30 4) rfl
 obtain ⟨T3_, X3_, e3_, st3_⟩ := own_gN (pc := 15) (Ls := #[rv o1, rv o2, iv 2, .unset, .unset, .unset, .unset, .unset]) (stk := []) X2_ hx hZ hown (wt hw 50 rfl) e2_ S1.2.2.2.1 hby (D30 7) (D30 8) rfl
 obtain ⟨T4_, X4_, e4_, st4_⟩ := own_gN (pc := 25) (Ls := #[rv o1, rv o2, iv 2, .unset, .unset, .unset, .unset, .unset]) (stk := []) X3_ hx hZ hown (wt hw 65 rfl) e3_ S2.2.2.1 hby (D30 15) (D30 16) rfl
 obtain ⟨T5_, X5_, e5_, st5_⟩ := own_gN (pc := 30) (Ls := #[rv o1, rv o2, iv 2, rv a2, .unset, .unset, .unset, .unset]) (stk := []) X4_ hx hZ hown (wt hw 47 rfl) e4_ S1.2.2.2.2.1 hby (D30 18) (D30 19) rfl
 obtain ⟨T6_, X6_, e6_, st6_⟩ := own_gN (pc := 36) (Ls := #[rv o1, rv o2, iv 2, rv a2, iv 0, .unset, .unset, .unset]) (stk := []) X5_ hx hZ hown (wt hw 47 rfl) e5_ S2.2.2.2.2.1 hby (D30 21) (D30 22) rfl
 obtain ⟨T7_, X7_, e7_, st7_⟩ := own_gN (pc := 44) (Ls := #[rv o1, rv o2, iv 2, rv a2, iv 0, iv 0, .unset, .unset]) (stk := [(.int 0)]) X6_ hx hZ hown (wt hw 50 rfl) e6_ S1.2.2.2.1 hby (D30 25) (D30 26) rfl
 obtain ⟨T8_, X8_, e8_, st8_⟩ := own_gN (pc := 48) (Ls := #[rv o1, rv o2, iv 2, rv a2, iv 0, iv 0, .unset, .unset]) (stk := [(.int 2), (.int 0)]) X7_ hx hZ hown (wt hw 47 rfl) e7_ S1.2.2.2.2.1 hby (D30 27) (D30 28) rfl
 obtain ⟨T9_, X9_, e9_, st9_⟩ := own_gN (pc := 56) (Ls := #[rv o1, rv o2, iv 2, rv a2, iv 0, iv 0, .unset, .unset]) (stk := []) X8_ hx hZ hown (wt hw 65 rfl) e8_ S1.2.2.1 hby (D30 31) (D30 32) rfl
 refine ⟨_, _, _, _, some (.int (-1 : Int32)), X9_, (by exact own_b rfl), (by exact own_b rfl), nofun, (by show Q_cmL Z o1 o2 a1 k1 hi1 lo1 a2 k2 hi2 lo2 h0 n0 _ T9_.heap _; rw [e9_]; exact ⟨rfl, N0, rfl⟩), fun fs hr => ?_⟩
 refine st1_ _ ?_
 refine ksN X1_ hx hby (D30 2) (l' := #[rv o1, rv o2, iv 2, .unset, .unset, .unset, .unset, .unset]) rfl ?_
 refine st2_ _ ?_
 refine kiN X2_ hx hby (D30 5) rfl ?_
 refine kcY X2_ hx (pc0 := 10) (pc' := 15) rfl hby (D30 6) (flt ((by decide) : ¬ ((2 : Int32) < (2 : Int32)))).2.1 (by decide) (by decide) ?_
 refine st3_ _ ?_
 refine kiN X3_ hx hby (D30 9) rfl ?_
 refine kcY X3_ hx (pc0 := 20) (pc' := 25) rfl hby (D30 10) (flt ((by decide) : ¬ ((2 : Int32) < (2 : Int32)))).2.2.2 (by decide) (by decide) ?_
 refine st4_ _ ?_
 refine ktN X4_ hx hby (D30 17) rfl (l' := #[rv o1, rv o2, iv 2, rv a2, .unset, .unset, .unset, .unset]) rfl ?_
 refine st5_ _ ?_
 refine ks X5_ hx hby (D30 20) (l' := #[rv o1, rv o2, iv 2, rv a2, iv 0, .unset, .unset, .unset]) rfl ?_
 refine st6_ _ ?_
 refine ks X6_ hx hby (D30 23) (l' := #[rv o1, rv o2, iv 2, rv a2, iv 0, iv 0, .unset, .unset]) rfl ?_
 refine ki X6_ hx hby (D30 24) rfl ?_
 refine st7_ _ ?_
 refine st8_ _ ?_
 refine kia X8_ hx hby (D30 29) ?_
 refine kcN X8_ hx hby (D30 30) (tlt ((by decide) : (0 : Int32) < (2 : Int32))).2.1 ?_
 refine st9_ _ ?_
 refine ki X9_ hx hby (D30 33) rfl ?_
 refine own_ia X9_ hx hZ e9_ S1.2.2.2.2.2 ⟨by decide, by decide⟩ rfl hby (D30 34) ?_
 refine own_ld X9_ hx hZ hown (wt hw 114 rfl) hby (D30 35) ?_
 refine kia X9_ hx hby (D30 36) ?_
 refine ks X9_ hx hby (D30 37) (l' := #[rv o1, rv o2, iv 2, rv a2, iv 0, iv 0, iv (hi1 + (-2147483648 : Int32)), .unset]) rfl ?_
 refine kaN X9_ hx hby (D30 38) rfl rfl ?_
 refine ki X9_ hx hby (D30 39) rfl ?_
 refine own_ia X9_ hx hZ e9_ S2.2.2.2.2.2 ⟨by decide, by decide⟩ rfl hby (D30 40) ?_
 refine own_ld X9_ hx hZ hown (wt hw 114 rfl) hby (D30 41) ?_
 refine kia X9_ hx hby (D30 42) ?_
 refine ks X9_ hx hby (D30 43) (l' := #[rv o1, rv o2, iv 2, rv a2, iv 0, iv 0, iv (hi1 + (-2147483648 : Int32)), iv (hi2 + (-2147483648 : Int32))]) rfl ?_
 refine ki X9_ hx hby (D30 44) rfl ?_
 refine ki X9_ hx hby (D30 45) rfl ?_
 refine kcN X9_ hx hby (D30 46) (tlt (((own_ult hi1 hi2).mpr qh) : (hi1 + (-2147483648 : Int32)) < (hi2 + (-2147483648 : Int32)))).2.1 ?_
 refine kc X9_ hx hby (D30 55) ?_
 exact retI X9_ hx hret (hb hby (D30 56)) hr
theorem cmLL (l : Launch) (Z : State) (a0 : Array Value) (hw : own_W Z a0) (ws : List Jvm.Cond) (o1 : Addr) (o2 : Addr) (a1 : Addr) (k1 : ClassId) (hi1 : Int32) (lo1 : Int32) (a2 : Addr) (k2 : ClassId) (hi2 : Int32) (lo2 : Int32) (h0 : Heap) (n0 : Nat) (Z0 : n0 ≤ h0.size) (S1 : own_SH Z h0 o1 a1 (2 : Int32) (0 : Int32) k1 (2 : Int32) [(.int hi1), (.int lo1)]) (S2 : own_SH Z h0 o2 a2 (2 : Int32) (0 : Int32) k2 (2 : Int32) [(.int hi2), (.int lo2)]) (qh : own_u hi1 = own_u hi2) (ql : own_u lo1 < own_u lo2) : own_Met l Y30 jdk_2101_method_15_code 8 (some .int) ⟨0, 0, 0, 0⟩ ws #[(.ref o1), (.ref o2)] Z h0 (Q_cmL Z o1 o2 a1 k1 hi1 lo1 a2 k2 hi2 lo2 h0 n0) := by
 refine own_go (plainFor_of_name pn_java_math_MutableBigInteger) (fun m => ef30_RR m o1 o2) fun p e s m below meth c s₁ hx hby hml hown hnm hret hZ e0 X0 => ?_
 have N0 := Fr.nil n0
 obtain ⟨T1_, X1_, e1_, st1_⟩ := own_gN (pc := 0) (Ls := #[rv o1, rv o2, .unset, .unset, .unset, .unset, .unset, .unset]) (stk := []) X0 hx hZ hown (wt hw 50 rfl) e0 S2.2.2.2.1 hby (D30 0) (D30 1) rfl
 obtain ⟨T2_, X2_, e2_, st2_⟩ := own_gN (pc := 5) (Ls := #[rv o1, rv o2, iv 2, .unset, .unset, .unset, .unset, .unset]) (stk := []) X1_ hx hZ hown (wt hw 50 rfl) e1_ S1.2.2.2.1 hby (D30 3) (D30 4) rfl
 obtain ⟨T3_, X3_, e3_, st3_⟩ := own_gN (pc := 15) (Ls := #[rv o1, rv o2, iv 2, .unset, .unset, .unset, .unset, .unset]) (stk := []) X2_ hx hZ hown (wt hw 50 rfl) e2_ S1.2.2.2.1 hby (D30 7) (D30 8) rfl
 obtain ⟨T4_, X4_, e4_, st4_⟩ := own_gN (pc := 25) (Ls := #[rv o1, rv o2, iv 2, .unset, .unset, .unset, .unset, .unset]) (stk := []) X3_ hx hZ hown (wt hw 65 rfl) e3_ S2.2.2.1 hby (D30 15) (D30 16) rfl
 obtain ⟨T5_, X5_, e5_, st5_⟩ := own_gN (pc := 30) (Ls := #[rv o1, rv o2, iv 2, rv a2, .unset, .unset, .unset, .unset]) (stk := []) X4_ hx hZ hown (wt hw 47 rfl) e4_ S1.2.2.2.2.1 hby (D30 18) (D30 19) rfl
 obtain ⟨T6_, X6_, e6_, st6_⟩ := own_gN (pc := 36) (Ls := #[rv o1, rv o2, iv 2, rv a2, iv 0, .unset, .unset, .unset]) (stk := []) X5_ hx hZ hown (wt hw 47 rfl) e5_ S2.2.2.2.2.1 hby (D30 21) (D30 22) rfl
 obtain ⟨T7_, X7_, e7_, st7_⟩ := own_gN (pc := 44) (Ls := #[rv o1, rv o2, iv 2, rv a2, iv 0, iv 0, .unset, .unset]) (stk := [(.int 0)]) X6_ hx hZ hown (wt hw 50 rfl) e6_ S1.2.2.2.1 hby (D30 25) (D30 26) rfl
 obtain ⟨T8_, X8_, e8_, st8_⟩ := own_gN (pc := 48) (Ls := #[rv o1, rv o2, iv 2, rv a2, iv 0, iv 0, .unset, .unset]) (stk := [(.int 2), (.int 0)]) X7_ hx hZ hown (wt hw 47 rfl) e7_ S1.2.2.2.2.1 hby (D30 27) (D30 28) rfl
 obtain ⟨T9_, X9_, e9_, st9_⟩ := own_gN (pc := 56) (Ls := #[rv o1, rv o2, iv 2, rv a2, iv 0, iv 0, .unset, .unset]) (stk := []) X8_ hx hZ hown (wt hw 65 rfl) e8_ S1.2.2.1 hby (D30 31) (D30 32) rfl
 obtain ⟨T10_, X10_, e10_, st10_⟩ := own_gN (pc := 44) (Ls := #[rv o1, rv o2, iv 2, rv a2, iv 1, iv 1, iv (hi1 + (-2147483648 : Int32)), iv (hi2 + (-2147483648 : Int32))]) (stk := [(.int 1)]) X9_ hx hZ hown (wt hw 50 rfl) e9_ S1.2.2.2.1 hby (D30 25) (D30 26) rfl
 obtain ⟨T11_, X11_, e11_, st11_⟩ := own_gN (pc := 48) (Ls := #[rv o1, rv o2, iv 2, rv a2, iv 1, iv 1, iv (hi1 + (-2147483648 : Int32)), iv (hi2 + (-2147483648 : Int32))]) (stk := [(.int 2), (.int 1)]) X10_ hx hZ hown (wt hw 47 rfl) e10_ S1.2.2.2.2.1 hby (D30 27) (D30 28) rfl
 obtain ⟨T12_, X12_, e12_, st12_⟩ := own_gN (pc := 56) (Ls := #[rv o1, rv o2, iv 2, rv a2, iv 1, iv 1, iv (hi1 + (-2147483648 : Int32)), iv (hi2 + (-2147483648 : Int32))]) (stk := []) X11_ hx hZ hown (wt hw 65 rfl) e11_ S1.2.2.1 hby (D30 31) (D30 32) rfl
 refine ⟨_, _, _, _, some (.int (-1 : Int32)), X12_, (by exact own_b rfl), (by exact own_b rfl), nofun, (by show Q_cmL Z o1 o2 a1 k1 hi1 lo1 a2 k2 hi2 lo2 h0 n0 _ T12_.heap _; rw [e12_]; exact ⟨rfl, N0, rfl⟩), fun fs hr => ?_⟩
 refine st1_ _ ?_
 refine ksN X1_ hx hby (D30 2) (l' := #[rv o1, rv o2, iv 2, .unset, .unset, .unset, .unset, .unset]) rfl ?_
 refine st2_ _ ?_
 refine kiN X2_ hx hby (D30 5) rfl ?_
 refine kcY X2_ hx (pc0 := 10) (pc' := 15) rfl hby (D30 6) (flt ((by decide) : ¬ ((2 : Int32) < (2 : Int32)))).2.1 (by decide) (by decide) ?_
 refine st3_ _ ?_
 refine kiN X3_ hx hby (D30 9) rfl ?_
 refine kcY X3_ hx (pc0 := 20) (pc' := 25) rfl hby (D30 10) (flt ((by decide) : ¬ ((2 : Int32) < (2 : Int32)))).2.2.2 (by decide) (by decide) ?_
 refine st4_ _ ?_
 refine ktN X4_ hx hby (D30 17) rfl (l' := #[rv o1, rv o2, iv 2, rv a2, .unset, .unset, .unset, .unset]) rfl ?_
 refine st5_ _ ?_
 refine ks X5_ hx hby (D30 20) (l' := #[rv o1, rv o2, iv 2, rv a2, iv 0, .unset, .unset, .unset]) rfl ?_
 refine st6_ _ ?_
 refine ks X6_ hx hby (D30 23) (l' := #[rv o1, rv o2, iv 2, rv a2, iv 0, iv 0, .unset, .unset]) rfl ?_
 refine ki X6_ hx hby (D30 24) rfl ?_
 refine st7_ _ ?_
 refine st8_ _ ?_
 refine kia X8_ hx hby (D30 29) ?_
 refine kcN X8_ hx hby (D30 30) (tlt ((by decide) : (0 : Int32) < (2 : Int32))).2.1 ?_
 refine st9_ _ ?_
 refine ki X9_ hx hby (D30 33) rfl ?_
 refine own_ia X9_ hx hZ e9_ S1.2.2.2.2.2 ⟨by decide, by decide⟩ rfl hby (D30 34) ?_
 refine own_ld X9_ hx hZ hown (wt hw 114 rfl) hby (D30 35) ?_
 refine kia X9_ hx hby (D30 36) ?_
 refine ks X9_ hx hby (D30 37) (l' := #[rv o1, rv o2, iv 2, rv a2, iv 0, iv 0, iv (hi1 + (-2147483648 : Int32)), .unset]) rfl ?_
 refine kaN X9_ hx hby (D30 38) rfl rfl ?_
 refine ki X9_ hx hby (D30 39) rfl ?_
 refine own_ia X9_ hx hZ e9_ S2.2.2.2.2.2 ⟨by decide, by decide⟩ rfl hby (D30 40) ?_
 refine own_ld X9_ hx hZ hown (wt hw 114 rfl) hby (D30 41) ?_
 refine kia X9_ hx hby (D30 42) ?_
 refine ks X9_ hx hby (D30 43) (l' := #[rv o1, rv o2, iv 2, rv a2, iv 0, iv 0, iv (hi1 + (-2147483648 : Int32)), iv (hi2 + (-2147483648 : Int32))]) rfl ?_
 refine ki X9_ hx hby (D30 44) rfl ?_
 refine ki X9_ hx hby (D30 45) rfl ?_
 refine kcY X9_ hx (pc0 := 81) (pc' := 86) rfl hby (D30 46) (flt ((fun q => absurd ((own_ult hi1 hi2).mp q) (by omega)) : ¬ ((hi1 + (-2147483648 : Int32)) < (hi2 + (-2147483648 : Int32))))).2.1 (by decide) (by decide) ?_
 refine ki X9_ hx hby (D30 47) rfl ?_
 refine ki X9_ hx hby (D30 48) rfl ?_
 refine kcY X9_ hx (pc0 := 90) (pc' := 95) rfl hby (D30 49) (flt ((fun q => absurd ((own_ult hi2 hi1).mp q) (by omega)) : ¬ ((hi2 + (-2147483648 : Int32)) < (hi1 + (-2147483648 : Int32))))).2.2.2 (by decide) (by decide) ?_
 refine kn X9_ hx hby (D30 52) rfl (l' := #[rv o1, rv o2, iv 2, rv a2, iv 1, iv 0, iv (hi1 + (-2147483648 : Int32)), iv (hi2 + (-2147483648 : Int32))]) rfl ?_
 refine kn X9_ hx hby (D30 53) rfl (l' := #[rv o1, rv o2, iv 2, rv a2, iv 1, iv 1, iv (hi1 + (-2147483648 : Int32)), iv (hi2 + (-2147483648 : Int32))]) rfl ?_
 refine kg X9_ hx (pc0 := 101) (pc' := 42) rfl hby (D30 54) (by decide) (by decide) ?_
 refine ki X9_ hx hby (D30 24) rfl ?_
 refine st10_ _ ?_
 refine st11_ _ ?_
 refine kia X11_ hx hby (D30 29) ?_
 refine kcN X11_ hx hby (D30 30) (tlt ((by decide) : (1 : Int32) < (2 : Int32))).2.1 ?_
 refine st12_ _ ?_
 refine ki X12_ hx hby (D30 33) rfl ?_
 refine own_ia X12_ hx hZ e12_ S1.2.2.2.2.2 ⟨by decide, by decide⟩ rfl hby (D30 34) ?_
 refine own_ld X12_ hx hZ hown (wt hw 114 rfl) hby (D30 35) ?_
 refine kia X12_ hx hby (D30 36) ?_
 refine ks X12_ hx hby (D30 37) (l' := #[rv o1, rv o2, iv 2, rv a2, iv 1, iv 1, iv (lo1 + (-2147483648 : Int32)), iv (hi2 + (-2147483648 : Int32))]) rfl ?_
 refine kaN X12_ hx hby (D30 38) rfl rfl ?_
 refine ki X12_ hx hby (D30 39) rfl ?_
 refine own_ia X12_ hx hZ e12_ S2.2.2.2.2.2 ⟨by decide, by decide⟩ rfl hby (D30 40) ?_
 refine own_ld X12_ hx hZ hown (wt hw 114 rfl) hby (D30 41) ?_
 refine kia X12_ hx hby (D30 42) ?_
 refine ks X12_ hx hby (D30 43) (l' := #[rv o1, rv o2, iv 2, rv a2, iv 1, iv 1, iv (lo1 + (-2147483648 : Int32)), iv (lo2 + (-2147483648 : Int32))]) rfl ?_
 refine ki X12_ hx hby (D30 44) rfl ?_
 refine ki X12_ hx hby (D30 45) rfl ?_
 refine kcN X12_ hx hby (D30 46) (tlt (((own_ult lo1 lo2).mpr ql) : (lo1 + (-2147483648 : Int32)) < (lo2 + (-2147483648 : Int32)))).2.1 ?_
 refine kc X12_ hx hby (D30 55) ?_
 exact retI X12_ hx hret (hb hby (D30 56)) hr
theorem cmL (l : Launch) (Z : State) (a0 : Array Value) (hw : own_W Z a0) (ws : List Jvm.Cond) (o1 : Addr) (o2 : Addr) (a1 : Addr) (k1 : ClassId) (hi1 : Int32) (lo1 : Int32) (a2 : Addr) (k2 : ClassId) (hi2 : Int32) (lo2 : Int32) (h0 : Heap) (n0 : Nat) (Z0 : n0 ≤ h0.size) (S1 : own_SH Z h0 o1 a1 (2 : Int32) (0 : Int32) k1 (2 : Int32) [(.int hi1), (.int lo1)]) (S2 : own_SH Z h0 o2 a2 (2 : Int32) (0 : Int32) k2 (2 : Int32) [(.int hi2), (.int lo2)]) (qv : own_u hi1 < own_u hi2 ∨ (own_u hi1 = own_u hi2 ∧ own_u lo1 < own_u lo2)) :
    own_Met l Y30 jdk_2101_method_15_code 8 (some .int) ⟨0, 0, 0, 0⟩ ws #[(.ref o1), (.ref o2)] Z h0 (Q_cmL Z o1 o2 a1 k1 hi1 lo1 a2 k2 hi2 lo2 h0 n0) := by
  rcases qv with c | ⟨c, d⟩
  · exact cmLH l Z a0 hw ws _ _ _ _ _ _ _ _ _ _ h0 n0 Z0 S1 S2 c
  · exact cmLL l Z a0 hw ws _ _ _ _ _ _ _ _ _ _ h0 n0 Z0 S1 S2 c d
theorem pd2 : parseMethodDescriptor "(Ljava/math/MutableBigInteger;)I" = some ⟨[(.object "java/math/MutableBigInteger")], some .int⟩ := by decide +kernel
theorem pd3 : parseMethodDescriptor "()V" = some ⟨[], none⟩ := by decide +kernel
def Q_rmDg (Z : State) (o1 : Addr) (o2 : Addr) (a1 : Addr) (n1 : Nat) (a2 : Addr) (n2 : Nat) (h0 : Heap) (n0 : Nat) (v : Option Value) (h : Heap) (L : List Loc) : Prop := v = some (.int 1) ∧ Fr n0 L ∧ Keep h0 h [o1, a1] ∧ (own_MB Z h o1 a1 (n1 - n2))
abbrev Y37 : MethodName := ⟨"java/math/MutableBigInteger", "difference", "(Ljava/math/MutableBigInteger;)I"⟩
theorem ef37_RR (m : MethodId) (x0 : Addr) (x1 : Addr) : entryFrame m #[(.ref x0), (.ref x1)] 8 = mkF m 0 #[rv x0, rv x1, .unset, .unset, .unset, .unset, .unset, .unset] [] := by first | (simp [entryFrame, mkF, argsToLocals, Value.category]; done) | rfl
theorem rmDgAA (l : Launch) (Z : State) (a0 : Array Value) (hw : own_W Z a0) (ws : List Jvm.Cond) (o1 : Addr) (o2 : Addr) (a1 : Addr) (k1 : ClassId) (hi1 : Int32) (lo1 : Int32) (a2 : Addr) (k2 : ClassId) (hi2 : Int32) (lo2 : Int32) (n1 : Nat) (n2 : Nat) (d1 : Int64) (d2 : Int64) (h0 : Heap) (n0 : Nat) (Z0 : n0 ≤ h0.size) (S1 : own_SH Z h0 o1 a1 (2 : Int32) (0 : Int32) k1 (2 : Int32) [(.int hi1), (.int lo1)]) (S2 : own_SH Z h0 o2 a2 (2 : Int32) (0 : Int32) k2 (2 : Int32) [(.int hi2), (.int lo2)]) (n12 : o1 ≠ o2) (m12 : a1 ≠ a2) (g1 : n0 ≤ o1) (g2 : n0 ≤ a1) (ed1 : (((lo1.toInt64 &&& (4294967295 : Int64)) - (lo2.toInt64 &&& (4294967295 : Int64))) + ((0 : Int64) >>> ((32 : Int32) &&& 0x3f).toInt64)) = d1) (ed2 : (((hi1.toInt64 &&& (4294967295 : Int64)) - (hi2.toInt64 &&& (4294967295 : Int64))) + (d1 >>> ((32 : Int32) &&& 0x3f).toInt64)) = d2) (gd2 : ¬ (d2 < (0 : Int64))) (nu : (n1 - n2) = own_u (d2.toInt32) * 4294967296 + own_u (d1.toInt32)) (nz : (n1 - n2) ≠ 0) (qv : own_u hi2 < own_u hi1 ∨ (own_u hi1 = own_u hi2 ∧ own_u lo2 < own_u lo1)) : own_Met l Y37 jdk_2101_method_50_code 8 (some .int) ⟨1, 0, 0, 19⟩ ws #[(.ref o1), (.ref o2)] Z h0 (Q_rmDg Z o1 o2 a1 n1 a2 n2 h0 n0) := by
 refine own_go (plainFor_of_name pn_java_math_MutableBigInteger) (fun m => ef37_RR m o1 o2) fun p e s m below meth c s₁ hx hby hml hown hnm hret hZ e0 X0 => ?_
 have N0 := Fr.nil n0
 obtain ⟨T1_, Lc1_, v1_, X1_, hQ1_, st1_⟩ := own_cV (y := Y30) X0 hx hZ hown (wt hw 161 rfl) (wt hw 163 rfl) (wt hw 164 rfl) (wt hw 165 rfl) (wt hw 41 rfl) (by decide) (cmG l Z a0 hw [] o1 o2 a1 k1 hi1 lo1 a2 k2 hi2 lo2 h0 n0 Z0 ⟨S1.1, S1.2.1, S1.2.2.1, S1.2.2.2.1, S1.2.2.2.2.1, S1.2.2.2.2.2⟩ ⟨S2.1, S2.2.1, S2.2.2.1, S2.2.2.2.1, S2.2.2.2.2.1, S2.2.2.2.2.2⟩ qv) S1.1 e0 (pc := 4) (Ls := #[rv o1, rv o2, rv o1, .unset, .unset, .unset, .unset, .unset]) (stk := [(.ref o2), (.ref o1)]) (rest := []) (by rw [hml]; rfl) pd2 rfl rfl (W := 0) rfl hby (D37 4) (by decide) (by decide) (by exact own_b rfl) (by exact own_b rfl)
 obtain ⟨rfl, Nq1_, ek1_⟩ := hQ1_
 have N1_ := Fr.app N0 Nq1_
 obtain ⟨T2_, X2_, e2_, st2_⟩ := own_gN (pc := 29) (Ls := #[rv o1, rv o2, rv o1, iv 1, lv 0, .second, .unset, .unset]) (stk := []) X1_ hx hZ hown (wt hw 50 rfl) ek1_ S1.2.2.2.1 hby (D37 12) (D37 13) rfl
 obtain ⟨T3_, X3_, e3_, st3_⟩ := own_gN (pc := 35) (Ls := #[rv o1, rv o2, rv o1, iv 1, lv 0, .second, iv 2, .unset]) (stk := []) X2_ hx hZ hown (wt hw 50 rfl) e2_ S2.2.2.2.1 hby (D37 15) (D37 16) rfl
 obtain ⟨T4_, X4_, e4_, st4_⟩ := own_gN (pc := 52) (Ls := #[rv o1, rv o2, rv o1, iv 1, lv 0, .second, iv 1, iv 1]) (stk := []) X3_ hx hZ hown (wt hw 65 rfl) e3_ S1.2.2.1 hby (D37 22) (D37 23) rfl
 obtain ⟨T5_, X5_, e5_, st5_⟩ := own_gN (pc := 56) (Ls := #[rv o1, rv o2, rv o1, iv 1, lv 0, .second, iv 1, iv 1]) (stk := [(.ref a1)]) X4_ hx hZ hown (wt hw 47 rfl) e4_ S1.2.2.2.2.1 hby (D37 24) (D37 25) rfl
 obtain ⟨T6_, X6_, e6_, st6_⟩ := own_gN (pc := 69) (Ls := #[rv o1, rv o2, rv o1, iv 1, lv 0, .second, iv 1, iv 1]) (stk := [(.long ((lo1.toInt64) &&& (4294967295 : Int64)))]) X5_ hx hZ hown (wt hw 65 rfl) e5_ S2.2.2.1 hby (D37 32) (D37 33) rfl
 obtain ⟨T7_, X7_, e7_, st7_⟩ := own_gN (pc := 73) (Ls := #[rv o1, rv o2, rv o1, iv 1, lv 0, .second, iv 1, iv 1]) (stk := [(.ref a2), (.long ((lo1.toInt64) &&& (4294967295 : Int64)))]) X6_ hx hZ hown (wt hw 47 rfl) e6_ S2.2.2.2.2.1 hby (D37 34) (D37 35) rfl
 obtain ⟨T8_, X8_, e8_, st8_⟩ := own_gN (pc := 95) (Ls := #[rv o1, rv o2, rv o1, iv 1, lv d1, .second, iv 1, iv 1]) (stk := []) X7_ hx hZ hown (wt hw 65 rfl) e7_ S1.2.2.1 hby (D37 48) (D37 49) rfl
 obtain ⟨T9_, X9_, e9_, st9_⟩ := own_gN (pc := 99) (Ls := #[rv o1, rv o2, rv o1, iv 1, lv d1, .second, iv 1, iv 1]) (stk := [(.ref a1)]) X8_ hx hZ hown (wt hw 47 rfl) e8_ S1.2.2.2.2.1 hby (D37 50) (D37 51) rfl
 obtain ⟨T10_, h10_, X10_, e10_, W10_, v10_, N10_, st10_⟩ := own_si (pc := 109) (Ls := #[rv o1, rv o2, rv o1, iv 1, lv d1, .second, iv 1, iv 1]) (stk := [(.int (d1.toInt32)), (.int 1), (.ref a1)]) X9_ hx hZ e9_ S1.2.2.2.2.2 ⟨by decide, by decide⟩ 1 rfl (Nat.le_of_ble_eq_true rfl) N1_ g2 hby (D37 56) rfl
 have f11_ := S1.2.2.1.other W10_ (Or.inl (ne_exa S1.1 S1.2.1 (by decide)))
 obtain ⟨T12_, X12_, e12_, st12_⟩ := own_gN (pc := 52) (Ls := #[rv o1, rv o2, rv o1, iv 1, lv d1, .second, iv 0, iv 0]) (stk := []) X10_ hx hZ hown (wt hw 65 rfl) e10_ f11_ hby (D37 22) (D37 23) rfl
 have f13_ := S1.2.2.2.2.1.other W10_ (Or.inl (ne_exa S1.1 S1.2.1 (by decide)))
 obtain ⟨T14_, X14_, e14_, st14_⟩ := own_gN (pc := 56) (Ls := #[rv o1, rv o2, rv o1, iv 1, lv d1, .second, iv 0, iv 0]) (stk := [(.ref a1)]) X12_ hx hZ hown (wt hw 47 rfl) e12_ f13_ hby (D37 24) (D37 25) rfl
 have f15_ := S2.2.2.1.other W10_ (Or.inl (ne_exa S2.1 S1.2.1 (by decide)))
 obtain ⟨T16_, X16_, e16_, st16_⟩ := own_gN (pc := 69) (Ls := #[rv o1, rv o2, rv o1, iv 1, lv d1, .second, iv 0, iv 0]) (stk := [(.long ((hi1.toInt64) &&& (4294967295 : Int64)))]) X14_ hx hZ hown (wt hw 65 rfl) e14_ f15_ hby (D37 32) (D37 33) rfl
 have f17_ := S2.2.2.2.2.1.other W10_ (Or.inl (ne_exa S2.1 S1.2.1 (by decide)))
 obtain ⟨T18_, X18_, e18_, st18_⟩ := own_gN (pc := 73) (Ls := #[rv o1, rv o2, rv o1, iv 1, lv d1, .second, iv 0, iv 0]) (stk := [(.ref a2), (.long ((hi1.toInt64) &&& (4294967295 : Int64)))]) X16_ hx hZ hown (wt hw 47 rfl) e16_ f17_ hby (D37 34) (D37 35) rfl
 have f19_ := S2.2.2.2.2.2.other W10_ (Ne.symm m12)
 obtain ⟨T20_, X20_, e20_, st20_⟩ := own_gN (pc := 95) (Ls := #[rv o1, rv o2, rv o1, iv 1, lv d2, .second, iv 0, iv 0]) (stk := []) X18_ hx hZ hown (wt hw 65 rfl) e18_ f11_ hby (D37 48) (D37 49) rfl
 obtain ⟨T21_, X21_, e21_, st21_⟩ := own_gN (pc := 99) (Ls := #[rv o1, rv o2, rv o1, iv 1, lv d2, .second, iv 0, iv 0]) (stk := [(.ref a1)]) X20_ hx hZ hown (wt hw 47 rfl) e20_ f13_ hby (D37 50) (D37 51) rfl
 obtain ⟨T22_, h22_, X22_, e22_, W22_, v22_, N22_, st22_⟩ := own_si (pc := 109) (Ls := #[rv o1, rv o2, rv o1, iv 1, lv d2, .second, iv 0, iv 0]) (stk := [(.int (d2.toInt32)), (.int 0), (.ref a1)]) X21_ hx hZ e21_ v10_ ⟨by decide, by decide⟩ 0 rfl (Nat.le_of_ble_eq_true rfl) N10_ g2 hby (D37 56) rfl
 have f24_ := (S1.1.wr W10_).wr W22_
 have f25_ := (S1.2.1.wr W10_).wr W22_
 have f26_ := f11_.other W22_ (Or.inl (ne_exa (S1.1.wr W10_) (S1.2.1.wr W10_) (by decide)))
 have f27_ := (S1.2.2.2.1.other W10_ (Or.inl (ne_exa S1.1 S1.2.1 (by decide)))).other W22_ (Or.inl (ne_exa (S1.1.wr W10_) (S1.2.1.wr W10_) (by decide)))
 have f28_ := f13_.other W22_ (Or.inl (ne_exa (S1.1.wr W10_) (S1.2.1.wr W10_) (by decide)))
 have z29_ : n0 ≤ h10_.size := Nat.le_trans Z0 (Keep.of_wr W10_).1
 have z30_ : n0 ≤ h22_.size := Nat.le_trans z29_ (Keep.of_wr W22_).1
 obtain ⟨T23_, Lc23_, v23_, X23_, hQ23_, st23_⟩ := own_cV (y := Y38) X22_ hx hZ hown (wt hw 207 rfl) (wt hw 209 rfl) (wt hw 210 rfl) (wt hw 211 rfl) (wt hw 41 rfl) (by decide) (rmNo l Z a0 hw [] o1 a1 k1 (d2.toInt32) (d1.toInt32) (n1 - n2) h22_ n0 z30_ ⟨f24_, f25_, f26_, f27_, f28_, v22_⟩ g1 g2 nu nz) f24_ e22_ (pc := 172) (Ls := #[rv o1, rv o2, rv o1, iv 1, lv d2, .second, iv 0, iv 0]) (stk := [(.ref o1)]) (rest := []) (by rw [hml]; rfl) pd3 rfl rfl (W := 0) rfl hby (D37 63) (by decide) (by decide) (by exact own_b rfl) (by exact own_b rfl)
 obtain ⟨rfl, Nq23_, ek23_, p23__0⟩ := hQ23_
 have N23_ := Fr.app N22_ Nq23_
 have k31_ := (Keep.refl h0 [o1, a1]).wr W10_ (own_in 1 rfl)
 have k32_ := k31_.wr W22_ (own_in 1 rfl)
 have k33_ := k32_.trans ek23_ (allS (own_in 0 rfl) (allS (own_in 1 rfl) all0))
 refine ⟨_, _, _, _, some (.int 1), X23_, (by exact own_b rfl), (by exact own_b rfl), nofun, (by show Q_rmDg Z o1 o2 a1 n1 a2 n2 h0 n0 _ T23_.heap _; exact ⟨rfl, N23_, k33_, p23__0⟩), fun fs hr => ?_⟩
 refine kaN X0 hx hby (D37 0) rfl rfl ?_
 refine ktN X0 hx hby (D37 1) rfl (l' := #[rv o1, rv o2, rv o1, .unset, .unset, .unset, .unset, .unset]) rfl ?_
 refine kaN X0 hx hby (D37 2) rfl rfl ?_
 refine kaN X0 hx hby (D37 3) rfl rfl ?_
 refine st1_ _ ?_
 refine ksN X1_ hx hby (D37 5) (l' := #[rv o1, rv o2, rv o1, iv 1, .unset, .unset, .unset, .unset]) rfl ?_
 refine kiN X1_ hx hby (D37 6) rfl ?_
 refine kfY X1_ hx (pc0 := 9) (pc' := 14) rfl hby (D37 7) ((if0 _ _).trans (feq ((by decide) : ¬ ((1 : Int32) = (0 : Int32)))).2) (by decide) (by decide) ?_
 refine kiN X1_ hx hby (D37 8) rfl ?_
 refine kfY X1_ hx (pc0 := 15) (pc' := 26) rfl hby (D37 9) ((if0 _ _).trans (flt ((by decide) : ¬ ((1 : Int32) < (0 : Int32)))).2.1) (by decide) (by decide) ?_
 refine klc X1_ hx hby (D37 10) ?_
 refine kls X1_ hx hby (D37 11) (l' := #[rv o1, rv o2, rv o1, iv 1, lv 0, .second, .unset, .unset]) rfl ?_
 refine st2_ _ ?_
 refine ks X2_ hx hby (D37 14) (l' := #[rv o1, rv o2, rv o1, iv 1, lv 0, .second, iv 2, .unset]) rfl ?_
 refine st3_ _ ?_
 refine ks X3_ hx hby (D37 17) (l' := #[rv o1, rv o2, rv o1, iv 1, lv 0, .second, iv 2, iv 2]) rfl ?_
 refine ki X3_ hx hby (D37 18) rfl ?_
 refine kfN X3_ hx hby (D37 19) ((if0 _ _).trans (tlt ((by decide) : (0 : Int32) < (2 : Int32))).2.2.2) ?_
 refine kn X3_ hx hby (D37 20) rfl (l' := #[rv o1, rv o2, rv o1, iv 1, lv 0, .second, iv 1, iv 2]) rfl ?_
 refine kn X3_ hx hby (D37 21) rfl (l' := #[rv o1, rv o2, rv o1, iv 1, lv 0, .second, iv 1, iv 1]) rfl ?_
 refine st4_ _ ?_
 refine st5_ _ ?_
 refine ki X5_ hx hby (D37 26) rfl ?_
 refine kia X5_ hx hby (D37 27) ?_
 refine own_ia X5_ hx hZ e5_ S1.2.2.2.2.2 ⟨by decide, by decide⟩ rfl hby (D37 28) ?_
 refine ki2l X5_ hx hby (D37 29) ?_
 refine own_l2 X5_ hx hZ hown (wt hw 176 rfl) hby (D37 30) ?_
 refine kla X5_ hx hby (D37 31) ?_
 refine st6_ _ ?_
 refine st7_ _ ?_
 refine ki X7_ hx hby (D37 36) rfl ?_
 refine kia X7_ hx hby (D37 37) ?_
 refine own_ia X7_ hx hZ e7_ S2.2.2.2.2.2 ⟨by decide, by decide⟩ rfl hby (D37 38) ?_
 refine ki2l X7_ hx hby (D37 39) ?_
 refine own_l2 X7_ hx hZ hown (wt hw 176 rfl) hby (D37 40) ?_
 refine kla X7_ hx hby (D37 41) ?_
 refine klsub X7_ hx hby (D37 42) ?_
 refine kl X7_ hx hby (D37 43) rfl ?_
 refine kb X7_ hx hby (D37 44) ?_
 refine klshr X7_ hx hby (D37 45) ?_
 refine kladd X7_ hx hby (D37 46) ?_
 refine own_rJ (ed1) ?_
 refine kls X7_ hx hby (D37 47) (l' := #[rv o1, rv o2, rv o1, iv 1, lv d1, .second, iv 1, iv 1]) rfl ?_
 refine st8_ _ ?_
 refine st9_ _ ?_
 refine ki X9_ hx hby (D37 52) rfl ?_
 refine kia X9_ hx hby (D37 53) ?_
 refine kl X9_ hx hby (D37 54) rfl ?_
 refine kl2i X9_ hx hby (D37 55) ?_
 refine st10_ _ ?_
 refine kg X10_ hx (pc0 := 110) (pc' := 41) rfl hby (D37 57) (by decide) (by decide) ?_
 refine ki X10_ hx hby (D37 18) rfl ?_
 refine kfN X10_ hx hby (D37 19) ((if0 _ _).trans (tlt ((by decide) : (0 : Int32) < (1 : Int32))).2.2.2) ?_
 refine kn X10_ hx hby (D37 20) rfl (l' := #[rv o1, rv o2, rv o1, iv 1, lv d1, .second, iv 0, iv 1]) rfl ?_
 refine kn X10_ hx hby (D37 21) rfl (l' := #[rv o1, rv o2, rv o1, iv 1, lv d1, .second, iv 0, iv 0]) rfl ?_
 refine st12_ _ ?_
 refine st14_ _ ?_
 refine ki X14_ hx hby (D37 26) rfl ?_
 refine kia X14_ hx hby (D37 27) ?_
 refine own_ia X14_ hx hZ e14_ v10_ ⟨by decide, by decide⟩ rfl hby (D37 28) ?_
 refine ki2l X14_ hx hby (D37 29) ?_
 refine own_l2 X14_ hx hZ hown (wt hw 176 rfl) hby (D37 30) ?_
 refine kla X14_ hx hby (D37 31) ?_
 refine st16_ _ ?_
 refine st18_ _ ?_
 refine ki X18_ hx hby (D37 36) rfl ?_
 refine kia X18_ hx hby (D37 37) ?_
 refine own_ia X18_ hx hZ e18_ f19_ ⟨by decide, by decide⟩ rfl hby (D37 38) ?_
 refine ki2l X18_ hx hby (D37 39) ?_
 refine own_l2 X18_ hx hZ hown (wt hw 176 rfl) hby (D37 40) ?_
 refine kla X18_ hx hby (D37 41) ?_
 refine klsub X18_ hx hby (D37 42) ?_
 refine kl X18_ hx hby (D37 43) rfl ?_
 refine kb X18_ hx hby (D37 44) ?_
 refine klshr X18_ hx hby (D37 45) ?_
 refine kladd X18_ hx hby (D37 46) ?_
 refine own_rJ (ed2) ?_
 refine kls X18_ hx hby (D37 47) (l' := #[rv o1, rv o2, rv o1, iv 1, lv d2, .second, iv 0, iv 0]) rfl ?_
 refine st20_ _ ?_
 refine st21_ _ ?_
 refine ki X21_ hx hby (D37 52) rfl ?_
 refine kia X21_ hx hby (D37 53) ?_
 refine kl X21_ hx hby (D37 54) rfl ?_
 refine kl2i X21_ hx hby (D37 55) ?_
 refine st22_ _ ?_
 refine kg X22_ hx (pc0 := 110) (pc' := 41) rfl hby (D37 57) (by decide) (by decide) ?_
 refine ki X22_ hx hby (D37 18) rfl ?_
 refine kfY X22_ hx (pc0 := 43) (pc' := 113) rfl hby (D37 19) ((if0 _ _).trans (flt ((by decide) : ¬ ((0 : Int32) < (0 : Int32)))).2.2.2) (by decide) (by decide) ?_
 refine kl X22_ hx hby (D37 58) rfl ?_
 refine klc X22_ hx hby (D37 59) ?_
 refine klcmp X22_ hx hby (D37 60) ?_
 refine kfY X22_ hx (pc0 := 117) (pc' := 171) rfl hby (D37 61) ((if0 _ _).trans (flt ((fun q => gd2 ((lw_lt _ _).mp q)) : ¬ ((lcmpW d2 (0 : Int64)) < (0 : Int32)))).2.1) (by decide) (by decide) ?_
 refine kaN X22_ hx hby (D37 62) rfl rfl ?_
 refine st23_ _ ?_
 refine kiN X23_ hx hby (D37 64) rfl ?_
 exact retI X23_ hx hret (hb hby (D37 65)) hr
theorem rmDgABn (l : Launch) (Z : State) (a0 : Array Value) (hw : own_W Z a0) (ws : List Jvm.Cond) (o1 : Addr) (o2 : Addr) (a1 : Addr) (k1 : ClassId) (hi1 : Int32) (lo1 : Int32) (a2 : Addr) (k2 : ClassId) (z2 : Int32) (vs2 : List Value) (j2 : Int32) (x2 : Int32) (n1 : Nat) (n2 : Nat) (d1 : Int64) (h0 : Heap) (n0 : Nat) (Z0 : n0 ≤ h0.size) (S1 : own_SH Z h0 o1 a1 (2 : Int32) (0 : Int32) k1 (2 : Int32) [(.int hi1), (.int lo1)]) (S2 : own_SH Z h0 o2 a2 (1 : Int32) j2 k2 z2 vs2) (xB2 : own_B z2 vs2 j2 x2) (n12 : o1 ≠ o2) (m12 : a1 ≠ a2) (g1 : n0 ≤ o1) (g2 : n0 ≤ a1) (ed1 : (((lo1.toInt64 &&& (4294967295 : Int64)) - (x2.toInt64 &&& (4294967295 : Int64))) + ((0 : Int64) >>> ((32 : Int32) &&& 0x3f).toInt64)) = d1) (gd1 : ¬ (d1 < (0 : Int64))) (nu : (n1 - n2) = own_u hi1 * 4294967296 + own_u (d1.toInt32)) (nz : (n1 - n2) ≠ 0) : own_Met l Y37 jdk_2101_method_50_code 8 (some .int) ⟨1, 0, 0, 19⟩ ws #[(.ref o1), (.ref o2)] Z h0 (Q_rmDg Z o1 o2 a1 n1 a2 n2 h0 n0) := by
 refine own_go (plainFor_of_name pn_java_math_MutableBigInteger) (fun m => ef37_RR m o1 o2) fun p e s m below meth c s₁ hx hby hml hown hnm hret hZ e0 X0 => ?_
 have N0 := Fr.nil n0
 obtain ⟨T1_, Lc1_, v1_, X1_, hQ1_, st1_⟩ := own_cV (y := Y30) X0 hx hZ hown (wt hw 161 rfl) (wt hw 163 rfl) (wt hw 164 rfl) (wt hw 165 rfl) (wt hw 41 rfl) (by decide) (cm21 l Z a0 hw [] o1 o2 h0 n0 Z0 S1.2.2.2.1 S2.2.2.2.1) S1.1 e0 (pc := 4) (Ls := #[rv o1, rv o2, rv o1, .unset, .unset, .unset, .unset, .unset]) (stk := [(.ref o2), (.ref o1)]) (rest := []) (by rw [hml]; rfl) pd2 rfl rfl (W := 0) rfl hby (D37 4) (by decide) (by decide) (by exact own_b rfl) (by exact own_b rfl)
 obtain ⟨rfl, Nq1_, ek1_⟩ := hQ1_
 have N1_ := Fr.app N0 Nq1_
 obtain ⟨T2_, X2_, e2_, st2_⟩ := own_gN (pc := 29) (Ls := #[rv o1, rv o2, rv o1, iv 1, lv 0, .second, .unset, .unset]) (stk := []) X1_ hx hZ hown (wt hw 50 rfl) ek1_ S1.2.2.2.1 hby (D37 12) (D37 13) rfl
 obtain ⟨T3_, X3_, e3_, st3_⟩ := own_gN (pc := 35) (Ls := #[rv o1, rv o2, rv o1, iv 1, lv 0, .second, iv 2, .unset]) (stk := []) X2_ hx hZ hown (wt hw 50 rfl) e2_ S2.2.2.2.1 hby (D37 15) (D37 16) rfl
 obtain ⟨T4_, X4_, e4_, st4_⟩ := own_gN (pc := 52) (Ls := #[rv o1, rv o2, rv o1, iv 1, lv 0, .second, iv 1, iv 0]) (stk := []) X3_ hx hZ hown (wt hw 65 rfl) e3_ S1.2.2.1 hby (D37 22) (D37 23) rfl
 obtain ⟨T5_, X5_, e5_, st5_⟩ := own_gN (pc := 56) (Ls := #[rv o1, rv o2, rv o1, iv 1, lv 0, .second, iv 1, iv 0]) (stk := [(.ref a1)]) X4_ hx hZ hown (wt hw 47 rfl) e4_ S1.2.2.2.2.1 hby (D37 24) (D37 25) rfl
 obtain ⟨T6_, X6_, e6_, st6_⟩ := own_gN (pc := 69) (Ls := #[rv o1, rv o2, rv o1, iv 1, lv 0, .second, iv 1, iv 0]) (stk := [(.long ((lo1.toInt64) &&& (4294967295 : Int64)))]) X5_ hx hZ hown (wt hw 65 rfl) e5_ S2.2.2.1 hby (D37 32) (D37 33) rfl
 obtain ⟨T7_, X7_, e7_, st7_⟩ := own_gN (pc := 73) (Ls := #[rv o1, rv o2, rv o1, iv 1, lv 0, .second, iv 1, iv 0]) (stk := [(.ref a2), (.long ((lo1.toInt64) &&& (4294967295 : Int64)))]) X6_ hx hZ hown (wt hw 47 rfl) e6_ S2.2.2.2.2.1 hby (D37 34) (D37 35) rfl
 obtain ⟨T8_, X8_, e8_, st8_⟩ := own_gN (pc := 95) (Ls := #[rv o1, rv o2, rv o1, iv 1, lv d1, .second, iv 1, iv 0]) (stk := []) X7_ hx hZ hown (wt hw 65 rfl) e7_ S1.2.2.1 hby (D37 48) (D37 49) rfl
 obtain ⟨T9_, X9_, e9_, st9_⟩ := own_gN (pc := 99) (Ls := #[rv o1, rv o2, rv o1, iv 1, lv d1, .second, iv 1, iv 0]) (stk := [(.ref a1)]) X8_ hx hZ hown (wt hw 47 rfl) e8_ S1.2.2.2.2.1 hby (D37 50) (D37 51) rfl
 obtain ⟨T10_, h10_, X10_, e10_, W10_, v10_, N10_, st10_⟩ := own_si (pc := 109) (Ls := #[rv o1, rv o2, rv o1, iv 1, lv d1, .second, iv 1, iv 0]) (stk := [(.int (d1.toInt32)), (.int 1), (.ref a1)]) X9_ hx hZ e9_ S1.2.2.2.2.2 ⟨by decide, by decide⟩ 1 rfl (Nat.le_of_ble_eq_true rfl) N1_ g2 hby (D37 56) rfl
 have f12_ := S1.1.wr W10_
 have f13_ := S1.2.1.wr W10_
 have f14_ := S1.2.2.1.other W10_ (Or.inl (ne_exa S1.1 S1.2.1 (by decide)))
 have f15_ := S1.2.2.2.1.other W10_ (Or.inl (ne_exa S1.1 S1.2.1 (by decide)))
 have f16_ := S1.2.2.2.2.1.other W10_ (Or.inl (ne_exa S1.1 S1.2.1 (by decide)))
 have z17_ : n0 ≤ h10_.size := Nat.le_trans Z0 (Keep.of_wr W10_).1
 obtain ⟨T11_, Lc11_, v11_, X11_, hQ11_, st11_⟩ := own_cV (y := Y38) X10_ hx hZ hown (wt hw 207 rfl) (wt hw 209 rfl) (wt hw 210 rfl) (wt hw 211 rfl) (wt hw 41 rfl) (by decide) (rmNo l Z a0 hw [] o1 a1 k1 hi1 (d1.toInt32) (n1 - n2) h10_ n0 z17_ ⟨f12_, f13_, f14_, f15_, f16_, v10_⟩ g1 g2 nu nz) f12_ e10_ (pc := 172) (Ls := #[rv o1, rv o2, rv o1, iv 1, lv d1, .second, iv 1, iv 0]) (stk := [(.ref o1)]) (rest := []) (by rw [hml]; rfl) pd3 rfl rfl (W := 0) rfl hby (D37 63) (by decide) (by decide) (by exact own_b rfl) (by exact own_b rfl)
 obtain ⟨rfl, Nq11_, ek11_, p11__0⟩ := hQ11_
 have N11_ := Fr.app N10_ Nq11_
 have k18_ := (Keep.refl h0 [o1, a1]).wr W10_ (own_in 1 rfl)
 have k19_ := k18_.trans ek11_ (allS (own_in 0 rfl) (allS (own_in 1 rfl) all0))
 refine ⟨_, _, _, _, some (.int 1), X11_, (by exact own_b rfl), (by exact own_b rfl), nofun, (by show Q_rmDg Z o1 o2 a1 n1 a2 n2 h0 n0 _ T11_.heap _; exact ⟨rfl, N11_, k19_, p11__0⟩), fun fs hr => ?_⟩
 refine kaN X0 hx hby (D37 0) rfl rfl ?_
 refine ktN X0 hx hby (D37 1) rfl (l' := #[rv o1, rv o2, rv o1, .unset, .unset, .unset, .unset, .unset]) rfl ?_
 refine kaN X0 hx hby (D37 2) rfl rfl ?_
 refine kaN X0 hx hby (D37 3) rfl rfl ?_
 refine st1_ _ ?_
 refine ksN X1_ hx hby (D37 5) (l' := #[rv o1, rv o2, rv o1, iv 1, .unset, .unset, .unset, .unset]) rfl ?_
 refine kiN X1_ hx hby (D37 6) rfl ?_
 refine kfY X1_ hx (pc0 := 9) (pc' := 14) rfl hby (D37 7) ((if0 _ _).trans (feq ((by decide) : ¬ ((1 : Int32) = (0 : Int32)))).2) (by decide) (by decide) ?_
 refine kiN X1_ hx hby (D37 8) rfl ?_
 refine kfY X1_ hx (pc0 := 15) (pc' := 26) rfl hby (D37 9) ((if0 _ _).trans (flt ((by decide) : ¬ ((1 : Int32) < (0 : Int32)))).2.1) (by decide) (by decide) ?_
 refine klc X1_ hx hby (D37 10) ?_
 refine kls X1_ hx hby (D37 11) (l' := #[rv o1, rv o2, rv o1, iv 1, lv 0, .second, .unset, .unset]) rfl ?_
 refine st2_ _ ?_
 refine ks X2_ hx hby (D37 14) (l' := #[rv o1, rv o2, rv o1, iv 1, lv 0, .second, iv 2, .unset]) rfl ?_
 refine st3_ _ ?_
 refine ks X3_ hx hby (D37 17) (l' := #[rv o1, rv o2, rv o1, iv 1, lv 0, .second, iv 2, iv 1]) rfl ?_
 refine ki X3_ hx hby (D37 18) rfl ?_
 refine kfN X3_ hx hby (D37 19) ((if0 _ _).trans (tlt ((by decide) : (0 : Int32) < (1 : Int32))).2.2.2) ?_
 refine kn X3_ hx hby (D37 20) rfl (l' := #[rv o1, rv o2, rv o1, iv 1, lv 0, .second, iv 1, iv 1]) rfl ?_
 refine kn X3_ hx hby (D37 21) rfl (l' := #[rv o1, rv o2, rv o1, iv 1, lv 0, .second, iv 1, iv 0]) rfl ?_
 refine st4_ _ ?_
 refine st5_ _ ?_
 refine ki X5_ hx hby (D37 26) rfl ?_
 refine kia X5_ hx hby (D37 27) ?_
 refine own_ia X5_ hx hZ e5_ S1.2.2.2.2.2 ⟨by decide, by decide⟩ rfl hby (D37 28) ?_
 refine ki2l X5_ hx hby (D37 29) ?_
 refine own_l2 X5_ hx hZ hown (wt hw 176 rfl) hby (D37 30) ?_
 refine kla X5_ hx hby (D37 31) ?_
 refine st6_ _ ?_
 refine st7_ _ ?_
 refine ki X7_ hx hby (D37 36) rfl ?_
 refine kia X7_ hx hby (D37 37) ?_
 refine own_ia X7_ hx hZ e7_ S2.2.2.2.2.2 (by rw [Int32.add_zero]; exact (own_B.at xB2).1) (by rw [Int32.add_zero]; exact (own_B.at xB2).2.1) hby (D37 38) ?_
 refine ki2l X7_ hx hby (D37 39) ?_
 refine own_l2 X7_ hx hZ hown (wt hw 176 rfl) hby (D37 40) ?_
 refine kla X7_ hx hby (D37 41) ?_
 refine klsub X7_ hx hby (D37 42) ?_
 refine kl X7_ hx hby (D37 43) rfl ?_
 refine kb X7_ hx hby (D37 44) ?_
 refine klshr X7_ hx hby (D37 45) ?_
 refine kladd X7_ hx hby (D37 46) ?_
 refine own_rJ (ed1) ?_
 refine kls X7_ hx hby (D37 47) (l' := #[rv o1, rv o2, rv o1, iv 1, lv d1, .second, iv 1, iv 0]) rfl ?_
 refine st8_ _ ?_
 refine st9_ _ ?_
 refine ki X9_ hx hby (D37 52) rfl ?_
 refine kia X9_ hx hby (D37 53) ?_
 refine kl X9_ hx hby (D37 54) rfl ?_
 refine kl2i X9_ hx hby (D37 55) ?_
 refine st10_ _ ?_
 refine kg X10_ hx (pc0 := 110) (pc' := 41) rfl hby (D37 57) (by decide) (by decide) ?_
 refine ki X10_ hx hby (D37 18) rfl ?_
 refine kfY X10_ hx (pc0 := 43) (pc' := 113) rfl hby (D37 19) ((if0 _ _).trans (flt ((by decide) : ¬ ((0 : Int32) < (0 : Int32)))).2.2.2) (by decide) (by decide) ?_
 refine kl X10_ hx hby (D37 58) rfl ?_
 refine klc X10_ hx hby (D37 59) ?_
 refine klcmp X10_ hx hby (D37 60) ?_
 refine kfY X10_ hx (pc0 := 117) (pc' := 171) rfl hby (D37 61) ((if0 _ _).trans (flt ((fun q => gd1 ((lw_lt _ _).mp q)) : ¬ ((lcmpW d1 (0 : Int64)) < (0 : Int32)))).2.1) (by decide) (by decide) ?_
 refine kaN X10_ hx hby (D37 62) rfl rfl ?_
 refine st11_ _ ?_
 refine kiN X11_ hx hby (D37 64) rfl ?_
 exact retI X11_ hx hret (hb hby (D37 65)) hr
theorem rmDgABb (l : Launch) (Z : State) (a0 : Array Value) (hw : own_W Z a0) (ws : List Jvm.Cond) (o1 : Addr) (o2 : Addr) (a1 : Addr) (k1 : ClassId) (hi1 : Int32) (lo1 : Int32) (a2 : Addr) (k2 : ClassId) (z2 : Int32) (vs2 : List Value) (j2 : Int32) (x2 : Int32) (n1 : Nat) (n2 : Nat) (d1 : Int64) (d2 : Int64) (h0 : Heap) (n0 : Nat) (Z0 : n0 ≤ h0.size) (S1 : own_SH Z h0 o1 a1 (2 : Int32) (0 : Int32) k1 (2 : Int32) [(.int hi1), (.int lo1)]) (S2 : own_SH Z h0 o2 a2 (1 : Int32) j2 k2 z2 vs2) (xB2 : own_B z2 vs2 j2 x2) (n12 : o1 ≠ o2) (m12 : a1 ≠ a2) (g1 : n0 ≤ o1) (g2 : n0 ≤ a1) (ed1 : (((lo1.toInt64 &&& (4294967295 : Int64)) - (x2.toInt64 &&& (4294967295 : Int64))) + ((0 : Int64) >>> ((32 : Int32) &&& 0x3f).toInt64)) = d1) (ed2 : ((hi1.toInt64 &&& (4294967295 : Int64)) + (d1 >>> ((32 : Int32) &&& 0x3f).toInt64)) = d2) (gd1 : d1 < (0 : Int64)) (gd2 : ¬ (d2 < (0 : Int64))) (nu : (n1 - n2) = own_u (d2.toInt32) * 4294967296 + own_u (d1.toInt32)) (nz : (n1 - n2) ≠ 0) : own_Met l Y37 jdk_2101_method_50_code 8 (some .int) ⟨1, 0, 0, 19⟩ ws #[(.ref o1), (.ref o2)] Z h0 (Q_rmDg Z o1 o2 a1 n1 a2 n2 h0 n0) := by
 refine own_go (plainFor_of_name pn_java_math_MutableBigInteger) (fun m => ef37_RR m o1 o2) fun p e s m below meth c s₁ hx hby hml hown hnm hret hZ e0 X0 => ?_
 have N0 := Fr.nil n0
 obtain ⟨T1_, Lc1_, v1_, X1_, hQ1_, st1_⟩ := own_cV (y := Y30) X0 hx hZ hown (wt hw 161 rfl) (wt hw 163 rfl) (wt hw 164 rfl) (wt hw 165 rfl) (wt hw 41 rfl) (by decide) (cm21 l Z a0 hw [] o1 o2 h0 n0 Z0 S1.2.2.2.1 S2.2.2.2.1) S1.1 e0 (pc := 4) (Ls := #[rv o1, rv o2, rv o1, .unset, .unset, .unset, .unset, .unset]) (stk := [(.ref o2), (.ref o1)]) (rest := []) (by rw [hml]; rfl) pd2 rfl rfl (W := 0) rfl hby (D37 4) (by decide) (by decide) (by exact own_b rfl) (by exact own_b rfl)
 obtain ⟨rfl, Nq1_, ek1_⟩ := hQ1_
 have N1_ := Fr.app N0 Nq1_
 obtain ⟨T2_, X2_, e2_, st2_⟩ := own_gN (pc := 29) (Ls := #[rv o1, rv o2, rv o1, iv 1, lv 0, .second, .unset, .unset]) (stk := []) X1_ hx hZ hown (wt hw 50 rfl) ek1_ S1.2.2.2.1 hby (D37 12) (D37 13) rfl
 obtain ⟨T3_, X3_, e3_, st3_⟩ := own_gN (pc := 35) (Ls := #[rv o1, rv o2, rv o1, iv 1, lv 0, .second, iv 2, .unset]) (stk := []) X2_ hx hZ hown (wt hw 50 rfl) e2_ S2.2.2.2.1 hby (D37 15) (D37 16) rfl
 obtain ⟨T4_, X4_, e4_, st4_⟩ := own_gN (pc := 52) (Ls := #[rv o1, rv o2, rv o1, iv 1, lv 0, .second, iv 1, iv 0]) (stk := []) X3_ hx hZ hown (wt hw 65 rfl) e3_ S1.2.2.1 hby (D37 22) (D37 23) rfl
 obtain ⟨T5_, X5_, e5_, st5_⟩ := own_gN (pc := 56) (Ls := #[rv o1, rv o2, rv o1, iv 1, lv 0, .second, iv 1, iv 0]) (stk := [(.ref a1)]) X4_ hx hZ hown (wt hw 47 rfl) e4_ S1.2.2.2.2.1 hby (D37 24) (D37 25) rfl
 obtain ⟨T6_, X6_, e6_, st6_⟩ := own_gN (pc := 69) (Ls := #[rv o1, rv o2, rv o1, iv 1, lv 0, .second, iv 1, iv 0]) (stk := [(.long ((lo1.toInt64) &&& (4294967295 : Int64)))]) X5_ hx hZ hown (wt hw 65 rfl) e5_ S2.2.2.1 hby (D37 32) (D37 33) rfl
 obtain ⟨T7_, X7_, e7_, st7_⟩ := own_gN (pc := 73) (Ls := #[rv o1, rv o2, rv o1, iv 1, lv 0, .second, iv 1, iv 0]) (stk := [(.ref a2), (.long ((lo1.toInt64) &&& (4294967295 : Int64)))]) X6_ hx hZ hown (wt hw 47 rfl) e6_ S2.2.2.2.2.1 hby (D37 34) (D37 35) rfl
 obtain ⟨T8_, X8_, e8_, st8_⟩ := own_gN (pc := 95) (Ls := #[rv o1, rv o2, rv o1, iv 1, lv d1, .second, iv 1, iv 0]) (stk := []) X7_ hx hZ hown (wt hw 65 rfl) e7_ S1.2.2.1 hby (D37 48) (D37 49) rfl
 obtain ⟨T9_, X9_, e9_, st9_⟩ := own_gN (pc := 99) (Ls := #[rv o1, rv o2, rv o1, iv 1, lv d1, .second, iv 1, iv 0]) (stk := [(.ref a1)]) X8_ hx hZ hown (wt hw 47 rfl) e8_ S1.2.2.2.2.1 hby (D37 50) (D37 51) rfl
 obtain ⟨T10_, h10_, X10_, e10_, W10_, v10_, N10_, st10_⟩ := own_si (pc := 109) (Ls := #[rv o1, rv o2, rv o1, iv 1, lv d1, .second, iv 1, iv 0]) (stk := [(.int (d1.toInt32)), (.int 1), (.ref a1)]) X9_ hx hZ e9_ S1.2.2.2.2.2 ⟨by decide, by decide⟩ 1 rfl (Nat.le_of_ble_eq_true rfl) N1_ g2 hby (D37 56) rfl
 have f11_ := S1.2.2.1.other W10_ (Or.inl (ne_exa S1.1 S1.2.1 (by decide)))
 obtain ⟨T12_, X12_, e12_, st12_⟩ := own_gN (pc := 128) (Ls := #[rv o1, rv o2, rv o1, iv 1, lv d1, .second, iv 0, iv 0]) (stk := []) X10_ hx hZ hown (wt hw 65 rfl) e10_ f11_ hby (D37 69) (D37 70) rfl
 have f13_ := S1.2.2.2.2.1.other W10_ (Or.inl (ne_exa S1.1 S1.2.1 (by decide)))
 obtain ⟨T14_, X14_, e14_, st14_⟩ := own_gN (pc := 132) (Ls := #[rv o1, rv o2, rv o1, iv 1, lv d1, .second, iv 0, iv 0]) (stk := [(.ref a1)]) X12_ hx hZ hown (wt hw 47 rfl) e12_ f13_ hby (D37 71) (D37 72) rfl
 obtain ⟨T15_, X15_, e15_, st15_⟩ := own_gN (pc := 153) (Ls := #[rv o1, rv o2, rv o1, iv 1, lv d2, .second, iv 0, iv 0]) (stk := []) X14_ hx hZ hown (wt hw 65 rfl) e14_ f11_ hby (D37 84) (D37 85) rfl
 obtain ⟨T16_, X16_, e16_, st16_⟩ := own_gN (pc := 157) (Ls := #[rv o1, rv o2, rv o1, iv 1, lv d2, .second, iv 0, iv 0]) (stk := [(.ref a1)]) X15_ hx hZ hown (wt hw 47 rfl) e15_ f13_ hby (D37 86) (D37 87) rfl
 obtain ⟨T17_, h17_, X17_, e17_, W17_, v17_, N17_, st17_⟩ := own_si (pc := 167) (Ls := #[rv o1, rv o2, rv o1, iv 1, lv d2, .second, iv 0, iv 0]) (stk := [(.int (d2.toInt32)), (.int 0), (.ref a1)]) X16_ hx hZ e16_ v10_ ⟨by decide, by decide⟩ 0 rfl (Nat.le_of_ble_eq_true rfl) N10_ g2 hby (D37 92) rfl
 have f19_ := (S1.1.wr W10_).wr W17_
 have f20_ := (S1.2.1.wr W10_).wr W17_
 have f21_ := f11_.other W17_ (Or.inl (ne_exa (S1.1.wr W10_) (S1.2.1.wr W10_) (by decide)))
 have f22_ := (S1.2.2.2.1.other W10_ (Or.inl (ne_exa S1.1 S1.2.1 (by decide)))).other W17_ (Or.inl (ne_exa (S1.1.wr W10_) (S1.2.1.wr W10_) (by decide)))
 have f23_ := f13_.other W17_ (Or.inl (ne_exa (S1.1.wr W10_) (S1.2.1.wr W10_) (by decide)))
 have z24_ : n0 ≤ h10_.size := Nat.le_trans Z0 (Keep.of_wr W10_).1
 have z25_ : n0 ≤ h17_.size := Nat.le_trans z24_ (Keep.of_wr W17_).1
 obtain ⟨T18_, Lc18_, v18_, X18_, hQ18_, st18_⟩ := own_cV (y := Y38) X17_ hx hZ hown (wt hw 207 rfl) (wt hw 209 rfl) (wt hw 210 rfl) (wt hw 211 rfl) (wt hw 41 rfl) (by decide) (rmNo l Z a0 hw [] o1 a1 k1 (d2.toInt32) (d1.toInt32) (n1 - n2) h17_ n0 z25_ ⟨f19_, f20_, f21_, f22_, f23_, v17_⟩ g1 g2 nu nz) f19_ e17_ (pc := 172) (Ls := #[rv o1, rv o2, rv o1, iv 1, lv d2, .second, iv 0, iv 0]) (stk := [(.ref o1)]) (rest := []) (by rw [hml]; rfl) pd3 rfl rfl (W := 0) rfl hby (D37 63) (by decide) (by decide) (by exact own_b rfl) (by exact own_b rfl)
 obtain ⟨rfl, Nq18_, ek18_, p18__0⟩ := hQ18_
 have N18_ := Fr.app N17_ Nq18_
 have k26_ := (Keep.refl h0 [o1, a1]).wr W10_ (own_in 1 rfl)
 have k27_ := k26_.wr W17_ (own_in 1 rfl)
 have k28_ := k27_.trans ek18_ (allS (own_in 0 rfl) (allS (own_in 1 rfl) all0))
 refine ⟨_, _, _, _, some (.int 1), X18_, (by exact own_b rfl), (by exact own_b rfl), nofun, (by show Q_rmDg Z o1 o2 a1 n1 a2 n2 h0 n0 _ T18_.heap _; exact ⟨rfl, N18_, k28_, p18__0⟩), fun fs hr => ?_⟩
 refine kaN X0 hx hby (D37 0) rfl rfl ?_
 refine ktN X0 hx hby (D37 1) rfl (l' := #[rv o1, rv o2, rv o1, .unset, .unset, .unset, .unset, .unset]) rfl ?_
 refine kaN X0 hx hby (D37 2) rfl rfl ?_
 refine kaN X0 hx hby (D37 3) rfl rfl ?_
 refine st1_ _ ?_
 refine ksN X1_ hx hby (D37 5) (l' := #[rv o1, rv o2, rv o1, iv 1, .unset, .unset, .unset, .unset]) rfl ?_
 refine kiN X1_ hx hby (D37 6) rfl ?_
 refine kfY X1_ hx (pc0 := 9) (pc' := 14) rfl hby (D37 7) ((if0 _ _).trans (feq ((by decide) : ¬ ((1 : Int32) = (0 : Int32)))).2) (by decide) (by decide) ?_
 refine kiN X1_ hx hby (D37 8) rfl ?_
 refine kfY X1_ hx (pc0 := 15) (pc' := 26) rfl hby (D37 9) ((if0 _ _).trans (flt ((by decide) : ¬ ((1 : Int32) < (0 : Int32)))).2.1) (by decide) (by decide) ?_
 refine klc X1_ hx hby (D37 10) ?_
 refine kls X1_ hx hby (D37 11) (l' := #[rv o1, rv o2, rv o1, iv 1, lv 0, .second, .unset, .unset]) rfl ?_
 refine st2_ _ ?_
 refine ks X2_ hx hby (D37 14) (l' := #[rv o1, rv o2, rv o1, iv 1, lv 0, .second, iv 2, .unset]) rfl ?_
 refine st3_ _ ?_
 refine ks X3_ hx hby (D37 17) (l' := #[rv o1, rv o2, rv o1, iv 1, lv 0, .second, iv 2, iv 1]) rfl ?_
 refine ki X3_ hx hby (D37 18) rfl ?_
 refine kfN X3_ hx hby (D37 19) ((if0 _ _).trans (tlt ((by decide) : (0 : Int32) < (1 : Int32))).2.2.2) ?_
 refine kn X3_ hx hby (D37 20) rfl (l' := #[rv o1, rv o2, rv o1, iv 1, lv 0, .second, iv 1, iv 1]) rfl ?_
 refine kn X3_ hx hby (D37 21) rfl (l' := #[rv o1, rv o2, rv o1, iv 1, lv 0, .second, iv 1, iv 0]) rfl ?_
 refine st4_ _ ?_
 refine st5_ _ ?_
 refine ki X5_ hx hby (D37 26) rfl ?_
 refine kia X5_ hx hby (D37 27) ?_
 refine own_ia X5_ hx hZ e5_ S1.2.2.2.2.2 ⟨by decide, by decide⟩ rfl hby (D37 28) ?_
 refine ki2l X5_ hx hby (D37 29) ?_
 refine own_l2 X5_ hx hZ hown (wt hw 176 rfl) hby (D37 30) ?_
 refine kla X5_ hx hby (D37 31) ?_
 refine st6_ _ ?_
 refine st7_ _ ?_
 refine ki X7_ hx hby (D37 36) rfl ?_
 refine kia X7_ hx hby (D37 37) ?_
 refine own_ia X7_ hx hZ e7_ S2.2.2.2.2.2 (by rw [Int32.add_zero]; exact (own_B.at xB2).1) (by rw [Int32.add_zero]; exact (own_B.at xB2).2.1) hby (D37 38) ?_
 refine ki2l X7_ hx hby (D37 39) ?_
 refine own_l2 X7_ hx hZ hown (wt hw 176 rfl) hby (D37 40) ?_
 refine kla X7_ hx hby (D37 41) ?_
 refine klsub X7_ hx hby (D37 42) ?_
 refine kl X7_ hx hby (D37 43) rfl ?_
 refine kb X7_ hx hby (D37 44) ?_
 refine klshr X7_ hx hby (D37 45) ?_
 refine kladd X7_ hx hby (D37 46) ?_
 refine own_rJ (ed1) ?_
 refine kls X7_ hx hby (D37 47) (l' := #[rv o1, rv o2, rv o1, iv 1, lv d1, .second, iv 1, iv 0]) rfl ?_
 refine st8_ _ ?_
 refine st9_ _ ?_
 refine ki X9_ hx hby (D37 52) rfl ?_
 refine kia X9_ hx hby (D37 53) ?_
 refine kl X9_ hx hby (D37 54) rfl ?_
 refine kl2i X9_ hx hby (D37 55) ?_
 refine st10_ _ ?_
 refine kg X10_ hx (pc0 := 110) (pc' := 41) rfl hby (D37 57) (by decide) (by decide) ?_
 refine ki X10_ hx hby (D37 18) rfl ?_
 refine kfY X10_ hx (pc0 := 43) (pc' := 113) rfl hby (D37 19) ((if0 _ _).trans (flt ((by decide) : ¬ ((0 : Int32) < (0 : Int32)))).2.2.2) (by decide) (by decide) ?_
 refine kl X10_ hx hby (D37 58) rfl ?_
 refine klc X10_ hx hby (D37 59) ?_
 refine klcmp X10_ hx hby (D37 60) ?_
 refine kfN X10_ hx hby (D37 61) ((if0 _ _).trans (tlt (((lw_lt _ _).mpr gd1) : (lcmpW d1 (0 : Int64)) < (0 : Int32))).2.1) ?_
 refine ki X10_ hx hby (D37 66) rfl ?_
 refine kfN X10_ hx hby (D37 67) ((if0 _ _).trans (tlt ((by decide) : (0 : Int32) < (1 : Int32))).2.2.2) ?_
 refine kn X10_ hx hby (D37 68) rfl (l' := #[rv o1, rv o2, rv o1, iv 1, lv d1, .second, iv 0, iv 0]) rfl ?_
 refine st12_ _ ?_
 refine st14_ _ ?_
 refine ki X14_ hx hby (D37 73) rfl ?_
 refine kia X14_ hx hby (D37 74) ?_
 refine own_ia X14_ hx hZ e14_ v10_ ⟨by decide, by decide⟩ rfl hby (D37 75) ?_
 refine ki2l X14_ hx hby (D37 76) ?_
 refine own_l2 X14_ hx hZ hown (wt hw 176 rfl) hby (D37 77) ?_
 refine kla X14_ hx hby (D37 78) ?_
 refine kl X14_ hx hby (D37 79) rfl ?_
 refine kb X14_ hx hby (D37 80) ?_
 refine klshr X14_ hx hby (D37 81) ?_
 refine kladd X14_ hx hby (D37 82) ?_
 refine own_rJ (ed2) ?_
 refine kls X14_ hx hby (D37 83) (l' := #[rv o1, rv o2, rv o1, iv 1, lv d2, .second, iv 0, iv 0]) rfl ?_
 refine st15_ _ ?_
 refine st16_ _ ?_
 refine ki X16_ hx hby (D37 88) rfl ?_
 refine kia X16_ hx hby (D37 89) ?_
 refine kl X16_ hx hby (D37 90) rfl ?_
 refine kl2i X16_ hx hby (D37 91) ?_
 refine st17_ _ ?_
 refine kg X17_ hx (pc0 := 168) (pc' := 113) rfl hby (D37 93) (by decide) (by decide) ?_
 refine kl X17_ hx hby (D37 58) rfl ?_
 refine klc X17_ hx hby (D37 59) ?_
 refine klcmp X17_ hx hby (D37 60) ?_
 refine kfY X17_ hx (pc0 := 117) (pc' := 171) rfl hby (D37 61) ((if0 _ _).trans (flt ((fun q => gd2 ((lw_lt _ _).mp q)) : ¬ ((lcmpW d2 (0 : Int64)) < (0 : Int32)))).2.1) (by decide) (by decide) ?_
 refine kaN X17_ hx hby (D37 62) rfl rfl ?_
 refine st18_ _ ?_
 refine kiN X18_ hx hby (D37 64) rfl ?_
 exact retI X18_ hx hret (hb hby (D37 65)) hr
theorem rmDg (l : Launch) (Z : State) (a0 : Array Value) (hw : own_W Z a0) (ws : List Jvm.Cond) (o1 : Addr) (o2 : Addr) (a1 : Addr) (n1 : Nat) (a2 : Addr) (n2 : Nat) (h0 : Heap) (n0 : Nat) (Z0 : n0 ≤ h0.size) (M1 : own_MB Z h0 o1 a1 n1) (M2 : own_MB Z h0 o2 a2 n2) (n12 : o1 ≠ o2) (m12 : a1 ≠ a2) (g1 : n0 ≤ o1) (g2 : n0 ≤ a1) (ql : n2 < n1) (qb : 4294967296 ≤ n1) :
    own_Met l Y37 jdk_2101_method_50_code 8 (some .int) ⟨1, 0, 0, 19⟩ ws #[(.ref o1), (.ref o2)] Z h0 (Q_rmDg Z o1 o2 a1 n1 a2 n2 h0 n0) := by
  obtain ⟨k, hi, lo, S, e⟩ := M1.dA (by omega)
  have nz : (n1 - n2) ≠ 0 := by omega
  by_cases c : n2 < 4294967296
  · obtain ⟨k', z, vs, j, x, S', B, e'⟩ := M2.dB c
    by_cases d : (((lo.toInt64 &&& (4294967295 : Int64)) - (x.toInt64 &&& (4294967295 : Int64))) + ((0 : Int64) >>> ((32 : Int32) &&& 0x3f).toInt64)) < (0 : Int64)
    · have q := own_dABb e e' ql qb rfl d rfl
      exact rmDgABb l Z a0 hw ws _ _ _ _ _ _ _ _ _ _ _ _ _ _ _ _ h0 n0 Z0 S S' B n12 m12 g1 g2 rfl rfl d q.1 q.2 nz
    · exact rmDgABn l Z a0 hw ws _ _ _ _ _ _ _ _ _ _ _ _ _ _ _ h0 n0 Z0 S S' B n12 m12 g1 g2 rfl d (own_dABn e e' rfl d) nz
  · obtain ⟨k', hi', lo', S', e'⟩ := M2.dA c
    have q := own_dAA e e' ql rfl rfl
    have b1 := own_u_lt lo
    have b2 := own_u_lt lo'
    exact rmDgAA l Z a0 hw ws _ _ _ _ _ _ _ _ _ _ _ _ _ _ h0 n0 Z0 S S' n12 m12 g1 g2 rfl rfl q.1 q.2 nz (by omega)
def Q_rmDl (Z : State) (o1 : Addr) (o2 : Addr) (a1 : Addr) (n1 : Nat) (a2 : Addr) (n2 : Nat) (h0 : Heap) (n0 : Nat) (v : Option Value) (h : Heap) (L : List Loc) : Prop := v = some (.int (-1 : Int32)) ∧ Fr n0 L ∧ Keep h0 h [o2, a2] ∧ (own_MB Z h o2 a2 (n2 - n1))
theorem rmDlAA (l : Launch) (Z : State) (a0 : Array Value) (hw : own_W Z a0) (ws : List Jvm.Cond) (o1 : Addr) (o2 : Addr) (a1 : Addr) (k1 : ClassId) (hi1 : Int32) (lo1 : Int32) (a2 : Addr) (k2 : ClassId) (hi2 : Int32) (lo2 : Int32) (n1 : Nat) (n2 : Nat) (d1 : Int64) (d2 : Int64) (h0 : Heap) (n0 : Nat) (Z0 : n0 ≤ h0.size) (S1 : own_SH Z h0 o1 a1 (2 : Int32) (0 : Int32) k1 (2 : Int32) [(.int hi1), (.int lo1)]) (S2 : own_SH Z h0 o2 a2 (2 : Int32) (0 : Int32) k2 (2 : Int32) [(.int hi2), (.int lo2)]) (n12 : o1 ≠ o2) (m12 : a1 ≠ a2) (g1 : n0 ≤ o2) (g2 : n0 ≤ a2) (ed1 : (((lo2.toInt64 &&& (4294967295 : Int64)) - (lo1.toInt64 &&& (4294967295 : Int64))) + ((0 : Int64) >>> ((32 : Int32) &&& 0x3f).toInt64)) = d1) (ed2 : (((hi2.toInt64 &&& (4294967295 : Int64)) - (hi1.toInt64 &&& (4294967295 : Int64))) + (d1 >>> ((32 : Int32) &&& 0x3f).toInt64)) = d2) (gd2 : ¬ (d2 < (0 : Int64))) (nu : (n2 - n1) = own_u (d2.toInt32) * 4294967296 + own_u (d1.toInt32)) (nz : (n2 - n1) ≠ 0) (qv : own_u hi1 < own_u hi2 ∨ (own_u hi1 = own_u hi2 ∧ own_u lo1 < own_u lo2)) : own_Met l Y37 jdk_2101_method_50_code 8 (some .int) ⟨1, 0, 0, 19⟩ ws #[(.ref o1), (.ref o2)] Z h0 (Q_rmDl Z o1 o2 a1 n1 a2 n2 h0 n0) := by
 refine own_go (plainFor_of_name pn_java_math_MutableBigInteger) (fun m => ef37_RR m o1 o2) fun p e s m below meth c s₁ hx hby hml hown hnm hret hZ e0 X0 => ?_
 have N0 := Fr.nil n0
 obtain ⟨T1_, Lc1_, v1_, X1_, hQ1_, st1_⟩ := own_cV (y := Y30) X0 hx hZ hown (wt hw 161 rfl) (wt hw 163 rfl) (wt hw 164 rfl) (wt hw 165 rfl) (wt hw 41 rfl) (by decide) (cmL l Z a0 hw [] o1 o2 a1 k1 hi1 lo1 a2 k2 hi2 lo2 h0 n0 Z0 ⟨S1.1, S1.2.1, S1.2.2.1, S1.2.2.2.1, S1.2.2.2.2.1, S1.2.2.2.2.2⟩ ⟨S2.1, S2.2.1, S2.2.2.1, S2.2.2.2.1, S2.2.2.2.2.1, S2.2.2.2.2.2⟩ qv) S1.1 e0 (pc := 4) (Ls := #[rv o1, rv o2, rv o1, .unset, .unset, .unset, .unset, .unset]) (stk := [(.ref o2), (.ref o1)]) (rest := []) (by rw [hml]; rfl) pd2 rfl rfl (W := 0) rfl hby (D37 4) (by decide) (by decide) (by exact own_b rfl) (by exact own_b rfl)
 obtain ⟨rfl, Nq1_, ek1_⟩ := hQ1_
 have N1_ := Fr.app N0 Nq1_
 obtain ⟨T2_, X2_, e2_, st2_⟩ := own_gN (pc := 29) (Ls := #[rv o1, rv o1, rv o2, iv (-1 : Int32), lv 0, .second, .unset, .unset]) (stk := []) X1_ hx hZ hown (wt hw 50 rfl) ek1_ S2.2.2.2.1 hby (D37 12) (D37 13) rfl
 obtain ⟨T3_, X3_, e3_, st3_⟩ := own_gN (pc := 35) (Ls := #[rv o1, rv o1, rv o2, iv (-1 : Int32), lv 0, .second, iv 2, .unset]) (stk := []) X2_ hx hZ hown (wt hw 50 rfl) e2_ S1.2.2.2.1 hby (D37 15) (D37 16) rfl
 obtain ⟨T4_, X4_, e4_, st4_⟩ := own_gN (pc := 52) (Ls := #[rv o1, rv o1, rv o2, iv (-1 : Int32), lv 0, .second, iv 1, iv 1]) (stk := []) X3_ hx hZ hown (wt hw 65 rfl) e3_ S2.2.2.1 hby (D37 22) (D37 23) rfl
 obtain ⟨T5_, X5_, e5_, st5_⟩ := own_gN (pc := 56) (Ls := #[rv o1, rv o1, rv o2, iv (-1 : Int32), lv 0, .second, iv 1, iv 1]) (stk := [(.ref a2)]) X4_ hx hZ hown (wt hw 47 rfl) e4_ S2.2.2.2.2.1 hby (D37 24) (D37 25) rfl
 obtain ⟨T6_, X6_, e6_, st6_⟩ := own_gN (pc := 69) (Ls := #[rv o1, rv o1, rv o2, iv (-1 : Int32), lv 0, .second, iv 1, iv 1]) (stk := [(.long ((lo2.toInt64) &&& (4294967295 : Int64)))]) X5_ hx hZ hown (wt hw 65 rfl) e5_ S1.2.2.1 hby (D37 32) (D37 33) rfl
 obtain ⟨T7_, X7_, e7_, st7_⟩ := own_gN (pc := 73) (Ls := #[rv o1, rv o1, rv o2, iv (-1 : Int32), lv 0, .second, iv 1, iv 1]) (stk := [(.ref a1), (.long ((lo2.toInt64) &&& (4294967295 : Int64)))]) X6_ hx hZ hown (wt hw 47 rfl) e6_ S1.2.2.2.2.1 hby (D37 34) (D37 35) rfl
 obtain ⟨T8_, X8_, e8_, st8_⟩ := own_gN (pc := 95) (Ls := #[rv o1, rv o1, rv o2, iv (-1 : Int32), lv d1, .second, iv 1, iv 1]) (stk := []) X7_ hx hZ hown (wt hw 65 rfl) e7_ S2.2.2.1 hby (D37 48) (D37 49) rfl
 obtain ⟨T9_, X9_, e9_, st9_⟩ := own_gN (pc := 99) (Ls := #[rv o1, rv o1, rv o2, iv (-1 : Int32), lv d1, .second, iv 1, iv 1]) (stk := [(.ref a2)]) X8_ hx hZ hown (wt hw 47 rfl) e8_ S2.2.2.2.2.1 hby (D37 50) (D37 51) rfl
 obtain ⟨T10_, h10_, X10_, e10_, W10_, v10_, N10_, st10_⟩ := own_si (pc := 109) (Ls := #[rv o1, rv o1, rv o2, iv (-1 : Int32), lv d1, .second, iv 1, iv 1]) (stk := [(.int (d1.toInt32)), (.int 1), (.ref a2)]) X9_ hx hZ e9_ S2.2.2.2.2.2 ⟨by decide, by decide⟩ 1 rfl (Nat.le_of_ble_eq_true rfl) N1_ g2 hby (D37 56) rfl
 have f11_ := S2.2.2.1.other W10_ (Or.inl (ne_exa S2.1 S2.2.1 (by decide)))
 obtain ⟨T12_, X12_, e12_, st12_⟩ := own_gN (pc := 52) (Ls := #[rv o1, rv o1, rv o2, iv (-1 : Int32), lv d1, .second, iv 0, iv 0]) (stk := []) X10_ hx hZ hown (wt hw 65 rfl) e10_ f11_ hby (D37 22) (D37 23) rfl
 have f13_ := S2.2.2.2.2.1.other W10_ (Or.inl (ne_exa S2.1 S2.2.1 (by decide)))
 obtain ⟨T14_, X14_, e14_, st14_⟩ := own_gN (pc := 56) (Ls := #[rv o1, rv o1, rv o2, iv (-1 : Int32), lv d1, .second, iv 0, iv 0]) (stk := [(.ref a2)]) X12_ hx hZ hown (wt hw 47 rfl) e12_ f13_ hby (D37 24) (D37 25) rfl
 have f15_ := S1.2.2.1.other W10_ (Or.inl (ne_exa S1.1 S2.2.1 (by decide)))
 obtain ⟨T16_, X16_, e16_, st16_⟩ := own_gN (pc := 69) (Ls := #[rv o1, rv o1, rv o2, iv (-1 : Int32), lv d1, .second, iv 0, iv 0]) (stk := [(.long ((hi2.toInt64) &&& (4294967295 : Int64)))]) X14_ hx hZ hown (wt hw 65 rfl) e14_ f15_ hby (D37 32) (D37 33) rfl
 have f17_ := S1.2.2.2.2.1.other W10_ (Or.inl (ne_exa S1.1 S2.2.1 (by decide)))
 obtain ⟨T18_, X18_, e18_, st18_⟩ := own_gN (pc := 73) (Ls := #[rv o1, rv o1, rv o2, iv (-1 : Int32), lv d1, .second, iv 0, iv 0]) (stk := [(.ref a1), (.long ((hi2.toInt64) &&& (4294967295 : Int64)))]) X16_ hx hZ hown (wt hw 47 rfl) e16_ f17_ hby (D37 34) (D37 35) rfl
 have f19_ := S1.2.2.2.2.2.other W10_ m12
 obtain ⟨T20_, X20_, e20_, st20_⟩ := own_gN (pc := 95) (Ls := #[rv o1, rv o1, rv o2, iv (-1 : Int32), lv d2, .second, iv 0, iv 0]) (stk := []) X18_ hx hZ hown (wt hw 65 rfl) e18_ f11_ hby (D37 48) (D37 49) rfl
 obtain ⟨T21_, X21_, e21_, st21_⟩ := own_gN (pc := 99) (Ls := #[rv o1, rv o1, rv o2, iv (-1 : Int32), lv d2, .second, iv 0, iv 0]) (stk := [(.ref a2)]) X20_ hx hZ hown (wt hw 47 rfl) e20_ f13_ hby (D37 50) (D37 51) rfl
 obtain ⟨T22_, h22_, X22_, e22_, W22_, v22_, N22_, st22_⟩ := own_si (pc := 109) (Ls := #[rv o1, rv o1, rv o2, iv (-1 : Int32), lv d2, .second, iv 0, iv 0]) (stk := [(.int (d2.toInt32)), (.int 0), (.ref a2)]) X21_ hx hZ e21_ v10_ ⟨by decide, by decide⟩ 0 rfl (Nat.le_of_ble_eq_true rfl) N10_ g2 hby (D37 56) rfl
 have f24_ := (S2.1.wr W10_).wr W22_
 have f25_ := (S2.2.1.wr W10_).wr W22_
 have f26_ := f11_.other W22_ (Or.inl (ne_exa (S2.1.wr W10_) (S2.2.1.wr W10_) (by decide)))
 have f27_ := (S2.2.2.2.1.other W10_ (Or.inl (ne_exa S2.1 S2.2.1 (by decide)))).other W22_ (Or.inl (ne_exa (S2.1.wr W10_) (S2.2.1.wr W10_) (by decide)))
 have f28_ := f13_.other W22_ (Or.inl (ne_exa (S2.1.wr W10_) (S2.2.1.wr W10_) (by decide)))
 have z29_ : n0 ≤ h10_.size := Nat.le_trans Z0 (Keep.of_wr W10_).1
 have z30_ : n0 ≤ h22_.size := Nat.le_trans z29_ (Keep.of_wr W22_).1
 obtain ⟨T23_, Lc23_, v23_, X23_, hQ23_, st23_⟩ := own_cV (y := Y38) X22_ hx hZ hown (wt hw 207 rfl) (wt hw 209 rfl) (wt hw 210 rfl) (wt hw 211 rfl) (wt hw 41 rfl) (by decide) (rmNo l Z a0 hw [] o2 a2 k2 (d2.toInt32) (d1.toInt32) (n2 - n1) h22_ n0 z30_ ⟨f24_, f25_, f26_, f27_, f28_, v22_⟩ g1 g2 nu nz) f24_ e22_ (pc := 172) (Ls := #[rv o1, rv o1, rv o2, iv (-1 : Int32), lv d2, .second, iv 0, iv 0]) (stk := [(.ref o2)]) (rest := []) (by rw [hml]; rfl) pd3 rfl rfl (W := 0) rfl hby (D37 63) (by decide) (by decide) (by exact own_b rfl) (by exact own_b rfl)
 obtain ⟨rfl, Nq23_, ek23_, p23__0⟩ := hQ23_
 have N23_ := Fr.app N22_ Nq23_
 have k31_ := (Keep.refl h0 [o2, a2]).wr W10_ (own_in 1 rfl)
 have k32_ := k31_.wr W22_ (own_in 1 rfl)
 have k33_ := k32_.trans ek23_ (allS (own_in 0 rfl) (allS (own_in 1 rfl) all0))
 refine ⟨_, _, _, _, some (.int (-1 : Int32)), X23_, (by exact own_b rfl), (by exact own_b rfl), nofun, (by show Q_rmDl Z o1 o2 a1 n1 a2 n2 h0 n0 _ T23_.heap _; exact ⟨rfl, N23_, k33_, p23__0⟩), fun fs hr => ?_⟩
 refine kaN X0 hx hby (D37 0) rfl rfl ?_
 refine ktN X0 hx hby (D37 1) rfl (l' := #[rv o1, rv o2, rv o1, .unset, .unset, .unset, .unset, .unset]) rfl ?_
 refine kaN X0 hx hby (D37 2) rfl rfl ?_
 refine kaN X0 hx hby (D37 3) rfl rfl ?_
 refine st1_ _ ?_
 refine ksN X1_ hx hby (D37 5) (l' := #[rv o1, rv o2, rv o1, iv (-1 : Int32), .unset, .unset, .unset, .unset]) rfl ?_
 refine kiN X1_ hx hby (D37 6) rfl ?_
 refine kfY X1_ hx (pc0 := 9) (pc' := 14) rfl hby (D37 7) ((if0 _ _).trans (feq ((by decide) : ¬ ((-1 : Int32) = (0 : Int32)))).2) (by decide) (by decide) ?_
 refine kiN X1_ hx hby (D37 8) rfl ?_
 refine kfN X1_ hx hby (D37 9) ((if0 _ _).trans (tlt ((by decide) : (-1 : Int32) < (0 : Int32))).2.1) ?_
 refine kaN X1_ hx hby (D37 94) rfl rfl ?_
 refine kastore X1_ hx hby (D37 95) rfl (l' := #[rv o1, rv o2, rv o1, iv (-1 : Int32), rv o1, .unset, .unset, .unset]) rfl ?_
 refine kaN X1_ hx hby (D37 96) rfl rfl ?_
 refine ktN X1_ hx hby (D37 97) rfl (l' := #[rv o1, rv o2, rv o2, iv (-1 : Int32), rv o1, .unset, .unset, .unset]) rfl ?_
 refine ka X1_ hx hby (D37 98) rfl rfl ?_
 refine ktN X1_ hx hby (D37 99) rfl (l' := #[rv o1, rv o1, rv o2, iv (-1 : Int32), rv o1, .unset, .unset, .unset]) rfl ?_
 refine klc X1_ hx hby (D37 10) ?_
 refine kls X1_ hx hby (D37 11) (l' := #[rv o1, rv o1, rv o2, iv (-1 : Int32), lv 0, .second, .unset, .unset]) rfl ?_
 refine st2_ _ ?_
 refine ks X2_ hx hby (D37 14) (l' := #[rv o1, rv o1, rv o2, iv (-1 : Int32), lv 0, .second, iv 2, .unset]) rfl ?_
 refine st3_ _ ?_
 refine ks X3_ hx hby (D37 17) (l' := #[rv o1, rv o1, rv o2, iv (-1 : Int32), lv 0, .second, iv 2, iv 2]) rfl ?_
 refine ki X3_ hx hby (D37 18) rfl ?_
 refine kfN X3_ hx hby (D37 19) ((if0 _ _).trans (tlt ((by decide) : (0 : Int32) < (2 : Int32))).2.2.2) ?_
 refine kn X3_ hx hby (D37 20) rfl (l' := #[rv o1, rv o1, rv o2, iv (-1 : Int32), lv 0, .second, iv 1, iv 2]) rfl ?_
 refine kn X3_ hx hby (D37 21) rfl (l' := #[rv o1, rv o1, rv o2, iv (-1 : Int32), lv 0, .second, iv 1, iv 1]) rfl ?_
 refine st4_ _ ?_
 refine st5_ _ ?_
 refine ki X5_ hx hby (D37 26) rfl ?_
 refine kia X5_ hx hby (D37 27) ?_
 refine own_ia X5_ hx hZ e5_ S2.2.2.2.2.2 ⟨by decide, by decide⟩ rfl hby (D37 28) ?_
 refine ki2l X5_ hx hby (D37 29) ?_
 refine own_l2 X5_ hx hZ hown (wt hw 176 rfl) hby (D37 30) ?_
 refine kla X5_ hx hby (D37 31) ?_
 refine st6_ _ ?_
 refine st7_ _ ?_
 refine ki X7_ hx hby (D37 36) rfl ?_
 refine kia X7_ hx hby (D37 37) ?_
 refine own_ia X7_ hx hZ e7_ S1.2.2.2.2.2 ⟨by decide, by decide⟩ rfl hby (D37 38) ?_
 refine ki2l X7_ hx hby (D37 39) ?_
 refine own_l2 X7_ hx hZ hown (wt hw 176 rfl) hby (D37 40) ?_
 refine kla X7_ hx hby (D37 41) ?_
 refine klsub X7_ hx hby (D37 42) ?_
 refine kl X7_ hx hby (D37 43) rfl ?_
 refine kb X7_ hx hby (D37 44) ?_
 refine klshr X7_ hx hby (D37 45) ?_
 refine kladd X7_ hx hby (D37 46) ?_
 refine own_rJ (ed1) ?_
 refine kls X7_ hx hby (D37 47) (l' := #[rv o1, rv o1, rv o2, iv (-1 : Int32), lv d1, .second, iv 1, iv 1]) rfl ?_
 refine st8_ _ ?_
 refine st9_ _ ?_
 refine ki X9_ hx hby (D37 52) rfl ?_
 refine kia X9_ hx hby (D37 53) ?_
 refine kl X9_ hx hby (D37 54) rfl ?_
 refine kl2i X9_ hx hby (D37 55) ?_
 refine st10_ _ ?_
 refine kg X10_ hx (pc0 := 110) (pc' := 41) rfl hby (D37 57) (by decide) (by decide) ?_
 refine ki X10_ hx hby (D37 18) rfl ?_
 refine kfN X10_ hx hby (D37 19) ((if0 _ _).trans (tlt ((by decide) : (0 : Int32) < (1 : Int32))).2.2.2) ?_
 refine kn X10_ hx hby (D37 20) rfl (l' := #[rv o1, rv o1, rv o2, iv (-1 : Int32), lv d1, .second, iv 0, iv 1]) rfl ?_
 refine kn X10_ hx hby (D37 21) rfl (l' := #[rv o1, rv o1, rv o2, iv (-1 : Int32), lv d1, .second, iv 0, iv 0]) rfl ?_
 refine st12_ _ ?_
 refine st14_ _ ?_
 refine ki X14_ hx hby (D37 26) rfl ?_
 refine kia X14_ hx hby (D37 27) ?_
 refine own_ia X14_ hx hZ e14_ v10_ ⟨by decide, by decide⟩ rfl hby (D37 28) ?_
 refine ki2l X14_ hx hby (D37 29) ?_
 refine own_l2 X14_ hx hZ hown (wt hw 176 rfl) hby (D37 30) ?_
 refine kla X14_ hx hby (D37 31) ?_
 refine st16_ _ ?_
 refine st18_ _ ?_
 refine ki X18_ hx hby (D37 36) rfl ?_
 refine kia X18_ hx hby (D37 37) ?_
 refine own_ia X18_ hx hZ e18_ f19_ ⟨by decide, by decide⟩ rfl hby (D37 38) ?_
 refine ki2l X18_ hx hby (D37 39) ?_
 refine own_l2 X18_ hx hZ hown (wt hw 176 rfl) hby (D37 40) ?_
 refine kla X18_ hx hby (D37 41) ?_
 refine klsub X18_ hx hby (D37 42) ?_
 refine kl X18_ hx hby (D37 43) rfl ?_
 refine kb X18_ hx hby (D37 44) ?_
 refine klshr X18_ hx hby (D37 45) ?_
 refine kladd X18_ hx hby (D37 46) ?_
 refine own_rJ (ed2) ?_
 refine kls X18_ hx hby (D37 47) (l' := #[rv o1, rv o1, rv o2, iv (-1 : Int32), lv d2, .second, iv 0, iv 0]) rfl ?_
 refine st20_ _ ?_
 refine st21_ _ ?_
 refine ki X21_ hx hby (D37 52) rfl ?_
 refine kia X21_ hx hby (D37 53) ?_
 refine kl X21_ hx hby (D37 54) rfl ?_
 refine kl2i X21_ hx hby (D37 55) ?_
 refine st22_ _ ?_
 refine kg X22_ hx (pc0 := 110) (pc' := 41) rfl hby (D37 57) (by decide) (by decide) ?_
 refine ki X22_ hx hby (D37 18) rfl ?_
 refine kfY X22_ hx (pc0 := 43) (pc' := 113) rfl hby (D37 19) ((if0 _ _).trans (flt ((by decide) : ¬ ((0 : Int32) < (0 : Int32)))).2.2.2) (by decide) (by decide) ?_
 refine kl X22_ hx hby (D37 58) rfl ?_
 refine klc X22_ hx hby (D37 59) ?_
 refine klcmp X22_ hx hby (D37 60) ?_
 refine kfY X22_ hx (pc0 := 117) (pc' := 171) rfl hby (D37 61) ((if0 _ _).trans (flt ((fun q => gd2 ((lw_lt _ _).mp q)) : ¬ ((lcmpW d2 (0 : Int64)) < (0 : Int32)))).2.1) (by decide) (by decide) ?_
 refine kaN X22_ hx hby (D37 62) rfl rfl ?_
 refine st23_ _ ?_
 refine kiN X23_ hx hby (D37 64) rfl ?_
 exact retI X23_ hx hret (hb hby (D37 65)) hr
theorem rmDlABn (l : Launch) (Z : State) (a0 : Array Value) (hw : own_W Z a0) (ws : List Jvm.Cond) (o1 : Addr) (o2 : Addr) (a1 : Addr) (k1 : ClassId) (z1 : Int32) (vs1 : List Value) (j1 : Int32) (x1 : Int32) (a2 : Addr) (k2 : ClassId) (hi2 : Int32) (lo2 : Int32) (n1 : Nat) (n2 : Nat) (d1 : Int64) (h0 : Heap) (n0 : Nat) (Z0 : n0 ≤ h0.size) (S1 : own_SH Z h0 o1 a1 (1 : Int32) j1 k1 z1 vs1) (xB1 : own_B z1 vs1 j1 x1) (S2 : own_SH Z h0 o2 a2 (2 : Int32) (0 : Int32) k2 (2 : Int32) [(.int hi2), (.int lo2)]) (n12 : o1 ≠ o2) (m12 : a1 ≠ a2) (g1 : n0 ≤ o2) (g2 : n0 ≤ a2) (ed1 : (((lo2.toInt64 &&& (4294967295 : Int64)) - (x1.toInt64 &&& (4294967295 : Int64))) + ((0 : Int64) >>> ((32 : Int32) &&& 0x3f).toInt64)) = d1) (gd1 : ¬ (d1 < (0 : Int64))) (nu : (n2 - n1) = own_u hi2 * 4294967296 + own_u (d1.toInt32)) (nz : (n2 - n1) ≠ 0) : own_Met l Y37 jdk_2101_method_50_code 8 (some .int) ⟨1, 0, 0, 19⟩ ws #[(.ref o1), (.ref o2)] Z h0 (Q_rmDl Z o1 o2 a1 n1 a2 n2 h0 n0) := by
 refine own_go (plainFor_of_name pn_java_math_MutableBigInteger) (fun m => ef37_RR m o1 o2) fun p e s m below meth c s₁ hx hby hml hown hnm hret hZ e0 X0 => ?_
 have N0 := Fr.nil n0
 obtain ⟨T1_, Lc1_, v1_, X1_, hQ1_, st1_⟩ := own_cV (y := Y30) X0 hx hZ hown (wt hw 161 rfl) (wt hw 163 rfl) (wt hw 164 rfl) (wt hw 165 rfl) (wt hw 41 rfl) (by decide) (cm12 l Z a0 hw [] o1 o2 h0 n0 Z0 S1.2.2.2.1 S2.2.2.2.1) S1.1 e0 (pc := 4) (Ls := #[rv o1, rv o2, rv o1, .unset, .unset, .unset, .unset, .unset]) (stk := [(.ref o2), (.ref o1)]) (rest := []) (by rw [hml]; rfl) pd2 rfl rfl (W := 0) rfl hby (D37 4) (by decide) (by decide) (by exact own_b rfl) (by exact own_b rfl)
 obtain ⟨rfl, Nq1_, ek1_⟩ := hQ1_
 have N1_ := Fr.app N0 Nq1_
 obtain ⟨T2_, X2_, e2_, st2_⟩ := own_gN (pc := 29) (Ls := #[rv o1, rv o1, rv o2, iv (-1 : Int32), lv 0, .second, .unset, .unset]) (stk := []) X1_ hx hZ hown (wt hw 50 rfl) ek1_ S2.2.2.2.1 hby (D37 12) (D37 13) rfl
 obtain ⟨T3_, X3_, e3_, st3_⟩ := own_gN (pc := 35) (Ls := #[rv o1, rv o1, rv o2, iv (-1 : Int32), lv 0, .second, iv 2, .unset]) (stk := []) X2_ hx hZ hown (wt hw 50 rfl) e2_ S1.2.2.2.1 hby (D37 15) (D37 16) rfl
 obtain ⟨T4_, X4_, e4_, st4_⟩ := own_gN (pc := 52) (Ls := #[rv o1, rv o1, rv o2, iv (-1 : Int32), lv 0, .second, iv 1, iv 0]) (stk := []) X3_ hx hZ hown (wt hw 65 rfl) e3_ S2.2.2.1 hby (D37 22) (D37 23) rfl
 obtain ⟨T5_, X5_, e5_, st5_⟩ := own_gN (pc := 56) (Ls := #[rv o1, rv o1, rv o2, iv (-1 : Int32), lv 0, .second, iv 1, iv 0]) (stk := [(.ref a2)]) X4_ hx hZ hown (wt hw 47 rfl) e4_ S2.2.2.2.2.1 hby (D37 24) (D37 25) rfl
 obtain ⟨T6_, X6_, e6_, st6_⟩ := own_gN (pc := 69) (Ls := #[rv o1, rv o1, rv o2, iv (-1 : Int32), lv 0, .second, iv 1, iv 0]) (stk := [(.long ((lo2.toInt64) &&& (4294967295 : Int64)))]) X5_ hx hZ hown (wt hw 65 rfl) e5_ S1.2.2.1 hby (D37 32) (D37 33) rfl
 obtain ⟨T7_, X7_, e7_, st7_⟩ := own_gN (pc := 73) (Ls := #[rv o1, rv o1, rv o2, iv (-1 : Int32), lv 0, .second, iv 1, iv 0]) (stk := [(.ref a1), (.long ((lo2.toInt64) &&& (4294967295 : Int64)))]) X6_ hx hZ hown (wt hw 47 rfl) e6_ S1.2.2.2.2.1 hby (D37 34) (D37 35) rfl
 obtain ⟨T8_, X8_, e8_, st8_⟩ := own_gN (pc := 95) (Ls := #[rv o1, rv o1, rv o2, iv (-1 : Int32), lv d1, .second, iv 1, iv 0]) (stk := []) X7_ hx hZ hown (wt hw 65 rfl) e7_ S2.2.2.1 hby (D37 48) (D37 49) rfl
 obtain ⟨T9_, X9_, e9_, st9_⟩ := own_gN (pc := 99) (Ls := #[rv o1, rv o1, rv o2, iv (-1 : Int32), lv d1, .second, iv 1, iv 0]) (stk := [(.ref a2)]) X8_ hx hZ hown (wt hw 47 rfl) e8_ S2.2.2.2.2.1 hby (D37 50) (D37 51) rfl
 obtain ⟨T10_, h10_, X10_, e10_, W10_, v10_, N10_, st10_⟩ := own_si (pc := 109) (Ls := #[rv o1, rv o1, rv o2, iv (-1 : Int32), lv d1, .second, iv 1, iv 0]) (stk := [(.int (d1.toInt32)), (.int 1), (.ref a2)]) X9_ hx hZ e9_ S2.2.2.2.2.2 ⟨by decide, by decide⟩ 1 rfl (Nat.le_of_ble_eq_true rfl) N1_ g2 hby (D37 56) rfl
 have f12_ := S2.1.wr W10_
 have f13_ := S2.2.1.wr W10_
 have f14_ := S2.2.2.1.other W10_ (Or.inl (ne_exa S2.1 S2.2.1 (by decide)))
 have f15_ := S2.2.2.2.1.other W10_ (Or.inl (ne_exa S2.1 S2.2.1 (by decide)))
 have f16_ := S2.2.2.2.2.1.other W10_ (Or.inl (ne_exa S2.1 S2.2.1 (by decide)))
 have z17_ : n0 ≤ h10_.size := Nat.le_trans Z0 (Keep.of_wr W10_).1
 obtain ⟨T11_, Lc11_, v11_, X11_, hQ11_, st11_⟩ := own_cV (y := Y38) X10_ hx hZ hown (wt hw 207 rfl) (wt hw 209 rfl) (wt hw 210 rfl) (wt hw 211 rfl) (wt hw 41 rfl) (by decide) (rmNo l Z a0 hw [] o2 a2 k2 hi2 (d1.toInt32) (n2 - n1) h10_ n0 z17_ ⟨f12_, f13_, f14_, f15_, f16_, v10_⟩ g1 g2 nu nz) f12_ e10_ (pc := 172) (Ls := #[rv o1, rv o1, rv o2, iv (-1 : Int32), lv d1, .second, iv 1, iv 0]) (stk := [(.ref o2)]) (rest := []) (by rw [hml]; rfl) pd3 rfl rfl (W := 0) rfl hby (D37 63) (by decide) (by decide) (by exact own_b rfl) (by exact own_b rfl)
 obtain ⟨rfl, Nq11_, ek11_, p11__0⟩ := hQ11_
 have N11_ := Fr.app N10_ Nq11_
 have k18_ := (Keep.refl h0 [o2, a2]).wr W10_ (own_in 1 rfl)
 have k19_ := k18_.trans ek11_ (allS (own_in 0 rfl) (allS (own_in 1 rfl) all0))
 refine ⟨_, _, _, _, some (.int (-1 : Int32)), X11_, (by exact own_b rfl), (by exact own_b rfl), nofun, (by show Q_rmDl Z o1 o2 a1 n1 a2 n2 h0 n0 _ T11_.heap _; exact ⟨rfl, N11_, k19_, p11__0⟩), fun fs hr => ?_⟩
 refine kaN X0 hx hby (D37 0) rfl rfl ?_
 refine ktN X0 hx hby (D37 1) rfl (l' := #[rv o1, rv o2, rv o1, .unset, .unset, .unset, .unset, .unset]) rfl ?_
 refine kaN X0 hx hby (D37 2) rfl rfl ?_
 refine kaN X0 hx hby (D37 3) rfl rfl ?_
 refine st1_ _ ?_
 refine ksN X1_ hx hby (D37 5) (l' := #[rv o1, rv o2, rv o1, iv (-1 : Int32), .unset, .unset, .unset, .unset]) rfl ?_
 refine kiN X1_ hx hby (D37 6) rfl ?_
 refine kfY X1_ hx (pc0 := 9) (pc' := 14) rfl hby (D37 7) ((if0 _ _).trans (feq ((by decide) : ¬ ((-1 : Int32) = (0 : Int32)))).2) (by decide) (by decide) ?_
 refine kiN X1_ hx hby (D37 8) rfl ?_
 refine kfN X1_ hx hby (D37 9) ((if0 _ _).trans (tlt ((by decide) : (-1 : Int32) < (0 : Int32))).2.1) ?_
 refine kaN X1_ hx hby (D37 94) rfl rfl ?_
 refine kastore X1_ hx hby (D37 95) rfl (l' := #[rv o1, rv o2, rv o1, iv (-1 : Int32), rv o1, .unset, .unset, .unset]) rfl ?_
 refine kaN X1_ hx hby (D37 96) rfl rfl ?_
 refine ktN X1_ hx hby (D37 97) rfl (l' := #[rv o1, rv o2, rv o2, iv (-1 : Int32), rv o1, .unset, .unset, .unset]) rfl ?_
 refine ka X1_ hx hby (D37 98) rfl rfl ?_
 refine ktN X1_ hx hby (D37 99) rfl (l' := #[rv o1, rv o1, rv o2, iv (-1 : Int32), rv o1, .unset, .unset, .unset]) rfl ?_
 refine klc X1_ hx hby (D37 10) ?_
 refine kls X1_ hx hby (D37 11) (l' := #[rv o1, rv o1, rv o2, iv (-1 : Int32), lv 0, .second, .unset, .unset]) rfl ?_
 refine st2_ _ ?_
 refine ks X2_ hx hby (D37 14) (l' := #[rv o1, rv o1, rv o2, iv (-1 : Int32), lv 0, .second, iv 2, .unset]) rfl ?_
 refine st3_ _ ?_
 refine ks X3_ hx hby (D37 17) (l' := #[rv o1, rv o1, rv o2, iv (-1 : Int32), lv 0, .second, iv 2, iv 1]) rfl ?_
 refine ki X3_ hx hby (D37 18) rfl ?_
 refine kfN X3_ hx hby (D37 19) ((if0 _ _).trans (tlt ((by decide) : (0 : Int32) < (1 : Int32))).2.2.2) ?_
 refine kn X3_ hx hby (D37 20) rfl (l' := #[rv o1, rv o1, rv o2, iv (-1 : Int32), lv 0, .second, iv 1, iv 1]) rfl ?_
 refine kn X3_ hx hby (D37 21) rfl (l' := #[rv o1, rv o1, rv o2, iv (-1 : Int32), lv 0, .second, iv 1, iv 0]) rfl ?_
 refine st4_ _ ?_
 refine st5_ _ ?_
 refine ki X5_ hx hby (D37 26) rfl ?_
 refine kia X5_ hx hby (D37 27) ?_
 refine own_ia X5_ hx hZ e5_ S2.2.2.2.2.2 ⟨by decide, by decide⟩ rfl hby (D37 28) ?_
 refine ki2l X5_ hx hby (D37 29) ?_
 refine own_l2 X5_ hx hZ hown (wt hw 176 rfl) hby (D37 30) ?_
 refine kla X5_ hx hby (D37 31) ?_
 refine st6_ _ ?_
 refine st7_ _ ?_
 refine ki X7_ hx hby (D37 36) rfl ?_
 refine kia X7_ hx hby (D37 37) ?_
 refine own_ia X7_ hx hZ e7_ S1.2.2.2.2.2 (by rw [Int32.add_zero]; exact (own_B.at xB1).1) (by rw [Int32.add_zero]; exact (own_B.at xB1).2.1) hby (D37 38) ?_
 refine ki2l X7_ hx hby (D37 39) ?_
 refine own_l2 X7_ hx hZ hown (wt hw 176 rfl) hby (D37 40) ?_
 refine kla X7_ hx hby (D37 41) ?_
 refine klsub X7_ hx hby (D37 42) ?_
 refine kl X7_ hx hby (D37 43) rfl ?_
 refine kb X7_ hx hby (D37 44) ?_
 refine klshr X7_ hx hby (D37 45) ?_
 refine kladd X7_ hx hby (D37 46) ?_
 refine own_rJ (ed1) ?_
 refine kls X7_ hx hby (D37 47) (l' := #[rv o1, rv o1, rv o2, iv (-1 : Int32), lv d1, .second, iv 1, iv 0]) rfl ?_
 refine st8_ _ ?_
 refine st9_ _ ?_
 refine ki X9_ hx hby (D37 52) rfl ?_
 refine kia X9_ hx hby (D37 53) ?_
 refine kl X9_ hx hby (D37 54) rfl ?_
 refine kl2i X9_ hx hby (D37 55) ?_
 refine st10_ _ ?_
 refine kg X10_ hx (pc0 := 110) (pc' := 41) rfl hby (D37 57) (by decide) (by decide) ?_
 refine ki X10_ hx hby (D37 18) rfl ?_
 refine kfY X10_ hx (pc0 := 43) (pc' := 113) rfl hby (D37 19) ((if0 _ _).trans (flt ((by decide) : ¬ ((0 : Int32) < (0 : Int32)))).2.2.2) (by decide) (by decide) ?_
 refine kl X10_ hx hby (D37 58) rfl ?_
 refine klc X10_ hx hby (D37 59) ?_
 refine klcmp X10_ hx hby (D37 60) ?_
 refine kfY X10_ hx (pc0 := 117) (pc' := 171) rfl hby (D37 61) ((if0 _ _).trans (flt ((fun q => gd1 ((lw_lt _ _).mp q)) : ¬ ((lcmpW d1 (0 : Int64)) < (0 : Int32)))).2.1) (by decide) (by decide) ?_
 refine kaN X10_ hx hby (D37 62) rfl rfl ?_
 refine st11_ _ ?_
 refine kiN X11_ hx hby (D37 64) rfl ?_
 exact retI X11_ hx hret (hb hby (D37 65)) hr
theorem rmDlABb (l : Launch) (Z : State) (a0 : Array Value) (hw : own_W Z a0) (ws : List Jvm.Cond) (o1 : Addr) (o2 : Addr) (a1 : Addr) (k1 : ClassId) (z1 : Int32) (vs1 : List Value) (j1 : Int32) (x1 : Int32) (a2 : Addr) (k2 : ClassId) (hi2 : Int32) (lo2 : Int32) (n1 : Nat) (n2 : Nat) (d1 : Int64) (d2 : Int64) (h0 : Heap) (n0 : Nat) (Z0 : n0 ≤ h0.size) (S1 : own_SH Z h0 o1 a1 (1 : Int32) j1 k1 z1 vs1) (xB1 : own_B z1 vs1 j1 x1) (S2 : own_SH Z h0 o2 a2 (2 : Int32) (0 : Int32) k2 (2 : Int32) [(.int hi2), (.int lo2)]) (n12 : o1 ≠ o2) (m12 : a1 ≠ a2) (g1 : n0 ≤ o2) (g2 : n0 ≤ a2) (ed1 : (((lo2.toInt64 &&& (4294967295 : Int64)) - (x1.toInt64 &&& (4294967295 : Int64))) + ((0 : Int64) >>> ((32 : Int32) &&& 0x3f).toInt64)) = d1) (ed2 : ((hi2.toInt64 &&& (4294967295 : Int64)) + (d1 >>> ((32 : Int32) &&& 0x3f).toInt64)) = d2) (gd1 : d1 < (0 : Int64)) (gd2 : ¬ (d2 < (0 : Int64))) (nu : (n2 - n1) = own_u (d2.toInt32) * 4294967296 + own_u (d1.toInt32)) (nz : (n2 - n1) ≠ 0) : own_Met l Y37 jdk_2101_method_50_code 8 (some .int) ⟨1, 0, 0, 19⟩ ws #[(.ref o1), (.ref o2)] Z h0 (Q_rmDl Z o1 o2 a1 n1 a2 n2 h0 n0) := by
 refine own_go (plainFor_of_name pn_java_math_MutableBigInteger) (fun m => ef37_RR m o1 o2) fun p e s m below meth c s₁ hx hby hml hown hnm hret hZ e0 X0 => ?_
 have N0 := Fr.nil n0
 obtain ⟨T1_, Lc1_, v1_, X1_, hQ1_, st1_⟩ := own_cV (y := Y30) X0 hx hZ hown (wt hw 161 rfl) (wt hw 163 rfl) (wt hw 164 rfl) (wt hw 165 rfl) (wt hw 41 rfl) (by decide) (cm12 l Z a0 hw [] o1 o2 h0 n0 Z0 S1.2.2.2.1 S2.2.2.2.1) S1.1 e0 (pc := 4) (Ls := #[rv o1, rv o2, rv o1, .unset, .unset, .unset, .unset, .unset]) (stk := [(.ref o2), (.ref o1)]) (rest := []) (by rw [hml]; rfl) pd2 rfl rfl (W := 0) rfl hby (D37 4) (by decide) (by decide) (by exact own_b rfl) (by exact own_b rfl)
 obtain ⟨rfl, Nq1_, ek1_⟩ := hQ1_
 have N1_ := Fr.app N0 Nq1_
 obtain ⟨T2_, X2_, e2_, st2_⟩ := own_gN (pc := 29) (Ls := #[rv o1, rv o1, rv o2, iv (-1 : Int32), lv 0, .second, .unset, .unset]) (stk := []) X1_ hx hZ hown (wt hw 50 rfl) ek1_ S2.2.2.2.1 hby (D37 12) (D37 13) rfl
 obtain ⟨T3_, X3_, e3_, st3_⟩ := own_gN (pc := 35) (Ls := #[rv o1, rv o1, rv o2, iv (-1 : Int32), lv 0, .second, iv 2, .unset]) (stk := []) X2_ hx hZ hown (wt hw 50 rfl) e2_ S1.2.2.2.1 hby (D37 15) (D37 16) rfl
 obtain ⟨T4_, X4_, e4_, st4_⟩ := own_gN (pc := 52) (Ls := #[rv o1, rv o1, rv o2, iv (-1 : Int32), lv 0, .second, iv 1, iv 0]) (stk := []) X3_ hx hZ hown (wt hw 65 rfl) e3_ S2.2.2.1 hby (D37 22) (D37 23) rfl
 obtain ⟨T5_, X5_, e5_, st5_⟩ := own_gN (pc := 56) (Ls := #[rv o1, rv o1, rv o2, iv (-1 : Int32), lv 0, .second, iv 1, iv 0]) (stk := [(.ref a2)]) X4_ hx hZ hown (wt hw 47 rfl) e4_ S2.2.2.2.2.1 hby (D37 24) (D37 25) rfl
 obtain ⟨T6_, X6_, e6_, st6_⟩ := own_gN (pc := 69) (Ls := #[rv o1, rv o1, rv o2, iv (-1 : Int32), lv 0, .second, iv 1, iv 0]) (stk := [(.long ((lo2.toInt64) &&& (4294967295 : Int64)))]) X5_ hx hZ hown (wt hw 65 rfl) e5_ S1.2.2.1 hby (D37 32) (D37 33) rfl
 obtain ⟨T7_, X7_, e7_, st7_⟩ := own_gN (pc := 73) (Ls := #[rv o1, rv o1, rv o2, iv (-1 : Int32), lv 0, .second, iv 1, iv 0]) (stk := [(.ref a1), (.long ((lo2.toInt64) &&& (4294967295 : Int64)))]) X6_ hx hZ hown (wt hw 47 rfl) e6_ S1.2.2.2.2.1 hby (D37 34) (D37 35) rfl
 obtain ⟨T8_, X8_, e8_, st8_⟩ := own_gN (pc := 95) (Ls := #[rv o1, rv o1, rv o2, iv (-1 : Int32), lv d1, .second, iv 1, iv 0]) (stk := []) X7_ hx hZ hown (wt hw 65 rfl) e7_ S2.2.2.1 hby (D37 48) (D37 49) rfl
 obtain ⟨T9_, X9_, e9_, st9_⟩ := own_gN (pc := 99) (Ls := #[rv o1, rv o1, rv o2, iv (-1 : Int32), lv d1, .second, iv 1, iv 0]) (stk := [(.ref a2)]) X8_ hx hZ hown (wt hw 47 rfl) e8_ S2.2.2.2.2.1 hby (D37 50) (D37 51) rfl
 obtain ⟨T10_, h10_, X10_, e10_, W10_, v10_, N10_, st10_⟩ := own_si (pc := 109) (Ls := #[rv o1, rv o1, rv o2, iv (-1 : Int32), lv d1, .second, iv 1, iv 0]) (stk := [(.int (d1.toInt32)), (.int 1), (.ref a2)]) X9_ hx hZ e9_ S2.2.2.2.2.2 ⟨by decide, by decide⟩ 1 rfl (Nat.le_of_ble_eq_true rfl) N1_ g2 hby (D37 56) rfl
 have f11_ := S2.2.2.1.other W10_ (Or.inl (ne_exa S2.1 S2.2.1 (by decide)))
 obtain ⟨T12_, X12_, e12_, st12_⟩ := own_gN (pc := 128) (Ls := #[rv o1, rv o1, rv o2, iv (-1 : Int32), lv d1, .second, iv 0, iv 0]) (stk := []) X10_ hx hZ hown (wt hw 65 rfl) e10_ f11_ hby (D37 69) (D37 70) rfl
 have f13_ := S2.2.2.2.2.1.other W10_ (Or.inl (ne_exa S2.1 S2.2.1 (by decide)))
 obtain ⟨T14_, X14_, e14_, st14_⟩ := own_gN (pc := 132) (Ls := #[rv o1, rv o1, rv o2, iv (-1 : Int32), lv d1, .second, iv 0, iv 0]) (stk := [(.ref a2)]) X12_ hx hZ hown (wt hw 47 rfl) e12_ f13_ hby (D37 71) (D37 72) rfl
 obtain ⟨T15_, X15_, e15_, st15_⟩ := own_gN (pc := 153) (Ls := #[rv o1, rv o1, rv o2, iv (-1 : Int32), lv d2, .second, iv 0, iv 0]) (stk := []) X14_ hx hZ hown (wt hw 65 rfl) e14_ f11_ hby (D37 84) (D37 85) rfl
 obtain ⟨T16_, X16_, e16_, st16_⟩ := own_gN (pc := 157) (Ls := #[rv o1, rv o1, rv o2, iv (-1 : Int32), lv d2, .second, iv 0, iv 0]) (stk := [(.ref a2)]) X15_ hx hZ hown (wt hw 47 rfl) e15_ f13_ hby (D37 86) (D37 87) rfl
 obtain ⟨T17_, h17_, X17_, e17_, W17_, v17_, N17_, st17_⟩ := own_si (pc := 167) (Ls := #[rv o1, rv o1, rv o2, iv (-1 : Int32), lv d2, .second, iv 0, iv 0]) (stk := [(.int (d2.toInt32)), (.int 0), (.ref a2)]) X16_ hx hZ e16_ v10_ ⟨by decide, by decide⟩ 0 rfl (Nat.le_of_ble_eq_true rfl) N10_ g2 hby (D37 92) rfl
 have f19_ := (S2.1.wr W10_).wr W17_
 have f20_ := (S2.2.1.wr W10_).wr W17_
 have f21_ := f11_.other W17_ (Or.inl (ne_exa (S2.1.wr W10_) (S2.2.1.wr W10_) (by decide)))
 have f22_ := (S2.2.2.2.1.other W10_ (Or.inl (ne_exa S2.1 S2.2.1 (by decide)))).other W17_ (Or.inl (ne_exa (S2.1.wr W10_) (S2.2.1.wr W10_) (by decide)))
 have f23_ := f13_.other W17_ (Or.inl (ne_exa (S2.1.wr W10_) (S2.2.1.wr W10_) (by decide)))
 have z24_ : n0 ≤ h10_.size := Nat.le_trans Z0 (Keep.of_wr W10_).1
 have z25_ : n0 ≤ h17_.size := Nat.le_trans z24_ (Keep.of_wr W17_).1
 obtain ⟨T18_, Lc18_, v18_, X18_, hQ18_, st18_⟩ := own_cV (y := Y38) X17_ hx hZ hown (wt hw 207 rfl) (wt hw 209 rfl) (wt hw 210 rfl) (wt hw 211 rfl) (wt hw 41 rfl) (by decide) (rmNo l Z a0 hw [] o2 a2 k2 (d2.toInt32) (d1.toInt32) (n2 - n1) h17_ n0 z25_ ⟨f19_, f20_, f21_, f22_, f23_, v17_⟩ g1 g2 nu nz) f19_ e17_ (pc := 172) (Ls := #[rv o1, rv o1, rv o2, iv (-1 : Int32), lv d2, .second, iv 0, iv 0]) (stk := [(.ref o2)]) (rest := []) (by rw [hml]; rfl) pd3 rfl rfl (W := 0) rfl hby (D37 63) (by decide) (by decide) (by exact own_b rfl) (by exact own_b rfl)
 obtain ⟨rfl, Nq18_, ek18_, p18__0⟩ := hQ18_
 have N18_ := Fr.app N17_ Nq18_
 have k26_ := (Keep.refl h0 [o2, a2]).wr W10_ (own_in 1 rfl)
 have k27_ := k26_.wr W17_ (own_in 1 rfl)
 have k28_ := k27_.trans ek18_ (allS (own_in 0 rfl) (allS (own_in 1 rfl) all0))
 refine ⟨_, _, _, _, some (.int (-1 : Int32)), X18_, (by exact own_b rfl), (by exact own_b rfl), nofun, (by show Q_rmDl Z o1 o2 a1 n1 a2 n2 h0 n0 _ T18_.heap _; exact ⟨rfl, N18_, k28_, p18__0⟩), fun fs hr => ?_⟩
 refine kaN X0 hx hby (D37 0) rfl rfl ?_
 refine ktN X0 hx hby (D37 1) rfl (l' := #[rv o1, rv o2, rv o1, .unset, .unset, .unset, .unset, .unset]) rfl ?_
 refine kaN X0 hx hby (D37 2) rfl rfl ?_
 refine kaN X0 hx hby (D37 3) rfl rfl ?_
 refine st1_ _ ?_
 refine ksN X1_ hx hby (D37 5) (l' := #[rv o1, rv o2, rv o1, iv (-1 : Int32), .unset, .unset, .unset, .unset]) rfl ?_
 refine kiN X1_ hx hby (D37 6) rfl ?_
 refine kfY X1_ hx (pc0 := 9) (pc' := 14) rfl hby (D37 7) ((if0 _ _).trans (feq ((by decide) : ¬ ((-1 : Int32) = (0 : Int32)))).2) (by decide) (by decide) ?_
 refine kiN X1_ hx hby (D37 8) rfl ?_
 refine kfN X1_ hx hby (D37 9) ((if0 _ _).trans (tlt ((by decide) : (-1 : Int32) < (0 : Int32))).2.1) ?_
 refine kaN X1_ hx hby (D37 94) rfl rfl ?_
 refine kastore X1_ hx hby (D37 95) rfl (l' := #[rv o1, rv o2, rv o1, iv (-1 : Int32), rv o1, .unset, .unset, .unset]) rfl ?_
 refine kaN X1_ hx hby (D37 96) rfl rfl ?_
 refine ktN X1_ hx hby (D37 97) rfl (l' := #[rv o1, rv o2, rv o2, iv (-1 : Int32), rv o1, .unset, .unset, .unset]) rfl ?_
 refine ka X1_ hx hby (D37 98) rfl rfl ?_
 refine ktN X1_ hx hby (D37 99) rfl (l' := #[rv o1, rv o1, rv o2, iv (-1 : Int32), rv o1, .unset, .unset, .unset]) rfl ?_
 refine klc X1_ hx hby (D37 10) ?_
 refine kls X1_ hx hby (D37 11) (l' := #[rv o1, rv o1, rv o2, iv (-1 : Int32), lv 0, .second, .unset, .unset]) rfl ?_
 refine st2_ _ ?_
 refine ks X2_ hx hby (D37 14) (l' := #[rv o1, rv o1, rv o2, iv (-1 : Int32), lv 0, .second, iv 2, .unset]) rfl ?_
 refine st3_ _ ?_
 refine ks X3_ hx hby (D37 17) (l' := #[rv o1, rv o1, rv o2, iv (-1 : Int32), lv 0, .second, iv 2, iv 1]) rfl ?_
 refine ki X3_ hx hby (D37 18) rfl ?_
 refine kfN X3_ hx hby (D37 19) ((if0 _ _).trans (tlt ((by decide) : (0 : Int32) < (1 : Int32))).2.2.2) ?_
 refine kn X3_ hx hby (D37 20) rfl (l' := #[rv o1, rv o1, rv o2, iv (-1 : Int32), lv 0, .second, iv 1, iv 1]) rfl ?_
 refine kn X3_ hx hby (D37 21) rfl (l' := #[rv o1, rv o1, rv o2, iv (-1 : Int32), lv 0, .second, iv 1, iv 0]) rfl ?_
 refine st4_ _ ?_
 refine st5_ _ ?_
 refine ki X5_ hx hby (D37 26) rfl ?_
 refine kia X5_ hx hby (D37 27) ?_
 refine own_ia X5_ hx hZ e5_ S2.2.2.2.2.2 ⟨by decide, by decide⟩ rfl hby (D37 28) ?_
 refine ki2l X5_ hx hby (D37 29) ?_
 refine own_l2 X5_ hx hZ hown (wt hw 176 rfl) hby (D37 30) ?_
 refine kla X5_ hx hby (D37 31) ?_
 refine st6_ _ ?_
 refine st7_ _ ?_
 refine ki X7_ hx hby (D37 36) rfl ?_
 refine kia X7_ hx hby (D37 37) ?_
 refine own_ia X7_ hx hZ e7_ S1.2.2.2.2.2 (by rw [Int32.add_zero]; exact (own_B.at xB1).1) (by rw [Int32.add_zero]; exact (own_B.at xB1).2.1) hby (D37 38) ?_
 refine ki2l X7_ hx hby (D37 39) ?_
 refine own_l2 X7_ hx hZ hown (wt hw 176 rfl) hby (D37 40) ?_
 refine kla X7_ hx hby (D37 41) ?_
 refine klsub X7_ hx hby (D37 42) ?_
 refine kl X7_ hx hby (D37 43) rfl ?_
 refine kb X7_ hx hby (D37 44) ?_
 refine klshr X7_ hx hby (D37 45) ?_
 refine kladd X7_ hx hby (D37 46) ?_
 refine own_rJ (ed1) ?_
 refine kls X7_ hx hby (D37 47) (l' := #[rv o1, rv o1, rv o2, iv (-1 : Int32), lv d1, .second, iv 1, iv 0]) rfl ?_
 refine st8_ _ ?_
 refine st9_ _ ?_
 refine ki X9_ hx hby (D37 52) rfl ?_
 refine kia X9_ hx hby (D37 53) ?_
 refine kl X9_ hx hby (D37 54) rfl ?_
 refine kl2i X9_ hx hby (D37 55) ?_
 refine st10_ _ ?_
 refine kg X10_ hx (pc0 := 110) (pc' := 41) rfl hby (D37 57) (by decide) (by decide) ?_
 refine ki X10_ hx hby (D37 18) rfl ?_
 refine kfY X10_ hx (pc0 := 43) (pc' := 113) rfl hby (D37 19) ((if0 _ _).trans (flt ((by decide) : ¬ ((0 : Int32) < (0 : Int32)))).2.2.2) (by decide) (by decide) ?_
 refine kl X10_ hx hby (D37 58) rfl ?_
 refine klc X10_ hx hby (D37 59) ?_
 refine klcmp X10_ hx hby (D37 60) ?_
 refine kfN X10_ hx hby (D37 61) ((if0 _ _).trans (tlt (((lw_lt _ _).mpr gd1) : (lcmpW d1 (0 : Int64)) < (0 : Int32))).2.1) ?_
 refine ki X10_ hx hby (D37 66) rfl ?_
 refine kfN X10_ hx hby (D37 67) ((if0 _ _).trans (tlt ((by decide) : (0 : Int32) < (1 : Int32))).2.2.2) ?_
 refine kn X10_ hx hby (D37 68) rfl (l' := #[rv o1, rv o1, rv o2, iv (-1 : Int32), lv d1, .second, iv 0, iv 0]) rfl ?_
 refine st12_ _ ?_
 refine st14_ _ ?_
 refine ki X14_ hx hby (D37 73) rfl ?_
 refine kia X14_ hx hby (D37 74) ?_
 refine own_ia X14_ hx hZ e14_ v10_ ⟨by decide, by decide⟩ rfl hby (D37 75) ?_
 refine ki2l X14_ hx hby (D37 76) ?_
 refine own_l2 X14_ hx hZ hown (wt hw 176 rfl) hby (D37 77) ?_
 refine kla X14_ hx hby (D37 78) ?_
 refine kl X14_ hx hby (D37 79) rfl ?_
 refine kb X14_ hx hby (D37 80) ?_
 refine klshr X14_ hx hby (D37 81) ?_
 refine kladd X14_ hx hby (D37 82) ?_
 refine own_rJ (ed2) ?_
 refine kls X14_ hx hby (D37 83) (l' := #[rv o1, rv o1, rv o2, iv (-1 : Int32), lv d2, .second, iv 0, iv 0]) rfl ?_
 refine st15_ _ ?_
 refine st16_ _ ?_
 refine ki X16_ hx hby (D37 88) rfl ?_
 refine kia X16_ hx hby (D37 89) ?_
 refine kl X16_ hx hby (D37 90) rfl ?_
 refine kl2i X16_ hx hby (D37 91) ?_
 refine st17_ _ ?_
 refine kg X17_ hx (pc0 := 168) (pc' := 113) rfl hby (D37 93) (by decide) (by decide) ?_
 refine kl X17_ hx hby (D37 58) rfl ?_
 refine klc X17_ hx hby (D37 59) ?_
 refine klcmp X17_ hx hby (D37 60) ?_
 refine kfY X17_ hx (pc0 := 117) (pc' := 171) rfl hby (D37 61) ((if0 _ _).trans (flt ((fun q => gd2 ((lw_lt _ _).mp q)) : ¬ ((lcmpW d2 (0 : Int64)) < (0 : Int32)))).2.1) (by decide) (by decide) ?_
 refine kaN X17_ hx hby (D37 62) rfl rfl ?_
 refine st18_ _ ?_
 refine kiN X18_ hx hby (D37 64) rfl ?_
 exact retI X18_ hx hret (hb hby (D37 65)) hr
theorem rmDl (l : Launch) (Z : State) (a0 : Array Value) (hw : own_W Z a0) (ws : List Jvm.Cond) (o1 : Addr) (o2 : Addr) (a1 : Addr) (n1 : Nat) (a2 : Addr) (n2 : Nat) (h0 : Heap) (n0 : Nat) (Z0 : n0 ≤ h0.size) (M1 : own_MB Z h0 o1 a1 n1) (M2 : own_MB Z h0 o2 a2 n2) (n12 : o1 ≠ o2) (m12 : a1 ≠ a2) (g1 : n0 ≤ o2) (g2 : n0 ≤ a2) (ql : n1 < n2) (qb : 4294967296 ≤ n2) :
    own_Met l Y37 jdk_2101_method_50_code 8 (some .int) ⟨1, 0, 0, 19⟩ ws #[(.ref o1), (.ref o2)] Z h0 (Q_rmDl Z o1 o2 a1 n1 a2 n2 h0 n0) := by
  obtain ⟨k, hi, lo, S, e⟩ := M2.dA (by omega)
  have nz : (n2 - n1) ≠ 0 := by omega
  by_cases c : n1 < 4294967296
  · obtain ⟨k', z, vs, j, x, S', B, e'⟩ := M1.dB c
    by_cases d : (((lo.toInt64 &&& (4294967295 : Int64)) - (x.toInt64 &&& (4294967295 : Int64))) + ((0 : Int64) >>> ((32 : Int32) &&& 0x3f).toInt64)) < (0 : Int64)
    · have q := own_dABb e e' ql qb rfl d rfl
      exact rmDlABb l Z a0 hw ws _ _ _ _ _ _ _ _ _ _ _ _ _ _ _ _ h0 n0 Z0 S' B S n12 m12 g1 g2 rfl rfl d q.1 q.2 nz
    · exact rmDlABn l Z a0 hw ws _ _ _ _ _ _ _ _ _ _ _ _ _ _ _ h0 n0 Z0 S' B S n12 m12 g1 g2 rfl d (own_dABn e e' rfl d) nz
  · obtain ⟨k', hi', lo', S', e'⟩ := M1.dA c
    have q := own_dAA e e' ql rfl rfl
    have b1 := own_u_lt lo
    have b2 := own_u_lt lo'
    exact rmDlAA l Z a0 hw ws _ _ _ _ _ _ _ _ _ _ _ _ _ _ h0 n0 Z0 S' S n12 m12 g1 g2 rfl rfl q.1 q.2 nz (by omega)
theorem bgA {p : Program} {l : Launch} {e : Env} {R : Room} {s : State} {m : MethodId} {args : Array Value} {below : List Frame} {meth : Method} {c : Code} {T0 : State} {locs : List Loc} {cells slots : Nat} (Z : State) (a0 : Array Value) (hw : own_W Z a0) (X0 : Stand p l e R s m args below meth c T0 locs cells slots) (hx : p.tables.exec = Jvm.exec) (hZ : Z.Warmed39 s.vm) (hby : c.code = jdk_2101_method_74_code) (hml : c.maxLocals = 5) (hown : s.vm.findClass "java/math/MutableBigInteger" = some m.cls) (a1 : Int32) (b1 : Int32) (h0 : Heap) (n0 : Nat) (Z0 : n0 ≤ h0.size) (e0 : T0.heap = h0) (N0 : Fr n0 locs) (hfr : 1 ≤ R.frames) (hlo : 14 ≤ R.locals) (hce : cells + 0 ≤ R.cells) (hsl : slots + 0 ≤ R.slots) (nq : ¬ (a1 = b1)) (gu : own_u b1 < own_u a1) :
    ∃ (T' : State) (h' : Heap) (L' : List Loc), Stand p l e R s m args below meth c T' L' (cells + 0) (slots + 0) ∧ T'.heap = h' ∧ Fr n0 L' ∧ h' = h0 ∧ ∀ t, Steps p.tables e below (T'.setTop (mkF m 42 #[iv (((a1 - b1).toUInt32 >>> ((own_ntz (a1 - b1)) &&& 31).toUInt32).toInt32), iv b1, iv 0, iv 0, iv 0] [])) t → Steps p.tables e below (T0.setTop (mkF m 42 #[iv a1, iv b1, iv 0, iv 0, iv 0] [])) t := by
  obtain ⟨T1_, Lc1_, v1_, X1_, hQ1_, st1_⟩ := own_cS (y := Y15) X0 hx hZ hown (wt hw 90 rfl) (wt hw 91 rfl) (wt hw 93 rfl) (wt hw 92 rfl) (by decide) (rmNtz l Z a0 hw [] (a1 - b1) h0 n0 Z0 ) e0 (pc := 64) (Ls := #[iv (a1 - b1), iv b1, iv 0, iv 0, iv 0]) (stk := [(.int (a1 - b1)), (.int (a1 - b1))]) (rest := [(.int (a1 - b1))]) (by rw [hml]; rfl) pd0 rfl rfl (W := 1) rfl hby (D20 16) (Nat.le_trans (by decide) hfr) (Nat.le_trans (by decide) hlo) (Nat.le_trans (Nat.add_le_add_left (by decide : 0 ≤ 0) cells) hce) (Nat.le_trans (Nat.add_le_add_left (by decide : 0 ≤ 0) slots) hsl)
  obtain ⟨rfl, Nq1_, ek1_⟩ := hQ1_
  have N1_ := Fr.app N0 Nq1_
  refine ⟨T1_, _, _, X1_, ek1_, N1_, rfl, fun t k => ?_⟩
  refine kiN X0 hx hby (D20 0) rfl ?_
  refine kiN X0 hx hby (D20 1) rfl ?_
  refine kcN X0 hx hby (D20 2) (feq (nq : ¬ (a1 = b1))).1 ?_
  refine kiN X0 hx hby (D20 3) rfl ?_
  refine own_ld X0 hx hZ hown (wt hw 114 rfl) hby (D20 4) ?_
  refine kia X0 hx hby (D20 5) ?_
  refine kiN X0 hx hby (D20 6) rfl ?_
  refine own_ld X0 hx hZ hown (wt hw 114 rfl) hby (D20 7) ?_
  refine kia X0 hx hby (D20 8) ?_
  refine kcN X0 hx hby (D20 9) (tlt (((own_ult b1 a1).mpr gu) : (b1 + (-2147483648 : Int32)) < (a1 + (-2147483648 : Int32)))).2.2.2 ?_
  refine kiN X0 hx hby (D20 10) rfl ?_
  refine kiN X0 hx hby (D20 11) rfl ?_
  refine kis X0 hx hby (D20 12) ?_
  refine ksN X0 hx hby (D20 13) (l' := #[iv (a1 - b1), iv b1, iv 0, iv 0, iv 0]) rfl ?_
  refine kiN X0 hx hby (D20 14) rfl ?_
  refine kiN X0 hx hby (D20 15) rfl ?_
  refine st1_ _ ?_
  refine kiushr X1_ hx hby (D20 17) ?_
  refine ksN X1_ hx hby (D20 18) (l' := #[iv (((a1 - b1).toUInt32 >>> ((own_ntz (a1 - b1)) &&& 31).toUInt32).toInt32), iv b1, iv 0, iv 0, iv 0]) rfl ?_
  refine kg X1_ hx (pc0 := 69) (pc' := 42) rfl hby (D20 19) (by decide) (by decide) ?_
  exact k
theorem bgB {p : Program} {l : Launch} {e : Env} {R : Room} {s : State} {m : MethodId} {args : Array Value} {below : List Frame} {meth : Method} {c : Code} {T0 : State} {locs : List Loc} {cells slots : Nat} (Z : State) (a0 : Array Value) (hw : own_W Z a0) (X0 : Stand p l e R s m args below meth c T0 locs cells slots) (hx : p.tables.exec = Jvm.exec) (hZ : Z.Warmed39 s.vm) (hby : c.code = jdk_2101_method_74_code) (hml : c.maxLocals = 5) (hown : s.vm.findClass "java/math/MutableBigInteger" = some m.cls) (a1 : Int32) (b1 : Int32) (h0 : Heap) (n0 : Nat) (Z0 : n0 ≤ h0.size) (e0 : T0.heap = h0) (N0 : Fr n0 locs) (hfr : 1 ≤ R.frames) (hlo : 14 ≤ R.locals) (hce : cells + 0 ≤ R.cells) (hsl : slots + 0 ≤ R.slots) (nq : ¬ (a1 = b1)) (gu : own_u a1 < own_u b1) :
    ∃ (T' : State) (h' : Heap) (L' : List Loc), Stand p l e R s m args below meth c T' L' (cells + 0) (slots + 0) ∧ T'.heap = h' ∧ Fr n0 L' ∧ h' = h0 ∧ ∀ t, Steps p.tables e below (T'.setTop (mkF m 42 #[iv a1, iv (((b1 - a1).toUInt32 >>> ((own_ntz (b1 - a1)) &&& 31).toUInt32).toInt32), iv 0, iv 0, iv 0] [])) t → Steps p.tables e below (T0.setTop (mkF m 42 #[iv a1, iv b1, iv 0, iv 0, iv 0] [])) t := by
  obtain ⟨T1_, Lc1_, v1_, X1_, hQ1_, st1_⟩ := own_cS (y := Y15) X0 hx hZ hown (wt hw 90 rfl) (wt hw 91 rfl) (wt hw 93 rfl) (wt hw 92 rfl) (by decide) (rmNtz l Z a0 hw [] (b1 - a1) h0 n0 Z0 ) e0 (pc := 78) (Ls := #[iv a1, iv (b1 - a1), iv 0, iv 0, iv 0]) (stk := [(.int (b1 - a1)), (.int (b1 - a1))]) (rest := [(.int (b1 - a1))]) (by rw [hml]; rfl) pd0 rfl rfl (W := 1) rfl hby (D20 26) (Nat.le_trans (by decide) hfr) (Nat.le_trans (by decide) hlo) (Nat.le_trans (Nat.add_le_add_left (by decide : 0 ≤ 0) cells) hce) (Nat.le_trans (Nat.add_le_add_left (by decide : 0 ≤ 0) slots) hsl)
  obtain ⟨rfl, Nq1_, ek1_⟩ := hQ1_
  have N1_ := Fr.app N0 Nq1_
  refine ⟨T1_, _, _, X1_, ek1_, N1_, rfl, fun t k => ?_⟩
  refine kiN X0 hx hby (D20 0) rfl ?_
  refine kiN X0 hx hby (D20 1) rfl ?_
  refine kcN X0 hx hby (D20 2) (feq (nq : ¬ (a1 = b1))).1 ?_
  refine kiN X0 hx hby (D20 3) rfl ?_
  refine own_ld X0 hx hZ hown (wt hw 114 rfl) hby (D20 4) ?_
  refine kia X0 hx hby (D20 5) ?_
  refine kiN X0 hx hby (D20 6) rfl ?_
  refine own_ld X0 hx hZ hown (wt hw 114 rfl) hby (D20 7) ?_
  refine kia X0 hx hby (D20 8) ?_
  refine kcY X0 hx (pc0 := 55) (pc' := 72) rfl hby (D20 9) (flt ((fun q => absurd ((own_ult b1 a1).mp q) (by omega)) : ¬ ((b1 + (-2147483648 : Int32)) < (a1 + (-2147483648 : Int32))))).2.2.2 (by decide) (by decide) ?_
  refine kiN X0 hx hby (D20 20) rfl ?_
  refine kiN X0 hx hby (D20 21) rfl ?_
  refine kis X0 hx hby (D20 22) ?_
  refine ksN X0 hx hby (D20 23) (l' := #[iv a1, iv (b1 - a1), iv 0, iv 0, iv 0]) rfl ?_
  refine kiN X0 hx hby (D20 24) rfl ?_
  refine kiN X0 hx hby (D20 25) rfl ?_
  refine st1_ _ ?_
  refine kiushr X1_ hx hby (D20 27) ?_
  refine ksN X1_ hx hby (D20 28) (l' := #[iv a1, iv (((b1 - a1).toUInt32 >>> ((own_ntz (b1 - a1)) &&& 31).toUInt32).toInt32), iv 0, iv 0, iv 0]) rfl ?_
  refine kg X1_ hx (pc0 := 83) (pc' := 42) rfl hby (D20 29) (by decide) (by decide) ?_
  exact k
theorem own_bgl {p : Program} {l : Launch} {e : Env} {R : Room} {s : State} {m : MethodId} {args : Array Value} {below : List Frame} {meth : Method} {c : Code} {T0 : State} {locs : List Loc} {cells slots : Nat} (Z : State) (a0 : Array Value) (hw : own_W Z a0) (X0 : Stand p l e R s m args below meth c T0 locs cells slots) (hx : p.tables.exec = Jvm.exec) (hZ : Z.Warmed39 s.vm) (hby : c.code = jdk_2101_method_74_code) (hml : c.maxLocals = 5) (hown : s.vm.findClass "java/math/MutableBigInteger" = some m.cls) (N : Nat) (a1 : Int32) (b1 : Int32) (h0 : Heap) (n0 : Nat) (Z0 : n0 ≤ h0.size) (e0 : T0.heap = h0) (N0 : Fr n0 locs) (hfr : 1 ≤ R.frames) (hlo : 14 ≤ R.locals) (hce : cells + 0 ≤ R.cells) (hsl : slots + 0 ≤ R.slots) (hN : own_u a1 + own_u b1 ≤ N) (oa : own_u a1 % 2 = 1) (ob : own_u b1 % 2 = 1) :
    ∃ (T' : State) (h' : Heap) (L' : List Loc) (r1 : Int32), Stand p l e R s m args below meth c T' L' (cells + 0) (slots + 0) ∧ T'.heap = h' ∧ Fr n0 L' ∧ h' = h0 ∧ (own_u r1 = Nat.gcd (own_u a1) (own_u b1)) ∧ ∀ t, Steps p.tables e below (T'.setTop (mkF m 42 #[iv r1, iv r1, iv 0, iv 0, iv 0] [])) t → Steps p.tables e below (T0.setTop (mkF m 42 #[iv a1, iv b1, iv 0, iv 0, iv 0] [])) t := by
  induction N generalizing T0 locs a1 b1 h0 with
  | zero => omega
  | succ N ih =>
    by_cases c1 : a1 = b1
    · subst c1; exact ⟨T0, _, _, a1, X0, e0, N0, rfl, (Nat.gcd_self _).symm, fun t k => k⟩
    · rcases Nat.lt_or_ge (own_u b1) (own_u a1) with c2 | c2
      · have q := own_bstep oa ob c2
        have sp := own_step_odd (n := own_u a1 - own_u b1) (by omega)
        have sl := own_step_lt (own_tz (own_u a1 - own_u b1)) (n := own_u a1 - own_u b1) (by omega)
        obtain ⟨T1, h1, L1, X1, e1, N1, K1, st1⟩ := bgA Z a0 hw X0 hx hZ hby hml hown a1 b1 h0 n0 Z0 e0 N0 hfr hlo hce hsl c1 c2
        subst K1
        obtain ⟨T2, h2, L2, r, X2, e2, N2, K2, g2, st2⟩ := ih (T0 := T1) X1 _ b1 h1 Z0 e1 N1 (by rw [q]; omega) (by rw [q]; exact sp) ob
        exact ⟨T2, h2, L2, r, X2, e2, N2, K2, by rw [g2, q, own_gcd_step ob c2], fun t k => st1 t (st2 t k)⟩
      · have c3 : own_u a1 < own_u b1 := Nat.lt_of_le_of_ne c2 fun z => c1 (own_u_inj z)
        have q := own_bstep ob oa c3
        have sp := own_step_odd (n := own_u b1 - own_u a1) (by omega)
        have sl := own_step_lt (own_tz (own_u b1 - own_u a1)) (n := own_u b1 - own_u a1) (by omega)
        obtain ⟨T1, h1, L1, X1, e1, N1, K1, st1⟩ := bgB Z a0 hw X0 hx hZ hby hml hown a1 b1 h0 n0 Z0 e0 N0 hfr hlo hce hsl c1 c3
        subst K1
        obtain ⟨T2, h2, L2, r, X2, e2, N2, K2, g2, st2⟩ := ih (T0 := T1) X1 a1 _ h1 Z0 e1 N1 (by rw [q]; omega) oa (by rw [q]; exact sp)
        exact ⟨T2, h2, L2, r, X2, e2, N2, K2, by rw [g2, q, Nat.gcd_comm, own_gcd_step oa c3, Nat.gcd_comm], fun t k => st1 t (st2 t k)⟩

abbrev Y20 : MethodName := ⟨"java/math/MutableBigInteger", "binaryGcd", "(II)I"⟩
theorem ef20_II (m : MethodId) (x0 : Int32) (x1 : Int32) : entryFrame m #[(.int x0), (.int x1)] 5 = mkF m 0 #[iv x0, iv x1, .unset, .unset, .unset] [] := by first | (simp [entryFrame, mkF, argsToLocals, Value.category]; done) | rfl
def Q_rmBg (Z : State) (a1 : Int32) (b1 : Int32) (h0 : Heap) (n0 : Nat) (v : Option Value) (h : Heap) (L : List Loc) : Prop := ∃ (r1 : Int32), v = some (.int r1) ∧ Fr n0 L ∧ h = h0 ∧ (own_u r1 = Nat.gcd (own_u a1) (own_u b1))
theorem rmBg (l : Launch) (Z : State) (a0 : Array Value) (hw : own_W Z a0) (ws : List Jvm.Cond) (a1 : Int32) (b1 : Int32) (h0 : Heap) (n0 : Nat) (Z0 : n0 ≤ h0.size) (oa : own_u a1 % 2 = 1) (ob : own_u b1 % 2 = 1) : own_Met l Y20 jdk_2101_method_74_code 5 (some .int) ⟨1, 0, 0, 14⟩ ws #[(.int a1), (.int b1)] Z h0 (Q_rmBg Z a1 b1 h0 n0) := by
 refine own_go (plainFor_of_name pn_java_math_MutableBigInteger) (fun m => ef20_II m a1 b1) fun p e s m below meth c s₁ hx hby hml hown hnm hret hZ e0 X0 => ?_
 have N0 := Fr.nil n0
 obtain ⟨T1_, Lc1_, v1_, X1_, hQ1_, st1_⟩ := own_cS (y := Y15) X0 hx hZ hown (wt hw 90 rfl) (wt hw 91 rfl) (wt hw 93 rfl) (wt hw 92 rfl) (by decide) (rmNtz l Z a0 hw [] a1 h0 n0 Z0 ) e0 (pc := 13) (Ls := #[iv a1, iv b1, .unset, .unset, .unset]) (stk := [(.int a1)]) (rest := []) (by rw [hml]; rfl) pd0 rfl rfl (W := 0) rfl hby (D20 35) (by decide) (by decide) (by exact own_b rfl) (by exact own_b rfl)
 obtain ⟨rfl, Nq1_, ek1_⟩ := hQ1_
 have N1_ := Fr.app N0 Nq1_
 obtain ⟨T2_, Lc2_, v2_, X2_, hQ2_, st2_⟩ := own_cS (y := Y15) X1_ hx hZ hown (wt hw 90 rfl) (wt hw 91 rfl) (wt hw 93 rfl) (wt hw 92 rfl) (by decide) (rmNtz l Z a0 hw [] b1 h0 n0 Z0 ) ek1_ (pc := 18) (Ls := #[iv a1, iv b1, iv 0, .unset, .unset]) (stk := [(.int b1)]) (rest := []) (by rw [hml]; rfl) pd0 rfl rfl (W := 0) rfl hby (D20 38) (by decide) (by decide) (by exact own_b rfl) (by exact own_b rfl)
 obtain ⟨rfl, Nq2_, ek2_⟩ := hQ2_
 have N2_ := Fr.app N1_ Nq2_
 obtain ⟨T3_, h3_, L3_, r1_3_, X3_, e3_, N3_, K3_, p3_0, st3_⟩ := own_bgl Z a0 hw X2_ hx hZ hby hml hown (own_u a1 + own_u b1) a1 b1 h0 n0 Z0 ek2_ N2_ (by decide) (by decide) (by exact own_b rfl) (by exact own_b rfl) (Nat.le_refl _) oa ob
 have e3_q := e3_.trans K3_
 refine ⟨_, _, _, _, some (.int r1_3_), X3_, (by exact own_b rfl), (by exact own_b rfl), nofun, (by show Q_rmBg Z a1 b1 h0 n0 _ T3_.heap _; rw [e3_q]; exact ⟨r1_3_, rfl, N3_, rfl, p3_0⟩), fun fs hr => ?_⟩
 refine kiN X0 hx hby (D20 30) rfl ?_
 refine kfY X0 hx (pc0 := 1) (pc' := 6) rfl hby (D20 31) ((if0 _ _).trans (feq ((own_od0 ob) : ¬ (b1 = (0 : Int32)))).2) (by decide) (by decide) ?_
 refine kiN X0 hx hby (D20 32) rfl ?_
 refine kfY X0 hx (pc0 := 7) (pc' := 12) rfl hby (D20 33) ((if0 _ _).trans (feq ((own_od0 oa) : ¬ (a1 = (0 : Int32)))).2) (by decide) (by decide) ?_
 refine kiN X0 hx hby (D20 34) rfl ?_
 refine st1_ _ ?_
 refine own_rI (own_ntz1 oa) ?_
 refine ksN X1_ hx hby (D20 36) (l' := #[iv a1, iv b1, iv 0, .unset, .unset]) rfl ?_
 refine kiN X1_ hx hby (D20 37) rfl ?_
 refine st2_ _ ?_
 refine own_rI (own_ntz1 ob) ?_
 refine ksN X2_ hx hby (D20 39) (l' := #[iv a1, iv b1, iv 0, iv 0, .unset]) rfl ?_
 refine kiN X2_ hx hby (D20 40) rfl ?_
 refine kiN X2_ hx hby (D20 41) rfl ?_
 refine kiushr X2_ hx hby (D20 42) ?_
 refine own_rI (own_sh0 _) ?_
 refine ksN X2_ hx hby (D20 43) (l' := #[iv a1, iv b1, iv 0, iv 0, .unset]) rfl ?_
 refine kiN X2_ hx hby (D20 44) rfl ?_
 refine kiN X2_ hx hby (D20 45) rfl ?_
 refine kiushr X2_ hx hby (D20 46) ?_
 refine own_rI (own_sh0 _) ?_
 refine ksN X2_ hx hby (D20 47) (l' := #[iv a1, iv b1, iv 0, iv 0, .unset]) rfl ?_
 refine kiN X2_ hx hby (D20 48) rfl ?_
 refine kiN X2_ hx hby (D20 49) rfl ?_
 refine kcY X2_ hx (pc0 := 32) (pc' := 39) rfl hby (D20 50) (flt ((by decide) : ¬ ((0 : Int32) < (0 : Int32)))).2.1 (by decide) (by decide) ?_
 refine kiN X2_ hx hby (D20 51) rfl ?_
 refine ks X2_ hx hby (D20 52) (l' := #[iv a1, iv b1, iv 0, iv 0, iv 0]) rfl ?_
 refine st3_ _ ?_
 refine kiN X3_ hx hby (D20 0) rfl ?_
 refine kiN X3_ hx hby (D20 1) rfl ?_
 refine kcY X3_ hx (pc0 := 44) (pc' := 86) rfl hby (D20 2) (teq (rfl : r1_3_ = r1_3_)).1 (by decide) (by decide) ?_
 refine kiN X3_ hx hby (D20 53) rfl ?_
 refine ki X3_ hx hby (D20 54) rfl ?_
 refine kishl X3_ hx hby (D20 55) ?_
 refine own_rI (own_sl0 _) ?_
 exact retI X3_ hx hret (hb hby (D20 56)) hr
abbrev Y11 : MethodName := ⟨"java/math/MutableBigInteger", "<init>", "()V"⟩
theorem ef11_R (m : MethodId) (x0 : Addr) : entryFrame m #[(.ref x0)] 1 = mkF m 0 #[rv x0] [] := by first | (simp [entryFrame, mkF, argsToLocals, Value.category]; done) | rfl
def Q_rmM0 (Z : State) (o1 : Addr) (h0 : Heap) (n0 : Nat) (v : Option Value) (h : Heap) (L : List Loc) : Prop := ∃ (t1 : Addr) (k1 : ClassId), v = none ∧ Fr n0 L ∧ Keep h0 h [o1] ∧ (Fld Z h o1 "java/math/MutableBigInteger" "value" "[I" (.ref t1)) ∧ (Fld Z h o1 "java/math/MutableBigInteger" "intLen" "I" (.int 0)) ∧ (Fld Z h o1 "java/math/MutableBigInteger" "offset" "I" (.int 0)) ∧ (Exa Z h t1 "[I") ∧ (Arv Z h t1 k1 .int (1 : Int32) [(.int 0)] (.int 0)) ∧ (h0.size ≤ t1)
theorem rmM0 (l : Launch) (Z : State) (a0 : Array Value) (hw : own_W Z a0) (ws : List Jvm.Cond) (o1 : Addr) (h0 : Heap) (n0 : Nat) (Z0 : n0 ≤ h0.size) (X1 : Exa Z h0 o1 "java/math/MutableBigInteger") (X2 : Fld Z h0 o1 "java/math/MutableBigInteger" "value" "[I" .null) (X3 : Fld Z h0 o1 "java/math/MutableBigInteger" "intLen" "I" (.int 0)) (X4 : Fld Z h0 o1 "java/math/MutableBigInteger" "offset" "I" (.int 0)) (g1 : n0 ≤ o1) : own_Met l Y11 jdk_2101_method_1_code 1 none ⟨1, 1, 1, 12⟩ ws #[(.ref o1)] Z h0 (Q_rmM0 Z o1 h0 n0) := by
 refine own_go (plainFor_of_name pn_java_math_MutableBigInteger) (fun m => ef11_R m o1) fun p e s m below meth c s₁ hx hby hml hown hnm hret hZ e0 X0 => ?_
 have N0 := Fr.nil n0
 obtain ⟨T1_, X1_, e1_, st1_⟩ := initO X0 hx hZ hown (wt hw 46 rfl) (wt hw 18 rfl) (wt hw 19 rfl) e0 (g := (mkF m 1 #[rv o1] [(.ref o1)])) rfl (by rw [hml]; rfl) rfl (hb hby (D11 1)) (by decide) (W := 0) (by show 2 * 0 + _ ≤ _; exact Nat.le_of_eq rfl) (by decide)
 obtain ⟨T2_, h2_, X2_, e2_, W2_, w2_, N2_, st2_⟩ := own_pf (pc := 6) (Ls := #[rv o1]) (stk := [(.int 0), (.ref o1)]) X1_ hx hZ hown (wt hw 47 rfl) e1_ X4 X1 (Or.inl (wt hw 48 rfl)) (wt hw 40 rfl) (ty := .int) (by decide) rfl rfl N0 g1 hby (D11 4) rfl
 obtain ⟨T3_, h3_, k3_, X3_, e3_, E3_, A3_, Y3_, st3_⟩ := newPE X2_ hx hZ (wt hw 22 rfl) e2_ (g := (mkF m 11 #[rv o1] [(.int 1), (.ref o1)])) rfl (hb hby (D11 7)) rfl (by decide) (cap := 1) (by decide) (by decide) (by exact own_b rfl) (by exact own_b rfl) (ad := "[I") (by decide +kernel)
 obtain ⟨b3_, g3_⟩ : ∃ z, z = h2_.size := ⟨_, rfl⟩
 rw [← g3_] at A3_ Y3_ st3_
 have v3_ : Arv Z h3_ b3_ k3_ .int (1 : Int32) [(.int 0)] (.int 0) := (Arv.new A3_ (by decide)).pad (pad_rep [] (.int 0) 1)
 have f4_ := (X1.wr W2_).ext E3_
 have f5_ := (X2.other W2_ (Or.inr (slot_ne (Or.inl (wt hw 66 rfl)) (Or.inl (wt hw 48 rfl)) (by decide) (t := (.array .int)) (t' := .int) (by decide) (by decide)))).ext E3_
 obtain ⟨T6_, h6_, X6_, e6_, W6_, w6_, N6_, st6_⟩ := own_pf (pc := 13) (Ls := #[rv o1]) (stk := [(.ref b3_), (.ref o1)]) X3_ hx hZ hown (wt hw 65 rfl) e3_ f5_ f4_ (Or.inl (wt hw 66 rfl)) (wt hw 40 rfl) (ty := (.array .int)) (by decide) rfl rfl N2_ g1 hby (D11 8) rfl
 have f7_ := f4_.wr W6_
 have f8_ := ((X3.other W2_ (Or.inr (slot_ne (Or.inl (wt hw 51 rfl)) (Or.inl (wt hw 48 rfl)) (by decide) (t := .int) (t' := .int) (by decide) (by decide)))).ext E3_).other W6_ (Or.inr (slot_ne (Or.inl (wt hw 51 rfl)) (Or.inl (wt hw 66 rfl)) (by decide) (t := .int) (t' := (.array .int)) (by decide) (by decide)))
 obtain ⟨T9_, h9_, X9_, e9_, W9_, w9_, N9_, st9_⟩ := own_pf (pc := 18) (Ls := #[rv o1]) (stk := [(.int 0), (.ref o1)]) X6_ hx hZ hown (wt hw 50 rfl) e6_ f8_ f7_ (Or.inl (wt hw 51 rfl)) (wt hw 40 rfl) (ty := .int) (by decide) rfl rfl N6_ g1 hby (D11 11) rfl
 have f10_ := w6_.other W9_ (Or.inr (slot_ne (Or.inl (wt hw 66 rfl)) (Or.inl (wt hw 51 rfl)) (by decide) (t := (.array .int)) (t' := .int) (by decide) (by decide)))
 have f11_ := ((w2_.ext E3_).other W6_ (Or.inr (slot_ne (Or.inl (wt hw 48 rfl)) (Or.inl (wt hw 66 rfl)) (by decide) (t := .int) (t' := (.array .int)) (by decide) (by decide)))).other W9_ (Or.inr (slot_ne (Or.inl (wt hw 48 rfl)) (Or.inl (wt hw 51 rfl)) (by decide) (t := .int) (t' := .int) (by decide) (by decide)))
 have f12_ := (Y3_.wr W6_).wr W9_
 have f13_ := (v3_.other W6_ (Ne.symm (Nat.ne_of_lt (Nat.lt_of_lt_of_le (X1.wr W2_).lt (Nat.le_of_eq g3_.symm))))).other W9_ (Ne.symm (Nat.ne_of_lt (Nat.lt_of_lt_of_le (X1.wr W2_).lt (Nat.le_of_eq g3_.symm))))
 have k14_ := (Keep.refl h0 [o1]).wr W2_ (own_in 0 rfl)
 have k15_ := k14_.ext E3_
 have k16_ := k15_.wr W6_ (own_in 0 rfl)
 have k17_ := k16_.wr W9_ (own_in 0 rfl)
 refine ⟨_, _, _, _, none, X9_, (by exact own_b rfl), (by exact own_b rfl), (fun _ => rfl), (by show Q_rmM0 Z o1 h0 n0 _ T9_.heap _; rw [e9_]; exact ⟨b3_, k3_, rfl, N9_, k17_, f10_, w9_, f11_, f12_, f13_, (Nat.le_trans k14_.1 (Nat.le_of_eq g3_.symm))⟩), fun fs hr => ?_⟩
 refine kaN X0 hx hby (D11 0) rfl rfl ?_
 show Steps p.tables e below (s₁.setTop (mkF m 1 #[rv o1] [(.ref o1)])) _
 refine st1_ _ ?_
 show Steps p.tables e below (T1_.setTop (mkF m 4 #[rv o1] [])) _
 refine kaN X1_ hx hby (D11 2) rfl rfl ?_
 refine kc X1_ hx hby (D11 3) ?_
 refine st2_ _ ?_
 refine kaN X2_ hx hby (D11 5) rfl rfl ?_
 refine kc X2_ hx hby (D11 6) ?_
 show Steps p.tables e below (T2_.setTop (mkF m 11 #[rv o1] [(.int 1), (.ref o1)])) _
 refine st3_ _ ?_
 refine st6_ _ ?_
 show Steps p.tables e below (T6_.setTop (mkF m 16 #[rv o1] [])) _
 refine kaN X6_ hx hby (D11 9) rfl rfl ?_
 refine kc X6_ hx hby (D11 10) ?_
 refine st9_ _ ?_
 exact X9_.returnOut hx hret (hb hby (D11 12)) hr
abbrev Y28 : MethodName := ⟨"java/math/MutableBigInteger", "<init>", "([I)V"⟩
theorem ef28_RR (m : MethodId) (x0 : Addr) (x1 : Addr) : entryFrame m #[(.ref x0), (.ref x1)] 2 = mkF m 0 #[rv x0, rv x1] [] := by first | (simp [entryFrame, mkF, argsToLocals, Value.category]; done) | rfl
def Q_rmMa (Z : State) (o1 : Addr) (a1 : Addr) (k1 : ClassId) (z1 : Int32) (vs1 : List Value) (h0 : Heap) (n0 : Nat) (v : Option Value) (h : Heap) (L : List Loc) : Prop := v = none ∧ Fr n0 L ∧ Keep h0 h [o1] ∧ (Fld Z h o1 "java/math/MutableBigInteger" "value" "[I" (.ref a1)) ∧ (Fld Z h o1 "java/math/MutableBigInteger" "intLen" "I" (.int z1)) ∧ (Fld Z h o1 "java/math/MutableBigInteger" "offset" "I" (.int 0))
theorem rmMa (l : Launch) (Z : State) (a0 : Array Value) (hw : own_W Z a0) (ws : List Jvm.Cond) (o1 : Addr) (a1 : Addr) (k1 : ClassId) (z1 : Int32) (vs1 : List Value) (h0 : Heap) (n0 : Nat) (Z0 : n0 ≤ h0.size) (X1 : Exa Z h0 o1 "java/math/MutableBigInteger") (X2 : Fld Z h0 o1 "java/math/MutableBigInteger" "value" "[I" .null) (X3 : Fld Z h0 o1 "java/math/MutableBigInteger" "intLen" "I" (.int 0)) (X4 : Fld Z h0 o1 "java/math/MutableBigInteger" "offset" "I" (.int 0)) (g1 : n0 ≤ o1) (G1 : Exa Z h0 a1 "[I") (V1 : Arv Z h0 a1 k1 .int z1 vs1 (.int 0)) : own_Met l Y28 jdk_2101_method_3_code 2 none ⟨1, 0, 0, 12⟩ ws #[(.ref o1), (.ref a1)] Z h0 (Q_rmMa Z o1 a1 k1 z1 vs1 h0 n0) := by
 refine own_go (plainFor_of_name pn_java_math_MutableBigInteger) (fun m => ef28_RR m o1 a1) fun p e s m below meth c s₁ hx hby hml hown hnm hret hZ e0 X0 => ?_
 have N0 := Fr.nil n0
 obtain ⟨T1_, X1_, e1_, st1_⟩ := initO X0 hx hZ hown (wt hw 46 rfl) (wt hw 18 rfl) (wt hw 19 rfl) e0 (g := (mkF m 1 #[rv o1, rv a1] [(.ref o1)])) rfl (by rw [hml]; rfl) rfl (hb hby (D28 1)) (by decide) (W := 0) (by show 2 * 0 + _ ≤ _; exact Nat.le_of_eq rfl) (by decide)
 obtain ⟨T2_, h2_, X2_, e2_, W2_, w2_, N2_, st2_⟩ := own_pf (pc := 6) (Ls := #[rv o1, rv a1]) (stk := [(.int 0), (.ref o1)]) X1_ hx hZ hown (wt hw 47 rfl) e1_ X4 X1 (Or.inl (wt hw 48 rfl)) (wt hw 40 rfl) (ty := .int) (by decide) rfl rfl N0 g1 hby (D28 4) rfl
 have f3_ := X1.wr W2_
 have f4_ := X2.other W2_ (Or.inr (slot_ne (Or.inl (wt hw 66 rfl)) (Or.inl (wt hw 48 rfl)) (by decide) (t := (.array .int)) (t' := .int) (by decide) (by decide)))
 obtain ⟨T5_, h5_, X5_, e5_, W5_, w5_, N5_, st5_⟩ := own_pf (pc := 11) (Ls := #[rv o1, rv a1]) (stk := [(.ref a1), (.ref o1)]) X2_ hx hZ hown (wt hw 65 rfl) e2_ f4_ f3_ (Or.inl (wt hw 66 rfl)) (wt hw 40 rfl) (ty := (.array .int)) (by decide) rfl rfl N2_ g1 hby (D28 7) rfl
 have f6_ := (V1.other W2_ (ne_exa G1 X1 (by decide))).other W5_ (ne_exa (G1.wr W2_) f3_ (by decide))
 have f7_ := f3_.wr W5_
 have f8_ := (X3.other W2_ (Or.inr (slot_ne (Or.inl (wt hw 51 rfl)) (Or.inl (wt hw 48 rfl)) (by decide) (t := .int) (t' := .int) (by decide) (by decide)))).other W5_ (Or.inr (slot_ne (Or.inl (wt hw 51 rfl)) (Or.inl (wt hw 66 rfl)) (by decide) (t := .int) (t' := (.array .int)) (by decide) (by decide)))
 obtain ⟨T9_, h9_, X9_, e9_, W9_, w9_, N9_, st9_⟩ := own_pf (pc := 17) (Ls := #[rv o1, rv a1]) (stk := [(.int z1), (.ref o1)]) X5_ hx hZ hown (wt hw 50 rfl) e5_ f8_ f7_ (Or.inl (wt hw 51 rfl)) (wt hw 40 rfl) (ty := .int) (by decide) rfl rfl N5_ g1 hby (D28 11) rfl
 have f10_ := w5_.other W9_ (Or.inr (slot_ne (Or.inl (wt hw 66 rfl)) (Or.inl (wt hw 51 rfl)) (by decide) (t := (.array .int)) (t' := .int) (by decide) (by decide)))
 have f11_ := (w2_.other W5_ (Or.inr (slot_ne (Or.inl (wt hw 48 rfl)) (Or.inl (wt hw 66 rfl)) (by decide) (t := .int) (t' := (.array .int)) (by decide) (by decide)))).other W9_ (Or.inr (slot_ne (Or.inl (wt hw 48 rfl)) (Or.inl (wt hw 51 rfl)) (by decide) (t := .int) (t' := .int) (by decide) (by decide)))
 have k12_ := (Keep.refl h0 [o1]).wr W2_ (own_in 0 rfl)
 have k13_ := k12_.wr W5_ (own_in 0 rfl)
 have k14_ := k13_.wr W9_ (own_in 0 rfl)
 refine ⟨_, _, _, _, none, X9_, (by exact own_b rfl), (by exact own_b rfl), (fun _ => rfl), (by show Q_rmMa Z o1 a1 k1 z1 vs1 h0 n0 _ T9_.heap _; rw [e9_]; exact ⟨rfl, N9_, k14_, f10_, w9_, f11_⟩), fun fs hr => ?_⟩
 refine kaN X0 hx hby (D28 0) rfl rfl ?_
 show Steps p.tables e below (s₁.setTop (mkF m 1 #[rv o1, rv a1] [(.ref o1)])) _
 refine st1_ _ ?_
 show Steps p.tables e below (T1_.setTop (mkF m 4 #[rv o1, rv a1] [])) _
 refine kaN X1_ hx hby (D28 2) rfl rfl ?_
 refine kc X1_ hx hby (D28 3) ?_
 refine st2_ _ ?_
 refine kaN X2_ hx hby (D28 5) rfl rfl ?_
 refine kaN X2_ hx hby (D28 6) rfl rfl ?_
 refine st5_ _ ?_
 refine kaN X5_ hx hby (D28 8) rfl rfl ?_
 refine kaN X5_ hx hby (D28 9) rfl rfl ?_
 refine own_al X5_ hx hZ e5_ f6_ hby (D28 10) ?_
 refine st9_ _ ?_
 exact X9_.returnOut hx hret (hb hby (D28 12)) hr
abbrev Y9 : MethodName := ⟨"java/util/Arrays", "copyOf", "([II)[I"⟩
theorem ef9_RI (m : MethodId) (x0 : Addr) (x1 : Int32) : entryFrame m #[(.ref x0), (.int x1)] 3 = mkF m 0 #[rv x0, iv x1, .unset] [] := by first | (simp [entryFrame, mkF, argsToLocals, Value.category]; done) | rfl
theorem pn_java_util_Arrays : plainName "java/util/Arrays" = true := by first | (simp [plainName, overriddenIn]; done) | decide +kernel
def Q_rmCo (Z : State) (a1 : Addr) (z1 : Int32) (k1 : ClassId) (vs1 : List Value) (h0 : Heap) (n0 : Nat) (v : Option Value) (h : Heap) (L : List Loc) : Prop := ∃ (t1 : Addr), v = some (.ref t1) ∧ Fr n0 L ∧ Keep h0 h [] ∧ (Exa Z h t1 "[I") ∧ (Arv Z h t1 k1 .int z1 vs1 (.int 0)) ∧ (h0.size ≤ t1)
theorem rmCo (l : Launch) (Z : State) (a0 : Array Value) (hw : own_W Z a0) (ws : List Jvm.Cond) (a1 : Addr) (z1 : Int32) (k1 : ClassId) (vs1 : List Value) (h0 : Heap) (n0 : Nat) (Z0 : n0 ≤ h0.size) (G1 : Exa Z h0 a1 "[I") (V1 : Arv Z h0 a1 k1 .int z1 vs1 (.int 0)) (zl : (z1).toNatClampNeg ≤ 2) : own_Met l Y9 jdk_65_method_123_code 3 (some (.array .int)) ⟨1, 1, 2, 14⟩ ws #[(.ref a1), (.int z1)] Z h0 (Q_rmCo Z a1 z1 k1 vs1 h0 n0) := by
 refine own_go (plainFor_of_name pn_java_util_Arrays) (fun m => ef9_RI m a1 z1) fun p e s m below meth c s₁ hx hby hml hown hnm hret hZ e0 X0 => ?_
 have N0 := Fr.nil n0
 obtain ⟨T1_, h1_, X1_, e1_, E1_, V1_, Y1_, st1_⟩ := cloneH X0 hx hZ hown (wt hw 56 rfl) (wt hw 57 rfl) (wt hw 61 rfl) (wt hw 59 rfl) (wt hw 60 rfl) (wt hw 62 rfl) e0 (Arv.arh V1) G1 (g := (mkF m 7 #[rv a1, iv z1, .unset] [(.ref a1)])) rfl (by rw [hml]; rfl) rfl (hb hby (D9 5)) (by decide) (W := 0) (by show 2 * 0 + _ ≤ _; exact Nat.le_of_eq rfl) (by decide) (cap := 2) zl (by exact own_b rfl) (by exact own_b rfl)
 obtain ⟨b1_, g1_⟩ : ∃ z, z = h0.size := ⟨_, rfl⟩
 rw [← g1_] at V1_ Y1_ st1_
 have v1_ : Arv Z h1_ b1_ k1 .int z1 vs1 (.int 0) := V1_
 obtain ⟨T2_, X2_, e2_, st2_⟩ := castY X1_ hx hZ hown (wt hw 63 rfl) e1_ (Ins.self Y1_) (g := (mkF m 10 #[rv a1, iv z1, .unset] [(.ref b1_)])) rfl rfl (hb hby (D9 6))
 have k3_ := (Keep.refl h0 []).ext E1_
 refine ⟨_, _, _, _, some (.ref b1_), X2_, (by exact own_b rfl), (by exact own_b rfl), nofun, (by show Q_rmCo Z a1 z1 k1 vs1 h0 n0 _ T2_.heap _; rw [e2_]; exact ⟨b1_, rfl, N0, k3_, Y1_, v1_, (Nat.le_trans (Keep.refl h0 []).1 (Nat.le_of_eq g1_.symm))⟩), fun fs hr => ?_⟩
 refine kiN X0 hx hby (D9 0) rfl ?_
 refine kaN X0 hx hby (D9 1) rfl rfl ?_
 refine own_al X0 hx hZ e0 V1 hby (D9 2) ?_
 refine kcN X0 hx hby (D9 3) (teq (rfl : z1 = z1)).2 ?_
 refine kaN X0 hx hby (D9 4) rfl rfl ?_
 show Steps p.tables e below (s₁.setTop (mkF m 7 #[rv a1, iv z1, .unset] [(.ref a1)])) _
 refine st1_ _ ?_
 show Steps p.tables e below (T1_.setTop (mkF m 10 #[rv a1, iv z1, .unset] [(.ref b1_)])) _
 refine st2_ _ ?_
 show Steps p.tables e below (T2_.setTop (mkF m 13 #[rv a1, iv z1, .unset] [(.ref b1_)])) _
 exact retR X2_ hx hret rfl rfl rfl (hb hby (D9 7)) hr
theorem pd4 : parseMethodDescriptor "([II)[I" = some ⟨[(.array .int), .int], some (.array .int)⟩ := by decide +kernel
abbrev Y8 : MethodName := ⟨"java/math/MutableBigInteger", "<init>", "(Ljava/math/BigInteger;)V"⟩
theorem ef8_RR (m : MethodId) (x0 : Addr) (x1 : Addr) : entryFrame m #[(.ref x0), (.ref x1)] 2 = mkF m 0 #[rv x0, rv x1] [] := by first | (simp [entryFrame, mkF, argsToLocals, Value.category]; done) | rfl
def Q_rmMb (Z : State) (o1 : Addr) (x1 : Addr) (a1 : Addr) (m1 : Int) (h0 : Heap) (n0 : Nat) (v : Option Value) (h : Heap) (L : List Loc) : Prop := ∃ (t1 : Addr), v = none ∧ Fr n0 L ∧ Keep h0 h [o1] ∧ (own_MB Z h o1 t1 m1.natAbs) ∧ (h0.size ≤ t1)
theorem rmMb (l : Launch) (Z : State) (a0 : Array Value) (hw : own_W Z a0) (ws : List Jvm.Cond) (o1 : Addr) (x1 : Addr) (a1 : Addr) (m1 : Int) (h0 : Heap) (n0 : Nat) (Z0 : n0 ≤ h0.size) (X1 : Exa Z h0 o1 "java/math/MutableBigInteger") (X2 : Fld Z h0 o1 "java/math/MutableBigInteger" "value" "[I" .null) (X3 : Fld Z h0 o1 "java/math/MutableBigInteger" "intLen" "I" (.int 0)) (X4 : Fld Z h0 o1 "java/math/MutableBigInteger" "offset" "I" (.int 0)) (g1 : n0 ≤ o1) (B1 : own_BI Z h0 x1 a1 m1) (mz : m1.natAbs ≠ 0) (mb : m1.natAbs < 18446744073709551616) : own_Met l Y8 jdk_2101_method_4_code 2 none ⟨2, 1, 2, 29⟩ ws #[(.ref o1), (.ref x1)] Z h0 (Q_rmMb Z o1 x1 a1 m1 h0 n0) := by
 refine own_go (plainFor_of_name pn_java_math_MutableBigInteger) (fun m => ef8_RR m o1 x1) fun p e s m below meth c s₁ hx hby hml hown hnm hret hZ e0 X0 => ?_
 have N0 := Fr.nil n0
 obtain ⟨kq1, Vq1⟩ := B1.2.2.2.2
 obtain ⟨T1_, X1_, e1_, st1_⟩ := initO X0 hx hZ hown (wt hw 46 rfl) (wt hw 18 rfl) (wt hw 19 rfl) e0 (g := (mkF m 1 #[rv o1, rv x1] [(.ref o1)])) rfl (by rw [hml]; rfl) rfl (hb hby (D8 1)) (by decide) (W := 0) (by show 2 * 0 + _ ≤ _; exact Nat.le_of_eq rfl) (by decide)
 obtain ⟨T2_, h2_, X2_, e2_, W2_, w2_, N2_, st2_⟩ := own_pf (pc := 6) (Ls := #[rv o1, rv x1]) (stk := [(.int 0), (.ref o1)]) X1_ hx hZ hown (wt hw 47 rfl) e1_ X4 X1 (Or.inl (wt hw 48 rfl)) (wt hw 40 rfl) (ty := .int) (by decide) rfl rfl N0 g1 hby (D8 4) rfl
 have f3_ := B1.2.2.2.1.other W2_ (Or.inl (ne_exa B1.1 X1 (by decide)))
 obtain ⟨T4_, X4_, e4_, st4_⟩ := own_gN (pc := 10) (Ls := #[rv o1, rv x1]) (stk := [(.ref o1)]) X2_ hx hZ hown (wt hw 49 rfl) e2_ f3_ hby (D8 6) (D8 7) rfl
 have f5_ := Vq1.other W2_ (ne_exa B1.2.1 X1 (by decide))
 have f6_ := X1.wr W2_
 have f7_ := X3.other W2_ (Or.inr (slot_ne (Or.inl (wt hw 51 rfl)) (Or.inl (wt hw 48 rfl)) (by decide) (t := .int) (t' := .int) (by decide) (by decide)))
 obtain ⟨T8_, h8_, X8_, e8_, W8_, w8_, N8_, st8_⟩ := own_pf (pc := 15) (Ls := #[rv o1, rv x1]) (stk := [(.int (own_len m1.natAbs)), (.ref o1)]) X4_ hx hZ hown (wt hw 50 rfl) e4_ f7_ f6_ (Or.inl (wt hw 51 rfl)) (wt hw 40 rfl) (ty := .int) (by decide) rfl rfl N2_ g1 hby (D8 9) rfl
 have f9_ := f3_.other W8_ (Or.inl (ne_exa (B1.1.wr W2_) f6_ (by decide)))
 obtain ⟨T10_, X10_, e10_, st10_⟩ := own_gN (pc := 19) (Ls := #[rv o1, rv x1]) (stk := [(.ref o1)]) X8_ hx hZ hown (wt hw 49 rfl) e8_ f9_ hby (D8 11) (D8 12) rfl
 obtain ⟨T11_, X11_, e11_, st11_⟩ := own_gN (pc := 23) (Ls := #[rv o1, rv x1]) (stk := [(.ref a1), (.ref o1)]) X10_ hx hZ hown (wt hw 50 rfl) e10_ w8_ hby (D8 13) (D8 14) rfl
 have f13_ := (B1.2.1.wr W2_).wr W8_
 have f14_ := f5_.other W8_ (ne_exa (B1.2.1.wr W2_) f6_ (by decide))
 have z15_ : n0 ≤ h2_.size := Nat.le_trans Z0 (Keep.of_wr W2_).1
 have z16_ : n0 ≤ h8_.size := Nat.le_trans z15_ (Keep.of_wr W8_).1
 obtain ⟨T12_, Lc12_, v12_, X12_, hQ12_, st12_⟩ := own_cS (y := Y9) X11_ hx hZ hown (wt hw 52 rfl) (wt hw 53 rfl) (wt hw 55 rfl) (wt hw 54 rfl) (by decide) (rmCo l Z a0 hw [] a1 (own_len m1.natAbs) kq1 (own_mag m1.natAbs) h8_ n0 z16_ f13_ f14_ (own_len_le _).1) e11_ (pc := 27) (Ls := #[rv o1, rv x1]) (stk := [(.int (own_len m1.natAbs)), (.ref a1), (.ref o1)]) (rest := [(.ref o1)]) (by rw [hml]; rfl) pd4 rfl rfl (W := 1) rfl hby (D8 15) (by decide) (by decide) (by exact own_b rfl) (by exact own_b rfl)
 obtain ⟨t1_12_, rfl, Nq12_, ek12_, p12__0, p12__1, p12__2⟩ := hQ12_
 have N12_ := Fr.app N8_ Nq12_
 have f17_ := (f6_.wr W8_).keep ek12_
 have f18_ := ((X2.other W2_ (Or.inr (slot_ne (Or.inl (wt hw 66 rfl)) (Or.inl (wt hw 48 rfl)) (by decide) (t := (.array .int)) (t' := .int) (by decide) (by decide)))).other W8_ (Or.inr (slot_ne (Or.inl (wt hw 66 rfl)) (Or.inl (wt hw 51 rfl)) (by decide) (t := (.array .int)) (t' := .int) (by decide) (by decide)))).keep ek12_ nin0
 obtain ⟨T19_, h19_, X19_, e19_, W19_, w19_, N19_, st19_⟩ := own_pf (pc := 30) (Ls := #[rv o1, rv x1]) (stk := [(.ref t1_12_), (.ref o1)]) X12_ hx hZ hown (wt hw 65 rfl) rfl f18_ f17_ (Or.inl (wt hw 66 rfl)) (wt hw 40 rfl) (ty := (.array .int)) (by decide) rfl rfl N12_ g1 hby (D8 16) rfl
 have f20_ := f17_.wr W19_
 have f21_ := p12__0.wr W19_
 have f22_ := (w8_.keep ek12_ nin0).other W19_ (Or.inr (slot_ne (Or.inl (wt hw 51 rfl)) (Or.inl (wt hw 66 rfl)) (by decide) (t := .int) (t' := (.array .int)) (by decide) (by decide)))
 have f23_ := ((w2_.other W8_ (Or.inr (slot_ne (Or.inl (wt hw 48 rfl)) (Or.inl (wt hw 51 rfl)) (by decide) (t := .int) (t' := .int) (by decide) (by decide)))).keep ek12_ nin0).other W19_ (Or.inr (slot_ne (Or.inl (wt hw 48 rfl)) (Or.inl (wt hw 66 rfl)) (by decide) (t := .int) (t' := (.array .int)) (by decide) (by decide)))
 have f24_ := p12__1.other W19_ (Ne.symm (Nat.ne_of_lt (Nat.lt_of_lt_of_le (f6_.wr W8_).lt p12__2)))
 have mb_ : own_MB Z h19_ o1 t1_12_ m1.natAbs := own_MB.mkM mz mb f20_ f21_ w19_ f22_ f23_ f24_
 have k25_ := (Keep.refl h0 [o1]).wr W2_ (own_in 0 rfl)
 have k26_ := k25_.wr W8_ (own_in 0 rfl)
 have k27_ := k26_.trans ek12_ all0
 have k28_ := k27_.wr W19_ (own_in 0 rfl)
 refine ⟨_, _, _, _, none, X19_, (by exact own_b rfl), (by exact own_b rfl), (fun _ => rfl), (by show Q_rmMb Z o1 x1 a1 m1 h0 n0 _ T19_.heap _; rw [e19_]; exact ⟨t1_12_, rfl, N19_, k28_, mb_, (Nat.le_trans k26_.1 p12__2)⟩), fun fs hr => ?_⟩
 refine kaN X0 hx hby (D8 0) rfl rfl ?_
 show Steps p.tables e below (s₁.setTop (mkF m 1 #[rv o1, rv x1] [(.ref o1)])) _
 refine st1_ _ ?_
 show Steps p.tables e below (T1_.setTop (mkF m 4 #[rv o1, rv x1] [])) _
 refine kaN X1_ hx hby (D8 2) rfl rfl ?_
 refine kc X1_ hx hby (D8 3) ?_
 refine st2_ _ ?_
 refine kaN X2_ hx hby (D8 5) rfl rfl ?_
 refine st4_ _ ?_
 refine own_al X4_ hx hZ e4_ f5_ hby (D8 8) ?_
 refine st8_ _ ?_
 refine kaN X8_ hx hby (D8 10) rfl rfl ?_
 refine st10_ _ ?_
 refine st11_ _ ?_
 refine st12_ _ ?_
 refine st19_ _ ?_
 exact X19_.returnOut hx hret (hb hby (D8 17)) hr
abbrev Y21 : MethodName := ⟨"java/math/MutableBigInteger", "leftShift", "(I)V"⟩
theorem ef21_RI (m : MethodId) (x0 : Addr) (x1 : Int32) : entryFrame m #[(.ref x0), (.int x1)] 8 = mkF m 0 #[rv x0, iv x1, .unset, .unset, .unset, .unset, .unset, .unset] [] := by first | (simp [entryFrame, mkF, argsToLocals, Value.category]; done) | rfl
def Q_rmLs (Z : State) (o1 : Addr) (p1 : Int32) (a1 : Addr) (k1 : ClassId) (x1 : Int32) (t1 : Nat) (h0 : Heap) (n0 : Nat) (v : Option Value) (h : Heap) (L : List Loc) : Prop := v = none ∧ Fr n0 L ∧ Keep h0 h [a1] ∧ (Arv Z h a1 k1 .int (1 : Int32) [(.int (x1 <<< (p1 &&& 31)))] (.int 0))
theorem rmLs (l : Launch) (Z : State) (a0 : Array Value) (hw : own_W Z a0) (ws : List Jvm.Cond) (o1 : Addr) (p1 : Int32) (a1 : Addr) (k1 : ClassId) (x1 : Int32) (t1 : Nat) (h0 : Heap) (n0 : Nat) (Z0 : n0 ≤ h0.size) (S1 : own_SH Z h0 o1 a1 (1 : Int32) (0 : Int32) k1 (1 : Int32) [(.int x1)]) (g1 : n0 ≤ a1) (ep : p1 = Int32.ofNat t1) (tl : t1 < 32) (nx : ¬ (x1 = (0 : Int32))) (nf : own_u x1 * 2 ^ t1 < 4294967296) : own_Met l Y21 jdk_2101_method_37_code 8 none ⟨2, 0, 0, 26⟩ ws #[(.ref o1), (.int p1)] Z h0 (Q_rmLs Z o1 p1 a1 k1 x1 t1 h0 n0) := by
 refine own_go (plainFor_of_name pn_java_math_MutableBigInteger) (fun m => ef21_RI m o1 p1) fun p e s m below meth c s₁ hx hby hml hown hnm hret hZ e0 X0 => ?_
 have N0 := Fr.nil n0
 obtain ⟨T1_, X1_, e1_, st1_⟩ := own_gN (pc := 0) (Ls := #[rv o1, iv p1, .unset, .unset, .unset, .unset, .unset, .unset]) (stk := []) X0 hx hZ hown (wt hw 50 rfl) e0 S1.2.2.2.1 hby (D21 0) (D21 1) rfl
 obtain ⟨T2_, X2_, e2_, st2_⟩ := own_gN (pc := 17) (Ls := #[rv o1, iv p1, iv ((p1.toUInt32 >>> ((5 : Int32) &&& 31).toUInt32).toInt32), iv p1, .unset, .unset, .unset, .unset]) (stk := []) X1_ hx hZ hown (wt hw 65 rfl) e1_ S1.2.2.1 hby (D21 11) (D21 12) rfl
 obtain ⟨T3_, X3_, e3_, st3_⟩ := own_gN (pc := 21) (Ls := #[rv o1, iv p1, iv ((p1.toUInt32 >>> ((5 : Int32) &&& 31).toUInt32).toInt32), iv p1, .unset, .unset, .unset, .unset]) (stk := [(.ref a1)]) X2_ hx hZ hown (wt hw 47 rfl) e2_ S1.2.2.2.2.1 hby (D21 13) (D21 14) rfl
 obtain ⟨T4_, Lc4_, v4_, X4_, hQ4_, st4_⟩ := own_cS (y := Y17) X3_ hx hZ hown (wt hw 100 rfl) (wt hw 101 rfl) (wt hw 102 rfl) (wt hw 2 rfl) (by decide) (rmBl l Z a0 hw [] x1 h0 n0 Z0 ) e3_ (pc := 26) (Ls := #[rv o1, iv p1, iv ((p1.toUInt32 >>> ((5 : Int32) &&& 31).toUInt32).toInt32), iv p1, .unset, .unset, .unset, .unset]) (stk := [(.int x1)]) (rest := []) (by rw [hml]; rfl) pd0 rfl rfl (W := 0) rfl hby (D21 16) (by decide) (by decide) (by exact own_b rfl) (by exact own_b rfl)
 obtain ⟨rfl, Nq4_, ek4_⟩ := hQ4_
 have N4_ := Fr.app N0 Nq4_
 obtain ⟨T5_, Lc5_, v5_, X5_, hQ5_, st5_⟩ := own_cV (y := Y22) X4_ hx hZ hown (wt hw 120 rfl) (wt hw 121 rfl) (wt hw 123 rfl) (wt hw 124 rfl) (wt hw 41 rfl) (by decide) (pls1 l Z a0 hw [] o1 p1 a1 k1 x1 h0 n0 Z0 ⟨S1.1, S1.2.1, S1.2.2.1, S1.2.2.2.1, S1.2.2.2.2.1, S1.2.2.2.2.2⟩ g1) S1.1 ek4_ (pc := 42) (Ls := #[rv o1, iv p1, iv ((p1.toUInt32 >>> ((5 : Int32) &&& 31).toUInt32).toInt32), iv p1, iv ((32 : Int32) - (own_nlz x1)), .unset, .unset, .unset]) (stk := [(.int p1), (.ref o1)]) (rest := []) (by rw [hml]; rfl) pd1 rfl rfl (W := 0) rfl hby (D21 25) (by decide) (by decide) (by exact own_b rfl) (by exact own_b rfl)
 obtain ⟨rfl, Nq5_, ek5_, p5__0⟩ := hQ5_
 have N5_ := Fr.app N4_ Nq5_
 have k6_ := (Keep.refl h0 [a1]).trans ek5_ (allS (own_in 0 rfl) all0)
 refine ⟨_, _, _, _, none, X5_, (by exact own_b rfl), (by exact own_b rfl), (fun _ => rfl), (by show Q_rmLs Z o1 p1 a1 k1 x1 t1 h0 n0 _ T5_.heap _; exact ⟨rfl, N5_, k6_, p5__0⟩), fun fs hr => ?_⟩
 refine st1_ _ ?_
 refine kfY X1_ hx (pc0 := 4) (pc' := 8) rfl hby (D21 2) ((if0 _ _).trans (feq ((by decide) : ¬ ((1 : Int32) = (0 : Int32)))).2) (by decide) (by decide) ?_
 refine kiN X1_ hx hby (D21 3) rfl ?_
 refine kc X1_ hx hby (D21 4) ?_
 refine kiushr X1_ hx hby (D21 5) ?_
 refine ksN X1_ hx hby (D21 6) (l' := #[rv o1, iv p1, iv ((p1.toUInt32 >>> ((5 : Int32) &&& 31).toUInt32).toInt32), .unset, .unset, .unset, .unset, .unset]) rfl ?_
 refine kiN X1_ hx hby (D21 7) rfl ?_
 refine kb X1_ hx hby (D21 8) ?_
 refine kiand X1_ hx hby (D21 9) ?_
 refine own_rI (show (p1 &&& (31 : Int32)) = p1 from by rw [ep]; exact (own_k31 ⟨t1, tl⟩).1) ?_
 refine ksN X1_ hx hby (D21 10) (l' := #[rv o1, iv p1, iv ((p1.toUInt32 >>> ((5 : Int32) &&& 31).toUInt32).toInt32), iv p1, .unset, .unset, .unset, .unset]) rfl ?_
 refine st2_ _ ?_
 refine st3_ _ ?_
 refine own_ia X3_ hx hZ e3_ S1.2.2.2.2.2 ⟨by decide, by decide⟩ rfl hby (D21 15) ?_
 refine st4_ _ ?_
 refine ks X4_ hx hby (D21 17) (l' := #[rv o1, iv p1, iv ((p1.toUInt32 >>> ((5 : Int32) &&& 31).toUInt32).toInt32), iv p1, iv ((32 : Int32) - (own_nlz x1)), .unset, .unset, .unset]) rfl ?_
 refine kiN X4_ hx hby (D21 18) rfl ?_
 refine kb X4_ hx hby (D21 19) ?_
 refine ki X4_ hx hby (D21 20) rfl ?_
 refine kis X4_ hx hby (D21 21) ?_
 refine kcN X4_ hx hby (D21 22) (flt ((by rw [ep]; exact own_bl_fit x1 nx tl nf) : ¬ (((32 : Int32) - ((32 : Int32) - (own_nlz x1))) < p1))).2.2.1 ?_
 refine kaN X4_ hx hby (D21 23) rfl rfl ?_
 refine kiN X4_ hx hby (D21 24) rfl ?_
 refine st5_ _ ?_
 exact X5_.returnOut hx hret (hb hby (D21 26)) hr
theorem gl1 {p : Program} {l : Launch} {e : Env} {R : Room} {s : State} {m : MethodId} {args : Array Value} {below : List Frame} {meth : Method} {c : Code} {T0 : State} {locs : List Loc} {cells slots : Nat} (Z : State) (a0 : Array Value) (hw : own_W Z a0) (X0 : Stand p l e R s m args below meth c T0 locs cells slots) (hx : p.tables.exec = Jvm.exec) (hZ : Z.Warmed39 s.vm) (hby : c.code = jdk_2101_method_73_code) (hml : c.maxLocals = 13) (hown : s.vm.findClass "java/math/MutableBigInteger" = some m.cls) (o1 : Addr) (o2 : Addr) (c3 : Slot) (c4 : Slot) (c5 : Slot) (c6 : Slot) (c7 : Int32) (c8 : Addr) (c9 : Int32) (c10 : Int32) (a1 : Addr) (n1 : Nat) (a2 : Addr) (n2 : Nat) (h0 : Heap) (n0 : Nat) (Z0 : n0 ≤ h0.size) (e0 : T0.heap = h0) (N0 : Fr n0 locs) (hfr : 0 ≤ R.frames) (hlo : 0 ≤ R.locals) (hce : cells + 0 ≤ R.cells) (hsl : slots + 0 ≤ R.slots) (M1 : own_MB Z h0 o1 a1 n1) (M2 : own_MB Z h0 o2 a2 n2) (qb : 4294967296 ≤ n1) :
    ∃ (T' : State) (h' : Heap) (L' : List Loc), Stand p l e R s m args below meth c T' L' (cells + 0) (slots + 0) ∧ T'.heap = h' ∧ Fr n0 L' ∧ h' = h0 ∧ ∀ t, Steps p.tables e below (T'.setTop (mkF m 203 #[rv o1, rv o2, rv o1, c3, c4, c5, c6, iv c7, rv c8, iv c9, iv c10, .unset, .unset] [])) t → Steps p.tables e below (T0.setTop (mkF m 125 #[rv o1, rv o2, rv o1, c3, c4, c5, c6, iv c7, rv c8, iv c9, iv c10, .unset, .unset] [])) t := by
  obtain ⟨T1_, X1_, e1_, st1_⟩ := own_gN (pc := 125) (Ls := #[rv o1, rv o2, rv o1, c3, c4, c5, c6, iv c7, rv c8, iv c9, iv c10, .unset, .unset]) (stk := []) X0 hx hZ hown (wt hw 50 rfl) e0 M1.2.2.2.1 hby (D13 0) (D13 1) rfl
  refine ⟨T1_, _, _, X1_, e1_, N0, rfl, fun t k => ?_⟩
  refine st1_ _ ?_
  refine kc X1_ hx hby (D13 2) ?_
  refine kcY X1_ hx (pc0 := 130) (pc' := 203) rfl hby (D13 3) (flt ((own_MB.two M1 qb) : ¬ ((own_len n1) < (2 : Int32)))).2.1 (by decide) (by decide) ?_
  exact k
theorem gl2 {p : Program} {l : Launch} {e : Env} {R : Room} {s : State} {m : MethodId} {args : Array Value} {below : List Frame} {meth : Method} {c : Code} {T0 : State} {locs : List Loc} {cells slots : Nat} (Z : State) (a0 : Array Value) (hw : own_W Z a0) (X0 : Stand p l e R s m args below meth c T0 locs cells slots) (hx : p.tables.exec = Jvm.exec) (hZ : Z.Warmed39 s.vm) (hby : c.code = jdk_2101_method_73_code) (hml : c.maxLocals = 13) (hown : s.vm.findClass "java/math/MutableBigInteger" = some m.cls) (o1 : Addr) (o2 : Addr) (c3 : Slot) (c4 : Slot) (c5 : Slot) (c6 : Slot) (c7 : Int32) (c8 : Addr) (c9 : Int32) (c10 : Int32) (a1 : Addr) (n1 : Nat) (a2 : Addr) (n2 : Nat) (h0 : Heap) (n0 : Nat) (Z0 : n0 ≤ h0.size) (e0 : T0.heap = h0) (N0 : Fr n0 locs) (hfr : 0 ≤ R.frames) (hlo : 0 ≤ R.locals) (hce : cells + 0 ≤ R.cells) (hsl : slots + 0 ≤ R.slots) (M1 : own_MB Z h0 o1 a1 n1) (M2 : own_MB Z h0 o2 a2 n2) (ql : n1 < 4294967296) (qb : 4294967296 ≤ n2) :
    ∃ (T' : State) (h' : Heap) (L' : List Loc), Stand p l e R s m args below meth c T' L' (cells + 0) (slots + 0) ∧ T'.heap = h' ∧ Fr n0 L' ∧ h' = h0 ∧ ∀ t, Steps p.tables e below (T'.setTop (mkF m 203 #[rv o1, rv o2, rv o1, c3, c4, c5, c6, iv c7, rv c8, iv c9, iv c10, .unset, .unset] [])) t → Steps p.tables e below (T0.setTop (mkF m 125 #[rv o1, rv o2, rv o1, c3, c4, c5, c6, iv c7, rv c8, iv c9, iv c10, .unset, .unset] [])) t := by
  obtain ⟨T1_, X1_, e1_, st1_⟩ := own_gN (pc := 125) (Ls := #[rv o1, rv o2, rv o1, c3, c4, c5, c6, iv c7, rv c8, iv c9, iv c10, .unset, .unset]) (stk := []) X0 hx hZ hown (wt hw 50 rfl) e0 M1.2.2.2.1 hby (D13 0) (D13 1) rfl
  obtain ⟨T2_, X2_, e2_, st2_⟩ := own_gN (pc := 133) (Ls := #[rv o1, rv o2, rv o1, c3, c4, c5, c6, iv c7, rv c8, iv c9, iv c10, .unset, .unset]) (stk := []) X1_ hx hZ hown (wt hw 50 rfl) e1_ M2.2.2.2.1 hby (D13 4) (D13 5) rfl
  refine ⟨T2_, _, _, X2_, e2_, N0, rfl, fun t k => ?_⟩
  refine st1_ _ ?_
  refine kc X1_ hx hby (D13 2) ?_
  refine kcN X1_ hx hby (D13 3) (tlt ((own_MB.one M1 ql) : (own_len n1) < (2 : Int32))).2.1 ?_
  refine st2_ _ ?_
  refine kc X2_ hx hby (D13 6) ?_
  refine kcY X2_ hx (pc0 := 138) (pc' := 203) rfl hby (D13 7) (flt ((own_MB.two M2 qb) : ¬ ((own_len n2) < (2 : Int32)))).2.1 (by decide) (by decide) ?_
  exact k
theorem pd5 : parseMethodDescriptor "()I" = some ⟨[], some .int⟩ := by decide +kernel
theorem glG {p : Program} {l : Launch} {e : Env} {R : Room} {s : State} {m : MethodId} {args : Array Value} {below : List Frame} {meth : Method} {c : Code} {T0 : State} {locs : List Loc} {cells slots : Nat} (Z : State) (a0 : Array Value) (hw : own_W Z a0) (X0 : Stand p l e R s m args below meth c T0 locs cells slots) (hx : p.tables.exec = Jvm.exec) (hZ : Z.Warmed39 s.vm) (hby : c.code = jdk_2101_method_73_code) (hml : c.maxLocals = 13) (hown : s.vm.findClass "java/math/MutableBigInteger" = some m.cls) (o1 : Addr) (o2 : Addr) (c3 : Slot) (c4 : Slot) (c5 : Slot) (c6 : Slot) (c7 : Int32) (c8 : Addr) (c9 : Int32) (c10 : Int32) (a1 : Addr) (n1 : Nat) (a2 : Addr) (n2 : Nat) (h0 : Heap) (n0 : Nat) (Z0 : n0 ≤ h0.size) (e0 : T0.heap = h0) (N0 : Fr n0 locs) (hfr : 3 ≤ R.frames) (hlo : 42 ≤ R.locals) (hce : cells + 0 ≤ R.cells) (hsl : slots + 0 ≤ R.slots) (M1 : own_MB Z h0 o1 a1 n1) (M2 : own_MB Z h0 o2 a2 n2) (n12 : o1 ≠ o2) (m12 : a1 ≠ a2) (g1 : n0 ≤ o1) (g2 : n0 ≤ a1) (g3 : n0 ≤ o2) (g4 : n0 ≤ a2) (ql : n2 < n1) (qb : 4294967296 ≤ n1) :
    ∃ (T' : State) (h' : Heap) (L' : List Loc), Stand p l e R s m args below meth c T' L' (cells + 0) (slots + 0) ∧ T'.heap = h' ∧ Fr n0 L' ∧ Keep h0 h' [o1, a1, o2, a2] ∧ (own_MB Z h' o1 a1 ((n1 - n2) / 2 ^ (own_tz (n1 - n2)))) ∧ (own_MB Z h' o2 a2 n2) ∧ ∀ t, Steps p.tables e below (T'.setTop (mkF m 125 #[rv o1, rv o2, rv o1, c3, c4, c5, c6, iv c7, rv o1, iv 1, iv (Int32.ofNat (own_tz (n1 - n2))), .unset, .unset] [])) t → Steps p.tables e below (T0.setTop (mkF m 203 #[rv o1, rv o2, rv o1, c3, c4, c5, c6, iv c7, rv c8, iv c9, iv c10, .unset, .unset] [])) t := by
  obtain ⟨T1_, Lc1_, v1_, X1_, hQ1_, st1_⟩ := own_cV (y := Y37) X0 hx hZ hown (wt hw 202 rfl) (wt hw 203 rfl) (wt hw 205 rfl) (wt hw 206 rfl) (wt hw 41 rfl) (by decide) (rmDg l Z a0 hw [] o1 o2 a1 n1 a2 n2 h0 n0 Z0 M1 M2 n12 m12 g1 g2 ql qb) M1.1 e0 (pc := 205) (Ls := #[rv o1, rv o2, rv o1, c3, c4, c5, c6, iv c7, rv c8, iv c9, iv c10, .unset, .unset]) (stk := [(.ref o2), (.ref o1)]) (rest := []) (by rw [hml]; rfl) pd2 rfl rfl (W := 0) rfl hby (D13 10) (Nat.le_trans (by decide) hfr) (Nat.le_trans (by decide) hlo) (Nat.le_trans (Nat.add_le_add_left (by decide : 0 ≤ 0) cells) hce) (Nat.le_trans (Nat.add_le_add_left (by decide : 0 ≤ 0) slots) hsl)
  obtain ⟨rfl, Nq1_, ek1_, p1__0⟩ := hQ1_
  have N1_ := Fr.app N0 Nq1_
  have z3_ : n0 ≤ T1_.heap.size := Nat.le_trans Z0 ek1_.1
  obtain ⟨T2_, Lc2_, v2_, X2_, hQ2_, st2_⟩ := own_cV (y := Y14) X1_ hx hZ hown (wt hw 85 rfl) (wt hw 86 rfl) (wt hw 88 rfl) (wt hw 89 rfl) (wt hw 41 rfl) (by decide) (rmLsb l Z a0 hw [] o1 a1 (n1 - n2) T1_.heap n0 z3_ p1__0) p1__0.1 rfl (pc := 95) (Ls := #[rv o1, rv o2, rv o1, c3, c4, c5, c6, iv c7, rv o1, iv 1, iv c10, .unset, .unset]) (stk := [(.ref o1)]) (rest := []) (by rw [hml]; rfl) pd5 rfl rfl (W := 0) rfl hby (D13 21) (Nat.le_trans (by decide) hfr) (Nat.le_trans (by decide) hlo) (Nat.le_trans (Nat.add_le_add_left (by decide : 0 ≤ 0) cells) hce) (Nat.le_trans (Nat.add_le_add_left (by decide : 0 ≤ 0) slots) hsl)
  obtain ⟨rfl, Nq2_, ek2_⟩ := hQ2_
  have N2_ := Fr.app N1_ Nq2_
  obtain ⟨T4_, Lc4_, v4_, X4_, hQ4_, st4_⟩ := own_cV (y := Y16) X2_ hx hZ hown (wt hw 95 rfl) (wt hw 97 rfl) (wt hw 98 rfl) (wt hw 99 rfl) (wt hw 41 rfl) (by decide) (rmRs l Z a0 hw [] o1 (Int32.ofNat (own_tz (n1 - n2))) a1 (n1 - n2) (own_tz (n1 - n2)) T1_.heap n0 z3_ p1__0 g1 g2 rfl (own_MB.nn p1__0).2) p1__0.1 ek2_ (pc := 108) (Ls := #[rv o1, rv o2, rv o1, c3, c4, c5, c6, iv c7, rv o1, iv 1, iv (Int32.ofNat (own_tz (n1 - n2))), .unset, .unset]) (stk := [(.int (Int32.ofNat (own_tz (n1 - n2)))), (.ref o1)]) (rest := []) (by rw [hml]; rfl) pd1 rfl rfl (W := 0) rfl hby (D13 27) (Nat.le_trans (by decide) hfr) (Nat.le_trans (by decide) hlo) (Nat.le_trans (Nat.add_le_add_left (by decide : 0 ≤ 0) cells) hce) (Nat.le_trans (Nat.add_le_add_left (by decide : 0 ≤ 0) slots) hsl)
  obtain ⟨rfl, Nq4_, ek4_, p4__0⟩ := hQ4_
  have N4_ := Fr.app N2_ Nq4_
  have f5_ := (M2.keep ek1_ (ninS (Ne.symm n12) (ninS (ne_exa M2.1 M1.2.1 (by decide)) nin0)) (ninS (ne_exa M2.2.1 M1.1 (by decide)) (ninS (Ne.symm m12) nin0))).keep ek4_ (ninS (Ne.symm n12) (ninS (ne_exa (M2.1.keep ek1_) p1__0.2.1 (by decide)) nin0)) (ninS (ne_exa (M2.2.1.keep ek1_) p1__0.1 (by decide)) (ninS (Ne.symm m12) nin0))
  have k6_ := (Keep.refl h0 [o1, a1, o2, a2]).trans ek1_ (allS (own_in 0 rfl) (allS (own_in 1 rfl) all0))
  have k7_ := k6_.trans ek4_ (allS (own_in 0 rfl) (allS (own_in 1 rfl) all0))
  refine ⟨T4_, _, _, X4_, rfl, N4_, k7_, p4__0, f5_, fun t k => ?_⟩
  refine kaN X0 hx hby (D13 8) rfl rfl ?_
  refine kaN X0 hx hby (D13 9) rfl rfl ?_
  refine st1_ _ ?_
  refine kdup X1_ hx hby (D13 11) rfl ?_
  refine ks X1_ hx hby (D13 12) (l' := #[rv o1, rv o2, rv o1, c3, c4, c5, c6, iv c7, rv c8, iv 1, iv c10, .unset, .unset]) rfl ?_
  refine kfY X1_ hx (pc0 := 211) (pc' := 217) rfl hby (D13 13) ((if0 _ _).trans (feq ((by decide) : ¬ ((1 : Int32) = (0 : Int32)))).2) (by decide) (by decide) ?_
  refine ki X1_ hx hby (D13 14) rfl ?_
  refine kfN X1_ hx hby (D13 15) ((if0 _ _).trans (flt ((by decide) : ¬ ((1 : Int32) < (0 : Int32)))).1) ?_
  refine kaN X1_ hx hby (D13 16) rfl rfl ?_
  refine kg X1_ hx (pc0 := 223) (pc' := 227) rfl hby (D13 17) (by decide) (by decide) ?_
  refine kastore X1_ hx hby (D13 18) rfl (l' := #[rv o1, rv o2, rv o1, c3, c4, c5, c6, iv c7, rv o1, iv 1, iv c10, .unset, .unset]) rfl ?_
  refine kg X1_ hx (pc0 := 229) (pc' := 93) rfl hby (D13 19) (by decide) (by decide) ?_
  refine ka X1_ hx hby (D13 20) rfl rfl ?_
  refine st2_ _ ?_
  refine kdup X2_ hx hby (D13 22) rfl ?_
  refine ks X2_ hx hby (D13 23) (l' := #[rv o1, rv o2, rv o1, c3, c4, c5, c6, iv c7, rv o1, iv 1, iv (Int32.ofNat (own_tz (n1 - n2))), .unset, .unset]) rfl ?_
  refine kfN X2_ hx hby (D13 24) ((if0 _ _).trans (flt ((own_MB.nn p1__0).1 : ¬ ((Int32.ofNat (own_tz (n1 - n2))) < (0 : Int32)))).1) ?_
  refine ka X2_ hx hby (D13 25) rfl rfl ?_
  refine ki X2_ hx hby (D13 26) rfl ?_
  refine st4_ _ ?_
  refine ki X4_ hx hby (D13 28) rfl ?_
  refine kfN X4_ hx hby (D13 29) ((if0 _ _).trans (tlt ((by decide) : (0 : Int32) < (1 : Int32))).2.2.2) ?_
  refine ka X4_ hx hby (D13 30) rfl rfl ?_
  refine ktN X4_ hx hby (D13 31) rfl (l' := #[rv o1, rv o2, rv o1, c3, c4, c5, c6, iv c7, rv o1, iv 1, iv (Int32.ofNat (own_tz (n1 - n2))), .unset, .unset]) rfl ?_
  refine kg X4_ hx (pc0 := 119) (pc' := 125) rfl hby (D13 32) (by decide) (by decide) ?_
  exact k
theorem glL {p : Program} {l : Launch} {e : Env} {R : Room} {s : State} {m : MethodId} {args : Array Value} {below : List Frame} {meth : Method} {c : Code} {T0 : State} {locs : List Loc} {cells slots : Nat} (Z : State) (a0 : Array Value) (hw : own_W Z a0) (X0 : Stand p l e R s m args below meth c T0 locs cells slots) (hx : p.tables.exec = Jvm.exec) (hZ : Z.Warmed39 s.vm) (hby : c.code = jdk_2101_method_73_code) (hml : c.maxLocals = 13) (hown : s.vm.findClass "java/math/MutableBigInteger" = some m.cls) (o1 : Addr) (o2 : Addr) (c3 : Slot) (c4 : Slot) (c5 : Slot) (c6 : Slot) (c7 : Int32) (c8 : Addr) (c9 : Int32) (c10 : Int32) (a1 : Addr) (n1 : Nat) (a2 : Addr) (n2 : Nat) (h0 : Heap) (n0 : Nat) (Z0 : n0 ≤ h0.size) (e0 : T0.heap = h0) (N0 : Fr n0 locs) (hfr : 3 ≤ R.frames) (hlo : 42 ≤ R.locals) (hce : cells + 0 ≤ R.cells) (hsl : slots + 0 ≤ R.slots) (M1 : own_MB Z h0 o1 a1 n1) (M2 : own_MB Z h0 o2 a2 n2) (n12 : o1 ≠ o2) (m12 : a1 ≠ a2) (g1 : n0 ≤ o1) (g2 : n0 ≤ a1) (g3 : n0 ≤ o2) (g4 : n0 ≤ a2) (ql : n1 < n2) (qb : 4294967296 ≤ n2) :
    ∃ (T' : State) (h' : Heap) (L' : List Loc), Stand p l e R s m args below meth c T' L' (cells + 0) (slots + 0) ∧ T'.heap = h' ∧ Fr n0 L' ∧ Keep h0 h' [o1, a1, o2, a2] ∧ (own_MB Z h' o1 a1 n1) ∧ (own_MB Z h' o2 a2 ((n2 - n1) / 2 ^ (own_tz (n2 - n1)))) ∧ ∀ t, Steps p.tables e below (T'.setTop (mkF m 125 #[rv o1, rv o2, rv o1, c3, c4, c5, c6, iv c7, rv o2, iv (-1 : Int32), iv (Int32.ofNat (own_tz (n2 - n1))), .unset, .unset] [])) t → Steps p.tables e below (T0.setTop (mkF m 203 #[rv o1, rv o2, rv o1, c3, c4, c5, c6, iv c7, rv c8, iv c9, iv c10, .unset, .unset] [])) t := by
  obtain ⟨T1_, Lc1_, v1_, X1_, hQ1_, st1_⟩ := own_cV (y := Y37) X0 hx hZ hown (wt hw 202 rfl) (wt hw 203 rfl) (wt hw 205 rfl) (wt hw 206 rfl) (wt hw 41 rfl) (by decide) (rmDl l Z a0 hw [] o1 o2 a1 n1 a2 n2 h0 n0 Z0 M1 M2 n12 m12 g3 g4 ql qb) M1.1 e0 (pc := 205) (Ls := #[rv o1, rv o2, rv o1, c3, c4, c5, c6, iv c7, rv c8, iv c9, iv c10, .unset, .unset]) (stk := [(.ref o2), (.ref o1)]) (rest := []) (by rw [hml]; rfl) pd2 rfl rfl (W := 0) rfl hby (D13 10) (Nat.le_trans (by decide) hfr) (Nat.le_trans (by decide) hlo) (Nat.le_trans (Nat.add_le_add_left (by decide : 0 ≤ 0) cells) hce) (Nat.le_trans (Nat.add_le_add_left (by decide : 0 ≤ 0) slots) hsl)
  obtain ⟨rfl, Nq1_, ek1_, p1__0⟩ := hQ1_
  have N1_ := Fr.app N0 Nq1_
  have z3_ : n0 ≤ T1_.heap.size := Nat.le_trans Z0 ek1_.1
  obtain ⟨T2_, Lc2_, v2_, X2_, hQ2_, st2_⟩ := own_cV (y := Y14) X1_ hx hZ hown (wt hw 85 rfl) (wt hw 86 rfl) (wt hw 88 rfl) (wt hw 89 rfl) (wt hw 41 rfl) (by decide) (rmLsb l Z a0 hw [] o2 a2 (n2 - n1) T1_.heap n0 z3_ p1__0) p1__0.1 rfl (pc := 95) (Ls := #[rv o1, rv o2, rv o1, c3, c4, c5, c6, iv c7, rv o2, iv (-1 : Int32), iv c10, .unset, .unset]) (stk := [(.ref o2)]) (rest := []) (by rw [hml]; rfl) pd5 rfl rfl (W := 0) rfl hby (D13 21) (Nat.le_trans (by decide) hfr) (Nat.le_trans (by decide) hlo) (Nat.le_trans (Nat.add_le_add_left (by decide : 0 ≤ 0) cells) hce) (Nat.le_trans (Nat.add_le_add_left (by decide : 0 ≤ 0) slots) hsl)
  obtain ⟨rfl, Nq2_, ek2_⟩ := hQ2_
  have N2_ := Fr.app N1_ Nq2_
  obtain ⟨T4_, Lc4_, v4_, X4_, hQ4_, st4_⟩ := own_cV (y := Y16) X2_ hx hZ hown (wt hw 95 rfl) (wt hw 97 rfl) (wt hw 98 rfl) (wt hw 99 rfl) (wt hw 41 rfl) (by decide) (rmRs l Z a0 hw [] o2 (Int32.ofNat (own_tz (n2 - n1))) a2 (n2 - n1) (own_tz (n2 - n1)) T1_.heap n0 z3_ p1__0 g3 g4 rfl (own_MB.nn p1__0).2) p1__0.1 ek2_ (pc := 108) (Ls := #[rv o1, rv o2, rv o1, c3, c4, c5, c6, iv c7, rv o2, iv (-1 : Int32), iv (Int32.ofNat (own_tz (n2 - n1))), .unset, .unset]) (stk := [(.int (Int32.ofNat (own_tz (n2 - n1)))), (.ref o2)]) (rest := []) (by rw [hml]; rfl) pd1 rfl rfl (W := 0) rfl hby (D13 27) (Nat.le_trans (by decide) hfr) (Nat.le_trans (by decide) hlo) (Nat.le_trans (Nat.add_le_add_left (by decide : 0 ≤ 0) cells) hce) (Nat.le_trans (Nat.add_le_add_left (by decide : 0 ≤ 0) slots) hsl)
  obtain ⟨rfl, Nq4_, ek4_, p4__0⟩ := hQ4_
  have N4_ := Fr.app N2_ Nq4_
  have f5_ := (M1.keep ek1_ (ninS n12 (ninS (ne_exa M1.1 M2.2.1 (by decide)) nin0)) (ninS (ne_exa M1.2.1 M2.1 (by decide)) (ninS m12 nin0))).keep ek4_ (ninS n12 (ninS (ne_exa (M1.1.keep ek1_) p1__0.2.1 (by decide)) nin0)) (ninS (ne_exa (M1.2.1.keep ek1_) p1__0.1 (by decide)) (ninS m12 nin0))
  have k6_ := (Keep.refl h0 [o1, a1, o2, a2]).trans ek1_ (allS (own_in 2 rfl) (allS (own_in 3 rfl) all0))
  have k7_ := k6_.trans ek4_ (allS (own_in 2 rfl) (allS (own_in 3 rfl) all0))
  refine ⟨T4_, _, _, X4_, rfl, N4_, k7_, f5_, p4__0, fun t k => ?_⟩
  refine kaN X0 hx hby (D13 8) rfl rfl ?_
  refine kaN X0 hx hby (D13 9) rfl rfl ?_
  refine st1_ _ ?_
  refine kdup X1_ hx hby (D13 11) rfl ?_
  refine ks X1_ hx hby (D13 12) (l' := #[rv o1, rv o2, rv o1, c3, c4, c5, c6, iv c7, rv c8, iv (-1 : Int32), iv c10, .unset, .unset]) rfl ?_
  refine kfY X1_ hx (pc0 := 211) (pc' := 217) rfl hby (D13 13) ((if0 _ _).trans (feq ((by decide) : ¬ ((-1 : Int32) = (0 : Int32)))).2) (by decide) (by decide) ?_
  refine ki X1_ hx hby (D13 14) rfl ?_
  refine kfY X1_ hx (pc0 := 219) (pc' := 226) rfl hby (D13 15) ((if0 _ _).trans (tlt ((by decide) : (-1 : Int32) < (0 : Int32))).1) (by decide) (by decide) ?_
  refine kaN X1_ hx hby (D13 33) rfl rfl ?_
  refine kastore X1_ hx hby (D13 18) rfl (l' := #[rv o1, rv o2, rv o1, c3, c4, c5, c6, iv c7, rv o2, iv (-1 : Int32), iv c10, .unset, .unset]) rfl ?_
  refine kg X1_ hx (pc0 := 229) (pc' := 93) rfl hby (D13 19) (by decide) (by decide) ?_
  refine ka X1_ hx hby (D13 20) rfl rfl ?_
  refine st2_ _ ?_
  refine kdup X2_ hx hby (D13 22) rfl ?_
  refine ks X2_ hx hby (D13 23) (l' := #[rv o1, rv o2, rv o1, c3, c4, c5, c6, iv c7, rv o2, iv (-1 : Int32), iv (Int32.ofNat (own_tz (n2 - n1))), .unset, .unset]) rfl ?_
  refine kfN X2_ hx hby (D13 24) ((if0 _ _).trans (flt ((own_MB.nn p1__0).1 : ¬ ((Int32.ofNat (own_tz (n2 - n1))) < (0 : Int32)))).1) ?_
  refine ka X2_ hx hby (D13 25) rfl rfl ?_
  refine ki X2_ hx hby (D13 26) rfl ?_
  refine st4_ _ ?_
  refine ki X4_ hx hby (D13 28) rfl ?_
  refine kfY X4_ hx (pc0 := 113) (pc' := 122) rfl hby (D13 29) ((if0 _ _).trans (flt ((by decide) : ¬ ((0 : Int32) < (-1 : Int32)))).2.2.2) (by decide) (by decide) ?_
  refine ka X4_ hx hby (D13 34) rfl rfl ?_
  refine ktN X4_ hx hby (D13 35) rfl (l' := #[rv o1, rv o2, rv o1, c3, c4, c5, c6, iv c7, rv o2, iv (-1 : Int32), iv (Int32.ofNat (own_tz (n2 - n1))), .unset, .unset]) rfl ?_
  exact k
theorem own_gl {p : Program} {l : Launch} {e : Env} {R : Room} {s : State} {m : MethodId} {args : Array Value} {below : List Frame} {meth : Method} {c : Code} {T0 : State} {locs : List Loc} {cells slots : Nat} (Z : State) (a0 : Array Value) (hw : own_W Z a0) (X0 : Stand p l e R s m args below meth c T0 locs cells slots) (hx : p.tables.exec = Jvm.exec) (hZ : Z.Warmed39 s.vm) (hby : c.code = jdk_2101_method_73_code) (hml : c.maxLocals = 13) (hown : s.vm.findClass "java/math/MutableBigInteger" = some m.cls) (o1 : Addr) (o2 : Addr) (a1 : Addr) (a2 : Addr) (N : Nat) (c3 : Slot) (c4 : Slot) (c5 : Slot) (c6 : Slot) (c7 : Int32) (c8 : Addr) (c9 : Int32) (c10 : Int32) (n1 : Nat) (n2 : Nat) (h0 : Heap) (n0 : Nat) (Z0 : n0 ≤ h0.size) (e0 : T0.heap = h0) (N0 : Fr n0 locs) (hfr : 3 ≤ R.frames) (hlo : 42 ≤ R.locals) (hce : cells + 0 ≤ R.cells) (hsl : slots + 0 ≤ R.slots) (n12 : o1 ≠ o2) (m12 : a1 ≠ a2) (g1 : n0 ≤ o1) (g2 : n0 ≤ a1) (g3 : n0 ≤ o2) (g4 : n0 ≤ a2) (M1 : own_MB Z h0 o1 a1 n1) (M2 : own_MB Z h0 o2 a2 n2) (hN : n1 + n2 ≤ N) (oa : n1 % 2 = 1) (ob : n2 % 2 = 1) (gl : Nat.gcd n1 n2 < 4294967296) :
    ∃ (T' : State) (h' : Heap) (L' : List Loc) (u1 : Nat) (u2 : Nat) (d8 : Addr) (d9 : Int32) (d10 : Int32), Stand p l e R s m args below meth c T' L' (cells + 0) (slots + 0) ∧ T'.heap = h' ∧ Fr n0 L' ∧ Keep h0 h' [o1, a1, o2, a2] ∧ (own_MB Z h' o1 a1 u1) ∧ (own_MB Z h' o2 a2 u2) ∧ (u1 % 2 = 1) ∧ (u2 % 2 = 1) ∧ (u1 < 4294967296) ∧ (u2 < 4294967296) ∧ (Nat.gcd u1 u2 = Nat.gcd n1 n2) ∧ ∀ t, Steps p.tables e below (T'.setTop (mkF m 125 #[rv o1, rv o2, rv o1, c3, c4, c5, c6, iv c7, rv d8, iv d9, iv d10, .unset, .unset] [])) t → Steps p.tables e below (T0.setTop (mkF m 125 #[rv o1, rv o2, rv o1, c3, c4, c5, c6, iv c7, rv c8, iv c9, iv c10, .unset, .unset] [])) t := by
  induction N generalizing T0 locs n1 n2 h0 c8 c9 c10 with
  | zero => have := M1.nz; omega
  | succ N ih =>
    have z1 := M1.nz
    have z2 := M2.nz
    by_cases q1 : 4294967296 ≤ n1
    · rcases Nat.lt_trichotomy n2 n1 with c2 | c2 | c2
      · obtain ⟨T1, h1, L1, X1, e1, N1, K1, st1⟩ := gl1 Z a0 hw X0 hx hZ hby hml hown o1 o2 c3 c4 c5 c6 c7 c8 c9 c10 a1 n1 a2 n2 h0 n0 Z0 e0 N0 (Nat.le_trans (by decide) hfr) (Nat.le_trans (by decide) hlo) hce hsl M1 M2 q1
        subst K1
        obtain ⟨T2, h2, L2, X2, e2, N2, K2, m1, m2, st2⟩ := glG Z a0 hw X1 hx hZ hby hml hown o1 o2 c3 c4 c5 c6 c7 c8 c9 c10 a1 n1 a2 n2 h1 n0 Z0 e1 N1 (Nat.le_trans (by decide) hfr) (Nat.le_trans (by decide) hlo) hce hsl M1 M2 n12 m12 g1 g2 g3 g4 c2 q1
        have sp := own_step_odd (n := n1 - n2) (by omega)
        have sl := own_step_lt (own_tz (n1 - n2)) (n := n1 - n2) (by omega)
        have gs := own_gcd_step ob c2
        obtain ⟨T3, h3, L3, u1, u2, d8, d9, d10, X3, e3, N3, K3, r1, r2, r3, r4, r5, r6, r7, st3⟩ := ih (T0 := T2) X2 _ _ _ _ n2 h2 (Nat.le_trans Z0 K2.1) e2 N2 m1 m2 (by omega) sp ob (by rw [gs]; exact gl)
        exact ⟨T3, h3, L3, u1, u2, d8, d9, d10, X3, e3, N3, K2.trans K3 (fun x hx => Or.inl hx), r1, r2, r3, r4, r5, r6, by rw [r7]; exact gs, fun t k => st1 t (st2 t (st3 t k))⟩
      · subst c2; rw [Nat.gcd_self] at gl; omega
      · obtain ⟨T1, h1, L1, X1, e1, N1, K1, st1⟩ := gl1 Z a0 hw X0 hx hZ hby hml hown o1 o2 c3 c4 c5 c6 c7 c8 c9 c10 a1 n1 a2 n2 h0 n0 Z0 e0 N0 (Nat.le_trans (by decide) hfr) (Nat.le_trans (by decide) hlo) hce hsl M1 M2 q1
        subst K1
        obtain ⟨T2, h2, L2, X2, e2, N2, K2, m1, m2, st2⟩ := glL Z a0 hw X1 hx hZ hby hml hown o1 o2 c3 c4 c5 c6 c7 c8 c9 c10 a1 n1 a2 n2 h1 n0 Z0 e1 N1 (Nat.le_trans (by decide) hfr) (Nat.le_trans (by decide) hlo) hce hsl M1 M2 n12 m12 g1 g2 g3 g4 c2 (by omega)
        have sp := own_step_odd (n := n2 - n1) (by omega)
        have sl := own_step_lt (own_tz (n2 - n1)) (n := n2 - n1) (by omega)
        have gs := own_gcd_step oa c2
        obtain ⟨T3, h3, L3, u1, u2, d8, d9, d10, X3, e3, N3, K3, r1, r2, r3, r4, r5, r6, r7, st3⟩ := ih (T0 := T2) X2 _ _ _ n1 _ h2 (Nat.le_trans Z0 K2.1) e2 N2 m1 m2 (by omega) oa sp (by rw [Nat.gcd_comm, gs, Nat.gcd_comm]; exact gl)
        exact ⟨T3, h3, L3, u1, u2, d8, d9, d10, X3, e3, N3, K2.trans K3 (fun x hx => Or.inl hx), r1, r2, r3, r4, r5, r6, by rw [r7]; rw [Nat.gcd_comm, gs, Nat.gcd_comm], fun t k => st1 t (st2 t (st3 t k))⟩
    · by_cases q2 : 4294967296 ≤ n2
      · have c2 : n1 < n2 := by omega
        have q1 : n1 < 4294967296 := by omega
        obtain ⟨T1, h1, L1, X1, e1, N1, K1, st1⟩ := gl2 Z a0 hw X0 hx hZ hby hml hown o1 o2 c3 c4 c5 c6 c7 c8 c9 c10 a1 n1 a2 n2 h0 n0 Z0 e0 N0 (Nat.le_trans (by decide) hfr) (Nat.le_trans (by decide) hlo) hce hsl M1 M2 q1 q2
        subst K1
        obtain ⟨T2, h2, L2, X2, e2, N2, K2, m1, m2, st2⟩ := glL Z a0 hw X1 hx hZ hby hml hown o1 o2 c3 c4 c5 c6 c7 c8 c9 c10 a1 n1 a2 n2 h1 n0 Z0 e1 N1 (Nat.le_trans (by decide) hfr) (Nat.le_trans (by decide) hlo) hce hsl M1 M2 n12 m12 g1 g2 g3 g4 c2 (by omega)
        have sp := own_step_odd (n := n2 - n1) (by omega)
        have sl := own_step_lt (own_tz (n2 - n1)) (n := n2 - n1) (by omega)
        have gs := own_gcd_step oa c2
        obtain ⟨T3, h3, L3, u1, u2, d8, d9, d10, X3, e3, N3, K3, r1, r2, r3, r4, r5, r6, r7, st3⟩ := ih (T0 := T2) X2 _ _ _ n1 _ h2 (Nat.le_trans Z0 K2.1) e2 N2 m1 m2 (by omega) oa sp (by rw [Nat.gcd_comm, gs, Nat.gcd_comm]; exact gl)
        exact ⟨T3, h3, L3, u1, u2, d8, d9, d10, X3, e3, N3, K2.trans K3 (fun x hx => Or.inl hx), r1, r2, r3, r4, r5, r6, by rw [r7]; rw [Nat.gcd_comm, gs, Nat.gcd_comm], fun t k => st1 t (st2 t (st3 t k))⟩
      · exact ⟨T0, _, _, n1, n2, c8, c9, c10, X0, e0, N0, Keep.refl _ _, M1, M2, oa, ob, by omega, by omega, rfl, fun t k => k⟩

theorem gt1 {p : Program} {l : Launch} {e : Env} {R : Room} {s : State} {m : MethodId} {args : Array Value} {below : List Frame} {meth : Method} {c : Code} {T0 : State} {locs : List Loc} {cells slots : Nat} (Z : State) (a0 : Array Value) (hw : own_W Z a0) (X0 : Stand p l e R s m args below meth c T0 locs cells slots) (hx : p.tables.exec = Jvm.exec) (hZ : Z.Warmed39 s.vm) (hby : c.code = jdk_2101_method_73_code) (hml : c.maxLocals = 13) (hown : s.vm.findClass "java/math/MutableBigInteger" = some m.cls) (o1 : Addr) (o2 : Addr) (c3 : Slot) (s1 : Int32) (c5 : Slot) (kk : Int32) (a1 : Addr) (n1 : Nat) (a2 : Addr) (n2 : Nat) (h0 : Heap) (n0 : Nat) (Z0 : n0 ≤ h0.size) (e0 : T0.heap = h0) (N0 : Fr n0 locs) (hfr : 3 ≤ R.frames) (hlo : 42 ≤ R.locals) (hce : cells + 0 ≤ R.cells) (hsl : slots + 0 ≤ R.slots) (M1 : own_MB Z h0 o1 a1 n1) (M2 : own_MB Z h0 o2 a2 n2) (n12 : o1 ≠ o2) (m12 : a1 ≠ a2) (g1 : n0 ≤ o1) (g2 : n0 ≤ a1) (g3 : n0 ≤ o2) (g4 : n0 ≤ a2) (eks : kk = s1) (on : n1 % 2 = 1) :
    ∃ (T' : State) (h' : Heap) (L' : List Loc), Stand p l e R s m args below meth c T' L' (cells + 0) (slots + 0) ∧ T'.heap = h' ∧ Fr n0 L' ∧ Keep h0 h' [o1, a1, o2, a2] ∧ (own_MB Z h' o1 a1 (n1 / 2 ^ (own_tz n1))) ∧ (own_MB Z h' o2 a2 (n2 / 2 ^ (own_tz n2))) ∧ ∀ t, Steps p.tables e below (T'.setTop (mkF m 125 #[rv o1, rv o2, rv o1, c3, iv s1, c5, iv kk, iv 1, rv o2, iv (-1 : Int32), iv (Int32.ofNat (own_tz n2)), .unset, .unset] [])) t → Steps p.tables e below (T0.setTop (mkF m 55 #[rv o1, rv o2, rv o1, c3, iv s1, c5, iv kk, .unset, .unset, .unset, .unset, .unset, .unset] [])) t := by
  obtain ⟨T1_, Lc1_, v1_, X1_, hQ1_, st1_⟩ := own_cV (y := Y14) X0 hx hZ hown (wt hw 85 rfl) (wt hw 86 rfl) (wt hw 88 rfl) (wt hw 89 rfl) (wt hw 41 rfl) (by decide) (rmLsb l Z a0 hw [] o2 a2 n2 h0 n0 Z0 M2) M2.1 e0 (pc := 95) (Ls := #[rv o1, rv o2, rv o1, c3, iv s1, c5, iv kk, iv 1, rv o2, iv (-1 : Int32), .unset, .unset, .unset]) (stk := [(.ref o2)]) (rest := []) (by rw [hml]; rfl) pd5 rfl rfl (W := 0) rfl hby (D13 21) (Nat.le_trans (by decide) hfr) (Nat.le_trans (by decide) hlo) (Nat.le_trans (Nat.add_le_add_left (by decide : 0 ≤ 0) cells) hce) (Nat.le_trans (Nat.add_le_add_left (by decide : 0 ≤ 0) slots) hsl)
  obtain ⟨rfl, Nq1_, ek1_⟩ := hQ1_
  have N1_ := Fr.app N0 Nq1_
  obtain ⟨T2_, Lc2_, v2_, X2_, hQ2_, st2_⟩ := own_cV (y := Y16) X1_ hx hZ hown (wt hw 95 rfl) (wt hw 97 rfl) (wt hw 98 rfl) (wt hw 99 rfl) (wt hw 41 rfl) (by decide) (rmRs l Z a0 hw [] o2 (Int32.ofNat (own_tz n2)) a2 n2 (own_tz n2) h0 n0 Z0 M2 g3 g4 rfl (own_MB.nn M2).2) M2.1 ek1_ (pc := 108) (Ls := #[rv o1, rv o2, rv o1, c3, iv s1, c5, iv kk, iv 1, rv o2, iv (-1 : Int32), iv (Int32.ofNat (own_tz n2)), .unset, .unset]) (stk := [(.int (Int32.ofNat (own_tz n2))), (.ref o2)]) (rest := []) (by rw [hml]; rfl) pd1 rfl rfl (W := 0) rfl hby (D13 27) (Nat.le_trans (by decide) hfr) (Nat.le_trans (by decide) hlo) (Nat.le_trans (Nat.add_le_add_left (by decide : 0 ≤ 0) cells) hce) (Nat.le_trans (Nat.add_le_add_left (by decide : 0 ≤ 0) slots) hsl)
  obtain ⟨rfl, Nq2_, ek2_, p2__0⟩ := hQ2_
  have N2_ := Fr.app N1_ Nq2_
  have f3_ := M1.keep ek2_ (ninS n12 (ninS (ne_exa M1.1 M2.2.1 (by decide)) nin0)) (ninS (ne_exa M1.2.1 M2.1 (by decide)) (ninS m12 nin0))
  have mo_ : own_MB Z T2_.heap o1 a1 (n1 / 2 ^ (own_tz n1)) := f3_.cast (by rw [own_tz_1 _ on]; simp)
  have k4_ := (Keep.refl h0 [o1, a1, o2, a2]).trans ek2_ (allS (own_in 2 rfl) (allS (own_in 3 rfl) all0))
  refine ⟨T2_, _, _, X2_, rfl, N2_, k4_, mo_, p2__0, fun t k => ?_⟩
  refine ki X0 hx hby (D13 36) rfl ?_
  refine ki X0 hx hby (D13 37) rfl ?_
  refine kcN X0 hx hby (D13 38) (teq (eks : kk = s1)).2 ?_
  refine kc X0 hx hby (D13 39) ?_
  refine kg X0 hx (pc0 := 63) (pc' := 67) rfl hby (D13 40) (by decide) (by decide) ?_
  refine ks X0 hx hby (D13 41) (l' := #[rv o1, rv o2, rv o1, c3, iv s1, c5, iv kk, iv 1, .unset, .unset, .unset, .unset, .unset]) rfl ?_
  refine ki X0 hx hby (D13 42) rfl ?_
  refine kfN X0 hx hby (D13 43) ((if0 _ _).trans (feq ((by decide) : ¬ ((1 : Int32) = (0 : Int32)))).1) ?_
  refine kaN X0 hx hby (D13 44) rfl rfl ?_
  refine kg X0 hx (pc0 := 75) (pc' := 79) rfl hby (D13 45) (by decide) (by decide) ?_
  refine kastore X0 hx hby (D13 46) rfl (l' := #[rv o1, rv o2, rv o1, c3, iv s1, c5, iv kk, iv 1, rv o2, .unset, .unset, .unset, .unset]) rfl ?_
  refine ki X0 hx hby (D13 47) rfl ?_
  refine kfN X0 hx hby (D13 48) ((if0 _ _).trans (feq ((by decide) : ¬ ((1 : Int32) = (0 : Int32)))).1) ?_
  refine kc X0 hx hby (D13 49) ?_
  refine kg X0 hx (pc0 := 87) (pc' := 91) rfl hby (D13 50) (by decide) (by decide) ?_
  refine ks X0 hx hby (D13 51) (l' := #[rv o1, rv o2, rv o1, c3, iv s1, c5, iv kk, iv 1, rv o2, iv (-1 : Int32), .unset, .unset, .unset]) rfl ?_
  refine ka X0 hx hby (D13 20) rfl rfl ?_
  refine st1_ _ ?_
  refine kdup X1_ hx hby (D13 22) rfl ?_
  refine ks X1_ hx hby (D13 23) (l' := #[rv o1, rv o2, rv o1, c3, iv s1, c5, iv kk, iv 1, rv o2, iv (-1 : Int32), iv (Int32.ofNat (own_tz n2)), .unset, .unset]) rfl ?_
  refine kfN X1_ hx hby (D13 24) ((if0 _ _).trans (flt ((own_MB.nn M2).1 : ¬ ((Int32.ofNat (own_tz n2)) < (0 : Int32)))).1) ?_
  refine ka X1_ hx hby (D13 25) rfl rfl ?_
  refine ki X1_ hx hby (D13 26) rfl ?_
  refine st2_ _ ?_
  refine ki X2_ hx hby (D13 28) rfl ?_
  refine kfY X2_ hx (pc0 := 113) (pc' := 122) rfl hby (D13 29) ((if0 _ _).trans (flt ((by decide) : ¬ ((0 : Int32) < (-1 : Int32)))).2.2.2) (by decide) (by decide) ?_
  refine ka X2_ hx hby (D13 34) rfl rfl ?_
  refine ktN X2_ hx hby (D13 35) rfl (l' := #[rv o1, rv o2, rv o1, c3, iv s1, c5, iv kk, iv 1, rv o2, iv (-1 : Int32), iv (Int32.ofNat (own_tz n2)), .unset, .unset]) rfl ?_
  exact k
theorem gt2 {p : Program} {l : Launch} {e : Env} {R : Room} {s : State} {m : MethodId} {args : Array Value} {below : List Frame} {meth : Method} {c : Code} {T0 : State} {locs : List Loc} {cells slots : Nat} (Z : State) (a0 : Array Value) (hw : own_W Z a0) (X0 : Stand p l e R s m args below meth c T0 locs cells slots) (hx : p.tables.exec = Jvm.exec) (hZ : Z.Warmed39 s.vm) (hby : c.code = jdk_2101_method_73_code) (hml : c.maxLocals = 13) (hown : s.vm.findClass "java/math/MutableBigInteger" = some m.cls) (o1 : Addr) (o2 : Addr) (c3 : Slot) (s1 : Int32) (c5 : Slot) (kk : Int32) (a1 : Addr) (n1 : Nat) (a2 : Addr) (n2 : Nat) (h0 : Heap) (n0 : Nat) (Z0 : n0 ≤ h0.size) (e0 : T0.heap = h0) (N0 : Fr n0 locs) (hfr : 3 ≤ R.frames) (hlo : 42 ≤ R.locals) (hce : cells + 0 ≤ R.cells) (hsl : slots + 0 ≤ R.slots) (M1 : own_MB Z h0 o1 a1 n1) (M2 : own_MB Z h0 o2 a2 n2) (n12 : o1 ≠ o2) (m12 : a1 ≠ a2) (g1 : n0 ≤ o1) (g2 : n0 ≤ a1) (g3 : n0 ≤ o2) (g4 : n0 ≤ a2) (eks : ¬ (kk = s1)) (on : n2 % 2 = 1) :
    ∃ (T' : State) (h' : Heap) (L' : List Loc), Stand p l e R s m args below meth c T' L' (cells + 0) (slots + 0) ∧ T'.heap = h' ∧ Fr n0 L' ∧ Keep h0 h' [o1, a1, o2, a2] ∧ (own_MB Z h' o1 a1 (n1 / 2 ^ (own_tz n1))) ∧ (own_MB Z h' o2 a2 (n2 / 2 ^ (own_tz n2))) ∧ ∀ t, Steps p.tables e below (T'.setTop (mkF m 125 #[rv o1, rv o2, rv o1, c3, iv s1, c5, iv kk, iv 0, rv o1, iv 1, iv (Int32.ofNat (own_tz n1)), .unset, .unset] [])) t → Steps p.tables e below (T0.setTop (mkF m 55 #[rv o1, rv o2, rv o1, c3, iv s1, c5, iv kk, .unset, .unset, .unset, .unset, .unset, .unset] [])) t := by
  obtain ⟨T1_, Lc1_, v1_, X1_, hQ1_, st1_⟩ := own_cV (y := Y14) X0 hx hZ hown (wt hw 85 rfl) (wt hw 86 rfl) (wt hw 88 rfl) (wt hw 89 rfl) (wt hw 41 rfl) (by decide) (rmLsb l Z a0 hw [] o1 a1 n1 h0 n0 Z0 M1) M1.1 e0 (pc := 95) (Ls := #[rv o1, rv o2, rv o1, c3, iv s1, c5, iv kk, iv 0, rv o1, iv 1, .unset, .unset, .unset]) (stk := [(.ref o1)]) (rest := []) (by rw [hml]; rfl) pd5 rfl rfl (W := 0) rfl hby (D13 21) (Nat.le_trans (by decide) hfr) (Nat.le_trans (by decide) hlo) (Nat.le_trans (Nat.add_le_add_left (by decide : 0 ≤ 0) cells) hce) (Nat.le_trans (Nat.add_le_add_left (by decide : 0 ≤ 0) slots) hsl)
  obtain ⟨rfl, Nq1_, ek1_⟩ := hQ1_
  have N1_ := Fr.app N0 Nq1_
  obtain ⟨T2_, Lc2_, v2_, X2_, hQ2_, st2_⟩ := own_cV (y := Y16) X1_ hx hZ hown (wt hw 95 rfl) (wt hw 97 rfl) (wt hw 98 rfl) (wt hw 99 rfl) (wt hw 41 rfl) (by decide) (rmRs l Z a0 hw [] o1 (Int32.ofNat (own_tz n1)) a1 n1 (own_tz n1) h0 n0 Z0 M1 g1 g2 rfl (own_MB.nn M1).2) M1.1 ek1_ (pc := 108) (Ls := #[rv o1, rv o2, rv o1, c3, iv s1, c5, iv kk, iv 0, rv o1, iv 1, iv (Int32.ofNat (own_tz n1)), .unset, .unset]) (stk := [(.int (Int32.ofNat (own_tz n1))), (.ref o1)]) (rest := []) (by rw [hml]; rfl) pd1 rfl rfl (W := 0) rfl hby (D13 27) (Nat.le_trans (by decide) hfr) (Nat.le_trans (by decide) hlo) (Nat.le_trans (Nat.add_le_add_left (by decide : 0 ≤ 0) cells) hce) (Nat.le_trans (Nat.add_le_add_left (by decide : 0 ≤ 0) slots) hsl)
  obtain ⟨rfl, Nq2_, ek2_, p2__0⟩ := hQ2_
  have N2_ := Fr.app N1_ Nq2_
  have f3_ := M2.keep ek2_ (ninS (Ne.symm n12) (ninS (ne_exa M2.1 M1.2.1 (by decide)) nin0)) (ninS (ne_exa M2.2.1 M1.1 (by decide)) (ninS (Ne.symm m12) nin0))
  have mo_ : own_MB Z T2_.heap o2 a2 (n2 / 2 ^ (own_tz n2)) := f3_.cast (by rw [own_tz_1 _ on]; simp)
  have k4_ := (Keep.refl h0 [o1, a1, o2, a2]).trans ek2_ (allS (own_in 0 rfl) (allS (own_in 1 rfl) all0))
  refine ⟨T2_, _, _, X2_, rfl, N2_, k4_, p2__0, mo_, fun t k => ?_⟩
  refine ki X0 hx hby (D13 36) rfl ?_
  refine ki X0 hx hby (D13 37) rfl ?_
  refine kcY X0 hx (pc0 := 59) (pc' := 66) rfl hby (D13 38) (feq (eks : ¬ (kk = s1))).2 (by decide) (by decide) ?_
  refine kc X0 hx hby (D13 52) ?_
  refine ks X0 hx hby (D13 41) (l' := #[rv o1, rv o2, rv o1, c3, iv s1, c5, iv kk, iv 0, .unset, .unset, .unset, .unset, .unset]) rfl ?_
  refine ki X0 hx hby (D13 42) rfl ?_
  refine kfY X0 hx (pc0 := 71) (pc' := 78) rfl hby (D13 43) ((if0 _ _).trans (teq ((by decide) : (0 : Int32) = (0 : Int32))).1) (by decide) (by decide) ?_
  refine kaN X0 hx hby (D13 53) rfl rfl ?_
  refine kastore X0 hx hby (D13 46) rfl (l' := #[rv o1, rv o2, rv o1, c3, iv s1, c5, iv kk, iv 0, rv o1, .unset, .unset, .unset, .unset]) rfl ?_
  refine ki X0 hx hby (D13 47) rfl ?_
  refine kfY X0 hx (pc0 := 83) (pc' := 90) rfl hby (D13 48) ((if0 _ _).trans (teq ((by decide) : (0 : Int32) = (0 : Int32))).1) (by decide) (by decide) ?_
  refine kc X0 hx hby (D13 54) ?_
  refine ks X0 hx hby (D13 51) (l' := #[rv o1, rv o2, rv o1, c3, iv s1, c5, iv kk, iv 0, rv o1, iv 1, .unset, .unset, .unset]) rfl ?_
  refine ka X0 hx hby (D13 20) rfl rfl ?_
  refine st1_ _ ?_
  refine kdup X1_ hx hby (D13 22) rfl ?_
  refine ks X1_ hx hby (D13 23) (l' := #[rv o1, rv o2, rv o1, c3, iv s1, c5, iv kk, iv 0, rv o1, iv 1, iv (Int32.ofNat (own_tz n1)), .unset, .unset]) rfl ?_
  refine kfN X1_ hx hby (D13 24) ((if0 _ _).trans (flt ((own_MB.nn M1).1 : ¬ ((Int32.ofNat (own_tz n1)) < (0 : Int32)))).1) ?_
  refine ka X1_ hx hby (D13 25) rfl rfl ?_
  refine ki X1_ hx hby (D13 26) rfl ?_
  refine st2_ _ ?_
  refine ki X2_ hx hby (D13 28) rfl ?_
  refine kfN X2_ hx hby (D13 29) ((if0 _ _).trans (tlt ((by decide) : (0 : Int32) < (1 : Int32))).2.2.2) ?_
  refine ka X2_ hx hby (D13 30) rfl rfl ?_
  refine ktN X2_ hx hby (D13 31) rfl (l' := #[rv o1, rv o2, rv o1, c3, iv s1, c5, iv kk, iv 0, rv o1, iv 1, iv (Int32.ofNat (own_tz n1)), .unset, .unset]) rfl ?_
  refine kg X2_ hx (pc0 := 119) (pc' := 125) rfl hby (D13 32) (by decide) (by decide) ?_
  exact k
theorem own_gt {p : Program} {l : Launch} {e : Env} {R : Room} {s : State} {m : MethodId} {args : Array Value} {below : List Frame} {meth : Method} {c : Code} {T0 : State} {locs : List Loc} {cells slots : Nat} (Z : State) (a0 : Array Value) (hw : own_W Z a0) (X0 : Stand p l e R s m args below meth c T0 locs cells slots) (hx : p.tables.exec = Jvm.exec) (hZ : Z.Warmed39 s.vm) (hby : c.code = jdk_2101_method_73_code) (hml : c.maxLocals = 13) (hown : s.vm.findClass "java/math/MutableBigInteger" = some m.cls) (o1 : Addr) (o2 : Addr) (c3 : Slot) (s1 : Int32) (c5 : Slot) (kk : Int32) (a1 : Addr) (n1 : Nat) (a2 : Addr) (n2 : Nat) (h0 : Heap) (n0 : Nat) (Z0 : n0 ≤ h0.size) (e0 : T0.heap = h0) (N0 : Fr n0 locs) (hfr : 3 ≤ R.frames) (hlo : 42 ≤ R.locals) (hce : cells + 0 ≤ R.cells) (hsl : slots + 0 ≤ R.slots) (M1 : own_MB Z h0 o1 a1 n1) (M2 : own_MB Z h0 o2 a2 n2) (n12 : o1 ≠ o2) (m12 : a1 ≠ a2) (g1 : n0 ≤ o1) (g2 : n0 ≤ a1) (g3 : n0 ≤ o2) (g4 : n0 ≤ a2) (o12 : (kk = s1 → n1 % 2 = 1) ∧ (¬ (kk = s1) → n2 % 2 = 1)) :
    ∃ (T' : State) (h' : Heap) (L' : List Loc) (d7 : Int32) (d8 : Addr) (d9 : Int32) (d10 : Int32), Stand p l e R s m args below meth c T' L' (cells + 0) (slots + 0) ∧ T'.heap = h' ∧ Fr n0 L' ∧ Keep h0 h' [o1, a1, o2, a2] ∧ (own_MB Z h' o1 a1 (n1 / 2 ^ (own_tz n1))) ∧ (own_MB Z h' o2 a2 (n2 / 2 ^ (own_tz n2))) ∧ ∀ t, Steps p.tables e below (T'.setTop (mkF m 125 #[rv o1, rv o2, rv o1, c3, iv s1, c5, iv kk, iv d7, rv d8, iv d9, iv d10, .unset, .unset] [])) t → Steps p.tables e below (T0.setTop (mkF m 55 #[rv o1, rv o2, rv o1, c3, iv s1, c5, iv kk, .unset, .unset, .unset, .unset, .unset, .unset] [])) t := by
  by_cases c1 : kk = s1
  · obtain ⟨T', h', L', X', e', N', K', r1, r2, st⟩ := gt1 Z a0 hw X0 hx hZ hby hml hown o1 o2 c3 s1 c5 kk a1 n1 a2 n2 h0 n0 Z0 e0 N0 (Nat.le_trans (by decide) hfr) (Nat.le_trans (by decide) hlo) hce hsl M1 M2 n12 m12 g1 g2 g3 g4 c1 (o12.1 c1)
    exact ⟨T', h', L', _, _, _, _, X', e', N', K', r1, r2, st⟩
  · obtain ⟨T', h', L', X', e', N', K', r1, r2, st⟩ := gt2 Z a0 hw X0 hx hZ hby hml hown o1 o2 c3 s1 c5 kk a1 n1 a2 n2 h0 n0 Z0 e0 N0 (Nat.le_trans (by decide) hfr) (Nat.le_trans (by decide) hlo) hce hsl M1 M2 n12 m12 g1 g2 g3 g4 c1 (o12.2 c1)
    exact ⟨T', h', L', _, _, _, _, X', e', N', K', r1, r2, st⟩

theorem pd6 : parseMethodDescriptor "(II)I" = some ⟨[.int, .int], some .int⟩ := by decide +kernel
def Q_rmGC (Z : State) (o1 : Addr) (o2 : Addr) (a1 : Addr) (n1 : Nat) (a2 : Addr) (n2 : Nat) (h0 : Heap) (n0 : Nat) (v : Option Value) (h : Heap) (L : List Loc) : Prop := ∃ (r1 : Addr) (t1 : Addr), v = some (.ref r1) ∧ Fr n0 L ∧ Keep h0 h [o1, a1, o2, a2] ∧ (own_MB Z h r1 t1 (Nat.gcd n1 n2)) ∧ (h0.size ≤ r1) ∧ (h0.size ≤ t1)
abbrev Y13 : MethodName := ⟨"java/math/MutableBigInteger", "binaryGCD", "(Ljava/math/MutableBigInteger;)Ljava/math/MutableBigInteger;"⟩
theorem ef13_RR (m : MethodId) (x0 : Addr) (x1 : Addr) : entryFrame m #[(.ref x0), (.ref x1)] 13 = mkF m 0 #[rv x0, rv x1, .unset, .unset, .unset, .unset, .unset, .unset, .unset, .unset, .unset, .unset, .unset] [] := by first | (simp [entryFrame, mkF, argsToLocals, Value.category]; done) | rfl
theorem gcZ (l : Launch) (Z : State) (a0 : Array Value) (hw : own_W Z a0) (ws : List Jvm.Cond) (o1 : Addr) (o2 : Addr) (a1 : Addr) (n1 : Nat) (a2 : Addr) (n2 : Nat) (kk : Int32) (h0 : Heap) (n0 : Nat) (Z0 : n0 ≤ h0.size) (M1 : own_MB Z h0 o1 a1 n1) (M2 : own_MB Z h0 o2 a2 n2) (n12 : o1 ≠ o2) (m12 : a1 ≠ a2) (g1 : n0 ≤ o1) (g2 : n0 ≤ a1) (g3 : n0 ≤ o2) (g4 : n0 ≤ a2) (gb : Nat.gcd n1 n2 < 4294967296) (k0 : kk = (0 : Int32)) (o12 : (kk = (Int32.ofNat (own_tz n1)) → n1 % 2 = 1) ∧ (¬ (kk = (Int32.ofNat (own_tz n1))) → n2 % 2 = 1)) (hgg : Nat.gcd n1 n2 = Nat.gcd (n1 / 2 ^ (own_tz n1)) (n2 / 2 ^ (own_tz n2))) (hkk : kk = if (Int32.ofNat (own_tz n1)) < (Int32.ofNat (own_tz n2)) then (Int32.ofNat (own_tz n1)) else (Int32.ofNat (own_tz n2))) : own_Met l Y13 jdk_2101_method_73_code 13 (some (.object "java/math/MutableBigInteger")) ⟨3, 2, 4, 45⟩ ws #[(.ref o1), (.ref o2)] Z h0 (Q_rmGC Z o1 o2 a1 n1 a2 n2 h0 n0) := by
 refine own_go (plainFor_of_name pn_java_math_MutableBigInteger) (fun m => ef13_RR m o1 o2) fun p e s m below meth c s₁ hx hby hml hown hnm hret hZ e0 X0 => ?_
 have N0 := Fr.nil n0
 obtain ⟨T1_, h1_, X1_, e1_, E1_, A1_, D1_, U1_, st1_⟩ := newO X0 hx hZ hown (wt hw 72 rfl) (wt hw 40 rfl) (wt hw 41 rfl) e0 (g := (mkF m 2 #[rv o1, rv o2, rv o1, .unset, .unset, .unset, .unset, .unset, .unset, .unset, .unset, .unset, .unset] [])) rfl (hb hby (D13 57)) (by exact own_b rfl) (by exact own_b rfl)
 obtain ⟨b1_, g1_⟩ : ∃ z, z = h0.size := ⟨_, rfl⟩
 rw [← g1_] at A1_ D1_ U1_ st1_
 have F1__offset : Fld Z h1_ b1_ "java/math/MutableBigInteger" "offset" "I" (.int 0) := D1_ (Or.inl (wt hw 48 rfl)) (ty := .int) (by decide)
 have F1__intLen : Fld Z h1_ b1_ "java/math/MutableBigInteger" "intLen" "I" (.int 0) := D1_ (Or.inl (wt hw 51 rfl)) (ty := .int) (by decide)
 have F1__value : Fld Z h1_ b1_ "java/math/MutableBigInteger" "value" "[I" .null := D1_ (Or.inl (wt hw 66 rfl)) (ty := (.array .int)) (by decide)
 have g3_ : n0 ≤ b1_ := Nat.le_trans Z0 (Nat.le_of_eq g1_.symm)
 have z4_ : n0 ≤ h1_.size := Nat.le_trans Z0 E1_.1
 obtain ⟨T2_, Lc2_, v2_, X2_, hQ2_, st2_⟩ := own_cI (y := Y11) X1_ hx hZ hown (wt hw 73 rfl) (wt hw 74 rfl) (wt hw 75 rfl) (wt hw 41 rfl) rfl (by decide) (rmM0 l Z a0 hw [] b1_ h1_ n0 z4_ A1_ F1__value F1__intLen F1__offset g3_) e1_ (pc := 6) (Ls := #[rv o1, rv o2, rv o1, .unset, .unset, .unset, .unset, .unset, .unset, .unset, .unset, .unset, .unset]) (stk := [(.ref b1_), (.ref b1_)]) (rest := [(.ref b1_)]) (by rw [hml]; rfl) pd3 rfl rfl (W := 1) rfl hby (D13 59) (by decide) (by decide) (by exact own_b rfl) (by exact own_b rfl)
 obtain ⟨t1_2_, k1_2_, rfl, Nq2_, ek2_, p2__0, p2__1, p2__2, p2__3, p2__4, p2__5⟩ := hQ2_
 have N2_ := Fr.app N0 Nq2_
 have f6_ := (M1.ext E1_).keep ek2_ (ninS (Nat.ne_of_lt (Nat.lt_of_lt_of_le M1.1.lt (Nat.le_of_eq g1_.symm))) nin0) (ninS (Nat.ne_of_lt (Nat.lt_of_lt_of_le M1.2.1.lt (Nat.le_of_eq g1_.symm))) nin0)
 have z7_ : n0 ≤ T2_.heap.size := Nat.le_trans z4_ ek2_.1
 have f8_ := (M1.1.ext E1_).keep ek2_
 obtain ⟨T5_, Lc5_, v5_, X5_, hQ5_, st5_⟩ := own_cV (y := Y14) X2_ hx hZ hown (wt hw 85 rfl) (wt hw 86 rfl) (wt hw 88 rfl) (wt hw 89 rfl) (wt hw 41 rfl) (by decide) (rmLsb l Z a0 hw [] o1 a1 n1 T2_.heap n0 z7_ f6_) f8_ rfl (pc := 11) (Ls := #[rv o1, rv o2, rv o1, rv b1_, .unset, .unset, .unset, .unset, .unset, .unset, .unset, .unset, .unset]) (stk := [(.ref o1)]) (rest := []) (by rw [hml]; rfl) pd5 rfl rfl (W := 0) rfl hby (D13 62) (by decide) (by decide) (by exact own_b rfl) (by exact own_b rfl)
 obtain ⟨rfl, Nq5_, ek5_⟩ := hQ5_
 have N5_ := Fr.app N2_ Nq5_
 have f10_ := (M2.ext E1_).keep ek2_ (ninS (Nat.ne_of_lt (Nat.lt_of_lt_of_le M2.1.lt (Nat.le_of_eq g1_.symm))) nin0) (ninS (Nat.ne_of_lt (Nat.lt_of_lt_of_le M2.2.1.lt (Nat.le_of_eq g1_.symm))) nin0)
 have f11_ := (M2.1.ext E1_).keep ek2_
 obtain ⟨T9_, Lc9_, v9_, X9_, hQ9_, st9_⟩ := own_cV (y := Y14) X5_ hx hZ hown (wt hw 85 rfl) (wt hw 86 rfl) (wt hw 88 rfl) (wt hw 89 rfl) (wt hw 41 rfl) (by decide) (rmLsb l Z a0 hw [] o2 a2 n2 T2_.heap n0 z7_ f10_) f11_ ek5_ (pc := 17) (Ls := #[rv o1, rv o2, rv o1, rv b1_, iv (Int32.ofNat (own_tz n1)), .unset, .unset, .unset, .unset, .unset, .unset, .unset, .unset]) (stk := [(.ref o2)]) (rest := []) (by rw [hml]; rfl) pd5 rfl rfl (W := 0) rfl hby (D13 65) (by decide) (by decide) (by exact own_b rfl) (by exact own_b rfl)
 obtain ⟨rfl, Nq9_, ek9_⟩ := hQ9_
 have N9_ := Fr.app N5_ Nq9_
 obtain ⟨T13_, h13_, L13_, d7_13_, d8_13_, d9_13_, d10_13_, X13_, e13_, N13_, K13_, p13_0, p13_1, st13_⟩ := own_gt Z a0 hw X9_ hx hZ hby hml hown o1 o2 (rv b1_) (Int32.ofNat (own_tz n1)) (iv (Int32.ofNat (own_tz n2))) kk a1 n1 a2 n2 T2_.heap n0 z7_ ek9_ N9_ (by decide) (by decide) (by exact own_b rfl) (by exact own_b rfl) f6_ f10_ n12 m12 g1 g2 g3 g4 o12
 have z15_ : n0 ≤ h13_.size := Nat.le_trans z7_ K13_.1
 obtain ⟨T14_, h14_, L14_, u1_14_, u2_14_, d8_14_, d9_14_, d10_14_, X14_, e14_, N14_, K14_, p14_0, p14_1, p14_2, p14_3, p14_4, p14_5, p14_6, st14_⟩ := own_gl Z a0 hw X13_ hx hZ hby hml hown o1 o2 a1 a2 ((n1 / 2 ^ (own_tz n1)) + (n2 / 2 ^ (own_tz n2))) (rv b1_) (iv (Int32.ofNat (own_tz n1))) (iv (Int32.ofNat (own_tz n2))) (iv kk) d7_13_ d8_13_ d9_13_ d10_13_ (n1 / 2 ^ (own_tz n1)) (n2 / 2 ^ (own_tz n2)) h13_ n0 z15_ e13_ N13_ (by decide) (by decide) (by exact own_b rfl) (by exact own_b rfl) n12 m12 g1 g2 g3 g4 p13_0 p13_1 (Nat.le_refl _) (own_step_odd (own_MB.nz M1)) (own_step_odd (own_MB.nz M2)) (by rw [hgg] at gb; exact gb)
 obtain ⟨k3, z3, vs3, j3, x3, S3, xB3, eu3⟩ := p14_0.dB p14_4
 obtain ⟨k4, z4, vs4, j4, x4, S4, xB4, eu4⟩ := p14_1.dB p14_5
 obtain ⟨T16_, X16_, e16_, st16_⟩ := own_gN (pc := 125) (Ls := #[rv o1, rv o2, rv o1, rv b1_, iv (Int32.ofNat (own_tz n1)), iv (Int32.ofNat (own_tz n2)), iv kk, iv d7_13_, rv d8_14_, iv d9_14_, iv d10_14_, .unset, .unset]) (stk := []) X14_ hx hZ hown (wt hw 50 rfl) e14_ S3.2.2.2.1 hby (D13 0) (D13 1) rfl
 obtain ⟨T17_, X17_, e17_, st17_⟩ := own_gN (pc := 133) (Ls := #[rv o1, rv o2, rv o1, rv b1_, iv (Int32.ofNat (own_tz n1)), iv (Int32.ofNat (own_tz n2)), iv kk, iv d7_13_, rv d8_14_, iv d9_14_, iv d10_14_, .unset, .unset]) (stk := []) X16_ hx hZ hown (wt hw 50 rfl) e16_ S4.2.2.2.1 hby (D13 4) (D13 5) rfl
 obtain ⟨T18_, X18_, e18_, st18_⟩ := own_gN (pc := 141) (Ls := #[rv o1, rv o2, rv o1, rv b1_, iv (Int32.ofNat (own_tz n1)), iv (Int32.ofNat (own_tz n2)), iv kk, iv d7_13_, rv d8_14_, iv d9_14_, iv d10_14_, .unset, .unset]) (stk := []) X17_ hx hZ hown (wt hw 65 rfl) e17_ S3.2.2.1 hby (D13 76) (D13 77) rfl
 obtain ⟨T19_, X19_, e19_, st19_⟩ := own_gN (pc := 145) (Ls := #[rv o1, rv o2, rv o1, rv b1_, iv (Int32.ofNat (own_tz n1)), iv (Int32.ofNat (own_tz n2)), iv kk, iv d7_13_, rv d8_14_, iv d9_14_, iv d10_14_, .unset, .unset]) (stk := [(.ref a1)]) X18_ hx hZ hown (wt hw 47 rfl) e18_ S3.2.2.2.2.1 hby (D13 78) (D13 79) rfl
 obtain ⟨T20_, X20_, e20_, st20_⟩ := own_gN (pc := 152) (Ls := #[rv o1, rv o2, rv o1, rv b1_, iv (Int32.ofNat (own_tz n1)), iv (Int32.ofNat (own_tz n2)), iv kk, iv d7_13_, rv d8_14_, iv d9_14_, iv d10_14_, iv x3, .unset]) (stk := []) X19_ hx hZ hown (wt hw 65 rfl) e19_ S4.2.2.1 hby (D13 82) (D13 83) rfl
 obtain ⟨T21_, X21_, e21_, st21_⟩ := own_gN (pc := 156) (Ls := #[rv o1, rv o2, rv o1, rv b1_, iv (Int32.ofNat (own_tz n1)), iv (Int32.ofNat (own_tz n2)), iv kk, iv d7_13_, rv d8_14_, iv d9_14_, iv d10_14_, iv x3, .unset]) (stk := [(.ref a2)]) X20_ hx hZ hown (wt hw 47 rfl) e20_ S4.2.2.2.2.1 hby (D13 84) (D13 85) rfl
 have z23_ : n0 ≤ h14_.size := Nat.le_trans z15_ K14_.1
 obtain ⟨T22_, Lc22_, v22_, X22_, hQ22_, st22_⟩ := own_cS (y := Y20) X21_ hx hZ hown (wt hw 111 rfl) (wt hw 112 rfl) (wt hw 113 rfl) (wt hw 41 rfl) (by decide) (rmBg l Z a0 hw [] x3 x4 h14_ n0 z23_ (by rw [eu3]; exact p14_2) (by rw [eu4]; exact p14_3)) e21_ (pc := 167) (Ls := #[rv o1, rv o2, rv o1, rv b1_, iv (Int32.ofNat (own_tz n1)), iv (Int32.ofNat (own_tz n2)), iv kk, iv d7_13_, rv d8_14_, iv d9_14_, iv d10_14_, iv x3, iv x4]) (stk := [(.int x4), (.int x3)]) (rest := []) (by rw [hml]; rfl) pd6 rfl rfl (W := 0) rfl hby (D13 90) (by decide) (by decide) (by exact own_b rfl) (by exact own_b rfl)
 obtain ⟨r1_22_, rfl, Nq22_, ek22_, p22__0⟩ := hQ22_
 have N22_ := Fr.app N14_ Nq22_
 have f24_ := (p2__0.keep K13_ (ninS (Ne.symm (Nat.ne_of_lt (Nat.lt_of_lt_of_le M1.1.lt (Nat.le_of_eq g1_.symm)))) (ninS (Ne.symm (Nat.ne_of_lt (Nat.lt_of_lt_of_le M1.2.1.lt (Nat.le_of_eq g1_.symm)))) (ninS (Ne.symm (Nat.ne_of_lt (Nat.lt_of_lt_of_le M2.1.lt (Nat.le_of_eq g1_.symm)))) (ninS (Ne.symm (Nat.ne_of_lt (Nat.lt_of_lt_of_le M2.2.1.lt (Nat.le_of_eq g1_.symm)))) nin0))))).keep K14_ (ninS (Ne.symm (Nat.ne_of_lt (Nat.lt_of_lt_of_le M1.1.lt (Nat.le_of_eq g1_.symm)))) (ninS (Ne.symm (Nat.ne_of_lt (Nat.lt_of_lt_of_le M1.2.1.lt (Nat.le_of_eq g1_.symm)))) (ninS (Ne.symm (Nat.ne_of_lt (Nat.lt_of_lt_of_le M2.1.lt (Nat.le_of_eq g1_.symm)))) (ninS (Ne.symm (Nat.ne_of_lt (Nat.lt_of_lt_of_le M2.2.1.lt (Nat.le_of_eq g1_.symm)))) nin0))))
 obtain ⟨T25_, X25_, e25_, st25_⟩ := own_gN (pc := 172) (Ls := #[rv o1, rv o2, rv o1, rv b1_, iv (Int32.ofNat (own_tz n1)), iv (Int32.ofNat (own_tz n2)), iv kk, iv d7_13_, rv d8_14_, iv d9_14_, iv d10_14_, iv r1_22_, iv x4]) (stk := []) X22_ hx hZ hown (wt hw 65 rfl) ek22_ f24_ hby (D13 92) (D13 93) rfl
 have f26_ := (p2__4.keep K13_ (ninS (Ne.symm (Nat.ne_of_lt (Nat.lt_of_lt_of_le (M1.1.ext E1_).lt p2__5))) (ninS (Ne.symm (Nat.ne_of_lt (Nat.lt_of_lt_of_le (M1.2.1.ext E1_).lt p2__5))) (ninS (Ne.symm (Nat.ne_of_lt (Nat.lt_of_lt_of_le (M2.1.ext E1_).lt p2__5))) (ninS (Ne.symm (Nat.ne_of_lt (Nat.lt_of_lt_of_le (M2.2.1.ext E1_).lt p2__5))) nin0))))).keep K14_ (ninS (Ne.symm (Nat.ne_of_lt (Nat.lt_of_lt_of_le (M1.1.ext E1_).lt p2__5))) (ninS (Ne.symm (Nat.ne_of_lt (Nat.lt_of_lt_of_le (M1.2.1.ext E1_).lt p2__5))) (ninS (Ne.symm (Nat.ne_of_lt (Nat.lt_of_lt_of_le (M2.1.ext E1_).lt p2__5))) (ninS (Ne.symm (Nat.ne_of_lt (Nat.lt_of_lt_of_le (M2.2.1.ext E1_).lt p2__5))) nin0))))
 have g28_ : n0 ≤ t1_2_ := Nat.le_trans z4_ p2__5
 obtain ⟨T27_, h27_, X27_, e27_, W27_, v27_, N27_, st27_⟩ := own_si (pc := 179) (Ls := #[rv o1, rv o2, rv o1, rv b1_, iv (Int32.ofNat (own_tz n1)), iv (Int32.ofNat (own_tz n2)), iv kk, iv d7_13_, rv d8_14_, iv d9_14_, iv d10_14_, iv r1_22_, iv x4]) (stk := [(.int r1_22_), (.int 0), (.ref t1_2_)]) X25_ hx hZ e25_ f26_ ⟨by decide, by decide⟩ 0 rfl (Nat.le_of_ble_eq_true rfl) N22_ g28_ hby (D13 96) rfl
 have f29_ := (((A1_.keep ek2_).keep K13_).keep K14_).wr W27_
 have f30_ := ((p2__1.keep K13_ (ninS (Ne.symm (Nat.ne_of_lt (Nat.lt_of_lt_of_le M1.1.lt (Nat.le_of_eq g1_.symm)))) (ninS (Ne.symm (Nat.ne_of_lt (Nat.lt_of_lt_of_le M1.2.1.lt (Nat.le_of_eq g1_.symm)))) (ninS (Ne.symm (Nat.ne_of_lt (Nat.lt_of_lt_of_le M2.1.lt (Nat.le_of_eq g1_.symm)))) (ninS (Ne.symm (Nat.ne_of_lt (Nat.lt_of_lt_of_le M2.2.1.lt (Nat.le_of_eq g1_.symm)))) nin0))))).keep K14_ (ninS (Ne.symm (Nat.ne_of_lt (Nat.lt_of_lt_of_le M1.1.lt (Nat.le_of_eq g1_.symm)))) (ninS (Ne.symm (Nat.ne_of_lt (Nat.lt_of_lt_of_le M1.2.1.lt (Nat.le_of_eq g1_.symm)))) (ninS (Ne.symm (Nat.ne_of_lt (Nat.lt_of_lt_of_le M2.1.lt (Nat.le_of_eq g1_.symm)))) (ninS (Ne.symm (Nat.ne_of_lt (Nat.lt_of_lt_of_le M2.2.1.lt (Nat.le_of_eq g1_.symm)))) nin0))))).other W27_ (Or.inl (Nat.ne_of_lt (Nat.lt_of_lt_of_le A1_.lt p2__5)))
 obtain ⟨T31_, h31_, X31_, e31_, W31_, w31_, N31_, st31_⟩ := own_pf (pc := 182) (Ls := #[rv o1, rv o2, rv o1, rv b1_, iv (Int32.ofNat (own_tz n1)), iv (Int32.ofNat (own_tz n2)), iv kk, iv d7_13_, rv d8_14_, iv d9_14_, iv d10_14_, iv r1_22_, iv x4]) (stk := [(.int 1), (.ref b1_)]) X27_ hx hZ hown (wt hw 50 rfl) e27_ f30_ f29_ (Or.inl (wt hw 51 rfl)) (wt hw 40 rfl) (ty := .int) (by decide) rfl rfl N27_ g3_ hby (D13 99) rfl
 have f32_ := f29_.wr W31_
 have f33_ := (((p2__2.keep K13_ (ninS (Ne.symm (Nat.ne_of_lt (Nat.lt_of_lt_of_le M1.1.lt (Nat.le_of_eq g1_.symm)))) (ninS (Ne.symm (Nat.ne_of_lt (Nat.lt_of_lt_of_le M1.2.1.lt (Nat.le_of_eq g1_.symm)))) (ninS (Ne.symm (Nat.ne_of_lt (Nat.lt_of_lt_of_le M2.1.lt (Nat.le_of_eq g1_.symm)))) (ninS (Ne.symm (Nat.ne_of_lt (Nat.lt_of_lt_of_le M2.2.1.lt (Nat.le_of_eq g1_.symm)))) nin0))))).keep K14_ (ninS (Ne.symm (Nat.ne_of_lt (Nat.lt_of_lt_of_le M1.1.lt (Nat.le_of_eq g1_.symm)))) (ninS (Ne.symm (Nat.ne_of_lt (Nat.lt_of_lt_of_le M1.2.1.lt (Nat.le_of_eq g1_.symm)))) (ninS (Ne.symm (Nat.ne_of_lt (Nat.lt_of_lt_of_le M2.1.lt (Nat.le_of_eq g1_.symm)))) (ninS (Ne.symm (Nat.ne_of_lt (Nat.lt_of_lt_of_le M2.2.1.lt (Nat.le_of_eq g1_.symm)))) nin0))))).other W27_ (Or.inl (Nat.ne_of_lt (Nat.lt_of_lt_of_le A1_.lt p2__5)))).other W31_ (Or.inr (slot_ne (Or.inl (wt hw 48 rfl)) (Or.inl (wt hw 51 rfl)) (by decide) (t := .int) (t' := .int) (by decide) (by decide)))
 obtain ⟨T34_, h34_, X34_, e34_, W34_, w34_, N34_, st34_⟩ := own_pf (pc := 187) (Ls := #[rv o1, rv o2, rv o1, rv b1_, iv (Int32.ofNat (own_tz n1)), iv (Int32.ofNat (own_tz n2)), iv kk, iv d7_13_, rv d8_14_, iv d9_14_, iv d10_14_, iv r1_22_, iv x4]) (stk := [(.int 0), (.ref b1_)]) X31_ hx hZ hown (wt hw 47 rfl) e31_ f33_ f32_ (Or.inl (wt hw 48 rfl)) (wt hw 40 rfl) (ty := .int) (by decide) rfl rfl N31_ g3_ hby (D13 102) rfl
 have eg_ : Nat.gcd n1 n2 = own_u r1_22_ := by rw [hgg, p22__0, eu3, eu4, p14_6]
 have gz_ : Nat.gcd n1 n2 ≠ 0 := fun q_ => own_MB.nz M1 (Nat.eq_zero_of_gcd_eq_zero_left q_)
 have f35_ := f32_.wr W34_
 have f36_ := ((((p2__3.keep K13_).keep K14_).wr W27_).wr W31_).wr W34_
 have f37_ := ((f24_.other W27_ (Or.inl (Nat.ne_of_lt (Nat.lt_of_lt_of_le A1_.lt p2__5)))).other W31_ (Or.inr (slot_ne (Or.inl (wt hw 66 rfl)) (Or.inl (wt hw 51 rfl)) (by decide) (t := (.array .int)) (t' := .int) (by decide) (by decide)))).other W34_ (Or.inr (slot_ne (Or.inl (wt hw 66 rfl)) (Or.inl (wt hw 48 rfl)) (by decide) (t := (.array .int)) (t' := .int) (by decide) (by decide)))
 have f38_ := w31_.other W34_ (Or.inr (slot_ne (Or.inl (wt hw 51 rfl)) (Or.inl (wt hw 48 rfl)) (by decide) (t := .int) (t' := .int) (by decide) (by decide)))
 have f39_ := (v27_.other W31_ (Ne.symm (Nat.ne_of_lt (Nat.lt_of_lt_of_le A1_.lt p2__5)))).other W34_ (Ne.symm (Nat.ne_of_lt (Nat.lt_of_lt_of_le A1_.lt p2__5)))
 have mb_ : own_MB Z h34_ b1_ t1_2_ (Nat.gcd n1 n2) := own_MB.mkB ⟨f35_, f36_, f37_, f38_, w34_, f39_⟩ (Or.inl ⟨rfl, rfl, rfl⟩) eg_.symm gz_
 have k40_ := (Keep.refl h0 [o1, a1, o2, a2]).ext E1_
 have k41_ := k40_.trans ek2_ (allS (Or.inr (Nat.le_trans (Keep.refl h0 [o1, a1, o2, a2]).1 (Nat.le_of_eq g1_.symm))) all0)
 have k42_ := k41_.trans K13_ (allS (own_in 0 rfl) (allS (own_in 1 rfl) (allS (own_in 2 rfl) (allS (own_in 3 rfl) all0))))
 have k43_ := k42_.trans K14_ (allS (own_in 0 rfl) (allS (own_in 1 rfl) (allS (own_in 2 rfl) (allS (own_in 3 rfl) all0))))
 have k44_ := k43_.wr W27_ (Or.inr (Nat.le_trans k40_.1 p2__5))
 have k45_ := k44_.wr W31_ (Or.inr (Nat.le_trans (Keep.refl h0 [o1, a1, o2, a2]).1 (Nat.le_of_eq g1_.symm)))
 have k46_ := k45_.wr W34_ (Or.inr (Nat.le_trans (Keep.refl h0 [o1, a1, o2, a2]).1 (Nat.le_of_eq g1_.symm)))
 refine ⟨_, _, _, _, some (.ref b1_), X34_, (by exact own_b rfl), (by exact own_b rfl), nofun, (by show Q_rmGC Z o1 o2 a1 n1 a2 n2 h0 n0 _ T34_.heap _; rw [e34_]; exact ⟨b1_, t1_2_, rfl, N34_, k46_, mb_, (Nat.le_trans (Keep.refl h0 [o1, a1, o2, a2]).1 (Nat.le_of_eq g1_.symm)), (Nat.le_trans k40_.1 p2__5)⟩), fun fs hr => ?_⟩
 refine kaN X0 hx hby (D13 55) rfl rfl ?_
 refine ktN X0 hx hby (D13 56) rfl (l' := #[rv o1, rv o2, rv o1, .unset, .unset, .unset, .unset, .unset, .unset, .unset, .unset, .unset, .unset]) rfl ?_
 show Steps p.tables e below (s₁.setTop (mkF m 2 #[rv o1, rv o2, rv o1, .unset, .unset, .unset, .unset, .unset, .unset, .unset, .unset, .unset, .unset] [])) _
 refine st1_ _ ?_
 show Steps p.tables e below (T1_.setTop (mkF m 5 #[rv o1, rv o2, rv o1, .unset, .unset, .unset, .unset, .unset, .unset, .unset, .unset, .unset, .unset] [(.ref b1_)])) _
 refine kdup X1_ hx hby (D13 58) rfl ?_
 refine st2_ _ ?_
 refine ktN X2_ hx hby (D13 60) rfl (l' := #[rv o1, rv o2, rv o1, rv b1_, .unset, .unset, .unset, .unset, .unset, .unset, .unset, .unset, .unset]) rfl ?_
 refine kaN X2_ hx hby (D13 61) rfl rfl ?_
 refine st5_ _ ?_
 refine ks X5_ hx hby (D13 63) (l' := #[rv o1, rv o2, rv o1, rv b1_, iv (Int32.ofNat (own_tz n1)), .unset, .unset, .unset, .unset, .unset, .unset, .unset, .unset]) rfl ?_
 refine kaN X5_ hx hby (D13 64) rfl rfl ?_
 refine st9_ _ ?_
 refine ks X9_ hx hby (D13 66) (l' := #[rv o1, rv o2, rv o1, rv b1_, iv (Int32.ofNat (own_tz n1)), iv (Int32.ofNat (own_tz n2)), .unset, .unset, .unset, .unset, .unset, .unset, .unset]) rfl ?_
 refine ki X9_ hx hby (D13 67) rfl ?_
 refine ki X9_ hx hby (D13 68) rfl ?_
 have br12_ : ∀ t, Steps p.tables e below (T9_.setTop (mkF m 36 #[rv o1, rv o2, rv o1, rv b1_, iv (Int32.ofNat (own_tz n1)), iv (Int32.ofNat (own_tz n2)), .unset, .unset, .unset, .unset, .unset, .unset, .unset] [(.int kk)])) t → Steps p.tables e below (T9_.setTop (mkF m 26 #[rv o1, rv o2, rv o1, rv b1_, iv (Int32.ofNat (own_tz n1)), iv (Int32.ofNat (own_tz n2)), .unset, .unset, .unset, .unset, .unset, .unset, .unset] [(.int (Int32.ofNat (own_tz n2))), (.int (Int32.ofNat (own_tz n1)))])) t := by
   intro t k
   by_cases hcd : (Int32.ofNat (own_tz n1)) < (Int32.ofNat (own_tz n2))
   · refine kcN X9_ hx hby (D13 69) (tlt (hcd : (Int32.ofNat (own_tz n1)) < (Int32.ofNat (own_tz n2)))).2.1 ?_
     refine ki X9_ hx hby (D13 71) rfl ?_
     refine kg X9_ hx (pc0 := 31) (pc' := 36) rfl hby (D13 72) (by decide) (by decide) ?_
     rw [hkk, if_pos hcd] at k
     exact k
   · refine kcY X9_ hx (pc0 := 26) (pc' := 34) rfl hby (D13 69) (flt (hcd : ¬ ((Int32.ofNat (own_tz n1)) < (Int32.ofNat (own_tz n2))))).2.1 (by decide) (by decide) ?_
     refine ki X9_ hx hby (D13 70) rfl ?_
     rw [hkk, if_neg hcd] at k
     exact k
 refine br12_ _ ?_
 refine ks X9_ hx hby (D13 73) (l' := #[rv o1, rv o2, rv o1, rv b1_, iv (Int32.ofNat (own_tz n1)), iv (Int32.ofNat (own_tz n2)), iv kk, .unset, .unset, .unset, .unset, .unset, .unset]) rfl ?_
 refine ki X9_ hx hby (D13 74) rfl ?_
 refine kfY X9_ hx (pc0 := 40) (pc' := 55) rfl hby (D13 75) ((if0 _ _).trans (teq (k0 : kk = (0 : Int32))).1) (by decide) (by decide) ?_
 refine st13_ _ ?_
 refine st14_ _ ?_
 refine st16_ _ ?_
 refine kc X16_ hx hby (D13 2) ?_
 refine kcN X16_ hx hby (D13 3) (tlt ((by decide) : (1 : Int32) < (2 : Int32))).2.1 ?_
 refine st17_ _ ?_
 refine kc X17_ hx hby (D13 6) ?_
 refine kcN X17_ hx hby (D13 7) (tlt ((by decide) : (1 : Int32) < (2 : Int32))).2.1 ?_
 refine st18_ _ ?_
 refine st19_ _ ?_
 refine own_ia X19_ hx hZ e19_ S3.2.2.2.2.2 (by exact (own_B.at xB3).1) (by exact (own_B.at xB3).2.1) hby (D13 80) ?_
 refine ks X19_ hx hby (D13 81) (l' := #[rv o1, rv o2, rv o1, rv b1_, iv (Int32.ofNat (own_tz n1)), iv (Int32.ofNat (own_tz n2)), iv kk, iv d7_13_, rv d8_14_, iv d9_14_, iv d10_14_, iv x3, .unset]) rfl ?_
 refine st20_ _ ?_
 refine st21_ _ ?_
 refine own_ia X21_ hx hZ e21_ S4.2.2.2.2.2 (by exact (own_B.at xB4).1) (by exact (own_B.at xB4).2.1) hby (D13 86) ?_
 refine ks X21_ hx hby (D13 87) (l' := #[rv o1, rv o2, rv o1, rv b1_, iv (Int32.ofNat (own_tz n1)), iv (Int32.ofNat (own_tz n2)), iv kk, iv d7_13_, rv d8_14_, iv d9_14_, iv d10_14_, iv x3, iv x4]) rfl ?_
 refine ki X21_ hx hby (D13 88) rfl ?_
 refine ki X21_ hx hby (D13 89) rfl ?_
 refine st22_ _ ?_
 refine ks X22_ hx hby (D13 91) (l' := #[rv o1, rv o2, rv o1, rv b1_, iv (Int32.ofNat (own_tz n1)), iv (Int32.ofNat (own_tz n2)), iv kk, iv d7_13_, rv d8_14_, iv d9_14_, iv d10_14_, iv r1_22_, iv x4]) rfl ?_
 refine st25_ _ ?_
 refine kc X25_ hx hby (D13 94) ?_
 refine ki X25_ hx hby (D13 95) rfl ?_
 refine st27_ _ ?_
 refine kaN X27_ hx hby (D13 97) rfl rfl ?_
 refine kc X27_ hx hby (D13 98) ?_
 refine st31_ _ ?_
 refine kaN X31_ hx hby (D13 100) rfl rfl ?_
 refine kc X31_ hx hby (D13 101) ?_
 refine st34_ _ ?_
 refine ki X34_ hx hby (D13 103) rfl ?_
 refine kfY X34_ hx (pc0 := 192) (pc' := 201) rfl hby (D13 104) ((if0 _ _).trans (flt ((by rw [k0]; decide) : ¬ ((0 : Int32) < kk))).2.2.2) (by decide) (by decide) ?_
 refine kaN X34_ hx hby (D13 105) rfl rfl ?_
 exact retR X34_ hx hret rfl rfl rfl (hb hby (D13 106)) hr
theorem gcK (l : Launch) (Z : State) (a0 : Array Value) (hw : own_W Z a0) (ws : List Jvm.Cond) (o1 : Addr) (o2 : Addr) (a1 : Addr) (n1 : Nat) (a2 : Addr) (n2 : Nat) (K1 : Nat) (kk : Int32) (h0 : Heap) (n0 : Nat) (Z0 : n0 ≤ h0.size) (M1 : own_MB Z h0 o1 a1 n1) (M2 : own_MB Z h0 o2 a2 n2) (n12 : o1 ≠ o2) (m12 : a1 ≠ a2) (g1 : n0 ≤ o1) (g2 : n0 ≤ a1) (g3 : n0 ≤ o2) (g4 : n0 ≤ a2) (gb : Nat.gcd n1 n2 < 4294967296) (k0 : ¬ (kk = (0 : Int32))) (kp : (0 : Int32) < kk) (ekk : kk = Int32.ofNat K1) (kl : K1 < 32) (ed1 : 2 ^ K1 ∣ n1) (ed2 : 2 ^ K1 ∣ n2) (o12 : (kk = (Int32.ofNat (own_tz n1)) → (n1 / 2 ^ K1) % 2 = 1) ∧ (¬ (kk = (Int32.ofNat (own_tz n1))) → (n2 / 2 ^ K1) % 2 = 1)) (hgg : Nat.gcd n1 n2 = 2 ^ K1 * Nat.gcd ((n1 / 2 ^ K1) / 2 ^ (own_tz (n1 / 2 ^ K1))) ((n2 / 2 ^ K1) / 2 ^ (own_tz (n2 / 2 ^ K1)))) (hkk : kk = if (Int32.ofNat (own_tz n1)) < (Int32.ofNat (own_tz n2)) then (Int32.ofNat (own_tz n1)) else (Int32.ofNat (own_tz n2))) : own_Met l Y13 jdk_2101_method_73_code 13 (some (.object "java/math/MutableBigInteger")) ⟨3, 2, 4, 45⟩ ws #[(.ref o1), (.ref o2)] Z h0 (Q_rmGC Z o1 o2 a1 n1 a2 n2 h0 n0) := by
 refine own_go (plainFor_of_name pn_java_math_MutableBigInteger) (fun m => ef13_RR m o1 o2) fun p e s m below meth c s₁ hx hby hml hown hnm hret hZ e0 X0 => ?_
 have N0 := Fr.nil n0
 obtain ⟨T1_, h1_, X1_, e1_, E1_, A1_, D1_, U1_, st1_⟩ := newO X0 hx hZ hown (wt hw 72 rfl) (wt hw 40 rfl) (wt hw 41 rfl) e0 (g := (mkF m 2 #[rv o1, rv o2, rv o1, .unset, .unset, .unset, .unset, .unset, .unset, .unset, .unset, .unset, .unset] [])) rfl (hb hby (D13 57)) (by exact own_b rfl) (by exact own_b rfl)
 obtain ⟨b1_, g1_⟩ : ∃ z, z = h0.size := ⟨_, rfl⟩
 rw [← g1_] at A1_ D1_ U1_ st1_
 have F1__offset : Fld Z h1_ b1_ "java/math/MutableBigInteger" "offset" "I" (.int 0) := D1_ (Or.inl (wt hw 48 rfl)) (ty := .int) (by decide)
 have F1__intLen : Fld Z h1_ b1_ "java/math/MutableBigInteger" "intLen" "I" (.int 0) := D1_ (Or.inl (wt hw 51 rfl)) (ty := .int) (by decide)
 have F1__value : Fld Z h1_ b1_ "java/math/MutableBigInteger" "value" "[I" .null := D1_ (Or.inl (wt hw 66 rfl)) (ty := (.array .int)) (by decide)
 have g3_ : n0 ≤ b1_ := Nat.le_trans Z0 (Nat.le_of_eq g1_.symm)
 have z4_ : n0 ≤ h1_.size := Nat.le_trans Z0 E1_.1
 obtain ⟨T2_, Lc2_, v2_, X2_, hQ2_, st2_⟩ := own_cI (y := Y11) X1_ hx hZ hown (wt hw 73 rfl) (wt hw 74 rfl) (wt hw 75 rfl) (wt hw 41 rfl) rfl (by decide) (rmM0 l Z a0 hw [] b1_ h1_ n0 z4_ A1_ F1__value F1__intLen F1__offset g3_) e1_ (pc := 6) (Ls := #[rv o1, rv o2, rv o1, .unset, .unset, .unset, .unset, .unset, .unset, .unset, .unset, .unset, .unset]) (stk := [(.ref b1_), (.ref b1_)]) (rest := [(.ref b1_)]) (by rw [hml]; rfl) pd3 rfl rfl (W := 1) rfl hby (D13 59) (by decide) (by decide) (by exact own_b rfl) (by exact own_b rfl)
 obtain ⟨t1_2_, k1_2_, rfl, Nq2_, ek2_, p2__0, p2__1, p2__2, p2__3, p2__4, p2__5⟩ := hQ2_
 have N2_ := Fr.app N0 Nq2_
 have f6_ := (M1.ext E1_).keep ek2_ (ninS (Nat.ne_of_lt (Nat.lt_of_lt_of_le M1.1.lt (Nat.le_of_eq g1_.symm))) nin0) (ninS (Nat.ne_of_lt (Nat.lt_of_lt_of_le M1.2.1.lt (Nat.le_of_eq g1_.symm))) nin0)
 have z7_ : n0 ≤ T2_.heap.size := Nat.le_trans z4_ ek2_.1
 have f8_ := (M1.1.ext E1_).keep ek2_
 obtain ⟨T5_, Lc5_, v5_, X5_, hQ5_, st5_⟩ := own_cV (y := Y14) X2_ hx hZ hown (wt hw 85 rfl) (wt hw 86 rfl) (wt hw 88 rfl) (wt hw 89 rfl) (wt hw 41 rfl) (by decide) (rmLsb l Z a0 hw [] o1 a1 n1 T2_.heap n0 z7_ f6_) f8_ rfl (pc := 11) (Ls := #[rv o1, rv o2, rv o1, rv b1_, .unset, .unset, .unset, .unset, .unset, .unset, .unset, .unset, .unset]) (stk := [(.ref o1)]) (rest := []) (by rw [hml]; rfl) pd5 rfl rfl (W := 0) rfl hby (D13 62) (by decide) (by decide) (by exact own_b rfl) (by exact own_b rfl)
 obtain ⟨rfl, Nq5_, ek5_⟩ := hQ5_
 have N5_ := Fr.app N2_ Nq5_
 have f10_ := (M2.ext E1_).keep ek2_ (ninS (Nat.ne_of_lt (Nat.lt_of_lt_of_le M2.1.lt (Nat.le_of_eq g1_.symm))) nin0) (ninS (Nat.ne_of_lt (Nat.lt_of_lt_of_le M2.2.1.lt (Nat.le_of_eq g1_.symm))) nin0)
 have f11_ := (M2.1.ext E1_).keep ek2_
 obtain ⟨T9_, Lc9_, v9_, X9_, hQ9_, st9_⟩ := own_cV (y := Y14) X5_ hx hZ hown (wt hw 85 rfl) (wt hw 86 rfl) (wt hw 88 rfl) (wt hw 89 rfl) (wt hw 41 rfl) (by decide) (rmLsb l Z a0 hw [] o2 a2 n2 T2_.heap n0 z7_ f10_) f11_ ek5_ (pc := 17) (Ls := #[rv o1, rv o2, rv o1, rv b1_, iv (Int32.ofNat (own_tz n1)), .unset, .unset, .unset, .unset, .unset, .unset, .unset, .unset]) (stk := [(.ref o2)]) (rest := []) (by rw [hml]; rfl) pd5 rfl rfl (W := 0) rfl hby (D13 65) (by decide) (by decide) (by exact own_b rfl) (by exact own_b rfl)
 obtain ⟨rfl, Nq9_, ek9_⟩ := hQ9_
 have N9_ := Fr.app N5_ Nq9_
 obtain ⟨T13_, Lc13_, v13_, X13_, hQ13_, st13_⟩ := own_cV (y := Y16) X9_ hx hZ hown (wt hw 95 rfl) (wt hw 97 rfl) (wt hw 98 rfl) (wt hw 99 rfl) (wt hw 41 rfl) (by decide) (rmRs l Z a0 hw [] o1 kk a1 n1 K1 T2_.heap n0 z7_ f6_ g1 g2 ekk ed1) f8_ ek9_ (pc := 46) (Ls := #[rv o1, rv o2, rv o1, rv b1_, iv (Int32.ofNat (own_tz n1)), iv (Int32.ofNat (own_tz n2)), iv kk, .unset, .unset, .unset, .unset, .unset, .unset]) (stk := [(.int kk), (.ref o1)]) (rest := []) (by rw [hml]; rfl) pd1 rfl rfl (W := 0) rfl hby (D13 109) (by decide) (by decide) (by exact own_b rfl) (by exact own_b rfl)
 obtain ⟨rfl, Nq13_, ek13_, p13__0⟩ := hQ13_
 have N13_ := Fr.app N9_ Nq13_
 have f15_ := f10_.keep ek13_ (ninS (Ne.symm n12) (ninS (ne_exa f11_ ((M1.2.1.ext E1_).keep ek2_) (by decide)) nin0)) (ninS (ne_exa ((M2.2.1.ext E1_).keep ek2_) f8_ (by decide)) (ninS (Ne.symm m12) nin0))
 have z16_ : n0 ≤ T13_.heap.size := Nat.le_trans z7_ ek13_.1
 have f17_ := f11_.keep ek13_
 obtain ⟨T14_, Lc14_, v14_, X14_, hQ14_, st14_⟩ := own_cV (y := Y16) X13_ hx hZ hown (wt hw 95 rfl) (wt hw 97 rfl) (wt hw 98 rfl) (wt hw 99 rfl) (wt hw 41 rfl) (by decide) (rmRs l Z a0 hw [] o2 kk a2 n2 K1 T13_.heap n0 z16_ f15_ g3 g4 ekk ed2) f17_ rfl (pc := 52) (Ls := #[rv o1, rv o2, rv o1, rv b1_, iv (Int32.ofNat (own_tz n1)), iv (Int32.ofNat (own_tz n2)), iv kk, .unset, .unset, .unset, .unset, .unset, .unset]) (stk := [(.int kk), (.ref o2)]) (rest := []) (by rw [hml]; rfl) pd1 rfl rfl (W := 0) rfl hby (D13 112) (by decide) (by decide) (by exact own_b rfl) (by exact own_b rfl)
 obtain ⟨rfl, Nq14_, ek14_, p14__0⟩ := hQ14_
 have N14_ := Fr.app N13_ Nq14_
 have f18_ := p13__0.keep ek14_ (ninS n12 (ninS (ne_exa p13__0.1 (((M2.2.1.ext E1_).keep ek2_).keep ek13_) (by decide)) nin0)) (ninS (ne_exa p13__0.2.1 f17_ (by decide)) (ninS m12 nin0))
 have z20_ : n0 ≤ T14_.heap.size := Nat.le_trans z16_ ek14_.1
 obtain ⟨T19_, h19_, L19_, d7_19_, d8_19_, d9_19_, d10_19_, X19_, e19_, N19_, K19_, p19_0, p19_1, st19_⟩ := own_gt Z a0 hw X14_ hx hZ hby hml hown o1 o2 (rv b1_) (Int32.ofNat (own_tz n1)) (iv (Int32.ofNat (own_tz n2))) kk a1 (n1 / 2 ^ K1) a2 (n2 / 2 ^ K1) T14_.heap n0 z20_ rfl N14_ (by decide) (by decide) (by exact own_b rfl) (by exact own_b rfl) f18_ p14__0 n12 m12 g1 g2 g3 g4 o12
 have z22_ : n0 ≤ h19_.size := Nat.le_trans z20_ K19_.1
 obtain ⟨T21_, h21_, L21_, u1_21_, u2_21_, d8_21_, d9_21_, d10_21_, X21_, e21_, N21_, K21_, p21_0, p21_1, p21_2, p21_3, p21_4, p21_5, p21_6, st21_⟩ := own_gl Z a0 hw X19_ hx hZ hby hml hown o1 o2 a1 a2 (((n1 / 2 ^ K1) / 2 ^ (own_tz (n1 / 2 ^ K1))) + ((n2 / 2 ^ K1) / 2 ^ (own_tz (n2 / 2 ^ K1)))) (rv b1_) (iv (Int32.ofNat (own_tz n1))) (iv (Int32.ofNat (own_tz n2))) (iv kk) d7_19_ d8_19_ d9_19_ d10_19_ ((n1 / 2 ^ K1) / 2 ^ (own_tz (n1 / 2 ^ K1))) ((n2 / 2 ^ K1) / 2 ^ (own_tz (n2 / 2 ^ K1))) h19_ n0 z22_ e19_ N19_ (by decide) (by decide) (by exact own_b rfl) (by exact own_b rfl) n12 m12 g1 g2 g3 g4 p19_0 p19_1 (Nat.le_refl _) (own_step_odd ((own_div_pos (own_MB.nz M1) ed1))) (own_step_odd ((own_div_pos (own_MB.nz M2) ed2))) (by rw [hgg] at gb; exact Nat.lt_of_le_of_lt (Nat.le_mul_of_pos_left _ (Nat.two_pow_pos K1)) gb)
 obtain ⟨k3, z3, vs3, j3, x3, S3, xB3, eu3⟩ := p21_0.dB p21_4
 obtain ⟨k4, z4, vs4, j4, x4, S4, xB4, eu4⟩ := p21_1.dB p21_5
 obtain ⟨T23_, X23_, e23_, st23_⟩ := own_gN (pc := 125) (Ls := #[rv o1, rv o2, rv o1, rv b1_, iv (Int32.ofNat (own_tz n1)), iv (Int32.ofNat (own_tz n2)), iv kk, iv d7_19_, rv d8_21_, iv d9_21_, iv d10_21_, .unset, .unset]) (stk := []) X21_ hx hZ hown (wt hw 50 rfl) e21_ S3.2.2.2.1 hby (D13 0) (D13 1) rfl
 obtain ⟨T24_, X24_, e24_, st24_⟩ := own_gN (pc := 133) (Ls := #[rv o1, rv o2, rv o1, rv b1_, iv (Int32.ofNat (own_tz n1)), iv (Int32.ofNat (own_tz n2)), iv kk, iv d7_19_, rv d8_21_, iv d9_21_, iv d10_21_, .unset, .unset]) (stk := []) X23_ hx hZ hown (wt hw 50 rfl) e23_ S4.2.2.2.1 hby (D13 4) (D13 5) rfl
 obtain ⟨T25_, X25_, e25_, st25_⟩ := own_gN (pc := 141) (Ls := #[rv o1, rv o2, rv o1, rv b1_, iv (Int32.ofNat (own_tz n1)), iv (Int32.ofNat (own_tz n2)), iv kk, iv d7_19_, rv d8_21_, iv d9_21_, iv d10_21_, .unset, .unset]) (stk := []) X24_ hx hZ hown (wt hw 65 rfl) e24_ S3.2.2.1 hby (D13 76) (D13 77) rfl
 obtain ⟨T26_, X26_, e26_, st26_⟩ := own_gN (pc := 145) (Ls := #[rv o1, rv o2, rv o1, rv b1_, iv (Int32.ofNat (own_tz n1)), iv (Int32.ofNat (own_tz n2)), iv kk, iv d7_19_, rv d8_21_, iv d9_21_, iv d10_21_, .unset, .unset]) (stk := [(.ref a1)]) X25_ hx hZ hown (wt hw 47 rfl) e25_ S3.2.2.2.2.1 hby (D13 78) (D13 79) rfl
 obtain ⟨T27_, X27_, e27_, st27_⟩ := own_gN (pc := 152) (Ls := #[rv o1, rv o2, rv o1, rv b1_, iv (Int32.ofNat (own_tz n1)), iv (Int32.ofNat (own_tz n2)), iv kk, iv d7_19_, rv d8_21_, iv d9_21_, iv d10_21_, iv x3, .unset]) (stk := []) X26_ hx hZ hown (wt hw 65 rfl) e26_ S4.2.2.1 hby (D13 82) (D13 83) rfl
 obtain ⟨T28_, X28_, e28_, st28_⟩ := own_gN (pc := 156) (Ls := #[rv o1, rv o2, rv o1, rv b1_, iv (Int32.ofNat (own_tz n1)), iv (Int32.ofNat (own_tz n2)), iv kk, iv d7_19_, rv d8_21_, iv d9_21_, iv d10_21_, iv x3, .unset]) (stk := [(.ref a2)]) X27_ hx hZ hown (wt hw 47 rfl) e27_ S4.2.2.2.2.1 hby (D13 84) (D13 85) rfl
 have z30_ : n0 ≤ h21_.size := Nat.le_trans z22_ K21_.1
 obtain ⟨T29_, Lc29_, v29_, X29_, hQ29_, st29_⟩ := own_cS (y := Y20) X28_ hx hZ hown (wt hw 111 rfl) (wt hw 112 rfl) (wt hw 113 rfl) (wt hw 41 rfl) (by decide) (rmBg l Z a0 hw [] x3 x4 h21_ n0 z30_ (by rw [eu3]; exact p21_2) (by rw [eu4]; exact p21_3)) e28_ (pc := 167) (Ls := #[rv o1, rv o2, rv o1, rv b1_, iv (Int32.ofNat (own_tz n1)), iv (Int32.ofNat (own_tz n2)), iv kk, iv d7_19_, rv d8_21_, iv d9_21_, iv d10_21_, iv x3, iv x4]) (stk := [(.int x4), (.int x3)]) (rest := []) (by rw [hml]; rfl) pd6 rfl rfl (W := 0) rfl hby (D13 90) (by decide) (by decide) (by exact own_b rfl) (by exact own_b rfl)
 obtain ⟨r1_29_, rfl, Nq29_, ek29_, p29__0⟩ := hQ29_
 have N29_ := Fr.app N21_ Nq29_
 have f31_ := (((p2__0.keep ek13_ (ninS (Ne.symm (Nat.ne_of_lt (Nat.lt_of_lt_of_le M1.1.lt (Nat.le_of_eq g1_.symm)))) (ninS (Ne.symm (Nat.ne_of_lt (Nat.lt_of_lt_of_le M1.2.1.lt (Nat.le_of_eq g1_.symm)))) nin0))).keep ek14_ (ninS (Ne.symm (Nat.ne_of_lt (Nat.lt_of_lt_of_le M2.1.lt (Nat.le_of_eq g1_.symm)))) (ninS (Ne.symm (Nat.ne_of_lt (Nat.lt_of_lt_of_le M2.2.1.lt (Nat.le_of_eq g1_.symm)))) nin0))).keep K19_ (ninS (Ne.symm (Nat.ne_of_lt (Nat.lt_of_lt_of_le M1.1.lt (Nat.le_of_eq g1_.symm)))) (ninS (Ne.symm (Nat.ne_of_lt (Nat.lt_of_lt_of_le M1.2.1.lt (Nat.le_of_eq g1_.symm)))) (ninS (Ne.symm (Nat.ne_of_lt (Nat.lt_of_lt_of_le M2.1.lt (Nat.le_of_eq g1_.symm)))) (ninS (Ne.symm (Nat.ne_of_lt (Nat.lt_of_lt_of_le M2.2.1.lt (Nat.le_of_eq g1_.symm)))) nin0))))).keep K21_ (ninS (Ne.symm (Nat.ne_of_lt (Nat.lt_of_lt_of_le M1.1.lt (Nat.le_of_eq g1_.symm)))) (ninS (Ne.symm (Nat.ne_of_lt (Nat.lt_of_lt_of_le M1.2.1.lt (Nat.le_of_eq g1_.symm)))) (ninS (Ne.symm (Nat.ne_of_lt (Nat.lt_of_lt_of_le M2.1.lt (Nat.le_of_eq g1_.symm)))) (ninS (Ne.symm (Nat.ne_of_lt (Nat.lt_of_lt_of_le M2.2.1.lt (Nat.le_of_eq g1_.symm)))) nin0))))
 obtain ⟨T32_, X32_, e32_, st32_⟩ := own_gN (pc := 172) (Ls := #[rv o1, rv o2, rv o1, rv b1_, iv (Int32.ofNat (own_tz n1)), iv (Int32.ofNat (own_tz n2)), iv kk, iv d7_19_, rv d8_21_, iv d9_21_, iv d10_21_, iv r1_29_, iv x4]) (stk := []) X29_ hx hZ hown (wt hw 65 rfl) ek29_ f31_ hby (D13 92) (D13 93) rfl
 have f33_ := (((p2__4.keep ek13_ (ninS (Ne.symm (Nat.ne_of_lt (Nat.lt_of_lt_of_le (M1.1.ext E1_).lt p2__5))) (ninS (Ne.symm (Nat.ne_of_lt (Nat.lt_of_lt_of_le (M1.2.1.ext E1_).lt p2__5))) nin0))).keep ek14_ (ninS (Ne.symm (Nat.ne_of_lt (Nat.lt_of_lt_of_le (M2.1.ext E1_).lt p2__5))) (ninS (Ne.symm (Nat.ne_of_lt (Nat.lt_of_lt_of_le (M2.2.1.ext E1_).lt p2__5))) nin0))).keep K19_ (ninS (Ne.symm (Nat.ne_of_lt (Nat.lt_of_lt_of_le (M1.1.ext E1_).lt p2__5))) (ninS (Ne.symm (Nat.ne_of_lt (Nat.lt_of_lt_of_le (M1.2.1.ext E1_).lt p2__5))) (ninS (Ne.symm (Nat.ne_of_lt (Nat.lt_of_lt_of_le (M2.1.ext E1_).lt p2__5))) (ninS (Ne.symm (Nat.ne_of_lt (Nat.lt_of_lt_of_le (M2.2.1.ext E1_).lt p2__5))) nin0))))).keep K21_ (ninS (Ne.symm (Nat.ne_of_lt (Nat.lt_of_lt_of_le (M1.1.ext E1_).lt p2__5))) (ninS (Ne.symm (Nat.ne_of_lt (Nat.lt_of_lt_of_le (M1.2.1.ext E1_).lt p2__5))) (ninS (Ne.symm (Nat.ne_of_lt (Nat.lt_of_lt_of_le (M2.1.ext E1_).lt p2__5))) (ninS (Ne.symm (Nat.ne_of_lt (Nat.lt_of_lt_of_le (M2.2.1.ext E1_).lt p2__5))) nin0))))
 have g35_ : n0 ≤ t1_2_ := Nat.le_trans z4_ p2__5
 obtain ⟨T34_, h34_, X34_, e34_, W34_, v34_, N34_, st34_⟩ := own_si (pc := 179) (Ls := #[rv o1, rv o2, rv o1, rv b1_, iv (Int32.ofNat (own_tz n1)), iv (Int32.ofNat (own_tz n2)), iv kk, iv d7_19_, rv d8_21_, iv d9_21_, iv d10_21_, iv r1_29_, iv x4]) (stk := [(.int r1_29_), (.int 0), (.ref t1_2_)]) X32_ hx hZ e32_ f33_ ⟨by decide, by decide⟩ 0 rfl (Nat.le_of_ble_eq_true rfl) N29_ g35_ hby (D13 96) rfl
 have f36_ := (((((A1_.keep ek2_).keep ek13_).keep ek14_).keep K19_).keep K21_).wr W34_
 have f37_ := ((((p2__1.keep ek13_ (ninS (Ne.symm (Nat.ne_of_lt (Nat.lt_of_lt_of_le M1.1.lt (Nat.le_of_eq g1_.symm)))) (ninS (Ne.symm (Nat.ne_of_lt (Nat.lt_of_lt_of_le M1.2.1.lt (Nat.le_of_eq g1_.symm)))) nin0))).keep ek14_ (ninS (Ne.symm (Nat.ne_of_lt (Nat.lt_of_lt_of_le M2.1.lt (Nat.le_of_eq g1_.symm)))) (ninS (Ne.symm (Nat.ne_of_lt (Nat.lt_of_lt_of_le M2.2.1.lt (Nat.le_of_eq g1_.symm)))) nin0))).keep K19_ (ninS (Ne.symm (Nat.ne_of_lt (Nat.lt_of_lt_of_le M1.1.lt (Nat.le_of_eq g1_.symm)))) (ninS (Ne.symm (Nat.ne_of_lt (Nat.lt_of_lt_of_le M1.2.1.lt (Nat.le_of_eq g1_.symm)))) (ninS (Ne.symm (Nat.ne_of_lt (Nat.lt_of_lt_of_le M2.1.lt (Nat.le_of_eq g1_.symm)))) (ninS (Ne.symm (Nat.ne_of_lt (Nat.lt_of_lt_of_le M2.2.1.lt (Nat.le_of_eq g1_.symm)))) nin0))))).keep K21_ (ninS (Ne.symm (Nat.ne_of_lt (Nat.lt_of_lt_of_le M1.1.lt (Nat.le_of_eq g1_.symm)))) (ninS (Ne.symm (Nat.ne_of_lt (Nat.lt_of_lt_of_le M1.2.1.lt (Nat.le_of_eq g1_.symm)))) (ninS (Ne.symm (Nat.ne_of_lt (Nat.lt_of_lt_of_le M2.1.lt (Nat.le_of_eq g1_.symm)))) (ninS (Ne.symm (Nat.ne_of_lt (Nat.lt_of_lt_of_le M2.2.1.lt (Nat.le_of_eq g1_.symm)))) nin0))))).other W34_ (Or.inl (Nat.ne_of_lt (Nat.lt_of_lt_of_le A1_.lt p2__5)))
 obtain ⟨T38_, h38_, X38_, e38_, W38_, w38_, N38_, st38_⟩ := own_pf (pc := 182) (Ls := #[rv o1, rv o2, rv o1, rv b1_, iv (Int32.ofNat (own_tz n1)), iv (Int32.ofNat (own_tz n2)), iv kk, iv d7_19_, rv d8_21_, iv d9_21_, iv d10_21_, iv r1_29_, iv x4]) (stk := [(.int 1), (.ref b1_)]) X34_ hx hZ hown (wt hw 50 rfl) e34_ f37_ f36_ (Or.inl (wt hw 51 rfl)) (wt hw 40 rfl) (ty := .int) (by decide) rfl rfl N34_ g3_ hby (D13 99) rfl
 have f39_ := f36_.wr W38_
 have f40_ := (((((p2__2.keep ek13_ (ninS (Ne.symm (Nat.ne_of_lt (Nat.lt_of_lt_of_le M1.1.lt (Nat.le_of_eq g1_.symm)))) (ninS (Ne.symm (Nat.ne_of_lt (Nat.lt_of_lt_of_le M1.2.1.lt (Nat.le_of_eq g1_.symm)))) nin0))).keep ek14_ (ninS (Ne.symm (Nat.ne_of_lt (Nat.lt_of_lt_of_le M2.1.lt (Nat.le_of_eq g1_.symm)))) (ninS (Ne.symm (Nat.ne_of_lt (Nat.lt_of_lt_of_le M2.2.1.lt (Nat.le_of_eq g1_.symm)))) nin0))).keep K19_ (ninS (Ne.symm (Nat.ne_of_lt (Nat.lt_of_lt_of_le M1.1.lt (Nat.le_of_eq g1_.symm)))) (ninS (Ne.symm (Nat.ne_of_lt (Nat.lt_of_lt_of_le M1.2.1.lt (Nat.le_of_eq g1_.symm)))) (ninS (Ne.symm (Nat.ne_of_lt (Nat.lt_of_lt_of_le M2.1.lt (Nat.le_of_eq g1_.symm)))) (ninS (Ne.symm (Nat.ne_of_lt (Nat.lt_of_lt_of_le M2.2.1.lt (Nat.le_of_eq g1_.symm)))) nin0))))).keep K21_ (ninS (Ne.symm (Nat.ne_of_lt (Nat.lt_of_lt_of_le M1.1.lt (Nat.le_of_eq g1_.symm)))) (ninS (Ne.symm (Nat.ne_of_lt (Nat.lt_of_lt_of_le M1.2.1.lt (Nat.le_of_eq g1_.symm)))) (ninS (Ne.symm (Nat.ne_of_lt (Nat.lt_of_lt_of_le M2.1.lt (Nat.le_of_eq g1_.symm)))) (ninS (Ne.symm (Nat.ne_of_lt (Nat.lt_of_lt_of_le M2.2.1.lt (Nat.le_of_eq g1_.symm)))) nin0))))).other W34_ (Or.inl (Nat.ne_of_lt (Nat.lt_of_lt_of_le A1_.lt p2__5)))).other W38_ (Or.inr (slot_ne (Or.inl (wt hw 48 rfl)) (Or.inl (wt hw 51 rfl)) (by decide) (t := .int) (t' := .int) (by decide) (by decide)))
 obtain ⟨T41_, h41_, X41_, e41_, W41_, w41_, N41_, st41_⟩ := own_pf (pc := 187) (Ls := #[rv o1, rv o2, rv o1, rv b1_, iv (Int32.ofNat (own_tz n1)), iv (Int32.ofNat (own_tz n2)), iv kk, iv d7_19_, rv d8_21_, iv d9_21_, iv d10_21_, iv r1_29_, iv x4]) (stk := [(.int 0), (.ref b1_)]) X38_ hx hZ hown (wt hw 47 rfl) e38_ f40_ f39_ (Or.inl (wt hw 48 rfl)) (wt hw 40 rfl) (ty := .int) (by decide) rfl rfl N38_ g3_ hby (D13 102) rfl
 have eg_ : Nat.gcd n1 n2 = 2 ^ K1 * own_u r1_29_ := by rw [hgg, p29__0, eu3, eu4, p21_6]
 have gz_ : Nat.gcd n1 n2 ≠ 0 := fun q_ => own_MB.nz M1 (Nat.eq_zero_of_gcd_eq_zero_left q_)
 have gn_ : ¬ (r1_29_ = (0 : Int32)) := fun q_ => gz_ (by rw [eg_, own_u0.mpr q_, Nat.mul_zero])
 have gf_ : own_u r1_29_ * 2 ^ K1 < 4294967296 := by rw [Nat.mul_comm, ← eg_]; exact gb
 have f43_ := f39_.wr W41_
 have f44_ := ((((((p2__3.keep ek13_).keep ek14_).keep K19_).keep K21_).wr W34_).wr W38_).wr W41_
 have f45_ := ((f31_.other W34_ (Or.inl (Nat.ne_of_lt (Nat.lt_of_lt_of_le A1_.lt p2__5)))).other W38_ (Or.inr (slot_ne (Or.inl (wt hw 66 rfl)) (Or.inl (wt hw 51 rfl)) (by decide) (t := (.array .int)) (t' := .int) (by decide) (by decide)))).other W41_ (Or.inr (slot_ne (Or.inl (wt hw 66 rfl)) (Or.inl (wt hw 48 rfl)) (by decide) (t := (.array .int)) (t' := .int) (by decide) (by decide)))
 have f46_ := w38_.other W41_ (Or.inr (slot_ne (Or.inl (wt hw 51 rfl)) (Or.inl (wt hw 48 rfl)) (by decide) (t := .int) (t' := .int) (by decide) (by decide)))
 have f47_ := (v34_.other W38_ (Ne.symm (Nat.ne_of_lt (Nat.lt_of_lt_of_le A1_.lt p2__5)))).other W41_ (Ne.symm (Nat.ne_of_lt (Nat.lt_of_lt_of_le A1_.lt p2__5)))
 have z48_ : n0 ≤ h34_.size := Nat.le_trans z30_ (Keep.of_wr W34_).1
 have z49_ : n0 ≤ h38_.size := Nat.le_trans z48_ (Keep.of_wr W38_).1
 have z50_ : n0 ≤ h41_.size := Nat.le_trans z49_ (Keep.of_wr W41_).1
 obtain ⟨T42_, Lc42_, v42_, X42_, hQ42_, st42_⟩ := own_cV (y := Y21) X41_ hx hZ hown (wt hw 115 rfl) (wt hw 117 rfl) (wt hw 118 rfl) (wt hw 119 rfl) (wt hw 41 rfl) (by decide) (rmLs l Z a0 hw [] b1_ kk t1_2_ k1_2_ r1_29_ K1 h41_ n0 z50_ ⟨f43_, f44_, f45_, f46_, w41_, f47_⟩ g35_ ekk kl gn_ gf_) f43_ e41_ (pc := 198) (Ls := #[rv o1, rv o2, rv o1, rv b1_, iv (Int32.ofNat (own_tz n1)), iv (Int32.ofNat (own_tz n2)), iv kk, iv d7_19_, rv d8_21_, iv d9_21_, iv d10_21_, iv r1_29_, iv x4]) (stk := [(.int kk), (.ref b1_)]) (rest := []) (by rw [hml]; rfl) pd1 rfl rfl (W := 0) rfl hby (D13 115) (by decide) (by decide) (by exact own_b rfl) (by exact own_b rfl)
 obtain ⟨rfl, Nq42_, ek42_, p42__0⟩ := hQ42_
 have N42_ := Fr.app N41_ Nq42_
 have f51_ := f43_.keep ek42_
 have f52_ := f44_.keep ek42_
 have f53_ := f45_.keep ek42_ (ninS (Nat.ne_of_lt (Nat.lt_of_lt_of_le A1_.lt p2__5)) nin0)
 have f54_ := f46_.keep ek42_ (ninS (Nat.ne_of_lt (Nat.lt_of_lt_of_le A1_.lt p2__5)) nin0)
 have f55_ := w41_.keep ek42_ (ninS (Nat.ne_of_lt (Nat.lt_of_lt_of_le A1_.lt p2__5)) nin0)
 have mb_ : own_MB Z T42_.heap b1_ t1_2_ (Nat.gcd n1 n2) := own_MB.mkB ⟨f51_, f52_, f53_, f54_, f55_, p42__0⟩ (Or.inl ⟨rfl, rfl, rfl⟩) (by rw [own_shl_u _ _ K1 kl ekk, Nat.mod_eq_of_lt gf_, eg_, Nat.mul_comm]) gz_
 have k56_ := (Keep.refl h0 [o1, a1, o2, a2]).ext E1_
 have k57_ := k56_.trans ek2_ (allS (Or.inr (Nat.le_trans (Keep.refl h0 [o1, a1, o2, a2]).1 (Nat.le_of_eq g1_.symm))) all0)
 have k58_ := k57_.trans ek13_ (allS (own_in 0 rfl) (allS (own_in 1 rfl) all0))
 have k59_ := k58_.trans ek14_ (allS (own_in 2 rfl) (allS (own_in 3 rfl) all0))
 have k60_ := k59_.trans K19_ (allS (own_in 0 rfl) (allS (own_in 1 rfl) (allS (own_in 2 rfl) (allS (own_in 3 rfl) all0))))
 have k61_ := k60_.trans K21_ (allS (own_in 0 rfl) (allS (own_in 1 rfl) (allS (own_in 2 rfl) (allS (own_in 3 rfl) all0))))
 have k62_ := k61_.wr W34_ (Or.inr (Nat.le_trans k56_.1 p2__5))
 have k63_ := k62_.wr W38_ (Or.inr (Nat.le_trans (Keep.refl h0 [o1, a1, o2, a2]).1 (Nat.le_of_eq g1_.symm)))
 have k64_ := k63_.wr W41_ (Or.inr (Nat.le_trans (Keep.refl h0 [o1, a1, o2, a2]).1 (Nat.le_of_eq g1_.symm)))
 have k65_ := k64_.trans ek42_ (allS (Or.inr (Nat.le_trans k56_.1 p2__5)) all0)
 refine ⟨_, _, _, _, some (.ref b1_), X42_, (by exact own_b rfl), (by exact own_b rfl), nofun, (by show Q_rmGC Z o1 o2 a1 n1 a2 n2 h0 n0 _ T42_.heap _; exact ⟨b1_, t1_2_, rfl, N42_, k65_, mb_, (Nat.le_trans (Keep.refl h0 [o1, a1, o2, a2]).1 (Nat.le_of_eq g1_.symm)), (Nat.le_trans k56_.1 p2__5)⟩), fun fs hr => ?_⟩
 refine kaN X0 hx hby (D13 55) rfl rfl ?_
 refine ktN X0 hx hby (D13 56) rfl (l' := #[rv o1, rv o2, rv o1, .unset, .unset, .unset, .unset, .unset, .unset, .unset, .unset, .unset, .unset]) rfl ?_
 show Steps p.tables e below (s₁.setTop (mkF m 2 #[rv o1, rv o2, rv o1, .unset, .unset, .unset, .unset, .unset, .unset, .unset, .unset, .unset, .unset] [])) _
 refine st1_ _ ?_
 show Steps p.tables e below (T1_.setTop (mkF m 5 #[rv o1, rv o2, rv o1, .unset, .unset, .unset, .unset, .unset, .unset, .unset, .unset, .unset, .unset] [(.ref b1_)])) _
 refine kdup X1_ hx hby (D13 58) rfl ?_
 refine st2_ _ ?_
 refine ktN X2_ hx hby (D13 60) rfl (l' := #[rv o1, rv o2, rv o1, rv b1_, .unset, .unset, .unset, .unset, .unset, .unset, .unset, .unset, .unset]) rfl ?_
 refine kaN X2_ hx hby (D13 61) rfl rfl ?_
 refine st5_ _ ?_
 refine ks X5_ hx hby (D13 63) (l' := #[rv o1, rv o2, rv o1, rv b1_, iv (Int32.ofNat (own_tz n1)), .unset, .unset, .unset, .unset, .unset, .unset, .unset, .unset]) rfl ?_
 refine kaN X5_ hx hby (D13 64) rfl rfl ?_
 refine st9_ _ ?_
 refine ks X9_ hx hby (D13 66) (l' := #[rv o1, rv o2, rv o1, rv b1_, iv (Int32.ofNat (own_tz n1)), iv (Int32.ofNat (own_tz n2)), .unset, .unset, .unset, .unset, .unset, .unset, .unset]) rfl ?_
 refine ki X9_ hx hby (D13 67) rfl ?_
 refine ki X9_ hx hby (D13 68) rfl ?_
 have br12_ : ∀ t, Steps p.tables e below (T9_.setTop (mkF m 36 #[rv o1, rv o2, rv o1, rv b1_, iv (Int32.ofNat (own_tz n1)), iv (Int32.ofNat (own_tz n2)), .unset, .unset, .unset, .unset, .unset, .unset, .unset] [(.int kk)])) t → Steps p.tables e below (T9_.setTop (mkF m 26 #[rv o1, rv o2, rv o1, rv b1_, iv (Int32.ofNat (own_tz n1)), iv (Int32.ofNat (own_tz n2)), .unset, .unset, .unset, .unset, .unset, .unset, .unset] [(.int (Int32.ofNat (own_tz n2))), (.int (Int32.ofNat (own_tz n1)))])) t := by
   intro t k
   by_cases hcd : (Int32.ofNat (own_tz n1)) < (Int32.ofNat (own_tz n2))
   · refine kcN X9_ hx hby (D13 69) (tlt (hcd : (Int32.ofNat (own_tz n1)) < (Int32.ofNat (own_tz n2)))).2.1 ?_
     refine ki X9_ hx hby (D13 71) rfl ?_
     refine kg X9_ hx (pc0 := 31) (pc' := 36) rfl hby (D13 72) (by decide) (by decide) ?_
     rw [hkk, if_pos hcd] at k
     exact k
   · refine kcY X9_ hx (pc0 := 26) (pc' := 34) rfl hby (D13 69) (flt (hcd : ¬ ((Int32.ofNat (own_tz n1)) < (Int32.ofNat (own_tz n2))))).2.1 (by decide) (by decide) ?_
     refine ki X9_ hx hby (D13 70) rfl ?_
     rw [hkk, if_neg hcd] at k
     exact k
 refine br12_ _ ?_
 refine ks X9_ hx hby (D13 73) (l' := #[rv o1, rv o2, rv o1, rv b1_, iv (Int32.ofNat (own_tz n1)), iv (Int32.ofNat (own_tz n2)), iv kk, .unset, .unset, .unset, .unset, .unset, .unset]) rfl ?_
 refine ki X9_ hx hby (D13 74) rfl ?_
 refine kfN X9_ hx hby (D13 75) ((if0 _ _).trans (feq (k0 : ¬ (kk = (0 : Int32)))).1) ?_
 refine kaN X9_ hx hby (D13 107) rfl rfl ?_
 refine ki X9_ hx hby (D13 108) rfl ?_
 refine st13_ _ ?_
 refine kaN X13_ hx hby (D13 110) rfl rfl ?_
 refine ki X13_ hx hby (D13 111) rfl ?_
 refine st14_ _ ?_
 refine st19_ _ ?_
 refine st21_ _ ?_
 refine st23_ _ ?_
 refine kc X23_ hx hby (D13 2) ?_
 refine kcN X23_ hx hby (D13 3) (tlt ((by decide) : (1 : Int32) < (2 : Int32))).2.1 ?_
 refine st24_ _ ?_
 refine kc X24_ hx hby (D13 6) ?_
 refine kcN X24_ hx hby (D13 7) (tlt ((by decide) : (1 : Int32) < (2 : Int32))).2.1 ?_
 refine st25_ _ ?_
 refine st26_ _ ?_
 refine own_ia X26_ hx hZ e26_ S3.2.2.2.2.2 (by exact (own_B.at xB3).1) (by exact (own_B.at xB3).2.1) hby (D13 80) ?_
 refine ks X26_ hx hby (D13 81) (l' := #[rv o1, rv o2, rv o1, rv b1_, iv (Int32.ofNat (own_tz n1)), iv (Int32.ofNat (own_tz n2)), iv kk, iv d7_19_, rv d8_21_, iv d9_21_, iv d10_21_, iv x3, .unset]) rfl ?_
 refine st27_ _ ?_
 refine st28_ _ ?_
 refine own_ia X28_ hx hZ e28_ S4.2.2.2.2.2 (by exact (own_B.at xB4).1) (by exact (own_B.at xB4).2.1) hby (D13 86) ?_
 refine ks X28_ hx hby (D13 87) (l' := #[rv o1, rv o2, rv o1, rv b1_, iv (Int32.ofNat (own_tz n1)), iv (Int32.ofNat (own_tz n2)), iv kk, iv d7_19_, rv d8_21_, iv d9_21_, iv d10_21_, iv x3, iv x4]) rfl ?_
 refine ki X28_ hx hby (D13 88) rfl ?_
 refine ki X28_ hx hby (D13 89) rfl ?_
 refine st29_ _ ?_
 refine ks X29_ hx hby (D13 91) (l' := #[rv o1, rv o2, rv o1, rv b1_, iv (Int32.ofNat (own_tz n1)), iv (Int32.ofNat (own_tz n2)), iv kk, iv d7_19_, rv d8_21_, iv d9_21_, iv d10_21_, iv r1_29_, iv x4]) rfl ?_
 refine st32_ _ ?_
 refine kc X32_ hx hby (D13 94) ?_
 refine ki X32_ hx hby (D13 95) rfl ?_
 refine st34_ _ ?_
 refine kaN X34_ hx hby (D13 97) rfl rfl ?_
 refine kc X34_ hx hby (D13 98) ?_
 refine st38_ _ ?_
 refine kaN X38_ hx hby (D13 100) rfl rfl ?_
 refine kc X38_ hx hby (D13 101) ?_
 refine st41_ _ ?_
 refine ki X41_ hx hby (D13 103) rfl ?_
 refine kfN X41_ hx hby (D13 104) ((if0 _ _).trans (tlt (kp : (0 : Int32) < kk)).2.2.2) ?_
 refine kaN X41_ hx hby (D13 113) rfl rfl ?_
 refine ki X41_ hx hby (D13 114) rfl ?_
 refine st42_ _ ?_
 refine kaN X42_ hx hby (D13 105) rfl rfl ?_
 exact retR X42_ hx hret rfl rfl rfl (hb hby (D13 106)) hr
theorem rmGC (l : Launch) (Z : State) (a0 : Array Value) (hw : own_W Z a0) (ws : List Jvm.Cond) (o1 : Addr) (o2 : Addr) (a1 : Addr) (n1 : Nat) (a2 : Addr) (n2 : Nat) (h0 : Heap) (n0 : Nat) (Z0 : n0 ≤ h0.size) (M1 : own_MB Z h0 o1 a1 n1) (M2 : own_MB Z h0 o2 a2 n2) (n12 : o1 ≠ o2) (m12 : a1 ≠ a2) (g1 : n0 ≤ o1) (g2 : n0 ≤ a1) (g3 : n0 ≤ o2) (g4 : n0 ≤ a2) (gb : Nat.gcd n1 n2 < 4294967296) :
    own_Met l Y13 jdk_2101_method_73_code 13 (some (.object "java/math/MutableBigInteger")) ⟨3, 2, 4, 45⟩ ws #[(.ref o1), (.ref o2)] Z h0 (Q_rmGC Z o1 o2 a1 n1 a2 n2 h0 n0) := by
  have z1 := own_MB.nz M1
  have z2 := own_MB.nz M2
  have b1 := own_tz_lt n1 64 z1 M1.big
  have b2 := own_tz_lt n2 64 z2 M2.big
  have q := own_min b1 b2
  have hd : 2 ^ (min (own_tz n1) (own_tz n2)) ∣ Nat.gcd n1 n2 := Nat.dvd_gcd (own_tz_dvd z1 (Nat.min_le_left _ _)) (own_tz_dvd z2 (Nat.min_le_right _ _))
  have gz : Nat.gcd n1 n2 ≠ 0 := fun q => z1 (Nat.eq_zero_of_gcd_eq_zero_left q)
  have kl := own_dvd_small gz hd 32 gb
  by_cases c : min (own_tz n1) (own_tz n2) = 0
  · rw [c] at q
    have qe : ∀ t : Nat, t < 64 → ((Int32.ofNat 0 = Int32.ofNat t) ↔ 0 = t) := fun t ht => own_ofN (by omega) ht
    have od1 : own_tz n1 = 0 → n1 % 2 = 1 := fun h => by have := own_step_odd z1; rw [h] at this; simpa using this
    have od2 : own_tz n2 = 0 → n2 % 2 = 1 := fun h => by have := own_step_odd z2; rw [h] at this; simpa using this
    exact gcZ l Z a0 hw ws _ _ _ _ _ _ _ h0 n0 Z0 M1 M2 n12 m12 g1 g2 g3 g4 gb (k0 := q) (o12 := ⟨fun h => od1 (by rw [q] at h; exact ((qe _ b1).mp h).symm), fun h => od2 (by have h1 : ¬ 0 = own_tz n1 := fun z => h (by rw [q]; exact (qe _ b1).mpr z); omega)⟩) (hkk := rfl) (hgg := by
      by_cases c1 : own_tz n1 = 0
      · rw [c1, Nat.pow_zero, Nat.div_one, Nat.gcd_comm, Nat.gcd_comm n1 (n2 / 2 ^ own_tz n2)]; exact (own_gcd_odd (od1 c1) z2).symm
      · have c2 : own_tz n2 = 0 := by omega
        rw [c2, Nat.pow_zero, Nat.div_one]; exact (own_gcd_odd (od2 c2) z1).symm)
  · have e1 := own_tz_div z1 (Nat.min_le_left (own_tz n1) (own_tz n2))
    have e2 := own_tz_div z2 (Nat.min_le_right (own_tz n1) (own_tz n2))
    have od1 : own_tz n1 = min (own_tz n1) (own_tz n2) → (n1 / 2 ^ min (own_tz n1) (own_tz n2)) % 2 = 1 := fun h => by have := own_step_odd z1; rw [h] at this; exact this
    have od2 : own_tz n2 = min (own_tz n1) (own_tz n2) → (n2 / 2 ^ min (own_tz n1) (own_tz n2)) % 2 = 1 := fun h => by have := own_step_odd z2; rw [h] at this; exact this
    exact gcK l Z a0 hw ws _ _ _ _ _ _ _ _ h0 n0 Z0 M1 M2 n12 m12 g1 g2 g3 g4 gb (ekk := q) (kl := kl) (hkk := rfl) (k0 := by rw [q]; exact own_nz32 c kl) (kp := by rw [q]; exact own_pos32 c kl) (ed1 := own_tz_dvd z1 (Nat.min_le_left _ _)) (ed2 := own_tz_dvd z2 (Nat.min_le_right _ _)) (o12 := ⟨fun h => od1 (by rw [q] at h; exact ((own_ofN (by omega) b1).mp h).symm), fun h => od2 (by have h1 : ¬ min (own_tz n1) (own_tz n2) = own_tz n1 := fun z => h (by rw [q]; exact (own_ofN (by omega) b1).mpr z); omega)⟩) (hgg := by
      rw [own_gcd_min z1 z2 (Nat.min_le_left (own_tz n1) (own_tz n2)) (Nat.min_le_right (own_tz n1) (own_tz n2))]
      congr 1
      by_cases c1 : own_tz n1 = min (own_tz n1) (own_tz n2)
      · rw [own_tz_1 _ (od1 c1), Nat.pow_zero, Nat.div_one, Nat.gcd_comm, Nat.gcd_comm (n1 / 2 ^ min (own_tz n1) (own_tz n2)) (n2 / 2 ^ min (own_tz n1) (own_tz n2) / 2 ^ own_tz (n2 / 2 ^ min (own_tz n1) (own_tz n2)))]; exact (own_gcd_odd (od1 c1) e2.2.1).symm
      · have c2 : own_tz n2 = min (own_tz n1) (own_tz n2) := by omega
        rw [own_tz_1 _ (od2 c2), Nat.pow_zero, Nat.div_one]; exact (own_gcd_odd (od2 c2) e1.2.1).symm)
abbrev Y12 : MethodName := ⟨"java/lang/Math", "abs", "(I)I"⟩
theorem ef12_I (m : MethodId) (x0 : Int32) : entryFrame m #[(.int x0)] 1 = mkF m 0 #[iv x0] [] := by first | (simp [entryFrame, mkF, argsToLocals, Value.category]; done) | rfl
def Q_rmAbI (Z : State) (p1 : Int32) (r1 : Int32) (h0 : Heap) (n0 : Nat) (v : Option Value) (h : Heap) (L : List Loc) : Prop := v = some (.int r1) ∧ Fr n0 L ∧ h = h0
theorem rmAbI (l : Launch) (Z : State) (a0 : Array Value) (hw : own_W Z a0) (ws : List Jvm.Cond) (p1 : Int32) (r1 : Int32) (h0 : Heap) (n0 : Nat) (Z0 : n0 ≤ h0.size) (hr1 : r1 = if p1 < (0 : Int32) then (-p1) else p1) : own_Met l Y12 jdk_29_method_59_code 1 (some .int) ⟨0, 0, 0, 0⟩ ws #[(.int p1)] Z h0 (Q_rmAbI Z p1 r1 h0 n0) := by
 refine own_go (Jvm.Free.JP.mathPlain rfl (by decide +kernel)) (fun m => ef12_I m p1) fun p e s m below meth c s₁ hx hby hml hown hnm hret hZ e0 X0 => ?_
 have N0 := Fr.nil n0
 refine ⟨_, _, _, _, some (.int r1), X0, (by exact own_b rfl), (by exact own_b rfl), nofun, (by show Q_rmAbI Z p1 r1 h0 n0 _ s₁.heap _; rw [e0]; exact ⟨rfl, N0, rfl⟩), fun fs hr => ?_⟩
 refine kiN X0 hx hby (D12 0) rfl ?_
 have br1_ : ∀ t, Steps p.tables e below (s₁.setTop (mkF m 10 #[iv p1] [(.int r1)])) t → Steps p.tables e below (s₁.setTop (mkF m 1 #[iv p1] [(.int p1)])) t := by
   intro t k
   by_cases hcd : p1 < (0 : Int32)
   · refine kfN X0 hx hby (D12 1) ((if0 _ _).trans (tlt (hcd : p1 < (0 : Int32))).2.1) ?_
     refine kiN X0 hx hby (D12 3) rfl ?_
     refine kineg X0 hx hby (D12 4) ?_
     refine kg X0 hx (pc0 := 6) (pc' := 10) rfl hby (D12 5) (by decide) (by decide) ?_
     rw [hr1, if_pos hcd] at k
     exact k
   · refine kfY X0 hx (pc0 := 1) (pc' := 9) rfl hby (D12 1) ((if0 _ _).trans (flt (hcd : ¬ (p1 < (0 : Int32)))).2.1) (by decide) (by decide) ?_
     refine kiN X0 hx hby (D12 2) rfl ?_
     rw [hr1, if_neg hcd] at k
     exact k
 refine br1_ _ ?_
 exact retI X0 hx hret (hb hby (D12 6)) hr
theorem pd7 : parseMethodDescriptor "(Ljava/math/MutableBigInteger;)Ljava/math/MutableBigInteger;" = some ⟨[(.object "java/math/MutableBigInteger")], some (.object "java/math/MutableBigInteger")⟩ := by decide +kernel
abbrev Y10 : MethodName := ⟨"java/math/MutableBigInteger", "hybridGCD", "(Ljava/math/MutableBigInteger;)Ljava/math/MutableBigInteger;"⟩
theorem ef10_RR (m : MethodId) (x0 : Addr) (x1 : Addr) : entryFrame m #[(.ref x0), (.ref x1)] 5 = mkF m 0 #[rv x0, rv x1, .unset, .unset, .unset] [] := by first | (simp [entryFrame, mkF, argsToLocals, Value.category]; done) | rfl
def Q_rmHy (Z : State) (o1 : Addr) (o2 : Addr) (a1 : Addr) (n1 : Nat) (a2 : Addr) (n2 : Nat) (h0 : Heap) (n0 : Nat) (v : Option Value) (h : Heap) (L : List Loc) : Prop := ∃ (r1 : Addr) (t1 : Addr), v = some (.ref r1) ∧ Fr n0 L ∧ Keep h0 h [o1, a1, o2, a2] ∧ (own_MB Z h r1 t1 (Nat.gcd n1 n2)) ∧ (h0.size ≤ r1) ∧ (h0.size ≤ t1)
theorem rmHy (l : Launch) (Z : State) (a0 : Array Value) (hw : own_W Z a0) (ws : List Jvm.Cond) (o1 : Addr) (o2 : Addr) (a1 : Addr) (n1 : Nat) (a2 : Addr) (n2 : Nat) (h0 : Heap) (n0 : Nat) (Z0 : n0 ≤ h0.size) (M1 : own_MB Z h0 o1 a1 n1) (M2 : own_MB Z h0 o2 a2 n2) (n12 : o1 ≠ o2) (m12 : a1 ≠ a2) (g1 : n0 ≤ o1) (g2 : n0 ≤ a1) (g3 : n0 ≤ o2) (g4 : n0 ≤ a2) (gb : Nat.gcd n1 n2 < 4294967296) : own_Met l Y10 jdk_2101_method_72_code 5 (some (.object "java/math/MutableBigInteger")) ⟨4, 4, 8, 69⟩ ws #[(.ref o1), (.ref o2)] Z h0 (Q_rmHy Z o1 o2 a1 n1 a2 n2 h0 n0) := by
 refine own_go (plainFor_of_name pn_java_math_MutableBigInteger) (fun m => ef10_RR m o1 o2) fun p e s m below meth c s₁ hx hby hml hown hnm hret hZ e0 X0 => ?_
 have N0 := Fr.nil n0
 obtain ⟨T1_, h1_, X1_, e1_, E1_, A1_, D1_, U1_, st1_⟩ := newO X0 hx hZ hown (wt hw 72 rfl) (wt hw 40 rfl) (wt hw 41 rfl) e0 (g := (mkF m 2 #[rv o1, rv o2, rv o1, .unset, .unset] [])) rfl (hb hby (D10 2)) (by exact own_b rfl) (by exact own_b rfl)
 obtain ⟨b1_, g1_⟩ : ∃ z, z = h0.size := ⟨_, rfl⟩
 rw [← g1_] at A1_ D1_ U1_ st1_
 have F1__offset : Fld Z h1_ b1_ "java/math/MutableBigInteger" "offset" "I" (.int 0) := D1_ (Or.inl (wt hw 48 rfl)) (ty := .int) (by decide)
 have F1__intLen : Fld Z h1_ b1_ "java/math/MutableBigInteger" "intLen" "I" (.int 0) := D1_ (Or.inl (wt hw 51 rfl)) (ty := .int) (by decide)
 have F1__value : Fld Z h1_ b1_ "java/math/MutableBigInteger" "value" "[I" .null := D1_ (Or.inl (wt hw 66 rfl)) (ty := (.array .int)) (by decide)
 have g3_ : n0 ≤ b1_ := Nat.le_trans Z0 (Nat.le_of_eq g1_.symm)
 have z4_ : n0 ≤ h1_.size := Nat.le_trans Z0 E1_.1
 obtain ⟨T2_, Lc2_, v2_, X2_, hQ2_, st2_⟩ := own_cI (y := Y11) X1_ hx hZ hown (wt hw 73 rfl) (wt hw 74 rfl) (wt hw 75 rfl) (wt hw 41 rfl) rfl (by decide) (rmM0 l Z a0 hw [] b1_ h1_ n0 z4_ A1_ F1__value F1__intLen F1__offset g3_) e1_ (pc := 6) (Ls := #[rv o1, rv o2, rv o1, .unset, .unset]) (stk := [(.ref b1_), (.ref b1_)]) (rest := [(.ref b1_)]) (by rw [hml]; rfl) pd3 rfl rfl (W := 1) rfl hby (D10 4) (by decide) (by decide) (by exact own_b rfl) (by exact own_b rfl)
 obtain ⟨t1_2_, k1_2_, rfl, Nq2_, ek2_, p2__0, p2__1, p2__2, p2__3, p2__4, p2__5⟩ := hQ2_
 have N2_ := Fr.app N0 Nq2_
 have f5_ := (M2.2.2.2.1.ext E1_).keep ek2_ (ninS (Nat.ne_of_lt (Nat.lt_of_lt_of_le M2.1.lt (Nat.le_of_eq g1_.symm))) nin0)
 obtain ⟨T6_, X6_, e6_, st6_⟩ := own_gN (pc := 10) (Ls := #[rv o1, rv o2, rv o1, rv b1_, .unset]) (stk := []) X2_ hx hZ hown (wt hw 50 rfl) rfl f5_ hby (D10 6) (D10 7) rfl
 have f7_ := (M1.2.2.2.1.ext E1_).keep ek2_ (ninS (Nat.ne_of_lt (Nat.lt_of_lt_of_le M1.1.lt (Nat.le_of_eq g1_.symm))) nin0)
 obtain ⟨T8_, X8_, e8_, st8_⟩ := own_gN (pc := 17) (Ls := #[rv o1, rv o2, rv o1, rv b1_, .unset]) (stk := []) X6_ hx hZ hown (wt hw 50 rfl) e6_ f7_ hby (D10 9) (D10 10) rfl
 obtain ⟨T9_, X9_, e9_, st9_⟩ := own_gN (pc := 21) (Ls := #[rv o1, rv o2, rv o1, rv b1_, .unset]) (stk := [(.int (own_len n1))]) X8_ hx hZ hown (wt hw 50 rfl) e8_ f5_ hby (D10 11) (D10 12) rfl
 have z11_ : n0 ≤ T2_.heap.size := Nat.le_trans z4_ ek2_.1
 obtain ⟨T10_, Lc10_, v10_, X10_, hQ10_, st10_⟩ := own_cS (y := Y12) X9_ hx hZ hown (wt hw 76 rfl) (wt hw 77 rfl) (wt hw 79 rfl) (wt hw 78 rfl) (by decide) (rmAbI l Z a0 hw [] ((own_len n1) - (own_len n2)) (if ((own_len n1) - (own_len n2)) < (0 : Int32) then (-((own_len n1) - (own_len n2))) else ((own_len n1) - (own_len n2))) T2_.heap n0 z11_ rfl) e9_ (pc := 26) (Ls := #[rv o1, rv o2, rv o1, rv b1_, .unset]) (stk := [(.int ((own_len n1) - (own_len n2)))]) (rest := []) (by rw [hml]; rfl) pd0 rfl rfl (W := 0) rfl hby (D10 14) (by decide) (by decide) (by exact own_b rfl) (by exact own_b rfl)
 obtain ⟨rfl, Nq10_, ek10_⟩ := hQ10_
 have N10_ := Fr.app N2_ Nq10_
 have f13_ := (M1.ext E1_).keep ek2_ (ninS (Nat.ne_of_lt (Nat.lt_of_lt_of_le M1.1.lt (Nat.le_of_eq g1_.symm))) nin0) (ninS (Nat.ne_of_lt (Nat.lt_of_lt_of_le M1.2.1.lt (Nat.le_of_eq g1_.symm))) nin0)
 have f14_ := (M2.ext E1_).keep ek2_ (ninS (Nat.ne_of_lt (Nat.lt_of_lt_of_le M2.1.lt (Nat.le_of_eq g1_.symm))) nin0) (ninS (Nat.ne_of_lt (Nat.lt_of_lt_of_le M2.2.1.lt (Nat.le_of_eq g1_.symm))) nin0)
 have f15_ := (M1.1.ext E1_).keep ek2_
 obtain ⟨T12_, Lc12_, v12_, X12_, hQ12_, st12_⟩ := own_cV (y := Y13) X10_ hx hZ hown (wt hw 80 rfl) (wt hw 81 rfl) (wt hw 83 rfl) (wt hw 84 rfl) (wt hw 41 rfl) (by decide) (rmGC l Z a0 hw [] o1 o2 a1 n1 a2 n2 T2_.heap n0 z11_ f13_ f14_ n12 m12 g1 g2 g3 g4 gb) f15_ ek10_ (pc := 35) (Ls := #[rv o1, rv o2, rv o1, rv b1_, .unset]) (stk := [(.ref o2), (.ref o1)]) (rest := []) (by rw [hml]; rfl) pd7 rfl rfl (W := 0) rfl hby (D10 19) (by decide) (by decide) (by exact own_b rfl) (by exact own_b rfl)
 obtain ⟨r1_12_, t1_12_, rfl, Nq12_, ek12_, p12__0, p12__1, p12__2⟩ := hQ12_
 have N12_ := Fr.app N10_ Nq12_
 have k16_ := (Keep.refl h0 [o1, a1, o2, a2]).ext E1_
 have k17_ := k16_.trans ek2_ (allS (Or.inr (Nat.le_trans (Keep.refl h0 [o1, a1, o2, a2]).1 (Nat.le_of_eq g1_.symm))) all0)
 have k18_ := k17_.trans ek12_ (allS (own_in 0 rfl) (allS (own_in 1 rfl) (allS (own_in 2 rfl) (allS (own_in 3 rfl) all0))))
 refine ⟨_, _, _, _, some (.ref r1_12_), X12_, (by exact own_b rfl), (by exact own_b rfl), nofun, (by show Q_rmHy Z o1 o2 a1 n1 a2 n2 h0 n0 _ T12_.heap _; exact ⟨r1_12_, t1_12_, rfl, N12_, k18_, p12__0, (Nat.le_trans k17_.1 p12__1), (Nat.le_trans k17_.1 p12__2)⟩), fun fs hr => ?_⟩
 refine kaN X0 hx hby (D10 0) rfl rfl ?_
 refine ktN X0 hx hby (D10 1) rfl (l' := #[rv o1, rv o2, rv o1, .unset, .unset]) rfl ?_
 show Steps p.tables e below (s₁.setTop (mkF m 2 #[rv o1, rv o2, rv o1, .unset, .unset] [])) _
 refine st1_ _ ?_
 show Steps p.tables e below (T1_.setTop (mkF m 5 #[rv o1, rv o2, rv o1, .unset, .unset] [(.ref b1_)])) _
 refine kdup X1_ hx hby (D10 3) rfl ?_
 refine st2_ _ ?_
 refine ktN X2_ hx hby (D10 5) rfl (l' := #[rv o1, rv o2, rv o1, rv b1_, .unset]) rfl ?_
 refine st6_ _ ?_
 refine kfN X6_ hx hby (D10 8) ((if0 _ _).trans (feq ((own_len_nz (own_MB.nz M2)) : ¬ ((own_len n2) = (0 : Int32)))).1) ?_
 refine st8_ _ ?_
 refine st9_ _ ?_
 refine kis X9_ hx hby (D10 13) ?_
 refine st10_ _ ?_
 refine kc X10_ hx hby (D10 15) ?_
 refine kcN X10_ hx hby (D10 16) (tlt ((own_abs2 n1 n2 (own_MB.nz M1) (own_MB.nz M2)) : (if ((own_len n1) - (own_len n2)) < (0 : Int32) then (-((own_len n1) - (own_len n2))) else ((own_len n1) - (own_len n2))) < (2 : Int32))).2.1 ?_
 refine kaN X10_ hx hby (D10 17) rfl rfl ?_
 refine kaN X10_ hx hby (D10 18) rfl rfl ?_
 refine st12_ _ ?_
 exact retR X12_ hx hret rfl rfl rfl (hb hby (D10 20)) hr
abbrev Y43 : MethodName := ⟨"java/lang/Math", "min", "(II)I"⟩
theorem ef43_II (m : MethodId) (x0 : Int32) (x1 : Int32) : entryFrame m #[(.int x0), (.int x1)] 2 = mkF m 0 #[iv x0, iv x1] [] := by first | (simp [entryFrame, mkF, argsToLocals, Value.category]; done) | rfl
def Q_mi2 (Z : State)  (h0 : Heap) (n0 : Nat) (v : Option Value) (h : Heap) (L : List Loc) : Prop := v = some (.int 1) ∧ Fr n0 L ∧ h = h0
theorem mi2 (l : Launch) (Z : State) (a0 : Array Value) (hw : own_W Z a0) (ws : List Jvm.Cond)  (h0 : Heap) (n0 : Nat) (Z0 : n0 ≤ h0.size)  : own_Met l Y43 jdk_29_method_69_code 2 (some .int) ⟨0, 0, 0, 0⟩ ws #[(.int 2), (.int 1)] Z h0 (Q_mi2 Z  h0 n0) := by
 refine own_go (Jvm.Free.JP.mathPlain rfl (by decide +kernel)) (fun m => ef43_II m (2 : Int32) (1 : Int32)) fun p e s m below meth c s₁ hx hby hml hown hnm hret hZ e0 X0 => ?_
 have N0 := Fr.nil n0
 refine ⟨_, _, _, _, some (.int 1), X0, (by exact own_b rfl), (by exact own_b rfl), nofun, (by show Q_mi2 Z  h0 n0 _ s₁.heap _; rw [e0]; exact ⟨rfl, N0, rfl⟩), fun fs hr => ?_⟩
 refine kiN X0 hx hby (D43 0) rfl ?_
 refine kiN X0 hx hby (D43 1) rfl ?_
 refine kcY X0 hx (pc0 := 2) (pc' := 9) rfl hby (D43 2) (tlt ((by decide) : (1 : Int32) < (2 : Int32))).2.2.1 (by decide) (by decide) ?_
 refine kiN X0 hx hby (D43 3) rfl ?_
 exact retI X0 hx hret (hb hby (D43 4)) hr
def Q_mi1 (Z : State)  (h0 : Heap) (n0 : Nat) (v : Option Value) (h : Heap) (L : List Loc) : Prop := v = some (.int 1) ∧ Fr n0 L ∧ h = h0
theorem mi1 (l : Launch) (Z : State) (a0 : Array Value) (hw : own_W Z a0) (ws : List Jvm.Cond)  (h0 : Heap) (n0 : Nat) (Z0 : n0 ≤ h0.size)  : own_Met l Y43 jdk_29_method_69_code 2 (some .int) ⟨0, 0, 0, 0⟩ ws #[(.int 1), (.int 1)] Z h0 (Q_mi1 Z  h0 n0) := by
 refine own_go (Jvm.Free.JP.mathPlain rfl (by decide +kernel)) (fun m => ef43_II m (1 : Int32) (1 : Int32)) fun p e s m below meth c s₁ hx hby hml hown hnm hret hZ e0 X0 => ?_
 have N0 := Fr.nil n0
 refine ⟨_, _, _, _, some (.int 1), X0, (by exact own_b rfl), (by exact own_b rfl), nofun, (by show Q_mi1 Z  h0 n0 _ s₁.heap _; rw [e0]; exact ⟨rfl, N0, rfl⟩), fun fs hr => ?_⟩
 refine kiN X0 hx hby (D43 0) rfl ?_
 refine kiN X0 hx hby (D43 1) rfl ?_
 refine kcN X0 hx hby (D43 2) (flt ((by decide) : ¬ ((1 : Int32) < (1 : Int32)))).2.2.1 ?_
 refine kiN X0 hx hby (D43 5) rfl ?_
 refine kg X0 hx (pc0 := 6) (pc' := 10) rfl hby (D43 6) (by decide) (by decide) ?_
 exact retI X0 hx hret (hb hby (D43 4)) hr
abbrev Y42 : MethodName := ⟨"java/util/Arrays", "checkLength", "(II)V"⟩
theorem ef42_II (m : MethodId) (x0 : Int32) (x1 : Int32) : entryFrame m #[(.int x0), (.int x1)] 2 = mkF m 0 #[iv x0, iv x1] [] := by first | (simp [entryFrame, mkF, argsToLocals, Value.category]; done) | rfl
def Q_cl0 (Z : State)  (h0 : Heap) (n0 : Nat) (v : Option Value) (h : Heap) (L : List Loc) : Prop := v = none ∧ Fr n0 L ∧ h = h0
theorem cl0 (l : Launch) (Z : State) (a0 : Array Value) (hw : own_W Z a0) (ws : List Jvm.Cond)  (h0 : Heap) (n0 : Nat) (Z0 : n0 ≤ h0.size)  : own_Met l Y42 jdk_65_method_131_code 2 none ⟨0, 0, 0, 0⟩ ws #[(.int 0), (.int 1)] Z h0 (Q_cl0 Z  h0 n0) := by
 refine own_go (plainFor_of_name pn_java_util_Arrays) (fun m => ef42_II m (0 : Int32) (1 : Int32)) fun p e s m below meth c s₁ hx hby hml hown hnm hret hZ e0 X0 => ?_
 have N0 := Fr.nil n0
 refine ⟨_, _, _, _, none, X0, (by exact own_b rfl), (by exact own_b rfl), (fun _ => rfl), (by show Q_cl0 Z  h0 n0 _ s₁.heap _; rw [e0]; exact ⟨rfl, N0, rfl⟩), fun fs hr => ?_⟩
 refine kiN X0 hx hby (D42 0) rfl ?_
 refine kiN X0 hx hby (D42 1) rfl ?_
 refine kcY X0 hx (pc0 := 2) (pc' := 37) rfl hby (D42 2) (flt ((by decide) : ¬ ((1 : Int32) < (0 : Int32)))).2.1 (by decide) (by decide) ?_
 exact X0.returnOut hx hret (hb hby (D42 3)) hr
theorem pd8 : parseMethodDescriptor "(II)V" = some ⟨[.int, .int], none⟩ := by decide +kernel
abbrev Y41 : MethodName := ⟨"java/util/Arrays", "copyOfRangeInt", "([III)[I"⟩
theorem ef41_RII (m : MethodId) (x0 : Addr) (x1 : Int32) (x2 : Int32) : entryFrame m #[(.ref x0), (.int x1), (.int x2)] 5 = mkF m 0 #[rv x0, iv x1, iv x2, .unset, .unset] [] := by first | (simp [entryFrame, mkF, argsToLocals, Value.category]; done) | rfl
def Q_ci0 (Z : State) (a1 : Addr) (k1 : ClassId) (x1 : Int32) (y1 : Int32) (h0 : Heap) (n0 : Nat) (v : Option Value) (h : Heap) (L : List Loc) : Prop := ∃ (t1 : Addr) (k2 : ClassId), v = some (.ref t1) ∧ Fr n0 L ∧ Keep h0 h [] ∧ (Exa Z h t1 "[I") ∧ (Arv Z h t1 k2 .int (1 : Int32) [(.int x1)] (.int 0)) ∧ (h0.size ≤ t1)
theorem ci0 (l : Launch) (Z : State) (a0 : Array Value) (hw : own_W Z a0) (ws : List Jvm.Cond) (a1 : Addr) (k1 : ClassId) (x1 : Int32) (y1 : Int32) (h0 : Heap) (n0 : Nat) (Z0 : n0 ≤ h0.size) (V1 : Arv Z h0 a1 k1 .int (2 : Int32) [(.int x1), (.int y1)] (.int 0)) : own_Met l Y41 jdk_65_method_137_code 5 (some (.array .int)) ⟨1, 1, 1, 18⟩ ws #[(.ref a1), (.int 0), (.int 1)] Z h0 (Q_ci0 Z a1 k1 x1 y1 h0 n0) := by
 refine own_go (plainFor_of_name pn_java_util_Arrays) (fun m => ef41_RII m a1 (0 : Int32) (1 : Int32)) fun p e s m below meth c s₁ hx hby hml hown hnm hret hZ e0 X0 => ?_
 have N0 := Fr.nil n0
 obtain ⟨T1_, Lc1_, v1_, X1_, hQ1_, st1_⟩ := own_cS (y := Y42) X0 hx hZ hown (wt hw 225 rfl) (wt hw 226 rfl) (wt hw 227 rfl) (wt hw 54 rfl) (by decide) (cl0 l Z a0 hw []  h0 n0 Z0 ) e0 (pc := 2) (Ls := #[rv a1, iv 0, iv 1, .unset, .unset]) (stk := [(.int 1), (.int 0)]) (rest := []) (by rw [hml]; rfl) pd8 rfl rfl (W := 0) rfl hby (D41 2) (by decide) (by decide) (by exact own_b rfl) (by exact own_b rfl)
 obtain ⟨rfl, Nq1_, ek1_⟩ := hQ1_
 have N1_ := Fr.app N0 Nq1_
 obtain ⟨T2_, h2_, k2_, X2_, e2_, E2_, A2_, Y2_, st2_⟩ := newPE X1_ hx hZ (wt hw 22 rfl) ek1_ (g := (mkF m 10 #[rv a1, iv 0, iv 1, iv 1, .unset] [(.int 1)])) rfl (hb hby (D41 8)) rfl (by decide) (cap := 1) (by decide) (by decide) (by exact own_b rfl) (by exact own_b rfl) (ad := "[I") (by decide +kernel)
 obtain ⟨b2_, g2_⟩ : ∃ z, z = h0.size := ⟨_, rfl⟩
 rw [← g2_] at A2_ Y2_ st2_
 have v2_ : Arv Z h2_ b2_ k2_ .int (1 : Int32) [(.int 0)] (.int 0) := (Arv.new A2_ (by decide)).pad (pad_rep [] (.int 0) 1)
 have f3_ := V1.ext E2_
 have z5_ : n0 ≤ h2_.size := Nat.le_trans Z0 E2_.1
 obtain ⟨T4_, Lc4_, v4_, X4_, hQ4_, st4_⟩ := own_cS (y := Y43) X2_ hx hZ hown (wt hw 228 rfl) (wt hw 229 rfl) (wt hw 230 rfl) (wt hw 78 rfl) (by decide) (mi2 l Z a0 hw []  h2_ n0 z5_ ) e2_ (pc := 24) (Ls := #[rv a1, iv 0, iv 1, iv 1, rv b2_]) (stk := [(.int 1), (.int 2), (.int 0), (.ref b2_), (.int 0), (.ref a1)]) (rest := [(.int 0), (.ref b2_), (.int 0), (.ref a1)]) (by rw [hml]; rfl) pd6 rfl rfl (W := 4) rfl hby (D41 19) (by decide) (by decide) (by exact own_b rfl) (by exact own_b rfl)
 obtain ⟨rfl, Nq4_, ek4_⟩ := hQ4_
 have N4_ := Fr.app N1_ Nq4_
 have g7_ : n0 ≤ b2_ := Nat.le_trans Z0 (Nat.le_of_eq g2_.symm)
 obtain ⟨T6_, h6_, L6_, X6_, e6_, N6_, K6_, V6_, st6_⟩ := cpA X4_ hx hZ hown (wt hw 231 rfl) (wt hw 234 rfl) (wt hw 232 rfl) (wt hw 233 rfl) ek4_ f3_ v2_ (us := [(.int x1)]) (Or.inl ⟨rfl, rfl⟩) (by decide) (by decide) (by decide) (by decide) (by decide) rfl (by decide) N4_ g7_ (g := (mkF m 27 #[rv a1, iv 0, iv 1, iv 1, rv b2_] [(.int 1), (.int 0), (.ref b2_), (.int 0), (.ref a1)])) rfl (by rw [hml]; rfl) rfl (hb hby (D41 20)) (by decide) (W := 0) (by show 2 * 0 + _ ≤ _; exact Nat.le_of_eq rfl) (by decide)
 have v6_ : Arv Z h6_ b2_ k2_ .int (1 : Int32) [(.int x1)] (.int 0) := V6_
 have f8_ := Y2_.keep K6_
 have k9_ := (Keep.refl h0 []).ext E2_
 have k10_ := k9_.trans K6_ (allS (Or.inr (Nat.le_trans (Keep.refl h0 []).1 (Nat.le_of_eq g2_.symm))) all0)
 refine ⟨_, _, _, _, some (.ref b2_), X6_, (by exact own_b rfl), (by exact own_b rfl), nofun, (by show Q_ci0 Z a1 k1 x1 y1 h0 n0 _ T6_.heap _; rw [e6_]; exact ⟨b2_, k2_, rfl, N6_, k10_, f8_, v6_, (Nat.le_trans (Keep.refl h0 []).1 (Nat.le_of_eq g2_.symm))⟩), fun fs hr => ?_⟩
 refine kiN X0 hx hby (D41 0) rfl ?_
 refine kiN X0 hx hby (D41 1) rfl ?_
 refine st1_ _ ?_
 refine kiN X1_ hx hby (D41 3) rfl ?_
 refine kiN X1_ hx hby (D41 4) rfl ?_
 refine kis X1_ hx hby (D41 5) ?_
 refine ksN X1_ hx hby (D41 6) (l' := #[rv a1, iv 0, iv 1, iv 1, .unset]) rfl ?_
 refine kiN X1_ hx hby (D41 7) rfl ?_
 show Steps p.tables e below (T1_.setTop (mkF m 10 #[rv a1, iv 0, iv 1, iv 1, .unset] [(.int 1)])) _
 refine st2_ _ ?_
 show Steps p.tables e below (T2_.setTop (mkF m 12 #[rv a1, iv 0, iv 1, iv 1, .unset] [(.ref b2_)])) _
 refine kastore X2_ hx hby (D41 9) rfl (l' := #[rv a1, iv 0, iv 1, iv 1, rv b2_]) rfl ?_
 refine kaN X2_ hx hby (D41 10) rfl rfl ?_
 refine kiN X2_ hx hby (D41 11) rfl ?_
 refine ka X2_ hx hby (D41 12) rfl rfl ?_
 refine kc X2_ hx hby (D41 13) ?_
 refine kaN X2_ hx hby (D41 14) rfl rfl ?_
 refine own_al X2_ hx hZ e2_ f3_ hby (D41 15) ?_
 refine kiN X2_ hx hby (D41 16) rfl ?_
 refine kis X2_ hx hby (D41 17) ?_
 refine kiN X2_ hx hby (D41 18) rfl ?_
 refine st4_ _ ?_
 show Steps p.tables e below (T4_.setTop (mkF m 27 #[rv a1, iv 0, iv 1, iv 1, rv b2_] [(.int 1), (.int 0), (.ref b2_), (.int 0), (.ref a1)])) _
 refine st6_ _ ?_
 show Steps p.tables e below (T6_.setTop (mkF m 30 #[rv a1, iv 0, iv 1, iv 1, rv b2_] [])) _
 refine ka X6_ hx hby (D41 21) rfl rfl ?_
 exact retR X6_ hx hret rfl rfl rfl (hb hby (D41 22)) hr
theorem pd9 : parseMethodDescriptor "([III)[I" = some ⟨[(.array .int), .int, .int], some (.array .int)⟩ := by decide +kernel
abbrev Y40 : MethodName := ⟨"java/util/Arrays", "copyOfRange", "([III)[I"⟩
theorem ef40_RII (m : MethodId) (x0 : Addr) (x1 : Int32) (x2 : Int32) : entryFrame m #[(.ref x0), (.int x1), (.int x2)] 3 = mkF m 0 #[rv x0, iv x1, iv x2] [] := by first | (simp [entryFrame, mkF, argsToLocals, Value.category]; done) | rfl
def Q_co0 (Z : State) (a1 : Addr) (k1 : ClassId) (x1 : Int32) (y1 : Int32) (h0 : Heap) (n0 : Nat) (v : Option Value) (h : Heap) (L : List Loc) : Prop := ∃ (t1 : Addr) (k2 : ClassId), v = some (.ref t1) ∧ Fr n0 L ∧ Keep h0 h [] ∧ (Exa Z h t1 "[I") ∧ (Arv Z h t1 k2 .int (1 : Int32) [(.int x1)] (.int 0)) ∧ (h0.size ≤ t1)
theorem co0 (l : Launch) (Z : State) (a0 : Array Value) (hw : own_W Z a0) (ws : List Jvm.Cond) (a1 : Addr) (k1 : ClassId) (x1 : Int32) (y1 : Int32) (h0 : Heap) (n0 : Nat) (Z0 : n0 ≤ h0.size) (V1 : Arv Z h0 a1 k1 .int (2 : Int32) [(.int x1), (.int y1)] (.int 0)) : own_Met l Y40 jdk_65_method_136_code 3 (some (.array .int)) ⟨2, 1, 1, 34⟩ ws #[(.ref a1), (.int 0), (.int 1)] Z h0 (Q_co0 Z a1 k1 x1 y1 h0 n0) := by
 refine own_go (plainFor_of_name pn_java_util_Arrays) (fun m => ef40_RII m a1 (0 : Int32) (1 : Int32)) fun p e s m below meth c s₁ hx hby hml hown hnm hret hZ e0 X0 => ?_
 have N0 := Fr.nil n0
 obtain ⟨T1_, Lc1_, v1_, X1_, hQ1_, st1_⟩ := own_cS (y := Y41) X0 hx hZ hown (wt hw 222 rfl) (wt hw 223 rfl) (wt hw 224 rfl) (wt hw 54 rfl) (by decide) (ci0 l Z a0 hw [] a1 k1 x1 y1 h0 n0 Z0 V1) e0 (pc := 13) (Ls := #[rv a1, iv 0, iv 1]) (stk := [(.int 1), (.int 0), (.ref a1)]) (rest := []) (by rw [hml]; rfl) pd9 rfl rfl (W := 0) rfl hby (D40 9) (by decide) (by decide) (by exact own_b rfl) (by exact own_b rfl)
 obtain ⟨t1_1_, k2_1_, rfl, Nq1_, ek1_, p1__0, p1__1, p1__2⟩ := hQ1_
 have N1_ := Fr.app N0 Nq1_
 have k2_ := (Keep.refl h0 []).trans ek1_ all0
 refine ⟨_, _, _, _, some (.ref t1_1_), X1_, (by exact own_b rfl), (by exact own_b rfl), nofun, (by show Q_co0 Z a1 k1 x1 y1 h0 n0 _ T1_.heap _; exact ⟨t1_1_, k2_1_, rfl, N1_, k2_, p1__0, p1__1, (Nat.le_trans (Keep.refl h0 []).1 p1__2)⟩), fun fs hr => ?_⟩
 refine kiN X0 hx hby (D40 0) rfl ?_
 refine kfN X0 hx hby (D40 1) ((if0 _ _).trans (teq ((by decide) : (0 : Int32) = (0 : Int32))).2) ?_
 refine kiN X0 hx hby (D40 2) rfl ?_
 refine kaN X0 hx hby (D40 3) rfl rfl ?_
 refine own_al X0 hx hZ e0 V1 hby (D40 4) ?_
 refine kcN X0 hx hby (D40 5) (feq ((by decide) : ¬ ((1 : Int32) = (2 : Int32)))).1 ?_
 refine kaN X0 hx hby (D40 6) rfl rfl ?_
 refine kiN X0 hx hby (D40 7) rfl ?_
 refine kiN X0 hx hby (D40 8) rfl ?_
 refine st1_ _ ?_
 exact retR X1_ hx hret rfl rfl rfl (hb hby (D40 10)) hr
def Q_cl1 (Z : State)  (h0 : Heap) (n0 : Nat) (v : Option Value) (h : Heap) (L : List Loc) : Prop := v = none ∧ Fr n0 L ∧ h = h0
theorem cl1 (l : Launch) (Z : State) (a0 : Array Value) (hw : own_W Z a0) (ws : List Jvm.Cond)  (h0 : Heap) (n0 : Nat) (Z0 : n0 ≤ h0.size)  : own_Met l Y42 jdk_65_method_131_code 2 none ⟨0, 0, 0, 0⟩ ws #[(.int 1), (.int 2)] Z h0 (Q_cl1 Z  h0 n0) := by
 refine own_go (plainFor_of_name pn_java_util_Arrays) (fun m => ef42_II m (1 : Int32) (2 : Int32)) fun p e s m below meth c s₁ hx hby hml hown hnm hret hZ e0 X0 => ?_
 have N0 := Fr.nil n0
 refine ⟨_, _, _, _, none, X0, (by exact own_b rfl), (by exact own_b rfl), (fun _ => rfl), (by show Q_cl1 Z  h0 n0 _ s₁.heap _; rw [e0]; exact ⟨rfl, N0, rfl⟩), fun fs hr => ?_⟩
 refine kiN X0 hx hby (D42 0) rfl ?_
 refine kiN X0 hx hby (D42 1) rfl ?_
 refine kcY X0 hx (pc0 := 2) (pc' := 37) rfl hby (D42 2) (flt ((by decide) : ¬ ((2 : Int32) < (1 : Int32)))).2.1 (by decide) (by decide) ?_
 exact X0.returnOut hx hret (hb hby (D42 3)) hr
def Q_ci1 (Z : State) (a1 : Addr) (k1 : ClassId) (x1 : Int32) (y1 : Int32) (h0 : Heap) (n0 : Nat) (v : Option Value) (h : Heap) (L : List Loc) : Prop := ∃ (t1 : Addr) (k2 : ClassId), v = some (.ref t1) ∧ Fr n0 L ∧ Keep h0 h [] ∧ (Exa Z h t1 "[I") ∧ (Arv Z h t1 k2 .int (1 : Int32) [(.int y1)] (.int 0)) ∧ (h0.size ≤ t1)
theorem ci1 (l : Launch) (Z : State) (a0 : Array Value) (hw : own_W Z a0) (ws : List Jvm.Cond) (a1 : Addr) (k1 : ClassId) (x1 : Int32) (y1 : Int32) (h0 : Heap) (n0 : Nat) (Z0 : n0 ≤ h0.size) (V1 : Arv Z h0 a1 k1 .int (2 : Int32) [(.int x1), (.int y1)] (.int 0)) : own_Met l Y41 jdk_65_method_137_code 5 (some (.array .int)) ⟨1, 1, 1, 18⟩ ws #[(.ref a1), (.int 1), (.int 2)] Z h0 (Q_ci1 Z a1 k1 x1 y1 h0 n0) := by
 refine own_go (plainFor_of_name pn_java_util_Arrays) (fun m => ef41_RII m a1 (1 : Int32) (2 : Int32)) fun p e s m below meth c s₁ hx hby hml hown hnm hret hZ e0 X0 => ?_
 have N0 := Fr.nil n0
 obtain ⟨T1_, Lc1_, v1_, X1_, hQ1_, st1_⟩ := own_cS (y := Y42) X0 hx hZ hown (wt hw 225 rfl) (wt hw 226 rfl) (wt hw 227 rfl) (wt hw 54 rfl) (by decide) (cl1 l Z a0 hw []  h0 n0 Z0 ) e0 (pc := 2) (Ls := #[rv a1, iv 1, iv 2, .unset, .unset]) (stk := [(.int 2), (.int 1)]) (rest := []) (by rw [hml]; rfl) pd8 rfl rfl (W := 0) rfl hby (D41 2) (by decide) (by decide) (by exact own_b rfl) (by exact own_b rfl)
 obtain ⟨rfl, Nq1_, ek1_⟩ := hQ1_
 have N1_ := Fr.app N0 Nq1_
 obtain ⟨T2_, h2_, k2_, X2_, e2_, E2_, A2_, Y2_, st2_⟩ := newPE X1_ hx hZ (wt hw 22 rfl) ek1_ (g := (mkF m 10 #[rv a1, iv 1, iv 2, iv 1, .unset] [(.int 1)])) rfl (hb hby (D41 8)) rfl (by decide) (cap := 1) (by decide) (by decide) (by exact own_b rfl) (by exact own_b rfl) (ad := "[I") (by decide +kernel)
 obtain ⟨b2_, g2_⟩ : ∃ z, z = h0.size := ⟨_, rfl⟩
 rw [← g2_] at A2_ Y2_ st2_
 have v2_ : Arv Z h2_ b2_ k2_ .int (1 : Int32) [(.int 0)] (.int 0) := (Arv.new A2_ (by decide)).pad (pad_rep [] (.int 0) 1)
 have f3_ := V1.ext E2_
 have z5_ : n0 ≤ h2_.size := Nat.le_trans Z0 E2_.1
 obtain ⟨T4_, Lc4_, v4_, X4_, hQ4_, st4_⟩ := own_cS (y := Y43) X2_ hx hZ hown (wt hw 228 rfl) (wt hw 229 rfl) (wt hw 230 rfl) (wt hw 78 rfl) (by decide) (mi1 l Z a0 hw []  h2_ n0 z5_ ) e2_ (pc := 24) (Ls := #[rv a1, iv 1, iv 2, iv 1, rv b2_]) (stk := [(.int 1), (.int 1), (.int 0), (.ref b2_), (.int 1), (.ref a1)]) (rest := [(.int 0), (.ref b2_), (.int 1), (.ref a1)]) (by rw [hml]; rfl) pd6 rfl rfl (W := 4) rfl hby (D41 19) (by decide) (by decide) (by exact own_b rfl) (by exact own_b rfl)
 obtain ⟨rfl, Nq4_, ek4_⟩ := hQ4_
 have N4_ := Fr.app N1_ Nq4_
 have g7_ : n0 ≤ b2_ := Nat.le_trans Z0 (Nat.le_of_eq g2_.symm)
 obtain ⟨T6_, h6_, L6_, X6_, e6_, N6_, K6_, V6_, st6_⟩ := cpA X4_ hx hZ hown (wt hw 231 rfl) (wt hw 234 rfl) (wt hw 232 rfl) (wt hw 233 rfl) ek4_ f3_ v2_ (us := [(.int y1)]) (Or.inl ⟨rfl, rfl⟩) (by decide) (by decide) (by decide) (by decide) (by decide) rfl (by decide) N4_ g7_ (g := (mkF m 27 #[rv a1, iv 1, iv 2, iv 1, rv b2_] [(.int 1), (.int 0), (.ref b2_), (.int 1), (.ref a1)])) rfl (by rw [hml]; rfl) rfl (hb hby (D41 20)) (by decide) (W := 0) (by show 2 * 0 + _ ≤ _; exact Nat.le_of_eq rfl) (by decide)
 have v6_ : Arv Z h6_ b2_ k2_ .int (1 : Int32) [(.int y1)] (.int 0) := V6_
 have f8_ := Y2_.keep K6_
 have k9_ := (Keep.refl h0 []).ext E2_
 have k10_ := k9_.trans K6_ (allS (Or.inr (Nat.le_trans (Keep.refl h0 []).1 (Nat.le_of_eq g2_.symm))) all0)
 refine ⟨_, _, _, _, some (.ref b2_), X6_, (by exact own_b rfl), (by exact own_b rfl), nofun, (by show Q_ci1 Z a1 k1 x1 y1 h0 n0 _ T6_.heap _; rw [e6_]; exact ⟨b2_, k2_, rfl, N6_, k10_, f8_, v6_, (Nat.le_trans (Keep.refl h0 []).1 (Nat.le_of_eq g2_.symm))⟩), fun fs hr => ?_⟩
 refine kiN X0 hx hby (D41 0) rfl ?_
 refine kiN X0 hx hby (D41 1) rfl ?_
 refine st1_ _ ?_
 refine kiN X1_ hx hby (D41 3) rfl ?_
 refine kiN X1_ hx hby (D41 4) rfl ?_
 refine kis X1_ hx hby (D41 5) ?_
 refine ksN X1_ hx hby (D41 6) (l' := #[rv a1, iv 1, iv 2, iv 1, .unset]) rfl ?_
 refine kiN X1_ hx hby (D41 7) rfl ?_
 show Steps p.tables e below (T1_.setTop (mkF m 10 #[rv a1, iv 1, iv 2, iv 1, .unset] [(.int 1)])) _
 refine st2_ _ ?_
 show Steps p.tables e below (T2_.setTop (mkF m 12 #[rv a1, iv 1, iv 2, iv 1, .unset] [(.ref b2_)])) _
 refine kastore X2_ hx hby (D41 9) rfl (l' := #[rv a1, iv 1, iv 2, iv 1, rv b2_]) rfl ?_
 refine kaN X2_ hx hby (D41 10) rfl rfl ?_
 refine kiN X2_ hx hby (D41 11) rfl ?_
 refine ka X2_ hx hby (D41 12) rfl rfl ?_
 refine kc X2_ hx hby (D41 13) ?_
 refine kaN X2_ hx hby (D41 14) rfl rfl ?_
 refine own_al X2_ hx hZ e2_ f3_ hby (D41 15) ?_
 refine kiN X2_ hx hby (D41 16) rfl ?_
 refine kis X2_ hx hby (D41 17) ?_
 refine kiN X2_ hx hby (D41 18) rfl ?_
 refine st4_ _ ?_
 show Steps p.tables e below (T4_.setTop (mkF m 27 #[rv a1, iv 1, iv 2, iv 1, rv b2_] [(.int 1), (.int 0), (.ref b2_), (.int 1), (.ref a1)])) _
 refine st6_ _ ?_
 show Steps p.tables e below (T6_.setTop (mkF m 30 #[rv a1, iv 1, iv 2, iv 1, rv b2_] [])) _
 refine ka X6_ hx hby (D41 21) rfl rfl ?_
 exact retR X6_ hx hret rfl rfl rfl (hb hby (D41 22)) hr
def Q_co1 (Z : State) (a1 : Addr) (k1 : ClassId) (x1 : Int32) (y1 : Int32) (h0 : Heap) (n0 : Nat) (v : Option Value) (h : Heap) (L : List Loc) : Prop := ∃ (t1 : Addr) (k2 : ClassId), v = some (.ref t1) ∧ Fr n0 L ∧ Keep h0 h [] ∧ (Exa Z h t1 "[I") ∧ (Arv Z h t1 k2 .int (1 : Int32) [(.int y1)] (.int 0)) ∧ (h0.size ≤ t1)
theorem co1 (l : Launch) (Z : State) (a0 : Array Value) (hw : own_W Z a0) (ws : List Jvm.Cond) (a1 : Addr) (k1 : ClassId) (x1 : Int32) (y1 : Int32) (h0 : Heap) (n0 : Nat) (Z0 : n0 ≤ h0.size) (V1 : Arv Z h0 a1 k1 .int (2 : Int32) [(.int x1), (.int y1)] (.int 0)) : own_Met l Y40 jdk_65_method_136_code 3 (some (.array .int)) ⟨2, 1, 1, 34⟩ ws #[(.ref a1), (.int 1), (.int 2)] Z h0 (Q_co1 Z a1 k1 x1 y1 h0 n0) := by
 refine own_go (plainFor_of_name pn_java_util_Arrays) (fun m => ef40_RII m a1 (1 : Int32) (2 : Int32)) fun p e s m below meth c s₁ hx hby hml hown hnm hret hZ e0 X0 => ?_
 have N0 := Fr.nil n0
 obtain ⟨T1_, Lc1_, v1_, X1_, hQ1_, st1_⟩ := own_cS (y := Y41) X0 hx hZ hown (wt hw 222 rfl) (wt hw 223 rfl) (wt hw 224 rfl) (wt hw 54 rfl) (by decide) (ci1 l Z a0 hw [] a1 k1 x1 y1 h0 n0 Z0 V1) e0 (pc := 13) (Ls := #[rv a1, iv 1, iv 2]) (stk := [(.int 2), (.int 1), (.ref a1)]) (rest := []) (by rw [hml]; rfl) pd9 rfl rfl (W := 0) rfl hby (D40 9) (by decide) (by decide) (by exact own_b rfl) (by exact own_b rfl)
 obtain ⟨t1_1_, k2_1_, rfl, Nq1_, ek1_, p1__0, p1__1, p1__2⟩ := hQ1_
 have N1_ := Fr.app N0 Nq1_
 have k2_ := (Keep.refl h0 []).trans ek1_ all0
 refine ⟨_, _, _, _, some (.ref t1_1_), X1_, (by exact own_b rfl), (by exact own_b rfl), nofun, (by show Q_co1 Z a1 k1 x1 y1 h0 n0 _ T1_.heap _; exact ⟨t1_1_, k2_1_, rfl, N1_, k2_, p1__0, p1__1, (Nat.le_trans (Keep.refl h0 []).1 p1__2)⟩), fun fs hr => ?_⟩
 refine kiN X0 hx hby (D40 0) rfl ?_
 refine kfY X0 hx (pc0 := 1) (pc' := 10) rfl hby (D40 1) ((if0 _ _).trans (feq ((by decide) : ¬ ((1 : Int32) = (0 : Int32)))).2) (by decide) (by decide) ?_
 refine kaN X0 hx hby (D40 6) rfl rfl ?_
 refine kiN X0 hx hby (D40 7) rfl ?_
 refine kiN X0 hx hby (D40 8) rfl ?_
 refine st1_ _ ?_
 exact retR X1_ hx hret rfl rfl rfl (hb hby (D40 10)) hr
abbrev Y44 : MethodName := ⟨"java/util/Arrays", "fill", "([II)V"⟩
theorem ef44_RI (m : MethodId) (x0 : Addr) (x1 : Int32) : entryFrame m #[(.ref x0), (.int x1)] 4 = mkF m 0 #[rv x0, iv x1, .unset, .unset] [] := by first | (simp [entryFrame, mkF, argsToLocals, Value.category]; done) | rfl
def Q_rmFi (Z : State) (a1 : Addr) (k1 : ClassId) (x1 : Int32) (y1 : Int32) (h0 : Heap) (n0 : Nat) (v : Option Value) (h : Heap) (L : List Loc) : Prop := v = none ∧ Fr n0 L ∧ Keep h0 h [a1] ∧ (Arv Z h a1 k1 .int (2 : Int32) [(.int 0), (.int 0)] (.int 0))
theorem rmFi (l : Launch) (Z : State) (a0 : Array Value) (hw : own_W Z a0) (ws : List Jvm.Cond) (a1 : Addr) (k1 : ClassId) (x1 : Int32) (y1 : Int32) (h0 : Heap) (n0 : Nat) (Z0 : n0 ≤ h0.size) (V1 : Arv Z h0 a1 k1 .int (2 : Int32) [(.int x1), (.int y1)] (.int 0)) (g1 : n0 ≤ a1) : own_Met l Y44 jdk_65_method_103_code 4 none ⟨0, 0, 0, 0⟩ ws #[(.ref a1), (.int 0)] Z h0 (Q_rmFi Z a1 k1 x1 y1 h0 n0) := by
 refine own_go (plainFor_of_name pn_java_util_Arrays) (fun m => ef44_RI m a1 (0 : Int32)) fun p e s m below meth c s₁ hx hby hml hown hnm hret hZ e0 X0 => ?_
 have N0 := Fr.nil n0
 obtain ⟨T1_, h1_, X1_, e1_, W1_, v1_, N1_, st1_⟩ := own_si (pc := 13) (Ls := #[rv a1, iv 0, iv 0, iv 2]) (stk := [(.int 0), (.int 0), (.ref a1)]) X0 hx hZ e0 V1 ⟨by decide, by decide⟩ 0 rfl (Nat.le_of_ble_eq_true rfl) N0 g1 hby (D44 11) rfl
 obtain ⟨T2_, h2_, X2_, e2_, W2_, v2_, N2_, st2_⟩ := own_si (pc := 13) (Ls := #[rv a1, iv 0, iv 1, iv 2]) (stk := [(.int 0), (.int 1), (.ref a1)]) X1_ hx hZ e1_ v1_ ⟨by decide, by decide⟩ 1 rfl (Nat.le_of_ble_eq_true rfl) N1_ g1 hby (D44 11) rfl
 have k3_ := (Keep.refl h0 [a1]).wr W1_ (own_in 0 rfl)
 have k4_ := k3_.wr W2_ (own_in 0 rfl)
 refine ⟨_, _, _, _, none, X2_, (by exact own_b rfl), (by exact own_b rfl), (fun _ => rfl), (by show Q_rmFi Z a1 k1 x1 y1 h0 n0 _ T2_.heap _; rw [e2_]; exact ⟨rfl, N2_, k4_, v2_⟩), fun fs hr => ?_⟩
 refine kc X0 hx hby (D44 0) ?_
 refine ksN X0 hx hby (D44 1) (l' := #[rv a1, iv 0, iv 0, .unset]) rfl ?_
 refine kaN X0 hx hby (D44 2) rfl rfl ?_
 refine own_al X0 hx hZ e0 V1 hby (D44 3) ?_
 refine ksN X0 hx hby (D44 4) (l' := #[rv a1, iv 0, iv 0, iv 2]) rfl ?_
 refine kiN X0 hx hby (D44 5) rfl ?_
 refine kiN X0 hx hby (D44 6) rfl ?_
 refine kcN X0 hx hby (D44 7) (tlt ((by decide) : (0 : Int32) < (2 : Int32))).2.1 ?_
 refine kaN X0 hx hby (D44 8) rfl rfl ?_
 refine kiN X0 hx hby (D44 9) rfl ?_
 refine kiN X0 hx hby (D44 10) rfl ?_
 refine st1_ _ ?_
 refine kn X1_ hx hby (D44 12) rfl (l' := #[rv a1, iv 0, iv 1, iv 2]) rfl ?_
 refine kg X1_ hx (pc0 := 17) (pc' := 5) rfl hby (D44 13) (by decide) (by decide) ?_
 refine kiN X1_ hx hby (D44 5) rfl ?_
 refine kiN X1_ hx hby (D44 6) rfl ?_
 refine kcN X1_ hx hby (D44 7) (tlt ((by decide) : (1 : Int32) < (2 : Int32))).2.1 ?_
 refine kaN X1_ hx hby (D44 8) rfl rfl ?_
 refine kiN X1_ hx hby (D44 9) rfl ?_
 refine kiN X1_ hx hby (D44 10) rfl ?_
 refine st2_ _ ?_
 refine kn X2_ hx hby (D44 12) rfl (l' := #[rv a1, iv 0, iv 2, iv 2]) rfl ?_
 refine kg X2_ hx (pc0 := 17) (pc' := 5) rfl hby (D44 13) (by decide) (by decide) ?_
 refine kiN X2_ hx hby (D44 5) rfl ?_
 refine kiN X2_ hx hby (D44 6) rfl ?_
 refine kcY X2_ hx (pc0 := 7) (pc' := 20) rfl hby (D44 7) (flt ((by decide) : ¬ ((2 : Int32) < (2 : Int32)))).2.1 (by decide) (by decide) ?_
 exact X2_.returnOut hx hret (hb hby (D44 14)) hr
theorem pd10 : parseMethodDescriptor "([II)V" = some ⟨[(.array .int), .int], none⟩ := by decide +kernel
def Q_rmGm (Z : State) (o1 : Addr) (a1 : Addr) (n1 : Nat) (h0 : Heap) (n0 : Nat) (v : Option Value) (h : Heap) (L : List Loc) : Prop := ∃ (t1 : Addr) (k9 : ClassId), v = some (.ref t1) ∧ Fr n0 L ∧ Keep h0 h [o1, a1] ∧ (Exa Z h t1 "[I") ∧ (Arv Z h t1 k9 .int (own_len n1) (own_mag n1) (.int 0))
abbrev Y24 : MethodName := ⟨"java/math/MutableBigInteger", "getMagnitudeArray", "()[I"⟩
theorem ef24_R (m : MethodId) (x0 : Addr) : entryFrame m #[(.ref x0)] 2 = mkF m 0 #[rv x0, .unset] [] := by first | (simp [entryFrame, mkF, argsToLocals, Value.category]; done) | rfl
theorem gmA (l : Launch) (Z : State) (a0 : Array Value) (hw : own_W Z a0) (ws : List Jvm.Cond) (o1 : Addr) (a1 : Addr) (k1 : ClassId) (hi1 : Int32) (lo1 : Int32) (n1 : Nat) (h0 : Heap) (n0 : Nat) (Z0 : n0 ≤ h0.size) (S1 : own_SH Z h0 o1 a1 (2 : Int32) (0 : Int32) k1 (2 : Int32) [(.int hi1), (.int lo1)]) (nu : own_len n1 = (2 : Int32) ∧ own_mag n1 = [.int hi1, .int lo1]) (g1 : n0 ≤ o1) (g2 : n0 ≤ a1) : own_Met l Y24 jdk_2101_method_7_code 2 (some (.array .int)) ⟨3, 1, 1, 48⟩ ws #[(.ref o1)] Z h0 (Q_rmGm Z o1 a1 n1 h0 n0) := by
 refine own_go (plainFor_of_name pn_java_math_MutableBigInteger) (fun m => ef24_R m o1) fun p e s m below meth c s₁ hx hby hml hown hnm hret hZ e0 X0 => ?_
 have N0 := Fr.nil n0
 obtain ⟨T1_, X1_, e1_, st1_⟩ := own_gN (pc := 0) (Ls := #[rv o1, .unset]) (stk := []) X0 hx hZ hown (wt hw 47 rfl) e0 S1.2.2.2.2.1 hby (D24 0) (D24 1) rfl
 obtain ⟨T2_, X2_, e2_, st2_⟩ := own_gN (pc := 7) (Ls := #[rv o1, .unset]) (stk := []) X1_ hx hZ hown (wt hw 65 rfl) e1_ S1.2.2.1 hby (D24 3) (D24 4) rfl
 obtain ⟨T3_, X3_, e3_, st3_⟩ := own_gN (pc := 12) (Ls := #[rv o1, .unset]) (stk := [(.int 2)]) X2_ hx hZ hown (wt hw 50 rfl) e2_ S1.2.2.2.1 hby (D24 6) (D24 7) rfl
 obtain ⟨T4_, X4_, e4_, st4_⟩ := own_gN (pc := 64) (Ls := #[rv o1, .unset]) (stk := []) X3_ hx hZ hown (wt hw 65 rfl) e3_ S1.2.2.1 hby (D24 9) (D24 10) rfl
 have vm_ : Arv Z h0 a1 k1 .int (own_len n1) (own_mag n1) (.int 0) := by rw [nu.1, nu.2]; exact S1.2.2.2.2.2
 refine ⟨_, _, _, _, some (.ref a1), X4_, (by exact own_b rfl), (by exact own_b rfl), nofun, (by show Q_rmGm Z o1 a1 n1 h0 n0 _ T4_.heap _; rw [e4_]; exact ⟨a1, k1, rfl, N0, (Keep.refl h0 [o1, a1]), S1.2.1, vm_⟩), fun fs hr => ?_⟩
 refine st1_ _ ?_
 refine kfN X1_ hx hby (D24 2) ((if0 _ _).trans (flt ((by decide) : ¬ ((0 : Int32) < (0 : Int32)))).2.2.1) ?_
 refine st2_ _ ?_
 refine own_al X2_ hx hZ e2_ S1.2.2.2.2.2 hby (D24 5) ?_
 refine st3_ _ ?_
 refine kcY X3_ hx (pc0 := 16) (pc' := 64) rfl hby (D24 8) (teq ((by decide) : (2 : Int32) = (2 : Int32))).1 (by decide) (by decide) ?_
 refine st4_ _ ?_
 exact retR X4_ hx hret rfl rfl rfl (hb hby (D24 11)) hr
theorem gmB (l : Launch) (Z : State) (a0 : Array Value) (hw : own_W Z a0) (ws : List Jvm.Cond) (o1 : Addr) (a1 : Addr) (k1 : ClassId) (x1 : Int32) (n1 : Nat) (h0 : Heap) (n0 : Nat) (Z0 : n0 ≤ h0.size) (S1 : own_SH Z h0 o1 a1 (1 : Int32) (0 : Int32) k1 (1 : Int32) [(.int x1)]) (nu : own_len n1 = (1 : Int32) ∧ own_mag n1 = [.int x1]) (g1 : n0 ≤ o1) (g2 : n0 ≤ a1) : own_Met l Y24 jdk_2101_method_7_code 2 (some (.array .int)) ⟨3, 1, 1, 48⟩ ws #[(.ref o1)] Z h0 (Q_rmGm Z o1 a1 n1 h0 n0) := by
 refine own_go (plainFor_of_name pn_java_math_MutableBigInteger) (fun m => ef24_R m o1) fun p e s m below meth c s₁ hx hby hml hown hnm hret hZ e0 X0 => ?_
 have N0 := Fr.nil n0
 obtain ⟨T1_, X1_, e1_, st1_⟩ := own_gN (pc := 0) (Ls := #[rv o1, .unset]) (stk := []) X0 hx hZ hown (wt hw 47 rfl) e0 S1.2.2.2.2.1 hby (D24 0) (D24 1) rfl
 obtain ⟨T2_, X2_, e2_, st2_⟩ := own_gN (pc := 7) (Ls := #[rv o1, .unset]) (stk := []) X1_ hx hZ hown (wt hw 65 rfl) e1_ S1.2.2.1 hby (D24 3) (D24 4) rfl
 obtain ⟨T3_, X3_, e3_, st3_⟩ := own_gN (pc := 12) (Ls := #[rv o1, .unset]) (stk := [(.int 1)]) X2_ hx hZ hown (wt hw 50 rfl) e2_ S1.2.2.2.1 hby (D24 6) (D24 7) rfl
 obtain ⟨T4_, X4_, e4_, st4_⟩ := own_gN (pc := 64) (Ls := #[rv o1, .unset]) (stk := []) X3_ hx hZ hown (wt hw 65 rfl) e3_ S1.2.2.1 hby (D24 9) (D24 10) rfl
 have vm_ : Arv Z h0 a1 k1 .int (own_len n1) (own_mag n1) (.int 0) := by rw [nu.1, nu.2]; exact S1.2.2.2.2.2
 refine ⟨_, _, _, _, some (.ref a1), X4_, (by exact own_b rfl), (by exact own_b rfl), nofun, (by show Q_rmGm Z o1 a1 n1 h0 n0 _ T4_.heap _; rw [e4_]; exact ⟨a1, k1, rfl, N0, (Keep.refl h0 [o1, a1]), S1.2.1, vm_⟩), fun fs hr => ?_⟩
 refine st1_ _ ?_
 refine kfN X1_ hx hby (D24 2) ((if0 _ _).trans (flt ((by decide) : ¬ ((0 : Int32) < (0 : Int32)))).2.2.1) ?_
 refine st2_ _ ?_
 refine own_al X2_ hx hZ e2_ S1.2.2.2.2.2 hby (D24 5) ?_
 refine st3_ _ ?_
 refine kcY X3_ hx (pc0 := 16) (pc' := 64) rfl hby (D24 8) (teq ((by decide) : (1 : Int32) = (1 : Int32))).1 (by decide) (by decide) ?_
 refine st4_ _ ?_
 exact retR X4_ hx hret rfl rfl rfl (hb hby (D24 11)) hr
theorem gmC (l : Launch) (Z : State) (a0 : Array Value) (hw : own_W Z a0) (ws : List Jvm.Cond) (o1 : Addr) (a1 : Addr) (k1 : ClassId) (x1 : Int32) (y1 : Int32) (n1 : Nat) (h0 : Heap) (n0 : Nat) (Z0 : n0 ≤ h0.size) (S1 : own_SH Z h0 o1 a1 (1 : Int32) (0 : Int32) k1 (2 : Int32) [(.int x1), (.int y1)]) (nu : own_len n1 = (1 : Int32) ∧ own_mag n1 = [.int x1]) (g1 : n0 ≤ o1) (g2 : n0 ≤ a1) : own_Met l Y24 jdk_2101_method_7_code 2 (some (.array .int)) ⟨3, 1, 1, 48⟩ ws #[(.ref o1)] Z h0 (Q_rmGm Z o1 a1 n1 h0 n0) := by
 refine own_go (plainFor_of_name pn_java_math_MutableBigInteger) (fun m => ef24_R m o1) fun p e s m below meth c s₁ hx hby hml hown hnm hret hZ e0 X0 => ?_
 have N0 := Fr.nil n0
 obtain ⟨T1_, X1_, e1_, st1_⟩ := own_gN (pc := 0) (Ls := #[rv o1, .unset]) (stk := []) X0 hx hZ hown (wt hw 47 rfl) e0 S1.2.2.2.2.1 hby (D24 0) (D24 1) rfl
 obtain ⟨T2_, X2_, e2_, st2_⟩ := own_gN (pc := 7) (Ls := #[rv o1, .unset]) (stk := []) X1_ hx hZ hown (wt hw 65 rfl) e1_ S1.2.2.1 hby (D24 3) (D24 4) rfl
 obtain ⟨T3_, X3_, e3_, st3_⟩ := own_gN (pc := 12) (Ls := #[rv o1, .unset]) (stk := [(.int 2)]) X2_ hx hZ hown (wt hw 50 rfl) e2_ S1.2.2.2.1 hby (D24 6) (D24 7) rfl
 obtain ⟨T4_, X4_, e4_, st4_⟩ := own_gN (pc := 19) (Ls := #[rv o1, .unset]) (stk := []) X3_ hx hZ hown (wt hw 65 rfl) e3_ S1.2.2.1 hby (D24 12) (D24 13) rfl
 obtain ⟨T5_, X5_, e5_, st5_⟩ := own_gN (pc := 23) (Ls := #[rv o1, .unset]) (stk := [(.ref a1)]) X4_ hx hZ hown (wt hw 47 rfl) e4_ S1.2.2.2.2.1 hby (D24 14) (D24 15) rfl
 obtain ⟨T6_, X6_, e6_, st6_⟩ := own_gN (pc := 27) (Ls := #[rv o1, .unset]) (stk := [(.int 0), (.ref a1)]) X5_ hx hZ hown (wt hw 47 rfl) e5_ S1.2.2.2.2.1 hby (D24 16) (D24 17) rfl
 obtain ⟨T7_, X7_, e7_, st7_⟩ := own_gN (pc := 31) (Ls := #[rv o1, .unset]) (stk := [(.int 0), (.int 0), (.ref a1)]) X6_ hx hZ hown (wt hw 50 rfl) e6_ S1.2.2.2.1 hby (D24 18) (D24 19) rfl
 obtain ⟨T8_, Lc8_, v8_, X8_, hQ8_, st8_⟩ := own_cS (y := Y40) X7_ hx hZ hown (wt hw 219 rfl) (wt hw 220 rfl) (wt hw 221 rfl) (wt hw 54 rfl) (by decide) (co0 l Z a0 hw [] a1 k1 x1 y1 h0 n0 Z0 S1.2.2.2.2.2) e7_ (pc := 36) (Ls := #[rv o1, .unset]) (stk := [(.int 1), (.int 0), (.ref a1)]) (rest := []) (by rw [hml]; rfl) pd9 rfl rfl (W := 0) rfl hby (D24 21) (by decide) (by decide) (by exact own_b rfl) (by exact own_b rfl)
 obtain ⟨t1_8_, k2_8_, rfl, Nq8_, ek8_, p8__0, p8__1, p8__2⟩ := hQ8_
 have N8_ := Fr.app N0 Nq8_
 have f9_ := S1.2.2.1.keep ek8_ nin0
 obtain ⟨T10_, X10_, e10_, st10_⟩ := own_gN (pc := 40) (Ls := #[rv o1, rv t1_8_]) (stk := []) X8_ hx hZ hown (wt hw 65 rfl) rfl f9_ hby (D24 23) (D24 24) rfl
 have f12_ := S1.2.2.2.2.2.keep ek8_ nin0
 have z13_ : n0 ≤ T8_.heap.size := Nat.le_trans Z0 ek8_.1
 obtain ⟨T11_, Lc11_, v11_, X11_, hQ11_, st11_⟩ := own_cS (y := Y44) X10_ hx hZ hown (wt hw 235 rfl) (wt hw 236 rfl) (wt hw 237 rfl) (wt hw 54 rfl) (by decide) (rmFi l Z a0 hw [] a1 k1 x1 y1 T8_.heap n0 z13_ f12_ g2) e10_ (pc := 45) (Ls := #[rv o1, rv t1_8_]) (stk := [(.int 0), (.ref a1)]) (rest := []) (by rw [hml]; rfl) pd10 rfl rfl (W := 0) rfl hby (D24 26) (by decide) (by decide) (by exact own_b rfl) (by exact own_b rfl)
 obtain ⟨rfl, Nq11_, ek11_, p11__0⟩ := hQ11_
 have N11_ := Fr.app N8_ Nq11_
 have f14_ := (S1.1.keep ek8_).keep ek11_
 have f15_ := (S1.2.2.2.2.1.keep ek8_ nin0).keep ek11_ (ninS (ne_exa (S1.1.keep ek8_) (S1.2.1.keep ek8_) (by decide)) nin0)
 obtain ⟨T16_, h16_, X16_, e16_, W16_, w16_, N16_, st16_⟩ := own_pf (pc := 50) (Ls := #[rv o1, rv t1_8_]) (stk := [(.int 0), (.ref o1)]) X11_ hx hZ hown (wt hw 47 rfl) rfl f15_ f14_ (Or.inl (wt hw 48 rfl)) (wt hw 40 rfl) (ty := .int) (by decide) rfl rfl N11_ g1 hby (D24 29) rfl
 have f17_ := (p8__1.keep ek11_ (ninS (Ne.symm (Nat.ne_of_lt (Nat.lt_of_lt_of_le S1.2.1.lt p8__2))) nin0)).other W16_ (Ne.symm (Nat.ne_of_lt (Nat.lt_of_lt_of_le S1.1.lt p8__2)))
 have f18_ := f14_.wr W16_
 have f19_ := ((S1.2.2.2.1.keep ek8_ nin0).keep ek11_ (ninS (ne_exa (S1.1.keep ek8_) (S1.2.1.keep ek8_) (by decide)) nin0)).other W16_ (Or.inr (slot_ne (Or.inl (wt hw 51 rfl)) (Or.inl (wt hw 48 rfl)) (by decide) (t := .int) (t' := .int) (by decide) (by decide)))
 obtain ⟨T20_, h20_, X20_, e20_, W20_, w20_, N20_, st20_⟩ := own_pf (pc := 56) (Ls := #[rv o1, rv t1_8_]) (stk := [(.int 1), (.ref o1)]) X16_ hx hZ hown (wt hw 50 rfl) e16_ f19_ f18_ (Or.inl (wt hw 51 rfl)) (wt hw 40 rfl) (ty := .int) (by decide) rfl rfl N16_ g1 hby (D24 33) rfl
 have f21_ := f18_.wr W20_
 have f22_ := ((f9_.keep ek11_ (ninS (ne_exa (S1.1.keep ek8_) (S1.2.1.keep ek8_) (by decide)) nin0)).other W16_ (Or.inr (slot_ne (Or.inl (wt hw 66 rfl)) (Or.inl (wt hw 48 rfl)) (by decide) (t := (.array .int)) (t' := .int) (by decide) (by decide)))).other W20_ (Or.inr (slot_ne (Or.inl (wt hw 66 rfl)) (Or.inl (wt hw 51 rfl)) (by decide) (t := (.array .int)) (t' := .int) (by decide) (by decide)))
 obtain ⟨T23_, h23_, X23_, e23_, W23_, w23_, N23_, st23_⟩ := own_pf (pc := 61) (Ls := #[rv o1, rv t1_8_]) (stk := [(.ref t1_8_), (.ref o1)]) X20_ hx hZ hown (wt hw 65 rfl) e20_ f22_ f21_ (Or.inl (wt hw 66 rfl)) (wt hw 40 rfl) (ty := (.array .int)) (by decide) rfl rfl N20_ g1 hby (D24 36) rfl
 obtain ⟨T24_, X24_, e24_, st24_⟩ := own_gN (pc := 64) (Ls := #[rv o1, rv t1_8_]) (stk := []) X23_ hx hZ hown (wt hw 65 rfl) e23_ w23_ hby (D24 9) (D24 10) rfl
 have f25_ := (f17_.other W20_ (Ne.symm (Nat.ne_of_lt (Nat.lt_of_lt_of_le S1.1.lt p8__2)))).other W23_ (Ne.symm (Nat.ne_of_lt (Nat.lt_of_lt_of_le S1.1.lt p8__2)))
 have vm_ : Arv Z h23_ t1_8_ k2_8_ .int (own_len n1) (own_mag n1) (.int 0) := by rw [nu.1, nu.2]; exact f25_
 have f26_ := (((p8__0.keep ek11_).wr W16_).wr W20_).wr W23_
 have k27_ := (Keep.refl h0 [o1, a1]).trans ek8_ all0
 have k28_ := k27_.trans ek11_ (allS (own_in 1 rfl) all0)
 have k29_ := k28_.wr W16_ (own_in 0 rfl)
 have k30_ := k29_.wr W20_ (own_in 0 rfl)
 have k31_ := k30_.wr W23_ (own_in 0 rfl)
 refine ⟨_, _, _, _, some (.ref t1_8_), X24_, (by exact own_b rfl), (by exact own_b rfl), nofun, (by show Q_rmGm Z o1 a1 n1 h0 n0 _ T24_.heap _; rw [e24_]; exact ⟨t1_8_, k2_8_, rfl, N23_, k31_, f26_, vm_⟩), fun fs hr => ?_⟩
 refine st1_ _ ?_
 refine kfN X1_ hx hby (D24 2) ((if0 _ _).trans (flt ((by decide) : ¬ ((0 : Int32) < (0 : Int32)))).2.2.1) ?_
 refine st2_ _ ?_
 refine own_al X2_ hx hZ e2_ S1.2.2.2.2.2 hby (D24 5) ?_
 refine st3_ _ ?_
 refine kcN X3_ hx hby (D24 8) (feq ((by decide) : ¬ ((2 : Int32) = (1 : Int32)))).1 ?_
 refine st4_ _ ?_
 refine st5_ _ ?_
 refine st6_ _ ?_
 refine st7_ _ ?_
 refine kia X7_ hx hby (D24 20) ?_
 refine st8_ _ ?_
 refine ktN X8_ hx hby (D24 22) rfl (l' := #[rv o1, rv t1_8_]) rfl ?_
 refine st10_ _ ?_
 refine kc X10_ hx hby (D24 25) ?_
 refine st11_ _ ?_
 refine kaN X11_ hx hby (D24 27) rfl rfl ?_
 refine kc X11_ hx hby (D24 28) ?_
 refine st16_ _ ?_
 refine kaN X16_ hx hby (D24 30) rfl rfl ?_
 refine kaN X16_ hx hby (D24 31) rfl rfl ?_
 refine own_al X16_ hx hZ e16_ f17_ hby (D24 32) ?_
 refine st20_ _ ?_
 refine kaN X20_ hx hby (D24 34) rfl rfl ?_
 refine kaN X20_ hx hby (D24 35) rfl rfl ?_
 refine st23_ _ ?_
 refine st24_ _ ?_
 exact retR X24_ hx hret rfl rfl rfl (hb hby (D24 11)) hr
theorem gmD (l : Launch) (Z : State) (a0 : Array Value) (hw : own_W Z a0) (ws : List Jvm.Cond) (o1 : Addr) (a1 : Addr) (k1 : ClassId) (x1 : Int32) (y1 : Int32) (n1 : Nat) (h0 : Heap) (n0 : Nat) (Z0 : n0 ≤ h0.size) (S1 : own_SH Z h0 o1 a1 (1 : Int32) (1 : Int32) k1 (2 : Int32) [(.int y1), (.int x1)]) (nu : own_len n1 = (1 : Int32) ∧ own_mag n1 = [.int x1]) (g1 : n0 ≤ o1) (g2 : n0 ≤ a1) : own_Met l Y24 jdk_2101_method_7_code 2 (some (.array .int)) ⟨3, 1, 1, 48⟩ ws #[(.ref o1)] Z h0 (Q_rmGm Z o1 a1 n1 h0 n0) := by
 refine own_go (plainFor_of_name pn_java_math_MutableBigInteger) (fun m => ef24_R m o1) fun p e s m below meth c s₁ hx hby hml hown hnm hret hZ e0 X0 => ?_
 have N0 := Fr.nil n0
 obtain ⟨T1_, X1_, e1_, st1_⟩ := own_gN (pc := 0) (Ls := #[rv o1, .unset]) (stk := []) X0 hx hZ hown (wt hw 47 rfl) e0 S1.2.2.2.2.1 hby (D24 0) (D24 1) rfl
 obtain ⟨T2_, X2_, e2_, st2_⟩ := own_gN (pc := 19) (Ls := #[rv o1, .unset]) (stk := []) X1_ hx hZ hown (wt hw 65 rfl) e1_ S1.2.2.1 hby (D24 12) (D24 13) rfl
 obtain ⟨T3_, X3_, e3_, st3_⟩ := own_gN (pc := 23) (Ls := #[rv o1, .unset]) (stk := [(.ref a1)]) X2_ hx hZ hown (wt hw 47 rfl) e2_ S1.2.2.2.2.1 hby (D24 14) (D24 15) rfl
 obtain ⟨T4_, X4_, e4_, st4_⟩ := own_gN (pc := 27) (Ls := #[rv o1, .unset]) (stk := [(.int 1), (.ref a1)]) X3_ hx hZ hown (wt hw 47 rfl) e3_ S1.2.2.2.2.1 hby (D24 16) (D24 17) rfl
 obtain ⟨T5_, X5_, e5_, st5_⟩ := own_gN (pc := 31) (Ls := #[rv o1, .unset]) (stk := [(.int 1), (.int 1), (.ref a1)]) X4_ hx hZ hown (wt hw 50 rfl) e4_ S1.2.2.2.1 hby (D24 18) (D24 19) rfl
 obtain ⟨T6_, Lc6_, v6_, X6_, hQ6_, st6_⟩ := own_cS (y := Y40) X5_ hx hZ hown (wt hw 219 rfl) (wt hw 220 rfl) (wt hw 221 rfl) (wt hw 54 rfl) (by decide) (co1 l Z a0 hw [] a1 k1 y1 x1 h0 n0 Z0 S1.2.2.2.2.2) e5_ (pc := 36) (Ls := #[rv o1, .unset]) (stk := [(.int 2), (.int 1), (.ref a1)]) (rest := []) (by rw [hml]; rfl) pd9 rfl rfl (W := 0) rfl hby (D24 21) (by decide) (by decide) (by exact own_b rfl) (by exact own_b rfl)
 obtain ⟨t1_6_, k2_6_, rfl, Nq6_, ek6_, p6__0, p6__1, p6__2⟩ := hQ6_
 have N6_ := Fr.app N0 Nq6_
 have f7_ := S1.2.2.1.keep ek6_ nin0
 obtain ⟨T8_, X8_, e8_, st8_⟩ := own_gN (pc := 40) (Ls := #[rv o1, rv t1_6_]) (stk := []) X6_ hx hZ hown (wt hw 65 rfl) rfl f7_ hby (D24 23) (D24 24) rfl
 have f10_ := S1.2.2.2.2.2.keep ek6_ nin0
 have z11_ : n0 ≤ T6_.heap.size := Nat.le_trans Z0 ek6_.1
 obtain ⟨T9_, Lc9_, v9_, X9_, hQ9_, st9_⟩ := own_cS (y := Y44) X8_ hx hZ hown (wt hw 235 rfl) (wt hw 236 rfl) (wt hw 237 rfl) (wt hw 54 rfl) (by decide) (rmFi l Z a0 hw [] a1 k1 y1 x1 T6_.heap n0 z11_ f10_ g2) e8_ (pc := 45) (Ls := #[rv o1, rv t1_6_]) (stk := [(.int 0), (.ref a1)]) (rest := []) (by rw [hml]; rfl) pd10 rfl rfl (W := 0) rfl hby (D24 26) (by decide) (by decide) (by exact own_b rfl) (by exact own_b rfl)
 obtain ⟨rfl, Nq9_, ek9_, p9__0⟩ := hQ9_
 have N9_ := Fr.app N6_ Nq9_
 have f12_ := (S1.1.keep ek6_).keep ek9_
 have f13_ := (S1.2.2.2.2.1.keep ek6_ nin0).keep ek9_ (ninS (ne_exa (S1.1.keep ek6_) (S1.2.1.keep ek6_) (by decide)) nin0)
 obtain ⟨T14_, h14_, X14_, e14_, W14_, w14_, N14_, st14_⟩ := own_pf (pc := 50) (Ls := #[rv o1, rv t1_6_]) (stk := [(.int 0), (.ref o1)]) X9_ hx hZ hown (wt hw 47 rfl) rfl f13_ f12_ (Or.inl (wt hw 48 rfl)) (wt hw 40 rfl) (ty := .int) (by decide) rfl rfl N9_ g1 hby (D24 29) rfl
 have f15_ := (p6__1.keep ek9_ (ninS (Ne.symm (Nat.ne_of_lt (Nat.lt_of_lt_of_le S1.2.1.lt p6__2))) nin0)).other W14_ (Ne.symm (Nat.ne_of_lt (Nat.lt_of_lt_of_le S1.1.lt p6__2)))
 have f16_ := f12_.wr W14_
 have f17_ := ((S1.2.2.2.1.keep ek6_ nin0).keep ek9_ (ninS (ne_exa (S1.1.keep ek6_) (S1.2.1.keep ek6_) (by decide)) nin0)).other W14_ (Or.inr (slot_ne (Or.inl (wt hw 51 rfl)) (Or.inl (wt hw 48 rfl)) (by decide) (t := .int) (t' := .int) (by decide) (by decide)))
 obtain ⟨T18_, h18_, X18_, e18_, W18_, w18_, N18_, st18_⟩ := own_pf (pc := 56) (Ls := #[rv o1, rv t1_6_]) (stk := [(.int 1), (.ref o1)]) X14_ hx hZ hown (wt hw 50 rfl) e14_ f17_ f16_ (Or.inl (wt hw 51 rfl)) (wt hw 40 rfl) (ty := .int) (by decide) rfl rfl N14_ g1 hby (D24 33) rfl
 have f19_ := f16_.wr W18_
 have f20_ := ((f7_.keep ek9_ (ninS (ne_exa (S1.1.keep ek6_) (S1.2.1.keep ek6_) (by decide)) nin0)).other W14_ (Or.inr (slot_ne (Or.inl (wt hw 66 rfl)) (Or.inl (wt hw 48 rfl)) (by decide) (t := (.array .int)) (t' := .int) (by decide) (by decide)))).other W18_ (Or.inr (slot_ne (Or.inl (wt hw 66 rfl)) (Or.inl (wt hw 51 rfl)) (by decide) (t := (.array .int)) (t' := .int) (by decide) (by decide)))
 obtain ⟨T21_, h21_, X21_, e21_, W21_, w21_, N21_, st21_⟩ := own_pf (pc := 61) (Ls := #[rv o1, rv t1_6_]) (stk := [(.ref t1_6_), (.ref o1)]) X18_ hx hZ hown (wt hw 65 rfl) e18_ f20_ f19_ (Or.inl (wt hw 66 rfl)) (wt hw 40 rfl) (ty := (.array .int)) (by decide) rfl rfl N18_ g1 hby (D24 36) rfl
 obtain ⟨T22_, X22_, e22_, st22_⟩ := own_gN (pc := 64) (Ls := #[rv o1, rv t1_6_]) (stk := []) X21_ hx hZ hown (wt hw 65 rfl) e21_ w21_ hby (D24 9) (D24 10) rfl
 have f23_ := (f15_.other W18_ (Ne.symm (Nat.ne_of_lt (Nat.lt_of_lt_of_le S1.1.lt p6__2)))).other W21_ (Ne.symm (Nat.ne_of_lt (Nat.lt_of_lt_of_le S1.1.lt p6__2)))
 have vm_ : Arv Z h21_ t1_6_ k2_6_ .int (own_len n1) (own_mag n1) (.int 0) := by rw [nu.1, nu.2]; exact f23_
 have f24_ := (((p6__0.keep ek9_).wr W14_).wr W18_).wr W21_
 have k25_ := (Keep.refl h0 [o1, a1]).trans ek6_ all0
 have k26_ := k25_.trans ek9_ (allS (own_in 1 rfl) all0)
 have k27_ := k26_.wr W14_ (own_in 0 rfl)
 have k28_ := k27_.wr W18_ (own_in 0 rfl)
 have k29_ := k28_.wr W21_ (own_in 0 rfl)
 refine ⟨_, _, _, _, some (.ref t1_6_), X22_, (by exact own_b rfl), (by exact own_b rfl), nofun, (by show Q_rmGm Z o1 a1 n1 h0 n0 _ T22_.heap _; rw [e22_]; exact ⟨t1_6_, k2_6_, rfl, N21_, k29_, f24_, vm_⟩), fun fs hr => ?_⟩
 refine st1_ _ ?_
 refine kfY X1_ hx (pc0 := 4) (pc' := 19) rfl hby (D24 2) ((if0 _ _).trans (tlt ((by decide) : (0 : Int32) < (1 : Int32))).2.2.1) (by decide) (by decide) ?_
 refine st2_ _ ?_
 refine st3_ _ ?_
 refine st4_ _ ?_
 refine st5_ _ ?_
 refine kia X5_ hx hby (D24 20) ?_
 refine st6_ _ ?_
 refine ktN X6_ hx hby (D24 22) rfl (l' := #[rv o1, rv t1_6_]) rfl ?_
 refine st8_ _ ?_
 refine kc X8_ hx hby (D24 25) ?_
 refine st9_ _ ?_
 refine kaN X9_ hx hby (D24 27) rfl rfl ?_
 refine kc X9_ hx hby (D24 28) ?_
 refine st14_ _ ?_
 refine kaN X14_ hx hby (D24 30) rfl rfl ?_
 refine kaN X14_ hx hby (D24 31) rfl rfl ?_
 refine own_al X14_ hx hZ e14_ f15_ hby (D24 32) ?_
 refine st18_ _ ?_
 refine kaN X18_ hx hby (D24 34) rfl rfl ?_
 refine kaN X18_ hx hby (D24 35) rfl rfl ?_
 refine st21_ _ ?_
 refine st22_ _ ?_
 exact retR X22_ hx hret rfl rfl rfl (hb hby (D24 11)) hr
theorem rmGm (l : Launch) (Z : State) (a0 : Array Value) (hw : own_W Z a0) (ws : List Jvm.Cond) (o1 : Addr) (a1 : Addr) (n1 : Nat) (h0 : Heap) (n0 : Nat) (Z0 : n0 ≤ h0.size) (M1 : own_MB Z h0 o1 a1 n1) (g1 : n0 ≤ o1) (g2 : n0 ≤ a1) :
    own_Met l Y24 jdk_2101_method_7_code 2 (some (.array .int)) ⟨3, 1, 1, 48⟩ ws #[(.ref o1)] Z h0 (Q_rmGm Z o1 a1 n1 h0 n0) := by
  by_cases c : n1 < 4294967296
  · obtain ⟨k, z, vs, j, x, S, B, e⟩ := M1.dB c
    have nx : ¬ (x = (0 : Int32)) := fun q => M1.nz (e ▸ own_u0.mpr q)
    have m1 : own_len n1 = (1 : Int32) ∧ own_mag n1 = [.int x] := ⟨own_len1 M1.nz c, by rw [← e]; exact own_magw nx⟩
    rcases B with ⟨rfl, rfl, rfl⟩ | ⟨y, rfl, rfl, rfl⟩ | ⟨y, rfl, rfl, rfl⟩
    · exact gmB l Z a0 hw ws _ _ _ _ _ h0 n0 Z0 S m1 g1 g2
    · exact gmC l Z a0 hw ws _ _ _ _ _ _ h0 n0 Z0 S m1 g1 g2
    · exact gmD l Z a0 hw ws _ _ _ _ _ _ h0 n0 Z0 S m1 g1 g2
  · obtain ⟨k, hi, lo, S, e⟩ := M1.dA c
    have nh : ¬ (hi = (0 : Int32)) := fun q => by have q2 := own_u0.mpr q; have := own_u_lt lo; rw [q2] at e; omega
    exact gmA l Z a0 hw ws _ _ _ _ _ _ h0 n0 Z0 S ⟨own_len2 (by omega), own_magw2 (by omega) e⟩ g1 g2
abbrev Y3 : MethodName := ⟨"java/lang/Number", "<init>", "()V"⟩
theorem ef3_R (m : MethodId) (x0 : Addr) : entryFrame m #[(.ref x0)] 1 = mkF m 0 #[rv x0] [] := by first | (simp [entryFrame, mkF, argsToLocals, Value.category]; done) | rfl
theorem pn_java_lang_Number : plainName "java/lang/Number" = true := by first | (simp [plainName, overriddenIn]; done) | decide +kernel
def Q_rmNu (Z : State) (x1 : Addr) (h0 : Heap) (n0 : Nat) (v : Option Value) (h : Heap) (L : List Loc) : Prop := v = none ∧ Fr n0 L ∧ h = h0
theorem rmNu (l : Launch) (Z : State) (a0 : Array Value) (hw : own_W Z a0) (ws : List Jvm.Cond) (x1 : Addr) (h0 : Heap) (n0 : Nat) (Z0 : n0 ≤ h0.size)  : own_Met l Y3 jdk_18_method_1_code 1 none ⟨1, 0, 0, 12⟩ ws #[(.ref x1)] Z h0 (Q_rmNu Z x1 h0 n0) := by
 refine own_go (plainFor_of_name pn_java_lang_Number) (fun m => ef3_R m x1) fun p e s m below meth c s₁ hx hby hml hown hnm hret hZ e0 X0 => ?_
 have N0 := Fr.nil n0
 obtain ⟨T1_, X1_, e1_, st1_⟩ := initO X0 hx hZ hown (wt hw 17 rfl) (wt hw 18 rfl) (wt hw 19 rfl) e0 (g := (mkF m 1 #[rv x1] [(.ref x1)])) rfl (by rw [hml]; rfl) rfl (hb hby (D3 1)) (by decide) (W := 0) (by show 2 * 0 + _ ≤ _; exact Nat.le_of_eq rfl) (by decide)
 refine ⟨_, _, _, _, none, X1_, (by exact own_b rfl), (by exact own_b rfl), (fun _ => rfl), (by show Q_rmNu Z x1 h0 n0 _ T1_.heap _; rw [e1_]; exact ⟨rfl, N0, rfl⟩), fun fs hr => ?_⟩
 refine kaN X0 hx hby (D3 0) rfl rfl ?_
 show Steps p.tables e below (s₁.setTop (mkF m 1 #[rv x1] [(.ref x1)])) _
 refine st1_ _ ?_
 show Steps p.tables e below (T1_.setTop (mkF m 4 #[rv x1] [])) _
 exact X1_.returnOut hx hret (hb hby (D3 2)) hr
abbrev Y25 : MethodName := ⟨"java/math/BigInteger", "<init>", "([II)V"⟩
theorem ef25_RRI (m : MethodId) (x0 : Addr) (x1 : Addr) (x2 : Int32) : entryFrame m #[(.ref x0), (.ref x1), (.int x2)] 3 = mkF m 0 #[rv x0, rv x1, iv x2] [] := by first | (simp [entryFrame, mkF, argsToLocals, Value.category]; done) | rfl
def Q_rmBa (Z : State) (x1 : Addr) (a1 : Addr) (s1 : Int32) (k1 : ClassId) (n1 : Nat) (m1 : Int) (h0 : Heap) (n0 : Nat) (v : Option Value) (h : Heap) (L : List Loc) : Prop := v = none ∧ Fr n0 L ∧ Keep h0 h [x1] ∧ (own_BI Z h x1 a1 m1)
theorem rmBa (l : Launch) (Z : State) (a0 : Array Value) (hw : own_W Z a0) (ws : List Jvm.Cond) (x1 : Addr) (a1 : Addr) (s1 : Int32) (k1 : ClassId) (n1 : Nat) (m1 : Int) (h0 : Heap) (n0 : Nat) (Z0 : n0 ≤ h0.size) (X1 : Exa Z h0 x1 "java/math/BigInteger") (X2 : Fld Z h0 x1 "java/math/BigInteger" "signum" "I" (.int 0)) (X3 : Fld Z h0 x1 "java/math/BigInteger" "mag" "[I" .null) (g1 : n0 ≤ x1) (G1 : Exa Z h0 a1 "[I") (V1 : Arv Z h0 a1 k1 .int (own_len n1) (own_mag n1) (.int 0)) (es : s1 = own_sg m1) (en : m1.natAbs = n1) (nz : n1 ≠ 0) : own_Met l Y25 jdk_2097_method_25_code 3 none ⟨2, 0, 0, 24⟩ ws #[(.ref x1), (.ref a1), (.int s1)] Z h0 (Q_rmBa Z x1 a1 s1 k1 n1 m1 h0 n0) := by
 refine own_go (plainFor_of_name pn_java_math_BigInteger) (fun m => ef25_RRI m x1 a1 s1) fun p e s m below meth c s₁ hx hby hml hown hnm hret hZ e0 X0 => ?_
 have N0 := Fr.nil n0
 obtain ⟨T1_, Lc1_, v1_, X1_, hQ1_, st1_⟩ := own_cI (y := Y3) X0 hx hZ hown (wt hw 11 rfl) (wt hw 12 rfl) (wt hw 16 rfl) (wt hw 15 rfl) rfl (by decide) (rmNu l Z a0 hw [] x1 h0 n0 Z0 ) e0 (pc := 1) (Ls := #[rv x1, rv a1, iv s1]) (stk := [(.ref x1)]) (rest := []) (by rw [hml]; rfl) pd3 rfl rfl (W := 0) rfl hby (D25 1) (by decide) (by decide) (by exact own_b rfl) (by exact own_b rfl)
 obtain ⟨rfl, Nq1_, ek1_⟩ := hQ1_
 have N1_ := Fr.app N0 Nq1_
 obtain ⟨T2_, h2_, X2_, e2_, W2_, w2_, N2_, st2_⟩ := own_pf (pc := 15) (Ls := #[rv x1, rv a1, iv s1]) (stk := [(.int s1), (.ref x1)]) X1_ hx hZ hown (wt hw 20 rfl) ek1_ X2 X1 (Or.inr ⟨(wt hw 21 rfl), rfl, hnm⟩) (wt hw 6 rfl) (ty := .int) (by decide) rfl rfl N1_ g1 hby (D25 7) rfl
 have f3_ := X1.wr W2_
 have f4_ := X3.other W2_ (Or.inr (slot_ne (Or.inr (wt hw 24 rfl)) (Or.inr (wt hw 21 rfl)) (by decide) (t := (.array .int)) (t' := .int) (by decide) (by decide)))
 obtain ⟨T5_, h5_, X5_, e5_, W5_, w5_, N5_, st5_⟩ := own_pf (pc := 20) (Ls := #[rv x1, rv a1, iv s1]) (stk := [(.ref a1), (.ref x1)]) X2_ hx hZ hown (wt hw 23 rfl) e2_ f4_ f3_ (Or.inr ⟨(wt hw 24 rfl), rfl, hnm⟩) (wt hw 6 rfl) (ty := (.array .int)) (by decide) rfl rfl N2_ g1 hby (D25 10) rfl
 obtain ⟨T6_, X6_, e6_, st6_⟩ := own_gN (pc := 23) (Ls := #[rv x1, rv a1, iv s1]) (stk := []) X5_ hx hZ hown (wt hw 23 rfl) e5_ w5_ hby (D25 11) (D25 12) rfl
 have f7_ := (V1.other W2_ (ne_exa G1 X1 (by decide))).other W5_ (ne_exa (G1.wr W2_) f3_ (by decide))
 have f8_ := f3_.wr W5_
 have f9_ := (G1.wr W2_).wr W5_
 have f10_ := w2_.other W5_ (Or.inr (slot_ne (Or.inr (wt hw 21 rfl)) (Or.inr (wt hw 24 rfl)) (by decide) (t := .int) (t' := (.array .int)) (by decide) (by decide)))
 have bi_ : own_BI Z h5_ x1 a1 m1 := ⟨f8_, f9_, (by rw [← es]; exact f10_), w5_, _, (by rw [en]; exact f7_)⟩
 have k11_ := (Keep.refl h0 [x1]).wr W2_ (own_in 0 rfl)
 have k12_ := k11_.wr W5_ (own_in 0 rfl)
 refine ⟨_, _, _, _, none, X6_, (by exact own_b rfl), (by exact own_b rfl), (fun _ => rfl), (by show Q_rmBa Z x1 a1 s1 k1 n1 m1 h0 n0 _ T6_.heap _; rw [e6_]; exact ⟨rfl, N5_, k12_, bi_⟩), fun fs hr => ?_⟩
 refine kaN X0 hx hby (D25 0) rfl rfl ?_
 refine st1_ _ ?_
 refine kaN X1_ hx hby (D25 2) rfl rfl ?_
 refine kaN X1_ hx hby (D25 3) rfl rfl ?_
 refine own_al X1_ hx hZ ek1_ V1 hby (D25 4) ?_
 refine kfY X1_ hx (pc0 := 7) (pc' := 14) rfl hby (D25 5) ((if0 _ _).trans (feq ((own_len_nz nz) : ¬ ((own_len n1) = (0 : Int32)))).2) (by decide) (by decide) ?_
 refine kiN X1_ hx hby (D25 6) rfl ?_
 refine st2_ _ ?_
 refine kaN X2_ hx hby (D25 8) rfl rfl ?_
 refine kaN X2_ hx hby (D25 9) rfl rfl ?_
 refine st5_ _ ?_
 refine st6_ _ ?_
 refine own_al X6_ hx hZ e6_ f7_ hby (D25 13) ?_
 refine own_ld X6_ hx hZ hown (wt hw 139 rfl) hby (D25 14) ?_
 refine kcY X6_ hx (pc0 := 30) (pc' := 37) rfl hby (D25 15) (tlt ((own_len_lt n1).1 : (own_len n1) < (67108864 : Int32))).1 (by decide) (by decide) ?_
 exact X6_.returnOut hx hret (hb hby (D25 16)) hr
theorem pd11 : parseMethodDescriptor "()[I" = some ⟨[], some (.array .int)⟩ := by decide +kernel
abbrev Y23 : MethodName := ⟨"java/math/MutableBigInteger", "toBigInteger", "(I)Ljava/math/BigInteger;"⟩
theorem ef23_RI (m : MethodId) (x0 : Addr) (x1 : Int32) : entryFrame m #[(.ref x0), (.int x1)] 2 = mkF m 0 #[rv x0, iv x1] [] := by first | (simp [entryFrame, mkF, argsToLocals, Value.category]; done) | rfl
def Q_rmTb (Z : State) (o1 : Addr) (s1 : Int32) (a1 : Addr) (n1 : Nat) (m1 : Int) (h0 : Heap) (n0 : Nat) (v : Option Value) (h : Heap) (L : List Loc) : Prop := ∃ (xb : Addr) (tb : Addr), v = some (.ref xb) ∧ Fr n0 L ∧ Keep h0 h [o1, a1] ∧ (own_BI Z h xb tb m1) ∧ (h0.size ≤ xb)
theorem rmTb (l : Launch) (Z : State) (a0 : Array Value) (hw : own_W Z a0) (ws : List Jvm.Cond) (o1 : Addr) (s1 : Int32) (a1 : Addr) (n1 : Nat) (m1 : Int) (h0 : Heap) (n0 : Nat) (Z0 : n0 ≤ h0.size) (M1 : own_MB Z h0 o1 a1 n1) (g1 : n0 ≤ o1) (g2 : n0 ≤ a1) (es : s1 = own_sg m1) (en : m1.natAbs = n1) : own_Met l Y23 jdk_2101_method_9_code 2 (some (.object "java/math/BigInteger")) ⟨4, 2, 7, 63⟩ ws #[(.ref o1), (.int s1)] Z h0 (Q_rmTb Z o1 s1 a1 n1 m1 h0 n0) := by
 refine own_go (plainFor_of_name pn_java_math_MutableBigInteger) (fun m => ef23_RI m o1 s1) fun p e s m below meth c s₁ hx hby hml hown hnm hret hZ e0 X0 => ?_
 have N0 := Fr.nil n0
 obtain ⟨T1_, X1_, e1_, st1_⟩ := own_gN (pc := 0) (Ls := #[rv o1, iv s1]) (stk := []) X0 hx hZ hown (wt hw 50 rfl) e0 M1.2.2.2.1 hby (D23 0) (D23 1) rfl
 obtain ⟨T2_, h2_, X2_, e2_, E2_, A2_, D2_, U2_, st2_⟩ := newO X1_ hx hZ hown (wt hw 130 rfl) (wt hw 6 rfl) (wt hw 2 rfl) e1_ (g := (mkF m 15 #[rv o1, iv s1] [])) rfl (hb hby (D23 5)) (by exact own_b rfl) (by exact own_b rfl)
 obtain ⟨b2_, g2_⟩ : ∃ z, z = h0.size := ⟨_, rfl⟩
 rw [← g2_] at A2_ D2_ U2_ st2_
 have F2__signum : Fld Z h2_ b2_ "java/math/BigInteger" "signum" "I" (.int 0) := D2_ (Or.inr (wt hw 21 rfl)) (ty := .int) (by decide)
 have F2__mag : Fld Z h2_ b2_ "java/math/BigInteger" "mag" "[I" .null := D2_ (Or.inr (wt hw 24 rfl)) (ty := (.array .int)) (by decide)
 have f4_ := M1.ext E2_
 have z5_ : n0 ≤ h2_.size := Nat.le_trans Z0 E2_.1
 have f6_ := M1.1.ext E2_
 obtain ⟨T3_, Lc3_, v3_, X3_, hQ3_, st3_⟩ := own_cV (y := Y24) X2_ hx hZ hown (wt hw 131 rfl) (wt hw 132 rfl) (wt hw 134 rfl) (wt hw 135 rfl) (wt hw 41 rfl) (by decide) (rmGm l Z a0 hw [] o1 a1 n1 h2_ n0 z5_ f4_ g1 g2) f6_ e2_ (pc := 20) (Ls := #[rv o1, iv s1]) (stk := [(.ref o1), (.ref b2_), (.ref b2_)]) (rest := [(.ref b2_), (.ref b2_)]) (by rw [hml]; rfl) pd11 rfl rfl (W := 2) rfl hby (D23 8) (by decide) (by decide) (by exact own_b rfl) (by exact own_b rfl)
 obtain ⟨t1_3_, k9_3_, rfl, Nq3_, ek3_, p3__0, p3__1⟩ := hQ3_
 have N3_ := Fr.app N0 Nq3_
 have f8_ := A2_.keep ek3_
 have f9_ := F2__signum.keep ek3_ (ninS (Ne.symm (Nat.ne_of_lt (Nat.lt_of_lt_of_le M1.1.lt (Nat.le_of_eq g2_.symm)))) (ninS (Ne.symm (Nat.ne_of_lt (Nat.lt_of_lt_of_le M1.2.1.lt (Nat.le_of_eq g2_.symm)))) nin0))
 have f10_ := F2__mag.keep ek3_ (ninS (Ne.symm (Nat.ne_of_lt (Nat.lt_of_lt_of_le M1.1.lt (Nat.le_of_eq g2_.symm)))) (ninS (Ne.symm (Nat.ne_of_lt (Nat.lt_of_lt_of_le M1.2.1.lt (Nat.le_of_eq g2_.symm)))) nin0))
 have g11_ : n0 ≤ b2_ := Nat.le_trans Z0 (Nat.le_of_eq g2_.symm)
 have z12_ : n0 ≤ T3_.heap.size := Nat.le_trans z5_ ek3_.1
 obtain ⟨T7_, Lc7_, v7_, X7_, hQ7_, st7_⟩ := own_cI (y := Y25) X3_ hx hZ hown (wt hw 136 rfl) (wt hw 137 rfl) (wt hw 138 rfl) (wt hw 2 rfl) rfl (by decide) (rmBa l Z a0 hw [] b2_ t1_3_ s1 k9_3_ n1 m1 T3_.heap n0 z12_ f8_ f9_ f10_ g11_ p3__0 p3__1 es en (own_MB.nz M1)) rfl (pc := 24) (Ls := #[rv o1, iv s1]) (stk := [(.int s1), (.ref t1_3_), (.ref b2_), (.ref b2_)]) (rest := [(.ref b2_)]) (by rw [hml]; rfl) pd10 rfl rfl (W := 1) rfl hby (D23 10) (by decide) (by decide) (by exact own_b rfl) (by exact own_b rfl)
 obtain ⟨rfl, Nq7_, ek7_, p7__0⟩ := hQ7_
 have N7_ := Fr.app N3_ Nq7_
 have k13_ := (Keep.refl h0 [o1, a1]).ext E2_
 have k14_ := k13_.trans ek3_ (allS (own_in 0 rfl) (allS (own_in 1 rfl) all0))
 have k15_ := k14_.trans ek7_ (allS (Or.inr (Nat.le_trans (Keep.refl h0 [o1, a1]).1 (Nat.le_of_eq g2_.symm))) all0)
 refine ⟨_, _, _, _, some (.ref b2_), X7_, (by exact own_b rfl), (by exact own_b rfl), nofun, (by show Q_rmTb Z o1 s1 a1 n1 m1 h0 n0 _ T7_.heap _; exact ⟨b2_, t1_3_, rfl, N7_, k15_, p7__0, (Nat.le_trans (Keep.refl h0 [o1, a1]).1 (Nat.le_of_eq g2_.symm))⟩), fun fs hr => ?_⟩
 refine st1_ _ ?_
 refine kfN X1_ hx hby (D23 2) ((if0 _ _).trans (feq ((own_len_nz (own_MB.nz M1)) : ¬ ((own_len n1) = (0 : Int32)))).1) ?_
 refine kiN X1_ hx hby (D23 3) rfl ?_
 refine kfY X1_ hx (pc0 := 8) (pc' := 15) rfl hby (D23 4) ((if0 _ _).trans (feq ((own_sgz es en (own_MB.nz M1)) : ¬ (s1 = (0 : Int32)))).2) (by decide) (by decide) ?_
 show Steps p.tables e below (T1_.setTop (mkF m 15 #[rv o1, iv s1] [])) _
 refine st2_ _ ?_
 show Steps p.tables e below (T2_.setTop (mkF m 18 #[rv o1, iv s1] [(.ref b2_)])) _
 refine kdup X2_ hx hby (D23 6) rfl ?_
 refine kaN X2_ hx hby (D23 7) rfl rfl ?_
 refine st3_ _ ?_
 refine kiN X3_ hx hby (D23 9) rfl ?_
 refine st7_ _ ?_
 exact retR X7_ hx hret rfl rfl rfl (hb hby (D23 11)) hr
def Q_rmTz (Z : State) (o1 : Addr) (s1 : Int32) (zo : Addr) (h0 : Heap) (n0 : Nat) (v : Option Value) (h : Heap) (L : List Loc) : Prop := v = some (.ref zo) ∧ Fr n0 L ∧ h = h0
theorem rmTz (l : Launch) (Z : State) (a0 : Array Value) (hw : own_W Z a0) (ws : List Jvm.Cond) (o1 : Addr) (s1 : Int32) (zo : Addr) (h0 : Heap) (n0 : Nat) (Z0 : n0 ≤ h0.size) (T0 : Sta Z Z.heap "java/math/BigInteger" "ZERO" "Ljava/math/BigInteger;" (.ref zo)) (O1 : Old Z n0 h0) (Fl1 : Fld Z h0 o1 "java/math/MutableBigInteger" "intLen" "I" (.int 0)) : own_Met l Y23 jdk_2101_method_9_code 2 (some (.object "java/math/BigInteger")) ⟨0, 0, 0, 0⟩ ws #[(.ref o1), (.int s1)] Z h0 (Q_rmTz Z o1 s1 zo h0 n0) := by
 refine own_go (plainFor_of_name pn_java_math_MutableBigInteger) (fun m => ef23_RI m o1 s1) fun p e s m below meth c s₁ hx hby hml hown hnm hret hZ e0 X0 => ?_
 have N0 := Fr.nil n0
 obtain ⟨T1_, X1_, e1_, st1_⟩ := own_gN (pc := 0) (Ls := #[rv o1, iv s1]) (stk := []) X0 hx hZ hown (wt hw 50 rfl) e0 Fl1 hby (D23 0) (D23 1) rfl
 obtain ⟨T2_, X2_, e2_, st2_⟩ := getS2 X1_ hx hZ hown (host := "") (Or.inl (wt hw 246 rfl)) Via.refl e1_ (T0.ext O1.2) (g := (mkF m 11 #[rv o1, iv s1] [])) rfl (hb hby (D23 12))
 refine ⟨_, _, _, _, some (.ref zo), X2_, (by exact own_b rfl), (by exact own_b rfl), nofun, (by show Q_rmTz Z o1 s1 zo h0 n0 _ T2_.heap _; rw [e2_]; exact ⟨rfl, N0, rfl⟩), fun fs hr => ?_⟩
 refine st1_ _ ?_
 refine kfY X1_ hx (pc0 := 4) (pc' := 11) rfl hby (D23 2) ((if0 _ _).trans (teq ((by decide) : (0 : Int32) = (0 : Int32))).1) (by decide) (by decide) ?_
 show Steps p.tables e below (T1_.setTop (mkF m 11 #[rv o1, iv s1] [])) _
 refine st2_ _ ?_
 show Steps p.tables e below (T2_.setTop (mkF m 14 #[rv o1, iv s1] [(.ref zo)])) _
 exact retR X2_ hx hret rfl rfl rfl (hb hby (D23 13)) hr
abbrev Y39 : MethodName := ⟨"java/math/BigInteger", "negate", "()Ljava/math/BigInteger;"⟩
theorem ef39_R (m : MethodId) (x0 : Addr) : entryFrame m #[(.ref x0)] 1 = mkF m 0 #[rv x0] [] := by first | (simp [entryFrame, mkF, argsToLocals, Value.category]; done) | rfl
def Q_rmNe (Z : State) (x1 : Addr) (a1 : Addr) (m1 : Int) (h0 : Heap) (n0 : Nat) (v : Option Value) (h : Heap) (L : List Loc) : Prop := ∃ (xb : Addr), v = some (.ref xb) ∧ Fr n0 L ∧ Keep h0 h [] ∧ (own_BI Z h xb a1 (-m1)) ∧ (h0.size ≤ xb)
theorem rmNe (l : Launch) (Z : State) (a0 : Array Value) (hw : own_W Z a0) (ws : List Jvm.Cond) (x1 : Addr) (a1 : Addr) (m1 : Int) (h0 : Heap) (n0 : Nat) (Z0 : n0 ≤ h0.size) (B1 : own_BI Z h0 x1 a1 m1) (mz : m1.natAbs ≠ 0) : own_Met l Y39 jdk_2097_method_80_code 1 (some (.object "java/math/BigInteger")) ⟨3, 1, 6, 39⟩ ws #[(.ref x1)] Z h0 (Q_rmNe Z x1 a1 m1 h0 n0) := by
 refine own_go (plainFor_of_name pn_java_math_BigInteger) (fun m => ef39_R m x1) fun p e s m below meth c s₁ hx hby hml hown hnm hret hZ e0 X0 => ?_
 have N0 := Fr.nil n0
 obtain ⟨kq1, Vq1⟩ := B1.2.2.2.2
 obtain ⟨T1_, h1_, X1_, e1_, E1_, A1_, D1_, U1_, st1_⟩ := newO X0 hx hZ hown (wt hw 5 rfl) (wt hw 6 rfl) (wt hw 2 rfl) e0 (g := (mkF m 0 #[rv x1] [])) rfl (hb hby (D39 0)) (by exact own_b rfl) (by exact own_b rfl)
 obtain ⟨b1_, g1_⟩ : ∃ z, z = h0.size := ⟨_, rfl⟩
 rw [← g1_] at A1_ D1_ U1_ st1_
 have F1__signum : Fld Z h1_ b1_ "java/math/BigInteger" "signum" "I" (.int 0) := D1_ (Or.inr (wt hw 21 rfl)) (ty := .int) (by decide)
 have F1__mag : Fld Z h1_ b1_ "java/math/BigInteger" "mag" "[I" .null := D1_ (Or.inr (wt hw 24 rfl)) (ty := (.array .int)) (by decide)
 have f2_ := B1.2.2.2.1.ext E1_
 obtain ⟨T3_, X3_, e3_, st3_⟩ := own_gN (pc := 4) (Ls := #[rv x1]) (stk := [(.ref b1_), (.ref b1_)]) X1_ hx hZ hown (wt hw 23 rfl) e1_ f2_ hby (D39 2) (D39 3) rfl
 have f4_ := B1.2.2.1.ext E1_
 obtain ⟨T5_, X5_, e5_, st5_⟩ := own_gN (pc := 8) (Ls := #[rv x1]) (stk := [(.ref a1), (.ref b1_), (.ref b1_)]) X3_ hx hZ hown (wt hw 20 rfl) e3_ f4_ hby (D39 4) (D39 5) rfl
 have g7_ : n0 ≤ b1_ := Nat.le_trans Z0 (Nat.le_of_eq g1_.symm)
 have f8_ := B1.2.1.ext E1_
 have f9_ := Vq1.ext E1_
 have z10_ : n0 ≤ h1_.size := Nat.le_trans Z0 E1_.1
 obtain ⟨T6_, Lc6_, v6_, X6_, hQ6_, st6_⟩ := own_cI (y := Y25) X5_ hx hZ hown (wt hw 217 rfl) (wt hw 137 rfl) (wt hw 138 rfl) (wt hw 2 rfl) rfl (by decide) (rmBa l Z a0 hw [] b1_ a1 (-(own_sg m1)) kq1 m1.natAbs (-m1) h1_ n0 z10_ A1_ F1__signum F1__mag g7_ f8_ f9_ (own_sgn m1) (Int.natAbs_neg m1) mz) e5_ (pc := 13) (Ls := #[rv x1]) (stk := [(.int (-(own_sg m1))), (.ref a1), (.ref b1_), (.ref b1_)]) (rest := [(.ref b1_)]) (by rw [hml]; rfl) pd10 rfl rfl (W := 1) rfl hby (D39 7) (by decide) (by decide) (by exact own_b rfl) (by exact own_b rfl)
 obtain ⟨rfl, Nq6_, ek6_, p6__0⟩ := hQ6_
 have N6_ := Fr.app N0 Nq6_
 have k11_ := (Keep.refl h0 []).ext E1_
 have k12_ := k11_.trans ek6_ (allS (Or.inr (Nat.le_trans (Keep.refl h0 []).1 (Nat.le_of_eq g1_.symm))) all0)
 refine ⟨_, _, _, _, some (.ref b1_), X6_, (by exact own_b rfl), (by exact own_b rfl), nofun, (by show Q_rmNe Z x1 a1 m1 h0 n0 _ T6_.heap _; exact ⟨b1_, rfl, N6_, k12_, p6__0, (Nat.le_trans (Keep.refl h0 []).1 (Nat.le_of_eq g1_.symm))⟩), fun fs hr => ?_⟩
 show Steps p.tables e below (s₁.setTop (mkF m 0 #[rv x1] [])) _
 refine st1_ _ ?_
 show Steps p.tables e below (T1_.setTop (mkF m 3 #[rv x1] [(.ref b1_)])) _
 refine kdup X1_ hx hby (D39 1) rfl ?_
 refine st3_ _ ?_
 refine st5_ _ ?_
 refine kineg X5_ hx hby (D39 6) ?_
 refine st6_ _ ?_
 exact retR X6_ hx hret rfl rfl rfl (hb hby (D39 8)) hr
theorem pd12 : parseMethodDescriptor "()Ljava/math/BigInteger;" = some ⟨[], some (.object "java/math/BigInteger")⟩ := by decide +kernel
def Q_rmAb (Z : State) (x1 : Addr) (a1 : Addr) (m1 : Int) (h0 : Heap) (n0 : Nat) (v : Option Value) (h : Heap) (L : List Loc) : Prop := ∃ (xb : Addr), v = some (.ref xb) ∧ Fr n0 L ∧ Keep h0 h [] ∧ (own_BI Z h xb a1 (Int.ofNat m1.natAbs))
abbrev Y45 : MethodName := ⟨"java/math/BigInteger", "abs", "()Ljava/math/BigInteger;"⟩
theorem ef45_R (m : MethodId) (x0 : Addr) : entryFrame m #[(.ref x0)] 1 = mkF m 0 #[rv x0] [] := by first | (simp [entryFrame, mkF, argsToLocals, Value.category]; done) | rfl
theorem abP (l : Launch) (Z : State) (a0 : Array Value) (hw : own_W Z a0) (ws : List Jvm.Cond) (x1 : Addr) (a1 : Addr) (m1 : Int) (h0 : Heap) (n0 : Nat) (Z0 : n0 ≤ h0.size) (B1 : own_BI Z h0 x1 a1 m1) (mz : m1.natAbs ≠ 0) (mp : 0 ≤ m1) : own_Met l Y45 jdk_2097_method_79_code 1 (some (.object "java/math/BigInteger")) ⟨4, 1, 6, 51⟩ ws #[(.ref x1)] Z h0 (Q_rmAb Z x1 a1 m1 h0 n0) := by
 refine own_go (plainFor_of_name pn_java_math_BigInteger) (fun m => ef45_R m x1) fun p e s m below meth c s₁ hx hby hml hown hnm hret hZ e0 X0 => ?_
 have N0 := Fr.nil n0
 obtain ⟨T1_, X1_, e1_, st1_⟩ := own_gN (pc := 0) (Ls := #[rv x1]) (stk := []) X0 hx hZ hown (wt hw 20 rfl) e0 B1.2.2.1 hby (D45 0) (D45 1) rfl
 have bc_ : own_BI Z h0 x1 a1 (Int.ofNat m1.natAbs) := (show m1 = Int.ofNat m1.natAbs from (Int.natAbs_of_nonneg mp).symm) ▸ B1
 refine ⟨_, _, _, _, some (.ref x1), X1_, (by exact own_b rfl), (by exact own_b rfl), nofun, (by show Q_rmAb Z x1 a1 m1 h0 n0 _ T1_.heap _; rw [e1_]; exact ⟨x1, rfl, N0, (Keep.refl h0 []), bc_⟩), fun fs hr => ?_⟩
 refine st1_ _ ?_
 refine kfN X1_ hx hby (D45 2) ((if0 _ _).trans (flt ((own_sgp mp) : ¬ ((own_sg m1) < (0 : Int32)))).1) ?_
 refine kaN X1_ hx hby (D45 3) rfl rfl ?_
 refine kg X1_ hx (pc0 := 8) (pc' := 15) rfl hby (D45 4) (by decide) (by decide) ?_
 exact retR X1_ hx hret rfl rfl rfl (hb hby (D45 5)) hr
theorem abN (l : Launch) (Z : State) (a0 : Array Value) (hw : own_W Z a0) (ws : List Jvm.Cond) (x1 : Addr) (a1 : Addr) (m1 : Int) (h0 : Heap) (n0 : Nat) (Z0 : n0 ≤ h0.size) (B1 : own_BI Z h0 x1 a1 m1) (mz : m1.natAbs ≠ 0) (mp : m1 < 0) : own_Met l Y45 jdk_2097_method_79_code 1 (some (.object "java/math/BigInteger")) ⟨4, 1, 6, 51⟩ ws #[(.ref x1)] Z h0 (Q_rmAb Z x1 a1 m1 h0 n0) := by
 refine own_go (plainFor_of_name pn_java_math_BigInteger) (fun m => ef45_R m x1) fun p e s m below meth c s₁ hx hby hml hown hnm hret hZ e0 X0 => ?_
 have N0 := Fr.nil n0
 obtain ⟨T1_, X1_, e1_, st1_⟩ := own_gN (pc := 0) (Ls := #[rv x1]) (stk := []) X0 hx hZ hown (wt hw 20 rfl) e0 B1.2.2.1 hby (D45 0) (D45 1) rfl
 obtain ⟨T2_, Lc2_, v2_, X2_, hQ2_, st2_⟩ := own_cV (y := Y39) X1_ hx hZ hown (wt hw 247 rfl) (wt hw 214 rfl) (wt hw 215 rfl) (wt hw 216 rfl) (wt hw 2 rfl) (by decide) (rmNe l Z a0 hw [] x1 a1 m1 h0 n0 Z0 B1 mz) B1.1 e1_ (pc := 12) (Ls := #[rv x1]) (stk := [(.ref x1)]) (rest := []) (by rw [hml]; rfl) pd12 rfl rfl (W := 0) rfl hby (D45 7) (by decide) (by decide) (by exact own_b rfl) (by exact own_b rfl)
 obtain ⟨xb_2_, rfl, Nq2_, ek2_, p2__0, p2__1⟩ := hQ2_
 have N2_ := Fr.app N0 Nq2_
 have bc_ : own_BI Z T2_.heap xb_2_ a1 (Int.ofNat m1.natAbs) := (show -m1 = Int.ofNat m1.natAbs from (Int.ofNat_natAbs_of_nonpos (Int.le_of_lt mp)).symm) ▸ p2__0
 have k3_ := (Keep.refl h0 []).trans ek2_ all0
 refine ⟨_, _, _, _, some (.ref xb_2_), X2_, (by exact own_b rfl), (by exact own_b rfl), nofun, (by show Q_rmAb Z x1 a1 m1 h0 n0 _ T2_.heap _; exact ⟨xb_2_, rfl, N2_, k3_, bc_⟩), fun fs hr => ?_⟩
 refine st1_ _ ?_
 refine kfY X1_ hx (pc0 := 4) (pc' := 11) rfl hby (D45 2) ((if0 _ _).trans (tlt ((own_sgm mp) : (own_sg m1) < (0 : Int32))).1) (by decide) (by decide) ?_
 refine kaN X1_ hx hby (D45 6) rfl rfl ?_
 refine st2_ _ ?_
 exact retR X2_ hx hret rfl rfl rfl (hb hby (D45 5)) hr
theorem rmAb (l : Launch) (Z : State) (a0 : Array Value) (hw : own_W Z a0) (ws : List Jvm.Cond) (x1 : Addr) (a1 : Addr) (m1 : Int) (h0 : Heap) (n0 : Nat) (Z0 : n0 ≤ h0.size) (B1 : own_BI Z h0 x1 a1 m1) (mz : m1.natAbs ≠ 0) :
    own_Met l Y45 jdk_2097_method_79_code 1 (some (.object "java/math/BigInteger")) ⟨4, 1, 6, 51⟩ ws #[(.ref x1)] Z h0 (Q_rmAb Z x1 a1 m1 h0 n0) := by
  by_cases c : 0 ≤ m1
  · exact abP l Z a0 hw ws _ _ _ h0 n0 Z0 B1 mz c
  · exact abN l Z a0 hw ws _ _ _ h0 n0 Z0 B1 mz (by omega)
theorem pd13 : parseMethodDescriptor "(Ljava/math/BigInteger;)V" = some ⟨[(.object "java/math/BigInteger")], none⟩ := by decide +kernel
theorem pd14 : parseMethodDescriptor "(I)Ljava/math/BigInteger;" = some ⟨[.int], some (.object "java/math/BigInteger")⟩ := by decide +kernel
def Q_rmGd (Z : State) (x1 : Addr) (x2 : Addr) (a1 : Addr) (m1 : Int) (a2 : Addr) (m2 : Int) (h0 : Heap) (n0 : Nat) (v : Option Value) (h : Heap) (L : List Loc) : Prop := ∃ (xg : Addr) (tg : Addr), v = some (.ref xg) ∧ Fr n0 L ∧ Keep h0 h [] ∧ (own_BI Z h xg tg (Int.ofNat (Nat.gcd m1.natAbs m2.natAbs)))
abbrev Y7 : MethodName := ⟨"java/math/BigInteger", "gcd", "(Ljava/math/BigInteger;)Ljava/math/BigInteger;"⟩
theorem ef7_RR (m : MethodId) (x0 : Addr) (x1 : Addr) : entryFrame m #[(.ref x0), (.ref x1)] 5 = mkF m 0 #[rv x0, rv x1, .unset, .unset, .unset] [] := by first | (simp [entryFrame, mkF, argsToLocals, Value.category]; done) | rfl
theorem gdZ (l : Launch) (Z : State) (a0 : Array Value) (hw : own_W Z a0) (ws : List Jvm.Cond) (x1 : Addr) (x2 : Addr) (a1 : Addr) (m1 : Int) (a2 : Addr) (m2 : Int) (h0 : Heap) (n0 : Nat) (Z0 : n0 ≤ h0.size) (B1 : own_BI Z h0 x1 a1 m1) (B2 : own_BI Z h0 x2 a2 m2) (mz : m2.natAbs ≠ 0) (mb1 : m1.natAbs < 18446744073709551616) (mb2 : m2.natAbs < 18446744073709551616) (gb : Nat.gcd m1.natAbs m2.natAbs < 4294967296) (m0 : m1 = 0) : own_Met l Y7 jdk_2097_method_73_code 5 (some (.object "java/math/BigInteger")) ⟨5, 10, 25, 85⟩ ws #[(.ref x1), (.ref x2)] Z h0 (Q_rmGd Z x1 x2 a1 m1 a2 m2 h0 n0) := by
 refine own_go (plainFor_of_name pn_java_math_BigInteger) (fun m => ef7_RR m x1 x2) fun p e s m below meth c s₁ hx hby hml hown hnm hret hZ e0 X0 => ?_
 have N0 := Fr.nil n0
 obtain ⟨T1_, X1_, e1_, st1_⟩ := own_gN (pc := 0) (Ls := #[rv x1, rv x2, .unset, .unset, .unset]) (stk := []) X0 hx hZ hown (wt hw 20 rfl) e0 B2.2.2.1 hby (D7 0) (D7 1) rfl
 obtain ⟨T2_, X2_, e2_, st2_⟩ := own_gN (pc := 12) (Ls := #[rv x1, rv x2, .unset, .unset, .unset]) (stk := []) X1_ hx hZ hown (wt hw 20 rfl) e1_ B1.2.2.1 hby (D7 3) (D7 4) rfl
 obtain ⟨T3_, Lc3_, v3_, X3_, hQ3_, st3_⟩ := own_cV (y := Y45) X2_ hx hZ hown (wt hw 241 rfl) (wt hw 243 rfl) (wt hw 244 rfl) (wt hw 245 rfl) (wt hw 2 rfl) (by decide) (rmAb l Z a0 hw [] x2 a2 m2 h0 n0 Z0 B2 mz) B2.1 e2_ (pc := 20) (Ls := #[rv x1, rv x2, .unset, .unset, .unset]) (stk := [(.ref x2)]) (rest := []) (by rw [hml]; rfl) pd12 rfl rfl (W := 0) rfl hby (D7 7) (by decide) (by decide) (by exact own_b rfl) (by exact own_b rfl)
 obtain ⟨xb_3_, rfl, Nq3_, ek3_, p3__0⟩ := hQ3_
 have N3_ := Fr.app N0 Nq3_
 have bc_ : own_BI Z T3_.heap xb_3_ a2 (Int.ofNat (Nat.gcd m1.natAbs m2.natAbs)) := (show Int.ofNat m2.natAbs = (Int.ofNat (Nat.gcd m1.natAbs m2.natAbs)) from by rw [m0]; simp) ▸ p3__0
 have k4_ := (Keep.refl h0 []).trans ek3_ all0
 refine ⟨_, _, _, _, some (.ref xb_3_), X3_, (by exact own_b rfl), (by exact own_b rfl), nofun, (by show Q_rmGd Z x1 x2 a1 m1 a2 m2 h0 n0 _ T3_.heap _; exact ⟨xb_3_, a2, rfl, N3_, k4_, bc_⟩), fun fs hr => ?_⟩
 refine st1_ _ ?_
 refine kfY X1_ hx (pc0 := 4) (pc' := 12) rfl hby (D7 2) ((if0 _ _).trans (feq ((own_sg0 mz) : ¬ ((own_sg m2) = (0 : Int32)))).2) (by decide) (by decide) ?_
 refine st2_ _ ?_
 refine kfN X2_ hx hby (D7 5) ((if0 _ _).trans (teq ((by rw [m0]; rfl) : (own_sg m1) = (0 : Int32))).2) ?_
 refine kaN X2_ hx hby (D7 6) rfl rfl ?_
 refine st3_ _ ?_
 exact retR X3_ hx hret rfl rfl rfl (hb hby (D7 8)) hr
theorem gdN (l : Launch) (Z : State) (a0 : Array Value) (hw : own_W Z a0) (ws : List Jvm.Cond) (x1 : Addr) (x2 : Addr) (a1 : Addr) (m1 : Int) (a2 : Addr) (m2 : Int) (h0 : Heap) (n0 : Nat) (Z0 : n0 ≤ h0.size) (B1 : own_BI Z h0 x1 a1 m1) (B2 : own_BI Z h0 x2 a2 m2) (mz : m2.natAbs ≠ 0) (mb1 : m1.natAbs < 18446744073709551616) (mb2 : m2.natAbs < 18446744073709551616) (gb : Nat.gcd m1.natAbs m2.natAbs < 4294967296) (m0 : m1.natAbs ≠ 0) : own_Met l Y7 jdk_2097_method_73_code 5 (some (.object "java/math/BigInteger")) ⟨5, 10, 25, 85⟩ ws #[(.ref x1), (.ref x2)] Z h0 (Q_rmGd Z x1 x2 a1 m1 a2 m2 h0 n0) := by
 refine own_go (plainFor_of_name pn_java_math_BigInteger) (fun m => ef7_RR m x1 x2) fun p e s m below meth c s₁ hx hby hml hown hnm hret hZ e0 X0 => ?_
 have N0 := Fr.nil n0
 obtain ⟨T1_, X1_, e1_, st1_⟩ := own_gN (pc := 0) (Ls := #[rv x1, rv x2, .unset, .unset, .unset]) (stk := []) X0 hx hZ hown (wt hw 20 rfl) e0 B2.2.2.1 hby (D7 0) (D7 1) rfl
 obtain ⟨T2_, X2_, e2_, st2_⟩ := own_gN (pc := 12) (Ls := #[rv x1, rv x2, .unset, .unset, .unset]) (stk := []) X1_ hx hZ hown (wt hw 20 rfl) e1_ B1.2.2.1 hby (D7 3) (D7 4) rfl
 obtain ⟨T3_, h3_, X3_, e3_, E3_, A3_, D3_, U3_, st3_⟩ := newO X2_ hx hZ hown (wt hw 39 rfl) (wt hw 40 rfl) (wt hw 41 rfl) e2_ (g := (mkF m 24 #[rv x1, rv x2, .unset, .unset, .unset] [])) rfl (hb hby (D7 9)) (by exact own_b rfl) (by exact own_b rfl)
 obtain ⟨b3_, g3_⟩ : ∃ z, z = h0.size := ⟨_, rfl⟩
 rw [← g3_] at A3_ D3_ U3_ st3_
 have F3__offset : Fld Z h3_ b3_ "java/math/MutableBigInteger" "offset" "I" (.int 0) := D3_ (Or.inl (wt hw 48 rfl)) (ty := .int) (by decide)
 have F3__intLen : Fld Z h3_ b3_ "java/math/MutableBigInteger" "intLen" "I" (.int 0) := D3_ (Or.inl (wt hw 51 rfl)) (ty := .int) (by decide)
 have F3__value : Fld Z h3_ b3_ "java/math/MutableBigInteger" "value" "[I" .null := D3_ (Or.inl (wt hw 66 rfl)) (ty := (.array .int)) (by decide)
 have g5_ : n0 ≤ b3_ := Nat.le_trans Z0 (Nat.le_of_eq g3_.symm)
 have f6_ := B1.ext E3_
 have z7_ : n0 ≤ h3_.size := Nat.le_trans Z0 E3_.1
 obtain ⟨T4_, Lc4_, v4_, X4_, hQ4_, st4_⟩ := own_cI (y := Y8) X3_ hx hZ hown (wt hw 42 rfl) (wt hw 43 rfl) (wt hw 45 rfl) (wt hw 41 rfl) rfl (by decide) (rmMb l Z a0 hw [] b3_ x1 a1 m1 h3_ n0 z7_ A3_ F3__value F3__intLen F3__offset g5_ f6_ m0 mb1) e3_ (pc := 29) (Ls := #[rv x1, rv x2, .unset, .unset, .unset]) (stk := [(.ref x1), (.ref b3_), (.ref b3_)]) (rest := [(.ref b3_)]) (by rw [hml]; rfl) pd13 rfl rfl (W := 1) rfl hby (D7 12) (by decide) (by decide) (by exact own_b rfl) (by exact own_b rfl)
 obtain ⟨t1_4_, rfl, Nq4_, ek4_, p4__0, p4__1⟩ := hQ4_
 have N4_ := Fr.app N0 Nq4_
 obtain ⟨T8_, h8_, X8_, e8_, E8_, A8_, D8_, U8_, st8_⟩ := newO X4_ hx hZ hown (wt hw 39 rfl) (wt hw 40 rfl) (wt hw 41 rfl) rfl (g := (mkF m 33 #[rv x1, rv x2, rv b3_, .unset, .unset] [])) rfl (hb hby (D7 14)) (by exact own_b rfl) (by exact own_b rfl)
 obtain ⟨b8_, g8_⟩ : ∃ z, z = T4_.heap.size := ⟨_, rfl⟩
 rw [← g8_] at A8_ D8_ U8_ st8_
 have F8__offset : Fld Z h8_ b8_ "java/math/MutableBigInteger" "offset" "I" (.int 0) := D8_ (Or.inl (wt hw 48 rfl)) (ty := .int) (by decide)
 have F8__intLen : Fld Z h8_ b8_ "java/math/MutableBigInteger" "intLen" "I" (.int 0) := D8_ (Or.inl (wt hw 51 rfl)) (ty := .int) (by decide)
 have F8__value : Fld Z h8_ b8_ "java/math/MutableBigInteger" "value" "[I" .null := D8_ (Or.inl (wt hw 66 rfl)) (ty := (.array .int)) (by decide)
 have z11_ : n0 ≤ T4_.heap.size := Nat.le_trans z7_ ek4_.1
 have g10_ : n0 ≤ b8_ := Nat.le_trans z11_ (Nat.le_of_eq g8_.symm)
 have f12_ := ((B2.ext E3_).keep ek4_ (ninS (Nat.ne_of_lt (Nat.lt_of_lt_of_le B2.1.lt (Nat.le_of_eq g3_.symm))) nin0) (ninS (Nat.ne_of_lt (Nat.lt_of_lt_of_le B2.2.1.lt (Nat.le_of_eq g3_.symm))) nin0)).ext E8_
 have z13_ : n0 ≤ h8_.size := Nat.le_trans z11_ E8_.1
 obtain ⟨T9_, Lc9_, v9_, X9_, hQ9_, st9_⟩ := own_cI (y := Y8) X8_ hx hZ hown (wt hw 42 rfl) (wt hw 43 rfl) (wt hw 45 rfl) (wt hw 41 rfl) rfl (by decide) (rmMb l Z a0 hw [] b8_ x2 a2 m2 h8_ n0 z13_ A8_ F8__value F8__intLen F8__offset g10_ f12_ mz mb2) e8_ (pc := 38) (Ls := #[rv x1, rv x2, rv b3_, .unset, .unset]) (stk := [(.ref x2), (.ref b8_), (.ref b8_)]) (rest := [(.ref b8_)]) (by rw [hml]; rfl) pd13 rfl rfl (W := 1) rfl hby (D7 17) (by decide) (by decide) (by exact own_b rfl) (by exact own_b rfl)
 obtain ⟨t1_9_, rfl, Nq9_, ek9_, p9__0, p9__1⟩ := hQ9_
 have N9_ := Fr.app N4_ Nq9_
 have f15_ := (p4__0.ext E8_).keep ek9_ (ninS (Nat.ne_of_lt (Nat.lt_of_lt_of_le p4__0.1.lt (Nat.le_of_eq g8_.symm))) nin0) (ninS (Nat.ne_of_lt (Nat.lt_of_lt_of_le p4__0.2.1.lt (Nat.le_of_eq g8_.symm))) nin0)
 have g16_ : n0 ≤ t1_4_ := Nat.le_trans z7_ p4__1
 have g17_ : n0 ≤ t1_9_ := Nat.le_trans z13_ p9__1
 have z18_ : n0 ≤ T9_.heap.size := Nat.le_trans z13_ ek9_.1
 have f19_ := (p4__0.1.ext E8_).keep ek9_
 obtain ⟨T14_, Lc14_, v14_, X14_, hQ14_, st14_⟩ := own_cV (y := Y10) X9_ hx hZ hown (wt hw 67 rfl) (wt hw 69 rfl) (wt hw 70 rfl) (wt hw 71 rfl) (wt hw 41 rfl) (by decide) (rmHy l Z a0 hw [] b3_ b8_ t1_4_ m1.natAbs t1_9_ m2.natAbs T9_.heap n0 z18_ f15_ p9__0 (Nat.ne_of_lt (Nat.lt_of_lt_of_le p4__0.1.lt (Nat.le_of_eq g8_.symm))) (Nat.ne_of_lt (Nat.lt_of_lt_of_le (p4__0.2.1.ext E8_).lt p9__1)) g5_ g16_ g10_ g17_ gb) f19_ rfl (pc := 44) (Ls := #[rv x1, rv x2, rv b3_, rv b8_, .unset]) (stk := [(.ref b8_), (.ref b3_)]) (rest := []) (by rw [hml]; rfl) pd7 rfl rfl (W := 0) rfl hby (D7 21) (by decide) (by decide) (by exact own_b rfl) (by exact own_b rfl)
 obtain ⟨r1_14_, t1_14_, rfl, Nq14_, ek14_, p14__0, p14__1, p14__2⟩ := hQ14_
 have N14_ := Fr.app N9_ Nq14_
 have g21_ : n0 ≤ r1_14_ := Nat.le_trans z18_ p14__1
 have g22_ : n0 ≤ t1_14_ := Nat.le_trans z18_ p14__2
 have z23_ : n0 ≤ T14_.heap.size := Nat.le_trans z18_ ek14_.1
 obtain ⟨T20_, Lc20_, v20_, X20_, hQ20_, st20_⟩ := own_cV (y := Y23) X14_ hx hZ hown (wt hw 125 rfl) (wt hw 127 rfl) (wt hw 128 rfl) (wt hw 129 rfl) (wt hw 41 rfl) (by decide) (rmTb l Z a0 hw [] r1_14_ (1 : Int32) t1_14_ (Nat.gcd m1.natAbs m2.natAbs) (Int.ofNat (Nat.gcd m1.natAbs m2.natAbs)) T14_.heap n0 z23_ p14__0 g21_ g22_ (own_sgo (own_MB.nz p14__0)) rfl) p14__0.1 rfl (pc := 52) (Ls := #[rv x1, rv x2, rv b3_, rv b8_, rv r1_14_]) (stk := [(.int 1), (.ref r1_14_)]) (rest := []) (by rw [hml]; rfl) pd14 rfl rfl (W := 0) rfl hby (D7 25) (by decide) (by decide) (by exact own_b rfl) (by exact own_b rfl)
 obtain ⟨xb_20_, tb_20_, rfl, Nq20_, ek20_, p20__0, p20__1⟩ := hQ20_
 have N20_ := Fr.app N14_ Nq20_
 have k24_ := (Keep.refl h0 []).ext E3_
 have k25_ := k24_.trans ek4_ (allS (Or.inr (Nat.le_trans (Keep.refl h0 []).1 (Nat.le_of_eq g3_.symm))) all0)
 have k26_ := k25_.ext E8_
 have k27_ := k26_.trans ek9_ (allS (Or.inr (Nat.le_trans k25_.1 (Nat.le_of_eq g8_.symm))) all0)
 have k28_ := k27_.trans ek14_ (allS (Or.inr (Nat.le_trans (Keep.refl h0 []).1 (Nat.le_of_eq g3_.symm))) (allS (Or.inr (Nat.le_trans k24_.1 p4__1)) (allS (Or.inr (Nat.le_trans k25_.1 (Nat.le_of_eq g8_.symm))) (allS (Or.inr (Nat.le_trans k26_.1 p9__1)) all0))))
 have k29_ := k28_.trans ek20_ (allS (Or.inr (Nat.le_trans k27_.1 p14__1)) (allS (Or.inr (Nat.le_trans k27_.1 p14__2)) all0))
 refine ⟨_, _, _, _, some (.ref xb_20_), X20_, (by exact own_b rfl), (by exact own_b rfl), nofun, (by show Q_rmGd Z x1 x2 a1 m1 a2 m2 h0 n0 _ T20_.heap _; exact ⟨xb_20_, tb_20_, rfl, N20_, k29_, p20__0⟩), fun fs hr => ?_⟩
 refine st1_ _ ?_
 refine kfY X1_ hx (pc0 := 4) (pc' := 12) rfl hby (D7 2) ((if0 _ _).trans (feq ((own_sg0 mz) : ¬ ((own_sg m2) = (0 : Int32)))).2) (by decide) (by decide) ?_
 refine st2_ _ ?_
 refine kfY X2_ hx (pc0 := 16) (pc' := 24) rfl hby (D7 5) ((if0 _ _).trans (feq ((own_sg0 m0) : ¬ ((own_sg m1) = (0 : Int32)))).2) (by decide) (by decide) ?_
 show Steps p.tables e below (T2_.setTop (mkF m 24 #[rv x1, rv x2, .unset, .unset, .unset] [])) _
 refine st3_ _ ?_
 show Steps p.tables e below (T3_.setTop (mkF m 27 #[rv x1, rv x2, .unset, .unset, .unset] [(.ref b3_)])) _
 refine kdup X3_ hx hby (D7 10) rfl ?_
 refine kaN X3_ hx hby (D7 11) rfl rfl ?_
 refine st4_ _ ?_
 refine ktN X4_ hx hby (D7 13) rfl (l' := #[rv x1, rv x2, rv b3_, .unset, .unset]) rfl ?_
 show Steps p.tables e below (T4_.setTop (mkF m 33 #[rv x1, rv x2, rv b3_, .unset, .unset] [])) _
 refine st8_ _ ?_
 show Steps p.tables e below (T8_.setTop (mkF m 36 #[rv x1, rv x2, rv b3_, .unset, .unset] [(.ref b8_)])) _
 refine kdup X8_ hx hby (D7 15) rfl ?_
 refine kaN X8_ hx hby (D7 16) rfl rfl ?_
 refine st9_ _ ?_
 refine ktN X9_ hx hby (D7 18) rfl (l' := #[rv x1, rv x2, rv b3_, rv b8_, .unset]) rfl ?_
 refine kaN X9_ hx hby (D7 19) rfl rfl ?_
 refine kaN X9_ hx hby (D7 20) rfl rfl ?_
 refine st14_ _ ?_
 refine kastore X14_ hx hby (D7 22) rfl (l' := #[rv x1, rv x2, rv b3_, rv b8_, rv r1_14_]) rfl ?_
 refine ka X14_ hx hby (D7 23) rfl rfl ?_
 refine kc X14_ hx hby (D7 24) ?_
 refine st20_ _ ?_
 exact retR X20_ hx hret rfl rfl rfl (hb hby (D7 26)) hr
theorem rmGd (l : Launch) (Z : State) (a0 : Array Value) (hw : own_W Z a0) (ws : List Jvm.Cond) (x1 : Addr) (x2 : Addr) (a1 : Addr) (m1 : Int) (a2 : Addr) (m2 : Int) (h0 : Heap) (n0 : Nat) (Z0 : n0 ≤ h0.size) (B1 : own_BI Z h0 x1 a1 m1) (B2 : own_BI Z h0 x2 a2 m2) (mz : m2.natAbs ≠ 0) (mb1 : m1.natAbs < 18446744073709551616) (mb2 : m2.natAbs < 18446744073709551616) (gb : Nat.gcd m1.natAbs m2.natAbs < 4294967296) :
    own_Met l Y7 jdk_2097_method_73_code 5 (some (.object "java/math/BigInteger")) ⟨5, 10, 25, 85⟩ ws #[(.ref x1), (.ref x2)] Z h0 (Q_rmGd Z x1 x2 a1 m1 a2 m2 h0 n0) := by
  by_cases c : m1 = 0
  · exact gdZ l Z a0 hw ws _ _ _ _ _ _ h0 n0 Z0 B1 B2 mz mb1 mb2 gb c
  · exact gdN l Z a0 hw ws _ _ _ _ _ _ h0 n0 Z0 B1 B2 mz mb1 mb2 gb (fun q => c (Int.natAbs_eq_zero.mp q))
def Q_cmE (Z : State) (o1 : Addr) (o2 : Addr) (a1 : Addr) (k1 : ClassId) (x1 : Int32) (a2 : Addr) (k2 : ClassId) (h0 : Heap) (n0 : Nat) (v : Option Value) (h : Heap) (L : List Loc) : Prop := v = some (.int 0) ∧ Fr n0 L ∧ h = h0
theorem cmE (l : Launch) (Z : State) (a0 : Array Value) (hw : own_W Z a0) (ws : List Jvm.Cond) (o1 : Addr) (o2 : Addr) (a1 : Addr) (k1 : ClassId) (x1 : Int32) (a2 : Addr) (k2 : ClassId) (h0 : Heap) (n0 : Nat) (Z0 : n0 ≤ h0.size) (S1 : own_SH Z h0 o1 a1 (1 : Int32) (0 : Int32) k1 (1 : Int32) [(.int x1)]) (S2 : own_SH Z h0 o2 a2 (1 : Int32) (0 : Int32) k2 (1 : Int32) [(.int x1)]) : own_Met l Y30 jdk_2101_method_15_code 8 (some .int) ⟨0, 0, 0, 0⟩ ws #[(.ref o1), (.ref o2)] Z h0 (Q_cmE Z o1 o2 a1 k1 x1 a2 k2 h0 n0) := by
 refine own_go (plainFor_of_name pn_java_math_MutableBigInteger) (fun m => ef30_RR m o1 o2) fun p e s m below meth c s₁ hx hby hml hown hnm hret hZ e0 X0 => ?_
 have N0 := Fr.nil n0
 obtain ⟨T1_, X1_, e1_, st1_⟩ := own_gN (pc := 0) (Ls := #[rv o1, rv o2, .unset, .unset, .unset, .unset, .unset, .unset]) (stk := []) X0 hx hZ hown (wt hw 50 rfl) e0 S2.2.2.2.1 hby (D30 0) (D30 1) rfl
 obtain ⟨T2_, X2_, e2_, st2_⟩ := own_gN (pc := 5) (Ls := #[rv o1, rv o2, iv 1, .unset, .unset, .unset, .unset, .unset]) (stk := []) X1_ hx hZ hown (wt hw 50 rfl) e1_ S1.2.2.2.1 hby (D30 3) (D30 4) rfl
 obtain ⟨T3_, X3_, e3_, st3_⟩ := own_gN (pc := 15) (Ls := #[rv o1, rv o2, iv 1, .unset, .unset, .unset, .unset, .unset]) (stk := []) X2_ hx hZ hown (wt hw 50 rfl) e2_ S1.2.2.2.1 hby (D30 7) (D30 8) rfl
 obtain ⟨T4_, X4_, e4_, st4_⟩ := own_gN (pc := 25) (Ls := #[rv o1, rv o2, iv 1, .unset, .unset, .unset, .unset, .unset]) (stk := []) X3_ hx hZ hown (wt hw 65 rfl) e3_ S2.2.2.1 hby (D30 15) (D30 16) rfl
 obtain ⟨T5_, X5_, e5_, st5_⟩ := own_gN (pc := 30) (Ls := #[rv o1, rv o2, iv 1, rv a2, .unset, .unset, .unset, .unset]) (stk := []) X4_ hx hZ hown (wt hw 47 rfl) e4_ S1.2.2.2.2.1 hby (D30 18) (D30 19) rfl
 obtain ⟨T6_, X6_, e6_, st6_⟩ := own_gN (pc := 36) (Ls := #[rv o1, rv o2, iv 1, rv a2, iv 0, .unset, .unset, .unset]) (stk := []) X5_ hx hZ hown (wt hw 47 rfl) e5_ S2.2.2.2.2.1 hby (D30 21) (D30 22) rfl
 obtain ⟨T7_, X7_, e7_, st7_⟩ := own_gN (pc := 44) (Ls := #[rv o1, rv o2, iv 1, rv a2, iv 0, iv 0, .unset, .unset]) (stk := [(.int 0)]) X6_ hx hZ hown (wt hw 50 rfl) e6_ S1.2.2.2.1 hby (D30 25) (D30 26) rfl
 obtain ⟨T8_, X8_, e8_, st8_⟩ := own_gN (pc := 48) (Ls := #[rv o1, rv o2, iv 1, rv a2, iv 0, iv 0, .unset, .unset]) (stk := [(.int 1), (.int 0)]) X7_ hx hZ hown (wt hw 47 rfl) e7_ S1.2.2.2.2.1 hby (D30 27) (D30 28) rfl
 obtain ⟨T9_, X9_, e9_, st9_⟩ := own_gN (pc := 56) (Ls := #[rv o1, rv o2, iv 1, rv a2, iv 0, iv 0, .unset, .unset]) (stk := []) X8_ hx hZ hown (wt hw 65 rfl) e8_ S1.2.2.1 hby (D30 31) (D30 32) rfl
 obtain ⟨T10_, X10_, e10_, st10_⟩ := own_gN (pc := 44) (Ls := #[rv o1, rv o2, iv 1, rv a2, iv 1, iv 1, iv (x1 + (-2147483648 : Int32)), iv (x1 + (-2147483648 : Int32))]) (stk := [(.int 1)]) X9_ hx hZ hown (wt hw 50 rfl) e9_ S1.2.2.2.1 hby (D30 25) (D30 26) rfl
 obtain ⟨T11_, X11_, e11_, st11_⟩ := own_gN (pc := 48) (Ls := #[rv o1, rv o2, iv 1, rv a2, iv 1, iv 1, iv (x1 + (-2147483648 : Int32)), iv (x1 + (-2147483648 : Int32))]) (stk := [(.int 1), (.int 1)]) X10_ hx hZ hown (wt hw 47 rfl) e10_ S1.2.2.2.2.1 hby (D30 27) (D30 28) rfl
 refine ⟨_, _, _, _, some (.int 0), X11_, (by exact own_b rfl), (by exact own_b rfl), nofun, (by show Q_cmE Z o1 o2 a1 k1 x1 a2 k2 h0 n0 _ T11_.heap _; rw [e11_]; exact ⟨rfl, N0, rfl⟩), fun fs hr => ?_⟩
 refine st1_ _ ?_
 refine ksN X1_ hx hby (D30 2) (l' := #[rv o1, rv o2, iv 1, .unset, .unset, .unset, .unset, .unset]) rfl ?_
 refine st2_ _ ?_
 refine kiN X2_ hx hby (D30 5) rfl ?_
 refine kcY X2_ hx (pc0 := 10) (pc' := 15) rfl hby (D30 6) (flt ((by decide) : ¬ ((1 : Int32) < (1 : Int32)))).2.1 (by decide) (by decide) ?_
 refine st3_ _ ?_
 refine kiN X3_ hx hby (D30 9) rfl ?_
 refine kcY X3_ hx (pc0 := 20) (pc' := 25) rfl hby (D30 10) (flt ((by decide) : ¬ ((1 : Int32) < (1 : Int32)))).2.2.2 (by decide) (by decide) ?_
 refine st4_ _ ?_
 refine ktN X4_ hx hby (D30 17) rfl (l' := #[rv o1, rv o2, iv 1, rv a2, .unset, .unset, .unset, .unset]) rfl ?_
 refine st5_ _ ?_
 refine ks X5_ hx hby (D30 20) (l' := #[rv o1, rv o2, iv 1, rv a2, iv 0, .unset, .unset, .unset]) rfl ?_
 refine st6_ _ ?_
 refine ks X6_ hx hby (D30 23) (l' := #[rv o1, rv o2, iv 1, rv a2, iv 0, iv 0, .unset, .unset]) rfl ?_
 refine ki X6_ hx hby (D30 24) rfl ?_
 refine st7_ _ ?_
 refine st8_ _ ?_
 refine kia X8_ hx hby (D30 29) ?_
 refine kcN X8_ hx hby (D30 30) (tlt ((by decide) : (0 : Int32) < (1 : Int32))).2.1 ?_
 refine st9_ _ ?_
 refine ki X9_ hx hby (D30 33) rfl ?_
 refine own_ia X9_ hx hZ e9_ S1.2.2.2.2.2 ⟨by decide, by decide⟩ rfl hby (D30 34) ?_
 refine own_ld X9_ hx hZ hown (wt hw 114 rfl) hby (D30 35) ?_
 refine kia X9_ hx hby (D30 36) ?_
 refine ks X9_ hx hby (D30 37) (l' := #[rv o1, rv o2, iv 1, rv a2, iv 0, iv 0, iv (x1 + (-2147483648 : Int32)), .unset]) rfl ?_
 refine kaN X9_ hx hby (D30 38) rfl rfl ?_
 refine ki X9_ hx hby (D30 39) rfl ?_
 refine own_ia X9_ hx hZ e9_ S2.2.2.2.2.2 ⟨by decide, by decide⟩ rfl hby (D30 40) ?_
 refine own_ld X9_ hx hZ hown (wt hw 114 rfl) hby (D30 41) ?_
 refine kia X9_ hx hby (D30 42) ?_
 refine ks X9_ hx hby (D30 43) (l' := #[rv o1, rv o2, iv 1, rv a2, iv 0, iv 0, iv (x1 + (-2147483648 : Int32)), iv (x1 + (-2147483648 : Int32))]) rfl ?_
 refine ki X9_ hx hby (D30 44) rfl ?_
 refine ki X9_ hx hby (D30 45) rfl ?_
 refine kcY X9_ hx (pc0 := 81) (pc' := 86) rfl hby (D30 46) (flt (Int32.lt_irrefl : ¬ ((x1 + (-2147483648 : Int32)) < (x1 + (-2147483648 : Int32))))).2.1 (by decide) (by decide) ?_
 refine ki X9_ hx hby (D30 47) rfl ?_
 refine ki X9_ hx hby (D30 48) rfl ?_
 refine kcY X9_ hx (pc0 := 90) (pc' := 95) rfl hby (D30 49) (flt (Int32.lt_irrefl : ¬ ((x1 + (-2147483648 : Int32)) < (x1 + (-2147483648 : Int32))))).2.2.2 (by decide) (by decide) ?_
 refine kn X9_ hx hby (D30 52) rfl (l' := #[rv o1, rv o2, iv 1, rv a2, iv 1, iv 0, iv (x1 + (-2147483648 : Int32)), iv (x1 + (-2147483648 : Int32))]) rfl ?_
 refine kn X9_ hx hby (D30 53) rfl (l' := #[rv o1, rv o2, iv 1, rv a2, iv 1, iv 1, iv (x1 + (-2147483648 : Int32)), iv (x1 + (-2147483648 : Int32))]) rfl ?_
 refine kg X9_ hx (pc0 := 101) (pc' := 42) rfl hby (D30 54) (by decide) (by decide) ?_
 refine ki X9_ hx hby (D30 24) rfl ?_
 refine st10_ _ ?_
 refine st11_ _ ?_
 refine kia X11_ hx hby (D30 29) ?_
 refine kcY X11_ hx (pc0 := 53) (pc' := 104) rfl hby (D30 30) (flt ((by decide) : ¬ ((1 : Int32) < (1 : Int32)))).2.1 (by decide) (by decide) ?_
 refine kc X11_ hx hby (D30 57) ?_
 exact retI X11_ hx hret (hb hby (D30 58)) hr
def Q_cm1 (Z : State) (o1 : Addr) (o2 : Addr) (a1 : Addr) (k1 : ClassId) (x1 : Int32) (a2 : Addr) (k2 : ClassId) (x2 : Int32) (h0 : Heap) (n0 : Nat) (v : Option Value) (h : Heap) (L : List Loc) : Prop := v = some (.int 1) ∧ Fr n0 L ∧ h = h0
theorem cm1 (l : Launch) (Z : State) (a0 : Array Value) (hw : own_W Z a0) (ws : List Jvm.Cond) (o1 : Addr) (o2 : Addr) (a1 : Addr) (k1 : ClassId) (x1 : Int32) (a2 : Addr) (k2 : ClassId) (x2 : Int32) (h0 : Heap) (n0 : Nat) (Z0 : n0 ≤ h0.size) (S1 : own_SH Z h0 o1 a1 (1 : Int32) (0 : Int32) k1 (1 : Int32) [(.int x1)]) (S2 : own_SH Z h0 o2 a2 (1 : Int32) (0 : Int32) k2 (1 : Int32) [(.int x2)]) (gu : own_u x2 < own_u x1) : own_Met l Y30 jdk_2101_method_15_code 8 (some .int) ⟨0, 0, 0, 0⟩ ws #[(.ref o1), (.ref o2)] Z h0 (Q_cm1 Z o1 o2 a1 k1 x1 a2 k2 x2 h0 n0) := by
 refine own_go (plainFor_of_name pn_java_math_MutableBigInteger) (fun m => ef30_RR m o1 o2) fun p e s m below meth c s₁ hx hby hml hown hnm hret hZ e0 X0 => ?_
 have N0 := Fr.nil n0
 obtain ⟨T1_, X1_, e1_, st1_⟩ := own_gN (pc := 0) (Ls := #[rv o1, rv o2, .unset, .unset, .unset, .unset, .unset, .unset]) (stk := []) X0 hx hZ hown (wt hw 50 rfl) e0 S2.2.2.2.1 hby (D30 0) (D30 1) rfl
 obtain ⟨T2_, X2_, e2_, st2_⟩ := own_gN (pc := 5) (Ls := #[rv o1, rv o2, iv 1, .unset, .unset, .unset, .unset, .unset]) (stk := []) X1_ hx hZ hown (wt hw 50 rfl) e1_ S1.2.2.2.1 hby (D30 3) (D30 4) rfl
 obtain ⟨T3_, X3_, e3_, st3_⟩ := own_gN (pc := 15) (Ls := #[rv o1, rv o2, iv 1, .unset, .unset, .unset, .unset, .unset]) (stk := []) X2_ hx hZ hown (wt hw 50 rfl) e2_ S1.2.2.2.1 hby (D30 7) (D30 8) rfl
 obtain ⟨T4_, X4_, e4_, st4_⟩ := own_gN (pc := 25) (Ls := #[rv o1, rv o2, iv 1, .unset, .unset, .unset, .unset, .unset]) (stk := []) X3_ hx hZ hown (wt hw 65 rfl) e3_ S2.2.2.1 hby (D30 15) (D30 16) rfl
 obtain ⟨T5_, X5_, e5_, st5_⟩ := own_gN (pc := 30) (Ls := #[rv o1, rv o2, iv 1, rv a2, .unset, .unset, .unset, .unset]) (stk := []) X4_ hx hZ hown (wt hw 47 rfl) e4_ S1.2.2.2.2.1 hby (D30 18) (D30 19) rfl
 obtain ⟨T6_, X6_, e6_, st6_⟩ := own_gN (pc := 36) (Ls := #[rv o1, rv o2, iv 1, rv a2, iv 0, .unset, .unset, .unset]) (stk := []) X5_ hx hZ hown (wt hw 47 rfl) e5_ S2.2.2.2.2.1 hby (D30 21) (D30 22) rfl
 obtain ⟨T7_, X7_, e7_, st7_⟩ := own_gN (pc := 44) (Ls := #[rv o1, rv o2, iv 1, rv a2, iv 0, iv 0, .unset, .unset]) (stk := [(.int 0)]) X6_ hx hZ hown (wt hw 50 rfl) e6_ S1.2.2.2.1 hby (D30 25) (D30 26) rfl
 obtain ⟨T8_, X8_, e8_, st8_⟩ := own_gN (pc := 48) (Ls := #[rv o1, rv o2, iv 1, rv a2, iv 0, iv 0, .unset, .unset]) (stk := [(.int 1), (.int 0)]) X7_ hx hZ hown (wt hw 47 rfl) e7_ S1.2.2.2.2.1 hby (D30 27) (D30 28) rfl
 obtain ⟨T9_, X9_, e9_, st9_⟩ := own_gN (pc := 56) (Ls := #[rv o1, rv o2, iv 1, rv a2, iv 0, iv 0, .unset, .unset]) (stk := []) X8_ hx hZ hown (wt hw 65 rfl) e8_ S1.2.2.1 hby (D30 31) (D30 32) rfl
 refine ⟨_, _, _, _, some (.int 1), X9_, (by exact own_b rfl), (by exact own_b rfl), nofun, (by show Q_cm1 Z o1 o2 a1 k1 x1 a2 k2 x2 h0 n0 _ T9_.heap _; rw [e9_]; exact ⟨rfl, N0, rfl⟩), fun fs hr => ?_⟩
 refine st1_ _ ?_
 refine ksN X1_ hx hby (D30 2) (l' := #[rv o1, rv o2, iv 1, .unset, .unset, .unset, .unset, .unset]) rfl ?_
 refine st2_ _ ?_
 refine kiN X2_ hx hby (D30 5) rfl ?_
 refine kcY X2_ hx (pc0 := 10) (pc' := 15) rfl hby (D30 6) (flt ((by decide) : ¬ ((1 : Int32) < (1 : Int32)))).2.1 (by decide) (by decide) ?_
 refine st3_ _ ?_
 refine kiN X3_ hx hby (D30 9) rfl ?_
 refine kcY X3_ hx (pc0 := 20) (pc' := 25) rfl hby (D30 10) (flt ((by decide) : ¬ ((1 : Int32) < (1 : Int32)))).2.2.2 (by decide) (by decide) ?_
 refine st4_ _ ?_
 refine ktN X4_ hx hby (D30 17) rfl (l' := #[rv o1, rv o2, iv 1, rv a2, .unset, .unset, .unset, .unset]) rfl ?_
 refine st5_ _ ?_
 refine ks X5_ hx hby (D30 20) (l' := #[rv o1, rv o2, iv 1, rv a2, iv 0, .unset, .unset, .unset]) rfl ?_
 refine st6_ _ ?_
 refine ks X6_ hx hby (D30 23) (l' := #[rv o1, rv o2, iv 1, rv a2, iv 0, iv 0, .unset, .unset]) rfl ?_
 refine ki X6_ hx hby (D30 24) rfl ?_
 refine st7_ _ ?_
 refine st8_ _ ?_
 refine kia X8_ hx hby (D30 29) ?_
 refine kcN X8_ hx hby (D30 30) (tlt ((by decide) : (0 : Int32) < (1 : Int32))).2.1 ?_
 refine st9_ _ ?_
 refine ki X9_ hx hby (D30 33) rfl ?_
 refine own_ia X9_ hx hZ e9_ S1.2.2.2.2.2 ⟨by decide, by decide⟩ rfl hby (D30 34) ?_
 refine own_ld X9_ hx hZ hown (wt hw 114 rfl) hby (D30 35) ?_
 refine kia X9_ hx hby (D30 36) ?_
 refine ks X9_ hx hby (D30 37) (l' := #[rv o1, rv o2, iv 1, rv a2, iv 0, iv 0, iv (x1 + (-2147483648 : Int32)), .unset]) rfl ?_
 refine kaN X9_ hx hby (D30 38) rfl rfl ?_
 refine ki X9_ hx hby (D30 39) rfl ?_
 refine own_ia X9_ hx hZ e9_ S2.2.2.2.2.2 ⟨by decide, by decide⟩ rfl hby (D30 40) ?_
 refine own_ld X9_ hx hZ hown (wt hw 114 rfl) hby (D30 41) ?_
 refine kia X9_ hx hby (D30 42) ?_
 refine ks X9_ hx hby (D30 43) (l' := #[rv o1, rv o2, iv 1, rv a2, iv 0, iv 0, iv (x1 + (-2147483648 : Int32)), iv (x2 + (-2147483648 : Int32))]) rfl ?_
 refine ki X9_ hx hby (D30 44) rfl ?_
 refine ki X9_ hx hby (D30 45) rfl ?_
 refine kcY X9_ hx (pc0 := 81) (pc' := 86) rfl hby (D30 46) (flt ((fun q => absurd ((own_ult x1 x2).mp q) (by omega)) : ¬ ((x1 + (-2147483648 : Int32)) < (x2 + (-2147483648 : Int32))))).2.1 (by decide) (by decide) ?_
 refine ki X9_ hx hby (D30 47) rfl ?_
 refine ki X9_ hx hby (D30 48) rfl ?_
 refine kcN X9_ hx hby (D30 49) (tlt (((own_ult x2 x1).mpr gu) : (x2 + (-2147483648 : Int32)) < (x1 + (-2147483648 : Int32)))).2.2.2 ?_
 refine kc X9_ hx hby (D30 50) ?_
 exact retI X9_ hx hret (hb hby (D30 51)) hr
abbrev Y31 : MethodName := ⟨"java/math/MutableBigInteger", "clear", "()V"⟩
theorem ef31_R (m : MethodId) (x0 : Addr) : entryFrame m #[(.ref x0)] 3 = mkF m 0 #[rv x0, .unset, .unset] [] := by first | (simp [entryFrame, mkF, argsToLocals, Value.category]; done) | rfl
def Q_rmCl (Z : State) (o3 : Addr) (a3 : Addr) (k3 : ClassId) (h0 : Heap) (n0 : Nat) (v : Option Value) (h : Heap) (L : List Loc) : Prop := v = none ∧ Fr n0 L ∧ Keep h0 h [o3, a3] ∧ (Fld Z h o3 "java/math/MutableBigInteger" "value" "[I" (.ref a3)) ∧ (Fld Z h o3 "java/math/MutableBigInteger" "intLen" "I" (.int 0)) ∧ (Fld Z h o3 "java/math/MutableBigInteger" "offset" "I" (.int 0)) ∧ (Arv Z h a3 k3 .int (1 : Int32) [(.int 0)] (.int 0))
theorem rmCl (l : Launch) (Z : State) (a0 : Array Value) (hw : own_W Z a0) (ws : List Jvm.Cond) (o3 : Addr) (a3 : Addr) (k3 : ClassId) (h0 : Heap) (n0 : Nat) (Z0 : n0 ≤ h0.size) (S3 : own_SH Z h0 o3 a3 (0 : Int32) (0 : Int32) k3 (1 : Int32) [(.int 0)]) (g1 : n0 ≤ o3) (g2 : n0 ≤ a3) : own_Met l Y31 jdk_2101_method_13_code 3 none ⟨0, 0, 0, 0⟩ ws #[(.ref o3)] Z h0 (Q_rmCl Z o3 a3 k3 h0 n0) := by
 refine own_go (plainFor_of_name pn_java_math_MutableBigInteger) (fun m => ef31_R m o3) fun p e s m below meth c s₁ hx hby hml hown hnm hret hZ e0 X0 => ?_
 have N0 := Fr.nil n0
 obtain ⟨T1_, h1_, X1_, e1_, W1_, w1_, N1_, st1_⟩ := own_pf (pc := 4) (Ls := #[rv o3, .unset, .unset]) (stk := [(.int 0), (.ref o3), (.int 0), (.ref o3)]) X0 hx hZ hown (wt hw 50 rfl) e0 S3.2.2.2.1 S3.1 (Or.inl (wt hw 51 rfl)) (wt hw 40 rfl) (ty := .int) (by decide) rfl rfl N0 g1 hby (D31 4) rfl
 have f2_ := S3.1.wr W1_
 have f3_ := S3.2.2.2.2.1.other W1_ (Or.inr (slot_ne (Or.inl (wt hw 48 rfl)) (Or.inl (wt hw 51 rfl)) (by decide) (t := .int) (t' := .int) (by decide) (by decide)))
 obtain ⟨T4_, h4_, X4_, e4_, W4_, w4_, N4_, st4_⟩ := own_pf (pc := 7) (Ls := #[rv o3, .unset, .unset]) (stk := [(.int 0), (.ref o3)]) X1_ hx hZ hown (wt hw 47 rfl) e1_ f3_ f2_ (Or.inl (wt hw 48 rfl)) (wt hw 40 rfl) (ty := .int) (by decide) rfl rfl N1_ g1 hby (D31 5) rfl
 have f5_ := (S3.2.2.1.other W1_ (Or.inr (slot_ne (Or.inl (wt hw 66 rfl)) (Or.inl (wt hw 51 rfl)) (by decide) (t := (.array .int)) (t' := .int) (by decide) (by decide)))).other W4_ (Or.inr (slot_ne (Or.inl (wt hw 66 rfl)) (Or.inl (wt hw 48 rfl)) (by decide) (t := (.array .int)) (t' := .int) (by decide) (by decide)))
 obtain ⟨T6_, X6_, e6_, st6_⟩ := own_gN (pc := 12) (Ls := #[rv o3, iv 0, .unset]) (stk := []) X4_ hx hZ hown (wt hw 65 rfl) e4_ f5_ hby (D31 8) (D31 9) rfl
 have f7_ := (S3.2.2.2.2.2.other W1_ (ne_exa S3.2.1 S3.1 (by decide))).other W4_ (ne_exa (S3.2.1.wr W1_) f2_ (by decide))
 obtain ⟨T8_, X8_, e8_, st8_⟩ := own_gN (pc := 23) (Ls := #[rv o3, iv 0, iv 1]) (stk := []) X6_ hx hZ hown (wt hw 65 rfl) e6_ f5_ hby (D31 15) (D31 16) rfl
 obtain ⟨T9_, h9_, X9_, e9_, W9_, v9_, N9_, st9_⟩ := own_si (pc := 29) (Ls := #[rv o3, iv 0, iv 1]) (stk := [(.int 0), (.int 0), (.ref a3)]) X8_ hx hZ e8_ f7_ ⟨by decide, by decide⟩ 0 rfl (Nat.le_of_ble_eq_true rfl) N4_ g2 hby (D31 19) rfl
 have f10_ := f5_.other W9_ (Or.inl (ne_exa (f2_.wr W4_) ((S3.2.1.wr W1_).wr W4_) (by decide)))
 have f11_ := (w1_.other W4_ (Or.inr (slot_ne (Or.inl (wt hw 51 rfl)) (Or.inl (wt hw 48 rfl)) (by decide) (t := .int) (t' := .int) (by decide) (by decide)))).other W9_ (Or.inl (ne_exa (f2_.wr W4_) ((S3.2.1.wr W1_).wr W4_) (by decide)))
 have f12_ := w4_.other W9_ (Or.inl (ne_exa (f2_.wr W4_) ((S3.2.1.wr W1_).wr W4_) (by decide)))
 have k13_ := (Keep.refl h0 [o3, a3]).wr W1_ (own_in 0 rfl)
 have k14_ := k13_.wr W4_ (own_in 0 rfl)
 have k15_ := k14_.wr W9_ (own_in 1 rfl)
 refine ⟨_, _, _, _, none, X9_, (by exact own_b rfl), (by exact own_b rfl), (fun _ => rfl), (by show Q_rmCl Z o3 a3 k3 h0 n0 _ T9_.heap _; rw [e9_]; exact ⟨rfl, N9_, k15_, f10_, f11_, f12_, v9_⟩), fun fs hr => ?_⟩
 refine kaN X0 hx hby (D31 0) rfl rfl ?_
 refine kaN X0 hx hby (D31 1) rfl rfl ?_
 refine kc X0 hx hby (D31 2) ?_
 refine kdupX1 X0 hx hby (D31 3) rfl rfl ?_
 refine st1_ _ ?_
 refine st4_ _ ?_
 refine kc X4_ hx hby (D31 6) ?_
 refine ksN X4_ hx hby (D31 7) (l' := #[rv o3, iv 0, .unset]) rfl ?_
 refine st6_ _ ?_
 refine own_al X6_ hx hZ e6_ f7_ hby (D31 10) ?_
 refine ksN X6_ hx hby (D31 11) (l' := #[rv o3, iv 0, iv 1]) rfl ?_
 refine kiN X6_ hx hby (D31 12) rfl ?_
 refine kiN X6_ hx hby (D31 13) rfl ?_
 refine kcN X6_ hx hby (D31 14) (tlt ((by decide) : (0 : Int32) < (1 : Int32))).2.1 ?_
 refine st8_ _ ?_
 refine kiN X8_ hx hby (D31 17) rfl ?_
 refine kc X8_ hx hby (D31 18) ?_
 refine st9_ _ ?_
 refine kn X9_ hx hby (D31 20) rfl (l' := #[rv o3, iv 1, iv 1]) rfl ?_
 refine kg X9_ hx (pc0 := 33) (pc' := 18) rfl hby (D31 21) (by decide) (by decide) ?_
 refine kiN X9_ hx hby (D31 12) rfl ?_
 refine kiN X9_ hx hby (D31 13) rfl ?_
 refine kcY X9_ hx (pc0 := 20) (pc' := 36) rfl hby (D31 14) (flt ((by decide) : ¬ ((1 : Int32) < (1 : Int32)))).2.1 (by decide) (by decide) ?_
 exact X9_.returnOut hx hret (hb hby (D31 22)) hr
abbrev Y32 : MethodName := ⟨"java/math/MutableBigInteger", "divideOneWord", "(ILjava/math/MutableBigInteger;)I"⟩
theorem ef32_RIR (m : MethodId) (x0 : Addr) (x1 : Int32) (x2 : Addr) : entryFrame m #[(.ref x0), (.int x1), (.ref x2)] 15 = mkF m 0 #[rv x0, iv x1, rv x2, .unset, .unset, .unset, .unset, .unset, .unset, .unset, .unset, .unset, .unset, .unset, .unset] [] := by first | (simp [entryFrame, mkF, argsToLocals, Value.category]; done) | rfl
def Q_dw1 (Z : State) (o1 : Addr) (d1 : Int32) (o3 : Addr) (a1 : Addr) (k1 : ClassId) (x1 : Int32) (a3 : Addr) (k3 : ClassId) (q7 : Int32) (n3 : Nat) (h0 : Heap) (n0 : Nat) (v : Option Value) (h : Heap) (L : List Loc) : Prop := v = some (.int ((((x1.toInt64) &&& (4294967295 : Int64)) - ((q7.toInt64) * ((d1.toInt64) &&& (4294967295 : Int64)))).toInt32)) ∧ Fr n0 L ∧ Keep h0 h [o3, a3] ∧ (own_MB Z h o3 a3 n3)
theorem dw1 (l : Launch) (Z : State) (a0 : Array Value) (hw : own_W Z a0) (ws : List Jvm.Cond) (o1 : Addr) (d1 : Int32) (o3 : Addr) (a1 : Addr) (k1 : ClassId) (x1 : Int32) (a3 : Addr) (k3 : ClassId) (q7 : Int32) (n3 : Nat) (h0 : Heap) (n0 : Nat) (Z0 : n0 ≤ h0.size) (S1 : own_SH Z h0 o1 a1 (1 : Int32) (0 : Int32) k1 (1 : Int32) [(.int x1)]) (S3 : own_SH Z h0 o3 a3 (0 : Int32) (0 : Int32) k3 (1 : Int32) [(.int 0)]) (g1 : n0 ≤ o3) (g2 : n0 ≤ a3) (n13 : o1 ≠ o3) (a13 : a1 ≠ a3) (nd : ¬ ((d1.toInt64 &&& (4294967295 : Int64)) = (0 : Int64))) (e7 : (((x1.toInt64 &&& (4294967295 : Int64)) / (d1.toInt64 &&& (4294967295 : Int64))).toInt32) = q7) (nq : ¬ (q7 = (0 : Int32))) (u7 : own_u q7 = n3) (nz : n3 ≠ 0) : own_Met l Y32 jdk_2101_method_53_code 15 (some .int) ⟨0, 0, 0, 0⟩ ws #[(.ref o1), (.int d1), (.ref o3)] Z h0 (Q_dw1 Z o1 d1 o3 a1 k1 x1 a3 k3 q7 n3 h0 n0) := by
 refine own_go (plainFor_of_name pn_java_math_MutableBigInteger) (fun m => ef32_RIR m o1 d1 o3) fun p e s m below meth c s₁ hx hby hml hown hnm hret hZ e0 X0 => ?_
 have N0 := Fr.nil n0
 obtain ⟨T1_, X1_, e1_, st1_⟩ := own_gN (pc := 7) (Ls := #[rv o1, iv d1, rv o3, lv ((d1.toInt64) &&& (4294967295 : Int64)), .second, .unset, .unset, .unset, .unset, .unset, .unset, .unset, .unset, .unset, .unset]) (stk := []) X0 hx hZ hown (wt hw 50 rfl) e0 S1.2.2.2.1 hby (D32 5) (D32 6) rfl
 obtain ⟨T2_, X2_, e2_, st2_⟩ := own_gN (pc := 15) (Ls := #[rv o1, iv d1, rv o3, lv ((d1.toInt64) &&& (4294967295 : Int64)), .second, .unset, .unset, .unset, .unset, .unset, .unset, .unset, .unset, .unset, .unset]) (stk := []) X1_ hx hZ hown (wt hw 65 rfl) e1_ S1.2.2.1 hby (D32 9) (D32 10) rfl
 obtain ⟨T3_, X3_, e3_, st3_⟩ := own_gN (pc := 19) (Ls := #[rv o1, iv d1, rv o3, lv ((d1.toInt64) &&& (4294967295 : Int64)), .second, .unset, .unset, .unset, .unset, .unset, .unset, .unset, .unset, .unset, .unset]) (stk := [(.ref a1)]) X2_ hx hZ hown (wt hw 47 rfl) e2_ S1.2.2.2.2.1 hby (D32 11) (D32 12) rfl
 obtain ⟨T4_, X4_, e4_, st4_⟩ := own_gN (pc := 49) (Ls := #[rv o1, iv d1, rv o3, lv ((d1.toInt64) &&& (4294967295 : Int64)), .second, lv ((x1.toInt64) &&& (4294967295 : Int64)), .second, iv q7, iv ((((x1.toInt64) &&& (4294967295 : Int64)) - ((q7.toInt64) * ((d1.toInt64) &&& (4294967295 : Int64)))).toInt32), .unset, .unset, .unset, .unset, .unset, .unset]) (stk := []) X3_ hx hZ hown (wt hw 65 rfl) e3_ S3.2.2.1 hby (D32 31) (D32 32) rfl
 obtain ⟨T5_, h5_, X5_, e5_, W5_, v5_, N5_, st5_⟩ := own_si (pc := 56) (Ls := #[rv o1, iv d1, rv o3, lv ((d1.toInt64) &&& (4294967295 : Int64)), .second, lv ((x1.toInt64) &&& (4294967295 : Int64)), .second, iv q7, iv ((((x1.toInt64) &&& (4294967295 : Int64)) - ((q7.toInt64) * ((d1.toInt64) &&& (4294967295 : Int64)))).toInt32), .unset, .unset, .unset, .unset, .unset, .unset]) (stk := [(.int q7), (.int 0), (.ref a3)]) X4_ hx hZ e4_ S3.2.2.2.2.2 ⟨by decide, by decide⟩ 0 rfl (Nat.le_of_ble_eq_true rfl) N0 g2 hby (D32 35) rfl
 have f6_ := S3.1.wr W5_
 have f7_ := S3.2.2.2.1.other W5_ (Or.inl (ne_exa S3.1 S3.2.1 (by decide)))
 obtain ⟨T8_, h8_, X8_, e8_, W8_, w8_, N8_, st8_⟩ := own_pf (pc := 68) (Ls := #[rv o1, iv d1, rv o3, lv ((d1.toInt64) &&& (4294967295 : Int64)), .second, lv ((x1.toInt64) &&& (4294967295 : Int64)), .second, iv q7, iv ((((x1.toInt64) &&& (4294967295 : Int64)) - ((q7.toInt64) * ((d1.toInt64) &&& (4294967295 : Int64)))).toInt32), .unset, .unset, .unset, .unset, .unset, .unset]) (stk := [(.int 1), (.ref o3)]) X5_ hx hZ hown (wt hw 50 rfl) e5_ f7_ f6_ (Or.inl (wt hw 51 rfl)) (wt hw 40 rfl) (ty := .int) (by decide) rfl rfl N5_ g1 hby (D32 40) rfl
 have f9_ := f6_.wr W8_
 have f10_ := (S3.2.2.2.2.1.other W5_ (Or.inl (ne_exa S3.1 S3.2.1 (by decide)))).other W8_ (Or.inr (slot_ne (Or.inl (wt hw 48 rfl)) (Or.inl (wt hw 51 rfl)) (by decide) (t := .int) (t' := .int) (by decide) (by decide)))
 obtain ⟨T11_, h11_, X11_, e11_, W11_, w11_, N11_, st11_⟩ := own_pf (pc := 73) (Ls := #[rv o1, iv d1, rv o3, lv ((d1.toInt64) &&& (4294967295 : Int64)), .second, lv ((x1.toInt64) &&& (4294967295 : Int64)), .second, iv q7, iv ((((x1.toInt64) &&& (4294967295 : Int64)) - ((q7.toInt64) * ((d1.toInt64) &&& (4294967295 : Int64)))).toInt32), .unset, .unset, .unset, .unset, .unset, .unset]) (stk := [(.int 0), (.ref o3)]) X8_ hx hZ hown (wt hw 47 rfl) e8_ f10_ f9_ (Or.inl (wt hw 48 rfl)) (wt hw 40 rfl) (ty := .int) (by decide) rfl rfl N8_ g1 hby (D32 43) rfl
 have f12_ := f9_.wr W11_
 have f13_ := ((S3.2.1.wr W5_).wr W8_).wr W11_
 have f14_ := ((S3.2.2.1.other W5_ (Or.inl (ne_exa S3.1 S3.2.1 (by decide)))).other W8_ (Or.inr (slot_ne (Or.inl (wt hw 66 rfl)) (Or.inl (wt hw 51 rfl)) (by decide) (t := (.array .int)) (t' := .int) (by decide) (by decide)))).other W11_ (Or.inr (slot_ne (Or.inl (wt hw 66 rfl)) (Or.inl (wt hw 48 rfl)) (by decide) (t := (.array .int)) (t' := .int) (by decide) (by decide)))
 have f15_ := w8_.other W11_ (Or.inr (slot_ne (Or.inl (wt hw 51 rfl)) (Or.inl (wt hw 48 rfl)) (by decide) (t := .int) (t' := .int) (by decide) (by decide)))
 have f16_ := (v5_.other W8_ (ne_exa (S3.2.1.wr W5_) f6_ (by decide))).other W11_ (ne_exa ((S3.2.1.wr W5_).wr W8_) f9_ (by decide))
 have mb_ : own_MB Z h11_ o3 a3 n3 := own_MB.mkB ⟨f12_, f13_, f14_, f15_, w11_, f16_⟩ (Or.inl ⟨rfl, rfl, rfl⟩) u7 nz
 have k17_ := (Keep.refl h0 [o3, a3]).wr W5_ (own_in 1 rfl)
 have k18_ := k17_.wr W8_ (own_in 0 rfl)
 have k19_ := k18_.wr W11_ (own_in 0 rfl)
 refine ⟨_, _, _, _, some (.int ((((x1.toInt64) &&& (4294967295 : Int64)) - ((q7.toInt64) * ((d1.toInt64) &&& (4294967295 : Int64)))).toInt32)), X11_, (by exact own_b rfl), (by exact own_b rfl), nofun, (by show Q_dw1 Z o1 d1 o3 a1 k1 x1 a3 k3 q7 n3 h0 n0 _ T11_.heap _; rw [e11_]; exact ⟨rfl, N11_, k19_, mb_⟩), fun fs hr => ?_⟩
 refine kiN X0 hx hby (D32 0) rfl ?_
 refine ki2l X0 hx hby (D32 1) ?_
 refine own_l2 X0 hx hZ hown (wt hw 176 rfl) hby (D32 2) ?_
 refine kla X0 hx hby (D32 3) ?_
 refine klstoreN X0 hx hby (D32 4) (l' := #[rv o1, iv d1, rv o3, lv ((d1.toInt64) &&& (4294967295 : Int64)), .second, .unset, .unset, .unset, .unset, .unset, .unset, .unset, .unset, .unset, .unset]) rfl ?_
 refine st1_ _ ?_
 refine kc X1_ hx hby (D32 7) ?_
 refine kcN X1_ hx hby (D32 8) (teq ((by decide) : (1 : Int32) = (1 : Int32))).2 ?_
 refine st2_ _ ?_
 refine st3_ _ ?_
 refine own_ia X3_ hx hZ e3_ S1.2.2.2.2.2 ⟨by decide, by decide⟩ rfl hby (D32 13) ?_
 refine ki2l X3_ hx hby (D32 14) ?_
 refine own_l2 X3_ hx hZ hown (wt hw 176 rfl) hby (D32 15) ?_
 refine kla X3_ hx hby (D32 16) ?_
 refine kls X3_ hx hby (D32 17) (l' := #[rv o1, iv d1, rv o3, lv ((d1.toInt64) &&& (4294967295 : Int64)), .second, lv ((x1.toInt64) &&& (4294967295 : Int64)), .second, .unset, .unset, .unset, .unset, .unset, .unset, .unset, .unset]) rfl ?_
 refine kl X3_ hx hby (D32 18) rfl ?_
 refine klloadN X3_ hx hby (D32 19) rfl ?_
 refine kldiv X3_ hx hby (D32 20) nd ?_
 refine kl2i X3_ hx hby (D32 21) ?_
 refine own_rI (e7) ?_
 refine ks X3_ hx hby (D32 22) (l' := #[rv o1, iv d1, rv o3, lv ((d1.toInt64) &&& (4294967295 : Int64)), .second, lv ((x1.toInt64) &&& (4294967295 : Int64)), .second, iv q7, .unset, .unset, .unset, .unset, .unset, .unset, .unset]) rfl ?_
 refine kl X3_ hx hby (D32 23) rfl ?_
 refine ki X3_ hx hby (D32 24) rfl ?_
 refine ki2l X3_ hx hby (D32 25) ?_
 refine klloadN X3_ hx hby (D32 26) rfl ?_
 refine klmul X3_ hx hby (D32 27) ?_
 refine klsub X3_ hx hby (D32 28) ?_
 refine kl2i X3_ hx hby (D32 29) ?_
 refine ks X3_ hx hby (D32 30) (l' := #[rv o1, iv d1, rv o3, lv ((d1.toInt64) &&& (4294967295 : Int64)), .second, lv ((x1.toInt64) &&& (4294967295 : Int64)), .second, iv q7, iv ((((x1.toInt64) &&& (4294967295 : Int64)) - ((q7.toInt64) * ((d1.toInt64) &&& (4294967295 : Int64)))).toInt32), .unset, .unset, .unset, .unset, .unset, .unset]) rfl ?_
 refine st4_ _ ?_
 refine kc X4_ hx hby (D32 33) ?_
 refine ki X4_ hx hby (D32 34) rfl ?_
 refine st5_ _ ?_
 refine kaN X5_ hx hby (D32 36) rfl rfl ?_
 refine ki X5_ hx hby (D32 37) rfl ?_
 refine kfY X5_ hx (pc0 := 60) (pc' := 67) rfl hby (D32 38) ((if0 _ _).trans (feq (nq : ¬ (q7 = (0 : Int32)))).2) (by decide) (by decide) ?_
 refine kc X5_ hx hby (D32 39) ?_
 refine st8_ _ ?_
 refine kaN X8_ hx hby (D32 41) rfl rfl ?_
 refine kc X8_ hx hby (D32 42) ?_
 refine st11_ _ ?_
 refine ki X11_ hx hby (D32 44) rfl ?_
 exact retI X11_ hx hret (hb hby (D32 45)) hr
def Q_rmDw (Z : State) (o1 : Addr) (d1 : Int32) (o3 : Addr) (a1 : Addr) (k1 : ClassId) (hi1 : Int32) (lo1 : Int32) (a3 : Addr) (k3 : ClassId) (n3 : Nat) (h0 : Heap) (n0 : Nat) (v : Option Value) (h : Heap) (L : List Loc) : Prop := ∃ (t1 : Addr) (rv9 : Int32), v = some (.int rv9) ∧ Fr n0 L ∧ Keep h0 h [o3, a3] ∧ (own_MB Z h o3 t1 n3) ∧ (h0.size ≤ t1)
theorem dwL (l : Launch) (Z : State) (a0 : Array Value) (hw : own_W Z a0) (ws : List Jvm.Cond) (o1 : Addr) (d1 : Int32) (o3 : Addr) (a1 : Addr) (k1 : ClassId) (hi1 : Int32) (lo1 : Int32) (a3 : Addr) (k3 : ClassId) (es : Int64) (q2 : Int32) (r7 : Int32) (n3 : Nat) (h0 : Heap) (n0 : Nat) (Z0 : n0 ≤ h0.size) (S1 : own_SH Z h0 o1 a1 (2 : Int32) (0 : Int32) k1 (2 : Int32) [(.int hi1), (.int lo1)]) (S3 : own_SH Z h0 o3 a3 (0 : Int32) (0 : Int32) k3 (1 : Int32) [(.int 0)]) (g1 : n0 ≤ o3) (g2 : n0 ≤ a3) (n13 : o1 ≠ o3) (a13 : a1 ≠ a3) (nd : ¬ ((d1.toInt64 &&& (4294967295 : Int64)) = (0 : Int64))) (el : own_u hi1 < own_u d1) (ee : (((hi1.toInt64 &&& (4294967295 : Int64)) <<< ((32 : Int32) &&& 0x3f).toInt64) ||| (lo1.toInt64 &&& (4294967295 : Int64))) = es) (gs : ¬ (es < (0 : Int64))) (e2 : ((es / (d1.toInt64 &&& (4294967295 : Int64))).toInt32) = q2) (e7 : ((es - ((q2.toInt64) * (d1.toInt64 &&& (4294967295 : Int64)))).toInt32) = r7) (nl : (0 : Int32) < (own_nlz d1)) (d0 : ¬ (d1 = (0 : Int32))) (nu : n3 = own_u (0 : Int32) * 4294967296 + own_u q2) (nz : n3 ≠ 0) : own_Met l Y32 jdk_2101_method_53_code 15 (some .int) ⟨1, 1, 2, 15⟩ ws #[(.ref o1), (.int d1), (.ref o3)] Z h0 (Q_rmDw Z o1 d1 o3 a1 k1 hi1 lo1 a3 k3 n3 h0 n0) := by
 refine own_go (plainFor_of_name pn_java_math_MutableBigInteger) (fun m => ef32_RIR m o1 d1 o3) fun p e s m below meth c s₁ hx hby hml hown hnm hret hZ e0 X0 => ?_
 have N0 := Fr.nil n0
 obtain ⟨T1_, X1_, e1_, st1_⟩ := own_gN (pc := 7) (Ls := #[rv o1, iv d1, rv o3, lv ((d1.toInt64) &&& (4294967295 : Int64)), .second, .unset, .unset, .unset, .unset, .unset, .unset, .unset, .unset, .unset, .unset]) (stk := []) X0 hx hZ hown (wt hw 50 rfl) e0 S1.2.2.2.1 hby (D32 5) (D32 6) rfl
 obtain ⟨T2_, X2_, e2_, st2_⟩ := own_gN (pc := 79) (Ls := #[rv o1, iv d1, rv o3, lv ((d1.toInt64) &&& (4294967295 : Int64)), .second, .unset, .unset, .unset, .unset, .unset, .unset, .unset, .unset, .unset, .unset]) (stk := []) X1_ hx hZ hown (wt hw 65 rfl) e1_ S3.2.2.1 hby (D32 46) (D32 47) rfl
 obtain ⟨T3_, X3_, e3_, st3_⟩ := own_gN (pc := 84) (Ls := #[rv o1, iv d1, rv o3, lv ((d1.toInt64) &&& (4294967295 : Int64)), .second, .unset, .unset, .unset, .unset, .unset, .unset, .unset, .unset, .unset, .unset]) (stk := [(.int 1)]) X2_ hx hZ hown (wt hw 50 rfl) e2_ S1.2.2.2.1 hby (D32 49) (D32 50) rfl
 obtain ⟨T4_, X4_, e4_, st4_⟩ := own_gN (pc := 92) (Ls := #[rv o1, iv d1, rv o3, lv ((d1.toInt64) &&& (4294967295 : Int64)), .second, .unset, .unset, .unset, .unset, .unset, .unset, .unset, .unset, .unset, .unset]) (stk := [(.ref o3)]) X3_ hx hZ hown (wt hw 50 rfl) e3_ S1.2.2.2.1 hby (D32 53) (D32 54) rfl
 obtain ⟨T5_, h5_, k5_, X5_, e5_, E5_, A5_, Y5_, st5_⟩ := newPE X4_ hx hZ (wt hw 22 rfl) e4_ (g := (mkF m 96 #[rv o1, iv d1, rv o3, lv ((d1.toInt64) &&& (4294967295 : Int64)), .second, .unset, .unset, .unset, .unset, .unset, .unset, .unset, .unset, .unset, .unset] [(.int 2), (.ref o3)])) rfl (hb hby (D32 55)) rfl (by decide) (cap := 2) (by decide) (by decide) (by exact own_b rfl) (by exact own_b rfl) (ad := "[I") (by decide +kernel)
 obtain ⟨b5_, g5_⟩ : ∃ z, z = h0.size := ⟨_, rfl⟩
 rw [← g5_] at A5_ Y5_ st5_
 have v5_ : Arv Z h5_ b5_ k5_ .int (2 : Int32) [(.int 0), (.int 0)] (.int 0) := (Arv.new A5_ (by decide)).pad (pad_rep [] (.int 0) 2)
 have f6_ := S3.1.ext E5_
 have f7_ := S3.2.2.1.ext E5_
 obtain ⟨T8_, h8_, X8_, e8_, W8_, w8_, N8_, st8_⟩ := own_pf (pc := 98) (Ls := #[rv o1, iv d1, rv o3, lv ((d1.toInt64) &&& (4294967295 : Int64)), .second, .unset, .unset, .unset, .unset, .unset, .unset, .unset, .unset, .unset, .unset]) (stk := [(.ref b5_), (.ref o3)]) X5_ hx hZ hown (wt hw 65 rfl) e5_ f7_ f6_ (Or.inl (wt hw 66 rfl)) (wt hw 40 rfl) (ty := (.array .int)) (by decide) rfl rfl N0 g1 hby (D32 56) rfl
 have f9_ := f6_.wr W8_
 have f10_ := (S3.2.2.2.2.1.ext E5_).other W8_ (Or.inr (slot_ne (Or.inl (wt hw 48 rfl)) (Or.inl (wt hw 66 rfl)) (by decide) (t := .int) (t' := (.array .int)) (by decide) (by decide)))
 obtain ⟨T11_, h11_, X11_, e11_, W11_, w11_, N11_, st11_⟩ := own_pf (pc := 103) (Ls := #[rv o1, iv d1, rv o3, lv ((d1.toInt64) &&& (4294967295 : Int64)), .second, .unset, .unset, .unset, .unset, .unset, .unset, .unset, .unset, .unset, .unset]) (stk := [(.int 0), (.ref o3)]) X8_ hx hZ hown (wt hw 47 rfl) e8_ f10_ f9_ (Or.inl (wt hw 48 rfl)) (wt hw 40 rfl) (ty := .int) (by decide) rfl rfl N8_ g1 hby (D32 59) rfl
 have f12_ := ((S1.2.2.2.1.ext E5_).other W8_ (Or.inl n13)).other W11_ (Or.inl n13)
 obtain ⟨T13_, X13_, e13_, st13_⟩ := own_gN (pc := 107) (Ls := #[rv o1, iv d1, rv o3, lv ((d1.toInt64) &&& (4294967295 : Int64)), .second, .unset, .unset, .unset, .unset, .unset, .unset, .unset, .unset, .unset, .unset]) (stk := [(.ref o3)]) X11_ hx hZ hown (wt hw 50 rfl) e11_ f12_ hby (D32 61) (D32 62) rfl
 have f14_ := f9_.wr W11_
 have f15_ := ((S3.2.2.2.1.ext E5_).other W8_ (Or.inr (slot_ne (Or.inl (wt hw 51 rfl)) (Or.inl (wt hw 66 rfl)) (by decide) (t := .int) (t' := (.array .int)) (by decide) (by decide)))).other W11_ (Or.inr (slot_ne (Or.inl (wt hw 51 rfl)) (Or.inl (wt hw 48 rfl)) (by decide) (t := .int) (t' := .int) (by decide) (by decide)))
 obtain ⟨T16_, h16_, X16_, e16_, W16_, w16_, N16_, st16_⟩ := own_pf (pc := 111) (Ls := #[rv o1, iv d1, rv o3, lv ((d1.toInt64) &&& (4294967295 : Int64)), .second, .unset, .unset, .unset, .unset, .unset, .unset, .unset, .unset, .unset, .unset]) (stk := [(.int 2), (.ref o3)]) X13_ hx hZ hown (wt hw 50 rfl) e13_ f15_ f14_ (Or.inl (wt hw 51 rfl)) (wt hw 40 rfl) (ty := .int) (by decide) rfl rfl N11_ g1 hby (D32 63) rfl
 have z18_ : n0 ≤ h5_.size := Nat.le_trans Z0 E5_.1
 have z19_ : n0 ≤ h8_.size := Nat.le_trans z18_ (Keep.of_wr W8_).1
 have z20_ : n0 ≤ h11_.size := Nat.le_trans z19_ (Keep.of_wr W11_).1
 have z21_ : n0 ≤ h16_.size := Nat.le_trans z20_ (Keep.of_wr W16_).1
 obtain ⟨T17_, Lc17_, v17_, X17_, hQ17_, st17_⟩ := own_cS (y := Y18) X16_ hx hZ hown (wt hw 218 rfl) (wt hw 104 rfl) (wt hw 105 rfl) (wt hw 92 rfl) (by decide) (rmNlz l Z a0 hw [] d1 h16_ n0 z21_ ) e16_ (pc := 115) (Ls := #[rv o1, iv d1, rv o3, lv ((d1.toInt64) &&& (4294967295 : Int64)), .second, .unset, .unset, .unset, .unset, .unset, .unset, .unset, .unset, .unset, .unset]) (stk := [(.int d1)]) (rest := []) (by rw [hml]; rfl) pd0 rfl rfl (W := 0) rfl hby (D32 65) (by decide) (by decide) (by exact own_b rfl) (by exact own_b rfl)
 obtain ⟨rfl, Nq17_, ek17_⟩ := hQ17_
 have N17_ := Fr.app N16_ Nq17_
 have f22_ := (((S1.2.2.1.ext E5_).other W8_ (Or.inl n13)).other W11_ (Or.inl n13)).other W16_ (Or.inl n13)
 obtain ⟨T23_, X23_, e23_, st23_⟩ := own_gN (pc := 120) (Ls := #[rv o1, iv d1, rv o3, lv ((d1.toInt64) &&& (4294967295 : Int64)), .second, iv (own_nlz d1), .unset, .unset, .unset, .unset, .unset, .unset, .unset, .unset, .unset]) (stk := []) X17_ hx hZ hown (wt hw 65 rfl) ek17_ f22_ hby (D32 67) (D32 68) rfl
 have f24_ := (((S1.2.2.2.2.1.ext E5_).other W8_ (Or.inl n13)).other W11_ (Or.inl n13)).other W16_ (Or.inl n13)
 obtain ⟨T25_, X25_, e25_, st25_⟩ := own_gN (pc := 124) (Ls := #[rv o1, iv d1, rv o3, lv ((d1.toInt64) &&& (4294967295 : Int64)), .second, iv (own_nlz d1), .unset, .unset, .unset, .unset, .unset, .unset, .unset, .unset, .unset]) (stk := [(.ref a1)]) X23_ hx hZ hown (wt hw 47 rfl) e23_ f24_ hby (D32 69) (D32 70) rfl
 have f26_ := (((S1.2.2.2.2.2.ext E5_).other W8_ (ne_exa (S1.2.1.ext E5_) f6_ (by decide))).other W11_ (ne_exa ((S1.2.1.ext E5_).wr W8_) f9_ (by decide))).other W16_ (ne_exa (((S1.2.1.ext E5_).wr W8_).wr W11_) f14_ (by decide))
 have f27_ := (w8_.other W11_ (Or.inr (slot_ne (Or.inl (wt hw 66 rfl)) (Or.inl (wt hw 48 rfl)) (by decide) (t := (.array .int)) (t' := .int) (by decide) (by decide)))).other W16_ (Or.inr (slot_ne (Or.inl (wt hw 66 rfl)) (Or.inl (wt hw 51 rfl)) (by decide) (t := (.array .int)) (t' := .int) (by decide) (by decide)))
 obtain ⟨T28_, X28_, e28_, st28_⟩ := own_gN (pc := 147) (Ls := #[rv o1, iv d1, rv o3, lv ((d1.toInt64) &&& (4294967295 : Int64)), .second, iv (own_nlz d1), iv hi1, lv ((hi1.toInt64) &&& (4294967295 : Int64)), .second, .unset, .unset, .unset, .unset, .unset, .unset]) (stk := []) X25_ hx hZ hown (wt hw 65 rfl) e25_ f27_ hby (D32 82) (D32 83) rfl
 have f29_ := ((v5_.other W8_ (Ne.symm (Nat.ne_of_lt (Nat.lt_of_lt_of_le S3.1.lt (Nat.le_of_eq g5_.symm))))).other W11_ (Ne.symm (Nat.ne_of_lt (Nat.lt_of_lt_of_le S3.1.lt (Nat.le_of_eq g5_.symm))))).other W16_ (Ne.symm (Nat.ne_of_lt (Nat.lt_of_lt_of_le S3.1.lt (Nat.le_of_eq g5_.symm))))
 have g31_ : n0 ≤ b5_ := Nat.le_trans Z0 (Nat.le_of_eq g5_.symm)
 obtain ⟨T30_, h30_, X30_, e30_, W30_, v30_, N30_, st30_⟩ := own_si (pc := 153) (Ls := #[rv o1, iv d1, rv o3, lv ((d1.toInt64) &&& (4294967295 : Int64)), .second, iv (own_nlz d1), iv hi1, lv ((hi1.toInt64) &&& (4294967295 : Int64)), .second, .unset, .unset, .unset, .unset, .unset, .unset]) (stk := [(.int 0), (.int 0), (.ref b5_)]) X28_ hx hZ e28_ f29_ ⟨by decide, by decide⟩ 0 rfl (Nat.le_of_ble_eq_true rfl) N17_ g31_ hby (D32 86) rfl
 have f32_ := (f12_.other W16_ (Or.inl n13)).other W30_ (Or.inl (Nat.ne_of_lt (Nat.lt_of_lt_of_le S1.1.lt (Nat.le_of_eq g5_.symm))))
 obtain ⟨T33_, X33_, e33_, st33_⟩ := own_gN (pc := 192) (Ls := #[rv o1, iv d1, rv o3, lv ((d1.toInt64) &&& (4294967295 : Int64)), .second, iv (own_nlz d1), iv hi1, lv ((hi1.toInt64) &&& (4294967295 : Int64)), .second, .unset, .unset, .unset, .unset, .unset, .unset]) (stk := []) X30_ hx hZ hown (wt hw 50 rfl) e30_ f32_ hby (D32 88) (D32 89) rfl
 have f34_ := f22_.other W30_ (Or.inl (Nat.ne_of_lt (Nat.lt_of_lt_of_le S1.1.lt (Nat.le_of_eq g5_.symm))))
 obtain ⟨T35_, X35_, e35_, st35_⟩ := own_gN (pc := 211) (Ls := #[rv o1, iv d1, rv o3, lv ((d1.toInt64) &&& (4294967295 : Int64)), .second, iv (own_nlz d1), iv hi1, lv ((hi1.toInt64) &&& (4294967295 : Int64)), .second, iv 1, .unset, .unset, .unset, .unset, .unset]) (stk := [(.long (((hi1.toInt64) &&& (4294967295 : Int64)) <<< ((32 : Int32) &&& 0x3f).toInt64))]) X33_ hx hZ hown (wt hw 65 rfl) e33_ f34_ hby (D32 97) (D32 98) rfl
 have f36_ := f24_.other W30_ (Or.inl (Nat.ne_of_lt (Nat.lt_of_lt_of_le S1.1.lt (Nat.le_of_eq g5_.symm))))
 obtain ⟨T37_, X37_, e37_, st37_⟩ := own_gN (pc := 215) (Ls := #[rv o1, iv d1, rv o3, lv ((d1.toInt64) &&& (4294967295 : Int64)), .second, iv (own_nlz d1), iv hi1, lv ((hi1.toInt64) &&& (4294967295 : Int64)), .second, iv 1, .unset, .unset, .unset, .unset, .unset]) (stk := [(.ref a1), (.long (((hi1.toInt64) &&& (4294967295 : Int64)) <<< ((32 : Int32) &&& 0x3f).toInt64))]) X35_ hx hZ hown (wt hw 47 rfl) e35_ f36_ hby (D32 99) (D32 100) rfl
 obtain ⟨T38_, X38_, e38_, st38_⟩ := own_gN (pc := 219) (Ls := #[rv o1, iv d1, rv o3, lv ((d1.toInt64) &&& (4294967295 : Int64)), .second, iv (own_nlz d1), iv hi1, lv ((hi1.toInt64) &&& (4294967295 : Int64)), .second, iv 1, .unset, .unset, .unset, .unset, .unset]) (stk := [(.int 0), (.ref a1), (.long (((hi1.toInt64) &&& (4294967295 : Int64)) <<< ((32 : Int32) &&& 0x3f).toInt64))]) X37_ hx hZ hown (wt hw 50 rfl) e37_ f32_ hby (D32 101) (D32 102) rfl
 have f39_ := f26_.other W30_ (Nat.ne_of_lt (Nat.lt_of_lt_of_le S1.2.1.lt (Nat.le_of_eq g5_.symm)))
 have f40_ := f27_.other W30_ (Or.inl (Nat.ne_of_lt (Nat.lt_of_lt_of_le S3.1.lt (Nat.le_of_eq g5_.symm))))
 obtain ⟨T41_, X41_, e41_, st41_⟩ := own_gN (pc := 289) (Ls := #[rv o1, iv d1, rv o3, lv ((d1.toInt64) &&& (4294967295 : Int64)), .second, iv (own_nlz d1), iv r7, lv ((hi1.toInt64) &&& (4294967295 : Int64)), .second, iv 1, lv es, .second, iv q2, .unset, .unset]) (stk := []) X38_ hx hZ hown (wt hw 65 rfl) e38_ f40_ hby (D32 130) (D32 131) rfl
 obtain ⟨T42_, X42_, e42_, st42_⟩ := own_gN (pc := 293) (Ls := #[rv o1, iv d1, rv o3, lv ((d1.toInt64) &&& (4294967295 : Int64)), .second, iv (own_nlz d1), iv r7, lv ((hi1.toInt64) &&& (4294967295 : Int64)), .second, iv 1, lv es, .second, iv q2, .unset, .unset]) (stk := [(.ref b5_)]) X41_ hx hZ hown (wt hw 50 rfl) e41_ f32_ hby (D32 132) (D32 133) rfl
 obtain ⟨T43_, h43_, X43_, e43_, W43_, v43_, N43_, st43_⟩ := own_si (pc := 302) (Ls := #[rv o1, iv d1, rv o3, lv ((d1.toInt64) &&& (4294967295 : Int64)), .second, iv (own_nlz d1), iv r7, lv ((hi1.toInt64) &&& (4294967295 : Int64)), .second, iv 1, lv es, .second, iv q2, .unset, .unset]) (stk := [(.int q2), (.int 1), (.ref b5_)]) X42_ hx hZ e42_ v30_ ⟨by decide, by decide⟩ 1 rfl (Nat.le_of_ble_eq_true rfl) N30_ g31_ hby (D32 137) rfl
 have f45_ := ((f14_.wr W16_).wr W30_).wr W43_
 have f46_ := ((((Y5_.wr W8_).wr W11_).wr W16_).wr W30_).wr W43_
 have f47_ := f40_.other W43_ (Or.inl (Nat.ne_of_lt (Nat.lt_of_lt_of_le S3.1.lt (Nat.le_of_eq g5_.symm))))
 have f48_ := (w16_.other W30_ (Or.inl (Nat.ne_of_lt (Nat.lt_of_lt_of_le S3.1.lt (Nat.le_of_eq g5_.symm))))).other W43_ (Or.inl (Nat.ne_of_lt (Nat.lt_of_lt_of_le S3.1.lt (Nat.le_of_eq g5_.symm))))
 have f49_ := ((w11_.other W16_ (Or.inr (slot_ne (Or.inl (wt hw 48 rfl)) (Or.inl (wt hw 51 rfl)) (by decide) (t := .int) (t' := .int) (by decide) (by decide)))).other W30_ (Or.inl (Nat.ne_of_lt (Nat.lt_of_lt_of_le S3.1.lt (Nat.le_of_eq g5_.symm))))).other W43_ (Or.inl (Nat.ne_of_lt (Nat.lt_of_lt_of_le S3.1.lt (Nat.le_of_eq g5_.symm))))
 have z50_ : n0 ≤ h30_.size := Nat.le_trans z21_ (Keep.of_wr W30_).1
 have z51_ : n0 ≤ h43_.size := Nat.le_trans z50_ (Keep.of_wr W43_).1
 obtain ⟨T44_, Lc44_, v44_, X44_, hQ44_, st44_⟩ := own_cV (y := Y38) X43_ hx hZ hown (wt hw 207 rfl) (wt hw 209 rfl) (wt hw 210 rfl) (wt hw 211 rfl) (wt hw 41 rfl) (by decide) (rmNo l Z a0 hw [] o3 b5_ k5_ (0 : Int32) q2 n3 h43_ n0 z51_ ⟨f45_, f46_, f47_, f48_, f49_, v43_⟩ g1 g31_ nu nz) f45_ e43_ (pc := 316) (Ls := #[rv o1, iv d1, rv o3, lv ((d1.toInt64) &&& (4294967295 : Int64)), .second, iv (own_nlz d1), iv r7, lv ((r7.toInt64) &&& (4294967295 : Int64)), .second, iv 0, lv es, .second, iv q2, .unset, .unset]) (stk := [(.ref o3)]) (rest := []) (by rw [hml]; rfl) pd3 rfl rfl (W := 0) rfl hby (D32 145) (by decide) (by decide) (by exact own_b rfl) (by exact own_b rfl)
 obtain ⟨rfl, Nq44_, ek44_, p44__0⟩ := hQ44_
 have N44_ := Fr.app N43_ Nq44_
 have k52_ := (Keep.refl h0 [o3, a3]).ext E5_
 have k53_ := k52_.wr W8_ (own_in 0 rfl)
 have k54_ := k53_.wr W11_ (own_in 0 rfl)
 have k55_ := k54_.wr W16_ (own_in 0 rfl)
 have k56_ := k55_.wr W30_ (Or.inr (Nat.le_trans (Keep.refl h0 [o3, a3]).1 (Nat.le_of_eq g5_.symm)))
 have k57_ := k56_.wr W43_ (Or.inr (Nat.le_trans (Keep.refl h0 [o3, a3]).1 (Nat.le_of_eq g5_.symm)))
 have k58_ := k57_.trans ek44_ (allS (own_in 0 rfl) (allS (Or.inr (Nat.le_trans (Keep.refl h0 [o3, a3]).1 (Nat.le_of_eq g5_.symm))) all0))
 refine ⟨_, _, _, _, some (.int (r7 - ((r7 / d1) * d1))), X44_, (by exact own_b rfl), (by exact own_b rfl), nofun, (by show Q_rmDw Z o1 d1 o3 a1 k1 hi1 lo1 a3 k3 n3 h0 n0 _ T44_.heap _; exact ⟨b5_, (r7 - ((r7 / d1) * d1)), rfl, N44_, k58_, p44__0, (Nat.le_trans (Keep.refl h0 [o3, a3]).1 (Nat.le_of_eq g5_.symm))⟩), fun fs hr => ?_⟩
 refine kiN X0 hx hby (D32 0) rfl ?_
 refine ki2l X0 hx hby (D32 1) ?_
 refine own_l2 X0 hx hZ hown (wt hw 176 rfl) hby (D32 2) ?_
 refine kla X0 hx hby (D32 3) ?_
 refine klstoreN X0 hx hby (D32 4) (l' := #[rv o1, iv d1, rv o3, lv ((d1.toInt64) &&& (4294967295 : Int64)), .second, .unset, .unset, .unset, .unset, .unset, .unset, .unset, .unset, .unset, .unset]) rfl ?_
 refine st1_ _ ?_
 refine kc X1_ hx hby (D32 7) ?_
 refine kcY X1_ hx (pc0 := 12) (pc' := 79) rfl hby (D32 8) (feq ((by decide) : ¬ ((2 : Int32) = (1 : Int32)))).2 (by decide) (by decide) ?_
 refine st2_ _ ?_
 refine own_al X2_ hx hZ e2_ S3.2.2.2.2.2 hby (D32 48) ?_
 refine st3_ _ ?_
 refine kcN X3_ hx hby (D32 51) (tlt ((by decide) : (1 : Int32) < (2 : Int32))).2.1 ?_
 refine kaN X3_ hx hby (D32 52) rfl rfl ?_
 refine st4_ _ ?_
 show Steps p.tables e below (T4_.setTop (mkF m 96 #[rv o1, iv d1, rv o3, lv ((d1.toInt64) &&& (4294967295 : Int64)), .second, .unset, .unset, .unset, .unset, .unset, .unset, .unset, .unset, .unset, .unset] [(.int 2), (.ref o3)])) _
 refine st5_ _ ?_
 refine st8_ _ ?_
 show Steps p.tables e below (T8_.setTop (mkF m 101 #[rv o1, iv d1, rv o3, lv ((d1.toInt64) &&& (4294967295 : Int64)), .second, .unset, .unset, .unset, .unset, .unset, .unset, .unset, .unset, .unset, .unset] [])) _
 refine kaN X8_ hx hby (D32 57) rfl rfl ?_
 refine kc X8_ hx hby (D32 58) ?_
 refine st11_ _ ?_
 refine kaN X11_ hx hby (D32 60) rfl rfl ?_
 refine st13_ _ ?_
 refine st16_ _ ?_
 refine kiN X16_ hx hby (D32 64) rfl ?_
 refine st17_ _ ?_
 refine ks X17_ hx hby (D32 66) (l' := #[rv o1, iv d1, rv o3, lv ((d1.toInt64) &&& (4294967295 : Int64)), .second, iv (own_nlz d1), .unset, .unset, .unset, .unset, .unset, .unset, .unset, .unset, .unset]) rfl ?_
 refine st23_ _ ?_
 refine st25_ _ ?_
 refine own_ia X25_ hx hZ e25_ f26_ ⟨by decide, by decide⟩ rfl hby (D32 71) ?_
 refine ks X25_ hx hby (D32 72) (l' := #[rv o1, iv d1, rv o3, lv ((d1.toInt64) &&& (4294967295 : Int64)), .second, iv (own_nlz d1), iv hi1, .unset, .unset, .unset, .unset, .unset, .unset, .unset, .unset]) rfl ?_
 refine ki X25_ hx hby (D32 73) rfl ?_
 refine ki2l X25_ hx hby (D32 74) ?_
 refine own_l2 X25_ hx hZ hown (wt hw 176 rfl) hby (D32 75) ?_
 refine kla X25_ hx hby (D32 76) ?_
 refine kls X25_ hx hby (D32 77) (l' := #[rv o1, iv d1, rv o3, lv ((d1.toInt64) &&& (4294967295 : Int64)), .second, iv (own_nlz d1), iv hi1, lv ((hi1.toInt64) &&& (4294967295 : Int64)), .second, .unset, .unset, .unset, .unset, .unset, .unset]) rfl ?_
 refine kl X25_ hx hby (D32 78) rfl ?_
 refine klloadN X25_ hx hby (D32 79) rfl ?_
 refine klcmp X25_ hx hby (D32 80) ?_
 refine kfN X25_ hx hby (D32 81) ((if0 _ _).trans (tlt ((own_llt el) : (lcmpW ((hi1.toInt64) &&& (4294967295 : Int64)) ((d1.toInt64) &&& (4294967295 : Int64))) < (0 : Int32))).2.1) ?_
 refine st28_ _ ?_
 refine kc X28_ hx hby (D32 84) ?_
 refine kc X28_ hx hby (D32 85) ?_
 refine st30_ _ ?_
 refine kg X30_ hx (pc0 := 154) (pc' := 192) rfl hby (D32 87) (by decide) (by decide) ?_
 refine st33_ _ ?_
 refine ks X33_ hx hby (D32 90) (l' := #[rv o1, iv d1, rv o3, lv ((d1.toInt64) &&& (4294967295 : Int64)), .second, iv (own_nlz d1), iv hi1, lv ((hi1.toInt64) &&& (4294967295 : Int64)), .second, iv 2, .unset, .unset, .unset, .unset, .unset]) rfl ?_
 refine kn X33_ hx hby (D32 91) rfl (l' := #[rv o1, iv d1, rv o3, lv ((d1.toInt64) &&& (4294967295 : Int64)), .second, iv (own_nlz d1), iv hi1, lv ((hi1.toInt64) &&& (4294967295 : Int64)), .second, iv 1, .unset, .unset, .unset, .unset, .unset]) rfl ?_
 refine ki X33_ hx hby (D32 92) rfl ?_
 refine kfN X33_ hx hby (D32 93) ((if0 _ _).trans (tlt ((by decide) : (0 : Int32) < (1 : Int32))).2.2.2) ?_
 refine kl X33_ hx hby (D32 94) rfl ?_
 refine kb X33_ hx hby (D32 95) ?_
 refine klshl X33_ hx hby (D32 96) ?_
 refine st35_ _ ?_
 refine st37_ _ ?_
 refine st38_ _ ?_
 refine kia X38_ hx hby (D32 103) ?_
 refine ki X38_ hx hby (D32 104) rfl ?_
 refine kis X38_ hx hby (D32 105) ?_
 refine own_ia X38_ hx hZ e38_ f39_ ⟨by decide, by decide⟩ rfl hby (D32 106) ?_
 refine ki2l X38_ hx hby (D32 107) ?_
 refine own_l2 X38_ hx hZ hown (wt hw 176 rfl) hby (D32 108) ?_
 refine kla X38_ hx hby (D32 109) ?_
 refine klor X38_ hx hby (D32 110) ?_
 refine own_rJ (ee) ?_
 refine kls X38_ hx hby (D32 111) (l' := #[rv o1, iv d1, rv o3, lv ((d1.toInt64) &&& (4294967295 : Int64)), .second, iv (own_nlz d1), iv hi1, lv ((hi1.toInt64) &&& (4294967295 : Int64)), .second, iv 1, lv es, .second, .unset, .unset, .unset]) rfl ?_
 refine kl X38_ hx hby (D32 112) rfl ?_
 refine klc X38_ hx hby (D32 113) ?_
 refine klcmp X38_ hx hby (D32 114) ?_
 refine kfN X38_ hx hby (D32 115) ((if0 _ _).trans (flt ((fun q => gs ((lw_lt _ _).mp q)) : ¬ ((lcmpW es (0 : Int64)) < (0 : Int32)))).1) ?_
 refine kl X38_ hx hby (D32 116) rfl ?_
 refine klloadN X38_ hx hby (D32 117) rfl ?_
 refine kldiv X38_ hx hby (D32 118) nd ?_
 refine kl2i X38_ hx hby (D32 119) ?_
 refine own_rI (e2) ?_
 refine ks X38_ hx hby (D32 120) (l' := #[rv o1, iv d1, rv o3, lv ((d1.toInt64) &&& (4294967295 : Int64)), .second, iv (own_nlz d1), iv hi1, lv ((hi1.toInt64) &&& (4294967295 : Int64)), .second, iv 1, lv es, .second, iv q2, .unset, .unset]) rfl ?_
 refine kl X38_ hx hby (D32 121) rfl ?_
 refine ki X38_ hx hby (D32 122) rfl ?_
 refine ki2l X38_ hx hby (D32 123) ?_
 refine klloadN X38_ hx hby (D32 124) rfl ?_
 refine klmul X38_ hx hby (D32 125) ?_
 refine klsub X38_ hx hby (D32 126) ?_
 refine kl2i X38_ hx hby (D32 127) ?_
 refine own_rI (e7) ?_
 refine ks X38_ hx hby (D32 128) (l' := #[rv o1, iv d1, rv o3, lv ((d1.toInt64) &&& (4294967295 : Int64)), .second, iv (own_nlz d1), iv r7, lv ((hi1.toInt64) &&& (4294967295 : Int64)), .second, iv 1, lv es, .second, iv q2, .unset, .unset]) rfl ?_
 refine kg X38_ hx (pc0 := 261) (pc' := 289) rfl hby (D32 129) (by decide) (by decide) ?_
 refine st41_ _ ?_
 refine st42_ _ ?_
 refine ki X42_ hx hby (D32 134) rfl ?_
 refine kis X42_ hx hby (D32 135) ?_
 refine ki X42_ hx hby (D32 136) rfl ?_
 refine st43_ _ ?_
 refine ki X43_ hx hby (D32 138) rfl ?_
 refine ki2l X43_ hx hby (D32 139) ?_
 refine own_l2 X43_ hx hZ hown (wt hw 176 rfl) hby (D32 140) ?_
 refine kla X43_ hx hby (D32 141) ?_
 refine kls X43_ hx hby (D32 142) (l' := #[rv o1, iv d1, rv o3, lv ((d1.toInt64) &&& (4294967295 : Int64)), .second, iv (own_nlz d1), iv r7, lv ((r7.toInt64) &&& (4294967295 : Int64)), .second, iv 1, lv es, .second, iv q2, .unset, .unset]) rfl ?_
 refine kg X43_ hx (pc0 := 312) (pc' := 198) rfl hby (D32 143) (by decide) (by decide) ?_
 refine kn X43_ hx hby (D32 91) rfl (l' := #[rv o1, iv d1, rv o3, lv ((d1.toInt64) &&& (4294967295 : Int64)), .second, iv (own_nlz d1), iv r7, lv ((r7.toInt64) &&& (4294967295 : Int64)), .second, iv 0, lv es, .second, iv q2, .unset, .unset]) rfl ?_
 refine ki X43_ hx hby (D32 92) rfl ?_
 refine kfY X43_ hx (pc0 := 203) (pc' := 315) rfl hby (D32 93) ((if0 _ _).trans (flt ((by decide) : ¬ ((0 : Int32) < (0 : Int32)))).2.2.2) (by decide) (by decide) ?_
 refine kaN X43_ hx hby (D32 144) rfl rfl ?_
 refine st44_ _ ?_
 refine ki X44_ hx hby (D32 146) rfl ?_
 refine kfN X44_ hx hby (D32 147) ((if0 _ _).trans (tlt (nl : (0 : Int32) < (own_nlz d1))).2.2.2) ?_
 refine ki X44_ hx hby (D32 148) rfl ?_
 refine kiN X44_ hx hby (D32 149) rfl ?_
 refine kirem X44_ hx hby (D32 150) d0 ?_
 exact retI X44_ hx hret (hb hby (D32 151)) hr
theorem dwG (l : Launch) (Z : State) (a0 : Array Value) (hw : own_W Z a0) (ws : List Jvm.Cond) (o1 : Addr) (d1 : Int32) (o3 : Addr) (a1 : Addr) (k1 : ClassId) (hi1 : Int32) (lo1 : Int32) (a3 : Addr) (k3 : ClassId) (q0 : Int32) (r6 : Int32) (es : Int64) (q2 : Int32) (r7 : Int32) (n3 : Nat) (h0 : Heap) (n0 : Nat) (Z0 : n0 ≤ h0.size) (S1 : own_SH Z h0 o1 a1 (2 : Int32) (0 : Int32) k1 (2 : Int32) [(.int hi1), (.int lo1)]) (S3 : own_SH Z h0 o3 a3 (0 : Int32) (0 : Int32) k3 (1 : Int32) [(.int 0)]) (g1 : n0 ≤ o3) (g2 : n0 ≤ a3) (n13 : o1 ≠ o3) (a13 : a1 ≠ a3) (nd : ¬ ((d1.toInt64 &&& (4294967295 : Int64)) = (0 : Int64))) (el : own_u d1 ≤ own_u hi1) (eq0 : (((hi1.toInt64 &&& (4294967295 : Int64)) / (d1.toInt64 &&& (4294967295 : Int64))).toInt32) = q0) (e6 : (((hi1.toInt64 &&& (4294967295 : Int64)) - ((q0.toInt64) * (d1.toInt64 &&& (4294967295 : Int64)))).toInt32) = r6) (ee : (((r6.toInt64 &&& (4294967295 : Int64)) <<< ((32 : Int32) &&& 0x3f).toInt64) ||| (lo1.toInt64 &&& (4294967295 : Int64))) = es) (gs : ¬ (es < (0 : Int64))) (e2 : ((es / (d1.toInt64 &&& (4294967295 : Int64))).toInt32) = q2) (e7 : ((es - ((q2.toInt64) * (d1.toInt64 &&& (4294967295 : Int64)))).toInt32) = r7) (nl : (0 : Int32) < (own_nlz d1)) (d0 : ¬ (d1 = (0 : Int32))) (nu : n3 = own_u q0 * 4294967296 + own_u q2) (nz : n3 ≠ 0) : own_Met l Y32 jdk_2101_method_53_code 15 (some .int) ⟨1, 1, 2, 15⟩ ws #[(.ref o1), (.int d1), (.ref o3)] Z h0 (Q_rmDw Z o1 d1 o3 a1 k1 hi1 lo1 a3 k3 n3 h0 n0) := by
 refine own_go (plainFor_of_name pn_java_math_MutableBigInteger) (fun m => ef32_RIR m o1 d1 o3) fun p e s m below meth c s₁ hx hby hml hown hnm hret hZ e0 X0 => ?_
 have N0 := Fr.nil n0
 obtain ⟨T1_, X1_, e1_, st1_⟩ := own_gN (pc := 7) (Ls := #[rv o1, iv d1, rv o3, lv ((d1.toInt64) &&& (4294967295 : Int64)), .second, .unset, .unset, .unset, .unset, .unset, .unset, .unset, .unset, .unset, .unset]) (stk := []) X0 hx hZ hown (wt hw 50 rfl) e0 S1.2.2.2.1 hby (D32 5) (D32 6) rfl
 obtain ⟨T2_, X2_, e2_, st2_⟩ := own_gN (pc := 79) (Ls := #[rv o1, iv d1, rv o3, lv ((d1.toInt64) &&& (4294967295 : Int64)), .second, .unset, .unset, .unset, .unset, .unset, .unset, .unset, .unset, .unset, .unset]) (stk := []) X1_ hx hZ hown (wt hw 65 rfl) e1_ S3.2.2.1 hby (D32 46) (D32 47) rfl
 obtain ⟨T3_, X3_, e3_, st3_⟩ := own_gN (pc := 84) (Ls := #[rv o1, iv d1, rv o3, lv ((d1.toInt64) &&& (4294967295 : Int64)), .second, .unset, .unset, .unset, .unset, .unset, .unset, .unset, .unset, .unset, .unset]) (stk := [(.int 1)]) X2_ hx hZ hown (wt hw 50 rfl) e2_ S1.2.2.2.1 hby (D32 49) (D32 50) rfl
 obtain ⟨T4_, X4_, e4_, st4_⟩ := own_gN (pc := 92) (Ls := #[rv o1, iv d1, rv o3, lv ((d1.toInt64) &&& (4294967295 : Int64)), .second, .unset, .unset, .unset, .unset, .unset, .unset, .unset, .unset, .unset, .unset]) (stk := [(.ref o3)]) X3_ hx hZ hown (wt hw 50 rfl) e3_ S1.2.2.2.1 hby (D32 53) (D32 54) rfl
 obtain ⟨T5_, h5_, k5_, X5_, e5_, E5_, A5_, Y5_, st5_⟩ := newPE X4_ hx hZ (wt hw 22 rfl) e4_ (g := (mkF m 96 #[rv o1, iv d1, rv o3, lv ((d1.toInt64) &&& (4294967295 : Int64)), .second, .unset, .unset, .unset, .unset, .unset, .unset, .unset, .unset, .unset, .unset] [(.int 2), (.ref o3)])) rfl (hb hby (D32 55)) rfl (by decide) (cap := 2) (by decide) (by decide) (by exact own_b rfl) (by exact own_b rfl) (ad := "[I") (by decide +kernel)
 obtain ⟨b5_, g5_⟩ : ∃ z, z = h0.size := ⟨_, rfl⟩
 rw [← g5_] at A5_ Y5_ st5_
 have v5_ : Arv Z h5_ b5_ k5_ .int (2 : Int32) [(.int 0), (.int 0)] (.int 0) := (Arv.new A5_ (by decide)).pad (pad_rep [] (.int 0) 2)
 have f6_ := S3.1.ext E5_
 have f7_ := S3.2.2.1.ext E5_
 obtain ⟨T8_, h8_, X8_, e8_, W8_, w8_, N8_, st8_⟩ := own_pf (pc := 98) (Ls := #[rv o1, iv d1, rv o3, lv ((d1.toInt64) &&& (4294967295 : Int64)), .second, .unset, .unset, .unset, .unset, .unset, .unset, .unset, .unset, .unset, .unset]) (stk := [(.ref b5_), (.ref o3)]) X5_ hx hZ hown (wt hw 65 rfl) e5_ f7_ f6_ (Or.inl (wt hw 66 rfl)) (wt hw 40 rfl) (ty := (.array .int)) (by decide) rfl rfl N0 g1 hby (D32 56) rfl
 have f9_ := f6_.wr W8_
 have f10_ := (S3.2.2.2.2.1.ext E5_).other W8_ (Or.inr (slot_ne (Or.inl (wt hw 48 rfl)) (Or.inl (wt hw 66 rfl)) (by decide) (t := .int) (t' := (.array .int)) (by decide) (by decide)))
 obtain ⟨T11_, h11_, X11_, e11_, W11_, w11_, N11_, st11_⟩ := own_pf (pc := 103) (Ls := #[rv o1, iv d1, rv o3, lv ((d1.toInt64) &&& (4294967295 : Int64)), .second, .unset, .unset, .unset, .unset, .unset, .unset, .unset, .unset, .unset, .unset]) (stk := [(.int 0), (.ref o3)]) X8_ hx hZ hown (wt hw 47 rfl) e8_ f10_ f9_ (Or.inl (wt hw 48 rfl)) (wt hw 40 rfl) (ty := .int) (by decide) rfl rfl N8_ g1 hby (D32 59) rfl
 have f12_ := ((S1.2.2.2.1.ext E5_).other W8_ (Or.inl n13)).other W11_ (Or.inl n13)
 obtain ⟨T13_, X13_, e13_, st13_⟩ := own_gN (pc := 107) (Ls := #[rv o1, iv d1, rv o3, lv ((d1.toInt64) &&& (4294967295 : Int64)), .second, .unset, .unset, .unset, .unset, .unset, .unset, .unset, .unset, .unset, .unset]) (stk := [(.ref o3)]) X11_ hx hZ hown (wt hw 50 rfl) e11_ f12_ hby (D32 61) (D32 62) rfl
 have f14_ := f9_.wr W11_
 have f15_ := ((S3.2.2.2.1.ext E5_).other W8_ (Or.inr (slot_ne (Or.inl (wt hw 51 rfl)) (Or.inl (wt hw 66 rfl)) (by decide) (t := .int) (t' := (.array .int)) (by decide) (by decide)))).other W11_ (Or.inr (slot_ne (Or.inl (wt hw 51 rfl)) (Or.inl (wt hw 48 rfl)) (by decide) (t := .int) (t' := .int) (by decide) (by decide)))
 obtain ⟨T16_, h16_, X16_, e16_, W16_, w16_, N16_, st16_⟩ := own_pf (pc := 111) (Ls := #[rv o1, iv d1, rv o3, lv ((d1.toInt64) &&& (4294967295 : Int64)), .second, .unset, .unset, .unset, .unset, .unset, .unset, .unset, .unset, .unset, .unset]) (stk := [(.int 2), (.ref o3)]) X13_ hx hZ hown (wt hw 50 rfl) e13_ f15_ f14_ (Or.inl (wt hw 51 rfl)) (wt hw 40 rfl) (ty := .int) (by decide) rfl rfl N11_ g1 hby (D32 63) rfl
 have z18_ : n0 ≤ h5_.size := Nat.le_trans Z0 E5_.1
 have z19_ : n0 ≤ h8_.size := Nat.le_trans z18_ (Keep.of_wr W8_).1
 have z20_ : n0 ≤ h11_.size := Nat.le_trans z19_ (Keep.of_wr W11_).1
 have z21_ : n0 ≤ h16_.size := Nat.le_trans z20_ (Keep.of_wr W16_).1
 obtain ⟨T17_, Lc17_, v17_, X17_, hQ17_, st17_⟩ := own_cS (y := Y18) X16_ hx hZ hown (wt hw 218 rfl) (wt hw 104 rfl) (wt hw 105 rfl) (wt hw 92 rfl) (by decide) (rmNlz l Z a0 hw [] d1 h16_ n0 z21_ ) e16_ (pc := 115) (Ls := #[rv o1, iv d1, rv o3, lv ((d1.toInt64) &&& (4294967295 : Int64)), .second, .unset, .unset, .unset, .unset, .unset, .unset, .unset, .unset, .unset, .unset]) (stk := [(.int d1)]) (rest := []) (by rw [hml]; rfl) pd0 rfl rfl (W := 0) rfl hby (D32 65) (by decide) (by decide) (by exact own_b rfl) (by exact own_b rfl)
 obtain ⟨rfl, Nq17_, ek17_⟩ := hQ17_
 have N17_ := Fr.app N16_ Nq17_
 have f22_ := (((S1.2.2.1.ext E5_).other W8_ (Or.inl n13)).other W11_ (Or.inl n13)).other W16_ (Or.inl n13)
 obtain ⟨T23_, X23_, e23_, st23_⟩ := own_gN (pc := 120) (Ls := #[rv o1, iv d1, rv o3, lv ((d1.toInt64) &&& (4294967295 : Int64)), .second, iv (own_nlz d1), .unset, .unset, .unset, .unset, .unset, .unset, .unset, .unset, .unset]) (stk := []) X17_ hx hZ hown (wt hw 65 rfl) ek17_ f22_ hby (D32 67) (D32 68) rfl
 have f24_ := (((S1.2.2.2.2.1.ext E5_).other W8_ (Or.inl n13)).other W11_ (Or.inl n13)).other W16_ (Or.inl n13)
 obtain ⟨T25_, X25_, e25_, st25_⟩ := own_gN (pc := 124) (Ls := #[rv o1, iv d1, rv o3, lv ((d1.toInt64) &&& (4294967295 : Int64)), .second, iv (own_nlz d1), .unset, .unset, .unset, .unset, .unset, .unset, .unset, .unset, .unset]) (stk := [(.ref a1)]) X23_ hx hZ hown (wt hw 47 rfl) e23_ f24_ hby (D32 69) (D32 70) rfl
 have f26_ := (((S1.2.2.2.2.2.ext E5_).other W8_ (ne_exa (S1.2.1.ext E5_) f6_ (by decide))).other W11_ (ne_exa ((S1.2.1.ext E5_).wr W8_) f9_ (by decide))).other W16_ (ne_exa (((S1.2.1.ext E5_).wr W8_).wr W11_) f14_ (by decide))
 have f27_ := (w8_.other W11_ (Or.inr (slot_ne (Or.inl (wt hw 66 rfl)) (Or.inl (wt hw 48 rfl)) (by decide) (t := (.array .int)) (t' := .int) (by decide) (by decide)))).other W16_ (Or.inr (slot_ne (Or.inl (wt hw 66 rfl)) (Or.inl (wt hw 51 rfl)) (by decide) (t := (.array .int)) (t' := .int) (by decide) (by decide)))
 obtain ⟨T28_, X28_, e28_, st28_⟩ := own_gN (pc := 157) (Ls := #[rv o1, iv d1, rv o3, lv ((d1.toInt64) &&& (4294967295 : Int64)), .second, iv (own_nlz d1), iv hi1, lv ((hi1.toInt64) &&& (4294967295 : Int64)), .second, .unset, .unset, .unset, .unset, .unset, .unset]) (stk := []) X25_ hx hZ hown (wt hw 65 rfl) e25_ f27_ hby (D32 152) (D32 153) rfl
 have f29_ := ((v5_.other W8_ (Ne.symm (Nat.ne_of_lt (Nat.lt_of_lt_of_le S3.1.lt (Nat.le_of_eq g5_.symm))))).other W11_ (Ne.symm (Nat.ne_of_lt (Nat.lt_of_lt_of_le S3.1.lt (Nat.le_of_eq g5_.symm))))).other W16_ (Ne.symm (Nat.ne_of_lt (Nat.lt_of_lt_of_le S3.1.lt (Nat.le_of_eq g5_.symm))))
 have g31_ : n0 ≤ b5_ := Nat.le_trans Z0 (Nat.le_of_eq g5_.symm)
 obtain ⟨T30_, h30_, X30_, e30_, W30_, v30_, N30_, st30_⟩ := own_si (pc := 167) (Ls := #[rv o1, iv d1, rv o3, lv ((d1.toInt64) &&& (4294967295 : Int64)), .second, iv (own_nlz d1), iv hi1, lv ((hi1.toInt64) &&& (4294967295 : Int64)), .second, .unset, .unset, .unset, .unset, .unset, .unset]) (stk := [(.int q0), (.int 0), (.ref b5_)]) X28_ hx hZ e28_ f29_ ⟨by decide, by decide⟩ 0 rfl (Nat.le_of_ble_eq_true rfl) N17_ g31_ hby (D32 159) rfl
 have f32_ := f27_.other W30_ (Or.inl (Nat.ne_of_lt (Nat.lt_of_lt_of_le S3.1.lt (Nat.le_of_eq g5_.symm))))
 obtain ⟨T33_, X33_, e33_, st33_⟩ := own_gN (pc := 170) (Ls := #[rv o1, iv d1, rv o3, lv ((d1.toInt64) &&& (4294967295 : Int64)), .second, iv (own_nlz d1), iv hi1, lv ((hi1.toInt64) &&& (4294967295 : Int64)), .second, .unset, .unset, .unset, .unset, .unset, .unset]) (stk := [(.long ((hi1.toInt64) &&& (4294967295 : Int64)))]) X30_ hx hZ hown (wt hw 65 rfl) e30_ f32_ hby (D32 161) (D32 162) rfl
 have f34_ := (f12_.other W16_ (Or.inl n13)).other W30_ (Or.inl (Nat.ne_of_lt (Nat.lt_of_lt_of_le S1.1.lt (Nat.le_of_eq g5_.symm))))
 obtain ⟨T35_, X35_, e35_, st35_⟩ := own_gN (pc := 192) (Ls := #[rv o1, iv d1, rv o3, lv ((d1.toInt64) &&& (4294967295 : Int64)), .second, iv (own_nlz d1), iv r6, lv ((r6.toInt64) &&& (4294967295 : Int64)), .second, .unset, .unset, .unset, .unset, .unset, .unset]) (stk := []) X33_ hx hZ hown (wt hw 50 rfl) e33_ f34_ hby (D32 88) (D32 89) rfl
 have f36_ := f22_.other W30_ (Or.inl (Nat.ne_of_lt (Nat.lt_of_lt_of_le S1.1.lt (Nat.le_of_eq g5_.symm))))
 obtain ⟨T37_, X37_, e37_, st37_⟩ := own_gN (pc := 211) (Ls := #[rv o1, iv d1, rv o3, lv ((d1.toInt64) &&& (4294967295 : Int64)), .second, iv (own_nlz d1), iv r6, lv ((r6.toInt64) &&& (4294967295 : Int64)), .second, iv 1, .unset, .unset, .unset, .unset, .unset]) (stk := [(.long (((r6.toInt64) &&& (4294967295 : Int64)) <<< ((32 : Int32) &&& 0x3f).toInt64))]) X35_ hx hZ hown (wt hw 65 rfl) e35_ f36_ hby (D32 97) (D32 98) rfl
 have f38_ := f24_.other W30_ (Or.inl (Nat.ne_of_lt (Nat.lt_of_lt_of_le S1.1.lt (Nat.le_of_eq g5_.symm))))
 obtain ⟨T39_, X39_, e39_, st39_⟩ := own_gN (pc := 215) (Ls := #[rv o1, iv d1, rv o3, lv ((d1.toInt64) &&& (4294967295 : Int64)), .second, iv (own_nlz d1), iv r6, lv ((r6.toInt64) &&& (4294967295 : Int64)), .second, iv 1, .unset, .unset, .unset, .unset, .unset]) (stk := [(.ref a1), (.long (((r6.toInt64) &&& (4294967295 : Int64)) <<< ((32 : Int32) &&& 0x3f).toInt64))]) X37_ hx hZ hown (wt hw 47 rfl) e37_ f38_ hby (D32 99) (D32 100) rfl
 obtain ⟨T40_, X40_, e40_, st40_⟩ := own_gN (pc := 219) (Ls := #[rv o1, iv d1, rv o3, lv ((d1.toInt64) &&& (4294967295 : Int64)), .second, iv (own_nlz d1), iv r6, lv ((r6.toInt64) &&& (4294967295 : Int64)), .second, iv 1, .unset, .unset, .unset, .unset, .unset]) (stk := [(.int 0), (.ref a1), (.long (((r6.toInt64) &&& (4294967295 : Int64)) <<< ((32 : Int32) &&& 0x3f).toInt64))]) X39_ hx hZ hown (wt hw 50 rfl) e39_ f34_ hby (D32 101) (D32 102) rfl
 have f41_ := f26_.other W30_ (Nat.ne_of_lt (Nat.lt_of_lt_of_le S1.2.1.lt (Nat.le_of_eq g5_.symm)))
 obtain ⟨T42_, X42_, e42_, st42_⟩ := own_gN (pc := 289) (Ls := #[rv o1, iv d1, rv o3, lv ((d1.toInt64) &&& (4294967295 : Int64)), .second, iv (own_nlz d1), iv r7, lv ((r6.toInt64) &&& (4294967295 : Int64)), .second, iv 1, lv es, .second, iv q2, .unset, .unset]) (stk := []) X40_ hx hZ hown (wt hw 65 rfl) e40_ f32_ hby (D32 130) (D32 131) rfl
 obtain ⟨T43_, X43_, e43_, st43_⟩ := own_gN (pc := 293) (Ls := #[rv o1, iv d1, rv o3, lv ((d1.toInt64) &&& (4294967295 : Int64)), .second, iv (own_nlz d1), iv r7, lv ((r6.toInt64) &&& (4294967295 : Int64)), .second, iv 1, lv es, .second, iv q2, .unset, .unset]) (stk := [(.ref b5_)]) X42_ hx hZ hown (wt hw 50 rfl) e42_ f34_ hby (D32 132) (D32 133) rfl
 obtain ⟨T44_, h44_, X44_, e44_, W44_, v44_, N44_, st44_⟩ := own_si (pc := 302) (Ls := #[rv o1, iv d1, rv o3, lv ((d1.toInt64) &&& (4294967295 : Int64)), .second, iv (own_nlz d1), iv r7, lv ((r6.toInt64) &&& (4294967295 : Int64)), .second, iv 1, lv es, .second, iv q2, .unset, .unset]) (stk := [(.int q2), (.int 1), (.ref b5_)]) X43_ hx hZ e43_ v30_ ⟨by decide, by decide⟩ 1 rfl (Nat.le_of_ble_eq_true rfl) N30_ g31_ hby (D32 137) rfl
 have f46_ := ((f14_.wr W16_).wr W30_).wr W44_
 have f47_ := ((((Y5_.wr W8_).wr W11_).wr W16_).wr W30_).wr W44_
 have f48_ := f32_.other W44_ (Or.inl (Nat.ne_of_lt (Nat.lt_of_lt_of_le S3.1.lt (Nat.le_of_eq g5_.symm))))
 have f49_ := (w16_.other W30_ (Or.inl (Nat.ne_of_lt (Nat.lt_of_lt_of_le S3.1.lt (Nat.le_of_eq g5_.symm))))).other W44_ (Or.inl (Nat.ne_of_lt (Nat.lt_of_lt_of_le S3.1.lt (Nat.le_of_eq g5_.symm))))
 have f50_ := ((w11_.other W16_ (Or.inr (slot_ne (Or.inl (wt hw 48 rfl)) (Or.inl (wt hw 51 rfl)) (by decide) (t := .int) (t' := .int) (by decide) (by decide)))).other W30_ (Or.inl (Nat.ne_of_lt (Nat.lt_of_lt_of_le S3.1.lt (Nat.le_of_eq g5_.symm))))).other W44_ (Or.inl (Nat.ne_of_lt (Nat.lt_of_lt_of_le S3.1.lt (Nat.le_of_eq g5_.symm))))
 have z51_ : n0 ≤ h30_.size := Nat.le_trans z21_ (Keep.of_wr W30_).1
 have z52_ : n0 ≤ h44_.size := Nat.le_trans z51_ (Keep.of_wr W44_).1
 obtain ⟨T45_, Lc45_, v45_, X45_, hQ45_, st45_⟩ := own_cV (y := Y38) X44_ hx hZ hown (wt hw 207 rfl) (wt hw 209 rfl) (wt hw 210 rfl) (wt hw 211 rfl) (wt hw 41 rfl) (by decide) (rmNo l Z a0 hw [] o3 b5_ k5_ q0 q2 n3 h44_ n0 z52_ ⟨f46_, f47_, f48_, f49_, f50_, v44_⟩ g1 g31_ nu nz) f46_ e44_ (pc := 316) (Ls := #[rv o1, iv d1, rv o3, lv ((d1.toInt64) &&& (4294967295 : Int64)), .second, iv (own_nlz d1), iv r7, lv ((r7.toInt64) &&& (4294967295 : Int64)), .second, iv 0, lv es, .second, iv q2, .unset, .unset]) (stk := [(.ref o3)]) (rest := []) (by rw [hml]; rfl) pd3 rfl rfl (W := 0) rfl hby (D32 145) (by decide) (by decide) (by exact own_b rfl) (by exact own_b rfl)
 obtain ⟨rfl, Nq45_, ek45_, p45__0⟩ := hQ45_
 have N45_ := Fr.app N44_ Nq45_
 have k53_ := (Keep.refl h0 [o3, a3]).ext E5_
 have k54_ := k53_.wr W8_ (own_in 0 rfl)
 have k55_ := k54_.wr W11_ (own_in 0 rfl)
 have k56_ := k55_.wr W16_ (own_in 0 rfl)
 have k57_ := k56_.wr W30_ (Or.inr (Nat.le_trans (Keep.refl h0 [o3, a3]).1 (Nat.le_of_eq g5_.symm)))
 have k58_ := k57_.wr W44_ (Or.inr (Nat.le_trans (Keep.refl h0 [o3, a3]).1 (Nat.le_of_eq g5_.symm)))
 have k59_ := k58_.trans ek45_ (allS (own_in 0 rfl) (allS (Or.inr (Nat.le_trans (Keep.refl h0 [o3, a3]).1 (Nat.le_of_eq g5_.symm))) all0))
 refine ⟨_, _, _, _, some (.int (r7 - ((r7 / d1) * d1))), X45_, (by exact own_b rfl), (by exact own_b rfl), nofun, (by show Q_rmDw Z o1 d1 o3 a1 k1 hi1 lo1 a3 k3 n3 h0 n0 _ T45_.heap _; exact ⟨b5_, (r7 - ((r7 / d1) * d1)), rfl, N45_, k59_, p45__0, (Nat.le_trans (Keep.refl h0 [o3, a3]).1 (Nat.le_of_eq g5_.symm))⟩), fun fs hr => ?_⟩
 refine kiN X0 hx hby (D32 0) rfl ?_
 refine ki2l X0 hx hby (D32 1) ?_
 refine own_l2 X0 hx hZ hown (wt hw 176 rfl) hby (D32 2) ?_
 refine kla X0 hx hby (D32 3) ?_
 refine klstoreN X0 hx hby (D32 4) (l' := #[rv o1, iv d1, rv o3, lv ((d1.toInt64) &&& (4294967295 : Int64)), .second, .unset, .unset, .unset, .unset, .unset, .unset, .unset, .unset, .unset, .unset]) rfl ?_
 refine st1_ _ ?_
 refine kc X1_ hx hby (D32 7) ?_
 refine kcY X1_ hx (pc0 := 12) (pc' := 79) rfl hby (D32 8) (feq ((by decide) : ¬ ((2 : Int32) = (1 : Int32)))).2 (by decide) (by decide) ?_
 refine st2_ _ ?_
 refine own_al X2_ hx hZ e2_ S3.2.2.2.2.2 hby (D32 48) ?_
 refine st3_ _ ?_
 refine kcN X3_ hx hby (D32 51) (tlt ((by decide) : (1 : Int32) < (2 : Int32))).2.1 ?_
 refine kaN X3_ hx hby (D32 52) rfl rfl ?_
 refine st4_ _ ?_
 show Steps p.tables e below (T4_.setTop (mkF m 96 #[rv o1, iv d1, rv o3, lv ((d1.toInt64) &&& (4294967295 : Int64)), .second, .unset, .unset, .unset, .unset, .unset, .unset, .unset, .unset, .unset, .unset] [(.int 2), (.ref o3)])) _
 refine st5_ _ ?_
 refine st8_ _ ?_
 show Steps p.tables e below (T8_.setTop (mkF m 101 #[rv o1, iv d1, rv o3, lv ((d1.toInt64) &&& (4294967295 : Int64)), .second, .unset, .unset, .unset, .unset, .unset, .unset, .unset, .unset, .unset, .unset] [])) _
 refine kaN X8_ hx hby (D32 57) rfl rfl ?_
 refine kc X8_ hx hby (D32 58) ?_
 refine st11_ _ ?_
 refine kaN X11_ hx hby (D32 60) rfl rfl ?_
 refine st13_ _ ?_
 refine st16_ _ ?_
 refine kiN X16_ hx hby (D32 64) rfl ?_
 refine st17_ _ ?_
 refine ks X17_ hx hby (D32 66) (l' := #[rv o1, iv d1, rv o3, lv ((d1.toInt64) &&& (4294967295 : Int64)), .second, iv (own_nlz d1), .unset, .unset, .unset, .unset, .unset, .unset, .unset, .unset, .unset]) rfl ?_
 refine st23_ _ ?_
 refine st25_ _ ?_
 refine own_ia X25_ hx hZ e25_ f26_ ⟨by decide, by decide⟩ rfl hby (D32 71) ?_
 refine ks X25_ hx hby (D32 72) (l' := #[rv o1, iv d1, rv o3, lv ((d1.toInt64) &&& (4294967295 : Int64)), .second, iv (own_nlz d1), iv hi1, .unset, .unset, .unset, .unset, .unset, .unset, .unset, .unset]) rfl ?_
 refine ki X25_ hx hby (D32 73) rfl ?_
 refine ki2l X25_ hx hby (D32 74) ?_
 refine own_l2 X25_ hx hZ hown (wt hw 176 rfl) hby (D32 75) ?_
 refine kla X25_ hx hby (D32 76) ?_
 refine kls X25_ hx hby (D32 77) (l' := #[rv o1, iv d1, rv o3, lv ((d1.toInt64) &&& (4294967295 : Int64)), .second, iv (own_nlz d1), iv hi1, lv ((hi1.toInt64) &&& (4294967295 : Int64)), .second, .unset, .unset, .unset, .unset, .unset, .unset]) rfl ?_
 refine kl X25_ hx hby (D32 78) rfl ?_
 refine klloadN X25_ hx hby (D32 79) rfl ?_
 refine klcmp X25_ hx hby (D32 80) ?_
 refine kfY X25_ hx (pc0 := 144) (pc' := 157) rfl hby (D32 81) ((if0 _ _).trans (flt ((own_lge el) : ¬ ((lcmpW ((hi1.toInt64) &&& (4294967295 : Int64)) ((d1.toInt64) &&& (4294967295 : Int64))) < (0 : Int32)))).2.1) (by decide) (by decide) ?_
 refine st28_ _ ?_
 refine kc X28_ hx hby (D32 154) ?_
 refine kl X28_ hx hby (D32 155) rfl ?_
 refine klloadN X28_ hx hby (D32 156) rfl ?_
 refine kldiv X28_ hx hby (D32 157) nd ?_
 refine kl2i X28_ hx hby (D32 158) ?_
 refine own_rI (eq0) ?_
 refine st30_ _ ?_
 refine kl X30_ hx hby (D32 160) rfl ?_
 refine st33_ _ ?_
 refine kc X33_ hx hby (D32 163) ?_
 refine own_ia X33_ hx hZ e33_ v30_ ⟨by decide, by decide⟩ rfl hby (D32 164) ?_
 refine ki2l X33_ hx hby (D32 165) ?_
 refine klloadN X33_ hx hby (D32 166) rfl ?_
 refine klmul X33_ hx hby (D32 167) ?_
 refine klsub X33_ hx hby (D32 168) ?_
 refine kl2i X33_ hx hby (D32 169) ?_
 refine own_rI (e6) ?_
 refine ks X33_ hx hby (D32 170) (l' := #[rv o1, iv d1, rv o3, lv ((d1.toInt64) &&& (4294967295 : Int64)), .second, iv (own_nlz d1), iv r6, lv ((hi1.toInt64) &&& (4294967295 : Int64)), .second, .unset, .unset, .unset, .unset, .unset, .unset]) rfl ?_
 refine ki X33_ hx hby (D32 171) rfl ?_
 refine ki2l X33_ hx hby (D32 172) ?_
 refine own_l2 X33_ hx hZ hown (wt hw 176 rfl) hby (D32 173) ?_
 refine kla X33_ hx hby (D32 174) ?_
 refine kls X33_ hx hby (D32 175) (l' := #[rv o1, iv d1, rv o3, lv ((d1.toInt64) &&& (4294967295 : Int64)), .second, iv (own_nlz d1), iv r6, lv ((r6.toInt64) &&& (4294967295 : Int64)), .second, .unset, .unset, .unset, .unset, .unset, .unset]) rfl ?_
 refine st35_ _ ?_
 refine ks X35_ hx hby (D32 90) (l' := #[rv o1, iv d1, rv o3, lv ((d1.toInt64) &&& (4294967295 : Int64)), .second, iv (own_nlz d1), iv r6, lv ((r6.toInt64) &&& (4294967295 : Int64)), .second, iv 2, .unset, .unset, .unset, .unset, .unset]) rfl ?_
 refine kn X35_ hx hby (D32 91) rfl (l' := #[rv o1, iv d1, rv o3, lv ((d1.toInt64) &&& (4294967295 : Int64)), .second, iv (own_nlz d1), iv r6, lv ((r6.toInt64) &&& (4294967295 : Int64)), .second, iv 1, .unset, .unset, .unset, .unset, .unset]) rfl ?_
 refine ki X35_ hx hby (D32 92) rfl ?_
 refine kfN X35_ hx hby (D32 93) ((if0 _ _).trans (tlt ((by decide) : (0 : Int32) < (1 : Int32))).2.2.2) ?_
 refine kl X35_ hx hby (D32 94) rfl ?_
 refine kb X35_ hx hby (D32 95) ?_
 refine klshl X35_ hx hby (D32 96) ?_
 refine st37_ _ ?_
 refine st39_ _ ?_
 refine st40_ _ ?_
 refine kia X40_ hx hby (D32 103) ?_
 refine ki X40_ hx hby (D32 104) rfl ?_
 refine kis X40_ hx hby (D32 105) ?_
 refine own_ia X40_ hx hZ e40_ f41_ ⟨by decide, by decide⟩ rfl hby (D32 106) ?_
 refine ki2l X40_ hx hby (D32 107) ?_
 refine own_l2 X40_ hx hZ hown (wt hw 176 rfl) hby (D32 108) ?_
 refine kla X40_ hx hby (D32 109) ?_
 refine klor X40_ hx hby (D32 110) ?_
 refine own_rJ (ee) ?_
 refine kls X40_ hx hby (D32 111) (l' := #[rv o1, iv d1, rv o3, lv ((d1.toInt64) &&& (4294967295 : Int64)), .second, iv (own_nlz d1), iv r6, lv ((r6.toInt64) &&& (4294967295 : Int64)), .second, iv 1, lv es, .second, .unset, .unset, .unset]) rfl ?_
 refine kl X40_ hx hby (D32 112) rfl ?_
 refine klc X40_ hx hby (D32 113) ?_
 refine klcmp X40_ hx hby (D32 114) ?_
 refine kfN X40_ hx hby (D32 115) ((if0 _ _).trans (flt ((fun q => gs ((lw_lt _ _).mp q)) : ¬ ((lcmpW es (0 : Int64)) < (0 : Int32)))).1) ?_
 refine kl X40_ hx hby (D32 116) rfl ?_
 refine klloadN X40_ hx hby (D32 117) rfl ?_
 refine kldiv X40_ hx hby (D32 118) nd ?_
 refine kl2i X40_ hx hby (D32 119) ?_
 refine own_rI (e2) ?_
 refine ks X40_ hx hby (D32 120) (l' := #[rv o1, iv d1, rv o3, lv ((d1.toInt64) &&& (4294967295 : Int64)), .second, iv (own_nlz d1), iv r6, lv ((r6.toInt64) &&& (4294967295 : Int64)), .second, iv 1, lv es, .second, iv q2, .unset, .unset]) rfl ?_
 refine kl X40_ hx hby (D32 121) rfl ?_
 refine ki X40_ hx hby (D32 122) rfl ?_
 refine ki2l X40_ hx hby (D32 123) ?_
 refine klloadN X40_ hx hby (D32 124) rfl ?_
 refine klmul X40_ hx hby (D32 125) ?_
 refine klsub X40_ hx hby (D32 126) ?_
 refine kl2i X40_ hx hby (D32 127) ?_
 refine own_rI (e7) ?_
 refine ks X40_ hx hby (D32 128) (l' := #[rv o1, iv d1, rv o3, lv ((d1.toInt64) &&& (4294967295 : Int64)), .second, iv (own_nlz d1), iv r7, lv ((r6.toInt64) &&& (4294967295 : Int64)), .second, iv 1, lv es, .second, iv q2, .unset, .unset]) rfl ?_
 refine kg X40_ hx (pc0 := 261) (pc' := 289) rfl hby (D32 129) (by decide) (by decide) ?_
 refine st42_ _ ?_
 refine st43_ _ ?_
 refine ki X43_ hx hby (D32 134) rfl ?_
 refine kis X43_ hx hby (D32 135) ?_
 refine ki X43_ hx hby (D32 136) rfl ?_
 refine st44_ _ ?_
 refine ki X44_ hx hby (D32 138) rfl ?_
 refine ki2l X44_ hx hby (D32 139) ?_
 refine own_l2 X44_ hx hZ hown (wt hw 176 rfl) hby (D32 140) ?_
 refine kla X44_ hx hby (D32 141) ?_
 refine kls X44_ hx hby (D32 142) (l' := #[rv o1, iv d1, rv o3, lv ((d1.toInt64) &&& (4294967295 : Int64)), .second, iv (own_nlz d1), iv r7, lv ((r7.toInt64) &&& (4294967295 : Int64)), .second, iv 1, lv es, .second, iv q2, .unset, .unset]) rfl ?_
 refine kg X44_ hx (pc0 := 312) (pc' := 198) rfl hby (D32 143) (by decide) (by decide) ?_
 refine kn X44_ hx hby (D32 91) rfl (l' := #[rv o1, iv d1, rv o3, lv ((d1.toInt64) &&& (4294967295 : Int64)), .second, iv (own_nlz d1), iv r7, lv ((r7.toInt64) &&& (4294967295 : Int64)), .second, iv 0, lv es, .second, iv q2, .unset, .unset]) rfl ?_
 refine ki X44_ hx hby (D32 92) rfl ?_
 refine kfY X44_ hx (pc0 := 203) (pc' := 315) rfl hby (D32 93) ((if0 _ _).trans (flt ((by decide) : ¬ ((0 : Int32) < (0 : Int32)))).2.2.2) (by decide) (by decide) ?_
 refine kaN X44_ hx hby (D32 144) rfl rfl ?_
 refine st45_ _ ?_
 refine ki X45_ hx hby (D32 146) rfl ?_
 refine kfN X45_ hx hby (D32 147) ((if0 _ _).trans (tlt (nl : (0 : Int32) < (own_nlz d1))).2.2.2) ?_
 refine ki X45_ hx hby (D32 148) rfl ?_
 refine kiN X45_ hx hby (D32 149) rfl ?_
 refine kirem X45_ hx hby (D32 150) d0 ?_
 exact retI X45_ hx hret (hb hby (D32 151)) hr
theorem rmDw (l : Launch) (Z : State) (a0 : Array Value) (hw : own_W Z a0) (ws : List Jvm.Cond) (o1 : Addr) (d1 : Int32) (o3 : Addr) (a1 : Addr) (k1 : ClassId) (hi1 : Int32) (lo1 : Int32) (a3 : Addr) (k3 : ClassId) (n3 : Nat) (h0 : Heap) (n0 : Nat) (Z0 : n0 ≤ h0.size) (S1 : own_SH Z h0 o1 a1 (2 : Int32) (0 : Int32) k1 (2 : Int32) [(.int hi1), (.int lo1)]) (S3 : own_SH Z h0 o3 a3 (0 : Int32) (0 : Int32) k3 (1 : Int32) [(.int 0)]) (g1 : n0 ≤ o3) (g2 : n0 ≤ a3) (n13 : o1 ≠ o3) (a13 : a1 ≠ a3) (d0 : ¬ (d1 = (0 : Int32))) (db : own_u d1 < 2147483648) (hn : own_u hi1 * 4294967296 + own_u lo1 = n3 * own_u d1) (nz : n3 ≠ 0) :
    own_Met l Y32 jdk_2101_method_53_code 15 (some .int) ⟨1, 1, 2, 15⟩ ws #[(.ref o1), (.int d1), (.ref o3)] Z h0 (Q_rmDw Z o1 d1 o3 a1 k1 hi1 lo1 a3 k3 n3 h0 n0) := by
  by_cases c : own_u hi1 < own_u d1
  · have q := own_dwL c db d0 hn
    exact dwL l Z a0 hw ws _ _ _ _ _ _ _ _ _ _ _ _ _ h0 n0 Z0 S1 S3 g1 g2 n13 a13 (own_Lnz d0) c rfl q.1 rfl rfl (own_nlz_pos d0 db) d0 q.2 nz
  · have q := own_dwG (Nat.le_of_not_lt c) d0 db hn rfl rfl
    exact dwG l Z a0 hw ws _ _ _ _ _ _ _ _ _ _ _ _ _ _ _ h0 n0 Z0 S1 S3 g1 g2 n13 a13 (own_Lnz d0) (Nat.le_of_not_lt c) rfl rfl rfl q.1 rfl rfl (own_nlz_pos d0 db) d0 q.2 nz
abbrev Y29 : MethodName := ⟨"java/math/MutableBigInteger", "divideKnuth", "(Ljava/math/MutableBigInteger;Ljava/math/MutableBigInteger;Z)Ljava/math/MutableBigInteger;"⟩
theorem ef29_RRRI (m : MethodId) (x0 : Addr) (x1 : Addr) (x2 : Addr) (x3 : Int32) : entryFrame m #[(.ref x0), (.ref x1), (.ref x2), (.int x3)] 8 = mkF m 0 #[rv x0, rv x1, rv x2, iv x3, .unset, .unset, .unset, .unset] [] := by first | (simp [entryFrame, mkF, argsToLocals, Value.category]; done) | rfl
def Q_dkZ (Z : State) (o1 : Addr) (o2 : Addr) (o3 : Addr) (h0 : Heap) (n0 : Nat) (v : Option Value) (h : Heap) (L : List Loc) : Prop := v = some .null ∧ Fr n0 L ∧ Keep h0 h [o3] ∧ (Fld Z h o3 "java/math/MutableBigInteger" "intLen" "I" (.int 0))
theorem dkZ (l : Launch) (Z : State) (a0 : Array Value) (hw : own_W Z a0) (ws : List Jvm.Cond) (o1 : Addr) (o2 : Addr) (o3 : Addr) (h0 : Heap) (n0 : Nat) (Z0 : n0 ≤ h0.size) (Fl1 : Fld Z h0 o1 "java/math/MutableBigInteger" "intLen" "I" (.int 0)) (Fl2 : Fld Z h0 o2 "java/math/MutableBigInteger" "intLen" "I" (.int 1)) (X1 : Exa Z h0 o3 "java/math/MutableBigInteger") (X3 : Fld Z h0 o3 "java/math/MutableBigInteger" "intLen" "I" (.int 0)) (X4 : Fld Z h0 o3 "java/math/MutableBigInteger" "offset" "I" (.int 0)) (g1 : n0 ≤ o3) : own_Met l Y29 jdk_2101_method_57_code 8 (some (.object "java/math/MutableBigInteger")) ⟨0, 0, 0, 0⟩ ws #[(.ref o1), (.ref o2), (.ref o3), (.int 0)] Z h0 (Q_dkZ Z o1 o2 o3 h0 n0) := by
 refine own_go (plainFor_of_name pn_java_math_MutableBigInteger) (fun m => ef29_RRRI m o1 o2 o3 (0 : Int32)) fun p e s m below meth c s₁ hx hby hml hown hnm hret hZ e0 X0 => ?_
 have N0 := Fr.nil n0
 obtain ⟨T1_, X1_, e1_, st1_⟩ := own_gN (pc := 0) (Ls := #[rv o1, rv o2, rv o3, iv 0, .unset, .unset, .unset, .unset]) (stk := []) X0 hx hZ hown (wt hw 50 rfl) e0 Fl2 hby (D29 0) (D29 1) rfl
 obtain ⟨T2_, X2_, e2_, st2_⟩ := own_gN (pc := 17) (Ls := #[rv o1, rv o2, rv o3, iv 0, .unset, .unset, .unset, .unset]) (stk := []) X1_ hx hZ hown (wt hw 50 rfl) e1_ Fl1 hby (D29 3) (D29 4) rfl
 obtain ⟨T3_, h3_, X3_, e3_, W3_, w3_, N3_, st3_⟩ := own_pf (pc := 28) (Ls := #[rv o1, rv o2, rv o3, iv 0, .unset, .unset, .unset, .unset]) (stk := [(.int 0), (.ref o3), (.int 0), (.ref o3)]) X2_ hx hZ hown (wt hw 47 rfl) e2_ X4 X1 (Or.inl (wt hw 48 rfl)) (wt hw 40 rfl) (ty := .int) (by decide) rfl rfl N0 g1 hby (D29 10) rfl
 have f4_ := X1.wr W3_
 have f5_ := X3.other W3_ (Or.inr (slot_ne (Or.inl (wt hw 51 rfl)) (Or.inl (wt hw 48 rfl)) (by decide) (t := .int) (t' := .int) (by decide) (by decide)))
 obtain ⟨T6_, h6_, X6_, e6_, W6_, w6_, N6_, st6_⟩ := own_pf (pc := 31) (Ls := #[rv o1, rv o2, rv o3, iv 0, .unset, .unset, .unset, .unset]) (stk := [(.int 0), (.ref o3)]) X3_ hx hZ hown (wt hw 50 rfl) e3_ f5_ f4_ (Or.inl (wt hw 51 rfl)) (wt hw 40 rfl) (ty := .int) (by decide) rfl rfl N3_ g1 hby (D29 11) rfl
 have k7_ := (Keep.refl h0 [o3]).wr W3_ (own_in 0 rfl)
 have k8_ := k7_.wr W6_ (own_in 0 rfl)
 refine ⟨_, _, _, _, some .null, X6_, (by exact own_b rfl), (by exact own_b rfl), nofun, (by show Q_dkZ Z o1 o2 o3 h0 n0 _ T6_.heap _; rw [e6_]; exact ⟨rfl, N6_, k8_, w6_⟩), fun fs hr => ?_⟩
 refine st1_ _ ?_
 refine kfY X1_ hx (pc0 := 4) (pc' := 17) rfl hby (D29 2) ((if0 _ _).trans (feq ((by decide) : ¬ ((1 : Int32) = (0 : Int32)))).2) (by decide) (by decide) ?_
 refine st2_ _ ?_
 refine kfN X2_ hx hby (D29 5) ((if0 _ _).trans (teq ((by decide) : (0 : Int32) = (0 : Int32))).2) ?_
 refine kaN X2_ hx hby (D29 6) rfl rfl ?_
 refine kaN X2_ hx hby (D29 7) rfl rfl ?_
 refine kc X2_ hx hby (D29 8) ?_
 refine kdupX1 X2_ hx hby (D29 9) rfl rfl ?_
 refine st3_ _ ?_
 refine st6_ _ ?_
 refine kiN X6_ hx hby (D29 12) rfl ?_
 refine kfY X6_ hx (pc0 := 35) (pc' := 48) rfl hby (D29 13) ((if0 _ _).trans (teq ((by decide) : (0 : Int32) = (0 : Int32))).1) (by decide) (by decide) ?_
 refine kaconstNull X6_ hx hby (D29 14) ?_
 exact retR X6_ hx hret rfl rfl rfl (hb hby (D29 15)) hr
theorem pd15 : parseMethodDescriptor "(ILjava/math/MutableBigInteger;)I" = some ⟨[.int, (.object "java/math/MutableBigInteger")], some .int⟩ := by decide +kernel
def Q_rmDk (Z : State) (o1 : Addr) (o2 : Addr) (o3 : Addr) (a1 : Addr) (k1 : ClassId) (n1 : Nat) (a2 : Addr) (k2 : ClassId) (d1 : Int32) (a3 : Addr) (k3 : ClassId) (b0 : Nat) (q1 : Nat) (h0 : Heap) (n0 : Nat) (v : Option Value) (h : Heap) (L : List Loc) : Prop := ∃ (t1 : Addr), v = some .null ∧ Fr n0 L ∧ Keep h0 h [o3, a3] ∧ (own_MB Z h o3 t1 q1) ∧ (b0 ≤ t1)
theorem dkE (l : Launch) (Z : State) (a0 : Array Value) (hw : own_W Z a0) (ws : List Jvm.Cond) (o1 : Addr) (o2 : Addr) (o3 : Addr) (a1 : Addr) (k1 : ClassId) (x1 : Int32) (a2 : Addr) (k2 : ClassId) (a3 : Addr) (k3 : ClassId) (b0 : Nat) (q1 : Nat) (h0 : Heap) (n0 : Nat) (Z0 : n0 ≤ h0.size) (S1 : own_SH Z h0 o1 a1 (1 : Int32) (0 : Int32) k1 (1 : Int32) [(.int x1)]) (S2 : own_SH Z h0 o2 a2 (1 : Int32) (0 : Int32) k2 (1 : Int32) [(.int x1)]) (S3 : own_SH Z h0 o3 a3 (0 : Int32) (0 : Int32) k3 (1 : Int32) [(.int 0)]) (g1 : n0 ≤ o3) (g2 : n0 ≤ a3) (n13 : o1 ≠ o3) (n23 : o2 ≠ o3) (a13 : a1 ≠ a3) (a23 : a2 ≠ a3) (bA : b0 ≤ a3) (bH : b0 ≤ h0.size) (q1e : own_u (1 : Int32) = q1) : own_Met l Y29 jdk_2101_method_57_code 8 (some (.object "java/math/MutableBigInteger")) ⟨2, 1, 2, 41⟩ ws #[(.ref o1), (.ref o2), (.ref o3), (.int 0)] Z h0 (Q_rmDk Z o1 o2 o3 a1 k1 n1 a2 k2 d1 a3 k3 b0 q1 h0 n0) := by
 refine own_go (plainFor_of_name pn_java_math_MutableBigInteger) (fun m => ef29_RRRI m o1 o2 o3 (0 : Int32)) fun p e s m below meth c s₁ hx hby hml hown hnm hret hZ e0 X0 => ?_
 have N0 := Fr.nil n0
 obtain ⟨T1_, X1_, e1_, st1_⟩ := own_gN (pc := 0) (Ls := #[rv o1, rv o2, rv o3, iv 0, .unset, .unset, .unset, .unset]) (stk := []) X0 hx hZ hown (wt hw 50 rfl) e0 S2.2.2.2.1 hby (D29 0) (D29 1) rfl
 obtain ⟨T2_, X2_, e2_, st2_⟩ := own_gN (pc := 17) (Ls := #[rv o1, rv o2, rv o3, iv 0, .unset, .unset, .unset, .unset]) (stk := []) X1_ hx hZ hown (wt hw 50 rfl) e1_ S1.2.2.2.1 hby (D29 3) (D29 4) rfl
 obtain ⟨T3_, Lc3_, v3_, X3_, hQ3_, st3_⟩ := own_cV (y := Y30) X2_ hx hZ hown (wt hw 161 rfl) (wt hw 163 rfl) (wt hw 164 rfl) (wt hw 165 rfl) (wt hw 41 rfl) (by decide) (cmE l Z a0 hw [] o1 o2 a1 k1 x1 a2 k2 h0 n0 Z0 ⟨S1.1, S1.2.1, S1.2.2.1, S1.2.2.2.1, S1.2.2.2.2.1, S1.2.2.2.2.2⟩ ⟨S2.1, S2.2.1, S2.2.2.1, S2.2.2.2.1, S2.2.2.2.2.1, S2.2.2.2.2.2⟩) S1.1 e2_ (pc := 52) (Ls := #[rv o1, rv o2, rv o3, iv 0, .unset, .unset, .unset, .unset]) (stk := [(.ref o2), (.ref o1)]) (rest := []) (by rw [hml]; rfl) pd2 rfl rfl (W := 0) rfl hby (D29 18) (by decide) (by decide) (by exact own_b rfl) (by exact own_b rfl)
 obtain ⟨rfl, Nq3_, ek3_⟩ := hQ3_
 have N3_ := Fr.app N0 Nq3_
 obtain ⟨T4_, X4_, e4_, st4_⟩ := own_gN (pc := 94) (Ls := #[rv o1, rv o2, rv o3, iv 0, iv 0, .unset, .unset, .unset]) (stk := []) X3_ hx hZ hown (wt hw 65 rfl) ek3_ S3.2.2.1 hby (D29 24) (D29 25) rfl
 obtain ⟨T5_, h5_, X5_, e5_, W5_, w5_, N5_, st5_⟩ := own_pf (pc := 102) (Ls := #[rv o1, rv o2, rv o3, iv 0, iv 0, .unset, .unset, .unset]) (stk := [(.int 1), (.ref o3), (.int 1), (.int 0), (.ref a3)]) X4_ hx hZ hown (wt hw 50 rfl) e4_ S3.2.2.2.1 S3.1 (Or.inl (wt hw 51 rfl)) (wt hw 40 rfl) (ty := .int) (by decide) rfl rfl N3_ g1 hby (D29 30) rfl
 have f6_ := S3.2.2.2.2.2.other W5_ (ne_exa S3.2.1 S3.1 (by decide))
 obtain ⟨T7_, h7_, X7_, e7_, W7_, v7_, N7_, st7_⟩ := own_si (pc := 105) (Ls := #[rv o1, rv o2, rv o3, iv 0, iv 0, .unset, .unset, .unset]) (stk := [(.int 1), (.int 0), (.ref a3)]) X5_ hx hZ e5_ f6_ ⟨by decide, by decide⟩ 0 rfl (Nat.le_of_ble_eq_true rfl) N5_ g2 hby (D29 31) rfl
 have f8_ := (S3.1.wr W5_).wr W7_
 have f9_ := (S3.2.2.2.2.1.other W5_ (Or.inr (slot_ne (Or.inl (wt hw 48 rfl)) (Or.inl (wt hw 51 rfl)) (by decide) (t := .int) (t' := .int) (by decide) (by decide)))).other W7_ (Or.inl (ne_exa (S3.1.wr W5_) (S3.2.1.wr W5_) (by decide)))
 obtain ⟨T10_, h10_, X10_, e10_, W10_, w10_, N10_, st10_⟩ := own_pf (pc := 108) (Ls := #[rv o1, rv o2, rv o3, iv 0, iv 0, .unset, .unset, .unset]) (stk := [(.int 0), (.ref o3)]) X7_ hx hZ hown (wt hw 47 rfl) e7_ f9_ f8_ (Or.inl (wt hw 48 rfl)) (wt hw 40 rfl) (ty := .int) (by decide) rfl rfl N7_ g1 hby (D29 34) rfl
 have f11_ := f8_.wr W10_
 have f12_ := ((S3.2.1.wr W5_).wr W7_).wr W10_
 have f13_ := ((S3.2.2.1.other W5_ (Or.inr (slot_ne (Or.inl (wt hw 66 rfl)) (Or.inl (wt hw 51 rfl)) (by decide) (t := (.array .int)) (t' := .int) (by decide) (by decide)))).other W7_ (Or.inl (ne_exa (S3.1.wr W5_) (S3.2.1.wr W5_) (by decide)))).other W10_ (Or.inr (slot_ne (Or.inl (wt hw 66 rfl)) (Or.inl (wt hw 48 rfl)) (by decide) (t := (.array .int)) (t' := .int) (by decide) (by decide)))
 have f14_ := (w5_.other W7_ (Or.inl (ne_exa (S3.1.wr W5_) (S3.2.1.wr W5_) (by decide)))).other W10_ (Or.inr (slot_ne (Or.inl (wt hw 51 rfl)) (Or.inl (wt hw 48 rfl)) (by decide) (t := .int) (t' := .int) (by decide) (by decide)))
 have f15_ := v7_.other W10_ (ne_exa ((S3.2.1.wr W5_).wr W7_) f8_ (by decide))
 have mb_ : own_MB Z h10_ o3 a3 q1 := own_MB.mkB ⟨f11_, f12_, f13_, f14_, w10_, f15_⟩ (Or.inl ⟨rfl, rfl, rfl⟩) q1e (by rw [← q1e]; decide)
 have k16_ := (Keep.refl h0 [o3, a3]).wr W5_ (own_in 0 rfl)
 have k17_ := k16_.wr W7_ (own_in 1 rfl)
 have k18_ := k17_.wr W10_ (own_in 0 rfl)
 refine ⟨_, _, _, _, some .null, X10_, (by exact own_b rfl), (by exact own_b rfl), nofun, (by show Q_rmDk Z o1 o2 o3 a1 k1 n1 a2 k2 d1 a3 k3 b0 q1 h0 n0 _ T10_.heap _; rw [e10_]; exact ⟨a3, rfl, N10_, k18_, mb_, bA⟩), fun fs hr => ?_⟩
 refine st1_ _ ?_
 refine kfY X1_ hx (pc0 := 4) (pc' := 17) rfl hby (D29 2) ((if0 _ _).trans (feq ((by decide) : ¬ ((1 : Int32) = (0 : Int32)))).2) (by decide) (by decide) ?_
 refine st2_ _ ?_
 refine kfY X2_ hx (pc0 := 21) (pc' := 50) rfl hby (D29 5) ((if0 _ _).trans (feq ((by decide) : ¬ ((1 : Int32) = (0 : Int32)))).2) (by decide) (by decide) ?_
 refine kaN X2_ hx hby (D29 16) rfl rfl ?_
 refine kaN X2_ hx hby (D29 17) rfl rfl ?_
 refine st3_ _ ?_
 refine ks X3_ hx hby (D29 19) (l' := #[rv o1, rv o2, rv o3, iv 0, iv 0, .unset, .unset, .unset]) rfl ?_
 refine ki X3_ hx hby (D29 20) rfl ?_
 refine kfY X3_ hx (pc0 := 59) (pc' := 89) rfl hby (D29 21) ((if0 _ _).trans (flt ((by decide) : ¬ ((0 : Int32) < (0 : Int32)))).2.1) (by decide) (by decide) ?_
 refine ki X3_ hx hby (D29 22) rfl ?_
 refine kfN X3_ hx hby (D29 23) ((if0 _ _).trans (teq ((by decide) : (0 : Int32) = (0 : Int32))).2) ?_
 refine st4_ _ ?_
 refine kc X4_ hx hby (D29 26) ?_
 refine kaN X4_ hx hby (D29 27) rfl rfl ?_
 refine kc X4_ hx hby (D29 28) ?_
 refine kdupX1 X4_ hx hby (D29 29) rfl rfl ?_
 refine st5_ _ ?_
 refine st7_ _ ?_
 refine kaN X7_ hx hby (D29 32) rfl rfl ?_
 refine kc X7_ hx hby (D29 33) ?_
 refine st10_ _ ?_
 refine kiN X10_ hx hby (D29 35) rfl ?_
 refine kfY X10_ hx (pc0 := 112) (pc' := 125) rfl hby (D29 36) ((if0 _ _).trans (teq ((by decide) : (0 : Int32) = (0 : Int32))).1) (by decide) (by decide) ?_
 refine kaconstNull X10_ hx hby (D29 37) ?_
 exact retR X10_ hx hret rfl rfl rfl (hb hby (D29 38)) hr
theorem dkG (l : Launch) (Z : State) (a0 : Array Value) (hw : own_W Z a0) (ws : List Jvm.Cond) (o1 : Addr) (o2 : Addr) (o3 : Addr) (a1 : Addr) (k1 : ClassId) (x1 : Int32) (a2 : Addr) (k2 : ClassId) (d1 : Int32) (a3 : Addr) (k3 : ClassId) (q7 : Int32) (b0 : Nat) (q1 : Nat) (h0 : Heap) (n0 : Nat) (Z0 : n0 ≤ h0.size) (S1 : own_SH Z h0 o1 a1 (1 : Int32) (0 : Int32) k1 (1 : Int32) [(.int x1)]) (S2 : own_SH Z h0 o2 a2 (1 : Int32) (0 : Int32) k2 (1 : Int32) [(.int d1)]) (S3 : own_SH Z h0 o3 a3 (0 : Int32) (0 : Int32) k3 (1 : Int32) [(.int 0)]) (g1 : n0 ≤ o3) (g2 : n0 ≤ a3) (n13 : o1 ≠ o3) (n23 : o2 ≠ o3) (a13 : a1 ≠ a3) (a23 : a2 ≠ a3) (bA : b0 ≤ a3) (bH : b0 ≤ h0.size) (gu : own_u d1 < own_u x1) (nd : ¬ ((d1.toInt64 &&& (4294967295 : Int64)) = (0 : Int64))) (e7 : (((x1.toInt64 &&& (4294967295 : Int64)) / (d1.toInt64 &&& (4294967295 : Int64))).toInt32) = q7) (nq : ¬ (q7 = (0 : Int32))) (u7 : own_u q7 = q1) (nz : q1 ≠ 0) : own_Met l Y29 jdk_2101_method_57_code 8 (some (.object "java/math/MutableBigInteger")) ⟨2, 1, 2, 41⟩ ws #[(.ref o1), (.ref o2), (.ref o3), (.int 0)] Z h0 (Q_rmDk Z o1 o2 o3 a1 k1 n1 a2 k2 d1 a3 k3 b0 q1 h0 n0) := by
 refine own_go (plainFor_of_name pn_java_math_MutableBigInteger) (fun m => ef29_RRRI m o1 o2 o3 (0 : Int32)) fun p e s m below meth c s₁ hx hby hml hown hnm hret hZ e0 X0 => ?_
 have N0 := Fr.nil n0
 obtain ⟨T1_, X1_, e1_, st1_⟩ := own_gN (pc := 0) (Ls := #[rv o1, rv o2, rv o3, iv 0, .unset, .unset, .unset, .unset]) (stk := []) X0 hx hZ hown (wt hw 50 rfl) e0 S2.2.2.2.1 hby (D29 0) (D29 1) rfl
 obtain ⟨T2_, X2_, e2_, st2_⟩ := own_gN (pc := 17) (Ls := #[rv o1, rv o2, rv o3, iv 0, .unset, .unset, .unset, .unset]) (stk := []) X1_ hx hZ hown (wt hw 50 rfl) e1_ S1.2.2.2.1 hby (D29 3) (D29 4) rfl
 obtain ⟨T3_, Lc3_, v3_, X3_, hQ3_, st3_⟩ := own_cV (y := Y30) X2_ hx hZ hown (wt hw 161 rfl) (wt hw 163 rfl) (wt hw 164 rfl) (wt hw 165 rfl) (wt hw 41 rfl) (by decide) (cm1 l Z a0 hw [] o1 o2 a1 k1 x1 a2 k2 d1 h0 n0 Z0 ⟨S1.1, S1.2.1, S1.2.2.1, S1.2.2.2.1, S1.2.2.2.2.1, S1.2.2.2.2.2⟩ ⟨S2.1, S2.2.1, S2.2.2.1, S2.2.2.2.1, S2.2.2.2.2.1, S2.2.2.2.2.2⟩ gu) S1.1 e2_ (pc := 52) (Ls := #[rv o1, rv o2, rv o3, iv 0, .unset, .unset, .unset, .unset]) (stk := [(.ref o2), (.ref o1)]) (rest := []) (by rw [hml]; rfl) pd2 rfl rfl (W := 0) rfl hby (D29 18) (by decide) (by decide) (by exact own_b rfl) (by exact own_b rfl)
 obtain ⟨rfl, Nq3_, ek3_⟩ := hQ3_
 have N3_ := Fr.app N0 Nq3_
 obtain ⟨T4_, Lc4_, v4_, X4_, hQ4_, st4_⟩ := own_cV (y := Y31) X3_ hx hZ hown (wt hw 166 rfl) (wt hw 168 rfl) (wt hw 169 rfl) (wt hw 170 rfl) (wt hw 41 rfl) (by decide) (rmCl l Z a0 hw [] o3 a3 k3 h0 n0 Z0 ⟨S3.1, S3.2.1, S3.2.2.1, S3.2.2.2.1, S3.2.2.2.2.1, S3.2.2.2.2.2⟩ g1 g2) S3.1 ek3_ (pc := 128) (Ls := #[rv o1, rv o2, rv o3, iv 0, iv 1, .unset, .unset, .unset]) (stk := [(.ref o3)]) (rest := []) (by rw [hml]; rfl) pd3 rfl rfl (W := 0) rfl hby (D29 40) (by decide) (by decide) (by exact own_b rfl) (by exact own_b rfl)
 obtain ⟨rfl, Nq4_, ek4_, p4__0, p4__1, p4__2, p4__3⟩ := hQ4_
 have N4_ := Fr.app N3_ Nq4_
 have f5_ := S2.2.2.2.1.keep ek4_ (ninS n23 (ninS (ne_exa S2.1 S3.2.1 (by decide)) nin0))
 obtain ⟨T6_, X6_, e6_, st6_⟩ := own_gN (pc := 131) (Ls := #[rv o1, rv o2, rv o3, iv 0, iv 1, .unset, .unset, .unset]) (stk := []) X4_ hx hZ hown (wt hw 50 rfl) rfl f5_ hby (D29 41) (D29 42) rfl
 have f7_ := S2.2.2.1.keep ek4_ (ninS n23 (ninS (ne_exa S2.1 S3.2.1 (by decide)) nin0))
 obtain ⟨T8_, X8_, e8_, st8_⟩ := own_gN (pc := 140) (Ls := #[rv o1, rv o2, rv o3, iv 0, iv 1, .unset, .unset, .unset]) (stk := [(.ref o1)]) X6_ hx hZ hown (wt hw 65 rfl) e6_ f7_ hby (D29 46) (D29 47) rfl
 have f9_ := S2.2.2.2.2.1.keep ek4_ (ninS n23 (ninS (ne_exa S2.1 S3.2.1 (by decide)) nin0))
 obtain ⟨T10_, X10_, e10_, st10_⟩ := own_gN (pc := 144) (Ls := #[rv o1, rv o2, rv o3, iv 0, iv 1, .unset, .unset, .unset]) (stk := [(.ref a2), (.ref o1)]) X8_ hx hZ hown (wt hw 47 rfl) e8_ f9_ hby (D29 48) (D29 49) rfl
 have f11_ := S2.2.2.2.2.2.keep ek4_ (ninS (ne_exa S2.2.1 S3.1 (by decide)) (ninS a23 nin0))
 have f13_ := S1.1.keep ek4_
 have f14_ := S1.2.1.keep ek4_
 have f15_ := S1.2.2.1.keep ek4_ (ninS n13 (ninS (ne_exa S1.1 S3.2.1 (by decide)) nin0))
 have f16_ := S1.2.2.2.1.keep ek4_ (ninS n13 (ninS (ne_exa S1.1 S3.2.1 (by decide)) nin0))
 have f17_ := S1.2.2.2.2.1.keep ek4_ (ninS n13 (ninS (ne_exa S1.1 S3.2.1 (by decide)) nin0))
 have f18_ := S1.2.2.2.2.2.keep ek4_ (ninS (ne_exa S1.2.1 S3.1 (by decide)) (ninS a13 nin0))
 have f19_ := S3.1.keep ek4_
 have f20_ := S3.2.1.keep ek4_
 have z21_ : n0 ≤ T4_.heap.size := Nat.le_trans Z0 ek4_.1
 obtain ⟨T12_, Lc12_, v12_, X12_, hQ12_, st12_⟩ := own_cV (y := Y32) X10_ hx hZ hown (wt hw 171 rfl) (wt hw 173 rfl) (wt hw 174 rfl) (wt hw 175 rfl) (wt hw 41 rfl) (by decide) (dw1 l Z a0 hw [] o1 d1 o3 a1 k1 x1 a3 k3 q7 q1 T4_.heap n0 z21_ ⟨f13_, f14_, f15_, f16_, f17_, f18_⟩ ⟨f19_, f20_, p4__0, p4__1, p4__2, p4__3⟩ g1 g2 n13 a13 nd e7 nq u7 nz) f13_ e10_ (pc := 150) (Ls := #[rv o1, rv o2, rv o3, iv 0, iv 1, .unset, .unset, .unset]) (stk := [(.ref o3), (.int d1), (.ref o1)]) (rest := []) (by rw [hml]; rfl) pd15 rfl rfl (W := 0) rfl hby (D29 52) (by decide) (by decide) (by exact own_b rfl) (by exact own_b rfl)
 obtain ⟨rfl, Nq12_, ek12_, p12__0⟩ := hQ12_
 have N12_ := Fr.app N4_ Nq12_
 have k22_ := (Keep.refl h0 [o3, a3]).trans ek4_ (allS (own_in 0 rfl) (allS (own_in 1 rfl) all0))
 have k23_ := k22_.trans ek12_ (allS (own_in 0 rfl) (allS (own_in 1 rfl) all0))
 refine ⟨_, _, _, _, some .null, X12_, (by exact own_b rfl), (by exact own_b rfl), nofun, (by show Q_rmDk Z o1 o2 o3 a1 k1 n1 a2 k2 d1 a3 k3 b0 q1 h0 n0 _ T12_.heap _; exact ⟨a3, rfl, N12_, k23_, p12__0, bA⟩), fun fs hr => ?_⟩
 refine st1_ _ ?_
 refine kfY X1_ hx (pc0 := 4) (pc' := 17) rfl hby (D29 2) ((if0 _ _).trans (feq ((by decide) : ¬ ((1 : Int32) = (0 : Int32)))).2) (by decide) (by decide) ?_
 refine st2_ _ ?_
 refine kfY X2_ hx (pc0 := 21) (pc' := 50) rfl hby (D29 5) ((if0 _ _).trans (feq ((by decide) : ¬ ((1 : Int32) = (0 : Int32)))).2) (by decide) (by decide) ?_
 refine kaN X2_ hx hby (D29 16) rfl rfl ?_
 refine kaN X2_ hx hby (D29 17) rfl rfl ?_
 refine st3_ _ ?_
 refine ks X3_ hx hby (D29 19) (l' := #[rv o1, rv o2, rv o3, iv 0, iv 1, .unset, .unset, .unset]) rfl ?_
 refine ki X3_ hx hby (D29 20) rfl ?_
 refine kfY X3_ hx (pc0 := 59) (pc' := 89) rfl hby (D29 21) ((if0 _ _).trans (flt ((by decide) : ¬ ((1 : Int32) < (0 : Int32)))).2.1) (by decide) (by decide) ?_
 refine ki X3_ hx hby (D29 22) rfl ?_
 refine kfY X3_ hx (pc0 := 91) (pc' := 127) rfl hby (D29 23) ((if0 _ _).trans (feq ((by decide) : ¬ ((1 : Int32) = (0 : Int32)))).2) (by decide) (by decide) ?_
 refine kaN X3_ hx hby (D29 39) rfl rfl ?_
 refine st4_ _ ?_
 refine st6_ _ ?_
 refine kc X6_ hx hby (D29 43) ?_
 refine kcN X6_ hx hby (D29 44) (teq ((by decide) : (1 : Int32) = (1 : Int32))).2 ?_
 refine kaN X6_ hx hby (D29 45) rfl rfl ?_
 refine st8_ _ ?_
 refine st10_ _ ?_
 refine own_ia X10_ hx hZ e10_ f11_ ⟨by decide, by decide⟩ rfl hby (D29 50) ?_
 refine kaN X10_ hx hby (D29 51) rfl rfl ?_
 refine st12_ _ ?_
 refine ks X12_ hx hby (D29 53) (l' := #[rv o1, rv o2, rv o3, iv 0, iv 1, iv ((((x1.toInt64) &&& (4294967295 : Int64)) - ((q7.toInt64) * ((d1.toInt64) &&& (4294967295 : Int64)))).toInt32), .unset, .unset]) rfl ?_
 refine kiN X12_ hx hby (D29 54) rfl ?_
 refine kfY X12_ hx (pc0 := 156) (pc' := 182) rfl hby (D29 55) ((if0 _ _).trans (teq ((by decide) : (0 : Int32) = (0 : Int32))).1) (by decide) (by decide) ?_
 refine kaconstNull X12_ hx hby (D29 56) ?_
 exact retR X12_ hx hret rfl rfl rfl (hb hby (D29 57)) hr
theorem dk2 (l : Launch) (Z : State) (a0 : Array Value) (hw : own_W Z a0) (ws : List Jvm.Cond) (o1 : Addr) (o2 : Addr) (o3 : Addr) (a1 : Addr) (k1 : ClassId) (hi1 : Int32) (lo1 : Int32) (a2 : Addr) (k2 : ClassId) (d1 : Int32) (a3 : Addr) (k3 : ClassId) (b0 : Nat) (q1 : Nat) (h0 : Heap) (n0 : Nat) (Z0 : n0 ≤ h0.size) (S1 : own_SH Z h0 o1 a1 (2 : Int32) (0 : Int32) k1 (2 : Int32) [(.int hi1), (.int lo1)]) (S2 : own_SH Z h0 o2 a2 (1 : Int32) (0 : Int32) k2 (1 : Int32) [(.int d1)]) (S3 : own_SH Z h0 o3 a3 (0 : Int32) (0 : Int32) k3 (1 : Int32) [(.int 0)]) (g1 : n0 ≤ o3) (g2 : n0 ≤ a3) (n13 : o1 ≠ o3) (n23 : o2 ≠ o3) (a13 : a1 ≠ a3) (a23 : a2 ≠ a3) (bA : b0 ≤ a3) (bH : b0 ≤ h0.size) (d0 : ¬ (d1 = (0 : Int32))) (db : own_u d1 < 2147483648) (hn : own_u hi1 * 4294967296 + own_u lo1 = q1 * own_u d1) (nz : q1 ≠ 0) : own_Met l Y29 jdk_2101_method_57_code 8 (some (.object "java/math/MutableBigInteger")) ⟨2, 1, 2, 41⟩ ws #[(.ref o1), (.ref o2), (.ref o3), (.int 0)] Z h0 (Q_rmDk Z o1 o2 o3 a1 k1 n1 a2 k2 d1 a3 k3 b0 q1 h0 n0) := by
 refine own_go (plainFor_of_name pn_java_math_MutableBigInteger) (fun m => ef29_RRRI m o1 o2 o3 (0 : Int32)) fun p e s m below meth c s₁ hx hby hml hown hnm hret hZ e0 X0 => ?_
 have N0 := Fr.nil n0
 obtain ⟨T1_, X1_, e1_, st1_⟩ := own_gN (pc := 0) (Ls := #[rv o1, rv o2, rv o3, iv 0, .unset, .unset, .unset, .unset]) (stk := []) X0 hx hZ hown (wt hw 50 rfl) e0 S2.2.2.2.1 hby (D29 0) (D29 1) rfl
 obtain ⟨T2_, X2_, e2_, st2_⟩ := own_gN (pc := 17) (Ls := #[rv o1, rv o2, rv o3, iv 0, .unset, .unset, .unset, .unset]) (stk := []) X1_ hx hZ hown (wt hw 50 rfl) e1_ S1.2.2.2.1 hby (D29 3) (D29 4) rfl
 obtain ⟨T3_, Lc3_, v3_, X3_, hQ3_, st3_⟩ := own_cV (y := Y30) X2_ hx hZ hown (wt hw 161 rfl) (wt hw 163 rfl) (wt hw 164 rfl) (wt hw 165 rfl) (wt hw 41 rfl) (by decide) (cm21 l Z a0 hw [] o1 o2 h0 n0 Z0 S1.2.2.2.1 S2.2.2.2.1) S1.1 e2_ (pc := 52) (Ls := #[rv o1, rv o2, rv o3, iv 0, .unset, .unset, .unset, .unset]) (stk := [(.ref o2), (.ref o1)]) (rest := []) (by rw [hml]; rfl) pd2 rfl rfl (W := 0) rfl hby (D29 18) (by decide) (by decide) (by exact own_b rfl) (by exact own_b rfl)
 obtain ⟨rfl, Nq3_, ek3_⟩ := hQ3_
 have N3_ := Fr.app N0 Nq3_
 obtain ⟨T4_, Lc4_, v4_, X4_, hQ4_, st4_⟩ := own_cV (y := Y31) X3_ hx hZ hown (wt hw 166 rfl) (wt hw 168 rfl) (wt hw 169 rfl) (wt hw 170 rfl) (wt hw 41 rfl) (by decide) (rmCl l Z a0 hw [] o3 a3 k3 h0 n0 Z0 ⟨S3.1, S3.2.1, S3.2.2.1, S3.2.2.2.1, S3.2.2.2.2.1, S3.2.2.2.2.2⟩ g1 g2) S3.1 ek3_ (pc := 128) (Ls := #[rv o1, rv o2, rv o3, iv 0, iv 1, .unset, .unset, .unset]) (stk := [(.ref o3)]) (rest := []) (by rw [hml]; rfl) pd3 rfl rfl (W := 0) rfl hby (D29 40) (by decide) (by decide) (by exact own_b rfl) (by exact own_b rfl)
 obtain ⟨rfl, Nq4_, ek4_, p4__0, p4__1, p4__2, p4__3⟩ := hQ4_
 have N4_ := Fr.app N3_ Nq4_
 have f5_ := S2.2.2.2.1.keep ek4_ (ninS n23 (ninS (ne_exa S2.1 S3.2.1 (by decide)) nin0))
 obtain ⟨T6_, X6_, e6_, st6_⟩ := own_gN (pc := 131) (Ls := #[rv o1, rv o2, rv o3, iv 0, iv 1, .unset, .unset, .unset]) (stk := []) X4_ hx hZ hown (wt hw 50 rfl) rfl f5_ hby (D29 41) (D29 42) rfl
 have f7_ := S2.2.2.1.keep ek4_ (ninS n23 (ninS (ne_exa S2.1 S3.2.1 (by decide)) nin0))
 obtain ⟨T8_, X8_, e8_, st8_⟩ := own_gN (pc := 140) (Ls := #[rv o1, rv o2, rv o3, iv 0, iv 1, .unset, .unset, .unset]) (stk := [(.ref o1)]) X6_ hx hZ hown (wt hw 65 rfl) e6_ f7_ hby (D29 46) (D29 47) rfl
 have f9_ := S2.2.2.2.2.1.keep ek4_ (ninS n23 (ninS (ne_exa S2.1 S3.2.1 (by decide)) nin0))
 obtain ⟨T10_, X10_, e10_, st10_⟩ := own_gN (pc := 144) (Ls := #[rv o1, rv o2, rv o3, iv 0, iv 1, .unset, .unset, .unset]) (stk := [(.ref a2), (.ref o1)]) X8_ hx hZ hown (wt hw 47 rfl) e8_ f9_ hby (D29 48) (D29 49) rfl
 have f11_ := S2.2.2.2.2.2.keep ek4_ (ninS (ne_exa S2.2.1 S3.1 (by decide)) (ninS a23 nin0))
 have f13_ := S1.1.keep ek4_
 have f14_ := S1.2.1.keep ek4_
 have f15_ := S1.2.2.1.keep ek4_ (ninS n13 (ninS (ne_exa S1.1 S3.2.1 (by decide)) nin0))
 have f16_ := S1.2.2.2.1.keep ek4_ (ninS n13 (ninS (ne_exa S1.1 S3.2.1 (by decide)) nin0))
 have f17_ := S1.2.2.2.2.1.keep ek4_ (ninS n13 (ninS (ne_exa S1.1 S3.2.1 (by decide)) nin0))
 have f18_ := S1.2.2.2.2.2.keep ek4_ (ninS (ne_exa S1.2.1 S3.1 (by decide)) (ninS a13 nin0))
 have f19_ := S3.1.keep ek4_
 have f20_ := S3.2.1.keep ek4_
 have z21_ : n0 ≤ T4_.heap.size := Nat.le_trans Z0 ek4_.1
 obtain ⟨T12_, Lc12_, v12_, X12_, hQ12_, st12_⟩ := own_cV (y := Y32) X10_ hx hZ hown (wt hw 171 rfl) (wt hw 173 rfl) (wt hw 174 rfl) (wt hw 175 rfl) (wt hw 41 rfl) (by decide) (rmDw l Z a0 hw [] o1 d1 o3 a1 k1 hi1 lo1 a3 k3 q1 T4_.heap n0 z21_ ⟨f13_, f14_, f15_, f16_, f17_, f18_⟩ ⟨f19_, f20_, p4__0, p4__1, p4__2, p4__3⟩ g1 g2 n13 a13 d0 db hn nz) f13_ e10_ (pc := 150) (Ls := #[rv o1, rv o2, rv o3, iv 0, iv 1, .unset, .unset, .unset]) (stk := [(.ref o3), (.int d1), (.ref o1)]) (rest := []) (by rw [hml]; rfl) pd15 rfl rfl (W := 0) rfl hby (D29 52) (by decide) (by decide) (by exact own_b rfl) (by exact own_b rfl)
 obtain ⟨t1_12_, rv9_12_, rfl, Nq12_, ek12_, p12__0, p12__1⟩ := hQ12_
 have N12_ := Fr.app N4_ Nq12_
 have k22_ := (Keep.refl h0 [o3, a3]).trans ek4_ (allS (own_in 0 rfl) (allS (own_in 1 rfl) all0))
 have k23_ := k22_.trans ek12_ (allS (own_in 0 rfl) (allS (own_in 1 rfl) all0))
 refine ⟨_, _, _, _, some .null, X12_, (by exact own_b rfl), (by exact own_b rfl), nofun, (by show Q_rmDk Z o1 o2 o3 a1 k1 n1 a2 k2 d1 a3 k3 b0 q1 h0 n0 _ T12_.heap _; exact ⟨t1_12_, rfl, N12_, k23_, p12__0, (Nat.le_trans bH (Nat.le_trans k22_.1 p12__1))⟩), fun fs hr => ?_⟩
 refine st1_ _ ?_
 refine kfY X1_ hx (pc0 := 4) (pc' := 17) rfl hby (D29 2) ((if0 _ _).trans (feq ((by decide) : ¬ ((1 : Int32) = (0 : Int32)))).2) (by decide) (by decide) ?_
 refine st2_ _ ?_
 refine kfY X2_ hx (pc0 := 21) (pc' := 50) rfl hby (D29 5) ((if0 _ _).trans (feq ((by decide) : ¬ ((2 : Int32) = (0 : Int32)))).2) (by decide) (by decide) ?_
 refine kaN X2_ hx hby (D29 16) rfl rfl ?_
 refine kaN X2_ hx hby (D29 17) rfl rfl ?_
 refine st3_ _ ?_
 refine ks X3_ hx hby (D29 19) (l' := #[rv o1, rv o2, rv o3, iv 0, iv 1, .unset, .unset, .unset]) rfl ?_
 refine ki X3_ hx hby (D29 20) rfl ?_
 refine kfY X3_ hx (pc0 := 59) (pc' := 89) rfl hby (D29 21) ((if0 _ _).trans (flt ((by decide) : ¬ ((1 : Int32) < (0 : Int32)))).2.1) (by decide) (by decide) ?_
 refine ki X3_ hx hby (D29 22) rfl ?_
 refine kfY X3_ hx (pc0 := 91) (pc' := 127) rfl hby (D29 23) ((if0 _ _).trans (feq ((by decide) : ¬ ((1 : Int32) = (0 : Int32)))).2) (by decide) (by decide) ?_
 refine kaN X3_ hx hby (D29 39) rfl rfl ?_
 refine st4_ _ ?_
 refine st6_ _ ?_
 refine kc X6_ hx hby (D29 43) ?_
 refine kcN X6_ hx hby (D29 44) (teq ((by decide) : (1 : Int32) = (1 : Int32))).2 ?_
 refine kaN X6_ hx hby (D29 45) rfl rfl ?_
 refine st8_ _ ?_
 refine st10_ _ ?_
 refine own_ia X10_ hx hZ e10_ f11_ ⟨by decide, by decide⟩ rfl hby (D29 50) ?_
 refine kaN X10_ hx hby (D29 51) rfl rfl ?_
 refine st12_ _ ?_
 refine ks X12_ hx hby (D29 53) (l' := #[rv o1, rv o2, rv o3, iv 0, iv 1, iv rv9_12_, .unset, .unset]) rfl ?_
 refine kiN X12_ hx hby (D29 54) rfl ?_
 refine kfY X12_ hx (pc0 := 156) (pc' := 182) rfl hby (D29 55) ((if0 _ _).trans (teq ((by decide) : (0 : Int32) = (0 : Int32))).1) (by decide) (by decide) ?_
 refine kaconstNull X12_ hx hby (D29 56) ?_
 exact retR X12_ hx hret rfl rfl rfl (hb hby (D29 57)) hr
theorem rmDk (l : Launch) (Z : State) (a0 : Array Value) (hw : own_W Z a0) (ws : List Jvm.Cond) (o1 : Addr) (o2 : Addr) (o3 : Addr) (a1 : Addr) (k1 : ClassId) (n1 : Nat) (a2 : Addr) (k2 : ClassId) (d1 : Int32) (a3 : Addr) (k3 : ClassId) (b0 : Nat) (q1 : Nat) (h0 : Heap) (n0 : Nat) (Z0 : n0 ≤ h0.size) (S1 : own_SH Z h0 o1 a1 (own_len n1) (0 : Int32) k1 (own_len n1) (own_mag n1)) (S2 : own_SH Z h0 o2 a2 (1 : Int32) (0 : Int32) k2 (1 : Int32) [(.int d1)]) (S3 : own_SH Z h0 o3 a3 (0 : Int32) (0 : Int32) k3 (1 : Int32) [(.int 0)]) (g1 : n0 ≤ o3) (g2 : n0 ≤ a3) (n13 : o1 ≠ o3) (n23 : o2 ≠ o3) (a13 : a1 ≠ a3) (a23 : a2 ≠ a3) (bA : b0 ≤ a3) (bH : b0 ≤ h0.size) (d0 : ¬ (d1 = (0 : Int32))) (db : own_u d1 < 2147483648) (hn : n1 = q1 * own_u d1) (nz : n1 ≠ 0) (nb : n1 < 18446744073709551616) :
    own_Met l Y29 jdk_2101_method_57_code 8 (some (.object "java/math/MutableBigInteger")) ⟨2, 1, 2, 41⟩ ws #[(.ref o1), (.ref o2), (.ref o3), (.int 0)] Z h0 (Q_rmDk Z o1 o2 o3 a1 k1 n1 a2 k2 d1 a3 k3 b0 q1 h0 n0) := by
  have qz : q1 ≠ 0 := fun q => nz (by rw [hn, q, Nat.zero_mul])
  have dz : own_u d1 ≠ 0 := fun q => d0 (own_u0.mp q)
  by_cases c : n1 < 4294967296
  · rw [own_len1 nz c, own_mag1 nz c] at S1
    have eu : own_u (own_w n1) = n1 := by rw [own_u_w]; omega
    by_cases c2 : own_w n1 = d1
    · subst c2
      exact dkE l Z a0 hw ws _ _ _ _ _ _ _ _ _ _ _ _ h0 n0 Z0 S1 S2 S3 g1 g2 n13 n23 a13 a23 bA bH (show own_u (1 : Int32) = q1 from by rw [eu] at hn dz; have : n1 * 1 = n1 * q1 := (by rw [Nat.mul_one, Nat.mul_comm]; exact hn); exact Nat.eq_of_mul_eq_mul_left (Nat.pos_of_ne_zero nz) this)
    · have gu : own_u d1 < own_u (own_w n1) := by
        rw [eu]; apply Nat.lt_of_le_of_ne
        · rw [hn]; exact Nat.le_mul_of_pos_left _ (Nat.pos_of_ne_zero qz)
        · intro q; exact c2 (own_u_inj (by rw [eu]; exact q.symm))
      have q := own_dw1 (x := own_w n1) (d := d1) (q := q1) (by rw [eu]; exact hn) d0
      exact dkG l Z a0 hw ws _ _ _ _ _ _ _ _ _ _ _ _ _ _ h0 n0 Z0 S1 S2 S3 g1 g2 n13 n23 a13 a23 bA bH gu (own_Lnz d0) rfl (fun z => qz (by rw [← q]; exact own_u0.mpr z)) q qz
  · rw [own_len2 (by omega), own_mag2 (by omega)] at S1
    exact dk2 l Z a0 hw ws _ _ _ _ _ _ _ _ _ _ _ _ _ _ h0 n0 Z0 S1 S2 S3 g1 g2 n13 n23 a13 a23 bA bH d0 db (by rw [own_u_w, own_u_w, ← hn]; omega) qz
theorem pd16 : parseMethodDescriptor "([I)V" = some ⟨[(.array .int)], none⟩ := by decide +kernel
theorem pd17 : parseMethodDescriptor "(Ljava/math/MutableBigInteger;Ljava/math/MutableBigInteger;Z)Ljava/math/MutableBigInteger;" = some ⟨[(.object "java/math/MutableBigInteger"), (.object "java/math/MutableBigInteger"), .boolean], some (.object "java/math/MutableBigInteger")⟩ := by decide +kernel
def Q_rmBk (Z : State) (x1 : Addr) (x2 : Addr) (a1 : Addr) (m1 : Int) (a2 : Addr) (m2 : Int) (qi : Int) (zo : Addr) (za : Addr) (h0 : Heap) (n0 : Nat) (v : Option Value) (h : Heap) (L : List Loc) : Prop := ∃ (xb : Addr) (tb : Addr), v = some (.ref xb) ∧ Fr n0 L ∧ Keep h0 h [] ∧ (own_BI Z h xb tb qi)
abbrev Y27 : MethodName := ⟨"java/math/BigInteger", "divideKnuth", "(Ljava/math/BigInteger;)Ljava/math/BigInteger;"⟩
theorem ef27_RR (m : MethodId) (x0 : Addr) (x1 : Addr) : entryFrame m #[(.ref x0), (.ref x1)] 5 = mkF m 0 #[rv x0, rv x1, .unset, .unset, .unset] [] := by first | (simp [entryFrame, mkF, argsToLocals, Value.category]; done) | rfl
theorem bkZ (l : Launch) (Z : State) (a0 : Array Value) (hw : own_W Z a0) (ws : List Jvm.Cond) (x1 : Addr) (x2 : Addr) (a1 : Addr) (m1 : Int) (a2 : Addr) (m2 : Int) (qi : Int) (zo : Addr) (za : Addr) (h0 : Heap) (n0 : Nat) (Z0 : n0 ≤ h0.size) (B1 : own_BI Z h0 x1 a1 m1) (B2 : own_BI Z h0 x2 a2 m2) (gz : m2.natAbs ≠ 0) (gb : m2.natAbs < 2147483648) (mq : m1 = qi * m2) (mb : m1.natAbs < 18446744073709551616) (T0 : Sta Z Z.heap "java/math/BigInteger" "ZERO" "Ljava/math/BigInteger;" (.ref zo)) (O1 : Old Z n0 h0) (BZ : own_BI Z Z.heap zo za (0 : Int)) (m0 : m1 = 0) : own_Met l Y27 jdk_2097_method_62_code 5 (some (.object "java/math/BigInteger")) ⟨5, 7, 19, 76⟩ ws #[(.ref x1), (.ref x2)] Z h0 (Q_rmBk Z x1 x2 a1 m1 a2 m2 qi zo za h0 n0) := by
 refine own_go (plainFor_of_name pn_java_math_BigInteger) (fun m => ef27_RR m x1 x2) fun p e s m below meth c s₁ hx hby hml hown hnm hret hZ e0 X0 => ?_
 have N0 := Fr.nil n0
 obtain ⟨kq1, Vq1⟩ := B1.2.2.2.2
 obtain ⟨kq2, Vq2⟩ := B2.2.2.2.2
 rw [own_len1 gz (by omega), own_mag1 gz (by omega)] at Vq2
 rw [m0] at Vq1
 obtain ⟨T1_, h1_, X1_, e1_, E1_, A1_, D1_, U1_, st1_⟩ := newO X0 hx hZ hown (wt hw 39 rfl) (wt hw 40 rfl) (wt hw 41 rfl) e0 (g := (mkF m 0 #[rv x1, rv x2, .unset, .unset, .unset] [])) rfl (hb hby (D27 0)) (by exact own_b rfl) (by exact own_b rfl)
 obtain ⟨b1_, g1_⟩ : ∃ z, z = h0.size := ⟨_, rfl⟩
 rw [← g1_] at A1_ D1_ U1_ st1_
 have F1__offset : Fld Z h1_ b1_ "java/math/MutableBigInteger" "offset" "I" (.int 0) := D1_ (Or.inl (wt hw 48 rfl)) (ty := .int) (by decide)
 have F1__intLen : Fld Z h1_ b1_ "java/math/MutableBigInteger" "intLen" "I" (.int 0) := D1_ (Or.inl (wt hw 51 rfl)) (ty := .int) (by decide)
 have F1__value : Fld Z h1_ b1_ "java/math/MutableBigInteger" "value" "[I" .null := D1_ (Or.inl (wt hw 66 rfl)) (ty := (.array .int)) (by decide)
 have g3_ : n0 ≤ b1_ := Nat.le_trans Z0 (Nat.le_of_eq g1_.symm)
 have z4_ : n0 ≤ h1_.size := Nat.le_trans Z0 E1_.1
 obtain ⟨T2_, Lc2_, v2_, X2_, hQ2_, st2_⟩ := own_cI (y := Y11) X1_ hx hZ hown (wt hw 152 rfl) (wt hw 74 rfl) (wt hw 75 rfl) (wt hw 41 rfl) rfl (by decide) (rmM0 l Z a0 hw [] b1_ h1_ n0 z4_ A1_ F1__value F1__intLen F1__offset g3_) e1_ (pc := 4) (Ls := #[rv x1, rv x2, .unset, .unset, .unset]) (stk := [(.ref b1_), (.ref b1_)]) (rest := [(.ref b1_)]) (by rw [hml]; rfl) pd3 rfl rfl (W := 1) rfl hby (D27 2) (by decide) (by decide) (by exact own_b rfl) (by exact own_b rfl)
 obtain ⟨t1_2_, k1_2_, rfl, Nq2_, ek2_, p2__0, p2__1, p2__2, p2__3, p2__4, p2__5⟩ := hQ2_
 have N2_ := Fr.app N0 Nq2_
 obtain ⟨T5_, h5_, X5_, e5_, E5_, A5_, D5_, U5_, st5_⟩ := newO X2_ hx hZ hown (wt hw 39 rfl) (wt hw 40 rfl) (wt hw 41 rfl) rfl (g := (mkF m 8 #[rv x1, rv x2, rv b1_, .unset, .unset] [])) rfl (hb hby (D27 4)) (by exact own_b rfl) (by exact own_b rfl)
 obtain ⟨b5_, g5_⟩ : ∃ z, z = T2_.heap.size := ⟨_, rfl⟩
 rw [← g5_] at A5_ D5_ U5_ st5_
 have F5__offset : Fld Z h5_ b5_ "java/math/MutableBigInteger" "offset" "I" (.int 0) := D5_ (Or.inl (wt hw 48 rfl)) (ty := .int) (by decide)
 have F5__intLen : Fld Z h5_ b5_ "java/math/MutableBigInteger" "intLen" "I" (.int 0) := D5_ (Or.inl (wt hw 51 rfl)) (ty := .int) (by decide)
 have F5__value : Fld Z h5_ b5_ "java/math/MutableBigInteger" "value" "[I" .null := D5_ (Or.inl (wt hw 66 rfl)) (ty := (.array .int)) (by decide)
 have f6_ := ((B1.2.2.2.1.ext E1_).keep ek2_ (ninS (Nat.ne_of_lt (Nat.lt_of_lt_of_le B1.1.lt (Nat.le_of_eq g1_.symm))) nin0)).ext E5_
 obtain ⟨T7_, X7_, e7_, st7_⟩ := own_gN (pc := 12) (Ls := #[rv x1, rv x2, rv b1_, .unset, .unset]) (stk := [(.ref b5_), (.ref b5_)]) X5_ hx hZ hown (wt hw 23 rfl) e5_ f6_ hby (D27 6) (D27 7) rfl
 have z10_ : n0 ≤ T2_.heap.size := Nat.le_trans z4_ ek2_.1
 have g9_ : n0 ≤ b5_ := Nat.le_trans z10_ (Nat.le_of_eq g5_.symm)
 have f11_ := ((B1.2.1.ext E1_).keep ek2_).ext E5_
 have f12_ := ((Vq1.ext E1_).keep ek2_ (ninS (Nat.ne_of_lt (Nat.lt_of_lt_of_le B1.2.1.lt (Nat.le_of_eq g1_.symm))) nin0)).ext E5_
 have z13_ : n0 ≤ h5_.size := Nat.le_trans z10_ E5_.1
 obtain ⟨T8_, Lc8_, v8_, X8_, hQ8_, st8_⟩ := own_cI (y := Y28) X7_ hx hZ hown (wt hw 153 rfl) (wt hw 154 rfl) (wt hw 155 rfl) (wt hw 41 rfl) rfl (by decide) (rmMa l Z a0 hw [] b5_ a1 kq1 (0 : Int32) [] h5_ n0 z13_ A5_ F5__value F5__intLen F5__offset g9_ f11_ f12_) e7_ (pc := 16) (Ls := #[rv x1, rv x2, rv b1_, .unset, .unset]) (stk := [(.ref a1), (.ref b5_), (.ref b5_)]) (rest := [(.ref b5_)]) (by rw [hml]; rfl) pd16 rfl rfl (W := 1) rfl hby (D27 8) (by decide) (by decide) (by exact own_b rfl) (by exact own_b rfl)
 obtain ⟨rfl, Nq8_, ek8_, p8__0, p8__1, p8__2⟩ := hQ8_
 have N8_ := Fr.app N2_ Nq8_
 obtain ⟨T14_, h14_, X14_, e14_, E14_, A14_, D14_, U14_, st14_⟩ := newO X8_ hx hZ hown (wt hw 39 rfl) (wt hw 40 rfl) (wt hw 41 rfl) rfl (g := (mkF m 20 #[rv x1, rv x2, rv b1_, rv b5_, .unset] [])) rfl (hb hby (D27 10)) (by exact own_b rfl) (by exact own_b rfl)
 obtain ⟨b14_, g14_⟩ : ∃ z, z = T8_.heap.size := ⟨_, rfl⟩
 rw [← g14_] at A14_ D14_ U14_ st14_
 have F14__offset : Fld Z h14_ b14_ "java/math/MutableBigInteger" "offset" "I" (.int 0) := D14_ (Or.inl (wt hw 48 rfl)) (ty := .int) (by decide)
 have F14__intLen : Fld Z h14_ b14_ "java/math/MutableBigInteger" "intLen" "I" (.int 0) := D14_ (Or.inl (wt hw 51 rfl)) (ty := .int) (by decide)
 have F14__value : Fld Z h14_ b14_ "java/math/MutableBigInteger" "value" "[I" .null := D14_ (Or.inl (wt hw 66 rfl)) (ty := (.array .int)) (by decide)
 have f15_ := ((((B2.2.2.2.1.ext E1_).keep ek2_ (ninS (Nat.ne_of_lt (Nat.lt_of_lt_of_le B2.1.lt (Nat.le_of_eq g1_.symm))) nin0)).ext E5_).keep ek8_ (ninS (Nat.ne_of_lt (Nat.lt_of_lt_of_le ((B2.1.ext E1_).keep ek2_).lt (Nat.le_of_eq g5_.symm))) nin0)).ext E14_
 obtain ⟨T16_, X16_, e16_, st16_⟩ := own_gN (pc := 24) (Ls := #[rv x1, rv x2, rv b1_, rv b5_, .unset]) (stk := [(.ref b14_), (.ref b14_)]) X14_ hx hZ hown (wt hw 23 rfl) e14_ f15_ hby (D27 12) (D27 13) rfl
 have z19_ : n0 ≤ T8_.heap.size := Nat.le_trans z13_ ek8_.1
 have g18_ : n0 ≤ b14_ := Nat.le_trans z19_ (Nat.le_of_eq g14_.symm)
 have f20_ := ((((B2.2.1.ext E1_).keep ek2_).ext E5_).keep ek8_).ext E14_
 have f21_ := ((((Vq2.ext E1_).keep ek2_ (ninS (Nat.ne_of_lt (Nat.lt_of_lt_of_le B2.2.1.lt (Nat.le_of_eq g1_.symm))) nin0)).ext E5_).keep ek8_ (ninS (Nat.ne_of_lt (Nat.lt_of_lt_of_le ((B2.2.1.ext E1_).keep ek2_).lt (Nat.le_of_eq g5_.symm))) nin0)).ext E14_
 have z22_ : n0 ≤ h14_.size := Nat.le_trans z19_ E14_.1
 obtain ⟨T17_, Lc17_, v17_, X17_, hQ17_, st17_⟩ := own_cI (y := Y28) X16_ hx hZ hown (wt hw 153 rfl) (wt hw 154 rfl) (wt hw 155 rfl) (wt hw 41 rfl) rfl (by decide) (rmMa l Z a0 hw [] b14_ a2 kq2 (1 : Int32) [(.int (own_w m2.natAbs))] h14_ n0 z22_ A14_ F14__value F14__intLen F14__offset g18_ f20_ f21_) e16_ (pc := 28) (Ls := #[rv x1, rv x2, rv b1_, rv b5_, .unset]) (stk := [(.ref a2), (.ref b14_), (.ref b14_)]) (rest := [(.ref b14_)]) (by rw [hml]; rfl) pd16 rfl rfl (W := 1) rfl hby (D27 14) (by decide) (by decide) (by exact own_b rfl) (by exact own_b rfl)
 obtain ⟨rfl, Nq17_, ek17_, p17__0, p17__1, p17__2⟩ := hQ17_
 have N17_ := Fr.app N8_ Nq17_
 have f24_ := (p8__1.ext E14_).keep ek17_ (ninS (Nat.ne_of_lt (Nat.lt_of_lt_of_le (A5_.keep ek8_).lt (Nat.le_of_eq g14_.symm))) nin0)
 have f25_ := ((((A1_.keep ek2_).ext E5_).keep ek8_).ext E14_).keep ek17_
 have f26_ := (((p2__1.ext E5_).keep ek8_ (ninS (Nat.ne_of_lt (Nat.lt_of_lt_of_le (A1_.keep ek2_).lt (Nat.le_of_eq g5_.symm))) nin0)).ext E14_).keep ek17_ (ninS (Nat.ne_of_lt (Nat.lt_of_lt_of_le (((A1_.keep ek2_).ext E5_).keep ek8_).lt (Nat.le_of_eq g14_.symm))) nin0)
 have f27_ := (((p2__2.ext E5_).keep ek8_ (ninS (Nat.ne_of_lt (Nat.lt_of_lt_of_le (A1_.keep ek2_).lt (Nat.le_of_eq g5_.symm))) nin0)).ext E14_).keep ek17_ (ninS (Nat.ne_of_lt (Nat.lt_of_lt_of_le (((A1_.keep ek2_).ext E5_).keep ek8_).lt (Nat.le_of_eq g14_.symm))) nin0)
 have z28_ : n0 ≤ T17_.heap.size := Nat.le_trans z22_ ek17_.1
 have f29_ := ((A5_.keep ek8_).ext E14_).keep ek17_
 obtain ⟨T23_, Lc23_, v23_, X23_, hQ23_, st23_⟩ := own_cV (y := Y29) X17_ hx hZ hown (wt hw 156 rfl) (wt hw 158 rfl) (wt hw 159 rfl) (wt hw 160 rfl) (wt hw 41 rfl) (by decide) (dkZ l Z a0 hw [] b5_ b14_ b1_ T17_.heap n0 z28_ f24_ p17__1 f25_ f26_ f27_ g3_) f29_ rfl (pc := 38) (Ls := #[rv x1, rv x2, rv b1_, rv b5_, rv b14_]) (stk := [(.int 0), (.ref b1_), (.ref b14_), (.ref b5_)]) (rest := []) (by rw [hml]; rfl) pd17 rfl rfl (W := 0) rfl hby (D27 20) (by decide) (by decide) (by exact own_b rfl) (by exact own_b rfl)
 obtain ⟨rfl, Nq23_, ek23_, p23__0⟩ := hQ23_
 have N23_ := Fr.app N17_ Nq23_
 have f30_ := ((((((B1.2.2.1.ext E1_).keep ek2_ (ninS (Nat.ne_of_lt (Nat.lt_of_lt_of_le B1.1.lt (Nat.le_of_eq g1_.symm))) nin0)).ext E5_).keep ek8_ (ninS (Nat.ne_of_lt (Nat.lt_of_lt_of_le ((B1.1.ext E1_).keep ek2_).lt (Nat.le_of_eq g5_.symm))) nin0)).ext E14_).keep ek17_ (ninS (Nat.ne_of_lt (Nat.lt_of_lt_of_le ((((B1.1.ext E1_).keep ek2_).ext E5_).keep ek8_).lt (Nat.le_of_eq g14_.symm))) nin0)).keep ek23_ (ninS (Nat.ne_of_lt (Nat.lt_of_lt_of_le B1.1.lt (Nat.le_of_eq g1_.symm))) nin0)
 obtain ⟨T31_, X31_, e31_, st31_⟩ := own_gN (pc := 43) (Ls := #[rv x1, rv x2, rv b1_, rv b5_, rv b14_]) (stk := [(.ref b1_)]) X23_ hx hZ hown (wt hw 20 rfl) rfl f30_ hby (D27 23) (D27 24) rfl
 have f32_ := ((((((B2.2.2.1.ext E1_).keep ek2_ (ninS (Nat.ne_of_lt (Nat.lt_of_lt_of_le B2.1.lt (Nat.le_of_eq g1_.symm))) nin0)).ext E5_).keep ek8_ (ninS (Nat.ne_of_lt (Nat.lt_of_lt_of_le ((B2.1.ext E1_).keep ek2_).lt (Nat.le_of_eq g5_.symm))) nin0)).ext E14_).keep ek17_ (ninS (Nat.ne_of_lt (Nat.lt_of_lt_of_le ((((B2.1.ext E1_).keep ek2_).ext E5_).keep ek8_).lt (Nat.le_of_eq g14_.symm))) nin0)).keep ek23_ (ninS (Nat.ne_of_lt (Nat.lt_of_lt_of_le B2.1.lt (Nat.le_of_eq g1_.symm))) nin0)
 obtain ⟨T33_, X33_, e33_, st33_⟩ := own_gN (pc := 47) (Ls := #[rv x1, rv x2, rv b1_, rv b5_, rv b14_]) (stk := [(.int (own_sg m1)), (.ref b1_)]) X31_ hx hZ hown (wt hw 20 rfl) e31_ f32_ hby (D27 25) (D27 26) rfl
 have f35_ := ((((((O1.ext E1_).keep ek2_ (allS g3_ all0)).ext E5_).keep ek8_ (allS g9_ all0)).ext E14_).keep ek17_ (allS g18_ all0)).keep ek23_ (allS g3_ all0)
 have z36_ : n0 ≤ T23_.heap.size := Nat.le_trans z28_ ek23_.1
 have f37_ := f25_.keep ek23_
 obtain ⟨T34_, Lc34_, v34_, X34_, hQ34_, st34_⟩ := own_cV (y := Y23) X33_ hx hZ hown (wt hw 125 rfl) (wt hw 127 rfl) (wt hw 128 rfl) (wt hw 129 rfl) (wt hw 41 rfl) (by decide) (rmTz l Z a0 hw [] b1_ ((own_sg m1) * (own_sg m2)) zo T23_.heap n0 z36_ T0 f35_ p23__0) f37_ e33_ (pc := 52) (Ls := #[rv x1, rv x2, rv b1_, rv b5_, rv b14_]) (stk := [(.int ((own_sg m1) * (own_sg m2))), (.ref b1_)]) (rest := []) (by rw [hml]; rfl) pd14 rfl rfl (W := 0) rfl hby (D27 28) (by decide) (by decide) (by exact own_b rfl) (by exact own_b rfl)
 obtain ⟨rfl, Nq34_, ek34_⟩ := hQ34_
 have N34_ := Fr.app N23_ Nq34_
 have bc_ : own_BI Z T23_.heap zo za qi := (show (0 : Int) = qi from own_q0 m0 mq gz) ▸ BZ.ext f35_.2
 have k38_ := (Keep.refl h0 []).ext E1_
 have k39_ := k38_.trans ek2_ (allS (Or.inr (Nat.le_trans (Keep.refl h0 []).1 (Nat.le_of_eq g1_.symm))) all0)
 have k40_ := k39_.ext E5_
 have k41_ := k40_.trans ek8_ (allS (Or.inr (Nat.le_trans k39_.1 (Nat.le_of_eq g5_.symm))) all0)
 have k42_ := k41_.ext E14_
 have k43_ := k42_.trans ek17_ (allS (Or.inr (Nat.le_trans k41_.1 (Nat.le_of_eq g14_.symm))) all0)
 have k44_ := k43_.trans ek23_ (allS (Or.inr (Nat.le_trans (Keep.refl h0 []).1 (Nat.le_of_eq g1_.symm))) all0)
 refine ⟨_, _, _, _, some (.ref zo), X34_, (by exact own_b rfl), (by exact own_b rfl), nofun, (by show Q_rmBk Z x1 x2 a1 m1 a2 m2 qi zo za h0 n0 _ T34_.heap _; rw [ek34_]; exact ⟨zo, za, rfl, N34_, k44_, bc_⟩), fun fs hr => ?_⟩
 show Steps p.tables e below (s₁.setTop (mkF m 0 #[rv x1, rv x2, .unset, .unset, .unset] [])) _
 refine st1_ _ ?_
 show Steps p.tables e below (T1_.setTop (mkF m 3 #[rv x1, rv x2, .unset, .unset, .unset] [(.ref b1_)])) _
 refine kdup X1_ hx hby (D27 1) rfl ?_
 refine st2_ _ ?_
 refine ktN X2_ hx hby (D27 3) rfl (l' := #[rv x1, rv x2, rv b1_, .unset, .unset]) rfl ?_
 show Steps p.tables e below (T2_.setTop (mkF m 8 #[rv x1, rv x2, rv b1_, .unset, .unset] [])) _
 refine st5_ _ ?_
 show Steps p.tables e below (T5_.setTop (mkF m 11 #[rv x1, rv x2, rv b1_, .unset, .unset] [(.ref b5_)])) _
 refine kdup X5_ hx hby (D27 5) rfl ?_
 refine st7_ _ ?_
 refine st8_ _ ?_
 refine ktN X8_ hx hby (D27 9) rfl (l' := #[rv x1, rv x2, rv b1_, rv b5_, .unset]) rfl ?_
 show Steps p.tables e below (T8_.setTop (mkF m 20 #[rv x1, rv x2, rv b1_, rv b5_, .unset] [])) _
 refine st14_ _ ?_
 show Steps p.tables e below (T14_.setTop (mkF m 23 #[rv x1, rv x2, rv b1_, rv b5_, .unset] [(.ref b14_)])) _
 refine kdup X14_ hx hby (D27 11) rfl ?_
 refine st16_ _ ?_
 refine st17_ _ ?_
 refine kastore X17_ hx hby (D27 15) rfl (l' := #[rv x1, rv x2, rv b1_, rv b5_, rv b14_]) rfl ?_
 refine kaN X17_ hx hby (D27 16) rfl rfl ?_
 refine ka X17_ hx hby (D27 17) rfl rfl ?_
 refine kaN X17_ hx hby (D27 18) rfl rfl ?_
 refine kc X17_ hx hby (D27 19) ?_
 refine st23_ _ ?_
 refine kpop X23_ hx hby (D27 21) rfl ?_
 refine kaN X23_ hx hby (D27 22) rfl rfl ?_
 refine st31_ _ ?_
 refine st33_ _ ?_
 refine kimul X33_ hx hby (D27 27) ?_
 refine st34_ _ ?_
 exact retR X34_ hx hret rfl rfl rfl (hb hby (D27 29)) hr
theorem bkN (l : Launch) (Z : State) (a0 : Array Value) (hw : own_W Z a0) (ws : List Jvm.Cond) (x1 : Addr) (x2 : Addr) (a1 : Addr) (m1 : Int) (a2 : Addr) (m2 : Int) (qi : Int) (zo : Addr) (za : Addr) (h0 : Heap) (n0 : Nat) (Z0 : n0 ≤ h0.size) (B1 : own_BI Z h0 x1 a1 m1) (B2 : own_BI Z h0 x2 a2 m2) (gz : m2.natAbs ≠ 0) (gb : m2.natAbs < 2147483648) (mq : m1 = qi * m2) (mb : m1.natAbs < 18446744073709551616) (T0 : Sta Z Z.heap "java/math/BigInteger" "ZERO" "Ljava/math/BigInteger;" (.ref zo)) (O1 : Old Z n0 h0) (BZ : own_BI Z Z.heap zo za (0 : Int)) (m0 : m1.natAbs ≠ 0) : own_Met l Y27 jdk_2097_method_62_code 5 (some (.object "java/math/BigInteger")) ⟨5, 7, 19, 76⟩ ws #[(.ref x1), (.ref x2)] Z h0 (Q_rmBk Z x1 x2 a1 m1 a2 m2 qi zo za h0 n0) := by
 refine own_go (plainFor_of_name pn_java_math_BigInteger) (fun m => ef27_RR m x1 x2) fun p e s m below meth c s₁ hx hby hml hown hnm hret hZ e0 X0 => ?_
 have N0 := Fr.nil n0
 obtain ⟨kq1, Vq1⟩ := B1.2.2.2.2
 obtain ⟨kq2, Vq2⟩ := B2.2.2.2.2
 rw [own_len1 gz (by omega), own_mag1 gz (by omega)] at Vq2
 obtain ⟨T1_, h1_, X1_, e1_, E1_, A1_, D1_, U1_, st1_⟩ := newO X0 hx hZ hown (wt hw 39 rfl) (wt hw 40 rfl) (wt hw 41 rfl) e0 (g := (mkF m 0 #[rv x1, rv x2, .unset, .unset, .unset] [])) rfl (hb hby (D27 0)) (by exact own_b rfl) (by exact own_b rfl)
 obtain ⟨b1_, g1_⟩ : ∃ z, z = h0.size := ⟨_, rfl⟩
 rw [← g1_] at A1_ D1_ U1_ st1_
 have F1__offset : Fld Z h1_ b1_ "java/math/MutableBigInteger" "offset" "I" (.int 0) := D1_ (Or.inl (wt hw 48 rfl)) (ty := .int) (by decide)
 have F1__intLen : Fld Z h1_ b1_ "java/math/MutableBigInteger" "intLen" "I" (.int 0) := D1_ (Or.inl (wt hw 51 rfl)) (ty := .int) (by decide)
 have F1__value : Fld Z h1_ b1_ "java/math/MutableBigInteger" "value" "[I" .null := D1_ (Or.inl (wt hw 66 rfl)) (ty := (.array .int)) (by decide)
 have g3_ : n0 ≤ b1_ := Nat.le_trans Z0 (Nat.le_of_eq g1_.symm)
 have z4_ : n0 ≤ h1_.size := Nat.le_trans Z0 E1_.1
 obtain ⟨T2_, Lc2_, v2_, X2_, hQ2_, st2_⟩ := own_cI (y := Y11) X1_ hx hZ hown (wt hw 152 rfl) (wt hw 74 rfl) (wt hw 75 rfl) (wt hw 41 rfl) rfl (by decide) (rmM0 l Z a0 hw [] b1_ h1_ n0 z4_ A1_ F1__value F1__intLen F1__offset g3_) e1_ (pc := 4) (Ls := #[rv x1, rv x2, .unset, .unset, .unset]) (stk := [(.ref b1_), (.ref b1_)]) (rest := [(.ref b1_)]) (by rw [hml]; rfl) pd3 rfl rfl (W := 1) rfl hby (D27 2) (by decide) (by decide) (by exact own_b rfl) (by exact own_b rfl)
 obtain ⟨t1_2_, k1_2_, rfl, Nq2_, ek2_, p2__0, p2__1, p2__2, p2__3, p2__4, p2__5⟩ := hQ2_
 have N2_ := Fr.app N0 Nq2_
 obtain ⟨T5_, h5_, X5_, e5_, E5_, A5_, D5_, U5_, st5_⟩ := newO X2_ hx hZ hown (wt hw 39 rfl) (wt hw 40 rfl) (wt hw 41 rfl) rfl (g := (mkF m 8 #[rv x1, rv x2, rv b1_, .unset, .unset] [])) rfl (hb hby (D27 4)) (by exact own_b rfl) (by exact own_b rfl)
 obtain ⟨b5_, g5_⟩ : ∃ z, z = T2_.heap.size := ⟨_, rfl⟩
 rw [← g5_] at A5_ D5_ U5_ st5_
 have F5__offset : Fld Z h5_ b5_ "java/math/MutableBigInteger" "offset" "I" (.int 0) := D5_ (Or.inl (wt hw 48 rfl)) (ty := .int) (by decide)
 have F5__intLen : Fld Z h5_ b5_ "java/math/MutableBigInteger" "intLen" "I" (.int 0) := D5_ (Or.inl (wt hw 51 rfl)) (ty := .int) (by decide)
 have F5__value : Fld Z h5_ b5_ "java/math/MutableBigInteger" "value" "[I" .null := D5_ (Or.inl (wt hw 66 rfl)) (ty := (.array .int)) (by decide)
 have f6_ := ((B1.2.2.2.1.ext E1_).keep ek2_ (ninS (Nat.ne_of_lt (Nat.lt_of_lt_of_le B1.1.lt (Nat.le_of_eq g1_.symm))) nin0)).ext E5_
 obtain ⟨T7_, X7_, e7_, st7_⟩ := own_gN (pc := 12) (Ls := #[rv x1, rv x2, rv b1_, .unset, .unset]) (stk := [(.ref b5_), (.ref b5_)]) X5_ hx hZ hown (wt hw 23 rfl) e5_ f6_ hby (D27 6) (D27 7) rfl
 have z10_ : n0 ≤ T2_.heap.size := Nat.le_trans z4_ ek2_.1
 have g9_ : n0 ≤ b5_ := Nat.le_trans z10_ (Nat.le_of_eq g5_.symm)
 have f11_ := ((B1.2.1.ext E1_).keep ek2_).ext E5_
 have f12_ := ((Vq1.ext E1_).keep ek2_ (ninS (Nat.ne_of_lt (Nat.lt_of_lt_of_le B1.2.1.lt (Nat.le_of_eq g1_.symm))) nin0)).ext E5_
 have z13_ : n0 ≤ h5_.size := Nat.le_trans z10_ E5_.1
 obtain ⟨T8_, Lc8_, v8_, X8_, hQ8_, st8_⟩ := own_cI (y := Y28) X7_ hx hZ hown (wt hw 153 rfl) (wt hw 154 rfl) (wt hw 155 rfl) (wt hw 41 rfl) rfl (by decide) (rmMa l Z a0 hw [] b5_ a1 kq1 (own_len m1.natAbs) (own_mag m1.natAbs) h5_ n0 z13_ A5_ F5__value F5__intLen F5__offset g9_ f11_ f12_) e7_ (pc := 16) (Ls := #[rv x1, rv x2, rv b1_, .unset, .unset]) (stk := [(.ref a1), (.ref b5_), (.ref b5_)]) (rest := [(.ref b5_)]) (by rw [hml]; rfl) pd16 rfl rfl (W := 1) rfl hby (D27 8) (by decide) (by decide) (by exact own_b rfl) (by exact own_b rfl)
 obtain ⟨rfl, Nq8_, ek8_, p8__0, p8__1, p8__2⟩ := hQ8_
 have N8_ := Fr.app N2_ Nq8_
 obtain ⟨T14_, h14_, X14_, e14_, E14_, A14_, D14_, U14_, st14_⟩ := newO X8_ hx hZ hown (wt hw 39 rfl) (wt hw 40 rfl) (wt hw 41 rfl) rfl (g := (mkF m 20 #[rv x1, rv x2, rv b1_, rv b5_, .unset] [])) rfl (hb hby (D27 10)) (by exact own_b rfl) (by exact own_b rfl)
 obtain ⟨b14_, g14_⟩ : ∃ z, z = T8_.heap.size := ⟨_, rfl⟩
 rw [← g14_] at A14_ D14_ U14_ st14_
 have F14__offset : Fld Z h14_ b14_ "java/math/MutableBigInteger" "offset" "I" (.int 0) := D14_ (Or.inl (wt hw 48 rfl)) (ty := .int) (by decide)
 have F14__intLen : Fld Z h14_ b14_ "java/math/MutableBigInteger" "intLen" "I" (.int 0) := D14_ (Or.inl (wt hw 51 rfl)) (ty := .int) (by decide)
 have F14__value : Fld Z h14_ b14_ "java/math/MutableBigInteger" "value" "[I" .null := D14_ (Or.inl (wt hw 66 rfl)) (ty := (.array .int)) (by decide)
 have f15_ := ((((B2.2.2.2.1.ext E1_).keep ek2_ (ninS (Nat.ne_of_lt (Nat.lt_of_lt_of_le B2.1.lt (Nat.le_of_eq g1_.symm))) nin0)).ext E5_).keep ek8_ (ninS (Nat.ne_of_lt (Nat.lt_of_lt_of_le ((B2.1.ext E1_).keep ek2_).lt (Nat.le_of_eq g5_.symm))) nin0)).ext E14_
 obtain ⟨T16_, X16_, e16_, st16_⟩ := own_gN (pc := 24) (Ls := #[rv x1, rv x2, rv b1_, rv b5_, .unset]) (stk := [(.ref b14_), (.ref b14_)]) X14_ hx hZ hown (wt hw 23 rfl) e14_ f15_ hby (D27 12) (D27 13) rfl
 have z19_ : n0 ≤ T8_.heap.size := Nat.le_trans z13_ ek8_.1
 have g18_ : n0 ≤ b14_ := Nat.le_trans z19_ (Nat.le_of_eq g14_.symm)
 have f20_ := ((((B2.2.1.ext E1_).keep ek2_).ext E5_).keep ek8_).ext E14_
 have f21_ := ((((Vq2.ext E1_).keep ek2_ (ninS (Nat.ne_of_lt (Nat.lt_of_lt_of_le B2.2.1.lt (Nat.le_of_eq g1_.symm))) nin0)).ext E5_).keep ek8_ (ninS (Nat.ne_of_lt (Nat.lt_of_lt_of_le ((B2.2.1.ext E1_).keep ek2_).lt (Nat.le_of_eq g5_.symm))) nin0)).ext E14_
 have z22_ : n0 ≤ h14_.size := Nat.le_trans z19_ E14_.1
 obtain ⟨T17_, Lc17_, v17_, X17_, hQ17_, st17_⟩ := own_cI (y := Y28) X16_ hx hZ hown (wt hw 153 rfl) (wt hw 154 rfl) (wt hw 155 rfl) (wt hw 41 rfl) rfl (by decide) (rmMa l Z a0 hw [] b14_ a2 kq2 (1 : Int32) [(.int (own_w m2.natAbs))] h14_ n0 z22_ A14_ F14__value F14__intLen F14__offset g18_ f20_ f21_) e16_ (pc := 28) (Ls := #[rv x1, rv x2, rv b1_, rv b5_, .unset]) (stk := [(.ref a2), (.ref b14_), (.ref b14_)]) (rest := [(.ref b14_)]) (by rw [hml]; rfl) pd16 rfl rfl (W := 1) rfl hby (D27 14) (by decide) (by decide) (by exact own_b rfl) (by exact own_b rfl)
 obtain ⟨rfl, Nq17_, ek17_, p17__0, p17__1, p17__2⟩ := hQ17_
 have N17_ := Fr.app N8_ Nq17_
 have f24_ := ((A5_.keep ek8_).ext E14_).keep ek17_
 have f25_ := ((f11_.keep ek8_).ext E14_).keep ek17_
 have f26_ := (p8__0.ext E14_).keep ek17_ (ninS (Nat.ne_of_lt (Nat.lt_of_lt_of_le (A5_.keep ek8_).lt (Nat.le_of_eq g14_.symm))) nin0)
 have f27_ := (p8__1.ext E14_).keep ek17_ (ninS (Nat.ne_of_lt (Nat.lt_of_lt_of_le (A5_.keep ek8_).lt (Nat.le_of_eq g14_.symm))) nin0)
 have f28_ := (p8__2.ext E14_).keep ek17_ (ninS (Nat.ne_of_lt (Nat.lt_of_lt_of_le (A5_.keep ek8_).lt (Nat.le_of_eq g14_.symm))) nin0)
 have f29_ := ((f12_.keep ek8_ (ninS (Nat.ne_of_lt (Nat.lt_of_lt_of_le ((B1.2.1.ext E1_).keep ek2_).lt (Nat.le_of_eq g5_.symm))) nin0)).ext E14_).keep ek17_ (ninS (Nat.ne_of_lt (Nat.lt_of_lt_of_le (f11_.keep ek8_).lt (Nat.le_of_eq g14_.symm))) nin0)
 have f30_ := A14_.keep ek17_
 have f31_ := f20_.keep ek17_
 have f32_ := f21_.keep ek17_ (ninS (Nat.ne_of_lt (Nat.lt_of_lt_of_le ((((B2.2.1.ext E1_).keep ek2_).ext E5_).keep ek8_).lt (Nat.le_of_eq g14_.symm))) nin0)
 have f33_ := ((((A1_.keep ek2_).ext E5_).keep ek8_).ext E14_).keep ek17_
 have f34_ := (((p2__3.ext E5_).keep ek8_).ext E14_).keep ek17_
 have f35_ := (((p2__0.ext E5_).keep ek8_ (ninS (Nat.ne_of_lt (Nat.lt_of_lt_of_le (A1_.keep ek2_).lt (Nat.le_of_eq g5_.symm))) nin0)).ext E14_).keep ek17_ (ninS (Nat.ne_of_lt (Nat.lt_of_lt_of_le (((A1_.keep ek2_).ext E5_).keep ek8_).lt (Nat.le_of_eq g14_.symm))) nin0)
 have f36_ := (((p2__1.ext E5_).keep ek8_ (ninS (Nat.ne_of_lt (Nat.lt_of_lt_of_le (A1_.keep ek2_).lt (Nat.le_of_eq g5_.symm))) nin0)).ext E14_).keep ek17_ (ninS (Nat.ne_of_lt (Nat.lt_of_lt_of_le (((A1_.keep ek2_).ext E5_).keep ek8_).lt (Nat.le_of_eq g14_.symm))) nin0)
 have f37_ := (((p2__2.ext E5_).keep ek8_ (ninS (Nat.ne_of_lt (Nat.lt_of_lt_of_le (A1_.keep ek2_).lt (Nat.le_of_eq g5_.symm))) nin0)).ext E14_).keep ek17_ (ninS (Nat.ne_of_lt (Nat.lt_of_lt_of_le (((A1_.keep ek2_).ext E5_).keep ek8_).lt (Nat.le_of_eq g14_.symm))) nin0)
 have f38_ := (((p2__4.ext E5_).keep ek8_ (ninS (Nat.ne_of_lt (Nat.lt_of_lt_of_le p2__3.lt (Nat.le_of_eq g5_.symm))) nin0)).ext E14_).keep ek17_ (ninS (Nat.ne_of_lt (Nat.lt_of_lt_of_le ((p2__3.ext E5_).keep ek8_).lt (Nat.le_of_eq g14_.symm))) nin0)
 have g39_ : n0 ≤ t1_2_ := Nat.le_trans z4_ p2__5
 have k40_ := (Keep.refl h0 []).ext E1_
 have k41_ := k40_.trans ek2_ (allS (Or.inr (Nat.le_trans (Keep.refl h0 []).1 (Nat.le_of_eq g1_.symm))) all0)
 have k42_ := k41_.ext E5_
 have k43_ := k42_.trans ek8_ (allS (Or.inr (Nat.le_trans k41_.1 (Nat.le_of_eq g5_.symm))) all0)
 have k44_ := k43_.ext E14_
 have k45_ := k44_.trans ek17_ (allS (Or.inr (Nat.le_trans k43_.1 (Nat.le_of_eq g14_.symm))) all0)
 have z46_ : n0 ≤ T17_.heap.size := Nat.le_trans z22_ ek17_.1
 obtain ⟨T23_, Lc23_, v23_, X23_, hQ23_, st23_⟩ := own_cV (y := Y29) X17_ hx hZ hown (wt hw 156 rfl) (wt hw 158 rfl) (wt hw 159 rfl) (wt hw 160 rfl) (wt hw 41 rfl) (by decide) (rmDk l Z a0 hw [] b5_ b14_ b1_ a1 kq1 m1.natAbs a2 kq2 (own_w m2.natAbs) t1_2_ k1_2_ h0.size qi.natAbs T17_.heap n0 z46_ ⟨f24_, f25_, f26_, f27_, f28_, f29_⟩ ⟨f30_, f31_, p17__0, p17__1, p17__2, f32_⟩ ⟨f33_, f34_, f35_, f36_, f37_, f38_⟩ g3_ g39_ (Ne.symm (Nat.ne_of_lt (Nat.lt_of_lt_of_le (A1_.keep ek2_).lt (Nat.le_of_eq g5_.symm)))) (Ne.symm (Nat.ne_of_lt (Nat.lt_of_lt_of_le (((A1_.keep ek2_).ext E5_).keep ek8_).lt (Nat.le_of_eq g14_.symm)))) (Nat.ne_of_lt (Nat.lt_of_lt_of_le (B1.2.1.ext E1_).lt p2__5)) (Nat.ne_of_lt (Nat.lt_of_lt_of_le (B2.2.1.ext E1_).lt p2__5)) (Nat.le_trans k40_.1 p2__5) k45_.1 (own_wz gz (by omega)) (by rw [own_u_w]; omega) (by rw [own_u_w, Nat.mod_eq_of_lt (by omega), mq, Int.natAbs_mul]) m0 mb) f24_ rfl (pc := 38) (Ls := #[rv x1, rv x2, rv b1_, rv b5_, rv b14_]) (stk := [(.int 0), (.ref b1_), (.ref b14_), (.ref b5_)]) (rest := []) (by rw [hml]; rfl) pd17 rfl rfl (W := 0) rfl hby (D27 20) (by decide) (by decide) (by exact own_b rfl) (by exact own_b rfl)
 obtain ⟨t1_23_, rfl, Nq23_, ek23_, p23__0, p23__1⟩ := hQ23_
 have N23_ := Fr.app N17_ Nq23_
 have f47_ := ((((((B1.2.2.1.ext E1_).keep ek2_ (ninS (Nat.ne_of_lt (Nat.lt_of_lt_of_le B1.1.lt (Nat.le_of_eq g1_.symm))) nin0)).ext E5_).keep ek8_ (ninS (Nat.ne_of_lt (Nat.lt_of_lt_of_le ((B1.1.ext E1_).keep ek2_).lt (Nat.le_of_eq g5_.symm))) nin0)).ext E14_).keep ek17_ (ninS (Nat.ne_of_lt (Nat.lt_of_lt_of_le ((((B1.1.ext E1_).keep ek2_).ext E5_).keep ek8_).lt (Nat.le_of_eq g14_.symm))) nin0)).keep ek23_ (ninS (Nat.ne_of_lt (Nat.lt_of_lt_of_le B1.1.lt (Nat.le_of_eq g1_.symm))) (ninS (Nat.ne_of_lt (Nat.lt_of_lt_of_le (B1.1.ext E1_).lt p2__5)) nin0))
 obtain ⟨T48_, X48_, e48_, st48_⟩ := own_gN (pc := 43) (Ls := #[rv x1, rv x2, rv b1_, rv b5_, rv b14_]) (stk := [(.ref b1_)]) X23_ hx hZ hown (wt hw 20 rfl) rfl f47_ hby (D27 23) (D27 24) rfl
 have f49_ := ((((((B2.2.2.1.ext E1_).keep ek2_ (ninS (Nat.ne_of_lt (Nat.lt_of_lt_of_le B2.1.lt (Nat.le_of_eq g1_.symm))) nin0)).ext E5_).keep ek8_ (ninS (Nat.ne_of_lt (Nat.lt_of_lt_of_le ((B2.1.ext E1_).keep ek2_).lt (Nat.le_of_eq g5_.symm))) nin0)).ext E14_).keep ek17_ (ninS (Nat.ne_of_lt (Nat.lt_of_lt_of_le ((((B2.1.ext E1_).keep ek2_).ext E5_).keep ek8_).lt (Nat.le_of_eq g14_.symm))) nin0)).keep ek23_ (ninS (Nat.ne_of_lt (Nat.lt_of_lt_of_le B2.1.lt (Nat.le_of_eq g1_.symm))) (ninS (Nat.ne_of_lt (Nat.lt_of_lt_of_le (B2.1.ext E1_).lt p2__5)) nin0))
 obtain ⟨T50_, X50_, e50_, st50_⟩ := own_gN (pc := 47) (Ls := #[rv x1, rv x2, rv b1_, rv b5_, rv b14_]) (stk := [(.int (own_sg m1)), (.ref b1_)]) X48_ hx hZ hown (wt hw 20 rfl) e48_ f49_ hby (D27 25) (D27 26) rfl
 have g52_ : n0 ≤ t1_23_ := Nat.le_trans Z0 p23__1
 have z53_ : n0 ≤ T23_.heap.size := Nat.le_trans z46_ ek23_.1
 obtain ⟨T51_, Lc51_, v51_, X51_, hQ51_, st51_⟩ := own_cV (y := Y23) X50_ hx hZ hown (wt hw 125 rfl) (wt hw 127 rfl) (wt hw 128 rfl) (wt hw 129 rfl) (wt hw 41 rfl) (by decide) (rmTb l Z a0 hw [] b1_ ((own_sg m1) * (own_sg m2)) t1_23_ qi.natAbs qi T23_.heap n0 z53_ p23__0 g3_ g52_ (own_sgm2 mq gz) rfl) p23__0.1 e50_ (pc := 52) (Ls := #[rv x1, rv x2, rv b1_, rv b5_, rv b14_]) (stk := [(.int ((own_sg m1) * (own_sg m2))), (.ref b1_)]) (rest := []) (by rw [hml]; rfl) pd14 rfl rfl (W := 0) rfl hby (D27 28) (by decide) (by decide) (by exact own_b rfl) (by exact own_b rfl)
 obtain ⟨xb_51_, tb_51_, rfl, Nq51_, ek51_, p51__0, p51__1⟩ := hQ51_
 have N51_ := Fr.app N23_ Nq51_
 have k54_ := k45_.trans ek23_ (allS (Or.inr (Nat.le_trans (Keep.refl h0 []).1 (Nat.le_of_eq g1_.symm))) (allS (Or.inr (Nat.le_trans k40_.1 p2__5)) all0))
 have k55_ := k54_.trans ek51_ (allS (Or.inr (Nat.le_trans (Keep.refl h0 []).1 (Nat.le_of_eq g1_.symm))) (allS (Or.inr (Nat.le_trans (Keep.refl h0 []).1 p23__1)) all0))
 refine ⟨_, _, _, _, some (.ref xb_51_), X51_, (by exact own_b rfl), (by exact own_b rfl), nofun, (by show Q_rmBk Z x1 x2 a1 m1 a2 m2 qi zo za h0 n0 _ T51_.heap _; exact ⟨xb_51_, tb_51_, rfl, N51_, k55_, p51__0⟩), fun fs hr => ?_⟩
 show Steps p.tables e below (s₁.setTop (mkF m 0 #[rv x1, rv x2, .unset, .unset, .unset] [])) _
 refine st1_ _ ?_
 show Steps p.tables e below (T1_.setTop (mkF m 3 #[rv x1, rv x2, .unset, .unset, .unset] [(.ref b1_)])) _
 refine kdup X1_ hx hby (D27 1) rfl ?_
 refine st2_ _ ?_
 refine ktN X2_ hx hby (D27 3) rfl (l' := #[rv x1, rv x2, rv b1_, .unset, .unset]) rfl ?_
 show Steps p.tables e below (T2_.setTop (mkF m 8 #[rv x1, rv x2, rv b1_, .unset, .unset] [])) _
 refine st5_ _ ?_
 show Steps p.tables e below (T5_.setTop (mkF m 11 #[rv x1, rv x2, rv b1_, .unset, .unset] [(.ref b5_)])) _
 refine kdup X5_ hx hby (D27 5) rfl ?_
 refine st7_ _ ?_
 refine st8_ _ ?_
 refine ktN X8_ hx hby (D27 9) rfl (l' := #[rv x1, rv x2, rv b1_, rv b5_, .unset]) rfl ?_
 show Steps p.tables e below (T8_.setTop (mkF m 20 #[rv x1, rv x2, rv b1_, rv b5_, .unset] [])) _
 refine st14_ _ ?_
 show Steps p.tables e below (T14_.setTop (mkF m 23 #[rv x1, rv x2, rv b1_, rv b5_, .unset] [(.ref b14_)])) _
 refine kdup X14_ hx hby (D27 11) rfl ?_
 refine st16_ _ ?_
 refine st17_ _ ?_
 refine kastore X17_ hx hby (D27 15) rfl (l' := #[rv x1, rv x2, rv b1_, rv b5_, rv b14_]) rfl ?_
 refine kaN X17_ hx hby (D27 16) rfl rfl ?_
 refine ka X17_ hx hby (D27 17) rfl rfl ?_
 refine kaN X17_ hx hby (D27 18) rfl rfl ?_
 refine kc X17_ hx hby (D27 19) ?_
 refine st23_ _ ?_
 refine kpop X23_ hx hby (D27 21) rfl ?_
 refine kaN X23_ hx hby (D27 22) rfl rfl ?_
 refine st48_ _ ?_
 refine st50_ _ ?_
 refine kimul X50_ hx hby (D27 27) ?_
 refine st51_ _ ?_
 exact retR X51_ hx hret rfl rfl rfl (hb hby (D27 29)) hr
theorem rmBk (l : Launch) (Z : State) (a0 : Array Value) (hw : own_W Z a0) (ws : List Jvm.Cond) (x1 : Addr) (x2 : Addr) (a1 : Addr) (m1 : Int) (a2 : Addr) (m2 : Int) (qi : Int) (zo : Addr) (za : Addr) (h0 : Heap) (n0 : Nat) (Z0 : n0 ≤ h0.size) (B1 : own_BI Z h0 x1 a1 m1) (B2 : own_BI Z h0 x2 a2 m2) (gz : m2.natAbs ≠ 0) (gb : m2.natAbs < 2147483648) (mq : m1 = qi * m2) (mb : m1.natAbs < 18446744073709551616) (T0 : Sta Z Z.heap "java/math/BigInteger" "ZERO" "Ljava/math/BigInteger;" (.ref zo)) (O1 : Old Z n0 h0) (BZ : own_BI Z Z.heap zo za (0 : Int)) :
    own_Met l Y27 jdk_2097_method_62_code 5 (some (.object "java/math/BigInteger")) ⟨5, 7, 19, 76⟩ ws #[(.ref x1), (.ref x2)] Z h0 (Q_rmBk Z x1 x2 a1 m1 a2 m2 qi zo za h0 n0) := by
  by_cases c : m1 = 0
  · exact bkZ l Z a0 hw ws _ _ _ _ _ _ _ _ _ h0 n0 Z0 B1 B2 gz gb mq mb T0 O1 BZ c
  · exact bkN l Z a0 hw ws _ _ _ _ _ _ _ _ _ h0 n0 Z0 B1 B2 gz gb mq mb T0 O1 BZ (fun q => c (Int.natAbs_eq_zero.mp q))
theorem pd18 : parseMethodDescriptor "(Ljava/math/BigInteger;)Ljava/math/BigInteger;" = some ⟨[(.object "java/math/BigInteger")], some (.object "java/math/BigInteger")⟩ := by decide +kernel
abbrev Y26 : MethodName := ⟨"java/math/BigInteger", "divide", "(Ljava/math/BigInteger;)Ljava/math/BigInteger;"⟩
theorem ef26_RR (m : MethodId) (x0 : Addr) (x1 : Addr) : entryFrame m #[(.ref x0), (.ref x1)] 2 = mkF m 0 #[rv x0, rv x1] [] := by first | (simp [entryFrame, mkF, argsToLocals, Value.category]; done) | rfl
def Q_rmDi (Z : State) (x1 : Addr) (x2 : Addr) (a1 : Addr) (m1 : Int) (a2 : Addr) (m2 : Int) (qi : Int) (zo : Addr) (za : Addr) (h0 : Heap) (n0 : Nat) (v : Option Value) (h : Heap) (L : List Loc) : Prop := ∃ (xb : Addr) (tb : Addr), v = some (.ref xb) ∧ Fr n0 L ∧ Keep h0 h [] ∧ (own_BI Z h xb tb qi)
theorem rmDi (l : Launch) (Z : State) (a0 : Array Value) (hw : own_W Z a0) (ws : List Jvm.Cond) (x1 : Addr) (x2 : Addr) (a1 : Addr) (m1 : Int) (a2 : Addr) (m2 : Int) (qi : Int) (zo : Addr) (za : Addr) (h0 : Heap) (n0 : Nat) (Z0 : n0 ≤ h0.size) (B1 : own_BI Z h0 x1 a1 m1) (B2 : own_BI Z h0 x2 a2 m2) (gz : m2.natAbs ≠ 0) (gb : m2.natAbs < 2147483648) (mq : m1 = qi * m2) (mb : m1.natAbs < 18446744073709551616) (T0 : Sta Z Z.heap "java/math/BigInteger" "ZERO" "Ljava/math/BigInteger;" (.ref zo)) (O1 : Old Z n0 h0) (BZ : own_BI Z Z.heap zo za (0 : Int)) : own_Met l Y26 jdk_2097_method_61_code 2 (some (.object "java/math/BigInteger")) ⟨6, 7, 19, 92⟩ ws #[(.ref x1), (.ref x2)] Z h0 (Q_rmDi Z x1 x2 a1 m1 a2 m2 qi zo za h0 n0) := by
 refine own_go (plainFor_of_name pn_java_math_BigInteger) (fun m => ef26_RR m x1 x2) fun p e s m below meth c s₁ hx hby hml hown hnm hret hZ e0 X0 => ?_
 have N0 := Fr.nil n0
 obtain ⟨kq2, Vq2⟩ := B2.2.2.2.2
 obtain ⟨T1_, X1_, e1_, st1_⟩ := own_gN (pc := 0) (Ls := #[rv x1, rv x2]) (stk := []) X0 hx hZ hown (wt hw 23 rfl) e0 B2.2.2.2.1 hby (D26 0) (D26 1) rfl
 obtain ⟨T2_, Lc2_, v2_, X2_, hQ2_, st2_⟩ := own_cV (y := Y27) X1_ hx hZ hown (wt hw 147 rfl) (wt hw 148 rfl) (wt hw 150 rfl) (wt hw 151 rfl) (wt hw 2 rfl) (by decide) (rmBk l Z a0 hw [] x1 x2 a1 m1 a2 m2 qi zo za h0 n0 Z0 B1 B2 gz gb mq mb T0 O1 BZ) B1.1 e1_ (pc := 28) (Ls := #[rv x1, rv x2]) (stk := [(.ref x2), (.ref x1)]) (rest := []) (by rw [hml]; rfl) pd18 rfl rfl (W := 0) rfl hby (D26 7) (by decide) (by decide) (by exact own_b rfl) (by exact own_b rfl)
 obtain ⟨xb_2_, tb_2_, rfl, Nq2_, ek2_, p2__0⟩ := hQ2_
 have N2_ := Fr.app N0 Nq2_
 have k3_ := (Keep.refl h0 []).trans ek2_ all0
 refine ⟨_, _, _, _, some (.ref xb_2_), X2_, (by exact own_b rfl), (by exact own_b rfl), nofun, (by show Q_rmDi Z x1 x2 a1 m1 a2 m2 qi zo za h0 n0 _ T2_.heap _; exact ⟨xb_2_, tb_2_, rfl, N2_, k3_, p2__0⟩), fun fs hr => ?_⟩
 refine st1_ _ ?_
 refine own_al X1_ hx hZ e1_ Vq2 hby (D26 2) ?_
 refine kb X1_ hx hby (D26 3) ?_
 refine kcY X1_ hx (pc0 := 7) (pc' := 26) rfl hby (D26 4) (tlt ((own_len_lt _).2 : (own_len m2.natAbs) < (80 : Int32))).1 (by decide) (by decide) ?_
 refine kaN X1_ hx hby (D26 5) rfl rfl ?_
 refine kaN X1_ hx hby (D26 6) rfl rfl ?_
 refine st2_ _ ?_
 exact retR X2_ hx hret rfl rfl rfl (hb hby (D26 8)) hr
abbrev Y33 : MethodName := ⟨"com/example/unconfuse/unconfuse/Fraction", "<init>", "(Ljava/math/BigInteger;Ljava/math/BigInteger;)V"⟩
theorem ef33_RRR (m : MethodId) (x0 : Addr) (x1 : Addr) (x2 : Addr) : entryFrame m #[(.ref x0), (.ref x1), (.ref x2)] 3 = mkF m 0 #[rv x0, rv x1, rv x2] [] := by first | (simp [entryFrame, mkF, argsToLocals, Value.category]; done) | rfl
theorem pn_com_example_unconfuse_unconfuse_Fraction : plainName "com/example/unconfuse/unconfuse/Fraction" = true := by first | (simp [plainName, overriddenIn]; done) | decide +kernel
def Q_rmFr (Z : State) (f1 : Addr) (x1 : Addr) (x2 : Addr) (h0 : Heap) (n0 : Nat) (v : Option Value) (h : Heap) (L : List Loc) : Prop := v = none ∧ Fr n0 L ∧ Keep h0 h [f1] ∧ (Fld Z h f1 "com/example/unconfuse/unconfuse/Fraction" "numerator" "Ljava/math/BigInteger;" (.ref x1)) ∧ (Fld Z h f1 "com/example/unconfuse/unconfuse/Fraction" "denominator" "Ljava/math/BigInteger;" (.ref x2))
theorem rmFr (l : Launch) (Z : State) (a0 : Array Value) (hw : own_W Z a0) (ws : List Jvm.Cond) (f1 : Addr) (x1 : Addr) (x2 : Addr) (h0 : Heap) (n0 : Nat) (Z0 : n0 ≤ h0.size) (X1 : Exa Z h0 f1 "com/example/unconfuse/unconfuse/Fraction") (X2 : Fld Z h0 f1 "com/example/unconfuse/unconfuse/Fraction" "numerator" "Ljava/math/BigInteger;" .null) (X3 : Fld Z h0 f1 "com/example/unconfuse/unconfuse/Fraction" "denominator" "Ljava/math/BigInteger;" .null) (g1 : n0 ≤ f1) : own_Met l Y33 prog_1_method_1_code 3 none ⟨1, 0, 0, 12⟩ ws #[(.ref f1), (.ref x1), (.ref x2)] Z h0 (Q_rmFr Z f1 x1 x2 h0 n0) := by
 refine own_go (plainFor_of_name pn_com_example_unconfuse_unconfuse_Fraction) (fun m => ef33_RRR m f1 x1 x2) fun p e s m below meth c s₁ hx hby hml hown hnm hret hZ e0 X0 => ?_
 have N0 := Fr.nil n0
 obtain ⟨T1_, X1_, e1_, st1_⟩ := initO X0 hx hZ hown (wt hw 180 rfl) (wt hw 18 rfl) (wt hw 19 rfl) e0 (g := (mkF m 1 #[rv f1, rv x1, rv x2] [(.ref f1)])) rfl (by rw [hml]; rfl) rfl (hb hby (D33 1)) (by decide) (W := 0) (by show 2 * 0 + _ ≤ _; exact Nat.le_of_eq rfl) (by decide)
 obtain ⟨T2_, h2_, X2_, e2_, W2_, w2_, N2_, st2_⟩ := own_pf (pc := 6) (Ls := #[rv f1, rv x1, rv x2]) (stk := [(.ref x1), (.ref f1)]) X1_ hx hZ hown (wt hw 181 rfl) e1_ X2 X1 (Or.inr ⟨(wt hw 182 rfl), rfl, hnm⟩) (wt hw 141 rfl) (ty := (.object "java/math/BigInteger")) (by decide) rfl rfl N0 g1 hby (D33 4) rfl
 have f3_ := X1.wr W2_
 have f4_ := X3.other W2_ (Or.inr (slot_ne (Or.inr (wt hw 184 rfl)) (Or.inr (wt hw 182 rfl)) (by decide) (t := (.object "java/math/BigInteger")) (t' := (.object "java/math/BigInteger")) (by decide) (by decide)))
 obtain ⟨T5_, h5_, X5_, e5_, W5_, w5_, N5_, st5_⟩ := own_pf (pc := 11) (Ls := #[rv f1, rv x1, rv x2]) (stk := [(.ref x2), (.ref f1)]) X2_ hx hZ hown (wt hw 183 rfl) e2_ f4_ f3_ (Or.inr ⟨(wt hw 184 rfl), rfl, hnm⟩) (wt hw 141 rfl) (ty := (.object "java/math/BigInteger")) (by decide) rfl rfl N2_ g1 hby (D33 7) rfl
 have f6_ := w2_.other W5_ (Or.inr (slot_ne (Or.inr (wt hw 182 rfl)) (Or.inr (wt hw 184 rfl)) (by decide) (t := (.object "java/math/BigInteger")) (t' := (.object "java/math/BigInteger")) (by decide) (by decide)))
 have k7_ := (Keep.refl h0 [f1]).wr W2_ (own_in 0 rfl)
 have k8_ := k7_.wr W5_ (own_in 0 rfl)
 refine ⟨_, _, _, _, none, X5_, (by exact own_b rfl), (by exact own_b rfl), (fun _ => rfl), (by show Q_rmFr Z f1 x1 x2 h0 n0 _ T5_.heap _; rw [e5_]; exact ⟨rfl, N5_, k8_, f6_, w5_⟩), fun fs hr => ?_⟩
 refine kaN X0 hx hby (D33 0) rfl rfl ?_
 show Steps p.tables e below (s₁.setTop (mkF m 1 #[rv f1, rv x1, rv x2] [(.ref f1)])) _
 refine st1_ _ ?_
 show Steps p.tables e below (T1_.setTop (mkF m 4 #[rv f1, rv x1, rv x2] [])) _
 refine kaN X1_ hx hby (D33 2) rfl rfl ?_
 refine kaN X1_ hx hby (D33 3) rfl rfl ?_
 refine st2_ _ ?_
 refine kaN X2_ hx hby (D33 5) rfl rfl ?_
 refine kaN X2_ hx hby (D33 6) rfl rfl ?_
 refine st5_ _ ?_
 exact X5_.returnOut hx hret (hb hby (D33 8)) hr
abbrev Y34 : MethodName := ⟨"com/example/unconfuse/unconfuse/Fraction", "numerator", "()Ljava/math/BigInteger;"⟩
theorem ef34_R (m : MethodId) (x0 : Addr) : entryFrame m #[(.ref x0)] 1 = mkF m 0 #[rv x0] [] := by first | (simp [entryFrame, mkF, argsToLocals, Value.category]; done) | rfl
def Q_rmFn (Z : State) (f1 : Addr) (x1 : Addr) (h0 : Heap) (n0 : Nat) (v : Option Value) (h : Heap) (L : List Loc) : Prop := v = some (.ref x1) ∧ Fr n0 L ∧ h = h0
theorem rmFn (l : Launch) (Z : State) (a0 : Array Value) (hw : own_W Z a0) (ws : List Jvm.Cond) (f1 : Addr) (x1 : Addr) (h0 : Heap) (n0 : Nat) (Z0 : n0 ≤ h0.size) (F1 : Fld Z h0 f1 "com/example/unconfuse/unconfuse/Fraction" "numerator" "Ljava/math/BigInteger;" (.ref x1)) : own_Met l Y34 prog_1_method_4_code 1 (some (.object "java/math/BigInteger")) ⟨0, 0, 0, 0⟩ ws #[(.ref f1)] Z h0 (Q_rmFn Z f1 x1 h0 n0) := by
 refine own_go (plainFor_of_name pn_com_example_unconfuse_unconfuse_Fraction) (fun m => ef34_R m f1) fun p e s m below meth c s₁ hx hby hml hown hnm hret hZ e0 X0 => ?_
 have N0 := Fr.nil n0
 obtain ⟨T1_, X1_, e1_, st1_⟩ := own_gN (pc := 0) (Ls := #[rv f1]) (stk := []) X0 hx hZ hown (wt hw 181 rfl) e0 F1 hby (D34 0) (D34 1) rfl
 refine ⟨_, _, _, _, some (.ref x1), X1_, (by exact own_b rfl), (by exact own_b rfl), nofun, (by show Q_rmFn Z f1 x1 h0 n0 _ T1_.heap _; rw [e1_]; exact ⟨rfl, N0, rfl⟩), fun fs hr => ?_⟩
 refine st1_ _ ?_
 exact retR X1_ hx hret rfl rfl rfl (hb hby (D34 2)) hr
abbrev Y36 : MethodName := ⟨"com/example/unconfuse/unconfuse/Fraction", "denominator", "()Ljava/math/BigInteger;"⟩
theorem ef36_R (m : MethodId) (x0 : Addr) : entryFrame m #[(.ref x0)] 1 = mkF m 0 #[rv x0] [] := by first | (simp [entryFrame, mkF, argsToLocals, Value.category]; done) | rfl
def Q_rmFd (Z : State) (f1 : Addr) (x1 : Addr) (h0 : Heap) (n0 : Nat) (v : Option Value) (h : Heap) (L : List Loc) : Prop := v = some (.ref x1) ∧ Fr n0 L ∧ h = h0
theorem rmFd (l : Launch) (Z : State) (a0 : Array Value) (hw : own_W Z a0) (ws : List Jvm.Cond) (f1 : Addr) (x1 : Addr) (h0 : Heap) (n0 : Nat) (Z0 : n0 ≤ h0.size) (F1 : Fld Z h0 f1 "com/example/unconfuse/unconfuse/Fraction" "denominator" "Ljava/math/BigInteger;" (.ref x1)) : own_Met l Y36 prog_1_method_5_code 1 (some (.object "java/math/BigInteger")) ⟨0, 0, 0, 0⟩ ws #[(.ref f1)] Z h0 (Q_rmFd Z f1 x1 h0 n0) := by
 refine own_go (plainFor_of_name pn_com_example_unconfuse_unconfuse_Fraction) (fun m => ef36_R m f1) fun p e s m below meth c s₁ hx hby hml hown hnm hret hZ e0 X0 => ?_
 have N0 := Fr.nil n0
 obtain ⟨T1_, X1_, e1_, st1_⟩ := own_gN (pc := 0) (Ls := #[rv f1]) (stk := []) X0 hx hZ hown (wt hw 183 rfl) e0 F1 hby (D36 0) (D36 1) rfl
 refine ⟨_, _, _, _, some (.ref x1), X1_, (by exact own_b rfl), (by exact own_b rfl), nofun, (by show Q_rmFd Z f1 x1 h0 n0 _ T1_.heap _; rw [e1_]; exact ⟨rfl, N0, rfl⟩), fun fs hr => ?_⟩
 refine st1_ _ ?_
 exact retR X1_ hx hret rfl rfl rfl (hb hby (D36 2)) hr
abbrev Y6 : MethodName := ⟨"java/math/BigInteger", "signum", "()I"⟩
theorem ef6_R (m : MethodId) (x0 : Addr) : entryFrame m #[(.ref x0)] 1 = mkF m 0 #[rv x0] [] := by first | (simp [entryFrame, mkF, argsToLocals, Value.category]; done) | rfl
def Q_rmSg (Z : State) (x1 : Addr) (s1 : Int32) (h0 : Heap) (n0 : Nat) (v : Option Value) (h : Heap) (L : List Loc) : Prop := v = some (.int s1) ∧ Fr n0 L ∧ h = h0
theorem rmSg (l : Launch) (Z : State) (a0 : Array Value) (hw : own_W Z a0) (ws : List Jvm.Cond) (x1 : Addr) (s1 : Int32) (h0 : Heap) (n0 : Nat) (Z0 : n0 ≤ h0.size) (F1 : Fld Z h0 x1 "java/math/BigInteger" "signum" "I" (.int s1)) : own_Met l Y6 jdk_2097_method_81_code 1 (some .int) ⟨0, 0, 0, 0⟩ ws #[(.ref x1)] Z h0 (Q_rmSg Z x1 s1 h0 n0) := by
 refine own_go (plainFor_of_name pn_java_math_BigInteger) (fun m => ef6_R m x1) fun p e s m below meth c s₁ hx hby hml hown hnm hret hZ e0 X0 => ?_
 have N0 := Fr.nil n0
 obtain ⟨T1_, X1_, e1_, st1_⟩ := own_gN (pc := 0) (Ls := #[rv x1]) (stk := []) X0 hx hZ hown (wt hw 20 rfl) e0 F1 hby (D6 0) (D6 1) rfl
 refine ⟨_, _, _, _, some (.int s1), X1_, (by exact own_b rfl), (by exact own_b rfl), nofun, (by show Q_rmSg Z x1 s1 h0 n0 _ T1_.heap _; rw [e1_]; exact ⟨rfl, N0, rfl⟩), fun fs hr => ?_⟩
 refine st1_ _ ?_
 exact retI X1_ hx hret (hb hby (D6 2)) hr
theorem pd19 : parseMethodDescriptor "(Ljava/math/BigInteger;Ljava/math/BigInteger;)V" = some ⟨[(.object "java/math/BigInteger"), (.object "java/math/BigInteger")], none⟩ := by decide +kernel
def Q_rmOf (Z : State) (x1 : Addr) (x2 : Addr) (a1 : Addr) (m1 : Int) (a2 : Addr) (m2 : Int) (g1 : Int) (q1 : Int) (q2 : Int) (zo : Addr) (za : Addr) (h0 : Heap) (n0 : Nat) (v : Option Value) (h : Heap) (L : List Loc) : Prop := ∃ (fr : Addr) (xn : Addr) (xd : Addr) (tn : Addr) (td : Addr), v = some (.ref fr) ∧ Fr n0 L ∧ Keep h0 h [] ∧ (Exa Z h fr "com/example/unconfuse/unconfuse/Fraction") ∧ (Fld Z h fr "com/example/unconfuse/unconfuse/Fraction" "numerator" "Ljava/math/BigInteger;" (.ref xn)) ∧ (Fld Z h fr "com/example/unconfuse/unconfuse/Fraction" "denominator" "Ljava/math/BigInteger;" (.ref xd)) ∧ (own_BI Z h xn tn q1) ∧ (own_BI Z h xd td q2)
abbrev Y5 : MethodName := ⟨"com/example/unconfuse/unconfuse/Fraction", "of", "(Ljava/math/BigInteger;Ljava/math/BigInteger;)Lcom/example/unconfuse/unconfuse/Fraction;"⟩
theorem ef5_RR (m : MethodId) (x0 : Addr) (x1 : Addr) : entryFrame m #[(.ref x0), (.ref x1)] 3 = mkF m 0 #[rv x0, rv x1, .unset] [] := by first | (simp [entryFrame, mkF, argsToLocals, Value.category]; done) | rfl
theorem ofP (l : Launch) (Z : State) (a0 : Array Value) (hw : own_W Z a0) (ws : List Jvm.Cond) (x1 : Addr) (x2 : Addr) (a1 : Addr) (m1 : Int) (a2 : Addr) (m2 : Int) (g1 : Int) (q1 : Int) (q2 : Int) (zo : Addr) (za : Addr) (h0 : Heap) (n0 : Nat) (Z0 : n0 ≤ h0.size) (B1 : own_BI Z h0 x1 a1 m1) (B2 : own_BI Z h0 x2 a2 m2) (mz : m2.natAbs ≠ 0) (mb1 : m1.natAbs < 18446744073709551616) (mb2 : m2.natAbs < 18446744073709551616) (gb : Nat.gcd m1.natAbs m2.natAbs < 4294967296) (gb2 : Nat.gcd m1.natAbs m2.natAbs < 2147483648) (mq1 : m1 = q1 * g1) (mq2 : m2 = q2 * g1) (T0 : Sta Z Z.heap "java/math/BigInteger" "ZERO" "Ljava/math/BigInteger;" (.ref zo)) (O1 : Old Z n0 h0) (BZ : own_BI Z Z.heap zo za (0 : Int)) (eg : (Int.ofNat (Nat.gcd m1.natAbs m2.natAbs)) = g1) (sg : 0 ≤ m2) : own_Met l Y5 prog_1_method_2_code 3 (some (.object "com/example/unconfuse/unconfuse/Fraction")) ⟨7, 26, 71, 108⟩ ws #[(.ref x1), (.ref x2)] Z h0 (Q_rmOf Z x1 x2 a1 m1 a2 m2 g1 q1 q2 zo za h0 n0) := by
 refine own_go (plainFor_of_name pn_com_example_unconfuse_unconfuse_Fraction) (fun m => ef5_RR m x1 x2) fun p e s m below meth c s₁ hx hby hml hown hnm hret hZ e0 X0 => ?_
 have N0 := Fr.nil n0
 obtain ⟨T1_, Lc1_, v1_, X1_, hQ1_, st1_⟩ := own_cV (y := Y6) X0 hx hZ hown (wt hw 29 rfl) (wt hw 31 rfl) (wt hw 32 rfl) (wt hw 33 rfl) (wt hw 2 rfl) (by decide) (rmSg l Z a0 hw [] x2 (own_sg m2) h0 n0 Z0 B2.2.2.1) B2.1 e0 (pc := 1) (Ls := #[rv x1, rv x2, .unset]) (stk := [(.ref x2)]) (rest := []) (by rw [hml]; rfl) pd5 rfl rfl (W := 0) rfl hby (D5 1) (by decide) (by decide) (by exact own_b rfl) (by exact own_b rfl)
 obtain ⟨rfl, Nq1_, ek1_⟩ := hQ1_
 have N1_ := Fr.app N0 Nq1_
 obtain ⟨T2_, Lc2_, v2_, X2_, hQ2_, st2_⟩ := own_cV (y := Y7) X1_ hx hZ hown (wt hw 34 rfl) (wt hw 36 rfl) (wt hw 37 rfl) (wt hw 38 rfl) (wt hw 2 rfl) (by decide) (rmGd l Z a0 hw [] x1 x2 a1 m1 a2 m2 h0 n0 Z0 B1 B2 mz mb1 mb2 gb) B1.1 ek1_ (pc := 26) (Ls := #[rv x1, rv x2, .unset]) (stk := [(.ref x2), (.ref x1)]) (rest := []) (by rw [hml]; rfl) pd18 rfl rfl (W := 0) rfl hby (D5 5) (by decide) (by decide) (by exact own_b rfl) (by exact own_b rfl)
 obtain ⟨xg_2_, tg_2_, rfl, Nq2_, ek2_, p2__0⟩ := hQ2_
 have N2_ := Fr.app N1_ Nq2_
 have f4_ := B2.2.2.1.keep ek2_ nin0
 have z5_ : n0 ≤ T2_.heap.size := Nat.le_trans Z0 ek2_.1
 have f6_ := B2.1.keep ek2_
 obtain ⟨T3_, Lc3_, v3_, X3_, hQ3_, st3_⟩ := own_cV (y := Y6) X2_ hx hZ hown (wt hw 29 rfl) (wt hw 31 rfl) (wt hw 32 rfl) (wt hw 33 rfl) (wt hw 2 rfl) (by decide) (rmSg l Z a0 hw [] x2 (own_sg m2) T2_.heap n0 z5_ f4_) f6_ rfl (pc := 31) (Ls := #[rv x1, rv x2, rv xg_2_]) (stk := [(.ref x2)]) (rest := []) (by rw [hml]; rfl) pd5 rfl rfl (W := 0) rfl hby (D5 8) (by decide) (by decide) (by exact own_b rfl) (by exact own_b rfl)
 obtain ⟨rfl, Nq3_, ek3_⟩ := hQ3_
 have N3_ := Fr.app N2_ Nq3_
 have bg_ : own_BI Z T2_.heap xg_2_ tg_2_ g1 := eg ▸ p2__0
 have ga_ : g1.natAbs = Nat.gcd m1.natAbs m2.natAbs := by rw [← eg]; rfl
 obtain ⟨T7_, h7_, X7_, e7_, E7_, A7_, D7_, U7_, st7_⟩ := newO X3_ hx hZ hown (wt hw 140 rfl) (wt hw 141 rfl) (wt hw 27 rfl) ek3_ (g := (mkF m 42 #[rv x1, rv x2, rv xg_2_] [])) rfl (hb hby (D5 10)) (by exact own_b rfl) (by exact own_b rfl)
 obtain ⟨b7_, g7_⟩ : ∃ z, z = T2_.heap.size := ⟨_, rfl⟩
 rw [← g7_] at A7_ D7_ U7_ st7_
 have F7__numerator : Fld Z h7_ b7_ "com/example/unconfuse/unconfuse/Fraction" "numerator" "Ljava/math/BigInteger;" .null := D7_ (Or.inr (wt hw 182 rfl)) (ty := (.object "java/math/BigInteger")) (by decide)
 have F7__denominator : Fld Z h7_ b7_ "com/example/unconfuse/unconfuse/Fraction" "denominator" "Ljava/math/BigInteger;" .null := D7_ (Or.inr (wt hw 184 rfl)) (ty := (.object "java/math/BigInteger")) (by decide)
 have f9_ := (B1.keep ek2_ nin0 nin0).ext E7_
 have f10_ := bg_.ext E7_
 have f11_ := (O1.keep ek2_ all0).ext E7_
 have z12_ : n0 ≤ h7_.size := Nat.le_trans z5_ E7_.1
 have f13_ := (B1.1.keep ek2_).ext E7_
 obtain ⟨T8_, Lc8_, v8_, X8_, hQ8_, st8_⟩ := own_cV (y := Y26) X7_ hx hZ hown (wt hw 142 rfl) (wt hw 144 rfl) (wt hw 145 rfl) (wt hw 146 rfl) (wt hw 2 rfl) (by decide) (rmDi l Z a0 hw [] x1 xg_2_ a1 m1 tg_2_ g1 q1 zo za h7_ n0 z12_ f9_ f10_ (by rw [ga_]; exact own_gnz mz) (by rw [ga_]; exact gb2) mq1 mb1 T0 f11_ BZ) f13_ e7_ (pc := 48) (Ls := #[rv x1, rv x2, rv xg_2_]) (stk := [(.ref xg_2_), (.ref x1), (.ref b7_), (.ref b7_)]) (rest := [(.ref b7_), (.ref b7_)]) (by rw [hml]; rfl) pd18 rfl rfl (W := 2) rfl hby (D5 14) (by decide) (by decide) (by exact own_b rfl) (by exact own_b rfl)
 obtain ⟨xb_8_, tb_8_, rfl, Nq8_, ek8_, p8__0⟩ := hQ8_
 have N8_ := Fr.app N3_ Nq8_
 have f15_ := ((B2.keep ek2_ nin0 nin0).ext E7_).keep ek8_ nin0 nin0
 have f16_ := f10_.keep ek8_ nin0 nin0
 have f17_ := f11_.keep ek8_ all0
 have z18_ : n0 ≤ T8_.heap.size := Nat.le_trans z12_ ek8_.1
 have f19_ := (f6_.ext E7_).keep ek8_
 obtain ⟨T14_, Lc14_, v14_, X14_, hQ14_, st14_⟩ := own_cV (y := Y26) X8_ hx hZ hown (wt hw 142 rfl) (wt hw 144 rfl) (wt hw 145 rfl) (wt hw 146 rfl) (wt hw 2 rfl) (by decide) (rmDi l Z a0 hw [] x2 xg_2_ a2 m2 tg_2_ g1 q2 zo za T8_.heap n0 z18_ f15_ f16_ (by rw [ga_]; exact own_gnz mz) (by rw [ga_]; exact gb2) mq2 mb2 T0 f17_ BZ) f19_ rfl (pc := 53) (Ls := #[rv x1, rv x2, rv xg_2_]) (stk := [(.ref xg_2_), (.ref x2), (.ref xb_8_), (.ref b7_), (.ref b7_)]) (rest := [(.ref xb_8_), (.ref b7_), (.ref b7_)]) (by rw [hml]; rfl) pd18 rfl rfl (W := 3) rfl hby (D5 17) (by decide) (by decide) (by exact own_b rfl) (by exact own_b rfl)
 obtain ⟨xb_14_, tb_14_, rfl, Nq14_, ek14_, p14__0⟩ := hQ14_
 have N14_ := Fr.app N8_ Nq14_
 have f21_ := (A7_.keep ek8_).keep ek14_
 have f22_ := (F7__numerator.keep ek8_ nin0).keep ek14_ nin0
 have f23_ := (F7__denominator.keep ek8_ nin0).keep ek14_ nin0
 have g24_ : n0 ≤ b7_ := Nat.le_trans z5_ (Nat.le_of_eq g7_.symm)
 have z25_ : n0 ≤ T14_.heap.size := Nat.le_trans z18_ ek14_.1
 obtain ⟨T20_, Lc20_, v20_, X20_, hQ20_, st20_⟩ := own_cI (y := Y33) X14_ hx hZ hown (wt hw 177 rfl) (wt hw 178 rfl) (wt hw 179 rfl) (wt hw 27 rfl) rfl (by decide) (rmFr l Z a0 hw [] b7_ xb_8_ xb_14_ T14_.heap n0 z25_ f21_ f22_ f23_ g24_) rfl (pc := 56) (Ls := #[rv x1, rv x2, rv xg_2_]) (stk := [(.ref xb_14_), (.ref xb_8_), (.ref b7_), (.ref b7_)]) (rest := [(.ref b7_)]) (by rw [hml]; rfl) pd19 rfl rfl (W := 1) rfl hby (D5 18) (by decide) (by decide) (by exact own_b rfl) (by exact own_b rfl)
 obtain ⟨rfl, Nq20_, ek20_, p20__0, p20__1⟩ := hQ20_
 have N20_ := Fr.app N14_ Nq20_
 have f26_ := f21_.keep ek20_
 have f27_ := (p8__0.keep ek14_ nin0 nin0).keep ek20_ (ninS (ne_exa (p8__0.1.keep ek14_) f21_ (by decide)) nin0) (ninS (ne_exa (p8__0.2.1.keep ek14_) f21_ (by decide)) nin0)
 have f28_ := p14__0.keep ek20_ (ninS (ne_exa p14__0.1 f21_ (by decide)) nin0) (ninS (ne_exa p14__0.2.1 f21_ (by decide)) nin0)
 have k29_ := (Keep.refl h0 []).trans ek2_ all0
 have k30_ := k29_.ext E7_
 have k31_ := k30_.trans ek8_ all0
 have k32_ := k31_.trans ek14_ all0
 have k33_ := k32_.trans ek20_ (allS (Or.inr (Nat.le_trans k29_.1 (Nat.le_of_eq g7_.symm))) all0)
 refine ⟨_, _, _, _, some (.ref b7_), X20_, (by exact own_b rfl), (by exact own_b rfl), nofun, (by show Q_rmOf Z x1 x2 a1 m1 a2 m2 g1 q1 q2 zo za h0 n0 _ T20_.heap _; exact ⟨b7_, xb_8_, xb_14_, tb_8_, tb_14_, rfl, N20_, k33_, f26_, p20__0, p20__1, f27_, f28_⟩), fun fs hr => ?_⟩
 refine kaN X0 hx hby (D5 0) rfl rfl ?_
 refine st1_ _ ?_
 refine kfY X1_ hx (pc0 := 4) (pc' := 24) rfl hby (D5 2) ((if0 _ _).trans (feq ((own_sg0 mz) : ¬ ((own_sg m2) = (0 : Int32)))).2) (by decide) (by decide) ?_
 refine kaN X1_ hx hby (D5 3) rfl rfl ?_
 refine kaN X1_ hx hby (D5 4) rfl rfl ?_
 refine st2_ _ ?_
 refine ktN X2_ hx hby (D5 6) rfl (l' := #[rv x1, rv x2, rv xg_2_]) rfl ?_
 refine kaN X2_ hx hby (D5 7) rfl rfl ?_
 refine st3_ _ ?_
 refine kfY X3_ hx (pc0 := 34) (pc' := 42) rfl hby (D5 9) ((if0 _ _).trans (flt ((own_sgp sg) : ¬ ((own_sg m2) < (0 : Int32)))).2.1) (by decide) (by decide) ?_
 show Steps p.tables e below (T3_.setTop (mkF m 42 #[rv x1, rv x2, rv xg_2_] [])) _
 refine st7_ _ ?_
 show Steps p.tables e below (T7_.setTop (mkF m 45 #[rv x1, rv x2, rv xg_2_] [(.ref b7_)])) _
 refine kdup X7_ hx hby (D5 11) rfl ?_
 refine kaN X7_ hx hby (D5 12) rfl rfl ?_
 refine kaN X7_ hx hby (D5 13) rfl rfl ?_
 refine st8_ _ ?_
 refine kaN X8_ hx hby (D5 15) rfl rfl ?_
 refine kaN X8_ hx hby (D5 16) rfl rfl ?_
 refine st14_ _ ?_
 refine st20_ _ ?_
 exact retR X20_ hx hret rfl rfl rfl (hb hby (D5 19)) hr
theorem ofN (l : Launch) (Z : State) (a0 : Array Value) (hw : own_W Z a0) (ws : List Jvm.Cond) (x1 : Addr) (x2 : Addr) (a1 : Addr) (m1 : Int) (a2 : Addr) (m2 : Int) (g1 : Int) (q1 : Int) (q2 : Int) (zo : Addr) (za : Addr) (h0 : Heap) (n0 : Nat) (Z0 : n0 ≤ h0.size) (B1 : own_BI Z h0 x1 a1 m1) (B2 : own_BI Z h0 x2 a2 m2) (mz : m2.natAbs ≠ 0) (mb1 : m1.natAbs < 18446744073709551616) (mb2 : m2.natAbs < 18446744073709551616) (gb : Nat.gcd m1.natAbs m2.natAbs < 4294967296) (gb2 : Nat.gcd m1.natAbs m2.natAbs < 2147483648) (mq1 : m1 = q1 * g1) (mq2 : m2 = q2 * g1) (T0 : Sta Z Z.heap "java/math/BigInteger" "ZERO" "Ljava/math/BigInteger;" (.ref zo)) (O1 : Old Z n0 h0) (BZ : own_BI Z Z.heap zo za (0 : Int)) (eg : (-(Int.ofNat (Nat.gcd m1.natAbs m2.natAbs))) = g1) (sg : m2 < 0) : own_Met l Y5 prog_1_method_2_code 3 (some (.object "com/example/unconfuse/unconfuse/Fraction")) ⟨7, 26, 71, 108⟩ ws #[(.ref x1), (.ref x2)] Z h0 (Q_rmOf Z x1 x2 a1 m1 a2 m2 g1 q1 q2 zo za h0 n0) := by
 refine own_go (plainFor_of_name pn_com_example_unconfuse_unconfuse_Fraction) (fun m => ef5_RR m x1 x2) fun p e s m below meth c s₁ hx hby hml hown hnm hret hZ e0 X0 => ?_
 have N0 := Fr.nil n0
 obtain ⟨T1_, Lc1_, v1_, X1_, hQ1_, st1_⟩ := own_cV (y := Y6) X0 hx hZ hown (wt hw 29 rfl) (wt hw 31 rfl) (wt hw 32 rfl) (wt hw 33 rfl) (wt hw 2 rfl) (by decide) (rmSg l Z a0 hw [] x2 (own_sg m2) h0 n0 Z0 B2.2.2.1) B2.1 e0 (pc := 1) (Ls := #[rv x1, rv x2, .unset]) (stk := [(.ref x2)]) (rest := []) (by rw [hml]; rfl) pd5 rfl rfl (W := 0) rfl hby (D5 1) (by decide) (by decide) (by exact own_b rfl) (by exact own_b rfl)
 obtain ⟨rfl, Nq1_, ek1_⟩ := hQ1_
 have N1_ := Fr.app N0 Nq1_
 obtain ⟨T2_, Lc2_, v2_, X2_, hQ2_, st2_⟩ := own_cV (y := Y7) X1_ hx hZ hown (wt hw 34 rfl) (wt hw 36 rfl) (wt hw 37 rfl) (wt hw 38 rfl) (wt hw 2 rfl) (by decide) (rmGd l Z a0 hw [] x1 x2 a1 m1 a2 m2 h0 n0 Z0 B1 B2 mz mb1 mb2 gb) B1.1 ek1_ (pc := 26) (Ls := #[rv x1, rv x2, .unset]) (stk := [(.ref x2), (.ref x1)]) (rest := []) (by rw [hml]; rfl) pd18 rfl rfl (W := 0) rfl hby (D5 5) (by decide) (by decide) (by exact own_b rfl) (by exact own_b rfl)
 obtain ⟨xg_2_, tg_2_, rfl, Nq2_, ek2_, p2__0⟩ := hQ2_
 have N2_ := Fr.app N1_ Nq2_
 have f4_ := B2.2.2.1.keep ek2_ nin0
 have z5_ : n0 ≤ T2_.heap.size := Nat.le_trans Z0 ek2_.1
 have f6_ := B2.1.keep ek2_
 obtain ⟨T3_, Lc3_, v3_, X3_, hQ3_, st3_⟩ := own_cV (y := Y6) X2_ hx hZ hown (wt hw 29 rfl) (wt hw 31 rfl) (wt hw 32 rfl) (wt hw 33 rfl) (wt hw 2 rfl) (by decide) (rmSg l Z a0 hw [] x2 (own_sg m2) T2_.heap n0 z5_ f4_) f6_ rfl (pc := 31) (Ls := #[rv x1, rv x2, rv xg_2_]) (stk := [(.ref x2)]) (rest := []) (by rw [hml]; rfl) pd5 rfl rfl (W := 0) rfl hby (D5 8) (by decide) (by decide) (by exact own_b rfl) (by exact own_b rfl)
 obtain ⟨rfl, Nq3_, ek3_⟩ := hQ3_
 have N3_ := Fr.app N2_ Nq3_
 obtain ⟨T7_, Lc7_, v7_, X7_, hQ7_, st7_⟩ := own_cV (y := Y39) X3_ hx hZ hown (wt hw 212 rfl) (wt hw 214 rfl) (wt hw 215 rfl) (wt hw 216 rfl) (wt hw 2 rfl) (by decide) (rmNe l Z a0 hw [] xg_2_ tg_2_ (Int.ofNat (Nat.gcd m1.natAbs m2.natAbs)) T2_.heap n0 z5_ p2__0 (own_gnz mz)) p2__0.1 ek3_ (pc := 38) (Ls := #[rv x1, rv x2, rv xg_2_]) (stk := [(.ref xg_2_)]) (rest := []) (by rw [hml]; rfl) pd12 rfl rfl (W := 0) rfl hby (D5 21) (by decide) (by decide) (by exact own_b rfl) (by exact own_b rfl)
 obtain ⟨xb_7_, rfl, Nq7_, ek7_, p7__0, p7__1⟩ := hQ7_
 have N7_ := Fr.app N3_ Nq7_
 have bg_ : own_BI Z T7_.heap xb_7_ tg_2_ g1 := eg ▸ p7__0
 have ga_ : g1.natAbs = Nat.gcd m1.natAbs m2.natAbs := by rw [← eg]; exact Int.natAbs_neg _
 obtain ⟨T8_, h8_, X8_, e8_, E8_, A8_, D8_, U8_, st8_⟩ := newO X7_ hx hZ hown (wt hw 140 rfl) (wt hw 141 rfl) (wt hw 27 rfl) rfl (g := (mkF m 42 #[rv x1, rv x2, rv xb_7_] [])) rfl (hb hby (D5 10)) (by exact own_b rfl) (by exact own_b rfl)
 obtain ⟨b8_, g8_⟩ : ∃ z, z = T7_.heap.size := ⟨_, rfl⟩
 rw [← g8_] at A8_ D8_ U8_ st8_
 have F8__numerator : Fld Z h8_ b8_ "com/example/unconfuse/unconfuse/Fraction" "numerator" "Ljava/math/BigInteger;" .null := D8_ (Or.inr (wt hw 182 rfl)) (ty := (.object "java/math/BigInteger")) (by decide)
 have F8__denominator : Fld Z h8_ b8_ "com/example/unconfuse/unconfuse/Fraction" "denominator" "Ljava/math/BigInteger;" .null := D8_ (Or.inr (wt hw 184 rfl)) (ty := (.object "java/math/BigInteger")) (by decide)
 have f10_ := ((B1.keep ek2_ nin0 nin0).keep ek7_ nin0 nin0).ext E8_
 have f11_ := bg_.ext E8_
 have f12_ := ((O1.keep ek2_ all0).keep ek7_ all0).ext E8_
 have z13_ : n0 ≤ T7_.heap.size := Nat.le_trans z5_ ek7_.1
 have z14_ : n0 ≤ h8_.size := Nat.le_trans z13_ E8_.1
 have f15_ := ((B1.1.keep ek2_).keep ek7_).ext E8_
 obtain ⟨T9_, Lc9_, v9_, X9_, hQ9_, st9_⟩ := own_cV (y := Y26) X8_ hx hZ hown (wt hw 142 rfl) (wt hw 144 rfl) (wt hw 145 rfl) (wt hw 146 rfl) (wt hw 2 rfl) (by decide) (rmDi l Z a0 hw [] x1 xb_7_ a1 m1 tg_2_ g1 q1 zo za h8_ n0 z14_ f10_ f11_ (by rw [ga_]; exact own_gnz mz) (by rw [ga_]; exact gb2) mq1 mb1 T0 f12_ BZ) f15_ e8_ (pc := 48) (Ls := #[rv x1, rv x2, rv xb_7_]) (stk := [(.ref xb_7_), (.ref x1), (.ref b8_), (.ref b8_)]) (rest := [(.ref b8_), (.ref b8_)]) (by rw [hml]; rfl) pd18 rfl rfl (W := 2) rfl hby (D5 14) (by decide) (by decide) (by exact own_b rfl) (by exact own_b rfl)
 obtain ⟨xb_9_, tb_9_, rfl, Nq9_, ek9_, p9__0⟩ := hQ9_
 have N9_ := Fr.app N7_ Nq9_
 have f17_ := (((B2.keep ek2_ nin0 nin0).keep ek7_ nin0 nin0).ext E8_).keep ek9_ nin0 nin0
 have f18_ := f11_.keep ek9_ nin0 nin0
 have f19_ := f12_.keep ek9_ all0
 have z20_ : n0 ≤ T9_.heap.size := Nat.le_trans z14_ ek9_.1
 have f21_ := ((f6_.keep ek7_).ext E8_).keep ek9_
 obtain ⟨T16_, Lc16_, v16_, X16_, hQ16_, st16_⟩ := own_cV (y := Y26) X9_ hx hZ hown (wt hw 142 rfl) (wt hw 144 rfl) (wt hw 145 rfl) (wt hw 146 rfl) (wt hw 2 rfl) (by decide) (rmDi l Z a0 hw [] x2 xb_7_ a2 m2 tg_2_ g1 q2 zo za T9_.heap n0 z20_ f17_ f18_ (by rw [ga_]; exact own_gnz mz) (by rw [ga_]; exact gb2) mq2 mb2 T0 f19_ BZ) f21_ rfl (pc := 53) (Ls := #[rv x1, rv x2, rv xb_7_]) (stk := [(.ref xb_7_), (.ref x2), (.ref xb_9_), (.ref b8_), (.ref b8_)]) (rest := [(.ref xb_9_), (.ref b8_), (.ref b8_)]) (by rw [hml]; rfl) pd18 rfl rfl (W := 3) rfl hby (D5 17) (by decide) (by decide) (by exact own_b rfl) (by exact own_b rfl)
 obtain ⟨xb_16_, tb_16_, rfl, Nq16_, ek16_, p16__0⟩ := hQ16_
 have N16_ := Fr.app N9_ Nq16_
 have f23_ := (A8_.keep ek9_).keep ek16_
 have f24_ := (F8__numerator.keep ek9_ nin0).keep ek16_ nin0
 have f25_ := (F8__denominator.keep ek9_ nin0).keep ek16_ nin0
 have g26_ : n0 ≤ b8_ := Nat.le_trans z13_ (Nat.le_of_eq g8_.symm)
 have z27_ : n0 ≤ T16_.heap.size := Nat.le_trans z20_ ek16_.1
 obtain ⟨T22_, Lc22_, v22_, X22_, hQ22_, st22_⟩ := own_cI (y := Y33) X16_ hx hZ hown (wt hw 177 rfl) (wt hw 178 rfl) (wt hw 179 rfl) (wt hw 27 rfl) rfl (by decide) (rmFr l Z a0 hw [] b8_ xb_9_ xb_16_ T16_.heap n0 z27_ f23_ f24_ f25_ g26_) rfl (pc := 56) (Ls := #[rv x1, rv x2, rv xb_7_]) (stk := [(.ref xb_16_), (.ref xb_9_), (.ref b8_), (.ref b8_)]) (rest := [(.ref b8_)]) (by rw [hml]; rfl) pd19 rfl rfl (W := 1) rfl hby (D5 18) (by decide) (by decide) (by exact own_b rfl) (by exact own_b rfl)
 obtain ⟨rfl, Nq22_, ek22_, p22__0, p22__1⟩ := hQ22_
 have N22_ := Fr.app N16_ Nq22_
 have f28_ := f23_.keep ek22_
 have f29_ := (p9__0.keep ek16_ nin0 nin0).keep ek22_ (ninS (ne_exa (p9__0.1.keep ek16_) f23_ (by decide)) nin0) (ninS (ne_exa (p9__0.2.1.keep ek16_) f23_ (by decide)) nin0)
 have f30_ := p16__0.keep ek22_ (ninS (ne_exa p16__0.1 f23_ (by decide)) nin0) (ninS (ne_exa p16__0.2.1 f23_ (by decide)) nin0)
 have k31_ := (Keep.refl h0 []).trans ek2_ all0
 have k32_ := k31_.trans ek7_ all0
 have k33_ := k32_.ext E8_
 have k34_ := k33_.trans ek9_ all0
 have k35_ := k34_.trans ek16_ all0
 have k36_ := k35_.trans ek22_ (allS (Or.inr (Nat.le_trans k32_.1 (Nat.le_of_eq g8_.symm))) all0)
 refine ⟨_, _, _, _, some (.ref b8_), X22_, (by exact own_b rfl), (by exact own_b rfl), nofun, (by show Q_rmOf Z x1 x2 a1 m1 a2 m2 g1 q1 q2 zo za h0 n0 _ T22_.heap _; exact ⟨b8_, xb_9_, xb_16_, tb_9_, tb_16_, rfl, N22_, k36_, f28_, p22__0, p22__1, f29_, f30_⟩), fun fs hr => ?_⟩
 refine kaN X0 hx hby (D5 0) rfl rfl ?_
 refine st1_ _ ?_
 refine kfY X1_ hx (pc0 := 4) (pc' := 24) rfl hby (D5 2) ((if0 _ _).trans (feq ((own_sg0 mz) : ¬ ((own_sg m2) = (0 : Int32)))).2) (by decide) (by decide) ?_
 refine kaN X1_ hx hby (D5 3) rfl rfl ?_
 refine kaN X1_ hx hby (D5 4) rfl rfl ?_
 refine st2_ _ ?_
 refine ktN X2_ hx hby (D5 6) rfl (l' := #[rv x1, rv x2, rv xg_2_]) rfl ?_
 refine kaN X2_ hx hby (D5 7) rfl rfl ?_
 refine st3_ _ ?_
 refine kfN X3_ hx hby (D5 9) ((if0 _ _).trans (tlt ((own_sgm sg) : (own_sg m2) < (0 : Int32))).2.1) ?_
 refine kaN X3_ hx hby (D5 20) rfl rfl ?_
 refine st7_ _ ?_
 refine ktN X7_ hx hby (D5 22) rfl (l' := #[rv x1, rv x2, rv xb_7_]) rfl ?_
 show Steps p.tables e below (T7_.setTop (mkF m 42 #[rv x1, rv x2, rv xb_7_] [])) _
 refine st8_ _ ?_
 show Steps p.tables e below (T8_.setTop (mkF m 45 #[rv x1, rv x2, rv xb_7_] [(.ref b8_)])) _
 refine kdup X8_ hx hby (D5 11) rfl ?_
 refine kaN X8_ hx hby (D5 12) rfl rfl ?_
 refine kaN X8_ hx hby (D5 13) rfl rfl ?_
 refine st9_ _ ?_
 refine kaN X9_ hx hby (D5 15) rfl rfl ?_
 refine kaN X9_ hx hby (D5 16) rfl rfl ?_
 refine st16_ _ ?_
 refine st22_ _ ?_
 exact retR X22_ hx hret rfl rfl rfl (hb hby (D5 19)) hr
theorem rmOf (l : Launch) (Z : State) (a0 : Array Value) (hw : own_W Z a0) (ws : List Jvm.Cond) (x1 : Addr) (x2 : Addr) (a1 : Addr) (m1 : Int) (a2 : Addr) (m2 : Int) (g1 : Int) (q1 : Int) (q2 : Int) (zo : Addr) (za : Addr) (h0 : Heap) (n0 : Nat) (Z0 : n0 ≤ h0.size) (B1 : own_BI Z h0 x1 a1 m1) (B2 : own_BI Z h0 x2 a2 m2) (mz : m2.natAbs ≠ 0) (mb1 : m1.natAbs < 18446744073709551616) (mb2 : m2.natAbs < 18446744073709551616) (gb : Nat.gcd m1.natAbs m2.natAbs < 4294967296) (gb2 : Nat.gcd m1.natAbs m2.natAbs < 2147483648) (mq1 : m1 = q1 * g1) (mq2 : m2 = q2 * g1) (T0 : Sta Z Z.heap "java/math/BigInteger" "ZERO" "Ljava/math/BigInteger;" (.ref zo)) (O1 : Old Z n0 h0) (BZ : own_BI Z Z.heap zo za (0 : Int)) (qp : 0 < q2) (hg : g1.natAbs = Nat.gcd m1.natAbs m2.natAbs) :
    own_Met l Y5 prog_1_method_2_code 3 (some (.object "com/example/unconfuse/unconfuse/Fraction")) ⟨7, 26, 71, 108⟩ ws #[(.ref x1), (.ref x2)] Z h0 (Q_rmOf Z x1 x2 a1 m1 a2 m2 g1 q1 q2 zo za h0 n0) := by
  by_cases c : 0 ≤ m2
  · exact ofP l Z a0 hw ws _ _ _ _ _ _ _ _ _ _ _ h0 n0 Z0 B1 B2 mz mb1 mb2 gb gb2 mq1 mq2 T0 O1 BZ (own_eg hg (own_gpos mq2 qp c)) c
  · exact ofN l Z a0 hw ws _ _ _ _ _ _ _ _ _ _ _ h0 n0 Z0 B1 B2 mz mb1 mb2 gb gb2 mq1 mq2 T0 O1 BZ (own_eg' hg (own_gneg mq2 qp (by omega))) (by omega)
def Q_rmEq (Z : State) (x1 : Addr) (x2 : Addr) (a1 : Addr) (a2 : Addr) (m1 : Int) (h0 : Heap) (n0 : Nat) (v : Option Value) (h : Heap) (L : List Loc) : Prop := v = some (.int 1) ∧ Fr n0 L ∧ h = h0
abbrev Y35 : MethodName := ⟨"java/math/BigInteger", "equals", "(Ljava/lang/Object;)Z"⟩
theorem ef35_RR (m : MethodId) (x0 : Addr) (x1 : Addr) : entryFrame m #[(.ref x0), (.ref x1)] 7 = mkF m 0 #[rv x0, rv x1, .unset, .unset, .unset, .unset, .unset] [] := by first | (simp [entryFrame, mkF, argsToLocals, Value.category]; done) | rfl
theorem eq0 (l : Launch) (Z : State) (a0 : Array Value) (hw : own_W Z a0) (ws : List Jvm.Cond) (x1 : Addr) (x2 : Addr) (a1 : Addr) (a2 : Addr) (m1 : Int) (h0 : Heap) (n0 : Nat) (Z0 : n0 ≤ h0.size) (B1 : own_BI Z h0 x1 a1 m1) (B2 : own_BI Z h0 x2 a2 m1) (ne : x1 ≠ x2) (em : m1.natAbs = 0) : own_Met l Y35 jdk_2097_method_124_code 7 (some .boolean) ⟨0, 0, 0, 0⟩ ws #[(.ref x1), (.ref x2)] Z h0 (Q_rmEq Z x1 x2 a1 a2 m1 h0 n0) := by
 refine own_go (plainFor_of_name pn_java_math_BigInteger) (fun m => ef35_RR m x1 x2) fun p e s m below meth c s₁ hx hby hml hown hnm hret hZ e0 X0 => ?_
 have N0 := Fr.nil n0
 obtain ⟨kq1, Vq1⟩ := B1.2.2.2.2
 rw [em] at Vq1
 obtain ⟨kq2, Vq2⟩ := B2.2.2.2.2
 rw [em] at Vq2
 obtain ⟨T1_, X1_, e1_, st1_⟩ := instY X0 hx hZ hown (wt hw 5 rfl) e0 (Ins.self B2.1) (g := (mkF m 8 #[rv x1, rv x2, .unset, .unset, .unset, .unset, .unset] [(.ref x2)])) rfl rfl (hb hby (D35 6))
 obtain ⟨T2_, X2_, e2_, st2_⟩ := castY X1_ hx hZ hown (wt hw 5 rfl) e1_ (Ins.self B2.1) (g := (mkF m 15 #[rv x1, rv x2, .unset, .unset, .unset, .unset, .unset] [(.ref x2)])) rfl rfl (hb hby (D35 9))
 obtain ⟨T3_, X3_, e3_, st3_⟩ := own_gN (pc := 24) (Ls := #[rv x1, rv x2, rv x2, .unset, .unset, .unset, .unset]) (stk := []) X2_ hx hZ hown (wt hw 20 rfl) e2_ B2.2.2.1 hby (D35 12) (D35 13) rfl
 obtain ⟨T4_, X4_, e4_, st4_⟩ := own_gN (pc := 28) (Ls := #[rv x1, rv x2, rv x2, .unset, .unset, .unset, .unset]) (stk := [(.int (own_sg m1))]) X3_ hx hZ hown (wt hw 20 rfl) e3_ B1.2.2.1 hby (D35 14) (D35 15) rfl
 obtain ⟨T5_, X5_, e5_, st5_⟩ := own_gN (pc := 37) (Ls := #[rv x1, rv x2, rv x2, .unset, .unset, .unset, .unset]) (stk := []) X4_ hx hZ hown (wt hw 23 rfl) e4_ B1.2.2.2.1 hby (D35 17) (D35 18) rfl
 obtain ⟨T6_, X6_, e6_, st6_⟩ := own_gN (pc := 46) (Ls := #[rv x1, rv x2, rv x2, rv a1, iv 0, .unset, .unset]) (stk := []) X5_ hx hZ hown (wt hw 23 rfl) e5_ B2.2.2.2.1 hby (D35 23) (D35 24) rfl
 refine ⟨_, _, _, _, some (.int 1), X6_, (by exact own_b rfl), (by exact own_b rfl), nofun, (by show Q_rmEq Z x1 x2 a1 a2 m1 h0 n0 _ T6_.heap _; rw [e6_]; exact ⟨rfl, N0, rfl⟩), fun fs hr => ?_⟩
 refine kaN X0 hx hby (D35 0) rfl rfl ?_
 refine kaN X0 hx hby (D35 1) rfl rfl ?_
 refine Jvm.RoadKit.acmp (g := (mkF m 2 #[rv x1, rv x2, .unset, .unset, .unset, .unset, .unset] [(.ref x1), (.ref x2)])) X0 hx rfl rfl rfl (pc0 := 2) (pc' := 7) (same := false) rfl (hb hby (D35 2)) rfl (decide_eq_false fun q => (Ne.symm ne) (Value.ref.inj q)) (by decide) (by decide) ?_
 refine kaN X0 hx hby (D35 5) rfl rfl ?_
 show Steps p.tables e below (s₁.setTop (mkF m 8 #[rv x1, rv x2, .unset, .unset, .unset, .unset, .unset] [(.ref x2)])) _
 refine st1_ _ ?_
 show Steps p.tables e below (T1_.setTop (mkF m 11 #[rv x1, rv x2, .unset, .unset, .unset, .unset, .unset] [(.int 1)])) _
 refine kfN X1_ hx hby (D35 7) ((if0 _ _).trans (feq ((by decide) : ¬ ((1 : Int32) = (0 : Int32)))).1) ?_
 refine kaN X1_ hx hby (D35 8) rfl rfl ?_
 show Steps p.tables e below (T1_.setTop (mkF m 15 #[rv x1, rv x2, .unset, .unset, .unset, .unset, .unset] [(.ref x2)])) _
 refine st2_ _ ?_
 show Steps p.tables e below (T2_.setTop (mkF m 18 #[rv x1, rv x2, .unset, .unset, .unset, .unset, .unset] [(.ref x2)])) _
 refine ktN X2_ hx hby (D35 10) rfl (l' := #[rv x1, rv x2, rv x2, .unset, .unset, .unset, .unset]) rfl ?_
 refine kg X2_ hx (pc0 := 19) (pc' := 24) rfl hby (D35 11) (by decide) (by decide) ?_
 refine st3_ _ ?_
 refine st4_ _ ?_
 refine kcY X4_ hx (pc0 := 32) (pc' := 37) rfl hby (D35 16) (teq (rfl : (own_sg m1) = (own_sg m1))).1 (by decide) (by decide) ?_
 refine st5_ _ ?_
 refine ktN X5_ hx hby (D35 19) rfl (l' := #[rv x1, rv x2, rv x2, rv a1, .unset, .unset, .unset]) rfl ?_
 refine kaN X5_ hx hby (D35 20) rfl rfl ?_
 refine own_al X5_ hx hZ e5_ Vq1 hby (D35 21) ?_
 refine ks X5_ hx hby (D35 22) (l' := #[rv x1, rv x2, rv x2, rv a1, iv 0, .unset, .unset]) rfl ?_
 refine st6_ _ ?_
 refine kastore X6_ hx hby (D35 25) rfl (l' := #[rv x1, rv x2, rv x2, rv a1, iv 0, rv a2, .unset]) rfl ?_
 refine ki X6_ hx hby (D35 26) rfl ?_
 refine ka X6_ hx hby (D35 27) rfl rfl ?_
 refine own_al X6_ hx hZ e6_ Vq2 hby (D35 28) ?_
 refine kcY X6_ hx (pc0 := 57) (pc' := 62) rfl hby (D35 29) (teq ((by decide) : (0 : Int32) = (0 : Int32))).1 (by decide) (by decide) ?_
 refine kc X6_ hx hby (D35 30) ?_
 refine ks X6_ hx hby (D35 31) (l' := #[rv x1, rv x2, rv x2, rv a1, iv 0, rv a2, iv 0]) rfl ?_
 refine ki X6_ hx hby (D35 32) rfl ?_
 refine ki X6_ hx hby (D35 33) rfl ?_
 refine kcY X6_ hx (pc0 := 69) (pc' := 92) rfl hby (D35 34) (flt ((by decide) : ¬ ((0 : Int32) < (0 : Int32)))).2.1 (by decide) (by decide) ?_
 refine kc X6_ hx hby (D35 35) ?_
 exact retN X6_ hx (t := .boolean) hret (by simp) (hb hby (D35 36)) hr
theorem eqS (l : Launch) (Z : State) (a0 : Array Value) (hw : own_W Z a0) (ws : List Jvm.Cond) (x1 : Addr) (a1 : Addr) (a2 : Addr) (m1 : Int) (h0 : Heap) (n0 : Nat) (Z0 : n0 ≤ h0.size) (B1 : own_BI Z h0 x1 a1 m1) : own_Met l Y35 jdk_2097_method_124_code 7 (some .boolean) ⟨0, 0, 0, 0⟩ ws #[(.ref x1), (.ref x1)] Z h0 (Q_rmEq Z x1 x1 a1 a2 m1 h0 n0) := by
 refine own_go (plainFor_of_name pn_java_math_BigInteger) (fun m => ef35_RR m x1 x1) fun p e s m below meth c s₁ hx hby hml hown hnm hret hZ e0 X0 => ?_
 have N0 := Fr.nil n0
 refine ⟨_, _, _, _, some (.int 1), X0, (by exact own_b rfl), (by exact own_b rfl), nofun, (by show Q_rmEq Z x1 x1 a1 a2 m1 h0 n0 _ s₁.heap _; rw [e0]; exact ⟨rfl, N0, rfl⟩), fun fs hr => ?_⟩
 refine kaN X0 hx hby (D35 0) rfl rfl ?_
 refine kaN X0 hx hby (D35 1) rfl rfl ?_
 refine Jvm.RoadKit.acmp (g := (mkF m 2 #[rv x1, rv x1, .unset, .unset, .unset, .unset, .unset] [(.ref x1), (.ref x1)])) X0 hx rfl rfl rfl (pc0 := 2) (pc' := 5) (same := true) rfl (hb hby (D35 2)) rfl (decide_eq_true rfl) (by decide) (by decide) ?_
 refine kc X0 hx hby (D35 3) ?_
 exact retN X0 hx (t := .boolean) hret (by simp) (hb hby (D35 4)) hr
theorem eq1 (l : Launch) (Z : State) (a0 : Array Value) (hw : own_W Z a0) (ws : List Jvm.Cond) (x1 : Addr) (x2 : Addr) (a1 : Addr) (a2 : Addr) (m1 : Int) (h0 : Heap) (n0 : Nat) (Z0 : n0 ≤ h0.size) (B1 : own_BI Z h0 x1 a1 m1) (B2 : own_BI Z h0 x2 a2 m1) (ne : x1 ≠ x2) (em : m1.natAbs ≠ 0 ∧ m1.natAbs < 4294967296) : own_Met l Y35 jdk_2097_method_124_code 7 (some .boolean) ⟨0, 0, 0, 0⟩ ws #[(.ref x1), (.ref x2)] Z h0 (Q_rmEq Z x1 x2 a1 a2 m1 h0 n0) := by
 refine own_go (plainFor_of_name pn_java_math_BigInteger) (fun m => ef35_RR m x1 x2) fun p e s m below meth c s₁ hx hby hml hown hnm hret hZ e0 X0 => ?_
 have N0 := Fr.nil n0
 obtain ⟨kq1, Vq1⟩ := B1.2.2.2.2
 rw [own_len1 em.1 em.2, own_mag1 em.1 em.2] at Vq1
 obtain ⟨kq2, Vq2⟩ := B2.2.2.2.2
 rw [own_len1 em.1 em.2, own_mag1 em.1 em.2] at Vq2
 obtain ⟨T1_, X1_, e1_, st1_⟩ := instY X0 hx hZ hown (wt hw 5 rfl) e0 (Ins.self B2.1) (g := (mkF m 8 #[rv x1, rv x2, .unset, .unset, .unset, .unset, .unset] [(.ref x2)])) rfl rfl (hb hby (D35 6))
 obtain ⟨T2_, X2_, e2_, st2_⟩ := castY X1_ hx hZ hown (wt hw 5 rfl) e1_ (Ins.self B2.1) (g := (mkF m 15 #[rv x1, rv x2, .unset, .unset, .unset, .unset, .unset] [(.ref x2)])) rfl rfl (hb hby (D35 9))
 obtain ⟨T3_, X3_, e3_, st3_⟩ := own_gN (pc := 24) (Ls := #[rv x1, rv x2, rv x2, .unset, .unset, .unset, .unset]) (stk := []) X2_ hx hZ hown (wt hw 20 rfl) e2_ B2.2.2.1 hby (D35 12) (D35 13) rfl
 obtain ⟨T4_, X4_, e4_, st4_⟩ := own_gN (pc := 28) (Ls := #[rv x1, rv x2, rv x2, .unset, .unset, .unset, .unset]) (stk := [(.int (own_sg m1))]) X3_ hx hZ hown (wt hw 20 rfl) e3_ B1.2.2.1 hby (D35 14) (D35 15) rfl
 obtain ⟨T5_, X5_, e5_, st5_⟩ := own_gN (pc := 37) (Ls := #[rv x1, rv x2, rv x2, .unset, .unset, .unset, .unset]) (stk := []) X4_ hx hZ hown (wt hw 23 rfl) e4_ B1.2.2.2.1 hby (D35 17) (D35 18) rfl
 obtain ⟨T6_, X6_, e6_, st6_⟩ := own_gN (pc := 46) (Ls := #[rv x1, rv x2, rv x2, rv a1, iv 1, .unset, .unset]) (stk := []) X5_ hx hZ hown (wt hw 23 rfl) e5_ B2.2.2.2.1 hby (D35 23) (D35 24) rfl
 refine ⟨_, _, _, _, some (.int 1), X6_, (by exact own_b rfl), (by exact own_b rfl), nofun, (by show Q_rmEq Z x1 x2 a1 a2 m1 h0 n0 _ T6_.heap _; rw [e6_]; exact ⟨rfl, N0, rfl⟩), fun fs hr => ?_⟩
 refine kaN X0 hx hby (D35 0) rfl rfl ?_
 refine kaN X0 hx hby (D35 1) rfl rfl ?_
 refine Jvm.RoadKit.acmp (g := (mkF m 2 #[rv x1, rv x2, .unset, .unset, .unset, .unset, .unset] [(.ref x1), (.ref x2)])) X0 hx rfl rfl rfl (pc0 := 2) (pc' := 7) (same := false) rfl (hb hby (D35 2)) rfl (decide_eq_false fun q => (Ne.symm ne) (Value.ref.inj q)) (by decide) (by decide) ?_
 refine kaN X0 hx hby (D35 5) rfl rfl ?_
 show Steps p.tables e below (s₁.setTop (mkF m 8 #[rv x1, rv x2, .unset, .unset, .unset, .unset, .unset] [(.ref x2)])) _
 refine st1_ _ ?_
 show Steps p.tables e below (T1_.setTop (mkF m 11 #[rv x1, rv x2, .unset, .unset, .unset, .unset, .unset] [(.int 1)])) _
 refine kfN X1_ hx hby (D35 7) ((if0 _ _).trans (feq ((by decide) : ¬ ((1 : Int32) = (0 : Int32)))).1) ?_
 refine kaN X1_ hx hby (D35 8) rfl rfl ?_
 show Steps p.tables e below (T1_.setTop (mkF m 15 #[rv x1, rv x2, .unset, .unset, .unset, .unset, .unset] [(.ref x2)])) _
 refine st2_ _ ?_
 show Steps p.tables e below (T2_.setTop (mkF m 18 #[rv x1, rv x2, .unset, .unset, .unset, .unset, .unset] [(.ref x2)])) _
 refine ktN X2_ hx hby (D35 10) rfl (l' := #[rv x1, rv x2, rv x2, .unset, .unset, .unset, .unset]) rfl ?_
 refine kg X2_ hx (pc0 := 19) (pc' := 24) rfl hby (D35 11) (by decide) (by decide) ?_
 refine st3_ _ ?_
 refine st4_ _ ?_
 refine kcY X4_ hx (pc0 := 32) (pc' := 37) rfl hby (D35 16) (teq (rfl : (own_sg m1) = (own_sg m1))).1 (by decide) (by decide) ?_
 refine st5_ _ ?_
 refine ktN X5_ hx hby (D35 19) rfl (l' := #[rv x1, rv x2, rv x2, rv a1, .unset, .unset, .unset]) rfl ?_
 refine kaN X5_ hx hby (D35 20) rfl rfl ?_
 refine own_al X5_ hx hZ e5_ Vq1 hby (D35 21) ?_
 refine ks X5_ hx hby (D35 22) (l' := #[rv x1, rv x2, rv x2, rv a1, iv 1, .unset, .unset]) rfl ?_
 refine st6_ _ ?_
 refine kastore X6_ hx hby (D35 25) rfl (l' := #[rv x1, rv x2, rv x2, rv a1, iv 1, rv a2, .unset]) rfl ?_
 refine ki X6_ hx hby (D35 26) rfl ?_
 refine ka X6_ hx hby (D35 27) rfl rfl ?_
 refine own_al X6_ hx hZ e6_ Vq2 hby (D35 28) ?_
 refine kcY X6_ hx (pc0 := 57) (pc' := 62) rfl hby (D35 29) (teq ((by decide) : (1 : Int32) = (1 : Int32))).1 (by decide) (by decide) ?_
 refine kc X6_ hx hby (D35 30) ?_
 refine ks X6_ hx hby (D35 31) (l' := #[rv x1, rv x2, rv x2, rv a1, iv 1, rv a2, iv 0]) rfl ?_
 refine ki X6_ hx hby (D35 32) rfl ?_
 refine ki X6_ hx hby (D35 33) rfl ?_
 refine kcN X6_ hx hby (D35 34) (tlt ((by decide) : (0 : Int32) < (1 : Int32))).2.1 ?_
 refine ka X6_ hx hby (D35 37) rfl rfl ?_
 refine ki X6_ hx hby (D35 38) rfl ?_
 refine own_ia X6_ hx hZ e6_ Vq2 ⟨by decide, by decide⟩ rfl hby (D35 39) ?_
 refine kaN X6_ hx hby (D35 40) rfl rfl ?_
 refine ki X6_ hx hby (D35 41) rfl ?_
 refine own_ia X6_ hx hZ e6_ Vq1 ⟨by decide, by decide⟩ rfl hby (D35 42) ?_
 refine kcY X6_ hx (pc0 := 81) (pc' := 86) rfl hby (D35 43) (teq (rfl : (own_w m1.natAbs) = (own_w m1.natAbs))).1 (by decide) (by decide) ?_
 refine kn X6_ hx hby (D35 44) rfl (l' := #[rv x1, rv x2, rv x2, rv a1, iv 1, rv a2, iv 1]) rfl ?_
 refine kg X6_ hx (pc0 := 89) (pc' := 65) rfl hby (D35 45) (by decide) (by decide) ?_
 refine ki X6_ hx hby (D35 32) rfl ?_
 refine ki X6_ hx hby (D35 33) rfl ?_
 refine kcY X6_ hx (pc0 := 69) (pc' := 92) rfl hby (D35 34) (flt ((by decide) : ¬ ((1 : Int32) < (1 : Int32)))).2.1 (by decide) (by decide) ?_
 refine kc X6_ hx hby (D35 35) ?_
 exact retN X6_ hx (t := .boolean) hret (by simp) (hb hby (D35 36)) hr
theorem eq2 (l : Launch) (Z : State) (a0 : Array Value) (hw : own_W Z a0) (ws : List Jvm.Cond) (x1 : Addr) (x2 : Addr) (a1 : Addr) (a2 : Addr) (m1 : Int) (h0 : Heap) (n0 : Nat) (Z0 : n0 ≤ h0.size) (B1 : own_BI Z h0 x1 a1 m1) (B2 : own_BI Z h0 x2 a2 m1) (ne : x1 ≠ x2) (em : 4294967296 ≤ m1.natAbs) : own_Met l Y35 jdk_2097_method_124_code 7 (some .boolean) ⟨0, 0, 0, 0⟩ ws #[(.ref x1), (.ref x2)] Z h0 (Q_rmEq Z x1 x2 a1 a2 m1 h0 n0) := by
 refine own_go (plainFor_of_name pn_java_math_BigInteger) (fun m => ef35_RR m x1 x2) fun p e s m below meth c s₁ hx hby hml hown hnm hret hZ e0 X0 => ?_
 have N0 := Fr.nil n0
 obtain ⟨kq1, Vq1⟩ := B1.2.2.2.2
 rw [own_len2 em, own_mag2 em] at Vq1
 obtain ⟨kq2, Vq2⟩ := B2.2.2.2.2
 rw [own_len2 em, own_mag2 em] at Vq2
 obtain ⟨T1_, X1_, e1_, st1_⟩ := instY X0 hx hZ hown (wt hw 5 rfl) e0 (Ins.self B2.1) (g := (mkF m 8 #[rv x1, rv x2, .unset, .unset, .unset, .unset, .unset] [(.ref x2)])) rfl rfl (hb hby (D35 6))
 obtain ⟨T2_, X2_, e2_, st2_⟩ := castY X1_ hx hZ hown (wt hw 5 rfl) e1_ (Ins.self B2.1) (g := (mkF m 15 #[rv x1, rv x2, .unset, .unset, .unset, .unset, .unset] [(.ref x2)])) rfl rfl (hb hby (D35 9))
 obtain ⟨T3_, X3_, e3_, st3_⟩ := own_gN (pc := 24) (Ls := #[rv x1, rv x2, rv x2, .unset, .unset, .unset, .unset]) (stk := []) X2_ hx hZ hown (wt hw 20 rfl) e2_ B2.2.2.1 hby (D35 12) (D35 13) rfl
 obtain ⟨T4_, X4_, e4_, st4_⟩ := own_gN (pc := 28) (Ls := #[rv x1, rv x2, rv x2, .unset, .unset, .unset, .unset]) (stk := [(.int (own_sg m1))]) X3_ hx hZ hown (wt hw 20 rfl) e3_ B1.2.2.1 hby (D35 14) (D35 15) rfl
 obtain ⟨T5_, X5_, e5_, st5_⟩ := own_gN (pc := 37) (Ls := #[rv x1, rv x2, rv x2, .unset, .unset, .unset, .unset]) (stk := []) X4_ hx hZ hown (wt hw 23 rfl) e4_ B1.2.2.2.1 hby (D35 17) (D35 18) rfl
 obtain ⟨T6_, X6_, e6_, st6_⟩ := own_gN (pc := 46) (Ls := #[rv x1, rv x2, rv x2, rv a1, iv 2, .unset, .unset]) (stk := []) X5_ hx hZ hown (wt hw 23 rfl) e5_ B2.2.2.2.1 hby (D35 23) (D35 24) rfl
 refine ⟨_, _, _, _, some (.int 1), X6_, (by exact own_b rfl), (by exact own_b rfl), nofun, (by show Q_rmEq Z x1 x2 a1 a2 m1 h0 n0 _ T6_.heap _; rw [e6_]; exact ⟨rfl, N0, rfl⟩), fun fs hr => ?_⟩
 refine kaN X0 hx hby (D35 0) rfl rfl ?_
 refine kaN X0 hx hby (D35 1) rfl rfl ?_
 refine Jvm.RoadKit.acmp (g := (mkF m 2 #[rv x1, rv x2, .unset, .unset, .unset, .unset, .unset] [(.ref x1), (.ref x2)])) X0 hx rfl rfl rfl (pc0 := 2) (pc' := 7) (same := false) rfl (hb hby (D35 2)) rfl (decide_eq_false fun q => (Ne.symm ne) (Value.ref.inj q)) (by decide) (by decide) ?_
 refine kaN X0 hx hby (D35 5) rfl rfl ?_
 show Steps p.tables e below (s₁.setTop (mkF m 8 #[rv x1, rv x2, .unset, .unset, .unset, .unset, .unset] [(.ref x2)])) _
 refine st1_ _ ?_
 show Steps p.tables e below (T1_.setTop (mkF m 11 #[rv x1, rv x2, .unset, .unset, .unset, .unset, .unset] [(.int 1)])) _
 refine kfN X1_ hx hby (D35 7) ((if0 _ _).trans (feq ((by decide) : ¬ ((1 : Int32) = (0 : Int32)))).1) ?_
 refine kaN X1_ hx hby (D35 8) rfl rfl ?_
 show Steps p.tables e below (T1_.setTop (mkF m 15 #[rv x1, rv x2, .unset, .unset, .unset, .unset, .unset] [(.ref x2)])) _
 refine st2_ _ ?_
 show Steps p.tables e below (T2_.setTop (mkF m 18 #[rv x1, rv x2, .unset, .unset, .unset, .unset, .unset] [(.ref x2)])) _
 refine ktN X2_ hx hby (D35 10) rfl (l' := #[rv x1, rv x2, rv x2, .unset, .unset, .unset, .unset]) rfl ?_
 refine kg X2_ hx (pc0 := 19) (pc' := 24) rfl hby (D35 11) (by decide) (by decide) ?_
 refine st3_ _ ?_
 refine st4_ _ ?_
 refine kcY X4_ hx (pc0 := 32) (pc' := 37) rfl hby (D35 16) (teq (rfl : (own_sg m1) = (own_sg m1))).1 (by decide) (by decide) ?_
 refine st5_ _ ?_
 refine ktN X5_ hx hby (D35 19) rfl (l' := #[rv x1, rv x2, rv x2, rv a1, .unset, .unset, .unset]) rfl ?_
 refine kaN X5_ hx hby (D35 20) rfl rfl ?_
 refine own_al X5_ hx hZ e5_ Vq1 hby (D35 21) ?_
 refine ks X5_ hx hby (D35 22) (l' := #[rv x1, rv x2, rv x2, rv a1, iv 2, .unset, .unset]) rfl ?_
 refine st6_ _ ?_
 refine kastore X6_ hx hby (D35 25) rfl (l' := #[rv x1, rv x2, rv x2, rv a1, iv 2, rv a2, .unset]) rfl ?_
 refine ki X6_ hx hby (D35 26) rfl ?_
 refine ka X6_ hx hby (D35 27) rfl rfl ?_
 refine own_al X6_ hx hZ e6_ Vq2 hby (D35 28) ?_
 refine kcY X6_ hx (pc0 := 57) (pc' := 62) rfl hby (D35 29) (teq ((by decide) : (2 : Int32) = (2 : Int32))).1 (by decide) (by decide) ?_
 refine kc X6_ hx hby (D35 30) ?_
 refine ks X6_ hx hby (D35 31) (l' := #[rv x1, rv x2, rv x2, rv a1, iv 2, rv a2, iv 0]) rfl ?_
 refine ki X6_ hx hby (D35 32) rfl ?_
 refine ki X6_ hx hby (D35 33) rfl ?_
 refine kcN X6_ hx hby (D35 34) (tlt ((by decide) : (0 : Int32) < (2 : Int32))).2.1 ?_
 refine ka X6_ hx hby (D35 37) rfl rfl ?_
 refine ki X6_ hx hby (D35 38) rfl ?_
 refine own_ia X6_ hx hZ e6_ Vq2 ⟨by decide, by decide⟩ rfl hby (D35 39) ?_
 refine kaN X6_ hx hby (D35 40) rfl rfl ?_
 refine ki X6_ hx hby (D35 41) rfl ?_
 refine own_ia X6_ hx hZ e6_ Vq1 ⟨by decide, by decide⟩ rfl hby (D35 42) ?_
 refine kcY X6_ hx (pc0 := 81) (pc' := 86) rfl hby (D35 43) (teq (rfl : (own_w (m1.natAbs / 4294967296)) = (own_w (m1.natAbs / 4294967296)))).1 (by decide) (by decide) ?_
 refine kn X6_ hx hby (D35 44) rfl (l' := #[rv x1, rv x2, rv x2, rv a1, iv 2, rv a2, iv 1]) rfl ?_
 refine kg X6_ hx (pc0 := 89) (pc' := 65) rfl hby (D35 45) (by decide) (by decide) ?_
 refine ki X6_ hx hby (D35 32) rfl ?_
 refine ki X6_ hx hby (D35 33) rfl ?_
 refine kcN X6_ hx hby (D35 34) (tlt ((by decide) : (1 : Int32) < (2 : Int32))).2.1 ?_
 refine ka X6_ hx hby (D35 37) rfl rfl ?_
 refine ki X6_ hx hby (D35 38) rfl ?_
 refine own_ia X6_ hx hZ e6_ Vq2 ⟨by decide, by decide⟩ rfl hby (D35 39) ?_
 refine kaN X6_ hx hby (D35 40) rfl rfl ?_
 refine ki X6_ hx hby (D35 41) rfl ?_
 refine own_ia X6_ hx hZ e6_ Vq1 ⟨by decide, by decide⟩ rfl hby (D35 42) ?_
 refine kcY X6_ hx (pc0 := 81) (pc' := 86) rfl hby (D35 43) (teq (rfl : (own_w m1.natAbs) = (own_w m1.natAbs))).1 (by decide) (by decide) ?_
 refine kn X6_ hx hby (D35 44) rfl (l' := #[rv x1, rv x2, rv x2, rv a1, iv 2, rv a2, iv 2]) rfl ?_
 refine kg X6_ hx (pc0 := 89) (pc' := 65) rfl hby (D35 45) (by decide) (by decide) ?_
 refine ki X6_ hx hby (D35 32) rfl ?_
 refine ki X6_ hx hby (D35 33) rfl ?_
 refine kcY X6_ hx (pc0 := 69) (pc' := 92) rfl hby (D35 34) (flt ((by decide) : ¬ ((2 : Int32) < (2 : Int32)))).2.1 (by decide) (by decide) ?_
 refine kc X6_ hx hby (D35 35) ?_
 exact retN X6_ hx (t := .boolean) hret (by simp) (hb hby (D35 36)) hr
theorem rmEq (l : Launch) (Z : State) (a0 : Array Value) (hw : own_W Z a0) (ws : List Jvm.Cond) (x1 : Addr) (x2 : Addr) (a1 : Addr) (a2 : Addr) (m1 : Int) (h0 : Heap) (n0 : Nat) (Z0 : n0 ≤ h0.size) (B1 : own_BI Z h0 x1 a1 m1) (B2 : own_BI Z h0 x2 a2 m1) :
    own_Met l Y35 jdk_2097_method_124_code 7 (some .boolean) ⟨0, 0, 0, 0⟩ ws #[(.ref x1), (.ref x2)] Z h0 (Q_rmEq Z x1 x2 a1 a2 m1 h0 n0) := by
  by_cases c : x1 = x2
  · subst c
    exact eqS l Z a0 hw ws x1 a1 a2 m1 h0 n0 Z0 B1
  · by_cases d : m1.natAbs = 0
    · exact eq0 l Z a0 hw ws _ _ _ _ _ h0 n0 Z0 B1 B2 c d
    · by_cases d2 : m1.natAbs < 4294967296
      · exact eq1 l Z a0 hw ws _ _ _ _ _ h0 n0 Z0 B1 B2 c ⟨d, d2⟩
      · exact eq2 l Z a0 hw ws _ _ _ _ _ h0 n0 Z0 B1 B2 c (by omega)
def Q_rmBJ (Z : State) (x1 : Addr) (v1 : Int64) (h0 : Heap) (n0 : Nat) (v : Option Value) (h : Heap) (L : List Loc) : Prop := ∃ (a1 : Addr), v = none ∧ Fr n0 L ∧ Keep h0 h [x1] ∧ (own_BI Z h x1 a1 (Int64.toInt v1)) ∧ (h0.size ≤ a1)
abbrev Y2 : MethodName := ⟨"java/math/BigInteger", "<init>", "(J)V"⟩
theorem ef2_RJ (m : MethodId) (x0 : Addr) (x1 : Int64) : entryFrame m #[(.ref x0), (.long x1)] 4 = mkF m 0 #[rv x0, lv x1, .second, .unset] [] := by first | (simp [entryFrame, mkF, argsToLocals, Value.category]; done) | rfl
theorem bjn1 (l : Launch) (Z : State) (a0 : Array Value) (hw : own_W Z a0) (ws : List Jvm.Cond) (x1 : Addr) (v1 : Int64) (u1 : Int64) (w1 : Int32) (h0 : Heap) (n0 : Nat) (Z0 : n0 ≤ h0.size) (X1 : Exa Z h0 x1 "java/math/BigInteger") (X2 : Fld Z h0 x1 "java/math/BigInteger" "signum" "I" (.int 0)) (X3 : Fld Z h0 x1 "java/math/BigInteger" "mag" "[I" .null) (g1 : n0 ≤ x1) (eu : (-v1) = u1) (ew : (((u1.toUInt64 >>> ((32 : Int32) &&& 0x3f).toInt64.toUInt64).toInt64).toInt32) = w1) (gv : v1 < (0 : Int64)) (gw : w1 = (0 : Int32)) (es : (-1 : Int32) = own_sg (Int64.toInt v1)) (el : own_len (Int64.toInt v1).natAbs = (1 : Int32) ∧ own_mag (Int64.toInt v1).natAbs = [.int (u1.toInt32)]) : own_Met l Y2 jdk_2097_method_30_code 4 none ⟨2, 1, 2, 24⟩ ws #[(.ref x1), (.long v1)] Z h0 (Q_rmBJ Z x1 v1 h0 n0) := by
 refine own_go (plainFor_of_name pn_java_math_BigInteger) (fun m => ef2_RJ m x1 v1) fun p e s m below meth c s₁ hx hby hml hown hnm hret hZ e0 X0 => ?_
 have N0 := Fr.nil n0
 obtain ⟨T1_, Lc1_, v1_, X1_, hQ1_, st1_⟩ := own_cI (y := Y3) X0 hx hZ hown (wt hw 11 rfl) (wt hw 12 rfl) (wt hw 16 rfl) (wt hw 15 rfl) rfl (by decide) (rmNu l Z a0 hw [] x1 h0 n0 Z0 ) e0 (pc := 1) (Ls := #[rv x1, lv v1, .second, .unset]) (stk := [(.ref x1)]) (rest := []) (by rw [hml]; rfl) pd3 rfl rfl (W := 0) rfl hby (D2 1) (by decide) (by decide) (by exact own_b rfl) (by exact own_b rfl)
 obtain ⟨rfl, Nq1_, ek1_⟩ := hQ1_
 have N1_ := Fr.app N0 Nq1_
 obtain ⟨T2_, h2_, X2_, e2_, W2_, w2_, N2_, st2_⟩ := own_pf (pc := 15) (Ls := #[rv x1, lv u1, .second, .unset]) (stk := [(.int (-1 : Int32)), (.ref x1)]) X1_ hx hZ hown (wt hw 20 rfl) ek1_ X2 X1 (Or.inr ⟨(wt hw 21 rfl), rfl, hnm⟩) (wt hw 6 rfl) (ty := .int) (by decide) rfl rfl N1_ g1 hby (D2 11) rfl
 obtain ⟨T3_, h3_, k3_, X3_, e3_, E3_, A3_, Y3_, st3_⟩ := newPE X2_ hx hZ (wt hw 22 rfl) e2_ (g := (mkF m 38 #[rv x1, lv u1, .second, iv w1] [(.int 1), (.ref x1)])) rfl (hb hby (D2 22)) rfl (by decide) (cap := 1) (by decide) (by decide) (by exact own_b rfl) (by exact own_b rfl) (ad := "[I") (by decide +kernel)
 obtain ⟨b3_, g3_⟩ : ∃ z, z = h2_.size := ⟨_, rfl⟩
 rw [← g3_] at A3_ Y3_ st3_
 have v3_ : Arv Z h3_ b3_ k3_ .int (1 : Int32) [(.int 0)] (.int 0) := (Arv.new A3_ (by decide)).pad (pad_rep [] (.int 0) 1)
 have f4_ := (X1.wr W2_).ext E3_
 have f5_ := (X3.other W2_ (Or.inr (slot_ne (Or.inr (wt hw 24 rfl)) (Or.inr (wt hw 21 rfl)) (by decide) (t := (.array .int)) (t' := .int) (by decide) (by decide)))).ext E3_
 obtain ⟨T6_, h6_, X6_, e6_, W6_, w6_, N6_, st6_⟩ := own_pf (pc := 40) (Ls := #[rv x1, lv u1, .second, iv w1]) (stk := [(.ref b3_), (.ref x1)]) X3_ hx hZ hown (wt hw 23 rfl) e3_ f5_ f4_ (Or.inr ⟨(wt hw 24 rfl), rfl, hnm⟩) (wt hw 6 rfl) (ty := (.array .int)) (by decide) rfl rfl N2_ g1 hby (D2 23) rfl
 obtain ⟨T7_, X7_, e7_, st7_⟩ := own_gN (pc := 43) (Ls := #[rv x1, lv u1, .second, iv w1]) (stk := []) X6_ hx hZ hown (wt hw 23 rfl) e6_ w6_ hby (D2 24) (D2 25) rfl
 have f8_ := v3_.other W6_ (Ne.symm (Nat.ne_of_lt (Nat.lt_of_lt_of_le (X1.wr W2_).lt (Nat.le_of_eq g3_.symm))))
 have z11_ : n0 ≤ h2_.size := Nat.le_trans Z0 (Keep.of_wr W2_).1
 have g10_ : n0 ≤ b3_ := Nat.le_trans z11_ (Nat.le_of_eq g3_.symm)
 obtain ⟨T9_, h9_, X9_, e9_, W9_, v9_, N9_, st9_⟩ := own_si (pc := 50) (Ls := #[rv x1, lv u1, .second, iv w1]) (stk := [(.int (u1.toInt32)), (.int 0), (.ref b3_)]) X7_ hx hZ e7_ f8_ ⟨by decide, by decide⟩ 0 rfl (Nat.le_of_ble_eq_true rfl) N6_ g10_ hby (D2 29) rfl
 have f12_ := (f4_.wr W6_).wr W9_
 have f13_ := (Y3_.wr W6_).wr W9_
 have f14_ := ((w2_.ext E3_).other W6_ (Or.inr (slot_ne (Or.inr (wt hw 21 rfl)) (Or.inr (wt hw 24 rfl)) (by decide) (t := .int) (t' := (.array .int)) (by decide) (by decide)))).other W9_ (Or.inl (Nat.ne_of_lt (Nat.lt_of_lt_of_le (X1.wr W2_).lt (Nat.le_of_eq g3_.symm))))
 have f15_ := w6_.other W9_ (Or.inl (Nat.ne_of_lt (Nat.lt_of_lt_of_le (X1.wr W2_).lt (Nat.le_of_eq g3_.symm))))
 have bi_ : own_BI Z h9_ x1 b3_ (Int64.toInt v1) := ⟨f12_, f13_, (by rw [← es]; exact f14_), f15_, _, (by rw [el.1, el.2]; exact v9_)⟩
 have k16_ := (Keep.refl h0 [x1]).wr W2_ (own_in 0 rfl)
 have k17_ := k16_.ext E3_
 have k18_ := k17_.wr W6_ (own_in 0 rfl)
 have k19_ := k18_.wr W9_ (Or.inr (Nat.le_trans k16_.1 (Nat.le_of_eq g3_.symm)))
 refine ⟨_, _, _, _, none, X9_, (by exact own_b rfl), (by exact own_b rfl), (fun _ => rfl), (by show Q_rmBJ Z x1 v1 h0 n0 _ T9_.heap _; rw [e9_]; exact ⟨b3_, rfl, N9_, k19_, bi_, (Nat.le_trans k16_.1 (Nat.le_of_eq g3_.symm))⟩), fun fs hr => ?_⟩
 refine kaN X0 hx hby (D2 0) rfl rfl ?_
 refine st1_ _ ?_
 refine klloadN X1_ hx hby (D2 2) rfl ?_
 refine klc X1_ hx hby (D2 3) ?_
 refine klcmp X1_ hx hby (D2 4) ?_
 refine kfN X1_ hx hby (D2 5) ((if0 _ _).trans (tlt (((lw_lt _ _).mpr gv) : (lcmpW v1 (0 : Int64)) < (0 : Int32))).2.1) ?_
 refine klloadN X1_ hx hby (D2 6) rfl ?_
 refine klneg X1_ hx hby (D2 7) ?_
 refine own_rJ (eu) ?_
 refine klstoreN X1_ hx hby (D2 8) (l' := #[rv x1, lv u1, .second, .unset]) rfl ?_
 refine kaN X1_ hx hby (D2 9) rfl rfl ?_
 refine kc X1_ hx hby (D2 10) ?_
 refine st2_ _ ?_
 refine kg X2_ hx (pc0 := 18) (pc' := 26) rfl hby (D2 12) (by decide) (by decide) ?_
 refine klloadN X2_ hx hby (D2 13) rfl ?_
 refine kb X2_ hx hby (D2 14) ?_
 refine klushr X2_ hx hby (D2 15) ?_
 refine kl2i X2_ hx hby (D2 16) ?_
 refine own_rI (ew) ?_
 refine ksN X2_ hx hby (D2 17) (l' := #[rv x1, lv u1, .second, iv w1]) rfl ?_
 refine kiN X2_ hx hby (D2 18) rfl ?_
 refine kfN X2_ hx hby (D2 19) ((if0 _ _).trans (teq (gw : w1 = (0 : Int32))).2) ?_
 refine kaN X2_ hx hby (D2 20) rfl rfl ?_
 refine kc X2_ hx hby (D2 21) ?_
 show Steps p.tables e below (T2_.setTop (mkF m 38 #[rv x1, lv u1, .second, iv w1] [(.int 1), (.ref x1)])) _
 refine st3_ _ ?_
 refine st6_ _ ?_
 refine st7_ _ ?_
 show Steps p.tables e below (T7_.setTop (mkF m 47 #[rv x1, lv u1, .second, iv w1] [(.ref b3_)])) _
 refine kc X7_ hx hby (D2 26) ?_
 refine klloadN X7_ hx hby (D2 27) rfl ?_
 refine kl2i X7_ hx hby (D2 28) ?_
 refine st9_ _ ?_
 refine kg X9_ hx (pc0 := 51) (pc' := 76) rfl hby (D2 30) (by decide) (by decide) ?_
 exact X9_.returnOut hx hret (hb hby (D2 31)) hr
theorem bjn2 (l : Launch) (Z : State) (a0 : Array Value) (hw : own_W Z a0) (ws : List Jvm.Cond) (x1 : Addr) (v1 : Int64) (u1 : Int64) (w1 : Int32) (h0 : Heap) (n0 : Nat) (Z0 : n0 ≤ h0.size) (X1 : Exa Z h0 x1 "java/math/BigInteger") (X2 : Fld Z h0 x1 "java/math/BigInteger" "signum" "I" (.int 0)) (X3 : Fld Z h0 x1 "java/math/BigInteger" "mag" "[I" .null) (g1 : n0 ≤ x1) (eu : (-v1) = u1) (ew : (((u1.toUInt64 >>> ((32 : Int32) &&& 0x3f).toInt64.toUInt64).toInt64).toInt32) = w1) (gv : v1 < (0 : Int64)) (gw : ¬ (w1 = (0 : Int32))) (es : (-1 : Int32) = own_sg (Int64.toInt v1)) (el : own_len (Int64.toInt v1).natAbs = (2 : Int32) ∧ own_mag (Int64.toInt v1).natAbs = [.int w1, .int (u1.toInt32)]) : own_Met l Y2 jdk_2097_method_30_code 4 none ⟨2, 1, 2, 24⟩ ws #[(.ref x1), (.long v1)] Z h0 (Q_rmBJ Z x1 v1 h0 n0) := by
 refine own_go (plainFor_of_name pn_java_math_BigInteger) (fun m => ef2_RJ m x1 v1) fun p e s m below meth c s₁ hx hby hml hown hnm hret hZ e0 X0 => ?_
 have N0 := Fr.nil n0
 obtain ⟨T1_, Lc1_, v1_, X1_, hQ1_, st1_⟩ := own_cI (y := Y3) X0 hx hZ hown (wt hw 11 rfl) (wt hw 12 rfl) (wt hw 16 rfl) (wt hw 15 rfl) rfl (by decide) (rmNu l Z a0 hw [] x1 h0 n0 Z0 ) e0 (pc := 1) (Ls := #[rv x1, lv v1, .second, .unset]) (stk := [(.ref x1)]) (rest := []) (by rw [hml]; rfl) pd3 rfl rfl (W := 0) rfl hby (D2 1) (by decide) (by decide) (by exact own_b rfl) (by exact own_b rfl)
 obtain ⟨rfl, Nq1_, ek1_⟩ := hQ1_
 have N1_ := Fr.app N0 Nq1_
 obtain ⟨T2_, h2_, X2_, e2_, W2_, w2_, N2_, st2_⟩ := own_pf (pc := 15) (Ls := #[rv x1, lv u1, .second, .unset]) (stk := [(.int (-1 : Int32)), (.ref x1)]) X1_ hx hZ hown (wt hw 20 rfl) ek1_ X2 X1 (Or.inr ⟨(wt hw 21 rfl), rfl, hnm⟩) (wt hw 6 rfl) (ty := .int) (by decide) rfl rfl N1_ g1 hby (D2 11) rfl
 obtain ⟨T3_, h3_, k3_, X3_, e3_, E3_, A3_, Y3_, st3_⟩ := newPE X2_ hx hZ (wt hw 22 rfl) e2_ (g := (mkF m 56 #[rv x1, lv u1, .second, iv w1] [(.int 2), (.ref x1)])) rfl (hb hby (D2 34)) rfl (by decide) (cap := 2) (by decide) (by decide) (by exact own_b rfl) (by exact own_b rfl) (ad := "[I") (by decide +kernel)
 obtain ⟨b3_, g3_⟩ : ∃ z, z = h2_.size := ⟨_, rfl⟩
 rw [← g3_] at A3_ Y3_ st3_
 have v3_ : Arv Z h3_ b3_ k3_ .int (2 : Int32) [(.int 0), (.int 0)] (.int 0) := (Arv.new A3_ (by decide)).pad (pad_rep [] (.int 0) 2)
 have f4_ := (X1.wr W2_).ext E3_
 have f5_ := (X3.other W2_ (Or.inr (slot_ne (Or.inr (wt hw 24 rfl)) (Or.inr (wt hw 21 rfl)) (by decide) (t := (.array .int)) (t' := .int) (by decide) (by decide)))).ext E3_
 obtain ⟨T6_, h6_, X6_, e6_, W6_, w6_, N6_, st6_⟩ := own_pf (pc := 58) (Ls := #[rv x1, lv u1, .second, iv w1]) (stk := [(.ref b3_), (.ref x1)]) X3_ hx hZ hown (wt hw 23 rfl) e3_ f5_ f4_ (Or.inr ⟨(wt hw 24 rfl), rfl, hnm⟩) (wt hw 6 rfl) (ty := (.array .int)) (by decide) rfl rfl N2_ g1 hby (D2 35) rfl
 obtain ⟨T7_, X7_, e7_, st7_⟩ := own_gN (pc := 61) (Ls := #[rv x1, lv u1, .second, iv w1]) (stk := []) X6_ hx hZ hown (wt hw 23 rfl) e6_ w6_ hby (D2 36) (D2 37) rfl
 have f8_ := v3_.other W6_ (Ne.symm (Nat.ne_of_lt (Nat.lt_of_lt_of_le (X1.wr W2_).lt (Nat.le_of_eq g3_.symm))))
 have z11_ : n0 ≤ h2_.size := Nat.le_trans Z0 (Keep.of_wr W2_).1
 have g10_ : n0 ≤ b3_ := Nat.le_trans z11_ (Nat.le_of_eq g3_.symm)
 obtain ⟨T9_, h9_, X9_, e9_, W9_, v9_, N9_, st9_⟩ := own_si (pc := 67) (Ls := #[rv x1, lv u1, .second, iv w1]) (stk := [(.int w1), (.int 0), (.ref b3_)]) X7_ hx hZ e7_ f8_ ⟨by decide, by decide⟩ 0 rfl (Nat.le_of_ble_eq_true rfl) N6_ g10_ hby (D2 40) rfl
 have f12_ := w6_.other W9_ (Or.inl (Nat.ne_of_lt (Nat.lt_of_lt_of_le (X1.wr W2_).lt (Nat.le_of_eq g3_.symm))))
 obtain ⟨T13_, X13_, e13_, st13_⟩ := own_gN (pc := 68) (Ls := #[rv x1, lv u1, .second, iv w1]) (stk := []) X9_ hx hZ hown (wt hw 23 rfl) e9_ f12_ hby (D2 41) (D2 42) rfl
 obtain ⟨T14_, h14_, X14_, e14_, W14_, v14_, N14_, st14_⟩ := own_si (pc := 75) (Ls := #[rv x1, lv u1, .second, iv w1]) (stk := [(.int (u1.toInt32)), (.int 1), (.ref b3_)]) X13_ hx hZ e13_ v9_ ⟨by decide, by decide⟩ 1 rfl (Nat.le_of_ble_eq_true rfl) N9_ g10_ hby (D2 46) rfl
 have f15_ := ((f4_.wr W6_).wr W9_).wr W14_
 have f16_ := ((Y3_.wr W6_).wr W9_).wr W14_
 have f17_ := (((w2_.ext E3_).other W6_ (Or.inr (slot_ne (Or.inr (wt hw 21 rfl)) (Or.inr (wt hw 24 rfl)) (by decide) (t := .int) (t' := (.array .int)) (by decide) (by decide)))).other W9_ (Or.inl (Nat.ne_of_lt (Nat.lt_of_lt_of_le (X1.wr W2_).lt (Nat.le_of_eq g3_.symm))))).other W14_ (Or.inl (Nat.ne_of_lt (Nat.lt_of_lt_of_le (X1.wr W2_).lt (Nat.le_of_eq g3_.symm))))
 have f18_ := f12_.other W14_ (Or.inl (Nat.ne_of_lt (Nat.lt_of_lt_of_le (X1.wr W2_).lt (Nat.le_of_eq g3_.symm))))
 have bi_ : own_BI Z h14_ x1 b3_ (Int64.toInt v1) := ⟨f15_, f16_, (by rw [← es]; exact f17_), f18_, _, (by rw [el.1, el.2]; exact v14_)⟩
 have k19_ := (Keep.refl h0 [x1]).wr W2_ (own_in 0 rfl)
 have k20_ := k19_.ext E3_
 have k21_ := k20_.wr W6_ (own_in 0 rfl)
 have k22_ := k21_.wr W9_ (Or.inr (Nat.le_trans k19_.1 (Nat.le_of_eq g3_.symm)))
 have k23_ := k22_.wr W14_ (Or.inr (Nat.le_trans k19_.1 (Nat.le_of_eq g3_.symm)))
 refine ⟨_, _, _, _, none, X14_, (by exact own_b rfl), (by exact own_b rfl), (fun _ => rfl), (by show Q_rmBJ Z x1 v1 h0 n0 _ T14_.heap _; rw [e14_]; exact ⟨b3_, rfl, N14_, k23_, bi_, (Nat.le_trans k19_.1 (Nat.le_of_eq g3_.symm))⟩), fun fs hr => ?_⟩
 refine kaN X0 hx hby (D2 0) rfl rfl ?_
 refine st1_ _ ?_
 refine klloadN X1_ hx hby (D2 2) rfl ?_
 refine klc X1_ hx hby (D2 3) ?_
 refine klcmp X1_ hx hby (D2 4) ?_
 refine kfN X1_ hx hby (D2 5) ((if0 _ _).trans (tlt (((lw_lt _ _).mpr gv) : (lcmpW v1 (0 : Int64)) < (0 : Int32))).2.1) ?_
 refine klloadN X1_ hx hby (D2 6) rfl ?_
 refine klneg X1_ hx hby (D2 7) ?_
 refine own_rJ (eu) ?_
 refine klstoreN X1_ hx hby (D2 8) (l' := #[rv x1, lv u1, .second, .unset]) rfl ?_
 refine kaN X1_ hx hby (D2 9) rfl rfl ?_
 refine kc X1_ hx hby (D2 10) ?_
 refine st2_ _ ?_
 refine kg X2_ hx (pc0 := 18) (pc' := 26) rfl hby (D2 12) (by decide) (by decide) ?_
 refine klloadN X2_ hx hby (D2 13) rfl ?_
 refine kb X2_ hx hby (D2 14) ?_
 refine klushr X2_ hx hby (D2 15) ?_
 refine kl2i X2_ hx hby (D2 16) ?_
 refine own_rI (ew) ?_
 refine ksN X2_ hx hby (D2 17) (l' := #[rv x1, lv u1, .second, iv w1]) rfl ?_
 refine kiN X2_ hx hby (D2 18) rfl ?_
 refine kfY X2_ hx (pc0 := 33) (pc' := 54) rfl hby (D2 19) ((if0 _ _).trans (feq (gw : ¬ (w1 = (0 : Int32)))).2) (by decide) (by decide) ?_
 refine kaN X2_ hx hby (D2 32) rfl rfl ?_
 refine kc X2_ hx hby (D2 33) ?_
 show Steps p.tables e below (T2_.setTop (mkF m 56 #[rv x1, lv u1, .second, iv w1] [(.int 2), (.ref x1)])) _
 refine st3_ _ ?_
 refine st6_ _ ?_
 refine st7_ _ ?_
 show Steps p.tables e below (T7_.setTop (mkF m 65 #[rv x1, lv u1, .second, iv w1] [(.ref b3_)])) _
 refine kc X7_ hx hby (D2 38) ?_
 refine kiN X7_ hx hby (D2 39) rfl ?_
 refine st9_ _ ?_
 refine st13_ _ ?_
 refine kc X13_ hx hby (D2 43) ?_
 refine klloadN X13_ hx hby (D2 44) rfl ?_
 refine kl2i X13_ hx hby (D2 45) ?_
 refine st14_ _ ?_
 exact X14_.returnOut hx hret (hb hby (D2 31)) hr
theorem bjp1 (l : Launch) (Z : State) (a0 : Array Value) (hw : own_W Z a0) (ws : List Jvm.Cond) (x1 : Addr) (v1 : Int64) (w1 : Int32) (h0 : Heap) (n0 : Nat) (Z0 : n0 ≤ h0.size) (X1 : Exa Z h0 x1 "java/math/BigInteger") (X2 : Fld Z h0 x1 "java/math/BigInteger" "signum" "I" (.int 0)) (X3 : Fld Z h0 x1 "java/math/BigInteger" "mag" "[I" .null) (g1 : n0 ≤ x1) (ew : (((v1.toUInt64 >>> ((32 : Int32) &&& 0x3f).toInt64.toUInt64).toInt64).toInt32) = w1) (gv : ¬ (v1 < (0 : Int64))) (gw : w1 = (0 : Int32)) (es : (1 : Int32) = own_sg (Int64.toInt v1)) (el : own_len (Int64.toInt v1).natAbs = (1 : Int32) ∧ own_mag (Int64.toInt v1).natAbs = [.int (v1.toInt32)]) : own_Met l Y2 jdk_2097_method_30_code 4 none ⟨2, 1, 2, 24⟩ ws #[(.ref x1), (.long v1)] Z h0 (Q_rmBJ Z x1 v1 h0 n0) := by
 refine own_go (plainFor_of_name pn_java_math_BigInteger) (fun m => ef2_RJ m x1 v1) fun p e s m below meth c s₁ hx hby hml hown hnm hret hZ e0 X0 => ?_
 have N0 := Fr.nil n0
 obtain ⟨T1_, Lc1_, v1_, X1_, hQ1_, st1_⟩ := own_cI (y := Y3) X0 hx hZ hown (wt hw 11 rfl) (wt hw 12 rfl) (wt hw 16 rfl) (wt hw 15 rfl) rfl (by decide) (rmNu l Z a0 hw [] x1 h0 n0 Z0 ) e0 (pc := 1) (Ls := #[rv x1, lv v1, .second, .unset]) (stk := [(.ref x1)]) (rest := []) (by rw [hml]; rfl) pd3 rfl rfl (W := 0) rfl hby (D2 1) (by decide) (by decide) (by exact own_b rfl) (by exact own_b rfl)
 obtain ⟨rfl, Nq1_, ek1_⟩ := hQ1_
 have N1_ := Fr.app N0 Nq1_
 obtain ⟨T2_, h2_, X2_, e2_, W2_, w2_, N2_, st2_⟩ := own_pf (pc := 23) (Ls := #[rv x1, lv v1, .second, .unset]) (stk := [(.int 1), (.ref x1)]) X1_ hx hZ hown (wt hw 20 rfl) ek1_ X2 X1 (Or.inr ⟨(wt hw 21 rfl), rfl, hnm⟩) (wt hw 6 rfl) (ty := .int) (by decide) rfl rfl N1_ g1 hby (D2 49) rfl
 obtain ⟨T3_, h3_, k3_, X3_, e3_, E3_, A3_, Y3_, st3_⟩ := newPE X2_ hx hZ (wt hw 22 rfl) e2_ (g := (mkF m 38 #[rv x1, lv v1, .second, iv w1] [(.int 1), (.ref x1)])) rfl (hb hby (D2 22)) rfl (by decide) (cap := 1) (by decide) (by decide) (by exact own_b rfl) (by exact own_b rfl) (ad := "[I") (by decide +kernel)
 obtain ⟨b3_, g3_⟩ : ∃ z, z = h2_.size := ⟨_, rfl⟩
 rw [← g3_] at A3_ Y3_ st3_
 have v3_ : Arv Z h3_ b3_ k3_ .int (1 : Int32) [(.int 0)] (.int 0) := (Arv.new A3_ (by decide)).pad (pad_rep [] (.int 0) 1)
 have f4_ := (X1.wr W2_).ext E3_
 have f5_ := (X3.other W2_ (Or.inr (slot_ne (Or.inr (wt hw 24 rfl)) (Or.inr (wt hw 21 rfl)) (by decide) (t := (.array .int)) (t' := .int) (by decide) (by decide)))).ext E3_
 obtain ⟨T6_, h6_, X6_, e6_, W6_, w6_, N6_, st6_⟩ := own_pf (pc := 40) (Ls := #[rv x1, lv v1, .second, iv w1]) (stk := [(.ref b3_), (.ref x1)]) X3_ hx hZ hown (wt hw 23 rfl) e3_ f5_ f4_ (Or.inr ⟨(wt hw 24 rfl), rfl, hnm⟩) (wt hw 6 rfl) (ty := (.array .int)) (by decide) rfl rfl N2_ g1 hby (D2 23) rfl
 obtain ⟨T7_, X7_, e7_, st7_⟩ := own_gN (pc := 43) (Ls := #[rv x1, lv v1, .second, iv w1]) (stk := []) X6_ hx hZ hown (wt hw 23 rfl) e6_ w6_ hby (D2 24) (D2 25) rfl
 have f8_ := v3_.other W6_ (Ne.symm (Nat.ne_of_lt (Nat.lt_of_lt_of_le (X1.wr W2_).lt (Nat.le_of_eq g3_.symm))))
 have z11_ : n0 ≤ h2_.size := Nat.le_trans Z0 (Keep.of_wr W2_).1
 have g10_ : n0 ≤ b3_ := Nat.le_trans z11_ (Nat.le_of_eq g3_.symm)
 obtain ⟨T9_, h9_, X9_, e9_, W9_, v9_, N9_, st9_⟩ := own_si (pc := 50) (Ls := #[rv x1, lv v1, .second, iv w1]) (stk := [(.int (v1.toInt32)), (.int 0), (.ref b3_)]) X7_ hx hZ e7_ f8_ ⟨by decide, by decide⟩ 0 rfl (Nat.le_of_ble_eq_true rfl) N6_ g10_ hby (D2 29) rfl
 have f12_ := (f4_.wr W6_).wr W9_
 have f13_ := (Y3_.wr W6_).wr W9_
 have f14_ := ((w2_.ext E3_).other W6_ (Or.inr (slot_ne (Or.inr (wt hw 21 rfl)) (Or.inr (wt hw 24 rfl)) (by decide) (t := .int) (t' := (.array .int)) (by decide) (by decide)))).other W9_ (Or.inl (Nat.ne_of_lt (Nat.lt_of_lt_of_le (X1.wr W2_).lt (Nat.le_of_eq g3_.symm))))
 have f15_ := w6_.other W9_ (Or.inl (Nat.ne_of_lt (Nat.lt_of_lt_of_le (X1.wr W2_).lt (Nat.le_of_eq g3_.symm))))
 have bi_ : own_BI Z h9_ x1 b3_ (Int64.toInt v1) := ⟨f12_, f13_, (by rw [← es]; exact f14_), f15_, _, (by rw [el.1, el.2]; exact v9_)⟩
 have k16_ := (Keep.refl h0 [x1]).wr W2_ (own_in 0 rfl)
 have k17_ := k16_.ext E3_
 have k18_ := k17_.wr W6_ (own_in 0 rfl)
 have k19_ := k18_.wr W9_ (Or.inr (Nat.le_trans k16_.1 (Nat.le_of_eq g3_.symm)))
 refine ⟨_, _, _, _, none, X9_, (by exact own_b rfl), (by exact own_b rfl), (fun _ => rfl), (by show Q_rmBJ Z x1 v1 h0 n0 _ T9_.heap _; rw [e9_]; exact ⟨b3_, rfl, N9_, k19_, bi_, (Nat.le_trans k16_.1 (Nat.le_of_eq g3_.symm))⟩), fun fs hr => ?_⟩
 refine kaN X0 hx hby (D2 0) rfl rfl ?_
 refine st1_ _ ?_
 refine klloadN X1_ hx hby (D2 2) rfl ?_
 refine klc X1_ hx hby (D2 3) ?_
 refine klcmp X1_ hx hby (D2 4) ?_
 refine kfY X1_ hx (pc0 := 7) (pc' := 21) rfl hby (D2 5) ((if0 _ _).trans (flt ((fun q => gv ((lw_lt _ _).mp q)) : ¬ ((lcmpW v1 (0 : Int64)) < (0 : Int32)))).2.1) (by decide) (by decide) ?_
 refine kaN X1_ hx hby (D2 47) rfl rfl ?_
 refine kc X1_ hx hby (D2 48) ?_
 refine st2_ _ ?_
 refine klloadN X2_ hx hby (D2 13) rfl ?_
 refine kb X2_ hx hby (D2 14) ?_
 refine klushr X2_ hx hby (D2 15) ?_
 refine kl2i X2_ hx hby (D2 16) ?_
 refine own_rI (ew) ?_
 refine ksN X2_ hx hby (D2 17) (l' := #[rv x1, lv v1, .second, iv w1]) rfl ?_
 refine kiN X2_ hx hby (D2 18) rfl ?_
 refine kfN X2_ hx hby (D2 19) ((if0 _ _).trans (teq (gw : w1 = (0 : Int32))).2) ?_
 refine kaN X2_ hx hby (D2 20) rfl rfl ?_
 refine kc X2_ hx hby (D2 21) ?_
 show Steps p.tables e below (T2_.setTop (mkF m 38 #[rv x1, lv v1, .second, iv w1] [(.int 1), (.ref x1)])) _
 refine st3_ _ ?_
 refine st6_ _ ?_
 refine st7_ _ ?_
 show Steps p.tables e below (T7_.setTop (mkF m 47 #[rv x1, lv v1, .second, iv w1] [(.ref b3_)])) _
 refine kc X7_ hx hby (D2 26) ?_
 refine klloadN X7_ hx hby (D2 27) rfl ?_
 refine kl2i X7_ hx hby (D2 28) ?_
 refine st9_ _ ?_
 refine kg X9_ hx (pc0 := 51) (pc' := 76) rfl hby (D2 30) (by decide) (by decide) ?_
 exact X9_.returnOut hx hret (hb hby (D2 31)) hr
theorem bjp2 (l : Launch) (Z : State) (a0 : Array Value) (hw : own_W Z a0) (ws : List Jvm.Cond) (x1 : Addr) (v1 : Int64) (w1 : Int32) (h0 : Heap) (n0 : Nat) (Z0 : n0 ≤ h0.size) (X1 : Exa Z h0 x1 "java/math/BigInteger") (X2 : Fld Z h0 x1 "java/math/BigInteger" "signum" "I" (.int 0)) (X3 : Fld Z h0 x1 "java/math/BigInteger" "mag" "[I" .null) (g1 : n0 ≤ x1) (ew : (((v1.toUInt64 >>> ((32 : Int32) &&& 0x3f).toInt64.toUInt64).toInt64).toInt32) = w1) (gv : ¬ (v1 < (0 : Int64))) (gw : ¬ (w1 = (0 : Int32))) (es : (1 : Int32) = own_sg (Int64.toInt v1)) (el : own_len (Int64.toInt v1).natAbs = (2 : Int32) ∧ own_mag (Int64.toInt v1).natAbs = [.int w1, .int (v1.toInt32)]) : own_Met l Y2 jdk_2097_method_30_code 4 none ⟨2, 1, 2, 24⟩ ws #[(.ref x1), (.long v1)] Z h0 (Q_rmBJ Z x1 v1 h0 n0) := by
 refine own_go (plainFor_of_name pn_java_math_BigInteger) (fun m => ef2_RJ m x1 v1) fun p e s m below meth c s₁ hx hby hml hown hnm hret hZ e0 X0 => ?_
 have N0 := Fr.nil n0
 obtain ⟨T1_, Lc1_, v1_, X1_, hQ1_, st1_⟩ := own_cI (y := Y3) X0 hx hZ hown (wt hw 11 rfl) (wt hw 12 rfl) (wt hw 16 rfl) (wt hw 15 rfl) rfl (by decide) (rmNu l Z a0 hw [] x1 h0 n0 Z0 ) e0 (pc := 1) (Ls := #[rv x1, lv v1, .second, .unset]) (stk := [(.ref x1)]) (rest := []) (by rw [hml]; rfl) pd3 rfl rfl (W := 0) rfl hby (D2 1) (by decide) (by decide) (by exact own_b rfl) (by exact own_b rfl)
 obtain ⟨rfl, Nq1_, ek1_⟩ := hQ1_
 have N1_ := Fr.app N0 Nq1_
 obtain ⟨T2_, h2_, X2_, e2_, W2_, w2_, N2_, st2_⟩ := own_pf (pc := 23) (Ls := #[rv x1, lv v1, .second, .unset]) (stk := [(.int 1), (.ref x1)]) X1_ hx hZ hown (wt hw 20 rfl) ek1_ X2 X1 (Or.inr ⟨(wt hw 21 rfl), rfl, hnm⟩) (wt hw 6 rfl) (ty := .int) (by decide) rfl rfl N1_ g1 hby (D2 49) rfl
 obtain ⟨T3_, h3_, k3_, X3_, e3_, E3_, A3_, Y3_, st3_⟩ := newPE X2_ hx hZ (wt hw 22 rfl) e2_ (g := (mkF m 56 #[rv x1, lv v1, .second, iv w1] [(.int 2), (.ref x1)])) rfl (hb hby (D2 34)) rfl (by decide) (cap := 2) (by decide) (by decide) (by exact own_b rfl) (by exact own_b rfl) (ad := "[I") (by decide +kernel)
 obtain ⟨b3_, g3_⟩ : ∃ z, z = h2_.size := ⟨_, rfl⟩
 rw [← g3_] at A3_ Y3_ st3_
 have v3_ : Arv Z h3_ b3_ k3_ .int (2 : Int32) [(.int 0), (.int 0)] (.int 0) := (Arv.new A3_ (by decide)).pad (pad_rep [] (.int 0) 2)
 have f4_ := (X1.wr W2_).ext E3_
 have f5_ := (X3.other W2_ (Or.inr (slot_ne (Or.inr (wt hw 24 rfl)) (Or.inr (wt hw 21 rfl)) (by decide) (t := (.array .int)) (t' := .int) (by decide) (by decide)))).ext E3_
 obtain ⟨T6_, h6_, X6_, e6_, W6_, w6_, N6_, st6_⟩ := own_pf (pc := 58) (Ls := #[rv x1, lv v1, .second, iv w1]) (stk := [(.ref b3_), (.ref x1)]) X3_ hx hZ hown (wt hw 23 rfl) e3_ f5_ f4_ (Or.inr ⟨(wt hw 24 rfl), rfl, hnm⟩) (wt hw 6 rfl) (ty := (.array .int)) (by decide) rfl rfl N2_ g1 hby (D2 35) rfl
 obtain ⟨T7_, X7_, e7_, st7_⟩ := own_gN (pc := 61) (Ls := #[rv x1, lv v1, .second, iv w1]) (stk := []) X6_ hx hZ hown (wt hw 23 rfl) e6_ w6_ hby (D2 36) (D2 37) rfl
 have f8_ := v3_.other W6_ (Ne.symm (Nat.ne_of_lt (Nat.lt_of_lt_of_le (X1.wr W2_).lt (Nat.le_of_eq g3_.symm))))
 have z11_ : n0 ≤ h2_.size := Nat.le_trans Z0 (Keep.of_wr W2_).1
 have g10_ : n0 ≤ b3_ := Nat.le_trans z11_ (Nat.le_of_eq g3_.symm)
 obtain ⟨T9_, h9_, X9_, e9_, W9_, v9_, N9_, st9_⟩ := own_si (pc := 67) (Ls := #[rv x1, lv v1, .second, iv w1]) (stk := [(.int w1), (.int 0), (.ref b3_)]) X7_ hx hZ e7_ f8_ ⟨by decide, by decide⟩ 0 rfl (Nat.le_of_ble_eq_true rfl) N6_ g10_ hby (D2 40) rfl
 have f12_ := w6_.other W9_ (Or.inl (Nat.ne_of_lt (Nat.lt_of_lt_of_le (X1.wr W2_).lt (Nat.le_of_eq g3_.symm))))
 obtain ⟨T13_, X13_, e13_, st13_⟩ := own_gN (pc := 68) (Ls := #[rv x1, lv v1, .second, iv w1]) (stk := []) X9_ hx hZ hown (wt hw 23 rfl) e9_ f12_ hby (D2 41) (D2 42) rfl
 obtain ⟨T14_, h14_, X14_, e14_, W14_, v14_, N14_, st14_⟩ := own_si (pc := 75) (Ls := #[rv x1, lv v1, .second, iv w1]) (stk := [(.int (v1.toInt32)), (.int 1), (.ref b3_)]) X13_ hx hZ e13_ v9_ ⟨by decide, by decide⟩ 1 rfl (Nat.le_of_ble_eq_true rfl) N9_ g10_ hby (D2 46) rfl
 have f15_ := ((f4_.wr W6_).wr W9_).wr W14_
 have f16_ := ((Y3_.wr W6_).wr W9_).wr W14_
 have f17_ := (((w2_.ext E3_).other W6_ (Or.inr (slot_ne (Or.inr (wt hw 21 rfl)) (Or.inr (wt hw 24 rfl)) (by decide) (t := .int) (t' := (.array .int)) (by decide) (by decide)))).other W9_ (Or.inl (Nat.ne_of_lt (Nat.lt_of_lt_of_le (X1.wr W2_).lt (Nat.le_of_eq g3_.symm))))).other W14_ (Or.inl (Nat.ne_of_lt (Nat.lt_of_lt_of_le (X1.wr W2_).lt (Nat.le_of_eq g3_.symm))))
 have f18_ := f12_.other W14_ (Or.inl (Nat.ne_of_lt (Nat.lt_of_lt_of_le (X1.wr W2_).lt (Nat.le_of_eq g3_.symm))))
 have bi_ : own_BI Z h14_ x1 b3_ (Int64.toInt v1) := ⟨f15_, f16_, (by rw [← es]; exact f17_), f18_, _, (by rw [el.1, el.2]; exact v14_)⟩
 have k19_ := (Keep.refl h0 [x1]).wr W2_ (own_in 0 rfl)
 have k20_ := k19_.ext E3_
 have k21_ := k20_.wr W6_ (own_in 0 rfl)
 have k22_ := k21_.wr W9_ (Or.inr (Nat.le_trans k19_.1 (Nat.le_of_eq g3_.symm)))
 have k23_ := k22_.wr W14_ (Or.inr (Nat.le_trans k19_.1 (Nat.le_of_eq g3_.symm)))
 refine ⟨_, _, _, _, none, X14_, (by exact own_b rfl), (by exact own_b rfl), (fun _ => rfl), (by show Q_rmBJ Z x1 v1 h0 n0 _ T14_.heap _; rw [e14_]; exact ⟨b3_, rfl, N14_, k23_, bi_, (Nat.le_trans k19_.1 (Nat.le_of_eq g3_.symm))⟩), fun fs hr => ?_⟩
 refine kaN X0 hx hby (D2 0) rfl rfl ?_
 refine st1_ _ ?_
 refine klloadN X1_ hx hby (D2 2) rfl ?_
 refine klc X1_ hx hby (D2 3) ?_
 refine klcmp X1_ hx hby (D2 4) ?_
 refine kfY X1_ hx (pc0 := 7) (pc' := 21) rfl hby (D2 5) ((if0 _ _).trans (flt ((fun q => gv ((lw_lt _ _).mp q)) : ¬ ((lcmpW v1 (0 : Int64)) < (0 : Int32)))).2.1) (by decide) (by decide) ?_
 refine kaN X1_ hx hby (D2 47) rfl rfl ?_
 refine kc X1_ hx hby (D2 48) ?_
 refine st2_ _ ?_
 refine klloadN X2_ hx hby (D2 13) rfl ?_
 refine kb X2_ hx hby (D2 14) ?_
 refine klushr X2_ hx hby (D2 15) ?_
 refine kl2i X2_ hx hby (D2 16) ?_
 refine own_rI (ew) ?_
 refine ksN X2_ hx hby (D2 17) (l' := #[rv x1, lv v1, .second, iv w1]) rfl ?_
 refine kiN X2_ hx hby (D2 18) rfl ?_
 refine kfY X2_ hx (pc0 := 33) (pc' := 54) rfl hby (D2 19) ((if0 _ _).trans (feq (gw : ¬ (w1 = (0 : Int32)))).2) (by decide) (by decide) ?_
 refine kaN X2_ hx hby (D2 32) rfl rfl ?_
 refine kc X2_ hx hby (D2 33) ?_
 show Steps p.tables e below (T2_.setTop (mkF m 56 #[rv x1, lv v1, .second, iv w1] [(.int 2), (.ref x1)])) _
 refine st3_ _ ?_
 refine st6_ _ ?_
 refine st7_ _ ?_
 show Steps p.tables e below (T7_.setTop (mkF m 65 #[rv x1, lv v1, .second, iv w1] [(.ref b3_)])) _
 refine kc X7_ hx hby (D2 38) ?_
 refine kiN X7_ hx hby (D2 39) rfl ?_
 refine st9_ _ ?_
 refine st13_ _ ?_
 refine kc X13_ hx hby (D2 43) ?_
 refine klloadN X13_ hx hby (D2 44) rfl ?_
 refine kl2i X13_ hx hby (D2 45) ?_
 refine st14_ _ ?_
 exact X14_.returnOut hx hret (hb hby (D2 31)) hr
theorem rmBJ (l : Launch) (Z : State) (a0 : Array Value) (hw : own_W Z a0) (ws : List Jvm.Cond) (x1 : Addr) (v1 : Int64) (h0 : Heap) (n0 : Nat) (Z0 : n0 ≤ h0.size) (X1 : Exa Z h0 x1 "java/math/BigInteger") (X2 : Fld Z h0 x1 "java/math/BigInteger" "signum" "I" (.int 0)) (X3 : Fld Z h0 x1 "java/math/BigInteger" "mag" "[I" .null) (g1 : n0 ≤ x1) (vz : (Int64.toInt v1) ≠ 0) (vm : -9223372036854775808 < (Int64.toInt v1)) :
    own_Met l Y2 jdk_2097_method_30_code 4 none ⟨2, 1, 2, 24⟩ ws #[(.ref x1), (.long v1)] Z h0 (Q_rmBJ Z x1 v1 h0 n0) := by
  by_cases c : v1 < (0 : Int64)
  · have c' := c
    rw [Int64.lt_iff_toInt_lt, show (0 : Int64).toInt = 0 from rfl] at c'
    have q := own_jb (u := -v1) (n := (Int64.toInt v1).natAbs) (by rw [own_neg64 rfl vm]; omega) (by omega)
    by_cases d : ((((-v1).toUInt64 >>> ((32 : Int32) &&& 0x3f).toInt64.toUInt64).toInt64).toInt32) = (0 : Int32)
    · exact bjn1 l Z a0 hw ws _ _ _ _ h0 n0 Z0 X1 X2 X3 g1 rfl rfl c d (own_sg_neg c').symm (q.1 d)
    · exact bjn2 l Z a0 hw ws _ _ _ _ h0 n0 Z0 X1 X2 X3 g1 rfl rfl c d (own_sg_neg c').symm (q.2 d)
  · have c' := c
    rw [Int64.lt_iff_toInt_lt, show (0 : Int64).toInt = 0 from rfl] at c'
    have q := own_jb (u := v1) (n := (Int64.toInt v1).natAbs) (by omega) (by omega)
    by_cases d : (((v1.toUInt64 >>> ((32 : Int32) &&& 0x3f).toInt64.toUInt64).toInt64).toInt32) = (0 : Int32)
    · exact bjp1 l Z a0 hw ws _ _ _ h0 n0 Z0 X1 X2 X3 g1 rfl c d (own_sg_pos (by omega)).symm (q.1 d)
    · exact bjp2 l Z a0 hw ws _ _ _ h0 n0 Z0 X1 X2 X3 g1 rfl c d (own_sg_pos (by omega)).symm (q.2 d)
theorem pd20 : parseMethodDescriptor "(J)V" = some ⟨[.long], none⟩ := by decide +kernel
def Q_rmVo (Z : State) (v1 : Int64) (zo : Addr) (za : Addr) (pa : Addr) (na : Addr) (h0 : Heap) (n0 : Nat) (v : Option Value) (h : Heap) (L : List Loc) : Prop := ∃ (xv : Addr) (tv : Addr), v = some (.ref xv) ∧ Fr n0 L ∧ Keep h0 h [] ∧ (own_BI Z h xv tv (Int64.toInt v1))
abbrev Y1 : MethodName := ⟨"java/math/BigInteger", "valueOf", "(J)Ljava/math/BigInteger;"⟩
theorem ef1_J (m : MethodId) (x0 : Int64) : entryFrame m #[(.long x0)] 2 = mkF m 0 #[lv x0, .second] [] := by first | (simp [entryFrame, mkF, argsToLocals, Value.category]; done) | rfl
theorem voZ (l : Launch) (Z : State) (a0 : Array Value) (hw : own_W Z a0) (ws : List Jvm.Cond) (v1 : Int64) (zo : Addr) (za : Addr) (pa : Addr) (na : Addr) (h0 : Heap) (n0 : Nat) (Z0 : n0 ≤ h0.size) (T0 : Sta Z Z.heap "java/math/BigInteger" "ZERO" "Ljava/math/BigInteger;" (.ref zo)) (O1 : Old Z n0 h0) (BZ : own_BI Z Z.heap zo za (0 : Int)) (TP : Sta Z Z.heap "java/math/BigInteger" "posConst" "[Ljava/math/BigInteger;" (.ref pa)) (TN : Sta Z Z.heap "java/math/BigInteger" "negConst" "[Ljava/math/BigInteger;" (.ref na)) (CP : own_Ca Z pa 1) (CN : own_Ca Z na (-1)) (vm : -9223372036854775808 < (Int64.toInt v1)) (v0 : v1 = (0 : Int64)) : own_Met l Y1 jdk_2097_method_29_code 2 (some (.object "java/math/BigInteger")) ⟨3, 2, 8, 40⟩ ws #[(.long v1)] Z h0 (Q_rmVo Z v1 zo za pa na h0 n0) := by
 refine own_go (plainFor_of_name pn_java_math_BigInteger) (fun m => ef1_J m v1) fun p e s m below meth c s₁ hx hby hml hown hnm hret hZ e0 X0 => ?_
 have N0 := Fr.nil n0
 have z0_ : (0 : Int64).toInt = 0 := rfl
 have z1_ : (16 : Int64).toInt = 16 := rfl
 have z2_ : (-16 : Int64).toInt = -16 := by decide
 have ng_ := own_neg64 (a := v1) rfl vm
 obtain ⟨T1_, X1_, e1_, st1_⟩ := getS2 X0 hx hZ hown (host := "") (Or.inl (wt hw 240 rfl)) Via.refl e0 (T0.ext O1.2) (g := (mkF m 6 #[lv v1, .second] [])) rfl (hb hby (D1 4))
 have bv_ : own_BI Z h0 zo za (Int64.toInt v1) := (show (0 : Int) = (Int64.toInt v1) from by rw [v0]; rfl) ▸ BZ.ext O1.2
 refine ⟨_, _, _, _, some (.ref zo), X1_, (by exact own_b rfl), (by exact own_b rfl), nofun, (by show Q_rmVo Z v1 zo za pa na h0 n0 _ T1_.heap _; rw [e1_]; exact ⟨zo, za, rfl, N0, (Keep.refl h0 []), bv_⟩), fun fs hr => ?_⟩
 refine klloadN X0 hx hby (D1 0) rfl ?_
 refine klc X0 hx hby (D1 1) ?_
 refine klcmp X0 hx hby (D1 2) ?_
 refine kfN X0 hx hby (D1 3) ((if0 _ _).trans (teq (((lw_eq _ _).mpr v0) : (lcmpW v1 (0 : Int64)) = (0 : Int32))).2) ?_
 show Steps p.tables e below (s₁.setTop (mkF m 6 #[lv v1, .second] [])) _
 refine st1_ _ ?_
 show Steps p.tables e below (T1_.setTop (mkF m 9 #[lv v1, .second] [(.ref zo)])) _
 exact retR X1_ hx hret rfl rfl rfl (hb hby (D1 5)) hr
theorem voP (l : Launch) (Z : State) (a0 : Array Value) (hw : own_W Z a0) (ws : List Jvm.Cond) (v1 : Int64) (zo : Addr) (za : Addr) (pa : Addr) (na : Addr) (h0 : Heap) (n0 : Nat) (Z0 : n0 ≤ h0.size) (T0 : Sta Z Z.heap "java/math/BigInteger" "ZERO" "Ljava/math/BigInteger;" (.ref zo)) (O1 : Old Z n0 h0) (BZ : own_BI Z Z.heap zo za (0 : Int)) (TP : Sta Z Z.heap "java/math/BigInteger" "posConst" "[Ljava/math/BigInteger;" (.ref pa)) (TN : Sta Z Z.heap "java/math/BigInteger" "negConst" "[Ljava/math/BigInteger;" (.ref na)) (CP : own_Ca Z pa 1) (CN : own_Ca Z na (-1)) (vm : -9223372036854775808 < (Int64.toInt v1)) (vz : (Int64.toInt v1) ≠ 0) (v0 : 0 < (Int64.toInt v1) ∧ (Int64.toInt v1) ≤ 16) : own_Met l Y1 jdk_2097_method_29_code 2 (some (.object "java/math/BigInteger")) ⟨3, 2, 8, 40⟩ ws #[(.long v1)] Z h0 (Q_rmVo Z v1 zo za pa na h0 n0) := by
 refine own_go (plainFor_of_name pn_java_math_BigInteger) (fun m => ef1_J m v1) fun p e s m below meth c s₁ hx hby hml hown hnm hret hZ e0 X0 => ?_
 have N0 := Fr.nil n0
 have z0_ : (0 : Int64).toInt = 0 := rfl
 have z1_ : (16 : Int64).toInt = 16 := rfl
 have z2_ : (-16 : Int64).toInt = -16 := by decide
 have ng_ := own_neg64 (a := v1) rfl vm
 obtain ⟨T1_, X1_, e1_, st1_⟩ := getS2 X0 hx hZ hown (host := "") (Or.inl (wt hw 190 rfl)) Via.refl e0 (TP.ext O1.2) (g := (mkF m 24 #[lv v1, .second] [])) rfl (hb hby (D1 14))
 obtain ⟨cc, Ac, zc, gc⟩ := CP
 obtain ⟨xv, av, hat, hbi⟩ := gc (Int64.toInt v1).toNat (by omega) (by omega)
 have ci_ := own_ci (v := v1) (by omega) (by omega)
 have in_ : ¬ ((v1.toInt32) < 0 ∨ cc.slots.size ≤ ((v1.toInt32)).toNatClampNeg) := by rw [ci_.2, zc]; rintro (q | q); exact ci_.1 q; omega
 have bv_ : own_BI Z h0 xv av (Int64.toInt v1) := (show (1) * (((Int64.toInt v1).toNat : Nat) : Int) = (Int64.toInt v1) from by omega) ▸ hbi.ext O1.2
 refine ⟨_, _, _, _, some (.ref xv), X1_, (by exact own_b rfl), (by exact own_b rfl), nofun, (by show Q_rmVo Z v1 zo za pa na h0 n0 _ T1_.heap _; rw [e1_]; exact ⟨xv, av, rfl, N0, (Keep.refl h0 []), bv_⟩), fun fs hr => ?_⟩
 refine klloadN X0 hx hby (D1 0) rfl ?_
 refine klc X0 hx hby (D1 1) ?_
 refine klcmp X0 hx hby (D1 2) ?_
 refine kfY X0 hx (pc0 := 3) (pc' := 10) rfl hby (D1 3) ((if0 _ _).trans (feq ((fun q => vz (by rw [(lw_eq _ _).mp q]; rfl)) : ¬ ((lcmpW v1 (0 : Int64)) = (0 : Int32)))).2) (by decide) (by decide) ?_
 refine klloadN X0 hx hby (D1 6) rfl ?_
 refine klc X0 hx hby (D1 7) ?_
 refine klcmp X0 hx hby (D1 8) ?_
 refine kfN X0 hx hby (D1 9) ((if0 _ _).trans (tlt (((lw_gt v1 (0 : Int64)).mpr (by rw [Int64.lt_iff_toInt_lt]; omega)) : (0 : Int32) < (lcmpW v1 (0 : Int64)))).2.2.2) ?_
 refine klloadN X0 hx hby (D1 10) rfl ?_
 refine own_l2 X0 hx hZ hown (wt hw 4 rfl) hby (D1 11) ?_
 refine klcmp X0 hx hby (D1 12) ?_
 refine kfN X0 hx hby (D1 13) ((if0 _ _).trans (flt ((fun q => absurd ((lw_gt v1 (16 : Int64)).mp q) (by rw [Int64.lt_iff_toInt_lt]; omega)) : ¬ ((0 : Int32) < (lcmpW v1 (16 : Int64))))).2.2.1) ?_
 show Steps p.tables e below (s₁.setTop (mkF m 24 #[lv v1, .second] [])) _
 refine st1_ _ ?_
 show Steps p.tables e below (T1_.setTop (mkF m 27 #[lv v1, .second] [(.ref pa)])) _
 refine klloadN X1_ hx hby (D1 15) rfl ?_
 refine kl2i X1_ hx hby (D1 16) ?_
 show Steps p.tables e below (T1_.setTop (mkF m 29 #[lv v1, .second] [(.int (v1.toInt32)), (.ref pa)])) _
 refine X1_.aaload hx (j := (v1.toInt32)) (v := .ref xv) (by rw [e1_]; exact O1.2.2 _ _ Ac.1) (State.isArrayOf_alike (State.Warmed39.alike hZ) Ac.2.1) rfl Ac.2.2 in_ (by rw [ci_.2]; exact hat) (g := (mkF m 29 #[lv v1, .second] [(.int (v1.toInt32)), (.ref pa)])) rfl rfl (hb hby (D1 17)) _ ?_
 show Steps p.tables e below (T1_.setTop (mkF m 30 #[lv v1, .second] [(.ref xv)])) _
 exact retR X1_ hx hret rfl rfl rfl (hb hby (D1 18)) hr
theorem voN (l : Launch) (Z : State) (a0 : Array Value) (hw : own_W Z a0) (ws : List Jvm.Cond) (v1 : Int64) (zo : Addr) (za : Addr) (pa : Addr) (na : Addr) (h0 : Heap) (n0 : Nat) (Z0 : n0 ≤ h0.size) (T0 : Sta Z Z.heap "java/math/BigInteger" "ZERO" "Ljava/math/BigInteger;" (.ref zo)) (O1 : Old Z n0 h0) (BZ : own_BI Z Z.heap zo za (0 : Int)) (TP : Sta Z Z.heap "java/math/BigInteger" "posConst" "[Ljava/math/BigInteger;" (.ref pa)) (TN : Sta Z Z.heap "java/math/BigInteger" "negConst" "[Ljava/math/BigInteger;" (.ref na)) (CP : own_Ca Z pa 1) (CN : own_Ca Z na (-1)) (vm : -9223372036854775808 < (Int64.toInt v1)) (vz : (Int64.toInt v1) ≠ 0) (v0 : (Int64.toInt v1) < 0 ∧ -16 ≤ (Int64.toInt v1)) : own_Met l Y1 jdk_2097_method_29_code 2 (some (.object "java/math/BigInteger")) ⟨3, 2, 8, 40⟩ ws #[(.long v1)] Z h0 (Q_rmVo Z v1 zo za pa na h0 n0) := by
 refine own_go (plainFor_of_name pn_java_math_BigInteger) (fun m => ef1_J m v1) fun p e s m below meth c s₁ hx hby hml hown hnm hret hZ e0 X0 => ?_
 have N0 := Fr.nil n0
 have z0_ : (0 : Int64).toInt = 0 := rfl
 have z1_ : (16 : Int64).toInt = 16 := rfl
 have z2_ : (-16 : Int64).toInt = -16 := by decide
 have ng_ := own_neg64 (a := v1) rfl vm
 obtain ⟨T1_, X1_, e1_, st1_⟩ := getS2 X0 hx hZ hown (host := "") (Or.inl (wt hw 238 rfl)) Via.refl e0 (TN.ext O1.2) (g := (mkF m 45 #[lv v1, .second] [])) rfl (hb hby (D1 27))
 obtain ⟨cc, Ac, zc, gc⟩ := CN
 obtain ⟨xv, av, hat, hbi⟩ := gc (Int64.toInt (-v1)).toNat (by omega) (by omega)
 have ci_ := own_ci (v := (-v1)) (by omega) (by omega)
 have in_ : ¬ (((-v1).toInt32) < 0 ∨ cc.slots.size ≤ (((-v1).toInt32)).toNatClampNeg) := by rw [ci_.2, zc]; rintro (q | q); exact ci_.1 q; omega
 have bv_ : own_BI Z h0 xv av (Int64.toInt v1) := (show (-1) * (((Int64.toInt (-v1)).toNat : Nat) : Int) = (Int64.toInt v1) from by omega) ▸ hbi.ext O1.2
 refine ⟨_, _, _, _, some (.ref xv), X1_, (by exact own_b rfl), (by exact own_b rfl), nofun, (by show Q_rmVo Z v1 zo za pa na h0 n0 _ T1_.heap _; rw [e1_]; exact ⟨xv, av, rfl, N0, (Keep.refl h0 []), bv_⟩), fun fs hr => ?_⟩
 refine klloadN X0 hx hby (D1 0) rfl ?_
 refine klc X0 hx hby (D1 1) ?_
 refine klcmp X0 hx hby (D1 2) ?_
 refine kfY X0 hx (pc0 := 3) (pc' := 10) rfl hby (D1 3) ((if0 _ _).trans (feq ((fun q => vz (by rw [(lw_eq _ _).mp q]; rfl)) : ¬ ((lcmpW v1 (0 : Int64)) = (0 : Int32)))).2) (by decide) (by decide) ?_
 refine klloadN X0 hx hby (D1 6) rfl ?_
 refine klc X0 hx hby (D1 7) ?_
 refine klcmp X0 hx hby (D1 8) ?_
 refine kfY X0 hx (pc0 := 13) (pc' := 31) rfl hby (D1 9) ((if0 _ _).trans (flt ((fun q => absurd ((lw_gt v1 (0 : Int64)).mp q) (by rw [Int64.lt_iff_toInt_lt]; omega)) : ¬ ((0 : Int32) < (lcmpW v1 (0 : Int64))))).2.2.2) (by decide) (by decide) ?_
 refine klloadN X0 hx hby (D1 19) rfl ?_
 refine klc X0 hx hby (D1 20) ?_
 refine klcmp X0 hx hby (D1 21) ?_
 refine kfN X0 hx hby (D1 22) ((if0 _ _).trans (tlt (((lw_lt v1 (0 : Int64)).mpr (by rw [Int64.lt_iff_toInt_lt]; omega)) : (lcmpW v1 (0 : Int64)) < (0 : Int32))).2.1) ?_
 refine klloadN X0 hx hby (D1 23) rfl ?_
 refine own_l2 X0 hx hZ hown (wt hw 201 rfl) hby (D1 24) ?_
 refine klcmp X0 hx hby (D1 25) ?_
 refine kfN X0 hx hby (D1 26) ((if0 _ _).trans (flt ((fun q => absurd ((lw_lt v1 (-16 : Int64)).mp q) (by rw [Int64.lt_iff_toInt_lt]; omega)) : ¬ ((lcmpW v1 (-16 : Int64)) < (0 : Int32)))).1) ?_
 show Steps p.tables e below (s₁.setTop (mkF m 45 #[lv v1, .second] [])) _
 refine st1_ _ ?_
 show Steps p.tables e below (T1_.setTop (mkF m 48 #[lv v1, .second] [(.ref na)])) _
 refine klloadN X1_ hx hby (D1 28) rfl ?_
 refine klneg X1_ hx hby (D1 29) ?_
 refine kl2i X1_ hx hby (D1 30) ?_
 show Steps p.tables e below (T1_.setTop (mkF m 51 #[lv v1, .second] [(.int ((-v1).toInt32)), (.ref na)])) _
 refine X1_.aaload hx (j := ((-v1).toInt32)) (v := .ref xv) (by rw [e1_]; exact O1.2.2 _ _ Ac.1) (State.isArrayOf_alike (State.Warmed39.alike hZ) Ac.2.1) rfl Ac.2.2 in_ (by rw [ci_.2]; exact hat) (g := (mkF m 51 #[lv v1, .second] [(.int ((-v1).toInt32)), (.ref na)])) rfl rfl (hb hby (D1 31)) _ ?_
 show Steps p.tables e below (T1_.setTop (mkF m 52 #[lv v1, .second] [(.ref xv)])) _
 exact retR X1_ hx hret rfl rfl rfl (hb hby (D1 32)) hr
theorem voA (l : Launch) (Z : State) (a0 : Array Value) (hw : own_W Z a0) (ws : List Jvm.Cond) (v1 : Int64) (zo : Addr) (za : Addr) (pa : Addr) (na : Addr) (h0 : Heap) (n0 : Nat) (Z0 : n0 ≤ h0.size) (T0 : Sta Z Z.heap "java/math/BigInteger" "ZERO" "Ljava/math/BigInteger;" (.ref zo)) (O1 : Old Z n0 h0) (BZ : own_BI Z Z.heap zo za (0 : Int)) (TP : Sta Z Z.heap "java/math/BigInteger" "posConst" "[Ljava/math/BigInteger;" (.ref pa)) (TN : Sta Z Z.heap "java/math/BigInteger" "negConst" "[Ljava/math/BigInteger;" (.ref na)) (CP : own_Ca Z pa 1) (CN : own_Ca Z na (-1)) (vm : -9223372036854775808 < (Int64.toInt v1)) (vz : (Int64.toInt v1) ≠ 0) (v0 : 16 < (Int64.toInt v1)) : own_Met l Y1 jdk_2097_method_29_code 2 (some (.object "java/math/BigInteger")) ⟨3, 2, 8, 40⟩ ws #[(.long v1)] Z h0 (Q_rmVo Z v1 zo za pa na h0 n0) := by
 refine own_go (plainFor_of_name pn_java_math_BigInteger) (fun m => ef1_J m v1) fun p e s m below meth c s₁ hx hby hml hown hnm hret hZ e0 X0 => ?_
 have N0 := Fr.nil n0
 have z0_ : (0 : Int64).toInt = 0 := rfl
 have z1_ : (16 : Int64).toInt = 16 := rfl
 have z2_ : (-16 : Int64).toInt = -16 := by decide
 have ng_ := own_neg64 (a := v1) rfl vm
 obtain ⟨T1_, h1_, X1_, e1_, E1_, A1_, D1_, U1_, st1_⟩ := newO X0 hx hZ hown (wt hw 5 rfl) (wt hw 6 rfl) (wt hw 2 rfl) e0 (g := (mkF m 53 #[lv v1, .second] [])) rfl (hb hby (D1 33)) (by exact own_b rfl) (by exact own_b rfl)
 obtain ⟨b1_, g1_⟩ : ∃ z, z = h0.size := ⟨_, rfl⟩
 rw [← g1_] at A1_ D1_ U1_ st1_
 have F1__signum : Fld Z h1_ b1_ "java/math/BigInteger" "signum" "I" (.int 0) := D1_ (Or.inr (wt hw 21 rfl)) (ty := .int) (by decide)
 have F1__mag : Fld Z h1_ b1_ "java/math/BigInteger" "mag" "[I" .null := D1_ (Or.inr (wt hw 24 rfl)) (ty := (.array .int)) (by decide)
 have g3_ : n0 ≤ b1_ := Nat.le_trans Z0 (Nat.le_of_eq g1_.symm)
 have z4_ : n0 ≤ h1_.size := Nat.le_trans Z0 E1_.1
 obtain ⟨T2_, Lc2_, v2_, X2_, hQ2_, st2_⟩ := own_cI (y := Y2) X1_ hx hZ hown (wt hw 7 rfl) (wt hw 8 rfl) (wt hw 10 rfl) (wt hw 2 rfl) rfl (by decide) (rmBJ l Z a0 hw [] b1_ v1 h1_ n0 z4_ A1_ F1__signum F1__mag g3_ vz vm) e1_ (pc := 58) (Ls := #[lv v1, .second]) (stk := [(.long v1), (.ref b1_), (.ref b1_)]) (rest := [(.ref b1_)]) (by rw [hml]; rfl) pd20 rfl rfl (W := 1) rfl hby (D1 36) (by decide) (by decide) (by exact own_b rfl) (by exact own_b rfl)
 obtain ⟨a1_2_, rfl, Nq2_, ek2_, p2__0, p2__1⟩ := hQ2_
 have N2_ := Fr.app N0 Nq2_
 have k5_ := (Keep.refl h0 []).ext E1_
 have k6_ := k5_.trans ek2_ (allS (Or.inr (Nat.le_trans (Keep.refl h0 []).1 (Nat.le_of_eq g1_.symm))) all0)
 refine ⟨_, _, _, _, some (.ref b1_), X2_, (by exact own_b rfl), (by exact own_b rfl), nofun, (by show Q_rmVo Z v1 zo za pa na h0 n0 _ T2_.heap _; exact ⟨b1_, a1_2_, rfl, N2_, k6_, p2__0⟩), fun fs hr => ?_⟩
 refine klloadN X0 hx hby (D1 0) rfl ?_
 refine klc X0 hx hby (D1 1) ?_
 refine klcmp X0 hx hby (D1 2) ?_
 refine kfY X0 hx (pc0 := 3) (pc' := 10) rfl hby (D1 3) ((if0 _ _).trans (feq ((fun q => vz (by rw [(lw_eq _ _).mp q]; rfl)) : ¬ ((lcmpW v1 (0 : Int64)) = (0 : Int32)))).2) (by decide) (by decide) ?_
 refine klloadN X0 hx hby (D1 6) rfl ?_
 refine klc X0 hx hby (D1 7) ?_
 refine klcmp X0 hx hby (D1 8) ?_
 refine kfN X0 hx hby (D1 9) ((if0 _ _).trans (tlt (((lw_gt v1 (0 : Int64)).mpr (by rw [Int64.lt_iff_toInt_lt]; omega)) : (0 : Int32) < (lcmpW v1 (0 : Int64)))).2.2.2) ?_
 refine klloadN X0 hx hby (D1 10) rfl ?_
 refine own_l2 X0 hx hZ hown (wt hw 4 rfl) hby (D1 11) ?_
 refine klcmp X0 hx hby (D1 12) ?_
 refine kfY X0 hx (pc0 := 21) (pc' := 31) rfl hby (D1 13) ((if0 _ _).trans (tlt (((lw_gt v1 (16 : Int64)).mpr (by rw [Int64.lt_iff_toInt_lt]; omega)) : (0 : Int32) < (lcmpW v1 (16 : Int64)))).2.2.1) (by decide) (by decide) ?_
 refine klloadN X0 hx hby (D1 19) rfl ?_
 refine klc X0 hx hby (D1 20) ?_
 refine klcmp X0 hx hby (D1 21) ?_
 refine kfY X0 hx (pc0 := 34) (pc' := 53) rfl hby (D1 22) ((if0 _ _).trans (flt ((fun q => absurd ((lw_lt v1 (0 : Int64)).mp q) (by rw [Int64.lt_iff_toInt_lt]; omega)) : ¬ ((lcmpW v1 (0 : Int64)) < (0 : Int32)))).2.1) (by decide) (by decide) ?_
 show Steps p.tables e below (s₁.setTop (mkF m 53 #[lv v1, .second] [])) _
 refine st1_ _ ?_
 show Steps p.tables e below (T1_.setTop (mkF m 56 #[lv v1, .second] [(.ref b1_)])) _
 refine kdup X1_ hx hby (D1 34) rfl ?_
 refine klloadN X1_ hx hby (D1 35) rfl ?_
 refine st2_ _ ?_
 exact retR X2_ hx hret rfl rfl rfl (hb hby (D1 37)) hr
theorem voB (l : Launch) (Z : State) (a0 : Array Value) (hw : own_W Z a0) (ws : List Jvm.Cond) (v1 : Int64) (zo : Addr) (za : Addr) (pa : Addr) (na : Addr) (h0 : Heap) (n0 : Nat) (Z0 : n0 ≤ h0.size) (T0 : Sta Z Z.heap "java/math/BigInteger" "ZERO" "Ljava/math/BigInteger;" (.ref zo)) (O1 : Old Z n0 h0) (BZ : own_BI Z Z.heap zo za (0 : Int)) (TP : Sta Z Z.heap "java/math/BigInteger" "posConst" "[Ljava/math/BigInteger;" (.ref pa)) (TN : Sta Z Z.heap "java/math/BigInteger" "negConst" "[Ljava/math/BigInteger;" (.ref na)) (CP : own_Ca Z pa 1) (CN : own_Ca Z na (-1)) (vm : -9223372036854775808 < (Int64.toInt v1)) (vz : (Int64.toInt v1) ≠ 0) (v0 : (Int64.toInt v1) < -16) : own_Met l Y1 jdk_2097_method_29_code 2 (some (.object "java/math/BigInteger")) ⟨3, 2, 8, 40⟩ ws #[(.long v1)] Z h0 (Q_rmVo Z v1 zo za pa na h0 n0) := by
 refine own_go (plainFor_of_name pn_java_math_BigInteger) (fun m => ef1_J m v1) fun p e s m below meth c s₁ hx hby hml hown hnm hret hZ e0 X0 => ?_
 have N0 := Fr.nil n0
 have z0_ : (0 : Int64).toInt = 0 := rfl
 have z1_ : (16 : Int64).toInt = 16 := rfl
 have z2_ : (-16 : Int64).toInt = -16 := by decide
 have ng_ := own_neg64 (a := v1) rfl vm
 obtain ⟨T1_, h1_, X1_, e1_, E1_, A1_, D1_, U1_, st1_⟩ := newO X0 hx hZ hown (wt hw 5 rfl) (wt hw 6 rfl) (wt hw 2 rfl) e0 (g := (mkF m 53 #[lv v1, .second] [])) rfl (hb hby (D1 33)) (by exact own_b rfl) (by exact own_b rfl)
 obtain ⟨b1_, g1_⟩ : ∃ z, z = h0.size := ⟨_, rfl⟩
 rw [← g1_] at A1_ D1_ U1_ st1_
 have F1__signum : Fld Z h1_ b1_ "java/math/BigInteger" "signum" "I" (.int 0) := D1_ (Or.inr (wt hw 21 rfl)) (ty := .int) (by decide)
 have F1__mag : Fld Z h1_ b1_ "java/math/BigInteger" "mag" "[I" .null := D1_ (Or.inr (wt hw 24 rfl)) (ty := (.array .int)) (by decide)
 have g3_ : n0 ≤ b1_ := Nat.le_trans Z0 (Nat.le_of_eq g1_.symm)
 have z4_ : n0 ≤ h1_.size := Nat.le_trans Z0 E1_.1
 obtain ⟨T2_, Lc2_, v2_, X2_, hQ2_, st2_⟩ := own_cI (y := Y2) X1_ hx hZ hown (wt hw 7 rfl) (wt hw 8 rfl) (wt hw 10 rfl) (wt hw 2 rfl) rfl (by decide) (rmBJ l Z a0 hw [] b1_ v1 h1_ n0 z4_ A1_ F1__signum F1__mag g3_ vz vm) e1_ (pc := 58) (Ls := #[lv v1, .second]) (stk := [(.long v1), (.ref b1_), (.ref b1_)]) (rest := [(.ref b1_)]) (by rw [hml]; rfl) pd20 rfl rfl (W := 1) rfl hby (D1 36) (by decide) (by decide) (by exact own_b rfl) (by exact own_b rfl)
 obtain ⟨a1_2_, rfl, Nq2_, ek2_, p2__0, p2__1⟩ := hQ2_
 have N2_ := Fr.app N0 Nq2_
 have k5_ := (Keep.refl h0 []).ext E1_
 have k6_ := k5_.trans ek2_ (allS (Or.inr (Nat.le_trans (Keep.refl h0 []).1 (Nat.le_of_eq g1_.symm))) all0)
 refine ⟨_, _, _, _, some (.ref b1_), X2_, (by exact own_b rfl), (by exact own_b rfl), nofun, (by show Q_rmVo Z v1 zo za pa na h0 n0 _ T2_.heap _; exact ⟨b1_, a1_2_, rfl, N2_, k6_, p2__0⟩), fun fs hr => ?_⟩
 refine klloadN X0 hx hby (D1 0) rfl ?_
 refine klc X0 hx hby (D1 1) ?_
 refine klcmp X0 hx hby (D1 2) ?_
 refine kfY X0 hx (pc0 := 3) (pc' := 10) rfl hby (D1 3) ((if0 _ _).trans (feq ((fun q => vz (by rw [(lw_eq _ _).mp q]; rfl)) : ¬ ((lcmpW v1 (0 : Int64)) = (0 : Int32)))).2) (by decide) (by decide) ?_
 refine klloadN X0 hx hby (D1 6) rfl ?_
 refine klc X0 hx hby (D1 7) ?_
 refine klcmp X0 hx hby (D1 8) ?_
 refine kfY X0 hx (pc0 := 13) (pc' := 31) rfl hby (D1 9) ((if0 _ _).trans (flt ((fun q => absurd ((lw_gt v1 (0 : Int64)).mp q) (by rw [Int64.lt_iff_toInt_lt]; omega)) : ¬ ((0 : Int32) < (lcmpW v1 (0 : Int64))))).2.2.2) (by decide) (by decide) ?_
 refine klloadN X0 hx hby (D1 19) rfl ?_
 refine klc X0 hx hby (D1 20) ?_
 refine klcmp X0 hx hby (D1 21) ?_
 refine kfN X0 hx hby (D1 22) ((if0 _ _).trans (tlt (((lw_lt v1 (0 : Int64)).mpr (by rw [Int64.lt_iff_toInt_lt]; omega)) : (lcmpW v1 (0 : Int64)) < (0 : Int32))).2.1) ?_
 refine klloadN X0 hx hby (D1 23) rfl ?_
 refine own_l2 X0 hx hZ hown (wt hw 201 rfl) hby (D1 24) ?_
 refine klcmp X0 hx hby (D1 25) ?_
 refine kfY X0 hx (pc0 := 42) (pc' := 53) rfl hby (D1 26) ((if0 _ _).trans (tlt (((lw_lt v1 (-16 : Int64)).mpr (by rw [Int64.lt_iff_toInt_lt]; omega)) : (lcmpW v1 (-16 : Int64)) < (0 : Int32))).1) (by decide) (by decide) ?_
 show Steps p.tables e below (s₁.setTop (mkF m 53 #[lv v1, .second] [])) _
 refine st1_ _ ?_
 show Steps p.tables e below (T1_.setTop (mkF m 56 #[lv v1, .second] [(.ref b1_)])) _
 refine kdup X1_ hx hby (D1 34) rfl ?_
 refine klloadN X1_ hx hby (D1 35) rfl ?_
 refine st2_ _ ?_
 exact retR X2_ hx hret rfl rfl rfl (hb hby (D1 37)) hr
theorem rmVo (l : Launch) (Z : State) (a0 : Array Value) (hw : own_W Z a0) (ws : List Jvm.Cond) (v1 : Int64) (zo : Addr) (za : Addr) (pa : Addr) (na : Addr) (h0 : Heap) (n0 : Nat) (Z0 : n0 ≤ h0.size) (T0 : Sta Z Z.heap "java/math/BigInteger" "ZERO" "Ljava/math/BigInteger;" (.ref zo)) (O1 : Old Z n0 h0) (BZ : own_BI Z Z.heap zo za (0 : Int)) (TP : Sta Z Z.heap "java/math/BigInteger" "posConst" "[Ljava/math/BigInteger;" (.ref pa)) (TN : Sta Z Z.heap "java/math/BigInteger" "negConst" "[Ljava/math/BigInteger;" (.ref na)) (CP : own_Ca Z pa 1) (CN : own_Ca Z na (-1)) (vm : -9223372036854775808 < (Int64.toInt v1)) :
    own_Met l Y1 jdk_2097_method_29_code 2 (some (.object "java/math/BigInteger")) ⟨3, 2, 8, 40⟩ ws #[(.long v1)] Z h0 (Q_rmVo Z v1 zo za pa na h0 n0) := by
  by_cases c0 : v1 = (0 : Int64)
  · exact voZ l Z a0 hw ws _ _ _ _ _ h0 n0 Z0 T0 O1 BZ TP TN CP CN vm c0
  · have vz : (Int64.toInt v1) ≠ 0 := fun q => c0 (Int64.toInt_inj.mp q)
    by_cases c1 : 0 < (Int64.toInt v1)
    · by_cases c2 : (Int64.toInt v1) ≤ 16
      · exact voP l Z a0 hw ws _ _ _ _ _ h0 n0 Z0 T0 O1 BZ TP TN CP CN vm vz ⟨c1, c2⟩
      · exact voA l Z a0 hw ws _ _ _ _ _ h0 n0 Z0 T0 O1 BZ TP TN CP CN vm vz (by omega)
    · by_cases c2 : -16 ≤ (Int64.toInt v1)
      · exact voN l Z a0 hw ws _ _ _ _ _ h0 n0 Z0 T0 O1 BZ TP TN CP CN vm vz ⟨by omega, c2⟩
      · exact voB l Z a0 hw ws _ _ _ _ _ h0 n0 Z0 T0 O1 BZ TP TN CP CN vm vz (by omega)
theorem pd21 : parseMethodDescriptor "(J)Ljava/math/BigInteger;" = some ⟨[.long], some (.object "java/math/BigInteger")⟩ := by decide +kernel
theorem pd22 : parseMethodDescriptor "(Ljava/math/BigInteger;Ljava/math/BigInteger;)Lcom/example/unconfuse/unconfuse/Fraction;" = some ⟨[(.object "java/math/BigInteger"), (.object "java/math/BigInteger")], some (.object "com/example/unconfuse/unconfuse/Fraction")⟩ := by decide +kernel
theorem pd23 : parseMethodDescriptor "(Ljava/lang/Object;)Z" = some ⟨[(.object "java/lang/Object")], some .boolean⟩ := by decide +kernel
theorem ef0_IIII (m : MethodId) (x0 : Int32) (x1 : Int32) (x2 : Int32) (x3 : Int32) : entryFrame m #[(.int x0), (.int x1), (.int x2), (.int x3)] maxLocals = mkF m 0 #[iv x0, iv x1, iv x2, iv x3, .unset, .unset, .unset, .unset, .unset, .unset, .unset, .unset, .unset, .unset, .unset, .unset, .unset, .unset, .unset, .unset, .unset, .unset, .unset, .unset, .unset, .unset] [] := by first | (simp [entryFrame, mkF, argsToLocals, Value.category, maxLocals]; done) | rfl
theorem pn_com_example_unconfuse_unconfuse_FractionOfPinLaw : plainName "com/example/unconfuse/unconfuse/FractionOfPinLaw" = true := by first | (simp [plainName, overriddenIn]; done) | decide +kernel
def Q_rm0z (Z : State) (p1 : Int32) (p2 : Int32) (p3 : Int32) (p4 : Int32) (P1 : Int64) (M1 : Int64) (K0 : Int64) (Q1 : Int64) (zo : Addr) (za : Addr) (pa : Addr) (na : Addr) (K1 : Int64) (fl : Int32) (T1 : Int64) (B1 : Int64) (h0 : Heap) (n0 : Nat) (v : Option Value) (h : Heap) (L : List Loc) : Prop := v = some (.int 1) ∧ Fr n0 L
theorem rm0z (l : Launch) (Z : State) (a0 : Array Value) (hw : own_W Z a0) (ws : List Jvm.Cond) (p1 : Int32) (p2 : Int32) (p3 : Int32) (p4 : Int32) (P1 : Int64) (M1 : Int64) (K0 : Int64) (Q1 : Int64) (zo : Addr) (za : Addr) (pa : Addr) (na : Addr) (K1 : Int64) (fl : Int32) (T1 : Int64) (B1 : Int64) (h0 : Heap) (n0 : Nat) (Z0 : n0 ≤ h0.size) (T0 : Sta Z Z.heap "java/math/BigInteger" "ZERO" "Ljava/math/BigInteger;" (.ref zo)) (O1 : Old Z n0 h0) (BZ : own_BI Z Z.heap zo za (0 : Int)) (TP : Sta Z Z.heap "java/math/BigInteger" "posConst" "[Ljava/math/BigInteger;" (.ref pa)) (TN : Sta Z Z.heap "java/math/BigInteger" "negConst" "[Ljava/math/BigInteger;" (.ref na)) (CP : own_Ca Z pa 1) (CN : own_Ca Z na (-1)) (eP : (p1.toInt64) = P1) (eM : ((p2.toInt16.toInt32).toInt64) = M1) (eK : ((p3.toInt16.toInt32).toInt64) = K0) (hK1 : K1 = if (lcmpW K0 (0 : Int64)) = (0 : Int32) then (32768 : Int64) else K0) (eQ : ((P1 * M1) + (1 : Int64)) = Q1) (hfl : fl = if (p4 &&& (1 : Int32)) = (0 : Int32) then (0 : Int32) else (1 : Int32)) (hT1 : T1 = if fl = (0 : Int32) then P1 else Q1) (hB1 : B1 = if fl = (0 : Int32) then Q1 else P1) (hb0 : B1 = (0 : Int64)) : own_Met l x code maxLocals ret room_1 ws #[(.int p1), (.int p2), (.int p3), (.int p4)] Z h0 (Q_rm0z Z p1 p2 p3 p4 P1 M1 K0 Q1 zo za pa na K1 fl T1 B1 h0 n0) := by
 refine own_go (plainFor_of_name pn_com_example_unconfuse_unconfuse_FractionOfPinLaw) (fun m => ef0_IIII m p1 p2 p3 p4) fun p e s m below meth c s₁ hx hby hml hown hnm hret hZ e0 X0 => ?_
 have N0 := Fr.nil n0
 refine ⟨_, _, _, _, some (.int 1), X0, (by exact own_b rfl), (by exact own_b rfl), nofun, (by show Q_rm0z Z p1 p2 p3 p4 P1 M1 K0 Q1 zo za pa na K1 fl T1 B1 h0 n0 _ s₁.heap _; rw [e0]; exact ⟨rfl, N0⟩), fun fs hr => ?_⟩
 refine kiN X0 hx hby at_0 rfl ?_
 refine ki2l X0 hx hby at_1 ?_
 refine own_rJ (eP) ?_
 refine kls X0 hx hby at_2 (l' := #[iv p1, iv p2, iv p3, iv p4, lv P1, .second, .unset, .unset, .unset, .unset, .unset, .unset, .unset, .unset, .unset, .unset, .unset, .unset, .unset, .unset, .unset, .unset, .unset, .unset, .unset, .unset]) rfl ?_
 refine kiN X0 hx hby at_4 rfl ?_
 refine ki2s X0 hx hby at_5 ?_
 refine ki2l X0 hx hby at_6 ?_
 refine own_rJ (eM) ?_
 refine kls X0 hx hby at_7 (l' := #[iv p1, iv p2, iv p3, iv p4, lv P1, .second, lv M1, .second, .unset, .unset, .unset, .unset, .unset, .unset, .unset, .unset, .unset, .unset, .unset, .unset, .unset, .unset, .unset, .unset, .unset, .unset]) rfl ?_
 refine kiN X0 hx hby at_9 rfl ?_
 refine ki2s X0 hx hby at_10 ?_
 refine ki2l X0 hx hby at_11 ?_
 refine own_rJ (eK) ?_
 refine kls X0 hx hby at_12 (l' := #[iv p1, iv p2, iv p3, iv p4, lv P1, .second, lv M1, .second, lv K0, .second, .unset, .unset, .unset, .unset, .unset, .unset, .unset, .unset, .unset, .unset, .unset, .unset, .unset, .unset, .unset, .unset]) rfl ?_
 refine kl X0 hx hby at_14 rfl ?_
 refine klc X0 hx hby at_16 ?_
 refine klcmp X0 hx hby at_17 ?_
 have br1_ : ∀ t, Steps p.tables e below (s₁.setTop (mkF m 26 #[iv p1, iv p2, iv p3, iv p4, lv P1, .second, lv M1, .second, lv K1, .second, .unset, .unset, .unset, .unset, .unset, .unset, .unset, .unset, .unset, .unset, .unset, .unset, .unset, .unset, .unset, .unset] [])) t → Steps p.tables e below (s₁.setTop (mkF m 18 #[iv p1, iv p2, iv p3, iv p4, lv P1, .second, lv M1, .second, lv K0, .second, .unset, .unset, .unset, .unset, .unset, .unset, .unset, .unset, .unset, .unset, .unset, .unset, .unset, .unset, .unset, .unset] [(.int (lcmpW K0 (0 : Int64)))])) t := by
   intro t k
   by_cases hcd : (lcmpW K0 (0 : Int64)) = (0 : Int32)
   · show Steps p.tables e below (s₁.setTop (mkF m 18 #[iv p1, iv p2, iv p3, iv p4, lv P1, .second, lv M1, .second, lv K0, .second, .unset, .unset, .unset, .unset, .unset, .unset, .unset, .unset, .unset, .unset, .unset, .unset, .unset, .unset, .unset, .unset] [(.int (lcmpW K0 (0 : Int64)))])) _
     refine kfN X0 hx hby at_18 ((if0 _ _).trans (teq (hcd : (lcmpW K0 (0 : Int64)) = (0 : Int32))).2) ?_
     refine own_l2 X0 hx hZ hown (wt hw 239 rfl) hby at_21 ?_
     show Steps p.tables e below (s₁.setTop (mkF m 24 #[iv p1, iv p2, iv p3, iv p4, lv P1, .second, lv M1, .second, lv K0, .second, .unset, .unset, .unset, .unset, .unset, .unset, .unset, .unset, .unset, .unset, .unset, .unset, .unset, .unset, .unset, .unset] [(.long 32768)])) _
     refine kls X0 hx hby at_24 (l' := #[iv p1, iv p2, iv p3, iv p4, lv P1, .second, lv M1, .second, lv 32768, .second, .unset, .unset, .unset, .unset, .unset, .unset, .unset, .unset, .unset, .unset, .unset, .unset, .unset, .unset, .unset, .unset]) rfl ?_
     show Steps p.tables e below (s₁.setTop (mkF m 26 #[iv p1, iv p2, iv p3, iv p4, lv P1, .second, lv M1, .second, lv 32768, .second, .unset, .unset, .unset, .unset, .unset, .unset, .unset, .unset, .unset, .unset, .unset, .unset, .unset, .unset, .unset, .unset] [])) _
     rw [hK1, if_pos hcd] at k
     exact k
   · show Steps p.tables e below (s₁.setTop (mkF m 18 #[iv p1, iv p2, iv p3, iv p4, lv P1, .second, lv M1, .second, lv K0, .second, .unset, .unset, .unset, .unset, .unset, .unset, .unset, .unset, .unset, .unset, .unset, .unset, .unset, .unset, .unset, .unset] [(.int (lcmpW K0 (0 : Int64)))])) _
     refine kfY X0 hx (pc0 := 18) (pc' := 26) rfl hby at_18 ((if0 _ _).trans (feq (hcd : ¬ ((lcmpW K0 (0 : Int64)) = (0 : Int32)))).2) (by decide) (by decide) ?_
     show Steps p.tables e below (s₁.setTop (mkF m 26 #[iv p1, iv p2, iv p3, iv p4, lv P1, .second, lv M1, .second, lv K0, .second, .unset, .unset, .unset, .unset, .unset, .unset, .unset, .unset, .unset, .unset, .unset, .unset, .unset, .unset, .unset, .unset] [])) _
     rw [hK1, if_neg hcd] at k
     exact k
 refine br1_ _ ?_
 refine kl X0 hx hby at_26 rfl ?_
 refine kl X0 hx hby at_28 rfl ?_
 refine klmul X0 hx hby at_30 ?_
 refine klc X0 hx hby at_31 ?_
 refine kladd X0 hx hby at_32 ?_
 refine own_rJ (eQ) ?_
 refine kls X0 hx hby at_33 (l' := #[iv p1, iv p2, iv p3, iv p4, lv P1, .second, lv M1, .second, lv K1, .second, lv Q1, .second, .unset, .unset, .unset, .unset, .unset, .unset, .unset, .unset, .unset, .unset, .unset, .unset, .unset, .unset]) rfl ?_
 refine kiN X0 hx hby at_35 rfl ?_
 refine kc X0 hx hby at_36 ?_
 refine kiand X0 hx hby at_37 ?_
 have br2_ : ∀ t, Steps p.tables e below (s₁.setTop (mkF m 46 #[iv p1, iv p2, iv p3, iv p4, lv P1, .second, lv M1, .second, lv K1, .second, lv Q1, .second, .unset, .unset, .unset, .unset, .unset, .unset, .unset, .unset, .unset, .unset, .unset, .unset, .unset, .unset] [(.int fl)])) t → Steps p.tables e below (s₁.setTop (mkF m 38 #[iv p1, iv p2, iv p3, iv p4, lv P1, .second, lv M1, .second, lv K1, .second, lv Q1, .second, .unset, .unset, .unset, .unset, .unset, .unset, .unset, .unset, .unset, .unset, .unset, .unset, .unset, .unset] [(.int (p4 &&& (1 : Int32)))])) t := by
   intro t k
   by_cases hcd : (p4 &&& (1 : Int32)) = (0 : Int32)
   · refine kfY X0 hx (pc0 := 38) (pc' := 45) rfl hby at_38 ((if0 _ _).trans (teq (hcd : (p4 &&& (1 : Int32)) = (0 : Int32))).1) (by decide) (by decide) ?_
     refine kc X0 hx hby at_45 ?_
     rw [hfl, if_pos hcd] at k
     exact k
   · refine kfN X0 hx hby at_38 ((if0 _ _).trans (feq (hcd : ¬ ((p4 &&& (1 : Int32)) = (0 : Int32)))).1) ?_
     refine kc X0 hx hby at_41 ?_
     refine kg X0 hx (pc0 := 42) (pc' := 46) rfl hby at_42 (by decide) (by decide) ?_
     rw [hfl, if_neg hcd] at k
     exact k
 refine br2_ _ ?_
 refine ks X0 hx hby at_46 (l' := #[iv p1, iv p2, iv p3, iv p4, lv P1, .second, lv M1, .second, lv K1, .second, lv Q1, .second, iv fl, .unset, .unset, .unset, .unset, .unset, .unset, .unset, .unset, .unset, .unset, .unset, .unset, .unset]) rfl ?_
 refine ki X0 hx hby at_48 rfl ?_
 have br3_ : ∀ t, Steps p.tables e below (s₁.setTop (mkF m 60 #[iv p1, iv p2, iv p3, iv p4, lv P1, .second, lv M1, .second, lv K1, .second, lv Q1, .second, iv fl, .unset, .unset, .unset, .unset, .unset, .unset, .unset, .unset, .unset, .unset, .unset, .unset, .unset] [(.long T1)])) t → Steps p.tables e below (s₁.setTop (mkF m 50 #[iv p1, iv p2, iv p3, iv p4, lv P1, .second, lv M1, .second, lv K1, .second, lv Q1, .second, iv fl, .unset, .unset, .unset, .unset, .unset, .unset, .unset, .unset, .unset, .unset, .unset, .unset, .unset] [(.int fl)])) t := by
   intro t k
   by_cases hcd : fl = (0 : Int32)
   · refine kfY X0 hx (pc0 := 50) (pc' := 58) rfl hby at_50 ((if0 _ _).trans (teq (hcd : fl = (0 : Int32))).1) (by decide) (by decide) ?_
     refine kl X0 hx hby at_58 rfl ?_
     rw [hT1, if_pos hcd] at k
     exact k
   · refine kfN X0 hx hby at_50 ((if0 _ _).trans (feq (hcd : ¬ (fl = (0 : Int32)))).1) ?_
     refine kl X0 hx hby at_53 rfl ?_
     refine kg X0 hx (pc0 := 55) (pc' := 60) rfl hby at_55 (by decide) (by decide) ?_
     rw [hT1, if_neg hcd] at k
     exact k
 refine br3_ _ ?_
 refine kls X0 hx hby at_60 (l' := #[iv p1, iv p2, iv p3, iv p4, lv P1, .second, lv M1, .second, lv K1, .second, lv Q1, .second, iv fl, lv T1, .second, .unset, .unset, .unset, .unset, .unset, .unset, .unset, .unset, .unset, .unset, .unset]) rfl ?_
 refine ki X0 hx hby at_62 rfl ?_
 have br4_ : ∀ t, Steps p.tables e below (s₁.setTop (mkF m 74 #[iv p1, iv p2, iv p3, iv p4, lv P1, .second, lv M1, .second, lv K1, .second, lv Q1, .second, iv fl, lv T1, .second, .unset, .unset, .unset, .unset, .unset, .unset, .unset, .unset, .unset, .unset, .unset] [(.long B1)])) t → Steps p.tables e below (s₁.setTop (mkF m 64 #[iv p1, iv p2, iv p3, iv p4, lv P1, .second, lv M1, .second, lv K1, .second, lv Q1, .second, iv fl, lv T1, .second, .unset, .unset, .unset, .unset, .unset, .unset, .unset, .unset, .unset, .unset, .unset] [(.int fl)])) t := by
   intro t k
   by_cases hcd : fl = (0 : Int32)
   · refine kfY X0 hx (pc0 := 64) (pc' := 72) rfl hby at_64 ((if0 _ _).trans (teq (hcd : fl = (0 : Int32))).1) (by decide) (by decide) ?_
     refine kl X0 hx hby at_72 rfl ?_
     rw [hB1, if_pos hcd] at k
     exact k
   · refine kfN X0 hx hby at_64 ((if0 _ _).trans (feq (hcd : ¬ (fl = (0 : Int32)))).1) ?_
     refine kl X0 hx hby at_67 rfl ?_
     refine kg X0 hx (pc0 := 69) (pc' := 74) rfl hby at_69 (by decide) (by decide) ?_
     rw [hB1, if_neg hcd] at k
     exact k
 refine br4_ _ ?_
 refine kls X0 hx hby at_74 (l' := #[iv p1, iv p2, iv p3, iv p4, lv P1, .second, lv M1, .second, lv K1, .second, lv Q1, .second, iv fl, lv T1, .second, lv B1, .second, .unset, .unset, .unset, .unset, .unset, .unset, .unset, .unset, .unset]) rfl ?_
 refine kl X0 hx hby at_76 rfl ?_
 refine klc X0 hx hby at_78 ?_
 refine klcmp X0 hx hby at_79 ?_
 refine kfN X0 hx hby at_80 ((if0 _ _).trans (teq (((lw_eq _ _).mpr hb0) : (lcmpW B1 (0 : Int64)) = (0 : Int32))).2) ?_
 refine kc X0 hx hby at_83 ?_
 exact retN X0 hx (t := .boolean) hret (by simp) (hb hby at_84) hr
def Q_rm0m (Z : State) (p1 : Int32) (p2 : Int32) (p3 : Int32) (p4 : Int32) (P1 : Int64) (M1 : Int64) (K0 : Int64) (Q1 : Int64) (N1 : Int64) (D1 : Int64) (g1 : Int) (zo : Addr) (za : Addr) (pa : Addr) (na : Addr) (K1 : Int64) (fl : Int32) (T1 : Int64) (B1 : Int64) (EN : Int64) (ED : Int64) (h0 : Heap) (n0 : Nat) (v : Option Value) (h : Heap) (L : List Loc) : Prop := v = some (.int 1) ∧ Fr n0 L
theorem rm0m (l : Launch) (Z : State) (a0 : Array Value) (hw : own_W Z a0) (ws : List Jvm.Cond) (p1 : Int32) (p2 : Int32) (p3 : Int32) (p4 : Int32) (P1 : Int64) (M1 : Int64) (K0 : Int64) (Q1 : Int64) (N1 : Int64) (D1 : Int64) (g1 : Int) (zo : Addr) (za : Addr) (pa : Addr) (na : Addr) (K1 : Int64) (fl : Int32) (T1 : Int64) (B1 : Int64) (EN : Int64) (ED : Int64) (h0 : Heap) (n0 : Nat) (Z0 : n0 ≤ h0.size) (T0 : Sta Z Z.heap "java/math/BigInteger" "ZERO" "Ljava/math/BigInteger;" (.ref zo)) (O1 : Old Z n0 h0) (BZ : own_BI Z Z.heap zo za (0 : Int)) (TP : Sta Z Z.heap "java/math/BigInteger" "posConst" "[Ljava/math/BigInteger;" (.ref pa)) (TN : Sta Z Z.heap "java/math/BigInteger" "negConst" "[Ljava/math/BigInteger;" (.ref na)) (CP : own_Ca Z pa 1) (CN : own_Ca Z na (-1)) (eP : (p1.toInt64) = P1) (eM : ((p2.toInt16.toInt32).toInt64) = M1) (eK : ((p3.toInt16.toInt32).toInt64) = K0) (hK1 : K1 = if (lcmpW K0 (0 : Int64)) = (0 : Int32) then (32768 : Int64) else K0) (eQ : ((P1 * M1) + (1 : Int64)) = Q1) (hfl : fl = if (p4 &&& (1 : Int32)) = (0 : Int32) then (0 : Int32) else (1 : Int32)) (hT1 : T1 = if fl = (0 : Int32) then P1 else Q1) (hB1 : B1 = if fl = (0 : Int32) then Q1 else P1) (hb0 : ¬ (B1 = (0 : Int64))) (eN : (K1 * T1) = N1) (eD : (K1 * B1) = D1) (hEN : EN = if (0 : Int32) < (lcmpW B1 (0 : Int64)) then T1 else (-T1)) (hED : ED = if (0 : Int32) < (lcmpW B1 (0 : Int64)) then B1 else (-B1)) (vN : -9223372036854775808 < (Int64.toInt N1)) (vD : -9223372036854775808 < (Int64.toInt D1)) (vE : -9223372036854775808 < (Int64.toInt EN)) (vF : -9223372036854775808 < (Int64.toInt ED)) (o1 : (Int64.toInt D1).natAbs ≠ 0) (o2 : (Int64.toInt N1).natAbs < 18446744073709551616) (o3 : (Int64.toInt D1).natAbs < 18446744073709551616) (o4 : Nat.gcd (Int64.toInt N1).natAbs (Int64.toInt D1).natAbs < 4294967296) (o5 : Nat.gcd (Int64.toInt N1).natAbs (Int64.toInt D1).natAbs < 2147483648) (o6 : (Int64.toInt N1) = (Int64.toInt EN) * g1) (o7 : (Int64.toInt D1) = (Int64.toInt ED) * g1) (o8 : 0 < (Int64.toInt ED)) (o9 : g1.natAbs = Nat.gcd (Int64.toInt N1).natAbs (Int64.toInt D1).natAbs) : own_Met l x code maxLocals ret room_1 ws #[(.int p1), (.int p2), (.int p3), (.int p4)] Z h0 (Q_rm0m Z p1 p2 p3 p4 P1 M1 K0 Q1 N1 D1 g1 zo za pa na K1 fl T1 B1 EN ED h0 n0) := by
 refine own_go (plainFor_of_name pn_com_example_unconfuse_unconfuse_FractionOfPinLaw) (fun m => ef0_IIII m p1 p2 p3 p4) fun p e s m below meth c s₁ hx hby hml hown hnm hret hZ e0 X0 => ?_
 have N0 := Fr.nil n0
 obtain ⟨T7_, Lc7_, v7_, X7_, hQ7_, st7_⟩ := own_cS (y := Y1) X0 hx hZ hown (wt hw 0 rfl) (wt hw 1 rfl) (wt hw 3 rfl) (wt hw 2 rfl) (by decide) (rmVo l Z a0 hw [] N1 zo za pa na h0 n0 Z0 T0 O1 BZ TP TN CP CN vN) e0 (pc := 135) (Ls := #[iv p1, iv p2, iv p3, iv p4, lv P1, .second, lv M1, .second, lv K1, .second, lv Q1, .second, iv fl, lv T1, .second, lv B1, .second, lv N1, .second, lv D1, .second, lv EN, .second, lv ED, .second, .unset]) (stk := [(.long N1)]) (rest := []) (by rw [hml]; rfl) pd21 rfl rfl (W := 0) rfl hby at_135 (by decide) (by decide) (by exact own_b rfl) (by exact own_b rfl)
 obtain ⟨xv_7_, tv_7_, rfl, Nq7_, ek7_, p7__0⟩ := hQ7_
 have N7_ := Fr.app N0 Nq7_
 have f9_ := O1.keep ek7_ all0
 have z10_ : n0 ≤ T7_.heap.size := Nat.le_trans Z0 ek7_.1
 obtain ⟨T8_, Lc8_, v8_, X8_, hQ8_, st8_⟩ := own_cS (y := Y1) X7_ hx hZ hown (wt hw 0 rfl) (wt hw 1 rfl) (wt hw 3 rfl) (wt hw 2 rfl) (by decide) (rmVo l Z a0 hw [] D1 zo za pa na T7_.heap n0 z10_ T0 f9_ BZ TP TN CP CN vD) rfl (pc := 140) (Ls := #[iv p1, iv p2, iv p3, iv p4, lv P1, .second, lv M1, .second, lv K1, .second, lv Q1, .second, iv fl, lv T1, .second, lv B1, .second, lv N1, .second, lv D1, .second, lv EN, .second, lv ED, .second, .unset]) (stk := [(.long D1), (.ref xv_7_)]) (rest := [(.ref xv_7_)]) (by rw [hml]; rfl) pd21 rfl rfl (W := 1) rfl hby at_140 (by decide) (by decide) (by exact own_b rfl) (by exact own_b rfl)
 obtain ⟨xv_8_, tv_8_, rfl, Nq8_, ek8_, p8__0⟩ := hQ8_
 have N8_ := Fr.app N7_ Nq8_
 have f12_ := p7__0.keep ek8_ nin0 nin0
 have f13_ := f9_.keep ek8_ all0
 have z14_ : n0 ≤ T8_.heap.size := Nat.le_trans z10_ ek8_.1
 obtain ⟨T11_, Lc11_, v11_, X11_, hQ11_, st11_⟩ := own_cS (y := Y5) X8_ hx hZ hown (wt hw 25 rfl) (wt hw 26 rfl) (wt hw 28 rfl) (wt hw 27 rfl) (by decide) (rmOf l Z a0 hw [] xv_7_ xv_8_ tv_7_ (Int64.toInt N1) tv_8_ (Int64.toInt D1) g1 (Int64.toInt EN) (Int64.toInt ED) zo za T8_.heap n0 z14_ f12_ p8__0 o1 o2 o3 o4 o5 o6 o7 T0 f13_ BZ o8 o9) rfl (pc := 143) (Ls := #[iv p1, iv p2, iv p3, iv p4, lv P1, .second, lv M1, .second, lv K1, .second, lv Q1, .second, iv fl, lv T1, .second, lv B1, .second, lv N1, .second, lv D1, .second, lv EN, .second, lv ED, .second, .unset]) (stk := [(.ref xv_8_), (.ref xv_7_)]) (rest := []) (by rw [hml]; rfl) pd22 rfl rfl (W := 0) rfl hby at_143 (by decide) (by decide) (by exact own_b rfl) (by exact own_b rfl)
 obtain ⟨fr_11_, xn_11_, xd_11_, tn_11_, td_11_, rfl, Nq11_, ek11_, p11__0, p11__1, p11__2, p11__3, p11__4⟩ := hQ11_
 have N11_ := Fr.app N8_ Nq11_
 have z16_ : n0 ≤ T11_.heap.size := Nat.le_trans z14_ ek11_.1
 obtain ⟨T15_, Lc15_, v15_, X15_, hQ15_, st15_⟩ := own_cV (y := Y34) X11_ hx hZ hown (wt hw 185 rfl) (wt hw 187 rfl) (wt hw 188 rfl) (wt hw 189 rfl) (wt hw 27 rfl) (by decide) (rmFn l Z a0 hw [] fr_11_ xn_11_ T11_.heap n0 z16_ p11__1) p11__0 rfl (pc := 150) (Ls := #[iv p1, iv p2, iv p3, iv p4, lv P1, .second, lv M1, .second, lv K1, .second, lv Q1, .second, iv fl, lv T1, .second, lv B1, .second, lv N1, .second, lv D1, .second, lv EN, .second, lv ED, .second, rv fr_11_]) (stk := [(.ref fr_11_)]) (rest := []) (by rw [hml]; rfl) pd12 rfl rfl (W := 0) rfl hby at_150 (by decide) (by decide) (by exact own_b rfl) (by exact own_b rfl)
 obtain ⟨rfl, Nq15_, ek15_⟩ := hQ15_
 have N15_ := Fr.app N11_ Nq15_
 have f18_ := f13_.keep ek11_ all0
 obtain ⟨T17_, Lc17_, v17_, X17_, hQ17_, st17_⟩ := own_cS (y := Y1) X15_ hx hZ hown (wt hw 0 rfl) (wt hw 1 rfl) (wt hw 3 rfl) (wt hw 2 rfl) (by decide) (rmVo l Z a0 hw [] EN zo za pa na T11_.heap n0 z16_ T0 f18_ BZ TP TN CP CN vE) ek15_ (pc := 155) (Ls := #[iv p1, iv p2, iv p3, iv p4, lv P1, .second, lv M1, .second, lv K1, .second, lv Q1, .second, iv fl, lv T1, .second, lv B1, .second, lv N1, .second, lv D1, .second, lv EN, .second, lv ED, .second, rv fr_11_]) (stk := [(.long EN), (.ref xn_11_)]) (rest := [(.ref xn_11_)]) (by rw [hml]; rfl) pd21 rfl rfl (W := 1) rfl hby at_155 (by decide) (by decide) (by exact own_b rfl) (by exact own_b rfl)
 obtain ⟨xv_17_, tv_17_, rfl, Nq17_, ek17_, p17__0⟩ := hQ17_
 have N17_ := Fr.app N15_ Nq17_
 have f20_ := p11__3.keep ek17_ nin0 nin0
 have z21_ : n0 ≤ T17_.heap.size := Nat.le_trans z16_ ek17_.1
 have f22_ := p11__3.1.keep ek17_
 obtain ⟨T19_, Lc19_, v19_, X19_, hQ19_, st19_⟩ := own_cV (y := Y35) X17_ hx hZ hown (wt hw 191 rfl) (wt hw 193 rfl) (wt hw 194 rfl) (wt hw 195 rfl) (wt hw 2 rfl) (by decide) (rmEq l Z a0 hw [] xn_11_ xv_17_ tn_11_ tv_17_ (Int64.toInt EN) T17_.heap n0 z21_ f20_ p17__0) f22_ rfl (pc := 158) (Ls := #[iv p1, iv p2, iv p3, iv p4, lv P1, .second, lv M1, .second, lv K1, .second, lv Q1, .second, iv fl, lv T1, .second, lv B1, .second, lv N1, .second, lv D1, .second, lv EN, .second, lv ED, .second, rv fr_11_]) (stk := [(.ref xv_17_), (.ref xn_11_)]) (rest := []) (by rw [hml]; rfl) pd23 rfl rfl (W := 0) rfl hby at_158 (by decide) (by decide) (by exact own_b rfl) (by exact own_b rfl)
 obtain ⟨rfl, Nq19_, ek19_⟩ := hQ19_
 have N19_ := Fr.app N17_ Nq19_
 have f24_ := p11__2.keep ek17_ nin0
 have f25_ := p11__0.keep ek17_
 obtain ⟨T23_, Lc23_, v23_, X23_, hQ23_, st23_⟩ := own_cV (y := Y36) X19_ hx hZ hown (wt hw 196 rfl) (wt hw 198 rfl) (wt hw 199 rfl) (wt hw 200 rfl) (wt hw 27 rfl) (by decide) (rmFd l Z a0 hw [] fr_11_ xd_11_ T17_.heap n0 z21_ f24_) f25_ ek19_ (pc := 166) (Ls := #[iv p1, iv p2, iv p3, iv p4, lv P1, .second, lv M1, .second, lv K1, .second, lv Q1, .second, iv fl, lv T1, .second, lv B1, .second, lv N1, .second, lv D1, .second, lv EN, .second, lv ED, .second, rv fr_11_]) (stk := [(.ref fr_11_)]) (rest := []) (by rw [hml]; rfl) pd12 rfl rfl (W := 0) rfl hby at_166 (by decide) (by decide) (by exact own_b rfl) (by exact own_b rfl)
 obtain ⟨rfl, Nq23_, ek23_⟩ := hQ23_
 have N23_ := Fr.app N19_ Nq23_
 have f27_ := f18_.keep ek17_ all0
 obtain ⟨T26_, Lc26_, v26_, X26_, hQ26_, st26_⟩ := own_cS (y := Y1) X23_ hx hZ hown (wt hw 0 rfl) (wt hw 1 rfl) (wt hw 3 rfl) (wt hw 2 rfl) (by decide) (rmVo l Z a0 hw [] ED zo za pa na T17_.heap n0 z21_ T0 f27_ BZ TP TN CP CN vF) ek23_ (pc := 171) (Ls := #[iv p1, iv p2, iv p3, iv p4, lv P1, .second, lv M1, .second, lv K1, .second, lv Q1, .second, iv fl, lv T1, .second, lv B1, .second, lv N1, .second, lv D1, .second, lv EN, .second, lv ED, .second, rv fr_11_]) (stk := [(.long ED), (.ref xd_11_)]) (rest := [(.ref xd_11_)]) (by rw [hml]; rfl) pd21 rfl rfl (W := 1) rfl hby at_171 (by decide) (by decide) (by exact own_b rfl) (by exact own_b rfl)
 obtain ⟨xv_26_, tv_26_, rfl, Nq26_, ek26_, p26__0⟩ := hQ26_
 have N26_ := Fr.app N23_ Nq26_
 have f29_ := (p11__4.keep ek17_ nin0 nin0).keep ek26_ nin0 nin0
 have z30_ : n0 ≤ T26_.heap.size := Nat.le_trans z21_ ek26_.1
 have f31_ := (p11__4.1.keep ek17_).keep ek26_
 obtain ⟨T28_, Lc28_, v28_, X28_, hQ28_, st28_⟩ := own_cV (y := Y35) X26_ hx hZ hown (wt hw 191 rfl) (wt hw 193 rfl) (wt hw 194 rfl) (wt hw 195 rfl) (wt hw 2 rfl) (by decide) (rmEq l Z a0 hw [] xd_11_ xv_26_ td_11_ tv_26_ (Int64.toInt ED) T26_.heap n0 z30_ f29_ p26__0) f31_ rfl (pc := 174) (Ls := #[iv p1, iv p2, iv p3, iv p4, lv P1, .second, lv M1, .second, lv K1, .second, lv Q1, .second, iv fl, lv T1, .second, lv B1, .second, lv N1, .second, lv D1, .second, lv EN, .second, lv ED, .second, rv fr_11_]) (stk := [(.ref xv_26_), (.ref xd_11_)]) (rest := []) (by rw [hml]; rfl) pd23 rfl rfl (W := 0) rfl hby at_174 (by decide) (by decide) (by exact own_b rfl) (by exact own_b rfl)
 obtain ⟨rfl, Nq28_, ek28_⟩ := hQ28_
 have N28_ := Fr.app N26_ Nq28_
 refine ⟨_, _, _, _, some (.int 1), X28_, (by exact own_b rfl), (by exact own_b rfl), nofun, (by show Q_rm0m Z p1 p2 p3 p4 P1 M1 K0 Q1 N1 D1 g1 zo za pa na K1 fl T1 B1 EN ED h0 n0 _ T28_.heap _; rw [ek28_]; exact ⟨rfl, N28_⟩), fun fs hr => ?_⟩
 refine kiN X0 hx hby at_0 rfl ?_
 refine ki2l X0 hx hby at_1 ?_
 refine own_rJ (eP) ?_
 refine kls X0 hx hby at_2 (l' := #[iv p1, iv p2, iv p3, iv p4, lv P1, .second, .unset, .unset, .unset, .unset, .unset, .unset, .unset, .unset, .unset, .unset, .unset, .unset, .unset, .unset, .unset, .unset, .unset, .unset, .unset, .unset]) rfl ?_
 refine kiN X0 hx hby at_4 rfl ?_
 refine ki2s X0 hx hby at_5 ?_
 refine ki2l X0 hx hby at_6 ?_
 refine own_rJ (eM) ?_
 refine kls X0 hx hby at_7 (l' := #[iv p1, iv p2, iv p3, iv p4, lv P1, .second, lv M1, .second, .unset, .unset, .unset, .unset, .unset, .unset, .unset, .unset, .unset, .unset, .unset, .unset, .unset, .unset, .unset, .unset, .unset, .unset]) rfl ?_
 refine kiN X0 hx hby at_9 rfl ?_
 refine ki2s X0 hx hby at_10 ?_
 refine ki2l X0 hx hby at_11 ?_
 refine own_rJ (eK) ?_
 refine kls X0 hx hby at_12 (l' := #[iv p1, iv p2, iv p3, iv p4, lv P1, .second, lv M1, .second, lv K0, .second, .unset, .unset, .unset, .unset, .unset, .unset, .unset, .unset, .unset, .unset, .unset, .unset, .unset, .unset, .unset, .unset]) rfl ?_
 refine kl X0 hx hby at_14 rfl ?_
 refine klc X0 hx hby at_16 ?_
 refine klcmp X0 hx hby at_17 ?_
 have br1_ : ∀ t, Steps p.tables e below (s₁.setTop (mkF m 26 #[iv p1, iv p2, iv p3, iv p4, lv P1, .second, lv M1, .second, lv K1, .second, .unset, .unset, .unset, .unset, .unset, .unset, .unset, .unset, .unset, .unset, .unset, .unset, .unset, .unset, .unset, .unset] [])) t → Steps p.tables e below (s₁.setTop (mkF m 18 #[iv p1, iv p2, iv p3, iv p4, lv P1, .second, lv M1, .second, lv K0, .second, .unset, .unset, .unset, .unset, .unset, .unset, .unset, .unset, .unset, .unset, .unset, .unset, .unset, .unset, .unset, .unset] [(.int (lcmpW K0 (0 : Int64)))])) t := by
   intro t k
   by_cases hcd : (lcmpW K0 (0 : Int64)) = (0 : Int32)
   · show Steps p.tables e below (s₁.setTop (mkF m 18 #[iv p1, iv p2, iv p3, iv p4, lv P1, .second, lv M1, .second, lv K0, .second, .unset, .unset, .unset, .unset, .unset, .unset, .unset, .unset, .unset, .unset, .unset, .unset, .unset, .unset, .unset, .unset] [(.int (lcmpW K0 (0 : Int64)))])) _
     refine kfN X0 hx hby at_18 ((if0 _ _).trans (teq (hcd : (lcmpW K0 (0 : Int64)) = (0 : Int32))).2) ?_
     refine own_l2 X0 hx hZ hown (wt hw 239 rfl) hby at_21 ?_
     show Steps p.tables e below (s₁.setTop (mkF m 24 #[iv p1, iv p2, iv p3, iv p4, lv P1, .second, lv M1, .second, lv K0, .second, .unset, .unset, .unset, .unset, .unset, .unset, .unset, .unset, .unset, .unset, .unset, .unset, .unset, .unset, .unset, .unset] [(.long 32768)])) _
     refine kls X0 hx hby at_24 (l' := #[iv p1, iv p2, iv p3, iv p4, lv P1, .second, lv M1, .second, lv 32768, .second, .unset, .unset, .unset, .unset, .unset, .unset, .unset, .unset, .unset, .unset, .unset, .unset, .unset, .unset, .unset, .unset]) rfl ?_
     show Steps p.tables e below (s₁.setTop (mkF m 26 #[iv p1, iv p2, iv p3, iv p4, lv P1, .second, lv M1, .second, lv 32768, .second, .unset, .unset, .unset, .unset, .unset, .unset, .unset, .unset, .unset, .unset, .unset, .unset, .unset, .unset, .unset, .unset] [])) _
     rw [hK1, if_pos hcd] at k
     exact k
   · show Steps p.tables e below (s₁.setTop (mkF m 18 #[iv p1, iv p2, iv p3, iv p4, lv P1, .second, lv M1, .second, lv K0, .second, .unset, .unset, .unset, .unset, .unset, .unset, .unset, .unset, .unset, .unset, .unset, .unset, .unset, .unset, .unset, .unset] [(.int (lcmpW K0 (0 : Int64)))])) _
     refine kfY X0 hx (pc0 := 18) (pc' := 26) rfl hby at_18 ((if0 _ _).trans (feq (hcd : ¬ ((lcmpW K0 (0 : Int64)) = (0 : Int32)))).2) (by decide) (by decide) ?_
     show Steps p.tables e below (s₁.setTop (mkF m 26 #[iv p1, iv p2, iv p3, iv p4, lv P1, .second, lv M1, .second, lv K0, .second, .unset, .unset, .unset, .unset, .unset, .unset, .unset, .unset, .unset, .unset, .unset, .unset, .unset, .unset, .unset, .unset] [])) _
     rw [hK1, if_neg hcd] at k
     exact k
 refine br1_ _ ?_
 refine kl X0 hx hby at_26 rfl ?_
 refine kl X0 hx hby at_28 rfl ?_
 refine klmul X0 hx hby at_30 ?_
 refine klc X0 hx hby at_31 ?_
 refine kladd X0 hx hby at_32 ?_
 refine own_rJ (eQ) ?_
 refine kls X0 hx hby at_33 (l' := #[iv p1, iv p2, iv p3, iv p4, lv P1, .second, lv M1, .second, lv K1, .second, lv Q1, .second, .unset, .unset, .unset, .unset, .unset, .unset, .unset, .unset, .unset, .unset, .unset, .unset, .unset, .unset]) rfl ?_
 refine kiN X0 hx hby at_35 rfl ?_
 refine kc X0 hx hby at_36 ?_
 refine kiand X0 hx hby at_37 ?_
 have br2_ : ∀ t, Steps p.tables e below (s₁.setTop (mkF m 46 #[iv p1, iv p2, iv p3, iv p4, lv P1, .second, lv M1, .second, lv K1, .second, lv Q1, .second, .unset, .unset, .unset, .unset, .unset, .unset, .unset, .unset, .unset, .unset, .unset, .unset, .unset, .unset] [(.int fl)])) t → Steps p.tables e below (s₁.setTop (mkF m 38 #[iv p1, iv p2, iv p3, iv p4, lv P1, .second, lv M1, .second, lv K1, .second, lv Q1, .second, .unset, .unset, .unset, .unset, .unset, .unset, .unset, .unset, .unset, .unset, .unset, .unset, .unset, .unset] [(.int (p4 &&& (1 : Int32)))])) t := by
   intro t k
   by_cases hcd : (p4 &&& (1 : Int32)) = (0 : Int32)
   · refine kfY X0 hx (pc0 := 38) (pc' := 45) rfl hby at_38 ((if0 _ _).trans (teq (hcd : (p4 &&& (1 : Int32)) = (0 : Int32))).1) (by decide) (by decide) ?_
     refine kc X0 hx hby at_45 ?_
     rw [hfl, if_pos hcd] at k
     exact k
   · refine kfN X0 hx hby at_38 ((if0 _ _).trans (feq (hcd : ¬ ((p4 &&& (1 : Int32)) = (0 : Int32)))).1) ?_
     refine kc X0 hx hby at_41 ?_
     refine kg X0 hx (pc0 := 42) (pc' := 46) rfl hby at_42 (by decide) (by decide) ?_
     rw [hfl, if_neg hcd] at k
     exact k
 refine br2_ _ ?_
 refine ks X0 hx hby at_46 (l' := #[iv p1, iv p2, iv p3, iv p4, lv P1, .second, lv M1, .second, lv K1, .second, lv Q1, .second, iv fl, .unset, .unset, .unset, .unset, .unset, .unset, .unset, .unset, .unset, .unset, .unset, .unset, .unset]) rfl ?_
 refine ki X0 hx hby at_48 rfl ?_
 have br3_ : ∀ t, Steps p.tables e below (s₁.setTop (mkF m 60 #[iv p1, iv p2, iv p3, iv p4, lv P1, .second, lv M1, .second, lv K1, .second, lv Q1, .second, iv fl, .unset, .unset, .unset, .unset, .unset, .unset, .unset, .unset, .unset, .unset, .unset, .unset, .unset] [(.long T1)])) t → Steps p.tables e below (s₁.setTop (mkF m 50 #[iv p1, iv p2, iv p3, iv p4, lv P1, .second, lv M1, .second, lv K1, .second, lv Q1, .second, iv fl, .unset, .unset, .unset, .unset, .unset, .unset, .unset, .unset, .unset, .unset, .unset, .unset, .unset] [(.int fl)])) t := by
   intro t k
   by_cases hcd : fl = (0 : Int32)
   · refine kfY X0 hx (pc0 := 50) (pc' := 58) rfl hby at_50 ((if0 _ _).trans (teq (hcd : fl = (0 : Int32))).1) (by decide) (by decide) ?_
     refine kl X0 hx hby at_58 rfl ?_
     rw [hT1, if_pos hcd] at k
     exact k
   · refine kfN X0 hx hby at_50 ((if0 _ _).trans (feq (hcd : ¬ (fl = (0 : Int32)))).1) ?_
     refine kl X0 hx hby at_53 rfl ?_
     refine kg X0 hx (pc0 := 55) (pc' := 60) rfl hby at_55 (by decide) (by decide) ?_
     rw [hT1, if_neg hcd] at k
     exact k
 refine br3_ _ ?_
 refine kls X0 hx hby at_60 (l' := #[iv p1, iv p2, iv p3, iv p4, lv P1, .second, lv M1, .second, lv K1, .second, lv Q1, .second, iv fl, lv T1, .second, .unset, .unset, .unset, .unset, .unset, .unset, .unset, .unset, .unset, .unset, .unset]) rfl ?_
 refine ki X0 hx hby at_62 rfl ?_
 have br4_ : ∀ t, Steps p.tables e below (s₁.setTop (mkF m 74 #[iv p1, iv p2, iv p3, iv p4, lv P1, .second, lv M1, .second, lv K1, .second, lv Q1, .second, iv fl, lv T1, .second, .unset, .unset, .unset, .unset, .unset, .unset, .unset, .unset, .unset, .unset, .unset] [(.long B1)])) t → Steps p.tables e below (s₁.setTop (mkF m 64 #[iv p1, iv p2, iv p3, iv p4, lv P1, .second, lv M1, .second, lv K1, .second, lv Q1, .second, iv fl, lv T1, .second, .unset, .unset, .unset, .unset, .unset, .unset, .unset, .unset, .unset, .unset, .unset] [(.int fl)])) t := by
   intro t k
   by_cases hcd : fl = (0 : Int32)
   · refine kfY X0 hx (pc0 := 64) (pc' := 72) rfl hby at_64 ((if0 _ _).trans (teq (hcd : fl = (0 : Int32))).1) (by decide) (by decide) ?_
     refine kl X0 hx hby at_72 rfl ?_
     rw [hB1, if_pos hcd] at k
     exact k
   · refine kfN X0 hx hby at_64 ((if0 _ _).trans (feq (hcd : ¬ (fl = (0 : Int32)))).1) ?_
     refine kl X0 hx hby at_67 rfl ?_
     refine kg X0 hx (pc0 := 69) (pc' := 74) rfl hby at_69 (by decide) (by decide) ?_
     rw [hB1, if_neg hcd] at k
     exact k
 refine br4_ _ ?_
 refine kls X0 hx hby at_74 (l' := #[iv p1, iv p2, iv p3, iv p4, lv P1, .second, lv M1, .second, lv K1, .second, lv Q1, .second, iv fl, lv T1, .second, lv B1, .second, .unset, .unset, .unset, .unset, .unset, .unset, .unset, .unset, .unset]) rfl ?_
 refine kl X0 hx hby at_76 rfl ?_
 refine klc X0 hx hby at_78 ?_
 refine klcmp X0 hx hby at_79 ?_
 refine kfY X0 hx (pc0 := 80) (pc' := 85) rfl hby at_80 ((if0 _ _).trans (feq ((fun q => hb0 ((lw_eq _ _).mp q)) : ¬ ((lcmpW B1 (0 : Int64)) = (0 : Int32)))).2) (by decide) (by decide) ?_
 refine kl X0 hx hby at_85 rfl ?_
 refine kl X0 hx hby at_87 rfl ?_
 refine klmul X0 hx hby at_89 ?_
 refine own_rJ (eN) ?_
 refine kls X0 hx hby at_90 (l' := #[iv p1, iv p2, iv p3, iv p4, lv P1, .second, lv M1, .second, lv K1, .second, lv Q1, .second, iv fl, lv T1, .second, lv B1, .second, lv N1, .second, .unset, .unset, .unset, .unset, .unset, .unset, .unset]) rfl ?_
 refine kl X0 hx hby at_92 rfl ?_
 refine kl X0 hx hby at_94 rfl ?_
 refine klmul X0 hx hby at_96 ?_
 refine own_rJ (eD) ?_
 refine kls X0 hx hby at_97 (l' := #[iv p1, iv p2, iv p3, iv p4, lv P1, .second, lv M1, .second, lv K1, .second, lv Q1, .second, iv fl, lv T1, .second, lv B1, .second, lv N1, .second, lv D1, .second, .unset, .unset, .unset, .unset, .unset]) rfl ?_
 refine kl X0 hx hby at_99 rfl ?_
 refine klc X0 hx hby at_101 ?_
 refine klcmp X0 hx hby at_102 ?_
 have br5_ : ∀ t, Steps p.tables e below (s₁.setTop (mkF m 114 #[iv p1, iv p2, iv p3, iv p4, lv P1, .second, lv M1, .second, lv K1, .second, lv Q1, .second, iv fl, lv T1, .second, lv B1, .second, lv N1, .second, lv D1, .second, .unset, .unset, .unset, .unset, .unset] [(.long EN)])) t → Steps p.tables e below (s₁.setTop (mkF m 103 #[iv p1, iv p2, iv p3, iv p4, lv P1, .second, lv M1, .second, lv K1, .second, lv Q1, .second, iv fl, lv T1, .second, lv B1, .second, lv N1, .second, lv D1, .second, .unset, .unset, .unset, .unset, .unset] [(.int (lcmpW B1 (0 : Int64)))])) t := by
   intro t k
   by_cases hcd : (0 : Int32) < (lcmpW B1 (0 : Int64))
   · refine kfN X0 hx hby at_103 ((if0 _ _).trans (tlt (hcd : (0 : Int32) < (lcmpW B1 (0 : Int64)))).2.2.2) ?_
     refine kl X0 hx hby at_106 rfl ?_
     refine kg X0 hx (pc0 := 108) (pc' := 114) rfl hby at_108 (by decide) (by decide) ?_
     rw [hEN, if_pos hcd] at k
     exact k
   · refine kfY X0 hx (pc0 := 103) (pc' := 111) rfl hby at_103 ((if0 _ _).trans (flt (hcd : ¬ ((0 : Int32) < (lcmpW B1 (0 : Int64))))).2.2.2) (by decide) (by decide) ?_
     refine kl X0 hx hby at_111 rfl ?_
     refine klneg X0 hx hby at_113 ?_
     rw [hEN, if_neg hcd] at k
     exact k
 refine br5_ _ ?_
 refine kls X0 hx hby at_114 (l' := #[iv p1, iv p2, iv p3, iv p4, lv P1, .second, lv M1, .second, lv K1, .second, lv Q1, .second, iv fl, lv T1, .second, lv B1, .second, lv N1, .second, lv D1, .second, lv EN, .second, .unset, .unset, .unset]) rfl ?_
 refine kl X0 hx hby at_116 rfl ?_
 refine klc X0 hx hby at_118 ?_
 refine klcmp X0 hx hby at_119 ?_
 have br6_ : ∀ t, Steps p.tables e below (s₁.setTop (mkF m 131 #[iv p1, iv p2, iv p3, iv p4, lv P1, .second, lv M1, .second, lv K1, .second, lv Q1, .second, iv fl, lv T1, .second, lv B1, .second, lv N1, .second, lv D1, .second, lv EN, .second, .unset, .unset, .unset] [(.long ED)])) t → Steps p.tables e below (s₁.setTop (mkF m 120 #[iv p1, iv p2, iv p3, iv p4, lv P1, .second, lv M1, .second, lv K1, .second, lv Q1, .second, iv fl, lv T1, .second, lv B1, .second, lv N1, .second, lv D1, .second, lv EN, .second, .unset, .unset, .unset] [(.int (lcmpW B1 (0 : Int64)))])) t := by
   intro t k
   by_cases hcd : (0 : Int32) < (lcmpW B1 (0 : Int64))
   · refine kfN X0 hx hby at_120 ((if0 _ _).trans (tlt (hcd : (0 : Int32) < (lcmpW B1 (0 : Int64)))).2.2.2) ?_
     refine kl X0 hx hby at_123 rfl ?_
     refine kg X0 hx (pc0 := 125) (pc' := 131) rfl hby at_125 (by decide) (by decide) ?_
     rw [hED, if_pos hcd] at k
     exact k
   · refine kfY X0 hx (pc0 := 120) (pc' := 128) rfl hby at_120 ((if0 _ _).trans (flt (hcd : ¬ ((0 : Int32) < (lcmpW B1 (0 : Int64))))).2.2.2) (by decide) (by decide) ?_
     refine kl X0 hx hby at_128 rfl ?_
     refine klneg X0 hx hby at_130 ?_
     rw [hED, if_neg hcd] at k
     exact k
 refine br6_ _ ?_
 refine kls X0 hx hby at_131 (l' := #[iv p1, iv p2, iv p3, iv p4, lv P1, .second, lv M1, .second, lv K1, .second, lv Q1, .second, iv fl, lv T1, .second, lv B1, .second, lv N1, .second, lv D1, .second, lv EN, .second, lv ED, .second, .unset]) rfl ?_
 refine kl X0 hx hby at_133 rfl ?_
 refine st7_ _ ?_
 refine kl X7_ hx hby at_138 rfl ?_
 refine st8_ _ ?_
 refine st11_ _ ?_
 refine kastore X11_ hx hby at_146 rfl (l' := #[iv p1, iv p2, iv p3, iv p4, lv P1, .second, lv M1, .second, lv K1, .second, lv Q1, .second, iv fl, lv T1, .second, lv B1, .second, lv N1, .second, lv D1, .second, lv EN, .second, lv ED, .second, rv fr_11_]) rfl ?_
 refine ka X11_ hx hby at_148 rfl rfl ?_
 refine st15_ _ ?_
 refine kl X15_ hx hby at_153 rfl ?_
 refine st17_ _ ?_
 refine st19_ _ ?_
 refine kfN X19_ hx hby at_161 ((if0 _ _).trans (feq ((by decide) : ¬ ((1 : Int32) = (0 : Int32)))).1) ?_
 refine ka X19_ hx hby at_164 rfl rfl ?_
 refine st23_ _ ?_
 refine kl X23_ hx hby at_169 rfl ?_
 refine st26_ _ ?_
 refine st28_ _ ?_
 refine kfN X28_ hx hby at_177 ((if0 _ _).trans (feq ((by decide) : ¬ ((1 : Int32) = (0 : Int32)))).1) ?_
 refine kc X28_ hx hby at_180 ?_
 refine kg X28_ hx (pc0 := 181) (pc' := 185) rfl hby at_181 (by decide) (by decide) ?_
 exact retN X28_ hx (t := .boolean) hret (by simp) (hb hby at_185) hr
set_option maxRecDepth 65536 in
set_option maxHeartbeats 40000000 in
theorem comes_1 {Post : Tables → Env → Array Value → State → Outcome → State → Prop} (hpost : ∀ tb e args s v u, (limb_1_1.after args s (.returned v) u = true ∧ limb_1_2.after args s (.returned v) u = true ∧ True) → FrameEnd s (.returned v) u (Jvm.fieldLocs frame_1_writes args s ++ Jvm.arrayLocs frame_1_arrays args s ++ Jvm.staticLocs frame_1_statics s) 80 320 → Post tb e args s (.returned v) u) :
    ArmFor flags0 classFile x code maxLocals ret World_1 tables_1 room_1 Calls_1 rest_1 Pre_1 Post := by
  intro l hfl _ _ p e ha hc hk s m args below hf hA hF happ hP
  obtain ⟨hcalls, hrest, hpre⟩ := hP
  obtain ⟨-, -, -, hnamed, -, -, -, hat⟩ := (Spec.applies_iff hf).mp happ
  obtain ⟨hg, hn⟩ := and_e (Cond.before_iff.mp (show (Jvm.Cond.and given_1 narrow_1).before args s = true from hpre))
  obtain ⟨g0, r0⟩ := and_e hg
  obtain ⟨g1, r1⟩ := and_e r0
  obtain ⟨g2, r2⟩ := and_e r1
  obtain ⟨g3, r3⟩ := and_e r2
  have g4 := r3
  obtain ⟨w0, w1, w2, w3, rfl⟩ : ∃ w0 w1 w2 w3 : Value, args = #[w0, w1, w2, w3] := by
    have hs : args.size = 4 := by simpa [Cond.value, given_1] using g0
    obtain ⟨L⟩ := args
    match L, hs with
    | [w0, w1, w2, w3], _ => exact ⟨w0, w1, w2, w3, rfl⟩
  have hw := fun d (hd : d ∈ tables_1) => atoms_spec (ws := Jvm.Cond.code x code maxLocals ret :: tables_1) hat d (List.mem_cons_of_mem _ hd)
  obtain ⟨hsets, hown0⟩ := atoms_of _ (rest_1_c_eq ▸ (show rest_1_c.before _ s = true from hrest))
  obtain ⟨i0, ei0⟩ := is_v g1
  obtain rfl : w0 = (.int i0) := Option.some.inj ei0
  obtain ⟨i1, ei1⟩ := is_v g2
  obtain rfl : w1 = (.int i1) := Option.some.inj ei1
  obtain ⟨i2, ei2⟩ := is_v g3
  obtain rfl : w2 = (.int i2) := Option.some.inj ei2
  obtain ⟨i3, ei3⟩ := is_v g4
  obtain rfl : w3 = (.int i3) := Option.some.inj ei3
  have hS := fun (i : Nat) {d : Jvm.Cond} (h : _[i]? = some d) => Cond.before_iff.mp (hsets d (List.mem_of_getElem? h))
  obtain ⟨zo, za, ez, BZ⟩ := own_bi0 (hS 216 rfl) (hS 217 rfl) (hS 218 rfl) (hS 219 rfl) (hS 220 rfl)
  have T0 := Sta.start ez (Or.inl (hsets _ (List.mem_of_getElem? (i := 215) rfl)))
  obtain ⟨pa, epa⟩ := arr_v (hS 8 rfl)
  have TP := Sta.start epa (Or.inl (hsets _ (List.mem_of_getElem? (i := 1) rfl)))
  obtain ⟨cP, AP, zP⟩ := own_arr epa (hS 8 rfl) (hS 10 rfl) (by decide)
  have eP1 := own_ce (k := 1) epa AP (by decide) (own_bi1 (m := 1 * ((1 : Nat) : Int)) (hS 12 rfl) (hS 13 rfl) (hS 14 rfl) (hS 15 rfl) (hS 16 rfl) (hS 17 rfl) (by decide) (by decide) (by decide) (by decide))
  have eP2 := own_ce (k := 2) epa AP (by decide) (own_bi1 (m := 1 * ((2 : Nat) : Int)) (hS 19 rfl) (hS 20 rfl) (hS 21 rfl) (hS 22 rfl) (hS 23 rfl) (hS 24 rfl) (by decide) (by decide) (by decide) (by decide))
  have eP3 := own_ce (k := 3) epa AP (by decide) (own_bi1 (m := 1 * ((3 : Nat) : Int)) (hS 25 rfl) (hS 26 rfl) (hS 27 rfl) (hS 28 rfl) (hS 29 rfl) (hS 30 rfl) (by decide) (by decide) (by decide) (by decide))
  have eP4 := own_ce (k := 4) epa AP (by decide) (own_bi1 (m := 1 * ((4 : Nat) : Int)) (hS 31 rfl) (hS 32 rfl) (hS 33 rfl) (hS 34 rfl) (hS 35 rfl) (hS 36 rfl) (by decide) (by decide) (by decide) (by decide))
  have eP5 := own_ce (k := 5) epa AP (by decide) (own_bi1 (m := 1 * ((5 : Nat) : Int)) (hS 37 rfl) (hS 38 rfl) (hS 39 rfl) (hS 40 rfl) (hS 41 rfl) (hS 42 rfl) (by decide) (by decide) (by decide) (by decide))
  have eP6 := own_ce (k := 6) epa AP (by decide) (own_bi1 (m := 1 * ((6 : Nat) : Int)) (hS 43 rfl) (hS 44 rfl) (hS 45 rfl) (hS 46 rfl) (hS 47 rfl) (hS 48 rfl) (by decide) (by decide) (by decide) (by decide))
  have eP7 := own_ce (k := 7) epa AP (by decide) (own_bi1 (m := 1 * ((7 : Nat) : Int)) (hS 49 rfl) (hS 50 rfl) (hS 51 rfl) (hS 52 rfl) (hS 53 rfl) (hS 54 rfl) (by decide) (by decide) (by decide) (by decide))
  have eP8 := own_ce (k := 8) epa AP (by decide) (own_bi1 (m := 1 * ((8 : Nat) : Int)) (hS 55 rfl) (hS 56 rfl) (hS 57 rfl) (hS 58 rfl) (hS 59 rfl) (hS 60 rfl) (by decide) (by decide) (by decide) (by decide))
  have eP9 := own_ce (k := 9) epa AP (by decide) (own_bi1 (m := 1 * ((9 : Nat) : Int)) (hS 61 rfl) (hS 62 rfl) (hS 63 rfl) (hS 64 rfl) (hS 65 rfl) (hS 66 rfl) (by decide) (by decide) (by decide) (by decide))
  have eP10 := own_ce (k := 10) epa AP (by decide) (own_bi1 (m := 1 * ((10 : Nat) : Int)) (hS 68 rfl) (hS 69 rfl) (hS 70 rfl) (hS 71 rfl) (hS 72 rfl) (hS 73 rfl) (by decide) (by decide) (by decide) (by decide))
  have eP11 := own_ce (k := 11) epa AP (by decide) (own_bi1 (m := 1 * ((11 : Nat) : Int)) (hS 74 rfl) (hS 75 rfl) (hS 76 rfl) (hS 77 rfl) (hS 78 rfl) (hS 79 rfl) (by decide) (by decide) (by decide) (by decide))
  have eP12 := own_ce (k := 12) epa AP (by decide) (own_bi1 (m := 1 * ((12 : Nat) : Int)) (hS 80 rfl) (hS 81 rfl) (hS 82 rfl) (hS 83 rfl) (hS 84 rfl) (hS 85 rfl) (by decide) (by decide) (by decide) (by decide))
  have eP13 := own_ce (k := 13) epa AP (by decide) (own_bi1 (m := 1 * ((13 : Nat) : Int)) (hS 86 rfl) (hS 87 rfl) (hS 88 rfl) (hS 89 rfl) (hS 90 rfl) (hS 91 rfl) (by decide) (by decide) (by decide) (by decide))
  have eP14 := own_ce (k := 14) epa AP (by decide) (own_bi1 (m := 1 * ((14 : Nat) : Int)) (hS 92 rfl) (hS 93 rfl) (hS 94 rfl) (hS 95 rfl) (hS 96 rfl) (hS 97 rfl) (by decide) (by decide) (by decide) (by decide))
  have eP15 := own_ce (k := 15) epa AP (by decide) (own_bi1 (m := 1 * ((15 : Nat) : Int)) (hS 98 rfl) (hS 99 rfl) (hS 100 rfl) (hS 101 rfl) (hS 102 rfl) (hS 103 rfl) (by decide) (by decide) (by decide) (by decide))
  have eP16 := own_ce (k := 16) epa AP (by decide) (own_bi1 (m := 1 * ((16 : Nat) : Int)) (hS 104 rfl) (hS 105 rfl) (hS 106 rfl) (hS 107 rfl) (hS 108 rfl) (hS 109 rfl) (by decide) (by decide) (by decide) (by decide))
  have CP : own_Ca s pa 1 := ⟨cP, AP, zP, fun k h1 h2 => by
    match k, h1, h2 with
    | 1, _, _ => exact eP1
    | 2, _, _ => exact eP2
    | 3, _, _ => exact eP3
    | 4, _, _ => exact eP4
    | 5, _, _ => exact eP5
    | 6, _, _ => exact eP6
    | 7, _, _ => exact eP7
    | 8, _, _ => exact eP8
    | 9, _, _ => exact eP9
    | 10, _, _ => exact eP10
    | 11, _, _ => exact eP11
    | 12, _, _ => exact eP12
    | 13, _, _ => exact eP13
    | 14, _, _ => exact eP14
    | 15, _, _ => exact eP15
    | 16, _, _ => exact eP16
    | n_ + 17, _, h_ => exact absurd h_ (by omega)⟩
  obtain ⟨na, ena⟩ := arr_v (hS 114 rfl)
  have TN := Sta.start ena (Or.inl (hsets _ (List.mem_of_getElem? (i := 111) rfl)))
  obtain ⟨cN, AN, zN⟩ := own_arr ena (hS 114 rfl) (hS 116 rfl) (by decide)
  have eN1 := own_ce (k := 1) ena AN (by decide) (own_bi1 (m := (-1) * ((1 : Nat) : Int)) (hS 118 rfl) (hS 119 rfl) (hS 120 rfl) (hS 121 rfl) (hS 122 rfl) (hS 123 rfl) (by decide) (by decide) (by decide) (by decide))
  have eN2 := own_ce (k := 2) ena AN (by decide) (own_bi1 (m := (-1) * ((2 : Nat) : Int)) (hS 124 rfl) (hS 125 rfl) (hS 126 rfl) (hS 127 rfl) (hS 128 rfl) (hS 129 rfl) (by decide) (by decide) (by decide) (by decide))
  have eN3 := own_ce (k := 3) ena AN (by decide) (own_bi1 (m := (-1) * ((3 : Nat) : Int)) (hS 130 rfl) (hS 131 rfl) (hS 132 rfl) (hS 133 rfl) (hS 134 rfl) (hS 135 rfl) (by decide) (by decide) (by decide) (by decide))
  have eN4 := own_ce (k := 4) ena AN (by decide) (own_bi1 (m := (-1) * ((4 : Nat) : Int)) (hS 136 rfl) (hS 137 rfl) (hS 138 rfl) (hS 139 rfl) (hS 140 rfl) (hS 141 rfl) (by decide) (by decide) (by decide) (by decide))
  have eN5 := own_ce (k := 5) ena AN (by decide) (own_bi1 (m := (-1) * ((5 : Nat) : Int)) (hS 142 rfl) (hS 143 rfl) (hS 144 rfl) (hS 145 rfl) (hS 146 rfl) (hS 147 rfl) (by decide) (by decide) (by decide) (by decide))
  have eN6 := own_ce (k := 6) ena AN (by decide) (own_bi1 (m := (-1) * ((6 : Nat) : Int)) (hS 148 rfl) (hS 149 rfl) (hS 150 rfl) (hS 151 rfl) (hS 152 rfl) (hS 153 rfl) (by decide) (by decide) (by decide) (by decide))
  have eN7 := own_ce (k := 7) ena AN (by decide) (own_bi1 (m := (-1) * ((7 : Nat) : Int)) (hS 154 rfl) (hS 155 rfl) (hS 156 rfl) (hS 157 rfl) (hS 158 rfl) (hS 159 rfl) (by decide) (by decide) (by decide) (by decide))
  have eN8 := own_ce (k := 8) ena AN (by decide) (own_bi1 (m := (-1) * ((8 : Nat) : Int)) (hS 160 rfl) (hS 161 rfl) (hS 162 rfl) (hS 163 rfl) (hS 164 rfl) (hS 165 rfl) (by decide) (by decide) (by decide) (by decide))
  have eN9 := own_ce (k := 9) ena AN (by decide) (own_bi1 (m := (-1) * ((9 : Nat) : Int)) (hS 166 rfl) (hS 167 rfl) (hS 168 rfl) (hS 169 rfl) (hS 170 rfl) (hS 171 rfl) (by decide) (by decide) (by decide) (by decide))
  have eN10 := own_ce (k := 10) ena AN (by decide) (own_bi1 (m := (-1) * ((10 : Nat) : Int)) (hS 172 rfl) (hS 173 rfl) (hS 174 rfl) (hS 175 rfl) (hS 176 rfl) (hS 177 rfl) (by decide) (by decide) (by decide) (by decide))
  have eN11 := own_ce (k := 11) ena AN (by decide) (own_bi1 (m := (-1) * ((11 : Nat) : Int)) (hS 178 rfl) (hS 179 rfl) (hS 180 rfl) (hS 181 rfl) (hS 182 rfl) (hS 183 rfl) (by decide) (by decide) (by decide) (by decide))
  have eN12 := own_ce (k := 12) ena AN (by decide) (own_bi1 (m := (-1) * ((12 : Nat) : Int)) (hS 184 rfl) (hS 185 rfl) (hS 186 rfl) (hS 187 rfl) (hS 188 rfl) (hS 189 rfl) (by decide) (by decide) (by decide) (by decide))
  have eN13 := own_ce (k := 13) ena AN (by decide) (own_bi1 (m := (-1) * ((13 : Nat) : Int)) (hS 190 rfl) (hS 191 rfl) (hS 192 rfl) (hS 193 rfl) (hS 194 rfl) (hS 195 rfl) (by decide) (by decide) (by decide) (by decide))
  have eN14 := own_ce (k := 14) ena AN (by decide) (own_bi1 (m := (-1) * ((14 : Nat) : Int)) (hS 196 rfl) (hS 197 rfl) (hS 198 rfl) (hS 199 rfl) (hS 200 rfl) (hS 201 rfl) (by decide) (by decide) (by decide) (by decide))
  have eN15 := own_ce (k := 15) ena AN (by decide) (own_bi1 (m := (-1) * ((15 : Nat) : Int)) (hS 202 rfl) (hS 203 rfl) (hS 204 rfl) (hS 205 rfl) (hS 206 rfl) (hS 207 rfl) (by decide) (by decide) (by decide) (by decide))
  have eN16 := own_ce (k := 16) ena AN (by decide) (own_bi1 (m := (-1) * ((16 : Nat) : Int)) (hS 208 rfl) (hS 209 rfl) (hS 210 rfl) (hS 211 rfl) (hS 212 rfl) (hS 213 rfl) (by decide) (by decide) (by decide) (by decide))
  have CN : own_Ca s na (-1) := ⟨cN, AN, zN, fun k h1 h2 => by
    match k, h1, h2 with
    | 1, _, _ => exact eN1
    | 2, _, _ => exact eN2
    | 3, _, _ => exact eN3
    | 4, _, _ => exact eN4
    | 5, _, _ => exact eN5
    | 6, _, _ => exact eN6
    | 7, _, _ => exact eN7
    | 8, _, _ => exact eN8
    | 9, _, _ => exact eN9
    | 10, _, _ => exact eN10
    | 11, _, _ => exact eN11
    | 12, _, _ => exact eN12
    | 13, _, _ => exact eN13
    | 14, _, _ => exact eN14
    | 15, _, _ => exact eN15
    | 16, _, _ => exact eN16
    | n_ + 17, _, h_ => exact absurd h_ (by omega)⟩
  obtain ⟨P1, eP⟩ : ∃ z_ : Int64, (i0.toInt64) = z_ := ⟨_, rfl⟩
  obtain ⟨M1, eM⟩ : ∃ z_ : Int64, ((i1.toInt16.toInt32).toInt64) = z_ := ⟨_, rfl⟩
  obtain ⟨K0, eK⟩ : ∃ z_ : Int64, ((i2.toInt16.toInt32).toInt64) = z_ := ⟨_, rfl⟩
  obtain ⟨K1, hK1⟩ : ∃ z_ : Int64, z_ = if (lcmpW K0 (0 : Int64)) = (0 : Int32) then (32768 : Int64) else K0 := ⟨_, rfl⟩
  obtain ⟨Q1, eQ⟩ : ∃ z_ : Int64, ((P1 * M1) + (1 : Int64)) = z_ := ⟨_, rfl⟩
  obtain ⟨fl, hfl⟩ : ∃ z_ : Int32, z_ = if (i3 &&& (1 : Int32)) = (0 : Int32) then (0 : Int32) else (1 : Int32) := ⟨_, rfl⟩
  obtain ⟨T1, hT1⟩ : ∃ z_ : Int64, z_ = if fl = (0 : Int32) then P1 else Q1 := ⟨_, rfl⟩
  obtain ⟨B1, hB1⟩ : ∃ z_ : Int64, z_ = if fl = (0 : Int32) then Q1 else P1 := ⟨_, rfl⟩
  by_cases hb0 : B1 = (0 : Int64)
  · obtain ⟨n, o, h1, h2, h3, _, L, rfl, ⟨rfl, N⟩, hq⟩ := rm0z l s _ hw tables_1 i0 i1 i2 i3 _ _ _ _ _ _ _ _ _ _ _ _ s.heap s.heap.size (Nat.le_refl _) T0 (Old.start s) BZ TP TN CP CN eP eM eK hK1 eQ hfl hT1 hB1 hb0 p e ha hc hk s m _ below hf ((Spec.applies_iff_loose hf).mp happ).1 ⟨rfl, State.Warmed39.refl s, rfl⟩ trivial
    refine ⟨n, _, h1, h2, h3, hpost _ _ _ _ _ _ ⟨Cond.after_iff.mpr rfl, Cond.after_iff.mpr (eq_i res_at (Term.int_eval (1)) rfl), trivial⟩ ⟨hq.1, hq.2.1, (hq.2.2.sift fun y hy => Or.inr (N y hy)).mono (by decide) (by decide)⟩⟩
  · obtain ⟨N1, eN⟩ : ∃ z_ : Int64, (K1 * T1) = z_ := ⟨_, rfl⟩
    obtain ⟨D1, eD⟩ : ∃ z_ : Int64, (K1 * B1) = z_ := ⟨_, rfl⟩
    obtain ⟨EN, hEN⟩ : ∃ z_ : Int64, z_ = if (0 : Int32) < (lcmpW B1 (0 : Int64)) then T1 else (-T1) := ⟨_, rfl⟩
    obtain ⟨ED, hED⟩ : ∃ z_ : Int64, z_ = if (0 : Int32) < (lcmpW B1 (0 : Int64)) then B1 else (-B1) := ⟨_, rfl⟩
    have kb : K1.toInt.natAbs ≤ 32768 ∧ K1.toInt ≠ 0 := by
      rw [hK1]; split
      · exact ⟨by decide, by decide⟩
      · rename_i q
        exact ⟨by rw [← eK]; exact own_i16b _, fun z => q ((lw_eq _ _).mpr (Int64.toInt_inj.mp (z.trans rfl)))⟩
    have tb : (T1 = P1 ∧ B1 = Q1) ∨ (T1 = Q1 ∧ B1 = P1) := by
      rw [hT1, hB1]; by_cases q : fl = (0 : Int32)
      · exact Or.inl ⟨if_pos q, if_pos q⟩
      · exact Or.inr ⟨if_neg q, if_neg q⟩
    have sw : ∀ a b : Int64, (if (0 : Int32) < (lcmpW B1 (0 : Int64)) then a else b) = if (0 : Int64) < B1 then a else b := fun a b => by
      by_cases q : (0 : Int64) < B1
      · rw [if_pos ((lw_gt _ _).mpr q), if_pos q]
      · rw [if_neg (fun z => q ((lw_gt _ _).mp z)), if_neg q]
    obtain ⟨g1, vN, vD, vE, vF, o1, o2, o3, o4, o5, o6, o7, o8, o9⟩ := own_law (by rw [← eP]; exact own_i64b _) (by rw [← eM]; exact own_i16b _) kb.1 kb.2 eQ tb hb0 eN eD (hEN.trans (sw _ _)) (hED.trans (sw _ _))
    obtain ⟨n, o, h1, h2, h3, _, L, rfl, ⟨rfl, N⟩, hq⟩ := rm0m l s _ hw tables_1 i0 i1 i2 i3 _ _ _ _ _ _ _ _ _ _ _ _ _ _ _ _ _ s.heap s.heap.size (Nat.le_refl _) T0 (Old.start s) BZ TP TN CP CN eP eM eK hK1 eQ hfl hT1 hB1 hb0 eN eD hEN hED vN vD vE vF o1 o2 o3 o4 o5 o6 o7 o8 o9 p e ha hc hk s m _ below hf ((Spec.applies_iff_loose hf).mp happ).1 ⟨rfl, State.Warmed39.refl s, rfl⟩ trivial
    refine ⟨n, _, h1, h2, h3, hpost _ _ _ _ _ _ ⟨Cond.after_iff.mpr rfl, Cond.after_iff.mpr (eq_i res_at (Term.int_eval (1)) rfl), trivial⟩ ⟨hq.1, hq.2.1, (hq.2.2.sift fun y hy => Or.inr (N y hy)).mono (by decide) (by decide)⟩⟩
theorem main_1_1 : Claimed_1_1 := comes_1 fun _ _ _ _ _ _ h hF => ⟨h.1, hF⟩
theorem main_1_2 : Claimed_1_2 := comes_1 fun _ _ _ _ _ _ h hF => ⟨h.2.1, hF⟩

end Jvm.Pilot.@@N@@
namespace Jvm.Pilot.@@N@@
open Jvm Jvm.ClassFile Sem Op Lib Jvm.Free Jvm.Stand Jvm.Pilot.@@N@@.Jvm.D
/-! MADE BY PROGRAM (witnessworld.py) out of the Statement's table words and the real class files: 20 classes; the members and pool entries that the words name. The judged class is class 1, her method 1. -/
namespace start1
open Jvm.ClassFile
def u (s : String) : CpInfo := .utf8 (stringToUtf16 s)
/-- a pool by its gaps: so many unusable entries, then the entry; so many at the end -/
def gap : Nat → List CpInfo → List CpInfo
  | 0, r => r
  | n + 1, r => .unusable :: gap n r
def poolList (es : List (Nat × CpInfo)) (last : Nat) : List CpInfo := es.foldr (fun e r => gap e.1 (e.2 :: r)) (gap last [])
def pool (es : List (Nat × CpInfo)) (last : Nat) : Array CpInfo := ⟨poolList es last⟩
def fileOf (pool : Array CpInfo) (this : Nat) (attrs : Array Attribute := #[]) (ms : Array MethodInfo := #[]) (fl : Nat := 33) (sup : Nat := 0) (ifs : Array Nat := #[]) (fds : Array FieldInfo := #[]) : ClassFile where
  minorVersion := 0
  majorVersion := 65
  constantPool := pool
  accessFlags := fl
  thisClass := this
  superClass := sup
  interfaces := ifs
  fields := fds
  methods := ms
  attributes := attrs
def plain (name : String) (sup : Option ClassId) : Class where
  name := name
  kind := .ordinary
  loader := none
  accessFlags := 33
  super := sup
  interfaces := #[]
  cf := none
  fields := #[]
  methods := #[]
  instanceTypes := #[]
  staticTypes := #[]
  resolved := #[]
  callSites := []
  init := .initialized
  statics := none
  mirror := none

def pool0 : Array CpInfo := pool [(5, u "<init>"), (0, u "()V"), (1, .class_ 10), (1, u "java/lang/Object"), (85, u "clone"), (0, u "()Ljava/lang/Object;")] 26

def k0c0 : Code := { maxStack := 0, maxLocals := 1, code := object_method_1_code, exceptionTable := #[], attributes := #[] }
def k0m0 : Method := { name := "<init>", desc := "()V", sig := { parameters := [], returnType := none }, accessFlags := 1, code := some k0c0 }
def k0m1 : Method := { name := "clone", desc := "()Ljava/lang/Object;", sig := { parameters := [], returnType := some (.object "java/lang/Object") }, accessFlags := 260, code := none }
/-- java/lang/Object -/
def k0 : Class := { plain "java/lang/Object" none with
  accessFlags := 33
  interfaces := #[]
  cf := some (fileOf pool0 8 #[] #[{ accessFlags := 1, nameIndex := 5, descriptorIndex := 6, attributes := #[] }, { accessFlags := 260, nameIndex := 96, descriptorIndex := 97, attributes := #[] }] 33 0 #[] #[])
  fields := #[]
  methods := #[k0m0, k0m1]
  instanceTypes := #[]
  staticTypes := #[]
  resolved := Array.replicate 124 none
  statics := none }

def pool1 : Array CpInfo := pool [(2, .class_ 4), (1, u "java/lang/Object"), (0, u "<init>"), (0, u "()V"), (0, .long 32768), (1, .methodref 10 11), (0, .class_ 12), (0, .nameAndType 13 14), (0, u "java/math/BigInteger"), (0, u "valueOf"), (0, u "(J)Ljava/math/BigInteger;"), (0, .methodref 16 17), (0, .class_ 18), (0, .nameAndType 19 20), (0, u "com/example/unconfuse/unconfuse/Fraction"), (0, u "of"), (0, u "(Ljava/math/BigInteger;Ljava/math/BigInteger;)Lcom/example/unconfuse/unconfuse/Fraction;"), (0, .methodref 16 22), (0, .nameAndType 23 24), (0, u "numerator"), (0, u "()Ljava/math/BigInteger;"), (0, .methodref 10 26), (0, .nameAndType 27 28), (0, u "equals"), (0, u "(Ljava/lang/Object;)Z"), (0, .methodref 16 30), (0, .nameAndType 31 24), (0, u "denominator"), (0, .class_ 33), (0, u "com/example/unconfuse/unconfuse/FractionOfPinLaw"), (2, u "law"), (0, u "(IIII)Z")] 3

def k1m0 : Method := { name := "<init>", desc := "()V", sig := { parameters := [], returnType := none }, accessFlags := 2, code := none }
def k1c1 : Code := { maxStack := 4, maxLocals := 26, code := code, exceptionTable := #[], attributes := #[] }
def k1m1 : Method := { name := "law", desc := "(IIII)Z", sig := { parameters := [.int, .int, .int, .int], returnType := some .boolean }, accessFlags := 9, code := some k1c1 }
/-- com/example/unconfuse/unconfuse/FractionOfPinLaw -/
def k1 : Class := { plain "com/example/unconfuse/unconfuse/FractionOfPinLaw" (some 0) with
  accessFlags := 49
  interfaces := #[]
  cf := some (fileOf pool1 32 #[] #[{ accessFlags := 2, nameIndex := 5, descriptorIndex := 6, attributes := #[] }, { accessFlags := 9, nameIndex := 36, descriptorIndex := 37, attributes := #[] }] 49 2 #[] #[])
  fields := #[]
  methods := #[k1m0, k1m1]
  instanceTypes := #[]
  staticTypes := #[]
  resolved := Array.replicate 41 none
  statics := none }

def pool2 : Array CpInfo := pool [(1, .class_ 2), (0, u "java/io/Serializable"), (0, .class_ 4), (0, u "java/lang/Object")] 2

/-- java/io/Serializable -/
def k2 : Class := { plain "java/io/Serializable" (some 0) with
  accessFlags := 1537
  interfaces := #[]
  cf := some (fileOf pool2 1 #[] #[] 1537 3 #[] #[])
  fields := #[]
  methods := #[]
  instanceTypes := #[]
  staticTypes := #[]
  resolved := Array.replicate 7 none
  statics := none }

def pool3 : Array CpInfo := pool [(1, .methodref 2 3), (0, .class_ 4), (0, .nameAndType 5 6), (0, u "java/lang/Object"), (0, u "<init>"), (0, u "()V"), (1, .class_ 10), (1, u "java/lang/Number"), (2, .class_ 14), (0, u "java/io/Serializable"), (0, u "serialVersionUID"), (0, u "J")] 20

def k3c0 : Code := { maxStack := 1, maxLocals := 1, code := jdk_18_method_1_code, exceptionTable := #[], attributes := #[] }
def k3m0 : Method := { name := "<init>", desc := "()V", sig := { parameters := [], returnType := none }, accessFlags := 1, code := some k3c0 }
/-- java/lang/Number -/
def k3 : Class := { plain "java/lang/Number" (some 0) with
  accessFlags := 1057
  interfaces := #[2]
  cf := some (fileOf pool3 8 #[] #[{ accessFlags := 1, nameIndex := 5, descriptorIndex := 6, attributes := #[] }] 1057 2 #[13] #[{ accessFlags := 26, nameIndex := 15, descriptorIndex := 16, attributes := #[] }])
  fields := #[{ name := "serialVersionUID", type := .long, accessFlags := 26, slot := 0, constantValue := 0 }]
  methods := #[k3m0]
  instanceTypes := #[]
  staticTypes := #[.long]
  resolved := Array.replicate 37 none
  statics := none }

def pool4 : Array CpInfo := pool [(1, .class_ 2), (0, u "java/lang/Comparable"), (0, .class_ 4), (0, u "java/lang/Object")] 7

/-- java/lang/Comparable -/
def k4 : Class := { plain "java/lang/Comparable" (some 0) with
  accessFlags := 1537
  interfaces := #[]
  cf := some (fileOf pool4 1 #[] #[] 1537 3 #[] #[])
  fields := #[]
  methods := #[]
  instanceTypes := #[]
  staticTypes := #[]
  resolved := Array.replicate 12 none
  statics := none }

def pool5 : Array CpInfo := pool [(1, .class_ 2), (0, u "java/lang/Integer"), (0, .methodref 4 5), (0, .class_ 6), (0, .nameAndType 7 8), (0, u "java/lang/Number"), (0, u "<init>"), (0, u "()V"), (13, .fieldref 23 24), (0, .class_ 25), (0, .nameAndType 26 27), (0, u "java/math/BigInteger"), (0, u "ZERO"), (0, u "Ljava/math/BigInteger;"), (0, .fieldref 23 29), (0, .nameAndType 30 31), (0, u "mag"), (0, u "[I"), (0, .fieldref 23 33), (0, .nameAndType 34 35), (0, u "signum"), (0, u "I"), (7, .integer 67108864), (30, u "()I"), (7, u "(I)I"), (12, u "bitsPerDigit"), (0, u "[J"), (9, u "digitsPerInt"), (12, u "intRadix"), (55, .methodref 23 176), (0, .nameAndType 7 177), (0, u "([II)V"), (2, u "SMALL_PRIME_PRODUCT"), (3, u "(Ljava/math/BigInteger;)Ljava/math/BigInteger;"), (34, u "(I)Ljava/math/BigInteger;"), (17, u "valueOf"), (0, u "(J)Ljava/math/BigInteger;"), (21, u "ONE"), (2, u "equals"), (0, u "(Ljava/lang/Object;)Z"), (2, u "TWO"), (30, u "abs"), (12, u "$assertionsDisabled"), (0, u "Z"), (9, u "()Ljava/math/BigInteger;"), (22, .long 16), (1, .fieldref 23 348), (0, .nameAndType 349 350), (0, u "posConst"), (0, u "[Ljava/math/BigInteger;"), (0, .long 18446744073709551600), (1, .fieldref 23 354), (0, .nameAndType 355 350), (0, u "negConst"), (0, .methodref 23 357), (0, .nameAndType 7 358), (0, u "(J)V"), (1, .nameAndType 7 361), (0, u "([I)V"), (32, .methodref 23 395), (0, .nameAndType 396 322), (0, u "negate"), (75, .class_ 474), (1, u "java/math/BigInteger$RecursiveOp"), (10, .methodref 23 486), (0, .nameAndType 298 322), (48, .methodref 23 536), (0, .nameAndType 537 184), (0, u "divideKnuth"), (3, .class_ 542), (0, u "java/math/MutableBigInteger"), (0, .methodref 541 5), (0, .methodref 541 360), (0, .methodref 541 546), (0, .nameAndType 537 547), (0, u "(Ljava/math/MutableBigInteger;Ljava/math/MutableBigInteger;Z)Ljava/math/MutableBigInteger;"), (0, .methodref 541 549), (0, .nameAndType 550 219), (0, u "toBigInteger"), (16, .methodref 541 568), (0, .nameAndType 7 569), (0, u "(Ljava/math/BigInteger;)V"), (11, u "NEGATIVE_ONE"), (16, .methodref 541 599), (0, .nameAndType 600 601), (0, u "hybridGCD"), (0, u "(Ljava/math/MutableBigInteger;)Ljava/math/MutableBigInteger;"), (0, .methodref 1 603), (0, .nameAndType 604 82), (0, u "numberOfLeadingZeros"), (2, u "bitLengthForInt"), (34, u "divide"), (30, u "bnExpModThreshTable"), (72, u "lowestSetBitPlusTwo"), (2, u "bitLengthPlusOne"), (2, u "bitCountPlusOne"), (6, u "LOG_TWO"), (0, u "D"), (2, u "logCache"), (0, u "[D"), (13, u "NUM_ZEROS"), (2, u "ZEROS"), (0, u "Ljava/lang/String;"), (9, u "longRadix"), (5, u "digitsPerLong"), (22, u "powerCache"), (0, u "[[Ljava/math/BigInteger;"), (45, u "firstNonzeroIntNumPlusTwo"), (38, .class_ 909), (1, u "java/math/BigInteger$UnsafeHolder"), (141, u "TEN"), (106, u "serialPersistentFields"), (0, u "[Ljava/io/ObjectStreamField;"), (0, .class_ 1161), (0, u "java/lang/Comparable"), (0, u "LONG_MASK"), (0, u "J"), (1, u "MAX_MAG_LENGTH"), (0, u "PRIME_SEARCH_BIT_LENGTH_LIMIT"), (1, u "KARATSUBA_THRESHOLD"), (1, u "TOOM_COOK_THRESHOLD"), (1, u "KARATSUBA_SQUARE_THRESHOLD"), (1, u "TOOM_COOK_SQUARE_THRESHOLD"), (1, u "BURNIKEL_ZIEGLER_THRESHOLD"), (0, u "BURNIKEL_ZIEGLER_OFFSET"), (1, u "SCHOENHAGE_BASE_CONVERSION_THRESHOLD"), (1, u "MULTIPLY_SQUARE_THRESHOLD"), (0, u "MONTGOMERY_INTRINSIC_THRESHOLD"), (1, u "SMALL_PRIME_THRESHOLD"), (1, u "DEFAULT_PRIME_CERTAINTY"), (1, u "MAX_CONSTANT"), (3, u "serialVersionUID"), (186, u "gcd"), (151, .class_ 1532), (0, u "java/math/BigInteger$RecursiveOp$RecursiveSquare"), (0, .class_ 1534), (0, u "java/math/BigInteger$RecursiveOp$RecursiveMultiply")] 7

def k5c0 : Code := { maxStack := 2, maxLocals := 3, code := jdk_2097_method_25_code, exceptionTable := #[], attributes := #[] }
def k5m0 : Method := { name := "<init>", desc := "([II)V", sig := { parameters := [(.array .int), .int], returnType := none }, accessFlags := 0, code := some k5c0 }
def k5c1 : Code := { maxStack := 4, maxLocals := 2, code := jdk_2097_method_29_code, exceptionTable := #[], attributes := #[] }
def k5m1 : Method := { name := "valueOf", desc := "(J)Ljava/math/BigInteger;", sig := { parameters := [.long], returnType := some (.object "java/math/BigInteger") }, accessFlags := 9, code := some k5c1 }
def k5c2 : Code := { maxStack := 4, maxLocals := 4, code := jdk_2097_method_30_code, exceptionTable := #[], attributes := #[] }
def k5m2 : Method := { name := "<init>", desc := "(J)V", sig := { parameters := [.long], returnType := none }, accessFlags := 2, code := some k5c2 }
def k5c3 : Code := { maxStack := 2, maxLocals := 2, code := jdk_2097_method_61_code, exceptionTable := #[], attributes := #[] }
def k5m3 : Method := { name := "divide", desc := "(Ljava/math/BigInteger;)Ljava/math/BigInteger;", sig := { parameters := [(.object "java/math/BigInteger")], returnType := some (.object "java/math/BigInteger") }, accessFlags := 1, code := some k5c3 }
def k5c4 : Code := { maxStack := 4, maxLocals := 5, code := jdk_2097_method_62_code, exceptionTable := #[], attributes := #[] }
def k5m4 : Method := { name := "divideKnuth", desc := "(Ljava/math/BigInteger;)Ljava/math/BigInteger;", sig := { parameters := [(.object "java/math/BigInteger")], returnType := some (.object "java/math/BigInteger") }, accessFlags := 2, code := some k5c4 }
def k5c5 : Code := { maxStack := 3, maxLocals := 5, code := jdk_2097_method_73_code, exceptionTable := #[], attributes := #[] }
def k5m5 : Method := { name := "gcd", desc := "(Ljava/math/BigInteger;)Ljava/math/BigInteger;", sig := { parameters := [(.object "java/math/BigInteger")], returnType := some (.object "java/math/BigInteger") }, accessFlags := 1, code := some k5c5 }
def k5c6 : Code := { maxStack := 2, maxLocals := 1, code := jdk_2097_method_74_code, exceptionTable := #[], attributes := #[] }
def k5m6 : Method := { name := "bitLengthForInt", desc := "(I)I", sig := { parameters := [.int], returnType := some .int }, accessFlags := 8, code := some k5c6 }
def k5c7 : Code := { maxStack := 1, maxLocals := 1, code := jdk_2097_method_79_code, exceptionTable := #[], attributes := #[] }
def k5m7 : Method := { name := "abs", desc := "()Ljava/math/BigInteger;", sig := { parameters := [], returnType := some (.object "java/math/BigInteger") }, accessFlags := 1, code := some k5c7 }
def k5c8 : Code := { maxStack := 4, maxLocals := 1, code := jdk_2097_method_80_code, exceptionTable := #[], attributes := #[] }
def k5m8 : Method := { name := "negate", desc := "()Ljava/math/BigInteger;", sig := { parameters := [], returnType := some (.object "java/math/BigInteger") }, accessFlags := 1, code := some k5c8 }
def k5c9 : Code := { maxStack := 1, maxLocals := 1, code := jdk_2097_method_81_code, exceptionTable := #[], attributes := #[] }
def k5m9 : Method := { name := "signum", desc := "()I", sig := { parameters := [], returnType := some .int }, accessFlags := 1, code := some k5c9 }
def k5c10 : Code := { maxStack := 3, maxLocals := 7, code := jdk_2097_method_124_code, exceptionTable := #[], attributes := #[] }
def k5m10 : Method := { name := "equals", desc := "(Ljava/lang/Object;)Z", sig := { parameters := [(.object "java/lang/Object")], returnType := some .boolean }, accessFlags := 1, code := some k5c10 }
/-- java/math/BigInteger -/
def k5 : Class := { plain "java/math/BigInteger" (some 3) with
  accessFlags := 33
  interfaces := #[4]
  cf := some (fileOf pool5 23 #[.nestMembers #[907, 472, 1531, 1533]] #[{ accessFlags := 0, nameIndex := 7, descriptorIndex := 177, attributes := #[] }, { accessFlags := 9, nameIndex := 237, descriptorIndex := 238, attributes := #[] }, { accessFlags := 2, nameIndex := 7, descriptorIndex := 358, attributes := #[] }, { accessFlags := 1, nameIndex := 642, descriptorIndex := 184, attributes := #[] }, { accessFlags := 2, nameIndex := 537, descriptorIndex := 184, attributes := #[] }, { accessFlags := 1, nameIndex := 1379, descriptorIndex := 184, attributes := #[] }, { accessFlags := 8, nameIndex := 607, descriptorIndex := 82, attributes := #[] }, { accessFlags := 1, nameIndex := 298, descriptorIndex := 322, attributes := #[] }, { accessFlags := 1, nameIndex := 396, descriptorIndex := 322, attributes := #[] }, { accessFlags := 1, nameIndex := 34, descriptorIndex := 74, attributes := #[] }, { accessFlags := 1, nameIndex := 263, descriptorIndex := 264, attributes := #[] }] 33 4 #[1160] #[{ accessFlags := 16, nameIndex := 34, descriptorIndex := 35, attributes := #[] }, { accessFlags := 16, nameIndex := 30, descriptorIndex := 31, attributes := #[] }, { accessFlags := 2, nameIndex := 752, descriptorIndex := 35, attributes := #[] }, { accessFlags := 2, nameIndex := 749, descriptorIndex := 35, attributes := #[] }, { accessFlags := 2, nameIndex := 746, descriptorIndex := 35, attributes := #[] }, { accessFlags := 2, nameIndex := 868, descriptorIndex := 35, attributes := #[] }, { accessFlags := 24, nameIndex := 1162, descriptorIndex := 1163, attributes := #[] }, { accessFlags := 26, nameIndex := 1165, descriptorIndex := 35, attributes := #[] }, { accessFlags := 26, nameIndex := 1166, descriptorIndex := 35, attributes := #[] }, { accessFlags := 26, nameIndex := 1168, descriptorIndex := 35, attributes := #[] }, { accessFlags := 26, nameIndex := 1170, descriptorIndex := 35, attributes := #[] }, { accessFlags := 26, nameIndex := 1172, descriptorIndex := 35, attributes := #[] }, { accessFlags := 26, nameIndex := 1174, descriptorIndex := 35, attributes := #[] }, { accessFlags := 24, nameIndex := 1176, descriptorIndex := 35, attributes := #[] }, { accessFlags := 24, nameIndex := 1177, descriptorIndex := 35, attributes := #[] }, { accessFlags := 26, nameIndex := 1179, descriptorIndex := 35, attributes := #[] }, { accessFlags := 26, nameIndex := 1181, descriptorIndex := 35, attributes := #[] }, { accessFlags := 26, nameIndex := 1182, descriptorIndex := 35, attributes := #[] }, { accessFlags := 10, nameIndex := 95, descriptorIndex := 96, attributes := #[] }, { accessFlags := 26, nameIndex := 1184, descriptorIndex := 35, attributes := #[] }, { accessFlags := 26, nameIndex := 1186, descriptorIndex := 35, attributes := #[] }, { accessFlags := 26, nameIndex := 180, descriptorIndex := 27, attributes := #[] }, { accessFlags := 26, nameIndex := 1188, descriptorIndex := 35, attributes := #[] }, { accessFlags := 26, nameIndex := 349, descriptorIndex := 350, attributes := #[] }, { accessFlags := 26, nameIndex := 355, descriptorIndex := 350, attributes := #[] }, { accessFlags := 74, nameIndex := 821, descriptorIndex := 822, attributes := #[] }, { accessFlags := 26, nameIndex := 763, descriptorIndex := 764, attributes := #[] }, { accessFlags := 26, nameIndex := 759, descriptorIndex := 760, attributes := #[] }, { accessFlags := 25, nameIndex := 26, descriptorIndex := 27, attributes := #[] }, { accessFlags := 25, nameIndex := 260, descriptorIndex := 27, attributes := #[] }, { accessFlags := 25, nameIndex := 267, descriptorIndex := 27, attributes := #[] }, { accessFlags := 26, nameIndex := 581, descriptorIndex := 27, attributes := #[] }, { accessFlags := 25, nameIndex := 1051, descriptorIndex := 27, attributes := #[] }, { accessFlags := 8, nameIndex := 673, descriptorIndex := 31, attributes := #[] }, { accessFlags := 10, nameIndex := 778, descriptorIndex := 35, attributes := #[] }, { accessFlags := 26, nameIndex := 781, descriptorIndex := 782, attributes := #[] }, { accessFlags := 10, nameIndex := 798, descriptorIndex := 31, attributes := #[] }, { accessFlags := 10, nameIndex := 792, descriptorIndex := 350, attributes := #[] }, { accessFlags := 10, nameIndex := 106, descriptorIndex := 31, attributes := #[] }, { accessFlags := 10, nameIndex := 119, descriptorIndex := 31, attributes := #[] }, { accessFlags := 26, nameIndex := 1192, descriptorIndex := 1163, attributes := #[] }, { accessFlags := 26, nameIndex := 1158, descriptorIndex := 1159, attributes := #[] }, { accessFlags := 4120, nameIndex := 311, descriptorIndex := 312, attributes := #[] }])
  fields := #[{ name := "signum", type := .int, accessFlags := 16, slot := 0, constantValue := 0 }, { name := "mag", type := (.array .int), accessFlags := 16, slot := 1, constantValue := 0 }, { name := "bitCountPlusOne", type := .int, accessFlags := 2, slot := 2, constantValue := 0 }, { name := "bitLengthPlusOne", type := .int, accessFlags := 2, slot := 3, constantValue := 0 }, { name := "lowestSetBitPlusTwo", type := .int, accessFlags := 2, slot := 4, constantValue := 0 }, { name := "firstNonzeroIntNumPlusTwo", type := .int, accessFlags := 2, slot := 5, constantValue := 0 }, { name := "LONG_MASK", type := .long, accessFlags := 24, slot := 0, constantValue := 0 }, { name := "MAX_MAG_LENGTH", type := .int, accessFlags := 26, slot := 1, constantValue := 0 }, { name := "PRIME_SEARCH_BIT_LENGTH_LIMIT", type := .int, accessFlags := 26, slot := 2, constantValue := 0 }, { name := "KARATSUBA_THRESHOLD", type := .int, accessFlags := 26, slot := 3, constantValue := 0 }, { name := "TOOM_COOK_THRESHOLD", type := .int, accessFlags := 26, slot := 4, constantValue := 0 }, { name := "KARATSUBA_SQUARE_THRESHOLD", type := .int, accessFlags := 26, slot := 5, constantValue := 0 }, { name := "TOOM_COOK_SQUARE_THRESHOLD", type := .int, accessFlags := 26, slot := 6, constantValue := 0 }, { name := "BURNIKEL_ZIEGLER_THRESHOLD", type := .int, accessFlags := 24, slot := 7, constantValue := 0 }, { name := "BURNIKEL_ZIEGLER_OFFSET", type := .int, accessFlags := 24, slot := 8, constantValue := 0 }, { name := "SCHOENHAGE_BASE_CONVERSION_THRESHOLD", type := .int, accessFlags := 26, slot := 9, constantValue := 0 }, { name := "MULTIPLY_SQUARE_THRESHOLD", type := .int, accessFlags := 26, slot := 10, constantValue := 0 }, { name := "MONTGOMERY_INTRINSIC_THRESHOLD", type := .int, accessFlags := 26, slot := 11, constantValue := 0 }, { name := "bitsPerDigit", type := (.array .long), accessFlags := 10, slot := 12, constantValue := 0 }, { name := "SMALL_PRIME_THRESHOLD", type := .int, accessFlags := 26, slot := 13, constantValue := 0 }, { name := "DEFAULT_PRIME_CERTAINTY", type := .int, accessFlags := 26, slot := 14, constantValue := 0 }, { name := "SMALL_PRIME_PRODUCT", type := (.object "java/math/BigInteger"), accessFlags := 26, slot := 15, constantValue := 0 }, { name := "MAX_CONSTANT", type := .int, accessFlags := 26, slot := 16, constantValue := 0 }, { name := "posConst", type := (.array (.object "java/math/BigInteger")), accessFlags := 26, slot := 17, constantValue := 0 }, { name := "negConst", type := (.array (.object "java/math/BigInteger")), accessFlags := 26, slot := 18, constantValue := 0 }, { name := "powerCache", type := (.array (.array (.object "java/math/BigInteger"))), accessFlags := 74, slot := 19, constantValue := 0 }, { name := "logCache", type := (.array .double), accessFlags := 26, slot := 20, constantValue := 0 }, { name := "LOG_TWO", type := .double, accessFlags := 26, slot := 21, constantValue := 0 }, { name := "ZERO", type := (.object "java/math/BigInteger"), accessFlags := 25, slot := 22, constantValue := 0 }, { name := "ONE", type := (.object "java/math/BigInteger"), accessFlags := 25, slot := 23, constantValue := 0 }, { name := "TWO", type := (.object "java/math/BigInteger"), accessFlags := 25, slot := 24, constantValue := 0 }, { name := "NEGATIVE_ONE", type := (.object "java/math/BigInteger"), accessFlags := 26, slot := 25, constantValue := 0 }, { name := "TEN", type := (.object "java/math/BigInteger"), accessFlags := 25, slot := 26, constantValue := 0 }, { name := "bnExpModThreshTable", type := (.array .int), accessFlags := 8, slot := 27, constantValue := 0 }, { name := "NUM_ZEROS", type := .int, accessFlags := 10, slot := 28, constantValue := 0 }, { name := "ZEROS", type := (.object "java/lang/String"), accessFlags := 26, slot := 29, constantValue := 0 }, { name := "digitsPerLong", type := (.array .int), accessFlags := 10, slot := 30, constantValue := 0 }, { name := "longRadix", type := (.array (.object "java/math/BigInteger")), accessFlags := 10, slot := 31, constantValue := 0 }, { name := "digitsPerInt", type := (.array .int), accessFlags := 10, slot := 32, constantValue := 0 }, { name := "intRadix", type := (.array .int), accessFlags := 10, slot := 33, constantValue := 0 }, { name := "serialVersionUID", type := .long, accessFlags := 26, slot := 34, constantValue := 0 }, { name := "serialPersistentFields", type := (.array (.object "java/io/ObjectStreamField")), accessFlags := 26, slot := 35, constantValue := 0 }, { name := "$assertionsDisabled", type := .boolean, accessFlags := 4120, slot := 36, constantValue := 0 }]
  methods := #[k5m0, k5m1, k5m2, k5m3, k5m4, k5m5, k5m6, k5m7, k5m8, k5m9, k5m10]
  instanceTypes := #[.int, (.array .int), .int, .int, .int, .int]
  staticTypes := #[.long, .int, .int, .int, .int, .int, .int, .int, .int, .int, .int, .int, (.array .long), .int, .int, (.object "java/math/BigInteger"), .int, (.array (.object "java/math/BigInteger")), (.array (.object "java/math/BigInteger")), (.array (.array (.object "java/math/BigInteger"))), (.array .double), .double, (.object "java/math/BigInteger"), (.object "java/math/BigInteger"), (.object "java/math/BigInteger"), (.object "java/math/BigInteger"), (.object "java/math/BigInteger"), (.array .int), .int, (.object "java/lang/String"), (.array .int), (.array (.object "java/math/BigInteger")), (.array .int), (.array .int), .long, (.array (.object "java/io/ObjectStreamField")), .boolean]
  resolved := Array.replicate 1542 none
  statics := some 0 }

def pool6 : Array CpInfo := pool [(1, .methodref 2 3), (0, .class_ 4), (0, .nameAndType 5 6), (0, u "java/lang/Object"), (0, u "<init>"), (0, u "()V"), (0, .fieldref 8 9), (0, .class_ 10), (0, .nameAndType 11 12), (0, u "com/example/unconfuse/unconfuse/Fraction"), (0, u "numerator"), (0, u "Ljava/math/BigInteger;"), (0, .fieldref 8 14), (0, .nameAndType 15 12), (0, u "denominator"), (0, .methodref 17 18), (0, .class_ 19), (0, .nameAndType 20 21), (0, u "java/math/BigInteger"), (0, u "signum"), (0, u "()I"), (15, .methodref 17 38), (0, .nameAndType 39 40), (0, u "gcd"), (0, u "(Ljava/math/BigInteger;)Ljava/math/BigInteger;"), (0, .methodref 17 42), (0, .nameAndType 43 44), (0, u "negate"), (0, u "()Ljava/math/BigInteger;"), (0, .methodref 17 46), (0, .nameAndType 47 40), (0, u "divide"), (0, .methodref 8 49), (0, .nameAndType 5 50), (0, u "(Ljava/math/BigInteger;Ljava/math/BigInteger;)V"), (5, u "of"), (0, u "(Ljava/math/BigInteger;Ljava/math/BigInteger;)Lcom/example/unconfuse/unconfuse/Fraction;"), (15, u "ONE"), (9, u "ZERO"), (2, u "Lcom/example/unconfuse/unconfuse/Fraction;")] 27

def k6c0 : Code := { maxStack := 2, maxLocals := 3, code := prog_1_method_1_code, exceptionTable := #[], attributes := #[] }
def k6m0 : Method := { name := "<init>", desc := "(Ljava/math/BigInteger;Ljava/math/BigInteger;)V", sig := { parameters := [(.object "java/math/BigInteger"), (.object "java/math/BigInteger")], returnType := none }, accessFlags := 2, code := some k6c0 }
def k6c1 : Code := { maxStack := 5, maxLocals := 3, code := prog_1_method_2_code, exceptionTable := #[], attributes := #[] }
def k6m1 : Method := { name := "of", desc := "(Ljava/math/BigInteger;Ljava/math/BigInteger;)Lcom/example/unconfuse/unconfuse/Fraction;", sig := { parameters := [(.object "java/math/BigInteger"), (.object "java/math/BigInteger")], returnType := some (.object "com/example/unconfuse/unconfuse/Fraction") }, accessFlags := 9, code := some k6c1 }
def k6c2 : Code := { maxStack := 1, maxLocals := 1, code := prog_1_method_4_code, exceptionTable := #[], attributes := #[] }
def k6m2 : Method := { name := "numerator", desc := "()Ljava/math/BigInteger;", sig := { parameters := [], returnType := some (.object "java/math/BigInteger") }, accessFlags := 1, code := some k6c2 }
def k6c3 : Code := { maxStack := 1, maxLocals := 1, code := prog_1_method_5_code, exceptionTable := #[], attributes := #[] }
def k6m3 : Method := { name := "denominator", desc := "()Ljava/math/BigInteger;", sig := { parameters := [], returnType := some (.object "java/math/BigInteger") }, accessFlags := 1, code := some k6c3 }
/-- com/example/unconfuse/unconfuse/Fraction -/
def k6 : Class := { plain "com/example/unconfuse/unconfuse/Fraction" (some 0) with
  accessFlags := 49
  interfaces := #[]
  cf := some (fileOf pool6 8 #[] #[{ accessFlags := 2, nameIndex := 5, descriptorIndex := 50, attributes := #[] }, { accessFlags := 9, nameIndex := 56, descriptorIndex := 57, attributes := #[] }, { accessFlags := 1, nameIndex := 11, descriptorIndex := 44, attributes := #[] }, { accessFlags := 1, nameIndex := 15, descriptorIndex := 44, attributes := #[] }] 49 2 #[] #[{ accessFlags := 25, nameIndex := 83, descriptorIndex := 86, attributes := #[] }, { accessFlags := 25, nameIndex := 73, descriptorIndex := 86, attributes := #[] }, { accessFlags := 18, nameIndex := 11, descriptorIndex := 12, attributes := #[] }, { accessFlags := 18, nameIndex := 15, descriptorIndex := 12, attributes := #[] }])
  fields := #[{ name := "ZERO", type := (.object "com/example/unconfuse/unconfuse/Fraction"), accessFlags := 25, slot := 0, constantValue := 0 }, { name := "ONE", type := (.object "com/example/unconfuse/unconfuse/Fraction"), accessFlags := 25, slot := 1, constantValue := 0 }, { name := "numerator", type := (.object "java/math/BigInteger"), accessFlags := 18, slot := 0, constantValue := 0 }, { name := "denominator", type := (.object "java/math/BigInteger"), accessFlags := 18, slot := 1, constantValue := 0 }]
  methods := #[k6m0, k6m1, k6m2, k6m3]
  instanceTypes := #[(.object "java/math/BigInteger"), (.object "java/math/BigInteger")]
  staticTypes := #[(.object "com/example/unconfuse/unconfuse/Fraction"), (.object "com/example/unconfuse/unconfuse/Fraction")]
  resolved := Array.replicate 114 none
  statics := none }

def pool7 : Array CpInfo := pool [(1, .class_ 2), (0, u "java/math/BigInteger"), (2, .methodref 6 7), (0, .class_ 8), (0, .nameAndType 9 10), (0, u "java/lang/Object"), (0, u "<init>"), (0, u "()V"), (0, .fieldref 12 13), (0, .class_ 14), (0, .nameAndType 15 16), (0, u "java/math/MutableBigInteger"), (0, u "offset"), (0, u "I"), (0, .fieldref 12 18), (0, .nameAndType 19 20), (0, u "value"), (0, u "[I"), (0, .fieldref 12 22), (0, .nameAndType 23 16), (0, u "intLen"), (0, .fieldref 1 25), (0, .nameAndType 26 20), (0, u "mag"), (0, .methodref 28 29), (0, .class_ 30), (0, .nameAndType 31 32), (0, u "java/util/Arrays"), (0, u "copyOf"), (0, u "([II)[I"), (0, .methodref 28 34), (0, .nameAndType 35 36), (0, u "copyOfRange"), (0, u "([III)[I"), (0, .methodref 28 38), (0, .nameAndType 39 40), (0, u "fill"), (0, u "([II)V"), (2, u "$assertionsDisabled"), (0, u "Z"), (7, .long 4294967295), (1, .fieldref 1 55), (0, .nameAndType 56 57), (0, u "ZERO"), (0, u "Ljava/math/BigInteger;"), (0, .methodref 12 59), (0, .nameAndType 60 61), (0, u "getMagnitudeArray"), (0, u "()[I"), (0, .methodref 1 63), (0, .nameAndType 9 40), (0, .methodref 12 65), (0, .nameAndType 66 10), (0, u "normalize"), (6, u "toBigInteger"), (0, u "(I)Ljava/math/BigInteger;"), (13, .integer 2147483648), (0, .methodref 90 91), (0, .class_ 92), (0, .nameAndType 93 94), (0, u "java/lang/Integer"), (0, u "numberOfTrailingZeros"), (0, u "(I)I"), (13, .methodref 12 109), (0, .nameAndType 110 111), (0, u "rightShift"), (0, u "(I)V"), (0, .methodref 1 113), (0, .nameAndType 114 94), (0, u "bitLengthForInt"), (0, .methodref 12 116), (0, .nameAndType 117 111), (0, u "primitiveLeftShift"), (0, .methodref 12 119), (0, .nameAndType 120 111), (0, u "primitiveRightShift"), (0, .methodref 12 122), (0, .nameAndType 123 111), (0, u "leftShift"), (7, .class_ 133), (1, u "java/lang/Math"), (1, u "(II)I"), (6, .methodref 12 143), (0, .nameAndType 144 145), (0, u "compare"), (0, u "(Ljava/math/MutableBigInteger;)I"), (3, .methodref 12 150), (0, .nameAndType 151 10), (0, u "clear"), (0, .methodref 90 153), (0, .nameAndType 154 94), (0, u "numberOfLeadingZeros"), (7, u "(Ljava/math/MutableBigInteger;Ljava/math/MutableBigInteger;Z)Ljava/math/MutableBigInteger;"), (2, u "divideKnuth"), (11, .methodref 12 7), (0, .methodref 12 179), (0, .nameAndType 180 181), (0, u "divideOneWord"), (0, u "(ILjava/math/MutableBigInteger;)I"), (2, .methodref 12 185), (0, .nameAndType 186 187), (0, u "getLowestSetBit"), (0, u "()I"), (57, u "(Ljava/math/BigInteger;)V"), (11, u "ONE"), (0, u "Ljava/math/MutableBigInteger;"), (2, u "([I)V"), (67, .methodref 131 330), (0, .nameAndType 331 94), (0, u "abs"), (0, .methodref 12 333), (0, .nameAndType 334 335), (0, u "binaryGCD"), (0, u "(Ljava/math/MutableBigInteger;)Ljava/math/MutableBigInteger;"), (2, .methodref 12 339), (0, .nameAndType 340 135), (0, u "binaryGcd"), (0, .methodref 12 342), (0, .nameAndType 343 145), (0, u "difference"), (67, u "KNUTH_POW2_THRESH_LEN"), (2, u "KNUTH_POW2_THRESH_ZEROS"), (137, u "hybridGCD")] 37

def k7c0 : Code := { maxStack := 2, maxLocals := 1, code := jdk_2101_method_1_code, exceptionTable := #[], attributes := #[] }
def k7m0 : Method := { name := "<init>", desc := "()V", sig := { parameters := [], returnType := none }, accessFlags := 0, code := some k7c0 }
def k7c1 : Code := { maxStack := 2, maxLocals := 2, code := jdk_2101_method_3_code, exceptionTable := #[], attributes := #[] }
def k7m1 : Method := { name := "<init>", desc := "([I)V", sig := { parameters := [(.array .int)], returnType := none }, accessFlags := 0, code := some k7c1 }
def k7c2 : Code := { maxStack := 3, maxLocals := 2, code := jdk_2101_method_4_code, exceptionTable := #[], attributes := #[] }
def k7m2 : Method := { name := "<init>", desc := "(Ljava/math/BigInteger;)V", sig := { parameters := [(.object "java/math/BigInteger")], returnType := none }, accessFlags := 0, code := some k7c2 }
def k7c3 : Code := { maxStack := 4, maxLocals := 2, code := jdk_2101_method_7_code, exceptionTable := #[], attributes := #[] }
def k7m3 : Method := { name := "getMagnitudeArray", desc := "()[I", sig := { parameters := [], returnType := some (.array .int) }, accessFlags := 2, code := some k7c3 }
def k7c4 : Code := { maxStack := 4, maxLocals := 2, code := jdk_2101_method_9_code, exceptionTable := #[], attributes := #[] }
def k7m4 : Method := { name := "toBigInteger", desc := "(I)Ljava/math/BigInteger;", sig := { parameters := [.int], returnType := some (.object "java/math/BigInteger") }, accessFlags := 0, code := some k7c4 }
def k7c5 : Code := { maxStack := 4, maxLocals := 3, code := jdk_2101_method_13_code, exceptionTable := #[], attributes := #[] }
def k7m5 : Method := { name := "clear", desc := "()V", sig := { parameters := [], returnType := none }, accessFlags := 0, code := some k7c5 }
def k7c6 : Code := { maxStack := 3, maxLocals := 8, code := jdk_2101_method_15_code, exceptionTable := #[], attributes := #[] }
def k7m6 : Method := { name := "compare", desc := "(Ljava/math/MutableBigInteger;)I", sig := { parameters := [(.object "java/math/MutableBigInteger")], returnType := some .int }, accessFlags := 16, code := some k7c6 }
def k7c7 : Code := { maxStack := 3, maxLocals := 3, code := jdk_2101_method_18_code, exceptionTable := #[], attributes := #[] }
def k7m7 : Method := { name := "getLowestSetBit", desc := "()I", sig := { parameters := [], returnType := some .int }, accessFlags := 18, code := some k7c7 }
def k7c8 : Code := { maxStack := 3, maxLocals := 4, code := jdk_2101_method_21_code, exceptionTable := #[], attributes := #[] }
def k7m8 : Method := { name := "normalize", desc := "()V", sig := { parameters := [], returnType := none }, accessFlags := 16, code := some k7c8 }
def k7c9 : Code := { maxStack := 3, maxLocals := 5, code := jdk_2101_method_35_code, exceptionTable := #[], attributes := #[] }
def k7m9 : Method := { name := "rightShift", desc := "(I)V", sig := { parameters := [.int], returnType := none }, accessFlags := 0, code := some k7c9 }
def k7c10 : Code := { maxStack := 5, maxLocals := 8, code := jdk_2101_method_37_code, exceptionTable := #[], attributes := #[] }
def k7m10 : Method := { name := "leftShift", desc := "(I)V", sig := { parameters := [.int], returnType := none }, accessFlags := 0, code := some k7c10 }
def k7c11 : Code := { maxStack := 5, maxLocals := 7, code := jdk_2101_method_41_code, exceptionTable := #[], attributes := #[] }
def k7m11 : Method := { name := "primitiveRightShift", desc := "(I)V", sig := { parameters := [.int], returnType := none }, accessFlags := 18, code := some k7c11 }
def k7c12 : Code := { maxStack := 5, maxLocals := 8, code := jdk_2101_method_42_code, exceptionTable := #[], attributes := #[] }
def k7m12 : Method := { name := "primitiveLeftShift", desc := "(I)V", sig := { parameters := [.int], returnType := none }, accessFlags := 18, code := some k7c12 }
def k7c13 : Code := { maxStack := 6, maxLocals := 8, code := jdk_2101_method_50_code, exceptionTable := #[], attributes := #[] }
def k7m13 : Method := { name := "difference", desc := "(Ljava/math/MutableBigInteger;)I", sig := { parameters := [(.object "java/math/MutableBigInteger")], returnType := some .int }, accessFlags := 2, code := some k7c13 }
def k7c14 : Code := { maxStack := 6, maxLocals := 15, code := jdk_2101_method_53_code, exceptionTable := #[], attributes := #[] }
def k7m14 : Method := { name := "divideOneWord", desc := "(ILjava/math/MutableBigInteger;)I", sig := { parameters := [.int, (.object "java/math/MutableBigInteger")], returnType := some .int }, accessFlags := 0, code := some k7c14 }
def k7c15 : Code := { maxStack := 5, maxLocals := 8, code := jdk_2101_method_57_code, exceptionTable := #[], attributes := #[] }
def k7m15 : Method := { name := "divideKnuth", desc := "(Ljava/math/MutableBigInteger;Ljava/math/MutableBigInteger;Z)Ljava/math/MutableBigInteger;", sig := { parameters := [(.object "java/math/MutableBigInteger"), (.object "java/math/MutableBigInteger"), .boolean], returnType := some (.object "java/math/MutableBigInteger") }, accessFlags := 0, code := some k7c15 }
def k7c16 : Code := { maxStack := 3, maxLocals := 5, code := jdk_2101_method_72_code, exceptionTable := #[], attributes := #[] }
def k7m16 : Method := { name := "hybridGCD", desc := "(Ljava/math/MutableBigInteger;)Ljava/math/MutableBigInteger;", sig := { parameters := [(.object "java/math/MutableBigInteger")], returnType := some (.object "java/math/MutableBigInteger") }, accessFlags := 0, code := some k7c16 }
def k7c17 : Code := { maxStack := 3, maxLocals := 13, code := jdk_2101_method_73_code, exceptionTable := #[], attributes := #[] }
def k7m17 : Method := { name := "binaryGCD", desc := "(Ljava/math/MutableBigInteger;)Ljava/math/MutableBigInteger;", sig := { parameters := [(.object "java/math/MutableBigInteger")], returnType := some (.object "java/math/MutableBigInteger") }, accessFlags := 2, code := some k7c17 }
def k7c18 : Code := { maxStack := 3, maxLocals := 5, code := jdk_2101_method_74_code, exceptionTable := #[], attributes := #[] }
def k7m18 : Method := { name := "binaryGcd", desc := "(II)I", sig := { parameters := [.int, .int], returnType := some .int }, accessFlags := 8, code := some k7c18 }
/-- java/math/MutableBigInteger -/
def k7 : Class := { plain "java/math/MutableBigInteger" (some 0) with
  accessFlags := 32
  interfaces := #[]
  cf := some (fileOf pool7 12 #[] #[{ accessFlags := 0, nameIndex := 9, descriptorIndex := 10, attributes := #[] }, { accessFlags := 0, nameIndex := 9, descriptorIndex := 261, attributes := #[] }, { accessFlags := 0, nameIndex := 9, descriptorIndex := 245, attributes := #[] }, { accessFlags := 2, nameIndex := 60, descriptorIndex := 61, attributes := #[] }, { accessFlags := 0, nameIndex := 73, descriptorIndex := 74, attributes := #[] }, { accessFlags := 0, nameIndex := 151, descriptorIndex := 10, attributes := #[] }, { accessFlags := 16, nameIndex := 144, descriptorIndex := 145, attributes := #[] }, { accessFlags := 18, nameIndex := 186, descriptorIndex := 187, attributes := #[] }, { accessFlags := 16, nameIndex := 66, descriptorIndex := 10, attributes := #[] }, { accessFlags := 0, nameIndex := 110, descriptorIndex := 111, attributes := #[] }, { accessFlags := 0, nameIndex := 123, descriptorIndex := 111, attributes := #[] }, { accessFlags := 18, nameIndex := 120, descriptorIndex := 111, attributes := #[] }, { accessFlags := 18, nameIndex := 117, descriptorIndex := 111, attributes := #[] }, { accessFlags := 2, nameIndex := 343, descriptorIndex := 145, attributes := #[] }, { accessFlags := 0, nameIndex := 180, descriptorIndex := 181, attributes := #[] }, { accessFlags := 0, nameIndex := 165, descriptorIndex := 162, attributes := #[] }, { accessFlags := 0, nameIndex := 552, descriptorIndex := 335, attributes := #[] }, { accessFlags := 2, nameIndex := 334, descriptorIndex := 335, attributes := #[] }, { accessFlags := 8, nameIndex := 340, descriptorIndex := 135, attributes := #[] }] 32 6 #[] #[{ accessFlags := 0, nameIndex := 19, descriptorIndex := 20, attributes := #[] }, { accessFlags := 0, nameIndex := 23, descriptorIndex := 16, attributes := #[] }, { accessFlags := 0, nameIndex := 15, descriptorIndex := 16, attributes := #[] }, { accessFlags := 24, nameIndex := 257, descriptorIndex := 258, attributes := #[] }, { accessFlags := 24, nameIndex := 411, descriptorIndex := 16, attributes := #[] }, { accessFlags := 24, nameIndex := 414, descriptorIndex := 16, attributes := #[] }, { accessFlags := 4120, nameIndex := 43, descriptorIndex := 44, attributes := #[] }])
  fields := #[{ name := "value", type := (.array .int), accessFlags := 0, slot := 0, constantValue := 0 }, { name := "intLen", type := .int, accessFlags := 0, slot := 1, constantValue := 0 }, { name := "offset", type := .int, accessFlags := 0, slot := 2, constantValue := 0 }, { name := "ONE", type := (.object "java/math/MutableBigInteger"), accessFlags := 24, slot := 0, constantValue := 0 }, { name := "KNUTH_POW2_THRESH_LEN", type := .int, accessFlags := 24, slot := 1, constantValue := 0 }, { name := "KNUTH_POW2_THRESH_ZEROS", type := .int, accessFlags := 24, slot := 2, constantValue := 0 }, { name := "$assertionsDisabled", type := .boolean, accessFlags := 4120, slot := 3, constantValue := 0 }]
  methods := #[k7m0, k7m1, k7m2, k7m3, k7m4, k7m5, k7m6, k7m7, k7m8, k7m9, k7m10, k7m11, k7m12, k7m13, k7m14, k7m15, k7m16, k7m17, k7m18]
  instanceTypes := #[(.array .int), .int, .int]
  staticTypes := #[(.object "java/math/MutableBigInteger"), .int, .int, .boolean]
  resolved := Array.replicate 590 none
  statics := none }

def pool8 : Array CpInfo := pool [(2, .class_ 4), (1, u "java/lang/Object"), (0, u "<init>"), (0, u "()V"), (7, .class_ 16), (1, u "java/util/Arrays"), (57, .class_ 76), (1, u "java/util/Arrays$NaturalOrder"), (32, u "()Ljava/lang/Object;"), (3, .class_ 115), (1, u "java/util/Arrays$LegacyMergeSort"), (1, u "Z"), (10, .nameAndType 129 109), (0, u "clone"), (9, u "copyOfRange"), (10, .methodref 151 152), (0, .class_ 153), (0, .nameAndType 154 155), (0, u "java/lang/System"), (0, u "arraycopy"), (0, u "(Ljava/lang/Object;ILjava/lang/Object;II)V"), (146, u "copyOf"), (1, .methodref 305 306), (0, .class_ 307), (0, .nameAndType 308 309), (0, u "java/lang/Math"), (0, u "min"), (0, u "(II)I"), (6, .methodref 317 128), (0, .class_ 318), (0, u "[I"), (24, .methodref 14 344), (0, .nameAndType 345 346), (0, u "checkLength"), (0, u "(II)V"), (4, .methodref 14 352), (0, .nameAndType 353 354), (0, u "copyOfRangeInt"), (0, u "([III)[I"), (20, .class_ 376), (0, u "java/util/Arrays$ArrayList"), (68, u "$assertionsDisabled"), (269, u "MIN_ARRAY_SORT_GRAN"), (0, u "I"), (2, u "INSERTIONSORT_THRESHOLD"), (120, u "fill"), (4, u "([II)V"), (25, u "([II)[I"), (103, .class_ 976), (0, u "java/util/Arrays$ArrayItr")] 52

def k8m0 : Method := { name := "<init>", desc := "()V", sig := { parameters := [], returnType := none }, accessFlags := 2, code := none }
def k8c1 : Code := { maxStack := 3, maxLocals := 4, code := jdk_65_method_103_code, exceptionTable := #[], attributes := #[] }
def k8m1 : Method := { name := "fill", desc := "([II)V", sig := { parameters := [(.array .int), .int], returnType := none }, accessFlags := 9, code := some k8c1 }
def k8c2 : Code := { maxStack := 6, maxLocals := 3, code := jdk_65_method_123_code, exceptionTable := #[], attributes := #[] }
def k8m2 : Method := { name := "copyOf", desc := "([II)[I", sig := { parameters := [(.array .int), .int], returnType := some (.array .int) }, accessFlags := 9, code := some k8c2 }
def k8c3 : Code := { maxStack := 4, maxLocals := 2, code := jdk_65_method_131_code, exceptionTable := #[], attributes := #[] }
def k8m3 : Method := { name := "checkLength", desc := "(II)V", sig := { parameters := [.int, .int], returnType := none }, accessFlags := 10, code := some k8c3 }
def k8c4 : Code := { maxStack := 3, maxLocals := 3, code := jdk_65_method_136_code, exceptionTable := #[], attributes := #[] }
def k8m4 : Method := { name := "copyOfRange", desc := "([III)[I", sig := { parameters := [(.array .int), .int, .int], returnType := some (.array .int) }, accessFlags := 9, code := some k8c4 }
def k8c5 : Code := { maxStack := 6, maxLocals := 5, code := jdk_65_method_137_code, exceptionTable := #[], attributes := #[] }
def k8m5 : Method := { name := "copyOfRangeInt", desc := "([III)[I", sig := { parameters := [(.array .int), .int, .int], returnType := some (.array .int) }, accessFlags := 10, code := some k8c5 }
/-- java/util/Arrays -/
def k8 : Class := { plain "java/util/Arrays" (some 0) with
  accessFlags := 49
  interfaces := #[]
  cf := some (fileOf pool8 14 #[.nestMembers #[975, 375, 113, 74]] #[{ accessFlags := 2, nameIndex := 5, descriptorIndex := 6, attributes := #[] }, { accessFlags := 9, nameIndex := 840, descriptorIndex := 845, attributes := #[] }, { accessFlags := 9, nameIndex := 302, descriptorIndex := 871, attributes := #[] }, { accessFlags := 10, nameIndex := 345, descriptorIndex := 346, attributes := #[] }, { accessFlags := 9, nameIndex := 139, descriptorIndex := 354, attributes := #[] }, { accessFlags := 10, nameIndex := 353, descriptorIndex := 354, attributes := #[] }] 49 2 #[] #[{ accessFlags := 26, nameIndex := 715, descriptorIndex := 716, attributes := #[] }, { accessFlags := 26, nameIndex := 719, descriptorIndex := 716, attributes := #[] }, { accessFlags := 4120, nameIndex := 445, descriptorIndex := 117, attributes := #[] }])
  fields := #[{ name := "MIN_ARRAY_SORT_GRAN", type := .int, accessFlags := 26, slot := 0, constantValue := 0 }, { name := "INSERTIONSORT_THRESHOLD", type := .int, accessFlags := 26, slot := 1, constantValue := 0 }, { name := "$assertionsDisabled", type := .boolean, accessFlags := 4120, slot := 2, constantValue := 0 }]
  methods := #[k8m0, k8m1, k8m2, k8m3, k8m4, k8m5]
  instanceTypes := #[]
  staticTypes := #[.int, .int, .boolean]
  resolved := Array.replicate 1029 none
  statics := none }

def pool9 : Array CpInfo := pool [(1, .class_ 2), (0, u "java/lang/Cloneable"), (0, .class_ 4), (0, u "java/lang/Object")] 2

/-- java/lang/Cloneable -/
def k9 : Class := { plain "java/lang/Cloneable" (some 0) with
  accessFlags := 1537
  interfaces := #[]
  cf := some (fileOf pool9 1 #[] #[] 1537 3 #[] #[])
  fields := #[]
  methods := #[]
  instanceTypes := #[]
  staticTypes := #[]
  resolved := Array.replicate 7 none
  statics := none }

def pool10 : Array CpInfo := pool [(1, .class_ 2), (0, u "java/lang/Math"), (1, .class_ 6), (1, u "java/lang/Object"), (0, u "<init>"), (0, u "()V"), (89, .class_ 100), (1, u "java/lang/Math$RandomNumberGeneratorHolder"), (23, u "abs"), (34, u "(I)I"), (12, u "negativeZeroFloatBits"), (0, u "J"), (2, u "negativeZeroDoubleBits"), (24, u "min"), (43, u "$assertionsDisabled"), (0, u "Z"), (88, u "(II)I"), (2, u "twoToTheDoubleScaleDown"), (0, u "D"), (4, u "twoToTheDoubleScaleUp"), (9, u "E"), (3, u "PI"), (2, u "TAU"), (2, u "DEGREES_TO_RADIANS"), (0, u "RADIANS_TO_DEGREES")] 94

def k10m0 : Method := { name := "<init>", desc := "()V", sig := { parameters := [], returnType := none }, accessFlags := 2, code := none }
def k10c1 : Code := { maxStack := 1, maxLocals := 1, code := jdk_29_method_59_code, exceptionTable := #[], attributes := #[] }
def k10m1 : Method := { name := "abs", desc := "(I)I", sig := { parameters := [.int], returnType := some .int }, accessFlags := 9, code := some k10c1 }
def k10c2 : Code := { maxStack := 2, maxLocals := 2, code := jdk_29_method_69_code, exceptionTable := #[], attributes := #[] }
def k10m2 : Method := { name := "min", desc := "(II)I", sig := { parameters := [.int, .int], returnType := some .int }, accessFlags := 9, code := some k10c2 }
/-- java/lang/Math -/
def k10 : Class := { plain "java/lang/Math" (some 0) with
  accessFlags := 49
  interfaces := #[]
  cf := some (fileOf pool10 1 #[.nestMembers #[98]] #[{ accessFlags := 2, nameIndex := 7, descriptorIndex := 8, attributes := #[] }, { accessFlags := 9, nameIndex := 124, descriptorIndex := 159, attributes := #[] }, { accessFlags := 9, nameIndex := 201, descriptorIndex := 335, attributes := #[] }] 49 4 #[] #[{ accessFlags := 25, nameIndex := 354, descriptorIndex := 339, attributes := #[] }, { accessFlags := 25, nameIndex := 358, descriptorIndex := 339, attributes := #[] }, { accessFlags := 25, nameIndex := 361, descriptorIndex := 339, attributes := #[] }, { accessFlags := 26, nameIndex := 364, descriptorIndex := 339, attributes := #[] }, { accessFlags := 26, nameIndex := 365, descriptorIndex := 339, attributes := #[] }, { accessFlags := 26, nameIndex := 172, descriptorIndex := 173, attributes := #[] }, { accessFlags := 26, nameIndex := 176, descriptorIndex := 173, attributes := #[] }, { accessFlags := 8, nameIndex := 344, descriptorIndex := 339, attributes := #[] }, { accessFlags := 8, nameIndex := 338, descriptorIndex := 339, attributes := #[] }, { accessFlags := 4120, nameIndex := 245, descriptorIndex := 246, attributes := #[] }])
  fields := #[{ name := "E", type := .double, accessFlags := 25, slot := 0, constantValue := 0 }, { name := "PI", type := .double, accessFlags := 25, slot := 1, constantValue := 0 }, { name := "TAU", type := .double, accessFlags := 25, slot := 2, constantValue := 0 }, { name := "DEGREES_TO_RADIANS", type := .double, accessFlags := 26, slot := 3, constantValue := 0 }, { name := "RADIANS_TO_DEGREES", type := .double, accessFlags := 26, slot := 4, constantValue := 0 }, { name := "negativeZeroFloatBits", type := .long, accessFlags := 26, slot := 5, constantValue := 0 }, { name := "negativeZeroDoubleBits", type := .long, accessFlags := 26, slot := 6, constantValue := 0 }, { name := "twoToTheDoubleScaleUp", type := .double, accessFlags := 8, slot := 7, constantValue := 0 }, { name := "twoToTheDoubleScaleDown", type := .double, accessFlags := 8, slot := 8, constantValue := 0 }, { name := "$assertionsDisabled", type := .boolean, accessFlags := 4120, slot := 9, constantValue := 0 }]
  methods := #[k10m0, k10m1, k10m2]
  instanceTypes := #[]
  staticTypes := #[.double, .double, .double, .double, .double, .long, .long, .double, .double, .boolean]
  resolved := Array.replicate 460 none
  statics := none }

def pool11 : Array CpInfo := pool [(1, .class_ 2), (0, u "java/lang/constant/Constable"), (0, .class_ 4), (0, u "java/lang/Object")] 6

/-- java/lang/constant/Constable -/
def k11 : Class := { plain "java/lang/constant/Constable" (some 0) with
  accessFlags := 1537
  interfaces := #[]
  cf := some (fileOf pool11 1 #[] #[] 1537 3 #[] #[])
  fields := #[]
  methods := #[]
  instanceTypes := #[]
  staticTypes := #[]
  resolved := Array.replicate 11 none
  statics := none }

def pool12 : Array CpInfo := pool [(1, .class_ 2), (0, u "java/lang/constant/ConstantDesc"), (0, .class_ 4), (0, u "java/lang/Object")] 32

/-- java/lang/constant/ConstantDesc -/
def k12 : Class := { plain "java/lang/constant/ConstantDesc" (some 0) with
  accessFlags := 1537
  interfaces := #[]
  cf := some (fileOf pool12 1 #[] #[] 1537 3 #[] #[])
  fields := #[]
  methods := #[]
  instanceTypes := #[]
  staticTypes := #[]
  resolved := Array.replicate 37 none
  statics := none }

def pool13 : Array CpInfo := pool [(1, .class_ 2), (0, u "java/lang/Integer"), (16, u "digits"), (0, u "[C"), (32, u "numberOfLeadingZeros"), (0, u "(I)I"), (30, u "DigitOnes"), (0, u "[B"), (2, u "DigitTens"), (99, .class_ 190), (0, u "java/lang/Integer$IntegerCache"), (3, u "I"), (8, .class_ 204), (0, u "java/lang/Number"), (2, u "value"), (56, .integer 65536), (37, u "TYPE"), (0, u "Ljava/lang/Class;"), (0, .class_ 305), (0, u "java/lang/Comparable"), (0, .class_ 307), (0, u "java/lang/constant/Constable"), (0, .class_ 309), (0, u "java/lang/constant/ConstantDesc"), (0, u "MIN_VALUE"), (1, u "MAX_VALUE"), (3, u "SIZE"), (1, u "BYTES"), (1, u "serialVersionUID"), (0, u "J"), (84, u "numberOfTrailingZeros")] 46

def k13c0 : Code := { maxStack := 3, maxLocals := 2, code := jdk_33_method_47_code, exceptionTable := #[], attributes := #[] }
def k13m0 : Method := { name := "numberOfLeadingZeros", desc := "(I)I", sig := { parameters := [.int], returnType := some .int }, accessFlags := 9, code := some k13c0 }
def k13c1 : Code := { maxStack := 3, maxLocals := 2, code := jdk_33_method_48_code, exceptionTable := #[], attributes := #[] }
def k13m1 : Method := { name := "numberOfTrailingZeros", desc := "(I)I", sig := { parameters := [.int], returnType := some .int }, accessFlags := 9, code := some k13c1 }
/-- java/lang/Integer -/
def k13 : Class := { plain "java/lang/Integer" (some 3) with
  accessFlags := 49
  interfaces := #[4, 11, 12]
  cf := some (fileOf pool13 1 #[.nestMembers #[189]] #[{ accessFlags := 9, nameIndex := 53, descriptorIndex := 54, attributes := #[] }, { accessFlags := 9, nameIndex := 406, descriptorIndex := 54, attributes := #[] }] 49 203 #[304, 306, 308] #[{ accessFlags := 25, nameIndex := 310, descriptorIndex := 194, attributes := #[] }, { accessFlags := 25, nameIndex := 312, descriptorIndex := 194, attributes := #[] }, { accessFlags := 25, nameIndex := 302, descriptorIndex := 303, attributes := #[] }, { accessFlags := 24, nameIndex := 19, descriptorIndex := 20, attributes := #[] }, { accessFlags := 24, nameIndex := 89, descriptorIndex := 86, attributes := #[] }, { accessFlags := 24, nameIndex := 85, descriptorIndex := 86, attributes := #[] }, { accessFlags := 18, nameIndex := 207, descriptorIndex := 194, attributes := #[] }, { accessFlags := 25, nameIndex := 316, descriptorIndex := 194, attributes := #[] }, { accessFlags := 25, nameIndex := 318, descriptorIndex := 194, attributes := #[] }, { accessFlags := 26, nameIndex := 320, descriptorIndex := 321, attributes := #[] }])
  fields := #[{ name := "MIN_VALUE", type := .int, accessFlags := 25, slot := 0, constantValue := 0 }, { name := "MAX_VALUE", type := .int, accessFlags := 25, slot := 1, constantValue := 0 }, { name := "TYPE", type := (.object "java/lang/Class"), accessFlags := 25, slot := 2, constantValue := 0 }, { name := "digits", type := (.array .char), accessFlags := 24, slot := 3, constantValue := 0 }, { name := "DigitTens", type := (.array .byte), accessFlags := 24, slot := 4, constantValue := 0 }, { name := "DigitOnes", type := (.array .byte), accessFlags := 24, slot := 5, constantValue := 0 }, { name := "value", type := .int, accessFlags := 18, slot := 0, constantValue := 0 }, { name := "SIZE", type := .int, accessFlags := 25, slot := 6, constantValue := 0 }, { name := "BYTES", type := .int, accessFlags := 25, slot := 7, constantValue := 0 }, { name := "serialVersionUID", type := .long, accessFlags := 26, slot := 8, constantValue := 0 }]
  methods := #[k13m0, k13m1]
  instanceTypes := #[.int]
  staticTypes := #[.int, .int, (.object "java/lang/Class"), (.array .char), (.array .byte), (.array .byte), .int, .int, .long]
  resolved := Array.replicate 453 none
  statics := none }

def pool14 : Array CpInfo := pool [(2, .class_ 4), (1, u "java/lang/Object"), (0, u "<init>"), (0, u "()V"), (1, .class_ 10), (1, u "java/lang/System"), (0, u "allowSecurityManager"), (0, u "I"), (16, u "cons"), (0, u "Ljava/io/Console;"), (77, .class_ 110), (1, u "java/lang/System$CallersHolder"), (43, u "initialErrStream"), (0, u "Ljava/io/PrintStream;"), (19, u "security"), (0, u "Ljava/lang/SecurityManager;"), (31, .class_ 209), (0, u "java/lang/System$1"), (7, u "props"), (0, u "Ljava/util/Properties;"), (2, u "lineSeparator"), (0, u "Ljava/lang/String;"), (96, .class_ 321), (1, u "java/lang/System$LoggerFinder"), (5, .class_ 328), (0, u "java/lang/System$Logger"), (67, u "err"), (2, u "out"), (91, u "notSupportedJnuEncoding"), (15, u "in"), (17, u "initialIn"), (0, u "Ljava/io/InputStream;"), (35, u "bootLayer"), (0, u "Ljava/lang/ModuleLayer;"), (99, .class_ 664), (0, u "java/lang/System$2"), (9, u "NEVER"), (2, u "MAYBE"), (49, u "arraycopy"), (0, u "(Ljava/lang/Object;ILjava/lang/Object;II)V"), (72, .class_ 802), (0, u "java/lang/System$Logger$Level")] 31

def k14m0 : Method := { name := "<init>", desc := "()V", sig := { parameters := [], returnType := none }, accessFlags := 2, code := none }
def k14m1 : Method := { name := "arraycopy", desc := "(Ljava/lang/Object;ILjava/lang/Object;II)V", sig := { parameters := [(.object "java/lang/Object"), .int, (.object "java/lang/Object"), .int, .int], returnType := none }, accessFlags := 265, code := none }
/-- java/lang/System -/
def k14 : Class := { plain "java/lang/System" (some 0) with
  accessFlags := 49
  interfaces := #[]
  cf := some (fileOf pool14 8 #[.nestMembers #[319, 327, 801, 108, 663, 208]] #[{ accessFlags := 2, nameIndex := 5, descriptorIndex := 6, attributes := #[] }, { accessFlags := 265, nameIndex := 727, descriptorIndex := 728, attributes := #[] }] 49 2 #[] #[{ accessFlags := 25, nameIndex := 507, descriptorIndex := 526, attributes := #[] }, { accessFlags := 25, nameIndex := 399, descriptorIndex := 155, attributes := #[] }, { accessFlags := 25, nameIndex := 396, descriptorIndex := 155, attributes := #[] }, { accessFlags := 10, nameIndex := 525, descriptorIndex := 526, attributes := #[] }, { accessFlags := 26, nameIndex := 674, descriptorIndex := 12, attributes := #[] }, { accessFlags := 26, nameIndex := 677, descriptorIndex := 12, attributes := #[] }, { accessFlags := 10, nameIndex := 11, descriptorIndex := 12, attributes := #[] }, { accessFlags := 74, nameIndex := 175, descriptorIndex := 176, attributes := #[] }, { accessFlags := 10, nameIndex := 491, descriptorIndex := 222, attributes := #[] }, { accessFlags := 74, nameIndex := 29, descriptorIndex := 30, attributes := #[] }, { accessFlags := 74, nameIndex := 154, descriptorIndex := 155, attributes := #[] }, { accessFlags := 10, nameIndex := 217, descriptorIndex := 218, attributes := #[] }, { accessFlags := 10, nameIndex := 221, descriptorIndex := 222, attributes := #[] }, { accessFlags := 8, nameIndex := 562, descriptorIndex := 563, attributes := #[] }])
  fields := #[{ name := "in", type := (.object "java/io/InputStream"), accessFlags := 25, slot := 0, constantValue := 0 }, { name := "out", type := (.object "java/io/PrintStream"), accessFlags := 25, slot := 1, constantValue := 0 }, { name := "err", type := (.object "java/io/PrintStream"), accessFlags := 25, slot := 2, constantValue := 0 }, { name := "initialIn", type := (.object "java/io/InputStream"), accessFlags := 10, slot := 3, constantValue := 0 }, { name := "NEVER", type := .int, accessFlags := 26, slot := 4, constantValue := 0 }, { name := "MAYBE", type := .int, accessFlags := 26, slot := 5, constantValue := 0 }, { name := "allowSecurityManager", type := .int, accessFlags := 10, slot := 6, constantValue := 0 }, { name := "security", type := (.object "java/lang/SecurityManager"), accessFlags := 74, slot := 7, constantValue := 0 }, { name := "notSupportedJnuEncoding", type := (.object "java/lang/String"), accessFlags := 10, slot := 8, constantValue := 0 }, { name := "cons", type := (.object "java/io/Console"), accessFlags := 74, slot := 9, constantValue := 0 }, { name := "initialErrStream", type := (.object "java/io/PrintStream"), accessFlags := 74, slot := 10, constantValue := 0 }, { name := "props", type := (.object "java/util/Properties"), accessFlags := 10, slot := 11, constantValue := 0 }, { name := "lineSeparator", type := (.object "java/lang/String"), accessFlags := 10, slot := 12, constantValue := 0 }, { name := "bootLayer", type := (.object "java/lang/ModuleLayer"), accessFlags := 8, slot := 13, constantValue := 0 }]
  methods := #[k14m0, k14m1]
  instanceTypes := #[]
  staticTypes := #[(.object "java/io/InputStream"), (.object "java/io/PrintStream"), (.object "java/io/PrintStream"), (.object "java/io/InputStream"), .int, .int, .int, (.object "java/lang/SecurityManager"), (.object "java/lang/String"), (.object "java/io/Console"), (.object "java/io/PrintStream"), (.object "java/util/Properties"), (.object "java/lang/String"), (.object "java/lang/ModuleLayer")]
  resolved := Array.replicate 834 none
  statics := none }

/-- the primitive byte -/
def k15 : Class := { plain "byte" none with kind := .primitive 'B', accessFlags := 0x411 }
/-- [B -/
def k16 : Class := { plain "[B" (some 0) with kind := .array 15 .byte, interfaces := #[9, 2], accessFlags := 1041 }

/-- the primitive int -/
def k17 : Class := { plain "int" none with kind := .primitive 'I', accessFlags := 0x411 }
/-- [I -/
def k18 : Class := { plain "[I" (some 0) with kind := .array 17 .int, interfaces := #[9, 2], accessFlags := 1041 }

/-- [Ljava/math/BigInteger; -/
def k19 : Class := { plain "[Ljava/math/BigInteger;" (some 0) with kind := .array 5 (.object "java/math/BigInteger"), interfaces := #[9, 2], accessFlags := 1041 }

def heap : Heap := #[{ cls := 5, slots := #[.long 0, .int 0, .int 0, .int 0, .int 0, .int 0, .int 0, .int 0, .int 0, .int 0, .int 0, .int 0, .null, .int 0, .int 0, .null, .int 0, .ref 1, .ref 2, .null, .null, .double 0, .ref 52, .ref 19, .ref 20, .ref 35, .ref 28, .null, .int 0, .null, .null, .null, .null, .null, .long 0, .null, .int 0], vm := .statics 5 },
  { cls := 19, slots := #[.null, .ref 19, .ref 20, .ref 21, .ref 22, .ref 23, .ref 24, .ref 25, .ref 26, .ref 27, .ref 28, .ref 29, .ref 30, .ref 31, .ref 32, .ref 33, .ref 34], vm := .none },
  { cls := 19, slots := #[.null, .ref 35, .ref 36, .ref 37, .ref 38, .ref 39, .ref 40, .ref 41, .ref 42, .ref 43, .ref 44, .ref 45, .ref 46, .ref 47, .ref 48, .ref 49, .ref 50], vm := .none },
  { cls := 18, slots := #[.int 1], vm := .none },
  { cls := 18, slots := #[.int 2], vm := .none },
  { cls := 18, slots := #[.int 3], vm := .none },
  { cls := 18, slots := #[.int 4], vm := .none },
  { cls := 18, slots := #[.int 5], vm := .none },
  { cls := 18, slots := #[.int 6], vm := .none },
  { cls := 18, slots := #[.int 7], vm := .none },
  { cls := 18, slots := #[.int 8], vm := .none },
  { cls := 18, slots := #[.int 9], vm := .none },
  { cls := 18, slots := #[.int 10], vm := .none },
  { cls := 18, slots := #[.int 11], vm := .none },
  { cls := 18, slots := #[.int 12], vm := .none },
  { cls := 18, slots := #[.int 13], vm := .none },
  { cls := 18, slots := #[.int 14], vm := .none },
  { cls := 18, slots := #[.int 15], vm := .none },
  { cls := 18, slots := #[.int 16], vm := .none },
  { cls := 5, slots := #[.int 1, .ref 3, .int 0, .int 0, .int 0, .int 0], vm := .none },
  { cls := 5, slots := #[.int 1, .ref 4, .int 0, .int 0, .int 0, .int 0], vm := .none },
  { cls := 5, slots := #[.int 1, .ref 5, .int 0, .int 0, .int 0, .int 0], vm := .none },
  { cls := 5, slots := #[.int 1, .ref 6, .int 0, .int 0, .int 0, .int 0], vm := .none },
  { cls := 5, slots := #[.int 1, .ref 7, .int 0, .int 0, .int 0, .int 0], vm := .none },
  { cls := 5, slots := #[.int 1, .ref 8, .int 0, .int 0, .int 0, .int 0], vm := .none },
  { cls := 5, slots := #[.int 1, .ref 9, .int 0, .int 0, .int 0, .int 0], vm := .none },
  { cls := 5, slots := #[.int 1, .ref 10, .int 0, .int 0, .int 0, .int 0], vm := .none },
  { cls := 5, slots := #[.int 1, .ref 11, .int 0, .int 0, .int 0, .int 0], vm := .none },
  { cls := 5, slots := #[.int 1, .ref 12, .int 0, .int 0, .int 0, .int 0], vm := .none },
  { cls := 5, slots := #[.int 1, .ref 13, .int 0, .int 0, .int 0, .int 0], vm := .none },
  { cls := 5, slots := #[.int 1, .ref 14, .int 0, .int 0, .int 0, .int 0], vm := .none },
  { cls := 5, slots := #[.int 1, .ref 15, .int 0, .int 0, .int 0, .int 0], vm := .none },
  { cls := 5, slots := #[.int 1, .ref 16, .int 0, .int 0, .int 0, .int 0], vm := .none },
  { cls := 5, slots := #[.int 1, .ref 17, .int 0, .int 0, .int 0, .int 0], vm := .none },
  { cls := 5, slots := #[.int 1, .ref 18, .int 0, .int 0, .int 0, .int 0], vm := .none },
  { cls := 5, slots := #[.int (-1), .ref 3, .int 0, .int 0, .int 0, .int 0], vm := .none },
  { cls := 5, slots := #[.int (-1), .ref 4, .int 0, .int 0, .int 0, .int 0], vm := .none },
  { cls := 5, slots := #[.int (-1), .ref 5, .int 0, .int 0, .int 0, .int 0], vm := .none },
  { cls := 5, slots := #[.int (-1), .ref 6, .int 0, .int 0, .int 0, .int 0], vm := .none },
  { cls := 5, slots := #[.int (-1), .ref 7, .int 0, .int 0, .int 0, .int 0], vm := .none },
  { cls := 5, slots := #[.int (-1), .ref 8, .int 0, .int 0, .int 0, .int 0], vm := .none },
  { cls := 5, slots := #[.int (-1), .ref 9, .int 0, .int 0, .int 0, .int 0], vm := .none },
  { cls := 5, slots := #[.int (-1), .ref 10, .int 0, .int 0, .int 0, .int 0], vm := .none },
  { cls := 5, slots := #[.int (-1), .ref 11, .int 0, .int 0, .int 0, .int 0], vm := .none },
  { cls := 5, slots := #[.int (-1), .ref 12, .int 0, .int 0, .int 0, .int 0], vm := .none },
  { cls := 5, slots := #[.int (-1), .ref 13, .int 0, .int 0, .int 0, .int 0], vm := .none },
  { cls := 5, slots := #[.int (-1), .ref 14, .int 0, .int 0, .int 0, .int 0], vm := .none },
  { cls := 5, slots := #[.int (-1), .ref 15, .int 0, .int 0, .int 0, .int 0], vm := .none },
  { cls := 5, slots := #[.int (-1), .ref 16, .int 0, .int 0, .int 0, .int 0], vm := .none },
  { cls := 5, slots := #[.int (-1), .ref 17, .int 0, .int 0, .int 0, .int 0], vm := .none },
  { cls := 5, slots := #[.int (-1), .ref 18, .int 0, .int 0, .int 0, .int 0], vm := .none },
  { cls := 18, slots := #[], vm := .none },
  { cls := 5, slots := #[.int 0, .ref 51, .int 0, .int 0, .int 0, .int 0], vm := .none }]
def classes : Array Class := #[k0, k1, k2, k3, k4, k5, k6, k7, k8, k9, k10, k11, k12, k13, k14, k15, k16, k17, k18, k19]
def interned : List (Array UInt16 × Addr) := []
def slotsUsed : Nat := 285
def theMethod : MethodId := ⟨1, 1⟩
def args0 : Array Value := #[.int 3, .int 2, .int 5, .int 0]
def aboutOver (below : List Frame) : State where
  vm := { classes := classes, interned := interned.toArray }
  heap := heap
  slotsUsed := slotsUsed
  threads := #[{ frames := .invoking theMethod args0 :: below }]
def below0 : List Frame := [.native { method := ⟨0, 0⟩, args := #[] }]
def about1 : State := aboutOver below0
def p0 : Program := .bare "" "" ""
def e0 : Env := launch0.env 0 0 0
theorem w_frames : about1.frames = Frame.invoking theMethod args0 :: below0 := rfl
set_option maxRecDepth 65536 in
theorem w_args : argsFit about1.vm theMethod args0 = true := by decide +kernel
set_option maxRecDepth 65536 in
theorem w_heap : heapFits about1 = true := by decide +kernel
set_option maxRecDepth 65536 in
theorem w_runnable : about1.curStatus? = some .runnable := by decide +kernel
set_option maxRecDepth 65536 in
theorem w_alone : about1.alone = true := by decide +kernel
set_option maxRecDepth 65536 in
theorem w_named : about1.methodNamed? x = some theMethod := by decide +kernel
set_option maxRecDepth 65536 in
theorem w_hears : about1.hears theMethod below0 = true := by decide +kernel
set_option maxRecDepth 65536 in
theorem w_ripe : about1.ripe theMethod args0 below0 = true := by decide +kernel
theorem w_running : about1.status = .running := rfl
set_option maxRecDepth 65536 in
theorem w_room : about1.hasRoom e0.platform room_1 = true :=
  launch0.hasRoom_least _ room_1 (by decide +kernel) (by decide +kernel) (by decide +kernel) (by decide +kernel) (by decide +kernel) (by decide +kernel)
theorem allAtoms_all (ts : List Jvm.Cond) (a : Array Jvm.Value) (st : Jvm.State) : (allAtoms ts).before a st = ts.all (fun c => c.before a st) := by
  induction ts with
  | nil => rfl
  | cons c t ih =>
    show (Jvm.Cond.and c (allAtoms t)).before a st = _
    rw [Jvm.Cond.before_and, ih, List.all_cons]
def words1 : List Jvm.Cond := Jvm.Cond.code x code maxLocals ret :: tables_1
/-- a 'code' word, met by the world's own term for the bytes: nothing is compared byte by byte -/
theorem code_word {y : MethodName} {bytes : ByteArray} {mx : Nat} {rt : Option FieldType} {a : Array Value} {s : State} {m : MethodId} {meth : Method} {c : Code} (h1 : s.methodNamed? y = some m) (h2 : s.vm.method? m = some meth) (h3 : meth.code = some c) (h4 : c.code = bytes)
    (h5 : (c.maxLocals == mx && c.exceptionTable.isEmpty && decide (c.maxStack ≤ mostOperands) && decide (meth.sig.returnType = rt) && !meth.locks && decide (parseMethodDescriptor y.desc = some meth.sig)) = true) : (Jvm.Cond.code y bytes mx rt).before a s = true := by
  simp only [Bool.and_eq_true, beq_iff_eq, Bool.not_eq_true', decide_eq_true_eq] at h5
  obtain ⟨⟨⟨⟨⟨g1, g2⟩, g3⟩, g4⟩, g5⟩, g6⟩ := h5
  simp [Cond.before, Cond.holds, Cond.value, h1, h2, h3, h4, g1, g2, g3, g4, g5, g6]
def isCode : Jvm.Cond → Bool
  | .code _ _ _ _ => true
  | _ => false
theorem all_split {L : List Jvm.Cond} {P : Jvm.Cond → Bool} (h1 : L.all (fun c => isCode c || P c) = true) (h2 : ∀ c ∈ L.filter isCode, P c = true) : L.all P = true := by
  refine List.all_eq_true.mpr fun c hc => ?_
  have h := List.all_eq_true.mp h1 c hc
  rcases Bool.eq_false_or_eq_true (isCode c) with hi | hi
  · exact h2 c (List.mem_filter.mpr ⟨hc, hi⟩)
  · simpa [hi] using h
set_option maxRecDepth 65536 in
theorem w_c0 : (Jvm.Cond.code x code maxLocals ret).before args0 about1 = true := code_word (m := ⟨1, 1⟩) (meth := k1m1) (c := k1c1) (by decide +kernel) rfl rfl rfl (by decide +kernel)
set_option maxRecDepth 65536 in
theorem w_c1 : (Jvm.Cond.code ({ cls := "java/math/BigInteger", name := "valueOf", desc := "(J)Ljava/math/BigInteger;" } : Jvm.MethodName) jdk_2097_method_29_code (2 : Nat) (Option.some (Jvm.ClassFile.FieldType.object "java/math/BigInteger"))).before args0 about1 = true := code_word (m := ⟨5, 1⟩) (meth := k5m1) (c := k5c1) (by decide +kernel) rfl rfl rfl (by decide +kernel)
set_option maxRecDepth 65536 in
theorem w_c2 : (Jvm.Cond.code ({ cls := "java/math/BigInteger", name := "<init>", desc := "(J)V" } : Jvm.MethodName) jdk_2097_method_30_code (4 : Nat) (Option.none : Option Jvm.ClassFile.FieldType)).before args0 about1 = true := code_word (m := ⟨5, 2⟩) (meth := k5m2) (c := k5c2) (by decide +kernel) rfl rfl rfl (by decide +kernel)
set_option maxRecDepth 65536 in
theorem w_c3 : (Jvm.Cond.code ({ cls := "java/lang/Number", name := "<init>", desc := "()V" } : Jvm.MethodName) jdk_18_method_1_code (1 : Nat) (Option.none : Option Jvm.ClassFile.FieldType)).before args0 about1 = true := code_word (m := ⟨3, 0⟩) (meth := k3m0) (c := k3c0) (by decide +kernel) rfl rfl rfl (by decide +kernel)
set_option maxRecDepth 65536 in
theorem w_c4 : (Jvm.Cond.code ({ cls := "java/lang/Object", name := "<init>", desc := "()V" } : Jvm.MethodName) object_method_1_code (1 : Nat) (Option.none : Option Jvm.ClassFile.FieldType)).before args0 about1 = true := code_word (m := ⟨0, 0⟩) (meth := k0m0) (c := k0c0) (by decide +kernel) rfl rfl rfl (by decide +kernel)
set_option maxRecDepth 65536 in
theorem w_c5 : (Jvm.Cond.code ({ cls := "com/example/unconfuse/unconfuse/Fraction", name := "of", desc := "(Ljava/math/BigInteger;Ljava/math/BigInteger;)Lcom/example/unconfuse/unconfuse/Fraction;" } : Jvm.MethodName) prog_1_method_2_code (3 : Nat) (Option.some (Jvm.ClassFile.FieldType.object "com/example/unconfuse/unconfuse/Fraction"))).before args0 about1 = true := code_word (m := ⟨6, 1⟩) (meth := k6m1) (c := k6c1) (by decide +kernel) rfl rfl rfl (by decide +kernel)
set_option maxRecDepth 65536 in
theorem w_c6 : (Jvm.Cond.code ({ cls := "java/math/BigInteger", name := "signum", desc := "()I" } : Jvm.MethodName) jdk_2097_method_81_code (1 : Nat) (Option.some Jvm.ClassFile.FieldType.int)).before args0 about1 = true := code_word (m := ⟨5, 9⟩) (meth := k5m9) (c := k5c9) (by decide +kernel) rfl rfl rfl (by decide +kernel)
set_option maxRecDepth 65536 in
theorem w_c7 : (Jvm.Cond.code ({ cls := "java/math/BigInteger", name := "gcd", desc := "(Ljava/math/BigInteger;)Ljava/math/BigInteger;" } : Jvm.MethodName) jdk_2097_method_73_code (5 : Nat) (Option.some (Jvm.ClassFile.FieldType.object "java/math/BigInteger"))).before args0 about1 = true := code_word (m := ⟨5, 5⟩) (meth := k5m5) (c := k5c5) (by decide +kernel) rfl rfl rfl (by decide +kernel)
set_option maxRecDepth 65536 in
theorem w_c8 : (Jvm.Cond.code ({ cls := "java/math/MutableBigInteger", name := "<init>", desc := "(Ljava/math/BigInteger;)V" } : Jvm.MethodName) jdk_2101_method_4_code (2 : Nat) (Option.none : Option Jvm.ClassFile.FieldType)).before args0 about1 = true := code_word (m := ⟨7, 2⟩) (meth := k7m2) (c := k7c2) (by decide +kernel) rfl rfl rfl (by decide +kernel)
set_option maxRecDepth 65536 in
theorem w_c9 : (Jvm.Cond.code ({ cls := "java/util/Arrays", name := "copyOf", desc := "([II)[I" } : Jvm.MethodName) jdk_65_method_123_code (3 : Nat) (Option.some (Jvm.ClassFile.FieldType.array Jvm.ClassFile.FieldType.int))).before args0 about1 = true := code_word (m := ⟨8, 2⟩) (meth := k8m2) (c := k8c2) (by decide +kernel) rfl rfl rfl (by decide +kernel)
set_option maxRecDepth 65536 in
theorem w_c10 : (Jvm.Cond.code ({ cls := "java/math/MutableBigInteger", name := "hybridGCD", desc := "(Ljava/math/MutableBigInteger;)Ljava/math/MutableBigInteger;" } : Jvm.MethodName) jdk_2101_method_72_code (5 : Nat) (Option.some (Jvm.ClassFile.FieldType.object "java/math/MutableBigInteger"))).before args0 about1 = true := code_word (m := ⟨7, 16⟩) (meth := k7m16) (c := k7c16) (by decide +kernel) rfl rfl rfl (by decide +kernel)
set_option maxRecDepth 65536 in
theorem w_c11 : (Jvm.Cond.code ({ cls := "java/math/MutableBigInteger", name := "<init>", desc := "()V" } : Jvm.MethodName) jdk_2101_method_1_code (1 : Nat) (Option.none : Option Jvm.ClassFile.FieldType)).before args0 about1 = true := code_word (m := ⟨7, 0⟩) (meth := k7m0) (c := k7c0) (by decide +kernel) rfl rfl rfl (by decide +kernel)
set_option maxRecDepth 65536 in
theorem w_c12 : (Jvm.Cond.code ({ cls := "java/lang/Math", name := "abs", desc := "(I)I" } : Jvm.MethodName) jdk_29_method_59_code (1 : Nat) (Option.some Jvm.ClassFile.FieldType.int)).before args0 about1 = true := code_word (m := ⟨10, 1⟩) (meth := k10m1) (c := k10c1) (by decide +kernel) rfl rfl rfl (by decide +kernel)
set_option maxRecDepth 65536 in
theorem w_c13 : (Jvm.Cond.code ({ cls := "java/math/MutableBigInteger", name := "binaryGCD", desc := "(Ljava/math/MutableBigInteger;)Ljava/math/MutableBigInteger;" } : Jvm.MethodName) jdk_2101_method_73_code (13 : Nat) (Option.some (Jvm.ClassFile.FieldType.object "java/math/MutableBigInteger"))).before args0 about1 = true := code_word (m := ⟨7, 17⟩) (meth := k7m17) (c := k7c17) (by decide +kernel) rfl rfl rfl (by decide +kernel)
set_option maxRecDepth 65536 in
theorem w_c14 : (Jvm.Cond.code ({ cls := "java/math/MutableBigInteger", name := "getLowestSetBit", desc := "()I" } : Jvm.MethodName) jdk_2101_method_18_code (3 : Nat) (Option.some Jvm.ClassFile.FieldType.int)).before args0 about1 = true := code_word (m := ⟨7, 7⟩) (meth := k7m7) (c := k7c7) (by decide +kernel) rfl rfl rfl (by decide +kernel)
set_option maxRecDepth 65536 in
theorem w_c15 : (Jvm.Cond.code ({ cls := "java/lang/Integer", name := "numberOfTrailingZeros", desc := "(I)I" } : Jvm.MethodName) jdk_33_method_48_code (2 : Nat) (Option.some Jvm.ClassFile.FieldType.int)).before args0 about1 = true := code_word (m := ⟨13, 1⟩) (meth := k13m1) (c := k13c1) (by decide +kernel) rfl rfl rfl (by decide +kernel)
set_option maxRecDepth 65536 in
theorem w_c16 : (Jvm.Cond.code ({ cls := "java/math/MutableBigInteger", name := "rightShift", desc := "(I)V" } : Jvm.MethodName) jdk_2101_method_35_code (5 : Nat) (Option.none : Option Jvm.ClassFile.FieldType)).before args0 about1 = true := code_word (m := ⟨7, 9⟩) (meth := k7m9) (c := k7c9) (by decide +kernel) rfl rfl rfl (by decide +kernel)
set_option maxRecDepth 65536 in
theorem w_c17 : (Jvm.Cond.code ({ cls := "java/math/BigInteger", name := "bitLengthForInt", desc := "(I)I" } : Jvm.MethodName) jdk_2097_method_74_code (1 : Nat) (Option.some Jvm.ClassFile.FieldType.int)).before args0 about1 = true := code_word (m := ⟨5, 6⟩) (meth := k5m6) (c := k5c6) (by decide +kernel) rfl rfl rfl (by decide +kernel)
set_option maxRecDepth 65536 in
theorem w_c18 : (Jvm.Cond.code ({ cls := "java/lang/Integer", name := "numberOfLeadingZeros", desc := "(I)I" } : Jvm.MethodName) jdk_33_method_47_code (2 : Nat) (Option.some Jvm.ClassFile.FieldType.int)).before args0 about1 = true := code_word (m := ⟨13, 0⟩) (meth := k13m0) (c := k13c0) (by decide +kernel) rfl rfl rfl (by decide +kernel)
set_option maxRecDepth 65536 in
theorem w_c19 : (Jvm.Cond.code ({ cls := "java/math/MutableBigInteger", name := "primitiveRightShift", desc := "(I)V" } : Jvm.MethodName) jdk_2101_method_41_code (7 : Nat) (Option.none : Option Jvm.ClassFile.FieldType)).before args0 about1 = true := code_word (m := ⟨7, 11⟩) (meth := k7m11) (c := k7c11) (by decide +kernel) rfl rfl rfl (by decide +kernel)
set_option maxRecDepth 65536 in
theorem w_c20 : (Jvm.Cond.code ({ cls := "java/math/MutableBigInteger", name := "binaryGcd", desc := "(II)I" } : Jvm.MethodName) jdk_2101_method_74_code (5 : Nat) (Option.some Jvm.ClassFile.FieldType.int)).before args0 about1 = true := code_word (m := ⟨7, 18⟩) (meth := k7m18) (c := k7c18) (by decide +kernel) rfl rfl rfl (by decide +kernel)
set_option maxRecDepth 65536 in
theorem w_c21 : (Jvm.Cond.code ({ cls := "java/math/MutableBigInteger", name := "leftShift", desc := "(I)V" } : Jvm.MethodName) jdk_2101_method_37_code (8 : Nat) (Option.none : Option Jvm.ClassFile.FieldType)).before args0 about1 = true := code_word (m := ⟨7, 10⟩) (meth := k7m10) (c := k7c10) (by decide +kernel) rfl rfl rfl (by decide +kernel)
set_option maxRecDepth 65536 in
theorem w_c22 : (Jvm.Cond.code ({ cls := "java/math/MutableBigInteger", name := "primitiveLeftShift", desc := "(I)V" } : Jvm.MethodName) jdk_2101_method_42_code (8 : Nat) (Option.none : Option Jvm.ClassFile.FieldType)).before args0 about1 = true := code_word (m := ⟨7, 12⟩) (meth := k7m12) (c := k7c12) (by decide +kernel) rfl rfl rfl (by decide +kernel)
set_option maxRecDepth 65536 in
theorem w_c23 : (Jvm.Cond.code ({ cls := "java/math/MutableBigInteger", name := "toBigInteger", desc := "(I)Ljava/math/BigInteger;" } : Jvm.MethodName) jdk_2101_method_9_code (2 : Nat) (Option.some (Jvm.ClassFile.FieldType.object "java/math/BigInteger"))).before args0 about1 = true := code_word (m := ⟨7, 4⟩) (meth := k7m4) (c := k7c4) (by decide +kernel) rfl rfl rfl (by decide +kernel)
set_option maxRecDepth 65536 in
theorem w_c24 : (Jvm.Cond.code ({ cls := "java/math/MutableBigInteger", name := "getMagnitudeArray", desc := "()[I" } : Jvm.MethodName) jdk_2101_method_7_code (2 : Nat) (Option.some (Jvm.ClassFile.FieldType.array Jvm.ClassFile.FieldType.int))).before args0 about1 = true := code_word (m := ⟨7, 3⟩) (meth := k7m3) (c := k7c3) (by decide +kernel) rfl rfl rfl (by decide +kernel)
set_option maxRecDepth 65536 in
theorem w_c25 : (Jvm.Cond.code ({ cls := "java/math/BigInteger", name := "<init>", desc := "([II)V" } : Jvm.MethodName) jdk_2097_method_25_code (3 : Nat) (Option.none : Option Jvm.ClassFile.FieldType)).before args0 about1 = true := code_word (m := ⟨5, 0⟩) (meth := k5m0) (c := k5c0) (by decide +kernel) rfl rfl rfl (by decide +kernel)
set_option maxRecDepth 65536 in
theorem w_c26 : (Jvm.Cond.code ({ cls := "java/math/BigInteger", name := "divide", desc := "(Ljava/math/BigInteger;)Ljava/math/BigInteger;" } : Jvm.MethodName) jdk_2097_method_61_code (2 : Nat) (Option.some (Jvm.ClassFile.FieldType.object "java/math/BigInteger"))).before args0 about1 = true := code_word (m := ⟨5, 3⟩) (meth := k5m3) (c := k5c3) (by decide +kernel) rfl rfl rfl (by decide +kernel)
set_option maxRecDepth 65536 in
theorem w_c27 : (Jvm.Cond.code ({ cls := "java/math/BigInteger", name := "divideKnuth", desc := "(Ljava/math/BigInteger;)Ljava/math/BigInteger;" } : Jvm.MethodName) jdk_2097_method_62_code (5 : Nat) (Option.some (Jvm.ClassFile.FieldType.object "java/math/BigInteger"))).before args0 about1 = true := code_word (m := ⟨5, 4⟩) (meth := k5m4) (c := k5c4) (by decide +kernel) rfl rfl rfl (by decide +kernel)
set_option maxRecDepth 65536 in
theorem w_c28 : (Jvm.Cond.code ({ cls := "java/math/MutableBigInteger", name := "<init>", desc := "([I)V" } : Jvm.MethodName) jdk_2101_method_3_code (2 : Nat) (Option.none : Option Jvm.ClassFile.FieldType)).before args0 about1 = true := code_word (m := ⟨7, 1⟩) (meth := k7m1) (c := k7c1) (by decide +kernel) rfl rfl rfl (by decide +kernel)
set_option maxRecDepth 65536 in
theorem w_c29 : (Jvm.Cond.code ({ cls := "java/math/MutableBigInteger", name := "divideKnuth", desc := "(Ljava/math/MutableBigInteger;Ljava/math/MutableBigInteger;Z)Ljava/math/MutableBigInteger;" } : Jvm.MethodName) jdk_2101_method_57_code (8 : Nat) (Option.some (Jvm.ClassFile.FieldType.object "java/math/MutableBigInteger"))).before args0 about1 = true := code_word (m := ⟨7, 15⟩) (meth := k7m15) (c := k7c15) (by decide +kernel) rfl rfl rfl (by decide +kernel)
set_option maxRecDepth 65536 in
theorem w_c30 : (Jvm.Cond.code ({ cls := "java/math/MutableBigInteger", name := "compare", desc := "(Ljava/math/MutableBigInteger;)I" } : Jvm.MethodName) jdk_2101_method_15_code (8 : Nat) (Option.some Jvm.ClassFile.FieldType.int)).before args0 about1 = true := code_word (m := ⟨7, 6⟩) (meth := k7m6) (c := k7c6) (by decide +kernel) rfl rfl rfl (by decide +kernel)
set_option maxRecDepth 65536 in
theorem w_c31 : (Jvm.Cond.code ({ cls := "java/math/MutableBigInteger", name := "clear", desc := "()V" } : Jvm.MethodName) jdk_2101_method_13_code (3 : Nat) (Option.none : Option Jvm.ClassFile.FieldType)).before args0 about1 = true := code_word (m := ⟨7, 5⟩) (meth := k7m5) (c := k7c5) (by decide +kernel) rfl rfl rfl (by decide +kernel)
set_option maxRecDepth 65536 in
theorem w_c32 : (Jvm.Cond.code ({ cls := "java/math/MutableBigInteger", name := "divideOneWord", desc := "(ILjava/math/MutableBigInteger;)I" } : Jvm.MethodName) jdk_2101_method_53_code (15 : Nat) (Option.some Jvm.ClassFile.FieldType.int)).before args0 about1 = true := code_word (m := ⟨7, 14⟩) (meth := k7m14) (c := k7c14) (by decide +kernel) rfl rfl rfl (by decide +kernel)
set_option maxRecDepth 65536 in
theorem w_c33 : (Jvm.Cond.code ({ cls := "com/example/unconfuse/unconfuse/Fraction", name := "<init>", desc := "(Ljava/math/BigInteger;Ljava/math/BigInteger;)V" } : Jvm.MethodName) prog_1_method_1_code (3 : Nat) (Option.none : Option Jvm.ClassFile.FieldType)).before args0 about1 = true := code_word (m := ⟨6, 0⟩) (meth := k6m0) (c := k6c0) (by decide +kernel) rfl rfl rfl (by decide +kernel)
set_option maxRecDepth 65536 in
theorem w_c34 : (Jvm.Cond.code ({ cls := "com/example/unconfuse/unconfuse/Fraction", name := "numerator", desc := "()Ljava/math/BigInteger;" } : Jvm.MethodName) prog_1_method_4_code (1 : Nat) (Option.some (Jvm.ClassFile.FieldType.object "java/math/BigInteger"))).before args0 about1 = true := code_word (m := ⟨6, 2⟩) (meth := k6m2) (c := k6c2) (by decide +kernel) rfl rfl rfl (by decide +kernel)
set_option maxRecDepth 65536 in
theorem w_c35 : (Jvm.Cond.code ({ cls := "java/math/BigInteger", name := "equals", desc := "(Ljava/lang/Object;)Z" } : Jvm.MethodName) jdk_2097_method_124_code (7 : Nat) (Option.some Jvm.ClassFile.FieldType.boolean)).before args0 about1 = true := code_word (m := ⟨5, 10⟩) (meth := k5m10) (c := k5c10) (by decide +kernel) rfl rfl rfl (by decide +kernel)
set_option maxRecDepth 65536 in
theorem w_c36 : (Jvm.Cond.code ({ cls := "com/example/unconfuse/unconfuse/Fraction", name := "denominator", desc := "()Ljava/math/BigInteger;" } : Jvm.MethodName) prog_1_method_5_code (1 : Nat) (Option.some (Jvm.ClassFile.FieldType.object "java/math/BigInteger"))).before args0 about1 = true := code_word (m := ⟨6, 3⟩) (meth := k6m3) (c := k6c3) (by decide +kernel) rfl rfl rfl (by decide +kernel)
set_option maxRecDepth 65536 in
theorem w_c37 : (Jvm.Cond.code ({ cls := "java/math/MutableBigInteger", name := "difference", desc := "(Ljava/math/MutableBigInteger;)I" } : Jvm.MethodName) jdk_2101_method_50_code (8 : Nat) (Option.some Jvm.ClassFile.FieldType.int)).before args0 about1 = true := code_word (m := ⟨7, 13⟩) (meth := k7m13) (c := k7c13) (by decide +kernel) rfl rfl rfl (by decide +kernel)
set_option maxRecDepth 65536 in
theorem w_c38 : (Jvm.Cond.code ({ cls := "java/math/MutableBigInteger", name := "normalize", desc := "()V" } : Jvm.MethodName) jdk_2101_method_21_code (4 : Nat) (Option.none : Option Jvm.ClassFile.FieldType)).before args0 about1 = true := code_word (m := ⟨7, 8⟩) (meth := k7m8) (c := k7c8) (by decide +kernel) rfl rfl rfl (by decide +kernel)
set_option maxRecDepth 65536 in
theorem w_c39 : (Jvm.Cond.code ({ cls := "java/math/BigInteger", name := "negate", desc := "()Ljava/math/BigInteger;" } : Jvm.MethodName) jdk_2097_method_80_code (1 : Nat) (Option.some (Jvm.ClassFile.FieldType.object "java/math/BigInteger"))).before args0 about1 = true := code_word (m := ⟨5, 8⟩) (meth := k5m8) (c := k5c8) (by decide +kernel) rfl rfl rfl (by decide +kernel)
set_option maxRecDepth 65536 in
theorem w_c40 : (Jvm.Cond.code ({ cls := "java/util/Arrays", name := "copyOfRange", desc := "([III)[I" } : Jvm.MethodName) jdk_65_method_136_code (3 : Nat) (Option.some (Jvm.ClassFile.FieldType.array Jvm.ClassFile.FieldType.int))).before args0 about1 = true := code_word (m := ⟨8, 4⟩) (meth := k8m4) (c := k8c4) (by decide +kernel) rfl rfl rfl (by decide +kernel)
set_option maxRecDepth 65536 in
theorem w_c41 : (Jvm.Cond.code ({ cls := "java/util/Arrays", name := "copyOfRangeInt", desc := "([III)[I" } : Jvm.MethodName) jdk_65_method_137_code (5 : Nat) (Option.some (Jvm.ClassFile.FieldType.array Jvm.ClassFile.FieldType.int))).before args0 about1 = true := code_word (m := ⟨8, 5⟩) (meth := k8m5) (c := k8c5) (by decide +kernel) rfl rfl rfl (by decide +kernel)
set_option maxRecDepth 65536 in
theorem w_c42 : (Jvm.Cond.code ({ cls := "java/util/Arrays", name := "checkLength", desc := "(II)V" } : Jvm.MethodName) jdk_65_method_131_code (2 : Nat) (Option.none : Option Jvm.ClassFile.FieldType)).before args0 about1 = true := code_word (m := ⟨8, 3⟩) (meth := k8m3) (c := k8c3) (by decide +kernel) rfl rfl rfl (by decide +kernel)
set_option maxRecDepth 65536 in
theorem w_c43 : (Jvm.Cond.code ({ cls := "java/lang/Math", name := "min", desc := "(II)I" } : Jvm.MethodName) jdk_29_method_69_code (2 : Nat) (Option.some Jvm.ClassFile.FieldType.int)).before args0 about1 = true := code_word (m := ⟨10, 2⟩) (meth := k10m2) (c := k10c2) (by decide +kernel) rfl rfl rfl (by decide +kernel)
set_option maxRecDepth 65536 in
theorem w_c44 : (Jvm.Cond.code ({ cls := "java/util/Arrays", name := "fill", desc := "([II)V" } : Jvm.MethodName) jdk_65_method_103_code (4 : Nat) (Option.none : Option Jvm.ClassFile.FieldType)).before args0 about1 = true := code_word (m := ⟨8, 1⟩) (meth := k8m1) (c := k8c1) (by decide +kernel) rfl rfl rfl (by decide +kernel)
set_option maxRecDepth 65536 in
theorem w_c45 : (Jvm.Cond.code ({ cls := "java/math/BigInteger", name := "abs", desc := "()Ljava/math/BigInteger;" } : Jvm.MethodName) jdk_2097_method_79_code (1 : Nat) (Option.some (Jvm.ClassFile.FieldType.object "java/math/BigInteger"))).before args0 about1 = true := code_word (m := ⟨5, 7⟩) (meth := k5m7) (c := k5c7) (by decide +kernel) rfl rfl rfl (by decide +kernel)
def codes1 : List Jvm.Cond := [Jvm.Cond.code x code maxLocals ret, Jvm.Cond.code ({ cls := "java/math/BigInteger", name := "valueOf", desc := "(J)Ljava/math/BigInteger;" } : Jvm.MethodName) jdk_2097_method_29_code (2 : Nat) (Option.some (Jvm.ClassFile.FieldType.object "java/math/BigInteger")), Jvm.Cond.code ({ cls := "java/math/BigInteger", name := "<init>", desc := "(J)V" } : Jvm.MethodName) jdk_2097_method_30_code (4 : Nat) (Option.none : Option Jvm.ClassFile.FieldType), Jvm.Cond.code ({ cls := "java/lang/Number", name := "<init>", desc := "()V" } : Jvm.MethodName) jdk_18_method_1_code (1 : Nat) (Option.none : Option Jvm.ClassFile.FieldType), Jvm.Cond.code ({ cls := "java/lang/Object", name := "<init>", desc := "()V" } : Jvm.MethodName) object_method_1_code (1 : Nat) (Option.none : Option Jvm.ClassFile.FieldType), Jvm.Cond.code ({ cls := "com/example/unconfuse/unconfuse/Fraction", name := "of", desc := "(Ljava/math/BigInteger;Ljava/math/BigInteger;)Lcom/example/unconfuse/unconfuse/Fraction;" } : Jvm.MethodName) prog_1_method_2_code (3 : Nat) (Option.some (Jvm.ClassFile.FieldType.object "com/example/unconfuse/unconfuse/Fraction")), Jvm.Cond.code ({ cls := "java/math/BigInteger", name := "signum", desc := "()I" } : Jvm.MethodName) jdk_2097_method_81_code (1 : Nat) (Option.some Jvm.ClassFile.FieldType.int), Jvm.Cond.code ({ cls := "java/math/BigInteger", name := "gcd", desc := "(Ljava/math/BigInteger;)Ljava/math/BigInteger;" } : Jvm.MethodName) jdk_2097_method_73_code (5 : Nat) (Option.some (Jvm.ClassFile.FieldType.object "java/math/BigInteger")), Jvm.Cond.code ({ cls := "java/math/MutableBigInteger", name := "<init>", desc := "(Ljava/math/BigInteger;)V" } : Jvm.MethodName) jdk_2101_method_4_code (2 : Nat) (Option.none : Option Jvm.ClassFile.FieldType), Jvm.Cond.code ({ cls := "java/util/Arrays", name := "copyOf", desc := "([II)[I" } : Jvm.MethodName) jdk_65_method_123_code (3 : Nat) (Option.some (Jvm.ClassFile.FieldType.array Jvm.ClassFile.FieldType.int)), Jvm.Cond.code ({ cls := "java/math/MutableBigInteger", name := "hybridGCD", desc := "(Ljava/math/MutableBigInteger;)Ljava/math/MutableBigInteger;" } : Jvm.MethodName) jdk_2101_method_72_code (5 : Nat) (Option.some (Jvm.ClassFile.FieldType.object "java/math/MutableBigInteger")), Jvm.Cond.code ({ cls := "java/math/MutableBigInteger", name := "<init>", desc := "()V" } : Jvm.MethodName) jdk_2101_method_1_code (1 : Nat) (Option.none : Option Jvm.ClassFile.FieldType), Jvm.Cond.code ({ cls := "java/lang/Math", name := "abs", desc := "(I)I" } : Jvm.MethodName) jdk_29_method_59_code (1 : Nat) (Option.some Jvm.ClassFile.FieldType.int), Jvm.Cond.code ({ cls := "java/math/MutableBigInteger", name := "binaryGCD", desc := "(Ljava/math/MutableBigInteger;)Ljava/math/MutableBigInteger;" } : Jvm.MethodName) jdk_2101_method_73_code (13 : Nat) (Option.some (Jvm.ClassFile.FieldType.object "java/math/MutableBigInteger")), Jvm.Cond.code ({ cls := "java/math/MutableBigInteger", name := "getLowestSetBit", desc := "()I" } : Jvm.MethodName) jdk_2101_method_18_code (3 : Nat) (Option.some Jvm.ClassFile.FieldType.int), Jvm.Cond.code ({ cls := "java/lang/Integer", name := "numberOfTrailingZeros", desc := "(I)I" } : Jvm.MethodName) jdk_33_method_48_code (2 : Nat) (Option.some Jvm.ClassFile.FieldType.int), Jvm.Cond.code ({ cls := "java/math/MutableBigInteger", name := "rightShift", desc := "(I)V" } : Jvm.MethodName) jdk_2101_method_35_code (5 : Nat) (Option.none : Option Jvm.ClassFile.FieldType), Jvm.Cond.code ({ cls := "java/math/BigInteger", name := "bitLengthForInt", desc := "(I)I" } : Jvm.MethodName) jdk_2097_method_74_code (1 : Nat) (Option.some Jvm.ClassFile.FieldType.int), Jvm.Cond.code ({ cls := "java/lang/Integer", name := "numberOfLeadingZeros", desc := "(I)I" } : Jvm.MethodName) jdk_33_method_47_code (2 : Nat) (Option.some Jvm.ClassFile.FieldType.int), Jvm.Cond.code ({ cls := "java/math/MutableBigInteger", name := "primitiveRightShift", desc := "(I)V" } : Jvm.MethodName) jdk_2101_method_41_code (7 : Nat) (Option.none : Option Jvm.ClassFile.FieldType), Jvm.Cond.code ({ cls := "java/math/MutableBigInteger", name := "binaryGcd", desc := "(II)I" } : Jvm.MethodName) jdk_2101_method_74_code (5 : Nat) (Option.some Jvm.ClassFile.FieldType.int), Jvm.Cond.code ({ cls := "java/math/MutableBigInteger", name := "leftShift", desc := "(I)V" } : Jvm.MethodName) jdk_2101_method_37_code (8 : Nat) (Option.none : Option Jvm.ClassFile.FieldType), Jvm.Cond.code ({ cls := "java/math/MutableBigInteger", name := "primitiveLeftShift", desc := "(I)V" } : Jvm.MethodName) jdk_2101_method_42_code (8 : Nat) (Option.none : Option Jvm.ClassFile.FieldType), Jvm.Cond.code ({ cls := "java/math/MutableBigInteger", name := "toBigInteger", desc := "(I)Ljava/math/BigInteger;" } : Jvm.MethodName) jdk_2101_method_9_code (2 : Nat) (Option.some (Jvm.ClassFile.FieldType.object "java/math/BigInteger")), Jvm.Cond.code ({ cls := "java/math/MutableBigInteger", name := "getMagnitudeArray", desc := "()[I" } : Jvm.MethodName) jdk_2101_method_7_code (2 : Nat) (Option.some (Jvm.ClassFile.FieldType.array Jvm.ClassFile.FieldType.int)), Jvm.Cond.code ({ cls := "java/math/BigInteger", name := "<init>", desc := "([II)V" } : Jvm.MethodName) jdk_2097_method_25_code (3 : Nat) (Option.none : Option Jvm.ClassFile.FieldType), Jvm.Cond.code ({ cls := "java/math/BigInteger", name := "divide", desc := "(Ljava/math/BigInteger;)Ljava/math/BigInteger;" } : Jvm.MethodName) jdk_2097_method_61_code (2 : Nat) (Option.some (Jvm.ClassFile.FieldType.object "java/math/BigInteger")), Jvm.Cond.code ({ cls := "java/math/BigInteger", name := "divideKnuth", desc := "(Ljava/math/BigInteger;)Ljava/math/BigInteger;" } : Jvm.MethodName) jdk_2097_method_62_code (5 : Nat) (Option.some (Jvm.ClassFile.FieldType.object "java/math/BigInteger")), Jvm.Cond.code ({ cls := "java/math/MutableBigInteger", name := "<init>", desc := "([I)V" } : Jvm.MethodName) jdk_2101_method_3_code (2 : Nat) (Option.none : Option Jvm.ClassFile.FieldType), Jvm.Cond.code ({ cls := "java/math/MutableBigInteger", name := "divideKnuth", desc := "(Ljava/math/MutableBigInteger;Ljava/math/MutableBigInteger;Z)Ljava/math/MutableBigInteger;" } : Jvm.MethodName) jdk_2101_method_57_code (8 : Nat) (Option.some (Jvm.ClassFile.FieldType.object "java/math/MutableBigInteger")), Jvm.Cond.code ({ cls := "java/math/MutableBigInteger", name := "compare", desc := "(Ljava/math/MutableBigInteger;)I" } : Jvm.MethodName) jdk_2101_method_15_code (8 : Nat) (Option.some Jvm.ClassFile.FieldType.int), Jvm.Cond.code ({ cls := "java/math/MutableBigInteger", name := "clear", desc := "()V" } : Jvm.MethodName) jdk_2101_method_13_code (3 : Nat) (Option.none : Option Jvm.ClassFile.FieldType), Jvm.Cond.code ({ cls := "java/math/MutableBigInteger", name := "divideOneWord", desc := "(ILjava/math/MutableBigInteger;)I" } : Jvm.MethodName) jdk_2101_method_53_code (15 : Nat) (Option.some Jvm.ClassFile.FieldType.int), Jvm.Cond.code ({ cls := "com/example/unconfuse/unconfuse/Fraction", name := "<init>", desc := "(Ljava/math/BigInteger;Ljava/math/BigInteger;)V" } : Jvm.MethodName) prog_1_method_1_code (3 : Nat) (Option.none : Option Jvm.ClassFile.FieldType), Jvm.Cond.code ({ cls := "com/example/unconfuse/unconfuse/Fraction", name := "numerator", desc := "()Ljava/math/BigInteger;" } : Jvm.MethodName) prog_1_method_4_code (1 : Nat) (Option.some (Jvm.ClassFile.FieldType.object "java/math/BigInteger")), Jvm.Cond.code ({ cls := "java/math/BigInteger", name := "equals", desc := "(Ljava/lang/Object;)Z" } : Jvm.MethodName) jdk_2097_method_124_code (7 : Nat) (Option.some Jvm.ClassFile.FieldType.boolean), Jvm.Cond.code ({ cls := "com/example/unconfuse/unconfuse/Fraction", name := "denominator", desc := "()Ljava/math/BigInteger;" } : Jvm.MethodName) prog_1_method_5_code (1 : Nat) (Option.some (Jvm.ClassFile.FieldType.object "java/math/BigInteger")), Jvm.Cond.code ({ cls := "java/math/MutableBigInteger", name := "difference", desc := "(Ljava/math/MutableBigInteger;)I" } : Jvm.MethodName) jdk_2101_method_50_code (8 : Nat) (Option.some Jvm.ClassFile.FieldType.int), Jvm.Cond.code ({ cls := "java/math/MutableBigInteger", name := "normalize", desc := "()V" } : Jvm.MethodName) jdk_2101_method_21_code (4 : Nat) (Option.none : Option Jvm.ClassFile.FieldType), Jvm.Cond.code ({ cls := "java/math/BigInteger", name := "negate", desc := "()Ljava/math/BigInteger;" } : Jvm.MethodName) jdk_2097_method_80_code (1 : Nat) (Option.some (Jvm.ClassFile.FieldType.object "java/math/BigInteger")), Jvm.Cond.code ({ cls := "java/util/Arrays", name := "copyOfRange", desc := "([III)[I" } : Jvm.MethodName) jdk_65_method_136_code (3 : Nat) (Option.some (Jvm.ClassFile.FieldType.array Jvm.ClassFile.FieldType.int)), Jvm.Cond.code ({ cls := "java/util/Arrays", name := "copyOfRangeInt", desc := "([III)[I" } : Jvm.MethodName) jdk_65_method_137_code (5 : Nat) (Option.some (Jvm.ClassFile.FieldType.array Jvm.ClassFile.FieldType.int)), Jvm.Cond.code ({ cls := "java/util/Arrays", name := "checkLength", desc := "(II)V" } : Jvm.MethodName) jdk_65_method_131_code (2 : Nat) (Option.none : Option Jvm.ClassFile.FieldType), Jvm.Cond.code ({ cls := "java/lang/Math", name := "min", desc := "(II)I" } : Jvm.MethodName) jdk_29_method_69_code (2 : Nat) (Option.some Jvm.ClassFile.FieldType.int), Jvm.Cond.code ({ cls := "java/util/Arrays", name := "fill", desc := "([II)V" } : Jvm.MethodName) jdk_65_method_103_code (4 : Nat) (Option.none : Option Jvm.ClassFile.FieldType), Jvm.Cond.code ({ cls := "java/math/BigInteger", name := "abs", desc := "()Ljava/math/BigInteger;" } : Jvm.MethodName) jdk_2097_method_79_code (1 : Nat) (Option.some (Jvm.ClassFile.FieldType.object "java/math/BigInteger"))]
set_option maxRecDepth 65536 in
theorem codes_eq : words1.filter isCode = codes1 := rfl
theorem w_codes : ∀ c ∈ words1.filter isCode, c.before args0 about1 = true := by
  rw [codes_eq]
  intro c hc
  simp only [codes1, List.mem_cons, List.not_mem_nil, or_false] at hc
  rcases hc with rfl | rfl | rfl | rfl | rfl | rfl | rfl | rfl | rfl | rfl | rfl | rfl | rfl | rfl | rfl | rfl | rfl | rfl | rfl | rfl | rfl | rfl | rfl | rfl | rfl | rfl | rfl | rfl | rfl | rfl | rfl | rfl | rfl | rfl | rfl | rfl | rfl | rfl | rfl | rfl | rfl | rfl | rfl | rfl | rfl | rfl
  · exact w_c0
  · exact w_c1
  · exact w_c2
  · exact w_c3
  · exact w_c4
  · exact w_c5
  · exact w_c6
  · exact w_c7
  · exact w_c8
  · exact w_c9
  · exact w_c10
  · exact w_c11
  · exact w_c12
  · exact w_c13
  · exact w_c14
  · exact w_c15
  · exact w_c16
  · exact w_c17
  · exact w_c18
  · exact w_c19
  · exact w_c20
  · exact w_c21
  · exact w_c22
  · exact w_c23
  · exact w_c24
  · exact w_c25
  · exact w_c26
  · exact w_c27
  · exact w_c28
  · exact w_c29
  · exact w_c30
  · exact w_c31
  · exact w_c32
  · exact w_c33
  · exact w_c34
  · exact w_c35
  · exact w_c36
  · exact w_c37
  · exact w_c38
  · exact w_c39
  · exact w_c40
  · exact w_c41
  · exact w_c42
  · exact w_c43
  · exact w_c44
  · exact w_c45
set_option maxRecDepth 65536 in
theorem w_t1 : (words1.take 24).all (fun c => isCode c || c.before args0 about1) = true := by decide +kernel
set_option maxRecDepth 65536 in
theorem w_t2 : ((words1.drop 24).take 24).all (fun c => isCode c || c.before args0 about1) = true := by decide +kernel
set_option maxRecDepth 65536 in
theorem w_t3 : (((words1.drop 24).drop 24).take 24).all (fun c => isCode c || c.before args0 about1) = true := by decide +kernel
set_option maxRecDepth 65536 in
theorem w_t4 : ((((words1.drop 24).drop 24).drop 24).take 24).all (fun c => isCode c || c.before args0 about1) = true := by decide +kernel
set_option maxRecDepth 65536 in
theorem w_t5 : (((((words1.drop 24).drop 24).drop 24).drop 24).take 24).all (fun c => isCode c || c.before args0 about1) = true := by decide +kernel
set_option maxRecDepth 65536 in
theorem w_t6 : ((((((words1.drop 24).drop 24).drop 24).drop 24).drop 24).take 24).all (fun c => isCode c || c.before args0 about1) = true := by decide +kernel
set_option maxRecDepth 65536 in
theorem w_t7 : (((((((words1.drop 24).drop 24).drop 24).drop 24).drop 24).drop 24).take 24).all (fun c => isCode c || c.before args0 about1) = true := by decide +kernel
set_option maxRecDepth 65536 in
theorem w_t8 : ((((((((words1.drop 24).drop 24).drop 24).drop 24).drop 24).drop 24).drop 24).take 24).all (fun c => isCode c || c.before args0 about1) = true := by decide +kernel
set_option maxRecDepth 65536 in
theorem w_t9 : (((((((((words1.drop 24).drop 24).drop 24).drop 24).drop 24).drop 24).drop 24).drop 24).take 24).all (fun c => isCode c || c.before args0 about1) = true := by decide +kernel
set_option maxRecDepth 65536 in
theorem w_t10 : ((((((((((words1.drop 24).drop 24).drop 24).drop 24).drop 24).drop 24).drop 24).drop 24).drop 24).take 24).all (fun c => isCode c || c.before args0 about1) = true := by decide +kernel
set_option maxRecDepth 65536 in
theorem w_t11 : ((((((((((words1.drop 24).drop 24).drop 24).drop 24).drop 24).drop 24).drop 24).drop 24).drop 24).drop 24).all (fun c => isCode c || c.before args0 about1) = true := by decide +kernel
theorem w_tables : (allAtoms (Jvm.Cond.code x code maxLocals ret :: tables_1)).before args0 about1 = true := by
  rw [allAtoms_all]
  show words1.all (fun c => c.before args0 about1) = true
  refine all_split ?_ w_codes
  rw [← List.take_append_drop 24 words1, List.all_append, w_t1, ← List.take_append_drop 24 (words1.drop 24), List.all_append, w_t2, ← List.take_append_drop 24 ((words1.drop 24).drop 24), List.all_append, w_t3, ← List.take_append_drop 24 (((words1.drop 24).drop 24).drop 24), List.all_append, w_t4, ← List.take_append_drop 24 ((((words1.drop 24).drop 24).drop 24).drop 24), List.all_append, w_t5, ← List.take_append_drop 24 (((((words1.drop 24).drop 24).drop 24).drop 24).drop 24), List.all_append, w_t6, ← List.take_append_drop 24 ((((((words1.drop 24).drop 24).drop 24).drop 24).drop 24).drop 24), List.all_append, w_t7, ← List.take_append_drop 24 (((((((words1.drop 24).drop 24).drop 24).drop 24).drop 24).drop 24).drop 24), List.all_append, w_t8, ← List.take_append_drop 24 ((((((((words1.drop 24).drop 24).drop 24).drop 24).drop 24).drop 24).drop 24).drop 24), List.all_append, w_t9, ← List.take_append_drop 24 (((((((((words1.drop 24).drop 24).drop 24).drop 24).drop 24).drop 24).drop 24).drop 24).drop 24), List.all_append, w_t10, w_t11]
  rfl
set_option maxRecDepth 65536 in
theorem w_rest : rest_1_c.before args0 about1 = true := by decide +kernel
set_option maxRecDepth 65536 in
theorem w_case : (Jvm.Cond.and given_1 narrow_1).before args0 about1 = true := by decide +kernel
theorem w_applies : (headSpec (Jvm.Cond.code x code maxLocals ret :: tables_1) room_1).applies x e0.platform about1 = true :=
  (Spec.applies_iff w_frames).mpr ⟨w_running, w_runnable, w_alone, w_named, w_hears, w_ripe, w_room, w_tables⟩
theorem atStart : AtStart classFile x code maxLocals ret World_1 tables_1 room_1 Calls_1 rest_1 Pre_1 launch0 p0 e0 about1 theMethod args0 below0 :=
  ⟨lists_1, trivial, launch0.admits_env _ _ _, launch0.least_env, fairChoices_fair.cas, fairChoices_fair.clock, w_frames, w_args, w_heap, w_applies, trivial, w_rest, w_case⟩
end start1
theorem witness_1 : WitnessClaimed_1 := ⟨start1.p0, start1.e0, start1.about1, start1.theMethod, start1.args0, start1.below0, start1.atStart⟩
end Jvm.Pilot.@@N@@
