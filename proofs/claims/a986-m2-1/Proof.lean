import JvmDerived
import JvmDerived.Pilot.@@N@@Statement
import JvmDerived.Pilot.@@N@@Code
set_option linter.unusedVariables false
set_option linter.unusedSimpArgs false
namespace Jvm.RoadKit
open Sem ClassFile Op Lib Jvm.Stand Jvm.Free Jvm.LawKit
section New
variable {p : Program} {l : Launch} {e : Env} {R : Room} {s : State} {m : MethodId} {args : Array Value} {below : List Frame} {meth : Method} {c : Code} {T : State} {locs : List Loc} {cells slots : Nat}
theorem retI (X : Stand p l e R s m args below meth c T locs cells slots) (hx : p.tables.exec = Jvm.exec) {pc : Nat} {Ls : Array Slot} {z : Int32} {rest : List Value} (hret : meth.sig.returnType = some .int) (hd : decode c.code pc = .ok (.ireturn, 1)) {fs : List Frame}
    (hl : ∀ (f : JFrame) (acts : List Action), f.method = m → f.locked = none → f.entered = [] → (doReturn e (T.setTop f) acts (some (.int z))).1 = T.setFrames fs) : Steps p.tables e below (T.setTop (mkF m pc Ls (.int z :: rest))) (T.setFrames fs) := by
  have hm' : T.vm.method? m = some meth := X.method'
  have hn : narrow .int (.int z) = .int z := rfl
  show Steps p.tables e below (T.setTop { method := m, pc := pc, locals := Ls, stack := _ :: rest, locked := none }) _
  jvm_step X.here [X.here.top, hx, hd, hm', hret, hn]
  first | (intro acts; rw [hl _ acts rfl rfl rfl]) | rw [hl _ _ rfl rfl rfl]
  exact Steps.refl _
end New
end Jvm.RoadKit
namespace Jvm.Pilot.@@N@@
open Jvm Jvm.ClassFile Sem Op Lib Jvm.Free Jvm.Stand Jvm.LawKit Jvm.RoadKit Bundle Jvm.Pilot.@@N@@.Jvm.D
section Own
variable {p : Program} {l : Launch} {e : Env} {R : Room} {s : State} {m : MethodId} {args : Array Value} {below : List Frame} {meth : Method} {c : Code} {T : State} {locs : List Loc} {cells slots : Nat}
theorem own_retL (X : Stand p l e R s m args below meth c T locs cells slots) (hx : p.tables.exec = Jvm.exec) {pc : Nat} {Ls : Array Slot} {z : Int64} {rest : List Value} (hret : meth.sig.returnType = some .long) (hd : decode c.code pc = .ok (.lreturn, 1)) {fs : List Frame}
    (hl : ∀ (f : JFrame) (acts : List Action), f.method = m → f.locked = none → f.entered = [] → (doReturn e (T.setTop f) acts (some (.long z))).1 = T.setFrames fs) : Steps p.tables e below (T.setTop (mkF m pc Ls (.long z :: rest))) (T.setFrames fs) := by
  have hm' : T.vm.method? m = some meth := X.method'
  have hn : narrow .long (.long z) = .long z := rfl
  show Steps p.tables e below (T.setTop { method := m, pc := pc, locals := Ls, stack := _ :: rest, locked := none }) _
  jvm_step X.here [X.here.top, hx, hd, hm', hret, hn]
  first | (intro acts; rw [hl _ acts rfl rfl rfl]) | rw [hl _ _ rfl rfl rfl]
  exact Steps.refl _
theorem own_retA (X : Stand p l e R s m args below meth c T locs cells slots) (hx : p.tables.exec = Jvm.exec) {pc : Nat} {Ls : Array Slot} {v : Value} {t : FieldType} {rest : List Value} (hret : meth.sig.returnType = some t) (ht : t.isReference = true) (hv : v.isRef = true) (hd : decode c.code pc = .ok (.areturn, 1)) {fs : List Frame}
    (hl : ∀ (f : JFrame) (acts : List Action), f.method = m → f.locked = none → f.entered = [] → (doReturn e (T.setTop f) acts (some v)).1 = T.setFrames fs) : Steps p.tables e below (T.setTop (mkF m pc Ls (v :: rest))) (T.setFrames fs) := by
  have hm' : T.vm.method? m = some meth := X.method'
  show Steps p.tables e below (T.setTop { method := m, pc := pc, locals := Ls, stack := _ :: rest, locked := none }) _
  jvm_step X.here [X.here.top, hx, hd, hm', hret, hv, ht]
  first | (intro acts; rw [hl _ acts rfl rfl rfl]) | rw [hl _ _ rfl rfl rfl]
  exact Steps.refl _
def OGo (p : Program) (e : Env) (below : List Frame) (P : State → Outcome → Prop) (S : State) : Prop := ∃ s₂ o, Steps p.tables e below S s₂ ∧ s₂.status = .running ∧ Ended s₂ below o ∧ P s₂ o
theorem OGo.to {P : State → Outcome → Prop} {S S' : State} (h : ∀ t, Steps p.tables e below S' t → Steps p.tables e below S t) (g : OGo p e below P S') : OGo p e below P S := by
  obtain ⟨s₂, o, h1, r⟩ := g
  exact ⟨s₂, o, h _ h1, r⟩
theorem OGo.ret {Q : Option Value → Heap → List Loc → Prop} (X : Stand p l e R s m args below meth c T locs cells slots) {g : JFrame} (v : Option Value) (hv : meth.sig.returnType = none → v = none) (hlocks : meth.locks = false)
    (st : ∀ fs : List Frame, (∀ (f : JFrame) (acts : List Action), f.method = m → f.locked = none → f.entered = [] → (doReturn e (T.setTop f) acts v).1 = T.setFrames fs) → Steps p.tables e below (T.setTop g) (T.setFrames fs)) (hq : Q v T.heap locs) {rc rs : Nat} (h1 : cells ≤ rc) (h2 : slots ≤ rs) :
    OGo p e below (fun s₂ o => ∃ v L, o = .returned v ∧ Q v s₂.heap L ∧ FrameEnd s o s₂ L rc rs) (T.setTop g) := by
  obtain ⟨fs, hr, hrun, hended, hW, hsame⟩ := X.leave (v := v) hv hlocks
  exact ⟨_, _, st fs hr, hrun, hended, _, _, rfl, hq, ⟨_, rfl⟩, hW, hsame.mono h1 h2⟩
theorem own_selP {Z : State} {a0 : Array Value} (hZ : Z.Warmed39 s.vm) {y : MethodName} {n : Nat} (wi : (Jvm.Cond.instantiable y.cls n).before a0 Z = true) (wp : (Jvm.Cond.privateMethod y).before a0 Z = true) (wm : (Jvm.Cond.instanceMethod y).before a0 Z = true) (hy : y.cls ≠ "java/lang/invoke/MethodHandle" ∧ y.cls ≠ "java/lang/invoke/VarHandle") : (Jvm.Cond.selects y.cls y y).before args s = true := by
  obtain ⟨c, k, h1, h2, -, h3, -⟩ := Cond.instantiable_spec (mvT (args := args) hZ wi)
  exact selects_self_of_private h1 h2 ((Bool.or_eq_false_iff.mp h3).1) (Cond.privateMethod_at (mvP hZ wp (args := args))) (mvT hZ wm) hy
end Own
theorem own_nn (q : Int64) : ¬ (q &&& (9223372036854775807 : Int64)) < 0 := by
  have h := c_maskL q (9223372036854775807 : Int64) 63 (by decide) (by decide)
  rw [Int64.lt_iff_toInt_lt]
  have : (0 : Int64).toInt = 0 := rfl
  omega
theorem pd_0 : parseMethodDescriptor "()V" = some ⟨[], none⟩ := by decide +kernel
theorem pd_1 : parseMethodDescriptor "()J" = some ⟨[], some .long⟩ := by decide +kernel
theorem pd_2 : parseMethodDescriptor "(J)V" = some ⟨[.long], none⟩ := by decide +kernel
theorem pn_0 : plainName "com/example/lahetti/lahetti/client/OrderlyContext" = true := by first | (simp [plainName, overriddenIn]; done) | decide +kernel
theorem pn_1 : plainName "com/example/lahetti/lahetti/client/OrderlyContextSetSuspendMillisPinLaw" = true := by first | (simp [plainName, overriddenIn]; done) | decide +kernel
theorem d1_0 : decode prog_14_method_1_code 0 = .ok (.aload_n 0, 1) := by decide +kernel
theorem d1_1 : decode prog_14_method_1_code 1 = .ok (.invokespecial 1, 3) := by decide +kernel
theorem d1_4 : decode prog_14_method_1_code 4 = .ok (.aload_n 0, 1) := by decide +kernel
theorem d1_5 : decode prog_14_method_1_code 5 = .ok (.ldc2_w 9, 3) := by decide +kernel
theorem d1_8 : decode prog_14_method_1_code 8 = .ok (.putfield 11, 3) := by decide +kernel
theorem d1_11 : decode prog_14_method_1_code 11 = .ok (.return_, 1) := by decide +kernel
theorem ef_1 (m : MethodId) (x0 : Addr) : entryFrame m #[(.ref x0)] 1 = mkF m 0 #[.val (.ref x0)] [] := by first | (simp [entryFrame, mkF, argsToLocals, Value.category]; done) | rfl
def Q1 (Z : State) (a1 : Addr) (u1 : Value) (h0 : Heap) (n0 : Nat) (v : Option Value) (h : Heap) (L : List Loc) : Prop := v = none ∧ Fr n0 L ∧ Keep h0 h [a1] ∧ Fld Z h a1 "com/example/lahetti/lahetti/client/OrderlyContext" "suspendMillis" "J" (.long (1000 : Int64))
set_option maxRecDepth 65536 in
set_option maxHeartbeats 40000000 in
theorem rm1 (l : Launch) (Z : State) (a0 : Array Value) (hw : ∀ d ∈ tables_1, d.before a0 Z = true) (ws : List Jvm.Cond) (a1 : Addr) (u1 : Value) (h0 : Heap) (n0 : Nat) (Z0 : n0 ≤ h0.size) (E1 : Exa Z h0 a1 "com/example/lahetti/lahetti/client/OrderlyContext") (F1 : Fld Z h0 a1 "com/example/lahetti/lahetti/client/OrderlyContext" "suspendMillis" "J" u1) (g1 : n0 ≤ a1) :
    MetFree l (⟨"com/example/lahetti/lahetti/client/OrderlyContext", "<init>", "()V"⟩ : MethodName) (head1 (Jvm.Cond.code (⟨"com/example/lahetti/lahetti/client/OrderlyContext", "<init>", "()V"⟩ : MethodName) prog_14_method_1_code 1 none :: ws) ({ frames := 1, cells := 0, slots := 0, locals := 12 } : Room)) (fun a U => a = #[(.ref a1)] ∧ Z.Warmed39 U.vm ∧ U.heap = h0) (fun _ _ _ _ _ => True) (fun _ U o U' => ∃ v L, o = .returned v ∧ Q1 Z a1 u1 h0 n0 v U'.heap L ∧ FrameEnd U o U' L ({ frames := 1, cells := 0, slots := 0, locals := 12 } : Room).cells ({ frames := 1, cells := 0, slots := 0, locals := 12 } : Room).slots) := by
  refine MetFree.of_bodySF (plainFor_of_name pn_0) hisR ?_
  intro p e s m args below meth c s₁ Bd hml0 hP hK
  obtain ⟨rfl, hZ, hh⟩ := hP
  have hx := Bd.exec
  have hby := Bd.bytes
  have hml : c.maxLocals = 1 := hml0
  have hown : s.vm.findClass "com/example/lahetti/lahetti/client/OrderlyContext" = some m.cls := findClass_of_methodNamed Bd.named
  have hnm := (name_of_methodNamed Bd.named Bd.method).1
  have X0 : Stand p l e ({ frames := 1, cells := 0, slots := 0, locals := 12 } : Room) s m #[(.ref a1)] below meth c s₁ [] 0 0 := Stand.of_body Bd
  have e0 : s₁.heap = h0 := by rw [← hh, Bd.state]; rfl
  have N0 := Fr.nil n0
  show OGo p e below (fun s₂ o => ∃ v L, o = .returned v ∧ Q1 Z a1 u1 h0 n0 v s₂.heap L ∧ FrameEnd s o s₂ L ({ frames := 1, cells := 0, slots := 0, locals := 12 } : Room).cells ({ frames := 1, cells := 0, slots := 0, locals := 12 } : Room).slots) _
  refine OGo.to (fun _ k => castTop (ef_1 m a1) k) ?_
  refine OGo.to (fun _ k => XS.aloadN X0.here hx rfl (hb hby d1_0) rfl rfl k) ?_
  show OGo p e below _ (s₁.setTop (mkF m 1 #[.val (.ref a1)] [(.ref a1)]))
  obtain ⟨T1, X1, e1, st1⟩ := initO X0 hx hZ hown (hw _ (List.mem_of_getElem? (i := 6) rfl)) (hw _ (List.mem_of_getElem? (i := 7) rfl)) (hw _ (List.mem_of_getElem? (i := 8) rfl)) e0 (g := (mkF m 1 #[.val (.ref a1)] [(.ref a1)])) rfl (by rw [hml]; rfl) rfl (hb hby d1_1) (by decide) (W := 0) (by show 2 * 0 + _ ≤ _; exact Nat.le_of_eq rfl) (by decide)
  refine OGo.to st1 ?_
  show OGo p e below _ (T1.setTop (mkF m 4 #[.val (.ref a1)] []))
  refine OGo.to (fun _ k => XS.aloadN X1.here hx rfl (hb hby d1_4) rfl rfl k) ?_
  show OGo p e below _ (T1.setTop (mkF m 5 #[.val (.ref a1)] [(.ref a1)]))
  refine OGo.to (fun _ k => X1.ldc2Long hx hown (mvT hZ (hw _ (List.mem_of_getElem? (i := 9) rfl))) (g := (mkF m 5 #[.val (.ref a1)] [(.ref a1)])) rfl (hb hby d1_5) _ k) ?_
  show OGo p e below _ (T1.setTop (mkF m 8 #[.val (.ref a1)] [(.long (1000 : Int64)), (.ref a1)]))
  obtain ⟨T2, h2, X2, e2, W2, st2⟩ := putF X1 hx hZ hown (host := "") (Or.inl (hw _ (List.mem_of_getElem? (i := 10) rfl))) Via.refl e1 F1 E1 (Or.inl (hw _ (List.mem_of_getElem? (i := 11) rfl))) (hw _ (List.mem_of_getElem? (i := 1) rfl)) (ty := .long) (by decide) rfl rfl (g := (mkF m 8 #[.val (.ref a1)] [(.long (1000 : Int64)), (.ref a1)])) rfl rfl (hb hby d1_8)
  refine OGo.to st2 ?_
  have Fw2 : Fld Z h2 a1 "com/example/lahetti/lahetti/client/OrderlyContext" "suspendMillis" "J" (.long (1000 : Int64)) := F1.same W2
  have N2 := Fr.snoc X2 N0 g1
  have z3 : n0 ≤ h2.size := Nat.le_trans Z0 (Keep.of_wr W2).1
  have K4 : Keep h0 h2 [a1] := (Keep.refl h0 [a1]).wr W2 (Or.inl (List.mem_of_getElem? (i := 0) rfl))
  show OGo p e below _ (T2.setTop (mkF m 11 #[.val (.ref a1)] []))
  refine OGo.ret (Q := Q1 Z a1 u1 h0 n0) X2 none (fun _ => rfl) Bd.notSynchronized (fun fs hr => X2.returnOut hx Bd.returns (hb hby d1_11) hr) ?_ (by decide) (by decide)
  show Q1 Z a1 u1 h0 n0 _ T2.heap _
  rw [e2]
  exact ⟨rfl, N2, K4, Fw2⟩
theorem d3_0 : decode prog_14_method_2_code 0 = .ok (.aload_n 0, 1) := by decide +kernel
theorem d3_1 : decode prog_14_method_2_code 1 = .ok (.getfield 11, 3) := by decide +kernel
theorem d3_4 : decode prog_14_method_2_code 4 = .ok (.lreturn, 1) := by decide +kernel
theorem ef_3 (m : MethodId) (x0 : Addr) : entryFrame m #[(.ref x0)] 1 = mkF m 0 #[.val (.ref x0)] [] := by first | (simp [entryFrame, mkF, argsToLocals, Value.category]; done) | rfl
def Q3 (Z : State) (a1 : Addr) (w1 : Int64) (h0 : Heap) (n0 : Nat) (v : Option Value) (h : Heap) (L : List Loc) : Prop := v = some (.long w1) ∧ Fr n0 L ∧ h = h0
set_option maxRecDepth 65536 in
set_option maxHeartbeats 40000000 in
theorem rm3 (l : Launch) (Z : State) (a0 : Array Value) (hw : ∀ d ∈ tables_1, d.before a0 Z = true) (ws : List Jvm.Cond) (a1 : Addr) (w1 : Int64) (h0 : Heap) (n0 : Nat) (Z0 : n0 ≤ h0.size) (F1 : Fld Z h0 a1 "com/example/lahetti/lahetti/client/OrderlyContext" "suspendMillis" "J" (.long w1)) :
    MetFree l (⟨"com/example/lahetti/lahetti/client/OrderlyContext", "getSuspendMillis", "()J"⟩ : MethodName) (head1 (Jvm.Cond.code (⟨"com/example/lahetti/lahetti/client/OrderlyContext", "getSuspendMillis", "()J"⟩ : MethodName) prog_14_method_2_code 1 (some .long) :: ws) ({ frames := 0, cells := 0, slots := 0, locals := 0 } : Room)) (fun a U => a = #[(.ref a1)] ∧ Z.Warmed39 U.vm ∧ U.heap = h0) (fun _ _ _ _ _ => True) (fun _ U o U' => ∃ v L, o = .returned v ∧ Q3 Z a1 w1 h0 n0 v U'.heap L ∧ FrameEnd U o U' L ({ frames := 0, cells := 0, slots := 0, locals := 0 } : Room).cells ({ frames := 0, cells := 0, slots := 0, locals := 0 } : Room).slots) := by
  refine MetFree.of_bodySF (plainFor_of_name pn_0) hisR ?_
  intro p e s m args below meth c s₁ Bd hml0 hP hK
  obtain ⟨rfl, hZ, hh⟩ := hP
  have hx := Bd.exec
  have hby := Bd.bytes
  have hml : c.maxLocals = 1 := hml0
  have hown : s.vm.findClass "com/example/lahetti/lahetti/client/OrderlyContext" = some m.cls := findClass_of_methodNamed Bd.named
  have hnm := (name_of_methodNamed Bd.named Bd.method).1
  have X0 : Stand p l e ({ frames := 0, cells := 0, slots := 0, locals := 0 } : Room) s m #[(.ref a1)] below meth c s₁ [] 0 0 := Stand.of_body Bd
  have e0 : s₁.heap = h0 := by rw [← hh, Bd.state]; rfl
  have N0 := Fr.nil n0
  show OGo p e below (fun s₂ o => ∃ v L, o = .returned v ∧ Q3 Z a1 w1 h0 n0 v s₂.heap L ∧ FrameEnd s o s₂ L ({ frames := 0, cells := 0, slots := 0, locals := 0 } : Room).cells ({ frames := 0, cells := 0, slots := 0, locals := 0 } : Room).slots) _
  refine OGo.to (fun _ k => castTop (ef_3 m a1) k) ?_
  refine OGo.to (fun _ k => XS.aloadN X0.here hx rfl (hb hby d3_0) rfl rfl k) ?_
  show OGo p e below _ (s₁.setTop (mkF m 1 #[.val (.ref a1)] [(.ref a1)]))
  obtain ⟨T1, X1, e1, st1⟩ := getF X0 hx hZ hown (host := "") (Or.inl (hw _ (List.mem_of_getElem? (i := 10) rfl))) Via.refl e0 F1 (g := (mkF m 1 #[.val (.ref a1)] [(.ref a1)])) rfl rfl (hb hby d3_1)
  refine OGo.to st1 ?_
  show OGo p e below _ (T1.setTop (mkF m 4 #[.val (.ref a1)] [(.long w1)]))
  refine OGo.ret (Q := Q3 Z a1 w1 h0 n0) X1 (some (.long w1)) (fun h => by rw [Bd.returns] at h; cases h) Bd.notSynchronized (fun fs hr => own_retL X1 hx Bd.returns (hb hby d3_4) hr) ?_ (by decide) (by decide)
  show Q3 Z a1 w1 h0 n0 _ T1.heap _
  rw [e1]
  exact ⟨rfl, N0, rfl⟩
theorem d4_0 : decode prog_14_method_3_code 0 = .ok (.lload_n 1, 1) := by decide +kernel
theorem d4_1 : decode prog_14_method_3_code 1 = .ok (.lconst 0, 1) := by decide +kernel
theorem d4_2 : decode prog_14_method_3_code 2 = .ok (.lcmp, 1) := by decide +kernel
theorem d4_3 : decode prog_14_method_3_code 3 = .ok (.ifCond .ge 17, 3) := by decide +kernel
theorem d4_20 : decode prog_14_method_3_code 20 = .ok (.aload_n 0, 1) := by decide +kernel
theorem d4_21 : decode prog_14_method_3_code 21 = .ok (.lload_n 1, 1) := by decide +kernel
theorem d4_22 : decode prog_14_method_3_code 22 = .ok (.putfield 11, 3) := by decide +kernel
theorem d4_25 : decode prog_14_method_3_code 25 = .ok (.return_, 1) := by decide +kernel
theorem ef_4 (m : MethodId) (x0 : Addr) (x1 : Int64) : entryFrame m #[(.ref x0), (.long x1)] 3 = mkF m 0 #[.val (.ref x0), .val (.long x1), .second] [] := by first | (simp [entryFrame, mkF, argsToLocals, Value.category]; done) | rfl
def Q4 (Z : State) (a1 : Addr) (q1 : Int64) (u1 : Value) (h0 : Heap) (n0 : Nat) (v : Option Value) (h : Heap) (L : List Loc) : Prop := v = none ∧ Fr n0 L ∧ Keep h0 h [a1] ∧ Fld Z h a1 "com/example/lahetti/lahetti/client/OrderlyContext" "suspendMillis" "J" (.long q1)
set_option maxRecDepth 65536 in
set_option maxHeartbeats 40000000 in
theorem rm4 (l : Launch) (Z : State) (a0 : Array Value) (hw : ∀ d ∈ tables_1, d.before a0 Z = true) (ws : List Jvm.Cond) (a1 : Addr) (q1 : Int64) (u1 : Value) (h0 : Heap) (n0 : Nat) (Z0 : n0 ≤ h0.size) (E1 : Exa Z h0 a1 "com/example/lahetti/lahetti/client/OrderlyContext") (F1 : Fld Z h0 a1 "com/example/lahetti/lahetti/client/OrderlyContext" "suspendMillis" "J" u1) (g1 : n0 ≤ a1) (hq : ¬ (q1 < (0 : Int64))) :
    MetFree l (⟨"com/example/lahetti/lahetti/client/OrderlyContext", "setSuspendMillis", "(J)V"⟩ : MethodName) (head1 (Jvm.Cond.code (⟨"com/example/lahetti/lahetti/client/OrderlyContext", "setSuspendMillis", "(J)V"⟩ : MethodName) prog_14_method_3_code 3 none :: ws) ({ frames := 0, cells := 0, slots := 0, locals := 0 } : Room)) (fun a U => a = #[(.ref a1), (.long q1)] ∧ Z.Warmed39 U.vm ∧ U.heap = h0) (fun _ _ _ _ _ => True) (fun _ U o U' => ∃ v L, o = .returned v ∧ Q4 Z a1 q1 u1 h0 n0 v U'.heap L ∧ FrameEnd U o U' L ({ frames := 0, cells := 0, slots := 0, locals := 0 } : Room).cells ({ frames := 0, cells := 0, slots := 0, locals := 0 } : Room).slots) := by
  refine MetFree.of_bodySF (plainFor_of_name pn_0) hisR ?_
  intro p e s m args below meth c s₁ Bd hml0 hP hK
  obtain ⟨rfl, hZ, hh⟩ := hP
  have hx := Bd.exec
  have hby := Bd.bytes
  have hml : c.maxLocals = 3 := hml0
  have hown : s.vm.findClass "com/example/lahetti/lahetti/client/OrderlyContext" = some m.cls := findClass_of_methodNamed Bd.named
  have hnm := (name_of_methodNamed Bd.named Bd.method).1
  have X0 : Stand p l e ({ frames := 0, cells := 0, slots := 0, locals := 0 } : Room) s m #[(.ref a1), (.long q1)] below meth c s₁ [] 0 0 := Stand.of_body Bd
  have e0 : s₁.heap = h0 := by rw [← hh, Bd.state]; rfl
  have N0 := Fr.nil n0
  show OGo p e below (fun s₂ o => ∃ v L, o = .returned v ∧ Q4 Z a1 q1 u1 h0 n0 v s₂.heap L ∧ FrameEnd s o s₂ L ({ frames := 0, cells := 0, slots := 0, locals := 0 } : Room).cells ({ frames := 0, cells := 0, slots := 0, locals := 0 } : Room).slots) _
  refine OGo.to (fun _ k => castTop (ef_4 m a1 q1) k) ?_
  refine OGo.to (fun _ k => XS.lloadN X0.here hx rfl (hb hby d4_0) rfl k) ?_
  show OGo p e below _ (s₁.setTop (mkF m 1 #[.val (.ref a1), .val (.long q1), .second] [(.long q1)]))
  refine OGo.to (fun _ k => XS.lconst X0.here hx rfl (hb hby d4_1) k) ?_
  show OGo p e below _ (s₁.setTop (mkF m 2 #[.val (.ref a1), .val (.long q1), .second] [(.long (0 : Int64)), (.long q1)]))
  refine OGo.to (fun _ k => XS.lcmp X0.here hx rfl (hb hby d4_2) rfl k) ?_
  show OGo p e below _ (s₁.setTop (mkF m 3 #[.val (.ref a1), .val (.long q1), .second] [(.int (lcmpW q1 (0 : Int64)))]))
  have hc3_1 : ¬ (q1 < (0 : Int64)) := hq
  refine OGo.to (fun _ k => XS.ifYes X0.here hx rfl (pc0 := 3) (pc' := 20) rfl (hb hby d4_3) rfl ((if0 _ _).trans (flt (mt (lw_lt q1 (0 : Int64)).mp hc3_1)).2.1) (by decide) (by decide) k) ?_
  show OGo p e below _ (s₁.setTop (mkF m 20 #[.val (.ref a1), .val (.long q1), .second] []))
  refine OGo.to (fun _ k => XS.aloadN X0.here hx rfl (hb hby d4_20) rfl rfl k) ?_
  show OGo p e below _ (s₁.setTop (mkF m 21 #[.val (.ref a1), .val (.long q1), .second] [(.ref a1)]))
  refine OGo.to (fun _ k => XS.lloadN X0.here hx rfl (hb hby d4_21) rfl k) ?_
  show OGo p e below _ (s₁.setTop (mkF m 22 #[.val (.ref a1), .val (.long q1), .second] [(.long q1), (.ref a1)]))
  obtain ⟨T2, h2, X2, e2, W2, st2⟩ := putF X0 hx hZ hown (host := "") (Or.inl (hw _ (List.mem_of_getElem? (i := 10) rfl))) Via.refl e0 F1 E1 (Or.inl (hw _ (List.mem_of_getElem? (i := 11) rfl))) (hw _ (List.mem_of_getElem? (i := 1) rfl)) (ty := .long) (by decide) rfl rfl (g := (mkF m 22 #[.val (.ref a1), .val (.long q1), .second] [(.long q1), (.ref a1)])) rfl rfl (hb hby d4_22)
  refine OGo.to st2 ?_
  have Fw2 : Fld Z h2 a1 "com/example/lahetti/lahetti/client/OrderlyContext" "suspendMillis" "J" (.long q1) := F1.same W2
  have N2 := Fr.snoc X2 N0 g1
  have z3 : n0 ≤ h2.size := Nat.le_trans Z0 (Keep.of_wr W2).1
  have K4 : Keep h0 h2 [a1] := (Keep.refl h0 [a1]).wr W2 (Or.inl (List.mem_of_getElem? (i := 0) rfl))
  show OGo p e below _ (T2.setTop (mkF m 25 #[.val (.ref a1), .val (.long q1), .second] []))
  refine OGo.ret (Q := Q4 Z a1 q1 u1 h0 n0) X2 none (fun _ => rfl) Bd.notSynchronized (fun fs hr => X2.returnOut hx Bd.returns (hb hby d4_25) hr) ?_ (by decide) (by decide)
  show Q4 Z a1 q1 u1 h0 n0 _ T2.heap _
  rw [e2]
  exact ⟨rfl, N2, K4, Fw2⟩
theorem ef_0 (m : MethodId) (x0 : Int64) (x1 : Int64) : entryFrame m #[(.long x0), (.long x1)] maxLocals = mkF m 0 #[.val (.long x0), .second, .val (.long x1), .second, .unset, .unset, .unset, .unset, .unset, .unset] [] := by first | (simp [entryFrame, mkF, argsToLocals, Value.category, maxLocals]; done) | rfl
def Q0 (Z : State) (q1 : Int64) (q2 : Int64) (h0 : Heap) (n0 : Nat) (v : Option Value) (h : Heap) (L : List Loc) : Prop := v = some (.int (1 : Int32)) ∧ Fr n0 L
set_option maxRecDepth 65536 in
set_option maxHeartbeats 40000000 in
theorem rm0 (l : Launch) (Z : State) (a0 : Array Value) (hw : ∀ d ∈ tables_1, d.before a0 Z = true) (ws : List Jvm.Cond) (q1 : Int64) (q2 : Int64) (h0 : Heap) (n0 : Nat) (Z0 : n0 ≤ h0.size) :
    MetFree l x (head1 (Jvm.Cond.code x code maxLocals ret :: ws) room_1) (fun a U => a = #[(.long q1), (.long q2)] ∧ Z.Warmed39 U.vm ∧ U.heap = h0) (fun _ _ _ _ _ => True) (fun _ U o U' => ∃ v L, o = .returned v ∧ Q0 Z q1 q2 h0 n0 v U'.heap L ∧ FrameEnd U o U' L room_1.cells room_1.slots) := by
  refine MetFree.of_bodySF (plainFor_of_name pn_1) hisR ?_
  intro p e s m args below meth c s₁ Bd hml0 hP hK
  obtain ⟨rfl, hZ, hh⟩ := hP
  have hx := Bd.exec
  have hby := Bd.bytes
  have hml : c.maxLocals = 10 := hml0
  have hown : s.vm.findClass "com/example/lahetti/lahetti/client/OrderlyContextSetSuspendMillisPinLaw" = some m.cls := findClass_of_methodNamed Bd.named
  have hnm := (name_of_methodNamed Bd.named Bd.method).1
  have X0 : Stand p l e room_1 s m #[(.long q1), (.long q2)] below meth c s₁ [] 0 0 := Stand.of_body Bd
  have e0 : s₁.heap = h0 := by rw [← hh, Bd.state]; rfl
  have N0 := Fr.nil n0
  show OGo p e below (fun s₂ o => ∃ v L, o = .returned v ∧ Q0 Z q1 q2 h0 n0 v s₂.heap L ∧ FrameEnd s o s₂ L room_1.cells room_1.slots) _
  refine OGo.to (fun _ k => castTop (ef_0 m q1 q2) k) ?_
  obtain ⟨T1, h1, X1, e1, E1, A1, D1, -, st1⟩ := newO X0 hx hZ hown (hw _ (List.mem_of_getElem? (i := 0) rfl)) (hw _ (List.mem_of_getElem? (i := 1) rfl)) (hw _ (List.mem_of_getElem? (i := 2) rfl)) e0 (g := (mkF m 0 #[.val (.long q1), .second, .val (.long q2), .second, .unset, .unset, .unset, .unset, .unset, .unset] [])) rfl (hb hby at_0) (by decide) (by decide)
  obtain ⟨b1, g1⟩ : ∃ z, z = h0.size := ⟨_, rfl⟩
  rw [← g1] at A1 D1 st1
  have g_b1 : n0 ≤ b1 := Nat.le_trans Z0 (Nat.le_of_eq g1.symm)
  refine OGo.to st1 ?_
  have z2 : n0 ≤ h1.size := Nat.le_trans Z0 E1.1
  have F_suspendMillis_b1 : Fld Z h1 b1 "com/example/lahetti/lahetti/client/OrderlyContext" "suspendMillis" "J" (.long (0 : Int64)) := D1 (Or.inl (hw _ (List.mem_of_getElem? (i := 11) rfl))) (ty := .long) (by decide)
  show OGo p e below _ (T1.setTop (mkF m 3 #[.val (.long q1), .second, .val (.long q2), .second, .unset, .unset, .unset, .unset, .unset, .unset] [(.ref b1)]))
  refine OGo.to (fun _ k => XS.dup X1.here hx rfl (hb hby at_3) rfl rfl k) ?_
  show OGo p e below _ (T1.setTop (mkF m 4 #[.val (.long q1), .second, .val (.long q2), .second, .unset, .unset, .unset, .unset, .unset, .unset] [(.ref b1), (.ref b1)]))
  obtain ⟨_, _, ⟨T3, L3, k3, n3⟩, -, X3, ⟨Lc3, hQ3, l3, y3, z3⟩, st3⟩ := X1.specialBack hx (y := (⟨"com/example/lahetti/lahetti/client/OrderlyContext", "<init>", "()V"⟩ : MethodName)) rfl hown (mvT hZ (hw _ (List.mem_of_getElem? (i := 3) rfl))) (mvT hZ (hw _ (List.mem_of_getElem? (i := 4) rfl))) (mvT hZ (hw _ (List.mem_of_getElem? (i := 5) rfl))) (by decide) (backOf (W := 1) (rm1 l Z a0 hw [] b1 (.long (0 : Int64)) h1 n0 z2 A1 F_suspendMillis_b1 g_b1) hZ (hw _ (List.mem_of_getElem? (i := 5) rfl)) (hw _ (List.mem_of_getElem? (i := 2) rfl)) (by decide) (by decide)) (g := (mkF m 4 #[.val (.long q1), .second, .val (.long q2), .second, .unset, .unset, .unset, .unset, .unset, .unset] [(.ref b1), (.ref b1)])) rfl (by rw [hml]; rfl) (Steps.refl _) (a := b1) (argsL := []) (rest := [(.ref b1)]) (lenOf pd_0 rfl) rfl (by show 2 * 0 + _ ≤ _; exact Nat.le_of_eq rfl) (hb hby at_4) (fun _ _ => ⟨rfl, e1, (by decide : 1 + 0 ≤ _), (by decide : 1 + 0 ≤ _)⟩)
  dsimp only [Pt.U, Pt.locs, Pt.cells, Pt.slots] at X3 l3 y3 z3 st3 hQ3
  subst l3 y3 z3
  obtain ⟨rfl, N3q, K3, p3_0⟩ := hQ3
  have N3 := Fr.app N0 N3q
  refine OGo.to (fun _ k => st3.trans k) ?_
  have z4 : n0 ≤ T3.heap.size := Nat.le_trans z2 K3.1
  show OGo p e below _ (T3.setTop (mkF m 7 #[.val (.long q1), .second, .val (.long q2), .second, .unset, .unset, .unset, .unset, .unset, .unset] [(.ref b1)]))
  refine OGo.to (fun _ k => XS.astore X3.here hx rfl (hb hby at_7) rfl rfl (l' := #[.val (.long q1), .second, .val (.long q2), .second, .val (.ref b1), .unset, .unset, .unset, .unset, .unset]) rfl k) ?_
  show OGo p e below _ (T3.setTop (mkF m 9 #[.val (.long q1), .second, .val (.long q2), .second, .val (.ref b1), .unset, .unset, .unset, .unset, .unset] []))
  refine OGo.to (fun _ k => XS.aload X3.here hx rfl (hb hby at_9) rfl rfl k) ?_
  show OGo p e below _ (T3.setTop (mkF m 11 #[.val (.long q1), .second, .val (.long q2), .second, .val (.ref b1), .unset, .unset, .unset, .unset, .unset] [(.ref b1)]))
  have f6 : Exa Z T3.heap b1 "com/example/lahetti/lahetti/client/OrderlyContext" := (A1.keep K3)
  obtain ⟨cq5, kq5, q5a, q5b, q5c⟩ := isOf hZ (rfl : T3.heap = T3.heap) f6
  obtain ⟨_, _, ⟨T5, L5, k5, n5⟩, -, X5, ⟨Lc5, hQ5, l5, y5, z5⟩, st5⟩ := X3.virtualBack hx (y := (⟨"com/example/lahetti/lahetti/client/OrderlyContext", "getSuspendMillis", "()J"⟩ : MethodName)) (z := (⟨"com/example/lahetti/lahetti/client/OrderlyContext", "getSuspendMillis", "()J"⟩ : MethodName)) hown (mvT hZ (hw _ (List.mem_of_getElem? (i := 12) rfl))) (mvT hZ (hw _ (List.mem_of_getElem? (i := 13) rfl))) (notFace_of_selects (args := #[]) (mvT hZ (hw _ (List.mem_of_getElem? (i := 15) rfl)))) (mvT hZ (hw _ (List.mem_of_getElem? (i := 15) rfl))) (mvT hZ (hw _ (List.mem_of_getElem? (i := 14) rfl))) (by decide) (backOf (W := 0) (rm3 l Z a0 hw [] b1 (1000 : Int64) T3.heap n0 z4 p3_0) hZ (hw _ (List.mem_of_getElem? (i := 16) rfl)) (hw _ (List.mem_of_getElem? (i := 2) rfl)) (by decide) (by decide)) q5a q5c (g := (mkF m 11 #[.val (.long q1), .second, .val (.long q2), .second, .val (.ref b1), .unset, .unset, .unset, .unset, .unset] [(.ref b1)])) rfl (by rw [hml]; rfl) (Steps.refl _) (argsL := []) (rest := []) (lenOf pd_1 rfl) rfl (by show 2 * 0 + _ ≤ _; exact Nat.le_of_eq rfl) (hb hby at_11) (fun _ _ => ⟨rfl, (rfl : T3.heap = T3.heap), (by decide : 1 + 0 ≤ _), (by decide : 1 + 0 ≤ _)⟩)
  dsimp only [Pt.U, Pt.locs, Pt.cells, Pt.slots] at X5 l5 y5 z5 st5 hQ5
  subst l5 y5 z5
  obtain ⟨rfl, N5q, e5⟩ := hQ5
  have N5 := Fr.app N3 N5q
  refine OGo.to (fun _ k => st5.trans k) ?_
  show OGo p e below _ (T5.setTop (mkF m 14 #[.val (.long q1), .second, .val (.long q2), .second, .val (.ref b1), .unset, .unset, .unset, .unset, .unset] [(.long (1000 : Int64))]))
  refine OGo.to (fun _ k => X5.ldc2Long hx hown (mvT hZ (hw _ (List.mem_of_getElem? (i := 17) rfl))) (g := (mkF m 14 #[.val (.long q1), .second, .val (.long q2), .second, .val (.ref b1), .unset, .unset, .unset, .unset, .unset] [(.long (1000 : Int64))])) rfl (hb hby at_14) _ k) ?_
  show OGo p e below _ (T5.setTop (mkF m 17 #[.val (.long q1), .second, .val (.long q2), .second, .val (.ref b1), .unset, .unset, .unset, .unset, .unset] [(.long (1000 : Int64)), (.long (1000 : Int64))]))
  refine OGo.to (fun _ k => XS.lcmp X5.here hx rfl (hb hby at_17) rfl k) ?_
  show OGo p e below _ (T5.setTop (mkF m 18 #[.val (.long q1), .second, .val (.long q2), .second, .val (.ref b1), .unset, .unset, .unset, .unset, .unset] [(.int (lcmpW (1000 : Int64) (1000 : Int64)))]))
  have hc18_7 : (1000 : Int64) = (1000 : Int64) := by decide
  refine OGo.to (fun _ k => XS.ifNo X5.here hx rfl (hb hby at_18) rfl ((if0 _ _).trans (teq ((lw_eq (1000 : Int64) (1000 : Int64)).mpr hc18_7)).2) k) ?_
  show OGo p e below _ (T5.setTop (mkF m 21 #[.val (.long q1), .second, .val (.long q2), .second, .val (.ref b1), .unset, .unset, .unset, .unset, .unset] []))
  refine OGo.to (fun _ k => XS.iconst X5.here hx rfl (hb hby at_21) k) ?_
  show OGo p e below _ (T5.setTop (mkF m 22 #[.val (.long q1), .second, .val (.long q2), .second, .val (.ref b1), .unset, .unset, .unset, .unset, .unset] [(.int (1 : Int32))]))
  refine OGo.to (fun _ k => XS.goto X5.here hx rfl (pc0 := 22) (pc' := 26) rfl (hb hby at_22) (by decide) (by decide) k) ?_
  show OGo p e below _ (T5.setTop (mkF m 26 #[.val (.long q1), .second, .val (.long q2), .second, .val (.ref b1), .unset, .unset, .unset, .unset, .unset] [(.int (1 : Int32))]))
  refine OGo.to (fun _ k => XS.istore X5.here hx rfl (hb hby at_26) rfl (l' := #[.val (.long q1), .second, .val (.long q2), .second, .val (.ref b1), .val (.int (1 : Int32)), .unset, .unset, .unset, .unset]) rfl k) ?_
  show OGo p e below _ (T5.setTop (mkF m 28 #[.val (.long q1), .second, .val (.long q2), .second, .val (.ref b1), .val (.int (1 : Int32)), .unset, .unset, .unset, .unset] []))
  refine OGo.to (fun _ k => XS.lloadN X5.here hx rfl (hb hby at_28) rfl k) ?_
  show OGo p e below _ (T5.setTop (mkF m 29 #[.val (.long q1), .second, .val (.long q2), .second, .val (.ref b1), .val (.int (1 : Int32)), .unset, .unset, .unset, .unset] [(.long q1)]))
  refine OGo.to (fun _ k => X5.ldc2Long hx hown (mvT hZ (hw _ (List.mem_of_getElem? (i := 18) rfl))) (g := (mkF m 29 #[.val (.long q1), .second, .val (.long q2), .second, .val (.ref b1), .val (.int (1 : Int32)), .unset, .unset, .unset, .unset] [(.long q1)])) rfl (hb hby at_29) _ k) ?_
  show OGo p e below _ (T5.setTop (mkF m 32 #[.val (.long q1), .second, .val (.long q2), .second, .val (.ref b1), .val (.int (1 : Int32)), .unset, .unset, .unset, .unset] [(.long (9223372036854775807 : Int64)), (.long q1)]))
  refine OGo.to (fun _ k => XS.land X5.here hx rfl (hb hby at_32) rfl k) ?_
  show OGo p e below _ (T5.setTop (mkF m 33 #[.val (.long q1), .second, .val (.long q2), .second, .val (.ref b1), .val (.int (1 : Int32)), .unset, .unset, .unset, .unset] [(.long (q1 &&& (9223372036854775807 : Int64)))]))
  obtain ⟨m1, hv_m1⟩ : ∃ z : Int64, z = (q1 &&& (9223372036854775807 : Int64)) := ⟨_, rfl⟩
  rw [← hv_m1]
  refine OGo.to (fun _ k => XS.lstore X5.here hx rfl (hb hby at_33) rfl (l' := #[.val (.long q1), .second, .val (.long q2), .second, .val (.ref b1), .val (.int (1 : Int32)), .val (.long m1), .second, .unset, .unset]) rfl k) ?_
  show OGo p e below _ (T5.setTop (mkF m 35 #[.val (.long q1), .second, .val (.long q2), .second, .val (.ref b1), .val (.int (1 : Int32)), .val (.long m1), .second, .unset, .unset] []))
  refine OGo.to (fun _ k => XS.lloadN X5.here hx rfl (hb hby at_35) rfl k) ?_
  show OGo p e below _ (T5.setTop (mkF m 36 #[.val (.long q1), .second, .val (.long q2), .second, .val (.ref b1), .val (.int (1 : Int32)), .val (.long m1), .second, .unset, .unset] [(.long q2)]))
  refine OGo.to (fun _ k => X5.ldc2Long hx hown (mvT hZ (hw _ (List.mem_of_getElem? (i := 18) rfl))) (g := (mkF m 36 #[.val (.long q1), .second, .val (.long q2), .second, .val (.ref b1), .val (.int (1 : Int32)), .val (.long m1), .second, .unset, .unset] [(.long q2)])) rfl (hb hby at_36) _ k) ?_
  show OGo p e below _ (T5.setTop (mkF m 39 #[.val (.long q1), .second, .val (.long q2), .second, .val (.ref b1), .val (.int (1 : Int32)), .val (.long m1), .second, .unset, .unset] [(.long (9223372036854775807 : Int64)), (.long q2)]))
  refine OGo.to (fun _ k => XS.land X5.here hx rfl (hb hby at_39) rfl k) ?_
  show OGo p e below _ (T5.setTop (mkF m 40 #[.val (.long q1), .second, .val (.long q2), .second, .val (.ref b1), .val (.int (1 : Int32)), .val (.long m1), .second, .unset, .unset] [(.long (q2 &&& (9223372036854775807 : Int64)))]))
  obtain ⟨m2, hv_m2⟩ : ∃ z : Int64, z = (q2 &&& (9223372036854775807 : Int64)) := ⟨_, rfl⟩
  rw [← hv_m2]
  refine OGo.to (fun _ k => XS.lstore X5.here hx rfl (hb hby at_40) rfl (l' := #[.val (.long q1), .second, .val (.long q2), .second, .val (.ref b1), .val (.int (1 : Int32)), .val (.long m1), .second, .val (.long m2), .second]) rfl k) ?_
  show OGo p e below _ (T5.setTop (mkF m 42 #[.val (.long q1), .second, .val (.long q2), .second, .val (.ref b1), .val (.int (1 : Int32)), .val (.long m1), .second, .val (.long m2), .second] []))
  refine OGo.to (fun _ k => XS.aload X5.here hx rfl (hb hby at_42) rfl rfl k) ?_
  show OGo p e below _ (T5.setTop (mkF m 44 #[.val (.long q1), .second, .val (.long q2), .second, .val (.ref b1), .val (.int (1 : Int32)), .val (.long m1), .second, .val (.long m2), .second] [(.ref b1)]))
  refine OGo.to (fun _ k => XS.lload X5.here hx rfl (hb hby at_44) rfl k) ?_
  show OGo p e below _ (T5.setTop (mkF m 46 #[.val (.long q1), .second, .val (.long q2), .second, .val (.ref b1), .val (.int (1 : Int32)), .val (.long m1), .second, .val (.long m2), .second] [(.long m1), (.ref b1)]))
  obtain ⟨cq8, kq8, q8a, q8b, q8c⟩ := isOf hZ e5 f6
  obtain ⟨_, _, ⟨T8, L8, k8, n8⟩, -, X8, ⟨Lc8, hQ8, l8, y8, z8⟩, st8⟩ := X5.virtualBack hx (y := (⟨"com/example/lahetti/lahetti/client/OrderlyContext", "setSuspendMillis", "(J)V"⟩ : MethodName)) (z := (⟨"com/example/lahetti/lahetti/client/OrderlyContext", "setSuspendMillis", "(J)V"⟩ : MethodName)) hown (mvT hZ (hw _ (List.mem_of_getElem? (i := 19) rfl))) (mvT hZ (hw _ (List.mem_of_getElem? (i := 20) rfl))) (notFace_of_selects (args := #[]) (mvT hZ (hw _ (List.mem_of_getElem? (i := 22) rfl)))) (mvT hZ (hw _ (List.mem_of_getElem? (i := 22) rfl))) (mvT hZ (hw _ (List.mem_of_getElem? (i := 21) rfl))) (by decide) (backOf (W := 0) (rm4 l Z a0 hw [] b1 m1 (.long (1000 : Int64)) T3.heap n0 z4 f6 p3_0 g_b1 (by rw [hv_m1]; exact own_nn q1)) hZ (hw _ (List.mem_of_getElem? (i := 23) rfl)) (hw _ (List.mem_of_getElem? (i := 2) rfl)) (by decide) (by decide)) q8a q8c (g := (mkF m 46 #[.val (.long q1), .second, .val (.long q2), .second, .val (.ref b1), .val (.int (1 : Int32)), .val (.long m1), .second, .val (.long m2), .second] [(.long m1), (.ref b1)])) rfl (by rw [hml]; rfl) (Steps.refl _) (argsL := [(.long m1)]) (rest := []) (lenOf pd_2 rfl) rfl (by show 2 * 0 + _ ≤ _; exact Nat.le_of_eq rfl) (hb hby at_46) (fun _ _ => ⟨rfl, e5, (by decide : 1 + 0 ≤ _), (by decide : 1 + 0 ≤ _)⟩)
  dsimp only [Pt.U, Pt.locs, Pt.cells, Pt.slots] at X8 l8 y8 z8 st8 hQ8
  subst l8 y8 z8
  obtain ⟨rfl, N8q, K8, p8_0⟩ := hQ8
  have N8 := Fr.app N5 N8q
  refine OGo.to (fun _ k => st8.trans k) ?_
  have z9 : n0 ≤ T8.heap.size := Nat.le_trans z4 K8.1
  show OGo p e below _ (T8.setTop (mkF m 49 #[.val (.long q1), .second, .val (.long q2), .second, .val (.ref b1), .val (.int (1 : Int32)), .val (.long m1), .second, .val (.long m2), .second] []))
  refine OGo.to (fun _ k => XS.iload X8.here hx rfl (hb hby at_49) rfl k) ?_
  show OGo p e below _ (T8.setTop (mkF m 51 #[.val (.long q1), .second, .val (.long q2), .second, .val (.ref b1), .val (.int (1 : Int32)), .val (.long m1), .second, .val (.long m2), .second] [(.int (1 : Int32))]))
  have hc51_10 : ¬ ((1 : Int32) = (0 : Int32)) := by decide
  refine OGo.to (fun _ k => XS.ifNo X8.here hx rfl (hb hby at_51) rfl ((if0 _ _).trans (feq hc51_10).1) k) ?_
  show OGo p e below _ (T8.setTop (mkF m 54 #[.val (.long q1), .second, .val (.long q2), .second, .val (.ref b1), .val (.int (1 : Int32)), .val (.long m1), .second, .val (.long m2), .second] []))
  refine OGo.to (fun _ k => XS.aload X8.here hx rfl (hb hby at_54) rfl rfl k) ?_
  show OGo p e below _ (T8.setTop (mkF m 56 #[.val (.long q1), .second, .val (.long q2), .second, .val (.ref b1), .val (.int (1 : Int32)), .val (.long m1), .second, .val (.long m2), .second] [(.ref b1)]))
  have f12 : Exa Z T8.heap b1 "com/example/lahetti/lahetti/client/OrderlyContext" := (f6.keep K8)
  obtain ⟨cq11, kq11, q11a, q11b, q11c⟩ := isOf hZ (rfl : T8.heap = T8.heap) f12
  obtain ⟨_, _, ⟨T11, L11, k11, n11⟩, -, X11, ⟨Lc11, hQ11, l11, y11, z11⟩, st11⟩ := X8.virtualBack hx (y := (⟨"com/example/lahetti/lahetti/client/OrderlyContext", "getSuspendMillis", "()J"⟩ : MethodName)) (z := (⟨"com/example/lahetti/lahetti/client/OrderlyContext", "getSuspendMillis", "()J"⟩ : MethodName)) hown (mvT hZ (hw _ (List.mem_of_getElem? (i := 12) rfl))) (mvT hZ (hw _ (List.mem_of_getElem? (i := 13) rfl))) (notFace_of_selects (args := #[]) (mvT hZ (hw _ (List.mem_of_getElem? (i := 15) rfl)))) (mvT hZ (hw _ (List.mem_of_getElem? (i := 15) rfl))) (mvT hZ (hw _ (List.mem_of_getElem? (i := 14) rfl))) (by decide) (backOf (W := 0) (rm3 l Z a0 hw [] b1 m1 T8.heap n0 z9 p8_0) hZ (hw _ (List.mem_of_getElem? (i := 16) rfl)) (hw _ (List.mem_of_getElem? (i := 2) rfl)) (by decide) (by decide)) q11a q11c (g := (mkF m 56 #[.val (.long q1), .second, .val (.long q2), .second, .val (.ref b1), .val (.int (1 : Int32)), .val (.long m1), .second, .val (.long m2), .second] [(.ref b1)])) rfl (by rw [hml]; rfl) (Steps.refl _) (argsL := []) (rest := []) (lenOf pd_1 rfl) rfl (by show 2 * 0 + _ ≤ _; exact Nat.le_of_eq rfl) (hb hby at_56) (fun _ _ => ⟨rfl, (rfl : T8.heap = T8.heap), (by decide : 1 + 0 ≤ _), (by decide : 1 + 0 ≤ _)⟩)
  dsimp only [Pt.U, Pt.locs, Pt.cells, Pt.slots] at X11 l11 y11 z11 st11 hQ11
  subst l11 y11 z11
  obtain ⟨rfl, N11q, e11⟩ := hQ11
  have N11 := Fr.app N8 N11q
  refine OGo.to (fun _ k => st11.trans k) ?_
  show OGo p e below _ (T11.setTop (mkF m 59 #[.val (.long q1), .second, .val (.long q2), .second, .val (.ref b1), .val (.int (1 : Int32)), .val (.long m1), .second, .val (.long m2), .second] [(.long m1)]))
  refine OGo.to (fun _ k => XS.lload X11.here hx rfl (hb hby at_59) rfl k) ?_
  show OGo p e below _ (T11.setTop (mkF m 61 #[.val (.long q1), .second, .val (.long q2), .second, .val (.ref b1), .val (.int (1 : Int32)), .val (.long m1), .second, .val (.long m2), .second] [(.long m1), (.long m1)]))
  refine OGo.to (fun _ k => XS.lcmp X11.here hx rfl (hb hby at_61) rfl k) ?_
  show OGo p e below _ (T11.setTop (mkF m 62 #[.val (.long q1), .second, .val (.long q2), .second, .val (.ref b1), .val (.int (1 : Int32)), .val (.long m1), .second, .val (.long m2), .second] [(.int (lcmpW m1 m1))]))
  have hc62_13 : m1 = m1 := rfl
  refine OGo.to (fun _ k => XS.ifNo X11.here hx rfl (hb hby at_62) rfl ((if0 _ _).trans (teq ((lw_eq m1 m1).mpr hc62_13)).2) k) ?_
  show OGo p e below _ (T11.setTop (mkF m 65 #[.val (.long q1), .second, .val (.long q2), .second, .val (.ref b1), .val (.int (1 : Int32)), .val (.long m1), .second, .val (.long m2), .second] []))
  refine OGo.to (fun _ k => XS.iconst X11.here hx rfl (hb hby at_65) k) ?_
  show OGo p e below _ (T11.setTop (mkF m 66 #[.val (.long q1), .second, .val (.long q2), .second, .val (.ref b1), .val (.int (1 : Int32)), .val (.long m1), .second, .val (.long m2), .second] [(.int (1 : Int32))]))
  refine OGo.to (fun _ k => XS.goto X11.here hx rfl (pc0 := 66) (pc' := 70) rfl (hb hby at_66) (by decide) (by decide) k) ?_
  show OGo p e below _ (T11.setTop (mkF m 70 #[.val (.long q1), .second, .val (.long q2), .second, .val (.ref b1), .val (.int (1 : Int32)), .val (.long m1), .second, .val (.long m2), .second] [(.int (1 : Int32))]))
  refine OGo.to (fun _ k => XS.istore X11.here hx rfl (hb hby at_70) rfl (l' := #[.val (.long q1), .second, .val (.long q2), .second, .val (.ref b1), .val (.int (1 : Int32)), .val (.long m1), .second, .val (.long m2), .second]) rfl k) ?_
  show OGo p e below _ (T11.setTop (mkF m 72 #[.val (.long q1), .second, .val (.long q2), .second, .val (.ref b1), .val (.int (1 : Int32)), .val (.long m1), .second, .val (.long m2), .second] []))
  refine OGo.to (fun _ k => XS.aload X11.here hx rfl (hb hby at_72) rfl rfl k) ?_
  show OGo p e below _ (T11.setTop (mkF m 74 #[.val (.long q1), .second, .val (.long q2), .second, .val (.ref b1), .val (.int (1 : Int32)), .val (.long m1), .second, .val (.long m2), .second] [(.ref b1)]))
  refine OGo.to (fun _ k => XS.lload X11.here hx rfl (hb hby at_74) rfl k) ?_
  show OGo p e below _ (T11.setTop (mkF m 76 #[.val (.long q1), .second, .val (.long q2), .second, .val (.ref b1), .val (.int (1 : Int32)), .val (.long m1), .second, .val (.long m2), .second] [(.long m2), (.ref b1)]))
  obtain ⟨cq14, kq14, q14a, q14b, q14c⟩ := isOf hZ e11 f12
  obtain ⟨_, _, ⟨T14, L14, k14, n14⟩, -, X14, ⟨Lc14, hQ14, l14, y14, z14⟩, st14⟩ := X11.virtualBack hx (y := (⟨"com/example/lahetti/lahetti/client/OrderlyContext", "setSuspendMillis", "(J)V"⟩ : MethodName)) (z := (⟨"com/example/lahetti/lahetti/client/OrderlyContext", "setSuspendMillis", "(J)V"⟩ : MethodName)) hown (mvT hZ (hw _ (List.mem_of_getElem? (i := 19) rfl))) (mvT hZ (hw _ (List.mem_of_getElem? (i := 20) rfl))) (notFace_of_selects (args := #[]) (mvT hZ (hw _ (List.mem_of_getElem? (i := 22) rfl)))) (mvT hZ (hw _ (List.mem_of_getElem? (i := 22) rfl))) (mvT hZ (hw _ (List.mem_of_getElem? (i := 21) rfl))) (by decide) (backOf (W := 0) (rm4 l Z a0 hw [] b1 m2 (.long m1) T8.heap n0 z9 f12 p8_0 g_b1 (by rw [hv_m2]; exact own_nn q2)) hZ (hw _ (List.mem_of_getElem? (i := 23) rfl)) (hw _ (List.mem_of_getElem? (i := 2) rfl)) (by decide) (by decide)) q14a q14c (g := (mkF m 76 #[.val (.long q1), .second, .val (.long q2), .second, .val (.ref b1), .val (.int (1 : Int32)), .val (.long m1), .second, .val (.long m2), .second] [(.long m2), (.ref b1)])) rfl (by rw [hml]; rfl) (Steps.refl _) (argsL := [(.long m2)]) (rest := []) (lenOf pd_2 rfl) rfl (by show 2 * 0 + _ ≤ _; exact Nat.le_of_eq rfl) (hb hby at_76) (fun _ _ => ⟨rfl, e11, (by decide : 1 + 0 ≤ _), (by decide : 1 + 0 ≤ _)⟩)
  dsimp only [Pt.U, Pt.locs, Pt.cells, Pt.slots] at X14 l14 y14 z14 st14 hQ14
  subst l14 y14 z14
  obtain ⟨rfl, N14q, K14, p14_0⟩ := hQ14
  have N14 := Fr.app N11 N14q
  refine OGo.to (fun _ k => st14.trans k) ?_
  have z15 : n0 ≤ T14.heap.size := Nat.le_trans z9 K14.1
  show OGo p e below _ (T14.setTop (mkF m 79 #[.val (.long q1), .second, .val (.long q2), .second, .val (.ref b1), .val (.int (1 : Int32)), .val (.long m1), .second, .val (.long m2), .second] []))
  refine OGo.to (fun _ k => XS.iload X14.here hx rfl (hb hby at_79) rfl k) ?_
  show OGo p e below _ (T14.setTop (mkF m 81 #[.val (.long q1), .second, .val (.long q2), .second, .val (.ref b1), .val (.int (1 : Int32)), .val (.long m1), .second, .val (.long m2), .second] [(.int (1 : Int32))]))
  have hc81_16 : ¬ ((1 : Int32) = (0 : Int32)) := by decide
  refine OGo.to (fun _ k => XS.ifNo X14.here hx rfl (hb hby at_81) rfl ((if0 _ _).trans (feq hc81_16).1) k) ?_
  show OGo p e below _ (T14.setTop (mkF m 84 #[.val (.long q1), .second, .val (.long q2), .second, .val (.ref b1), .val (.int (1 : Int32)), .val (.long m1), .second, .val (.long m2), .second] []))
  refine OGo.to (fun _ k => XS.aload X14.here hx rfl (hb hby at_84) rfl rfl k) ?_
  show OGo p e below _ (T14.setTop (mkF m 86 #[.val (.long q1), .second, .val (.long q2), .second, .val (.ref b1), .val (.int (1 : Int32)), .val (.long m1), .second, .val (.long m2), .second] [(.ref b1)]))
  have f18 : Exa Z T14.heap b1 "com/example/lahetti/lahetti/client/OrderlyContext" := (f12.keep K14)
  obtain ⟨cq17, kq17, q17a, q17b, q17c⟩ := isOf hZ (rfl : T14.heap = T14.heap) f18
  obtain ⟨_, _, ⟨T17, L17, k17, n17⟩, -, X17, ⟨Lc17, hQ17, l17, y17, z17⟩, st17⟩ := X14.virtualBack hx (y := (⟨"com/example/lahetti/lahetti/client/OrderlyContext", "getSuspendMillis", "()J"⟩ : MethodName)) (z := (⟨"com/example/lahetti/lahetti/client/OrderlyContext", "getSuspendMillis", "()J"⟩ : MethodName)) hown (mvT hZ (hw _ (List.mem_of_getElem? (i := 12) rfl))) (mvT hZ (hw _ (List.mem_of_getElem? (i := 13) rfl))) (notFace_of_selects (args := #[]) (mvT hZ (hw _ (List.mem_of_getElem? (i := 15) rfl)))) (mvT hZ (hw _ (List.mem_of_getElem? (i := 15) rfl))) (mvT hZ (hw _ (List.mem_of_getElem? (i := 14) rfl))) (by decide) (backOf (W := 0) (rm3 l Z a0 hw [] b1 m2 T14.heap n0 z15 p14_0) hZ (hw _ (List.mem_of_getElem? (i := 16) rfl)) (hw _ (List.mem_of_getElem? (i := 2) rfl)) (by decide) (by decide)) q17a q17c (g := (mkF m 86 #[.val (.long q1), .second, .val (.long q2), .second, .val (.ref b1), .val (.int (1 : Int32)), .val (.long m1), .second, .val (.long m2), .second] [(.ref b1)])) rfl (by rw [hml]; rfl) (Steps.refl _) (argsL := []) (rest := []) (lenOf pd_1 rfl) rfl (by show 2 * 0 + _ ≤ _; exact Nat.le_of_eq rfl) (hb hby at_86) (fun _ _ => ⟨rfl, (rfl : T14.heap = T14.heap), (by decide : 1 + 0 ≤ _), (by decide : 1 + 0 ≤ _)⟩)
  dsimp only [Pt.U, Pt.locs, Pt.cells, Pt.slots] at X17 l17 y17 z17 st17 hQ17
  subst l17 y17 z17
  obtain ⟨rfl, N17q, e17⟩ := hQ17
  have N17 := Fr.app N14 N17q
  refine OGo.to (fun _ k => st17.trans k) ?_
  show OGo p e below _ (T17.setTop (mkF m 89 #[.val (.long q1), .second, .val (.long q2), .second, .val (.ref b1), .val (.int (1 : Int32)), .val (.long m1), .second, .val (.long m2), .second] [(.long m2)]))
  refine OGo.to (fun _ k => XS.lload X17.here hx rfl (hb hby at_89) rfl k) ?_
  show OGo p e below _ (T17.setTop (mkF m 91 #[.val (.long q1), .second, .val (.long q2), .second, .val (.ref b1), .val (.int (1 : Int32)), .val (.long m1), .second, .val (.long m2), .second] [(.long m2), (.long m2)]))
  refine OGo.to (fun _ k => XS.lcmp X17.here hx rfl (hb hby at_91) rfl k) ?_
  show OGo p e below _ (T17.setTop (mkF m 92 #[.val (.long q1), .second, .val (.long q2), .second, .val (.ref b1), .val (.int (1 : Int32)), .val (.long m1), .second, .val (.long m2), .second] [(.int (lcmpW m2 m2))]))
  have hc92_19 : m2 = m2 := rfl
  refine OGo.to (fun _ k => XS.ifNo X17.here hx rfl (hb hby at_92) rfl ((if0 _ _).trans (teq ((lw_eq m2 m2).mpr hc92_19)).2) k) ?_
  show OGo p e below _ (T17.setTop (mkF m 95 #[.val (.long q1), .second, .val (.long q2), .second, .val (.ref b1), .val (.int (1 : Int32)), .val (.long m1), .second, .val (.long m2), .second] []))
  refine OGo.to (fun _ k => XS.iconst X17.here hx rfl (hb hby at_95) k) ?_
  show OGo p e below _ (T17.setTop (mkF m 96 #[.val (.long q1), .second, .val (.long q2), .second, .val (.ref b1), .val (.int (1 : Int32)), .val (.long m1), .second, .val (.long m2), .second] [(.int (1 : Int32))]))
  refine OGo.to (fun _ k => XS.goto X17.here hx rfl (pc0 := 96) (pc' := 100) rfl (hb hby at_96) (by decide) (by decide) k) ?_
  show OGo p e below _ (T17.setTop (mkF m 100 #[.val (.long q1), .second, .val (.long q2), .second, .val (.ref b1), .val (.int (1 : Int32)), .val (.long m1), .second, .val (.long m2), .second] [(.int (1 : Int32))]))
  refine OGo.to (fun _ k => XS.istore X17.here hx rfl (hb hby at_100) rfl (l' := #[.val (.long q1), .second, .val (.long q2), .second, .val (.ref b1), .val (.int (1 : Int32)), .val (.long m1), .second, .val (.long m2), .second]) rfl k) ?_
  show OGo p e below _ (T17.setTop (mkF m 102 #[.val (.long q1), .second, .val (.long q2), .second, .val (.ref b1), .val (.int (1 : Int32)), .val (.long m1), .second, .val (.long m2), .second] []))
  refine OGo.to (fun _ k => XS.iload X17.here hx rfl (hb hby at_102) rfl k) ?_
  show OGo p e below _ (T17.setTop (mkF m 104 #[.val (.long q1), .second, .val (.long q2), .second, .val (.ref b1), .val (.int (1 : Int32)), .val (.long m1), .second, .val (.long m2), .second] [(.int (1 : Int32))]))
  refine OGo.ret (Q := Q0 Z q1 q2 h0 n0) X17 (some (.int (1 : Int32))) (fun h => by rw [Bd.returns] at h; cases h) Bd.notSynchronized (fun fs hr => retN X17 hx (t := .boolean) (z := (1 : Int32)) Bd.returns (by simp) (hb hby at_104) hr) ?_ (by decide) (by decide)
  show Q0 Z q1 q2 h0 n0 _ T17.heap _
  rw [e17]
  exact ⟨rfl, N17⟩
set_option maxRecDepth 65536 in
set_option maxHeartbeats 40000000 in
theorem comes_1 {Post : Tables → Env → Array Value → State → Outcome → State → Prop} (hpost : ∀ tb e args s v u, (limb_1_1.after args s (.returned v) u = true ∧ limb_1_2.after args s (.returned v) u = true ∧ True) → FrameEnd s (.returned v) u (Jvm.fieldLocs frame_1_writes args s ++ Jvm.arrayLocs frame_1_arrays args s ++ Jvm.staticLocs frame_1_statics s) 16 128 → Post tb e args s (.returned v) u) :
    ArmFor flags0 classFile x code maxLocals ret World_1 tables_1 room_1 Calls_1 rest_1 Pre_1 Post := by
  intro l hfl _ _ p e ha hc hk s m args below hf hA hF happ hP
  obtain ⟨hcalls, hrest, hpre⟩ := hP
  obtain ⟨-, -, -, hnamed, -, -, -, hat⟩ := (Spec.applies_iff hf).mp happ
  obtain ⟨hg, hn⟩ := and_e (Cond.before_iff.mp (show (Jvm.Cond.and given_1 narrow_1).before args s = true from hpre))
  obtain ⟨g1, g2⟩ := and_e hg
  obtain ⟨g3, g4⟩ := and_e g2
  obtain ⟨w0, w1, rfl⟩ : ∃ w0 w1 : Value, args = #[w0, w1] := by
    have hs : args.size = 2 := by simpa [Cond.value, given_1] using g1
    obtain ⟨L⟩ := args
    match L, hs with
    | [w0, w1], _ => exact ⟨w0, w1, rfl⟩
  have hw := fun d (hd : d ∈ tables_1) => atoms_spec (ws := Jvm.Cond.code x code maxLocals ret :: tables_1) hat d (List.mem_cons_of_mem _ hd)
  have hfit : Fit s := fun {y c} hc i hi => by
    obtain ⟨ha, rfl⟩ := Array.getElem?_eq_some_iff.mp hc
    have q := List.all_eq_true.mp ((Array.all_eq_true_iff_forall_mem.mp hF) _ (Array.getElem_mem ha)) i (List.mem_range.mpr hi)
    simpa [Array.getElem?_eq_getElem hi] using q
  obtain ⟨i0, ei0⟩ := isL_v g3
  obtain rfl : w0 = (.long i0) := Option.some.inj ei0
  obtain ⟨i1, ei1⟩ := isL_v g4
  obtain rfl : w1 = (.long i1) := Option.some.inj ei1
  obtain ⟨n, o, h1, h2, h3, _, L, rfl, ⟨rfl, N⟩, hq⟩ := rm0 l s _ hw tables_1 i0 i1 s.heap s.heap.size (Nat.le_refl _)  p e ha hc hk s m _ below hf ((Spec.applies_iff_loose hf).mp happ).1 ⟨rfl, State.Warmed39.refl s, rfl⟩ trivial
  refine ⟨n, _, h1, h2, h3, hpost _ _ _ _ _ _ ⟨Cond.after_iff.mpr rfl, Cond.after_iff.mpr (eq_i res_at (Term.int_eval (1)) rfl), trivial⟩ ⟨hq.1, hq.2.1, (hq.2.2.sift fun y hy => Or.inr (N y hy)).mono (by decide) (by decide)⟩⟩
theorem main_1_1 : Claimed_1_1 := comes_1 fun _ _ _ _ _ _ h hF => ⟨h.1, hF⟩
theorem main_1_2 : Claimed_1_2 := comes_1 fun _ _ _ _ _ _ h hF => ⟨h.2.1, hF⟩
end Jvm.Pilot.@@N@@
namespace Jvm.Pilot.@@N@@
open Jvm Jvm.ClassFile Sem Op Lib Jvm.Free Jvm.Stand Jvm.Pilot.@@N@@.Jvm.D
/-! MADE BY PROGRAM (witnessworld.py) out of the Statement's table words and the real class files: 9 classes; the members and pool entries that the words name. The judged class is class 1, her method 1. -/
namespace start1
open Jvm.ClassFile
def u (s : String) : CpInfo := .utf8 (stringToUtf16 s)
/-- a pool by its gaps: so many unusable entries, then the entry; so many at the end -/
def gap : Nat → List CpInfo → List CpInfo
  | 0, r => r
  | n + 1, r => .unusable :: gap n r
def poolList (es : List (Nat × CpInfo)) (last : Nat) : List CpInfo := es.foldr (fun e r => gap e.1 (e.2 :: r)) (gap last [])
def pool (es : List (Nat × CpInfo)) (last : Nat) : Array CpInfo := ⟨poolList es last⟩
def fileOf (pool : Array CpInfo) (this : Nat) (attrs : Array Attribute := #[]) (ms : Array MethodInfo := #[]) (fl : Nat := 33) (sup : Nat := 0) (ifs : Array Nat := #[]) (fds : Array FieldInfo := #[]) : ClassFile where
  minorVersion := 0
  majorVersion := 65
  constantPool := pool
  accessFlags := fl
  thisClass := this
  superClass := sup
  interfaces := ifs
  fields := fds
  methods := ms
  attributes := attrs
def plain (name : String) (sup : Option ClassId) : Class where
  name := name
  kind := .ordinary
  loader := none
  accessFlags := 33
  super := sup
  interfaces := #[]
  cf := none
  fields := #[]
  methods := #[]
  instanceTypes := #[]
  staticTypes := #[]
  resolved := #[]
  callSites := []
  init := .initialized
  statics := none
  mirror := none

def pool0 : Array CpInfo := pool [(5, u "<init>"), (0, u "()V"), (1, .class_ 10), (1, u "java/lang/Object")] 113

def k0c0 : Code := { maxStack := 0, maxLocals := 1, code := object_method_1_code, exceptionTable := #[], attributes := #[] }
def k0m0 : Method := { name := "<init>", desc := "()V", sig := { parameters := [], returnType := none }, accessFlags := 1, code := some k0c0 }
/-- java/lang/Object -/
def k0 : Class := { plain "java/lang/Object" none with
  accessFlags := 33
  interfaces := #[]
  cf := some (fileOf pool0 8 #[] #[{ accessFlags := 1, nameIndex := 5, descriptorIndex := 6, attributes := #[] }] 33 0 #[] #[])
  fields := #[]
  methods := #[k0m0]
  instanceTypes := #[]
  staticTypes := #[]
  resolved := Array.replicate 124 none
  statics := none }

def pool1 : Array CpInfo := pool [(2, .class_ 4), (0, .nameAndType 5 6), (0, u "java/lang/Object"), (0, u "<init>"), (0, u "()V"), (0, .class_ 8), (0, u "com/example/lahetti/lahetti/client/OrderlyContext"), (0, .methodref 7 3), (0, .methodref 7 11), (0, .nameAndType 12 13), (0, u "getSuspendMillis"), (0, u "()J"), (0, .long 1000), (3, .long 9223372036854775807), (1, .methodref 7 21), (0, .nameAndType 22 23), (0, u "setSuspendMillis"), (0, u "(J)V"), (0, .class_ 25), (0, u "com/example/lahetti/lahetti/client/OrderlyContextSetSuspendMillisPinLaw"), (2, u "law"), (0, u "(JJ)Z")] 3

def k1m0 : Method := { name := "<init>", desc := "()V", sig := { parameters := [], returnType := none }, accessFlags := 1, code := none }
def k1c1 : Code := { maxStack := 4, maxLocals := 10, code := code, exceptionTable := #[], attributes := #[] }
def k1m1 : Method := { name := "law", desc := "(JJ)Z", sig := { parameters := [.long, .long], returnType := some .boolean }, accessFlags := 9, code := some k1c1 }
/-- com/example/lahetti/lahetti/client/OrderlyContextSetSuspendMillisPinLaw -/
def k1 : Class := { plain "com/example/lahetti/lahetti/client/OrderlyContextSetSuspendMillisPinLaw" (some 0) with
  accessFlags := 49
  interfaces := #[]
  cf := some (fileOf pool1 24 #[] #[{ accessFlags := 1, nameIndex := 5, descriptorIndex := 6, attributes := #[] }, { accessFlags := 9, nameIndex := 28, descriptorIndex := 29, attributes := #[] }] 49 2 #[] #[])
  fields := #[]
  methods := #[k1m0, k1m1]
  instanceTypes := #[]
  staticTypes := #[]
  resolved := Array.replicate 33 none
  statics := none }

def pool2 : Array CpInfo := pool [(1, .methodref 2 3), (0, .class_ 4), (0, .nameAndType 5 6), (0, u "java/lang/Object"), (0, u "<init>"), (0, u "()V"), (0, .class_ 8), (0, u "com/example/lahetti/lahetti/client/OrderlyContext"), (0, .long 1000), (1, .fieldref 7 12), (0, .nameAndType 13 14), (0, u "suspendMillis"), (0, u "J"), (9, u "DEFAULT_SUSPEND_MILLIS"), (3, u "getSuspendMillis"), (0, u "()J"), (0, u "setSuspendMillis"), (0, u "(J)V")] 18

def k2c0 : Code := { maxStack := 3, maxLocals := 1, code := prog_14_method_1_code, exceptionTable := #[], attributes := #[] }
def k2m0 : Method := { name := "<init>", desc := "()V", sig := { parameters := [], returnType := none }, accessFlags := 0, code := some k2c0 }
def k2c1 : Code := { maxStack := 2, maxLocals := 1, code := prog_14_method_2_code, exceptionTable := #[], attributes := #[] }
def k2m1 : Method := { name := "getSuspendMillis", desc := "()J", sig := { parameters := [], returnType := some .long }, accessFlags := 1, code := some k2c1 }
def k2c2 : Code := { maxStack := 4, maxLocals := 3, code := prog_14_method_3_code, exceptionTable := #[], attributes := #[] }
def k2m2 : Method := { name := "setSuspendMillis", desc := "(J)V", sig := { parameters := [.long], returnType := none }, accessFlags := 1, code := some k2c2 }
/-- com/example/lahetti/lahetti/client/OrderlyContext -/
def k2 : Class := { plain "com/example/lahetti/lahetti/client/OrderlyContext" (some 0) with
  accessFlags := 49
  interfaces := #[]
  cf := some (fileOf pool2 7 #[] #[{ accessFlags := 0, nameIndex := 5, descriptorIndex := 6, attributes := #[] }, { accessFlags := 1, nameIndex := 28, descriptorIndex := 29, attributes := #[] }, { accessFlags := 1, nameIndex := 30, descriptorIndex := 31, attributes := #[] }] 49 2 #[] #[{ accessFlags := 25, nameIndex := 24, descriptorIndex := 14, attributes := #[] }, { accessFlags := 2, nameIndex := 13, descriptorIndex := 14, attributes := #[] }])
  fields := #[{ name := "DEFAULT_SUSPEND_MILLIS", type := .long, accessFlags := 25, slot := 0, constantValue := 0 }, { name := "suspendMillis", type := .long, accessFlags := 2, slot := 0, constantValue := 0 }]
  methods := #[k2m0, k2m1, k2m2]
  instanceTypes := #[.long]
  staticTypes := #[.long]
  resolved := Array.replicate 50 none
  statics := none }

def pool3 : Array CpInfo := pool [(1, u "java/lang/Cloneable"), (0, .class_ 1), (0, u "java/lang/Object"), (0, .class_ 3)] 3

/-- java/lang/Cloneable -/
def k3 : Class := { plain "java/lang/Cloneable" (some 0) with
  accessFlags := 1537
  interfaces := #[]
  cf := some (fileOf pool3 2 #[] #[] 1537 4 #[] #[])
  fields := #[]
  methods := #[]
  instanceTypes := #[]
  staticTypes := #[]
  resolved := Array.replicate 8 none
  statics := none }

def pool4 : Array CpInfo := pool [(1, u "java/io/Serializable"), (0, .class_ 1), (0, u "java/lang/Object"), (0, .class_ 3)] 3

/-- java/io/Serializable -/
def k4 : Class := { plain "java/io/Serializable" (some 0) with
  accessFlags := 1537
  interfaces := #[]
  cf := some (fileOf pool4 2 #[] #[] 1537 4 #[] #[])
  fields := #[]
  methods := #[]
  instanceTypes := #[]
  staticTypes := #[]
  resolved := Array.replicate 8 none
  statics := none }

/-- the primitive byte -/
def k5 : Class := { plain "byte" none with kind := .primitive 'B', accessFlags := 0x411 }
/-- [B -/
def k6 : Class := { plain "[B" (some 0) with kind := .array 5 .byte, interfaces := #[3, 4], accessFlags := 1041 }

/-- the primitive int -/
def k7 : Class := { plain "int" none with kind := .primitive 'I', accessFlags := 0x411 }
/-- [I -/
def k8 : Class := { plain "[I" (some 0) with kind := .array 7 .int, interfaces := #[3, 4], accessFlags := 1041 }

def heap : Heap := #[]
def classes : Array Class := #[k0, k1, k2, k3, k4, k5, k6, k7, k8]
def interned : List (Array UInt16 × Addr) := []
def slotsUsed : Nat := 0
def theMethod : MethodId := ⟨1, 1⟩
def args0 : Array Value := #[.long 5, .long 7]
def aboutOver (below : List Frame) : State where
  vm := { classes := classes, interned := interned.toArray }
  heap := heap
  slotsUsed := slotsUsed
  threads := #[{ frames := .invoking theMethod args0 :: below }]
def below0 : List Frame := [.native { method := ⟨0, 0⟩, args := #[] }]
def about1 : State := aboutOver below0
def p0 : Program := .bare "" "" ""
def e0 : Env := launch0.env 0 0 0
theorem w_frames : about1.frames = Frame.invoking theMethod args0 :: below0 := rfl
set_option maxRecDepth 65536 in
theorem w_args : argsFit about1.vm theMethod args0 = true := by decide +kernel
set_option maxRecDepth 65536 in
theorem w_heap : heapFits about1 = true := by decide +kernel
set_option maxRecDepth 65536 in
theorem w_runnable : about1.curStatus? = some .runnable := by decide +kernel
set_option maxRecDepth 65536 in
theorem w_alone : about1.alone = true := by decide +kernel
set_option maxRecDepth 65536 in
theorem w_named : about1.methodNamed? x = some theMethod := by decide +kernel
set_option maxRecDepth 65536 in
theorem w_hears : about1.hears theMethod below0 = true := by decide +kernel
set_option maxRecDepth 65536 in
theorem w_ripe : about1.ripe theMethod args0 below0 = true := by decide +kernel
theorem w_running : about1.status = .running := rfl
set_option maxRecDepth 65536 in
theorem w_room : about1.hasRoom e0.platform room_1 = true :=
  launch0.hasRoom_least _ room_1 (by decide +kernel) (by decide +kernel) (by decide +kernel) (by decide +kernel) (by decide +kernel) (by decide +kernel)
theorem allAtoms_all (ts : List Jvm.Cond) (a : Array Jvm.Value) (st : Jvm.State) : (allAtoms ts).before a st = ts.all (fun c => c.before a st) := by
  induction ts with
  | nil => rfl
  | cons c t ih =>
    show (Jvm.Cond.and c (allAtoms t)).before a st = _
    rw [Jvm.Cond.before_and, ih, List.all_cons]
def words1 : List Jvm.Cond := Jvm.Cond.code x code maxLocals ret :: tables_1
/-- a 'code' word, met by the world's own term for the bytes: nothing is compared byte by byte -/
theorem code_word {y : MethodName} {bytes : ByteArray} {mx : Nat} {rt : Option FieldType} {a : Array Value} {s : State} {m : MethodId} {meth : Method} {c : Code} (h1 : s.methodNamed? y = some m) (h2 : s.vm.method? m = some meth) (h3 : meth.code = some c) (h4 : c.code = bytes)
    (h5 : (c.maxLocals == mx && c.exceptionTable.isEmpty && decide (c.maxStack ≤ mostOperands) && decide (meth.sig.returnType = rt) && !meth.locks && decide (parseMethodDescriptor y.desc = some meth.sig)) = true) : (Jvm.Cond.code y bytes mx rt).before a s = true := by
  simp only [Bool.and_eq_true, beq_iff_eq, Bool.not_eq_true', decide_eq_true_eq] at h5
  obtain ⟨⟨⟨⟨⟨g1, g2⟩, g3⟩, g4⟩, g5⟩, g6⟩ := h5
  simp [Cond.before, Cond.holds, Cond.value, h1, h2, h3, h4, g1, g2, g3, g4, g5, g6]
def isCode : Jvm.Cond → Bool
  | .code _ _ _ _ => true
  | _ => false
theorem all_split {L : List Jvm.Cond} {P : Jvm.Cond → Bool} (h1 : L.all (fun c => isCode c || P c) = true) (h2 : ∀ c ∈ L.filter isCode, P c = true) : L.all P = true := by
  refine List.all_eq_true.mpr fun c hc => ?_
  have h := List.all_eq_true.mp h1 c hc
  rcases Bool.eq_false_or_eq_true (isCode c) with hi | hi
  · exact h2 c (List.mem_filter.mpr ⟨hc, hi⟩)
  · simpa [hi] using h
set_option maxRecDepth 65536 in
theorem w_c0 : (Jvm.Cond.code x code maxLocals ret).before args0 about1 = true := code_word (m := ⟨1, 1⟩) (meth := k1m1) (c := k1c1) (by decide +kernel) rfl rfl rfl (by decide +kernel)
set_option maxRecDepth 65536 in
theorem w_c1 : (Jvm.Cond.code ({ cls := "com/example/lahetti/lahetti/client/OrderlyContext", name := "<init>", desc := "()V" } : Jvm.MethodName) prog_14_method_1_code (1 : Nat) (Option.none : Option Jvm.ClassFile.FieldType)).before args0 about1 = true := code_word (m := ⟨2, 0⟩) (meth := k2m0) (c := k2c0) (by decide +kernel) rfl rfl rfl (by decide +kernel)
set_option maxRecDepth 65536 in
theorem w_c2 : (Jvm.Cond.code ({ cls := "java/lang/Object", name := "<init>", desc := "()V" } : Jvm.MethodName) object_method_1_code (1 : Nat) (Option.none : Option Jvm.ClassFile.FieldType)).before args0 about1 = true := code_word (m := ⟨0, 0⟩) (meth := k0m0) (c := k0c0) (by decide +kernel) rfl rfl rfl (by decide +kernel)
set_option maxRecDepth 65536 in
theorem w_c3 : (Jvm.Cond.code ({ cls := "com/example/lahetti/lahetti/client/OrderlyContext", name := "getSuspendMillis", desc := "()J" } : Jvm.MethodName) prog_14_method_2_code (1 : Nat) (Option.some Jvm.ClassFile.FieldType.long)).before args0 about1 = true := code_word (m := ⟨2, 1⟩) (meth := k2m1) (c := k2c1) (by decide +kernel) rfl rfl rfl (by decide +kernel)
set_option maxRecDepth 65536 in
theorem w_c4 : (Jvm.Cond.code ({ cls := "com/example/lahetti/lahetti/client/OrderlyContext", name := "setSuspendMillis", desc := "(J)V" } : Jvm.MethodName) prog_14_method_3_code (3 : Nat) (Option.none : Option Jvm.ClassFile.FieldType)).before args0 about1 = true := code_word (m := ⟨2, 2⟩) (meth := k2m2) (c := k2c2) (by decide +kernel) rfl rfl rfl (by decide +kernel)
def codes1 : List Jvm.Cond := [Jvm.Cond.code x code maxLocals ret, Jvm.Cond.code ({ cls := "com/example/lahetti/lahetti/client/OrderlyContext", name := "<init>", desc := "()V" } : Jvm.MethodName) prog_14_method_1_code (1 : Nat) (Option.none : Option Jvm.ClassFile.FieldType), Jvm.Cond.code ({ cls := "java/lang/Object", name := "<init>", desc := "()V" } : Jvm.MethodName) object_method_1_code (1 : Nat) (Option.none : Option Jvm.ClassFile.FieldType), Jvm.Cond.code ({ cls := "com/example/lahetti/lahetti/client/OrderlyContext", name := "getSuspendMillis", desc := "()J" } : Jvm.MethodName) prog_14_method_2_code (1 : Nat) (Option.some Jvm.ClassFile.FieldType.long), Jvm.Cond.code ({ cls := "com/example/lahetti/lahetti/client/OrderlyContext", name := "setSuspendMillis", desc := "(J)V" } : Jvm.MethodName) prog_14_method_3_code (3 : Nat) (Option.none : Option Jvm.ClassFile.FieldType)]
set_option maxRecDepth 65536 in
theorem codes_eq : words1.filter isCode = codes1 := rfl
theorem w_codes : ∀ c ∈ words1.filter isCode, c.before args0 about1 = true := by
  rw [codes_eq]
  intro c hc
  simp only [codes1, List.mem_cons, List.not_mem_nil, or_false] at hc
  rcases hc with rfl | rfl | rfl | rfl | rfl
  · exact w_c0
  · exact w_c1
  · exact w_c2
  · exact w_c3
  · exact w_c4
set_option maxRecDepth 65536 in
theorem w_t1 : (words1.take 24).all (fun c => isCode c || c.before args0 about1) = true := by decide +kernel
set_option maxRecDepth 65536 in
theorem w_t2 : (words1.drop 24).all (fun c => isCode c || c.before args0 about1) = true := by decide +kernel
theorem w_tables : (allAtoms (Jvm.Cond.code x code maxLocals ret :: tables_1)).before args0 about1 = true := by
  rw [allAtoms_all]
  show words1.all (fun c => c.before args0 about1) = true
  refine all_split ?_ w_codes
  rw [← List.take_append_drop 24 words1, List.all_append, w_t1, w_t2]
  rfl
set_option maxRecDepth 65536 in
theorem w_case : (Jvm.Cond.and given_1 narrow_1).before args0 about1 = true := by decide +kernel
theorem w_applies : (headSpec (Jvm.Cond.code x code maxLocals ret :: tables_1) room_1).applies x e0.platform about1 = true :=
  (Spec.applies_iff w_frames).mpr ⟨w_running, w_runnable, w_alone, w_named, w_hears, w_ripe, w_room, w_tables⟩
theorem atStart : AtStart classFile x code maxLocals ret World_1 tables_1 room_1 Calls_1 rest_1 Pre_1 launch0 p0 e0 about1 theMethod args0 below0 :=
  ⟨lists_1, trivial, launch0.admits_env _ _ _, launch0.least_env, fairChoices_fair.cas, fairChoices_fair.clock, w_frames, w_args, w_heap, w_applies, trivial, trivial, w_case⟩
end start1
theorem witness_1 : WitnessClaimed_1 := ⟨start1.p0, start1.e0, start1.about1, start1.theMethod, start1.args0, start1.below0, start1.atStart⟩
end Jvm.Pilot.@@N@@
