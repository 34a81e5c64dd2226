import JvmDerived
import JvmDerived.Pilot.@@N@@Statement
import JvmDerived.Pilot.@@N@@Code
set_option linter.unusedVariables false
set_option linter.unusedSimpArgs false
namespace Jvm.RoadKit
open Sem ClassFile Op Lib Jvm.Stand Jvm.Free Jvm.LawKit
section New
variable {p : Program} {l : Launch} {e : Env} {R : Room} {s : State} {m : MethodId} {args : Array Value} {below : List Frame} {meth : Method} {c : Code} {T : State} {locs : List Loc} {cells slots : Nat}
theorem retI (X : Stand p l e R s m args below meth c T locs cells slots) (hx : p.tables.exec = Jvm.exec) {pc : Nat} {Ls : Array Slot} {z : Int32} {rest : List Value} (hret : meth.sig.returnType = some .int) (hd : decode c.code pc = .ok (.ireturn, 1)) {fs : List Frame}
    (hl : ∀ (f : JFrame) (acts : List Action), f.method = m → f.locked = none → f.entered = [] → (doReturn e (T.setTop f) acts (some (.int z))).1 = T.setFrames fs) : Steps p.tables e below (T.setTop (mkF m pc Ls (.int z :: rest))) (T.setFrames fs) := by
  have hm' : T.vm.method? m = some meth := X.method'
  have hn : narrow .int (.int z) = .int z := rfl
  show Steps p.tables e below (T.setTop { method := m, pc := pc, locals := Ls, stack := _ :: rest, locked := none }) _
  jvm_step X.here [X.here.top, hx, hd, hm', hret, hn]
  first | (intro acts; rw [hl _ acts rfl rfl rfl]) | rw [hl _ _ rfl rfl rfl]
  exact Steps.refl _
end New
end Jvm.RoadKit
namespace Jvm.Pilot.@@N@@
open Jvm Jvm.ClassFile Sem Op Lib Jvm.Free Jvm.Stand Jvm.LawKit Jvm.RoadKit Bundle Jvm.Pilot.@@N@@.Jvm.D
section Own
variable {p : Program} {l : Launch} {e : Env} {R : Room} {s : State} {m : MethodId} {args : Array Value} {below : List Frame} {meth : Method} {c : Code} {T : State} {locs : List Loc} {cells slots : Nat}
theorem own_retL (X : Stand p l e R s m args below meth c T locs cells slots) (hx : p.tables.exec = Jvm.exec) {pc : Nat} {Ls : Array Slot} {z : Int64} {rest : List Value} (hret : meth.sig.returnType = some .long) (hd : decode c.code pc = .ok (.lreturn, 1)) {fs : List Frame}
    (hl : ∀ (f : JFrame) (acts : List Action), f.method = m → f.locked = none → f.entered = [] → (doReturn e (T.setTop f) acts (some (.long z))).1 = T.setFrames fs) : Steps p.tables e below (T.setTop (mkF m pc Ls (.long z :: rest))) (T.setFrames fs) := by
  have hm' : T.vm.method? m = some meth := X.method'
  have hn : narrow .long (.long z) = .long z := rfl
  show Steps p.tables e below (T.setTop { method := m, pc := pc, locals := Ls, stack := _ :: rest, locked := none }) _
  jvm_step X.here [X.here.top, hx, hd, hm', hret, hn]
  first | (intro acts; rw [hl _ acts rfl rfl rfl]) | rw [hl _ _ rfl rfl rfl]
  exact Steps.refl _
theorem own_retA (X : Stand p l e R s m args below meth c T locs cells slots) (hx : p.tables.exec = Jvm.exec) {pc : Nat} {Ls : Array Slot} {v : Value} {t : FieldType} {rest : List Value} (hret : meth.sig.returnType = some t) (ht : t.isReference = true) (hv : v.isRef = true) (hd : decode c.code pc = .ok (.areturn, 1)) {fs : List Frame}
    (hl : ∀ (f : JFrame) (acts : List Action), f.method = m → f.locked = none → f.entered = [] → (doReturn e (T.setTop f) acts (some v)).1 = T.setFrames fs) : Steps p.tables e below (T.setTop (mkF m pc Ls (v :: rest))) (T.setFrames fs) := by
  have hm' : T.vm.method? m = some meth := X.method'
  show Steps p.tables e below (T.setTop { method := m, pc := pc, locals := Ls, stack := _ :: rest, locked := none }) _
  jvm_step X.here [X.here.top, hx, hd, hm', hret, hv, ht]
  first | (intro acts; rw [hl _ acts rfl rfl rfl]) | rw [hl _ _ rfl rfl rfl]
  exact Steps.refl _
def OGo (p : Program) (e : Env) (below : List Frame) (P : State → Outcome → Prop) (S : State) : Prop := ∃ s₂ o, Steps p.tables e below S s₂ ∧ s₂.status = .running ∧ Ended s₂ below o ∧ P s₂ o
theorem OGo.to {P : State → Outcome → Prop} {S S' : State} (h : ∀ t, Steps p.tables e below S' t → Steps p.tables e below S t) (g : OGo p e below P S') : OGo p e below P S := by
  obtain ⟨s₂, o, h1, r⟩ := g
  exact ⟨s₂, o, h _ h1, r⟩
theorem OGo.ret {Q : Option Value → Heap → List Loc → Prop} (X : Stand p l e R s m args below meth c T locs cells slots) {g : JFrame} (v : Option Value) (hv : meth.sig.returnType = none → v = none) (hlocks : meth.locks = false)
    (st : ∀ fs : List Frame, (∀ (f : JFrame) (acts : List Action), f.method = m → f.locked = none → f.entered = [] → (doReturn e (T.setTop f) acts v).1 = T.setFrames fs) → Steps p.tables e below (T.setTop g) (T.setFrames fs)) (hq : Q v T.heap locs) {rc rs : Nat} (h1 : cells ≤ rc) (h2 : slots ≤ rs) :
    OGo p e below (fun s₂ o => ∃ v L, o = .returned v ∧ Q v s₂.heap L ∧ FrameEnd s o s₂ L rc rs) (T.setTop g) := by
  obtain ⟨fs, hr, hrun, hended, hW, hsame⟩ := X.leave (v := v) hv hlocks
  exact ⟨_, _, st fs hr, hrun, hended, _, _, rfl, hq, ⟨_, rfl⟩, hW, hsame.mono h1 h2⟩
theorem own_un (X0 : Stand p l e R s m args below meth c T locs cells slots) {Q : Option Value → Heap → List Loc → Prop} {rc rs : Nat} {W : Option Value → State → Prop}
    (h : ∃ (v : Option Value) (vm₁ : Vm) (B : Pt), s.WarmedH vm₁ ∧ Stand p l e R s m args below meth c B.U B.locs B.cells B.slots ∧ (∃ L, Q v B.U.heap L ∧ B.locs = locs ++ L ∧ B.cells = cells + rc ∧ B.slots = slots + rs) ∧ W v B.U) :
    ∃ (v : Option Value) (T' : State) (Lc : List Loc), Stand p l e R s m args below meth c T' (locs ++ Lc) (cells + rc) (slots + rs) ∧ Q v T'.heap Lc ∧ W v T' := by
  obtain ⟨v, vm₁, ⟨T', L', k', n'⟩, -, X, ⟨Lc, hQ, h1, h2, h3⟩, st⟩ := h
  subst h1 h2 h3
  exact ⟨v, T', Lc, X, hQ, st⟩
theorem own_selP {Z : State} {a0 : Array Value} (hZ : Z.Warmed39 s.vm) {y : MethodName} {n : Nat} (wi : (Jvm.Cond.instantiable y.cls n).before a0 Z = true) (wp : (Jvm.Cond.privateMethod y).before a0 Z = true) (wm : (Jvm.Cond.instanceMethod y).before a0 Z = true) (hy : y.cls ≠ "java/lang/invoke/MethodHandle" ∧ y.cls ≠ "java/lang/invoke/VarHandle") : (Jvm.Cond.selects y.cls y y).before args s = true := by
  obtain ⟨c, k, h1, h2, -, h3, -⟩ := Cond.instantiable_spec (mvT (args := args) hZ wi)
  exact selects_self_of_private h1 h2 ((Bool.or_eq_false_iff.mp h3).1) (Cond.privateMethod_at (mvP hZ wp (args := args))) (mvT hZ wm) hy
end Own
theorem own_b {x : Int32} (h : x = (0 : Int32) ∨ x = (1 : Int32)) : narrow .boolean (.int x) = .int x ∧ fits .boolean (.int x) = true := by
  rcases h with rfl | rfl <;> exact ⟨by decide, by decide⟩
theorem own_01 {P : Prop} [Decidable P] : (if P then (0 : Int32) else (1 : Int32)) = (0 : Int32) ∨ (if P then (0 : Int32) else (1 : Int32)) = (1 : Int32) := by
  by_cases h : P
  · exact Or.inl (if_pos h)
  · exact Or.inr (if_neg h)
theorem own_n4 {x p : Int32} (h : x = p &&& (3 : Int32)) : x = (0 : Int32) ∨ x = (1 : Int32) ∨ x = (2 : Int32) ∨ x = (3 : Int32) := by
  have q := c_and p (3 : Int32) (by decide)
  rw [← h] at q
  simp only [← Int32.toInt_inj]
  have e0 : (0 : Int32).toInt = 0 := by decide
  have e1 : (1 : Int32).toInt = 1 := by decide
  have e2 : (2 : Int32).toInt = 2 := by decide
  have e3 : (3 : Int32).toInt = 3 := by decide
  omega
theorem own_empty {s : State} {args : Array Value} {dd : Addr} {cl : Cell} {t : Jvm.Term} (ed : t.eval args s none [] s = some (.ref dd)) (AC : Arr s s.heap dd cl (.object "java/lang/Object")) (h : (Jvm.Cond.eq (Jvm.Term.length t) (Jvm.Term.int (0 : Int32))).before args s = true) : Arv s s.heap dd cl.cls (.object "java/lang/Object") (0 : Int32) [] .null := by
  obtain ⟨hsz, hsize⟩ := IntBox.length_fwd h ed AC.1 AC.2.1 AC.2.2
  have h0 : cl.slots.size = 0 := by
    have e := len_toInt hsz
    rw [hsize] at e
    have : ((0 : Int32)).toInt = 0 := by decide
    omega
  exact ⟨cl, AC, rfl, by rw [h0]; rfl, by decide, fun k hk => absurd hk (by rw [h0]; exact Nat.not_lt_zero _), fun i hi => absurd hi (by rw [h0]; exact Nat.not_lt_zero _)⟩

theorem pd_0 : parseMethodDescriptor "()V" = some ⟨[], none⟩ := by decide +kernel
theorem pd_1 : parseMethodDescriptor "(II)I" = some ⟨[.int, .int], some .int⟩ := by decide +kernel
theorem pd_2 : parseMethodDescriptor "(I)[Ljava/lang/Object;" = some ⟨[.int], some (.array (.object "java/lang/Object"))⟩ := by decide +kernel
theorem pd_3 : parseMethodDescriptor "()[Ljava/lang/Object;" = some ⟨[], some (.array (.object "java/lang/Object"))⟩ := by decide +kernel
theorem pd_4 : parseMethodDescriptor "(Ljava/lang/Object;[Ljava/lang/Object;I)V" = some ⟨[(.object "java/lang/Object"), (.array (.object "java/lang/Object")), .int], none⟩ := by decide +kernel
theorem pd_5 : parseMethodDescriptor "(IILjava/util/function/BiFunction;)I" = some ⟨[.int, .int, (.object "java/util/function/BiFunction")], some .int⟩ := by decide +kernel
theorem pd_6 : parseMethodDescriptor "(I)Ljava/lang/Object;" = some ⟨[.int], some (.object "java/lang/Object")⟩ := by decide +kernel
theorem pd_7 : parseMethodDescriptor "()I" = some ⟨[], some .int⟩ := by decide +kernel
theorem pd_8 : parseMethodDescriptor "(Ljava/lang/String;IILcom/example/dromos/dromos/model/Location;Z)V" = some ⟨[(.object "java/lang/String"), .int, .int, (.object "com/example/dromos/dromos/model/Location"), .boolean], none⟩ := by decide +kernel
theorem pd_9 : parseMethodDescriptor "()Z" = some ⟨[], some .boolean⟩ := by decide +kernel
theorem pd_10 : parseMethodDescriptor "(Ljava/util/List;)V" = some ⟨[(.object "java/util/List")], none⟩ := by decide +kernel
theorem pd_11 : parseMethodDescriptor "(Lcom/example/dromos/dromos/model/Identifier;I)V" = some ⟨[(.object "com/example/dromos/dromos/model/Identifier"), .int], none⟩ := by decide +kernel
theorem pd_12 : parseMethodDescriptor "(Ljava/lang/Object;)Z" = some ⟨[(.object "java/lang/Object")], some .boolean⟩ := by decide +kernel
theorem pn_0 : plainName "java/lang/Record" = true := by first | (simp [plainName, overriddenIn]; done) | decide +kernel
theorem pn_1 : plainName "java/util/AbstractCollection" = true := by first | (simp [plainName, overriddenIn]; done) | decide +kernel
theorem pn_2 : plainName "java/util/AbstractList" = true := by first | (simp [plainName, overriddenIn]; done) | decide +kernel
theorem pn_3 : plainName "java/util/ArrayList" = true := by first | (simp [plainName, overriddenIn]; done) | decide +kernel
theorem pn_4 : plainName "com/example/dromos/dromos/model/Module$Signature" = true := by first | (simp [plainName, overriddenIn]; done) | decide +kernel
theorem pn_5 : plainName "com/example/dromos/dromos/service/Definition" = true := by first | (simp [plainName, overriddenIn]; done) | decide +kernel
theorem pn_6 : plainName "jdk/internal/util/Preconditions" = true := by first | (simp [plainName, overriddenIn]; done) | decide +kernel
theorem pn_7 : plainName "java/util/Objects" = true := by first | (simp [plainName, overriddenIn]; done) | decide +kernel
theorem pn_8 : plainName "com/example/dromos/dromos/service/DefinitionTakesOperatorsPinLaw" = true := by first | (simp [plainName, overriddenIn]; done) | decide +kernel
theorem d6_0 : decode jdk_30_method_1_code 0 = .ok (.aload_n 0, 1) := by decide +kernel
theorem d6_1 : decode jdk_30_method_1_code 1 = .ok (.invokespecial 1, 3) := by decide +kernel
theorem d6_4 : decode jdk_30_method_1_code 4 = .ok (.return_, 1) := by decide +kernel
theorem ef_6 (m : MethodId) (x0 : Addr) : entryFrame m #[(.ref x0)] 1 = mkF m 0 #[.val (.ref x0)] [] := by first | (simp [entryFrame, mkF, argsToLocals, Value.category]; done) | rfl
def Q6 (Z : State) (a1 : Addr) (h0 : Heap) (n0 : Nat) (v : Option Value) (h : Heap) (L : List Loc) : Prop := v = none ∧ Fr n0 L ∧ h = h0
set_option maxRecDepth 65536 in
set_option maxHeartbeats 40000000 in
theorem rm6 (l : Launch) (Z : State) (a0 : Array Value) (hw : ∀ d ∈ tables_1, d.before a0 Z = true) (ws : List Jvm.Cond) (a1 : Addr) (h0 : Heap) (n0 : Nat) (Z0 : n0 ≤ h0.size) :
    MetFree l (⟨"java/lang/Record", "<init>", "()V"⟩ : MethodName) (head1 (Jvm.Cond.code (⟨"java/lang/Record", "<init>", "()V"⟩ : MethodName) jdk_30_method_1_code 1 none :: ws) ({ frames := 1, cells := 0, slots := 0, locals := 12 } : Room)) (fun a U => a = #[(.ref a1)] ∧ Z.Warmed39 U.vm ∧ U.heap = h0) (fun _ _ _ _ _ => True) (fun _ U o U' => ∃ v L, o = .returned v ∧ Q6 Z a1 h0 n0 v U'.heap L ∧ FrameEnd U o U' L ({ frames := 1, cells := 0, slots := 0, locals := 12 } : Room).cells ({ frames := 1, cells := 0, slots := 0, locals := 12 } : Room).slots) := by
  refine MetFree.of_bodySF (plainFor_of_name pn_0) hisR ?_
  intro p e s m args below meth c s₁ Bd hml0 hP hK
  obtain ⟨rfl, hZ, hh⟩ := hP
  have hx := Bd.exec
  have hby := Bd.bytes
  have hml : c.maxLocals = 1 := hml0
  have hown : s.vm.findClass "java/lang/Record" = some m.cls := findClass_of_methodNamed Bd.named
  have hnm := (name_of_methodNamed Bd.named Bd.method).1
  have X0 : Stand p l e ({ frames := 1, cells := 0, slots := 0, locals := 12 } : Room) s m #[(.ref a1)] below meth c s₁ [] 0 0 := Stand.of_body Bd
  have e0 : s₁.heap = h0 := by rw [← hh, Bd.state]; rfl
  have N0 := Fr.nil n0
  show OGo p e below (fun s₂ o => ∃ v L, o = .returned v ∧ Q6 Z a1 h0 n0 v s₂.heap L ∧ FrameEnd s o s₂ L ({ frames := 1, cells := 0, slots := 0, locals := 12 } : Room).cells ({ frames := 1, cells := 0, slots := 0, locals := 12 } : Room).slots) _
  refine OGo.to (fun _ k => castTop (ef_6 m a1) k) ?_
  refine OGo.to (fun _ k => XS.aloadN X0.here hx rfl (hb hby d6_0) rfl rfl k) ?_
  show OGo p e below _ (s₁.setTop (mkF m 1 #[.val (.ref a1)] [(.ref a1)]))
  obtain ⟨T_1, X_1, e_1, st_1⟩ := initO X0 hx hZ hown (hw _ (List.mem_of_getElem? (i := 38) rfl)) (hw _ (List.mem_of_getElem? (i := 20) rfl)) (hw _ (List.mem_of_getElem? (i := 21) rfl)) e0 (g := (mkF m 1 #[.val (.ref a1)] [(.ref a1)])) rfl (by rw [hml]; rfl) rfl (hb hby d6_1) (by decide) (W := 0) (by show 2 * 0 + _ ≤ _; exact Nat.le_of_eq rfl) (by decide)
  refine OGo.to st_1 ?_
  show OGo p e below _ (T_1.setTop (mkF m 4 #[.val (.ref a1)] []))
  refine OGo.ret (Q := Q6 Z a1 h0 n0) X_1 none (fun _ => rfl) Bd.notSynchronized (fun fs hr => X_1.returnOut hx Bd.returns (hb hby d6_4) hr) ?_ (by decide) (by decide)
  show Q6 Z a1 h0 n0 _ T_1.heap _
  rw [e_1]
  exact ⟨rfl, N0, rfl⟩
theorem d3_0 : decode jdk_22_method_1_code 0 = .ok (.aload_n 0, 1) := by decide +kernel
theorem d3_1 : decode jdk_22_method_1_code 1 = .ok (.invokespecial 1, 3) := by decide +kernel
theorem d3_4 : decode jdk_22_method_1_code 4 = .ok (.return_, 1) := by decide +kernel
theorem ef_3 (m : MethodId) (x0 : Addr) : entryFrame m #[(.ref x0)] 1 = mkF m 0 #[.val (.ref x0)] [] := by first | (simp [entryFrame, mkF, argsToLocals, Value.category]; done) | rfl
def Q3 (Z : State) (a1 : Addr) (h0 : Heap) (n0 : Nat) (v : Option Value) (h : Heap) (L : List Loc) : Prop := v = none ∧ Fr n0 L ∧ h = h0
set_option maxRecDepth 65536 in
set_option maxHeartbeats 40000000 in
theorem rm3 (l : Launch) (Z : State) (a0 : Array Value) (hw : ∀ d ∈ tables_1, d.before a0 Z = true) (ws : List Jvm.Cond) (a1 : Addr) (h0 : Heap) (n0 : Nat) (Z0 : n0 ≤ h0.size) :
    MetFree l (⟨"java/util/AbstractCollection", "<init>", "()V"⟩ : MethodName) (head1 (Jvm.Cond.code (⟨"java/util/AbstractCollection", "<init>", "()V"⟩ : MethodName) jdk_22_method_1_code 1 none :: ws) ({ frames := 1, cells := 0, slots := 0, locals := 12 } : Room)) (fun a U => a = #[(.ref a1)] ∧ Z.Warmed39 U.vm ∧ U.heap = h0) (fun _ _ _ _ _ => True) (fun _ U o U' => ∃ v L, o = .returned v ∧ Q3 Z a1 h0 n0 v U'.heap L ∧ FrameEnd U o U' L ({ frames := 1, cells := 0, slots := 0, locals := 12 } : Room).cells ({ frames := 1, cells := 0, slots := 0, locals := 12 } : Room).slots) := by
  refine MetFree.of_bodySF (plainFor_of_name pn_1) hisR ?_
  intro p e s m args below meth c s₁ Bd hml0 hP hK
  obtain ⟨rfl, hZ, hh⟩ := hP
  have hx := Bd.exec
  have hby := Bd.bytes
  have hml : c.maxLocals = 1 := hml0
  have hown : s.vm.findClass "java/util/AbstractCollection" = some m.cls := findClass_of_methodNamed Bd.named
  have hnm := (name_of_methodNamed Bd.named Bd.method).1
  have X0 : Stand p l e ({ frames := 1, cells := 0, slots := 0, locals := 12 } : Room) s m #[(.ref a1)] below meth c s₁ [] 0 0 := Stand.of_body Bd
  have e0 : s₁.heap = h0 := by rw [← hh, Bd.state]; rfl
  have N0 := Fr.nil n0
  show OGo p e below (fun s₂ o => ∃ v L, o = .returned v ∧ Q3 Z a1 h0 n0 v s₂.heap L ∧ FrameEnd s o s₂ L ({ frames := 1, cells := 0, slots := 0, locals := 12 } : Room).cells ({ frames := 1, cells := 0, slots := 0, locals := 12 } : Room).slots) _
  refine OGo.to (fun _ k => castTop (ef_3 m a1) k) ?_
  refine OGo.to (fun _ k => XS.aloadN X0.here hx rfl (hb hby d3_0) rfl rfl k) ?_
  show OGo p e below _ (s₁.setTop (mkF m 1 #[.val (.ref a1)] [(.ref a1)]))
  obtain ⟨T_1, X_1, e_1, st_1⟩ := initO X0 hx hZ hown (hw _ (List.mem_of_getElem? (i := 19) rfl)) (hw _ (List.mem_of_getElem? (i := 20) rfl)) (hw _ (List.mem_of_getElem? (i := 21) rfl)) e0 (g := (mkF m 1 #[.val (.ref a1)] [(.ref a1)])) rfl (by rw [hml]; rfl) rfl (hb hby d3_1) (by decide) (W := 0) (by show 2 * 0 + _ ≤ _; exact Nat.le_of_eq rfl) (by decide)
  refine OGo.to st_1 ?_
  show OGo p e below _ (T_1.setTop (mkF m 4 #[.val (.ref a1)] []))
  refine OGo.ret (Q := Q3 Z a1 h0 n0) X_1 none (fun _ => rfl) Bd.notSynchronized (fun fs hr => X_1.returnOut hx Bd.returns (hb hby d3_4) hr) ?_ (by decide) (by decide)
  show Q3 Z a1 h0 n0 _ T_1.heap _
  rw [e_1]
  exact ⟨rfl, N0, rfl⟩
theorem d2_0 : decode jdk_39_method_1_code 0 = .ok (.aload_n 0, 1) := by decide +kernel
theorem d2_1 : decode jdk_39_method_1_code 1 = .ok (.invokespecial 1, 3) := by decide +kernel
theorem d2_4 : decode jdk_39_method_1_code 4 = .ok (.aload_n 0, 1) := by decide +kernel
theorem d2_5 : decode jdk_39_method_1_code 5 = .ok (.iconst 0, 1) := by decide +kernel
theorem d2_6 : decode jdk_39_method_1_code 6 = .ok (.putfield 7, 3) := by decide +kernel
theorem d2_9 : decode jdk_39_method_1_code 9 = .ok (.return_, 1) := by decide +kernel
theorem ef_2 (m : MethodId) (x0 : Addr) : entryFrame m #[(.ref x0)] 1 = mkF m 0 #[.val (.ref x0)] [] := by first | (simp [entryFrame, mkF, argsToLocals, Value.category]; done) | rfl
def Q2 (Z : State) (a1 : Addr) (h0 : Heap) (n0 : Nat) (v : Option Value) (h : Heap) (L : List Loc) : Prop := v = none ∧ Fr n0 L ∧ Keep h0 h [a1] ∧ Fld Z h a1 "java/util/AbstractList" "modCount" "I" (.int (0 : Int32)) ∧ Fld Z h a1 "java/util/ArrayList" "size" "I" (.int (0 : Int32)) ∧ Fld Z h a1 "java/util/ArrayList" "elementData" "[Ljava/lang/Object;" .null
set_option maxRecDepth 65536 in
set_option maxHeartbeats 40000000 in
theorem rm2 (l : Launch) (Z : State) (a0 : Array Value) (hw : ∀ d ∈ tables_1, d.before a0 Z = true) (ws : List Jvm.Cond) (a1 : Addr) (h0 : Heap) (n0 : Nat) (Z0 : n0 ≤ h0.size) (E1 : Exa Z h0 a1 "java/util/ArrayList") (F1 : Fld Z h0 a1 "java/util/AbstractList" "modCount" "I" (.int (0 : Int32))) (F2 : Fld Z h0 a1 "java/util/ArrayList" "size" "I" (.int (0 : Int32))) (F3 : Fld Z h0 a1 "java/util/ArrayList" "elementData" "[Ljava/lang/Object;" .null) (g1 : n0 ≤ a1) :
    MetFree l (⟨"java/util/AbstractList", "<init>", "()V"⟩ : MethodName) (head1 (Jvm.Cond.code (⟨"java/util/AbstractList", "<init>", "()V"⟩ : MethodName) jdk_39_method_1_code 1 none :: ws) ({ frames := 2, cells := 0, slots := 0, locals := 24 } : Room)) (fun a U => a = #[(.ref a1)] ∧ Z.Warmed39 U.vm ∧ U.heap = h0) (fun _ _ _ _ _ => True) (fun _ U o U' => ∃ v L, o = .returned v ∧ Q2 Z a1 h0 n0 v U'.heap L ∧ FrameEnd U o U' L ({ frames := 2, cells := 0, slots := 0, locals := 24 } : Room).cells ({ frames := 2, cells := 0, slots := 0, locals := 24 } : Room).slots) := by
  refine MetFree.of_bodySF (plainFor_of_name pn_2) hisR ?_
  intro p e s m args below meth c s₁ Bd hml0 hP hK
  obtain ⟨rfl, hZ, hh⟩ := hP
  have hx := Bd.exec
  have hby := Bd.bytes
  have hml : c.maxLocals = 1 := hml0
  have hown : s.vm.findClass "java/util/AbstractList" = some m.cls := findClass_of_methodNamed Bd.named
  have hnm := (name_of_methodNamed Bd.named Bd.method).1
  have X0 : Stand p l e ({ frames := 2, cells := 0, slots := 0, locals := 24 } : Room) s m #[(.ref a1)] below meth c s₁ [] 0 0 := Stand.of_body Bd
  have e0 : s₁.heap = h0 := by rw [← hh, Bd.state]; rfl
  have N0 := Fr.nil n0
  show OGo p e below (fun s₂ o => ∃ v L, o = .returned v ∧ Q2 Z a1 h0 n0 v s₂.heap L ∧ FrameEnd s o s₂ L ({ frames := 2, cells := 0, slots := 0, locals := 24 } : Room).cells ({ frames := 2, cells := 0, slots := 0, locals := 24 } : Room).slots) _
  refine OGo.to (fun _ k => castTop (ef_2 m a1) k) ?_
  refine OGo.to (fun _ k => XS.aloadN X0.here hx rfl (hb hby d2_0) rfl rfl k) ?_
  show OGo p e below _ (s₁.setTop (mkF m 1 #[.val (.ref a1)] [(.ref a1)]))
  obtain ⟨_, T_1, Lc_1, X_1, hQ_1, st_1⟩ := own_un X0 (Q := Q3 Z a1 h0 n0) (rc := 0) (rs := 0) (W := fun v B => Steps p.tables e below (s₁.setTop (mkF m 1 #[.val (.ref a1)] [(.ref a1)])) (B.setTop { (mkF m 1 #[.val (.ref a1)] [(.ref a1)]) with pc := 4, stack := v.toList ++ [] })) <| X0.specialBack hx (y := (⟨"java/util/AbstractCollection", "<init>", "()V"⟩ : MethodName)) rfl hown (mvT hZ (hw _ (List.mem_of_getElem? (i := 13) rfl))) (mvT hZ (hw _ (List.mem_of_getElem? (i := 14) rfl))) (mvT hZ (hw _ (List.mem_of_getElem? (i := 18) rfl))) (by decide) (backOf (W := 0) (rm3 l Z a0 hw [] a1 h0 n0 Z0 ) hZ (hw _ (List.mem_of_getElem? (i := 18) rfl)) (hw _ (List.mem_of_getElem? (i := 17) rfl)) (by decide) (by decide)) (g := (mkF m 1 #[.val (.ref a1)] [(.ref a1)])) rfl (by rw [hml]; rfl) (Steps.refl _) (a := a1) (argsL := []) (rest := []) (lenOf pd_0 rfl) rfl (by show 2 * 0 + _ ≤ _; exact Nat.le_of_eq rfl) (hb hby d2_1) (fun _ _ => ⟨rfl, e0, (by decide : 0 + 0 ≤ _), (by decide : 0 + 0 ≤ _)⟩)
  obtain ⟨rfl, N_1q, e_1⟩ := hQ_1
  have N_1 := Fr.app N0 N_1q
  refine OGo.to (fun _ k => st_1.trans k) ?_
  show OGo p e below _ (T_1.setTop (mkF m 4 #[.val (.ref a1)] []))
  refine OGo.to (fun _ k => XS.aloadN X_1.here hx rfl (hb hby d2_4) rfl rfl k) ?_
  show OGo p e below _ (T_1.setTop (mkF m 5 #[.val (.ref a1)] [(.ref a1)]))
  refine OGo.to (fun _ k => XS.iconst X_1.here hx rfl (hb hby d2_5) k) ?_
  show OGo p e below _ (T_1.setTop (mkF m 6 #[.val (.ref a1)] [(.int (0 : Int32)), (.ref a1)]))
  obtain ⟨T_2, h_2, X_2, e_2, W_2, st_2⟩ := putF X_1 hx hZ hown (host := "") (Or.inl (hw _ (List.mem_of_getElem? (i := 22) rfl))) Via.refl e_1 F1 E1 (Or.inl (hw _ (List.mem_of_getElem? (i := 23) rfl))) (hw _ (List.mem_of_getElem? (i := 2) rfl)) (ty := .int) (by decide) rfl rfl (g := (mkF m 6 #[.val (.ref a1)] [(.int (0 : Int32)), (.ref a1)])) rfl rfl (hb hby d2_6)
  refine OGo.to st_2 ?_
  have Fw_2 : Fld Z h_2 a1 "java/util/AbstractList" "modCount" "I" (.int (0 : Int32)) := F1.same W_2
  have N_2 := Fr.snoc X_2 N_1 g1
  have z_3 : n0 ≤ h_2.size := Nat.le_trans Z0 (Keep.of_wr W_2).1
  have K_4 : Keep h0 h_2 [a1] := (Keep.refl h0 [a1]).wr W_2 (Or.inl (List.mem_of_getElem? (i := 0) rfl))
  show OGo p e below _ (T_2.setTop (mkF m 9 #[.val (.ref a1)] []))
  refine OGo.ret (Q := Q2 Z a1 h0 n0) X_2 none (fun _ => rfl) Bd.notSynchronized (fun fs hr => X_2.returnOut hx Bd.returns (hb hby d2_9) hr) ?_ (by decide) (by decide)
  have f_5 : Fld Z h_2 a1 "java/util/ArrayList" "size" "I" (.int (0 : Int32)) := (F2.other W_2 (Or.inr (slot_ne (Or.inl (hw _ (List.mem_of_getElem? (i := 51) rfl))) (Or.inl (hw _ (List.mem_of_getElem? (i := 23) rfl))) (by decide) (t := .int) (t' := .int) (by decide) (by decide))))
  have f_6 : Fld Z h_2 a1 "java/util/ArrayList" "elementData" "[Ljava/lang/Object;" .null := (F3.other W_2 (Or.inr (slot_ne (Or.inl (hw _ (List.mem_of_getElem? (i := 26) rfl))) (Or.inl (hw _ (List.mem_of_getElem? (i := 23) rfl))) (by decide) (t := (.array (.object "java/lang/Object"))) (t' := .int) (by decide) (by decide))))
  show Q2 Z a1 h0 n0 _ T_2.heap _
  rw [e_2]
  exact ⟨rfl, N_2, K_4, Fw_2, f_5, f_6⟩
theorem d1_0 : decode jdk_38_method_2_code 0 = .ok (.aload_n 0, 1) := by decide +kernel
theorem d1_1 : decode jdk_38_method_2_code 1 = .ok (.invokespecial 1, 3) := by decide +kernel
theorem d1_4 : decode jdk_38_method_2_code 4 = .ok (.aload_n 0, 1) := by decide +kernel
theorem d1_5 : decode jdk_38_method_2_code 5 = .ok (.getstatic 39, 3) := by decide +kernel
theorem d1_8 : decode jdk_38_method_2_code 8 = .ok (.putfield 9, 3) := by decide +kernel
theorem d1_11 : decode jdk_38_method_2_code 11 = .ok (.return_, 1) := by decide +kernel
theorem ef_1 (m : MethodId) (x0 : Addr) : entryFrame m #[(.ref x0)] 1 = mkF m 0 #[.val (.ref x0)] [] := by first | (simp [entryFrame, mkF, argsToLocals, Value.category]; done) | rfl
def Q1 (Z : State) (a1 : Addr) (dd : Addr) (h0 : Heap) (n0 : Nat) (v : Option Value) (h : Heap) (L : List Loc) : Prop := v = none ∧ Fr n0 L ∧ Keep h0 h [a1] ∧ Fld Z h a1 "java/util/AbstractList" "modCount" "I" (.int (0 : Int32)) ∧ Fld Z h a1 "java/util/ArrayList" "size" "I" (.int (0 : Int32)) ∧ Fld Z h a1 "java/util/ArrayList" "elementData" "[Ljava/lang/Object;" (.ref dd)
set_option maxRecDepth 65536 in
set_option maxHeartbeats 40000000 in
theorem rm1 (l : Launch) (Z : State) (a0 : Array Value) (hw : ∀ d ∈ tables_1, d.before a0 Z = true) (ws : List Jvm.Cond) (a1 : Addr) (dd : Addr) (h0 : Heap) (n0 : Nat) (Z0 : n0 ≤ h0.size) (E1 : Exa Z h0 a1 "java/util/ArrayList") (F1 : Fld Z h0 a1 "java/util/AbstractList" "modCount" "I" (.int (0 : Int32))) (F2 : Fld Z h0 a1 "java/util/ArrayList" "size" "I" (.int (0 : Int32))) (F3 : Fld Z h0 a1 "java/util/ArrayList" "elementData" "[Ljava/lang/Object;" .null) (g1 : n0 ≤ a1) (S1 : Sta Z Z.heap "java/util/ArrayList" "DEFAULTCAPACITY_EMPTY_ELEMENTDATA" "[Ljava/lang/Object;" (.ref dd)) (O0 : Old Z n0 h0) :
    MetFree l (⟨"java/util/ArrayList", "<init>", "()V"⟩ : MethodName) (head1 (Jvm.Cond.code (⟨"java/util/ArrayList", "<init>", "()V"⟩ : MethodName) jdk_38_method_2_code 1 none :: ws) ({ frames := 3, cells := 0, slots := 0, locals := 36 } : Room)) (fun a U => a = #[(.ref a1)] ∧ Z.Warmed39 U.vm ∧ U.heap = h0) (fun _ _ _ _ _ => True) (fun _ U o U' => ∃ v L, o = .returned v ∧ Q1 Z a1 dd h0 n0 v U'.heap L ∧ FrameEnd U o U' L ({ frames := 3, cells := 0, slots := 0, locals := 36 } : Room).cells ({ frames := 3, cells := 0, slots := 0, locals := 36 } : Room).slots) := by
  refine MetFree.of_bodySF (plainFor_of_name pn_3) hisR ?_
  intro p e s m args below meth c s₁ Bd hml0 hP hK
  obtain ⟨rfl, hZ, hh⟩ := hP
  have hx := Bd.exec
  have hby := Bd.bytes
  have hml : c.maxLocals = 1 := hml0
  have hown : s.vm.findClass "java/util/ArrayList" = some m.cls := findClass_of_methodNamed Bd.named
  have hnm := (name_of_methodNamed Bd.named Bd.method).1
  have X0 : Stand p l e ({ frames := 3, cells := 0, slots := 0, locals := 36 } : Room) s m #[(.ref a1)] below meth c s₁ [] 0 0 := Stand.of_body Bd
  have e0 : s₁.heap = h0 := by rw [← hh, Bd.state]; rfl
  have N0 := Fr.nil n0
  show OGo p e below (fun s₂ o => ∃ v L, o = .returned v ∧ Q1 Z a1 dd h0 n0 v s₂.heap L ∧ FrameEnd s o s₂ L ({ frames := 3, cells := 0, slots := 0, locals := 36 } : Room).cells ({ frames := 3, cells := 0, slots := 0, locals := 36 } : Room).slots) _
  refine OGo.to (fun _ k => castTop (ef_1 m a1) k) ?_
  refine OGo.to (fun _ k => XS.aloadN X0.here hx rfl (hb hby d1_0) rfl rfl k) ?_
  show OGo p e below _ (s₁.setTop (mkF m 1 #[.val (.ref a1)] [(.ref a1)]))
  obtain ⟨_, T_1, Lc_1, X_1, hQ_1, st_1⟩ := own_un X0 (Q := Q2 Z a1 h0 n0) (rc := 0) (rs := 0) (W := fun v B => Steps p.tables e below (s₁.setTop (mkF m 1 #[.val (.ref a1)] [(.ref a1)])) (B.setTop { (mkF m 1 #[.val (.ref a1)] [(.ref a1)]) with pc := 4, stack := v.toList ++ [] })) <| X0.specialBack hx (y := (⟨"java/util/AbstractList", "<init>", "()V"⟩ : MethodName)) rfl hown (mvT hZ (hw _ (List.mem_of_getElem? (i := 7) rfl))) (mvT hZ (hw _ (List.mem_of_getElem? (i := 8) rfl))) (mvT hZ (hw _ (List.mem_of_getElem? (i := 12) rfl))) (by decide) (backOf (W := 0) (rm2 l Z a0 hw [] a1 h0 n0 Z0 E1 F1 F2 F3 g1) hZ (hw _ (List.mem_of_getElem? (i := 12) rfl)) (hw _ (List.mem_of_getElem? (i := 11) rfl)) (by decide) (by decide)) (g := (mkF m 1 #[.val (.ref a1)] [(.ref a1)])) rfl (by rw [hml]; rfl) (Steps.refl _) (a := a1) (argsL := []) (rest := []) (lenOf pd_0 rfl) rfl (by show 2 * 0 + _ ≤ _; exact Nat.le_of_eq rfl) (hb hby d1_1) (fun _ _ => ⟨rfl, e0, (by decide : 0 + 0 ≤ _), (by decide : 0 + 0 ≤ _)⟩)
  obtain ⟨rfl, N_1q, K_1, p_1_0, p_1_1, p_1_2⟩ := hQ_1
  have N_1 := Fr.app N0 N_1q
  refine OGo.to (fun _ k => st_1.trans k) ?_
  have z_2 : n0 ≤ T_1.heap.size := Nat.le_trans Z0 K_1.1
  have O_3 : Old Z n0 T_1.heap := O0.keep K_1 (allS g1 all0)
  have K_4 : Keep h0 T_1.heap [a1] := (Keep.refl h0 [a1]).trans K_1 (by intro x hx'; cases List.mem_singleton.mp hx'; exact (Or.inl (List.mem_of_getElem? (i := 0) rfl)))
  show OGo p e below _ (T_1.setTop (mkF m 4 #[.val (.ref a1)] []))
  refine OGo.to (fun _ k => XS.aloadN X_1.here hx rfl (hb hby d1_4) rfl rfl k) ?_
  show OGo p e below _ (T_1.setTop (mkF m 5 #[.val (.ref a1)] [(.ref a1)]))
  have f_5 : Sta Z T_1.heap "java/util/ArrayList" "DEFAULTCAPACITY_EMPTY_ELEMENTDATA" "[Ljava/lang/Object;" (.ref dd) := Sta.ext O_3.2 S1
  obtain ⟨T_6, X_6, e_6, st_6⟩ := getS2 X_1 hx hZ hown (host := "") (Or.inl (hw _ (List.mem_of_getElem? (i := 24) rfl))) Via.refl (rfl : T_1.heap = T_1.heap) f_5 (g := (mkF m 5 #[.val (.ref a1)] [(.ref a1)])) rfl (hb hby d1_5)
  refine OGo.to st_6 ?_
  show OGo p e below _ (T_6.setTop (mkF m 8 #[.val (.ref a1)] [(.ref dd), (.ref a1)]))
  have f_7 : Exa Z T_1.heap a1 "java/util/ArrayList" := (E1.keep K_1)
  obtain ⟨T_8, h_8, X_8, e_8, W_8, st_8⟩ := putF X_6 hx hZ hown (host := "") (Or.inl (hw _ (List.mem_of_getElem? (i := 25) rfl))) Via.refl e_6 p_1_2 f_7 (Or.inl (hw _ (List.mem_of_getElem? (i := 26) rfl))) (hw _ (List.mem_of_getElem? (i := 2) rfl)) (ty := (.array (.object "java/lang/Object"))) (by decide) rfl rfl (g := (mkF m 8 #[.val (.ref a1)] [(.ref dd), (.ref a1)])) rfl rfl (hb hby d1_8)
  refine OGo.to st_8 ?_
  have Fw_8 : Fld Z h_8 a1 "java/util/ArrayList" "elementData" "[Ljava/lang/Object;" (.ref dd) := p_1_2.same W_8
  have N_8 := Fr.snoc X_8 N_1 g1
  have z_9 : n0 ≤ h_8.size := Nat.le_trans z_2 (Keep.of_wr W_8).1
  have O_10 : Old Z n0 h_8 := O_3.wr W_8 g1
  have K_11 : Keep h0 h_8 [a1] := K_4.wr W_8 (Or.inl (List.mem_of_getElem? (i := 0) rfl))
  show OGo p e below _ (T_8.setTop (mkF m 11 #[.val (.ref a1)] []))
  refine OGo.ret (Q := Q1 Z a1 dd h0 n0) X_8 none (fun _ => rfl) Bd.notSynchronized (fun fs hr => X_8.returnOut hx Bd.returns (hb hby d1_11) hr) ?_ (by decide) (by decide)
  have f_12 : Fld Z h_8 a1 "java/util/AbstractList" "modCount" "I" (.int (0 : Int32)) := (p_1_0.other W_8 (Or.inr (slot_ne (Or.inl (hw _ (List.mem_of_getElem? (i := 23) rfl))) (Or.inl (hw _ (List.mem_of_getElem? (i := 26) rfl))) (by decide) (t := .int) (t' := (.array (.object "java/lang/Object"))) (by decide) (by decide))))
  have f_13 : Fld Z h_8 a1 "java/util/ArrayList" "size" "I" (.int (0 : Int32)) := (p_1_1.other W_8 (Or.inr (slot_ne (Or.inl (hw _ (List.mem_of_getElem? (i := 51) rfl))) (Or.inl (hw _ (List.mem_of_getElem? (i := 26) rfl))) (by decide) (t := .int) (t' := (.array (.object "java/lang/Object"))) (by decide) (by decide))))
  show Q1 Z a1 dd h0 n0 _ T_8.heap _
  rw [e_8]
  exact ⟨rfl, N_8, K_11, f_12, f_13, Fw_8⟩
theorem d11_0 : decode jdk_29_method_65_code 0 = .ok (.iload_n 0, 1) := by decide +kernel
theorem d11_1 : decode jdk_29_method_65_code 1 = .ok (.iload_n 1, 1) := by decide +kernel
theorem d11_2 : decode jdk_29_method_65_code 2 = .ok (.if_icmp .lt 7, 3) := by decide +kernel
theorem d11_5 : decode jdk_29_method_65_code 5 = .ok (.iload_n 0, 1) := by decide +kernel
theorem d11_6 : decode jdk_29_method_65_code 6 = .ok (.goto 4, 3) := by decide +kernel
theorem d11_10 : decode jdk_29_method_65_code 10 = .ok (.ireturn, 1) := by decide +kernel
theorem ef_11 (m : MethodId) (x0 : Int32) (x1 : Int32) : entryFrame m #[(.int x0), (.int x1)] 2 = mkF m 0 #[.val (.int x0), .val (.int x1)] [] := by first | (simp [entryFrame, mkF, argsToLocals, Value.category]; done) | rfl
def Q11 (Z : State)  (h0 : Heap) (n0 : Nat) (v : Option Value) (h : Heap) (L : List Loc) : Prop := v = some (.int (10 : Int32)) ∧ Fr n0 L ∧ h = h0
set_option maxRecDepth 65536 in
set_option maxHeartbeats 40000000 in
theorem rm11 (l : Launch) (Z : State) (a0 : Array Value) (hw : ∀ d ∈ tables_1, d.before a0 Z = true) (ws : List Jvm.Cond)  (h0 : Heap) (n0 : Nat) (Z0 : n0 ≤ h0.size) :
    MetFree l (⟨"java/lang/Math", "max", "(II)I"⟩ : MethodName) (head1 (Jvm.Cond.code (⟨"java/lang/Math", "max", "(II)I"⟩ : MethodName) jdk_29_method_65_code 2 (some .int) :: ws) ({ frames := 0, cells := 0, slots := 0, locals := 0 } : Room)) (fun a U => a = #[(.int (10 : Int32)), (.int (1 : Int32))] ∧ Z.Warmed39 U.vm ∧ U.heap = h0) (fun _ _ _ _ _ => True) (fun _ U o U' => ∃ v L, o = .returned v ∧ Q11 Z  h0 n0 v U'.heap L ∧ FrameEnd U o U' L ({ frames := 0, cells := 0, slots := 0, locals := 0 } : Room).cells ({ frames := 0, cells := 0, slots := 0, locals := 0 } : Room).slots) := by
  refine MetFree.of_bodySF (Jvm.Free.JP.mathPlain rfl (by decide +kernel)) hisR ?_
  intro p e s m args below meth c s₁ Bd hml0 hP hK
  obtain ⟨rfl, hZ, hh⟩ := hP
  have hx := Bd.exec
  have hby := Bd.bytes
  have hml : c.maxLocals = 2 := hml0
  have hown : s.vm.findClass "java/lang/Math" = some m.cls := findClass_of_methodNamed Bd.named
  have hnm := (name_of_methodNamed Bd.named Bd.method).1
  have X0 : Stand p l e ({ frames := 0, cells := 0, slots := 0, locals := 0 } : Room) s m #[(.int (10 : Int32)), (.int (1 : Int32))] below meth c s₁ [] 0 0 := Stand.of_body Bd
  have e0 : s₁.heap = h0 := by rw [← hh, Bd.state]; rfl
  have N0 := Fr.nil n0
  show OGo p e below (fun s₂ o => ∃ v L, o = .returned v ∧ Q11 Z  h0 n0 v s₂.heap L ∧ FrameEnd s o s₂ L ({ frames := 0, cells := 0, slots := 0, locals := 0 } : Room).cells ({ frames := 0, cells := 0, slots := 0, locals := 0 } : Room).slots) _
  refine OGo.to (fun _ k => castTop (ef_11 m (10 : Int32) (1 : Int32)) k) ?_
  refine OGo.to (fun _ k => XS.iloadN X0.here hx rfl (hb hby d11_0) rfl k) ?_
  show OGo p e below _ (s₁.setTop (mkF m 1 #[.val (.int (10 : Int32)), .val (.int (1 : Int32))] [(.int (10 : Int32))]))
  refine OGo.to (fun _ k => XS.iloadN X0.here hx rfl (hb hby d11_1) rfl k) ?_
  show OGo p e below _ (s₁.setTop (mkF m 2 #[.val (.int (10 : Int32)), .val (.int (1 : Int32))] [(.int (1 : Int32)), (.int (10 : Int32))]))
  have hc2__1 : ¬ ((10 : Int32) < (1 : Int32)) := by decide
  refine OGo.to (fun _ k => XS.icmpNo X0.here hx rfl (hb hby d11_2) rfl (flt hc2__1).1 k) ?_
  show OGo p e below _ (s₁.setTop (mkF m 5 #[.val (.int (10 : Int32)), .val (.int (1 : Int32))] []))
  refine OGo.to (fun _ k => XS.iloadN X0.here hx rfl (hb hby d11_5) rfl k) ?_
  show OGo p e below _ (s₁.setTop (mkF m 6 #[.val (.int (10 : Int32)), .val (.int (1 : Int32))] [(.int (10 : Int32))]))
  refine OGo.to (fun _ k => XS.goto X0.here hx rfl (pc0 := 6) (pc' := 10) rfl (hb hby d11_6) (by decide) (by decide) k) ?_
  show OGo p e below _ (s₁.setTop (mkF m 10 #[.val (.int (10 : Int32)), .val (.int (1 : Int32))] [(.int (10 : Int32))]))
  refine OGo.ret (Q := Q11 Z  h0 n0) X0 (some (.int (10 : Int32))) (fun h => by rw [Bd.returns] at h; cases h) Bd.notSynchronized (fun fs hr => retI X0 hx Bd.returns (hb hby d11_10) hr) ?_ (by decide) (by decide)
  show Q11 Z  h0 n0 _ s₁.heap _
  rw [e0]
  exact ⟨rfl, N0, rfl⟩
theorem d10_0 : decode jdk_38_method_6_code 0 = .ok (.aload_n 0, 1) := by decide +kernel
theorem d10_1 : decode jdk_38_method_6_code 1 = .ok (.getfield 9, 3) := by decide +kernel
theorem d10_4 : decode jdk_38_method_6_code 4 = .ok (.arraylength, 1) := by decide +kernel
theorem d10_5 : decode jdk_38_method_6_code 5 = .ok (.istore_n 2, 1) := by decide +kernel
theorem d10_6 : decode jdk_38_method_6_code 6 = .ok (.iload_n 2, 1) := by decide +kernel
theorem d10_7 : decode jdk_38_method_6_code 7 = .ok (.ifCond .gt 13, 3) := by decide +kernel
theorem d10_10 : decode jdk_38_method_6_code 10 = .ok (.aload_n 0, 1) := by decide +kernel
theorem d10_11 : decode jdk_38_method_6_code 11 = .ok (.getfield 9, 3) := by decide +kernel
theorem d10_14 : decode jdk_38_method_6_code 14 = .ok (.getstatic 39, 3) := by decide +kernel
theorem d10_17 : decode jdk_38_method_6_code 17 = .ok (.if_acmp .eq 28, 3) := by decide +kernel
theorem d10_45 : decode jdk_38_method_6_code 45 = .ok (.aload_n 0, 1) := by decide +kernel
theorem d10_46 : decode jdk_38_method_6_code 46 = .ok (.bipush 10, 2) := by decide +kernel
theorem d10_48 : decode jdk_38_method_6_code 48 = .ok (.iload_n 1, 1) := by decide +kernel
theorem d10_49 : decode jdk_38_method_6_code 49 = .ok (.invokestatic 79, 3) := by decide +kernel
theorem d10_52 : decode jdk_38_method_6_code 52 = .ok (.anewarray 7, 3) := by decide +kernel
theorem d10_55 : decode jdk_38_method_6_code 55 = .ok (.dup_x1, 1) := by decide +kernel
theorem d10_56 : decode jdk_38_method_6_code 56 = .ok (.putfield 9, 3) := by decide +kernel
theorem d10_59 : decode jdk_38_method_6_code 59 = .ok (.areturn, 1) := by decide +kernel
theorem ef_10 (m : MethodId) (x0 : Addr) (x1 : Int32) : entryFrame m #[(.ref x0), (.int x1)] 4 = mkF m 0 #[.val (.ref x0), .val (.int x1), .unset, .unset] [] := by first | (simp [entryFrame, mkF, argsToLocals, Value.category]; done) | rfl
def Q10 (Z : State) (a1 : Addr) (dd : Addr) (kd : ClassId) (h0 : Heap) (n0 : Nat) (v : Option Value) (h : Heap) (L : List Loc) : Prop := ∃ (b : Addr), ∃ (kb : ClassId), v = some (.ref b) ∧ Fr n0 L ∧ Keep h0 h [a1] ∧ n0 ≤ b ∧ h0.size ≤ b ∧ Fld Z h a1 "java/util/AbstractList" "modCount" "I" (.int (1 : Int32)) ∧ Fld Z h a1 "java/util/ArrayList" "size" "I" (.int (0 : Int32)) ∧ Fld Z h a1 "java/util/ArrayList" "elementData" "[Ljava/lang/Object;" (.ref b) ∧ Arv Z h b kb (.object "java/lang/Object") (10 : Int32) [.null, .null, .null, .null, .null, .null, .null, .null, .null, .null] .null ∧ Ovr Z kb "java/lang/Object" ∧ a1 ≠ b
set_option maxRecDepth 65536 in
set_option maxHeartbeats 40000000 in
theorem rm10 (l : Launch) (Z : State) (a0 : Array Value) (hw : ∀ d ∈ tables_1, d.before a0 Z = true) (ws : List Jvm.Cond) (a1 : Addr) (dd : Addr) (kd : ClassId) (h0 : Heap) (n0 : Nat) (Z0 : n0 ≤ h0.size) (E1 : Exa Z h0 a1 "java/util/ArrayList") (F1 : Fld Z h0 a1 "java/util/AbstractList" "modCount" "I" (.int (1 : Int32))) (F2 : Fld Z h0 a1 "java/util/ArrayList" "size" "I" (.int (0 : Int32))) (F3 : Fld Z h0 a1 "java/util/ArrayList" "elementData" "[Ljava/lang/Object;" (.ref dd)) (g1 : n0 ≤ a1) (S1 : Sta Z Z.heap "java/util/ArrayList" "DEFAULTCAPACITY_EMPTY_ELEMENTDATA" "[Ljava/lang/Object;" (.ref dd)) (VD : Arv Z Z.heap dd kd (.object "java/lang/Object") (0 : Int32) [] .null) (O0 : Old Z n0 h0) :
    MetFree l (⟨"java/util/ArrayList", "grow", "(I)[Ljava/lang/Object;"⟩ : MethodName) (head1 (Jvm.Cond.code (⟨"java/util/ArrayList", "grow", "(I)[Ljava/lang/Object;"⟩ : MethodName) jdk_38_method_6_code 4 (some (.array (.object "java/lang/Object"))) :: ws) ({ frames := 1, cells := 1, slots := 10, locals := 14 } : Room)) (fun a U => a = #[(.ref a1), (.int (1 : Int32))] ∧ Z.Warmed39 U.vm ∧ U.heap = h0) (fun _ _ _ _ _ => True) (fun _ U o U' => ∃ v L, o = .returned v ∧ Q10 Z a1 dd kd h0 n0 v U'.heap L ∧ FrameEnd U o U' L ({ frames := 1, cells := 1, slots := 10, locals := 14 } : Room).cells ({ frames := 1, cells := 1, slots := 10, locals := 14 } : Room).slots) := by
  refine MetFree.of_bodySF (plainFor_of_name pn_3) hisR ?_
  intro p e s m args below meth c s₁ Bd hml0 hP hK
  obtain ⟨rfl, hZ, hh⟩ := hP
  have hx := Bd.exec
  have hby := Bd.bytes
  have hml : c.maxLocals = 4 := hml0
  have hown : s.vm.findClass "java/util/ArrayList" = some m.cls := findClass_of_methodNamed Bd.named
  have hnm := (name_of_methodNamed Bd.named Bd.method).1
  have X0 : Stand p l e ({ frames := 1, cells := 1, slots := 10, locals := 14 } : Room) s m #[(.ref a1), (.int (1 : Int32))] below meth c s₁ [] 0 0 := Stand.of_body Bd
  have e0 : s₁.heap = h0 := by rw [← hh, Bd.state]; rfl
  have N0 := Fr.nil n0
  show OGo p e below (fun s₂ o => ∃ v L, o = .returned v ∧ Q10 Z a1 dd kd h0 n0 v s₂.heap L ∧ FrameEnd s o s₂ L ({ frames := 1, cells := 1, slots := 10, locals := 14 } : Room).cells ({ frames := 1, cells := 1, slots := 10, locals := 14 } : Room).slots) _
  refine OGo.to (fun _ k => castTop (ef_10 m a1 (1 : Int32)) k) ?_
  refine OGo.to (fun _ k => XS.aloadN X0.here hx rfl (hb hby d10_0) rfl rfl k) ?_
  show OGo p e below _ (s₁.setTop (mkF m 1 #[.val (.ref a1), .val (.int (1 : Int32)), .unset, .unset] [(.ref a1)]))
  obtain ⟨T_1, X_1, e_1, st_1⟩ := getF X0 hx hZ hown (host := "") (Or.inl (hw _ (List.mem_of_getElem? (i := 25) rfl))) Via.refl e0 F3 (g := (mkF m 1 #[.val (.ref a1), .val (.int (1 : Int32)), .unset, .unset] [(.ref a1)])) rfl rfl (hb hby d10_1)
  refine OGo.to st_1 ?_
  show OGo p e below _ (T_1.setTop (mkF m 4 #[.val (.ref a1), .val (.int (1 : Int32)), .unset, .unset] [(.ref dd)]))
  have f_2 : Arv Z h0 dd kd (.object "java/lang/Object") (0 : Int32) [] .null := VD.ext O0.2
  have Vq_3 := f_2
  obtain ⟨cl_3, Ar_3, q_3, S_3, M_3, Hs_3, G_3⟩ := Vq_3
  refine OGo.to (fun _ k => X_1.arraylength hx (by rw [e_1]; exact Ar_3.1) (State.isArrayOf_alike hZ.alike Ar_3.2.1) (g := (mkF m 4 #[.val (.ref a1), .val (.int (1 : Int32)), .unset, .unset] [(.ref dd)])) rfl rfl (hb hby d10_4) _ k) ?_
  rw [len_of S_3 M_3]
  show OGo p e below _ (T_1.setTop (mkF m 5 #[.val (.ref a1), .val (.int (1 : Int32)), .unset, .unset] [(.int (0 : Int32))]))
  refine OGo.to (fun _ k => XS.istoreN X_1.here hx rfl (hb hby d10_5) rfl (l' := #[.val (.ref a1), .val (.int (1 : Int32)), .val (.int (0 : Int32)), .unset]) rfl k) ?_
  show OGo p e below _ (T_1.setTop (mkF m 6 #[.val (.ref a1), .val (.int (1 : Int32)), .val (.int (0 : Int32)), .unset] []))
  refine OGo.to (fun _ k => XS.iloadN X_1.here hx rfl (hb hby d10_6) rfl k) ?_
  show OGo p e below _ (T_1.setTop (mkF m 7 #[.val (.ref a1), .val (.int (1 : Int32)), .val (.int (0 : Int32)), .unset] [(.int (0 : Int32))]))
  have hc7__4 : ¬ ((0 : Int32) < (0 : Int32)) := by decide
  refine OGo.to (fun _ k => XS.ifNo X_1.here hx rfl (hb hby d10_7) rfl ((if0 _ _).trans (flt hc7__4).2.2.1) k) ?_
  show OGo p e below _ (T_1.setTop (mkF m 10 #[.val (.ref a1), .val (.int (1 : Int32)), .val (.int (0 : Int32)), .unset] []))
  refine OGo.to (fun _ k => XS.aloadN X_1.here hx rfl (hb hby d10_10) rfl rfl k) ?_
  show OGo p e below _ (T_1.setTop (mkF m 11 #[.val (.ref a1), .val (.int (1 : Int32)), .val (.int (0 : Int32)), .unset] [(.ref a1)]))
  obtain ⟨T_5, X_5, e_5, st_5⟩ := getF X_1 hx hZ hown (host := "") (Or.inl (hw _ (List.mem_of_getElem? (i := 25) rfl))) Via.refl e_1 F3 (g := (mkF m 11 #[.val (.ref a1), .val (.int (1 : Int32)), .val (.int (0 : Int32)), .unset] [(.ref a1)])) rfl rfl (hb hby d10_11)
  refine OGo.to st_5 ?_
  show OGo p e below _ (T_5.setTop (mkF m 14 #[.val (.ref a1), .val (.int (1 : Int32)), .val (.int (0 : Int32)), .unset] [(.ref dd)]))
  have f_6 : Sta Z h0 "java/util/ArrayList" "DEFAULTCAPACITY_EMPTY_ELEMENTDATA" "[Ljava/lang/Object;" (.ref dd) := Sta.ext O0.2 S1
  obtain ⟨T_7, X_7, e_7, st_7⟩ := getS2 X_5 hx hZ hown (host := "") (Or.inl (hw _ (List.mem_of_getElem? (i := 24) rfl))) Via.refl e_5 f_6 (g := (mkF m 14 #[.val (.ref a1), .val (.int (1 : Int32)), .val (.int (0 : Int32)), .unset] [(.ref dd)])) rfl (hb hby d10_14)
  refine OGo.to st_7 ?_
  show OGo p e below _ (T_7.setTop (mkF m 17 #[.val (.ref a1), .val (.int (1 : Int32)), .val (.int (0 : Int32)), .unset] [(.ref dd), (.ref dd)]))
  refine OGo.to (fun _ k => Jvm.RoadKit.acmp (g := (mkF m 17 #[.val (.ref a1), .val (.int (1 : Int32)), .val (.int (0 : Int32)), .unset] [(.ref dd), (.ref dd)])) X_7 hx rfl rfl rfl (pc0 := 17) (pc' := 45) (same := true) rfl (hb hby d10_17) rfl (decide_eq_true rfl) (by decide) (by decide) k) ?_
  show OGo p e below _ (T_7.setTop (mkF m 45 #[.val (.ref a1), .val (.int (1 : Int32)), .val (.int (0 : Int32)), .unset] []))
  refine OGo.to (fun _ k => XS.aloadN X_7.here hx rfl (hb hby d10_45) rfl rfl k) ?_
  show OGo p e below _ (T_7.setTop (mkF m 46 #[.val (.ref a1), .val (.int (1 : Int32)), .val (.int (0 : Int32)), .unset] [(.ref a1)]))
  refine OGo.to (fun _ k => XS.bipush X_7.here hx rfl (hb hby d10_46) k) ?_
  show OGo p e below _ (T_7.setTop (mkF m 48 #[.val (.ref a1), .val (.int (1 : Int32)), .val (.int (0 : Int32)), .unset] [(.int (10 : Int32)), (.ref a1)]))
  refine OGo.to (fun _ k => XS.iloadN X_7.here hx rfl (hb hby d10_48) rfl k) ?_
  show OGo p e below _ (T_7.setTop (mkF m 49 #[.val (.ref a1), .val (.int (1 : Int32)), .val (.int (0 : Int32)), .unset] [(.int (1 : Int32)), (.int (10 : Int32)), (.ref a1)]))
  obtain ⟨_, T_8, Lc_8, X_8, hQ_8, st_8⟩ := own_un X_7 (Q := Q11 Z  h0 n0) (rc := 0) (rs := 0) (W := fun v B => ∀ target, Steps p.tables e below (B.setTop { (mkF m 49 #[.val (.ref a1), .val (.int (1 : Int32)), .val (.int (0 : Int32)), .unset] [(.int (1 : Int32)), (.int (10 : Int32)), (.ref a1)]) with pc := 52, stack := v.toList ++ [(.ref a1)] }) target → Steps p.tables e below (T_7.setTop (mkF m 49 #[.val (.ref a1), .val (.int (1 : Int32)), .val (.int (0 : Int32)), .unset] [(.int (1 : Int32)), (.int (10 : Int32)), (.ref a1)])) target) <| Jvm.LawKit.callS X_7 hx (y := (⟨"java/lang/Math", "max", "(II)I"⟩ : MethodName)) hown (mvT hZ (hw _ (List.mem_of_getElem? (i := 67) rfl))) (mvT hZ (hw _ (List.mem_of_getElem? (i := 68) rfl))) (mvT hZ (hw _ (List.mem_of_getElem? (i := 69) rfl))) (mvT hZ (hw _ (List.mem_of_getElem? (i := 70) rfl))) (by decide) (backOf (W := 1) (rm11 l Z a0 hw []  h0 n0 Z0 ) hZ (hw _ (List.mem_of_getElem? (i := 70) rfl)) (hw _ (List.mem_of_getElem? (i := 69) rfl)) (by decide) (by decide)) (g := (mkF m 49 #[.val (.ref a1), .val (.int (1 : Int32)), .val (.int (0 : Int32)), .unset] [(.int (1 : Int32)), (.int (10 : Int32)), (.ref a1)])) rfl (by rw [hml]; rfl) (argsL := [(.int (10 : Int32)), (.int (1 : Int32))]) (rest := [(.ref a1)]) (lenOf pd_1 rfl) rfl (by show 2 * 0 + _ ≤ _; exact Nat.le_of_eq rfl) (hb hby d10_49) (fun _ _ => ⟨rfl, e_7, (by decide : 0 + 0 ≤ _), (by decide : 0 + 0 ≤ _)⟩)
  obtain ⟨rfl, N_8q, e_8⟩ := hQ_8
  have N_8 := Fr.app N0 N_8q
  refine OGo.to st_8 ?_
  show OGo p e below _ (T_8.setTop (mkF m 52 #[.val (.ref a1), .val (.int (1 : Int32)), .val (.int (0 : Int32)), .unset] [(.int (10 : Int32)), (.ref a1)]))
  have f_10 : Arv Z h0 dd kd (.object "java/lang/Object") (0 : Int32) [] .null := VD.ext O0.2
  obtain ⟨T_9, h_9, k_9, X_9, e_9, E_9, A_9, O_9, st_9⟩ := newR X_8 hx hZ hown (hw _ (List.mem_of_getElem? (i := 71) rfl)) (hw _ (List.mem_of_getElem? (i := 72) rfl)) e_8 (g := (mkF m 52 #[.val (.ref a1), .val (.int (1 : Int32)), .val (.int (0 : Int32)), .unset] [(.int (10 : Int32)), (.ref a1)])) rfl (hb hby d10_52) rfl (by decide) (cap := 10) (by decide) (by decide) (by decide) (by decide)
  obtain ⟨b_9, g_9⟩ : ∃ z, z = h0.size := ⟨_, rfl⟩
  rw [← g_9] at A_9 st_9
  have g_b_9 : n0 ≤ b_9 := Nat.le_trans Z0 (Nat.le_of_eq g_9.symm)
  have sz_b_9 : h0.size ≤ b_9 := Nat.le_trans (Keep.refl h0 [a1]).1 (Nat.le_of_eq g_9.symm)
  refine OGo.to st_9 ?_
  have ne_a1_b_9 : a1 ≠ b_9 := Nat.ne_of_lt (Nat.lt_of_lt_of_le E1.lt (Nat.le_of_eq g_9.symm))
  have ne_dd_b_9 : dd ≠ b_9 := Nat.ne_of_lt (Nat.lt_of_lt_of_le f_10.lt (Nat.le_of_eq g_9.symm))
  have z_11 : n0 ≤ h_9.size := Nat.le_trans Z0 E_9.1
  have O_12 : Old Z n0 h_9 := O0.ext E_9
  have K_13 : Keep h0 h_9 [a1] := (Keep.refl h0 [a1]).ext E_9
  have V_9 : Arv Z h_9 b_9 k_9 (.object "java/lang/Object") (10 : Int32) [.null, .null, .null, .null, .null, .null, .null, .null, .null, .null] .null := (Arv.new A_9 (by decide)).pad (pad_rep [] .null 10)
  show OGo p e below _ (T_9.setTop (mkF m 55 #[.val (.ref a1), .val (.int (1 : Int32)), .val (.int (0 : Int32)), .unset] [(.ref b_9), (.ref a1)]))
  refine OGo.to (fun _ k => XS.dupX1 X_9.here hx rfl (hb hby d10_55) rfl rfl rfl k) ?_
  show OGo p e below _ (T_9.setTop (mkF m 56 #[.val (.ref a1), .val (.int (1 : Int32)), .val (.int (0 : Int32)), .unset] [(.ref b_9), (.ref a1), (.ref b_9)]))
  have f_14 : Exa Z h_9 a1 "java/util/ArrayList" := (E1.ext E_9)
  have f_15 : Fld Z h_9 a1 "java/util/ArrayList" "elementData" "[Ljava/lang/Object;" (.ref dd) := (F3.ext E_9)
  obtain ⟨T_16, h_16, X_16, e_16, W_16, st_16⟩ := putF X_9 hx hZ hown (host := "") (Or.inl (hw _ (List.mem_of_getElem? (i := 25) rfl))) Via.refl e_9 f_15 f_14 (Or.inl (hw _ (List.mem_of_getElem? (i := 26) rfl))) (hw _ (List.mem_of_getElem? (i := 2) rfl)) (ty := (.array (.object "java/lang/Object"))) (by decide) rfl rfl (g := (mkF m 56 #[.val (.ref a1), .val (.int (1 : Int32)), .val (.int (0 : Int32)), .unset] [(.ref b_9), (.ref a1), (.ref b_9)])) rfl rfl (hb hby d10_56)
  refine OGo.to st_16 ?_
  have Fw_16 : Fld Z h_16 a1 "java/util/ArrayList" "elementData" "[Ljava/lang/Object;" (.ref b_9) := f_15.same W_16
  have N_16 := Fr.snoc X_16 N_8 g1
  have z_17 : n0 ≤ h_16.size := Nat.le_trans z_11 (Keep.of_wr W_16).1
  have O_18 : Old Z n0 h_16 := O_12.wr W_16 g1
  have K_19 : Keep h0 h_16 [a1] := K_13.wr W_16 (Or.inl (List.mem_of_getElem? (i := 0) rfl))
  show OGo p e below _ (T_16.setTop (mkF m 59 #[.val (.ref a1), .val (.int (1 : Int32)), .val (.int (0 : Int32)), .unset] [(.ref b_9)]))
  refine OGo.ret (Q := Q10 Z a1 dd kd h0 n0) X_16 (some (.ref b_9)) (fun h => by rw [Bd.returns] at h; cases h) Bd.notSynchronized (fun fs hr => own_retA X_16 hx Bd.returns rfl rfl (hb hby d10_59) hr) ?_ (by decide) (by decide)
  have f_20 : Fld Z h_16 a1 "java/util/AbstractList" "modCount" "I" (.int (1 : Int32)) := ((F1.ext E_9).other W_16 (Or.inr (slot_ne (Or.inl (hw _ (List.mem_of_getElem? (i := 23) rfl))) (Or.inl (hw _ (List.mem_of_getElem? (i := 26) rfl))) (by decide) (t := .int) (t' := (.array (.object "java/lang/Object"))) (by decide) (by decide))))
  have f_21 : Fld Z h_16 a1 "java/util/ArrayList" "size" "I" (.int (0 : Int32)) := ((F2.ext E_9).other W_16 (Or.inr (slot_ne (Or.inl (hw _ (List.mem_of_getElem? (i := 51) rfl))) (Or.inl (hw _ (List.mem_of_getElem? (i := 26) rfl))) (by decide) (t := .int) (t' := (.array (.object "java/lang/Object"))) (by decide) (by decide))))
  have f_22 : Arv Z h_16 b_9 k_9 (.object "java/lang/Object") (10 : Int32) [.null, .null, .null, .null, .null, .null, .null, .null, .null, .null] .null := (V_9.other W_16 (Ne.symm ne_a1_b_9))
  show Q10 Z a1 dd kd h0 n0 _ T_16.heap _
  rw [e_16]
  exact ⟨b_9, k_9, rfl, N_16, K_19, g_b_9, sz_b_9, f_20, f_21, Fw_16, f_22, O_9, ne_a1_b_9⟩
theorem d9_0 : decode jdk_38_method_7_code 0 = .ok (.aload_n 0, 1) := by decide +kernel
theorem d9_1 : decode jdk_38_method_7_code 1 = .ok (.aload_n 0, 1) := by decide +kernel
theorem d9_2 : decode jdk_38_method_7_code 2 = .ok (.getfield 48, 3) := by decide +kernel
theorem d9_5 : decode jdk_38_method_7_code 5 = .ok (.iconst 1, 1) := by decide +kernel
theorem d9_6 : decode jdk_38_method_7_code 6 = .ok (.iadd, 1) := by decide +kernel
theorem d9_7 : decode jdk_38_method_7_code 7 = .ok (.invokevirtual 69, 3) := by decide +kernel
theorem d9_10 : decode jdk_38_method_7_code 10 = .ok (.areturn, 1) := by decide +kernel
theorem ef_9 (m : MethodId) (x0 : Addr) : entryFrame m #[(.ref x0)] 1 = mkF m 0 #[.val (.ref x0)] [] := by first | (simp [entryFrame, mkF, argsToLocals, Value.category]; done) | rfl
def Q9 (Z : State) (a1 : Addr) (dd : Addr) (kd : ClassId) (h0 : Heap) (n0 : Nat) (v : Option Value) (h : Heap) (L : List Loc) : Prop := ∃ (b : Addr), ∃ (kb : ClassId), v = some (.ref b) ∧ Fr n0 L ∧ Keep h0 h [a1] ∧ n0 ≤ b ∧ h0.size ≤ b ∧ Fld Z h a1 "java/util/AbstractList" "modCount" "I" (.int (1 : Int32)) ∧ Fld Z h a1 "java/util/ArrayList" "size" "I" (.int (0 : Int32)) ∧ Fld Z h a1 "java/util/ArrayList" "elementData" "[Ljava/lang/Object;" (.ref b) ∧ Arv Z h b kb (.object "java/lang/Object") (10 : Int32) [.null, .null, .null, .null, .null, .null, .null, .null, .null, .null] .null ∧ Ovr Z kb "java/lang/Object" ∧ a1 ≠ b
set_option maxRecDepth 65536 in
set_option maxHeartbeats 40000000 in
theorem rm9 (l : Launch) (Z : State) (a0 : Array Value) (hw : ∀ d ∈ tables_1, d.before a0 Z = true) (ws : List Jvm.Cond) (a1 : Addr) (dd : Addr) (kd : ClassId) (h0 : Heap) (n0 : Nat) (Z0 : n0 ≤ h0.size) (E1 : Exa Z h0 a1 "java/util/ArrayList") (F1 : Fld Z h0 a1 "java/util/AbstractList" "modCount" "I" (.int (1 : Int32))) (F2 : Fld Z h0 a1 "java/util/ArrayList" "size" "I" (.int (0 : Int32))) (F3 : Fld Z h0 a1 "java/util/ArrayList" "elementData" "[Ljava/lang/Object;" (.ref dd)) (g1 : n0 ≤ a1) (S1 : Sta Z Z.heap "java/util/ArrayList" "DEFAULTCAPACITY_EMPTY_ELEMENTDATA" "[Ljava/lang/Object;" (.ref dd)) (VD : Arv Z Z.heap dd kd (.object "java/lang/Object") (0 : Int32) [] .null) (O0 : Old Z n0 h0) :
    MetFree l (⟨"java/util/ArrayList", "grow", "()[Ljava/lang/Object;"⟩ : MethodName) (head1 (Jvm.Cond.code (⟨"java/util/ArrayList", "grow", "()[Ljava/lang/Object;"⟩ : MethodName) jdk_38_method_7_code 1 (some (.array (.object "java/lang/Object"))) :: ws) ({ frames := 2, cells := 1, slots := 10, locals := 29 } : Room)) (fun a U => a = #[(.ref a1)] ∧ Z.Warmed39 U.vm ∧ U.heap = h0) (fun _ _ _ _ _ => True) (fun _ U o U' => ∃ v L, o = .returned v ∧ Q9 Z a1 dd kd h0 n0 v U'.heap L ∧ FrameEnd U o U' L ({ frames := 2, cells := 1, slots := 10, locals := 29 } : Room).cells ({ frames := 2, cells := 1, slots := 10, locals := 29 } : Room).slots) := by
  refine MetFree.of_bodySF (plainFor_of_name pn_3) hisR ?_
  intro p e s m args below meth c s₁ Bd hml0 hP hK
  obtain ⟨rfl, hZ, hh⟩ := hP
  have hx := Bd.exec
  have hby := Bd.bytes
  have hml : c.maxLocals = 1 := hml0
  have hown : s.vm.findClass "java/util/ArrayList" = some m.cls := findClass_of_methodNamed Bd.named
  have hnm := (name_of_methodNamed Bd.named Bd.method).1
  have X0 : Stand p l e ({ frames := 2, cells := 1, slots := 10, locals := 29 } : Room) s m #[(.ref a1)] below meth c s₁ [] 0 0 := Stand.of_body Bd
  have e0 : s₁.heap = h0 := by rw [← hh, Bd.state]; rfl
  have N0 := Fr.nil n0
  show OGo p e below (fun s₂ o => ∃ v L, o = .returned v ∧ Q9 Z a1 dd kd h0 n0 v s₂.heap L ∧ FrameEnd s o s₂ L ({ frames := 2, cells := 1, slots := 10, locals := 29 } : Room).cells ({ frames := 2, cells := 1, slots := 10, locals := 29 } : Room).slots) _
  refine OGo.to (fun _ k => castTop (ef_9 m a1) k) ?_
  refine OGo.to (fun _ k => XS.aloadN X0.here hx rfl (hb hby d9_0) rfl rfl k) ?_
  show OGo p e below _ (s₁.setTop (mkF m 1 #[.val (.ref a1)] [(.ref a1)]))
  refine OGo.to (fun _ k => XS.aloadN X0.here hx rfl (hb hby d9_1) rfl rfl k) ?_
  show OGo p e below _ (s₁.setTop (mkF m 2 #[.val (.ref a1)] [(.ref a1), (.ref a1)]))
  obtain ⟨T_1, X_1, e_1, st_1⟩ := getF X0 hx hZ hown (host := "") (Or.inl (hw _ (List.mem_of_getElem? (i := 50) rfl))) Via.refl e0 F2 (g := (mkF m 2 #[.val (.ref a1)] [(.ref a1), (.ref a1)])) rfl rfl (hb hby d9_2)
  refine OGo.to st_1 ?_
  show OGo p e below _ (T_1.setTop (mkF m 5 #[.val (.ref a1)] [(.int (0 : Int32)), (.ref a1)]))
  refine OGo.to (fun _ k => XS.iconst X_1.here hx rfl (hb hby d9_5) k) ?_
  show OGo p e below _ (T_1.setTop (mkF m 6 #[.val (.ref a1)] [(.int (1 : Int32)), (.int (0 : Int32)), (.ref a1)]))
  refine OGo.to (fun _ k => XS.iadd X_1.here hx rfl (hb hby d9_6) rfl k) ?_
  show OGo p e below _ (T_1.setTop (mkF m 7 #[.val (.ref a1)] [(.int (1 : Int32)), (.ref a1)]))
  have f_3 : Arv Z h0 dd kd (.object "java/lang/Object") (0 : Int32) [] .null := VD.ext O0.2
  obtain ⟨cq_2, q_2, q_2'⟩ := E1.cell
  obtain ⟨_, T_2, Lc_2, X_2, hQ_2, st_2⟩ := own_un X_1 (Q := Q10 Z a1 dd kd h0 n0) (rc := 1) (rs := 10) (W := fun v B => Steps p.tables e below (T_1.setTop (mkF m 7 #[.val (.ref a1)] [(.int (1 : Int32)), (.ref a1)])) (B.setTop { (mkF m 7 #[.val (.ref a1)] [(.int (1 : Int32)), (.ref a1)]) with pc := 10, stack := v.toList ++ [] })) <| X_1.privateBack hx (y := (⟨"java/util/ArrayList", "grow", "(I)[Ljava/lang/Object;"⟩ : MethodName)) hown (mvT hZ (hw _ (List.mem_of_getElem? (i := 62) rfl))) (mvT hZ (hw _ (List.mem_of_getElem? (i := 63) rfl))) (own_selP hZ (hw _ (List.mem_of_getElem? (i := 2) rfl)) (hw _ (List.mem_of_getElem? (i := 64) rfl)) (hw _ (List.mem_of_getElem? (i := 63) rfl)) (by decide)) (Cond.privateMethod_at (mvP hZ (hw _ (List.mem_of_getElem? (i := 64) rfl)) (args := #[]))) (mvT hZ (hw _ (List.mem_of_getElem? (i := 66) rfl))) (by decide) (backOf (W := 0) (rm10 l Z a0 hw [] a1 dd kd h0 n0 Z0 E1 F1 F2 F3 g1 S1 VD O0) hZ (hw _ (List.mem_of_getElem? (i := 66) rfl)) (hw _ (List.mem_of_getElem? (i := 3) rfl)) (by decide) (by decide)) (g := (mkF m 7 #[.val (.ref a1)] [(.int (1 : Int32)), (.ref a1)])) rfl (by rw [hml]; rfl) (Steps.refl _) (a := a1) (by rw [e_1]; exact q_2) q_2' (argsL := [(.int (1 : Int32))]) (rest := []) (lenOf pd_2 rfl) rfl (by show 2 * 0 + _ ≤ _; exact Nat.le_of_eq rfl) (hb hby d9_7) (fun _ _ => ⟨rfl, e_1, (by decide : 0 + 1 ≤ _), (by decide : 0 + 10 ≤ _)⟩)
  obtain ⟨b__2, kb__2, rfl, N_2q, K_2, gq_b__2, sq_b__2, p_2_0, p_2_1, p_2_2, p_2_3, p_2_4, p_2_5⟩ := hQ_2
  have N_2 := Fr.app N0 N_2q
  refine OGo.to (fun _ k => st_2.trans k) ?_
  have ne_a1_b__2 : a1 ≠ b__2 := Nat.ne_of_lt (Nat.lt_of_lt_of_le E1.lt sq_b__2)
  have ne_dd_b__2 : dd ≠ b__2 := Nat.ne_of_lt (Nat.lt_of_lt_of_le f_3.lt sq_b__2)
  have sz_b__2 : h0.size ≤ b__2 := Nat.le_trans (Keep.refl h0 [a1]).1 sq_b__2
  have z_4 : n0 ≤ T_2.heap.size := Nat.le_trans Z0 K_2.1
  have O_5 : Old Z n0 T_2.heap := O0.keep K_2 (allS g1 all0)
  have K_6 : Keep h0 T_2.heap [a1] := (Keep.refl h0 [a1]).trans K_2 (by intro x hx'; cases List.mem_singleton.mp hx'; exact (Or.inl (List.mem_of_getElem? (i := 0) rfl)))
  show OGo p e below _ (T_2.setTop (mkF m 10 #[.val (.ref a1)] [(.ref b__2)]))
  refine OGo.ret (Q := Q9 Z a1 dd kd h0 n0) X_2 (some (.ref b__2)) (fun h => by rw [Bd.returns] at h; cases h) Bd.notSynchronized (fun fs hr => own_retA X_2 hx Bd.returns rfl rfl (hb hby d9_10) hr) ?_ (by decide) (by decide)
  show Q9 Z a1 dd kd h0 n0 _ T_2.heap _
  exact ⟨b__2, kb__2, rfl, N_2, K_6, gq_b__2, sz_b__2, p_2_0, p_2_1, p_2_2, p_2_3, p_2_4, p_2_5⟩
theorem d8_0 : decode jdk_38_method_24_code 0 = .ok (.iload_n 3, 1) := by decide +kernel
theorem d8_1 : decode jdk_38_method_24_code 1 = .ok (.aload_n 2, 1) := by decide +kernel
theorem d8_2 : decode jdk_38_method_24_code 2 = .ok (.arraylength, 1) := by decide +kernel
theorem d8_3 : decode jdk_38_method_24_code 3 = .ok (.if_icmp .ne 8, 3) := by decide +kernel
theorem d8_6 : decode jdk_38_method_24_code 6 = .ok (.aload_n 0, 1) := by decide +kernel
theorem d8_7 : decode jdk_38_method_24_code 7 = .ok (.invokevirtual 129, 3) := by decide +kernel
theorem d8_10 : decode jdk_38_method_24_code 10 = .ok (.astore_n 2, 1) := by decide +kernel
theorem d8_11 : decode jdk_38_method_24_code 11 = .ok (.aload_n 2, 1) := by decide +kernel
theorem d8_12 : decode jdk_38_method_24_code 12 = .ok (.iload_n 3, 1) := by decide +kernel
theorem d8_13 : decode jdk_38_method_24_code 13 = .ok (.aload_n 1, 1) := by decide +kernel
theorem d8_14 : decode jdk_38_method_24_code 14 = .ok (.aastore, 1) := by decide +kernel
theorem d8_15 : decode jdk_38_method_24_code 15 = .ok (.aload_n 0, 1) := by decide +kernel
theorem d8_16 : decode jdk_38_method_24_code 16 = .ok (.iload_n 3, 1) := by decide +kernel
theorem d8_17 : decode jdk_38_method_24_code 17 = .ok (.iconst 1, 1) := by decide +kernel
theorem d8_18 : decode jdk_38_method_24_code 18 = .ok (.iadd, 1) := by decide +kernel
theorem d8_19 : decode jdk_38_method_24_code 19 = .ok (.putfield 48, 3) := by decide +kernel
theorem d8_22 : decode jdk_38_method_24_code 22 = .ok (.return_, 1) := by decide +kernel
theorem ef_addP0 (m : MethodId) (x0 : Addr) (x1 : Addr) (x2 : Addr) (x3 : Int32) : entryFrame m #[(.ref x0), (.ref x1), (.ref x2), (.int x3)] 4 = mkF m 0 #[.val (.ref x0), .val (.ref x1), .val (.ref x2), .val (.int x3)] [] := by first | (simp [entryFrame, mkF, argsToLocals, Value.category]; done) | rfl
def QaddP0 (Z : State) (a1 : Addr) (a2 : Addr) (dd : Addr) (dd : Addr) (kd : ClassId) (h0 : Heap) (n0 : Nat) (v : Option Value) (h : Heap) (L : List Loc) : Prop := ∃ (b : Addr), ∃ (kb : ClassId), v = none ∧ Fr n0 L ∧ Keep h0 h [a1] ∧ n0 ≤ b ∧ h0.size ≤ b ∧ Fld Z h a1 "java/util/AbstractList" "modCount" "I" (.int (1 : Int32)) ∧ Fld Z h a1 "java/util/ArrayList" "size" "I" (.int (1 : Int32)) ∧ Fld Z h a1 "java/util/ArrayList" "elementData" "[Ljava/lang/Object;" (.ref b) ∧ Arv Z h b kb (.object "java/lang/Object") (10 : Int32) [(.ref a2), .null, .null, .null, .null, .null, .null, .null, .null, .null] .null ∧ Ovr Z kb "java/lang/Object" ∧ a1 ≠ b ∧ a2 ≠ b
set_option maxRecDepth 65536 in
set_option maxHeartbeats 40000000 in
theorem rmaddP0 (l : Launch) (Z : State) (a0 : Array Value) (hw : ∀ d ∈ tables_1, d.before a0 Z = true) (ws : List Jvm.Cond) (a1 : Addr) (a2 : Addr) (dd : Addr) (dd : Addr) (kd : ClassId) (h0 : Heap) (n0 : Nat) (Z0 : n0 ≤ h0.size) (E1 : Exa Z h0 a1 "java/util/ArrayList") (E2 : Exa Z h0 a2 "com/example/dromos/dromos/model/Module$Signature") (g1 : n0 ≤ a1) (n12 : a1 ≠ a2) (F1 : Fld Z h0 a1 "java/util/AbstractList" "modCount" "I" (.int (1 : Int32))) (F2 : Fld Z h0 a1 "java/util/ArrayList" "size" "I" (.int (0 : Int32))) (F3 : Fld Z h0 a1 "java/util/ArrayList" "elementData" "[Ljava/lang/Object;" (.ref dd)) (S1 : Sta Z Z.heap "java/util/ArrayList" "DEFAULTCAPACITY_EMPTY_ELEMENTDATA" "[Ljava/lang/Object;" (.ref dd)) (VD : Arv Z Z.heap dd kd (.object "java/lang/Object") (0 : Int32) [] .null) (O0 : Old Z n0 h0) :
    MetFree l (⟨"java/util/ArrayList", "add", "(Ljava/lang/Object;[Ljava/lang/Object;I)V"⟩ : MethodName) (head1 (Jvm.Cond.code (⟨"java/util/ArrayList", "add", "(Ljava/lang/Object;[Ljava/lang/Object;I)V"⟩ : MethodName) jdk_38_method_24_code 4 none :: ws) ({ frames := 3, cells := 1, slots := 10, locals := 41 } : Room)) (fun a U => a = #[(.ref a1), (.ref a2), (.ref dd), (.int (0 : Int32))] ∧ Z.Warmed39 U.vm ∧ U.heap = h0) (fun _ _ _ _ _ => True) (fun _ U o U' => ∃ v L, o = .returned v ∧ QaddP0 Z a1 a2 dd dd kd h0 n0 v U'.heap L ∧ FrameEnd U o U' L ({ frames := 3, cells := 1, slots := 10, locals := 41 } : Room).cells ({ frames := 3, cells := 1, slots := 10, locals := 41 } : Room).slots) := by
  refine MetFree.of_bodySF (plainFor_of_name pn_3) hisR ?_
  intro p e s m args below meth c s₁ Bd hml0 hP hK
  obtain ⟨rfl, hZ, hh⟩ := hP
  have hx := Bd.exec
  have hby := Bd.bytes
  have hml : c.maxLocals = 4 := hml0
  have hown : s.vm.findClass "java/util/ArrayList" = some m.cls := findClass_of_methodNamed Bd.named
  have hnm := (name_of_methodNamed Bd.named Bd.method).1
  have X0 : Stand p l e ({ frames := 3, cells := 1, slots := 10, locals := 41 } : Room) s m #[(.ref a1), (.ref a2), (.ref dd), (.int (0 : Int32))] below meth c s₁ [] 0 0 := Stand.of_body Bd
  have e0 : s₁.heap = h0 := by rw [← hh, Bd.state]; rfl
  have N0 := Fr.nil n0
  show OGo p e below (fun s₂ o => ∃ v L, o = .returned v ∧ QaddP0 Z a1 a2 dd dd kd h0 n0 v s₂.heap L ∧ FrameEnd s o s₂ L ({ frames := 3, cells := 1, slots := 10, locals := 41 } : Room).cells ({ frames := 3, cells := 1, slots := 10, locals := 41 } : Room).slots) _
  refine OGo.to (fun _ k => castTop (ef_addP0 m a1 a2 dd (0 : Int32)) k) ?_
  refine OGo.to (fun _ k => XS.iloadN X0.here hx rfl (hb hby d8_0) rfl k) ?_
  show OGo p e below _ (s₁.setTop (mkF m 1 #[.val (.ref a1), .val (.ref a2), .val (.ref dd), .val (.int (0 : Int32))] [(.int (0 : Int32))]))
  refine OGo.to (fun _ k => XS.aloadN X0.here hx rfl (hb hby d8_1) rfl rfl k) ?_
  show OGo p e below _ (s₁.setTop (mkF m 2 #[.val (.ref a1), .val (.ref a2), .val (.ref dd), .val (.int (0 : Int32))] [(.ref dd), (.int (0 : Int32))]))
  have f_1 : Arv Z h0 dd kd (.object "java/lang/Object") (0 : Int32) [] .null := VD.ext O0.2
  have Vq_2 := f_1
  obtain ⟨cl_2, Ar_2, q_2, S_2, M_2, Hs_2, G_2⟩ := Vq_2
  refine OGo.to (fun _ k => X0.arraylength hx (by rw [e0]; exact Ar_2.1) (State.isArrayOf_alike hZ.alike Ar_2.2.1) (g := (mkF m 2 #[.val (.ref a1), .val (.ref a2), .val (.ref dd), .val (.int (0 : Int32))] [(.ref dd), (.int (0 : Int32))])) rfl rfl (hb hby d8_2) _ k) ?_
  rw [len_of S_2 M_2]
  show OGo p e below _ (s₁.setTop (mkF m 3 #[.val (.ref a1), .val (.ref a2), .val (.ref dd), .val (.int (0 : Int32))] [(.int (0 : Int32)), (.int (0 : Int32))]))
  have hc3__3 : (0 : Int32) = (0 : Int32) := by decide
  refine OGo.to (fun _ k => XS.icmpNo X0.here hx rfl (hb hby d8_3) rfl (teq hc3__3).2 k) ?_
  show OGo p e below _ (s₁.setTop (mkF m 6 #[.val (.ref a1), .val (.ref a2), .val (.ref dd), .val (.int (0 : Int32))] []))
  refine OGo.to (fun _ k => XS.aloadN X0.here hx rfl (hb hby d8_6) rfl rfl k) ?_
  show OGo p e below _ (s₁.setTop (mkF m 7 #[.val (.ref a1), .val (.ref a2), .val (.ref dd), .val (.int (0 : Int32))] [(.ref a1)]))
  have f_5 : Arv Z h0 dd kd (.object "java/lang/Object") (0 : Int32) [] .null := VD.ext O0.2
  obtain ⟨cq_4, q_4, q_4'⟩ := E1.cell
  obtain ⟨_, T_4, Lc_4, X_4, hQ_4, st_4⟩ := own_un X0 (Q := Q9 Z a1 dd kd h0 n0) (rc := 1) (rs := 10) (W := fun v B => Steps p.tables e below (s₁.setTop (mkF m 7 #[.val (.ref a1), .val (.ref a2), .val (.ref dd), .val (.int (0 : Int32))] [(.ref a1)])) (B.setTop { (mkF m 7 #[.val (.ref a1), .val (.ref a2), .val (.ref dd), .val (.int (0 : Int32))] [(.ref a1)]) with pc := 10, stack := v.toList ++ [] })) <| X0.privateBack hx (y := (⟨"java/util/ArrayList", "grow", "()[Ljava/lang/Object;"⟩ : MethodName)) hown (mvT hZ (hw _ (List.mem_of_getElem? (i := 57) rfl))) (mvT hZ (hw _ (List.mem_of_getElem? (i := 58) rfl))) (own_selP hZ (hw _ (List.mem_of_getElem? (i := 2) rfl)) (hw _ (List.mem_of_getElem? (i := 59) rfl)) (hw _ (List.mem_of_getElem? (i := 58) rfl)) (by decide)) (Cond.privateMethod_at (mvP hZ (hw _ (List.mem_of_getElem? (i := 59) rfl)) (args := #[]))) (mvT hZ (hw _ (List.mem_of_getElem? (i := 61) rfl))) (by decide) (backOf (W := 0) (rm9 l Z a0 hw [] a1 dd kd h0 n0 Z0 E1 F1 F2 F3 g1 S1 VD O0) hZ (hw _ (List.mem_of_getElem? (i := 61) rfl)) (hw _ (List.mem_of_getElem? (i := 3) rfl)) (by decide) (by decide)) (g := (mkF m 7 #[.val (.ref a1), .val (.ref a2), .val (.ref dd), .val (.int (0 : Int32))] [(.ref a1)])) rfl (by rw [hml]; rfl) (Steps.refl _) (a := a1) (by rw [e0]; exact q_4) q_4' (argsL := []) (rest := []) (lenOf pd_3 rfl) rfl (by show 2 * 0 + _ ≤ _; exact Nat.le_of_eq rfl) (hb hby d8_7) (fun _ _ => ⟨rfl, e0, (by decide : 0 + 1 ≤ _), (by decide : 0 + 10 ≤ _)⟩)
  obtain ⟨b__4, kb__4, rfl, N_4q, K_4, gq_b__4, sq_b__4, p_4_0, p_4_1, p_4_2, p_4_3, p_4_4, p_4_5⟩ := hQ_4
  have N_4 := Fr.app N0 N_4q
  refine OGo.to (fun _ k => st_4.trans k) ?_
  have ne_a1_b__4 : a1 ≠ b__4 := Nat.ne_of_lt (Nat.lt_of_lt_of_le E1.lt sq_b__4)
  have ne_a2_b__4 : a2 ≠ b__4 := Nat.ne_of_lt (Nat.lt_of_lt_of_le E2.lt sq_b__4)
  have ne_dd_b__4 : dd ≠ b__4 := Nat.ne_of_lt (Nat.lt_of_lt_of_le f_5.lt sq_b__4)
  have sz_b__4 : h0.size ≤ b__4 := Nat.le_trans (Keep.refl h0 [a1]).1 sq_b__4
  have z_6 : n0 ≤ T_4.heap.size := Nat.le_trans Z0 K_4.1
  have O_7 : Old Z n0 T_4.heap := O0.keep K_4 (allS g1 all0)
  have K_8 : Keep h0 T_4.heap [a1] := (Keep.refl h0 [a1]).trans K_4 (by intro x hx'; cases List.mem_singleton.mp hx'; exact (Or.inl (List.mem_of_getElem? (i := 0) rfl)))
  show OGo p e below _ (T_4.setTop (mkF m 10 #[.val (.ref a1), .val (.ref a2), .val (.ref dd), .val (.int (0 : Int32))] [(.ref b__4)]))
  refine OGo.to (fun _ k => XS.astoreN X_4.here hx rfl (hb hby d8_10) rfl rfl (l' := #[.val (.ref a1), .val (.ref a2), .val (.ref b__4), .val (.int (0 : Int32))]) rfl k) ?_
  show OGo p e below _ (T_4.setTop (mkF m 11 #[.val (.ref a1), .val (.ref a2), .val (.ref b__4), .val (.int (0 : Int32))] []))
  refine OGo.to (fun _ k => XS.aloadN X_4.here hx rfl (hb hby d8_11) rfl rfl k) ?_
  show OGo p e below _ (T_4.setTop (mkF m 12 #[.val (.ref a1), .val (.ref a2), .val (.ref b__4), .val (.int (0 : Int32))] [(.ref b__4)]))
  refine OGo.to (fun _ k => XS.iloadN X_4.here hx rfl (hb hby d8_12) rfl k) ?_
  show OGo p e below _ (T_4.setTop (mkF m 13 #[.val (.ref a1), .val (.ref a2), .val (.ref b__4), .val (.int (0 : Int32))] [(.int (0 : Int32)), (.ref b__4)]))
  refine OGo.to (fun _ k => XS.aloadN X_4.here hx rfl (hb hby d8_13) rfl rfl k) ?_
  show OGo p e below _ (T_4.setTop (mkF m 14 #[.val (.ref a1), .val (.ref a2), .val (.ref b__4), .val (.int (0 : Int32))] [(.ref a2), (.int (0 : Int32)), (.ref b__4)]))
  have Vq_9 := p_4_3
  obtain ⟨cl_9, Ar_9, q_9, S_9, M_9, Hs_9, G_9⟩ := Vq_9
  have f_11 : Exa Z T_4.heap a2 "com/example/dromos/dromos/model/Module$Signature" := (E2.keep K_4)
  have hin_10 : ¬ ((0 : Int32) < 0 ∨ cl_9.slots.size ≤ ((0 : Int32)).toNatClampNeg) := inb_of S_9 ⟨by decide, by decide⟩
  obtain ⟨T_10, h_10, X_10, e_10, W_10, st_10⟩ := stR X_4 hx hZ (rfl : T_4.heap = T_4.heap) Ar_9 (j := (0 : Int32)) hin_10 rfl (Sto.of Ar_9 (q_9 ▸ p_4_4) (Ins.of_exa f_11 (hw _ (List.mem_of_getElem? (i := 73) rfl)))) (g := (mkF m 14 #[.val (.ref a1), .val (.ref a2), .val (.ref b__4), .val (.int (0 : Int32))] [(.ref a2), (.int (0 : Int32)), (.ref b__4)])) rfl rfl (hb hby d8_14)
  refine OGo.to st_10 ?_
  have V_10 : Arv Z h_10 b__4 kb__4 (.object "java/lang/Object") (10 : Int32) [(.ref a2), .null, .null, .null, .null, .null, .null, .null, .null, .null] .null := Arv.set Ar_9 q_9 S_9 M_9 Hs_9 G_9 rfl W_10 0 rfl (Nat.le_of_ble_eq_true rfl)
  have N_10 := Fr.snoc X_10 N_4 gq_b__4
  have z_12 : n0 ≤ h_10.size := Nat.le_trans z_6 (Keep.of_wr W_10).1
  have O_13 : Old Z n0 h_10 := O_7.wr W_10 gq_b__4
  have K_14 : Keep h0 h_10 [a1] := K_8.wr W_10 (Or.inr sz_b__4)
  show OGo p e below _ (T_10.setTop (mkF m 15 #[.val (.ref a1), .val (.ref a2), .val (.ref b__4), .val (.int (0 : Int32))] []))
  refine OGo.to (fun _ k => XS.aloadN X_10.here hx rfl (hb hby d8_15) rfl rfl k) ?_
  show OGo p e below _ (T_10.setTop (mkF m 16 #[.val (.ref a1), .val (.ref a2), .val (.ref b__4), .val (.int (0 : Int32))] [(.ref a1)]))
  refine OGo.to (fun _ k => XS.iloadN X_10.here hx rfl (hb hby d8_16) rfl k) ?_
  show OGo p e below _ (T_10.setTop (mkF m 17 #[.val (.ref a1), .val (.ref a2), .val (.ref b__4), .val (.int (0 : Int32))] [(.int (0 : Int32)), (.ref a1)]))
  refine OGo.to (fun _ k => XS.iconst X_10.here hx rfl (hb hby d8_17) k) ?_
  show OGo p e below _ (T_10.setTop (mkF m 18 #[.val (.ref a1), .val (.ref a2), .val (.ref b__4), .val (.int (0 : Int32))] [(.int (1 : Int32)), (.int (0 : Int32)), (.ref a1)]))
  refine OGo.to (fun _ k => XS.iadd X_10.here hx rfl (hb hby d8_18) rfl k) ?_
  show OGo p e below _ (T_10.setTop (mkF m 19 #[.val (.ref a1), .val (.ref a2), .val (.ref b__4), .val (.int (0 : Int32))] [(.int (1 : Int32)), (.ref a1)]))
  have f_15 : Exa Z h_10 a1 "java/util/ArrayList" := ((E1.keep K_4).wr W_10)
  have f_16 : Fld Z h_10 a1 "java/util/ArrayList" "size" "I" (.int (0 : Int32)) := (p_4_1.other W_10 (Or.inl p_4_5))
  obtain ⟨T_17, h_17, X_17, e_17, W_17, st_17⟩ := putF X_10 hx hZ hown (host := "") (Or.inl (hw _ (List.mem_of_getElem? (i := 50) rfl))) Via.refl e_10 f_16 f_15 (Or.inl (hw _ (List.mem_of_getElem? (i := 51) rfl))) (hw _ (List.mem_of_getElem? (i := 2) rfl)) (ty := .int) (by decide) rfl rfl (g := (mkF m 19 #[.val (.ref a1), .val (.ref a2), .val (.ref b__4), .val (.int (0 : Int32))] [(.int (1 : Int32)), (.ref a1)])) rfl rfl (hb hby d8_19)
  refine OGo.to st_17 ?_
  have Fw_17 : Fld Z h_17 a1 "java/util/ArrayList" "size" "I" (.int (1 : Int32)) := f_16.same W_17
  have N_17 := Fr.snoc X_17 N_10 g1
  have z_18 : n0 ≤ h_17.size := Nat.le_trans z_12 (Keep.of_wr W_17).1
  have O_19 : Old Z n0 h_17 := O_13.wr W_17 g1
  have K_20 : Keep h0 h_17 [a1] := K_14.wr W_17 (Or.inl (List.mem_of_getElem? (i := 0) rfl))
  show OGo p e below _ (T_17.setTop (mkF m 22 #[.val (.ref a1), .val (.ref a2), .val (.ref b__4), .val (.int (0 : Int32))] []))
  refine OGo.ret (Q := QaddP0 Z a1 a2 dd dd kd h0 n0) X_17 none (fun _ => rfl) Bd.notSynchronized (fun fs hr => X_17.returnOut hx Bd.returns (hb hby d8_22) hr) ?_ (by decide) (by decide)
  have f_21 : Fld Z h_17 a1 "java/util/AbstractList" "modCount" "I" (.int (1 : Int32)) := ((p_4_0.other W_10 (Or.inl p_4_5)).other W_17 (Or.inr (slot_ne (Or.inl (hw _ (List.mem_of_getElem? (i := 23) rfl))) (Or.inl (hw _ (List.mem_of_getElem? (i := 51) rfl))) (by decide) (t := .int) (t' := .int) (by decide) (by decide))))
  have f_22 : Fld Z h_17 a1 "java/util/ArrayList" "elementData" "[Ljava/lang/Object;" (.ref b__4) := ((p_4_2.other W_10 (Or.inl p_4_5)).other W_17 (Or.inr (slot_ne (Or.inl (hw _ (List.mem_of_getElem? (i := 26) rfl))) (Or.inl (hw _ (List.mem_of_getElem? (i := 51) rfl))) (by decide) (t := (.array (.object "java/lang/Object"))) (t' := .int) (by decide) (by decide))))
  have f_23 : Arv Z h_17 b__4 kb__4 (.object "java/lang/Object") (10 : Int32) [(.ref a2), .null, .null, .null, .null, .null, .null, .null, .null, .null] .null := (V_10.other W_17 (Ne.symm p_4_5))
  show QaddP0 Z a1 a2 dd dd kd h0 n0 _ T_17.heap _
  rw [e_17]
  exact ⟨b__4, kb__4, rfl, N_17, K_20, gq_b__4, sz_b__4, f_21, Fw_17, f_22, f_23, p_4_4, p_4_5, ne_a2_b__4⟩
theorem d7_0 : decode jdk_38_method_25_code 0 = .ok (.aload_n 0, 1) := by decide +kernel
theorem d7_1 : decode jdk_38_method_25_code 1 = .ok (.dup, 1) := by decide +kernel
theorem d7_2 : decode jdk_38_method_25_code 2 = .ok (.getfield 63, 3) := by decide +kernel
theorem d7_5 : decode jdk_38_method_25_code 5 = .ok (.iconst 1, 1) := by decide +kernel
theorem d7_6 : decode jdk_38_method_25_code 6 = .ok (.iadd, 1) := by decide +kernel
theorem d7_7 : decode jdk_38_method_25_code 7 = .ok (.putfield 63, 3) := by decide +kernel
theorem d7_10 : decode jdk_38_method_25_code 10 = .ok (.aload_n 0, 1) := by decide +kernel
theorem d7_11 : decode jdk_38_method_25_code 11 = .ok (.aload_n 1, 1) := by decide +kernel
theorem d7_12 : decode jdk_38_method_25_code 12 = .ok (.aload_n 0, 1) := by decide +kernel
theorem d7_13 : decode jdk_38_method_25_code 13 = .ok (.getfield 9, 3) := by decide +kernel
theorem d7_16 : decode jdk_38_method_25_code 16 = .ok (.aload_n 0, 1) := by decide +kernel
theorem d7_17 : decode jdk_38_method_25_code 17 = .ok (.getfield 48, 3) := by decide +kernel
theorem d7_20 : decode jdk_38_method_25_code 20 = .ok (.invokevirtual 131, 3) := by decide +kernel
theorem d7_23 : decode jdk_38_method_25_code 23 = .ok (.iconst 1, 1) := by decide +kernel
theorem d7_24 : decode jdk_38_method_25_code 24 = .ok (.ireturn, 1) := by decide +kernel
theorem ef_add0 (m : MethodId) (x0 : Addr) (x1 : Addr) : entryFrame m #[(.ref x0), (.ref x1)] 2 = mkF m 0 #[.val (.ref x0), .val (.ref x1)] [] := by first | (simp [entryFrame, mkF, argsToLocals, Value.category]; done) | rfl
def Qadd0 (Z : State) (a1 : Addr) (a2 : Addr) (dd : Addr) (kd : ClassId) (h0 : Heap) (n0 : Nat) (v : Option Value) (h : Heap) (L : List Loc) : Prop := ∃ (b : Addr), ∃ (kb : ClassId), v = some (.int (1 : Int32)) ∧ Fr n0 L ∧ Keep h0 h [a1] ∧ n0 ≤ b ∧ h0.size ≤ b ∧ Fld Z h a1 "java/util/AbstractList" "modCount" "I" (.int (1 : Int32)) ∧ Fld Z h a1 "java/util/ArrayList" "size" "I" (.int (1 : Int32)) ∧ Fld Z h a1 "java/util/ArrayList" "elementData" "[Ljava/lang/Object;" (.ref b) ∧ Arv Z h b kb (.object "java/lang/Object") (10 : Int32) [(.ref a2), .null, .null, .null, .null, .null, .null, .null, .null, .null] .null ∧ Ovr Z kb "java/lang/Object" ∧ a1 ≠ b ∧ a2 ≠ b
set_option maxRecDepth 65536 in
set_option maxHeartbeats 40000000 in
theorem rmadd0 (l : Launch) (Z : State) (a0 : Array Value) (hw : ∀ d ∈ tables_1, d.before a0 Z = true) (ws : List Jvm.Cond) (a1 : Addr) (a2 : Addr) (dd : Addr) (kd : ClassId) (h0 : Heap) (n0 : Nat) (Z0 : n0 ≤ h0.size) (E1 : Exa Z h0 a1 "java/util/ArrayList") (E2 : Exa Z h0 a2 "com/example/dromos/dromos/model/Module$Signature") (g1 : n0 ≤ a1) (n12 : a1 ≠ a2) (F1 : Fld Z h0 a1 "java/util/AbstractList" "modCount" "I" (.int (0 : Int32))) (F2 : Fld Z h0 a1 "java/util/ArrayList" "size" "I" (.int (0 : Int32))) (F3 : Fld Z h0 a1 "java/util/ArrayList" "elementData" "[Ljava/lang/Object;" (.ref dd)) (S1 : Sta Z Z.heap "java/util/ArrayList" "DEFAULTCAPACITY_EMPTY_ELEMENTDATA" "[Ljava/lang/Object;" (.ref dd)) (VD : Arv Z Z.heap dd kd (.object "java/lang/Object") (0 : Int32) [] .null) (O0 : Old Z n0 h0) :
    MetFree l (⟨"java/util/ArrayList", "add", "(Ljava/lang/Object;)Z"⟩ : MethodName) (head1 (Jvm.Cond.code (⟨"java/util/ArrayList", "add", "(Ljava/lang/Object;)Z"⟩ : MethodName) jdk_38_method_25_code 2 (some .boolean) :: ws) ({ frames := 4, cells := 1, slots := 10, locals := 56 } : Room)) (fun a U => a = #[(.ref a1), (.ref a2)] ∧ Z.Warmed39 U.vm ∧ U.heap = h0) (fun _ _ _ _ _ => True) (fun _ U o U' => ∃ v L, o = .returned v ∧ Qadd0 Z a1 a2 dd kd h0 n0 v U'.heap L ∧ FrameEnd U o U' L ({ frames := 4, cells := 1, slots := 10, locals := 56 } : Room).cells ({ frames := 4, cells := 1, slots := 10, locals := 56 } : Room).slots) := by
  refine MetFree.of_bodySF (plainFor_of_name pn_3) hisR ?_
  intro p e s m args below meth c s₁ Bd hml0 hP hK
  obtain ⟨rfl, hZ, hh⟩ := hP
  have hx := Bd.exec
  have hby := Bd.bytes
  have hml : c.maxLocals = 2 := hml0
  have hown : s.vm.findClass "java/util/ArrayList" = some m.cls := findClass_of_methodNamed Bd.named
  have hnm := (name_of_methodNamed Bd.named Bd.method).1
  have X0 : Stand p l e ({ frames := 4, cells := 1, slots := 10, locals := 56 } : Room) s m #[(.ref a1), (.ref a2)] below meth c s₁ [] 0 0 := Stand.of_body Bd
  have e0 : s₁.heap = h0 := by rw [← hh, Bd.state]; rfl
  have N0 := Fr.nil n0
  show OGo p e below (fun s₂ o => ∃ v L, o = .returned v ∧ Qadd0 Z a1 a2 dd kd h0 n0 v s₂.heap L ∧ FrameEnd s o s₂ L ({ frames := 4, cells := 1, slots := 10, locals := 56 } : Room).cells ({ frames := 4, cells := 1, slots := 10, locals := 56 } : Room).slots) _
  refine OGo.to (fun _ k => castTop (ef_add0 m a1 a2) k) ?_
  refine OGo.to (fun _ k => XS.aloadN X0.here hx rfl (hb hby d7_0) rfl rfl k) ?_
  show OGo p e below _ (s₁.setTop (mkF m 1 #[.val (.ref a1), .val (.ref a2)] [(.ref a1)]))
  refine OGo.to (fun _ k => XS.dup X0.here hx rfl (hb hby d7_1) rfl rfl k) ?_
  show OGo p e below _ (s₁.setTop (mkF m 2 #[.val (.ref a1), .val (.ref a2)] [(.ref a1), (.ref a1)]))
  obtain ⟨T_1, X_1, e_1, st_1⟩ := getF X0 hx hZ hown (host := "") (Or.inl (hw _ (List.mem_of_getElem? (i := 48) rfl))) (Via.of (hw _ (List.mem_of_getElem? (i := 49) rfl))) e0 F1 (g := (mkF m 2 #[.val (.ref a1), .val (.ref a2)] [(.ref a1), (.ref a1)])) rfl rfl (hb hby d7_2)
  refine OGo.to st_1 ?_
  show OGo p e below _ (T_1.setTop (mkF m 5 #[.val (.ref a1), .val (.ref a2)] [(.int (0 : Int32)), (.ref a1)]))
  refine OGo.to (fun _ k => XS.iconst X_1.here hx rfl (hb hby d7_5) k) ?_
  show OGo p e below _ (T_1.setTop (mkF m 6 #[.val (.ref a1), .val (.ref a2)] [(.int (1 : Int32)), (.int (0 : Int32)), (.ref a1)]))
  refine OGo.to (fun _ k => XS.iadd X_1.here hx rfl (hb hby d7_6) rfl k) ?_
  show OGo p e below _ (T_1.setTop (mkF m 7 #[.val (.ref a1), .val (.ref a2)] [(.int (1 : Int32)), (.ref a1)]))
  obtain ⟨T_2, h_2, X_2, e_2, W_2, st_2⟩ := putF X_1 hx hZ hown (host := "") (Or.inl (hw _ (List.mem_of_getElem? (i := 48) rfl))) (Via.of (hw _ (List.mem_of_getElem? (i := 49) rfl))) e_1 F1 E1 (Or.inl (hw _ (List.mem_of_getElem? (i := 23) rfl))) (hw _ (List.mem_of_getElem? (i := 2) rfl)) (ty := .int) (by decide) rfl rfl (g := (mkF m 7 #[.val (.ref a1), .val (.ref a2)] [(.int (1 : Int32)), (.ref a1)])) rfl rfl (hb hby d7_7)
  refine OGo.to st_2 ?_
  have Fw_2 : Fld Z h_2 a1 "java/util/AbstractList" "modCount" "I" (.int (1 : Int32)) := F1.same W_2
  have N_2 := Fr.snoc X_2 N0 g1
  have z_3 : n0 ≤ h_2.size := Nat.le_trans Z0 (Keep.of_wr W_2).1
  have O_4 : Old Z n0 h_2 := O0.wr W_2 g1
  have K_5 : Keep h0 h_2 [a1] := (Keep.refl h0 [a1]).wr W_2 (Or.inl (List.mem_of_getElem? (i := 0) rfl))
  show OGo p e below _ (T_2.setTop (mkF m 10 #[.val (.ref a1), .val (.ref a2)] []))
  refine OGo.to (fun _ k => XS.aloadN X_2.here hx rfl (hb hby d7_10) rfl rfl k) ?_
  show OGo p e below _ (T_2.setTop (mkF m 11 #[.val (.ref a1), .val (.ref a2)] [(.ref a1)]))
  refine OGo.to (fun _ k => XS.aloadN X_2.here hx rfl (hb hby d7_11) rfl rfl k) ?_
  show OGo p e below _ (T_2.setTop (mkF m 12 #[.val (.ref a1), .val (.ref a2)] [(.ref a2), (.ref a1)]))
  refine OGo.to (fun _ k => XS.aloadN X_2.here hx rfl (hb hby d7_12) rfl rfl k) ?_
  show OGo p e below _ (T_2.setTop (mkF m 13 #[.val (.ref a1), .val (.ref a2)] [(.ref a1), (.ref a2), (.ref a1)]))
  have f_6 : Fld Z h_2 a1 "java/util/ArrayList" "elementData" "[Ljava/lang/Object;" (.ref dd) := (F3.other W_2 (Or.inr (slot_ne (Or.inl (hw _ (List.mem_of_getElem? (i := 26) rfl))) (Or.inl (hw _ (List.mem_of_getElem? (i := 23) rfl))) (by decide) (t := (.array (.object "java/lang/Object"))) (t' := .int) (by decide) (by decide))))
  obtain ⟨T_7, X_7, e_7, st_7⟩ := getF X_2 hx hZ hown (host := "") (Or.inl (hw _ (List.mem_of_getElem? (i := 25) rfl))) Via.refl e_2 f_6 (g := (mkF m 13 #[.val (.ref a1), .val (.ref a2)] [(.ref a1), (.ref a2), (.ref a1)])) rfl rfl (hb hby d7_13)
  refine OGo.to st_7 ?_
  show OGo p e below _ (T_7.setTop (mkF m 16 #[.val (.ref a1), .val (.ref a2)] [(.ref dd), (.ref a2), (.ref a1)]))
  refine OGo.to (fun _ k => XS.aloadN X_7.here hx rfl (hb hby d7_16) rfl rfl k) ?_
  show OGo p e below _ (T_7.setTop (mkF m 17 #[.val (.ref a1), .val (.ref a2)] [(.ref a1), (.ref dd), (.ref a2), (.ref a1)]))
  have f_8 : Fld Z h_2 a1 "java/util/ArrayList" "size" "I" (.int (0 : Int32)) := (F2.other W_2 (Or.inr (slot_ne (Or.inl (hw _ (List.mem_of_getElem? (i := 51) rfl))) (Or.inl (hw _ (List.mem_of_getElem? (i := 23) rfl))) (by decide) (t := .int) (t' := .int) (by decide) (by decide))))
  obtain ⟨T_9, X_9, e_9, st_9⟩ := getF X_7 hx hZ hown (host := "") (Or.inl (hw _ (List.mem_of_getElem? (i := 50) rfl))) Via.refl e_7 f_8 (g := (mkF m 17 #[.val (.ref a1), .val (.ref a2)] [(.ref a1), (.ref dd), (.ref a2), (.ref a1)])) rfl rfl (hb hby d7_17)
  refine OGo.to st_9 ?_
  show OGo p e below _ (T_9.setTop (mkF m 20 #[.val (.ref a1), .val (.ref a2)] [(.int (0 : Int32)), (.ref dd), (.ref a2), (.ref a1)]))
  have f_11 : Exa Z h_2 a1 "java/util/ArrayList" := (E1.wr W_2)
  have f_12 : Exa Z h_2 a2 "com/example/dromos/dromos/model/Module$Signature" := (E2.wr W_2)
  have f_13 : Arv Z h_2 dd kd (.object "java/lang/Object") (0 : Int32) [] .null := VD.ext O_4.2
  obtain ⟨cq_10, q_10, q_10'⟩ := f_11.cell
  obtain ⟨_, T_10, Lc_10, X_10, hQ_10, st_10⟩ := own_un X_9 (Q := QaddP0 Z a1 a2 dd dd kd h_2 n0) (rc := 1) (rs := 10) (W := fun v B => Steps p.tables e below (T_9.setTop (mkF m 20 #[.val (.ref a1), .val (.ref a2)] [(.int (0 : Int32)), (.ref dd), (.ref a2), (.ref a1)])) (B.setTop { (mkF m 20 #[.val (.ref a1), .val (.ref a2)] [(.int (0 : Int32)), (.ref dd), (.ref a2), (.ref a1)]) with pc := 23, stack := v.toList ++ [] })) <| X_9.privateBack hx (y := (⟨"java/util/ArrayList", "add", "(Ljava/lang/Object;[Ljava/lang/Object;I)V"⟩ : MethodName)) hown (mvT hZ (hw _ (List.mem_of_getElem? (i := 52) rfl))) (mvT hZ (hw _ (List.mem_of_getElem? (i := 53) rfl))) (own_selP hZ (hw _ (List.mem_of_getElem? (i := 2) rfl)) (hw _ (List.mem_of_getElem? (i := 54) rfl)) (hw _ (List.mem_of_getElem? (i := 53) rfl)) (by decide)) (Cond.privateMethod_at (mvP hZ (hw _ (List.mem_of_getElem? (i := 54) rfl)) (args := #[]))) (mvT hZ (hw _ (List.mem_of_getElem? (i := 56) rfl))) (by decide) (backOf (W := 0) (rmaddP0 l Z a0 hw [] a1 a2 dd dd kd h_2 n0 z_3 f_11 f_12 g1 n12 Fw_2 f_8 f_6 S1 VD O_4) hZ (hw _ (List.mem_of_getElem? (i := 56) rfl)) (hw _ (List.mem_of_getElem? (i := 3) rfl)) (by decide) (by decide)) (g := (mkF m 20 #[.val (.ref a1), .val (.ref a2)] [(.int (0 : Int32)), (.ref dd), (.ref a2), (.ref a1)])) rfl (by rw [hml]; rfl) (Steps.refl _) (a := a1) (by rw [e_9]; exact q_10) q_10' (argsL := [(.ref a2), (.ref dd), (.int (0 : Int32))]) (rest := []) (lenOf pd_4 rfl) rfl (by show 2 * 0 + _ ≤ _; exact Nat.le_of_eq rfl) (hb hby d7_20) (fun _ _ => ⟨rfl, e_9, (by decide : 0 + 1 ≤ _), (by decide : 0 + 10 ≤ _)⟩)
  obtain ⟨b__10, kb__10, rfl, N_10q, K_10, gq_b__10, sq_b__10, p_10_0, p_10_1, p_10_2, p_10_3, p_10_4, p_10_5, p_10_6⟩ := hQ_10
  have N_10 := Fr.app N_2 N_10q
  refine OGo.to (fun _ k => st_10.trans k) ?_
  have ne_a1_b__10 : a1 ≠ b__10 := Nat.ne_of_lt (Nat.lt_of_lt_of_le f_11.lt sq_b__10)
  have ne_a2_b__10 : a2 ≠ b__10 := Nat.ne_of_lt (Nat.lt_of_lt_of_le f_12.lt sq_b__10)
  have ne_dd_b__10 : dd ≠ b__10 := Nat.ne_of_lt (Nat.lt_of_lt_of_le f_13.lt sq_b__10)
  have sz_b__10 : h0.size ≤ b__10 := Nat.le_trans K_5.1 sq_b__10
  have z_14 : n0 ≤ T_10.heap.size := Nat.le_trans z_3 K_10.1
  have O_15 : Old Z n0 T_10.heap := O_4.keep K_10 (allS g1 all0)
  have K_16 : Keep h0 T_10.heap [a1] := K_5.trans K_10 (by intro x hx'; cases List.mem_singleton.mp hx'; exact (Or.inl (List.mem_of_getElem? (i := 0) rfl)))
  show OGo p e below _ (T_10.setTop (mkF m 23 #[.val (.ref a1), .val (.ref a2)] []))
  refine OGo.to (fun _ k => XS.iconst X_10.here hx rfl (hb hby d7_23) k) ?_
  show OGo p e below _ (T_10.setTop (mkF m 24 #[.val (.ref a1), .val (.ref a2)] [(.int (1 : Int32))]))
  refine OGo.ret (Q := Qadd0 Z a1 a2 dd kd h0 n0) X_10 (some (.int (1 : Int32))) (fun h => by rw [Bd.returns] at h; cases h) Bd.notSynchronized (fun fs hr => retN X_10 hx (t := .boolean) (z := (1 : Int32)) Bd.returns (by simp) (hb hby d7_24) hr) ?_ (by decide) (by decide)
  show Qadd0 Z a1 a2 dd kd h0 n0 _ T_10.heap _
  exact ⟨b__10, kb__10, rfl, N_10, K_16, gq_b__10, sz_b__10, p_10_0, p_10_1, p_10_2, p_10_3, p_10_4, p_10_5, p_10_6⟩
theorem ef_addP1 (m : MethodId) (x0 : Addr) (x1 : Addr) (x2 : Addr) (x3 : Int32) : entryFrame m #[(.ref x0), (.ref x1), (.ref x2), (.int x3)] 4 = mkF m 0 #[.val (.ref x0), .val (.ref x1), .val (.ref x2), .val (.int x3)] [] := by first | (simp [entryFrame, mkF, argsToLocals, Value.category]; done) | rfl
def QaddP1 (Z : State) (a1 : Addr) (a2 : Addr) (t1 : Addr) (t1 : Addr) (kb : ClassId) (x0 : Addr) (h0 : Heap) (n0 : Nat) (v : Option Value) (h : Heap) (L : List Loc) : Prop := v = none ∧ Fr n0 L ∧ Keep h0 h [a1, t1] ∧ Fld Z h a1 "java/util/AbstractList" "modCount" "I" (.int (2 : Int32)) ∧ Fld Z h a1 "java/util/ArrayList" "size" "I" (.int (2 : Int32)) ∧ Fld Z h a1 "java/util/ArrayList" "elementData" "[Ljava/lang/Object;" (.ref t1) ∧ Arv Z h t1 kb (.object "java/lang/Object") (10 : Int32) [(.ref x0), (.ref a2), .null, .null, .null, .null, .null, .null, .null, .null] .null
set_option maxRecDepth 65536 in
set_option maxHeartbeats 40000000 in
theorem rmaddP1 (l : Launch) (Z : State) (a0 : Array Value) (hw : ∀ d ∈ tables_1, d.before a0 Z = true) (ws : List Jvm.Cond) (a1 : Addr) (a2 : Addr) (t1 : Addr) (t1 : Addr) (kb : ClassId) (x0 : Addr) (h0 : Heap) (n0 : Nat) (Z0 : n0 ≤ h0.size) (E1 : Exa Z h0 a1 "java/util/ArrayList") (E2 : Exa Z h0 a2 "com/example/dromos/dromos/model/Module$Signature") (g1 : n0 ≤ a1) (n12 : a1 ≠ a2) (F1 : Fld Z h0 a1 "java/util/AbstractList" "modCount" "I" (.int (2 : Int32))) (F2 : Fld Z h0 a1 "java/util/ArrayList" "size" "I" (.int (1 : Int32))) (F3 : Fld Z h0 a1 "java/util/ArrayList" "elementData" "[Ljava/lang/Object;" (.ref t1)) (V1 : Arv Z h0 t1 kb (.object "java/lang/Object") (10 : Int32) [(.ref x0), .null, .null, .null, .null, .null, .null, .null, .null, .null] .null) (Ov : Ovr Z kb "java/lang/Object") (gt : n0 ≤ t1) (nt : a1 ≠ t1) (n2t : a2 ≠ t1) :
    MetFree l (⟨"java/util/ArrayList", "add", "(Ljava/lang/Object;[Ljava/lang/Object;I)V"⟩ : MethodName) (head1 (Jvm.Cond.code (⟨"java/util/ArrayList", "add", "(Ljava/lang/Object;[Ljava/lang/Object;I)V"⟩ : MethodName) jdk_38_method_24_code 4 none :: ws) ({ frames := 0, cells := 0, slots := 0, locals := 0 } : Room)) (fun a U => a = #[(.ref a1), (.ref a2), (.ref t1), (.int (1 : Int32))] ∧ Z.Warmed39 U.vm ∧ U.heap = h0) (fun _ _ _ _ _ => True) (fun _ U o U' => ∃ v L, o = .returned v ∧ QaddP1 Z a1 a2 t1 t1 kb x0 h0 n0 v U'.heap L ∧ FrameEnd U o U' L ({ frames := 0, cells := 0, slots := 0, locals := 0 } : Room).cells ({ frames := 0, cells := 0, slots := 0, locals := 0 } : Room).slots) := by
  refine MetFree.of_bodySF (plainFor_of_name pn_3) hisR ?_
  intro p e s m args below meth c s₁ Bd hml0 hP hK
  obtain ⟨rfl, hZ, hh⟩ := hP
  have hx := Bd.exec
  have hby := Bd.bytes
  have hml : c.maxLocals = 4 := hml0
  have hown : s.vm.findClass "java/util/ArrayList" = some m.cls := findClass_of_methodNamed Bd.named
  have hnm := (name_of_methodNamed Bd.named Bd.method).1
  have X0 : Stand p l e ({ frames := 0, cells := 0, slots := 0, locals := 0 } : Room) s m #[(.ref a1), (.ref a2), (.ref t1), (.int (1 : Int32))] below meth c s₁ [] 0 0 := Stand.of_body Bd
  have e0 : s₁.heap = h0 := by rw [← hh, Bd.state]; rfl
  have N0 := Fr.nil n0
  show OGo p e below (fun s₂ o => ∃ v L, o = .returned v ∧ QaddP1 Z a1 a2 t1 t1 kb x0 h0 n0 v s₂.heap L ∧ FrameEnd s o s₂ L ({ frames := 0, cells := 0, slots := 0, locals := 0 } : Room).cells ({ frames := 0, cells := 0, slots := 0, locals := 0 } : Room).slots) _
  refine OGo.to (fun _ k => castTop (ef_addP1 m a1 a2 t1 (1 : Int32)) k) ?_
  refine OGo.to (fun _ k => XS.iloadN X0.here hx rfl (hb hby d8_0) rfl k) ?_
  show OGo p e below _ (s₁.setTop (mkF m 1 #[.val (.ref a1), .val (.ref a2), .val (.ref t1), .val (.int (1 : Int32))] [(.int (1 : Int32))]))
  refine OGo.to (fun _ k => XS.aloadN X0.here hx rfl (hb hby d8_1) rfl rfl k) ?_
  show OGo p e below _ (s₁.setTop (mkF m 2 #[.val (.ref a1), .val (.ref a2), .val (.ref t1), .val (.int (1 : Int32))] [(.ref t1), (.int (1 : Int32))]))
  have Vq_1 := V1
  obtain ⟨cl_1, Ar_1, q_1, S_1, M_1, Hs_1, G_1⟩ := Vq_1
  refine OGo.to (fun _ k => X0.arraylength hx (by rw [e0]; exact Ar_1.1) (State.isArrayOf_alike hZ.alike Ar_1.2.1) (g := (mkF m 2 #[.val (.ref a1), .val (.ref a2), .val (.ref t1), .val (.int (1 : Int32))] [(.ref t1), (.int (1 : Int32))])) rfl rfl (hb hby d8_2) _ k) ?_
  rw [len_of S_1 M_1]
  show OGo p e below _ (s₁.setTop (mkF m 3 #[.val (.ref a1), .val (.ref a2), .val (.ref t1), .val (.int (1 : Int32))] [(.int (10 : Int32)), (.int (1 : Int32))]))
  have hc3__2 : ¬ ((1 : Int32) = (10 : Int32)) := by decide
  refine OGo.to (fun _ k => XS.icmpYes X0.here hx rfl (pc0 := 3) (pc' := 11) rfl (hb hby d8_3) rfl (feq hc3__2).2 (by decide) (by decide) k) ?_
  show OGo p e below _ (s₁.setTop (mkF m 11 #[.val (.ref a1), .val (.ref a2), .val (.ref t1), .val (.int (1 : Int32))] []))
  refine OGo.to (fun _ k => XS.aloadN X0.here hx rfl (hb hby d8_11) rfl rfl k) ?_
  show OGo p e below _ (s₁.setTop (mkF m 12 #[.val (.ref a1), .val (.ref a2), .val (.ref t1), .val (.int (1 : Int32))] [(.ref t1)]))
  refine OGo.to (fun _ k => XS.iloadN X0.here hx rfl (hb hby d8_12) rfl k) ?_
  show OGo p e below _ (s₁.setTop (mkF m 13 #[.val (.ref a1), .val (.ref a2), .val (.ref t1), .val (.int (1 : Int32))] [(.int (1 : Int32)), (.ref t1)]))
  refine OGo.to (fun _ k => XS.aloadN X0.here hx rfl (hb hby d8_13) rfl rfl k) ?_
  show OGo p e below _ (s₁.setTop (mkF m 14 #[.val (.ref a1), .val (.ref a2), .val (.ref t1), .val (.int (1 : Int32))] [(.ref a2), (.int (1 : Int32)), (.ref t1)]))
  have Vq_3 := V1
  obtain ⟨cl_3, Ar_3, q_3, S_3, M_3, Hs_3, G_3⟩ := Vq_3
  have hin_4 : ¬ ((1 : Int32) < 0 ∨ cl_3.slots.size ≤ ((1 : Int32)).toNatClampNeg) := inb_of S_3 ⟨by decide, by decide⟩
  obtain ⟨T_4, h_4, X_4, e_4, W_4, st_4⟩ := stR X0 hx hZ e0 Ar_3 (j := (1 : Int32)) hin_4 rfl (Sto.of Ar_3 (q_3 ▸ Ov) (Ins.of_exa E2 (hw _ (List.mem_of_getElem? (i := 73) rfl)))) (g := (mkF m 14 #[.val (.ref a1), .val (.ref a2), .val (.ref t1), .val (.int (1 : Int32))] [(.ref a2), (.int (1 : Int32)), (.ref t1)])) rfl rfl (hb hby d8_14)
  refine OGo.to st_4 ?_
  have V_4 : Arv Z h_4 t1 kb (.object "java/lang/Object") (10 : Int32) [(.ref x0), (.ref a2), .null, .null, .null, .null, .null, .null, .null, .null] .null := Arv.set Ar_3 q_3 S_3 M_3 Hs_3 G_3 rfl W_4 1 rfl (Nat.le_of_ble_eq_true rfl)
  have N_4 := Fr.snoc X_4 N0 gt
  have z_5 : n0 ≤ h_4.size := Nat.le_trans Z0 (Keep.of_wr W_4).1
  have K_6 : Keep h0 h_4 [a1, t1] := (Keep.refl h0 [a1, t1]).wr W_4 (Or.inl (List.mem_of_getElem? (i := 1) rfl))
  show OGo p e below _ (T_4.setTop (mkF m 15 #[.val (.ref a1), .val (.ref a2), .val (.ref t1), .val (.int (1 : Int32))] []))
  refine OGo.to (fun _ k => XS.aloadN X_4.here hx rfl (hb hby d8_15) rfl rfl k) ?_
  show OGo p e below _ (T_4.setTop (mkF m 16 #[.val (.ref a1), .val (.ref a2), .val (.ref t1), .val (.int (1 : Int32))] [(.ref a1)]))
  refine OGo.to (fun _ k => XS.iloadN X_4.here hx rfl (hb hby d8_16) rfl k) ?_
  show OGo p e below _ (T_4.setTop (mkF m 17 #[.val (.ref a1), .val (.ref a2), .val (.ref t1), .val (.int (1 : Int32))] [(.int (1 : Int32)), (.ref a1)]))
  refine OGo.to (fun _ k => XS.iconst X_4.here hx rfl (hb hby d8_17) k) ?_
  show OGo p e below _ (T_4.setTop (mkF m 18 #[.val (.ref a1), .val (.ref a2), .val (.ref t1), .val (.int (1 : Int32))] [(.int (1 : Int32)), (.int (1 : Int32)), (.ref a1)]))
  refine OGo.to (fun _ k => XS.iadd X_4.here hx rfl (hb hby d8_18) rfl k) ?_
  show OGo p e below _ (T_4.setTop (mkF m 19 #[.val (.ref a1), .val (.ref a2), .val (.ref t1), .val (.int (1 : Int32))] [(.int (2 : Int32)), (.ref a1)]))
  have f_7 : Exa Z h_4 a1 "java/util/ArrayList" := (E1.wr W_4)
  have f_8 : Fld Z h_4 a1 "java/util/ArrayList" "size" "I" (.int (1 : Int32)) := (F2.other W_4 (Or.inl nt))
  obtain ⟨T_9, h_9, X_9, e_9, W_9, st_9⟩ := putF X_4 hx hZ hown (host := "") (Or.inl (hw _ (List.mem_of_getElem? (i := 50) rfl))) Via.refl e_4 f_8 f_7 (Or.inl (hw _ (List.mem_of_getElem? (i := 51) rfl))) (hw _ (List.mem_of_getElem? (i := 2) rfl)) (ty := .int) (by decide) rfl rfl (g := (mkF m 19 #[.val (.ref a1), .val (.ref a2), .val (.ref t1), .val (.int (1 : Int32))] [(.int (2 : Int32)), (.ref a1)])) rfl rfl (hb hby d8_19)
  refine OGo.to st_9 ?_
  have Fw_9 : Fld Z h_9 a1 "java/util/ArrayList" "size" "I" (.int (2 : Int32)) := f_8.same W_9
  have N_9 := Fr.snoc X_9 N_4 g1
  have z_10 : n0 ≤ h_9.size := Nat.le_trans z_5 (Keep.of_wr W_9).1
  have K_11 : Keep h0 h_9 [a1, t1] := K_6.wr W_9 (Or.inl (List.mem_of_getElem? (i := 0) rfl))
  show OGo p e below _ (T_9.setTop (mkF m 22 #[.val (.ref a1), .val (.ref a2), .val (.ref t1), .val (.int (1 : Int32))] []))
  refine OGo.ret (Q := QaddP1 Z a1 a2 t1 t1 kb x0 h0 n0) X_9 none (fun _ => rfl) Bd.notSynchronized (fun fs hr => X_9.returnOut hx Bd.returns (hb hby d8_22) hr) ?_ (by decide) (by decide)
  have f_12 : Fld Z h_9 a1 "java/util/AbstractList" "modCount" "I" (.int (2 : Int32)) := ((F1.other W_4 (Or.inl nt)).other W_9 (Or.inr (slot_ne (Or.inl (hw _ (List.mem_of_getElem? (i := 23) rfl))) (Or.inl (hw _ (List.mem_of_getElem? (i := 51) rfl))) (by decide) (t := .int) (t' := .int) (by decide) (by decide))))
  have f_13 : Fld Z h_9 a1 "java/util/ArrayList" "elementData" "[Ljava/lang/Object;" (.ref t1) := ((F3.other W_4 (Or.inl nt)).other W_9 (Or.inr (slot_ne (Or.inl (hw _ (List.mem_of_getElem? (i := 26) rfl))) (Or.inl (hw _ (List.mem_of_getElem? (i := 51) rfl))) (by decide) (t := (.array (.object "java/lang/Object"))) (t' := .int) (by decide) (by decide))))
  have f_14 : Arv Z h_9 t1 kb (.object "java/lang/Object") (10 : Int32) [(.ref x0), (.ref a2), .null, .null, .null, .null, .null, .null, .null, .null] .null := (V_4.other W_9 (Ne.symm nt))
  show QaddP1 Z a1 a2 t1 t1 kb x0 h0 n0 _ T_9.heap _
  rw [e_9]
  exact ⟨rfl, N_9, K_11, f_12, Fw_9, f_13, f_14⟩
theorem ef_add1 (m : MethodId) (x0 : Addr) (x1 : Addr) : entryFrame m #[(.ref x0), (.ref x1)] 2 = mkF m 0 #[.val (.ref x0), .val (.ref x1)] [] := by first | (simp [entryFrame, mkF, argsToLocals, Value.category]; done) | rfl
def Qadd1 (Z : State) (a1 : Addr) (a2 : Addr) (t1 : Addr) (kb : ClassId) (x0 : Addr) (h0 : Heap) (n0 : Nat) (v : Option Value) (h : Heap) (L : List Loc) : Prop := v = some (.int (1 : Int32)) ∧ Fr n0 L ∧ Keep h0 h [a1, t1] ∧ Fld Z h a1 "java/util/AbstractList" "modCount" "I" (.int (2 : Int32)) ∧ Fld Z h a1 "java/util/ArrayList" "size" "I" (.int (2 : Int32)) ∧ Fld Z h a1 "java/util/ArrayList" "elementData" "[Ljava/lang/Object;" (.ref t1) ∧ Arv Z h t1 kb (.object "java/lang/Object") (10 : Int32) [(.ref x0), (.ref a2), .null, .null, .null, .null, .null, .null, .null, .null] .null
set_option maxRecDepth 65536 in
set_option maxHeartbeats 40000000 in
theorem rmadd1 (l : Launch) (Z : State) (a0 : Array Value) (hw : ∀ d ∈ tables_1, d.before a0 Z = true) (ws : List Jvm.Cond) (a1 : Addr) (a2 : Addr) (t1 : Addr) (kb : ClassId) (x0 : Addr) (h0 : Heap) (n0 : Nat) (Z0 : n0 ≤ h0.size) (E1 : Exa Z h0 a1 "java/util/ArrayList") (E2 : Exa Z h0 a2 "com/example/dromos/dromos/model/Module$Signature") (g1 : n0 ≤ a1) (n12 : a1 ≠ a2) (F1 : Fld Z h0 a1 "java/util/AbstractList" "modCount" "I" (.int (1 : Int32))) (F2 : Fld Z h0 a1 "java/util/ArrayList" "size" "I" (.int (1 : Int32))) (F3 : Fld Z h0 a1 "java/util/ArrayList" "elementData" "[Ljava/lang/Object;" (.ref t1)) (V1 : Arv Z h0 t1 kb (.object "java/lang/Object") (10 : Int32) [(.ref x0), .null, .null, .null, .null, .null, .null, .null, .null, .null] .null) (Ov : Ovr Z kb "java/lang/Object") (gt : n0 ≤ t1) (nt : a1 ≠ t1) (n2t : a2 ≠ t1) :
    MetFree l (⟨"java/util/ArrayList", "add", "(Ljava/lang/Object;)Z"⟩ : MethodName) (head1 (Jvm.Cond.code (⟨"java/util/ArrayList", "add", "(Ljava/lang/Object;)Z"⟩ : MethodName) jdk_38_method_25_code 2 (some .boolean) :: ws) ({ frames := 1, cells := 0, slots := 0, locals := 15 } : Room)) (fun a U => a = #[(.ref a1), (.ref a2)] ∧ Z.Warmed39 U.vm ∧ U.heap = h0) (fun _ _ _ _ _ => True) (fun _ U o U' => ∃ v L, o = .returned v ∧ Qadd1 Z a1 a2 t1 kb x0 h0 n0 v U'.heap L ∧ FrameEnd U o U' L ({ frames := 1, cells := 0, slots := 0, locals := 15 } : Room).cells ({ frames := 1, cells := 0, slots := 0, locals := 15 } : Room).slots) := by
  refine MetFree.of_bodySF (plainFor_of_name pn_3) hisR ?_
  intro p e s m args below meth c s₁ Bd hml0 hP hK
  obtain ⟨rfl, hZ, hh⟩ := hP
  have hx := Bd.exec
  have hby := Bd.bytes
  have hml : c.maxLocals = 2 := hml0
  have hown : s.vm.findClass "java/util/ArrayList" = some m.cls := findClass_of_methodNamed Bd.named
  have hnm := (name_of_methodNamed Bd.named Bd.method).1
  have X0 : Stand p l e ({ frames := 1, cells := 0, slots := 0, locals := 15 } : Room) s m #[(.ref a1), (.ref a2)] below meth c s₁ [] 0 0 := Stand.of_body Bd
  have e0 : s₁.heap = h0 := by rw [← hh, Bd.state]; rfl
  have N0 := Fr.nil n0
  show OGo p e below (fun s₂ o => ∃ v L, o = .returned v ∧ Qadd1 Z a1 a2 t1 kb x0 h0 n0 v s₂.heap L ∧ FrameEnd s o s₂ L ({ frames := 1, cells := 0, slots := 0, locals := 15 } : Room).cells ({ frames := 1, cells := 0, slots := 0, locals := 15 } : Room).slots) _
  refine OGo.to (fun _ k => castTop (ef_add1 m a1 a2) k) ?_
  refine OGo.to (fun _ k => XS.aloadN X0.here hx rfl (hb hby d7_0) rfl rfl k) ?_
  show OGo p e below _ (s₁.setTop (mkF m 1 #[.val (.ref a1), .val (.ref a2)] [(.ref a1)]))
  refine OGo.to (fun _ k => XS.dup X0.here hx rfl (hb hby d7_1) rfl rfl k) ?_
  show OGo p e below _ (s₁.setTop (mkF m 2 #[.val (.ref a1), .val (.ref a2)] [(.ref a1), (.ref a1)]))
  obtain ⟨T_1, X_1, e_1, st_1⟩ := getF X0 hx hZ hown (host := "") (Or.inl (hw _ (List.mem_of_getElem? (i := 48) rfl))) (Via.of (hw _ (List.mem_of_getElem? (i := 49) rfl))) e0 F1 (g := (mkF m 2 #[.val (.ref a1), .val (.ref a2)] [(.ref a1), (.ref a1)])) rfl rfl (hb hby d7_2)
  refine OGo.to st_1 ?_
  show OGo p e below _ (T_1.setTop (mkF m 5 #[.val (.ref a1), .val (.ref a2)] [(.int (1 : Int32)), (.ref a1)]))
  refine OGo.to (fun _ k => XS.iconst X_1.here hx rfl (hb hby d7_5) k) ?_
  show OGo p e below _ (T_1.setTop (mkF m 6 #[.val (.ref a1), .val (.ref a2)] [(.int (1 : Int32)), (.int (1 : Int32)), (.ref a1)]))
  refine OGo.to (fun _ k => XS.iadd X_1.here hx rfl (hb hby d7_6) rfl k) ?_
  show OGo p e below _ (T_1.setTop (mkF m 7 #[.val (.ref a1), .val (.ref a2)] [(.int (2 : Int32)), (.ref a1)]))
  obtain ⟨T_2, h_2, X_2, e_2, W_2, st_2⟩ := putF X_1 hx hZ hown (host := "") (Or.inl (hw _ (List.mem_of_getElem? (i := 48) rfl))) (Via.of (hw _ (List.mem_of_getElem? (i := 49) rfl))) e_1 F1 E1 (Or.inl (hw _ (List.mem_of_getElem? (i := 23) rfl))) (hw _ (List.mem_of_getElem? (i := 2) rfl)) (ty := .int) (by decide) rfl rfl (g := (mkF m 7 #[.val (.ref a1), .val (.ref a2)] [(.int (2 : Int32)), (.ref a1)])) rfl rfl (hb hby d7_7)
  refine OGo.to st_2 ?_
  have Fw_2 : Fld Z h_2 a1 "java/util/AbstractList" "modCount" "I" (.int (2 : Int32)) := F1.same W_2
  have N_2 := Fr.snoc X_2 N0 g1
  have z_3 : n0 ≤ h_2.size := Nat.le_trans Z0 (Keep.of_wr W_2).1
  have K_4 : Keep h0 h_2 [a1, t1] := (Keep.refl h0 [a1, t1]).wr W_2 (Or.inl (List.mem_of_getElem? (i := 0) rfl))
  show OGo p e below _ (T_2.setTop (mkF m 10 #[.val (.ref a1), .val (.ref a2)] []))
  refine OGo.to (fun _ k => XS.aloadN X_2.here hx rfl (hb hby d7_10) rfl rfl k) ?_
  show OGo p e below _ (T_2.setTop (mkF m 11 #[.val (.ref a1), .val (.ref a2)] [(.ref a1)]))
  refine OGo.to (fun _ k => XS.aloadN X_2.here hx rfl (hb hby d7_11) rfl rfl k) ?_
  show OGo p e below _ (T_2.setTop (mkF m 12 #[.val (.ref a1), .val (.ref a2)] [(.ref a2), (.ref a1)]))
  refine OGo.to (fun _ k => XS.aloadN X_2.here hx rfl (hb hby d7_12) rfl rfl k) ?_
  show OGo p e below _ (T_2.setTop (mkF m 13 #[.val (.ref a1), .val (.ref a2)] [(.ref a1), (.ref a2), (.ref a1)]))
  have f_5 : Fld Z h_2 a1 "java/util/ArrayList" "elementData" "[Ljava/lang/Object;" (.ref t1) := (F3.other W_2 (Or.inr (slot_ne (Or.inl (hw _ (List.mem_of_getElem? (i := 26) rfl))) (Or.inl (hw _ (List.mem_of_getElem? (i := 23) rfl))) (by decide) (t := (.array (.object "java/lang/Object"))) (t' := .int) (by decide) (by decide))))
  obtain ⟨T_6, X_6, e_6, st_6⟩ := getF X_2 hx hZ hown (host := "") (Or.inl (hw _ (List.mem_of_getElem? (i := 25) rfl))) Via.refl e_2 f_5 (g := (mkF m 13 #[.val (.ref a1), .val (.ref a2)] [(.ref a1), (.ref a2), (.ref a1)])) rfl rfl (hb hby d7_13)
  refine OGo.to st_6 ?_
  show OGo p e below _ (T_6.setTop (mkF m 16 #[.val (.ref a1), .val (.ref a2)] [(.ref t1), (.ref a2), (.ref a1)]))
  refine OGo.to (fun _ k => XS.aloadN X_6.here hx rfl (hb hby d7_16) rfl rfl k) ?_
  show OGo p e below _ (T_6.setTop (mkF m 17 #[.val (.ref a1), .val (.ref a2)] [(.ref a1), (.ref t1), (.ref a2), (.ref a1)]))
  have f_7 : Fld Z h_2 a1 "java/util/ArrayList" "size" "I" (.int (1 : Int32)) := (F2.other W_2 (Or.inr (slot_ne (Or.inl (hw _ (List.mem_of_getElem? (i := 51) rfl))) (Or.inl (hw _ (List.mem_of_getElem? (i := 23) rfl))) (by decide) (t := .int) (t' := .int) (by decide) (by decide))))
  obtain ⟨T_8, X_8, e_8, st_8⟩ := getF X_6 hx hZ hown (host := "") (Or.inl (hw _ (List.mem_of_getElem? (i := 50) rfl))) Via.refl e_6 f_7 (g := (mkF m 17 #[.val (.ref a1), .val (.ref a2)] [(.ref a1), (.ref t1), (.ref a2), (.ref a1)])) rfl rfl (hb hby d7_17)
  refine OGo.to st_8 ?_
  show OGo p e below _ (T_8.setTop (mkF m 20 #[.val (.ref a1), .val (.ref a2)] [(.int (1 : Int32)), (.ref t1), (.ref a2), (.ref a1)]))
  have f_10 : Exa Z h_2 a1 "java/util/ArrayList" := (E1.wr W_2)
  have f_11 : Exa Z h_2 a2 "com/example/dromos/dromos/model/Module$Signature" := (E2.wr W_2)
  have f_12 : Arv Z h_2 t1 kb (.object "java/lang/Object") (10 : Int32) [(.ref x0), .null, .null, .null, .null, .null, .null, .null, .null, .null] .null := (V1.other W_2 (Ne.symm nt))
  obtain ⟨cq_9, q_9, q_9'⟩ := f_10.cell
  obtain ⟨_, T_9, Lc_9, X_9, hQ_9, st_9⟩ := own_un X_8 (Q := QaddP1 Z a1 a2 t1 t1 kb x0 h_2 n0) (rc := 0) (rs := 0) (W := fun v B => Steps p.tables e below (T_8.setTop (mkF m 20 #[.val (.ref a1), .val (.ref a2)] [(.int (1 : Int32)), (.ref t1), (.ref a2), (.ref a1)])) (B.setTop { (mkF m 20 #[.val (.ref a1), .val (.ref a2)] [(.int (1 : Int32)), (.ref t1), (.ref a2), (.ref a1)]) with pc := 23, stack := v.toList ++ [] })) <| X_8.privateBack hx (y := (⟨"java/util/ArrayList", "add", "(Ljava/lang/Object;[Ljava/lang/Object;I)V"⟩ : MethodName)) hown (mvT hZ (hw _ (List.mem_of_getElem? (i := 52) rfl))) (mvT hZ (hw _ (List.mem_of_getElem? (i := 53) rfl))) (own_selP hZ (hw _ (List.mem_of_getElem? (i := 2) rfl)) (hw _ (List.mem_of_getElem? (i := 54) rfl)) (hw _ (List.mem_of_getElem? (i := 53) rfl)) (by decide)) (Cond.privateMethod_at (mvP hZ (hw _ (List.mem_of_getElem? (i := 54) rfl)) (args := #[]))) (mvT hZ (hw _ (List.mem_of_getElem? (i := 56) rfl))) (by decide) (backOf (W := 0) (rmaddP1 l Z a0 hw [] a1 a2 t1 t1 kb x0 h_2 n0 z_3 f_10 f_11 g1 n12 Fw_2 f_7 f_5 f_12 Ov gt nt n2t) hZ (hw _ (List.mem_of_getElem? (i := 56) rfl)) (hw _ (List.mem_of_getElem? (i := 3) rfl)) (by decide) (by decide)) (g := (mkF m 20 #[.val (.ref a1), .val (.ref a2)] [(.int (1 : Int32)), (.ref t1), (.ref a2), (.ref a1)])) rfl (by rw [hml]; rfl) (Steps.refl _) (a := a1) (by rw [e_8]; exact q_9) q_9' (argsL := [(.ref a2), (.ref t1), (.int (1 : Int32))]) (rest := []) (lenOf pd_4 rfl) rfl (by show 2 * 0 + _ ≤ _; exact Nat.le_of_eq rfl) (hb hby d7_20) (fun _ _ => ⟨rfl, e_8, (by decide : 0 + 0 ≤ _), (by decide : 0 + 0 ≤ _)⟩)
  obtain ⟨rfl, N_9q, K_9, p_9_0, p_9_1, p_9_2, p_9_3⟩ := hQ_9
  have N_9 := Fr.app N_2 N_9q
  refine OGo.to (fun _ k => st_9.trans k) ?_
  have z_13 : n0 ≤ T_9.heap.size := Nat.le_trans z_3 K_9.1
  have K_14 : Keep h0 T_9.heap [a1, t1] := K_4.trans K_9 (by intro x hx'; simp only [List.mem_cons, List.not_mem_nil, or_false] at hx'; rcases hx' with rfl | rfl <;> first | exact (Or.inl (List.mem_of_getElem? (i := 0) rfl)) | exact (Or.inl (List.mem_of_getElem? (i := 1) rfl)))
  show OGo p e below _ (T_9.setTop (mkF m 23 #[.val (.ref a1), .val (.ref a2)] []))
  refine OGo.to (fun _ k => XS.iconst X_9.here hx rfl (hb hby d7_23) k) ?_
  show OGo p e below _ (T_9.setTop (mkF m 24 #[.val (.ref a1), .val (.ref a2)] [(.int (1 : Int32))]))
  refine OGo.ret (Q := Qadd1 Z a1 a2 t1 kb x0 h0 n0) X_9 (some (.int (1 : Int32))) (fun h => by rw [Bd.returns] at h; cases h) Bd.notSynchronized (fun fs hr => retN X_9 hx (t := .boolean) (z := (1 : Int32)) Bd.returns (by simp) (hb hby d7_24) hr) ?_ (by decide) (by decide)
  show Qadd1 Z a1 a2 t1 kb x0 h0 n0 _ T_9.heap _
  exact ⟨rfl, N_9, K_14, p_9_0, p_9_1, p_9_2, p_9_3⟩
theorem ef_addP2 (m : MethodId) (x0 : Addr) (x1 : Addr) (x2 : Addr) (x3 : Int32) : entryFrame m #[(.ref x0), (.ref x1), (.ref x2), (.int x3)] 4 = mkF m 0 #[.val (.ref x0), .val (.ref x1), .val (.ref x2), .val (.int x3)] [] := by first | (simp [entryFrame, mkF, argsToLocals, Value.category]; done) | rfl
def QaddP2 (Z : State) (a1 : Addr) (a2 : Addr) (t1 : Addr) (t1 : Addr) (kb : ClassId) (x0 : Addr) (x1 : Addr) (h0 : Heap) (n0 : Nat) (v : Option Value) (h : Heap) (L : List Loc) : Prop := v = none ∧ Fr n0 L ∧ Keep h0 h [a1, t1] ∧ Fld Z h a1 "java/util/AbstractList" "modCount" "I" (.int (3 : Int32)) ∧ Fld Z h a1 "java/util/ArrayList" "size" "I" (.int (3 : Int32)) ∧ Fld Z h a1 "java/util/ArrayList" "elementData" "[Ljava/lang/Object;" (.ref t1) ∧ Arv Z h t1 kb (.object "java/lang/Object") (10 : Int32) [(.ref x0), (.ref x1), (.ref a2), .null, .null, .null, .null, .null, .null, .null] .null
set_option maxRecDepth 65536 in
set_option maxHeartbeats 40000000 in
theorem rmaddP2 (l : Launch) (Z : State) (a0 : Array Value) (hw : ∀ d ∈ tables_1, d.before a0 Z = true) (ws : List Jvm.Cond) (a1 : Addr) (a2 : Addr) (t1 : Addr) (t1 : Addr) (kb : ClassId) (x0 : Addr) (x1 : Addr) (h0 : Heap) (n0 : Nat) (Z0 : n0 ≤ h0.size) (E1 : Exa Z h0 a1 "java/util/ArrayList") (E2 : Exa Z h0 a2 "com/example/dromos/dromos/model/Module$Signature") (g1 : n0 ≤ a1) (n12 : a1 ≠ a2) (F1 : Fld Z h0 a1 "java/util/AbstractList" "modCount" "I" (.int (3 : Int32))) (F2 : Fld Z h0 a1 "java/util/ArrayList" "size" "I" (.int (2 : Int32))) (F3 : Fld Z h0 a1 "java/util/ArrayList" "elementData" "[Ljava/lang/Object;" (.ref t1)) (V1 : Arv Z h0 t1 kb (.object "java/lang/Object") (10 : Int32) [(.ref x0), (.ref x1), .null, .null, .null, .null, .null, .null, .null, .null] .null) (Ov : Ovr Z kb "java/lang/Object") (gt : n0 ≤ t1) (nt : a1 ≠ t1) (n2t : a2 ≠ t1) :
    MetFree l (⟨"java/util/ArrayList", "add", "(Ljava/lang/Object;[Ljava/lang/Object;I)V"⟩ : MethodName) (head1 (Jvm.Cond.code (⟨"java/util/ArrayList", "add", "(Ljava/lang/Object;[Ljava/lang/Object;I)V"⟩ : MethodName) jdk_38_method_24_code 4 none :: ws) ({ frames := 0, cells := 0, slots := 0, locals := 0 } : Room)) (fun a U => a = #[(.ref a1), (.ref a2), (.ref t1), (.int (2 : Int32))] ∧ Z.Warmed39 U.vm ∧ U.heap = h0) (fun _ _ _ _ _ => True) (fun _ U o U' => ∃ v L, o = .returned v ∧ QaddP2 Z a1 a2 t1 t1 kb x0 x1 h0 n0 v U'.heap L ∧ FrameEnd U o U' L ({ frames := 0, cells := 0, slots := 0, locals := 0 } : Room).cells ({ frames := 0, cells := 0, slots := 0, locals := 0 } : Room).slots) := by
  refine MetFree.of_bodySF (plainFor_of_name pn_3) hisR ?_
  intro p e s m args below meth c s₁ Bd hml0 hP hK
  obtain ⟨rfl, hZ, hh⟩ := hP
  have hx := Bd.exec
  have hby := Bd.bytes
  have hml : c.maxLocals = 4 := hml0
  have hown : s.vm.findClass "java/util/ArrayList" = some m.cls := findClass_of_methodNamed Bd.named
  have hnm := (name_of_methodNamed Bd.named Bd.method).1
  have X0 : Stand p l e ({ frames := 0, cells := 0, slots := 0, locals := 0 } : Room) s m #[(.ref a1), (.ref a2), (.ref t1), (.int (2 : Int32))] below meth c s₁ [] 0 0 := Stand.of_body Bd
  have e0 : s₁.heap = h0 := by rw [← hh, Bd.state]; rfl
  have N0 := Fr.nil n0
  show OGo p e below (fun s₂ o => ∃ v L, o = .returned v ∧ QaddP2 Z a1 a2 t1 t1 kb x0 x1 h0 n0 v s₂.heap L ∧ FrameEnd s o s₂ L ({ frames := 0, cells := 0, slots := 0, locals := 0 } : Room).cells ({ frames := 0, cells := 0, slots := 0, locals := 0 } : Room).slots) _
  refine OGo.to (fun _ k => castTop (ef_addP2 m a1 a2 t1 (2 : Int32)) k) ?_
  refine OGo.to (fun _ k => XS.iloadN X0.here hx rfl (hb hby d8_0) rfl k) ?_
  show OGo p e below _ (s₁.setTop (mkF m 1 #[.val (.ref a1), .val (.ref a2), .val (.ref t1), .val (.int (2 : Int32))] [(.int (2 : Int32))]))
  refine OGo.to (fun _ k => XS.aloadN X0.here hx rfl (hb hby d8_1) rfl rfl k) ?_
  show OGo p e below _ (s₁.setTop (mkF m 2 #[.val (.ref a1), .val (.ref a2), .val (.ref t1), .val (.int (2 : Int32))] [(.ref t1), (.int (2 : Int32))]))
  have Vq_1 := V1
  obtain ⟨cl_1, Ar_1, q_1, S_1, M_1, Hs_1, G_1⟩ := Vq_1
  refine OGo.to (fun _ k => X0.arraylength hx (by rw [e0]; exact Ar_1.1) (State.isArrayOf_alike hZ.alike Ar_1.2.1) (g := (mkF m 2 #[.val (.ref a1), .val (.ref a2), .val (.ref t1), .val (.int (2 : Int32))] [(.ref t1), (.int (2 : Int32))])) rfl rfl (hb hby d8_2) _ k) ?_
  rw [len_of S_1 M_1]
  show OGo p e below _ (s₁.setTop (mkF m 3 #[.val (.ref a1), .val (.ref a2), .val (.ref t1), .val (.int (2 : Int32))] [(.int (10 : Int32)), (.int (2 : Int32))]))
  have hc3__2 : ¬ ((2 : Int32) = (10 : Int32)) := by decide
  refine OGo.to (fun _ k => XS.icmpYes X0.here hx rfl (pc0 := 3) (pc' := 11) rfl (hb hby d8_3) rfl (feq hc3__2).2 (by decide) (by decide) k) ?_
  show OGo p e below _ (s₁.setTop (mkF m 11 #[.val (.ref a1), .val (.ref a2), .val (.ref t1), .val (.int (2 : Int32))] []))
  refine OGo.to (fun _ k => XS.aloadN X0.here hx rfl (hb hby d8_11) rfl rfl k) ?_
  show OGo p e below _ (s₁.setTop (mkF m 12 #[.val (.ref a1), .val (.ref a2), .val (.ref t1), .val (.int (2 : Int32))] [(.ref t1)]))
  refine OGo.to (fun _ k => XS.iloadN X0.here hx rfl (hb hby d8_12) rfl k) ?_
  show OGo p e below _ (s₁.setTop (mkF m 13 #[.val (.ref a1), .val (.ref a2), .val (.ref t1), .val (.int (2 : Int32))] [(.int (2 : Int32)), (.ref t1)]))
  refine OGo.to (fun _ k => XS.aloadN X0.here hx rfl (hb hby d8_13) rfl rfl k) ?_
  show OGo p e below _ (s₁.setTop (mkF m 14 #[.val (.ref a1), .val (.ref a2), .val (.ref t1), .val (.int (2 : Int32))] [(.ref a2), (.int (2 : Int32)), (.ref t1)]))
  have Vq_3 := V1
  obtain ⟨cl_3, Ar_3, q_3, S_3, M_3, Hs_3, G_3⟩ := Vq_3
  have hin_4 : ¬ ((2 : Int32) < 0 ∨ cl_3.slots.size ≤ ((2 : Int32)).toNatClampNeg) := inb_of S_3 ⟨by decide, by decide⟩
  obtain ⟨T_4, h_4, X_4, e_4, W_4, st_4⟩ := stR X0 hx hZ e0 Ar_3 (j := (2 : Int32)) hin_4 rfl (Sto.of Ar_3 (q_3 ▸ Ov) (Ins.of_exa E2 (hw _ (List.mem_of_getElem? (i := 73) rfl)))) (g := (mkF m 14 #[.val (.ref a1), .val (.ref a2), .val (.ref t1), .val (.int (2 : Int32))] [(.ref a2), (.int (2 : Int32)), (.ref t1)])) rfl rfl (hb hby d8_14)
  refine OGo.to st_4 ?_
  have V_4 : Arv Z h_4 t1 kb (.object "java/lang/Object") (10 : Int32) [(.ref x0), (.ref x1), (.ref a2), .null, .null, .null, .null, .null, .null, .null] .null := Arv.set Ar_3 q_3 S_3 M_3 Hs_3 G_3 rfl W_4 2 rfl (Nat.le_of_ble_eq_true rfl)
  have N_4 := Fr.snoc X_4 N0 gt
  have z_5 : n0 ≤ h_4.size := Nat.le_trans Z0 (Keep.of_wr W_4).1
  have K_6 : Keep h0 h_4 [a1, t1] := (Keep.refl h0 [a1, t1]).wr W_4 (Or.inl (List.mem_of_getElem? (i := 1) rfl))
  show OGo p e below _ (T_4.setTop (mkF m 15 #[.val (.ref a1), .val (.ref a2), .val (.ref t1), .val (.int (2 : Int32))] []))
  refine OGo.to (fun _ k => XS.aloadN X_4.here hx rfl (hb hby d8_15) rfl rfl k) ?_
  show OGo p e below _ (T_4.setTop (mkF m 16 #[.val (.ref a1), .val (.ref a2), .val (.ref t1), .val (.int (2 : Int32))] [(.ref a1)]))
  refine OGo.to (fun _ k => XS.iloadN X_4.here hx rfl (hb hby d8_16) rfl k) ?_
  show OGo p e below _ (T_4.setTop (mkF m 17 #[.val (.ref a1), .val (.ref a2), .val (.ref t1), .val (.int (2 : Int32))] [(.int (2 : Int32)), (.ref a1)]))
  refine OGo.to (fun _ k => XS.iconst X_4.here hx rfl (hb hby d8_17) k) ?_
  show OGo p e below _ (T_4.setTop (mkF m 18 #[.val (.ref a1), .val (.ref a2), .val (.ref t1), .val (.int (2 : Int32))] [(.int (1 : Int32)), (.int (2 : Int32)), (.ref a1)]))
  refine OGo.to (fun _ k => XS.iadd X_4.here hx rfl (hb hby d8_18) rfl k) ?_
  show OGo p e below _ (T_4.setTop (mkF m 19 #[.val (.ref a1), .val (.ref a2), .val (.ref t1), .val (.int (2 : Int32))] [(.int (3 : Int32)), (.ref a1)]))
  have f_7 : Exa Z h_4 a1 "java/util/ArrayList" := (E1.wr W_4)
  have f_8 : Fld Z h_4 a1 "java/util/ArrayList" "size" "I" (.int (2 : Int32)) := (F2.other W_4 (Or.inl nt))
  obtain ⟨T_9, h_9, X_9, e_9, W_9, st_9⟩ := putF X_4 hx hZ hown (host := "") (Or.inl (hw _ (List.mem_of_getElem? (i := 50) rfl))) Via.refl e_4 f_8 f_7 (Or.inl (hw _ (List.mem_of_getElem? (i := 51) rfl))) (hw _ (List.mem_of_getElem? (i := 2) rfl)) (ty := .int) (by decide) rfl rfl (g := (mkF m 19 #[.val (.ref a1), .val (.ref a2), .val (.ref t1), .val (.int (2 : Int32))] [(.int (3 : Int32)), (.ref a1)])) rfl rfl (hb hby d8_19)
  refine OGo.to st_9 ?_
  have Fw_9 : Fld Z h_9 a1 "java/util/ArrayList" "size" "I" (.int (3 : Int32)) := f_8.same W_9
  have N_9 := Fr.snoc X_9 N_4 g1
  have z_10 : n0 ≤ h_9.size := Nat.le_trans z_5 (Keep.of_wr W_9).1
  have K_11 : Keep h0 h_9 [a1, t1] := K_6.wr W_9 (Or.inl (List.mem_of_getElem? (i := 0) rfl))
  show OGo p e below _ (T_9.setTop (mkF m 22 #[.val (.ref a1), .val (.ref a2), .val (.ref t1), .val (.int (2 : Int32))] []))
  refine OGo.ret (Q := QaddP2 Z a1 a2 t1 t1 kb x0 x1 h0 n0) X_9 none (fun _ => rfl) Bd.notSynchronized (fun fs hr => X_9.returnOut hx Bd.returns (hb hby d8_22) hr) ?_ (by decide) (by decide)
  have f_12 : Fld Z h_9 a1 "java/util/AbstractList" "modCount" "I" (.int (3 : Int32)) := ((F1.other W_4 (Or.inl nt)).other W_9 (Or.inr (slot_ne (Or.inl (hw _ (List.mem_of_getElem? (i := 23) rfl))) (Or.inl (hw _ (List.mem_of_getElem? (i := 51) rfl))) (by decide) (t := .int) (t' := .int) (by decide) (by decide))))
  have f_13 : Fld Z h_9 a1 "java/util/ArrayList" "elementData" "[Ljava/lang/Object;" (.ref t1) := ((F3.other W_4 (Or.inl nt)).other W_9 (Or.inr (slot_ne (Or.inl (hw _ (List.mem_of_getElem? (i := 26) rfl))) (Or.inl (hw _ (List.mem_of_getElem? (i := 51) rfl))) (by decide) (t := (.array (.object "java/lang/Object"))) (t' := .int) (by decide) (by decide))))
  have f_14 : Arv Z h_9 t1 kb (.object "java/lang/Object") (10 : Int32) [(.ref x0), (.ref x1), (.ref a2), .null, .null, .null, .null, .null, .null, .null] .null := (V_4.other W_9 (Ne.symm nt))
  show QaddP2 Z a1 a2 t1 t1 kb x0 x1 h0 n0 _ T_9.heap _
  rw [e_9]
  exact ⟨rfl, N_9, K_11, f_12, Fw_9, f_13, f_14⟩
theorem ef_add2 (m : MethodId) (x0 : Addr) (x1 : Addr) : entryFrame m #[(.ref x0), (.ref x1)] 2 = mkF m 0 #[.val (.ref x0), .val (.ref x1)] [] := by first | (simp [entryFrame, mkF, argsToLocals, Value.category]; done) | rfl
def Qadd2 (Z : State) (a1 : Addr) (a2 : Addr) (t1 : Addr) (kb : ClassId) (x0 : Addr) (x1 : Addr) (h0 : Heap) (n0 : Nat) (v : Option Value) (h : Heap) (L : List Loc) : Prop := v = some (.int (1 : Int32)) ∧ Fr n0 L ∧ Keep h0 h [a1, t1] ∧ Fld Z h a1 "java/util/AbstractList" "modCount" "I" (.int (3 : Int32)) ∧ Fld Z h a1 "java/util/ArrayList" "size" "I" (.int (3 : Int32)) ∧ Fld Z h a1 "java/util/ArrayList" "elementData" "[Ljava/lang/Object;" (.ref t1) ∧ Arv Z h t1 kb (.object "java/lang/Object") (10 : Int32) [(.ref x0), (.ref x1), (.ref a2), .null, .null, .null, .null, .null, .null, .null] .null
set_option maxRecDepth 65536 in
set_option maxHeartbeats 40000000 in
theorem rmadd2 (l : Launch) (Z : State) (a0 : Array Value) (hw : ∀ d ∈ tables_1, d.before a0 Z = true) (ws : List Jvm.Cond) (a1 : Addr) (a2 : Addr) (t1 : Addr) (kb : ClassId) (x0 : Addr) (x1 : Addr) (h0 : Heap) (n0 : Nat) (Z0 : n0 ≤ h0.size) (E1 : Exa Z h0 a1 "java/util/ArrayList") (E2 : Exa Z h0 a2 "com/example/dromos/dromos/model/Module$Signature") (g1 : n0 ≤ a1) (n12 : a1 ≠ a2) (F1 : Fld Z h0 a1 "java/util/AbstractList" "modCount" "I" (.int (2 : Int32))) (F2 : Fld Z h0 a1 "java/util/ArrayList" "size" "I" (.int (2 : Int32))) (F3 : Fld Z h0 a1 "java/util/ArrayList" "elementData" "[Ljava/lang/Object;" (.ref t1)) (V1 : Arv Z h0 t1 kb (.object "java/lang/Object") (10 : Int32) [(.ref x0), (.ref x1), .null, .null, .null, .null, .null, .null, .null, .null] .null) (Ov : Ovr Z kb "java/lang/Object") (gt : n0 ≤ t1) (nt : a1 ≠ t1) (n2t : a2 ≠ t1) :
    MetFree l (⟨"java/util/ArrayList", "add", "(Ljava/lang/Object;)Z"⟩ : MethodName) (head1 (Jvm.Cond.code (⟨"java/util/ArrayList", "add", "(Ljava/lang/Object;)Z"⟩ : MethodName) jdk_38_method_25_code 2 (some .boolean) :: ws) ({ frames := 1, cells := 0, slots := 0, locals := 15 } : Room)) (fun a U => a = #[(.ref a1), (.ref a2)] ∧ Z.Warmed39 U.vm ∧ U.heap = h0) (fun _ _ _ _ _ => True) (fun _ U o U' => ∃ v L, o = .returned v ∧ Qadd2 Z a1 a2 t1 kb x0 x1 h0 n0 v U'.heap L ∧ FrameEnd U o U' L ({ frames := 1, cells := 0, slots := 0, locals := 15 } : Room).cells ({ frames := 1, cells := 0, slots := 0, locals := 15 } : Room).slots) := by
  refine MetFree.of_bodySF (plainFor_of_name pn_3) hisR ?_
  intro p e s m args below meth c s₁ Bd hml0 hP hK
  obtain ⟨rfl, hZ, hh⟩ := hP
  have hx := Bd.exec
  have hby := Bd.bytes
  have hml : c.maxLocals = 2 := hml0
  have hown : s.vm.findClass "java/util/ArrayList" = some m.cls := findClass_of_methodNamed Bd.named
  have hnm := (name_of_methodNamed Bd.named Bd.method).1
  have X0 : Stand p l e ({ frames := 1, cells := 0, slots := 0, locals := 15 } : Room) s m #[(.ref a1), (.ref a2)] below meth c s₁ [] 0 0 := Stand.of_body Bd
  have e0 : s₁.heap = h0 := by rw [← hh, Bd.state]; rfl
  have N0 := Fr.nil n0
  show OGo p e below (fun s₂ o => ∃ v L, o = .returned v ∧ Qadd2 Z a1 a2 t1 kb x0 x1 h0 n0 v s₂.heap L ∧ FrameEnd s o s₂ L ({ frames := 1, cells := 0, slots := 0, locals := 15 } : Room).cells ({ frames := 1, cells := 0, slots := 0, locals := 15 } : Room).slots) _
  refine OGo.to (fun _ k => castTop (ef_add2 m a1 a2) k) ?_
  refine OGo.to (fun _ k => XS.aloadN X0.here hx rfl (hb hby d7_0) rfl rfl k) ?_
  show OGo p e below _ (s₁.setTop (mkF m 1 #[.val (.ref a1), .val (.ref a2)] [(.ref a1)]))
  refine OGo.to (fun _ k => XS.dup X0.here hx rfl (hb hby d7_1) rfl rfl k) ?_
  show OGo p e below _ (s₁.setTop (mkF m 2 #[.val (.ref a1), .val (.ref a2)] [(.ref a1), (.ref a1)]))
  obtain ⟨T_1, X_1, e_1, st_1⟩ := getF X0 hx hZ hown (host := "") (Or.inl (hw _ (List.mem_of_getElem? (i := 48) rfl))) (Via.of (hw _ (List.mem_of_getElem? (i := 49) rfl))) e0 F1 (g := (mkF m 2 #[.val (.ref a1), .val (.ref a2)] [(.ref a1), (.ref a1)])) rfl rfl (hb hby d7_2)
  refine OGo.to st_1 ?_
  show OGo p e below _ (T_1.setTop (mkF m 5 #[.val (.ref a1), .val (.ref a2)] [(.int (2 : Int32)), (.ref a1)]))
  refine OGo.to (fun _ k => XS.iconst X_1.here hx rfl (hb hby d7_5) k) ?_
  show OGo p e below _ (T_1.setTop (mkF m 6 #[.val (.ref a1), .val (.ref a2)] [(.int (1 : Int32)), (.int (2 : Int32)), (.ref a1)]))
  refine OGo.to (fun _ k => XS.iadd X_1.here hx rfl (hb hby d7_6) rfl k) ?_
  show OGo p e below _ (T_1.setTop (mkF m 7 #[.val (.ref a1), .val (.ref a2)] [(.int (3 : Int32)), (.ref a1)]))
  obtain ⟨T_2, h_2, X_2, e_2, W_2, st_2⟩ := putF X_1 hx hZ hown (host := "") (Or.inl (hw _ (List.mem_of_getElem? (i := 48) rfl))) (Via.of (hw _ (List.mem_of_getElem? (i := 49) rfl))) e_1 F1 E1 (Or.inl (hw _ (List.mem_of_getElem? (i := 23) rfl))) (hw _ (List.mem_of_getElem? (i := 2) rfl)) (ty := .int) (by decide) rfl rfl (g := (mkF m 7 #[.val (.ref a1), .val (.ref a2)] [(.int (3 : Int32)), (.ref a1)])) rfl rfl (hb hby d7_7)
  refine OGo.to st_2 ?_
  have Fw_2 : Fld Z h_2 a1 "java/util/AbstractList" "modCount" "I" (.int (3 : Int32)) := F1.same W_2
  have N_2 := Fr.snoc X_2 N0 g1
  have z_3 : n0 ≤ h_2.size := Nat.le_trans Z0 (Keep.of_wr W_2).1
  have K_4 : Keep h0 h_2 [a1, t1] := (Keep.refl h0 [a1, t1]).wr W_2 (Or.inl (List.mem_of_getElem? (i := 0) rfl))
  show OGo p e below _ (T_2.setTop (mkF m 10 #[.val (.ref a1), .val (.ref a2)] []))
  refine OGo.to (fun _ k => XS.aloadN X_2.here hx rfl (hb hby d7_10) rfl rfl k) ?_
  show OGo p e below _ (T_2.setTop (mkF m 11 #[.val (.ref a1), .val (.ref a2)] [(.ref a1)]))
  refine OGo.to (fun _ k => XS.aloadN X_2.here hx rfl (hb hby d7_11) rfl rfl k) ?_
  show OGo p e below _ (T_2.setTop (mkF m 12 #[.val (.ref a1), .val (.ref a2)] [(.ref a2), (.ref a1)]))
  refine OGo.to (fun _ k => XS.aloadN X_2.here hx rfl (hb hby d7_12) rfl rfl k) ?_
  show OGo p e below _ (T_2.setTop (mkF m 13 #[.val (.ref a1), .val (.ref a2)] [(.ref a1), (.ref a2), (.ref a1)]))
  have f_5 : Fld Z h_2 a1 "java/util/ArrayList" "elementData" "[Ljava/lang/Object;" (.ref t1) := (F3.other W_2 (Or.inr (slot_ne (Or.inl (hw _ (List.mem_of_getElem? (i := 26) rfl))) (Or.inl (hw _ (List.mem_of_getElem? (i := 23) rfl))) (by decide) (t := (.array (.object "java/lang/Object"))) (t' := .int) (by decide) (by decide))))
  obtain ⟨T_6, X_6, e_6, st_6⟩ := getF X_2 hx hZ hown (host := "") (Or.inl (hw _ (List.mem_of_getElem? (i := 25) rfl))) Via.refl e_2 f_5 (g := (mkF m 13 #[.val (.ref a1), .val (.ref a2)] [(.ref a1), (.ref a2), (.ref a1)])) rfl rfl (hb hby d7_13)
  refine OGo.to st_6 ?_
  show OGo p e below _ (T_6.setTop (mkF m 16 #[.val (.ref a1), .val (.ref a2)] [(.ref t1), (.ref a2), (.ref a1)]))
  refine OGo.to (fun _ k => XS.aloadN X_6.here hx rfl (hb hby d7_16) rfl rfl k) ?_
  show OGo p e below _ (T_6.setTop (mkF m 17 #[.val (.ref a1), .val (.ref a2)] [(.ref a1), (.ref t1), (.ref a2), (.ref a1)]))
  have f_7 : Fld Z h_2 a1 "java/util/ArrayList" "size" "I" (.int (2 : Int32)) := (F2.other W_2 (Or.inr (slot_ne (Or.inl (hw _ (List.mem_of_getElem? (i := 51) rfl))) (Or.inl (hw _ (List.mem_of_getElem? (i := 23) rfl))) (by decide) (t := .int) (t' := .int) (by decide) (by decide))))
  obtain ⟨T_8, X_8, e_8, st_8⟩ := getF X_6 hx hZ hown (host := "") (Or.inl (hw _ (List.mem_of_getElem? (i := 50) rfl))) Via.refl e_6 f_7 (g := (mkF m 17 #[.val (.ref a1), .val (.ref a2)] [(.ref a1), (.ref t1), (.ref a2), (.ref a1)])) rfl rfl (hb hby d7_17)
  refine OGo.to st_8 ?_
  show OGo p e below _ (T_8.setTop (mkF m 20 #[.val (.ref a1), .val (.ref a2)] [(.int (2 : Int32)), (.ref t1), (.ref a2), (.ref a1)]))
  have f_10 : Exa Z h_2 a1 "java/util/ArrayList" := (E1.wr W_2)
  have f_11 : Exa Z h_2 a2 "com/example/dromos/dromos/model/Module$Signature" := (E2.wr W_2)
  have f_12 : Arv Z h_2 t1 kb (.object "java/lang/Object") (10 : Int32) [(.ref x0), (.ref x1), .null, .null, .null, .null, .null, .null, .null, .null] .null := (V1.other W_2 (Ne.symm nt))
  obtain ⟨cq_9, q_9, q_9'⟩ := f_10.cell
  obtain ⟨_, T_9, Lc_9, X_9, hQ_9, st_9⟩ := own_un X_8 (Q := QaddP2 Z a1 a2 t1 t1 kb x0 x1 h_2 n0) (rc := 0) (rs := 0) (W := fun v B => Steps p.tables e below (T_8.setTop (mkF m 20 #[.val (.ref a1), .val (.ref a2)] [(.int (2 : Int32)), (.ref t1), (.ref a2), (.ref a1)])) (B.setTop { (mkF m 20 #[.val (.ref a1), .val (.ref a2)] [(.int (2 : Int32)), (.ref t1), (.ref a2), (.ref a1)]) with pc := 23, stack := v.toList ++ [] })) <| X_8.privateBack hx (y := (⟨"java/util/ArrayList", "add", "(Ljava/lang/Object;[Ljava/lang/Object;I)V"⟩ : MethodName)) hown (mvT hZ (hw _ (List.mem_of_getElem? (i := 52) rfl))) (mvT hZ (hw _ (List.mem_of_getElem? (i := 53) rfl))) (own_selP hZ (hw _ (List.mem_of_getElem? (i := 2) rfl)) (hw _ (List.mem_of_getElem? (i := 54) rfl)) (hw _ (List.mem_of_getElem? (i := 53) rfl)) (by decide)) (Cond.privateMethod_at (mvP hZ (hw _ (List.mem_of_getElem? (i := 54) rfl)) (args := #[]))) (mvT hZ (hw _ (List.mem_of_getElem? (i := 56) rfl))) (by decide) (backOf (W := 0) (rmaddP2 l Z a0 hw [] a1 a2 t1 t1 kb x0 x1 h_2 n0 z_3 f_10 f_11 g1 n12 Fw_2 f_7 f_5 f_12 Ov gt nt n2t) hZ (hw _ (List.mem_of_getElem? (i := 56) rfl)) (hw _ (List.mem_of_getElem? (i := 3) rfl)) (by decide) (by decide)) (g := (mkF m 20 #[.val (.ref a1), .val (.ref a2)] [(.int (2 : Int32)), (.ref t1), (.ref a2), (.ref a1)])) rfl (by rw [hml]; rfl) (Steps.refl _) (a := a1) (by rw [e_8]; exact q_9) q_9' (argsL := [(.ref a2), (.ref t1), (.int (2 : Int32))]) (rest := []) (lenOf pd_4 rfl) rfl (by show 2 * 0 + _ ≤ _; exact Nat.le_of_eq rfl) (hb hby d7_20) (fun _ _ => ⟨rfl, e_8, (by decide : 0 + 0 ≤ _), (by decide : 0 + 0 ≤ _)⟩)
  obtain ⟨rfl, N_9q, K_9, p_9_0, p_9_1, p_9_2, p_9_3⟩ := hQ_9
  have N_9 := Fr.app N_2 N_9q
  refine OGo.to (fun _ k => st_9.trans k) ?_
  have z_13 : n0 ≤ T_9.heap.size := Nat.le_trans z_3 K_9.1
  have K_14 : Keep h0 T_9.heap [a1, t1] := K_4.trans K_9 (by intro x hx'; simp only [List.mem_cons, List.not_mem_nil, or_false] at hx'; rcases hx' with rfl | rfl <;> first | exact (Or.inl (List.mem_of_getElem? (i := 0) rfl)) | exact (Or.inl (List.mem_of_getElem? (i := 1) rfl)))
  show OGo p e below _ (T_9.setTop (mkF m 23 #[.val (.ref a1), .val (.ref a2)] []))
  refine OGo.to (fun _ k => XS.iconst X_9.here hx rfl (hb hby d7_23) k) ?_
  show OGo p e below _ (T_9.setTop (mkF m 24 #[.val (.ref a1), .val (.ref a2)] [(.int (1 : Int32))]))
  refine OGo.ret (Q := Qadd2 Z a1 a2 t1 kb x0 x1 h0 n0) X_9 (some (.int (1 : Int32))) (fun h => by rw [Bd.returns] at h; cases h) Bd.notSynchronized (fun fs hr => retN X_9 hx (t := .boolean) (z := (1 : Int32)) Bd.returns (by simp) (hb hby d7_24) hr) ?_ (by decide) (by decide)
  show Qadd2 Z a1 a2 t1 kb x0 x1 h0 n0 _ T_9.heap _
  exact ⟨rfl, N_9, K_14, p_9_0, p_9_1, p_9_2, p_9_3⟩
theorem d5_0 : decode prog_116_method_1_code 0 = .ok (.aload_n 0, 1) := by decide +kernel
theorem d5_1 : decode prog_116_method_1_code 1 = .ok (.invokespecial 1, 3) := by decide +kernel
theorem d5_4 : decode prog_116_method_1_code 4 = .ok (.aload_n 0, 1) := by decide +kernel
theorem d5_5 : decode prog_116_method_1_code 5 = .ok (.aload_n 1, 1) := by decide +kernel
theorem d5_6 : decode prog_116_method_1_code 6 = .ok (.putfield 7, 3) := by decide +kernel
theorem d5_9 : decode prog_116_method_1_code 9 = .ok (.aload_n 0, 1) := by decide +kernel
theorem d5_10 : decode prog_116_method_1_code 10 = .ok (.iload_n 2, 1) := by decide +kernel
theorem d5_11 : decode prog_116_method_1_code 11 = .ok (.putfield 13, 3) := by decide +kernel
theorem d5_14 : decode prog_116_method_1_code 14 = .ok (.return_, 1) := by decide +kernel
theorem ef_5 (m : MethodId) (x0 : Addr) (x2 : Int32) : entryFrame m #[(.ref x0), .null, (.int x2)] 3 = mkF m 0 #[.val (.ref x0), .val .null, .val (.int x2)] [] := by first | (simp [entryFrame, mkF, argsToLocals, Value.category]; done) | rfl
def Q5 (Z : State) (a1 : Addr) (p1 : Int32) (h0 : Heap) (n0 : Nat) (v : Option Value) (h : Heap) (L : List Loc) : Prop := v = none ∧ Fr n0 L ∧ Keep h0 h [a1] ∧ Fld Z h a1 "com/example/dromos/dromos/model/Module$Signature" "arity" "I" (.int p1)
set_option maxRecDepth 65536 in
set_option maxHeartbeats 40000000 in
theorem rm5 (l : Launch) (Z : State) (a0 : Array Value) (hw : ∀ d ∈ tables_1, d.before a0 Z = true) (ws : List Jvm.Cond) (a1 : Addr) (p1 : Int32) (h0 : Heap) (n0 : Nat) (Z0 : n0 ≤ h0.size) (E1 : Exa Z h0 a1 "com/example/dromos/dromos/model/Module$Signature") (F1 : Fld Z h0 a1 "com/example/dromos/dromos/model/Module$Signature" "name" "Lcom/example/dromos/dromos/model/Identifier;" .null) (F2 : Fld Z h0 a1 "com/example/dromos/dromos/model/Module$Signature" "arity" "I" (.int (0 : Int32))) (g1 : n0 ≤ a1) :
    MetFree l (⟨"com/example/dromos/dromos/model/Module$Signature", "<init>", "(Lcom/example/dromos/dromos/model/Identifier;I)V"⟩ : MethodName) (head1 (Jvm.Cond.code (⟨"com/example/dromos/dromos/model/Module$Signature", "<init>", "(Lcom/example/dromos/dromos/model/Identifier;I)V"⟩ : MethodName) prog_116_method_1_code 3 none :: ws) ({ frames := 2, cells := 0, slots := 0, locals := 24 } : Room)) (fun a U => a = #[(.ref a1), .null, (.int p1)] ∧ Z.Warmed39 U.vm ∧ U.heap = h0) (fun _ _ _ _ _ => True) (fun _ U o U' => ∃ v L, o = .returned v ∧ Q5 Z a1 p1 h0 n0 v U'.heap L ∧ FrameEnd U o U' L ({ frames := 2, cells := 0, slots := 0, locals := 24 } : Room).cells ({ frames := 2, cells := 0, slots := 0, locals := 24 } : Room).slots) := by
  refine MetFree.of_bodySF (plainFor_of_name pn_4) hisR ?_
  intro p e s m args below meth c s₁ Bd hml0 hP hK
  obtain ⟨rfl, hZ, hh⟩ := hP
  have hx := Bd.exec
  have hby := Bd.bytes
  have hml : c.maxLocals = 3 := hml0
  have hown : s.vm.findClass "com/example/dromos/dromos/model/Module$Signature" = some m.cls := findClass_of_methodNamed Bd.named
  have hnm := (name_of_methodNamed Bd.named Bd.method).1
  have X0 : Stand p l e ({ frames := 2, cells := 0, slots := 0, locals := 24 } : Room) s m #[(.ref a1), .null, (.int p1)] below meth c s₁ [] 0 0 := Stand.of_body Bd
  have e0 : s₁.heap = h0 := by rw [← hh, Bd.state]; rfl
  have N0 := Fr.nil n0
  show OGo p e below (fun s₂ o => ∃ v L, o = .returned v ∧ Q5 Z a1 p1 h0 n0 v s₂.heap L ∧ FrameEnd s o s₂ L ({ frames := 2, cells := 0, slots := 0, locals := 24 } : Room).cells ({ frames := 2, cells := 0, slots := 0, locals := 24 } : Room).slots) _
  refine OGo.to (fun _ k => castTop (ef_5 m a1 p1) k) ?_
  refine OGo.to (fun _ k => XS.aloadN X0.here hx rfl (hb hby d5_0) rfl rfl k) ?_
  show OGo p e below _ (s₁.setTop (mkF m 1 #[.val (.ref a1), .val .null, .val (.int p1)] [(.ref a1)]))
  obtain ⟨_, T_1, Lc_1, X_1, hQ_1, st_1⟩ := own_un X0 (Q := Q6 Z a1 h0 n0) (rc := 0) (rs := 0) (W := fun v B => Steps p.tables e below (s₁.setTop (mkF m 1 #[.val (.ref a1), .val .null, .val (.int p1)] [(.ref a1)])) (B.setTop { (mkF m 1 #[.val (.ref a1), .val .null, .val (.int p1)] [(.ref a1)]) with pc := 4, stack := v.toList ++ [] })) <| X0.specialBack hx (y := (⟨"java/lang/Record", "<init>", "()V"⟩ : MethodName)) rfl hown (mvT hZ (hw _ (List.mem_of_getElem? (i := 33) rfl))) (mvT hZ (hw _ (List.mem_of_getElem? (i := 34) rfl))) (mvT hZ (hw _ (List.mem_of_getElem? (i := 37) rfl))) (by decide) (backOf (W := 0) (rm6 l Z a0 hw [] a1 h0 n0 Z0 ) hZ (hw _ (List.mem_of_getElem? (i := 37) rfl)) (hw _ (List.mem_of_getElem? (i := 36) rfl)) (by decide) (by decide)) (g := (mkF m 1 #[.val (.ref a1), .val .null, .val (.int p1)] [(.ref a1)])) rfl (by rw [hml]; rfl) (Steps.refl _) (a := a1) (argsL := []) (rest := []) (lenOf pd_0 rfl) rfl (by show 2 * 0 + _ ≤ _; exact Nat.le_of_eq rfl) (hb hby d5_1) (fun _ _ => ⟨rfl, e0, (by decide : 0 + 0 ≤ _), (by decide : 0 + 0 ≤ _)⟩)
  obtain ⟨rfl, N_1q, e_1⟩ := hQ_1
  have N_1 := Fr.app N0 N_1q
  refine OGo.to (fun _ k => st_1.trans k) ?_
  show OGo p e below _ (T_1.setTop (mkF m 4 #[.val (.ref a1), .val .null, .val (.int p1)] []))
  refine OGo.to (fun _ k => XS.aloadN X_1.here hx rfl (hb hby d5_4) rfl rfl k) ?_
  show OGo p e below _ (T_1.setTop (mkF m 5 #[.val (.ref a1), .val .null, .val (.int p1)] [(.ref a1)]))
  refine OGo.to (fun _ k => XS.aloadN X_1.here hx rfl (hb hby d5_5) rfl rfl k) ?_
  show OGo p e below _ (T_1.setTop (mkF m 6 #[.val (.ref a1), .val .null, .val (.int p1)] [.null, (.ref a1)]))
  obtain ⟨T_2, h_2, X_2, e_2, W_2, st_2⟩ := putF X_1 hx hZ hown (host := "") (Or.inl (hw _ (List.mem_of_getElem? (i := 39) rfl))) Via.refl e_1 F1 E1 (Or.inr ⟨(hw _ (List.mem_of_getElem? (i := 40) rfl)), rfl, hnm⟩) (hw _ (List.mem_of_getElem? (i := 28) rfl)) (ty := (.object "com/example/dromos/dromos/model/Identifier")) (by decide) rfl rfl (g := (mkF m 6 #[.val (.ref a1), .val .null, .val (.int p1)] [.null, (.ref a1)])) rfl rfl (hb hby d5_6)
  refine OGo.to st_2 ?_
  have Fw_2 : Fld Z h_2 a1 "com/example/dromos/dromos/model/Module$Signature" "name" "Lcom/example/dromos/dromos/model/Identifier;" .null := F1.same W_2
  have N_2 := Fr.snoc X_2 N_1 g1
  have z_3 : n0 ≤ h_2.size := Nat.le_trans Z0 (Keep.of_wr W_2).1
  have K_4 : Keep h0 h_2 [a1] := (Keep.refl h0 [a1]).wr W_2 (Or.inl (List.mem_of_getElem? (i := 0) rfl))
  show OGo p e below _ (T_2.setTop (mkF m 9 #[.val (.ref a1), .val .null, .val (.int p1)] []))
  refine OGo.to (fun _ k => XS.aloadN X_2.here hx rfl (hb hby d5_9) rfl rfl k) ?_
  show OGo p e below _ (T_2.setTop (mkF m 10 #[.val (.ref a1), .val .null, .val (.int p1)] [(.ref a1)]))
  refine OGo.to (fun _ k => XS.iloadN X_2.here hx rfl (hb hby d5_10) rfl k) ?_
  show OGo p e below _ (T_2.setTop (mkF m 11 #[.val (.ref a1), .val .null, .val (.int p1)] [(.int p1), (.ref a1)]))
  have f_5 : Exa Z h_2 a1 "com/example/dromos/dromos/model/Module$Signature" := (E1.wr W_2)
  have f_6 : Fld Z h_2 a1 "com/example/dromos/dromos/model/Module$Signature" "arity" "I" (.int (0 : Int32)) := (F2.other W_2 (Or.inr (slot_ne (Or.inr (hw _ (List.mem_of_getElem? (i := 42) rfl))) (Or.inr (hw _ (List.mem_of_getElem? (i := 40) rfl))) (by decide) (t := .int) (t' := (.object "com/example/dromos/dromos/model/Identifier")) (by decide) (by decide))))
  obtain ⟨T_7, h_7, X_7, e_7, W_7, st_7⟩ := putF X_2 hx hZ hown (host := "") (Or.inl (hw _ (List.mem_of_getElem? (i := 41) rfl))) Via.refl e_2 f_6 f_5 (Or.inr ⟨(hw _ (List.mem_of_getElem? (i := 42) rfl)), rfl, hnm⟩) (hw _ (List.mem_of_getElem? (i := 28) rfl)) (ty := .int) (by decide) rfl rfl (g := (mkF m 11 #[.val (.ref a1), .val .null, .val (.int p1)] [(.int p1), (.ref a1)])) rfl rfl (hb hby d5_11)
  refine OGo.to st_7 ?_
  have Fw_7 : Fld Z h_7 a1 "com/example/dromos/dromos/model/Module$Signature" "arity" "I" (.int p1) := f_6.same W_7
  have N_7 := Fr.snoc X_7 N_2 g1
  have z_8 : n0 ≤ h_7.size := Nat.le_trans z_3 (Keep.of_wr W_7).1
  have K_9 : Keep h0 h_7 [a1] := K_4.wr W_7 (Or.inl (List.mem_of_getElem? (i := 0) rfl))
  show OGo p e below _ (T_7.setTop (mkF m 14 #[.val (.ref a1), .val .null, .val (.int p1)] []))
  refine OGo.ret (Q := Q5 Z a1 p1 h0 n0) X_7 none (fun _ => rfl) Bd.notSynchronized (fun fs hr => X_7.returnOut hx Bd.returns (hb hby d5_14) hr) ?_ (by decide) (by decide)
  show Q5 Z a1 p1 h0 n0 _ T_7.heap _
  rw [e_7]
  exact ⟨rfl, N_7, K_9, Fw_7⟩
theorem d20_0 : decode prog_116_method_6_code 0 = .ok (.aload_n 0, 1) := by decide +kernel
theorem d20_1 : decode prog_116_method_6_code 1 = .ok (.getfield 13, 3) := by decide +kernel
theorem d20_4 : decode prog_116_method_6_code 4 = .ok (.ireturn, 1) := by decide +kernel
theorem ef_20 (m : MethodId) (x0 : Addr) : entryFrame m #[(.ref x0)] 1 = mkF m 0 #[.val (.ref x0)] [] := by first | (simp [entryFrame, mkF, argsToLocals, Value.category]; done) | rfl
def Q20 (Z : State) (a1 : Addr) (w1 : Int32) (h0 : Heap) (n0 : Nat) (v : Option Value) (h : Heap) (L : List Loc) : Prop := v = some (.int w1) ∧ Fr n0 L ∧ h = h0
set_option maxRecDepth 65536 in
set_option maxHeartbeats 40000000 in
theorem rm20 (l : Launch) (Z : State) (a0 : Array Value) (hw : ∀ d ∈ tables_1, d.before a0 Z = true) (ws : List Jvm.Cond) (a1 : Addr) (w1 : Int32) (h0 : Heap) (n0 : Nat) (Z0 : n0 ≤ h0.size) (F1 : Fld Z h0 a1 "com/example/dromos/dromos/model/Module$Signature" "arity" "I" (.int w1)) :
    MetFree l (⟨"com/example/dromos/dromos/model/Module$Signature", "arity", "()I"⟩ : MethodName) (head1 (Jvm.Cond.code (⟨"com/example/dromos/dromos/model/Module$Signature", "arity", "()I"⟩ : MethodName) prog_116_method_6_code 1 (some .int) :: ws) ({ frames := 0, cells := 0, slots := 0, locals := 0 } : Room)) (fun a U => a = #[(.ref a1)] ∧ Z.Warmed39 U.vm ∧ U.heap = h0) (fun _ _ _ _ _ => True) (fun _ U o U' => ∃ v L, o = .returned v ∧ Q20 Z a1 w1 h0 n0 v U'.heap L ∧ FrameEnd U o U' L ({ frames := 0, cells := 0, slots := 0, locals := 0 } : Room).cells ({ frames := 0, cells := 0, slots := 0, locals := 0 } : Room).slots) := by
  refine MetFree.of_bodySF (plainFor_of_name pn_4) hisR ?_
  intro p e s m args below meth c s₁ Bd hml0 hP hK
  obtain ⟨rfl, hZ, hh⟩ := hP
  have hx := Bd.exec
  have hby := Bd.bytes
  have hml : c.maxLocals = 1 := hml0
  have hown : s.vm.findClass "com/example/dromos/dromos/model/Module$Signature" = some m.cls := findClass_of_methodNamed Bd.named
  have hnm := (name_of_methodNamed Bd.named Bd.method).1
  have X0 : Stand p l e ({ frames := 0, cells := 0, slots := 0, locals := 0 } : Room) s m #[(.ref a1)] below meth c s₁ [] 0 0 := Stand.of_body Bd
  have e0 : s₁.heap = h0 := by rw [← hh, Bd.state]; rfl
  have N0 := Fr.nil n0
  show OGo p e below (fun s₂ o => ∃ v L, o = .returned v ∧ Q20 Z a1 w1 h0 n0 v s₂.heap L ∧ FrameEnd s o s₂ L ({ frames := 0, cells := 0, slots := 0, locals := 0 } : Room).cells ({ frames := 0, cells := 0, slots := 0, locals := 0 } : Room).slots) _
  refine OGo.to (fun _ k => castTop (ef_20 m a1) k) ?_
  refine OGo.to (fun _ k => XS.aloadN X0.here hx rfl (hb hby d20_0) rfl rfl k) ?_
  show OGo p e below _ (s₁.setTop (mkF m 1 #[.val (.ref a1)] [(.ref a1)]))
  obtain ⟨T_1, X_1, e_1, st_1⟩ := getF X0 hx hZ hown (host := "") (Or.inl (hw _ (List.mem_of_getElem? (i := 41) rfl))) Via.refl e0 F1 (g := (mkF m 1 #[.val (.ref a1)] [(.ref a1)])) rfl rfl (hb hby d20_1)
  refine OGo.to st_1 ?_
  show OGo p e below _ (T_1.setTop (mkF m 4 #[.val (.ref a1)] [(.int w1)]))
  refine OGo.ret (Q := Q20 Z a1 w1 h0 n0) X_1 (some (.int w1)) (fun h => by rw [Bd.returns] at h; cases h) Bd.notSynchronized (fun fs hr => retI X_1 hx Bd.returns (hb hby d20_4) hr) ?_ (by decide) (by decide)
  show Q20 Z a1 w1 h0 n0 _ T_1.heap _
  rw [e_1]
  exact ⟨rfl, N0, rfl⟩
theorem d12_0 : decode prog_165_method_2_code 0 = .ok (.aload_n 0, 1) := by decide +kernel
theorem d12_1 : decode prog_165_method_2_code 1 = .ok (.invokespecial 7, 3) := by decide +kernel
theorem d12_4 : decode prog_165_method_2_code 4 = .ok (.aload_n 0, 1) := by decide +kernel
theorem d12_5 : decode prog_165_method_2_code 5 = .ok (.iconst (-1), 1) := by decide +kernel
theorem d12_6 : decode prog_165_method_2_code 6 = .ok (.putfield 12, 3) := by decide +kernel
theorem d12_9 : decode prog_165_method_2_code 9 = .ok (.aload_n 0, 1) := by decide +kernel
theorem d12_10 : decode prog_165_method_2_code 10 = .ok (.iconst (-1), 1) := by decide +kernel
theorem d12_11 : decode prog_165_method_2_code 11 = .ok (.putfield 16, 3) := by decide +kernel
theorem d12_14 : decode prog_165_method_2_code 14 = .ok (.aload_n 0, 1) := by decide +kernel
theorem d12_15 : decode prog_165_method_2_code 15 = .ok (.iconst 0, 1) := by decide +kernel
theorem d12_16 : decode prog_165_method_2_code 16 = .ok (.newarray .int, 2) := by decide +kernel
theorem d12_18 : decode prog_165_method_2_code 18 = .ok (.putfield 19, 3) := by decide +kernel
theorem d12_21 : decode prog_165_method_2_code 21 = .ok (.aload_n 0, 1) := by decide +kernel
theorem d12_22 : decode prog_165_method_2_code 22 = .ok (.aload_n 1, 1) := by decide +kernel
theorem d12_23 : decode prog_165_method_2_code 23 = .ok (.putfield 23, 3) := by decide +kernel
theorem d12_26 : decode prog_165_method_2_code 26 = .ok (.aload_n 0, 1) := by decide +kernel
theorem d12_27 : decode prog_165_method_2_code 27 = .ok (.iload_n 2, 1) := by decide +kernel
theorem d12_28 : decode prog_165_method_2_code 28 = .ok (.putfield 27, 3) := by decide +kernel
theorem d12_31 : decode prog_165_method_2_code 31 = .ok (.aload_n 0, 1) := by decide +kernel
theorem d12_32 : decode prog_165_method_2_code 32 = .ok (.iload_n 3, 1) := by decide +kernel
theorem d12_33 : decode prog_165_method_2_code 33 = .ok (.putfield 30, 3) := by decide +kernel
theorem d12_36 : decode prog_165_method_2_code 36 = .ok (.aload_n 0, 1) := by decide +kernel
theorem d12_37 : decode prog_165_method_2_code 37 = .ok (.aload 4, 2) := by decide +kernel
theorem d12_39 : decode prog_165_method_2_code 39 = .ok (.putfield 33, 3) := by decide +kernel
theorem d12_42 : decode prog_165_method_2_code 42 = .ok (.aload_n 0, 1) := by decide +kernel
theorem d12_43 : decode prog_165_method_2_code 43 = .ok (.iload 5, 2) := by decide +kernel
theorem d12_45 : decode prog_165_method_2_code 45 = .ok (.putfield 37, 3) := by decide +kernel
theorem d12_48 : decode prog_165_method_2_code 48 = .ok (.return_, 1) := by decide +kernel
theorem ef_12 (m : MethodId) (x0 : Addr) (x2 : Int32) (x3 : Int32) (x5 : Int32) : entryFrame m #[(.ref x0), .null, (.int x2), (.int x3), .null, (.int x5)] 6 = mkF m 0 #[.val (.ref x0), .val .null, .val (.int x2), .val (.int x3), .val .null, .val (.int x5)] [] := by first | (simp [entryFrame, mkF, argsToLocals, Value.category]; done) | rfl
def Q12 (Z : State) (a1 : Addr) (p1 : Int32) (p2 : Int32) (p3 : Int32) (h0 : Heap) (n0 : Nat) (v : Option Value) (h : Heap) (L : List Loc) : Prop := ∃ (b : Addr), ∃ (kb : ClassId), v = none ∧ Fr n0 L ∧ Keep h0 h [a1] ∧ n0 ≤ b ∧ h0.size ≤ b ∧ Fld Z h a1 "com/example/dromos/dromos/service/Definition" "arity" "I" (.int p1) ∧ Fld Z h a1 "com/example/dromos/dromos/service/Definition" "lexical" "Z" (.int p3) ∧ Fld Z h a1 "com/example/dromos/dromos/service/Definition" "bound" "I" (.int (-1 : Int32)) ∧ Fld Z h a1 "com/example/dromos/dromos/service/Definition" "free" "I" (.int (-1 : Int32)) ∧ Fld Z h a1 "com/example/dromos/dromos/service/Definition" "operators" "[I" (.ref b) ∧ Arv Z h b kb .int (0 : Int32) [] (.int (0 : Int32)) ∧ a1 ≠ b
set_option maxRecDepth 65536 in
set_option maxHeartbeats 40000000 in
theorem rm12 (l : Launch) (Z : State) (a0 : Array Value) (hw : ∀ d ∈ tables_1, d.before a0 Z = true) (ws : List Jvm.Cond) (a1 : Addr) (p1 : Int32) (p2 : Int32) (p3 : Int32) (h0 : Heap) (n0 : Nat) (Z0 : n0 ≤ h0.size) (E1 : Exa Z h0 a1 "com/example/dromos/dromos/service/Definition") (F0 : Fld Z h0 a1 "com/example/dromos/dromos/service/Definition" "bound" "I" (.int (0 : Int32))) (F1 : Fld Z h0 a1 "com/example/dromos/dromos/service/Definition" "free" "I" (.int (0 : Int32))) (F2 : Fld Z h0 a1 "com/example/dromos/dromos/service/Definition" "operators" "[I" .null) (F3 : Fld Z h0 a1 "com/example/dromos/dromos/service/Definition" "name" "Ljava/lang/String;" .null) (F4 : Fld Z h0 a1 "com/example/dromos/dromos/service/Definition" "arity" "I" (.int (0 : Int32))) (F5 : Fld Z h0 a1 "com/example/dromos/dromos/service/Definition" "hidden" "I" (.int (0 : Int32))) (F6 : Fld Z h0 a1 "com/example/dromos/dromos/service/Definition" "at" "Lcom/example/dromos/dromos/model/Location;" .null) (F7 : Fld Z h0 a1 "com/example/dromos/dromos/service/Definition" "lexical" "Z" (.int (0 : Int32))) (g1 : n0 ≤ a1) (hb1 : p3 = (0 : Int32) ∨ p3 = (1 : Int32)) :
    MetFree l (⟨"com/example/dromos/dromos/service/Definition", "<init>", "(Ljava/lang/String;IILcom/example/dromos/dromos/model/Location;Z)V"⟩ : MethodName) (head1 (Jvm.Cond.code (⟨"com/example/dromos/dromos/service/Definition", "<init>", "(Ljava/lang/String;IILcom/example/dromos/dromos/model/Location;Z)V"⟩ : MethodName) prog_165_method_2_code 6 none :: ws) ({ frames := 1, cells := 1, slots := 0, locals := 12 } : Room)) (fun a U => a = #[(.ref a1), .null, (.int p1), (.int p2), .null, (.int p3)] ∧ Z.Warmed39 U.vm ∧ U.heap = h0) (fun _ _ _ _ _ => True) (fun _ U o U' => ∃ v L, o = .returned v ∧ Q12 Z a1 p1 p2 p3 h0 n0 v U'.heap L ∧ FrameEnd U o U' L ({ frames := 1, cells := 1, slots := 0, locals := 12 } : Room).cells ({ frames := 1, cells := 1, slots := 0, locals := 12 } : Room).slots) := by
  refine MetFree.of_bodySF (plainFor_of_name pn_5) hisR ?_
  intro p e s m args below meth c s₁ Bd hml0 hP hK
  obtain ⟨rfl, hZ, hh⟩ := hP
  have hx := Bd.exec
  have hby := Bd.bytes
  have hml : c.maxLocals = 6 := hml0
  have hown : s.vm.findClass "com/example/dromos/dromos/service/Definition" = some m.cls := findClass_of_methodNamed Bd.named
  have hnm := (name_of_methodNamed Bd.named Bd.method).1
  have X0 : Stand p l e ({ frames := 1, cells := 1, slots := 0, locals := 12 } : Room) s m #[(.ref a1), .null, (.int p1), (.int p2), .null, (.int p3)] below meth c s₁ [] 0 0 := Stand.of_body Bd
  have e0 : s₁.heap = h0 := by rw [← hh, Bd.state]; rfl
  have N0 := Fr.nil n0
  show OGo p e below (fun s₂ o => ∃ v L, o = .returned v ∧ Q12 Z a1 p1 p2 p3 h0 n0 v s₂.heap L ∧ FrameEnd s o s₂ L ({ frames := 1, cells := 1, slots := 0, locals := 12 } : Room).cells ({ frames := 1, cells := 1, slots := 0, locals := 12 } : Room).slots) _
  refine OGo.to (fun _ k => castTop (ef_12 m a1 p1 p2 p3) k) ?_
  refine OGo.to (fun _ k => XS.aloadN X0.here hx rfl (hb hby d12_0) rfl rfl k) ?_
  show OGo p e below _ (s₁.setTop (mkF m 1 #[.val (.ref a1), .val .null, .val (.int p1), .val (.int p2), .val .null, .val (.int p3)] [(.ref a1)]))
  obtain ⟨T_1, X_1, e_1, st_1⟩ := initO X0 hx hZ hown (hw _ (List.mem_of_getElem? (i := 80) rfl)) (hw _ (List.mem_of_getElem? (i := 20) rfl)) (hw _ (List.mem_of_getElem? (i := 21) rfl)) e0 (g := (mkF m 1 #[.val (.ref a1), .val .null, .val (.int p1), .val (.int p2), .val .null, .val (.int p3)] [(.ref a1)])) rfl (by rw [hml]; rfl) rfl (hb hby d12_1) (by decide) (W := 0) (by show 2 * 0 + _ ≤ _; exact Nat.le_of_eq rfl) (by decide)
  refine OGo.to st_1 ?_
  show OGo p e below _ (T_1.setTop (mkF m 4 #[.val (.ref a1), .val .null, .val (.int p1), .val (.int p2), .val .null, .val (.int p3)] []))
  refine OGo.to (fun _ k => XS.aloadN X_1.here hx rfl (hb hby d12_4) rfl rfl k) ?_
  show OGo p e below _ (T_1.setTop (mkF m 5 #[.val (.ref a1), .val .null, .val (.int p1), .val (.int p2), .val .null, .val (.int p3)] [(.ref a1)]))
  refine OGo.to (fun _ k => XS.iconst X_1.here hx rfl (hb hby d12_5) k) ?_
  show OGo p e below _ (T_1.setTop (mkF m 6 #[.val (.ref a1), .val .null, .val (.int p1), .val (.int p2), .val .null, .val (.int p3)] [(.int (-1 : Int32)), (.ref a1)]))
  obtain ⟨T_2, h_2, X_2, e_2, W_2, st_2⟩ := putF X_1 hx hZ hown (host := "") (Or.inl (hw _ (List.mem_of_getElem? (i := 81) rfl))) Via.refl e_1 F0 E1 (Or.inl (hw _ (List.mem_of_getElem? (i := 82) rfl))) (hw _ (List.mem_of_getElem? (i := 75) rfl)) (ty := .int) (by decide) rfl rfl (g := (mkF m 6 #[.val (.ref a1), .val .null, .val (.int p1), .val (.int p2), .val .null, .val (.int p3)] [(.int (-1 : Int32)), (.ref a1)])) rfl rfl (hb hby d12_6)
  refine OGo.to st_2 ?_
  have Fw_2 : Fld Z h_2 a1 "com/example/dromos/dromos/service/Definition" "bound" "I" (.int (-1 : Int32)) := F0.same W_2
  have N_2 := Fr.snoc X_2 N0 g1
  have z_3 : n0 ≤ h_2.size := Nat.le_trans Z0 (Keep.of_wr W_2).1
  have K_4 : Keep h0 h_2 [a1] := (Keep.refl h0 [a1]).wr W_2 (Or.inl (List.mem_of_getElem? (i := 0) rfl))
  show OGo p e below _ (T_2.setTop (mkF m 9 #[.val (.ref a1), .val .null, .val (.int p1), .val (.int p2), .val .null, .val (.int p3)] []))
  refine OGo.to (fun _ k => XS.aloadN X_2.here hx rfl (hb hby d12_9) rfl rfl k) ?_
  show OGo p e below _ (T_2.setTop (mkF m 10 #[.val (.ref a1), .val .null, .val (.int p1), .val (.int p2), .val .null, .val (.int p3)] [(.ref a1)]))
  refine OGo.to (fun _ k => XS.iconst X_2.here hx rfl (hb hby d12_10) k) ?_
  show OGo p e below _ (T_2.setTop (mkF m 11 #[.val (.ref a1), .val .null, .val (.int p1), .val (.int p2), .val .null, .val (.int p3)] [(.int (-1 : Int32)), (.ref a1)]))
  have f_5 : Exa Z h_2 a1 "com/example/dromos/dromos/service/Definition" := (E1.wr W_2)
  have f_6 : Fld Z h_2 a1 "com/example/dromos/dromos/service/Definition" "free" "I" (.int (0 : Int32)) := (F1.other W_2 (Or.inr (slot_ne (Or.inl (hw _ (List.mem_of_getElem? (i := 84) rfl))) (Or.inl (hw _ (List.mem_of_getElem? (i := 82) rfl))) (by decide) (t := .int) (t' := .int) (by decide) (by decide))))
  obtain ⟨T_7, h_7, X_7, e_7, W_7, st_7⟩ := putF X_2 hx hZ hown (host := "") (Or.inl (hw _ (List.mem_of_getElem? (i := 83) rfl))) Via.refl e_2 f_6 f_5 (Or.inl (hw _ (List.mem_of_getElem? (i := 84) rfl))) (hw _ (List.mem_of_getElem? (i := 75) rfl)) (ty := .int) (by decide) rfl rfl (g := (mkF m 11 #[.val (.ref a1), .val .null, .val (.int p1), .val (.int p2), .val .null, .val (.int p3)] [(.int (-1 : Int32)), (.ref a1)])) rfl rfl (hb hby d12_11)
  refine OGo.to st_7 ?_
  have Fw_7 : Fld Z h_7 a1 "com/example/dromos/dromos/service/Definition" "free" "I" (.int (-1 : Int32)) := f_6.same W_7
  have N_7 := Fr.snoc X_7 N_2 g1
  have z_8 : n0 ≤ h_7.size := Nat.le_trans z_3 (Keep.of_wr W_7).1
  have K_9 : Keep h0 h_7 [a1] := K_4.wr W_7 (Or.inl (List.mem_of_getElem? (i := 0) rfl))
  show OGo p e below _ (T_7.setTop (mkF m 14 #[.val (.ref a1), .val .null, .val (.int p1), .val (.int p2), .val .null, .val (.int p3)] []))
  refine OGo.to (fun _ k => XS.aloadN X_7.here hx rfl (hb hby d12_14) rfl rfl k) ?_
  show OGo p e below _ (T_7.setTop (mkF m 15 #[.val (.ref a1), .val .null, .val (.int p1), .val (.int p2), .val .null, .val (.int p3)] [(.ref a1)]))
  refine OGo.to (fun _ k => XS.iconst X_7.here hx rfl (hb hby d12_15) k) ?_
  show OGo p e below _ (T_7.setTop (mkF m 16 #[.val (.ref a1), .val .null, .val (.int p1), .val (.int p2), .val .null, .val (.int p3)] [(.int (0 : Int32)), (.ref a1)]))
  have f_11 : Exa Z h_7 a1 "com/example/dromos/dromos/service/Definition" := (f_5.wr W_7)
  obtain ⟨T_10, h_10, k_10, X_10, e_10, E_10, A_10, st_10⟩ := newP X_7 hx hZ (hw _ (List.mem_of_getElem? (i := 85) rfl)) e_7 (g := (mkF m 16 #[.val (.ref a1), .val .null, .val (.int p1), .val (.int p2), .val .null, .val (.int p3)] [(.int (0 : Int32)), (.ref a1)])) rfl (hb hby d12_16) rfl (by decide) (cap := 0) (by decide) (by decide) (by decide) (by decide)
  obtain ⟨b_10, g_10⟩ : ∃ z, z = h_7.size := ⟨_, rfl⟩
  rw [← g_10] at A_10 st_10
  have g_b_10 : n0 ≤ b_10 := Nat.le_trans z_8 (Nat.le_of_eq g_10.symm)
  have sz_b_10 : h0.size ≤ b_10 := Nat.le_trans K_9.1 (Nat.le_of_eq g_10.symm)
  refine OGo.to st_10 ?_
  have ne_a1_b_10 : a1 ≠ b_10 := Nat.ne_of_lt (Nat.lt_of_lt_of_le f_11.lt (Nat.le_of_eq g_10.symm))
  have z_12 : n0 ≤ h_10.size := Nat.le_trans z_8 E_10.1
  have K_13 : Keep h0 h_10 [a1] := K_9.ext E_10
  have V_10 : Arv Z h_10 b_10 k_10 .int (0 : Int32) [] (.int (0 : Int32)) := (Arv.new A_10 (by decide)).pad (pad_rep [] (.int (0 : Int32)) 0)
  show OGo p e below _ (T_10.setTop (mkF m 18 #[.val (.ref a1), .val .null, .val (.int p1), .val (.int p2), .val .null, .val (.int p3)] [(.ref b_10), (.ref a1)]))
  have f_14 : Exa Z h_10 a1 "com/example/dromos/dromos/service/Definition" := (f_11.ext E_10)
  have f_15 : Fld Z h_10 a1 "com/example/dromos/dromos/service/Definition" "operators" "[I" .null := (((F2.other W_2 (Or.inr (slot_ne (Or.inl (hw _ (List.mem_of_getElem? (i := 87) rfl))) (Or.inl (hw _ (List.mem_of_getElem? (i := 82) rfl))) (by decide) (t := (.array .int)) (t' := .int) (by decide) (by decide)))).other W_7 (Or.inr (slot_ne (Or.inl (hw _ (List.mem_of_getElem? (i := 87) rfl))) (Or.inl (hw _ (List.mem_of_getElem? (i := 84) rfl))) (by decide) (t := (.array .int)) (t' := .int) (by decide) (by decide)))).ext E_10)
  obtain ⟨T_16, h_16, X_16, e_16, W_16, st_16⟩ := putF X_10 hx hZ hown (host := "") (Or.inl (hw _ (List.mem_of_getElem? (i := 86) rfl))) Via.refl e_10 f_15 f_14 (Or.inl (hw _ (List.mem_of_getElem? (i := 87) rfl))) (hw _ (List.mem_of_getElem? (i := 75) rfl)) (ty := (.array .int)) (by decide) rfl rfl (g := (mkF m 18 #[.val (.ref a1), .val .null, .val (.int p1), .val (.int p2), .val .null, .val (.int p3)] [(.ref b_10), (.ref a1)])) rfl rfl (hb hby d12_18)
  refine OGo.to st_16 ?_
  have Fw_16 : Fld Z h_16 a1 "com/example/dromos/dromos/service/Definition" "operators" "[I" (.ref b_10) := f_15.same W_16
  have N_16 := Fr.snoc X_16 N_7 g1
  have z_17 : n0 ≤ h_16.size := Nat.le_trans z_12 (Keep.of_wr W_16).1
  have K_18 : Keep h0 h_16 [a1] := K_13.wr W_16 (Or.inl (List.mem_of_getElem? (i := 0) rfl))
  show OGo p e below _ (T_16.setTop (mkF m 21 #[.val (.ref a1), .val .null, .val (.int p1), .val (.int p2), .val .null, .val (.int p3)] []))
  refine OGo.to (fun _ k => XS.aloadN X_16.here hx rfl (hb hby d12_21) rfl rfl k) ?_
  show OGo p e below _ (T_16.setTop (mkF m 22 #[.val (.ref a1), .val .null, .val (.int p1), .val (.int p2), .val .null, .val (.int p3)] [(.ref a1)]))
  refine OGo.to (fun _ k => XS.aloadN X_16.here hx rfl (hb hby d12_22) rfl rfl k) ?_
  show OGo p e below _ (T_16.setTop (mkF m 23 #[.val (.ref a1), .val .null, .val (.int p1), .val (.int p2), .val .null, .val (.int p3)] [.null, (.ref a1)]))
  have f_19 : Exa Z h_16 a1 "com/example/dromos/dromos/service/Definition" := (f_14.wr W_16)
  have f_20 : Fld Z h_16 a1 "com/example/dromos/dromos/service/Definition" "name" "Ljava/lang/String;" .null := ((((F3.other W_2 (Or.inr (slot_ne (Or.inr (hw _ (List.mem_of_getElem? (i := 89) rfl))) (Or.inl (hw _ (List.mem_of_getElem? (i := 82) rfl))) (by decide) (t := (.object "java/lang/String")) (t' := .int) (by decide) (by decide)))).other W_7 (Or.inr (slot_ne (Or.inr (hw _ (List.mem_of_getElem? (i := 89) rfl))) (Or.inl (hw _ (List.mem_of_getElem? (i := 84) rfl))) (by decide) (t := (.object "java/lang/String")) (t' := .int) (by decide) (by decide)))).ext E_10).other W_16 (Or.inr (slot_ne (Or.inr (hw _ (List.mem_of_getElem? (i := 89) rfl))) (Or.inl (hw _ (List.mem_of_getElem? (i := 87) rfl))) (by decide) (t := (.object "java/lang/String")) (t' := (.array .int)) (by decide) (by decide))))
  obtain ⟨T_21, h_21, X_21, e_21, W_21, st_21⟩ := putF X_16 hx hZ hown (host := "") (Or.inl (hw _ (List.mem_of_getElem? (i := 88) rfl))) Via.refl e_16 f_20 f_19 (Or.inr ⟨(hw _ (List.mem_of_getElem? (i := 89) rfl)), rfl, hnm⟩) (hw _ (List.mem_of_getElem? (i := 75) rfl)) (ty := (.object "java/lang/String")) (by decide) rfl rfl (g := (mkF m 23 #[.val (.ref a1), .val .null, .val (.int p1), .val (.int p2), .val .null, .val (.int p3)] [.null, (.ref a1)])) rfl rfl (hb hby d12_23)
  refine OGo.to st_21 ?_
  have Fw_21 : Fld Z h_21 a1 "com/example/dromos/dromos/service/Definition" "name" "Ljava/lang/String;" .null := f_20.same W_21
  have N_21 := Fr.snoc X_21 N_16 g1
  have z_22 : n0 ≤ h_21.size := Nat.le_trans z_17 (Keep.of_wr W_21).1
  have K_23 : Keep h0 h_21 [a1] := K_18.wr W_21 (Or.inl (List.mem_of_getElem? (i := 0) rfl))
  show OGo p e below _ (T_21.setTop (mkF m 26 #[.val (.ref a1), .val .null, .val (.int p1), .val (.int p2), .val .null, .val (.int p3)] []))
  refine OGo.to (fun _ k => XS.aloadN X_21.here hx rfl (hb hby d12_26) rfl rfl k) ?_
  show OGo p e below _ (T_21.setTop (mkF m 27 #[.val (.ref a1), .val .null, .val (.int p1), .val (.int p2), .val .null, .val (.int p3)] [(.ref a1)]))
  refine OGo.to (fun _ k => XS.iloadN X_21.here hx rfl (hb hby d12_27) rfl k) ?_
  show OGo p e below _ (T_21.setTop (mkF m 28 #[.val (.ref a1), .val .null, .val (.int p1), .val (.int p2), .val .null, .val (.int p3)] [(.int p1), (.ref a1)]))
  have f_24 : Exa Z h_21 a1 "com/example/dromos/dromos/service/Definition" := (f_19.wr W_21)
  have f_25 : Fld Z h_21 a1 "com/example/dromos/dromos/service/Definition" "arity" "I" (.int (0 : Int32)) := (((((F4.other W_2 (Or.inr (slot_ne (Or.inr (hw _ (List.mem_of_getElem? (i := 91) rfl))) (Or.inl (hw _ (List.mem_of_getElem? (i := 82) rfl))) (by decide) (t := .int) (t' := .int) (by decide) (by decide)))).other W_7 (Or.inr (slot_ne (Or.inr (hw _ (List.mem_of_getElem? (i := 91) rfl))) (Or.inl (hw _ (List.mem_of_getElem? (i := 84) rfl))) (by decide) (t := .int) (t' := .int) (by decide) (by decide)))).ext E_10).other W_16 (Or.inr (slot_ne (Or.inr (hw _ (List.mem_of_getElem? (i := 91) rfl))) (Or.inl (hw _ (List.mem_of_getElem? (i := 87) rfl))) (by decide) (t := .int) (t' := (.array .int)) (by decide) (by decide)))).other W_21 (Or.inr (slot_ne (Or.inr (hw _ (List.mem_of_getElem? (i := 91) rfl))) (Or.inr (hw _ (List.mem_of_getElem? (i := 89) rfl))) (by decide) (t := .int) (t' := (.object "java/lang/String")) (by decide) (by decide))))
  obtain ⟨T_26, h_26, X_26, e_26, W_26, st_26⟩ := putF X_21 hx hZ hown (host := "") (Or.inl (hw _ (List.mem_of_getElem? (i := 90) rfl))) Via.refl e_21 f_25 f_24 (Or.inr ⟨(hw _ (List.mem_of_getElem? (i := 91) rfl)), rfl, hnm⟩) (hw _ (List.mem_of_getElem? (i := 75) rfl)) (ty := .int) (by decide) rfl rfl (g := (mkF m 28 #[.val (.ref a1), .val .null, .val (.int p1), .val (.int p2), .val .null, .val (.int p3)] [(.int p1), (.ref a1)])) rfl rfl (hb hby d12_28)
  refine OGo.to st_26 ?_
  have Fw_26 : Fld Z h_26 a1 "com/example/dromos/dromos/service/Definition" "arity" "I" (.int p1) := f_25.same W_26
  have N_26 := Fr.snoc X_26 N_21 g1
  have z_27 : n0 ≤ h_26.size := Nat.le_trans z_22 (Keep.of_wr W_26).1
  have K_28 : Keep h0 h_26 [a1] := K_23.wr W_26 (Or.inl (List.mem_of_getElem? (i := 0) rfl))
  show OGo p e below _ (T_26.setTop (mkF m 31 #[.val (.ref a1), .val .null, .val (.int p1), .val (.int p2), .val .null, .val (.int p3)] []))
  refine OGo.to (fun _ k => XS.aloadN X_26.here hx rfl (hb hby d12_31) rfl rfl k) ?_
  show OGo p e below _ (T_26.setTop (mkF m 32 #[.val (.ref a1), .val .null, .val (.int p1), .val (.int p2), .val .null, .val (.int p3)] [(.ref a1)]))
  refine OGo.to (fun _ k => XS.iloadN X_26.here hx rfl (hb hby d12_32) rfl k) ?_
  show OGo p e below _ (T_26.setTop (mkF m 33 #[.val (.ref a1), .val .null, .val (.int p1), .val (.int p2), .val .null, .val (.int p3)] [(.int p2), (.ref a1)]))
  have f_29 : Exa Z h_26 a1 "com/example/dromos/dromos/service/Definition" := (f_24.wr W_26)
  have f_30 : Fld Z h_26 a1 "com/example/dromos/dromos/service/Definition" "hidden" "I" (.int (0 : Int32)) := ((((((F5.other W_2 (Or.inr (slot_ne (Or.inr (hw _ (List.mem_of_getElem? (i := 93) rfl))) (Or.inl (hw _ (List.mem_of_getElem? (i := 82) rfl))) (by decide) (t := .int) (t' := .int) (by decide) (by decide)))).other W_7 (Or.inr (slot_ne (Or.inr (hw _ (List.mem_of_getElem? (i := 93) rfl))) (Or.inl (hw _ (List.mem_of_getElem? (i := 84) rfl))) (by decide) (t := .int) (t' := .int) (by decide) (by decide)))).ext E_10).other W_16 (Or.inr (slot_ne (Or.inr (hw _ (List.mem_of_getElem? (i := 93) rfl))) (Or.inl (hw _ (List.mem_of_getElem? (i := 87) rfl))) (by decide) (t := .int) (t' := (.array .int)) (by decide) (by decide)))).other W_21 (Or.inr (slot_ne (Or.inr (hw _ (List.mem_of_getElem? (i := 93) rfl))) (Or.inr (hw _ (List.mem_of_getElem? (i := 89) rfl))) (by decide) (t := .int) (t' := (.object "java/lang/String")) (by decide) (by decide)))).other W_26 (Or.inr (slot_ne (Or.inr (hw _ (List.mem_of_getElem? (i := 93) rfl))) (Or.inr (hw _ (List.mem_of_getElem? (i := 91) rfl))) (by decide) (t := .int) (t' := .int) (by decide) (by decide))))
  obtain ⟨T_31, h_31, X_31, e_31, W_31, st_31⟩ := putF X_26 hx hZ hown (host := "") (Or.inl (hw _ (List.mem_of_getElem? (i := 92) rfl))) Via.refl e_26 f_30 f_29 (Or.inr ⟨(hw _ (List.mem_of_getElem? (i := 93) rfl)), rfl, hnm⟩) (hw _ (List.mem_of_getElem? (i := 75) rfl)) (ty := .int) (by decide) rfl rfl (g := (mkF m 33 #[.val (.ref a1), .val .null, .val (.int p1), .val (.int p2), .val .null, .val (.int p3)] [(.int p2), (.ref a1)])) rfl rfl (hb hby d12_33)
  refine OGo.to st_31 ?_
  have Fw_31 : Fld Z h_31 a1 "com/example/dromos/dromos/service/Definition" "hidden" "I" (.int p2) := f_30.same W_31
  have N_31 := Fr.snoc X_31 N_26 g1
  have z_32 : n0 ≤ h_31.size := Nat.le_trans z_27 (Keep.of_wr W_31).1
  have K_33 : Keep h0 h_31 [a1] := K_28.wr W_31 (Or.inl (List.mem_of_getElem? (i := 0) rfl))
  show OGo p e below _ (T_31.setTop (mkF m 36 #[.val (.ref a1), .val .null, .val (.int p1), .val (.int p2), .val .null, .val (.int p3)] []))
  refine OGo.to (fun _ k => XS.aloadN X_31.here hx rfl (hb hby d12_36) rfl rfl k) ?_
  show OGo p e below _ (T_31.setTop (mkF m 37 #[.val (.ref a1), .val .null, .val (.int p1), .val (.int p2), .val .null, .val (.int p3)] [(.ref a1)]))
  refine OGo.to (fun _ k => XS.aload X_31.here hx rfl (hb hby d12_37) rfl rfl k) ?_
  show OGo p e below _ (T_31.setTop (mkF m 39 #[.val (.ref a1), .val .null, .val (.int p1), .val (.int p2), .val .null, .val (.int p3)] [.null, (.ref a1)]))
  have f_34 : Exa Z h_31 a1 "com/example/dromos/dromos/service/Definition" := (f_29.wr W_31)
  have f_35 : Fld Z h_31 a1 "com/example/dromos/dromos/service/Definition" "at" "Lcom/example/dromos/dromos/model/Location;" .null := (((((((F6.other W_2 (Or.inr (slot_ne (Or.inr (hw _ (List.mem_of_getElem? (i := 95) rfl))) (Or.inl (hw _ (List.mem_of_getElem? (i := 82) rfl))) (by decide) (t := (.object "com/example/dromos/dromos/model/Location")) (t' := .int) (by decide) (by decide)))).other W_7 (Or.inr (slot_ne (Or.inr (hw _ (List.mem_of_getElem? (i := 95) rfl))) (Or.inl (hw _ (List.mem_of_getElem? (i := 84) rfl))) (by decide) (t := (.object "com/example/dromos/dromos/model/Location")) (t' := .int) (by decide) (by decide)))).ext E_10).other W_16 (Or.inr (slot_ne (Or.inr (hw _ (List.mem_of_getElem? (i := 95) rfl))) (Or.inl (hw _ (List.mem_of_getElem? (i := 87) rfl))) (by decide) (t := (.object "com/example/dromos/dromos/model/Location")) (t' := (.array .int)) (by decide) (by decide)))).other W_21 (Or.inr (slot_ne (Or.inr (hw _ (List.mem_of_getElem? (i := 95) rfl))) (Or.inr (hw _ (List.mem_of_getElem? (i := 89) rfl))) (by decide) (t := (.object "com/example/dromos/dromos/model/Location")) (t' := (.object "java/lang/String")) (by decide) (by decide)))).other W_26 (Or.inr (slot_ne (Or.inr (hw _ (List.mem_of_getElem? (i := 95) rfl))) (Or.inr (hw _ (List.mem_of_getElem? (i := 91) rfl))) (by decide) (t := (.object "com/example/dromos/dromos/model/Location")) (t' := .int) (by decide) (by decide)))).other W_31 (Or.inr (slot_ne (Or.inr (hw _ (List.mem_of_getElem? (i := 95) rfl))) (Or.inr (hw _ (List.mem_of_getElem? (i := 93) rfl))) (by decide) (t := (.object "com/example/dromos/dromos/model/Location")) (t' := .int) (by decide) (by decide))))
  obtain ⟨T_36, h_36, X_36, e_36, W_36, st_36⟩ := putF X_31 hx hZ hown (host := "") (Or.inl (hw _ (List.mem_of_getElem? (i := 94) rfl))) Via.refl e_31 f_35 f_34 (Or.inr ⟨(hw _ (List.mem_of_getElem? (i := 95) rfl)), rfl, hnm⟩) (hw _ (List.mem_of_getElem? (i := 75) rfl)) (ty := (.object "com/example/dromos/dromos/model/Location")) (by decide) rfl rfl (g := (mkF m 39 #[.val (.ref a1), .val .null, .val (.int p1), .val (.int p2), .val .null, .val (.int p3)] [.null, (.ref a1)])) rfl rfl (hb hby d12_39)
  refine OGo.to st_36 ?_
  have Fw_36 : Fld Z h_36 a1 "com/example/dromos/dromos/service/Definition" "at" "Lcom/example/dromos/dromos/model/Location;" .null := f_35.same W_36
  have N_36 := Fr.snoc X_36 N_31 g1
  have z_37 : n0 ≤ h_36.size := Nat.le_trans z_32 (Keep.of_wr W_36).1
  have K_38 : Keep h0 h_36 [a1] := K_33.wr W_36 (Or.inl (List.mem_of_getElem? (i := 0) rfl))
  show OGo p e below _ (T_36.setTop (mkF m 42 #[.val (.ref a1), .val .null, .val (.int p1), .val (.int p2), .val .null, .val (.int p3)] []))
  refine OGo.to (fun _ k => XS.aloadN X_36.here hx rfl (hb hby d12_42) rfl rfl k) ?_
  show OGo p e below _ (T_36.setTop (mkF m 43 #[.val (.ref a1), .val .null, .val (.int p1), .val (.int p2), .val .null, .val (.int p3)] [(.ref a1)]))
  refine OGo.to (fun _ k => XS.iload X_36.here hx rfl (hb hby d12_43) rfl k) ?_
  show OGo p e below _ (T_36.setTop (mkF m 45 #[.val (.ref a1), .val .null, .val (.int p1), .val (.int p2), .val .null, .val (.int p3)] [(.int p3), (.ref a1)]))
  have f_39 : Exa Z h_36 a1 "com/example/dromos/dromos/service/Definition" := (f_34.wr W_36)
  have f_40 : Fld Z h_36 a1 "com/example/dromos/dromos/service/Definition" "lexical" "Z" (.int (0 : Int32)) := ((((((((F7.other W_2 (Or.inr (slot_ne (Or.inr (hw _ (List.mem_of_getElem? (i := 97) rfl))) (Or.inl (hw _ (List.mem_of_getElem? (i := 82) rfl))) (by decide) (t := .boolean) (t' := .int) (by decide) (by decide)))).other W_7 (Or.inr (slot_ne (Or.inr (hw _ (List.mem_of_getElem? (i := 97) rfl))) (Or.inl (hw _ (List.mem_of_getElem? (i := 84) rfl))) (by decide) (t := .boolean) (t' := .int) (by decide) (by decide)))).ext E_10).other W_16 (Or.inr (slot_ne (Or.inr (hw _ (List.mem_of_getElem? (i := 97) rfl))) (Or.inl (hw _ (List.mem_of_getElem? (i := 87) rfl))) (by decide) (t := .boolean) (t' := (.array .int)) (by decide) (by decide)))).other W_21 (Or.inr (slot_ne (Or.inr (hw _ (List.mem_of_getElem? (i := 97) rfl))) (Or.inr (hw _ (List.mem_of_getElem? (i := 89) rfl))) (by decide) (t := .boolean) (t' := (.object "java/lang/String")) (by decide) (by decide)))).other W_26 (Or.inr (slot_ne (Or.inr (hw _ (List.mem_of_getElem? (i := 97) rfl))) (Or.inr (hw _ (List.mem_of_getElem? (i := 91) rfl))) (by decide) (t := .boolean) (t' := .int) (by decide) (by decide)))).other W_31 (Or.inr (slot_ne (Or.inr (hw _ (List.mem_of_getElem? (i := 97) rfl))) (Or.inr (hw _ (List.mem_of_getElem? (i := 93) rfl))) (by decide) (t := .boolean) (t' := .int) (by decide) (by decide)))).other W_36 (Or.inr (slot_ne (Or.inr (hw _ (List.mem_of_getElem? (i := 97) rfl))) (Or.inr (hw _ (List.mem_of_getElem? (i := 95) rfl))) (by decide) (t := .boolean) (t' := (.object "com/example/dromos/dromos/model/Location")) (by decide) (by decide))))
  obtain ⟨T_41, h_41, X_41, e_41, W_41, st_41⟩ := putF X_36 hx hZ hown (host := "") (Or.inl (hw _ (List.mem_of_getElem? (i := 96) rfl))) Via.refl e_36 f_40 f_39 (Or.inr ⟨(hw _ (List.mem_of_getElem? (i := 97) rfl)), rfl, hnm⟩) (hw _ (List.mem_of_getElem? (i := 75) rfl)) (ty := .boolean) (by decide) (own_b hb1).1 (own_b hb1).2 (g := (mkF m 45 #[.val (.ref a1), .val .null, .val (.int p1), .val (.int p2), .val .null, .val (.int p3)] [(.int p3), (.ref a1)])) rfl rfl (hb hby d12_45)
  refine OGo.to st_41 ?_
  have Fw_41 : Fld Z h_41 a1 "com/example/dromos/dromos/service/Definition" "lexical" "Z" (.int p3) := f_40.same W_41
  have N_41 := Fr.snoc X_41 N_36 g1
  have z_42 : n0 ≤ h_41.size := Nat.le_trans z_37 (Keep.of_wr W_41).1
  have K_43 : Keep h0 h_41 [a1] := K_38.wr W_41 (Or.inl (List.mem_of_getElem? (i := 0) rfl))
  show OGo p e below _ (T_41.setTop (mkF m 48 #[.val (.ref a1), .val .null, .val (.int p1), .val (.int p2), .val .null, .val (.int p3)] []))
  refine OGo.ret (Q := Q12 Z a1 p1 p2 p3 h0 n0) X_41 none (fun _ => rfl) Bd.notSynchronized (fun fs hr => X_41.returnOut hx Bd.returns (hb hby d12_48) hr) ?_ (by decide) (by decide)
  have f_44 : Fld Z h_41 a1 "com/example/dromos/dromos/service/Definition" "arity" "I" (.int p1) := (((Fw_26.other W_31 (Or.inr (slot_ne (Or.inr (hw _ (List.mem_of_getElem? (i := 91) rfl))) (Or.inr (hw _ (List.mem_of_getElem? (i := 93) rfl))) (by decide) (t := .int) (t' := .int) (by decide) (by decide)))).other W_36 (Or.inr (slot_ne (Or.inr (hw _ (List.mem_of_getElem? (i := 91) rfl))) (Or.inr (hw _ (List.mem_of_getElem? (i := 95) rfl))) (by decide) (t := .int) (t' := (.object "com/example/dromos/dromos/model/Location")) (by decide) (by decide)))).other W_41 (Or.inr (slot_ne (Or.inr (hw _ (List.mem_of_getElem? (i := 91) rfl))) (Or.inr (hw _ (List.mem_of_getElem? (i := 97) rfl))) (by decide) (t := .int) (t' := .boolean) (by decide) (by decide))))
  have f_45 : Fld Z h_41 a1 "com/example/dromos/dromos/service/Definition" "bound" "I" (.int (-1 : Int32)) := ((((((((Fw_2.other W_7 (Or.inr (slot_ne (Or.inl (hw _ (List.mem_of_getElem? (i := 82) rfl))) (Or.inl (hw _ (List.mem_of_getElem? (i := 84) rfl))) (by decide) (t := .int) (t' := .int) (by decide) (by decide)))).ext E_10).other W_16 (Or.inr (slot_ne (Or.inl (hw _ (List.mem_of_getElem? (i := 82) rfl))) (Or.inl (hw _ (List.mem_of_getElem? (i := 87) rfl))) (by decide) (t := .int) (t' := (.array .int)) (by decide) (by decide)))).other W_21 (Or.inr (slot_ne (Or.inl (hw _ (List.mem_of_getElem? (i := 82) rfl))) (Or.inr (hw _ (List.mem_of_getElem? (i := 89) rfl))) (by decide) (t := .int) (t' := (.object "java/lang/String")) (by decide) (by decide)))).other W_26 (Or.inr (slot_ne (Or.inl (hw _ (List.mem_of_getElem? (i := 82) rfl))) (Or.inr (hw _ (List.mem_of_getElem? (i := 91) rfl))) (by decide) (t := .int) (t' := .int) (by decide) (by decide)))).other W_31 (Or.inr (slot_ne (Or.inl (hw _ (List.mem_of_getElem? (i := 82) rfl))) (Or.inr (hw _ (List.mem_of_getElem? (i := 93) rfl))) (by decide) (t := .int) (t' := .int) (by decide) (by decide)))).other W_36 (Or.inr (slot_ne (Or.inl (hw _ (List.mem_of_getElem? (i := 82) rfl))) (Or.inr (hw _ (List.mem_of_getElem? (i := 95) rfl))) (by decide) (t := .int) (t' := (.object "com/example/dromos/dromos/model/Location")) (by decide) (by decide)))).other W_41 (Or.inr (slot_ne (Or.inl (hw _ (List.mem_of_getElem? (i := 82) rfl))) (Or.inr (hw _ (List.mem_of_getElem? (i := 97) rfl))) (by decide) (t := .int) (t' := .boolean) (by decide) (by decide))))
  have f_46 : Fld Z h_41 a1 "com/example/dromos/dromos/service/Definition" "free" "I" (.int (-1 : Int32)) := (((((((Fw_7.ext E_10).other W_16 (Or.inr (slot_ne (Or.inl (hw _ (List.mem_of_getElem? (i := 84) rfl))) (Or.inl (hw _ (List.mem_of_getElem? (i := 87) rfl))) (by decide) (t := .int) (t' := (.array .int)) (by decide) (by decide)))).other W_21 (Or.inr (slot_ne (Or.inl (hw _ (List.mem_of_getElem? (i := 84) rfl))) (Or.inr (hw _ (List.mem_of_getElem? (i := 89) rfl))) (by decide) (t := .int) (t' := (.object "java/lang/String")) (by decide) (by decide)))).other W_26 (Or.inr (slot_ne (Or.inl (hw _ (List.mem_of_getElem? (i := 84) rfl))) (Or.inr (hw _ (List.mem_of_getElem? (i := 91) rfl))) (by decide) (t := .int) (t' := .int) (by decide) (by decide)))).other W_31 (Or.inr (slot_ne (Or.inl (hw _ (List.mem_of_getElem? (i := 84) rfl))) (Or.inr (hw _ (List.mem_of_getElem? (i := 93) rfl))) (by decide) (t := .int) (t' := .int) (by decide) (by decide)))).other W_36 (Or.inr (slot_ne (Or.inl (hw _ (List.mem_of_getElem? (i := 84) rfl))) (Or.inr (hw _ (List.mem_of_getElem? (i := 95) rfl))) (by decide) (t := .int) (t' := (.object "com/example/dromos/dromos/model/Location")) (by decide) (by decide)))).other W_41 (Or.inr (slot_ne (Or.inl (hw _ (List.mem_of_getElem? (i := 84) rfl))) (Or.inr (hw _ (List.mem_of_getElem? (i := 97) rfl))) (by decide) (t := .int) (t' := .boolean) (by decide) (by decide))))
  have f_47 : Fld Z h_41 a1 "com/example/dromos/dromos/service/Definition" "operators" "[I" (.ref b_10) := (((((Fw_16.other W_21 (Or.inr (slot_ne (Or.inl (hw _ (List.mem_of_getElem? (i := 87) rfl))) (Or.inr (hw _ (List.mem_of_getElem? (i := 89) rfl))) (by decide) (t := (.array .int)) (t' := (.object "java/lang/String")) (by decide) (by decide)))).other W_26 (Or.inr (slot_ne (Or.inl (hw _ (List.mem_of_getElem? (i := 87) rfl))) (Or.inr (hw _ (List.mem_of_getElem? (i := 91) rfl))) (by decide) (t := (.array .int)) (t' := .int) (by decide) (by decide)))).other W_31 (Or.inr (slot_ne (Or.inl (hw _ (List.mem_of_getElem? (i := 87) rfl))) (Or.inr (hw _ (List.mem_of_getElem? (i := 93) rfl))) (by decide) (t := (.array .int)) (t' := .int) (by decide) (by decide)))).other W_36 (Or.inr (slot_ne (Or.inl (hw _ (List.mem_of_getElem? (i := 87) rfl))) (Or.inr (hw _ (List.mem_of_getElem? (i := 95) rfl))) (by decide) (t := (.array .int)) (t' := (.object "com/example/dromos/dromos/model/Location")) (by decide) (by decide)))).other W_41 (Or.inr (slot_ne (Or.inl (hw _ (List.mem_of_getElem? (i := 87) rfl))) (Or.inr (hw _ (List.mem_of_getElem? (i := 97) rfl))) (by decide) (t := (.array .int)) (t' := .boolean) (by decide) (by decide))))
  have f_48 : Arv Z h_41 b_10 k_10 .int (0 : Int32) [] (.int (0 : Int32)) := ((((((V_10.other W_16 (Ne.symm ne_a1_b_10)).other W_21 (Ne.symm ne_a1_b_10)).other W_26 (Ne.symm ne_a1_b_10)).other W_31 (Ne.symm ne_a1_b_10)).other W_36 (Ne.symm ne_a1_b_10)).other W_41 (Ne.symm ne_a1_b_10))
  show Q12 Z a1 p1 p2 p3 h0 n0 _ T_41.heap _
  rw [e_41]
  exact ⟨b_10, k_10, rfl, N_41, K_43, g_b_10, sz_b_10, f_44, Fw_41, f_45, f_46, f_47, f_48, ne_a1_b_10⟩
theorem d15_0 : decode jdk_38_method_8_code 0 = .ok (.aload_n 0, 1) := by decide +kernel
theorem d15_1 : decode jdk_38_method_8_code 1 = .ok (.getfield 48, 3) := by decide +kernel
theorem d15_4 : decode jdk_38_method_8_code 4 = .ok (.ireturn, 1) := by decide +kernel
theorem ef_15 (m : MethodId) (x0 : Addr) : entryFrame m #[(.ref x0)] 1 = mkF m 0 #[.val (.ref x0)] [] := by first | (simp [entryFrame, mkF, argsToLocals, Value.category]; done) | rfl
def Q15 (Z : State) (a1 : Addr) (w1 : Int32) (h0 : Heap) (n0 : Nat) (v : Option Value) (h : Heap) (L : List Loc) : Prop := v = some (.int w1) ∧ Fr n0 L ∧ h = h0
set_option maxRecDepth 65536 in
set_option maxHeartbeats 40000000 in
theorem rm15 (l : Launch) (Z : State) (a0 : Array Value) (hw : ∀ d ∈ tables_1, d.before a0 Z = true) (ws : List Jvm.Cond) (a1 : Addr) (w1 : Int32) (h0 : Heap) (n0 : Nat) (Z0 : n0 ≤ h0.size) (F2 : Fld Z h0 a1 "java/util/ArrayList" "size" "I" (.int w1)) :
    MetFree l (⟨"java/util/ArrayList", "size", "()I"⟩ : MethodName) (head1 (Jvm.Cond.code (⟨"java/util/ArrayList", "size", "()I"⟩ : MethodName) jdk_38_method_8_code 1 (some .int) :: ws) ({ frames := 0, cells := 0, slots := 0, locals := 0 } : Room)) (fun a U => a = #[(.ref a1)] ∧ Z.Warmed39 U.vm ∧ U.heap = h0) (fun _ _ _ _ _ => True) (fun _ U o U' => ∃ v L, o = .returned v ∧ Q15 Z a1 w1 h0 n0 v U'.heap L ∧ FrameEnd U o U' L ({ frames := 0, cells := 0, slots := 0, locals := 0 } : Room).cells ({ frames := 0, cells := 0, slots := 0, locals := 0 } : Room).slots) := by
  refine MetFree.of_bodySF (plainFor_of_name pn_3) hisR ?_
  intro p e s m args below meth c s₁ Bd hml0 hP hK
  obtain ⟨rfl, hZ, hh⟩ := hP
  have hx := Bd.exec
  have hby := Bd.bytes
  have hml : c.maxLocals = 1 := hml0
  have hown : s.vm.findClass "java/util/ArrayList" = some m.cls := findClass_of_methodNamed Bd.named
  have hnm := (name_of_methodNamed Bd.named Bd.method).1
  have X0 : Stand p l e ({ frames := 0, cells := 0, slots := 0, locals := 0 } : Room) s m #[(.ref a1)] below meth c s₁ [] 0 0 := Stand.of_body Bd
  have e0 : s₁.heap = h0 := by rw [← hh, Bd.state]; rfl
  have N0 := Fr.nil n0
  show OGo p e below (fun s₂ o => ∃ v L, o = .returned v ∧ Q15 Z a1 w1 h0 n0 v s₂.heap L ∧ FrameEnd s o s₂ L ({ frames := 0, cells := 0, slots := 0, locals := 0 } : Room).cells ({ frames := 0, cells := 0, slots := 0, locals := 0 } : Room).slots) _
  refine OGo.to (fun _ k => castTop (ef_15 m a1) k) ?_
  refine OGo.to (fun _ k => XS.aloadN X0.here hx rfl (hb hby d15_0) rfl rfl k) ?_
  show OGo p e below _ (s₁.setTop (mkF m 1 #[.val (.ref a1)] [(.ref a1)]))
  obtain ⟨T_1, X_1, e_1, st_1⟩ := getF X0 hx hZ hown (host := "") (Or.inl (hw _ (List.mem_of_getElem? (i := 50) rfl))) Via.refl e0 F2 (g := (mkF m 1 #[.val (.ref a1)] [(.ref a1)])) rfl rfl (hb hby d15_1)
  refine OGo.to st_1 ?_
  show OGo p e below _ (T_1.setTop (mkF m 4 #[.val (.ref a1)] [(.int w1)]))
  refine OGo.ret (Q := Q15 Z a1 w1 h0 n0) X_1 (some (.int w1)) (fun h => by rw [Bd.returns] at h; cases h) Bd.notSynchronized (fun fs hr => retI X_1 hx Bd.returns (hb hby d15_4) hr) ?_ (by decide) (by decide)
  show Q15 Z a1 w1 h0 n0 _ T_1.heap _
  rw [e_1]
  exact ⟨rfl, N0, rfl⟩
theorem d18_0 : decode jdk_41_method_11_code 0 = .ok (.iload_n 0, 1) := by decide +kernel
theorem d18_1 : decode jdk_41_method_11_code 1 = .ok (.ifCond .lt 8, 3) := by decide +kernel
theorem d18_4 : decode jdk_41_method_11_code 4 = .ok (.iload_n 0, 1) := by decide +kernel
theorem d18_5 : decode jdk_41_method_11_code 5 = .ok (.iload_n 1, 1) := by decide +kernel
theorem d18_6 : decode jdk_41_method_11_code 6 = .ok (.if_icmp .lt 10, 3) := by decide +kernel
theorem d18_16 : decode jdk_41_method_11_code 16 = .ok (.iload_n 0, 1) := by decide +kernel
theorem d18_17 : decode jdk_41_method_11_code 17 = .ok (.ireturn, 1) := by decide +kernel
theorem ef_pc0_1 (m : MethodId) (x0 : Int32) (x1 : Int32) : entryFrame m #[(.int x0), (.int x1), .null] 3 = mkF m 0 #[.val (.int x0), .val (.int x1), .val .null] [] := by first | (simp [entryFrame, mkF, argsToLocals, Value.category]; done) | rfl
def Qpc0_1 (Z : State)  (h0 : Heap) (n0 : Nat) (v : Option Value) (h : Heap) (L : List Loc) : Prop := v = some (.int (0 : Int32)) ∧ Fr n0 L ∧ h = h0
set_option maxRecDepth 65536 in
set_option maxHeartbeats 40000000 in
theorem rmpc0_1 (l : Launch) (Z : State) (a0 : Array Value) (hw : ∀ d ∈ tables_1, d.before a0 Z = true) (ws : List Jvm.Cond)  (h0 : Heap) (n0 : Nat) (Z0 : n0 ≤ h0.size) :
    MetFree l (⟨"jdk/internal/util/Preconditions", "checkIndex", "(IILjava/util/function/BiFunction;)I"⟩ : MethodName) (head1 (Jvm.Cond.code (⟨"jdk/internal/util/Preconditions", "checkIndex", "(IILjava/util/function/BiFunction;)I"⟩ : MethodName) jdk_41_method_11_code 3 (some .int) :: ws) ({ frames := 0, cells := 0, slots := 0, locals := 0 } : Room)) (fun a U => a = #[(.int (0 : Int32)), (.int (1 : Int32)), .null] ∧ Z.Warmed39 U.vm ∧ U.heap = h0) (fun _ _ _ _ _ => True) (fun _ U o U' => ∃ v L, o = .returned v ∧ Qpc0_1 Z  h0 n0 v U'.heap L ∧ FrameEnd U o U' L ({ frames := 0, cells := 0, slots := 0, locals := 0 } : Room).cells ({ frames := 0, cells := 0, slots := 0, locals := 0 } : Room).slots) := by
  refine MetFree.of_bodySF (plainFor_of_name pn_6) hisR ?_
  intro p e s m args below meth c s₁ Bd hml0 hP hK
  obtain ⟨rfl, hZ, hh⟩ := hP
  have hx := Bd.exec
  have hby := Bd.bytes
  have hml : c.maxLocals = 3 := hml0
  have hown : s.vm.findClass "jdk/internal/util/Preconditions" = some m.cls := findClass_of_methodNamed Bd.named
  have hnm := (name_of_methodNamed Bd.named Bd.method).1
  have X0 : Stand p l e ({ frames := 0, cells := 0, slots := 0, locals := 0 } : Room) s m #[(.int (0 : Int32)), (.int (1 : Int32)), .null] below meth c s₁ [] 0 0 := Stand.of_body Bd
  have e0 : s₁.heap = h0 := by rw [← hh, Bd.state]; rfl
  have N0 := Fr.nil n0
  show OGo p e below (fun s₂ o => ∃ v L, o = .returned v ∧ Qpc0_1 Z  h0 n0 v s₂.heap L ∧ FrameEnd s o s₂ L ({ frames := 0, cells := 0, slots := 0, locals := 0 } : Room).cells ({ frames := 0, cells := 0, slots := 0, locals := 0 } : Room).slots) _
  refine OGo.to (fun _ k => castTop (ef_pc0_1 m (0 : Int32) (1 : Int32)) k) ?_
  refine OGo.to (fun _ k => XS.iloadN X0.here hx rfl (hb hby d18_0) rfl k) ?_
  show OGo p e below _ (s₁.setTop (mkF m 1 #[.val (.int (0 : Int32)), .val (.int (1 : Int32)), .val .null] [(.int (0 : Int32))]))
  have hc1__1 : ¬ ((0 : Int32) < (0 : Int32)) := by decide
  refine OGo.to (fun _ k => XS.ifNo X0.here hx rfl (hb hby d18_1) rfl ((if0 _ _).trans (flt hc1__1).1) k) ?_
  show OGo p e below _ (s₁.setTop (mkF m 4 #[.val (.int (0 : Int32)), .val (.int (1 : Int32)), .val .null] []))
  refine OGo.to (fun _ k => XS.iloadN X0.here hx rfl (hb hby d18_4) rfl k) ?_
  show OGo p e below _ (s₁.setTop (mkF m 5 #[.val (.int (0 : Int32)), .val (.int (1 : Int32)), .val .null] [(.int (0 : Int32))]))
  refine OGo.to (fun _ k => XS.iloadN X0.here hx rfl (hb hby d18_5) rfl k) ?_
  show OGo p e below _ (s₁.setTop (mkF m 6 #[.val (.int (0 : Int32)), .val (.int (1 : Int32)), .val .null] [(.int (1 : Int32)), (.int (0 : Int32))]))
  have hc6__2 : (0 : Int32) < (1 : Int32) := by decide
  refine OGo.to (fun _ k => XS.icmpYes X0.here hx rfl (pc0 := 6) (pc' := 16) rfl (hb hby d18_6) rfl (tlt hc6__2).1 (by decide) (by decide) k) ?_
  show OGo p e below _ (s₁.setTop (mkF m 16 #[.val (.int (0 : Int32)), .val (.int (1 : Int32)), .val .null] []))
  refine OGo.to (fun _ k => XS.iloadN X0.here hx rfl (hb hby d18_16) rfl k) ?_
  show OGo p e below _ (s₁.setTop (mkF m 17 #[.val (.int (0 : Int32)), .val (.int (1 : Int32)), .val .null] [(.int (0 : Int32))]))
  refine OGo.ret (Q := Qpc0_1 Z  h0 n0) X0 (some (.int (0 : Int32))) (fun h => by rw [Bd.returns] at h; cases h) Bd.notSynchronized (fun fs hr => retI X0 hx Bd.returns (hb hby d18_17) hr) ?_ (by decide) (by decide)
  show Qpc0_1 Z  h0 n0 _ s₁.heap _
  rw [e0]
  exact ⟨rfl, N0, rfl⟩
theorem d17_0 : decode jdk_31_method_17_code 0 = .ok (.iload_n 0, 1) := by decide +kernel
theorem d17_1 : decode jdk_31_method_17_code 1 = .ok (.iload_n 1, 1) := by decide +kernel
theorem d17_2 : decode jdk_31_method_17_code 2 = .ok (.aconst_null, 1) := by decide +kernel
theorem d17_3 : decode jdk_31_method_17_code 3 = .ok (.invokestatic 105, 3) := by decide +kernel
theorem d17_6 : decode jdk_31_method_17_code 6 = .ok (.ireturn, 1) := by decide +kernel
theorem ef_oc0_1 (m : MethodId) (x0 : Int32) (x1 : Int32) : entryFrame m #[(.int x0), (.int x1)] 2 = mkF m 0 #[.val (.int x0), .val (.int x1)] [] := by first | (simp [entryFrame, mkF, argsToLocals, Value.category]; done) | rfl
def Qoc0_1 (Z : State)  (h0 : Heap) (n0 : Nat) (v : Option Value) (h : Heap) (L : List Loc) : Prop := v = some (.int (0 : Int32)) ∧ Fr n0 L ∧ h = h0
set_option maxRecDepth 65536 in
set_option maxHeartbeats 40000000 in
theorem rmoc0_1 (l : Launch) (Z : State) (a0 : Array Value) (hw : ∀ d ∈ tables_1, d.before a0 Z = true) (ws : List Jvm.Cond)  (h0 : Heap) (n0 : Nat) (Z0 : n0 ≤ h0.size) :
    MetFree l (⟨"java/util/Objects", "checkIndex", "(II)I"⟩ : MethodName) (head1 (Jvm.Cond.code (⟨"java/util/Objects", "checkIndex", "(II)I"⟩ : MethodName) jdk_31_method_17_code 2 (some .int) :: ws) ({ frames := 1, cells := 0, slots := 0, locals := 14 } : Room)) (fun a U => a = #[(.int (0 : Int32)), (.int (1 : Int32))] ∧ Z.Warmed39 U.vm ∧ U.heap = h0) (fun _ _ _ _ _ => True) (fun _ U o U' => ∃ v L, o = .returned v ∧ Qoc0_1 Z  h0 n0 v U'.heap L ∧ FrameEnd U o U' L ({ frames := 1, cells := 0, slots := 0, locals := 14 } : Room).cells ({ frames := 1, cells := 0, slots := 0, locals := 14 } : Room).slots) := by
  refine MetFree.of_bodySF (plainFor_of_name pn_7) hisR ?_
  intro p e s m args below meth c s₁ Bd hml0 hP hK
  obtain ⟨rfl, hZ, hh⟩ := hP
  have hx := Bd.exec
  have hby := Bd.bytes
  have hml : c.maxLocals = 2 := hml0
  have hown : s.vm.findClass "java/util/Objects" = some m.cls := findClass_of_methodNamed Bd.named
  have hnm := (name_of_methodNamed Bd.named Bd.method).1
  have X0 : Stand p l e ({ frames := 1, cells := 0, slots := 0, locals := 14 } : Room) s m #[(.int (0 : Int32)), (.int (1 : Int32))] below meth c s₁ [] 0 0 := Stand.of_body Bd
  have e0 : s₁.heap = h0 := by rw [← hh, Bd.state]; rfl
  have N0 := Fr.nil n0
  show OGo p e below (fun s₂ o => ∃ v L, o = .returned v ∧ Qoc0_1 Z  h0 n0 v s₂.heap L ∧ FrameEnd s o s₂ L ({ frames := 1, cells := 0, slots := 0, locals := 14 } : Room).cells ({ frames := 1, cells := 0, slots := 0, locals := 14 } : Room).slots) _
  refine OGo.to (fun _ k => castTop (ef_oc0_1 m (0 : Int32) (1 : Int32)) k) ?_
  refine OGo.to (fun _ k => XS.iloadN X0.here hx rfl (hb hby d17_0) rfl k) ?_
  show OGo p e below _ (s₁.setTop (mkF m 1 #[.val (.int (0 : Int32)), .val (.int (1 : Int32))] [(.int (0 : Int32))]))
  refine OGo.to (fun _ k => XS.iloadN X0.here hx rfl (hb hby d17_1) rfl k) ?_
  show OGo p e below _ (s₁.setTop (mkF m 2 #[.val (.int (0 : Int32)), .val (.int (1 : Int32))] [(.int (1 : Int32)), (.int (0 : Int32))]))
  refine OGo.to (fun _ k => XS.aconstNull X0.here hx rfl (hb hby d17_2) k) ?_
  show OGo p e below _ (s₁.setTop (mkF m 3 #[.val (.int (0 : Int32)), .val (.int (1 : Int32))] [.null, (.int (1 : Int32)), (.int (0 : Int32))]))
  obtain ⟨_, T_1, Lc_1, X_1, hQ_1, st_1⟩ := own_un X0 (Q := Qpc0_1 Z  h0 n0) (rc := 0) (rs := 0) (W := fun v B => ∀ target, Steps p.tables e below (B.setTop { (mkF m 3 #[.val (.int (0 : Int32)), .val (.int (1 : Int32))] [.null, (.int (1 : Int32)), (.int (0 : Int32))]) with pc := 6, stack := v.toList ++ [] }) target → Steps p.tables e below (s₁.setTop (mkF m 3 #[.val (.int (0 : Int32)), .val (.int (1 : Int32))] [.null, (.int (1 : Int32)), (.int (0 : Int32))])) target) <| Jvm.LawKit.callS X0 hx (y := (⟨"jdk/internal/util/Preconditions", "checkIndex", "(IILjava/util/function/BiFunction;)I"⟩ : MethodName)) hown (mvT hZ (hw _ (List.mem_of_getElem? (i := 129) rfl))) (mvT hZ (hw _ (List.mem_of_getElem? (i := 130) rfl))) (mvT hZ (hw _ (List.mem_of_getElem? (i := 131) rfl))) (mvT hZ (hw _ (List.mem_of_getElem? (i := 132) rfl))) (by decide) (backOf (W := 0) (rmpc0_1 l Z a0 hw []  h0 n0 Z0 ) hZ (hw _ (List.mem_of_getElem? (i := 132) rfl)) (hw _ (List.mem_of_getElem? (i := 131) rfl)) (by decide) (by decide)) (g := (mkF m 3 #[.val (.int (0 : Int32)), .val (.int (1 : Int32))] [.null, (.int (1 : Int32)), (.int (0 : Int32))])) rfl (by rw [hml]; rfl) (argsL := [(.int (0 : Int32)), (.int (1 : Int32)), .null]) (rest := []) (lenOf pd_5 rfl) rfl (by show 2 * 0 + _ ≤ _; exact Nat.le_of_eq rfl) (hb hby d17_3) (fun _ _ => ⟨rfl, e0, (by decide : 0 + 0 ≤ _), (by decide : 0 + 0 ≤ _)⟩)
  obtain ⟨rfl, N_1q, e_1⟩ := hQ_1
  have N_1 := Fr.app N0 N_1q
  refine OGo.to st_1 ?_
  show OGo p e below _ (T_1.setTop (mkF m 6 #[.val (.int (0 : Int32)), .val (.int (1 : Int32))] [(.int (0 : Int32))]))
  refine OGo.ret (Q := Qoc0_1 Z  h0 n0) X_1 (some (.int (0 : Int32))) (fun h => by rw [Bd.returns] at h; cases h) Bd.notSynchronized (fun fs hr => retI X_1 hx Bd.returns (hb hby d17_6) hr) ?_ (by decide) (by decide)
  show Qoc0_1 Z  h0 n0 _ T_1.heap _
  rw [e_1]
  exact ⟨rfl, N_1, rfl⟩
theorem d19_0 : decode jdk_38_method_18_code 0 = .ok (.aload_n 0, 1) := by decide +kernel
theorem d19_1 : decode jdk_38_method_18_code 1 = .ok (.getfield 9, 3) := by decide +kernel
theorem d19_4 : decode jdk_38_method_18_code 4 = .ok (.iload_n 1, 1) := by decide +kernel
theorem d19_5 : decode jdk_38_method_18_code 5 = .ok (.aaload, 1) := by decide +kernel
theorem d19_6 : decode jdk_38_method_18_code 6 = .ok (.areturn, 1) := by decide +kernel
theorem ef_ed0_1 (m : MethodId) (x0 : Addr) (x1 : Int32) : entryFrame m #[(.ref x0), (.int x1)] 2 = mkF m 0 #[.val (.ref x0), .val (.int x1)] [] := by first | (simp [entryFrame, mkF, argsToLocals, Value.category]; done) | rfl
def Qed0_1 (Z : State) (a1 : Addr) (t1 : Addr) (kb : ClassId) (x0 : Addr) (h0 : Heap) (n0 : Nat) (v : Option Value) (h : Heap) (L : List Loc) : Prop := v = some (.ref x0) ∧ Fr n0 L ∧ h = h0
set_option maxRecDepth 65536 in
set_option maxHeartbeats 40000000 in
theorem rmed0_1 (l : Launch) (Z : State) (a0 : Array Value) (hw : ∀ d ∈ tables_1, d.before a0 Z = true) (ws : List Jvm.Cond) (a1 : Addr) (t1 : Addr) (kb : ClassId) (x0 : Addr) (h0 : Heap) (n0 : Nat) (Z0 : n0 ≤ h0.size) (E1 : Exa Z h0 a1 "java/util/ArrayList") (F2 : Fld Z h0 a1 "java/util/ArrayList" "size" "I" (.int (1 : Int32))) (F3 : Fld Z h0 a1 "java/util/ArrayList" "elementData" "[Ljava/lang/Object;" (.ref t1)) (V1 : Arv Z h0 t1 kb (.object "java/lang/Object") (10 : Int32) [(.ref x0), .null, .null, .null, .null, .null, .null, .null, .null, .null] .null) :
    MetFree l (⟨"java/util/ArrayList", "elementData", "(I)Ljava/lang/Object;"⟩ : MethodName) (head1 (Jvm.Cond.code (⟨"java/util/ArrayList", "elementData", "(I)Ljava/lang/Object;"⟩ : MethodName) jdk_38_method_18_code 2 (some (.object "java/lang/Object")) :: ws) ({ frames := 0, cells := 0, slots := 0, locals := 0 } : Room)) (fun a U => a = #[(.ref a1), (.int (0 : Int32))] ∧ Z.Warmed39 U.vm ∧ U.heap = h0) (fun _ _ _ _ _ => True) (fun _ U o U' => ∃ v L, o = .returned v ∧ Qed0_1 Z a1 t1 kb x0 h0 n0 v U'.heap L ∧ FrameEnd U o U' L ({ frames := 0, cells := 0, slots := 0, locals := 0 } : Room).cells ({ frames := 0, cells := 0, slots := 0, locals := 0 } : Room).slots) := by
  refine MetFree.of_bodySF (plainFor_of_name pn_3) hisR ?_
  intro p e s m args below meth c s₁ Bd hml0 hP hK
  obtain ⟨rfl, hZ, hh⟩ := hP
  have hx := Bd.exec
  have hby := Bd.bytes
  have hml : c.maxLocals = 2 := hml0
  have hown : s.vm.findClass "java/util/ArrayList" = some m.cls := findClass_of_methodNamed Bd.named
  have hnm := (name_of_methodNamed Bd.named Bd.method).1
  have X0 : Stand p l e ({ frames := 0, cells := 0, slots := 0, locals := 0 } : Room) s m #[(.ref a1), (.int (0 : Int32))] below meth c s₁ [] 0 0 := Stand.of_body Bd
  have e0 : s₁.heap = h0 := by rw [← hh, Bd.state]; rfl
  have N0 := Fr.nil n0
  show OGo p e below (fun s₂ o => ∃ v L, o = .returned v ∧ Qed0_1 Z a1 t1 kb x0 h0 n0 v s₂.heap L ∧ FrameEnd s o s₂ L ({ frames := 0, cells := 0, slots := 0, locals := 0 } : Room).cells ({ frames := 0, cells := 0, slots := 0, locals := 0 } : Room).slots) _
  refine OGo.to (fun _ k => castTop (ef_ed0_1 m a1 (0 : Int32)) k) ?_
  refine OGo.to (fun _ k => XS.aloadN X0.here hx rfl (hb hby d19_0) rfl rfl k) ?_
  show OGo p e below _ (s₁.setTop (mkF m 1 #[.val (.ref a1), .val (.int (0 : Int32))] [(.ref a1)]))
  obtain ⟨T_1, X_1, e_1, st_1⟩ := getF X0 hx hZ hown (host := "") (Or.inl (hw _ (List.mem_of_getElem? (i := 25) rfl))) Via.refl e0 F3 (g := (mkF m 1 #[.val (.ref a1), .val (.int (0 : Int32))] [(.ref a1)])) rfl rfl (hb hby d19_1)
  refine OGo.to st_1 ?_
  show OGo p e below _ (T_1.setTop (mkF m 4 #[.val (.ref a1), .val (.int (0 : Int32))] [(.ref t1)]))
  refine OGo.to (fun _ k => XS.iloadN X_1.here hx rfl (hb hby d19_4) rfl k) ?_
  show OGo p e below _ (T_1.setTop (mkF m 5 #[.val (.ref a1), .val (.int (0 : Int32))] [(.int (0 : Int32)), (.ref t1)]))
  have Vq_2 := V1
  obtain ⟨cl_2, Ar_2, q_2, S_2, M_2, Hs_2, G_2⟩ := Vq_2
  have hin_3 : ¬ ((0 : Int32) < 0 ∨ cl_2.slots.size ≤ ((0 : Int32)).toNatClampNeg) := inb_of S_2 ⟨by decide, by decide⟩
  have hat_3 : cl_2.slots[((0 : Int32)).toNatClampNeg]? = some (.ref x0) := Hs_2.at hin_3 (rfl)
  refine OGo.to (fun _ k => X_1.aaload hx (j := (0 : Int32)) (v := (.ref x0)) (by rw [e_1]; exact Ar_2.1) (State.isArrayOf_alike hZ.alike Ar_2.2.1) rfl Ar_2.2.2 hin_3 hat_3 (g := (mkF m 5 #[.val (.ref a1), .val (.int (0 : Int32))] [(.int (0 : Int32)), (.ref t1)])) rfl rfl (hb hby d19_5) _ k) ?_
  show OGo p e below _ (T_1.setTop (mkF m 6 #[.val (.ref a1), .val (.int (0 : Int32))] [(.ref x0)]))
  refine OGo.ret (Q := Qed0_1 Z a1 t1 kb x0 h0 n0) X_1 (some (.ref x0)) (fun h => by rw [Bd.returns] at h; cases h) Bd.notSynchronized (fun fs hr => own_retA X_1 hx Bd.returns rfl rfl (hb hby d19_6) hr) ?_ (by decide) (by decide)
  show Qed0_1 Z a1 t1 kb x0 h0 n0 _ T_1.heap _
  rw [e_1]
  exact ⟨rfl, N0, rfl⟩
theorem d16_0 : decode jdk_38_method_20_code 0 = .ok (.iload_n 1, 1) := by decide +kernel
theorem d16_1 : decode jdk_38_method_20_code 1 = .ok (.aload_n 0, 1) := by decide +kernel
theorem d16_2 : decode jdk_38_method_20_code 2 = .ok (.getfield 48, 3) := by decide +kernel
theorem d16_5 : decode jdk_38_method_20_code 5 = .ok (.invokestatic 118, 3) := by decide +kernel
theorem d16_8 : decode jdk_38_method_20_code 8 = .ok (.pop, 1) := by decide +kernel
theorem d16_9 : decode jdk_38_method_20_code 9 = .ok (.aload_n 0, 1) := by decide +kernel
theorem d16_10 : decode jdk_38_method_20_code 10 = .ok (.iload_n 1, 1) := by decide +kernel
theorem d16_11 : decode jdk_38_method_20_code 11 = .ok (.invokevirtual 123, 3) := by decide +kernel
theorem d16_14 : decode jdk_38_method_20_code 14 = .ok (.areturn, 1) := by decide +kernel
theorem ef_get0_1 (m : MethodId) (x0 : Addr) (x1 : Int32) : entryFrame m #[(.ref x0), (.int x1)] 2 = mkF m 0 #[.val (.ref x0), .val (.int x1)] [] := by first | (simp [entryFrame, mkF, argsToLocals, Value.category]; done) | rfl
def Qget0_1 (Z : State) (a1 : Addr) (t1 : Addr) (kb : ClassId) (x0 : Addr) (h0 : Heap) (n0 : Nat) (v : Option Value) (h : Heap) (L : List Loc) : Prop := v = some (.ref x0) ∧ Fr n0 L ∧ h = h0
set_option maxRecDepth 65536 in
set_option maxHeartbeats 40000000 in
theorem rmget0_1 (l : Launch) (Z : State) (a0 : Array Value) (hw : ∀ d ∈ tables_1, d.before a0 Z = true) (ws : List Jvm.Cond) (a1 : Addr) (t1 : Addr) (kb : ClassId) (x0 : Addr) (h0 : Heap) (n0 : Nat) (Z0 : n0 ≤ h0.size) (E1 : Exa Z h0 a1 "java/util/ArrayList") (F2 : Fld Z h0 a1 "java/util/ArrayList" "size" "I" (.int (1 : Int32))) (F3 : Fld Z h0 a1 "java/util/ArrayList" "elementData" "[Ljava/lang/Object;" (.ref t1)) (V1 : Arv Z h0 t1 kb (.object "java/lang/Object") (10 : Int32) [(.ref x0), .null, .null, .null, .null, .null, .null, .null, .null, .null] .null) :
    MetFree l (⟨"java/util/ArrayList", "get", "(I)Ljava/lang/Object;"⟩ : MethodName) (head1 (Jvm.Cond.code (⟨"java/util/ArrayList", "get", "(I)Ljava/lang/Object;"⟩ : MethodName) jdk_38_method_20_code 2 (some (.object "java/lang/Object")) :: ws) ({ frames := 2, cells := 0, slots := 0, locals := 27 } : Room)) (fun a U => a = #[(.ref a1), (.int (0 : Int32))] ∧ Z.Warmed39 U.vm ∧ U.heap = h0) (fun _ _ _ _ _ => True) (fun _ U o U' => ∃ v L, o = .returned v ∧ Qget0_1 Z a1 t1 kb x0 h0 n0 v U'.heap L ∧ FrameEnd U o U' L ({ frames := 2, cells := 0, slots := 0, locals := 27 } : Room).cells ({ frames := 2, cells := 0, slots := 0, locals := 27 } : Room).slots) := by
  refine MetFree.of_bodySF (plainFor_of_name pn_3) hisR ?_
  intro p e s m args below meth c s₁ Bd hml0 hP hK
  obtain ⟨rfl, hZ, hh⟩ := hP
  have hx := Bd.exec
  have hby := Bd.bytes
  have hml : c.maxLocals = 2 := hml0
  have hown : s.vm.findClass "java/util/ArrayList" = some m.cls := findClass_of_methodNamed Bd.named
  have hnm := (name_of_methodNamed Bd.named Bd.method).1
  have X0 : Stand p l e ({ frames := 2, cells := 0, slots := 0, locals := 27 } : Room) s m #[(.ref a1), (.int (0 : Int32))] below meth c s₁ [] 0 0 := Stand.of_body Bd
  have e0 : s₁.heap = h0 := by rw [← hh, Bd.state]; rfl
  have N0 := Fr.nil n0
  show OGo p e below (fun s₂ o => ∃ v L, o = .returned v ∧ Qget0_1 Z a1 t1 kb x0 h0 n0 v s₂.heap L ∧ FrameEnd s o s₂ L ({ frames := 2, cells := 0, slots := 0, locals := 27 } : Room).cells ({ frames := 2, cells := 0, slots := 0, locals := 27 } : Room).slots) _
  refine OGo.to (fun _ k => castTop (ef_get0_1 m a1 (0 : Int32)) k) ?_
  refine OGo.to (fun _ k => XS.iloadN X0.here hx rfl (hb hby d16_0) rfl k) ?_
  show OGo p e below _ (s₁.setTop (mkF m 1 #[.val (.ref a1), .val (.int (0 : Int32))] [(.int (0 : Int32))]))
  refine OGo.to (fun _ k => XS.aloadN X0.here hx rfl (hb hby d16_1) rfl rfl k) ?_
  show OGo p e below _ (s₁.setTop (mkF m 2 #[.val (.ref a1), .val (.int (0 : Int32))] [(.ref a1), (.int (0 : Int32))]))
  obtain ⟨T_1, X_1, e_1, st_1⟩ := getF X0 hx hZ hown (host := "") (Or.inl (hw _ (List.mem_of_getElem? (i := 50) rfl))) Via.refl e0 F2 (g := (mkF m 2 #[.val (.ref a1), .val (.int (0 : Int32))] [(.ref a1), (.int (0 : Int32))])) rfl rfl (hb hby d16_2)
  refine OGo.to st_1 ?_
  show OGo p e below _ (T_1.setTop (mkF m 5 #[.val (.ref a1), .val (.int (0 : Int32))] [(.int (1 : Int32)), (.int (0 : Int32))]))
  obtain ⟨_, T_2, Lc_2, X_2, hQ_2, st_2⟩ := own_un X_1 (Q := Qoc0_1 Z  h0 n0) (rc := 0) (rs := 0) (W := fun v B => ∀ target, Steps p.tables e below (B.setTop { (mkF m 5 #[.val (.ref a1), .val (.int (0 : Int32))] [(.int (1 : Int32)), (.int (0 : Int32))]) with pc := 8, stack := v.toList ++ [] }) target → Steps p.tables e below (T_1.setTop (mkF m 5 #[.val (.ref a1), .val (.int (0 : Int32))] [(.int (1 : Int32)), (.int (0 : Int32))])) target) <| Jvm.LawKit.callS X_1 hx (y := (⟨"java/util/Objects", "checkIndex", "(II)I"⟩ : MethodName)) hown (mvT hZ (hw _ (List.mem_of_getElem? (i := 125) rfl))) (mvT hZ (hw _ (List.mem_of_getElem? (i := 126) rfl))) (mvT hZ (hw _ (List.mem_of_getElem? (i := 127) rfl))) (mvT hZ (hw _ (List.mem_of_getElem? (i := 128) rfl))) (by decide) (backOf (W := 0) (rmoc0_1 l Z a0 hw []  h0 n0 Z0 ) hZ (hw _ (List.mem_of_getElem? (i := 128) rfl)) (hw _ (List.mem_of_getElem? (i := 127) rfl)) (by decide) (by decide)) (g := (mkF m 5 #[.val (.ref a1), .val (.int (0 : Int32))] [(.int (1 : Int32)), (.int (0 : Int32))])) rfl (by rw [hml]; rfl) (argsL := [(.int (0 : Int32)), (.int (1 : Int32))]) (rest := []) (lenOf pd_1 rfl) rfl (by show 2 * 0 + _ ≤ _; exact Nat.le_of_eq rfl) (hb hby d16_5) (fun _ _ => ⟨rfl, e_1, (by decide : 0 + 0 ≤ _), (by decide : 0 + 0 ≤ _)⟩)
  obtain ⟨rfl, N_2q, e_2⟩ := hQ_2
  have N_2 := Fr.app N0 N_2q
  refine OGo.to st_2 ?_
  show OGo p e below _ (T_2.setTop (mkF m 8 #[.val (.ref a1), .val (.int (0 : Int32))] [(.int (0 : Int32))]))
  refine OGo.to (fun _ k => XS.pop X_2.here hx rfl (hb hby d16_8) rfl rfl k) ?_
  show OGo p e below _ (T_2.setTop (mkF m 9 #[.val (.ref a1), .val (.int (0 : Int32))] []))
  refine OGo.to (fun _ k => XS.aloadN X_2.here hx rfl (hb hby d16_9) rfl rfl k) ?_
  show OGo p e below _ (T_2.setTop (mkF m 10 #[.val (.ref a1), .val (.int (0 : Int32))] [(.ref a1)]))
  refine OGo.to (fun _ k => XS.iloadN X_2.here hx rfl (hb hby d16_10) rfl k) ?_
  show OGo p e below _ (T_2.setTop (mkF m 11 #[.val (.ref a1), .val (.int (0 : Int32))] [(.int (0 : Int32)), (.ref a1)]))
  obtain ⟨cq_3, kq_3, q_3a, q_3b, q_3c⟩ := isOf hZ e_2 E1
  obtain ⟨_, T_3, Lc_3, X_3, hQ_3, st_3⟩ := own_un X_2 (Q := Qed0_1 Z a1 t1 kb x0 h0 n0) (rc := 0) (rs := 0) (W := fun v B => Steps p.tables e below (T_2.setTop (mkF m 11 #[.val (.ref a1), .val (.int (0 : Int32))] [(.int (0 : Int32)), (.ref a1)])) (B.setTop { (mkF m 11 #[.val (.ref a1), .val (.int (0 : Int32))] [(.int (0 : Int32)), (.ref a1)]) with pc := 14, stack := v.toList ++ [] })) <| X_2.virtualBack hx (y := (⟨"java/util/ArrayList", "elementData", "(I)Ljava/lang/Object;"⟩ : MethodName)) (z := (⟨"java/util/ArrayList", "elementData", "(I)Ljava/lang/Object;"⟩ : MethodName)) hown (mvT hZ (hw _ (List.mem_of_getElem? (i := 133) rfl))) (mvT hZ (hw _ (List.mem_of_getElem? (i := 134) rfl))) (notFace_of_selects (args := #[]) (mvT hZ (hw _ (List.mem_of_getElem? (i := 136) rfl)))) (mvT hZ (hw _ (List.mem_of_getElem? (i := 136) rfl))) (mvT hZ (hw _ (List.mem_of_getElem? (i := 135) rfl))) (by decide) (backOf (W := 0) (rmed0_1 l Z a0 hw [] a1 t1 kb x0 h0 n0 Z0 E1 F2 F3 V1) hZ (hw _ (List.mem_of_getElem? (i := 137) rfl)) (hw _ (List.mem_of_getElem? (i := 3) rfl)) (by decide) (by decide)) q_3a q_3c (g := (mkF m 11 #[.val (.ref a1), .val (.int (0 : Int32))] [(.int (0 : Int32)), (.ref a1)])) rfl (by rw [hml]; rfl) (Steps.refl _) (argsL := [(.int (0 : Int32))]) (rest := []) (lenOf pd_6 rfl) rfl (by show 2 * 0 + _ ≤ _; exact Nat.le_of_eq rfl) (hb hby d16_11) (fun _ _ => ⟨rfl, e_2, (by decide : 0 + 0 ≤ _), (by decide : 0 + 0 ≤ _)⟩)
  obtain ⟨rfl, N_3q, e_3⟩ := hQ_3
  have N_3 := Fr.app N_2 N_3q
  refine OGo.to (fun _ k => st_3.trans k) ?_
  show OGo p e below _ (T_3.setTop (mkF m 14 #[.val (.ref a1), .val (.int (0 : Int32))] [(.ref x0)]))
  refine OGo.ret (Q := Qget0_1 Z a1 t1 kb x0 h0 n0) X_3 (some (.ref x0)) (fun h => by rw [Bd.returns] at h; cases h) Bd.notSynchronized (fun fs hr => own_retA X_3 hx Bd.returns rfl rfl (hb hby d16_14) hr) ?_ (by decide) (by decide)
  show Qget0_1 Z a1 t1 kb x0 h0 n0 _ T_3.heap _
  rw [e_3]
  exact ⟨rfl, N_3, rfl⟩
theorem ef_pc0_2 (m : MethodId) (x0 : Int32) (x1 : Int32) : entryFrame m #[(.int x0), (.int x1), .null] 3 = mkF m 0 #[.val (.int x0), .val (.int x1), .val .null] [] := by first | (simp [entryFrame, mkF, argsToLocals, Value.category]; done) | rfl
def Qpc0_2 (Z : State)  (h0 : Heap) (n0 : Nat) (v : Option Value) (h : Heap) (L : List Loc) : Prop := v = some (.int (0 : Int32)) ∧ Fr n0 L ∧ h = h0
set_option maxRecDepth 65536 in
set_option maxHeartbeats 40000000 in
theorem rmpc0_2 (l : Launch) (Z : State) (a0 : Array Value) (hw : ∀ d ∈ tables_1, d.before a0 Z = true) (ws : List Jvm.Cond)  (h0 : Heap) (n0 : Nat) (Z0 : n0 ≤ h0.size) :
    MetFree l (⟨"jdk/internal/util/Preconditions", "checkIndex", "(IILjava/util/function/BiFunction;)I"⟩ : MethodName) (head1 (Jvm.Cond.code (⟨"jdk/internal/util/Preconditions", "checkIndex", "(IILjava/util/function/BiFunction;)I"⟩ : MethodName) jdk_41_method_11_code 3 (some .int) :: ws) ({ frames := 0, cells := 0, slots := 0, locals := 0 } : Room)) (fun a U => a = #[(.int (0 : Int32)), (.int (2 : Int32)), .null] ∧ Z.Warmed39 U.vm ∧ U.heap = h0) (fun _ _ _ _ _ => True) (fun _ U o U' => ∃ v L, o = .returned v ∧ Qpc0_2 Z  h0 n0 v U'.heap L ∧ FrameEnd U o U' L ({ frames := 0, cells := 0, slots := 0, locals := 0 } : Room).cells ({ frames := 0, cells := 0, slots := 0, locals := 0 } : Room).slots) := by
  refine MetFree.of_bodySF (plainFor_of_name pn_6) hisR ?_
  intro p e s m args below meth c s₁ Bd hml0 hP hK
  obtain ⟨rfl, hZ, hh⟩ := hP
  have hx := Bd.exec
  have hby := Bd.bytes
  have hml : c.maxLocals = 3 := hml0
  have hown : s.vm.findClass "jdk/internal/util/Preconditions" = some m.cls := findClass_of_methodNamed Bd.named
  have hnm := (name_of_methodNamed Bd.named Bd.method).1
  have X0 : Stand p l e ({ frames := 0, cells := 0, slots := 0, locals := 0 } : Room) s m #[(.int (0 : Int32)), (.int (2 : Int32)), .null] below meth c s₁ [] 0 0 := Stand.of_body Bd
  have e0 : s₁.heap = h0 := by rw [← hh, Bd.state]; rfl
  have N0 := Fr.nil n0
  show OGo p e below (fun s₂ o => ∃ v L, o = .returned v ∧ Qpc0_2 Z  h0 n0 v s₂.heap L ∧ FrameEnd s o s₂ L ({ frames := 0, cells := 0, slots := 0, locals := 0 } : Room).cells ({ frames := 0, cells := 0, slots := 0, locals := 0 } : Room).slots) _
  refine OGo.to (fun _ k => castTop (ef_pc0_2 m (0 : Int32) (2 : Int32)) k) ?_
  refine OGo.to (fun _ k => XS.iloadN X0.here hx rfl (hb hby d18_0) rfl k) ?_
  show OGo p e below _ (s₁.setTop (mkF m 1 #[.val (.int (0 : Int32)), .val (.int (2 : Int32)), .val .null] [(.int (0 : Int32))]))
  have hc1__1 : ¬ ((0 : Int32) < (0 : Int32)) := by decide
  refine OGo.to (fun _ k => XS.ifNo X0.here hx rfl (hb hby d18_1) rfl ((if0 _ _).trans (flt hc1__1).1) k) ?_
  show OGo p e below _ (s₁.setTop (mkF m 4 #[.val (.int (0 : Int32)), .val (.int (2 : Int32)), .val .null] []))
  refine OGo.to (fun _ k => XS.iloadN X0.here hx rfl (hb hby d18_4) rfl k) ?_
  show OGo p e below _ (s₁.setTop (mkF m 5 #[.val (.int (0 : Int32)), .val (.int (2 : Int32)), .val .null] [(.int (0 : Int32))]))
  refine OGo.to (fun _ k => XS.iloadN X0.here hx rfl (hb hby d18_5) rfl k) ?_
  show OGo p e below _ (s₁.setTop (mkF m 6 #[.val (.int (0 : Int32)), .val (.int (2 : Int32)), .val .null] [(.int (2 : Int32)), (.int (0 : Int32))]))
  have hc6__2 : (0 : Int32) < (2 : Int32) := by decide
  refine OGo.to (fun _ k => XS.icmpYes X0.here hx rfl (pc0 := 6) (pc' := 16) rfl (hb hby d18_6) rfl (tlt hc6__2).1 (by decide) (by decide) k) ?_
  show OGo p e below _ (s₁.setTop (mkF m 16 #[.val (.int (0 : Int32)), .val (.int (2 : Int32)), .val .null] []))
  refine OGo.to (fun _ k => XS.iloadN X0.here hx rfl (hb hby d18_16) rfl k) ?_
  show OGo p e below _ (s₁.setTop (mkF m 17 #[.val (.int (0 : Int32)), .val (.int (2 : Int32)), .val .null] [(.int (0 : Int32))]))
  refine OGo.ret (Q := Qpc0_2 Z  h0 n0) X0 (some (.int (0 : Int32))) (fun h => by rw [Bd.returns] at h; cases h) Bd.notSynchronized (fun fs hr => retI X0 hx Bd.returns (hb hby d18_17) hr) ?_ (by decide) (by decide)
  show Qpc0_2 Z  h0 n0 _ s₁.heap _
  rw [e0]
  exact ⟨rfl, N0, rfl⟩
theorem ef_oc0_2 (m : MethodId) (x0 : Int32) (x1 : Int32) : entryFrame m #[(.int x0), (.int x1)] 2 = mkF m 0 #[.val (.int x0), .val (.int x1)] [] := by first | (simp [entryFrame, mkF, argsToLocals, Value.category]; done) | rfl
def Qoc0_2 (Z : State)  (h0 : Heap) (n0 : Nat) (v : Option Value) (h : Heap) (L : List Loc) : Prop := v = some (.int (0 : Int32)) ∧ Fr n0 L ∧ h = h0
set_option maxRecDepth 65536 in
set_option maxHeartbeats 40000000 in
theorem rmoc0_2 (l : Launch) (Z : State) (a0 : Array Value) (hw : ∀ d ∈ tables_1, d.before a0 Z = true) (ws : List Jvm.Cond)  (h0 : Heap) (n0 : Nat) (Z0 : n0 ≤ h0.size) :
    MetFree l (⟨"java/util/Objects", "checkIndex", "(II)I"⟩ : MethodName) (head1 (Jvm.Cond.code (⟨"java/util/Objects", "checkIndex", "(II)I"⟩ : MethodName) jdk_31_method_17_code 2 (some .int) :: ws) ({ frames := 1, cells := 0, slots := 0, locals := 14 } : Room)) (fun a U => a = #[(.int (0 : Int32)), (.int (2 : Int32))] ∧ Z.Warmed39 U.vm ∧ U.heap = h0) (fun _ _ _ _ _ => True) (fun _ U o U' => ∃ v L, o = .returned v ∧ Qoc0_2 Z  h0 n0 v U'.heap L ∧ FrameEnd U o U' L ({ frames := 1, cells := 0, slots := 0, locals := 14 } : Room).cells ({ frames := 1, cells := 0, slots := 0, locals := 14 } : Room).slots) := by
  refine MetFree.of_bodySF (plainFor_of_name pn_7) hisR ?_
  intro p e s m args below meth c s₁ Bd hml0 hP hK
  obtain ⟨rfl, hZ, hh⟩ := hP
  have hx := Bd.exec
  have hby := Bd.bytes
  have hml : c.maxLocals = 2 := hml0
  have hown : s.vm.findClass "java/util/Objects" = some m.cls := findClass_of_methodNamed Bd.named
  have hnm := (name_of_methodNamed Bd.named Bd.method).1
  have X0 : Stand p l e ({ frames := 1, cells := 0, slots := 0, locals := 14 } : Room) s m #[(.int (0 : Int32)), (.int (2 : Int32))] below meth c s₁ [] 0 0 := Stand.of_body Bd
  have e0 : s₁.heap = h0 := by rw [← hh, Bd.state]; rfl
  have N0 := Fr.nil n0
  show OGo p e below (fun s₂ o => ∃ v L, o = .returned v ∧ Qoc0_2 Z  h0 n0 v s₂.heap L ∧ FrameEnd s o s₂ L ({ frames := 1, cells := 0, slots := 0, locals := 14 } : Room).cells ({ frames := 1, cells := 0, slots := 0, locals := 14 } : Room).slots) _
  refine OGo.to (fun _ k => castTop (ef_oc0_2 m (0 : Int32) (2 : Int32)) k) ?_
  refine OGo.to (fun _ k => XS.iloadN X0.here hx rfl (hb hby d17_0) rfl k) ?_
  show OGo p e below _ (s₁.setTop (mkF m 1 #[.val (.int (0 : Int32)), .val (.int (2 : Int32))] [(.int (0 : Int32))]))
  refine OGo.to (fun _ k => XS.iloadN X0.here hx rfl (hb hby d17_1) rfl k) ?_
  show OGo p e below _ (s₁.setTop (mkF m 2 #[.val (.int (0 : Int32)), .val (.int (2 : Int32))] [(.int (2 : Int32)), (.int (0 : Int32))]))
  refine OGo.to (fun _ k => XS.aconstNull X0.here hx rfl (hb hby d17_2) k) ?_
  show OGo p e below _ (s₁.setTop (mkF m 3 #[.val (.int (0 : Int32)), .val (.int (2 : Int32))] [.null, (.int (2 : Int32)), (.int (0 : Int32))]))
  obtain ⟨_, T_1, Lc_1, X_1, hQ_1, st_1⟩ := own_un X0 (Q := Qpc0_2 Z  h0 n0) (rc := 0) (rs := 0) (W := fun v B => ∀ target, Steps p.tables e below (B.setTop { (mkF m 3 #[.val (.int (0 : Int32)), .val (.int (2 : Int32))] [.null, (.int (2 : Int32)), (.int (0 : Int32))]) with pc := 6, stack := v.toList ++ [] }) target → Steps p.tables e below (s₁.setTop (mkF m 3 #[.val (.int (0 : Int32)), .val (.int (2 : Int32))] [.null, (.int (2 : Int32)), (.int (0 : Int32))])) target) <| Jvm.LawKit.callS X0 hx (y := (⟨"jdk/internal/util/Preconditions", "checkIndex", "(IILjava/util/function/BiFunction;)I"⟩ : MethodName)) hown (mvT hZ (hw _ (List.mem_of_getElem? (i := 129) rfl))) (mvT hZ (hw _ (List.mem_of_getElem? (i := 130) rfl))) (mvT hZ (hw _ (List.mem_of_getElem? (i := 131) rfl))) (mvT hZ (hw _ (List.mem_of_getElem? (i := 132) rfl))) (by decide) (backOf (W := 0) (rmpc0_2 l Z a0 hw []  h0 n0 Z0 ) hZ (hw _ (List.mem_of_getElem? (i := 132) rfl)) (hw _ (List.mem_of_getElem? (i := 131) rfl)) (by decide) (by decide)) (g := (mkF m 3 #[.val (.int (0 : Int32)), .val (.int (2 : Int32))] [.null, (.int (2 : Int32)), (.int (0 : Int32))])) rfl (by rw [hml]; rfl) (argsL := [(.int (0 : Int32)), (.int (2 : Int32)), .null]) (rest := []) (lenOf pd_5 rfl) rfl (by show 2 * 0 + _ ≤ _; exact Nat.le_of_eq rfl) (hb hby d17_3) (fun _ _ => ⟨rfl, e0, (by decide : 0 + 0 ≤ _), (by decide : 0 + 0 ≤ _)⟩)
  obtain ⟨rfl, N_1q, e_1⟩ := hQ_1
  have N_1 := Fr.app N0 N_1q
  refine OGo.to st_1 ?_
  show OGo p e below _ (T_1.setTop (mkF m 6 #[.val (.int (0 : Int32)), .val (.int (2 : Int32))] [(.int (0 : Int32))]))
  refine OGo.ret (Q := Qoc0_2 Z  h0 n0) X_1 (some (.int (0 : Int32))) (fun h => by rw [Bd.returns] at h; cases h) Bd.notSynchronized (fun fs hr => retI X_1 hx Bd.returns (hb hby d17_6) hr) ?_ (by decide) (by decide)
  show Qoc0_2 Z  h0 n0 _ T_1.heap _
  rw [e_1]
  exact ⟨rfl, N_1, rfl⟩
theorem ef_ed0_2 (m : MethodId) (x0 : Addr) (x1 : Int32) : entryFrame m #[(.ref x0), (.int x1)] 2 = mkF m 0 #[.val (.ref x0), .val (.int x1)] [] := by first | (simp [entryFrame, mkF, argsToLocals, Value.category]; done) | rfl
def Qed0_2 (Z : State) (a1 : Addr) (t1 : Addr) (kb : ClassId) (x0 : Addr) (x1 : Addr) (h0 : Heap) (n0 : Nat) (v : Option Value) (h : Heap) (L : List Loc) : Prop := v = some (.ref x0) ∧ Fr n0 L ∧ h = h0
set_option maxRecDepth 65536 in
set_option maxHeartbeats 40000000 in
theorem rmed0_2 (l : Launch) (Z : State) (a0 : Array Value) (hw : ∀ d ∈ tables_1, d.before a0 Z = true) (ws : List Jvm.Cond) (a1 : Addr) (t1 : Addr) (kb : ClassId) (x0 : Addr) (x1 : Addr) (h0 : Heap) (n0 : Nat) (Z0 : n0 ≤ h0.size) (E1 : Exa Z h0 a1 "java/util/ArrayList") (F2 : Fld Z h0 a1 "java/util/ArrayList" "size" "I" (.int (2 : Int32))) (F3 : Fld Z h0 a1 "java/util/ArrayList" "elementData" "[Ljava/lang/Object;" (.ref t1)) (V1 : Arv Z h0 t1 kb (.object "java/lang/Object") (10 : Int32) [(.ref x0), (.ref x1), .null, .null, .null, .null, .null, .null, .null, .null] .null) :
    MetFree l (⟨"java/util/ArrayList", "elementData", "(I)Ljava/lang/Object;"⟩ : MethodName) (head1 (Jvm.Cond.code (⟨"java/util/ArrayList", "elementData", "(I)Ljava/lang/Object;"⟩ : MethodName) jdk_38_method_18_code 2 (some (.object "java/lang/Object")) :: ws) ({ frames := 0, cells := 0, slots := 0, locals := 0 } : Room)) (fun a U => a = #[(.ref a1), (.int (0 : Int32))] ∧ Z.Warmed39 U.vm ∧ U.heap = h0) (fun _ _ _ _ _ => True) (fun _ U o U' => ∃ v L, o = .returned v ∧ Qed0_2 Z a1 t1 kb x0 x1 h0 n0 v U'.heap L ∧ FrameEnd U o U' L ({ frames := 0, cells := 0, slots := 0, locals := 0 } : Room).cells ({ frames := 0, cells := 0, slots := 0, locals := 0 } : Room).slots) := by
  refine MetFree.of_bodySF (plainFor_of_name pn_3) hisR ?_
  intro p e s m args below meth c s₁ Bd hml0 hP hK
  obtain ⟨rfl, hZ, hh⟩ := hP
  have hx := Bd.exec
  have hby := Bd.bytes
  have hml : c.maxLocals = 2 := hml0
  have hown : s.vm.findClass "java/util/ArrayList" = some m.cls := findClass_of_methodNamed Bd.named
  have hnm := (name_of_methodNamed Bd.named Bd.method).1
  have X0 : Stand p l e ({ frames := 0, cells := 0, slots := 0, locals := 0 } : Room) s m #[(.ref a1), (.int (0 : Int32))] below meth c s₁ [] 0 0 := Stand.of_body Bd
  have e0 : s₁.heap = h0 := by rw [← hh, Bd.state]; rfl
  have N0 := Fr.nil n0
  show OGo p e below (fun s₂ o => ∃ v L, o = .returned v ∧ Qed0_2 Z a1 t1 kb x0 x1 h0 n0 v s₂.heap L ∧ FrameEnd s o s₂ L ({ frames := 0, cells := 0, slots := 0, locals := 0 } : Room).cells ({ frames := 0, cells := 0, slots := 0, locals := 0 } : Room).slots) _
  refine OGo.to (fun _ k => castTop (ef_ed0_2 m a1 (0 : Int32)) k) ?_
  refine OGo.to (fun _ k => XS.aloadN X0.here hx rfl (hb hby d19_0) rfl rfl k) ?_
  show OGo p e below _ (s₁.setTop (mkF m 1 #[.val (.ref a1), .val (.int (0 : Int32))] [(.ref a1)]))
  obtain ⟨T_1, X_1, e_1, st_1⟩ := getF X0 hx hZ hown (host := "") (Or.inl (hw _ (List.mem_of_getElem? (i := 25) rfl))) Via.refl e0 F3 (g := (mkF m 1 #[.val (.ref a1), .val (.int (0 : Int32))] [(.ref a1)])) rfl rfl (hb hby d19_1)
  refine OGo.to st_1 ?_
  show OGo p e below _ (T_1.setTop (mkF m 4 #[.val (.ref a1), .val (.int (0 : Int32))] [(.ref t1)]))
  refine OGo.to (fun _ k => XS.iloadN X_1.here hx rfl (hb hby d19_4) rfl k) ?_
  show OGo p e below _ (T_1.setTop (mkF m 5 #[.val (.ref a1), .val (.int (0 : Int32))] [(.int (0 : Int32)), (.ref t1)]))
  have Vq_2 := V1
  obtain ⟨cl_2, Ar_2, q_2, S_2, M_2, Hs_2, G_2⟩ := Vq_2
  have hin_3 : ¬ ((0 : Int32) < 0 ∨ cl_2.slots.size ≤ ((0 : Int32)).toNatClampNeg) := inb_of S_2 ⟨by decide, by decide⟩
  have hat_3 : cl_2.slots[((0 : Int32)).toNatClampNeg]? = some (.ref x0) := Hs_2.at hin_3 (rfl)
  refine OGo.to (fun _ k => X_1.aaload hx (j := (0 : Int32)) (v := (.ref x0)) (by rw [e_1]; exact Ar_2.1) (State.isArrayOf_alike hZ.alike Ar_2.2.1) rfl Ar_2.2.2 hin_3 hat_3 (g := (mkF m 5 #[.val (.ref a1), .val (.int (0 : Int32))] [(.int (0 : Int32)), (.ref t1)])) rfl rfl (hb hby d19_5) _ k) ?_
  show OGo p e below _ (T_1.setTop (mkF m 6 #[.val (.ref a1), .val (.int (0 : Int32))] [(.ref x0)]))
  refine OGo.ret (Q := Qed0_2 Z a1 t1 kb x0 x1 h0 n0) X_1 (some (.ref x0)) (fun h => by rw [Bd.returns] at h; cases h) Bd.notSynchronized (fun fs hr => own_retA X_1 hx Bd.returns rfl rfl (hb hby d19_6) hr) ?_ (by decide) (by decide)
  show Qed0_2 Z a1 t1 kb x0 x1 h0 n0 _ T_1.heap _
  rw [e_1]
  exact ⟨rfl, N0, rfl⟩
theorem ef_get0_2 (m : MethodId) (x0 : Addr) (x1 : Int32) : entryFrame m #[(.ref x0), (.int x1)] 2 = mkF m 0 #[.val (.ref x0), .val (.int x1)] [] := by first | (simp [entryFrame, mkF, argsToLocals, Value.category]; done) | rfl
def Qget0_2 (Z : State) (a1 : Addr) (t1 : Addr) (kb : ClassId) (x0 : Addr) (x1 : Addr) (h0 : Heap) (n0 : Nat) (v : Option Value) (h : Heap) (L : List Loc) : Prop := v = some (.ref x0) ∧ Fr n0 L ∧ h = h0
set_option maxRecDepth 65536 in
set_option maxHeartbeats 40000000 in
theorem rmget0_2 (l : Launch) (Z : State) (a0 : Array Value) (hw : ∀ d ∈ tables_1, d.before a0 Z = true) (ws : List Jvm.Cond) (a1 : Addr) (t1 : Addr) (kb : ClassId) (x0 : Addr) (x1 : Addr) (h0 : Heap) (n0 : Nat) (Z0 : n0 ≤ h0.size) (E1 : Exa Z h0 a1 "java/util/ArrayList") (F2 : Fld Z h0 a1 "java/util/ArrayList" "size" "I" (.int (2 : Int32))) (F3 : Fld Z h0 a1 "java/util/ArrayList" "elementData" "[Ljava/lang/Object;" (.ref t1)) (V1 : Arv Z h0 t1 kb (.object "java/lang/Object") (10 : Int32) [(.ref x0), (.ref x1), .null, .null, .null, .null, .null, .null, .null, .null] .null) :
    MetFree l (⟨"java/util/ArrayList", "get", "(I)Ljava/lang/Object;"⟩ : MethodName) (head1 (Jvm.Cond.code (⟨"java/util/ArrayList", "get", "(I)Ljava/lang/Object;"⟩ : MethodName) jdk_38_method_20_code 2 (some (.object "java/lang/Object")) :: ws) ({ frames := 2, cells := 0, slots := 0, locals := 27 } : Room)) (fun a U => a = #[(.ref a1), (.int (0 : Int32))] ∧ Z.Warmed39 U.vm ∧ U.heap = h0) (fun _ _ _ _ _ => True) (fun _ U o U' => ∃ v L, o = .returned v ∧ Qget0_2 Z a1 t1 kb x0 x1 h0 n0 v U'.heap L ∧ FrameEnd U o U' L ({ frames := 2, cells := 0, slots := 0, locals := 27 } : Room).cells ({ frames := 2, cells := 0, slots := 0, locals := 27 } : Room).slots) := by
  refine MetFree.of_bodySF (plainFor_of_name pn_3) hisR ?_
  intro p e s m args below meth c s₁ Bd hml0 hP hK
  obtain ⟨rfl, hZ, hh⟩ := hP
  have hx := Bd.exec
  have hby := Bd.bytes
  have hml : c.maxLocals = 2 := hml0
  have hown : s.vm.findClass "java/util/ArrayList" = some m.cls := findClass_of_methodNamed Bd.named
  have hnm := (name_of_methodNamed Bd.named Bd.method).1
  have X0 : Stand p l e ({ frames := 2, cells := 0, slots := 0, locals := 27 } : Room) s m #[(.ref a1), (.int (0 : Int32))] below meth c s₁ [] 0 0 := Stand.of_body Bd
  have e0 : s₁.heap = h0 := by rw [← hh, Bd.state]; rfl
  have N0 := Fr.nil n0
  show OGo p e below (fun s₂ o => ∃ v L, o = .returned v ∧ Qget0_2 Z a1 t1 kb x0 x1 h0 n0 v s₂.heap L ∧ FrameEnd s o s₂ L ({ frames := 2, cells := 0, slots := 0, locals := 27 } : Room).cells ({ frames := 2, cells := 0, slots := 0, locals := 27 } : Room).slots) _
  refine OGo.to (fun _ k => castTop (ef_get0_2 m a1 (0 : Int32)) k) ?_
  refine OGo.to (fun _ k => XS.iloadN X0.here hx rfl (hb hby d16_0) rfl k) ?_
  show OGo p e below _ (s₁.setTop (mkF m 1 #[.val (.ref a1), .val (.int (0 : Int32))] [(.int (0 : Int32))]))
  refine OGo.to (fun _ k => XS.aloadN X0.here hx rfl (hb hby d16_1) rfl rfl k) ?_
  show OGo p e below _ (s₁.setTop (mkF m 2 #[.val (.ref a1), .val (.int (0 : Int32))] [(.ref a1), (.int (0 : Int32))]))
  obtain ⟨T_1, X_1, e_1, st_1⟩ := getF X0 hx hZ hown (host := "") (Or.inl (hw _ (List.mem_of_getElem? (i := 50) rfl))) Via.refl e0 F2 (g := (mkF m 2 #[.val (.ref a1), .val (.int (0 : Int32))] [(.ref a1), (.int (0 : Int32))])) rfl rfl (hb hby d16_2)
  refine OGo.to st_1 ?_
  show OGo p e below _ (T_1.setTop (mkF m 5 #[.val (.ref a1), .val (.int (0 : Int32))] [(.int (2 : Int32)), (.int (0 : Int32))]))
  obtain ⟨_, T_2, Lc_2, X_2, hQ_2, st_2⟩ := own_un X_1 (Q := Qoc0_2 Z  h0 n0) (rc := 0) (rs := 0) (W := fun v B => ∀ target, Steps p.tables e below (B.setTop { (mkF m 5 #[.val (.ref a1), .val (.int (0 : Int32))] [(.int (2 : Int32)), (.int (0 : Int32))]) with pc := 8, stack := v.toList ++ [] }) target → Steps p.tables e below (T_1.setTop (mkF m 5 #[.val (.ref a1), .val (.int (0 : Int32))] [(.int (2 : Int32)), (.int (0 : Int32))])) target) <| Jvm.LawKit.callS X_1 hx (y := (⟨"java/util/Objects", "checkIndex", "(II)I"⟩ : MethodName)) hown (mvT hZ (hw _ (List.mem_of_getElem? (i := 125) rfl))) (mvT hZ (hw _ (List.mem_of_getElem? (i := 126) rfl))) (mvT hZ (hw _ (List.mem_of_getElem? (i := 127) rfl))) (mvT hZ (hw _ (List.mem_of_getElem? (i := 128) rfl))) (by decide) (backOf (W := 0) (rmoc0_2 l Z a0 hw []  h0 n0 Z0 ) hZ (hw _ (List.mem_of_getElem? (i := 128) rfl)) (hw _ (List.mem_of_getElem? (i := 127) rfl)) (by decide) (by decide)) (g := (mkF m 5 #[.val (.ref a1), .val (.int (0 : Int32))] [(.int (2 : Int32)), (.int (0 : Int32))])) rfl (by rw [hml]; rfl) (argsL := [(.int (0 : Int32)), (.int (2 : Int32))]) (rest := []) (lenOf pd_1 rfl) rfl (by show 2 * 0 + _ ≤ _; exact Nat.le_of_eq rfl) (hb hby d16_5) (fun _ _ => ⟨rfl, e_1, (by decide : 0 + 0 ≤ _), (by decide : 0 + 0 ≤ _)⟩)
  obtain ⟨rfl, N_2q, e_2⟩ := hQ_2
  have N_2 := Fr.app N0 N_2q
  refine OGo.to st_2 ?_
  show OGo p e below _ (T_2.setTop (mkF m 8 #[.val (.ref a1), .val (.int (0 : Int32))] [(.int (0 : Int32))]))
  refine OGo.to (fun _ k => XS.pop X_2.here hx rfl (hb hby d16_8) rfl rfl k) ?_
  show OGo p e below _ (T_2.setTop (mkF m 9 #[.val (.ref a1), .val (.int (0 : Int32))] []))
  refine OGo.to (fun _ k => XS.aloadN X_2.here hx rfl (hb hby d16_9) rfl rfl k) ?_
  show OGo p e below _ (T_2.setTop (mkF m 10 #[.val (.ref a1), .val (.int (0 : Int32))] [(.ref a1)]))
  refine OGo.to (fun _ k => XS.iloadN X_2.here hx rfl (hb hby d16_10) rfl k) ?_
  show OGo p e below _ (T_2.setTop (mkF m 11 #[.val (.ref a1), .val (.int (0 : Int32))] [(.int (0 : Int32)), (.ref a1)]))
  obtain ⟨cq_3, kq_3, q_3a, q_3b, q_3c⟩ := isOf hZ e_2 E1
  obtain ⟨_, T_3, Lc_3, X_3, hQ_3, st_3⟩ := own_un X_2 (Q := Qed0_2 Z a1 t1 kb x0 x1 h0 n0) (rc := 0) (rs := 0) (W := fun v B => Steps p.tables e below (T_2.setTop (mkF m 11 #[.val (.ref a1), .val (.int (0 : Int32))] [(.int (0 : Int32)), (.ref a1)])) (B.setTop { (mkF m 11 #[.val (.ref a1), .val (.int (0 : Int32))] [(.int (0 : Int32)), (.ref a1)]) with pc := 14, stack := v.toList ++ [] })) <| X_2.virtualBack hx (y := (⟨"java/util/ArrayList", "elementData", "(I)Ljava/lang/Object;"⟩ : MethodName)) (z := (⟨"java/util/ArrayList", "elementData", "(I)Ljava/lang/Object;"⟩ : MethodName)) hown (mvT hZ (hw _ (List.mem_of_getElem? (i := 133) rfl))) (mvT hZ (hw _ (List.mem_of_getElem? (i := 134) rfl))) (notFace_of_selects (args := #[]) (mvT hZ (hw _ (List.mem_of_getElem? (i := 136) rfl)))) (mvT hZ (hw _ (List.mem_of_getElem? (i := 136) rfl))) (mvT hZ (hw _ (List.mem_of_getElem? (i := 135) rfl))) (by decide) (backOf (W := 0) (rmed0_2 l Z a0 hw [] a1 t1 kb x0 x1 h0 n0 Z0 E1 F2 F3 V1) hZ (hw _ (List.mem_of_getElem? (i := 137) rfl)) (hw _ (List.mem_of_getElem? (i := 3) rfl)) (by decide) (by decide)) q_3a q_3c (g := (mkF m 11 #[.val (.ref a1), .val (.int (0 : Int32))] [(.int (0 : Int32)), (.ref a1)])) rfl (by rw [hml]; rfl) (Steps.refl _) (argsL := [(.int (0 : Int32))]) (rest := []) (lenOf pd_6 rfl) rfl (by show 2 * 0 + _ ≤ _; exact Nat.le_of_eq rfl) (hb hby d16_11) (fun _ _ => ⟨rfl, e_2, (by decide : 0 + 0 ≤ _), (by decide : 0 + 0 ≤ _)⟩)
  obtain ⟨rfl, N_3q, e_3⟩ := hQ_3
  have N_3 := Fr.app N_2 N_3q
  refine OGo.to (fun _ k => st_3.trans k) ?_
  show OGo p e below _ (T_3.setTop (mkF m 14 #[.val (.ref a1), .val (.int (0 : Int32))] [(.ref x0)]))
  refine OGo.ret (Q := Qget0_2 Z a1 t1 kb x0 x1 h0 n0) X_3 (some (.ref x0)) (fun h => by rw [Bd.returns] at h; cases h) Bd.notSynchronized (fun fs hr => own_retA X_3 hx Bd.returns rfl rfl (hb hby d16_14) hr) ?_ (by decide) (by decide)
  show Qget0_2 Z a1 t1 kb x0 x1 h0 n0 _ T_3.heap _
  rw [e_3]
  exact ⟨rfl, N_3, rfl⟩
theorem ef_pc1_2 (m : MethodId) (x0 : Int32) (x1 : Int32) : entryFrame m #[(.int x0), (.int x1), .null] 3 = mkF m 0 #[.val (.int x0), .val (.int x1), .val .null] [] := by first | (simp [entryFrame, mkF, argsToLocals, Value.category]; done) | rfl
def Qpc1_2 (Z : State)  (h0 : Heap) (n0 : Nat) (v : Option Value) (h : Heap) (L : List Loc) : Prop := v = some (.int (1 : Int32)) ∧ Fr n0 L ∧ h = h0
set_option maxRecDepth 65536 in
set_option maxHeartbeats 40000000 in
theorem rmpc1_2 (l : Launch) (Z : State) (a0 : Array Value) (hw : ∀ d ∈ tables_1, d.before a0 Z = true) (ws : List Jvm.Cond)  (h0 : Heap) (n0 : Nat) (Z0 : n0 ≤ h0.size) :
    MetFree l (⟨"jdk/internal/util/Preconditions", "checkIndex", "(IILjava/util/function/BiFunction;)I"⟩ : MethodName) (head1 (Jvm.Cond.code (⟨"jdk/internal/util/Preconditions", "checkIndex", "(IILjava/util/function/BiFunction;)I"⟩ : MethodName) jdk_41_method_11_code 3 (some .int) :: ws) ({ frames := 0, cells := 0, slots := 0, locals := 0 } : Room)) (fun a U => a = #[(.int (1 : Int32)), (.int (2 : Int32)), .null] ∧ Z.Warmed39 U.vm ∧ U.heap = h0) (fun _ _ _ _ _ => True) (fun _ U o U' => ∃ v L, o = .returned v ∧ Qpc1_2 Z  h0 n0 v U'.heap L ∧ FrameEnd U o U' L ({ frames := 0, cells := 0, slots := 0, locals := 0 } : Room).cells ({ frames := 0, cells := 0, slots := 0, locals := 0 } : Room).slots) := by
  refine MetFree.of_bodySF (plainFor_of_name pn_6) hisR ?_
  intro p e s m args below meth c s₁ Bd hml0 hP hK
  obtain ⟨rfl, hZ, hh⟩ := hP
  have hx := Bd.exec
  have hby := Bd.bytes
  have hml : c.maxLocals = 3 := hml0
  have hown : s.vm.findClass "jdk/internal/util/Preconditions" = some m.cls := findClass_of_methodNamed Bd.named
  have hnm := (name_of_methodNamed Bd.named Bd.method).1
  have X0 : Stand p l e ({ frames := 0, cells := 0, slots := 0, locals := 0 } : Room) s m #[(.int (1 : Int32)), (.int (2 : Int32)), .null] below meth c s₁ [] 0 0 := Stand.of_body Bd
  have e0 : s₁.heap = h0 := by rw [← hh, Bd.state]; rfl
  have N0 := Fr.nil n0
  show OGo p e below (fun s₂ o => ∃ v L, o = .returned v ∧ Qpc1_2 Z  h0 n0 v s₂.heap L ∧ FrameEnd s o s₂ L ({ frames := 0, cells := 0, slots := 0, locals := 0 } : Room).cells ({ frames := 0, cells := 0, slots := 0, locals := 0 } : Room).slots) _
  refine OGo.to (fun _ k => castTop (ef_pc1_2 m (1 : Int32) (2 : Int32)) k) ?_
  refine OGo.to (fun _ k => XS.iloadN X0.here hx rfl (hb hby d18_0) rfl k) ?_
  show OGo p e below _ (s₁.setTop (mkF m 1 #[.val (.int (1 : Int32)), .val (.int (2 : Int32)), .val .null] [(.int (1 : Int32))]))
  have hc1__1 : ¬ ((1 : Int32) < (0 : Int32)) := by decide
  refine OGo.to (fun _ k => XS.ifNo X0.here hx rfl (hb hby d18_1) rfl ((if0 _ _).trans (flt hc1__1).1) k) ?_
  show OGo p e below _ (s₁.setTop (mkF m 4 #[.val (.int (1 : Int32)), .val (.int (2 : Int32)), .val .null] []))
  refine OGo.to (fun _ k => XS.iloadN X0.here hx rfl (hb hby d18_4) rfl k) ?_
  show OGo p e below _ (s₁.setTop (mkF m 5 #[.val (.int (1 : Int32)), .val (.int (2 : Int32)), .val .null] [(.int (1 : Int32))]))
  refine OGo.to (fun _ k => XS.iloadN X0.here hx rfl (hb hby d18_5) rfl k) ?_
  show OGo p e below _ (s₁.setTop (mkF m 6 #[.val (.int (1 : Int32)), .val (.int (2 : Int32)), .val .null] [(.int (2 : Int32)), (.int (1 : Int32))]))
  have hc6__2 : (1 : Int32) < (2 : Int32) := by decide
  refine OGo.to (fun _ k => XS.icmpYes X0.here hx rfl (pc0 := 6) (pc' := 16) rfl (hb hby d18_6) rfl (tlt hc6__2).1 (by decide) (by decide) k) ?_
  show OGo p e below _ (s₁.setTop (mkF m 16 #[.val (.int (1 : Int32)), .val (.int (2 : Int32)), .val .null] []))
  refine OGo.to (fun _ k => XS.iloadN X0.here hx rfl (hb hby d18_16) rfl k) ?_
  show OGo p e below _ (s₁.setTop (mkF m 17 #[.val (.int (1 : Int32)), .val (.int (2 : Int32)), .val .null] [(.int (1 : Int32))]))
  refine OGo.ret (Q := Qpc1_2 Z  h0 n0) X0 (some (.int (1 : Int32))) (fun h => by rw [Bd.returns] at h; cases h) Bd.notSynchronized (fun fs hr => retI X0 hx Bd.returns (hb hby d18_17) hr) ?_ (by decide) (by decide)
  show Qpc1_2 Z  h0 n0 _ s₁.heap _
  rw [e0]
  exact ⟨rfl, N0, rfl⟩
theorem ef_oc1_2 (m : MethodId) (x0 : Int32) (x1 : Int32) : entryFrame m #[(.int x0), (.int x1)] 2 = mkF m 0 #[.val (.int x0), .val (.int x1)] [] := by first | (simp [entryFrame, mkF, argsToLocals, Value.category]; done) | rfl
def Qoc1_2 (Z : State)  (h0 : Heap) (n0 : Nat) (v : Option Value) (h : Heap) (L : List Loc) : Prop := v = some (.int (1 : Int32)) ∧ Fr n0 L ∧ h = h0
set_option maxRecDepth 65536 in
set_option maxHeartbeats 40000000 in
theorem rmoc1_2 (l : Launch) (Z : State) (a0 : Array Value) (hw : ∀ d ∈ tables_1, d.before a0 Z = true) (ws : List Jvm.Cond)  (h0 : Heap) (n0 : Nat) (Z0 : n0 ≤ h0.size) :
    MetFree l (⟨"java/util/Objects", "checkIndex", "(II)I"⟩ : MethodName) (head1 (Jvm.Cond.code (⟨"java/util/Objects", "checkIndex", "(II)I"⟩ : MethodName) jdk_31_method_17_code 2 (some .int) :: ws) ({ frames := 1, cells := 0, slots := 0, locals := 14 } : Room)) (fun a U => a = #[(.int (1 : Int32)), (.int (2 : Int32))] ∧ Z.Warmed39 U.vm ∧ U.heap = h0) (fun _ _ _ _ _ => True) (fun _ U o U' => ∃ v L, o = .returned v ∧ Qoc1_2 Z  h0 n0 v U'.heap L ∧ FrameEnd U o U' L ({ frames := 1, cells := 0, slots := 0, locals := 14 } : Room).cells ({ frames := 1, cells := 0, slots := 0, locals := 14 } : Room).slots) := by
  refine MetFree.of_bodySF (plainFor_of_name pn_7) hisR ?_
  intro p e s m args below meth c s₁ Bd hml0 hP hK
  obtain ⟨rfl, hZ, hh⟩ := hP
  have hx := Bd.exec
  have hby := Bd.bytes
  have hml : c.maxLocals = 2 := hml0
  have hown : s.vm.findClass "java/util/Objects" = some m.cls := findClass_of_methodNamed Bd.named
  have hnm := (name_of_methodNamed Bd.named Bd.method).1
  have X0 : Stand p l e ({ frames := 1, cells := 0, slots := 0, locals := 14 } : Room) s m #[(.int (1 : Int32)), (.int (2 : Int32))] below meth c s₁ [] 0 0 := Stand.of_body Bd
  have e0 : s₁.heap = h0 := by rw [← hh, Bd.state]; rfl
  have N0 := Fr.nil n0
  show OGo p e below (fun s₂ o => ∃ v L, o = .returned v ∧ Qoc1_2 Z  h0 n0 v s₂.heap L ∧ FrameEnd s o s₂ L ({ frames := 1, cells := 0, slots := 0, locals := 14 } : Room).cells ({ frames := 1, cells := 0, slots := 0, locals := 14 } : Room).slots) _
  refine OGo.to (fun _ k => castTop (ef_oc1_2 m (1 : Int32) (2 : Int32)) k) ?_
  refine OGo.to (fun _ k => XS.iloadN X0.here hx rfl (hb hby d17_0) rfl k) ?_
  show OGo p e below _ (s₁.setTop (mkF m 1 #[.val (.int (1 : Int32)), .val (.int (2 : Int32))] [(.int (1 : Int32))]))
  refine OGo.to (fun _ k => XS.iloadN X0.here hx rfl (hb hby d17_1) rfl k) ?_
  show OGo p e below _ (s₁.setTop (mkF m 2 #[.val (.int (1 : Int32)), .val (.int (2 : Int32))] [(.int (2 : Int32)), (.int (1 : Int32))]))
  refine OGo.to (fun _ k => XS.aconstNull X0.here hx rfl (hb hby d17_2) k) ?_
  show OGo p e below _ (s₁.setTop (mkF m 3 #[.val (.int (1 : Int32)), .val (.int (2 : Int32))] [.null, (.int (2 : Int32)), (.int (1 : Int32))]))
  obtain ⟨_, T_1, Lc_1, X_1, hQ_1, st_1⟩ := own_un X0 (Q := Qpc1_2 Z  h0 n0) (rc := 0) (rs := 0) (W := fun v B => ∀ target, Steps p.tables e below (B.setTop { (mkF m 3 #[.val (.int (1 : Int32)), .val (.int (2 : Int32))] [.null, (.int (2 : Int32)), (.int (1 : Int32))]) with pc := 6, stack := v.toList ++ [] }) target → Steps p.tables e below (s₁.setTop (mkF m 3 #[.val (.int (1 : Int32)), .val (.int (2 : Int32))] [.null, (.int (2 : Int32)), (.int (1 : Int32))])) target) <| Jvm.LawKit.callS X0 hx (y := (⟨"jdk/internal/util/Preconditions", "checkIndex", "(IILjava/util/function/BiFunction;)I"⟩ : MethodName)) hown (mvT hZ (hw _ (List.mem_of_getElem? (i := 129) rfl))) (mvT hZ (hw _ (List.mem_of_getElem? (i := 130) rfl))) (mvT hZ (hw _ (List.mem_of_getElem? (i := 131) rfl))) (mvT hZ (hw _ (List.mem_of_getElem? (i := 132) rfl))) (by decide) (backOf (W := 0) (rmpc1_2 l Z a0 hw []  h0 n0 Z0 ) hZ (hw _ (List.mem_of_getElem? (i := 132) rfl)) (hw _ (List.mem_of_getElem? (i := 131) rfl)) (by decide) (by decide)) (g := (mkF m 3 #[.val (.int (1 : Int32)), .val (.int (2 : Int32))] [.null, (.int (2 : Int32)), (.int (1 : Int32))])) rfl (by rw [hml]; rfl) (argsL := [(.int (1 : Int32)), (.int (2 : Int32)), .null]) (rest := []) (lenOf pd_5 rfl) rfl (by show 2 * 0 + _ ≤ _; exact Nat.le_of_eq rfl) (hb hby d17_3) (fun _ _ => ⟨rfl, e0, (by decide : 0 + 0 ≤ _), (by decide : 0 + 0 ≤ _)⟩)
  obtain ⟨rfl, N_1q, e_1⟩ := hQ_1
  have N_1 := Fr.app N0 N_1q
  refine OGo.to st_1 ?_
  show OGo p e below _ (T_1.setTop (mkF m 6 #[.val (.int (1 : Int32)), .val (.int (2 : Int32))] [(.int (1 : Int32))]))
  refine OGo.ret (Q := Qoc1_2 Z  h0 n0) X_1 (some (.int (1 : Int32))) (fun h => by rw [Bd.returns] at h; cases h) Bd.notSynchronized (fun fs hr => retI X_1 hx Bd.returns (hb hby d17_6) hr) ?_ (by decide) (by decide)
  show Qoc1_2 Z  h0 n0 _ T_1.heap _
  rw [e_1]
  exact ⟨rfl, N_1, rfl⟩
theorem ef_ed1_2 (m : MethodId) (x0 : Addr) (x1 : Int32) : entryFrame m #[(.ref x0), (.int x1)] 2 = mkF m 0 #[.val (.ref x0), .val (.int x1)] [] := by first | (simp [entryFrame, mkF, argsToLocals, Value.category]; done) | rfl
def Qed1_2 (Z : State) (a1 : Addr) (t1 : Addr) (kb : ClassId) (x0 : Addr) (x1 : Addr) (h0 : Heap) (n0 : Nat) (v : Option Value) (h : Heap) (L : List Loc) : Prop := v = some (.ref x1) ∧ Fr n0 L ∧ h = h0
set_option maxRecDepth 65536 in
set_option maxHeartbeats 40000000 in
theorem rmed1_2 (l : Launch) (Z : State) (a0 : Array Value) (hw : ∀ d ∈ tables_1, d.before a0 Z = true) (ws : List Jvm.Cond) (a1 : Addr) (t1 : Addr) (kb : ClassId) (x0 : Addr) (x1 : Addr) (h0 : Heap) (n0 : Nat) (Z0 : n0 ≤ h0.size) (E1 : Exa Z h0 a1 "java/util/ArrayList") (F2 : Fld Z h0 a1 "java/util/ArrayList" "size" "I" (.int (2 : Int32))) (F3 : Fld Z h0 a1 "java/util/ArrayList" "elementData" "[Ljava/lang/Object;" (.ref t1)) (V1 : Arv Z h0 t1 kb (.object "java/lang/Object") (10 : Int32) [(.ref x0), (.ref x1), .null, .null, .null, .null, .null, .null, .null, .null] .null) :
    MetFree l (⟨"java/util/ArrayList", "elementData", "(I)Ljava/lang/Object;"⟩ : MethodName) (head1 (Jvm.Cond.code (⟨"java/util/ArrayList", "elementData", "(I)Ljava/lang/Object;"⟩ : MethodName) jdk_38_method_18_code 2 (some (.object "java/lang/Object")) :: ws) ({ frames := 0, cells := 0, slots := 0, locals := 0 } : Room)) (fun a U => a = #[(.ref a1), (.int (1 : Int32))] ∧ Z.Warmed39 U.vm ∧ U.heap = h0) (fun _ _ _ _ _ => True) (fun _ U o U' => ∃ v L, o = .returned v ∧ Qed1_2 Z a1 t1 kb x0 x1 h0 n0 v U'.heap L ∧ FrameEnd U o U' L ({ frames := 0, cells := 0, slots := 0, locals := 0 } : Room).cells ({ frames := 0, cells := 0, slots := 0, locals := 0 } : Room).slots) := by
  refine MetFree.of_bodySF (plainFor_of_name pn_3) hisR ?_
  intro p e s m args below meth c s₁ Bd hml0 hP hK
  obtain ⟨rfl, hZ, hh⟩ := hP
  have hx := Bd.exec
  have hby := Bd.bytes
  have hml : c.maxLocals = 2 := hml0
  have hown : s.vm.findClass "java/util/ArrayList" = some m.cls := findClass_of_methodNamed Bd.named
  have hnm := (name_of_methodNamed Bd.named Bd.method).1
  have X0 : Stand p l e ({ frames := 0, cells := 0, slots := 0, locals := 0 } : Room) s m #[(.ref a1), (.int (1 : Int32))] below meth c s₁ [] 0 0 := Stand.of_body Bd
  have e0 : s₁.heap = h0 := by rw [← hh, Bd.state]; rfl
  have N0 := Fr.nil n0
  show OGo p e below (fun s₂ o => ∃ v L, o = .returned v ∧ Qed1_2 Z a1 t1 kb x0 x1 h0 n0 v s₂.heap L ∧ FrameEnd s o s₂ L ({ frames := 0, cells := 0, slots := 0, locals := 0 } : Room).cells ({ frames := 0, cells := 0, slots := 0, locals := 0 } : Room).slots) _
  refine OGo.to (fun _ k => castTop (ef_ed1_2 m a1 (1 : Int32)) k) ?_
  refine OGo.to (fun _ k => XS.aloadN X0.here hx rfl (hb hby d19_0) rfl rfl k) ?_
  show OGo p e below _ (s₁.setTop (mkF m 1 #[.val (.ref a1), .val (.int (1 : Int32))] [(.ref a1)]))
  obtain ⟨T_1, X_1, e_1, st_1⟩ := getF X0 hx hZ hown (host := "") (Or.inl (hw _ (List.mem_of_getElem? (i := 25) rfl))) Via.refl e0 F3 (g := (mkF m 1 #[.val (.ref a1), .val (.int (1 : Int32))] [(.ref a1)])) rfl rfl (hb hby d19_1)
  refine OGo.to st_1 ?_
  show OGo p e below _ (T_1.setTop (mkF m 4 #[.val (.ref a1), .val (.int (1 : Int32))] [(.ref t1)]))
  refine OGo.to (fun _ k => XS.iloadN X_1.here hx rfl (hb hby d19_4) rfl k) ?_
  show OGo p e below _ (T_1.setTop (mkF m 5 #[.val (.ref a1), .val (.int (1 : Int32))] [(.int (1 : Int32)), (.ref t1)]))
  have Vq_2 := V1
  obtain ⟨cl_2, Ar_2, q_2, S_2, M_2, Hs_2, G_2⟩ := Vq_2
  have hin_3 : ¬ ((1 : Int32) < 0 ∨ cl_2.slots.size ≤ ((1 : Int32)).toNatClampNeg) := inb_of S_2 ⟨by decide, by decide⟩
  have hat_3 : cl_2.slots[((1 : Int32)).toNatClampNeg]? = some (.ref x1) := Hs_2.at hin_3 (rfl)
  refine OGo.to (fun _ k => X_1.aaload hx (j := (1 : Int32)) (v := (.ref x1)) (by rw [e_1]; exact Ar_2.1) (State.isArrayOf_alike hZ.alike Ar_2.2.1) rfl Ar_2.2.2 hin_3 hat_3 (g := (mkF m 5 #[.val (.ref a1), .val (.int (1 : Int32))] [(.int (1 : Int32)), (.ref t1)])) rfl rfl (hb hby d19_5) _ k) ?_
  show OGo p e below _ (T_1.setTop (mkF m 6 #[.val (.ref a1), .val (.int (1 : Int32))] [(.ref x1)]))
  refine OGo.ret (Q := Qed1_2 Z a1 t1 kb x0 x1 h0 n0) X_1 (some (.ref x1)) (fun h => by rw [Bd.returns] at h; cases h) Bd.notSynchronized (fun fs hr => own_retA X_1 hx Bd.returns rfl rfl (hb hby d19_6) hr) ?_ (by decide) (by decide)
  show Qed1_2 Z a1 t1 kb x0 x1 h0 n0 _ T_1.heap _
  rw [e_1]
  exact ⟨rfl, N0, rfl⟩
theorem ef_get1_2 (m : MethodId) (x0 : Addr) (x1 : Int32) : entryFrame m #[(.ref x0), (.int x1)] 2 = mkF m 0 #[.val (.ref x0), .val (.int x1)] [] := by first | (simp [entryFrame, mkF, argsToLocals, Value.category]; done) | rfl
def Qget1_2 (Z : State) (a1 : Addr) (t1 : Addr) (kb : ClassId) (x0 : Addr) (x1 : Addr) (h0 : Heap) (n0 : Nat) (v : Option Value) (h : Heap) (L : List Loc) : Prop := v = some (.ref x1) ∧ Fr n0 L ∧ h = h0
set_option maxRecDepth 65536 in
set_option maxHeartbeats 40000000 in
theorem rmget1_2 (l : Launch) (Z : State) (a0 : Array Value) (hw : ∀ d ∈ tables_1, d.before a0 Z = true) (ws : List Jvm.Cond) (a1 : Addr) (t1 : Addr) (kb : ClassId) (x0 : Addr) (x1 : Addr) (h0 : Heap) (n0 : Nat) (Z0 : n0 ≤ h0.size) (E1 : Exa Z h0 a1 "java/util/ArrayList") (F2 : Fld Z h0 a1 "java/util/ArrayList" "size" "I" (.int (2 : Int32))) (F3 : Fld Z h0 a1 "java/util/ArrayList" "elementData" "[Ljava/lang/Object;" (.ref t1)) (V1 : Arv Z h0 t1 kb (.object "java/lang/Object") (10 : Int32) [(.ref x0), (.ref x1), .null, .null, .null, .null, .null, .null, .null, .null] .null) :
    MetFree l (⟨"java/util/ArrayList", "get", "(I)Ljava/lang/Object;"⟩ : MethodName) (head1 (Jvm.Cond.code (⟨"java/util/ArrayList", "get", "(I)Ljava/lang/Object;"⟩ : MethodName) jdk_38_method_20_code 2 (some (.object "java/lang/Object")) :: ws) ({ frames := 2, cells := 0, slots := 0, locals := 27 } : Room)) (fun a U => a = #[(.ref a1), (.int (1 : Int32))] ∧ Z.Warmed39 U.vm ∧ U.heap = h0) (fun _ _ _ _ _ => True) (fun _ U o U' => ∃ v L, o = .returned v ∧ Qget1_2 Z a1 t1 kb x0 x1 h0 n0 v U'.heap L ∧ FrameEnd U o U' L ({ frames := 2, cells := 0, slots := 0, locals := 27 } : Room).cells ({ frames := 2, cells := 0, slots := 0, locals := 27 } : Room).slots) := by
  refine MetFree.of_bodySF (plainFor_of_name pn_3) hisR ?_
  intro p e s m args below meth c s₁ Bd hml0 hP hK
  obtain ⟨rfl, hZ, hh⟩ := hP
  have hx := Bd.exec
  have hby := Bd.bytes
  have hml : c.maxLocals = 2 := hml0
  have hown : s.vm.findClass "java/util/ArrayList" = some m.cls := findClass_of_methodNamed Bd.named
  have hnm := (name_of_methodNamed Bd.named Bd.method).1
  have X0 : Stand p l e ({ frames := 2, cells := 0, slots := 0, locals := 27 } : Room) s m #[(.ref a1), (.int (1 : Int32))] below meth c s₁ [] 0 0 := Stand.of_body Bd
  have e0 : s₁.heap = h0 := by rw [← hh, Bd.state]; rfl
  have N0 := Fr.nil n0
  show OGo p e below (fun s₂ o => ∃ v L, o = .returned v ∧ Qget1_2 Z a1 t1 kb x0 x1 h0 n0 v s₂.heap L ∧ FrameEnd s o s₂ L ({ frames := 2, cells := 0, slots := 0, locals := 27 } : Room).cells ({ frames := 2, cells := 0, slots := 0, locals := 27 } : Room).slots) _
  refine OGo.to (fun _ k => castTop (ef_get1_2 m a1 (1 : Int32)) k) ?_
  refine OGo.to (fun _ k => XS.iloadN X0.here hx rfl (hb hby d16_0) rfl k) ?_
  show OGo p e below _ (s₁.setTop (mkF m 1 #[.val (.ref a1), .val (.int (1 : Int32))] [(.int (1 : Int32))]))
  refine OGo.to (fun _ k => XS.aloadN X0.here hx rfl (hb hby d16_1) rfl rfl k) ?_
  show OGo p e below _ (s₁.setTop (mkF m 2 #[.val (.ref a1), .val (.int (1 : Int32))] [(.ref a1), (.int (1 : Int32))]))
  obtain ⟨T_1, X_1, e_1, st_1⟩ := getF X0 hx hZ hown (host := "") (Or.inl (hw _ (List.mem_of_getElem? (i := 50) rfl))) Via.refl e0 F2 (g := (mkF m 2 #[.val (.ref a1), .val (.int (1 : Int32))] [(.ref a1), (.int (1 : Int32))])) rfl rfl (hb hby d16_2)
  refine OGo.to st_1 ?_
  show OGo p e below _ (T_1.setTop (mkF m 5 #[.val (.ref a1), .val (.int (1 : Int32))] [(.int (2 : Int32)), (.int (1 : Int32))]))
  obtain ⟨_, T_2, Lc_2, X_2, hQ_2, st_2⟩ := own_un X_1 (Q := Qoc1_2 Z  h0 n0) (rc := 0) (rs := 0) (W := fun v B => ∀ target, Steps p.tables e below (B.setTop { (mkF m 5 #[.val (.ref a1), .val (.int (1 : Int32))] [(.int (2 : Int32)), (.int (1 : Int32))]) with pc := 8, stack := v.toList ++ [] }) target → Steps p.tables e below (T_1.setTop (mkF m 5 #[.val (.ref a1), .val (.int (1 : Int32))] [(.int (2 : Int32)), (.int (1 : Int32))])) target) <| Jvm.LawKit.callS X_1 hx (y := (⟨"java/util/Objects", "checkIndex", "(II)I"⟩ : MethodName)) hown (mvT hZ (hw _ (List.mem_of_getElem? (i := 125) rfl))) (mvT hZ (hw _ (List.mem_of_getElem? (i := 126) rfl))) (mvT hZ (hw _ (List.mem_of_getElem? (i := 127) rfl))) (mvT hZ (hw _ (List.mem_of_getElem? (i := 128) rfl))) (by decide) (backOf (W := 0) (rmoc1_2 l Z a0 hw []  h0 n0 Z0 ) hZ (hw _ (List.mem_of_getElem? (i := 128) rfl)) (hw _ (List.mem_of_getElem? (i := 127) rfl)) (by decide) (by decide)) (g := (mkF m 5 #[.val (.ref a1), .val (.int (1 : Int32))] [(.int (2 : Int32)), (.int (1 : Int32))])) rfl (by rw [hml]; rfl) (argsL := [(.int (1 : Int32)), (.int (2 : Int32))]) (rest := []) (lenOf pd_1 rfl) rfl (by show 2 * 0 + _ ≤ _; exact Nat.le_of_eq rfl) (hb hby d16_5) (fun _ _ => ⟨rfl, e_1, (by decide : 0 + 0 ≤ _), (by decide : 0 + 0 ≤ _)⟩)
  obtain ⟨rfl, N_2q, e_2⟩ := hQ_2
  have N_2 := Fr.app N0 N_2q
  refine OGo.to st_2 ?_
  show OGo p e below _ (T_2.setTop (mkF m 8 #[.val (.ref a1), .val (.int (1 : Int32))] [(.int (1 : Int32))]))
  refine OGo.to (fun _ k => XS.pop X_2.here hx rfl (hb hby d16_8) rfl rfl k) ?_
  show OGo p e below _ (T_2.setTop (mkF m 9 #[.val (.ref a1), .val (.int (1 : Int32))] []))
  refine OGo.to (fun _ k => XS.aloadN X_2.here hx rfl (hb hby d16_9) rfl rfl k) ?_
  show OGo p e below _ (T_2.setTop (mkF m 10 #[.val (.ref a1), .val (.int (1 : Int32))] [(.ref a1)]))
  refine OGo.to (fun _ k => XS.iloadN X_2.here hx rfl (hb hby d16_10) rfl k) ?_
  show OGo p e below _ (T_2.setTop (mkF m 11 #[.val (.ref a1), .val (.int (1 : Int32))] [(.int (1 : Int32)), (.ref a1)]))
  obtain ⟨cq_3, kq_3, q_3a, q_3b, q_3c⟩ := isOf hZ e_2 E1
  obtain ⟨_, T_3, Lc_3, X_3, hQ_3, st_3⟩ := own_un X_2 (Q := Qed1_2 Z a1 t1 kb x0 x1 h0 n0) (rc := 0) (rs := 0) (W := fun v B => Steps p.tables e below (T_2.setTop (mkF m 11 #[.val (.ref a1), .val (.int (1 : Int32))] [(.int (1 : Int32)), (.ref a1)])) (B.setTop { (mkF m 11 #[.val (.ref a1), .val (.int (1 : Int32))] [(.int (1 : Int32)), (.ref a1)]) with pc := 14, stack := v.toList ++ [] })) <| X_2.virtualBack hx (y := (⟨"java/util/ArrayList", "elementData", "(I)Ljava/lang/Object;"⟩ : MethodName)) (z := (⟨"java/util/ArrayList", "elementData", "(I)Ljava/lang/Object;"⟩ : MethodName)) hown (mvT hZ (hw _ (List.mem_of_getElem? (i := 133) rfl))) (mvT hZ (hw _ (List.mem_of_getElem? (i := 134) rfl))) (notFace_of_selects (args := #[]) (mvT hZ (hw _ (List.mem_of_getElem? (i := 136) rfl)))) (mvT hZ (hw _ (List.mem_of_getElem? (i := 136) rfl))) (mvT hZ (hw _ (List.mem_of_getElem? (i := 135) rfl))) (by decide) (backOf (W := 0) (rmed1_2 l Z a0 hw [] a1 t1 kb x0 x1 h0 n0 Z0 E1 F2 F3 V1) hZ (hw _ (List.mem_of_getElem? (i := 137) rfl)) (hw _ (List.mem_of_getElem? (i := 3) rfl)) (by decide) (by decide)) q_3a q_3c (g := (mkF m 11 #[.val (.ref a1), .val (.int (1 : Int32))] [(.int (1 : Int32)), (.ref a1)])) rfl (by rw [hml]; rfl) (Steps.refl _) (argsL := [(.int (1 : Int32))]) (rest := []) (lenOf pd_6 rfl) rfl (by show 2 * 0 + _ ≤ _; exact Nat.le_of_eq rfl) (hb hby d16_11) (fun _ _ => ⟨rfl, e_2, (by decide : 0 + 0 ≤ _), (by decide : 0 + 0 ≤ _)⟩)
  obtain ⟨rfl, N_3q, e_3⟩ := hQ_3
  have N_3 := Fr.app N_2 N_3q
  refine OGo.to (fun _ k => st_3.trans k) ?_
  show OGo p e below _ (T_3.setTop (mkF m 14 #[.val (.ref a1), .val (.int (1 : Int32))] [(.ref x1)]))
  refine OGo.ret (Q := Qget1_2 Z a1 t1 kb x0 x1 h0 n0) X_3 (some (.ref x1)) (fun h => by rw [Bd.returns] at h; cases h) Bd.notSynchronized (fun fs hr => own_retA X_3 hx Bd.returns rfl rfl (hb hby d16_14) hr) ?_ (by decide) (by decide)
  show Qget1_2 Z a1 t1 kb x0 x1 h0 n0 _ T_3.heap _
  rw [e_3]
  exact ⟨rfl, N_3, rfl⟩
theorem ef_pc0_3 (m : MethodId) (x0 : Int32) (x1 : Int32) : entryFrame m #[(.int x0), (.int x1), .null] 3 = mkF m 0 #[.val (.int x0), .val (.int x1), .val .null] [] := by first | (simp [entryFrame, mkF, argsToLocals, Value.category]; done) | rfl
def Qpc0_3 (Z : State)  (h0 : Heap) (n0 : Nat) (v : Option Value) (h : Heap) (L : List Loc) : Prop := v = some (.int (0 : Int32)) ∧ Fr n0 L ∧ h = h0
set_option maxRecDepth 65536 in
set_option maxHeartbeats 40000000 in
theorem rmpc0_3 (l : Launch) (Z : State) (a0 : Array Value) (hw : ∀ d ∈ tables_1, d.before a0 Z = true) (ws : List Jvm.Cond)  (h0 : Heap) (n0 : Nat) (Z0 : n0 ≤ h0.size) :
    MetFree l (⟨"jdk/internal/util/Preconditions", "checkIndex", "(IILjava/util/function/BiFunction;)I"⟩ : MethodName) (head1 (Jvm.Cond.code (⟨"jdk/internal/util/Preconditions", "checkIndex", "(IILjava/util/function/BiFunction;)I"⟩ : MethodName) jdk_41_method_11_code 3 (some .int) :: ws) ({ frames := 0, cells := 0, slots := 0, locals := 0 } : Room)) (fun a U => a = #[(.int (0 : Int32)), (.int (3 : Int32)), .null] ∧ Z.Warmed39 U.vm ∧ U.heap = h0) (fun _ _ _ _ _ => True) (fun _ U o U' => ∃ v L, o = .returned v ∧ Qpc0_3 Z  h0 n0 v U'.heap L ∧ FrameEnd U o U' L ({ frames := 0, cells := 0, slots := 0, locals := 0 } : Room).cells ({ frames := 0, cells := 0, slots := 0, locals := 0 } : Room).slots) := by
  refine MetFree.of_bodySF (plainFor_of_name pn_6) hisR ?_
  intro p e s m args below meth c s₁ Bd hml0 hP hK
  obtain ⟨rfl, hZ, hh⟩ := hP
  have hx := Bd.exec
  have hby := Bd.bytes
  have hml : c.maxLocals = 3 := hml0
  have hown : s.vm.findClass "jdk/internal/util/Preconditions" = some m.cls := findClass_of_methodNamed Bd.named
  have hnm := (name_of_methodNamed Bd.named Bd.method).1
  have X0 : Stand p l e ({ frames := 0, cells := 0, slots := 0, locals := 0 } : Room) s m #[(.int (0 : Int32)), (.int (3 : Int32)), .null] below meth c s₁ [] 0 0 := Stand.of_body Bd
  have e0 : s₁.heap = h0 := by rw [← hh, Bd.state]; rfl
  have N0 := Fr.nil n0
  show OGo p e below (fun s₂ o => ∃ v L, o = .returned v ∧ Qpc0_3 Z  h0 n0 v s₂.heap L ∧ FrameEnd s o s₂ L ({ frames := 0, cells := 0, slots := 0, locals := 0 } : Room).cells ({ frames := 0, cells := 0, slots := 0, locals := 0 } : Room).slots) _
  refine OGo.to (fun _ k => castTop (ef_pc0_3 m (0 : Int32) (3 : Int32)) k) ?_
  refine OGo.to (fun _ k => XS.iloadN X0.here hx rfl (hb hby d18_0) rfl k) ?_
  show OGo p e below _ (s₁.setTop (mkF m 1 #[.val (.int (0 : Int32)), .val (.int (3 : Int32)), .val .null] [(.int (0 : Int32))]))
  have hc1__1 : ¬ ((0 : Int32) < (0 : Int32)) := by decide
  refine OGo.to (fun _ k => XS.ifNo X0.here hx rfl (hb hby d18_1) rfl ((if0 _ _).trans (flt hc1__1).1) k) ?_
  show OGo p e below _ (s₁.setTop (mkF m 4 #[.val (.int (0 : Int32)), .val (.int (3 : Int32)), .val .null] []))
  refine OGo.to (fun _ k => XS.iloadN X0.here hx rfl (hb hby d18_4) rfl k) ?_
  show OGo p e below _ (s₁.setTop (mkF m 5 #[.val (.int (0 : Int32)), .val (.int (3 : Int32)), .val .null] [(.int (0 : Int32))]))
  refine OGo.to (fun _ k => XS.iloadN X0.here hx rfl (hb hby d18_5) rfl k) ?_
  show OGo p e below _ (s₁.setTop (mkF m 6 #[.val (.int (0 : Int32)), .val (.int (3 : Int32)), .val .null] [(.int (3 : Int32)), (.int (0 : Int32))]))
  have hc6__2 : (0 : Int32) < (3 : Int32) := by decide
  refine OGo.to (fun _ k => XS.icmpYes X0.here hx rfl (pc0 := 6) (pc' := 16) rfl (hb hby d18_6) rfl (tlt hc6__2).1 (by decide) (by decide) k) ?_
  show OGo p e below _ (s₁.setTop (mkF m 16 #[.val (.int (0 : Int32)), .val (.int (3 : Int32)), .val .null] []))
  refine OGo.to (fun _ k => XS.iloadN X0.here hx rfl (hb hby d18_16) rfl k) ?_
  show OGo p e below _ (s₁.setTop (mkF m 17 #[.val (.int (0 : Int32)), .val (.int (3 : Int32)), .val .null] [(.int (0 : Int32))]))
  refine OGo.ret (Q := Qpc0_3 Z  h0 n0) X0 (some (.int (0 : Int32))) (fun h => by rw [Bd.returns] at h; cases h) Bd.notSynchronized (fun fs hr => retI X0 hx Bd.returns (hb hby d18_17) hr) ?_ (by decide) (by decide)
  show Qpc0_3 Z  h0 n0 _ s₁.heap _
  rw [e0]
  exact ⟨rfl, N0, rfl⟩
theorem ef_oc0_3 (m : MethodId) (x0 : Int32) (x1 : Int32) : entryFrame m #[(.int x0), (.int x1)] 2 = mkF m 0 #[.val (.int x0), .val (.int x1)] [] := by first | (simp [entryFrame, mkF, argsToLocals, Value.category]; done) | rfl
def Qoc0_3 (Z : State)  (h0 : Heap) (n0 : Nat) (v : Option Value) (h : Heap) (L : List Loc) : Prop := v = some (.int (0 : Int32)) ∧ Fr n0 L ∧ h = h0
set_option maxRecDepth 65536 in
set_option maxHeartbeats 40000000 in
theorem rmoc0_3 (l : Launch) (Z : State) (a0 : Array Value) (hw : ∀ d ∈ tables_1, d.before a0 Z = true) (ws : List Jvm.Cond)  (h0 : Heap) (n0 : Nat) (Z0 : n0 ≤ h0.size) :
    MetFree l (⟨"java/util/Objects", "checkIndex", "(II)I"⟩ : MethodName) (head1 (Jvm.Cond.code (⟨"java/util/Objects", "checkIndex", "(II)I"⟩ : MethodName) jdk_31_method_17_code 2 (some .int) :: ws) ({ frames := 1, cells := 0, slots := 0, locals := 14 } : Room)) (fun a U => a = #[(.int (0 : Int32)), (.int (3 : Int32))] ∧ Z.Warmed39 U.vm ∧ U.heap = h0) (fun _ _ _ _ _ => True) (fun _ U o U' => ∃ v L, o = .returned v ∧ Qoc0_3 Z  h0 n0 v U'.heap L ∧ FrameEnd U o U' L ({ frames := 1, cells := 0, slots := 0, locals := 14 } : Room).cells ({ frames := 1, cells := 0, slots := 0, locals := 14 } : Room).slots) := by
  refine MetFree.of_bodySF (plainFor_of_name pn_7) hisR ?_
  intro p e s m args below meth c s₁ Bd hml0 hP hK
  obtain ⟨rfl, hZ, hh⟩ := hP
  have hx := Bd.exec
  have hby := Bd.bytes
  have hml : c.maxLocals = 2 := hml0
  have hown : s.vm.findClass "java/util/Objects" = some m.cls := findClass_of_methodNamed Bd.named
  have hnm := (name_of_methodNamed Bd.named Bd.method).1
  have X0 : Stand p l e ({ frames := 1, cells := 0, slots := 0, locals := 14 } : Room) s m #[(.int (0 : Int32)), (.int (3 : Int32))] below meth c s₁ [] 0 0 := Stand.of_body Bd
  have e0 : s₁.heap = h0 := by rw [← hh, Bd.state]; rfl
  have N0 := Fr.nil n0
  show OGo p e below (fun s₂ o => ∃ v L, o = .returned v ∧ Qoc0_3 Z  h0 n0 v s₂.heap L ∧ FrameEnd s o s₂ L ({ frames := 1, cells := 0, slots := 0, locals := 14 } : Room).cells ({ frames := 1, cells := 0, slots := 0, locals := 14 } : Room).slots) _
  refine OGo.to (fun _ k => castTop (ef_oc0_3 m (0 : Int32) (3 : Int32)) k) ?_
  refine OGo.to (fun _ k => XS.iloadN X0.here hx rfl (hb hby d17_0) rfl k) ?_
  show OGo p e below _ (s₁.setTop (mkF m 1 #[.val (.int (0 : Int32)), .val (.int (3 : Int32))] [(.int (0 : Int32))]))
  refine OGo.to (fun _ k => XS.iloadN X0.here hx rfl (hb hby d17_1) rfl k) ?_
  show OGo p e below _ (s₁.setTop (mkF m 2 #[.val (.int (0 : Int32)), .val (.int (3 : Int32))] [(.int (3 : Int32)), (.int (0 : Int32))]))
  refine OGo.to (fun _ k => XS.aconstNull X0.here hx rfl (hb hby d17_2) k) ?_
  show OGo p e below _ (s₁.setTop (mkF m 3 #[.val (.int (0 : Int32)), .val (.int (3 : Int32))] [.null, (.int (3 : Int32)), (.int (0 : Int32))]))
  obtain ⟨_, T_1, Lc_1, X_1, hQ_1, st_1⟩ := own_un X0 (Q := Qpc0_3 Z  h0 n0) (rc := 0) (rs := 0) (W := fun v B => ∀ target, Steps p.tables e below (B.setTop { (mkF m 3 #[.val (.int (0 : Int32)), .val (.int (3 : Int32))] [.null, (.int (3 : Int32)), (.int (0 : Int32))]) with pc := 6, stack := v.toList ++ [] }) target → Steps p.tables e below (s₁.setTop (mkF m 3 #[.val (.int (0 : Int32)), .val (.int (3 : Int32))] [.null, (.int (3 : Int32)), (.int (0 : Int32))])) target) <| Jvm.LawKit.callS X0 hx (y := (⟨"jdk/internal/util/Preconditions", "checkIndex", "(IILjava/util/function/BiFunction;)I"⟩ : MethodName)) hown (mvT hZ (hw _ (List.mem_of_getElem? (i := 129) rfl))) (mvT hZ (hw _ (List.mem_of_getElem? (i := 130) rfl))) (mvT hZ (hw _ (List.mem_of_getElem? (i := 131) rfl))) (mvT hZ (hw _ (List.mem_of_getElem? (i := 132) rfl))) (by decide) (backOf (W := 0) (rmpc0_3 l Z a0 hw []  h0 n0 Z0 ) hZ (hw _ (List.mem_of_getElem? (i := 132) rfl)) (hw _ (List.mem_of_getElem? (i := 131) rfl)) (by decide) (by decide)) (g := (mkF m 3 #[.val (.int (0 : Int32)), .val (.int (3 : Int32))] [.null, (.int (3 : Int32)), (.int (0 : Int32))])) rfl (by rw [hml]; rfl) (argsL := [(.int (0 : Int32)), (.int (3 : Int32)), .null]) (rest := []) (lenOf pd_5 rfl) rfl (by show 2 * 0 + _ ≤ _; exact Nat.le_of_eq rfl) (hb hby d17_3) (fun _ _ => ⟨rfl, e0, (by decide : 0 + 0 ≤ _), (by decide : 0 + 0 ≤ _)⟩)
  obtain ⟨rfl, N_1q, e_1⟩ := hQ_1
  have N_1 := Fr.app N0 N_1q
  refine OGo.to st_1 ?_
  show OGo p e below _ (T_1.setTop (mkF m 6 #[.val (.int (0 : Int32)), .val (.int (3 : Int32))] [(.int (0 : Int32))]))
  refine OGo.ret (Q := Qoc0_3 Z  h0 n0) X_1 (some (.int (0 : Int32))) (fun h => by rw [Bd.returns] at h; cases h) Bd.notSynchronized (fun fs hr => retI X_1 hx Bd.returns (hb hby d17_6) hr) ?_ (by decide) (by decide)
  show Qoc0_3 Z  h0 n0 _ T_1.heap _
  rw [e_1]
  exact ⟨rfl, N_1, rfl⟩
theorem ef_ed0_3 (m : MethodId) (x0 : Addr) (x1 : Int32) : entryFrame m #[(.ref x0), (.int x1)] 2 = mkF m 0 #[.val (.ref x0), .val (.int x1)] [] := by first | (simp [entryFrame, mkF, argsToLocals, Value.category]; done) | rfl
def Qed0_3 (Z : State) (a1 : Addr) (t1 : Addr) (kb : ClassId) (x0 : Addr) (x1 : Addr) (x2 : Addr) (h0 : Heap) (n0 : Nat) (v : Option Value) (h : Heap) (L : List Loc) : Prop := v = some (.ref x0) ∧ Fr n0 L ∧ h = h0
set_option maxRecDepth 65536 in
set_option maxHeartbeats 40000000 in
theorem rmed0_3 (l : Launch) (Z : State) (a0 : Array Value) (hw : ∀ d ∈ tables_1, d.before a0 Z = true) (ws : List Jvm.Cond) (a1 : Addr) (t1 : Addr) (kb : ClassId) (x0 : Addr) (x1 : Addr) (x2 : Addr) (h0 : Heap) (n0 : Nat) (Z0 : n0 ≤ h0.size) (E1 : Exa Z h0 a1 "java/util/ArrayList") (F2 : Fld Z h0 a1 "java/util/ArrayList" "size" "I" (.int (3 : Int32))) (F3 : Fld Z h0 a1 "java/util/ArrayList" "elementData" "[Ljava/lang/Object;" (.ref t1)) (V1 : Arv Z h0 t1 kb (.object "java/lang/Object") (10 : Int32) [(.ref x0), (.ref x1), (.ref x2), .null, .null, .null, .null, .null, .null, .null] .null) :
    MetFree l (⟨"java/util/ArrayList", "elementData", "(I)Ljava/lang/Object;"⟩ : MethodName) (head1 (Jvm.Cond.code (⟨"java/util/ArrayList", "elementData", "(I)Ljava/lang/Object;"⟩ : MethodName) jdk_38_method_18_code 2 (some (.object "java/lang/Object")) :: ws) ({ frames := 0, cells := 0, slots := 0, locals := 0 } : Room)) (fun a U => a = #[(.ref a1), (.int (0 : Int32))] ∧ Z.Warmed39 U.vm ∧ U.heap = h0) (fun _ _ _ _ _ => True) (fun _ U o U' => ∃ v L, o = .returned v ∧ Qed0_3 Z a1 t1 kb x0 x1 x2 h0 n0 v U'.heap L ∧ FrameEnd U o U' L ({ frames := 0, cells := 0, slots := 0, locals := 0 } : Room).cells ({ frames := 0, cells := 0, slots := 0, locals := 0 } : Room).slots) := by
  refine MetFree.of_bodySF (plainFor_of_name pn_3) hisR ?_
  intro p e s m args below meth c s₁ Bd hml0 hP hK
  obtain ⟨rfl, hZ, hh⟩ := hP
  have hx := Bd.exec
  have hby := Bd.bytes
  have hml : c.maxLocals = 2 := hml0
  have hown : s.vm.findClass "java/util/ArrayList" = some m.cls := findClass_of_methodNamed Bd.named
  have hnm := (name_of_methodNamed Bd.named Bd.method).1
  have X0 : Stand p l e ({ frames := 0, cells := 0, slots := 0, locals := 0 } : Room) s m #[(.ref a1), (.int (0 : Int32))] below meth c s₁ [] 0 0 := Stand.of_body Bd
  have e0 : s₁.heap = h0 := by rw [← hh, Bd.state]; rfl
  have N0 := Fr.nil n0
  show OGo p e below (fun s₂ o => ∃ v L, o = .returned v ∧ Qed0_3 Z a1 t1 kb x0 x1 x2 h0 n0 v s₂.heap L ∧ FrameEnd s o s₂ L ({ frames := 0, cells := 0, slots := 0, locals := 0 } : Room).cells ({ frames := 0, cells := 0, slots := 0, locals := 0 } : Room).slots) _
  refine OGo.to (fun _ k => castTop (ef_ed0_3 m a1 (0 : Int32)) k) ?_
  refine OGo.to (fun _ k => XS.aloadN X0.here hx rfl (hb hby d19_0) rfl rfl k) ?_
  show OGo p e below _ (s₁.setTop (mkF m 1 #[.val (.ref a1), .val (.int (0 : Int32))] [(.ref a1)]))
  obtain ⟨T_1, X_1, e_1, st_1⟩ := getF X0 hx hZ hown (host := "") (Or.inl (hw _ (List.mem_of_getElem? (i := 25) rfl))) Via.refl e0 F3 (g := (mkF m 1 #[.val (.ref a1), .val (.int (0 : Int32))] [(.ref a1)])) rfl rfl (hb hby d19_1)
  refine OGo.to st_1 ?_
  show OGo p e below _ (T_1.setTop (mkF m 4 #[.val (.ref a1), .val (.int (0 : Int32))] [(.ref t1)]))
  refine OGo.to (fun _ k => XS.iloadN X_1.here hx rfl (hb hby d19_4) rfl k) ?_
  show OGo p e below _ (T_1.setTop (mkF m 5 #[.val (.ref a1), .val (.int (0 : Int32))] [(.int (0 : Int32)), (.ref t1)]))
  have Vq_2 := V1
  obtain ⟨cl_2, Ar_2, q_2, S_2, M_2, Hs_2, G_2⟩ := Vq_2
  have hin_3 : ¬ ((0 : Int32) < 0 ∨ cl_2.slots.size ≤ ((0 : Int32)).toNatClampNeg) := inb_of S_2 ⟨by decide, by decide⟩
  have hat_3 : cl_2.slots[((0 : Int32)).toNatClampNeg]? = some (.ref x0) := Hs_2.at hin_3 (rfl)
  refine OGo.to (fun _ k => X_1.aaload hx (j := (0 : Int32)) (v := (.ref x0)) (by rw [e_1]; exact Ar_2.1) (State.isArrayOf_alike hZ.alike Ar_2.2.1) rfl Ar_2.2.2 hin_3 hat_3 (g := (mkF m 5 #[.val (.ref a1), .val (.int (0 : Int32))] [(.int (0 : Int32)), (.ref t1)])) rfl rfl (hb hby d19_5) _ k) ?_
  show OGo p e below _ (T_1.setTop (mkF m 6 #[.val (.ref a1), .val (.int (0 : Int32))] [(.ref x0)]))
  refine OGo.ret (Q := Qed0_3 Z a1 t1 kb x0 x1 x2 h0 n0) X_1 (some (.ref x0)) (fun h => by rw [Bd.returns] at h; cases h) Bd.notSynchronized (fun fs hr => own_retA X_1 hx Bd.returns rfl rfl (hb hby d19_6) hr) ?_ (by decide) (by decide)
  show Qed0_3 Z a1 t1 kb x0 x1 x2 h0 n0 _ T_1.heap _
  rw [e_1]
  exact ⟨rfl, N0, rfl⟩
theorem ef_get0_3 (m : MethodId) (x0 : Addr) (x1 : Int32) : entryFrame m #[(.ref x0), (.int x1)] 2 = mkF m 0 #[.val (.ref x0), .val (.int x1)] [] := by first | (simp [entryFrame, mkF, argsToLocals, Value.category]; done) | rfl
def Qget0_3 (Z : State) (a1 : Addr) (t1 : Addr) (kb : ClassId) (x0 : Addr) (x1 : Addr) (x2 : Addr) (h0 : Heap) (n0 : Nat) (v : Option Value) (h : Heap) (L : List Loc) : Prop := v = some (.ref x0) ∧ Fr n0 L ∧ h = h0
set_option maxRecDepth 65536 in
set_option maxHeartbeats 40000000 in
theorem rmget0_3 (l : Launch) (Z : State) (a0 : Array Value) (hw : ∀ d ∈ tables_1, d.before a0 Z = true) (ws : List Jvm.Cond) (a1 : Addr) (t1 : Addr) (kb : ClassId) (x0 : Addr) (x1 : Addr) (x2 : Addr) (h0 : Heap) (n0 : Nat) (Z0 : n0 ≤ h0.size) (E1 : Exa Z h0 a1 "java/util/ArrayList") (F2 : Fld Z h0 a1 "java/util/ArrayList" "size" "I" (.int (3 : Int32))) (F3 : Fld Z h0 a1 "java/util/ArrayList" "elementData" "[Ljava/lang/Object;" (.ref t1)) (V1 : Arv Z h0 t1 kb (.object "java/lang/Object") (10 : Int32) [(.ref x0), (.ref x1), (.ref x2), .null, .null, .null, .null, .null, .null, .null] .null) :
    MetFree l (⟨"java/util/ArrayList", "get", "(I)Ljava/lang/Object;"⟩ : MethodName) (head1 (Jvm.Cond.code (⟨"java/util/ArrayList", "get", "(I)Ljava/lang/Object;"⟩ : MethodName) jdk_38_method_20_code 2 (some (.object "java/lang/Object")) :: ws) ({ frames := 2, cells := 0, slots := 0, locals := 27 } : Room)) (fun a U => a = #[(.ref a1), (.int (0 : Int32))] ∧ Z.Warmed39 U.vm ∧ U.heap = h0) (fun _ _ _ _ _ => True) (fun _ U o U' => ∃ v L, o = .returned v ∧ Qget0_3 Z a1 t1 kb x0 x1 x2 h0 n0 v U'.heap L ∧ FrameEnd U o U' L ({ frames := 2, cells := 0, slots := 0, locals := 27 } : Room).cells ({ frames := 2, cells := 0, slots := 0, locals := 27 } : Room).slots) := by
  refine MetFree.of_bodySF (plainFor_of_name pn_3) hisR ?_
  intro p e s m args below meth c s₁ Bd hml0 hP hK
  obtain ⟨rfl, hZ, hh⟩ := hP
  have hx := Bd.exec
  have hby := Bd.bytes
  have hml : c.maxLocals = 2 := hml0
  have hown : s.vm.findClass "java/util/ArrayList" = some m.cls := findClass_of_methodNamed Bd.named
  have hnm := (name_of_methodNamed Bd.named Bd.method).1
  have X0 : Stand p l e ({ frames := 2, cells := 0, slots := 0, locals := 27 } : Room) s m #[(.ref a1), (.int (0 : Int32))] below meth c s₁ [] 0 0 := Stand.of_body Bd
  have e0 : s₁.heap = h0 := by rw [← hh, Bd.state]; rfl
  have N0 := Fr.nil n0
  show OGo p e below (fun s₂ o => ∃ v L, o = .returned v ∧ Qget0_3 Z a1 t1 kb x0 x1 x2 h0 n0 v s₂.heap L ∧ FrameEnd s o s₂ L ({ frames := 2, cells := 0, slots := 0, locals := 27 } : Room).cells ({ frames := 2, cells := 0, slots := 0, locals := 27 } : Room).slots) _
  refine OGo.to (fun _ k => castTop (ef_get0_3 m a1 (0 : Int32)) k) ?_
  refine OGo.to (fun _ k => XS.iloadN X0.here hx rfl (hb hby d16_0) rfl k) ?_
  show OGo p e below _ (s₁.setTop (mkF m 1 #[.val (.ref a1), .val (.int (0 : Int32))] [(.int (0 : Int32))]))
  refine OGo.to (fun _ k => XS.aloadN X0.here hx rfl (hb hby d16_1) rfl rfl k) ?_
  show OGo p e below _ (s₁.setTop (mkF m 2 #[.val (.ref a1), .val (.int (0 : Int32))] [(.ref a1), (.int (0 : Int32))]))
  obtain ⟨T_1, X_1, e_1, st_1⟩ := getF X0 hx hZ hown (host := "") (Or.inl (hw _ (List.mem_of_getElem? (i := 50) rfl))) Via.refl e0 F2 (g := (mkF m 2 #[.val (.ref a1), .val (.int (0 : Int32))] [(.ref a1), (.int (0 : Int32))])) rfl rfl (hb hby d16_2)
  refine OGo.to st_1 ?_
  show OGo p e below _ (T_1.setTop (mkF m 5 #[.val (.ref a1), .val (.int (0 : Int32))] [(.int (3 : Int32)), (.int (0 : Int32))]))
  obtain ⟨_, T_2, Lc_2, X_2, hQ_2, st_2⟩ := own_un X_1 (Q := Qoc0_3 Z  h0 n0) (rc := 0) (rs := 0) (W := fun v B => ∀ target, Steps p.tables e below (B.setTop { (mkF m 5 #[.val (.ref a1), .val (.int (0 : Int32))] [(.int (3 : Int32)), (.int (0 : Int32))]) with pc := 8, stack := v.toList ++ [] }) target → Steps p.tables e below (T_1.setTop (mkF m 5 #[.val (.ref a1), .val (.int (0 : Int32))] [(.int (3 : Int32)), (.int (0 : Int32))])) target) <| Jvm.LawKit.callS X_1 hx (y := (⟨"java/util/Objects", "checkIndex", "(II)I"⟩ : MethodName)) hown (mvT hZ (hw _ (List.mem_of_getElem? (i := 125) rfl))) (mvT hZ (hw _ (List.mem_of_getElem? (i := 126) rfl))) (mvT hZ (hw _ (List.mem_of_getElem? (i := 127) rfl))) (mvT hZ (hw _ (List.mem_of_getElem? (i := 128) rfl))) (by decide) (backOf (W := 0) (rmoc0_3 l Z a0 hw []  h0 n0 Z0 ) hZ (hw _ (List.mem_of_getElem? (i := 128) rfl)) (hw _ (List.mem_of_getElem? (i := 127) rfl)) (by decide) (by decide)) (g := (mkF m 5 #[.val (.ref a1), .val (.int (0 : Int32))] [(.int (3 : Int32)), (.int (0 : Int32))])) rfl (by rw [hml]; rfl) (argsL := [(.int (0 : Int32)), (.int (3 : Int32))]) (rest := []) (lenOf pd_1 rfl) rfl (by show 2 * 0 + _ ≤ _; exact Nat.le_of_eq rfl) (hb hby d16_5) (fun _ _ => ⟨rfl, e_1, (by decide : 0 + 0 ≤ _), (by decide : 0 + 0 ≤ _)⟩)
  obtain ⟨rfl, N_2q, e_2⟩ := hQ_2
  have N_2 := Fr.app N0 N_2q
  refine OGo.to st_2 ?_
  show OGo p e below _ (T_2.setTop (mkF m 8 #[.val (.ref a1), .val (.int (0 : Int32))] [(.int (0 : Int32))]))
  refine OGo.to (fun _ k => XS.pop X_2.here hx rfl (hb hby d16_8) rfl rfl k) ?_
  show OGo p e below _ (T_2.setTop (mkF m 9 #[.val (.ref a1), .val (.int (0 : Int32))] []))
  refine OGo.to (fun _ k => XS.aloadN X_2.here hx rfl (hb hby d16_9) rfl rfl k) ?_
  show OGo p e below _ (T_2.setTop (mkF m 10 #[.val (.ref a1), .val (.int (0 : Int32))] [(.ref a1)]))
  refine OGo.to (fun _ k => XS.iloadN X_2.here hx rfl (hb hby d16_10) rfl k) ?_
  show OGo p e below _ (T_2.setTop (mkF m 11 #[.val (.ref a1), .val (.int (0 : Int32))] [(.int (0 : Int32)), (.ref a1)]))
  obtain ⟨cq_3, kq_3, q_3a, q_3b, q_3c⟩ := isOf hZ e_2 E1
  obtain ⟨_, T_3, Lc_3, X_3, hQ_3, st_3⟩ := own_un X_2 (Q := Qed0_3 Z a1 t1 kb x0 x1 x2 h0 n0) (rc := 0) (rs := 0) (W := fun v B => Steps p.tables e below (T_2.setTop (mkF m 11 #[.val (.ref a1), .val (.int (0 : Int32))] [(.int (0 : Int32)), (.ref a1)])) (B.setTop { (mkF m 11 #[.val (.ref a1), .val (.int (0 : Int32))] [(.int (0 : Int32)), (.ref a1)]) with pc := 14, stack := v.toList ++ [] })) <| X_2.virtualBack hx (y := (⟨"java/util/ArrayList", "elementData", "(I)Ljava/lang/Object;"⟩ : MethodName)) (z := (⟨"java/util/ArrayList", "elementData", "(I)Ljava/lang/Object;"⟩ : MethodName)) hown (mvT hZ (hw _ (List.mem_of_getElem? (i := 133) rfl))) (mvT hZ (hw _ (List.mem_of_getElem? (i := 134) rfl))) (notFace_of_selects (args := #[]) (mvT hZ (hw _ (List.mem_of_getElem? (i := 136) rfl)))) (mvT hZ (hw _ (List.mem_of_getElem? (i := 136) rfl))) (mvT hZ (hw _ (List.mem_of_getElem? (i := 135) rfl))) (by decide) (backOf (W := 0) (rmed0_3 l Z a0 hw [] a1 t1 kb x0 x1 x2 h0 n0 Z0 E1 F2 F3 V1) hZ (hw _ (List.mem_of_getElem? (i := 137) rfl)) (hw _ (List.mem_of_getElem? (i := 3) rfl)) (by decide) (by decide)) q_3a q_3c (g := (mkF m 11 #[.val (.ref a1), .val (.int (0 : Int32))] [(.int (0 : Int32)), (.ref a1)])) rfl (by rw [hml]; rfl) (Steps.refl _) (argsL := [(.int (0 : Int32))]) (rest := []) (lenOf pd_6 rfl) rfl (by show 2 * 0 + _ ≤ _; exact Nat.le_of_eq rfl) (hb hby d16_11) (fun _ _ => ⟨rfl, e_2, (by decide : 0 + 0 ≤ _), (by decide : 0 + 0 ≤ _)⟩)
  obtain ⟨rfl, N_3q, e_3⟩ := hQ_3
  have N_3 := Fr.app N_2 N_3q
  refine OGo.to (fun _ k => st_3.trans k) ?_
  show OGo p e below _ (T_3.setTop (mkF m 14 #[.val (.ref a1), .val (.int (0 : Int32))] [(.ref x0)]))
  refine OGo.ret (Q := Qget0_3 Z a1 t1 kb x0 x1 x2 h0 n0) X_3 (some (.ref x0)) (fun h => by rw [Bd.returns] at h; cases h) Bd.notSynchronized (fun fs hr => own_retA X_3 hx Bd.returns rfl rfl (hb hby d16_14) hr) ?_ (by decide) (by decide)
  show Qget0_3 Z a1 t1 kb x0 x1 x2 h0 n0 _ T_3.heap _
  rw [e_3]
  exact ⟨rfl, N_3, rfl⟩
theorem ef_pc1_3 (m : MethodId) (x0 : Int32) (x1 : Int32) : entryFrame m #[(.int x0), (.int x1), .null] 3 = mkF m 0 #[.val (.int x0), .val (.int x1), .val .null] [] := by first | (simp [entryFrame, mkF, argsToLocals, Value.category]; done) | rfl
def Qpc1_3 (Z : State)  (h0 : Heap) (n0 : Nat) (v : Option Value) (h : Heap) (L : List Loc) : Prop := v = some (.int (1 : Int32)) ∧ Fr n0 L ∧ h = h0
set_option maxRecDepth 65536 in
set_option maxHeartbeats 40000000 in
theorem rmpc1_3 (l : Launch) (Z : State) (a0 : Array Value) (hw : ∀ d ∈ tables_1, d.before a0 Z = true) (ws : List Jvm.Cond)  (h0 : Heap) (n0 : Nat) (Z0 : n0 ≤ h0.size) :
    MetFree l (⟨"jdk/internal/util/Preconditions", "checkIndex", "(IILjava/util/function/BiFunction;)I"⟩ : MethodName) (head1 (Jvm.Cond.code (⟨"jdk/internal/util/Preconditions", "checkIndex", "(IILjava/util/function/BiFunction;)I"⟩ : MethodName) jdk_41_method_11_code 3 (some .int) :: ws) ({ frames := 0, cells := 0, slots := 0, locals := 0 } : Room)) (fun a U => a = #[(.int (1 : Int32)), (.int (3 : Int32)), .null] ∧ Z.Warmed39 U.vm ∧ U.heap = h0) (fun _ _ _ _ _ => True) (fun _ U o U' => ∃ v L, o = .returned v ∧ Qpc1_3 Z  h0 n0 v U'.heap L ∧ FrameEnd U o U' L ({ frames := 0, cells := 0, slots := 0, locals := 0 } : Room).cells ({ frames := 0, cells := 0, slots := 0, locals := 0 } : Room).slots) := by
  refine MetFree.of_bodySF (plainFor_of_name pn_6) hisR ?_
  intro p e s m args below meth c s₁ Bd hml0 hP hK
  obtain ⟨rfl, hZ, hh⟩ := hP
  have hx := Bd.exec
  have hby := Bd.bytes
  have hml : c.maxLocals = 3 := hml0
  have hown : s.vm.findClass "jdk/internal/util/Preconditions" = some m.cls := findClass_of_methodNamed Bd.named
  have hnm := (name_of_methodNamed Bd.named Bd.method).1
  have X0 : Stand p l e ({ frames := 0, cells := 0, slots := 0, locals := 0 } : Room) s m #[(.int (1 : Int32)), (.int (3 : Int32)), .null] below meth c s₁ [] 0 0 := Stand.of_body Bd
  have e0 : s₁.heap = h0 := by rw [← hh, Bd.state]; rfl
  have N0 := Fr.nil n0
  show OGo p e below (fun s₂ o => ∃ v L, o = .returned v ∧ Qpc1_3 Z  h0 n0 v s₂.heap L ∧ FrameEnd s o s₂ L ({ frames := 0, cells := 0, slots := 0, locals := 0 } : Room).cells ({ frames := 0, cells := 0, slots := 0, locals := 0 } : Room).slots) _
  refine OGo.to (fun _ k => castTop (ef_pc1_3 m (1 : Int32) (3 : Int32)) k) ?_
  refine OGo.to (fun _ k => XS.iloadN X0.here hx rfl (hb hby d18_0) rfl k) ?_
  show OGo p e below _ (s₁.setTop (mkF m 1 #[.val (.int (1 : Int32)), .val (.int (3 : Int32)), .val .null] [(.int (1 : Int32))]))
  have hc1__1 : ¬ ((1 : Int32) < (0 : Int32)) := by decide
  refine OGo.to (fun _ k => XS.ifNo X0.here hx rfl (hb hby d18_1) rfl ((if0 _ _).trans (flt hc1__1).1) k) ?_
  show OGo p e below _ (s₁.setTop (mkF m 4 #[.val (.int (1 : Int32)), .val (.int (3 : Int32)), .val .null] []))
  refine OGo.to (fun _ k => XS.iloadN X0.here hx rfl (hb hby d18_4) rfl k) ?_
  show OGo p e below _ (s₁.setTop (mkF m 5 #[.val (.int (1 : Int32)), .val (.int (3 : Int32)), .val .null] [(.int (1 : Int32))]))
  refine OGo.to (fun _ k => XS.iloadN X0.here hx rfl (hb hby d18_5) rfl k) ?_
  show OGo p e below _ (s₁.setTop (mkF m 6 #[.val (.int (1 : Int32)), .val (.int (3 : Int32)), .val .null] [(.int (3 : Int32)), (.int (1 : Int32))]))
  have hc6__2 : (1 : Int32) < (3 : Int32) := by decide
  refine OGo.to (fun _ k => XS.icmpYes X0.here hx rfl (pc0 := 6) (pc' := 16) rfl (hb hby d18_6) rfl (tlt hc6__2).1 (by decide) (by decide) k) ?_
  show OGo p e below _ (s₁.setTop (mkF m 16 #[.val (.int (1 : Int32)), .val (.int (3 : Int32)), .val .null] []))
  refine OGo.to (fun _ k => XS.iloadN X0.here hx rfl (hb hby d18_16) rfl k) ?_
  show OGo p e below _ (s₁.setTop (mkF m 17 #[.val (.int (1 : Int32)), .val (.int (3 : Int32)), .val .null] [(.int (1 : Int32))]))
  refine OGo.ret (Q := Qpc1_3 Z  h0 n0) X0 (some (.int (1 : Int32))) (fun h => by rw [Bd.returns] at h; cases h) Bd.notSynchronized (fun fs hr => retI X0 hx Bd.returns (hb hby d18_17) hr) ?_ (by decide) (by decide)
  show Qpc1_3 Z  h0 n0 _ s₁.heap _
  rw [e0]
  exact ⟨rfl, N0, rfl⟩
theorem ef_oc1_3 (m : MethodId) (x0 : Int32) (x1 : Int32) : entryFrame m #[(.int x0), (.int x1)] 2 = mkF m 0 #[.val (.int x0), .val (.int x1)] [] := by first | (simp [entryFrame, mkF, argsToLocals, Value.category]; done) | rfl
def Qoc1_3 (Z : State)  (h0 : Heap) (n0 : Nat) (v : Option Value) (h : Heap) (L : List Loc) : Prop := v = some (.int (1 : Int32)) ∧ Fr n0 L ∧ h = h0
set_option maxRecDepth 65536 in
set_option maxHeartbeats 40000000 in
theorem rmoc1_3 (l : Launch) (Z : State) (a0 : Array Value) (hw : ∀ d ∈ tables_1, d.before a0 Z = true) (ws : List Jvm.Cond)  (h0 : Heap) (n0 : Nat) (Z0 : n0 ≤ h0.size) :
    MetFree l (⟨"java/util/Objects", "checkIndex", "(II)I"⟩ : MethodName) (head1 (Jvm.Cond.code (⟨"java/util/Objects", "checkIndex", "(II)I"⟩ : MethodName) jdk_31_method_17_code 2 (some .int) :: ws) ({ frames := 1, cells := 0, slots := 0, locals := 14 } : Room)) (fun a U => a = #[(.int (1 : Int32)), (.int (3 : Int32))] ∧ Z.Warmed39 U.vm ∧ U.heap = h0) (fun _ _ _ _ _ => True) (fun _ U o U' => ∃ v L, o = .returned v ∧ Qoc1_3 Z  h0 n0 v U'.heap L ∧ FrameEnd U o U' L ({ frames := 1, cells := 0, slots := 0, locals := 14 } : Room).cells ({ frames := 1, cells := 0, slots := 0, locals := 14 } : Room).slots) := by
  refine MetFree.of_bodySF (plainFor_of_name pn_7) hisR ?_
  intro p e s m args below meth c s₁ Bd hml0 hP hK
  obtain ⟨rfl, hZ, hh⟩ := hP
  have hx := Bd.exec
  have hby := Bd.bytes
  have hml : c.maxLocals = 2 := hml0
  have hown : s.vm.findClass "java/util/Objects" = some m.cls := findClass_of_methodNamed Bd.named
  have hnm := (name_of_methodNamed Bd.named Bd.method).1
  have X0 : Stand p l e ({ frames := 1, cells := 0, slots := 0, locals := 14 } : Room) s m #[(.int (1 : Int32)), (.int (3 : Int32))] below meth c s₁ [] 0 0 := Stand.of_body Bd
  have e0 : s₁.heap = h0 := by rw [← hh, Bd.state]; rfl
  have N0 := Fr.nil n0
  show OGo p e below (fun s₂ o => ∃ v L, o = .returned v ∧ Qoc1_3 Z  h0 n0 v s₂.heap L ∧ FrameEnd s o s₂ L ({ frames := 1, cells := 0, slots := 0, locals := 14 } : Room).cells ({ frames := 1, cells := 0, slots := 0, locals := 14 } : Room).slots) _
  refine OGo.to (fun _ k => castTop (ef_oc1_3 m (1 : Int32) (3 : Int32)) k) ?_
  refine OGo.to (fun _ k => XS.iloadN X0.here hx rfl (hb hby d17_0) rfl k) ?_
  show OGo p e below _ (s₁.setTop (mkF m 1 #[.val (.int (1 : Int32)), .val (.int (3 : Int32))] [(.int (1 : Int32))]))
  refine OGo.to (fun _ k => XS.iloadN X0.here hx rfl (hb hby d17_1) rfl k) ?_
  show OGo p e below _ (s₁.setTop (mkF m 2 #[.val (.int (1 : Int32)), .val (.int (3 : Int32))] [(.int (3 : Int32)), (.int (1 : Int32))]))
  refine OGo.to (fun _ k => XS.aconstNull X0.here hx rfl (hb hby d17_2) k) ?_
  show OGo p e below _ (s₁.setTop (mkF m 3 #[.val (.int (1 : Int32)), .val (.int (3 : Int32))] [.null, (.int (3 : Int32)), (.int (1 : Int32))]))
  obtain ⟨_, T_1, Lc_1, X_1, hQ_1, st_1⟩ := own_un X0 (Q := Qpc1_3 Z  h0 n0) (rc := 0) (rs := 0) (W := fun v B => ∀ target, Steps p.tables e below (B.setTop { (mkF m 3 #[.val (.int (1 : Int32)), .val (.int (3 : Int32))] [.null, (.int (3 : Int32)), (.int (1 : Int32))]) with pc := 6, stack := v.toList ++ [] }) target → Steps p.tables e below (s₁.setTop (mkF m 3 #[.val (.int (1 : Int32)), .val (.int (3 : Int32))] [.null, (.int (3 : Int32)), (.int (1 : Int32))])) target) <| Jvm.LawKit.callS X0 hx (y := (⟨"jdk/internal/util/Preconditions", "checkIndex", "(IILjava/util/function/BiFunction;)I"⟩ : MethodName)) hown (mvT hZ (hw _ (List.mem_of_getElem? (i := 129) rfl))) (mvT hZ (hw _ (List.mem_of_getElem? (i := 130) rfl))) (mvT hZ (hw _ (List.mem_of_getElem? (i := 131) rfl))) (mvT hZ (hw _ (List.mem_of_getElem? (i := 132) rfl))) (by decide) (backOf (W := 0) (rmpc1_3 l Z a0 hw []  h0 n0 Z0 ) hZ (hw _ (List.mem_of_getElem? (i := 132) rfl)) (hw _ (List.mem_of_getElem? (i := 131) rfl)) (by decide) (by decide)) (g := (mkF m 3 #[.val (.int (1 : Int32)), .val (.int (3 : Int32))] [.null, (.int (3 : Int32)), (.int (1 : Int32))])) rfl (by rw [hml]; rfl) (argsL := [(.int (1 : Int32)), (.int (3 : Int32)), .null]) (rest := []) (lenOf pd_5 rfl) rfl (by show 2 * 0 + _ ≤ _; exact Nat.le_of_eq rfl) (hb hby d17_3) (fun _ _ => ⟨rfl, e0, (by decide : 0 + 0 ≤ _), (by decide : 0 + 0 ≤ _)⟩)
  obtain ⟨rfl, N_1q, e_1⟩ := hQ_1
  have N_1 := Fr.app N0 N_1q
  refine OGo.to st_1 ?_
  show OGo p e below _ (T_1.setTop (mkF m 6 #[.val (.int (1 : Int32)), .val (.int (3 : Int32))] [(.int (1 : Int32))]))
  refine OGo.ret (Q := Qoc1_3 Z  h0 n0) X_1 (some (.int (1 : Int32))) (fun h => by rw [Bd.returns] at h; cases h) Bd.notSynchronized (fun fs hr => retI X_1 hx Bd.returns (hb hby d17_6) hr) ?_ (by decide) (by decide)
  show Qoc1_3 Z  h0 n0 _ T_1.heap _
  rw [e_1]
  exact ⟨rfl, N_1, rfl⟩
theorem ef_ed1_3 (m : MethodId) (x0 : Addr) (x1 : Int32) : entryFrame m #[(.ref x0), (.int x1)] 2 = mkF m 0 #[.val (.ref x0), .val (.int x1)] [] := by first | (simp [entryFrame, mkF, argsToLocals, Value.category]; done) | rfl
def Qed1_3 (Z : State) (a1 : Addr) (t1 : Addr) (kb : ClassId) (x0 : Addr) (x1 : Addr) (x2 : Addr) (h0 : Heap) (n0 : Nat) (v : Option Value) (h : Heap) (L : List Loc) : Prop := v = some (.ref x1) ∧ Fr n0 L ∧ h = h0
set_option maxRecDepth 65536 in
set_option maxHeartbeats 40000000 in
theorem rmed1_3 (l : Launch) (Z : State) (a0 : Array Value) (hw : ∀ d ∈ tables_1, d.before a0 Z = true) (ws : List Jvm.Cond) (a1 : Addr) (t1 : Addr) (kb : ClassId) (x0 : Addr) (x1 : Addr) (x2 : Addr) (h0 : Heap) (n0 : Nat) (Z0 : n0 ≤ h0.size) (E1 : Exa Z h0 a1 "java/util/ArrayList") (F2 : Fld Z h0 a1 "java/util/ArrayList" "size" "I" (.int (3 : Int32))) (F3 : Fld Z h0 a1 "java/util/ArrayList" "elementData" "[Ljava/lang/Object;" (.ref t1)) (V1 : Arv Z h0 t1 kb (.object "java/lang/Object") (10 : Int32) [(.ref x0), (.ref x1), (.ref x2), .null, .null, .null, .null, .null, .null, .null] .null) :
    MetFree l (⟨"java/util/ArrayList", "elementData", "(I)Ljava/lang/Object;"⟩ : MethodName) (head1 (Jvm.Cond.code (⟨"java/util/ArrayList", "elementData", "(I)Ljava/lang/Object;"⟩ : MethodName) jdk_38_method_18_code 2 (some (.object "java/lang/Object")) :: ws) ({ frames := 0, cells := 0, slots := 0, locals := 0 } : Room)) (fun a U => a = #[(.ref a1), (.int (1 : Int32))] ∧ Z.Warmed39 U.vm ∧ U.heap = h0) (fun _ _ _ _ _ => True) (fun _ U o U' => ∃ v L, o = .returned v ∧ Qed1_3 Z a1 t1 kb x0 x1 x2 h0 n0 v U'.heap L ∧ FrameEnd U o U' L ({ frames := 0, cells := 0, slots := 0, locals := 0 } : Room).cells ({ frames := 0, cells := 0, slots := 0, locals := 0 } : Room).slots) := by
  refine MetFree.of_bodySF (plainFor_of_name pn_3) hisR ?_
  intro p e s m args below meth c s₁ Bd hml0 hP hK
  obtain ⟨rfl, hZ, hh⟩ := hP
  have hx := Bd.exec
  have hby := Bd.bytes
  have hml : c.maxLocals = 2 := hml0
  have hown : s.vm.findClass "java/util/ArrayList" = some m.cls := findClass_of_methodNamed Bd.named
  have hnm := (name_of_methodNamed Bd.named Bd.method).1
  have X0 : Stand p l e ({ frames := 0, cells := 0, slots := 0, locals := 0 } : Room) s m #[(.ref a1), (.int (1 : Int32))] below meth c s₁ [] 0 0 := Stand.of_body Bd
  have e0 : s₁.heap = h0 := by rw [← hh, Bd.state]; rfl
  have N0 := Fr.nil n0
  show OGo p e below (fun s₂ o => ∃ v L, o = .returned v ∧ Qed1_3 Z a1 t1 kb x0 x1 x2 h0 n0 v s₂.heap L ∧ FrameEnd s o s₂ L ({ frames := 0, cells := 0, slots := 0, locals := 0 } : Room).cells ({ frames := 0, cells := 0, slots := 0, locals := 0 } : Room).slots) _
  refine OGo.to (fun _ k => castTop (ef_ed1_3 m a1 (1 : Int32)) k) ?_
  refine OGo.to (fun _ k => XS.aloadN X0.here hx rfl (hb hby d19_0) rfl rfl k) ?_
  show OGo p e below _ (s₁.setTop (mkF m 1 #[.val (.ref a1), .val (.int (1 : Int32))] [(.ref a1)]))
  obtain ⟨T_1, X_1, e_1, st_1⟩ := getF X0 hx hZ hown (host := "") (Or.inl (hw _ (List.mem_of_getElem? (i := 25) rfl))) Via.refl e0 F3 (g := (mkF m 1 #[.val (.ref a1), .val (.int (1 : Int32))] [(.ref a1)])) rfl rfl (hb hby d19_1)
  refine OGo.to st_1 ?_
  show OGo p e below _ (T_1.setTop (mkF m 4 #[.val (.ref a1), .val (.int (1 : Int32))] [(.ref t1)]))
  refine OGo.to (fun _ k => XS.iloadN X_1.here hx rfl (hb hby d19_4) rfl k) ?_
  show OGo p e below _ (T_1.setTop (mkF m 5 #[.val (.ref a1), .val (.int (1 : Int32))] [(.int (1 : Int32)), (.ref t1)]))
  have Vq_2 := V1
  obtain ⟨cl_2, Ar_2, q_2, S_2, M_2, Hs_2, G_2⟩ := Vq_2
  have hin_3 : ¬ ((1 : Int32) < 0 ∨ cl_2.slots.size ≤ ((1 : Int32)).toNatClampNeg) := inb_of S_2 ⟨by decide, by decide⟩
  have hat_3 : cl_2.slots[((1 : Int32)).toNatClampNeg]? = some (.ref x1) := Hs_2.at hin_3 (rfl)
  refine OGo.to (fun _ k => X_1.aaload hx (j := (1 : Int32)) (v := (.ref x1)) (by rw [e_1]; exact Ar_2.1) (State.isArrayOf_alike hZ.alike Ar_2.2.1) rfl Ar_2.2.2 hin_3 hat_3 (g := (mkF m 5 #[.val (.ref a1), .val (.int (1 : Int32))] [(.int (1 : Int32)), (.ref t1)])) rfl rfl (hb hby d19_5) _ k) ?_
  show OGo p e below _ (T_1.setTop (mkF m 6 #[.val (.ref a1), .val (.int (1 : Int32))] [(.ref x1)]))
  refine OGo.ret (Q := Qed1_3 Z a1 t1 kb x0 x1 x2 h0 n0) X_1 (some (.ref x1)) (fun h => by rw [Bd.returns] at h; cases h) Bd.notSynchronized (fun fs hr => own_retA X_1 hx Bd.returns rfl rfl (hb hby d19_6) hr) ?_ (by decide) (by decide)
  show Qed1_3 Z a1 t1 kb x0 x1 x2 h0 n0 _ T_1.heap _
  rw [e_1]
  exact ⟨rfl, N0, rfl⟩
theorem ef_get1_3 (m : MethodId) (x0 : Addr) (x1 : Int32) : entryFrame m #[(.ref x0), (.int x1)] 2 = mkF m 0 #[.val (.ref x0), .val (.int x1)] [] := by first | (simp [entryFrame, mkF, argsToLocals, Value.category]; done) | rfl
def Qget1_3 (Z : State) (a1 : Addr) (t1 : Addr) (kb : ClassId) (x0 : Addr) (x1 : Addr) (x2 : Addr) (h0 : Heap) (n0 : Nat) (v : Option Value) (h : Heap) (L : List Loc) : Prop := v = some (.ref x1) ∧ Fr n0 L ∧ h = h0
set_option maxRecDepth 65536 in
set_option maxHeartbeats 40000000 in
theorem rmget1_3 (l : Launch) (Z : State) (a0 : Array Value) (hw : ∀ d ∈ tables_1, d.before a0 Z = true) (ws : List Jvm.Cond) (a1 : Addr) (t1 : Addr) (kb : ClassId) (x0 : Addr) (x1 : Addr) (x2 : Addr) (h0 : Heap) (n0 : Nat) (Z0 : n0 ≤ h0.size) (E1 : Exa Z h0 a1 "java/util/ArrayList") (F2 : Fld Z h0 a1 "java/util/ArrayList" "size" "I" (.int (3 : Int32))) (F3 : Fld Z h0 a1 "java/util/ArrayList" "elementData" "[Ljava/lang/Object;" (.ref t1)) (V1 : Arv Z h0 t1 kb (.object "java/lang/Object") (10 : Int32) [(.ref x0), (.ref x1), (.ref x2), .null, .null, .null, .null, .null, .null, .null] .null) :
    MetFree l (⟨"java/util/ArrayList", "get", "(I)Ljava/lang/Object;"⟩ : MethodName) (head1 (Jvm.Cond.code (⟨"java/util/ArrayList", "get", "(I)Ljava/lang/Object;"⟩ : MethodName) jdk_38_method_20_code 2 (some (.object "java/lang/Object")) :: ws) ({ frames := 2, cells := 0, slots := 0, locals := 27 } : Room)) (fun a U => a = #[(.ref a1), (.int (1 : Int32))] ∧ Z.Warmed39 U.vm ∧ U.heap = h0) (fun _ _ _ _ _ => True) (fun _ U o U' => ∃ v L, o = .returned v ∧ Qget1_3 Z a1 t1 kb x0 x1 x2 h0 n0 v U'.heap L ∧ FrameEnd U o U' L ({ frames := 2, cells := 0, slots := 0, locals := 27 } : Room).cells ({ frames := 2, cells := 0, slots := 0, locals := 27 } : Room).slots) := by
  refine MetFree.of_bodySF (plainFor_of_name pn_3) hisR ?_
  intro p e s m args below meth c s₁ Bd hml0 hP hK
  obtain ⟨rfl, hZ, hh⟩ := hP
  have hx := Bd.exec
  have hby := Bd.bytes
  have hml : c.maxLocals = 2 := hml0
  have hown : s.vm.findClass "java/util/ArrayList" = some m.cls := findClass_of_methodNamed Bd.named
  have hnm := (name_of_methodNamed Bd.named Bd.method).1
  have X0 : Stand p l e ({ frames := 2, cells := 0, slots := 0, locals := 27 } : Room) s m #[(.ref a1), (.int (1 : Int32))] below meth c s₁ [] 0 0 := Stand.of_body Bd
  have e0 : s₁.heap = h0 := by rw [← hh, Bd.state]; rfl
  have N0 := Fr.nil n0
  show OGo p e below (fun s₂ o => ∃ v L, o = .returned v ∧ Qget1_3 Z a1 t1 kb x0 x1 x2 h0 n0 v s₂.heap L ∧ FrameEnd s o s₂ L ({ frames := 2, cells := 0, slots := 0, locals := 27 } : Room).cells ({ frames := 2, cells := 0, slots := 0, locals := 27 } : Room).slots) _
  refine OGo.to (fun _ k => castTop (ef_get1_3 m a1 (1 : Int32)) k) ?_
  refine OGo.to (fun _ k => XS.iloadN X0.here hx rfl (hb hby d16_0) rfl k) ?_
  show OGo p e below _ (s₁.setTop (mkF m 1 #[.val (.ref a1), .val (.int (1 : Int32))] [(.int (1 : Int32))]))
  refine OGo.to (fun _ k => XS.aloadN X0.here hx rfl (hb hby d16_1) rfl rfl k) ?_
  show OGo p e below _ (s₁.setTop (mkF m 2 #[.val (.ref a1), .val (.int (1 : Int32))] [(.ref a1), (.int (1 : Int32))]))
  obtain ⟨T_1, X_1, e_1, st_1⟩ := getF X0 hx hZ hown (host := "") (Or.inl (hw _ (List.mem_of_getElem? (i := 50) rfl))) Via.refl e0 F2 (g := (mkF m 2 #[.val (.ref a1), .val (.int (1 : Int32))] [(.ref a1), (.int (1 : Int32))])) rfl rfl (hb hby d16_2)
  refine OGo.to st_1 ?_
  show OGo p e below _ (T_1.setTop (mkF m 5 #[.val (.ref a1), .val (.int (1 : Int32))] [(.int (3 : Int32)), (.int (1 : Int32))]))
  obtain ⟨_, T_2, Lc_2, X_2, hQ_2, st_2⟩ := own_un X_1 (Q := Qoc1_3 Z  h0 n0) (rc := 0) (rs := 0) (W := fun v B => ∀ target, Steps p.tables e below (B.setTop { (mkF m 5 #[.val (.ref a1), .val (.int (1 : Int32))] [(.int (3 : Int32)), (.int (1 : Int32))]) with pc := 8, stack := v.toList ++ [] }) target → Steps p.tables e below (T_1.setTop (mkF m 5 #[.val (.ref a1), .val (.int (1 : Int32))] [(.int (3 : Int32)), (.int (1 : Int32))])) target) <| Jvm.LawKit.callS X_1 hx (y := (⟨"java/util/Objects", "checkIndex", "(II)I"⟩ : MethodName)) hown (mvT hZ (hw _ (List.mem_of_getElem? (i := 125) rfl))) (mvT hZ (hw _ (List.mem_of_getElem? (i := 126) rfl))) (mvT hZ (hw _ (List.mem_of_getElem? (i := 127) rfl))) (mvT hZ (hw _ (List.mem_of_getElem? (i := 128) rfl))) (by decide) (backOf (W := 0) (rmoc1_3 l Z a0 hw []  h0 n0 Z0 ) hZ (hw _ (List.mem_of_getElem? (i := 128) rfl)) (hw _ (List.mem_of_getElem? (i := 127) rfl)) (by decide) (by decide)) (g := (mkF m 5 #[.val (.ref a1), .val (.int (1 : Int32))] [(.int (3 : Int32)), (.int (1 : Int32))])) rfl (by rw [hml]; rfl) (argsL := [(.int (1 : Int32)), (.int (3 : Int32))]) (rest := []) (lenOf pd_1 rfl) rfl (by show 2 * 0 + _ ≤ _; exact Nat.le_of_eq rfl) (hb hby d16_5) (fun _ _ => ⟨rfl, e_1, (by decide : 0 + 0 ≤ _), (by decide : 0 + 0 ≤ _)⟩)
  obtain ⟨rfl, N_2q, e_2⟩ := hQ_2
  have N_2 := Fr.app N0 N_2q
  refine OGo.to st_2 ?_
  show OGo p e below _ (T_2.setTop (mkF m 8 #[.val (.ref a1), .val (.int (1 : Int32))] [(.int (1 : Int32))]))
  refine OGo.to (fun _ k => XS.pop X_2.here hx rfl (hb hby d16_8) rfl rfl k) ?_
  show OGo p e below _ (T_2.setTop (mkF m 9 #[.val (.ref a1), .val (.int (1 : Int32))] []))
  refine OGo.to (fun _ k => XS.aloadN X_2.here hx rfl (hb hby d16_9) rfl rfl k) ?_
  show OGo p e below _ (T_2.setTop (mkF m 10 #[.val (.ref a1), .val (.int (1 : Int32))] [(.ref a1)]))
  refine OGo.to (fun _ k => XS.iloadN X_2.here hx rfl (hb hby d16_10) rfl k) ?_
  show OGo p e below _ (T_2.setTop (mkF m 11 #[.val (.ref a1), .val (.int (1 : Int32))] [(.int (1 : Int32)), (.ref a1)]))
  obtain ⟨cq_3, kq_3, q_3a, q_3b, q_3c⟩ := isOf hZ e_2 E1
  obtain ⟨_, T_3, Lc_3, X_3, hQ_3, st_3⟩ := own_un X_2 (Q := Qed1_3 Z a1 t1 kb x0 x1 x2 h0 n0) (rc := 0) (rs := 0) (W := fun v B => Steps p.tables e below (T_2.setTop (mkF m 11 #[.val (.ref a1), .val (.int (1 : Int32))] [(.int (1 : Int32)), (.ref a1)])) (B.setTop { (mkF m 11 #[.val (.ref a1), .val (.int (1 : Int32))] [(.int (1 : Int32)), (.ref a1)]) with pc := 14, stack := v.toList ++ [] })) <| X_2.virtualBack hx (y := (⟨"java/util/ArrayList", "elementData", "(I)Ljava/lang/Object;"⟩ : MethodName)) (z := (⟨"java/util/ArrayList", "elementData", "(I)Ljava/lang/Object;"⟩ : MethodName)) hown (mvT hZ (hw _ (List.mem_of_getElem? (i := 133) rfl))) (mvT hZ (hw _ (List.mem_of_getElem? (i := 134) rfl))) (notFace_of_selects (args := #[]) (mvT hZ (hw _ (List.mem_of_getElem? (i := 136) rfl)))) (mvT hZ (hw _ (List.mem_of_getElem? (i := 136) rfl))) (mvT hZ (hw _ (List.mem_of_getElem? (i := 135) rfl))) (by decide) (backOf (W := 0) (rmed1_3 l Z a0 hw [] a1 t1 kb x0 x1 x2 h0 n0 Z0 E1 F2 F3 V1) hZ (hw _ (List.mem_of_getElem? (i := 137) rfl)) (hw _ (List.mem_of_getElem? (i := 3) rfl)) (by decide) (by decide)) q_3a q_3c (g := (mkF m 11 #[.val (.ref a1), .val (.int (1 : Int32))] [(.int (1 : Int32)), (.ref a1)])) rfl (by rw [hml]; rfl) (Steps.refl _) (argsL := [(.int (1 : Int32))]) (rest := []) (lenOf pd_6 rfl) rfl (by show 2 * 0 + _ ≤ _; exact Nat.le_of_eq rfl) (hb hby d16_11) (fun _ _ => ⟨rfl, e_2, (by decide : 0 + 0 ≤ _), (by decide : 0 + 0 ≤ _)⟩)
  obtain ⟨rfl, N_3q, e_3⟩ := hQ_3
  have N_3 := Fr.app N_2 N_3q
  refine OGo.to (fun _ k => st_3.trans k) ?_
  show OGo p e below _ (T_3.setTop (mkF m 14 #[.val (.ref a1), .val (.int (1 : Int32))] [(.ref x1)]))
  refine OGo.ret (Q := Qget1_3 Z a1 t1 kb x0 x1 x2 h0 n0) X_3 (some (.ref x1)) (fun h => by rw [Bd.returns] at h; cases h) Bd.notSynchronized (fun fs hr => own_retA X_3 hx Bd.returns rfl rfl (hb hby d16_14) hr) ?_ (by decide) (by decide)
  show Qget1_3 Z a1 t1 kb x0 x1 x2 h0 n0 _ T_3.heap _
  rw [e_3]
  exact ⟨rfl, N_3, rfl⟩
theorem ef_pc2_3 (m : MethodId) (x0 : Int32) (x1 : Int32) : entryFrame m #[(.int x0), (.int x1), .null] 3 = mkF m 0 #[.val (.int x0), .val (.int x1), .val .null] [] := by first | (simp [entryFrame, mkF, argsToLocals, Value.category]; done) | rfl
def Qpc2_3 (Z : State)  (h0 : Heap) (n0 : Nat) (v : Option Value) (h : Heap) (L : List Loc) : Prop := v = some (.int (2 : Int32)) ∧ Fr n0 L ∧ h = h0
set_option maxRecDepth 65536 in
set_option maxHeartbeats 40000000 in
theorem rmpc2_3 (l : Launch) (Z : State) (a0 : Array Value) (hw : ∀ d ∈ tables_1, d.before a0 Z = true) (ws : List Jvm.Cond)  (h0 : Heap) (n0 : Nat) (Z0 : n0 ≤ h0.size) :
    MetFree l (⟨"jdk/internal/util/Preconditions", "checkIndex", "(IILjava/util/function/BiFunction;)I"⟩ : MethodName) (head1 (Jvm.Cond.code (⟨"jdk/internal/util/Preconditions", "checkIndex", "(IILjava/util/function/BiFunction;)I"⟩ : MethodName) jdk_41_method_11_code 3 (some .int) :: ws) ({ frames := 0, cells := 0, slots := 0, locals := 0 } : Room)) (fun a U => a = #[(.int (2 : Int32)), (.int (3 : Int32)), .null] ∧ Z.Warmed39 U.vm ∧ U.heap = h0) (fun _ _ _ _ _ => True) (fun _ U o U' => ∃ v L, o = .returned v ∧ Qpc2_3 Z  h0 n0 v U'.heap L ∧ FrameEnd U o U' L ({ frames := 0, cells := 0, slots := 0, locals := 0 } : Room).cells ({ frames := 0, cells := 0, slots := 0, locals := 0 } : Room).slots) := by
  refine MetFree.of_bodySF (plainFor_of_name pn_6) hisR ?_
  intro p e s m args below meth c s₁ Bd hml0 hP hK
  obtain ⟨rfl, hZ, hh⟩ := hP
  have hx := Bd.exec
  have hby := Bd.bytes
  have hml : c.maxLocals = 3 := hml0
  have hown : s.vm.findClass "jdk/internal/util/Preconditions" = some m.cls := findClass_of_methodNamed Bd.named
  have hnm := (name_of_methodNamed Bd.named Bd.method).1
  have X0 : Stand p l e ({ frames := 0, cells := 0, slots := 0, locals := 0 } : Room) s m #[(.int (2 : Int32)), (.int (3 : Int32)), .null] below meth c s₁ [] 0 0 := Stand.of_body Bd
  have e0 : s₁.heap = h0 := by rw [← hh, Bd.state]; rfl
  have N0 := Fr.nil n0
  show OGo p e below (fun s₂ o => ∃ v L, o = .returned v ∧ Qpc2_3 Z  h0 n0 v s₂.heap L ∧ FrameEnd s o s₂ L ({ frames := 0, cells := 0, slots := 0, locals := 0 } : Room).cells ({ frames := 0, cells := 0, slots := 0, locals := 0 } : Room).slots) _
  refine OGo.to (fun _ k => castTop (ef_pc2_3 m (2 : Int32) (3 : Int32)) k) ?_
  refine OGo.to (fun _ k => XS.iloadN X0.here hx rfl (hb hby d18_0) rfl k) ?_
  show OGo p e below _ (s₁.setTop (mkF m 1 #[.val (.int (2 : Int32)), .val (.int (3 : Int32)), .val .null] [(.int (2 : Int32))]))
  have hc1__1 : ¬ ((2 : Int32) < (0 : Int32)) := by decide
  refine OGo.to (fun _ k => XS.ifNo X0.here hx rfl (hb hby d18_1) rfl ((if0 _ _).trans (flt hc1__1).1) k) ?_
  show OGo p e below _ (s₁.setTop (mkF m 4 #[.val (.int (2 : Int32)), .val (.int (3 : Int32)), .val .null] []))
  refine OGo.to (fun _ k => XS.iloadN X0.here hx rfl (hb hby d18_4) rfl k) ?_
  show OGo p e below _ (s₁.setTop (mkF m 5 #[.val (.int (2 : Int32)), .val (.int (3 : Int32)), .val .null] [(.int (2 : Int32))]))
  refine OGo.to (fun _ k => XS.iloadN X0.here hx rfl (hb hby d18_5) rfl k) ?_
  show OGo p e below _ (s₁.setTop (mkF m 6 #[.val (.int (2 : Int32)), .val (.int (3 : Int32)), .val .null] [(.int (3 : Int32)), (.int (2 : Int32))]))
  have hc6__2 : (2 : Int32) < (3 : Int32) := by decide
  refine OGo.to (fun _ k => XS.icmpYes X0.here hx rfl (pc0 := 6) (pc' := 16) rfl (hb hby d18_6) rfl (tlt hc6__2).1 (by decide) (by decide) k) ?_
  show OGo p e below _ (s₁.setTop (mkF m 16 #[.val (.int (2 : Int32)), .val (.int (3 : Int32)), .val .null] []))
  refine OGo.to (fun _ k => XS.iloadN X0.here hx rfl (hb hby d18_16) rfl k) ?_
  show OGo p e below _ (s₁.setTop (mkF m 17 #[.val (.int (2 : Int32)), .val (.int (3 : Int32)), .val .null] [(.int (2 : Int32))]))
  refine OGo.ret (Q := Qpc2_3 Z  h0 n0) X0 (some (.int (2 : Int32))) (fun h => by rw [Bd.returns] at h; cases h) Bd.notSynchronized (fun fs hr => retI X0 hx Bd.returns (hb hby d18_17) hr) ?_ (by decide) (by decide)
  show Qpc2_3 Z  h0 n0 _ s₁.heap _
  rw [e0]
  exact ⟨rfl, N0, rfl⟩
theorem ef_oc2_3 (m : MethodId) (x0 : Int32) (x1 : Int32) : entryFrame m #[(.int x0), (.int x1)] 2 = mkF m 0 #[.val (.int x0), .val (.int x1)] [] := by first | (simp [entryFrame, mkF, argsToLocals, Value.category]; done) | rfl
def Qoc2_3 (Z : State)  (h0 : Heap) (n0 : Nat) (v : Option Value) (h : Heap) (L : List Loc) : Prop := v = some (.int (2 : Int32)) ∧ Fr n0 L ∧ h = h0
set_option maxRecDepth 65536 in
set_option maxHeartbeats 40000000 in
theorem rmoc2_3 (l : Launch) (Z : State) (a0 : Array Value) (hw : ∀ d ∈ tables_1, d.before a0 Z = true) (ws : List Jvm.Cond)  (h0 : Heap) (n0 : Nat) (Z0 : n0 ≤ h0.size) :
    MetFree l (⟨"java/util/Objects", "checkIndex", "(II)I"⟩ : MethodName) (head1 (Jvm.Cond.code (⟨"java/util/Objects", "checkIndex", "(II)I"⟩ : MethodName) jdk_31_method_17_code 2 (some .int) :: ws) ({ frames := 1, cells := 0, slots := 0, locals := 14 } : Room)) (fun a U => a = #[(.int (2 : Int32)), (.int (3 : Int32))] ∧ Z.Warmed39 U.vm ∧ U.heap = h0) (fun _ _ _ _ _ => True) (fun _ U o U' => ∃ v L, o = .returned v ∧ Qoc2_3 Z  h0 n0 v U'.heap L ∧ FrameEnd U o U' L ({ frames := 1, cells := 0, slots := 0, locals := 14 } : Room).cells ({ frames := 1, cells := 0, slots := 0, locals := 14 } : Room).slots) := by
  refine MetFree.of_bodySF (plainFor_of_name pn_7) hisR ?_
  intro p e s m args below meth c s₁ Bd hml0 hP hK
  obtain ⟨rfl, hZ, hh⟩ := hP
  have hx := Bd.exec
  have hby := Bd.bytes
  have hml : c.maxLocals = 2 := hml0
  have hown : s.vm.findClass "java/util/Objects" = some m.cls := findClass_of_methodNamed Bd.named
  have hnm := (name_of_methodNamed Bd.named Bd.method).1
  have X0 : Stand p l e ({ frames := 1, cells := 0, slots := 0, locals := 14 } : Room) s m #[(.int (2 : Int32)), (.int (3 : Int32))] below meth c s₁ [] 0 0 := Stand.of_body Bd
  have e0 : s₁.heap = h0 := by rw [← hh, Bd.state]; rfl
  have N0 := Fr.nil n0
  show OGo p e below (fun s₂ o => ∃ v L, o = .returned v ∧ Qoc2_3 Z  h0 n0 v s₂.heap L ∧ FrameEnd s o s₂ L ({ frames := 1, cells := 0, slots := 0, locals := 14 } : Room).cells ({ frames := 1, cells := 0, slots := 0, locals := 14 } : Room).slots) _
  refine OGo.to (fun _ k => castTop (ef_oc2_3 m (2 : Int32) (3 : Int32)) k) ?_
  refine OGo.to (fun _ k => XS.iloadN X0.here hx rfl (hb hby d17_0) rfl k) ?_
  show OGo p e below _ (s₁.setTop (mkF m 1 #[.val (.int (2 : Int32)), .val (.int (3 : Int32))] [(.int (2 : Int32))]))
  refine OGo.to (fun _ k => XS.iloadN X0.here hx rfl (hb hby d17_1) rfl k) ?_
  show OGo p e below _ (s₁.setTop (mkF m 2 #[.val (.int (2 : Int32)), .val (.int (3 : Int32))] [(.int (3 : Int32)), (.int (2 : Int32))]))
  refine OGo.to (fun _ k => XS.aconstNull X0.here hx rfl (hb hby d17_2) k) ?_
  show OGo p e below _ (s₁.setTop (mkF m 3 #[.val (.int (2 : Int32)), .val (.int (3 : Int32))] [.null, (.int (3 : Int32)), (.int (2 : Int32))]))
  obtain ⟨_, T_1, Lc_1, X_1, hQ_1, st_1⟩ := own_un X0 (Q := Qpc2_3 Z  h0 n0) (rc := 0) (rs := 0) (W := fun v B => ∀ target, Steps p.tables e below (B.setTop { (mkF m 3 #[.val (.int (2 : Int32)), .val (.int (3 : Int32))] [.null, (.int (3 : Int32)), (.int (2 : Int32))]) with pc := 6, stack := v.toList ++ [] }) target → Steps p.tables e below (s₁.setTop (mkF m 3 #[.val (.int (2 : Int32)), .val (.int (3 : Int32))] [.null, (.int (3 : Int32)), (.int (2 : Int32))])) target) <| Jvm.LawKit.callS X0 hx (y := (⟨"jdk/internal/util/Preconditions", "checkIndex", "(IILjava/util/function/BiFunction;)I"⟩ : MethodName)) hown (mvT hZ (hw _ (List.mem_of_getElem? (i := 129) rfl))) (mvT hZ (hw _ (List.mem_of_getElem? (i := 130) rfl))) (mvT hZ (hw _ (List.mem_of_getElem? (i := 131) rfl))) (mvT hZ (hw _ (List.mem_of_getElem? (i := 132) rfl))) (by decide) (backOf (W := 0) (rmpc2_3 l Z a0 hw []  h0 n0 Z0 ) hZ (hw _ (List.mem_of_getElem? (i := 132) rfl)) (hw _ (List.mem_of_getElem? (i := 131) rfl)) (by decide) (by decide)) (g := (mkF m 3 #[.val (.int (2 : Int32)), .val (.int (3 : Int32))] [.null, (.int (3 : Int32)), (.int (2 : Int32))])) rfl (by rw [hml]; rfl) (argsL := [(.int (2 : Int32)), (.int (3 : Int32)), .null]) (rest := []) (lenOf pd_5 rfl) rfl (by show 2 * 0 + _ ≤ _; exact Nat.le_of_eq rfl) (hb hby d17_3) (fun _ _ => ⟨rfl, e0, (by decide : 0 + 0 ≤ _), (by decide : 0 + 0 ≤ _)⟩)
  obtain ⟨rfl, N_1q, e_1⟩ := hQ_1
  have N_1 := Fr.app N0 N_1q
  refine OGo.to st_1 ?_
  show OGo p e below _ (T_1.setTop (mkF m 6 #[.val (.int (2 : Int32)), .val (.int (3 : Int32))] [(.int (2 : Int32))]))
  refine OGo.ret (Q := Qoc2_3 Z  h0 n0) X_1 (some (.int (2 : Int32))) (fun h => by rw [Bd.returns] at h; cases h) Bd.notSynchronized (fun fs hr => retI X_1 hx Bd.returns (hb hby d17_6) hr) ?_ (by decide) (by decide)
  show Qoc2_3 Z  h0 n0 _ T_1.heap _
  rw [e_1]
  exact ⟨rfl, N_1, rfl⟩
theorem ef_ed2_3 (m : MethodId) (x0 : Addr) (x1 : Int32) : entryFrame m #[(.ref x0), (.int x1)] 2 = mkF m 0 #[.val (.ref x0), .val (.int x1)] [] := by first | (simp [entryFrame, mkF, argsToLocals, Value.category]; done) | rfl
def Qed2_3 (Z : State) (a1 : Addr) (t1 : Addr) (kb : ClassId) (x0 : Addr) (x1 : Addr) (x2 : Addr) (h0 : Heap) (n0 : Nat) (v : Option Value) (h : Heap) (L : List Loc) : Prop := v = some (.ref x2) ∧ Fr n0 L ∧ h = h0
set_option maxRecDepth 65536 in
set_option maxHeartbeats 40000000 in
theorem rmed2_3 (l : Launch) (Z : State) (a0 : Array Value) (hw : ∀ d ∈ tables_1, d.before a0 Z = true) (ws : List Jvm.Cond) (a1 : Addr) (t1 : Addr) (kb : ClassId) (x0 : Addr) (x1 : Addr) (x2 : Addr) (h0 : Heap) (n0 : Nat) (Z0 : n0 ≤ h0.size) (E1 : Exa Z h0 a1 "java/util/ArrayList") (F2 : Fld Z h0 a1 "java/util/ArrayList" "size" "I" (.int (3 : Int32))) (F3 : Fld Z h0 a1 "java/util/ArrayList" "elementData" "[Ljava/lang/Object;" (.ref t1)) (V1 : Arv Z h0 t1 kb (.object "java/lang/Object") (10 : Int32) [(.ref x0), (.ref x1), (.ref x2), .null, .null, .null, .null, .null, .null, .null] .null) :
    MetFree l (⟨"java/util/ArrayList", "elementData", "(I)Ljava/lang/Object;"⟩ : MethodName) (head1 (Jvm.Cond.code (⟨"java/util/ArrayList", "elementData", "(I)Ljava/lang/Object;"⟩ : MethodName) jdk_38_method_18_code 2 (some (.object "java/lang/Object")) :: ws) ({ frames := 0, cells := 0, slots := 0, locals := 0 } : Room)) (fun a U => a = #[(.ref a1), (.int (2 : Int32))] ∧ Z.Warmed39 U.vm ∧ U.heap = h0) (fun _ _ _ _ _ => True) (fun _ U o U' => ∃ v L, o = .returned v ∧ Qed2_3 Z a1 t1 kb x0 x1 x2 h0 n0 v U'.heap L ∧ FrameEnd U o U' L ({ frames := 0, cells := 0, slots := 0, locals := 0 } : Room).cells ({ frames := 0, cells := 0, slots := 0, locals := 0 } : Room).slots) := by
  refine MetFree.of_bodySF (plainFor_of_name pn_3) hisR ?_
  intro p e s m args below meth c s₁ Bd hml0 hP hK
  obtain ⟨rfl, hZ, hh⟩ := hP
  have hx := Bd.exec
  have hby := Bd.bytes
  have hml : c.maxLocals = 2 := hml0
  have hown : s.vm.findClass "java/util/ArrayList" = some m.cls := findClass_of_methodNamed Bd.named
  have hnm := (name_of_methodNamed Bd.named Bd.method).1
  have X0 : Stand p l e ({ frames := 0, cells := 0, slots := 0, locals := 0 } : Room) s m #[(.ref a1), (.int (2 : Int32))] below meth c s₁ [] 0 0 := Stand.of_body Bd
  have e0 : s₁.heap = h0 := by rw [← hh, Bd.state]; rfl
  have N0 := Fr.nil n0
  show OGo p e below (fun s₂ o => ∃ v L, o = .returned v ∧ Qed2_3 Z a1 t1 kb x0 x1 x2 h0 n0 v s₂.heap L ∧ FrameEnd s o s₂ L ({ frames := 0, cells := 0, slots := 0, locals := 0 } : Room).cells ({ frames := 0, cells := 0, slots := 0, locals := 0 } : Room).slots) _
  refine OGo.to (fun _ k => castTop (ef_ed2_3 m a1 (2 : Int32)) k) ?_
  refine OGo.to (fun _ k => XS.aloadN X0.here hx rfl (hb hby d19_0) rfl rfl k) ?_
  show OGo p e below _ (s₁.setTop (mkF m 1 #[.val (.ref a1), .val (.int (2 : Int32))] [(.ref a1)]))
  obtain ⟨T_1, X_1, e_1, st_1⟩ := getF X0 hx hZ hown (host := "") (Or.inl (hw _ (List.mem_of_getElem? (i := 25) rfl))) Via.refl e0 F3 (g := (mkF m 1 #[.val (.ref a1), .val (.int (2 : Int32))] [(.ref a1)])) rfl rfl (hb hby d19_1)
  refine OGo.to st_1 ?_
  show OGo p e below _ (T_1.setTop (mkF m 4 #[.val (.ref a1), .val (.int (2 : Int32))] [(.ref t1)]))
  refine OGo.to (fun _ k => XS.iloadN X_1.here hx rfl (hb hby d19_4) rfl k) ?_
  show OGo p e below _ (T_1.setTop (mkF m 5 #[.val (.ref a1), .val (.int (2 : Int32))] [(.int (2 : Int32)), (.ref t1)]))
  have Vq_2 := V1
  obtain ⟨cl_2, Ar_2, q_2, S_2, M_2, Hs_2, G_2⟩ := Vq_2
  have hin_3 : ¬ ((2 : Int32) < 0 ∨ cl_2.slots.size ≤ ((2 : Int32)).toNatClampNeg) := inb_of S_2 ⟨by decide, by decide⟩
  have hat_3 : cl_2.slots[((2 : Int32)).toNatClampNeg]? = some (.ref x2) := Hs_2.at hin_3 (rfl)
  refine OGo.to (fun _ k => X_1.aaload hx (j := (2 : Int32)) (v := (.ref x2)) (by rw [e_1]; exact Ar_2.1) (State.isArrayOf_alike hZ.alike Ar_2.2.1) rfl Ar_2.2.2 hin_3 hat_3 (g := (mkF m 5 #[.val (.ref a1), .val (.int (2 : Int32))] [(.int (2 : Int32)), (.ref t1)])) rfl rfl (hb hby d19_5) _ k) ?_
  show OGo p e below _ (T_1.setTop (mkF m 6 #[.val (.ref a1), .val (.int (2 : Int32))] [(.ref x2)]))
  refine OGo.ret (Q := Qed2_3 Z a1 t1 kb x0 x1 x2 h0 n0) X_1 (some (.ref x2)) (fun h => by rw [Bd.returns] at h; cases h) Bd.notSynchronized (fun fs hr => own_retA X_1 hx Bd.returns rfl rfl (hb hby d19_6) hr) ?_ (by decide) (by decide)
  show Qed2_3 Z a1 t1 kb x0 x1 x2 h0 n0 _ T_1.heap _
  rw [e_1]
  exact ⟨rfl, N0, rfl⟩
theorem ef_get2_3 (m : MethodId) (x0 : Addr) (x1 : Int32) : entryFrame m #[(.ref x0), (.int x1)] 2 = mkF m 0 #[.val (.ref x0), .val (.int x1)] [] := by first | (simp [entryFrame, mkF, argsToLocals, Value.category]; done) | rfl
def Qget2_3 (Z : State) (a1 : Addr) (t1 : Addr) (kb : ClassId) (x0 : Addr) (x1 : Addr) (x2 : Addr) (h0 : Heap) (n0 : Nat) (v : Option Value) (h : Heap) (L : List Loc) : Prop := v = some (.ref x2) ∧ Fr n0 L ∧ h = h0
set_option maxRecDepth 65536 in
set_option maxHeartbeats 40000000 in
theorem rmget2_3 (l : Launch) (Z : State) (a0 : Array Value) (hw : ∀ d ∈ tables_1, d.before a0 Z = true) (ws : List Jvm.Cond) (a1 : Addr) (t1 : Addr) (kb : ClassId) (x0 : Addr) (x1 : Addr) (x2 : Addr) (h0 : Heap) (n0 : Nat) (Z0 : n0 ≤ h0.size) (E1 : Exa Z h0 a1 "java/util/ArrayList") (F2 : Fld Z h0 a1 "java/util/ArrayList" "size" "I" (.int (3 : Int32))) (F3 : Fld Z h0 a1 "java/util/ArrayList" "elementData" "[Ljava/lang/Object;" (.ref t1)) (V1 : Arv Z h0 t1 kb (.object "java/lang/Object") (10 : Int32) [(.ref x0), (.ref x1), (.ref x2), .null, .null, .null, .null, .null, .null, .null] .null) :
    MetFree l (⟨"java/util/ArrayList", "get", "(I)Ljava/lang/Object;"⟩ : MethodName) (head1 (Jvm.Cond.code (⟨"java/util/ArrayList", "get", "(I)Ljava/lang/Object;"⟩ : MethodName) jdk_38_method_20_code 2 (some (.object "java/lang/Object")) :: ws) ({ frames := 2, cells := 0, slots := 0, locals := 27 } : Room)) (fun a U => a = #[(.ref a1), (.int (2 : Int32))] ∧ Z.Warmed39 U.vm ∧ U.heap = h0) (fun _ _ _ _ _ => True) (fun _ U o U' => ∃ v L, o = .returned v ∧ Qget2_3 Z a1 t1 kb x0 x1 x2 h0 n0 v U'.heap L ∧ FrameEnd U o U' L ({ frames := 2, cells := 0, slots := 0, locals := 27 } : Room).cells ({ frames := 2, cells := 0, slots := 0, locals := 27 } : Room).slots) := by
  refine MetFree.of_bodySF (plainFor_of_name pn_3) hisR ?_
  intro p e s m args below meth c s₁ Bd hml0 hP hK
  obtain ⟨rfl, hZ, hh⟩ := hP
  have hx := Bd.exec
  have hby := Bd.bytes
  have hml : c.maxLocals = 2 := hml0
  have hown : s.vm.findClass "java/util/ArrayList" = some m.cls := findClass_of_methodNamed Bd.named
  have hnm := (name_of_methodNamed Bd.named Bd.method).1
  have X0 : Stand p l e ({ frames := 2, cells := 0, slots := 0, locals := 27 } : Room) s m #[(.ref a1), (.int (2 : Int32))] below meth c s₁ [] 0 0 := Stand.of_body Bd
  have e0 : s₁.heap = h0 := by rw [← hh, Bd.state]; rfl
  have N0 := Fr.nil n0
  show OGo p e below (fun s₂ o => ∃ v L, o = .returned v ∧ Qget2_3 Z a1 t1 kb x0 x1 x2 h0 n0 v s₂.heap L ∧ FrameEnd s o s₂ L ({ frames := 2, cells := 0, slots := 0, locals := 27 } : Room).cells ({ frames := 2, cells := 0, slots := 0, locals := 27 } : Room).slots) _
  refine OGo.to (fun _ k => castTop (ef_get2_3 m a1 (2 : Int32)) k) ?_
  refine OGo.to (fun _ k => XS.iloadN X0.here hx rfl (hb hby d16_0) rfl k) ?_
  show OGo p e below _ (s₁.setTop (mkF m 1 #[.val (.ref a1), .val (.int (2 : Int32))] [(.int (2 : Int32))]))
  refine OGo.to (fun _ k => XS.aloadN X0.here hx rfl (hb hby d16_1) rfl rfl k) ?_
  show OGo p e below _ (s₁.setTop (mkF m 2 #[.val (.ref a1), .val (.int (2 : Int32))] [(.ref a1), (.int (2 : Int32))]))
  obtain ⟨T_1, X_1, e_1, st_1⟩ := getF X0 hx hZ hown (host := "") (Or.inl (hw _ (List.mem_of_getElem? (i := 50) rfl))) Via.refl e0 F2 (g := (mkF m 2 #[.val (.ref a1), .val (.int (2 : Int32))] [(.ref a1), (.int (2 : Int32))])) rfl rfl (hb hby d16_2)
  refine OGo.to st_1 ?_
  show OGo p e below _ (T_1.setTop (mkF m 5 #[.val (.ref a1), .val (.int (2 : Int32))] [(.int (3 : Int32)), (.int (2 : Int32))]))
  obtain ⟨_, T_2, Lc_2, X_2, hQ_2, st_2⟩ := own_un X_1 (Q := Qoc2_3 Z  h0 n0) (rc := 0) (rs := 0) (W := fun v B => ∀ target, Steps p.tables e below (B.setTop { (mkF m 5 #[.val (.ref a1), .val (.int (2 : Int32))] [(.int (3 : Int32)), (.int (2 : Int32))]) with pc := 8, stack := v.toList ++ [] }) target → Steps p.tables e below (T_1.setTop (mkF m 5 #[.val (.ref a1), .val (.int (2 : Int32))] [(.int (3 : Int32)), (.int (2 : Int32))])) target) <| Jvm.LawKit.callS X_1 hx (y := (⟨"java/util/Objects", "checkIndex", "(II)I"⟩ : MethodName)) hown (mvT hZ (hw _ (List.mem_of_getElem? (i := 125) rfl))) (mvT hZ (hw _ (List.mem_of_getElem? (i := 126) rfl))) (mvT hZ (hw _ (List.mem_of_getElem? (i := 127) rfl))) (mvT hZ (hw _ (List.mem_of_getElem? (i := 128) rfl))) (by decide) (backOf (W := 0) (rmoc2_3 l Z a0 hw []  h0 n0 Z0 ) hZ (hw _ (List.mem_of_getElem? (i := 128) rfl)) (hw _ (List.mem_of_getElem? (i := 127) rfl)) (by decide) (by decide)) (g := (mkF m 5 #[.val (.ref a1), .val (.int (2 : Int32))] [(.int (3 : Int32)), (.int (2 : Int32))])) rfl (by rw [hml]; rfl) (argsL := [(.int (2 : Int32)), (.int (3 : Int32))]) (rest := []) (lenOf pd_1 rfl) rfl (by show 2 * 0 + _ ≤ _; exact Nat.le_of_eq rfl) (hb hby d16_5) (fun _ _ => ⟨rfl, e_1, (by decide : 0 + 0 ≤ _), (by decide : 0 + 0 ≤ _)⟩)
  obtain ⟨rfl, N_2q, e_2⟩ := hQ_2
  have N_2 := Fr.app N0 N_2q
  refine OGo.to st_2 ?_
  show OGo p e below _ (T_2.setTop (mkF m 8 #[.val (.ref a1), .val (.int (2 : Int32))] [(.int (2 : Int32))]))
  refine OGo.to (fun _ k => XS.pop X_2.here hx rfl (hb hby d16_8) rfl rfl k) ?_
  show OGo p e below _ (T_2.setTop (mkF m 9 #[.val (.ref a1), .val (.int (2 : Int32))] []))
  refine OGo.to (fun _ k => XS.aloadN X_2.here hx rfl (hb hby d16_9) rfl rfl k) ?_
  show OGo p e below _ (T_2.setTop (mkF m 10 #[.val (.ref a1), .val (.int (2 : Int32))] [(.ref a1)]))
  refine OGo.to (fun _ k => XS.iloadN X_2.here hx rfl (hb hby d16_10) rfl k) ?_
  show OGo p e below _ (T_2.setTop (mkF m 11 #[.val (.ref a1), .val (.int (2 : Int32))] [(.int (2 : Int32)), (.ref a1)]))
  obtain ⟨cq_3, kq_3, q_3a, q_3b, q_3c⟩ := isOf hZ e_2 E1
  obtain ⟨_, T_3, Lc_3, X_3, hQ_3, st_3⟩ := own_un X_2 (Q := Qed2_3 Z a1 t1 kb x0 x1 x2 h0 n0) (rc := 0) (rs := 0) (W := fun v B => Steps p.tables e below (T_2.setTop (mkF m 11 #[.val (.ref a1), .val (.int (2 : Int32))] [(.int (2 : Int32)), (.ref a1)])) (B.setTop { (mkF m 11 #[.val (.ref a1), .val (.int (2 : Int32))] [(.int (2 : Int32)), (.ref a1)]) with pc := 14, stack := v.toList ++ [] })) <| X_2.virtualBack hx (y := (⟨"java/util/ArrayList", "elementData", "(I)Ljava/lang/Object;"⟩ : MethodName)) (z := (⟨"java/util/ArrayList", "elementData", "(I)Ljava/lang/Object;"⟩ : MethodName)) hown (mvT hZ (hw _ (List.mem_of_getElem? (i := 133) rfl))) (mvT hZ (hw _ (List.mem_of_getElem? (i := 134) rfl))) (notFace_of_selects (args := #[]) (mvT hZ (hw _ (List.mem_of_getElem? (i := 136) rfl)))) (mvT hZ (hw _ (List.mem_of_getElem? (i := 136) rfl))) (mvT hZ (hw _ (List.mem_of_getElem? (i := 135) rfl))) (by decide) (backOf (W := 0) (rmed2_3 l Z a0 hw [] a1 t1 kb x0 x1 x2 h0 n0 Z0 E1 F2 F3 V1) hZ (hw _ (List.mem_of_getElem? (i := 137) rfl)) (hw _ (List.mem_of_getElem? (i := 3) rfl)) (by decide) (by decide)) q_3a q_3c (g := (mkF m 11 #[.val (.ref a1), .val (.int (2 : Int32))] [(.int (2 : Int32)), (.ref a1)])) rfl (by rw [hml]; rfl) (Steps.refl _) (argsL := [(.int (2 : Int32))]) (rest := []) (lenOf pd_6 rfl) rfl (by show 2 * 0 + _ ≤ _; exact Nat.le_of_eq rfl) (hb hby d16_11) (fun _ _ => ⟨rfl, e_2, (by decide : 0 + 0 ≤ _), (by decide : 0 + 0 ≤ _)⟩)
  obtain ⟨rfl, N_3q, e_3⟩ := hQ_3
  have N_3 := Fr.app N_2 N_3q
  refine OGo.to (fun _ k => st_3.trans k) ?_
  show OGo p e below _ (T_3.setTop (mkF m 14 #[.val (.ref a1), .val (.int (2 : Int32))] [(.ref x2)]))
  refine OGo.ret (Q := Qget2_3 Z a1 t1 kb x0 x1 x2 h0 n0) X_3 (some (.ref x2)) (fun h => by rw [Bd.returns] at h; cases h) Bd.notSynchronized (fun fs hr => own_retA X_3 hx Bd.returns rfl rfl (hb hby d16_14) hr) ?_ (by decide) (by decide)
  show Qget2_3 Z a1 t1 kb x0 x1 x2 h0 n0 _ T_3.heap _
  rw [e_3]
  exact ⟨rfl, N_3, rfl⟩
theorem d14_0 : decode prog_165_method_4_code 0 = .ok (.aload_n 0, 1) := by decide +kernel
theorem d14_1 : decode prog_165_method_4_code 1 = .ok (.aload_n 1, 1) := by decide +kernel
theorem d14_2 : decode prog_165_method_4_code 2 = .ok (.invokeinterface 48 1, 5) := by decide +kernel
theorem d14_7 : decode prog_165_method_4_code 7 = .ok (.newarray .int, 2) := by decide +kernel
theorem d14_9 : decode prog_165_method_4_code 9 = .ok (.putfield 19, 3) := by decide +kernel
theorem d14_12 : decode prog_165_method_4_code 12 = .ok (.iconst 0, 1) := by decide +kernel
theorem d14_13 : decode prog_165_method_4_code 13 = .ok (.istore_n 2, 1) := by decide +kernel
theorem d14_14 : decode prog_165_method_4_code 14 = .ok (.iload_n 2, 1) := by decide +kernel
theorem d14_15 : decode prog_165_method_4_code 15 = .ok (.aload_n 0, 1) := by decide +kernel
theorem d14_16 : decode prog_165_method_4_code 16 = .ok (.getfield 19, 3) := by decide +kernel
theorem d14_19 : decode prog_165_method_4_code 19 = .ok (.arraylength, 1) := by decide +kernel
theorem d14_20 : decode prog_165_method_4_code 20 = .ok (.if_icmp .ge 28, 3) := by decide +kernel
theorem d14_48 : decode prog_165_method_4_code 48 = .ok (.return_, 1) := by decide +kernel
theorem ef_tk0 (m : MethodId) (x0 : Addr) (x1 : Addr) : entryFrame m #[(.ref x0), (.ref x1)] 3 = mkF m 0 #[.val (.ref x0), .val (.ref x1), .unset] [] := by first | (simp [entryFrame, mkF, argsToLocals, Value.category]; done) | rfl
def Qtk0 (Z : State) (a1 : Addr) (a2 : Addr) (o1 : Addr) (h0 : Heap) (n0 : Nat) (v : Option Value) (h : Heap) (L : List Loc) : Prop := ∃ (b : Addr), ∃ (kk : ClassId), v = none ∧ Fr n0 L ∧ Keep h0 h [a1] ∧ n0 ≤ b ∧ h0.size ≤ b ∧ Fld Z h a1 "com/example/dromos/dromos/service/Definition" "operators" "[I" (.ref b) ∧ Arv Z h b kk .int (0 : Int32) [] (.int (0 : Int32))
set_option maxRecDepth 65536 in
set_option maxHeartbeats 40000000 in
theorem rmtk0 (l : Launch) (Z : State) (a0 : Array Value) (hw : ∀ d ∈ tables_1, d.before a0 Z = true) (ws : List Jvm.Cond) (a1 : Addr) (a2 : Addr) (o1 : Addr) (h0 : Heap) (n0 : Nat) (Z0 : n0 ≤ h0.size) (E1 : Exa Z h0 a1 "com/example/dromos/dromos/service/Definition") (E2 : Exa Z h0 a2 "java/util/ArrayList") (Fo : Fld Z h0 a1 "com/example/dromos/dromos/service/Definition" "operators" "[I" (.ref o1)) (F2 : Fld Z h0 a2 "java/util/ArrayList" "size" "I" (.int (0 : Int32))) (g1 : n0 ≤ a1) (n12 : a1 ≠ a2) :
    MetFree l (⟨"com/example/dromos/dromos/service/Definition", "takes", "(Ljava/util/List;)V"⟩ : MethodName) (head1 (Jvm.Cond.code (⟨"com/example/dromos/dromos/service/Definition", "takes", "(Ljava/util/List;)V"⟩ : MethodName) prog_165_method_4_code 3 none :: ws) ({ frames := 1, cells := 1, slots := 0, locals := 13 } : Room)) (fun a U => a = #[(.ref a1), (.ref a2)] ∧ Z.Warmed39 U.vm ∧ U.heap = h0) (fun _ _ _ _ _ => True) (fun _ U o U' => ∃ v L, o = .returned v ∧ Qtk0 Z a1 a2 o1 h0 n0 v U'.heap L ∧ FrameEnd U o U' L ({ frames := 1, cells := 1, slots := 0, locals := 13 } : Room).cells ({ frames := 1, cells := 1, slots := 0, locals := 13 } : Room).slots) := by
  refine MetFree.of_bodySF (plainFor_of_name pn_5) hisR ?_
  intro p e s m args below meth c s₁ Bd hml0 hP hK
  obtain ⟨rfl, hZ, hh⟩ := hP
  have hx := Bd.exec
  have hby := Bd.bytes
  have hml : c.maxLocals = 3 := hml0
  have hown : s.vm.findClass "com/example/dromos/dromos/service/Definition" = some m.cls := findClass_of_methodNamed Bd.named
  have hnm := (name_of_methodNamed Bd.named Bd.method).1
  have X0 : Stand p l e ({ frames := 1, cells := 1, slots := 0, locals := 13 } : Room) s m #[(.ref a1), (.ref a2)] below meth c s₁ [] 0 0 := Stand.of_body Bd
  have e0 : s₁.heap = h0 := by rw [← hh, Bd.state]; rfl
  have N0 := Fr.nil n0
  show OGo p e below (fun s₂ o => ∃ v L, o = .returned v ∧ Qtk0 Z a1 a2 o1 h0 n0 v s₂.heap L ∧ FrameEnd s o s₂ L ({ frames := 1, cells := 1, slots := 0, locals := 13 } : Room).cells ({ frames := 1, cells := 1, slots := 0, locals := 13 } : Room).slots) _
  refine OGo.to (fun _ k => castTop (ef_tk0 m a1 a2) k) ?_
  refine OGo.to (fun _ k => XS.aloadN X0.here hx rfl (hb hby d14_0) rfl rfl k) ?_
  show OGo p e below _ (s₁.setTop (mkF m 1 #[.val (.ref a1), .val (.ref a2), .unset] [(.ref a1)]))
  refine OGo.to (fun _ k => XS.aloadN X0.here hx rfl (hb hby d14_1) rfl rfl k) ?_
  show OGo p e below _ (s₁.setTop (mkF m 2 #[.val (.ref a1), .val (.ref a2), .unset] [(.ref a2), (.ref a1)]))
  obtain ⟨cq_1, kq_1, q_1a, q_1b, q_1c⟩ := isOf hZ e0 E2
  obtain ⟨_, T_1, Lc_1, X_1, hQ_1, st_1⟩ := own_un X0 (Q := Q15 Z a2 (0 : Int32) h0 n0) (rc := 0) (rs := 0) (W := fun v B => Steps p.tables e below (s₁.setTop (mkF m 2 #[.val (.ref a1), .val (.ref a2), .unset] [(.ref a2), (.ref a1)])) (B.setTop { (mkF m 2 #[.val (.ref a1), .val (.ref a2), .unset] [(.ref a2), (.ref a1)]) with pc := 7, stack := v.toList ++ [(.ref a1)] })) <| X0.interfaceBack hx (xi := (⟨"java/util/List", "size", "()I"⟩ : MethodName)) (y := (⟨"java/util/ArrayList", "size", "()I"⟩ : MethodName)) hown (mvT hZ (hw _ (List.mem_of_getElem? (i := 108) rfl))) (mvT hZ (hw _ (List.mem_of_getElem? (i := 109) rfl))) (mvT hZ (hw _ (List.mem_of_getElem? (i := 110) rfl))) (mvT hZ (hw _ (List.mem_of_getElem? (i := 111) rfl))) (mvT hZ (hw _ (List.mem_of_getElem? (i := 112) rfl))) (mvT hZ (hw _ (List.mem_of_getElem? (i := 113) rfl))) (mvT hZ (hw _ (List.mem_of_getElem? (i := 114) rfl))) (mvT hZ (hw _ (List.mem_of_getElem? (i := 115) rfl))) (by decide) (backOf (W := 1) (rm15 l Z a0 hw [] a2 (0 : Int32) h0 n0 Z0 F2) hZ (hw _ (List.mem_of_getElem? (i := 116) rfl)) (hw _ (List.mem_of_getElem? (i := 3) rfl)) (by decide) (by decide)) q_1a q_1b q_1c (g := (mkF m 2 #[.val (.ref a1), .val (.ref a2), .unset] [(.ref a2), (.ref a1)])) rfl (by rw [hml]; rfl) (Steps.refl _) (argsL := []) (rest := [(.ref a1)]) (lenOf pd_7 rfl) rfl (by show 2 * 0 + _ ≤ _; exact Nat.le_of_eq rfl) (hb hby d14_2) (fun _ _ => ⟨rfl, e0, (by decide : 0 + 0 ≤ _), (by decide : 0 + 0 ≤ _)⟩)
  obtain ⟨rfl, N_1q, e_1⟩ := hQ_1
  have N_1 := Fr.app N0 N_1q
  refine OGo.to (fun _ k => st_1.trans k) ?_
  show OGo p e below _ (T_1.setTop (mkF m 7 #[.val (.ref a1), .val (.ref a2), .unset] [(.int (0 : Int32)), (.ref a1)]))
  obtain ⟨T_2, h_2, k_2, X_2, e_2, E_2, A_2, st_2⟩ := newP X_1 hx hZ (hw _ (List.mem_of_getElem? (i := 85) rfl)) e_1 (g := (mkF m 7 #[.val (.ref a1), .val (.ref a2), .unset] [(.int (0 : Int32)), (.ref a1)])) rfl (hb hby d14_7) rfl (by decide) (cap := 0) (by decide) (by decide) (by decide) (by decide)
  obtain ⟨b_2, g_2⟩ : ∃ z, z = h0.size := ⟨_, rfl⟩
  rw [← g_2] at A_2 st_2
  have g_b_2 : n0 ≤ b_2 := Nat.le_trans Z0 (Nat.le_of_eq g_2.symm)
  have sz_b_2 : h0.size ≤ b_2 := Nat.le_trans (Keep.refl h0 [a1]).1 (Nat.le_of_eq g_2.symm)
  refine OGo.to st_2 ?_
  have ne_a1_b_2 : a1 ≠ b_2 := Nat.ne_of_lt (Nat.lt_of_lt_of_le E1.lt (Nat.le_of_eq g_2.symm))
  have ne_a2_b_2 : a2 ≠ b_2 := Nat.ne_of_lt (Nat.lt_of_lt_of_le E2.lt (Nat.le_of_eq g_2.symm))
  have z_3 : n0 ≤ h_2.size := Nat.le_trans Z0 E_2.1
  have K_4 : Keep h0 h_2 [a1] := (Keep.refl h0 [a1]).ext E_2
  have V_2 : Arv Z h_2 b_2 k_2 .int (0 : Int32) [] (.int (0 : Int32)) := (Arv.new A_2 (by decide)).pad (pad_rep [] (.int (0 : Int32)) 0)
  show OGo p e below _ (T_2.setTop (mkF m 9 #[.val (.ref a1), .val (.ref a2), .unset] [(.ref b_2), (.ref a1)]))
  have f_5 : Exa Z h_2 a1 "com/example/dromos/dromos/service/Definition" := (E1.ext E_2)
  have f_6 : Fld Z h_2 a1 "com/example/dromos/dromos/service/Definition" "operators" "[I" (.ref o1) := (Fo.ext E_2)
  obtain ⟨T_7, h_7, X_7, e_7, W_7, st_7⟩ := putF X_2 hx hZ hown (host := "") (Or.inl (hw _ (List.mem_of_getElem? (i := 86) rfl))) Via.refl e_2 f_6 f_5 (Or.inl (hw _ (List.mem_of_getElem? (i := 87) rfl))) (hw _ (List.mem_of_getElem? (i := 75) rfl)) (ty := (.array .int)) (by decide) rfl rfl (g := (mkF m 9 #[.val (.ref a1), .val (.ref a2), .unset] [(.ref b_2), (.ref a1)])) rfl rfl (hb hby d14_9)
  refine OGo.to st_7 ?_
  have Fw_7 : Fld Z h_7 a1 "com/example/dromos/dromos/service/Definition" "operators" "[I" (.ref b_2) := f_6.same W_7
  have N_7 := Fr.snoc X_7 N_1 g1
  have z_8 : n0 ≤ h_7.size := Nat.le_trans z_3 (Keep.of_wr W_7).1
  have K_9 : Keep h0 h_7 [a1] := K_4.wr W_7 (Or.inl (List.mem_of_getElem? (i := 0) rfl))
  show OGo p e below _ (T_7.setTop (mkF m 12 #[.val (.ref a1), .val (.ref a2), .unset] []))
  refine OGo.to (fun _ k => XS.iconst X_7.here hx rfl (hb hby d14_12) k) ?_
  show OGo p e below _ (T_7.setTop (mkF m 13 #[.val (.ref a1), .val (.ref a2), .unset] [(.int (0 : Int32))]))
  refine OGo.to (fun _ k => XS.istoreN X_7.here hx rfl (hb hby d14_13) rfl (l' := #[.val (.ref a1), .val (.ref a2), .val (.int (0 : Int32))]) rfl k) ?_
  show OGo p e below _ (T_7.setTop (mkF m 14 #[.val (.ref a1), .val (.ref a2), .val (.int (0 : Int32))] []))
  refine OGo.to (fun _ k => XS.iloadN X_7.here hx rfl (hb hby d14_14) rfl k) ?_
  show OGo p e below _ (T_7.setTop (mkF m 15 #[.val (.ref a1), .val (.ref a2), .val (.int (0 : Int32))] [(.int (0 : Int32))]))
  refine OGo.to (fun _ k => XS.aloadN X_7.here hx rfl (hb hby d14_15) rfl rfl k) ?_
  show OGo p e below _ (T_7.setTop (mkF m 16 #[.val (.ref a1), .val (.ref a2), .val (.int (0 : Int32))] [(.ref a1), (.int (0 : Int32))]))
  obtain ⟨T_10, X_10, e_10, st_10⟩ := getF X_7 hx hZ hown (host := "") (Or.inl (hw _ (List.mem_of_getElem? (i := 86) rfl))) Via.refl e_7 Fw_7 (g := (mkF m 16 #[.val (.ref a1), .val (.ref a2), .val (.int (0 : Int32))] [(.ref a1), (.int (0 : Int32))])) rfl rfl (hb hby d14_16)
  refine OGo.to st_10 ?_
  show OGo p e below _ (T_10.setTop (mkF m 19 #[.val (.ref a1), .val (.ref a2), .val (.int (0 : Int32))] [(.ref b_2), (.int (0 : Int32))]))
  have f_11 : Arv Z h_7 b_2 k_2 .int (0 : Int32) [] (.int (0 : Int32)) := (V_2.other W_7 (Ne.symm ne_a1_b_2))
  have Vq_12 := f_11
  obtain ⟨cl_12, Ar_12, q_12, S_12, M_12, Hs_12, G_12⟩ := Vq_12
  refine OGo.to (fun _ k => X_10.arraylength hx (by rw [e_10]; exact Ar_12.1) (State.isArrayOf_alike hZ.alike Ar_12.2.1) (g := (mkF m 19 #[.val (.ref a1), .val (.ref a2), .val (.int (0 : Int32))] [(.ref b_2), (.int (0 : Int32))])) rfl rfl (hb hby d14_19) _ k) ?_
  rw [len_of S_12 M_12]
  show OGo p e below _ (T_10.setTop (mkF m 20 #[.val (.ref a1), .val (.ref a2), .val (.int (0 : Int32))] [(.int (0 : Int32)), (.int (0 : Int32))]))
  have hc20__13 : ¬ ((0 : Int32) < (0 : Int32)) := by decide
  refine OGo.to (fun _ k => XS.icmpYes X_10.here hx rfl (pc0 := 20) (pc' := 48) rfl (hb hby d14_20) rfl (flt hc20__13).2.1 (by decide) (by decide) k) ?_
  show OGo p e below _ (T_10.setTop (mkF m 48 #[.val (.ref a1), .val (.ref a2), .val (.int (0 : Int32))] []))
  refine OGo.ret (Q := Qtk0 Z a1 a2 o1 h0 n0) X_10 none (fun _ => rfl) Bd.notSynchronized (fun fs hr => X_10.returnOut hx Bd.returns (hb hby d14_48) hr) ?_ (by decide) (by decide)
  show Qtk0 Z a1 a2 o1 h0 n0 _ T_10.heap _
  rw [e_10]
  exact ⟨b_2, k_2, rfl, N_7, K_9, g_b_2, sz_b_2, Fw_7, f_11⟩
theorem d13_0 : decode prog_165_method_6_code 0 = .ok (.aload_n 0, 1) := by decide +kernel
theorem d13_1 : decode prog_165_method_6_code 1 = .ok (.getfield 19, 3) := by decide +kernel
theorem d13_4 : decode prog_165_method_6_code 4 = .ok (.astore_n 1, 1) := by decide +kernel
theorem d13_5 : decode prog_165_method_6_code 5 = .ok (.aload_n 1, 1) := by decide +kernel
theorem d13_6 : decode prog_165_method_6_code 6 = .ok (.arraylength, 1) := by decide +kernel
theorem d13_7 : decode prog_165_method_6_code 7 = .ok (.istore_n 2, 1) := by decide +kernel
theorem d13_8 : decode prog_165_method_6_code 8 = .ok (.iconst 0, 1) := by decide +kernel
theorem d13_9 : decode prog_165_method_6_code 9 = .ok (.istore_n 3, 1) := by decide +kernel
theorem d13_10 : decode prog_165_method_6_code 10 = .ok (.iload_n 3, 1) := by decide +kernel
theorem d13_11 : decode prog_165_method_6_code 11 = .ok (.iload_n 2, 1) := by decide +kernel
theorem d13_12 : decode prog_165_method_6_code 12 = .ok (.if_icmp .ge 21, 3) := by decide +kernel
theorem d13_33 : decode prog_165_method_6_code 33 = .ok (.iconst 0, 1) := by decide +kernel
theorem d13_34 : decode prog_165_method_6_code 34 = .ok (.ireturn, 1) := by decide +kernel
theorem ef_op0 (m : MethodId) (x0 : Addr) : entryFrame m #[(.ref x0)] 5 = mkF m 0 #[.val (.ref x0), .unset, .unset, .unset, .unset] [] := by first | (simp [entryFrame, mkF, argsToLocals, Value.category]; done) | rfl
def Qop0 (Z : State) (a1 : Addr) (t1 : Addr) (kk : ClassId) (h0 : Heap) (n0 : Nat) (v : Option Value) (h : Heap) (L : List Loc) : Prop := v = some (.int (0 : Int32)) ∧ Fr n0 L ∧ h = h0
set_option maxRecDepth 65536 in
set_option maxHeartbeats 40000000 in
theorem rmop0 (l : Launch) (Z : State) (a0 : Array Value) (hw : ∀ d ∈ tables_1, d.before a0 Z = true) (ws : List Jvm.Cond) (a1 : Addr) (t1 : Addr) (kk : ClassId) (h0 : Heap) (n0 : Nat) (Z0 : n0 ≤ h0.size) (Fo : Fld Z h0 a1 "com/example/dromos/dromos/service/Definition" "operators" "[I" (.ref t1)) (V1 : Arv Z h0 t1 kk .int (0 : Int32) [] (.int (0 : Int32))) :
    MetFree l (⟨"com/example/dromos/dromos/service/Definition", "takesOperators", "()Z"⟩ : MethodName) (head1 (Jvm.Cond.code (⟨"com/example/dromos/dromos/service/Definition", "takesOperators", "()Z"⟩ : MethodName) prog_165_method_6_code 5 (some .boolean) :: ws) ({ frames := 0, cells := 0, slots := 0, locals := 0 } : Room)) (fun a U => a = #[(.ref a1)] ∧ Z.Warmed39 U.vm ∧ U.heap = h0) (fun _ _ _ _ _ => True) (fun _ U o U' => ∃ v L, o = .returned v ∧ Qop0 Z a1 t1 kk h0 n0 v U'.heap L ∧ FrameEnd U o U' L ({ frames := 0, cells := 0, slots := 0, locals := 0 } : Room).cells ({ frames := 0, cells := 0, slots := 0, locals := 0 } : Room).slots) := by
  refine MetFree.of_bodySF (plainFor_of_name pn_5) hisR ?_
  intro p e s m args below meth c s₁ Bd hml0 hP hK
  obtain ⟨rfl, hZ, hh⟩ := hP
  have hx := Bd.exec
  have hby := Bd.bytes
  have hml : c.maxLocals = 5 := hml0
  have hown : s.vm.findClass "com/example/dromos/dromos/service/Definition" = some m.cls := findClass_of_methodNamed Bd.named
  have hnm := (name_of_methodNamed Bd.named Bd.method).1
  have X0 : Stand p l e ({ frames := 0, cells := 0, slots := 0, locals := 0 } : Room) s m #[(.ref a1)] below meth c s₁ [] 0 0 := Stand.of_body Bd
  have e0 : s₁.heap = h0 := by rw [← hh, Bd.state]; rfl
  have N0 := Fr.nil n0
  show OGo p e below (fun s₂ o => ∃ v L, o = .returned v ∧ Qop0 Z a1 t1 kk h0 n0 v s₂.heap L ∧ FrameEnd s o s₂ L ({ frames := 0, cells := 0, slots := 0, locals := 0 } : Room).cells ({ frames := 0, cells := 0, slots := 0, locals := 0 } : Room).slots) _
  refine OGo.to (fun _ k => castTop (ef_op0 m a1) k) ?_
  refine OGo.to (fun _ k => XS.aloadN X0.here hx rfl (hb hby d13_0) rfl rfl k) ?_
  show OGo p e below _ (s₁.setTop (mkF m 1 #[.val (.ref a1), .unset, .unset, .unset, .unset] [(.ref a1)]))
  obtain ⟨T_1, X_1, e_1, st_1⟩ := getF X0 hx hZ hown (host := "") (Or.inl (hw _ (List.mem_of_getElem? (i := 86) rfl))) Via.refl e0 Fo (g := (mkF m 1 #[.val (.ref a1), .unset, .unset, .unset, .unset] [(.ref a1)])) rfl rfl (hb hby d13_1)
  refine OGo.to st_1 ?_
  show OGo p e below _ (T_1.setTop (mkF m 4 #[.val (.ref a1), .unset, .unset, .unset, .unset] [(.ref t1)]))
  refine OGo.to (fun _ k => XS.astoreN X_1.here hx rfl (hb hby d13_4) rfl rfl (l' := #[.val (.ref a1), .val (.ref t1), .unset, .unset, .unset]) rfl k) ?_
  show OGo p e below _ (T_1.setTop (mkF m 5 #[.val (.ref a1), .val (.ref t1), .unset, .unset, .unset] []))
  refine OGo.to (fun _ k => XS.aloadN X_1.here hx rfl (hb hby d13_5) rfl rfl k) ?_
  show OGo p e below _ (T_1.setTop (mkF m 6 #[.val (.ref a1), .val (.ref t1), .unset, .unset, .unset] [(.ref t1)]))
  have Vq_2 := V1
  obtain ⟨cl_2, Ar_2, q_2, S_2, M_2, Hs_2, G_2⟩ := Vq_2
  refine OGo.to (fun _ k => X_1.arraylength hx (by rw [e_1]; exact Ar_2.1) (State.isArrayOf_alike hZ.alike Ar_2.2.1) (g := (mkF m 6 #[.val (.ref a1), .val (.ref t1), .unset, .unset, .unset] [(.ref t1)])) rfl rfl (hb hby d13_6) _ k) ?_
  rw [len_of S_2 M_2]
  show OGo p e below _ (T_1.setTop (mkF m 7 #[.val (.ref a1), .val (.ref t1), .unset, .unset, .unset] [(.int (0 : Int32))]))
  refine OGo.to (fun _ k => XS.istoreN X_1.here hx rfl (hb hby d13_7) rfl (l' := #[.val (.ref a1), .val (.ref t1), .val (.int (0 : Int32)), .unset, .unset]) rfl k) ?_
  show OGo p e below _ (T_1.setTop (mkF m 8 #[.val (.ref a1), .val (.ref t1), .val (.int (0 : Int32)), .unset, .unset] []))
  refine OGo.to (fun _ k => XS.iconst X_1.here hx rfl (hb hby d13_8) k) ?_
  show OGo p e below _ (T_1.setTop (mkF m 9 #[.val (.ref a1), .val (.ref t1), .val (.int (0 : Int32)), .unset, .unset] [(.int (0 : Int32))]))
  refine OGo.to (fun _ k => XS.istoreN X_1.here hx rfl (hb hby d13_9) rfl (l' := #[.val (.ref a1), .val (.ref t1), .val (.int (0 : Int32)), .val (.int (0 : Int32)), .unset]) rfl k) ?_
  show OGo p e below _ (T_1.setTop (mkF m 10 #[.val (.ref a1), .val (.ref t1), .val (.int (0 : Int32)), .val (.int (0 : Int32)), .unset] []))
  refine OGo.to (fun _ k => XS.iloadN X_1.here hx rfl (hb hby d13_10) rfl k) ?_
  show OGo p e below _ (T_1.setTop (mkF m 11 #[.val (.ref a1), .val (.ref t1), .val (.int (0 : Int32)), .val (.int (0 : Int32)), .unset] [(.int (0 : Int32))]))
  refine OGo.to (fun _ k => XS.iloadN X_1.here hx rfl (hb hby d13_11) rfl k) ?_
  show OGo p e below _ (T_1.setTop (mkF m 12 #[.val (.ref a1), .val (.ref t1), .val (.int (0 : Int32)), .val (.int (0 : Int32)), .unset] [(.int (0 : Int32)), (.int (0 : Int32))]))
  have hc12__3 : ¬ ((0 : Int32) < (0 : Int32)) := by decide
  refine OGo.to (fun _ k => XS.icmpYes X_1.here hx rfl (pc0 := 12) (pc' := 33) rfl (hb hby d13_12) rfl (flt hc12__3).2.1 (by decide) (by decide) k) ?_
  show OGo p e below _ (T_1.setTop (mkF m 33 #[.val (.ref a1), .val (.ref t1), .val (.int (0 : Int32)), .val (.int (0 : Int32)), .unset] []))
  refine OGo.to (fun _ k => XS.iconst X_1.here hx rfl (hb hby d13_33) k) ?_
  show OGo p e below _ (T_1.setTop (mkF m 34 #[.val (.ref a1), .val (.ref t1), .val (.int (0 : Int32)), .val (.int (0 : Int32)), .unset] [(.int (0 : Int32))]))
  refine OGo.ret (Q := Qop0 Z a1 t1 kk h0 n0) X_1 (some (.int (0 : Int32))) (fun h => by rw [Bd.returns] at h; cases h) Bd.notSynchronized (fun fs hr => retN X_1 hx (t := .boolean) (z := (0 : Int32)) Bd.returns (by simp) (hb hby d13_34) hr) ?_ (by decide) (by decide)
  show Qop0 Z a1 t1 kk h0 n0 _ T_1.heap _
  rw [e_1]
  exact ⟨rfl, N0, rfl⟩
theorem d14_23 : decode prog_165_method_4_code 23 = .ok (.aload_n 0, 1) := by decide +kernel
theorem d14_24 : decode prog_165_method_4_code 24 = .ok (.getfield 19, 3) := by decide +kernel
theorem d14_27 : decode prog_165_method_4_code 27 = .ok (.iload_n 2, 1) := by decide +kernel
theorem d14_28 : decode prog_165_method_4_code 28 = .ok (.aload_n 1, 1) := by decide +kernel
theorem d14_29 : decode prog_165_method_4_code 29 = .ok (.iload_n 2, 1) := by decide +kernel
theorem d14_30 : decode prog_165_method_4_code 30 = .ok (.invokeinterface 54 2, 5) := by decide +kernel
theorem d14_35 : decode prog_165_method_4_code 35 = .ok (.checkcast 58, 3) := by decide +kernel
theorem d14_38 : decode prog_165_method_4_code 38 = .ok (.invokevirtual 60, 3) := by decide +kernel
theorem d14_41 : decode prog_165_method_4_code 41 = .ok (.iastore, 1) := by decide +kernel
theorem d14_42 : decode prog_165_method_4_code 42 = .ok (.iinc 2 1, 3) := by decide +kernel
theorem d14_45 : decode prog_165_method_4_code 45 = .ok (.goto (-31), 3) := by decide +kernel
theorem ef_tk1 (m : MethodId) (x0 : Addr) (x1 : Addr) : entryFrame m #[(.ref x0), (.ref x1)] 3 = mkF m 0 #[.val (.ref x0), .val (.ref x1), .unset] [] := by first | (simp [entryFrame, mkF, argsToLocals, Value.category]; done) | rfl
def Qtk1 (Z : State) (a1 : Addr) (a2 : Addr) (o1 : Addr) (t1 : Addr) (kb : ClassId) (x0 : Addr) (y0 : Int32) (h0 : Heap) (n0 : Nat) (v : Option Value) (h : Heap) (L : List Loc) : Prop := ∃ (b : Addr), ∃ (kk : ClassId), v = none ∧ Fr n0 L ∧ Keep h0 h [a1] ∧ n0 ≤ b ∧ h0.size ≤ b ∧ Fld Z h a1 "com/example/dromos/dromos/service/Definition" "operators" "[I" (.ref b) ∧ Arv Z h b kk .int (1 : Int32) [(.int y0)] (.int (0 : Int32))
set_option maxRecDepth 65536 in
set_option maxHeartbeats 40000000 in
theorem rmtk1 (l : Launch) (Z : State) (a0 : Array Value) (hw : ∀ d ∈ tables_1, d.before a0 Z = true) (ws : List Jvm.Cond) (a1 : Addr) (a2 : Addr) (o1 : Addr) (t1 : Addr) (kb : ClassId) (x0 : Addr) (y0 : Int32) (h0 : Heap) (n0 : Nat) (Z0 : n0 ≤ h0.size) (E1 : Exa Z h0 a1 "com/example/dromos/dromos/service/Definition") (E2 : Exa Z h0 a2 "java/util/ArrayList") (Fo : Fld Z h0 a1 "com/example/dromos/dromos/service/Definition" "operators" "[I" (.ref o1)) (F2 : Fld Z h0 a2 "java/util/ArrayList" "size" "I" (.int (1 : Int32))) (g1 : n0 ≤ a1) (n12 : a1 ≠ a2) (F3 : Fld Z h0 a2 "java/util/ArrayList" "elementData" "[Ljava/lang/Object;" (.ref t1)) (V1 : Arv Z h0 t1 kb (.object "java/lang/Object") (10 : Int32) [(.ref x0), .null, .null, .null, .null, .null, .null, .null, .null, .null] .null) (n1t : a1 ≠ t1) (E_x0 : Exa Z h0 x0 "com/example/dromos/dromos/model/Module$Signature") (F_x0 : Fld Z h0 x0 "com/example/dromos/dromos/model/Module$Signature" "arity" "I" (.int y0)) (n_x0 : a1 ≠ x0) :
    MetFree l (⟨"com/example/dromos/dromos/service/Definition", "takes", "(Ljava/util/List;)V"⟩ : MethodName) (head1 (Jvm.Cond.code (⟨"com/example/dromos/dromos/service/Definition", "takes", "(Ljava/util/List;)V"⟩ : MethodName) prog_165_method_4_code 3 none :: ws) ({ frames := 3, cells := 1, slots := 1, locals := 42 } : Room)) (fun a U => a = #[(.ref a1), (.ref a2)] ∧ Z.Warmed39 U.vm ∧ U.heap = h0) (fun _ _ _ _ _ => True) (fun _ U o U' => ∃ v L, o = .returned v ∧ Qtk1 Z a1 a2 o1 t1 kb x0 y0 h0 n0 v U'.heap L ∧ FrameEnd U o U' L ({ frames := 3, cells := 1, slots := 1, locals := 42 } : Room).cells ({ frames := 3, cells := 1, slots := 1, locals := 42 } : Room).slots) := by
  refine MetFree.of_bodySF (plainFor_of_name pn_5) hisR ?_
  intro p e s m args below meth c s₁ Bd hml0 hP hK
  obtain ⟨rfl, hZ, hh⟩ := hP
  have hx := Bd.exec
  have hby := Bd.bytes
  have hml : c.maxLocals = 3 := hml0
  have hown : s.vm.findClass "com/example/dromos/dromos/service/Definition" = some m.cls := findClass_of_methodNamed Bd.named
  have hnm := (name_of_methodNamed Bd.named Bd.method).1
  have X0 : Stand p l e ({ frames := 3, cells := 1, slots := 1, locals := 42 } : Room) s m #[(.ref a1), (.ref a2)] below meth c s₁ [] 0 0 := Stand.of_body Bd
  have e0 : s₁.heap = h0 := by rw [← hh, Bd.state]; rfl
  have N0 := Fr.nil n0
  show OGo p e below (fun s₂ o => ∃ v L, o = .returned v ∧ Qtk1 Z a1 a2 o1 t1 kb x0 y0 h0 n0 v s₂.heap L ∧ FrameEnd s o s₂ L ({ frames := 3, cells := 1, slots := 1, locals := 42 } : Room).cells ({ frames := 3, cells := 1, slots := 1, locals := 42 } : Room).slots) _
  refine OGo.to (fun _ k => castTop (ef_tk1 m a1 a2) k) ?_
  refine OGo.to (fun _ k => XS.aloadN X0.here hx rfl (hb hby d14_0) rfl rfl k) ?_
  show OGo p e below _ (s₁.setTop (mkF m 1 #[.val (.ref a1), .val (.ref a2), .unset] [(.ref a1)]))
  refine OGo.to (fun _ k => XS.aloadN X0.here hx rfl (hb hby d14_1) rfl rfl k) ?_
  show OGo p e below _ (s₁.setTop (mkF m 2 #[.val (.ref a1), .val (.ref a2), .unset] [(.ref a2), (.ref a1)]))
  obtain ⟨cq_1, kq_1, q_1a, q_1b, q_1c⟩ := isOf hZ e0 E2
  obtain ⟨_, T_1, Lc_1, X_1, hQ_1, st_1⟩ := own_un X0 (Q := Q15 Z a2 (1 : Int32) h0 n0) (rc := 0) (rs := 0) (W := fun v B => Steps p.tables e below (s₁.setTop (mkF m 2 #[.val (.ref a1), .val (.ref a2), .unset] [(.ref a2), (.ref a1)])) (B.setTop { (mkF m 2 #[.val (.ref a1), .val (.ref a2), .unset] [(.ref a2), (.ref a1)]) with pc := 7, stack := v.toList ++ [(.ref a1)] })) <| X0.interfaceBack hx (xi := (⟨"java/util/List", "size", "()I"⟩ : MethodName)) (y := (⟨"java/util/ArrayList", "size", "()I"⟩ : MethodName)) hown (mvT hZ (hw _ (List.mem_of_getElem? (i := 108) rfl))) (mvT hZ (hw _ (List.mem_of_getElem? (i := 109) rfl))) (mvT hZ (hw _ (List.mem_of_getElem? (i := 110) rfl))) (mvT hZ (hw _ (List.mem_of_getElem? (i := 111) rfl))) (mvT hZ (hw _ (List.mem_of_getElem? (i := 112) rfl))) (mvT hZ (hw _ (List.mem_of_getElem? (i := 113) rfl))) (mvT hZ (hw _ (List.mem_of_getElem? (i := 114) rfl))) (mvT hZ (hw _ (List.mem_of_getElem? (i := 115) rfl))) (by decide) (backOf (W := 1) (rm15 l Z a0 hw [] a2 (1 : Int32) h0 n0 Z0 F2) hZ (hw _ (List.mem_of_getElem? (i := 116) rfl)) (hw _ (List.mem_of_getElem? (i := 3) rfl)) (by decide) (by decide)) q_1a q_1b q_1c (g := (mkF m 2 #[.val (.ref a1), .val (.ref a2), .unset] [(.ref a2), (.ref a1)])) rfl (by rw [hml]; rfl) (Steps.refl _) (argsL := []) (rest := [(.ref a1)]) (lenOf pd_7 rfl) rfl (by show 2 * 0 + _ ≤ _; exact Nat.le_of_eq rfl) (hb hby d14_2) (fun _ _ => ⟨rfl, e0, (by decide : 0 + 0 ≤ _), (by decide : 0 + 0 ≤ _)⟩)
  obtain ⟨rfl, N_1q, e_1⟩ := hQ_1
  have N_1 := Fr.app N0 N_1q
  refine OGo.to (fun _ k => st_1.trans k) ?_
  show OGo p e below _ (T_1.setTop (mkF m 7 #[.val (.ref a1), .val (.ref a2), .unset] [(.int (1 : Int32)), (.ref a1)]))
  obtain ⟨T_2, h_2, k_2, X_2, e_2, E_2, A_2, st_2⟩ := newP X_1 hx hZ (hw _ (List.mem_of_getElem? (i := 85) rfl)) e_1 (g := (mkF m 7 #[.val (.ref a1), .val (.ref a2), .unset] [(.int (1 : Int32)), (.ref a1)])) rfl (hb hby d14_7) rfl (by decide) (cap := 1) (by decide) (by decide) (by decide) (by decide)
  obtain ⟨b_2, g_2⟩ : ∃ z, z = h0.size := ⟨_, rfl⟩
  rw [← g_2] at A_2 st_2
  have g_b_2 : n0 ≤ b_2 := Nat.le_trans Z0 (Nat.le_of_eq g_2.symm)
  have sz_b_2 : h0.size ≤ b_2 := Nat.le_trans (Keep.refl h0 [a1]).1 (Nat.le_of_eq g_2.symm)
  refine OGo.to st_2 ?_
  have ne_a1_b_2 : a1 ≠ b_2 := Nat.ne_of_lt (Nat.lt_of_lt_of_le E1.lt (Nat.le_of_eq g_2.symm))
  have ne_a2_b_2 : a2 ≠ b_2 := Nat.ne_of_lt (Nat.lt_of_lt_of_le E2.lt (Nat.le_of_eq g_2.symm))
  have ne_t1_b_2 : t1 ≠ b_2 := Nat.ne_of_lt (Nat.lt_of_lt_of_le V1.lt (Nat.le_of_eq g_2.symm))
  have ne_x0_b_2 : x0 ≠ b_2 := Nat.ne_of_lt (Nat.lt_of_lt_of_le E_x0.lt (Nat.le_of_eq g_2.symm))
  have z_3 : n0 ≤ h_2.size := Nat.le_trans Z0 E_2.1
  have K_4 : Keep h0 h_2 [a1] := (Keep.refl h0 [a1]).ext E_2
  have V_2 : Arv Z h_2 b_2 k_2 .int (1 : Int32) [(.int (0 : Int32))] (.int (0 : Int32)) := (Arv.new A_2 (by decide)).pad (pad_rep [] (.int (0 : Int32)) 1)
  show OGo p e below _ (T_2.setTop (mkF m 9 #[.val (.ref a1), .val (.ref a2), .unset] [(.ref b_2), (.ref a1)]))
  have f_5 : Exa Z h_2 a1 "com/example/dromos/dromos/service/Definition" := (E1.ext E_2)
  have f_6 : Fld Z h_2 a1 "com/example/dromos/dromos/service/Definition" "operators" "[I" (.ref o1) := (Fo.ext E_2)
  obtain ⟨T_7, h_7, X_7, e_7, W_7, st_7⟩ := putF X_2 hx hZ hown (host := "") (Or.inl (hw _ (List.mem_of_getElem? (i := 86) rfl))) Via.refl e_2 f_6 f_5 (Or.inl (hw _ (List.mem_of_getElem? (i := 87) rfl))) (hw _ (List.mem_of_getElem? (i := 75) rfl)) (ty := (.array .int)) (by decide) rfl rfl (g := (mkF m 9 #[.val (.ref a1), .val (.ref a2), .unset] [(.ref b_2), (.ref a1)])) rfl rfl (hb hby d14_9)
  refine OGo.to st_7 ?_
  have Fw_7 : Fld Z h_7 a1 "com/example/dromos/dromos/service/Definition" "operators" "[I" (.ref b_2) := f_6.same W_7
  have N_7 := Fr.snoc X_7 N_1 g1
  have z_8 : n0 ≤ h_7.size := Nat.le_trans z_3 (Keep.of_wr W_7).1
  have K_9 : Keep h0 h_7 [a1] := K_4.wr W_7 (Or.inl (List.mem_of_getElem? (i := 0) rfl))
  show OGo p e below _ (T_7.setTop (mkF m 12 #[.val (.ref a1), .val (.ref a2), .unset] []))
  refine OGo.to (fun _ k => XS.iconst X_7.here hx rfl (hb hby d14_12) k) ?_
  show OGo p e below _ (T_7.setTop (mkF m 13 #[.val (.ref a1), .val (.ref a2), .unset] [(.int (0 : Int32))]))
  refine OGo.to (fun _ k => XS.istoreN X_7.here hx rfl (hb hby d14_13) rfl (l' := #[.val (.ref a1), .val (.ref a2), .val (.int (0 : Int32))]) rfl k) ?_
  show OGo p e below _ (T_7.setTop (mkF m 14 #[.val (.ref a1), .val (.ref a2), .val (.int (0 : Int32))] []))
  refine OGo.to (fun _ k => XS.iloadN X_7.here hx rfl (hb hby d14_14) rfl k) ?_
  show OGo p e below _ (T_7.setTop (mkF m 15 #[.val (.ref a1), .val (.ref a2), .val (.int (0 : Int32))] [(.int (0 : Int32))]))
  refine OGo.to (fun _ k => XS.aloadN X_7.here hx rfl (hb hby d14_15) rfl rfl k) ?_
  show OGo p e below _ (T_7.setTop (mkF m 16 #[.val (.ref a1), .val (.ref a2), .val (.int (0 : Int32))] [(.ref a1), (.int (0 : Int32))]))
  obtain ⟨T_10, X_10, e_10, st_10⟩ := getF X_7 hx hZ hown (host := "") (Or.inl (hw _ (List.mem_of_getElem? (i := 86) rfl))) Via.refl e_7 Fw_7 (g := (mkF m 16 #[.val (.ref a1), .val (.ref a2), .val (.int (0 : Int32))] [(.ref a1), (.int (0 : Int32))])) rfl rfl (hb hby d14_16)
  refine OGo.to st_10 ?_
  show OGo p e below _ (T_10.setTop (mkF m 19 #[.val (.ref a1), .val (.ref a2), .val (.int (0 : Int32))] [(.ref b_2), (.int (0 : Int32))]))
  have f_11 : Arv Z h_7 b_2 k_2 .int (1 : Int32) [(.int (0 : Int32))] (.int (0 : Int32)) := (V_2.other W_7 (Ne.symm ne_a1_b_2))
  have Vq_12 := f_11
  obtain ⟨cl_12, Ar_12, q_12, S_12, M_12, Hs_12, G_12⟩ := Vq_12
  refine OGo.to (fun _ k => X_10.arraylength hx (by rw [e_10]; exact Ar_12.1) (State.isArrayOf_alike hZ.alike Ar_12.2.1) (g := (mkF m 19 #[.val (.ref a1), .val (.ref a2), .val (.int (0 : Int32))] [(.ref b_2), (.int (0 : Int32))])) rfl rfl (hb hby d14_19) _ k) ?_
  rw [len_of S_12 M_12]
  show OGo p e below _ (T_10.setTop (mkF m 20 #[.val (.ref a1), .val (.ref a2), .val (.int (0 : Int32))] [(.int (1 : Int32)), (.int (0 : Int32))]))
  have hc20__13 : (0 : Int32) < (1 : Int32) := by decide
  refine OGo.to (fun _ k => XS.icmpNo X_10.here hx rfl (hb hby d14_20) rfl (tlt hc20__13).2.1 k) ?_
  show OGo p e below _ (T_10.setTop (mkF m 23 #[.val (.ref a1), .val (.ref a2), .val (.int (0 : Int32))] []))
  refine OGo.to (fun _ k => XS.aloadN X_10.here hx rfl (hb hby d14_23) rfl rfl k) ?_
  show OGo p e below _ (T_10.setTop (mkF m 24 #[.val (.ref a1), .val (.ref a2), .val (.int (0 : Int32))] [(.ref a1)]))
  obtain ⟨T_14, X_14, e_14, st_14⟩ := getF X_10 hx hZ hown (host := "") (Or.inl (hw _ (List.mem_of_getElem? (i := 86) rfl))) Via.refl e_10 Fw_7 (g := (mkF m 24 #[.val (.ref a1), .val (.ref a2), .val (.int (0 : Int32))] [(.ref a1)])) rfl rfl (hb hby d14_24)
  refine OGo.to st_14 ?_
  show OGo p e below _ (T_14.setTop (mkF m 27 #[.val (.ref a1), .val (.ref a2), .val (.int (0 : Int32))] [(.ref b_2)]))
  refine OGo.to (fun _ k => XS.iloadN X_14.here hx rfl (hb hby d14_27) rfl k) ?_
  show OGo p e below _ (T_14.setTop (mkF m 28 #[.val (.ref a1), .val (.ref a2), .val (.int (0 : Int32))] [(.int (0 : Int32)), (.ref b_2)]))
  refine OGo.to (fun _ k => XS.aloadN X_14.here hx rfl (hb hby d14_28) rfl rfl k) ?_
  show OGo p e below _ (T_14.setTop (mkF m 29 #[.val (.ref a1), .val (.ref a2), .val (.int (0 : Int32))] [(.ref a2), (.int (0 : Int32)), (.ref b_2)]))
  refine OGo.to (fun _ k => XS.iloadN X_14.here hx rfl (hb hby d14_29) rfl k) ?_
  show OGo p e below _ (T_14.setTop (mkF m 30 #[.val (.ref a1), .val (.ref a2), .val (.int (0 : Int32))] [(.int (0 : Int32)), (.ref a2), (.int (0 : Int32)), (.ref b_2)]))
  have f_16 : Exa Z h_7 a2 "java/util/ArrayList" := ((E2.ext E_2).wr W_7)
  have f_17 : Fld Z h_7 a2 "java/util/ArrayList" "size" "I" (.int (1 : Int32)) := ((F2.ext E_2).other W_7 (Or.inl (Ne.symm n12)))
  have f_18 : Fld Z h_7 a2 "java/util/ArrayList" "elementData" "[Ljava/lang/Object;" (.ref t1) := ((F3.ext E_2).other W_7 (Or.inl (Ne.symm n12)))
  have f_19 : Arv Z h_7 t1 kb (.object "java/lang/Object") (10 : Int32) [(.ref x0), .null, .null, .null, .null, .null, .null, .null, .null, .null] .null := ((V1.ext E_2).other W_7 (Ne.symm n1t))
  obtain ⟨cq_15, kq_15, q_15a, q_15b, q_15c⟩ := isOf hZ e_14 f_16
  obtain ⟨_, T_15, Lc_15, X_15, hQ_15, st_15⟩ := own_un X_14 (Q := Qget0_1 Z a2 t1 kb x0 h_7 n0) (rc := 0) (rs := 0) (W := fun v B => Steps p.tables e below (T_14.setTop (mkF m 30 #[.val (.ref a1), .val (.ref a2), .val (.int (0 : Int32))] [(.int (0 : Int32)), (.ref a2), (.int (0 : Int32)), (.ref b_2)])) (B.setTop { (mkF m 30 #[.val (.ref a1), .val (.ref a2), .val (.int (0 : Int32))] [(.int (0 : Int32)), (.ref a2), (.int (0 : Int32)), (.ref b_2)]) with pc := 35, stack := v.toList ++ [(.int (0 : Int32)), (.ref b_2)] })) <| X_14.interfaceBack hx (xi := (⟨"java/util/List", "get", "(I)Ljava/lang/Object;"⟩ : MethodName)) (y := (⟨"java/util/ArrayList", "get", "(I)Ljava/lang/Object;"⟩ : MethodName)) hown (mvT hZ (hw _ (List.mem_of_getElem? (i := 117) rfl))) (mvT hZ (hw _ (List.mem_of_getElem? (i := 118) rfl))) (mvT hZ (hw _ (List.mem_of_getElem? (i := 119) rfl))) (mvT hZ (hw _ (List.mem_of_getElem? (i := 120) rfl))) (mvT hZ (hw _ (List.mem_of_getElem? (i := 121) rfl))) (mvT hZ (hw _ (List.mem_of_getElem? (i := 122) rfl))) (mvT hZ (hw _ (List.mem_of_getElem? (i := 123) rfl))) (mvT hZ (hw _ (List.mem_of_getElem? (i := 115) rfl))) (by decide) (backOf (W := 2) (rmget0_1 l Z a0 hw [] a2 t1 kb x0 h_7 n0 z_8 f_16 f_17 f_18 f_19) hZ (hw _ (List.mem_of_getElem? (i := 124) rfl)) (hw _ (List.mem_of_getElem? (i := 3) rfl)) (by decide) (by decide)) q_15a q_15b q_15c (g := (mkF m 30 #[.val (.ref a1), .val (.ref a2), .val (.int (0 : Int32))] [(.int (0 : Int32)), (.ref a2), (.int (0 : Int32)), (.ref b_2)])) rfl (by rw [hml]; rfl) (Steps.refl _) (argsL := [(.int (0 : Int32))]) (rest := [(.int (0 : Int32)), (.ref b_2)]) (lenOf pd_6 rfl) rfl (by show 2 * 0 + _ ≤ _; exact Nat.le_of_eq rfl) (hb hby d14_30) (fun _ _ => ⟨rfl, e_14, (by decide : 1 + 0 ≤ _), (by decide : 1 + 0 ≤ _)⟩)
  obtain ⟨rfl, N_15q, e_15⟩ := hQ_15
  have N_15 := Fr.app N_7 N_15q
  refine OGo.to (fun _ k => st_15.trans k) ?_
  show OGo p e below _ (T_15.setTop (mkF m 35 #[.val (.ref a1), .val (.ref a2), .val (.int (0 : Int32))] [(.ref x0), (.int (0 : Int32)), (.ref b_2)]))
  have f_21 : Exa Z h_7 x0 "com/example/dromos/dromos/model/Module$Signature" := ((E_x0.ext E_2).wr W_7)
  obtain ⟨T_20, X_20, e_20, st_20⟩ := castY X_15 hx hZ hown (hw _ (List.mem_of_getElem? (i := 138) rfl)) e_15 (Ins.self f_21) (g := (mkF m 35 #[.val (.ref a1), .val (.ref a2), .val (.int (0 : Int32))] [(.ref x0), (.int (0 : Int32)), (.ref b_2)])) rfl rfl (hb hby d14_35)
  refine OGo.to st_20 ?_
  show OGo p e below _ (T_20.setTop (mkF m 38 #[.val (.ref a1), .val (.ref a2), .val (.int (0 : Int32))] [(.ref x0), (.int (0 : Int32)), (.ref b_2)]))
  have f_23 : Fld Z h_7 x0 "com/example/dromos/dromos/model/Module$Signature" "arity" "I" (.int y0) := ((F_x0.ext E_2).other W_7 (Or.inl (Ne.symm n_x0)))
  obtain ⟨cq_22, kq_22, q_22a, q_22b, q_22c⟩ := isOf hZ e_20 f_21
  obtain ⟨_, T_22, Lc_22, X_22, hQ_22, st_22⟩ := own_un X_20 (Q := Q20 Z x0 y0 h_7 n0) (rc := 0) (rs := 0) (W := fun v B => Steps p.tables e below (T_20.setTop (mkF m 38 #[.val (.ref a1), .val (.ref a2), .val (.int (0 : Int32))] [(.ref x0), (.int (0 : Int32)), (.ref b_2)])) (B.setTop { (mkF m 38 #[.val (.ref a1), .val (.ref a2), .val (.int (0 : Int32))] [(.ref x0), (.int (0 : Int32)), (.ref b_2)]) with pc := 41, stack := v.toList ++ [(.int (0 : Int32)), (.ref b_2)] })) <| X_20.virtualBack hx (y := (⟨"com/example/dromos/dromos/model/Module$Signature", "arity", "()I"⟩ : MethodName)) (z := (⟨"com/example/dromos/dromos/model/Module$Signature", "arity", "()I"⟩ : MethodName)) hown (mvT hZ (hw _ (List.mem_of_getElem? (i := 140) rfl))) (mvT hZ (hw _ (List.mem_of_getElem? (i := 141) rfl))) (notFace_of_selects (args := #[]) (mvT hZ (hw _ (List.mem_of_getElem? (i := 143) rfl)))) (mvT hZ (hw _ (List.mem_of_getElem? (i := 143) rfl))) (mvT hZ (hw _ (List.mem_of_getElem? (i := 142) rfl))) (by decide) (backOf (W := 2) (rm20 l Z a0 hw [] x0 y0 h_7 n0 z_8 f_23) hZ (hw _ (List.mem_of_getElem? (i := 144) rfl)) (hw _ (List.mem_of_getElem? (i := 29) rfl)) (by decide) (by decide)) q_22a q_22c (g := (mkF m 38 #[.val (.ref a1), .val (.ref a2), .val (.int (0 : Int32))] [(.ref x0), (.int (0 : Int32)), (.ref b_2)])) rfl (by rw [hml]; rfl) (Steps.refl _) (argsL := []) (rest := [(.int (0 : Int32)), (.ref b_2)]) (lenOf pd_7 rfl) rfl (by show 2 * 0 + _ ≤ _; exact Nat.le_of_eq rfl) (hb hby d14_38) (fun _ _ => ⟨rfl, e_20, (by decide : 1 + 0 ≤ _), (by decide : 1 + 0 ≤ _)⟩)
  obtain ⟨rfl, N_22q, e_22⟩ := hQ_22
  have N_22 := Fr.app N_15 N_22q
  refine OGo.to (fun _ k => st_22.trans k) ?_
  show OGo p e below _ (T_22.setTop (mkF m 41 #[.val (.ref a1), .val (.ref a2), .val (.int (0 : Int32))] [(.int y0), (.int (0 : Int32)), (.ref b_2)]))
  have Vq_24 := f_11
  obtain ⟨cl_24, Ar_24, q_24, S_24, M_24, Hs_24, G_24⟩ := Vq_24
  have hin_25 : ¬ ((0 : Int32) < 0 ∨ cl_24.slots.size ≤ ((0 : Int32)).toNatClampNeg) := inb_of S_24 ⟨by decide, by decide⟩
  obtain ⟨T_25, h_25, X_25, e_25, W_25, st_25⟩ := stI X_22 hx hZ e_22 Ar_24 (j := (0 : Int32)) hin_25 (g := (mkF m 41 #[.val (.ref a1), .val (.ref a2), .val (.int (0 : Int32))] [(.int y0), (.int (0 : Int32)), (.ref b_2)])) rfl rfl (hb hby d14_41)
  refine OGo.to st_25 ?_
  have V_25 : Arv Z h_25 b_2 k_2 .int (1 : Int32) [(.int y0)] (.int (0 : Int32)) := Arv.set Ar_24 q_24 S_24 M_24 Hs_24 G_24 rfl W_25 0 rfl (Nat.le_of_ble_eq_true rfl)
  have N_25 := Fr.snoc X_25 N_22 g_b_2
  have z_26 : n0 ≤ h_25.size := Nat.le_trans z_8 (Keep.of_wr W_25).1
  have K_27 : Keep h0 h_25 [a1] := K_9.wr W_25 (Or.inr sz_b_2)
  show OGo p e below _ (T_25.setTop (mkF m 42 #[.val (.ref a1), .val (.ref a2), .val (.int (0 : Int32))] []))
  refine OGo.to (fun _ k => XS.iinc X_25.here hx rfl (hb hby d14_42) rfl (l' := #[.val (.ref a1), .val (.ref a2), .val (.int (1 : Int32))]) rfl k) ?_
  show OGo p e below _ (T_25.setTop (mkF m 45 #[.val (.ref a1), .val (.ref a2), .val (.int (1 : Int32))] []))
  refine OGo.to (fun _ k => XS.goto X_25.here hx rfl (pc0 := 45) (pc' := 14) rfl (hb hby d14_45) (by decide) (by decide) k) ?_
  show OGo p e below _ (T_25.setTop (mkF m 14 #[.val (.ref a1), .val (.ref a2), .val (.int (1 : Int32))] []))
  refine OGo.to (fun _ k => XS.iloadN X_25.here hx rfl (hb hby d14_14) rfl k) ?_
  show OGo p e below _ (T_25.setTop (mkF m 15 #[.val (.ref a1), .val (.ref a2), .val (.int (1 : Int32))] [(.int (1 : Int32))]))
  refine OGo.to (fun _ k => XS.aloadN X_25.here hx rfl (hb hby d14_15) rfl rfl k) ?_
  show OGo p e below _ (T_25.setTop (mkF m 16 #[.val (.ref a1), .val (.ref a2), .val (.int (1 : Int32))] [(.ref a1), (.int (1 : Int32))]))
  have f_28 : Fld Z h_25 a1 "com/example/dromos/dromos/service/Definition" "operators" "[I" (.ref b_2) := (Fw_7.other W_25 (Or.inl ne_a1_b_2))
  obtain ⟨T_29, X_29, e_29, st_29⟩ := getF X_25 hx hZ hown (host := "") (Or.inl (hw _ (List.mem_of_getElem? (i := 86) rfl))) Via.refl e_25 f_28 (g := (mkF m 16 #[.val (.ref a1), .val (.ref a2), .val (.int (1 : Int32))] [(.ref a1), (.int (1 : Int32))])) rfl rfl (hb hby d14_16)
  refine OGo.to st_29 ?_
  show OGo p e below _ (T_29.setTop (mkF m 19 #[.val (.ref a1), .val (.ref a2), .val (.int (1 : Int32))] [(.ref b_2), (.int (1 : Int32))]))
  have Vq_30 := V_25
  obtain ⟨cl_30, Ar_30, q_30, S_30, M_30, Hs_30, G_30⟩ := Vq_30
  refine OGo.to (fun _ k => X_29.arraylength hx (by rw [e_29]; exact Ar_30.1) (State.isArrayOf_alike hZ.alike Ar_30.2.1) (g := (mkF m 19 #[.val (.ref a1), .val (.ref a2), .val (.int (1 : Int32))] [(.ref b_2), (.int (1 : Int32))])) rfl rfl (hb hby d14_19) _ k) ?_
  rw [len_of S_30 M_30]
  show OGo p e below _ (T_29.setTop (mkF m 20 #[.val (.ref a1), .val (.ref a2), .val (.int (1 : Int32))] [(.int (1 : Int32)), (.int (1 : Int32))]))
  have hc20__31 : ¬ ((1 : Int32) < (1 : Int32)) := by decide
  refine OGo.to (fun _ k => XS.icmpYes X_29.here hx rfl (pc0 := 20) (pc' := 48) rfl (hb hby d14_20) rfl (flt hc20__31).2.1 (by decide) (by decide) k) ?_
  show OGo p e below _ (T_29.setTop (mkF m 48 #[.val (.ref a1), .val (.ref a2), .val (.int (1 : Int32))] []))
  refine OGo.ret (Q := Qtk1 Z a1 a2 o1 t1 kb x0 y0 h0 n0) X_29 none (fun _ => rfl) Bd.notSynchronized (fun fs hr => X_29.returnOut hx Bd.returns (hb hby d14_48) hr) ?_ (by decide) (by decide)
  show Qtk1 Z a1 a2 o1 t1 kb x0 y0 h0 n0 _ T_29.heap _
  rw [e_29]
  exact ⟨b_2, k_2, rfl, N_25, K_27, g_b_2, sz_b_2, f_28, V_25⟩
theorem d13_15 : decode prog_165_method_6_code 15 = .ok (.aload_n 1, 1) := by decide +kernel
theorem d13_16 : decode prog_165_method_6_code 16 = .ok (.iload_n 3, 1) := by decide +kernel
theorem d13_17 : decode prog_165_method_6_code 17 = .ok (.iaload, 1) := by decide +kernel
theorem d13_18 : decode prog_165_method_6_code 18 = .ok (.istore 4, 2) := by decide +kernel
theorem d13_20 : decode prog_165_method_6_code 20 = .ok (.iload 4, 2) := by decide +kernel
theorem d13_22 : decode prog_165_method_6_code 22 = .ok (.ifCond .le 5, 3) := by decide +kernel
theorem d13_25 : decode prog_165_method_6_code 25 = .ok (.iconst 1, 1) := by decide +kernel
theorem d13_26 : decode prog_165_method_6_code 26 = .ok (.ireturn, 1) := by decide +kernel
theorem d13_27 : decode prog_165_method_6_code 27 = .ok (.iinc 3 1, 3) := by decide +kernel
theorem d13_30 : decode prog_165_method_6_code 30 = .ok (.goto (-20), 3) := by decide +kernel
theorem ef_op1 (m : MethodId) (x0 : Addr) : entryFrame m #[(.ref x0)] 5 = mkF m 0 #[.val (.ref x0), .unset, .unset, .unset, .unset] [] := by first | (simp [entryFrame, mkF, argsToLocals, Value.category]; done) | rfl
def Qop1 (Z : State) (a1 : Addr) (t1 : Addr) (kk : ClassId) (y0 : Int32) (h0 : Heap) (n0 : Nat) (v : Option Value) (h : Heap) (L : List Loc) : Prop := v = some (.int (if (0 : Int32) < y0 then (1 : Int32) else (0 : Int32))) ∧ Fr n0 L ∧ h = h0
set_option maxRecDepth 65536 in
set_option maxHeartbeats 40000000 in
theorem rmop1 (l : Launch) (Z : State) (a0 : Array Value) (hw : ∀ d ∈ tables_1, d.before a0 Z = true) (ws : List Jvm.Cond) (a1 : Addr) (t1 : Addr) (kk : ClassId) (y0 : Int32) (h0 : Heap) (n0 : Nat) (Z0 : n0 ≤ h0.size) (Fo : Fld Z h0 a1 "com/example/dromos/dromos/service/Definition" "operators" "[I" (.ref t1)) (V1 : Arv Z h0 t1 kk .int (1 : Int32) [(.int y0)] (.int (0 : Int32))) :
    MetFree l (⟨"com/example/dromos/dromos/service/Definition", "takesOperators", "()Z"⟩ : MethodName) (head1 (Jvm.Cond.code (⟨"com/example/dromos/dromos/service/Definition", "takesOperators", "()Z"⟩ : MethodName) prog_165_method_6_code 5 (some .boolean) :: ws) ({ frames := 0, cells := 0, slots := 0, locals := 0 } : Room)) (fun a U => a = #[(.ref a1)] ∧ Z.Warmed39 U.vm ∧ U.heap = h0) (fun _ _ _ _ _ => True) (fun _ U o U' => ∃ v L, o = .returned v ∧ Qop1 Z a1 t1 kk y0 h0 n0 v U'.heap L ∧ FrameEnd U o U' L ({ frames := 0, cells := 0, slots := 0, locals := 0 } : Room).cells ({ frames := 0, cells := 0, slots := 0, locals := 0 } : Room).slots) := by
  refine MetFree.of_bodySF (plainFor_of_name pn_5) hisR ?_
  intro p e s m args below meth c s₁ Bd hml0 hP hK
  obtain ⟨rfl, hZ, hh⟩ := hP
  have hx := Bd.exec
  have hby := Bd.bytes
  have hml : c.maxLocals = 5 := hml0
  have hown : s.vm.findClass "com/example/dromos/dromos/service/Definition" = some m.cls := findClass_of_methodNamed Bd.named
  have hnm := (name_of_methodNamed Bd.named Bd.method).1
  have X0 : Stand p l e ({ frames := 0, cells := 0, slots := 0, locals := 0 } : Room) s m #[(.ref a1)] below meth c s₁ [] 0 0 := Stand.of_body Bd
  have e0 : s₁.heap = h0 := by rw [← hh, Bd.state]; rfl
  have N0 := Fr.nil n0
  show OGo p e below (fun s₂ o => ∃ v L, o = .returned v ∧ Qop1 Z a1 t1 kk y0 h0 n0 v s₂.heap L ∧ FrameEnd s o s₂ L ({ frames := 0, cells := 0, slots := 0, locals := 0 } : Room).cells ({ frames := 0, cells := 0, slots := 0, locals := 0 } : Room).slots) _
  refine OGo.to (fun _ k => castTop (ef_op1 m a1) k) ?_
  refine OGo.to (fun _ k => XS.aloadN X0.here hx rfl (hb hby d13_0) rfl rfl k) ?_
  show OGo p e below _ (s₁.setTop (mkF m 1 #[.val (.ref a1), .unset, .unset, .unset, .unset] [(.ref a1)]))
  obtain ⟨T_1, X_1, e_1, st_1⟩ := getF X0 hx hZ hown (host := "") (Or.inl (hw _ (List.mem_of_getElem? (i := 86) rfl))) Via.refl e0 Fo (g := (mkF m 1 #[.val (.ref a1), .unset, .unset, .unset, .unset] [(.ref a1)])) rfl rfl (hb hby d13_1)
  refine OGo.to st_1 ?_
  show OGo p e below _ (T_1.setTop (mkF m 4 #[.val (.ref a1), .unset, .unset, .unset, .unset] [(.ref t1)]))
  refine OGo.to (fun _ k => XS.astoreN X_1.here hx rfl (hb hby d13_4) rfl rfl (l' := #[.val (.ref a1), .val (.ref t1), .unset, .unset, .unset]) rfl k) ?_
  show OGo p e below _ (T_1.setTop (mkF m 5 #[.val (.ref a1), .val (.ref t1), .unset, .unset, .unset] []))
  refine OGo.to (fun _ k => XS.aloadN X_1.here hx rfl (hb hby d13_5) rfl rfl k) ?_
  show OGo p e below _ (T_1.setTop (mkF m 6 #[.val (.ref a1), .val (.ref t1), .unset, .unset, .unset] [(.ref t1)]))
  have Vq_2 := V1
  obtain ⟨cl_2, Ar_2, q_2, S_2, M_2, Hs_2, G_2⟩ := Vq_2
  refine OGo.to (fun _ k => X_1.arraylength hx (by rw [e_1]; exact Ar_2.1) (State.isArrayOf_alike hZ.alike Ar_2.2.1) (g := (mkF m 6 #[.val (.ref a1), .val (.ref t1), .unset, .unset, .unset] [(.ref t1)])) rfl rfl (hb hby d13_6) _ k) ?_
  rw [len_of S_2 M_2]
  show OGo p e below _ (T_1.setTop (mkF m 7 #[.val (.ref a1), .val (.ref t1), .unset, .unset, .unset] [(.int (1 : Int32))]))
  refine OGo.to (fun _ k => XS.istoreN X_1.here hx rfl (hb hby d13_7) rfl (l' := #[.val (.ref a1), .val (.ref t1), .val (.int (1 : Int32)), .unset, .unset]) rfl k) ?_
  show OGo p e below _ (T_1.setTop (mkF m 8 #[.val (.ref a1), .val (.ref t1), .val (.int (1 : Int32)), .unset, .unset] []))
  refine OGo.to (fun _ k => XS.iconst X_1.here hx rfl (hb hby d13_8) k) ?_
  show OGo p e below _ (T_1.setTop (mkF m 9 #[.val (.ref a1), .val (.ref t1), .val (.int (1 : Int32)), .unset, .unset] [(.int (0 : Int32))]))
  refine OGo.to (fun _ k => XS.istoreN X_1.here hx rfl (hb hby d13_9) rfl (l' := #[.val (.ref a1), .val (.ref t1), .val (.int (1 : Int32)), .val (.int (0 : Int32)), .unset]) rfl k) ?_
  show OGo p e below _ (T_1.setTop (mkF m 10 #[.val (.ref a1), .val (.ref t1), .val (.int (1 : Int32)), .val (.int (0 : Int32)), .unset] []))
  refine OGo.to (fun _ k => XS.iloadN X_1.here hx rfl (hb hby d13_10) rfl k) ?_
  show OGo p e below _ (T_1.setTop (mkF m 11 #[.val (.ref a1), .val (.ref t1), .val (.int (1 : Int32)), .val (.int (0 : Int32)), .unset] [(.int (0 : Int32))]))
  refine OGo.to (fun _ k => XS.iloadN X_1.here hx rfl (hb hby d13_11) rfl k) ?_
  show OGo p e below _ (T_1.setTop (mkF m 12 #[.val (.ref a1), .val (.ref t1), .val (.int (1 : Int32)), .val (.int (0 : Int32)), .unset] [(.int (1 : Int32)), (.int (0 : Int32))]))
  have hc12__3 : (0 : Int32) < (1 : Int32) := by decide
  refine OGo.to (fun _ k => XS.icmpNo X_1.here hx rfl (hb hby d13_12) rfl (tlt hc12__3).2.1 k) ?_
  show OGo p e below _ (T_1.setTop (mkF m 15 #[.val (.ref a1), .val (.ref t1), .val (.int (1 : Int32)), .val (.int (0 : Int32)), .unset] []))
  refine OGo.to (fun _ k => XS.aloadN X_1.here hx rfl (hb hby d13_15) rfl rfl k) ?_
  show OGo p e below _ (T_1.setTop (mkF m 16 #[.val (.ref a1), .val (.ref t1), .val (.int (1 : Int32)), .val (.int (0 : Int32)), .unset] [(.ref t1)]))
  refine OGo.to (fun _ k => XS.iloadN X_1.here hx rfl (hb hby d13_16) rfl k) ?_
  show OGo p e below _ (T_1.setTop (mkF m 17 #[.val (.ref a1), .val (.ref t1), .val (.int (1 : Int32)), .val (.int (0 : Int32)), .unset] [(.int (0 : Int32)), (.ref t1)]))
  have Vq_4 := V1
  obtain ⟨cl_4, Ar_4, q_4, S_4, M_4, Hs_4, G_4⟩ := Vq_4
  have hin_5 : ¬ ((0 : Int32) < 0 ∨ cl_4.slots.size ≤ ((0 : Int32)).toNatClampNeg) := inb_of S_4 ⟨by decide, by decide⟩
  have hat_5 : cl_4.slots[((0 : Int32)).toNatClampNeg]? = some (.int y0) := Hs_4.at hin_5 (rfl)
  refine OGo.to (fun _ k => X_1.iaload hx (j := (0 : Int32)) (v := (.int y0)) (by rw [e_1]; exact Ar_4.1) (State.isArrayOf_alike hZ.alike Ar_4.2.1) Ar_4.2.2 hin_5 hat_5 (g := (mkF m 17 #[.val (.ref a1), .val (.ref t1), .val (.int (1 : Int32)), .val (.int (0 : Int32)), .unset] [(.int (0 : Int32)), (.ref t1)])) rfl rfl (hb hby d13_17) _ k) ?_
  show OGo p e below _ (T_1.setTop (mkF m 18 #[.val (.ref a1), .val (.ref t1), .val (.int (1 : Int32)), .val (.int (0 : Int32)), .unset] [(.int y0)]))
  refine OGo.to (fun _ k => XS.istore X_1.here hx rfl (hb hby d13_18) rfl (l' := #[.val (.ref a1), .val (.ref t1), .val (.int (1 : Int32)), .val (.int (0 : Int32)), .val (.int y0)]) rfl k) ?_
  show OGo p e below _ (T_1.setTop (mkF m 20 #[.val (.ref a1), .val (.ref t1), .val (.int (1 : Int32)), .val (.int (0 : Int32)), .val (.int y0)] []))
  refine OGo.to (fun _ k => XS.iload X_1.here hx rfl (hb hby d13_20) rfl k) ?_
  show OGo p e below _ (T_1.setTop (mkF m 22 #[.val (.ref a1), .val (.ref t1), .val (.int (1 : Int32)), .val (.int (0 : Int32)), .val (.int y0)] [(.int y0)]))
  by_cases hc22__6 : (0 : Int32) < y0
  ·  -- pc 22: yes
    refine OGo.to (fun _ k => XS.ifNo X_1.here hx rfl (hb hby d13_22) rfl ((if0 _ _).trans (tlt hc22__6).2.2.2) k) ?_
    show OGo p e below _ (T_1.setTop (mkF m 25 #[.val (.ref a1), .val (.ref t1), .val (.int (1 : Int32)), .val (.int (0 : Int32)), .val (.int y0)] []))
    refine OGo.to (fun _ k => XS.iconst X_1.here hx rfl (hb hby d13_25) k) ?_
    show OGo p e below _ (T_1.setTop (mkF m 26 #[.val (.ref a1), .val (.ref t1), .val (.int (1 : Int32)), .val (.int (0 : Int32)), .val (.int y0)] [(.int (1 : Int32))]))
    refine OGo.ret (Q := Qop1 Z a1 t1 kk y0 h0 n0) X_1 (some (.int (1 : Int32))) (fun h => by rw [Bd.returns] at h; cases h) Bd.notSynchronized (fun fs hr => retN X_1 hx (t := .boolean) (z := (1 : Int32)) Bd.returns (by simp) (hb hby d13_26) hr) ?_ (by decide) (by decide)
    show Qop1 Z a1 t1 kk y0 h0 n0 _ T_1.heap _
    rw [e_1]
    exact ⟨congrArg (fun z => some (Value.int z)) (show (1 : Int32) = (if (0 : Int32) < y0 then (1 : Int32) else (0 : Int32)) from by rw [if_pos hc22__6]), N0, rfl⟩
  ·  -- pc 22: no
    refine OGo.to (fun _ k => XS.ifYes X_1.here hx rfl (pc0 := 22) (pc' := 27) rfl (hb hby d13_22) rfl ((if0 _ _).trans (flt hc22__6).2.2.2) (by decide) (by decide) k) ?_
    show OGo p e below _ (T_1.setTop (mkF m 27 #[.val (.ref a1), .val (.ref t1), .val (.int (1 : Int32)), .val (.int (0 : Int32)), .val (.int y0)] []))
    refine OGo.to (fun _ k => XS.iinc X_1.here hx rfl (hb hby d13_27) rfl (l' := #[.val (.ref a1), .val (.ref t1), .val (.int (1 : Int32)), .val (.int (1 : Int32)), .val (.int y0)]) rfl k) ?_
    show OGo p e below _ (T_1.setTop (mkF m 30 #[.val (.ref a1), .val (.ref t1), .val (.int (1 : Int32)), .val (.int (1 : Int32)), .val (.int y0)] []))
    refine OGo.to (fun _ k => XS.goto X_1.here hx rfl (pc0 := 30) (pc' := 10) rfl (hb hby d13_30) (by decide) (by decide) k) ?_
    show OGo p e below _ (T_1.setTop (mkF m 10 #[.val (.ref a1), .val (.ref t1), .val (.int (1 : Int32)), .val (.int (1 : Int32)), .val (.int y0)] []))
    refine OGo.to (fun _ k => XS.iloadN X_1.here hx rfl (hb hby d13_10) rfl k) ?_
    show OGo p e below _ (T_1.setTop (mkF m 11 #[.val (.ref a1), .val (.ref t1), .val (.int (1 : Int32)), .val (.int (1 : Int32)), .val (.int y0)] [(.int (1 : Int32))]))
    refine OGo.to (fun _ k => XS.iloadN X_1.here hx rfl (hb hby d13_11) rfl k) ?_
    show OGo p e below _ (T_1.setTop (mkF m 12 #[.val (.ref a1), .val (.ref t1), .val (.int (1 : Int32)), .val (.int (1 : Int32)), .val (.int y0)] [(.int (1 : Int32)), (.int (1 : Int32))]))
    have hc12__7 : ¬ ((1 : Int32) < (1 : Int32)) := by decide
    refine OGo.to (fun _ k => XS.icmpYes X_1.here hx rfl (pc0 := 12) (pc' := 33) rfl (hb hby d13_12) rfl (flt hc12__7).2.1 (by decide) (by decide) k) ?_
    show OGo p e below _ (T_1.setTop (mkF m 33 #[.val (.ref a1), .val (.ref t1), .val (.int (1 : Int32)), .val (.int (1 : Int32)), .val (.int y0)] []))
    refine OGo.to (fun _ k => XS.iconst X_1.here hx rfl (hb hby d13_33) k) ?_
    show OGo p e below _ (T_1.setTop (mkF m 34 #[.val (.ref a1), .val (.ref t1), .val (.int (1 : Int32)), .val (.int (1 : Int32)), .val (.int y0)] [(.int (0 : Int32))]))
    refine OGo.ret (Q := Qop1 Z a1 t1 kk y0 h0 n0) X_1 (some (.int (0 : Int32))) (fun h => by rw [Bd.returns] at h; cases h) Bd.notSynchronized (fun fs hr => retN X_1 hx (t := .boolean) (z := (0 : Int32)) Bd.returns (by simp) (hb hby d13_34) hr) ?_ (by decide) (by decide)
    show Qop1 Z a1 t1 kk y0 h0 n0 _ T_1.heap _
    rw [e_1]
    exact ⟨congrArg (fun z => some (Value.int z)) (show (0 : Int32) = (if (0 : Int32) < y0 then (1 : Int32) else (0 : Int32)) from by rw [if_neg hc22__6]), N0, rfl⟩
theorem ef_tk2 (m : MethodId) (x0 : Addr) (x1 : Addr) : entryFrame m #[(.ref x0), (.ref x1)] 3 = mkF m 0 #[.val (.ref x0), .val (.ref x1), .unset] [] := by first | (simp [entryFrame, mkF, argsToLocals, Value.category]; done) | rfl
def Qtk2 (Z : State) (a1 : Addr) (a2 : Addr) (o1 : Addr) (t1 : Addr) (kb : ClassId) (x0 : Addr) (x1 : Addr) (y0 : Int32) (y1 : Int32) (h0 : Heap) (n0 : Nat) (v : Option Value) (h : Heap) (L : List Loc) : Prop := ∃ (b : Addr), ∃ (kk : ClassId), v = none ∧ Fr n0 L ∧ Keep h0 h [a1] ∧ n0 ≤ b ∧ h0.size ≤ b ∧ Fld Z h a1 "com/example/dromos/dromos/service/Definition" "operators" "[I" (.ref b) ∧ Arv Z h b kk .int (2 : Int32) [(.int y0), (.int y1)] (.int (0 : Int32))
set_option maxRecDepth 65536 in
set_option maxHeartbeats 40000000 in
theorem rmtk2 (l : Launch) (Z : State) (a0 : Array Value) (hw : ∀ d ∈ tables_1, d.before a0 Z = true) (ws : List Jvm.Cond) (a1 : Addr) (a2 : Addr) (o1 : Addr) (t1 : Addr) (kb : ClassId) (x0 : Addr) (x1 : Addr) (y0 : Int32) (y1 : Int32) (h0 : Heap) (n0 : Nat) (Z0 : n0 ≤ h0.size) (E1 : Exa Z h0 a1 "com/example/dromos/dromos/service/Definition") (E2 : Exa Z h0 a2 "java/util/ArrayList") (Fo : Fld Z h0 a1 "com/example/dromos/dromos/service/Definition" "operators" "[I" (.ref o1)) (F2 : Fld Z h0 a2 "java/util/ArrayList" "size" "I" (.int (2 : Int32))) (g1 : n0 ≤ a1) (n12 : a1 ≠ a2) (F3 : Fld Z h0 a2 "java/util/ArrayList" "elementData" "[Ljava/lang/Object;" (.ref t1)) (V1 : Arv Z h0 t1 kb (.object "java/lang/Object") (10 : Int32) [(.ref x0), (.ref x1), .null, .null, .null, .null, .null, .null, .null, .null] .null) (n1t : a1 ≠ t1) (E_x0 : Exa Z h0 x0 "com/example/dromos/dromos/model/Module$Signature") (F_x0 : Fld Z h0 x0 "com/example/dromos/dromos/model/Module$Signature" "arity" "I" (.int y0)) (n_x0 : a1 ≠ x0) (E_x1 : Exa Z h0 x1 "com/example/dromos/dromos/model/Module$Signature") (F_x1 : Fld Z h0 x1 "com/example/dromos/dromos/model/Module$Signature" "arity" "I" (.int y1)) (n_x1 : a1 ≠ x1) :
    MetFree l (⟨"com/example/dromos/dromos/service/Definition", "takes", "(Ljava/util/List;)V"⟩ : MethodName) (head1 (Jvm.Cond.code (⟨"com/example/dromos/dromos/service/Definition", "takes", "(Ljava/util/List;)V"⟩ : MethodName) prog_165_method_4_code 3 none :: ws) ({ frames := 3, cells := 1, slots := 2, locals := 42 } : Room)) (fun a U => a = #[(.ref a1), (.ref a2)] ∧ Z.Warmed39 U.vm ∧ U.heap = h0) (fun _ _ _ _ _ => True) (fun _ U o U' => ∃ v L, o = .returned v ∧ Qtk2 Z a1 a2 o1 t1 kb x0 x1 y0 y1 h0 n0 v U'.heap L ∧ FrameEnd U o U' L ({ frames := 3, cells := 1, slots := 2, locals := 42 } : Room).cells ({ frames := 3, cells := 1, slots := 2, locals := 42 } : Room).slots) := by
  refine MetFree.of_bodySF (plainFor_of_name pn_5) hisR ?_
  intro p e s m args below meth c s₁ Bd hml0 hP hK
  obtain ⟨rfl, hZ, hh⟩ := hP
  have hx := Bd.exec
  have hby := Bd.bytes
  have hml : c.maxLocals = 3 := hml0
  have hown : s.vm.findClass "com/example/dromos/dromos/service/Definition" = some m.cls := findClass_of_methodNamed Bd.named
  have hnm := (name_of_methodNamed Bd.named Bd.method).1
  have X0 : Stand p l e ({ frames := 3, cells := 1, slots := 2, locals := 42 } : Room) s m #[(.ref a1), (.ref a2)] below meth c s₁ [] 0 0 := Stand.of_body Bd
  have e0 : s₁.heap = h0 := by rw [← hh, Bd.state]; rfl
  have N0 := Fr.nil n0
  show OGo p e below (fun s₂ o => ∃ v L, o = .returned v ∧ Qtk2 Z a1 a2 o1 t1 kb x0 x1 y0 y1 h0 n0 v s₂.heap L ∧ FrameEnd s o s₂ L ({ frames := 3, cells := 1, slots := 2, locals := 42 } : Room).cells ({ frames := 3, cells := 1, slots := 2, locals := 42 } : Room).slots) _
  refine OGo.to (fun _ k => castTop (ef_tk2 m a1 a2) k) ?_
  refine OGo.to (fun _ k => XS.aloadN X0.here hx rfl (hb hby d14_0) rfl rfl k) ?_
  show OGo p e below _ (s₁.setTop (mkF m 1 #[.val (.ref a1), .val (.ref a2), .unset] [(.ref a1)]))
  refine OGo.to (fun _ k => XS.aloadN X0.here hx rfl (hb hby d14_1) rfl rfl k) ?_
  show OGo p e below _ (s₁.setTop (mkF m 2 #[.val (.ref a1), .val (.ref a2), .unset] [(.ref a2), (.ref a1)]))
  obtain ⟨cq_1, kq_1, q_1a, q_1b, q_1c⟩ := isOf hZ e0 E2
  obtain ⟨_, T_1, Lc_1, X_1, hQ_1, st_1⟩ := own_un X0 (Q := Q15 Z a2 (2 : Int32) h0 n0) (rc := 0) (rs := 0) (W := fun v B => Steps p.tables e below (s₁.setTop (mkF m 2 #[.val (.ref a1), .val (.ref a2), .unset] [(.ref a2), (.ref a1)])) (B.setTop { (mkF m 2 #[.val (.ref a1), .val (.ref a2), .unset] [(.ref a2), (.ref a1)]) with pc := 7, stack := v.toList ++ [(.ref a1)] })) <| X0.interfaceBack hx (xi := (⟨"java/util/List", "size", "()I"⟩ : MethodName)) (y := (⟨"java/util/ArrayList", "size", "()I"⟩ : MethodName)) hown (mvT hZ (hw _ (List.mem_of_getElem? (i := 108) rfl))) (mvT hZ (hw _ (List.mem_of_getElem? (i := 109) rfl))) (mvT hZ (hw _ (List.mem_of_getElem? (i := 110) rfl))) (mvT hZ (hw _ (List.mem_of_getElem? (i := 111) rfl))) (mvT hZ (hw _ (List.mem_of_getElem? (i := 112) rfl))) (mvT hZ (hw _ (List.mem_of_getElem? (i := 113) rfl))) (mvT hZ (hw _ (List.mem_of_getElem? (i := 114) rfl))) (mvT hZ (hw _ (List.mem_of_getElem? (i := 115) rfl))) (by decide) (backOf (W := 1) (rm15 l Z a0 hw [] a2 (2 : Int32) h0 n0 Z0 F2) hZ (hw _ (List.mem_of_getElem? (i := 116) rfl)) (hw _ (List.mem_of_getElem? (i := 3) rfl)) (by decide) (by decide)) q_1a q_1b q_1c (g := (mkF m 2 #[.val (.ref a1), .val (.ref a2), .unset] [(.ref a2), (.ref a1)])) rfl (by rw [hml]; rfl) (Steps.refl _) (argsL := []) (rest := [(.ref a1)]) (lenOf pd_7 rfl) rfl (by show 2 * 0 + _ ≤ _; exact Nat.le_of_eq rfl) (hb hby d14_2) (fun _ _ => ⟨rfl, e0, (by decide : 0 + 0 ≤ _), (by decide : 0 + 0 ≤ _)⟩)
  obtain ⟨rfl, N_1q, e_1⟩ := hQ_1
  have N_1 := Fr.app N0 N_1q
  refine OGo.to (fun _ k => st_1.trans k) ?_
  show OGo p e below _ (T_1.setTop (mkF m 7 #[.val (.ref a1), .val (.ref a2), .unset] [(.int (2 : Int32)), (.ref a1)]))
  obtain ⟨T_2, h_2, k_2, X_2, e_2, E_2, A_2, st_2⟩ := newP X_1 hx hZ (hw _ (List.mem_of_getElem? (i := 85) rfl)) e_1 (g := (mkF m 7 #[.val (.ref a1), .val (.ref a2), .unset] [(.int (2 : Int32)), (.ref a1)])) rfl (hb hby d14_7) rfl (by decide) (cap := 2) (by decide) (by decide) (by decide) (by decide)
  obtain ⟨b_2, g_2⟩ : ∃ z, z = h0.size := ⟨_, rfl⟩
  rw [← g_2] at A_2 st_2
  have g_b_2 : n0 ≤ b_2 := Nat.le_trans Z0 (Nat.le_of_eq g_2.symm)
  have sz_b_2 : h0.size ≤ b_2 := Nat.le_trans (Keep.refl h0 [a1]).1 (Nat.le_of_eq g_2.symm)
  refine OGo.to st_2 ?_
  have ne_a1_b_2 : a1 ≠ b_2 := Nat.ne_of_lt (Nat.lt_of_lt_of_le E1.lt (Nat.le_of_eq g_2.symm))
  have ne_a2_b_2 : a2 ≠ b_2 := Nat.ne_of_lt (Nat.lt_of_lt_of_le E2.lt (Nat.le_of_eq g_2.symm))
  have ne_t1_b_2 : t1 ≠ b_2 := Nat.ne_of_lt (Nat.lt_of_lt_of_le V1.lt (Nat.le_of_eq g_2.symm))
  have ne_x0_b_2 : x0 ≠ b_2 := Nat.ne_of_lt (Nat.lt_of_lt_of_le E_x0.lt (Nat.le_of_eq g_2.symm))
  have ne_x1_b_2 : x1 ≠ b_2 := Nat.ne_of_lt (Nat.lt_of_lt_of_le E_x1.lt (Nat.le_of_eq g_2.symm))
  have z_3 : n0 ≤ h_2.size := Nat.le_trans Z0 E_2.1
  have K_4 : Keep h0 h_2 [a1] := (Keep.refl h0 [a1]).ext E_2
  have V_2 : Arv Z h_2 b_2 k_2 .int (2 : Int32) [(.int (0 : Int32)), (.int (0 : Int32))] (.int (0 : Int32)) := (Arv.new A_2 (by decide)).pad (pad_rep [] (.int (0 : Int32)) 2)
  show OGo p e below _ (T_2.setTop (mkF m 9 #[.val (.ref a1), .val (.ref a2), .unset] [(.ref b_2), (.ref a1)]))
  have f_5 : Exa Z h_2 a1 "com/example/dromos/dromos/service/Definition" := (E1.ext E_2)
  have f_6 : Fld Z h_2 a1 "com/example/dromos/dromos/service/Definition" "operators" "[I" (.ref o1) := (Fo.ext E_2)
  obtain ⟨T_7, h_7, X_7, e_7, W_7, st_7⟩ := putF X_2 hx hZ hown (host := "") (Or.inl (hw _ (List.mem_of_getElem? (i := 86) rfl))) Via.refl e_2 f_6 f_5 (Or.inl (hw _ (List.mem_of_getElem? (i := 87) rfl))) (hw _ (List.mem_of_getElem? (i := 75) rfl)) (ty := (.array .int)) (by decide) rfl rfl (g := (mkF m 9 #[.val (.ref a1), .val (.ref a2), .unset] [(.ref b_2), (.ref a1)])) rfl rfl (hb hby d14_9)
  refine OGo.to st_7 ?_
  have Fw_7 : Fld Z h_7 a1 "com/example/dromos/dromos/service/Definition" "operators" "[I" (.ref b_2) := f_6.same W_7
  have N_7 := Fr.snoc X_7 N_1 g1
  have z_8 : n0 ≤ h_7.size := Nat.le_trans z_3 (Keep.of_wr W_7).1
  have K_9 : Keep h0 h_7 [a1] := K_4.wr W_7 (Or.inl (List.mem_of_getElem? (i := 0) rfl))
  show OGo p e below _ (T_7.setTop (mkF m 12 #[.val (.ref a1), .val (.ref a2), .unset] []))
  refine OGo.to (fun _ k => XS.iconst X_7.here hx rfl (hb hby d14_12) k) ?_
  show OGo p e below _ (T_7.setTop (mkF m 13 #[.val (.ref a1), .val (.ref a2), .unset] [(.int (0 : Int32))]))
  refine OGo.to (fun _ k => XS.istoreN X_7.here hx rfl (hb hby d14_13) rfl (l' := #[.val (.ref a1), .val (.ref a2), .val (.int (0 : Int32))]) rfl k) ?_
  show OGo p e below _ (T_7.setTop (mkF m 14 #[.val (.ref a1), .val (.ref a2), .val (.int (0 : Int32))] []))
  refine OGo.to (fun _ k => XS.iloadN X_7.here hx rfl (hb hby d14_14) rfl k) ?_
  show OGo p e below _ (T_7.setTop (mkF m 15 #[.val (.ref a1), .val (.ref a2), .val (.int (0 : Int32))] [(.int (0 : Int32))]))
  refine OGo.to (fun _ k => XS.aloadN X_7.here hx rfl (hb hby d14_15) rfl rfl k) ?_
  show OGo p e below _ (T_7.setTop (mkF m 16 #[.val (.ref a1), .val (.ref a2), .val (.int (0 : Int32))] [(.ref a1), (.int (0 : Int32))]))
  obtain ⟨T_10, X_10, e_10, st_10⟩ := getF X_7 hx hZ hown (host := "") (Or.inl (hw _ (List.mem_of_getElem? (i := 86) rfl))) Via.refl e_7 Fw_7 (g := (mkF m 16 #[.val (.ref a1), .val (.ref a2), .val (.int (0 : Int32))] [(.ref a1), (.int (0 : Int32))])) rfl rfl (hb hby d14_16)
  refine OGo.to st_10 ?_
  show OGo p e below _ (T_10.setTop (mkF m 19 #[.val (.ref a1), .val (.ref a2), .val (.int (0 : Int32))] [(.ref b_2), (.int (0 : Int32))]))
  have f_11 : Arv Z h_7 b_2 k_2 .int (2 : Int32) [(.int (0 : Int32)), (.int (0 : Int32))] (.int (0 : Int32)) := (V_2.other W_7 (Ne.symm ne_a1_b_2))
  have Vq_12 := f_11
  obtain ⟨cl_12, Ar_12, q_12, S_12, M_12, Hs_12, G_12⟩ := Vq_12
  refine OGo.to (fun _ k => X_10.arraylength hx (by rw [e_10]; exact Ar_12.1) (State.isArrayOf_alike hZ.alike Ar_12.2.1) (g := (mkF m 19 #[.val (.ref a1), .val (.ref a2), .val (.int (0 : Int32))] [(.ref b_2), (.int (0 : Int32))])) rfl rfl (hb hby d14_19) _ k) ?_
  rw [len_of S_12 M_12]
  show OGo p e below _ (T_10.setTop (mkF m 20 #[.val (.ref a1), .val (.ref a2), .val (.int (0 : Int32))] [(.int (2 : Int32)), (.int (0 : Int32))]))
  have hc20__13 : (0 : Int32) < (2 : Int32) := by decide
  refine OGo.to (fun _ k => XS.icmpNo X_10.here hx rfl (hb hby d14_20) rfl (tlt hc20__13).2.1 k) ?_
  show OGo p e below _ (T_10.setTop (mkF m 23 #[.val (.ref a1), .val (.ref a2), .val (.int (0 : Int32))] []))
  refine OGo.to (fun _ k => XS.aloadN X_10.here hx rfl (hb hby d14_23) rfl rfl k) ?_
  show OGo p e below _ (T_10.setTop (mkF m 24 #[.val (.ref a1), .val (.ref a2), .val (.int (0 : Int32))] [(.ref a1)]))
  obtain ⟨T_14, X_14, e_14, st_14⟩ := getF X_10 hx hZ hown (host := "") (Or.inl (hw _ (List.mem_of_getElem? (i := 86) rfl))) Via.refl e_10 Fw_7 (g := (mkF m 24 #[.val (.ref a1), .val (.ref a2), .val (.int (0 : Int32))] [(.ref a1)])) rfl rfl (hb hby d14_24)
  refine OGo.to st_14 ?_
  show OGo p e below _ (T_14.setTop (mkF m 27 #[.val (.ref a1), .val (.ref a2), .val (.int (0 : Int32))] [(.ref b_2)]))
  refine OGo.to (fun _ k => XS.iloadN X_14.here hx rfl (hb hby d14_27) rfl k) ?_
  show OGo p e below _ (T_14.setTop (mkF m 28 #[.val (.ref a1), .val (.ref a2), .val (.int (0 : Int32))] [(.int (0 : Int32)), (.ref b_2)]))
  refine OGo.to (fun _ k => XS.aloadN X_14.here hx rfl (hb hby d14_28) rfl rfl k) ?_
  show OGo p e below _ (T_14.setTop (mkF m 29 #[.val (.ref a1), .val (.ref a2), .val (.int (0 : Int32))] [(.ref a2), (.int (0 : Int32)), (.ref b_2)]))
  refine OGo.to (fun _ k => XS.iloadN X_14.here hx rfl (hb hby d14_29) rfl k) ?_
  show OGo p e below _ (T_14.setTop (mkF m 30 #[.val (.ref a1), .val (.ref a2), .val (.int (0 : Int32))] [(.int (0 : Int32)), (.ref a2), (.int (0 : Int32)), (.ref b_2)]))
  have f_16 : Exa Z h_7 a2 "java/util/ArrayList" := ((E2.ext E_2).wr W_7)
  have f_17 : Fld Z h_7 a2 "java/util/ArrayList" "size" "I" (.int (2 : Int32)) := ((F2.ext E_2).other W_7 (Or.inl (Ne.symm n12)))
  have f_18 : Fld Z h_7 a2 "java/util/ArrayList" "elementData" "[Ljava/lang/Object;" (.ref t1) := ((F3.ext E_2).other W_7 (Or.inl (Ne.symm n12)))
  have f_19 : Arv Z h_7 t1 kb (.object "java/lang/Object") (10 : Int32) [(.ref x0), (.ref x1), .null, .null, .null, .null, .null, .null, .null, .null] .null := ((V1.ext E_2).other W_7 (Ne.symm n1t))
  obtain ⟨cq_15, kq_15, q_15a, q_15b, q_15c⟩ := isOf hZ e_14 f_16
  obtain ⟨_, T_15, Lc_15, X_15, hQ_15, st_15⟩ := own_un X_14 (Q := Qget0_2 Z a2 t1 kb x0 x1 h_7 n0) (rc := 0) (rs := 0) (W := fun v B => Steps p.tables e below (T_14.setTop (mkF m 30 #[.val (.ref a1), .val (.ref a2), .val (.int (0 : Int32))] [(.int (0 : Int32)), (.ref a2), (.int (0 : Int32)), (.ref b_2)])) (B.setTop { (mkF m 30 #[.val (.ref a1), .val (.ref a2), .val (.int (0 : Int32))] [(.int (0 : Int32)), (.ref a2), (.int (0 : Int32)), (.ref b_2)]) with pc := 35, stack := v.toList ++ [(.int (0 : Int32)), (.ref b_2)] })) <| X_14.interfaceBack hx (xi := (⟨"java/util/List", "get", "(I)Ljava/lang/Object;"⟩ : MethodName)) (y := (⟨"java/util/ArrayList", "get", "(I)Ljava/lang/Object;"⟩ : MethodName)) hown (mvT hZ (hw _ (List.mem_of_getElem? (i := 117) rfl))) (mvT hZ (hw _ (List.mem_of_getElem? (i := 118) rfl))) (mvT hZ (hw _ (List.mem_of_getElem? (i := 119) rfl))) (mvT hZ (hw _ (List.mem_of_getElem? (i := 120) rfl))) (mvT hZ (hw _ (List.mem_of_getElem? (i := 121) rfl))) (mvT hZ (hw _ (List.mem_of_getElem? (i := 122) rfl))) (mvT hZ (hw _ (List.mem_of_getElem? (i := 123) rfl))) (mvT hZ (hw _ (List.mem_of_getElem? (i := 115) rfl))) (by decide) (backOf (W := 2) (rmget0_2 l Z a0 hw [] a2 t1 kb x0 x1 h_7 n0 z_8 f_16 f_17 f_18 f_19) hZ (hw _ (List.mem_of_getElem? (i := 124) rfl)) (hw _ (List.mem_of_getElem? (i := 3) rfl)) (by decide) (by decide)) q_15a q_15b q_15c (g := (mkF m 30 #[.val (.ref a1), .val (.ref a2), .val (.int (0 : Int32))] [(.int (0 : Int32)), (.ref a2), (.int (0 : Int32)), (.ref b_2)])) rfl (by rw [hml]; rfl) (Steps.refl _) (argsL := [(.int (0 : Int32))]) (rest := [(.int (0 : Int32)), (.ref b_2)]) (lenOf pd_6 rfl) rfl (by show 2 * 0 + _ ≤ _; exact Nat.le_of_eq rfl) (hb hby d14_30) (fun _ _ => ⟨rfl, e_14, (by decide : 1 + 0 ≤ _), (by decide : 2 + 0 ≤ _)⟩)
  obtain ⟨rfl, N_15q, e_15⟩ := hQ_15
  have N_15 := Fr.app N_7 N_15q
  refine OGo.to (fun _ k => st_15.trans k) ?_
  show OGo p e below _ (T_15.setTop (mkF m 35 #[.val (.ref a1), .val (.ref a2), .val (.int (0 : Int32))] [(.ref x0), (.int (0 : Int32)), (.ref b_2)]))
  have f_21 : Exa Z h_7 x0 "com/example/dromos/dromos/model/Module$Signature" := ((E_x0.ext E_2).wr W_7)
  obtain ⟨T_20, X_20, e_20, st_20⟩ := castY X_15 hx hZ hown (hw _ (List.mem_of_getElem? (i := 138) rfl)) e_15 (Ins.self f_21) (g := (mkF m 35 #[.val (.ref a1), .val (.ref a2), .val (.int (0 : Int32))] [(.ref x0), (.int (0 : Int32)), (.ref b_2)])) rfl rfl (hb hby d14_35)
  refine OGo.to st_20 ?_
  show OGo p e below _ (T_20.setTop (mkF m 38 #[.val (.ref a1), .val (.ref a2), .val (.int (0 : Int32))] [(.ref x0), (.int (0 : Int32)), (.ref b_2)]))
  have f_23 : Fld Z h_7 x0 "com/example/dromos/dromos/model/Module$Signature" "arity" "I" (.int y0) := ((F_x0.ext E_2).other W_7 (Or.inl (Ne.symm n_x0)))
  obtain ⟨cq_22, kq_22, q_22a, q_22b, q_22c⟩ := isOf hZ e_20 f_21
  obtain ⟨_, T_22, Lc_22, X_22, hQ_22, st_22⟩ := own_un X_20 (Q := Q20 Z x0 y0 h_7 n0) (rc := 0) (rs := 0) (W := fun v B => Steps p.tables e below (T_20.setTop (mkF m 38 #[.val (.ref a1), .val (.ref a2), .val (.int (0 : Int32))] [(.ref x0), (.int (0 : Int32)), (.ref b_2)])) (B.setTop { (mkF m 38 #[.val (.ref a1), .val (.ref a2), .val (.int (0 : Int32))] [(.ref x0), (.int (0 : Int32)), (.ref b_2)]) with pc := 41, stack := v.toList ++ [(.int (0 : Int32)), (.ref b_2)] })) <| X_20.virtualBack hx (y := (⟨"com/example/dromos/dromos/model/Module$Signature", "arity", "()I"⟩ : MethodName)) (z := (⟨"com/example/dromos/dromos/model/Module$Signature", "arity", "()I"⟩ : MethodName)) hown (mvT hZ (hw _ (List.mem_of_getElem? (i := 140) rfl))) (mvT hZ (hw _ (List.mem_of_getElem? (i := 141) rfl))) (notFace_of_selects (args := #[]) (mvT hZ (hw _ (List.mem_of_getElem? (i := 143) rfl)))) (mvT hZ (hw _ (List.mem_of_getElem? (i := 143) rfl))) (mvT hZ (hw _ (List.mem_of_getElem? (i := 142) rfl))) (by decide) (backOf (W := 2) (rm20 l Z a0 hw [] x0 y0 h_7 n0 z_8 f_23) hZ (hw _ (List.mem_of_getElem? (i := 144) rfl)) (hw _ (List.mem_of_getElem? (i := 29) rfl)) (by decide) (by decide)) q_22a q_22c (g := (mkF m 38 #[.val (.ref a1), .val (.ref a2), .val (.int (0 : Int32))] [(.ref x0), (.int (0 : Int32)), (.ref b_2)])) rfl (by rw [hml]; rfl) (Steps.refl _) (argsL := []) (rest := [(.int (0 : Int32)), (.ref b_2)]) (lenOf pd_7 rfl) rfl (by show 2 * 0 + _ ≤ _; exact Nat.le_of_eq rfl) (hb hby d14_38) (fun _ _ => ⟨rfl, e_20, (by decide : 1 + 0 ≤ _), (by decide : 2 + 0 ≤ _)⟩)
  obtain ⟨rfl, N_22q, e_22⟩ := hQ_22
  have N_22 := Fr.app N_15 N_22q
  refine OGo.to (fun _ k => st_22.trans k) ?_
  show OGo p e below _ (T_22.setTop (mkF m 41 #[.val (.ref a1), .val (.ref a2), .val (.int (0 : Int32))] [(.int y0), (.int (0 : Int32)), (.ref b_2)]))
  have Vq_24 := f_11
  obtain ⟨cl_24, Ar_24, q_24, S_24, M_24, Hs_24, G_24⟩ := Vq_24
  have hin_25 : ¬ ((0 : Int32) < 0 ∨ cl_24.slots.size ≤ ((0 : Int32)).toNatClampNeg) := inb_of S_24 ⟨by decide, by decide⟩
  obtain ⟨T_25, h_25, X_25, e_25, W_25, st_25⟩ := stI X_22 hx hZ e_22 Ar_24 (j := (0 : Int32)) hin_25 (g := (mkF m 41 #[.val (.ref a1), .val (.ref a2), .val (.int (0 : Int32))] [(.int y0), (.int (0 : Int32)), (.ref b_2)])) rfl rfl (hb hby d14_41)
  refine OGo.to st_25 ?_
  have V_25 : Arv Z h_25 b_2 k_2 .int (2 : Int32) [(.int y0), (.int (0 : Int32))] (.int (0 : Int32)) := Arv.set Ar_24 q_24 S_24 M_24 Hs_24 G_24 rfl W_25 0 rfl (Nat.le_of_ble_eq_true rfl)
  have N_25 := Fr.snoc X_25 N_22 g_b_2
  have z_26 : n0 ≤ h_25.size := Nat.le_trans z_8 (Keep.of_wr W_25).1
  have K_27 : Keep h0 h_25 [a1] := K_9.wr W_25 (Or.inr sz_b_2)
  show OGo p e below _ (T_25.setTop (mkF m 42 #[.val (.ref a1), .val (.ref a2), .val (.int (0 : Int32))] []))
  refine OGo.to (fun _ k => XS.iinc X_25.here hx rfl (hb hby d14_42) rfl (l' := #[.val (.ref a1), .val (.ref a2), .val (.int (1 : Int32))]) rfl k) ?_
  show OGo p e below _ (T_25.setTop (mkF m 45 #[.val (.ref a1), .val (.ref a2), .val (.int (1 : Int32))] []))
  refine OGo.to (fun _ k => XS.goto X_25.here hx rfl (pc0 := 45) (pc' := 14) rfl (hb hby d14_45) (by decide) (by decide) k) ?_
  show OGo p e below _ (T_25.setTop (mkF m 14 #[.val (.ref a1), .val (.ref a2), .val (.int (1 : Int32))] []))
  refine OGo.to (fun _ k => XS.iloadN X_25.here hx rfl (hb hby d14_14) rfl k) ?_
  show OGo p e below _ (T_25.setTop (mkF m 15 #[.val (.ref a1), .val (.ref a2), .val (.int (1 : Int32))] [(.int (1 : Int32))]))
  refine OGo.to (fun _ k => XS.aloadN X_25.here hx rfl (hb hby d14_15) rfl rfl k) ?_
  show OGo p e below _ (T_25.setTop (mkF m 16 #[.val (.ref a1), .val (.ref a2), .val (.int (1 : Int32))] [(.ref a1), (.int (1 : Int32))]))
  have f_28 : Fld Z h_25 a1 "com/example/dromos/dromos/service/Definition" "operators" "[I" (.ref b_2) := (Fw_7.other W_25 (Or.inl ne_a1_b_2))
  obtain ⟨T_29, X_29, e_29, st_29⟩ := getF X_25 hx hZ hown (host := "") (Or.inl (hw _ (List.mem_of_getElem? (i := 86) rfl))) Via.refl e_25 f_28 (g := (mkF m 16 #[.val (.ref a1), .val (.ref a2), .val (.int (1 : Int32))] [(.ref a1), (.int (1 : Int32))])) rfl rfl (hb hby d14_16)
  refine OGo.to st_29 ?_
  show OGo p e below _ (T_29.setTop (mkF m 19 #[.val (.ref a1), .val (.ref a2), .val (.int (1 : Int32))] [(.ref b_2), (.int (1 : Int32))]))
  have Vq_30 := V_25
  obtain ⟨cl_30, Ar_30, q_30, S_30, M_30, Hs_30, G_30⟩ := Vq_30
  refine OGo.to (fun _ k => X_29.arraylength hx (by rw [e_29]; exact Ar_30.1) (State.isArrayOf_alike hZ.alike Ar_30.2.1) (g := (mkF m 19 #[.val (.ref a1), .val (.ref a2), .val (.int (1 : Int32))] [(.ref b_2), (.int (1 : Int32))])) rfl rfl (hb hby d14_19) _ k) ?_
  rw [len_of S_30 M_30]
  show OGo p e below _ (T_29.setTop (mkF m 20 #[.val (.ref a1), .val (.ref a2), .val (.int (1 : Int32))] [(.int (2 : Int32)), (.int (1 : Int32))]))
  have hc20__31 : (1 : Int32) < (2 : Int32) := by decide
  refine OGo.to (fun _ k => XS.icmpNo X_29.here hx rfl (hb hby d14_20) rfl (tlt hc20__31).2.1 k) ?_
  show OGo p e below _ (T_29.setTop (mkF m 23 #[.val (.ref a1), .val (.ref a2), .val (.int (1 : Int32))] []))
  refine OGo.to (fun _ k => XS.aloadN X_29.here hx rfl (hb hby d14_23) rfl rfl k) ?_
  show OGo p e below _ (T_29.setTop (mkF m 24 #[.val (.ref a1), .val (.ref a2), .val (.int (1 : Int32))] [(.ref a1)]))
  obtain ⟨T_32, X_32, e_32, st_32⟩ := getF X_29 hx hZ hown (host := "") (Or.inl (hw _ (List.mem_of_getElem? (i := 86) rfl))) Via.refl e_29 f_28 (g := (mkF m 24 #[.val (.ref a1), .val (.ref a2), .val (.int (1 : Int32))] [(.ref a1)])) rfl rfl (hb hby d14_24)
  refine OGo.to st_32 ?_
  show OGo p e below _ (T_32.setTop (mkF m 27 #[.val (.ref a1), .val (.ref a2), .val (.int (1 : Int32))] [(.ref b_2)]))
  refine OGo.to (fun _ k => XS.iloadN X_32.here hx rfl (hb hby d14_27) rfl k) ?_
  show OGo p e below _ (T_32.setTop (mkF m 28 #[.val (.ref a1), .val (.ref a2), .val (.int (1 : Int32))] [(.int (1 : Int32)), (.ref b_2)]))
  refine OGo.to (fun _ k => XS.aloadN X_32.here hx rfl (hb hby d14_28) rfl rfl k) ?_
  show OGo p e below _ (T_32.setTop (mkF m 29 #[.val (.ref a1), .val (.ref a2), .val (.int (1 : Int32))] [(.ref a2), (.int (1 : Int32)), (.ref b_2)]))
  refine OGo.to (fun _ k => XS.iloadN X_32.here hx rfl (hb hby d14_29) rfl k) ?_
  show OGo p e below _ (T_32.setTop (mkF m 30 #[.val (.ref a1), .val (.ref a2), .val (.int (1 : Int32))] [(.int (1 : Int32)), (.ref a2), (.int (1 : Int32)), (.ref b_2)]))
  have f_34 : Exa Z h_25 a2 "java/util/ArrayList" := (f_16.wr W_25)
  have f_35 : Fld Z h_25 a2 "java/util/ArrayList" "size" "I" (.int (2 : Int32)) := (f_17.other W_25 (Or.inl ne_a2_b_2))
  have f_36 : Fld Z h_25 a2 "java/util/ArrayList" "elementData" "[Ljava/lang/Object;" (.ref t1) := (f_18.other W_25 (Or.inl ne_a2_b_2))
  have f_37 : Arv Z h_25 t1 kb (.object "java/lang/Object") (10 : Int32) [(.ref x0), (.ref x1), .null, .null, .null, .null, .null, .null, .null, .null] .null := (f_19.other W_25 ne_t1_b_2)
  obtain ⟨cq_33, kq_33, q_33a, q_33b, q_33c⟩ := isOf hZ e_32 f_34
  obtain ⟨_, T_33, Lc_33, X_33, hQ_33, st_33⟩ := own_un X_32 (Q := Qget1_2 Z a2 t1 kb x0 x1 h_25 n0) (rc := 0) (rs := 0) (W := fun v B => Steps p.tables e below (T_32.setTop (mkF m 30 #[.val (.ref a1), .val (.ref a2), .val (.int (1 : Int32))] [(.int (1 : Int32)), (.ref a2), (.int (1 : Int32)), (.ref b_2)])) (B.setTop { (mkF m 30 #[.val (.ref a1), .val (.ref a2), .val (.int (1 : Int32))] [(.int (1 : Int32)), (.ref a2), (.int (1 : Int32)), (.ref b_2)]) with pc := 35, stack := v.toList ++ [(.int (1 : Int32)), (.ref b_2)] })) <| X_32.interfaceBack hx (xi := (⟨"java/util/List", "get", "(I)Ljava/lang/Object;"⟩ : MethodName)) (y := (⟨"java/util/ArrayList", "get", "(I)Ljava/lang/Object;"⟩ : MethodName)) hown (mvT hZ (hw _ (List.mem_of_getElem? (i := 117) rfl))) (mvT hZ (hw _ (List.mem_of_getElem? (i := 118) rfl))) (mvT hZ (hw _ (List.mem_of_getElem? (i := 119) rfl))) (mvT hZ (hw _ (List.mem_of_getElem? (i := 120) rfl))) (mvT hZ (hw _ (List.mem_of_getElem? (i := 121) rfl))) (mvT hZ (hw _ (List.mem_of_getElem? (i := 122) rfl))) (mvT hZ (hw _ (List.mem_of_getElem? (i := 123) rfl))) (mvT hZ (hw _ (List.mem_of_getElem? (i := 115) rfl))) (by decide) (backOf (W := 2) (rmget1_2 l Z a0 hw [] a2 t1 kb x0 x1 h_25 n0 z_26 f_34 f_35 f_36 f_37) hZ (hw _ (List.mem_of_getElem? (i := 124) rfl)) (hw _ (List.mem_of_getElem? (i := 3) rfl)) (by decide) (by decide)) q_33a q_33b q_33c (g := (mkF m 30 #[.val (.ref a1), .val (.ref a2), .val (.int (1 : Int32))] [(.int (1 : Int32)), (.ref a2), (.int (1 : Int32)), (.ref b_2)])) rfl (by rw [hml]; rfl) (Steps.refl _) (argsL := [(.int (1 : Int32))]) (rest := [(.int (1 : Int32)), (.ref b_2)]) (lenOf pd_6 rfl) rfl (by show 2 * 0 + _ ≤ _; exact Nat.le_of_eq rfl) (hb hby d14_30) (fun _ _ => ⟨rfl, e_32, (by decide : 1 + 0 ≤ _), (by decide : 2 + 0 ≤ _)⟩)
  obtain ⟨rfl, N_33q, e_33⟩ := hQ_33
  have N_33 := Fr.app N_25 N_33q
  refine OGo.to (fun _ k => st_33.trans k) ?_
  show OGo p e below _ (T_33.setTop (mkF m 35 #[.val (.ref a1), .val (.ref a2), .val (.int (1 : Int32))] [(.ref x1), (.int (1 : Int32)), (.ref b_2)]))
  have f_39 : Exa Z h_25 x1 "com/example/dromos/dromos/model/Module$Signature" := (((E_x1.ext E_2).wr W_7).wr W_25)
  obtain ⟨T_38, X_38, e_38, st_38⟩ := castY X_33 hx hZ hown (hw _ (List.mem_of_getElem? (i := 138) rfl)) e_33 (Ins.self f_39) (g := (mkF m 35 #[.val (.ref a1), .val (.ref a2), .val (.int (1 : Int32))] [(.ref x1), (.int (1 : Int32)), (.ref b_2)])) rfl rfl (hb hby d14_35)
  refine OGo.to st_38 ?_
  show OGo p e below _ (T_38.setTop (mkF m 38 #[.val (.ref a1), .val (.ref a2), .val (.int (1 : Int32))] [(.ref x1), (.int (1 : Int32)), (.ref b_2)]))
  have f_41 : Fld Z h_25 x1 "com/example/dromos/dromos/model/Module$Signature" "arity" "I" (.int y1) := (((F_x1.ext E_2).other W_7 (Or.inl (Ne.symm n_x1))).other W_25 (Or.inl ne_x1_b_2))
  obtain ⟨cq_40, kq_40, q_40a, q_40b, q_40c⟩ := isOf hZ e_38 f_39
  obtain ⟨_, T_40, Lc_40, X_40, hQ_40, st_40⟩ := own_un X_38 (Q := Q20 Z x1 y1 h_25 n0) (rc := 0) (rs := 0) (W := fun v B => Steps p.tables e below (T_38.setTop (mkF m 38 #[.val (.ref a1), .val (.ref a2), .val (.int (1 : Int32))] [(.ref x1), (.int (1 : Int32)), (.ref b_2)])) (B.setTop { (mkF m 38 #[.val (.ref a1), .val (.ref a2), .val (.int (1 : Int32))] [(.ref x1), (.int (1 : Int32)), (.ref b_2)]) with pc := 41, stack := v.toList ++ [(.int (1 : Int32)), (.ref b_2)] })) <| X_38.virtualBack hx (y := (⟨"com/example/dromos/dromos/model/Module$Signature", "arity", "()I"⟩ : MethodName)) (z := (⟨"com/example/dromos/dromos/model/Module$Signature", "arity", "()I"⟩ : MethodName)) hown (mvT hZ (hw _ (List.mem_of_getElem? (i := 140) rfl))) (mvT hZ (hw _ (List.mem_of_getElem? (i := 141) rfl))) (notFace_of_selects (args := #[]) (mvT hZ (hw _ (List.mem_of_getElem? (i := 143) rfl)))) (mvT hZ (hw _ (List.mem_of_getElem? (i := 143) rfl))) (mvT hZ (hw _ (List.mem_of_getElem? (i := 142) rfl))) (by decide) (backOf (W := 2) (rm20 l Z a0 hw [] x1 y1 h_25 n0 z_26 f_41) hZ (hw _ (List.mem_of_getElem? (i := 144) rfl)) (hw _ (List.mem_of_getElem? (i := 29) rfl)) (by decide) (by decide)) q_40a q_40c (g := (mkF m 38 #[.val (.ref a1), .val (.ref a2), .val (.int (1 : Int32))] [(.ref x1), (.int (1 : Int32)), (.ref b_2)])) rfl (by rw [hml]; rfl) (Steps.refl _) (argsL := []) (rest := [(.int (1 : Int32)), (.ref b_2)]) (lenOf pd_7 rfl) rfl (by show 2 * 0 + _ ≤ _; exact Nat.le_of_eq rfl) (hb hby d14_38) (fun _ _ => ⟨rfl, e_38, (by decide : 1 + 0 ≤ _), (by decide : 2 + 0 ≤ _)⟩)
  obtain ⟨rfl, N_40q, e_40⟩ := hQ_40
  have N_40 := Fr.app N_33 N_40q
  refine OGo.to (fun _ k => st_40.trans k) ?_
  show OGo p e below _ (T_40.setTop (mkF m 41 #[.val (.ref a1), .val (.ref a2), .val (.int (1 : Int32))] [(.int y1), (.int (1 : Int32)), (.ref b_2)]))
  have Vq_42 := V_25
  obtain ⟨cl_42, Ar_42, q_42, S_42, M_42, Hs_42, G_42⟩ := Vq_42
  have hin_43 : ¬ ((1 : Int32) < 0 ∨ cl_42.slots.size ≤ ((1 : Int32)).toNatClampNeg) := inb_of S_42 ⟨by decide, by decide⟩
  obtain ⟨T_43, h_43, X_43, e_43, W_43, st_43⟩ := stI X_40 hx hZ e_40 Ar_42 (j := (1 : Int32)) hin_43 (g := (mkF m 41 #[.val (.ref a1), .val (.ref a2), .val (.int (1 : Int32))] [(.int y1), (.int (1 : Int32)), (.ref b_2)])) rfl rfl (hb hby d14_41)
  refine OGo.to st_43 ?_
  have V_43 : Arv Z h_43 b_2 k_2 .int (2 : Int32) [(.int y0), (.int y1)] (.int (0 : Int32)) := Arv.set Ar_42 q_42 S_42 M_42 Hs_42 G_42 rfl W_43 1 rfl (Nat.le_of_ble_eq_true rfl)
  have N_43 := Fr.snoc X_43 N_40 g_b_2
  have z_44 : n0 ≤ h_43.size := Nat.le_trans z_26 (Keep.of_wr W_43).1
  have K_45 : Keep h0 h_43 [a1] := K_27.wr W_43 (Or.inr sz_b_2)
  show OGo p e below _ (T_43.setTop (mkF m 42 #[.val (.ref a1), .val (.ref a2), .val (.int (1 : Int32))] []))
  refine OGo.to (fun _ k => XS.iinc X_43.here hx rfl (hb hby d14_42) rfl (l' := #[.val (.ref a1), .val (.ref a2), .val (.int (2 : Int32))]) rfl k) ?_
  show OGo p e below _ (T_43.setTop (mkF m 45 #[.val (.ref a1), .val (.ref a2), .val (.int (2 : Int32))] []))
  refine OGo.to (fun _ k => XS.goto X_43.here hx rfl (pc0 := 45) (pc' := 14) rfl (hb hby d14_45) (by decide) (by decide) k) ?_
  show OGo p e below _ (T_43.setTop (mkF m 14 #[.val (.ref a1), .val (.ref a2), .val (.int (2 : Int32))] []))
  refine OGo.to (fun _ k => XS.iloadN X_43.here hx rfl (hb hby d14_14) rfl k) ?_
  show OGo p e below _ (T_43.setTop (mkF m 15 #[.val (.ref a1), .val (.ref a2), .val (.int (2 : Int32))] [(.int (2 : Int32))]))
  refine OGo.to (fun _ k => XS.aloadN X_43.here hx rfl (hb hby d14_15) rfl rfl k) ?_
  show OGo p e below _ (T_43.setTop (mkF m 16 #[.val (.ref a1), .val (.ref a2), .val (.int (2 : Int32))] [(.ref a1), (.int (2 : Int32))]))
  have f_46 : Fld Z h_43 a1 "com/example/dromos/dromos/service/Definition" "operators" "[I" (.ref b_2) := (f_28.other W_43 (Or.inl ne_a1_b_2))
  obtain ⟨T_47, X_47, e_47, st_47⟩ := getF X_43 hx hZ hown (host := "") (Or.inl (hw _ (List.mem_of_getElem? (i := 86) rfl))) Via.refl e_43 f_46 (g := (mkF m 16 #[.val (.ref a1), .val (.ref a2), .val (.int (2 : Int32))] [(.ref a1), (.int (2 : Int32))])) rfl rfl (hb hby d14_16)
  refine OGo.to st_47 ?_
  show OGo p e below _ (T_47.setTop (mkF m 19 #[.val (.ref a1), .val (.ref a2), .val (.int (2 : Int32))] [(.ref b_2), (.int (2 : Int32))]))
  have Vq_48 := V_43
  obtain ⟨cl_48, Ar_48, q_48, S_48, M_48, Hs_48, G_48⟩ := Vq_48
  refine OGo.to (fun _ k => X_47.arraylength hx (by rw [e_47]; exact Ar_48.1) (State.isArrayOf_alike hZ.alike Ar_48.2.1) (g := (mkF m 19 #[.val (.ref a1), .val (.ref a2), .val (.int (2 : Int32))] [(.ref b_2), (.int (2 : Int32))])) rfl rfl (hb hby d14_19) _ k) ?_
  rw [len_of S_48 M_48]
  show OGo p e below _ (T_47.setTop (mkF m 20 #[.val (.ref a1), .val (.ref a2), .val (.int (2 : Int32))] [(.int (2 : Int32)), (.int (2 : Int32))]))
  have hc20__49 : ¬ ((2 : Int32) < (2 : Int32)) := by decide
  refine OGo.to (fun _ k => XS.icmpYes X_47.here hx rfl (pc0 := 20) (pc' := 48) rfl (hb hby d14_20) rfl (flt hc20__49).2.1 (by decide) (by decide) k) ?_
  show OGo p e below _ (T_47.setTop (mkF m 48 #[.val (.ref a1), .val (.ref a2), .val (.int (2 : Int32))] []))
  refine OGo.ret (Q := Qtk2 Z a1 a2 o1 t1 kb x0 x1 y0 y1 h0 n0) X_47 none (fun _ => rfl) Bd.notSynchronized (fun fs hr => X_47.returnOut hx Bd.returns (hb hby d14_48) hr) ?_ (by decide) (by decide)
  show Qtk2 Z a1 a2 o1 t1 kb x0 x1 y0 y1 h0 n0 _ T_47.heap _
  rw [e_47]
  exact ⟨b_2, k_2, rfl, N_43, K_45, g_b_2, sz_b_2, f_46, V_43⟩
theorem ef_op2 (m : MethodId) (x0 : Addr) : entryFrame m #[(.ref x0)] 5 = mkF m 0 #[.val (.ref x0), .unset, .unset, .unset, .unset] [] := by first | (simp [entryFrame, mkF, argsToLocals, Value.category]; done) | rfl
def Qop2 (Z : State) (a1 : Addr) (t1 : Addr) (kk : ClassId) (y0 : Int32) (y1 : Int32) (h0 : Heap) (n0 : Nat) (v : Option Value) (h : Heap) (L : List Loc) : Prop := v = some (.int (if (0 : Int32) < y0 then (1 : Int32) else (if (0 : Int32) < y1 then (1 : Int32) else (0 : Int32)))) ∧ Fr n0 L ∧ h = h0
set_option maxRecDepth 65536 in
set_option maxHeartbeats 40000000 in
theorem rmop2 (l : Launch) (Z : State) (a0 : Array Value) (hw : ∀ d ∈ tables_1, d.before a0 Z = true) (ws : List Jvm.Cond) (a1 : Addr) (t1 : Addr) (kk : ClassId) (y0 : Int32) (y1 : Int32) (h0 : Heap) (n0 : Nat) (Z0 : n0 ≤ h0.size) (Fo : Fld Z h0 a1 "com/example/dromos/dromos/service/Definition" "operators" "[I" (.ref t1)) (V1 : Arv Z h0 t1 kk .int (2 : Int32) [(.int y0), (.int y1)] (.int (0 : Int32))) :
    MetFree l (⟨"com/example/dromos/dromos/service/Definition", "takesOperators", "()Z"⟩ : MethodName) (head1 (Jvm.Cond.code (⟨"com/example/dromos/dromos/service/Definition", "takesOperators", "()Z"⟩ : MethodName) prog_165_method_6_code 5 (some .boolean) :: ws) ({ frames := 0, cells := 0, slots := 0, locals := 0 } : Room)) (fun a U => a = #[(.ref a1)] ∧ Z.Warmed39 U.vm ∧ U.heap = h0) (fun _ _ _ _ _ => True) (fun _ U o U' => ∃ v L, o = .returned v ∧ Qop2 Z a1 t1 kk y0 y1 h0 n0 v U'.heap L ∧ FrameEnd U o U' L ({ frames := 0, cells := 0, slots := 0, locals := 0 } : Room).cells ({ frames := 0, cells := 0, slots := 0, locals := 0 } : Room).slots) := by
  refine MetFree.of_bodySF (plainFor_of_name pn_5) hisR ?_
  intro p e s m args below meth c s₁ Bd hml0 hP hK
  obtain ⟨rfl, hZ, hh⟩ := hP
  have hx := Bd.exec
  have hby := Bd.bytes
  have hml : c.maxLocals = 5 := hml0
  have hown : s.vm.findClass "com/example/dromos/dromos/service/Definition" = some m.cls := findClass_of_methodNamed Bd.named
  have hnm := (name_of_methodNamed Bd.named Bd.method).1
  have X0 : Stand p l e ({ frames := 0, cells := 0, slots := 0, locals := 0 } : Room) s m #[(.ref a1)] below meth c s₁ [] 0 0 := Stand.of_body Bd
  have e0 : s₁.heap = h0 := by rw [← hh, Bd.state]; rfl
  have N0 := Fr.nil n0
  show OGo p e below (fun s₂ o => ∃ v L, o = .returned v ∧ Qop2 Z a1 t1 kk y0 y1 h0 n0 v s₂.heap L ∧ FrameEnd s o s₂ L ({ frames := 0, cells := 0, slots := 0, locals := 0 } : Room).cells ({ frames := 0, cells := 0, slots := 0, locals := 0 } : Room).slots) _
  refine OGo.to (fun _ k => castTop (ef_op2 m a1) k) ?_
  refine OGo.to (fun _ k => XS.aloadN X0.here hx rfl (hb hby d13_0) rfl rfl k) ?_
  show OGo p e below _ (s₁.setTop (mkF m 1 #[.val (.ref a1), .unset, .unset, .unset, .unset] [(.ref a1)]))
  obtain ⟨T_1, X_1, e_1, st_1⟩ := getF X0 hx hZ hown (host := "") (Or.inl (hw _ (List.mem_of_getElem? (i := 86) rfl))) Via.refl e0 Fo (g := (mkF m 1 #[.val (.ref a1), .unset, .unset, .unset, .unset] [(.ref a1)])) rfl rfl (hb hby d13_1)
  refine OGo.to st_1 ?_
  show OGo p e below _ (T_1.setTop (mkF m 4 #[.val (.ref a1), .unset, .unset, .unset, .unset] [(.ref t1)]))
  refine OGo.to (fun _ k => XS.astoreN X_1.here hx rfl (hb hby d13_4) rfl rfl (l' := #[.val (.ref a1), .val (.ref t1), .unset, .unset, .unset]) rfl k) ?_
  show OGo p e below _ (T_1.setTop (mkF m 5 #[.val (.ref a1), .val (.ref t1), .unset, .unset, .unset] []))
  refine OGo.to (fun _ k => XS.aloadN X_1.here hx rfl (hb hby d13_5) rfl rfl k) ?_
  show OGo p e below _ (T_1.setTop (mkF m 6 #[.val (.ref a1), .val (.ref t1), .unset, .unset, .unset] [(.ref t1)]))
  have Vq_2 := V1
  obtain ⟨cl_2, Ar_2, q_2, S_2, M_2, Hs_2, G_2⟩ := Vq_2
  refine OGo.to (fun _ k => X_1.arraylength hx (by rw [e_1]; exact Ar_2.1) (State.isArrayOf_alike hZ.alike Ar_2.2.1) (g := (mkF m 6 #[.val (.ref a1), .val (.ref t1), .unset, .unset, .unset] [(.ref t1)])) rfl rfl (hb hby d13_6) _ k) ?_
  rw [len_of S_2 M_2]
  show OGo p e below _ (T_1.setTop (mkF m 7 #[.val (.ref a1), .val (.ref t1), .unset, .unset, .unset] [(.int (2 : Int32))]))
  refine OGo.to (fun _ k => XS.istoreN X_1.here hx rfl (hb hby d13_7) rfl (l' := #[.val (.ref a1), .val (.ref t1), .val (.int (2 : Int32)), .unset, .unset]) rfl k) ?_
  show OGo p e below _ (T_1.setTop (mkF m 8 #[.val (.ref a1), .val (.ref t1), .val (.int (2 : Int32)), .unset, .unset] []))
  refine OGo.to (fun _ k => XS.iconst X_1.here hx rfl (hb hby d13_8) k) ?_
  show OGo p e below _ (T_1.setTop (mkF m 9 #[.val (.ref a1), .val (.ref t1), .val (.int (2 : Int32)), .unset, .unset] [(.int (0 : Int32))]))
  refine OGo.to (fun _ k => XS.istoreN X_1.here hx rfl (hb hby d13_9) rfl (l' := #[.val (.ref a1), .val (.ref t1), .val (.int (2 : Int32)), .val (.int (0 : Int32)), .unset]) rfl k) ?_
  show OGo p e below _ (T_1.setTop (mkF m 10 #[.val (.ref a1), .val (.ref t1), .val (.int (2 : Int32)), .val (.int (0 : Int32)), .unset] []))
  refine OGo.to (fun _ k => XS.iloadN X_1.here hx rfl (hb hby d13_10) rfl k) ?_
  show OGo p e below _ (T_1.setTop (mkF m 11 #[.val (.ref a1), .val (.ref t1), .val (.int (2 : Int32)), .val (.int (0 : Int32)), .unset] [(.int (0 : Int32))]))
  refine OGo.to (fun _ k => XS.iloadN X_1.here hx rfl (hb hby d13_11) rfl k) ?_
  show OGo p e below _ (T_1.setTop (mkF m 12 #[.val (.ref a1), .val (.ref t1), .val (.int (2 : Int32)), .val (.int (0 : Int32)), .unset] [(.int (2 : Int32)), (.int (0 : Int32))]))
  have hc12__3 : (0 : Int32) < (2 : Int32) := by decide
  refine OGo.to (fun _ k => XS.icmpNo X_1.here hx rfl (hb hby d13_12) rfl (tlt hc12__3).2.1 k) ?_
  show OGo p e below _ (T_1.setTop (mkF m 15 #[.val (.ref a1), .val (.ref t1), .val (.int (2 : Int32)), .val (.int (0 : Int32)), .unset] []))
  refine OGo.to (fun _ k => XS.aloadN X_1.here hx rfl (hb hby d13_15) rfl rfl k) ?_
  show OGo p e below _ (T_1.setTop (mkF m 16 #[.val (.ref a1), .val (.ref t1), .val (.int (2 : Int32)), .val (.int (0 : Int32)), .unset] [(.ref t1)]))
  refine OGo.to (fun _ k => XS.iloadN X_1.here hx rfl (hb hby d13_16) rfl k) ?_
  show OGo p e below _ (T_1.setTop (mkF m 17 #[.val (.ref a1), .val (.ref t1), .val (.int (2 : Int32)), .val (.int (0 : Int32)), .unset] [(.int (0 : Int32)), (.ref t1)]))
  have Vq_4 := V1
  obtain ⟨cl_4, Ar_4, q_4, S_4, M_4, Hs_4, G_4⟩ := Vq_4
  have hin_5 : ¬ ((0 : Int32) < 0 ∨ cl_4.slots.size ≤ ((0 : Int32)).toNatClampNeg) := inb_of S_4 ⟨by decide, by decide⟩
  have hat_5 : cl_4.slots[((0 : Int32)).toNatClampNeg]? = some (.int y0) := Hs_4.at hin_5 (rfl)
  refine OGo.to (fun _ k => X_1.iaload hx (j := (0 : Int32)) (v := (.int y0)) (by rw [e_1]; exact Ar_4.1) (State.isArrayOf_alike hZ.alike Ar_4.2.1) Ar_4.2.2 hin_5 hat_5 (g := (mkF m 17 #[.val (.ref a1), .val (.ref t1), .val (.int (2 : Int32)), .val (.int (0 : Int32)), .unset] [(.int (0 : Int32)), (.ref t1)])) rfl rfl (hb hby d13_17) _ k) ?_
  show OGo p e below _ (T_1.setTop (mkF m 18 #[.val (.ref a1), .val (.ref t1), .val (.int (2 : Int32)), .val (.int (0 : Int32)), .unset] [(.int y0)]))
  refine OGo.to (fun _ k => XS.istore X_1.here hx rfl (hb hby d13_18) rfl (l' := #[.val (.ref a1), .val (.ref t1), .val (.int (2 : Int32)), .val (.int (0 : Int32)), .val (.int y0)]) rfl k) ?_
  show OGo p e below _ (T_1.setTop (mkF m 20 #[.val (.ref a1), .val (.ref t1), .val (.int (2 : Int32)), .val (.int (0 : Int32)), .val (.int y0)] []))
  refine OGo.to (fun _ k => XS.iload X_1.here hx rfl (hb hby d13_20) rfl k) ?_
  show OGo p e below _ (T_1.setTop (mkF m 22 #[.val (.ref a1), .val (.ref t1), .val (.int (2 : Int32)), .val (.int (0 : Int32)), .val (.int y0)] [(.int y0)]))
  by_cases hc22__6 : (0 : Int32) < y0
  ·  -- pc 22: yes
    refine OGo.to (fun _ k => XS.ifNo X_1.here hx rfl (hb hby d13_22) rfl ((if0 _ _).trans (tlt hc22__6).2.2.2) k) ?_
    show OGo p e below _ (T_1.setTop (mkF m 25 #[.val (.ref a1), .val (.ref t1), .val (.int (2 : Int32)), .val (.int (0 : Int32)), .val (.int y0)] []))
    refine OGo.to (fun _ k => XS.iconst X_1.here hx rfl (hb hby d13_25) k) ?_
    show OGo p e below _ (T_1.setTop (mkF m 26 #[.val (.ref a1), .val (.ref t1), .val (.int (2 : Int32)), .val (.int (0 : Int32)), .val (.int y0)] [(.int (1 : Int32))]))
    refine OGo.ret (Q := Qop2 Z a1 t1 kk y0 y1 h0 n0) X_1 (some (.int (1 : Int32))) (fun h => by rw [Bd.returns] at h; cases h) Bd.notSynchronized (fun fs hr => retN X_1 hx (t := .boolean) (z := (1 : Int32)) Bd.returns (by simp) (hb hby d13_26) hr) ?_ (by decide) (by decide)
    show Qop2 Z a1 t1 kk y0 y1 h0 n0 _ T_1.heap _
    rw [e_1]
    exact ⟨congrArg (fun z => some (Value.int z)) (show (1 : Int32) = (if (0 : Int32) < y0 then (1 : Int32) else (if (0 : Int32) < y1 then (1 : Int32) else (0 : Int32))) from by rw [if_pos hc22__6]), N0, rfl⟩
  ·  -- pc 22: no
    refine OGo.to (fun _ k => XS.ifYes X_1.here hx rfl (pc0 := 22) (pc' := 27) rfl (hb hby d13_22) rfl ((if0 _ _).trans (flt hc22__6).2.2.2) (by decide) (by decide) k) ?_
    show OGo p e below _ (T_1.setTop (mkF m 27 #[.val (.ref a1), .val (.ref t1), .val (.int (2 : Int32)), .val (.int (0 : Int32)), .val (.int y0)] []))
    refine OGo.to (fun _ k => XS.iinc X_1.here hx rfl (hb hby d13_27) rfl (l' := #[.val (.ref a1), .val (.ref t1), .val (.int (2 : Int32)), .val (.int (1 : Int32)), .val (.int y0)]) rfl k) ?_
    show OGo p e below _ (T_1.setTop (mkF m 30 #[.val (.ref a1), .val (.ref t1), .val (.int (2 : Int32)), .val (.int (1 : Int32)), .val (.int y0)] []))
    refine OGo.to (fun _ k => XS.goto X_1.here hx rfl (pc0 := 30) (pc' := 10) rfl (hb hby d13_30) (by decide) (by decide) k) ?_
    show OGo p e below _ (T_1.setTop (mkF m 10 #[.val (.ref a1), .val (.ref t1), .val (.int (2 : Int32)), .val (.int (1 : Int32)), .val (.int y0)] []))
    refine OGo.to (fun _ k => XS.iloadN X_1.here hx rfl (hb hby d13_10) rfl k) ?_
    show OGo p e below _ (T_1.setTop (mkF m 11 #[.val (.ref a1), .val (.ref t1), .val (.int (2 : Int32)), .val (.int (1 : Int32)), .val (.int y0)] [(.int (1 : Int32))]))
    refine OGo.to (fun _ k => XS.iloadN X_1.here hx rfl (hb hby d13_11) rfl k) ?_
    show OGo p e below _ (T_1.setTop (mkF m 12 #[.val (.ref a1), .val (.ref t1), .val (.int (2 : Int32)), .val (.int (1 : Int32)), .val (.int y0)] [(.int (2 : Int32)), (.int (1 : Int32))]))
    have hc12__7 : (1 : Int32) < (2 : Int32) := by decide
    refine OGo.to (fun _ k => XS.icmpNo X_1.here hx rfl (hb hby d13_12) rfl (tlt hc12__7).2.1 k) ?_
    show OGo p e below _ (T_1.setTop (mkF m 15 #[.val (.ref a1), .val (.ref t1), .val (.int (2 : Int32)), .val (.int (1 : Int32)), .val (.int y0)] []))
    refine OGo.to (fun _ k => XS.aloadN X_1.here hx rfl (hb hby d13_15) rfl rfl k) ?_
    show OGo p e below _ (T_1.setTop (mkF m 16 #[.val (.ref a1), .val (.ref t1), .val (.int (2 : Int32)), .val (.int (1 : Int32)), .val (.int y0)] [(.ref t1)]))
    refine OGo.to (fun _ k => XS.iloadN X_1.here hx rfl (hb hby d13_16) rfl k) ?_
    show OGo p e below _ (T_1.setTop (mkF m 17 #[.val (.ref a1), .val (.ref t1), .val (.int (2 : Int32)), .val (.int (1 : Int32)), .val (.int y0)] [(.int (1 : Int32)), (.ref t1)]))
    have Vq_8 := V1
    obtain ⟨cl_8, Ar_8, q_8, S_8, M_8, Hs_8, G_8⟩ := Vq_8
    have hin_9 : ¬ ((1 : Int32) < 0 ∨ cl_8.slots.size ≤ ((1 : Int32)).toNatClampNeg) := inb_of S_8 ⟨by decide, by decide⟩
    have hat_9 : cl_8.slots[((1 : Int32)).toNatClampNeg]? = some (.int y1) := Hs_8.at hin_9 (rfl)
    refine OGo.to (fun _ k => X_1.iaload hx (j := (1 : Int32)) (v := (.int y1)) (by rw [e_1]; exact Ar_8.1) (State.isArrayOf_alike hZ.alike Ar_8.2.1) Ar_8.2.2 hin_9 hat_9 (g := (mkF m 17 #[.val (.ref a1), .val (.ref t1), .val (.int (2 : Int32)), .val (.int (1 : Int32)), .val (.int y0)] [(.int (1 : Int32)), (.ref t1)])) rfl rfl (hb hby d13_17) _ k) ?_
    show OGo p e below _ (T_1.setTop (mkF m 18 #[.val (.ref a1), .val (.ref t1), .val (.int (2 : Int32)), .val (.int (1 : Int32)), .val (.int y0)] [(.int y1)]))
    refine OGo.to (fun _ k => XS.istore X_1.here hx rfl (hb hby d13_18) rfl (l' := #[.val (.ref a1), .val (.ref t1), .val (.int (2 : Int32)), .val (.int (1 : Int32)), .val (.int y1)]) rfl k) ?_
    show OGo p e below _ (T_1.setTop (mkF m 20 #[.val (.ref a1), .val (.ref t1), .val (.int (2 : Int32)), .val (.int (1 : Int32)), .val (.int y1)] []))
    refine OGo.to (fun _ k => XS.iload X_1.here hx rfl (hb hby d13_20) rfl k) ?_
    show OGo p e below _ (T_1.setTop (mkF m 22 #[.val (.ref a1), .val (.ref t1), .val (.int (2 : Int32)), .val (.int (1 : Int32)), .val (.int y1)] [(.int y1)]))
    by_cases hc22__10 : (0 : Int32) < y1
    ·  -- pc 22: yes
      refine OGo.to (fun _ k => XS.ifNo X_1.here hx rfl (hb hby d13_22) rfl ((if0 _ _).trans (tlt hc22__10).2.2.2) k) ?_
      show OGo p e below _ (T_1.setTop (mkF m 25 #[.val (.ref a1), .val (.ref t1), .val (.int (2 : Int32)), .val (.int (1 : Int32)), .val (.int y1)] []))
      refine OGo.to (fun _ k => XS.iconst X_1.here hx rfl (hb hby d13_25) k) ?_
      show OGo p e below _ (T_1.setTop (mkF m 26 #[.val (.ref a1), .val (.ref t1), .val (.int (2 : Int32)), .val (.int (1 : Int32)), .val (.int y1)] [(.int (1 : Int32))]))
      refine OGo.ret (Q := Qop2 Z a1 t1 kk y0 y1 h0 n0) X_1 (some (.int (1 : Int32))) (fun h => by rw [Bd.returns] at h; cases h) Bd.notSynchronized (fun fs hr => retN X_1 hx (t := .boolean) (z := (1 : Int32)) Bd.returns (by simp) (hb hby d13_26) hr) ?_ (by decide) (by decide)
      show Qop2 Z a1 t1 kk y0 y1 h0 n0 _ T_1.heap _
      rw [e_1]
      exact ⟨congrArg (fun z => some (Value.int z)) (show (1 : Int32) = (if (0 : Int32) < y0 then (1 : Int32) else (if (0 : Int32) < y1 then (1 : Int32) else (0 : Int32))) from by rw [if_neg hc22__6, if_pos hc22__10]), N0, rfl⟩
    ·  -- pc 22: no
      refine OGo.to (fun _ k => XS.ifYes X_1.here hx rfl (pc0 := 22) (pc' := 27) rfl (hb hby d13_22) rfl ((if0 _ _).trans (flt hc22__10).2.2.2) (by decide) (by decide) k) ?_
      show OGo p e below _ (T_1.setTop (mkF m 27 #[.val (.ref a1), .val (.ref t1), .val (.int (2 : Int32)), .val (.int (1 : Int32)), .val (.int y1)] []))
      refine OGo.to (fun _ k => XS.iinc X_1.here hx rfl (hb hby d13_27) rfl (l' := #[.val (.ref a1), .val (.ref t1), .val (.int (2 : Int32)), .val (.int (2 : Int32)), .val (.int y1)]) rfl k) ?_
      show OGo p e below _ (T_1.setTop (mkF m 30 #[.val (.ref a1), .val (.ref t1), .val (.int (2 : Int32)), .val (.int (2 : Int32)), .val (.int y1)] []))
      refine OGo.to (fun _ k => XS.goto X_1.here hx rfl (pc0 := 30) (pc' := 10) rfl (hb hby d13_30) (by decide) (by decide) k) ?_
      show OGo p e below _ (T_1.setTop (mkF m 10 #[.val (.ref a1), .val (.ref t1), .val (.int (2 : Int32)), .val (.int (2 : Int32)), .val (.int y1)] []))
      refine OGo.to (fun _ k => XS.iloadN X_1.here hx rfl (hb hby d13_10) rfl k) ?_
      show OGo p e below _ (T_1.setTop (mkF m 11 #[.val (.ref a1), .val (.ref t1), .val (.int (2 : Int32)), .val (.int (2 : Int32)), .val (.int y1)] [(.int (2 : Int32))]))
      refine OGo.to (fun _ k => XS.iloadN X_1.here hx rfl (hb hby d13_11) rfl k) ?_
      show OGo p e below _ (T_1.setTop (mkF m 12 #[.val (.ref a1), .val (.ref t1), .val (.int (2 : Int32)), .val (.int (2 : Int32)), .val (.int y1)] [(.int (2 : Int32)), (.int (2 : Int32))]))
      have hc12__11 : ¬ ((2 : Int32) < (2 : Int32)) := by decide
      refine OGo.to (fun _ k => XS.icmpYes X_1.here hx rfl (pc0 := 12) (pc' := 33) rfl (hb hby d13_12) rfl (flt hc12__11).2.1 (by decide) (by decide) k) ?_
      show OGo p e below _ (T_1.setTop (mkF m 33 #[.val (.ref a1), .val (.ref t1), .val (.int (2 : Int32)), .val (.int (2 : Int32)), .val (.int y1)] []))
      refine OGo.to (fun _ k => XS.iconst X_1.here hx rfl (hb hby d13_33) k) ?_
      show OGo p e below _ (T_1.setTop (mkF m 34 #[.val (.ref a1), .val (.ref t1), .val (.int (2 : Int32)), .val (.int (2 : Int32)), .val (.int y1)] [(.int (0 : Int32))]))
      refine OGo.ret (Q := Qop2 Z a1 t1 kk y0 y1 h0 n0) X_1 (some (.int (0 : Int32))) (fun h => by rw [Bd.returns] at h; cases h) Bd.notSynchronized (fun fs hr => retN X_1 hx (t := .boolean) (z := (0 : Int32)) Bd.returns (by simp) (hb hby d13_34) hr) ?_ (by decide) (by decide)
      show Qop2 Z a1 t1 kk y0 y1 h0 n0 _ T_1.heap _
      rw [e_1]
      exact ⟨congrArg (fun z => some (Value.int z)) (show (0 : Int32) = (if (0 : Int32) < y0 then (1 : Int32) else (if (0 : Int32) < y1 then (1 : Int32) else (0 : Int32))) from by rw [if_neg hc22__6, if_neg hc22__10]), N0, rfl⟩
theorem ef_tk3 (m : MethodId) (x0 : Addr) (x1 : Addr) : entryFrame m #[(.ref x0), (.ref x1)] 3 = mkF m 0 #[.val (.ref x0), .val (.ref x1), .unset] [] := by first | (simp [entryFrame, mkF, argsToLocals, Value.category]; done) | rfl
def Qtk3 (Z : State) (a1 : Addr) (a2 : Addr) (o1 : Addr) (t1 : Addr) (kb : ClassId) (x0 : Addr) (x1 : Addr) (x2 : Addr) (y0 : Int32) (y1 : Int32) (y2 : Int32) (h0 : Heap) (n0 : Nat) (v : Option Value) (h : Heap) (L : List Loc) : Prop := ∃ (b : Addr), ∃ (kk : ClassId), v = none ∧ Fr n0 L ∧ Keep h0 h [a1] ∧ n0 ≤ b ∧ h0.size ≤ b ∧ Fld Z h a1 "com/example/dromos/dromos/service/Definition" "operators" "[I" (.ref b) ∧ Arv Z h b kk .int (3 : Int32) [(.int y0), (.int y1), (.int y2)] (.int (0 : Int32))
set_option maxRecDepth 65536 in
set_option maxHeartbeats 40000000 in
theorem rmtk3 (l : Launch) (Z : State) (a0 : Array Value) (hw : ∀ d ∈ tables_1, d.before a0 Z = true) (ws : List Jvm.Cond) (a1 : Addr) (a2 : Addr) (o1 : Addr) (t1 : Addr) (kb : ClassId) (x0 : Addr) (x1 : Addr) (x2 : Addr) (y0 : Int32) (y1 : Int32) (y2 : Int32) (h0 : Heap) (n0 : Nat) (Z0 : n0 ≤ h0.size) (E1 : Exa Z h0 a1 "com/example/dromos/dromos/service/Definition") (E2 : Exa Z h0 a2 "java/util/ArrayList") (Fo : Fld Z h0 a1 "com/example/dromos/dromos/service/Definition" "operators" "[I" (.ref o1)) (F2 : Fld Z h0 a2 "java/util/ArrayList" "size" "I" (.int (3 : Int32))) (g1 : n0 ≤ a1) (n12 : a1 ≠ a2) (F3 : Fld Z h0 a2 "java/util/ArrayList" "elementData" "[Ljava/lang/Object;" (.ref t1)) (V1 : Arv Z h0 t1 kb (.object "java/lang/Object") (10 : Int32) [(.ref x0), (.ref x1), (.ref x2), .null, .null, .null, .null, .null, .null, .null] .null) (n1t : a1 ≠ t1) (E_x0 : Exa Z h0 x0 "com/example/dromos/dromos/model/Module$Signature") (F_x0 : Fld Z h0 x0 "com/example/dromos/dromos/model/Module$Signature" "arity" "I" (.int y0)) (n_x0 : a1 ≠ x0) (E_x1 : Exa Z h0 x1 "com/example/dromos/dromos/model/Module$Signature") (F_x1 : Fld Z h0 x1 "com/example/dromos/dromos/model/Module$Signature" "arity" "I" (.int y1)) (n_x1 : a1 ≠ x1) (E_x2 : Exa Z h0 x2 "com/example/dromos/dromos/model/Module$Signature") (F_x2 : Fld Z h0 x2 "com/example/dromos/dromos/model/Module$Signature" "arity" "I" (.int y2)) (n_x2 : a1 ≠ x2) :
    MetFree l (⟨"com/example/dromos/dromos/service/Definition", "takes", "(Ljava/util/List;)V"⟩ : MethodName) (head1 (Jvm.Cond.code (⟨"com/example/dromos/dromos/service/Definition", "takes", "(Ljava/util/List;)V"⟩ : MethodName) prog_165_method_4_code 3 none :: ws) ({ frames := 3, cells := 1, slots := 3, locals := 42 } : Room)) (fun a U => a = #[(.ref a1), (.ref a2)] ∧ Z.Warmed39 U.vm ∧ U.heap = h0) (fun _ _ _ _ _ => True) (fun _ U o U' => ∃ v L, o = .returned v ∧ Qtk3 Z a1 a2 o1 t1 kb x0 x1 x2 y0 y1 y2 h0 n0 v U'.heap L ∧ FrameEnd U o U' L ({ frames := 3, cells := 1, slots := 3, locals := 42 } : Room).cells ({ frames := 3, cells := 1, slots := 3, locals := 42 } : Room).slots) := by
  refine MetFree.of_bodySF (plainFor_of_name pn_5) hisR ?_
  intro p e s m args below meth c s₁ Bd hml0 hP hK
  obtain ⟨rfl, hZ, hh⟩ := hP
  have hx := Bd.exec
  have hby := Bd.bytes
  have hml : c.maxLocals = 3 := hml0
  have hown : s.vm.findClass "com/example/dromos/dromos/service/Definition" = some m.cls := findClass_of_methodNamed Bd.named
  have hnm := (name_of_methodNamed Bd.named Bd.method).1
  have X0 : Stand p l e ({ frames := 3, cells := 1, slots := 3, locals := 42 } : Room) s m #[(.ref a1), (.ref a2)] below meth c s₁ [] 0 0 := Stand.of_body Bd
  have e0 : s₁.heap = h0 := by rw [← hh, Bd.state]; rfl
  have N0 := Fr.nil n0
  show OGo p e below (fun s₂ o => ∃ v L, o = .returned v ∧ Qtk3 Z a1 a2 o1 t1 kb x0 x1 x2 y0 y1 y2 h0 n0 v s₂.heap L ∧ FrameEnd s o s₂ L ({ frames := 3, cells := 1, slots := 3, locals := 42 } : Room).cells ({ frames := 3, cells := 1, slots := 3, locals := 42 } : Room).slots) _
  refine OGo.to (fun _ k => castTop (ef_tk3 m a1 a2) k) ?_
  refine OGo.to (fun _ k => XS.aloadN X0.here hx rfl (hb hby d14_0) rfl rfl k) ?_
  show OGo p e below _ (s₁.setTop (mkF m 1 #[.val (.ref a1), .val (.ref a2), .unset] [(.ref a1)]))
  refine OGo.to (fun _ k => XS.aloadN X0.here hx rfl (hb hby d14_1) rfl rfl k) ?_
  show OGo p e below _ (s₁.setTop (mkF m 2 #[.val (.ref a1), .val (.ref a2), .unset] [(.ref a2), (.ref a1)]))
  obtain ⟨cq_1, kq_1, q_1a, q_1b, q_1c⟩ := isOf hZ e0 E2
  obtain ⟨_, T_1, Lc_1, X_1, hQ_1, st_1⟩ := own_un X0 (Q := Q15 Z a2 (3 : Int32) h0 n0) (rc := 0) (rs := 0) (W := fun v B => Steps p.tables e below (s₁.setTop (mkF m 2 #[.val (.ref a1), .val (.ref a2), .unset] [(.ref a2), (.ref a1)])) (B.setTop { (mkF m 2 #[.val (.ref a1), .val (.ref a2), .unset] [(.ref a2), (.ref a1)]) with pc := 7, stack := v.toList ++ [(.ref a1)] })) <| X0.interfaceBack hx (xi := (⟨"java/util/List", "size", "()I"⟩ : MethodName)) (y := (⟨"java/util/ArrayList", "size", "()I"⟩ : MethodName)) hown (mvT hZ (hw _ (List.mem_of_getElem? (i := 108) rfl))) (mvT hZ (hw _ (List.mem_of_getElem? (i := 109) rfl))) (mvT hZ (hw _ (List.mem_of_getElem? (i := 110) rfl))) (mvT hZ (hw _ (List.mem_of_getElem? (i := 111) rfl))) (mvT hZ (hw _ (List.mem_of_getElem? (i := 112) rfl))) (mvT hZ (hw _ (List.mem_of_getElem? (i := 113) rfl))) (mvT hZ (hw _ (List.mem_of_getElem? (i := 114) rfl))) (mvT hZ (hw _ (List.mem_of_getElem? (i := 115) rfl))) (by decide) (backOf (W := 1) (rm15 l Z a0 hw [] a2 (3 : Int32) h0 n0 Z0 F2) hZ (hw _ (List.mem_of_getElem? (i := 116) rfl)) (hw _ (List.mem_of_getElem? (i := 3) rfl)) (by decide) (by decide)) q_1a q_1b q_1c (g := (mkF m 2 #[.val (.ref a1), .val (.ref a2), .unset] [(.ref a2), (.ref a1)])) rfl (by rw [hml]; rfl) (Steps.refl _) (argsL := []) (rest := [(.ref a1)]) (lenOf pd_7 rfl) rfl (by show 2 * 0 + _ ≤ _; exact Nat.le_of_eq rfl) (hb hby d14_2) (fun _ _ => ⟨rfl, e0, (by decide : 0 + 0 ≤ _), (by decide : 0 + 0 ≤ _)⟩)
  obtain ⟨rfl, N_1q, e_1⟩ := hQ_1
  have N_1 := Fr.app N0 N_1q
  refine OGo.to (fun _ k => st_1.trans k) ?_
  show OGo p e below _ (T_1.setTop (mkF m 7 #[.val (.ref a1), .val (.ref a2), .unset] [(.int (3 : Int32)), (.ref a1)]))
  obtain ⟨T_2, h_2, k_2, X_2, e_2, E_2, A_2, st_2⟩ := newP X_1 hx hZ (hw _ (List.mem_of_getElem? (i := 85) rfl)) e_1 (g := (mkF m 7 #[.val (.ref a1), .val (.ref a2), .unset] [(.int (3 : Int32)), (.ref a1)])) rfl (hb hby d14_7) rfl (by decide) (cap := 3) (by decide) (by decide) (by decide) (by decide)
  obtain ⟨b_2, g_2⟩ : ∃ z, z = h0.size := ⟨_, rfl⟩
  rw [← g_2] at A_2 st_2
  have g_b_2 : n0 ≤ b_2 := Nat.le_trans Z0 (Nat.le_of_eq g_2.symm)
  have sz_b_2 : h0.size ≤ b_2 := Nat.le_trans (Keep.refl h0 [a1]).1 (Nat.le_of_eq g_2.symm)
  refine OGo.to st_2 ?_
  have ne_a1_b_2 : a1 ≠ b_2 := Nat.ne_of_lt (Nat.lt_of_lt_of_le E1.lt (Nat.le_of_eq g_2.symm))
  have ne_a2_b_2 : a2 ≠ b_2 := Nat.ne_of_lt (Nat.lt_of_lt_of_le E2.lt (Nat.le_of_eq g_2.symm))
  have ne_t1_b_2 : t1 ≠ b_2 := Nat.ne_of_lt (Nat.lt_of_lt_of_le V1.lt (Nat.le_of_eq g_2.symm))
  have ne_x0_b_2 : x0 ≠ b_2 := Nat.ne_of_lt (Nat.lt_of_lt_of_le E_x0.lt (Nat.le_of_eq g_2.symm))
  have ne_x1_b_2 : x1 ≠ b_2 := Nat.ne_of_lt (Nat.lt_of_lt_of_le E_x1.lt (Nat.le_of_eq g_2.symm))
  have ne_x2_b_2 : x2 ≠ b_2 := Nat.ne_of_lt (Nat.lt_of_lt_of_le E_x2.lt (Nat.le_of_eq g_2.symm))
  have z_3 : n0 ≤ h_2.size := Nat.le_trans Z0 E_2.1
  have K_4 : Keep h0 h_2 [a1] := (Keep.refl h0 [a1]).ext E_2
  have V_2 : Arv Z h_2 b_2 k_2 .int (3 : Int32) [(.int (0 : Int32)), (.int (0 : Int32)), (.int (0 : Int32))] (.int (0 : Int32)) := (Arv.new A_2 (by decide)).pad (pad_rep [] (.int (0 : Int32)) 3)
  show OGo p e below _ (T_2.setTop (mkF m 9 #[.val (.ref a1), .val (.ref a2), .unset] [(.ref b_2), (.ref a1)]))
  have f_5 : Exa Z h_2 a1 "com/example/dromos/dromos/service/Definition" := (E1.ext E_2)
  have f_6 : Fld Z h_2 a1 "com/example/dromos/dromos/service/Definition" "operators" "[I" (.ref o1) := (Fo.ext E_2)
  obtain ⟨T_7, h_7, X_7, e_7, W_7, st_7⟩ := putF X_2 hx hZ hown (host := "") (Or.inl (hw _ (List.mem_of_getElem? (i := 86) rfl))) Via.refl e_2 f_6 f_5 (Or.inl (hw _ (List.mem_of_getElem? (i := 87) rfl))) (hw _ (List.mem_of_getElem? (i := 75) rfl)) (ty := (.array .int)) (by decide) rfl rfl (g := (mkF m 9 #[.val (.ref a1), .val (.ref a2), .unset] [(.ref b_2), (.ref a1)])) rfl rfl (hb hby d14_9)
  refine OGo.to st_7 ?_
  have Fw_7 : Fld Z h_7 a1 "com/example/dromos/dromos/service/Definition" "operators" "[I" (.ref b_2) := f_6.same W_7
  have N_7 := Fr.snoc X_7 N_1 g1
  have z_8 : n0 ≤ h_7.size := Nat.le_trans z_3 (Keep.of_wr W_7).1
  have K_9 : Keep h0 h_7 [a1] := K_4.wr W_7 (Or.inl (List.mem_of_getElem? (i := 0) rfl))
  show OGo p e below _ (T_7.setTop (mkF m 12 #[.val (.ref a1), .val (.ref a2), .unset] []))
  refine OGo.to (fun _ k => XS.iconst X_7.here hx rfl (hb hby d14_12) k) ?_
  show OGo p e below _ (T_7.setTop (mkF m 13 #[.val (.ref a1), .val (.ref a2), .unset] [(.int (0 : Int32))]))
  refine OGo.to (fun _ k => XS.istoreN X_7.here hx rfl (hb hby d14_13) rfl (l' := #[.val (.ref a1), .val (.ref a2), .val (.int (0 : Int32))]) rfl k) ?_
  show OGo p e below _ (T_7.setTop (mkF m 14 #[.val (.ref a1), .val (.ref a2), .val (.int (0 : Int32))] []))
  refine OGo.to (fun _ k => XS.iloadN X_7.here hx rfl (hb hby d14_14) rfl k) ?_
  show OGo p e below _ (T_7.setTop (mkF m 15 #[.val (.ref a1), .val (.ref a2), .val (.int (0 : Int32))] [(.int (0 : Int32))]))
  refine OGo.to (fun _ k => XS.aloadN X_7.here hx rfl (hb hby d14_15) rfl rfl k) ?_
  show OGo p e below _ (T_7.setTop (mkF m 16 #[.val (.ref a1), .val (.ref a2), .val (.int (0 : Int32))] [(.ref a1), (.int (0 : Int32))]))
  obtain ⟨T_10, X_10, e_10, st_10⟩ := getF X_7 hx hZ hown (host := "") (Or.inl (hw _ (List.mem_of_getElem? (i := 86) rfl))) Via.refl e_7 Fw_7 (g := (mkF m 16 #[.val (.ref a1), .val (.ref a2), .val (.int (0 : Int32))] [(.ref a1), (.int (0 : Int32))])) rfl rfl (hb hby d14_16)
  refine OGo.to st_10 ?_
  show OGo p e below _ (T_10.setTop (mkF m 19 #[.val (.ref a1), .val (.ref a2), .val (.int (0 : Int32))] [(.ref b_2), (.int (0 : Int32))]))
  have f_11 : Arv Z h_7 b_2 k_2 .int (3 : Int32) [(.int (0 : Int32)), (.int (0 : Int32)), (.int (0 : Int32))] (.int (0 : Int32)) := (V_2.other W_7 (Ne.symm ne_a1_b_2))
  have Vq_12 := f_11
  obtain ⟨cl_12, Ar_12, q_12, S_12, M_12, Hs_12, G_12⟩ := Vq_12
  refine OGo.to (fun _ k => X_10.arraylength hx (by rw [e_10]; exact Ar_12.1) (State.isArrayOf_alike hZ.alike Ar_12.2.1) (g := (mkF m 19 #[.val (.ref a1), .val (.ref a2), .val (.int (0 : Int32))] [(.ref b_2), (.int (0 : Int32))])) rfl rfl (hb hby d14_19) _ k) ?_
  rw [len_of S_12 M_12]
  show OGo p e below _ (T_10.setTop (mkF m 20 #[.val (.ref a1), .val (.ref a2), .val (.int (0 : Int32))] [(.int (3 : Int32)), (.int (0 : Int32))]))
  have hc20__13 : (0 : Int32) < (3 : Int32) := by decide
  refine OGo.to (fun _ k => XS.icmpNo X_10.here hx rfl (hb hby d14_20) rfl (tlt hc20__13).2.1 k) ?_
  show OGo p e below _ (T_10.setTop (mkF m 23 #[.val (.ref a1), .val (.ref a2), .val (.int (0 : Int32))] []))
  refine OGo.to (fun _ k => XS.aloadN X_10.here hx rfl (hb hby d14_23) rfl rfl k) ?_
  show OGo p e below _ (T_10.setTop (mkF m 24 #[.val (.ref a1), .val (.ref a2), .val (.int (0 : Int32))] [(.ref a1)]))
  obtain ⟨T_14, X_14, e_14, st_14⟩ := getF X_10 hx hZ hown (host := "") (Or.inl (hw _ (List.mem_of_getElem? (i := 86) rfl))) Via.refl e_10 Fw_7 (g := (mkF m 24 #[.val (.ref a1), .val (.ref a2), .val (.int (0 : Int32))] [(.ref a1)])) rfl rfl (hb hby d14_24)
  refine OGo.to st_14 ?_
  show OGo p e below _ (T_14.setTop (mkF m 27 #[.val (.ref a1), .val (.ref a2), .val (.int (0 : Int32))] [(.ref b_2)]))
  refine OGo.to (fun _ k => XS.iloadN X_14.here hx rfl (hb hby d14_27) rfl k) ?_
  show OGo p e below _ (T_14.setTop (mkF m 28 #[.val (.ref a1), .val (.ref a2), .val (.int (0 : Int32))] [(.int (0 : Int32)), (.ref b_2)]))
  refine OGo.to (fun _ k => XS.aloadN X_14.here hx rfl (hb hby d14_28) rfl rfl k) ?_
  show OGo p e below _ (T_14.setTop (mkF m 29 #[.val (.ref a1), .val (.ref a2), .val (.int (0 : Int32))] [(.ref a2), (.int (0 : Int32)), (.ref b_2)]))
  refine OGo.to (fun _ k => XS.iloadN X_14.here hx rfl (hb hby d14_29) rfl k) ?_
  show OGo p e below _ (T_14.setTop (mkF m 30 #[.val (.ref a1), .val (.ref a2), .val (.int (0 : Int32))] [(.int (0 : Int32)), (.ref a2), (.int (0 : Int32)), (.ref b_2)]))
  have f_16 : Exa Z h_7 a2 "java/util/ArrayList" := ((E2.ext E_2).wr W_7)
  have f_17 : Fld Z h_7 a2 "java/util/ArrayList" "size" "I" (.int (3 : Int32)) := ((F2.ext E_2).other W_7 (Or.inl (Ne.symm n12)))
  have f_18 : Fld Z h_7 a2 "java/util/ArrayList" "elementData" "[Ljava/lang/Object;" (.ref t1) := ((F3.ext E_2).other W_7 (Or.inl (Ne.symm n12)))
  have f_19 : Arv Z h_7 t1 kb (.object "java/lang/Object") (10 : Int32) [(.ref x0), (.ref x1), (.ref x2), .null, .null, .null, .null, .null, .null, .null] .null := ((V1.ext E_2).other W_7 (Ne.symm n1t))
  obtain ⟨cq_15, kq_15, q_15a, q_15b, q_15c⟩ := isOf hZ e_14 f_16
  obtain ⟨_, T_15, Lc_15, X_15, hQ_15, st_15⟩ := own_un X_14 (Q := Qget0_3 Z a2 t1 kb x0 x1 x2 h_7 n0) (rc := 0) (rs := 0) (W := fun v B => Steps p.tables e below (T_14.setTop (mkF m 30 #[.val (.ref a1), .val (.ref a2), .val (.int (0 : Int32))] [(.int (0 : Int32)), (.ref a2), (.int (0 : Int32)), (.ref b_2)])) (B.setTop { (mkF m 30 #[.val (.ref a1), .val (.ref a2), .val (.int (0 : Int32))] [(.int (0 : Int32)), (.ref a2), (.int (0 : Int32)), (.ref b_2)]) with pc := 35, stack := v.toList ++ [(.int (0 : Int32)), (.ref b_2)] })) <| X_14.interfaceBack hx (xi := (⟨"java/util/List", "get", "(I)Ljava/lang/Object;"⟩ : MethodName)) (y := (⟨"java/util/ArrayList", "get", "(I)Ljava/lang/Object;"⟩ : MethodName)) hown (mvT hZ (hw _ (List.mem_of_getElem? (i := 117) rfl))) (mvT hZ (hw _ (List.mem_of_getElem? (i := 118) rfl))) (mvT hZ (hw _ (List.mem_of_getElem? (i := 119) rfl))) (mvT hZ (hw _ (List.mem_of_getElem? (i := 120) rfl))) (mvT hZ (hw _ (List.mem_of_getElem? (i := 121) rfl))) (mvT hZ (hw _ (List.mem_of_getElem? (i := 122) rfl))) (mvT hZ (hw _ (List.mem_of_getElem? (i := 123) rfl))) (mvT hZ (hw _ (List.mem_of_getElem? (i := 115) rfl))) (by decide) (backOf (W := 2) (rmget0_3 l Z a0 hw [] a2 t1 kb x0 x1 x2 h_7 n0 z_8 f_16 f_17 f_18 f_19) hZ (hw _ (List.mem_of_getElem? (i := 124) rfl)) (hw _ (List.mem_of_getElem? (i := 3) rfl)) (by decide) (by decide)) q_15a q_15b q_15c (g := (mkF m 30 #[.val (.ref a1), .val (.ref a2), .val (.int (0 : Int32))] [(.int (0 : Int32)), (.ref a2), (.int (0 : Int32)), (.ref b_2)])) rfl (by rw [hml]; rfl) (Steps.refl _) (argsL := [(.int (0 : Int32))]) (rest := [(.int (0 : Int32)), (.ref b_2)]) (lenOf pd_6 rfl) rfl (by show 2 * 0 + _ ≤ _; exact Nat.le_of_eq rfl) (hb hby d14_30) (fun _ _ => ⟨rfl, e_14, (by decide : 1 + 0 ≤ _), (by decide : 3 + 0 ≤ _)⟩)
  obtain ⟨rfl, N_15q, e_15⟩ := hQ_15
  have N_15 := Fr.app N_7 N_15q
  refine OGo.to (fun _ k => st_15.trans k) ?_
  show OGo p e below _ (T_15.setTop (mkF m 35 #[.val (.ref a1), .val (.ref a2), .val (.int (0 : Int32))] [(.ref x0), (.int (0 : Int32)), (.ref b_2)]))
  have f_21 : Exa Z h_7 x0 "com/example/dromos/dromos/model/Module$Signature" := ((E_x0.ext E_2).wr W_7)
  obtain ⟨T_20, X_20, e_20, st_20⟩ := castY X_15 hx hZ hown (hw _ (List.mem_of_getElem? (i := 138) rfl)) e_15 (Ins.self f_21) (g := (mkF m 35 #[.val (.ref a1), .val (.ref a2), .val (.int (0 : Int32))] [(.ref x0), (.int (0 : Int32)), (.ref b_2)])) rfl rfl (hb hby d14_35)
  refine OGo.to st_20 ?_
  show OGo p e below _ (T_20.setTop (mkF m 38 #[.val (.ref a1), .val (.ref a2), .val (.int (0 : Int32))] [(.ref x0), (.int (0 : Int32)), (.ref b_2)]))
  have f_23 : Fld Z h_7 x0 "com/example/dromos/dromos/model/Module$Signature" "arity" "I" (.int y0) := ((F_x0.ext E_2).other W_7 (Or.inl (Ne.symm n_x0)))
  obtain ⟨cq_22, kq_22, q_22a, q_22b, q_22c⟩ := isOf hZ e_20 f_21
  obtain ⟨_, T_22, Lc_22, X_22, hQ_22, st_22⟩ := own_un X_20 (Q := Q20 Z x0 y0 h_7 n0) (rc := 0) (rs := 0) (W := fun v B => Steps p.tables e below (T_20.setTop (mkF m 38 #[.val (.ref a1), .val (.ref a2), .val (.int (0 : Int32))] [(.ref x0), (.int (0 : Int32)), (.ref b_2)])) (B.setTop { (mkF m 38 #[.val (.ref a1), .val (.ref a2), .val (.int (0 : Int32))] [(.ref x0), (.int (0 : Int32)), (.ref b_2)]) with pc := 41, stack := v.toList ++ [(.int (0 : Int32)), (.ref b_2)] })) <| X_20.virtualBack hx (y := (⟨"com/example/dromos/dromos/model/Module$Signature", "arity", "()I"⟩ : MethodName)) (z := (⟨"com/example/dromos/dromos/model/Module$Signature", "arity", "()I"⟩ : MethodName)) hown (mvT hZ (hw _ (List.mem_of_getElem? (i := 140) rfl))) (mvT hZ (hw _ (List.mem_of_getElem? (i := 141) rfl))) (notFace_of_selects (args := #[]) (mvT hZ (hw _ (List.mem_of_getElem? (i := 143) rfl)))) (mvT hZ (hw _ (List.mem_of_getElem? (i := 143) rfl))) (mvT hZ (hw _ (List.mem_of_getElem? (i := 142) rfl))) (by decide) (backOf (W := 2) (rm20 l Z a0 hw [] x0 y0 h_7 n0 z_8 f_23) hZ (hw _ (List.mem_of_getElem? (i := 144) rfl)) (hw _ (List.mem_of_getElem? (i := 29) rfl)) (by decide) (by decide)) q_22a q_22c (g := (mkF m 38 #[.val (.ref a1), .val (.ref a2), .val (.int (0 : Int32))] [(.ref x0), (.int (0 : Int32)), (.ref b_2)])) rfl (by rw [hml]; rfl) (Steps.refl _) (argsL := []) (rest := [(.int (0 : Int32)), (.ref b_2)]) (lenOf pd_7 rfl) rfl (by show 2 * 0 + _ ≤ _; exact Nat.le_of_eq rfl) (hb hby d14_38) (fun _ _ => ⟨rfl, e_20, (by decide : 1 + 0 ≤ _), (by decide : 3 + 0 ≤ _)⟩)
  obtain ⟨rfl, N_22q, e_22⟩ := hQ_22
  have N_22 := Fr.app N_15 N_22q
  refine OGo.to (fun _ k => st_22.trans k) ?_
  show OGo p e below _ (T_22.setTop (mkF m 41 #[.val (.ref a1), .val (.ref a2), .val (.int (0 : Int32))] [(.int y0), (.int (0 : Int32)), (.ref b_2)]))
  have Vq_24 := f_11
  obtain ⟨cl_24, Ar_24, q_24, S_24, M_24, Hs_24, G_24⟩ := Vq_24
  have hin_25 : ¬ ((0 : Int32) < 0 ∨ cl_24.slots.size ≤ ((0 : Int32)).toNatClampNeg) := inb_of S_24 ⟨by decide, by decide⟩
  obtain ⟨T_25, h_25, X_25, e_25, W_25, st_25⟩ := stI X_22 hx hZ e_22 Ar_24 (j := (0 : Int32)) hin_25 (g := (mkF m 41 #[.val (.ref a1), .val (.ref a2), .val (.int (0 : Int32))] [(.int y0), (.int (0 : Int32)), (.ref b_2)])) rfl rfl (hb hby d14_41)
  refine OGo.to st_25 ?_
  have V_25 : Arv Z h_25 b_2 k_2 .int (3 : Int32) [(.int y0), (.int (0 : Int32)), (.int (0 : Int32))] (.int (0 : Int32)) := Arv.set Ar_24 q_24 S_24 M_24 Hs_24 G_24 rfl W_25 0 rfl (Nat.le_of_ble_eq_true rfl)
  have N_25 := Fr.snoc X_25 N_22 g_b_2
  have z_26 : n0 ≤ h_25.size := Nat.le_trans z_8 (Keep.of_wr W_25).1
  have K_27 : Keep h0 h_25 [a1] := K_9.wr W_25 (Or.inr sz_b_2)
  show OGo p e below _ (T_25.setTop (mkF m 42 #[.val (.ref a1), .val (.ref a2), .val (.int (0 : Int32))] []))
  refine OGo.to (fun _ k => XS.iinc X_25.here hx rfl (hb hby d14_42) rfl (l' := #[.val (.ref a1), .val (.ref a2), .val (.int (1 : Int32))]) rfl k) ?_
  show OGo p e below _ (T_25.setTop (mkF m 45 #[.val (.ref a1), .val (.ref a2), .val (.int (1 : Int32))] []))
  refine OGo.to (fun _ k => XS.goto X_25.here hx rfl (pc0 := 45) (pc' := 14) rfl (hb hby d14_45) (by decide) (by decide) k) ?_
  show OGo p e below _ (T_25.setTop (mkF m 14 #[.val (.ref a1), .val (.ref a2), .val (.int (1 : Int32))] []))
  refine OGo.to (fun _ k => XS.iloadN X_25.here hx rfl (hb hby d14_14) rfl k) ?_
  show OGo p e below _ (T_25.setTop (mkF m 15 #[.val (.ref a1), .val (.ref a2), .val (.int (1 : Int32))] [(.int (1 : Int32))]))
  refine OGo.to (fun _ k => XS.aloadN X_25.here hx rfl (hb hby d14_15) rfl rfl k) ?_
  show OGo p e below _ (T_25.setTop (mkF m 16 #[.val (.ref a1), .val (.ref a2), .val (.int (1 : Int32))] [(.ref a1), (.int (1 : Int32))]))
  have f_28 : Fld Z h_25 a1 "com/example/dromos/dromos/service/Definition" "operators" "[I" (.ref b_2) := (Fw_7.other W_25 (Or.inl ne_a1_b_2))
  obtain ⟨T_29, X_29, e_29, st_29⟩ := getF X_25 hx hZ hown (host := "") (Or.inl (hw _ (List.mem_of_getElem? (i := 86) rfl))) Via.refl e_25 f_28 (g := (mkF m 16 #[.val (.ref a1), .val (.ref a2), .val (.int (1 : Int32))] [(.ref a1), (.int (1 : Int32))])) rfl rfl (hb hby d14_16)
  refine OGo.to st_29 ?_
  show OGo p e below _ (T_29.setTop (mkF m 19 #[.val (.ref a1), .val (.ref a2), .val (.int (1 : Int32))] [(.ref b_2), (.int (1 : Int32))]))
  have Vq_30 := V_25
  obtain ⟨cl_30, Ar_30, q_30, S_30, M_30, Hs_30, G_30⟩ := Vq_30
  refine OGo.to (fun _ k => X_29.arraylength hx (by rw [e_29]; exact Ar_30.1) (State.isArrayOf_alike hZ.alike Ar_30.2.1) (g := (mkF m 19 #[.val (.ref a1), .val (.ref a2), .val (.int (1 : Int32))] [(.ref b_2), (.int (1 : Int32))])) rfl rfl (hb hby d14_19) _ k) ?_
  rw [len_of S_30 M_30]
  show OGo p e below _ (T_29.setTop (mkF m 20 #[.val (.ref a1), .val (.ref a2), .val (.int (1 : Int32))] [(.int (3 : Int32)), (.int (1 : Int32))]))
  have hc20__31 : (1 : Int32) < (3 : Int32) := by decide
  refine OGo.to (fun _ k => XS.icmpNo X_29.here hx rfl (hb hby d14_20) rfl (tlt hc20__31).2.1 k) ?_
  show OGo p e below _ (T_29.setTop (mkF m 23 #[.val (.ref a1), .val (.ref a2), .val (.int (1 : Int32))] []))
  refine OGo.to (fun _ k => XS.aloadN X_29.here hx rfl (hb hby d14_23) rfl rfl k) ?_
  show OGo p e below _ (T_29.setTop (mkF m 24 #[.val (.ref a1), .val (.ref a2), .val (.int (1 : Int32))] [(.ref a1)]))
  obtain ⟨T_32, X_32, e_32, st_32⟩ := getF X_29 hx hZ hown (host := "") (Or.inl (hw _ (List.mem_of_getElem? (i := 86) rfl))) Via.refl e_29 f_28 (g := (mkF m 24 #[.val (.ref a1), .val (.ref a2), .val (.int (1 : Int32))] [(.ref a1)])) rfl rfl (hb hby d14_24)
  refine OGo.to st_32 ?_
  show OGo p e below _ (T_32.setTop (mkF m 27 #[.val (.ref a1), .val (.ref a2), .val (.int (1 : Int32))] [(.ref b_2)]))
  refine OGo.to (fun _ k => XS.iloadN X_32.here hx rfl (hb hby d14_27) rfl k) ?_
  show OGo p e below _ (T_32.setTop (mkF m 28 #[.val (.ref a1), .val (.ref a2), .val (.int (1 : Int32))] [(.int (1 : Int32)), (.ref b_2)]))
  refine OGo.to (fun _ k => XS.aloadN X_32.here hx rfl (hb hby d14_28) rfl rfl k) ?_
  show OGo p e below _ (T_32.setTop (mkF m 29 #[.val (.ref a1), .val (.ref a2), .val (.int (1 : Int32))] [(.ref a2), (.int (1 : Int32)), (.ref b_2)]))
  refine OGo.to (fun _ k => XS.iloadN X_32.here hx rfl (hb hby d14_29) rfl k) ?_
  show OGo p e below _ (T_32.setTop (mkF m 30 #[.val (.ref a1), .val (.ref a2), .val (.int (1 : Int32))] [(.int (1 : Int32)), (.ref a2), (.int (1 : Int32)), (.ref b_2)]))
  have f_34 : Exa Z h_25 a2 "java/util/ArrayList" := (f_16.wr W_25)
  have f_35 : Fld Z h_25 a2 "java/util/ArrayList" "size" "I" (.int (3 : Int32)) := (f_17.other W_25 (Or.inl ne_a2_b_2))
  have f_36 : Fld Z h_25 a2 "java/util/ArrayList" "elementData" "[Ljava/lang/Object;" (.ref t1) := (f_18.other W_25 (Or.inl ne_a2_b_2))
  have f_37 : Arv Z h_25 t1 kb (.object "java/lang/Object") (10 : Int32) [(.ref x0), (.ref x1), (.ref x2), .null, .null, .null, .null, .null, .null, .null] .null := (f_19.other W_25 ne_t1_b_2)
  obtain ⟨cq_33, kq_33, q_33a, q_33b, q_33c⟩ := isOf hZ e_32 f_34
  obtain ⟨_, T_33, Lc_33, X_33, hQ_33, st_33⟩ := own_un X_32 (Q := Qget1_3 Z a2 t1 kb x0 x1 x2 h_25 n0) (rc := 0) (rs := 0) (W := fun v B => Steps p.tables e below (T_32.setTop (mkF m 30 #[.val (.ref a1), .val (.ref a2), .val (.int (1 : Int32))] [(.int (1 : Int32)), (.ref a2), (.int (1 : Int32)), (.ref b_2)])) (B.setTop { (mkF m 30 #[.val (.ref a1), .val (.ref a2), .val (.int (1 : Int32))] [(.int (1 : Int32)), (.ref a2), (.int (1 : Int32)), (.ref b_2)]) with pc := 35, stack := v.toList ++ [(.int (1 : Int32)), (.ref b_2)] })) <| X_32.interfaceBack hx (xi := (⟨"java/util/List", "get", "(I)Ljava/lang/Object;"⟩ : MethodName)) (y := (⟨"java/util/ArrayList", "get", "(I)Ljava/lang/Object;"⟩ : MethodName)) hown (mvT hZ (hw _ (List.mem_of_getElem? (i := 117) rfl))) (mvT hZ (hw _ (List.mem_of_getElem? (i := 118) rfl))) (mvT hZ (hw _ (List.mem_of_getElem? (i := 119) rfl))) (mvT hZ (hw _ (List.mem_of_getElem? (i := 120) rfl))) (mvT hZ (hw _ (List.mem_of_getElem? (i := 121) rfl))) (mvT hZ (hw _ (List.mem_of_getElem? (i := 122) rfl))) (mvT hZ (hw _ (List.mem_of_getElem? (i := 123) rfl))) (mvT hZ (hw _ (List.mem_of_getElem? (i := 115) rfl))) (by decide) (backOf (W := 2) (rmget1_3 l Z a0 hw [] a2 t1 kb x0 x1 x2 h_25 n0 z_26 f_34 f_35 f_36 f_37) hZ (hw _ (List.mem_of_getElem? (i := 124) rfl)) (hw _ (List.mem_of_getElem? (i := 3) rfl)) (by decide) (by decide)) q_33a q_33b q_33c (g := (mkF m 30 #[.val (.ref a1), .val (.ref a2), .val (.int (1 : Int32))] [(.int (1 : Int32)), (.ref a2), (.int (1 : Int32)), (.ref b_2)])) rfl (by rw [hml]; rfl) (Steps.refl _) (argsL := [(.int (1 : Int32))]) (rest := [(.int (1 : Int32)), (.ref b_2)]) (lenOf pd_6 rfl) rfl (by show 2 * 0 + _ ≤ _; exact Nat.le_of_eq rfl) (hb hby d14_30) (fun _ _ => ⟨rfl, e_32, (by decide : 1 + 0 ≤ _), (by decide : 3 + 0 ≤ _)⟩)
  obtain ⟨rfl, N_33q, e_33⟩ := hQ_33
  have N_33 := Fr.app N_25 N_33q
  refine OGo.to (fun _ k => st_33.trans k) ?_
  show OGo p e below _ (T_33.setTop (mkF m 35 #[.val (.ref a1), .val (.ref a2), .val (.int (1 : Int32))] [(.ref x1), (.int (1 : Int32)), (.ref b_2)]))
  have f_39 : Exa Z h_25 x1 "com/example/dromos/dromos/model/Module$Signature" := (((E_x1.ext E_2).wr W_7).wr W_25)
  obtain ⟨T_38, X_38, e_38, st_38⟩ := castY X_33 hx hZ hown (hw _ (List.mem_of_getElem? (i := 138) rfl)) e_33 (Ins.self f_39) (g := (mkF m 35 #[.val (.ref a1), .val (.ref a2), .val (.int (1 : Int32))] [(.ref x1), (.int (1 : Int32)), (.ref b_2)])) rfl rfl (hb hby d14_35)
  refine OGo.to st_38 ?_
  show OGo p e below _ (T_38.setTop (mkF m 38 #[.val (.ref a1), .val (.ref a2), .val (.int (1 : Int32))] [(.ref x1), (.int (1 : Int32)), (.ref b_2)]))
  have f_41 : Fld Z h_25 x1 "com/example/dromos/dromos/model/Module$Signature" "arity" "I" (.int y1) := (((F_x1.ext E_2).other W_7 (Or.inl (Ne.symm n_x1))).other W_25 (Or.inl ne_x1_b_2))
  obtain ⟨cq_40, kq_40, q_40a, q_40b, q_40c⟩ := isOf hZ e_38 f_39
  obtain ⟨_, T_40, Lc_40, X_40, hQ_40, st_40⟩ := own_un X_38 (Q := Q20 Z x1 y1 h_25 n0) (rc := 0) (rs := 0) (W := fun v B => Steps p.tables e below (T_38.setTop (mkF m 38 #[.val (.ref a1), .val (.ref a2), .val (.int (1 : Int32))] [(.ref x1), (.int (1 : Int32)), (.ref b_2)])) (B.setTop { (mkF m 38 #[.val (.ref a1), .val (.ref a2), .val (.int (1 : Int32))] [(.ref x1), (.int (1 : Int32)), (.ref b_2)]) with pc := 41, stack := v.toList ++ [(.int (1 : Int32)), (.ref b_2)] })) <| X_38.virtualBack hx (y := (⟨"com/example/dromos/dromos/model/Module$Signature", "arity", "()I"⟩ : MethodName)) (z := (⟨"com/example/dromos/dromos/model/Module$Signature", "arity", "()I"⟩ : MethodName)) hown (mvT hZ (hw _ (List.mem_of_getElem? (i := 140) rfl))) (mvT hZ (hw _ (List.mem_of_getElem? (i := 141) rfl))) (notFace_of_selects (args := #[]) (mvT hZ (hw _ (List.mem_of_getElem? (i := 143) rfl)))) (mvT hZ (hw _ (List.mem_of_getElem? (i := 143) rfl))) (mvT hZ (hw _ (List.mem_of_getElem? (i := 142) rfl))) (by decide) (backOf (W := 2) (rm20 l Z a0 hw [] x1 y1 h_25 n0 z_26 f_41) hZ (hw _ (List.mem_of_getElem? (i := 144) rfl)) (hw _ (List.mem_of_getElem? (i := 29) rfl)) (by decide) (by decide)) q_40a q_40c (g := (mkF m 38 #[.val (.ref a1), .val (.ref a2), .val (.int (1 : Int32))] [(.ref x1), (.int (1 : Int32)), (.ref b_2)])) rfl (by rw [hml]; rfl) (Steps.refl _) (argsL := []) (rest := [(.int (1 : Int32)), (.ref b_2)]) (lenOf pd_7 rfl) rfl (by show 2 * 0 + _ ≤ _; exact Nat.le_of_eq rfl) (hb hby d14_38) (fun _ _ => ⟨rfl, e_38, (by decide : 1 + 0 ≤ _), (by decide : 3 + 0 ≤ _)⟩)
  obtain ⟨rfl, N_40q, e_40⟩ := hQ_40
  have N_40 := Fr.app N_33 N_40q
  refine OGo.to (fun _ k => st_40.trans k) ?_
  show OGo p e below _ (T_40.setTop (mkF m 41 #[.val (.ref a1), .val (.ref a2), .val (.int (1 : Int32))] [(.int y1), (.int (1 : Int32)), (.ref b_2)]))
  have Vq_42 := V_25
  obtain ⟨cl_42, Ar_42, q_42, S_42, M_42, Hs_42, G_42⟩ := Vq_42
  have hin_43 : ¬ ((1 : Int32) < 0 ∨ cl_42.slots.size ≤ ((1 : Int32)).toNatClampNeg) := inb_of S_42 ⟨by decide, by decide⟩
  obtain ⟨T_43, h_43, X_43, e_43, W_43, st_43⟩ := stI X_40 hx hZ e_40 Ar_42 (j := (1 : Int32)) hin_43 (g := (mkF m 41 #[.val (.ref a1), .val (.ref a2), .val (.int (1 : Int32))] [(.int y1), (.int (1 : Int32)), (.ref b_2)])) rfl rfl (hb hby d14_41)
  refine OGo.to st_43 ?_
  have V_43 : Arv Z h_43 b_2 k_2 .int (3 : Int32) [(.int y0), (.int y1), (.int (0 : Int32))] (.int (0 : Int32)) := Arv.set Ar_42 q_42 S_42 M_42 Hs_42 G_42 rfl W_43 1 rfl (Nat.le_of_ble_eq_true rfl)
  have N_43 := Fr.snoc X_43 N_40 g_b_2
  have z_44 : n0 ≤ h_43.size := Nat.le_trans z_26 (Keep.of_wr W_43).1
  have K_45 : Keep h0 h_43 [a1] := K_27.wr W_43 (Or.inr sz_b_2)
  show OGo p e below _ (T_43.setTop (mkF m 42 #[.val (.ref a1), .val (.ref a2), .val (.int (1 : Int32))] []))
  refine OGo.to (fun _ k => XS.iinc X_43.here hx rfl (hb hby d14_42) rfl (l' := #[.val (.ref a1), .val (.ref a2), .val (.int (2 : Int32))]) rfl k) ?_
  show OGo p e below _ (T_43.setTop (mkF m 45 #[.val (.ref a1), .val (.ref a2), .val (.int (2 : Int32))] []))
  refine OGo.to (fun _ k => XS.goto X_43.here hx rfl (pc0 := 45) (pc' := 14) rfl (hb hby d14_45) (by decide) (by decide) k) ?_
  show OGo p e below _ (T_43.setTop (mkF m 14 #[.val (.ref a1), .val (.ref a2), .val (.int (2 : Int32))] []))
  refine OGo.to (fun _ k => XS.iloadN X_43.here hx rfl (hb hby d14_14) rfl k) ?_
  show OGo p e below _ (T_43.setTop (mkF m 15 #[.val (.ref a1), .val (.ref a2), .val (.int (2 : Int32))] [(.int (2 : Int32))]))
  refine OGo.to (fun _ k => XS.aloadN X_43.here hx rfl (hb hby d14_15) rfl rfl k) ?_
  show OGo p e below _ (T_43.setTop (mkF m 16 #[.val (.ref a1), .val (.ref a2), .val (.int (2 : Int32))] [(.ref a1), (.int (2 : Int32))]))
  have f_46 : Fld Z h_43 a1 "com/example/dromos/dromos/service/Definition" "operators" "[I" (.ref b_2) := (f_28.other W_43 (Or.inl ne_a1_b_2))
  obtain ⟨T_47, X_47, e_47, st_47⟩ := getF X_43 hx hZ hown (host := "") (Or.inl (hw _ (List.mem_of_getElem? (i := 86) rfl))) Via.refl e_43 f_46 (g := (mkF m 16 #[.val (.ref a1), .val (.ref a2), .val (.int (2 : Int32))] [(.ref a1), (.int (2 : Int32))])) rfl rfl (hb hby d14_16)
  refine OGo.to st_47 ?_
  show OGo p e below _ (T_47.setTop (mkF m 19 #[.val (.ref a1), .val (.ref a2), .val (.int (2 : Int32))] [(.ref b_2), (.int (2 : Int32))]))
  have Vq_48 := V_43
  obtain ⟨cl_48, Ar_48, q_48, S_48, M_48, Hs_48, G_48⟩ := Vq_48
  refine OGo.to (fun _ k => X_47.arraylength hx (by rw [e_47]; exact Ar_48.1) (State.isArrayOf_alike hZ.alike Ar_48.2.1) (g := (mkF m 19 #[.val (.ref a1), .val (.ref a2), .val (.int (2 : Int32))] [(.ref b_2), (.int (2 : Int32))])) rfl rfl (hb hby d14_19) _ k) ?_
  rw [len_of S_48 M_48]
  show OGo p e below _ (T_47.setTop (mkF m 20 #[.val (.ref a1), .val (.ref a2), .val (.int (2 : Int32))] [(.int (3 : Int32)), (.int (2 : Int32))]))
  have hc20__49 : (2 : Int32) < (3 : Int32) := by decide
  refine OGo.to (fun _ k => XS.icmpNo X_47.here hx rfl (hb hby d14_20) rfl (tlt hc20__49).2.1 k) ?_
  show OGo p e below _ (T_47.setTop (mkF m 23 #[.val (.ref a1), .val (.ref a2), .val (.int (2 : Int32))] []))
  refine OGo.to (fun _ k => XS.aloadN X_47.here hx rfl (hb hby d14_23) rfl rfl k) ?_
  show OGo p e below _ (T_47.setTop (mkF m 24 #[.val (.ref a1), .val (.ref a2), .val (.int (2 : Int32))] [(.ref a1)]))
  obtain ⟨T_50, X_50, e_50, st_50⟩ := getF X_47 hx hZ hown (host := "") (Or.inl (hw _ (List.mem_of_getElem? (i := 86) rfl))) Via.refl e_47 f_46 (g := (mkF m 24 #[.val (.ref a1), .val (.ref a2), .val (.int (2 : Int32))] [(.ref a1)])) rfl rfl (hb hby d14_24)
  refine OGo.to st_50 ?_
  show OGo p e below _ (T_50.setTop (mkF m 27 #[.val (.ref a1), .val (.ref a2), .val (.int (2 : Int32))] [(.ref b_2)]))
  refine OGo.to (fun _ k => XS.iloadN X_50.here hx rfl (hb hby d14_27) rfl k) ?_
  show OGo p e below _ (T_50.setTop (mkF m 28 #[.val (.ref a1), .val (.ref a2), .val (.int (2 : Int32))] [(.int (2 : Int32)), (.ref b_2)]))
  refine OGo.to (fun _ k => XS.aloadN X_50.here hx rfl (hb hby d14_28) rfl rfl k) ?_
  show OGo p e below _ (T_50.setTop (mkF m 29 #[.val (.ref a1), .val (.ref a2), .val (.int (2 : Int32))] [(.ref a2), (.int (2 : Int32)), (.ref b_2)]))
  refine OGo.to (fun _ k => XS.iloadN X_50.here hx rfl (hb hby d14_29) rfl k) ?_
  show OGo p e below _ (T_50.setTop (mkF m 30 #[.val (.ref a1), .val (.ref a2), .val (.int (2 : Int32))] [(.int (2 : Int32)), (.ref a2), (.int (2 : Int32)), (.ref b_2)]))
  have f_52 : Exa Z h_43 a2 "java/util/ArrayList" := (f_34.wr W_43)
  have f_53 : Fld Z h_43 a2 "java/util/ArrayList" "size" "I" (.int (3 : Int32)) := (f_35.other W_43 (Or.inl ne_a2_b_2))
  have f_54 : Fld Z h_43 a2 "java/util/ArrayList" "elementData" "[Ljava/lang/Object;" (.ref t1) := (f_36.other W_43 (Or.inl ne_a2_b_2))
  have f_55 : Arv Z h_43 t1 kb (.object "java/lang/Object") (10 : Int32) [(.ref x0), (.ref x1), (.ref x2), .null, .null, .null, .null, .null, .null, .null] .null := (f_37.other W_43 ne_t1_b_2)
  obtain ⟨cq_51, kq_51, q_51a, q_51b, q_51c⟩ := isOf hZ e_50 f_52
  obtain ⟨_, T_51, Lc_51, X_51, hQ_51, st_51⟩ := own_un X_50 (Q := Qget2_3 Z a2 t1 kb x0 x1 x2 h_43 n0) (rc := 0) (rs := 0) (W := fun v B => Steps p.tables e below (T_50.setTop (mkF m 30 #[.val (.ref a1), .val (.ref a2), .val (.int (2 : Int32))] [(.int (2 : Int32)), (.ref a2), (.int (2 : Int32)), (.ref b_2)])) (B.setTop { (mkF m 30 #[.val (.ref a1), .val (.ref a2), .val (.int (2 : Int32))] [(.int (2 : Int32)), (.ref a2), (.int (2 : Int32)), (.ref b_2)]) with pc := 35, stack := v.toList ++ [(.int (2 : Int32)), (.ref b_2)] })) <| X_50.interfaceBack hx (xi := (⟨"java/util/List", "get", "(I)Ljava/lang/Object;"⟩ : MethodName)) (y := (⟨"java/util/ArrayList", "get", "(I)Ljava/lang/Object;"⟩ : MethodName)) hown (mvT hZ (hw _ (List.mem_of_getElem? (i := 117) rfl))) (mvT hZ (hw _ (List.mem_of_getElem? (i := 118) rfl))) (mvT hZ (hw _ (List.mem_of_getElem? (i := 119) rfl))) (mvT hZ (hw _ (List.mem_of_getElem? (i := 120) rfl))) (mvT hZ (hw _ (List.mem_of_getElem? (i := 121) rfl))) (mvT hZ (hw _ (List.mem_of_getElem? (i := 122) rfl))) (mvT hZ (hw _ (List.mem_of_getElem? (i := 123) rfl))) (mvT hZ (hw _ (List.mem_of_getElem? (i := 115) rfl))) (by decide) (backOf (W := 2) (rmget2_3 l Z a0 hw [] a2 t1 kb x0 x1 x2 h_43 n0 z_44 f_52 f_53 f_54 f_55) hZ (hw _ (List.mem_of_getElem? (i := 124) rfl)) (hw _ (List.mem_of_getElem? (i := 3) rfl)) (by decide) (by decide)) q_51a q_51b q_51c (g := (mkF m 30 #[.val (.ref a1), .val (.ref a2), .val (.int (2 : Int32))] [(.int (2 : Int32)), (.ref a2), (.int (2 : Int32)), (.ref b_2)])) rfl (by rw [hml]; rfl) (Steps.refl _) (argsL := [(.int (2 : Int32))]) (rest := [(.int (2 : Int32)), (.ref b_2)]) (lenOf pd_6 rfl) rfl (by show 2 * 0 + _ ≤ _; exact Nat.le_of_eq rfl) (hb hby d14_30) (fun _ _ => ⟨rfl, e_50, (by decide : 1 + 0 ≤ _), (by decide : 3 + 0 ≤ _)⟩)
  obtain ⟨rfl, N_51q, e_51⟩ := hQ_51
  have N_51 := Fr.app N_43 N_51q
  refine OGo.to (fun _ k => st_51.trans k) ?_
  show OGo p e below _ (T_51.setTop (mkF m 35 #[.val (.ref a1), .val (.ref a2), .val (.int (2 : Int32))] [(.ref x2), (.int (2 : Int32)), (.ref b_2)]))
  have f_57 : Exa Z h_43 x2 "com/example/dromos/dromos/model/Module$Signature" := ((((E_x2.ext E_2).wr W_7).wr W_25).wr W_43)
  obtain ⟨T_56, X_56, e_56, st_56⟩ := castY X_51 hx hZ hown (hw _ (List.mem_of_getElem? (i := 138) rfl)) e_51 (Ins.self f_57) (g := (mkF m 35 #[.val (.ref a1), .val (.ref a2), .val (.int (2 : Int32))] [(.ref x2), (.int (2 : Int32)), (.ref b_2)])) rfl rfl (hb hby d14_35)
  refine OGo.to st_56 ?_
  show OGo p e below _ (T_56.setTop (mkF m 38 #[.val (.ref a1), .val (.ref a2), .val (.int (2 : Int32))] [(.ref x2), (.int (2 : Int32)), (.ref b_2)]))
  have f_59 : Fld Z h_43 x2 "com/example/dromos/dromos/model/Module$Signature" "arity" "I" (.int y2) := ((((F_x2.ext E_2).other W_7 (Or.inl (Ne.symm n_x2))).other W_25 (Or.inl ne_x2_b_2)).other W_43 (Or.inl ne_x2_b_2))
  obtain ⟨cq_58, kq_58, q_58a, q_58b, q_58c⟩ := isOf hZ e_56 f_57
  obtain ⟨_, T_58, Lc_58, X_58, hQ_58, st_58⟩ := own_un X_56 (Q := Q20 Z x2 y2 h_43 n0) (rc := 0) (rs := 0) (W := fun v B => Steps p.tables e below (T_56.setTop (mkF m 38 #[.val (.ref a1), .val (.ref a2), .val (.int (2 : Int32))] [(.ref x2), (.int (2 : Int32)), (.ref b_2)])) (B.setTop { (mkF m 38 #[.val (.ref a1), .val (.ref a2), .val (.int (2 : Int32))] [(.ref x2), (.int (2 : Int32)), (.ref b_2)]) with pc := 41, stack := v.toList ++ [(.int (2 : Int32)), (.ref b_2)] })) <| X_56.virtualBack hx (y := (⟨"com/example/dromos/dromos/model/Module$Signature", "arity", "()I"⟩ : MethodName)) (z := (⟨"com/example/dromos/dromos/model/Module$Signature", "arity", "()I"⟩ : MethodName)) hown (mvT hZ (hw _ (List.mem_of_getElem? (i := 140) rfl))) (mvT hZ (hw _ (List.mem_of_getElem? (i := 141) rfl))) (notFace_of_selects (args := #[]) (mvT hZ (hw _ (List.mem_of_getElem? (i := 143) rfl)))) (mvT hZ (hw _ (List.mem_of_getElem? (i := 143) rfl))) (mvT hZ (hw _ (List.mem_of_getElem? (i := 142) rfl))) (by decide) (backOf (W := 2) (rm20 l Z a0 hw [] x2 y2 h_43 n0 z_44 f_59) hZ (hw _ (List.mem_of_getElem? (i := 144) rfl)) (hw _ (List.mem_of_getElem? (i := 29) rfl)) (by decide) (by decide)) q_58a q_58c (g := (mkF m 38 #[.val (.ref a1), .val (.ref a2), .val (.int (2 : Int32))] [(.ref x2), (.int (2 : Int32)), (.ref b_2)])) rfl (by rw [hml]; rfl) (Steps.refl _) (argsL := []) (rest := [(.int (2 : Int32)), (.ref b_2)]) (lenOf pd_7 rfl) rfl (by show 2 * 0 + _ ≤ _; exact Nat.le_of_eq rfl) (hb hby d14_38) (fun _ _ => ⟨rfl, e_56, (by decide : 1 + 0 ≤ _), (by decide : 3 + 0 ≤ _)⟩)
  obtain ⟨rfl, N_58q, e_58⟩ := hQ_58
  have N_58 := Fr.app N_51 N_58q
  refine OGo.to (fun _ k => st_58.trans k) ?_
  show OGo p e below _ (T_58.setTop (mkF m 41 #[.val (.ref a1), .val (.ref a2), .val (.int (2 : Int32))] [(.int y2), (.int (2 : Int32)), (.ref b_2)]))
  have Vq_60 := V_43
  obtain ⟨cl_60, Ar_60, q_60, S_60, M_60, Hs_60, G_60⟩ := Vq_60
  have hin_61 : ¬ ((2 : Int32) < 0 ∨ cl_60.slots.size ≤ ((2 : Int32)).toNatClampNeg) := inb_of S_60 ⟨by decide, by decide⟩
  obtain ⟨T_61, h_61, X_61, e_61, W_61, st_61⟩ := stI X_58 hx hZ e_58 Ar_60 (j := (2 : Int32)) hin_61 (g := (mkF m 41 #[.val (.ref a1), .val (.ref a2), .val (.int (2 : Int32))] [(.int y2), (.int (2 : Int32)), (.ref b_2)])) rfl rfl (hb hby d14_41)
  refine OGo.to st_61 ?_
  have V_61 : Arv Z h_61 b_2 k_2 .int (3 : Int32) [(.int y0), (.int y1), (.int y2)] (.int (0 : Int32)) := Arv.set Ar_60 q_60 S_60 M_60 Hs_60 G_60 rfl W_61 2 rfl (Nat.le_of_ble_eq_true rfl)
  have N_61 := Fr.snoc X_61 N_58 g_b_2
  have z_62 : n0 ≤ h_61.size := Nat.le_trans z_44 (Keep.of_wr W_61).1
  have K_63 : Keep h0 h_61 [a1] := K_45.wr W_61 (Or.inr sz_b_2)
  show OGo p e below _ (T_61.setTop (mkF m 42 #[.val (.ref a1), .val (.ref a2), .val (.int (2 : Int32))] []))
  refine OGo.to (fun _ k => XS.iinc X_61.here hx rfl (hb hby d14_42) rfl (l' := #[.val (.ref a1), .val (.ref a2), .val (.int (3 : Int32))]) rfl k) ?_
  show OGo p e below _ (T_61.setTop (mkF m 45 #[.val (.ref a1), .val (.ref a2), .val (.int (3 : Int32))] []))
  refine OGo.to (fun _ k => XS.goto X_61.here hx rfl (pc0 := 45) (pc' := 14) rfl (hb hby d14_45) (by decide) (by decide) k) ?_
  show OGo p e below _ (T_61.setTop (mkF m 14 #[.val (.ref a1), .val (.ref a2), .val (.int (3 : Int32))] []))
  refine OGo.to (fun _ k => XS.iloadN X_61.here hx rfl (hb hby d14_14) rfl k) ?_
  show OGo p e below _ (T_61.setTop (mkF m 15 #[.val (.ref a1), .val (.ref a2), .val (.int (3 : Int32))] [(.int (3 : Int32))]))
  refine OGo.to (fun _ k => XS.aloadN X_61.here hx rfl (hb hby d14_15) rfl rfl k) ?_
  show OGo p e below _ (T_61.setTop (mkF m 16 #[.val (.ref a1), .val (.ref a2), .val (.int (3 : Int32))] [(.ref a1), (.int (3 : Int32))]))
  have f_64 : Fld Z h_61 a1 "com/example/dromos/dromos/service/Definition" "operators" "[I" (.ref b_2) := (f_46.other W_61 (Or.inl ne_a1_b_2))
  obtain ⟨T_65, X_65, e_65, st_65⟩ := getF X_61 hx hZ hown (host := "") (Or.inl (hw _ (List.mem_of_getElem? (i := 86) rfl))) Via.refl e_61 f_64 (g := (mkF m 16 #[.val (.ref a1), .val (.ref a2), .val (.int (3 : Int32))] [(.ref a1), (.int (3 : Int32))])) rfl rfl (hb hby d14_16)
  refine OGo.to st_65 ?_
  show OGo p e below _ (T_65.setTop (mkF m 19 #[.val (.ref a1), .val (.ref a2), .val (.int (3 : Int32))] [(.ref b_2), (.int (3 : Int32))]))
  have Vq_66 := V_61
  obtain ⟨cl_66, Ar_66, q_66, S_66, M_66, Hs_66, G_66⟩ := Vq_66
  refine OGo.to (fun _ k => X_65.arraylength hx (by rw [e_65]; exact Ar_66.1) (State.isArrayOf_alike hZ.alike Ar_66.2.1) (g := (mkF m 19 #[.val (.ref a1), .val (.ref a2), .val (.int (3 : Int32))] [(.ref b_2), (.int (3 : Int32))])) rfl rfl (hb hby d14_19) _ k) ?_
  rw [len_of S_66 M_66]
  show OGo p e below _ (T_65.setTop (mkF m 20 #[.val (.ref a1), .val (.ref a2), .val (.int (3 : Int32))] [(.int (3 : Int32)), (.int (3 : Int32))]))
  have hc20__67 : ¬ ((3 : Int32) < (3 : Int32)) := by decide
  refine OGo.to (fun _ k => XS.icmpYes X_65.here hx rfl (pc0 := 20) (pc' := 48) rfl (hb hby d14_20) rfl (flt hc20__67).2.1 (by decide) (by decide) k) ?_
  show OGo p e below _ (T_65.setTop (mkF m 48 #[.val (.ref a1), .val (.ref a2), .val (.int (3 : Int32))] []))
  refine OGo.ret (Q := Qtk3 Z a1 a2 o1 t1 kb x0 x1 x2 y0 y1 y2 h0 n0) X_65 none (fun _ => rfl) Bd.notSynchronized (fun fs hr => X_65.returnOut hx Bd.returns (hb hby d14_48) hr) ?_ (by decide) (by decide)
  show Qtk3 Z a1 a2 o1 t1 kb x0 x1 x2 y0 y1 y2 h0 n0 _ T_65.heap _
  rw [e_65]
  exact ⟨b_2, k_2, rfl, N_61, K_63, g_b_2, sz_b_2, f_64, V_61⟩
theorem ef_op3 (m : MethodId) (x0 : Addr) : entryFrame m #[(.ref x0)] 5 = mkF m 0 #[.val (.ref x0), .unset, .unset, .unset, .unset] [] := by first | (simp [entryFrame, mkF, argsToLocals, Value.category]; done) | rfl
def Qop3 (Z : State) (a1 : Addr) (t1 : Addr) (kk : ClassId) (y0 : Int32) (y1 : Int32) (y2 : Int32) (h0 : Heap) (n0 : Nat) (v : Option Value) (h : Heap) (L : List Loc) : Prop := v = some (.int (if (0 : Int32) < y0 then (1 : Int32) else (if (0 : Int32) < y1 then (1 : Int32) else (if (0 : Int32) < y2 then (1 : Int32) else (0 : Int32))))) ∧ Fr n0 L ∧ h = h0
set_option maxRecDepth 65536 in
set_option maxHeartbeats 40000000 in
theorem rmop3 (l : Launch) (Z : State) (a0 : Array Value) (hw : ∀ d ∈ tables_1, d.before a0 Z = true) (ws : List Jvm.Cond) (a1 : Addr) (t1 : Addr) (kk : ClassId) (y0 : Int32) (y1 : Int32) (y2 : Int32) (h0 : Heap) (n0 : Nat) (Z0 : n0 ≤ h0.size) (Fo : Fld Z h0 a1 "com/example/dromos/dromos/service/Definition" "operators" "[I" (.ref t1)) (V1 : Arv Z h0 t1 kk .int (3 : Int32) [(.int y0), (.int y1), (.int y2)] (.int (0 : Int32))) :
    MetFree l (⟨"com/example/dromos/dromos/service/Definition", "takesOperators", "()Z"⟩ : MethodName) (head1 (Jvm.Cond.code (⟨"com/example/dromos/dromos/service/Definition", "takesOperators", "()Z"⟩ : MethodName) prog_165_method_6_code 5 (some .boolean) :: ws) ({ frames := 0, cells := 0, slots := 0, locals := 0 } : Room)) (fun a U => a = #[(.ref a1)] ∧ Z.Warmed39 U.vm ∧ U.heap = h0) (fun _ _ _ _ _ => True) (fun _ U o U' => ∃ v L, o = .returned v ∧ Qop3 Z a1 t1 kk y0 y1 y2 h0 n0 v U'.heap L ∧ FrameEnd U o U' L ({ frames := 0, cells := 0, slots := 0, locals := 0 } : Room).cells ({ frames := 0, cells := 0, slots := 0, locals := 0 } : Room).slots) := by
  refine MetFree.of_bodySF (plainFor_of_name pn_5) hisR ?_
  intro p e s m args below meth c s₁ Bd hml0 hP hK
  obtain ⟨rfl, hZ, hh⟩ := hP
  have hx := Bd.exec
  have hby := Bd.bytes
  have hml : c.maxLocals = 5 := hml0
  have hown : s.vm.findClass "com/example/dromos/dromos/service/Definition" = some m.cls := findClass_of_methodNamed Bd.named
  have hnm := (name_of_methodNamed Bd.named Bd.method).1
  have X0 : Stand p l e ({ frames := 0, cells := 0, slots := 0, locals := 0 } : Room) s m #[(.ref a1)] below meth c s₁ [] 0 0 := Stand.of_body Bd
  have e0 : s₁.heap = h0 := by rw [← hh, Bd.state]; rfl
  have N0 := Fr.nil n0
  show OGo p e below (fun s₂ o => ∃ v L, o = .returned v ∧ Qop3 Z a1 t1 kk y0 y1 y2 h0 n0 v s₂.heap L ∧ FrameEnd s o s₂ L ({ frames := 0, cells := 0, slots := 0, locals := 0 } : Room).cells ({ frames := 0, cells := 0, slots := 0, locals := 0 } : Room).slots) _
  refine OGo.to (fun _ k => castTop (ef_op3 m a1) k) ?_
  refine OGo.to (fun _ k => XS.aloadN X0.here hx rfl (hb hby d13_0) rfl rfl k) ?_
  show OGo p e below _ (s₁.setTop (mkF m 1 #[.val (.ref a1), .unset, .unset, .unset, .unset] [(.ref a1)]))
  obtain ⟨T_1, X_1, e_1, st_1⟩ := getF X0 hx hZ hown (host := "") (Or.inl (hw _ (List.mem_of_getElem? (i := 86) rfl))) Via.refl e0 Fo (g := (mkF m 1 #[.val (.ref a1), .unset, .unset, .unset, .unset] [(.ref a1)])) rfl rfl (hb hby d13_1)
  refine OGo.to st_1 ?_
  show OGo p e below _ (T_1.setTop (mkF m 4 #[.val (.ref a1), .unset, .unset, .unset, .unset] [(.ref t1)]))
  refine OGo.to (fun _ k => XS.astoreN X_1.here hx rfl (hb hby d13_4) rfl rfl (l' := #[.val (.ref a1), .val (.ref t1), .unset, .unset, .unset]) rfl k) ?_
  show OGo p e below _ (T_1.setTop (mkF m 5 #[.val (.ref a1), .val (.ref t1), .unset, .unset, .unset] []))
  refine OGo.to (fun _ k => XS.aloadN X_1.here hx rfl (hb hby d13_5) rfl rfl k) ?_
  show OGo p e below _ (T_1.setTop (mkF m 6 #[.val (.ref a1), .val (.ref t1), .unset, .unset, .unset] [(.ref t1)]))
  have Vq_2 := V1
  obtain ⟨cl_2, Ar_2, q_2, S_2, M_2, Hs_2, G_2⟩ := Vq_2
  refine OGo.to (fun _ k => X_1.arraylength hx (by rw [e_1]; exact Ar_2.1) (State.isArrayOf_alike hZ.alike Ar_2.2.1) (g := (mkF m 6 #[.val (.ref a1), .val (.ref t1), .unset, .unset, .unset] [(.ref t1)])) rfl rfl (hb hby d13_6) _ k) ?_
  rw [len_of S_2 M_2]
  show OGo p e below _ (T_1.setTop (mkF m 7 #[.val (.ref a1), .val (.ref t1), .unset, .unset, .unset] [(.int (3 : Int32))]))
  refine OGo.to (fun _ k => XS.istoreN X_1.here hx rfl (hb hby d13_7) rfl (l' := #[.val (.ref a1), .val (.ref t1), .val (.int (3 : Int32)), .unset, .unset]) rfl k) ?_
  show OGo p e below _ (T_1.setTop (mkF m 8 #[.val (.ref a1), .val (.ref t1), .val (.int (3 : Int32)), .unset, .unset] []))
  refine OGo.to (fun _ k => XS.iconst X_1.here hx rfl (hb hby d13_8) k) ?_
  show OGo p e below _ (T_1.setTop (mkF m 9 #[.val (.ref a1), .val (.ref t1), .val (.int (3 : Int32)), .unset, .unset] [(.int (0 : Int32))]))
  refine OGo.to (fun _ k => XS.istoreN X_1.here hx rfl (hb hby d13_9) rfl (l' := #[.val (.ref a1), .val (.ref t1), .val (.int (3 : Int32)), .val (.int (0 : Int32)), .unset]) rfl k) ?_
  show OGo p e below _ (T_1.setTop (mkF m 10 #[.val (.ref a1), .val (.ref t1), .val (.int (3 : Int32)), .val (.int (0 : Int32)), .unset] []))
  refine OGo.to (fun _ k => XS.iloadN X_1.here hx rfl (hb hby d13_10) rfl k) ?_
  show OGo p e below _ (T_1.setTop (mkF m 11 #[.val (.ref a1), .val (.ref t1), .val (.int (3 : Int32)), .val (.int (0 : Int32)), .unset] [(.int (0 : Int32))]))
  refine OGo.to (fun _ k => XS.iloadN X_1.here hx rfl (hb hby d13_11) rfl k) ?_
  show OGo p e below _ (T_1.setTop (mkF m 12 #[.val (.ref a1), .val (.ref t1), .val (.int (3 : Int32)), .val (.int (0 : Int32)), .unset] [(.int (3 : Int32)), (.int (0 : Int32))]))
  have hc12__3 : (0 : Int32) < (3 : Int32) := by decide
  refine OGo.to (fun _ k => XS.icmpNo X_1.here hx rfl (hb hby d13_12) rfl (tlt hc12__3).2.1 k) ?_
  show OGo p e below _ (T_1.setTop (mkF m 15 #[.val (.ref a1), .val (.ref t1), .val (.int (3 : Int32)), .val (.int (0 : Int32)), .unset] []))
  refine OGo.to (fun _ k => XS.aloadN X_1.here hx rfl (hb hby d13_15) rfl rfl k) ?_
  show OGo p e below _ (T_1.setTop (mkF m 16 #[.val (.ref a1), .val (.ref t1), .val (.int (3 : Int32)), .val (.int (0 : Int32)), .unset] [(.ref t1)]))
  refine OGo.to (fun _ k => XS.iloadN X_1.here hx rfl (hb hby d13_16) rfl k) ?_
  show OGo p e below _ (T_1.setTop (mkF m 17 #[.val (.ref a1), .val (.ref t1), .val (.int (3 : Int32)), .val (.int (0 : Int32)), .unset] [(.int (0 : Int32)), (.ref t1)]))
  have Vq_4 := V1
  obtain ⟨cl_4, Ar_4, q_4, S_4, M_4, Hs_4, G_4⟩ := Vq_4
  have hin_5 : ¬ ((0 : Int32) < 0 ∨ cl_4.slots.size ≤ ((0 : Int32)).toNatClampNeg) := inb_of S_4 ⟨by decide, by decide⟩
  have hat_5 : cl_4.slots[((0 : Int32)).toNatClampNeg]? = some (.int y0) := Hs_4.at hin_5 (rfl)
  refine OGo.to (fun _ k => X_1.iaload hx (j := (0 : Int32)) (v := (.int y0)) (by rw [e_1]; exact Ar_4.1) (State.isArrayOf_alike hZ.alike Ar_4.2.1) Ar_4.2.2 hin_5 hat_5 (g := (mkF m 17 #[.val (.ref a1), .val (.ref t1), .val (.int (3 : Int32)), .val (.int (0 : Int32)), .unset] [(.int (0 : Int32)), (.ref t1)])) rfl rfl (hb hby d13_17) _ k) ?_
  show OGo p e below _ (T_1.setTop (mkF m 18 #[.val (.ref a1), .val (.ref t1), .val (.int (3 : Int32)), .val (.int (0 : Int32)), .unset] [(.int y0)]))
  refine OGo.to (fun _ k => XS.istore X_1.here hx rfl (hb hby d13_18) rfl (l' := #[.val (.ref a1), .val (.ref t1), .val (.int (3 : Int32)), .val (.int (0 : Int32)), .val (.int y0)]) rfl k) ?_
  show OGo p e below _ (T_1.setTop (mkF m 20 #[.val (.ref a1), .val (.ref t1), .val (.int (3 : Int32)), .val (.int (0 : Int32)), .val (.int y0)] []))
  refine OGo.to (fun _ k => XS.iload X_1.here hx rfl (hb hby d13_20) rfl k) ?_
  show OGo p e below _ (T_1.setTop (mkF m 22 #[.val (.ref a1), .val (.ref t1), .val (.int (3 : Int32)), .val (.int (0 : Int32)), .val (.int y0)] [(.int y0)]))
  by_cases hc22__6 : (0 : Int32) < y0
  ·  -- pc 22: yes
    refine OGo.to (fun _ k => XS.ifNo X_1.here hx rfl (hb hby d13_22) rfl ((if0 _ _).trans (tlt hc22__6).2.2.2) k) ?_
    show OGo p e below _ (T_1.setTop (mkF m 25 #[.val (.ref a1), .val (.ref t1), .val (.int (3 : Int32)), .val (.int (0 : Int32)), .val (.int y0)] []))
    refine OGo.to (fun _ k => XS.iconst X_1.here hx rfl (hb hby d13_25) k) ?_
    show OGo p e below _ (T_1.setTop (mkF m 26 #[.val (.ref a1), .val (.ref t1), .val (.int (3 : Int32)), .val (.int (0 : Int32)), .val (.int y0)] [(.int (1 : Int32))]))
    refine OGo.ret (Q := Qop3 Z a1 t1 kk y0 y1 y2 h0 n0) X_1 (some (.int (1 : Int32))) (fun h => by rw [Bd.returns] at h; cases h) Bd.notSynchronized (fun fs hr => retN X_1 hx (t := .boolean) (z := (1 : Int32)) Bd.returns (by simp) (hb hby d13_26) hr) ?_ (by decide) (by decide)
    show Qop3 Z a1 t1 kk y0 y1 y2 h0 n0 _ T_1.heap _
    rw [e_1]
    exact ⟨congrArg (fun z => some (Value.int z)) (show (1 : Int32) = (if (0 : Int32) < y0 then (1 : Int32) else (if (0 : Int32) < y1 then (1 : Int32) else (if (0 : Int32) < y2 then (1 : Int32) else (0 : Int32)))) from by rw [if_pos hc22__6]), N0, rfl⟩
  ·  -- pc 22: no
    refine OGo.to (fun _ k => XS.ifYes X_1.here hx rfl (pc0 := 22) (pc' := 27) rfl (hb hby d13_22) rfl ((if0 _ _).trans (flt hc22__6).2.2.2) (by decide) (by decide) k) ?_
    show OGo p e below _ (T_1.setTop (mkF m 27 #[.val (.ref a1), .val (.ref t1), .val (.int (3 : Int32)), .val (.int (0 : Int32)), .val (.int y0)] []))
    refine OGo.to (fun _ k => XS.iinc X_1.here hx rfl (hb hby d13_27) rfl (l' := #[.val (.ref a1), .val (.ref t1), .val (.int (3 : Int32)), .val (.int (1 : Int32)), .val (.int y0)]) rfl k) ?_
    show OGo p e below _ (T_1.setTop (mkF m 30 #[.val (.ref a1), .val (.ref t1), .val (.int (3 : Int32)), .val (.int (1 : Int32)), .val (.int y0)] []))
    refine OGo.to (fun _ k => XS.goto X_1.here hx rfl (pc0 := 30) (pc' := 10) rfl (hb hby d13_30) (by decide) (by decide) k) ?_
    show OGo p e below _ (T_1.setTop (mkF m 10 #[.val (.ref a1), .val (.ref t1), .val (.int (3 : Int32)), .val (.int (1 : Int32)), .val (.int y0)] []))
    refine OGo.to (fun _ k => XS.iloadN X_1.here hx rfl (hb hby d13_10) rfl k) ?_
    show OGo p e below _ (T_1.setTop (mkF m 11 #[.val (.ref a1), .val (.ref t1), .val (.int (3 : Int32)), .val (.int (1 : Int32)), .val (.int y0)] [(.int (1 : Int32))]))
    refine OGo.to (fun _ k => XS.iloadN X_1.here hx rfl (hb hby d13_11) rfl k) ?_
    show OGo p e below _ (T_1.setTop (mkF m 12 #[.val (.ref a1), .val (.ref t1), .val (.int (3 : Int32)), .val (.int (1 : Int32)), .val (.int y0)] [(.int (3 : Int32)), (.int (1 : Int32))]))
    have hc12__7 : (1 : Int32) < (3 : Int32) := by decide
    refine OGo.to (fun _ k => XS.icmpNo X_1.here hx rfl (hb hby d13_12) rfl (tlt hc12__7).2.1 k) ?_
    show OGo p e below _ (T_1.setTop (mkF m 15 #[.val (.ref a1), .val (.ref t1), .val (.int (3 : Int32)), .val (.int (1 : Int32)), .val (.int y0)] []))
    refine OGo.to (fun _ k => XS.aloadN X_1.here hx rfl (hb hby d13_15) rfl rfl k) ?_
    show OGo p e below _ (T_1.setTop (mkF m 16 #[.val (.ref a1), .val (.ref t1), .val (.int (3 : Int32)), .val (.int (1 : Int32)), .val (.int y0)] [(.ref t1)]))
    refine OGo.to (fun _ k => XS.iloadN X_1.here hx rfl (hb hby d13_16) rfl k) ?_
    show OGo p e below _ (T_1.setTop (mkF m 17 #[.val (.ref a1), .val (.ref t1), .val (.int (3 : Int32)), .val (.int (1 : Int32)), .val (.int y0)] [(.int (1 : Int32)), (.ref t1)]))
    have Vq_8 := V1
    obtain ⟨cl_8, Ar_8, q_8, S_8, M_8, Hs_8, G_8⟩ := Vq_8
    have hin_9 : ¬ ((1 : Int32) < 0 ∨ cl_8.slots.size ≤ ((1 : Int32)).toNatClampNeg) := inb_of S_8 ⟨by decide, by decide⟩
    have hat_9 : cl_8.slots[((1 : Int32)).toNatClampNeg]? = some (.int y1) := Hs_8.at hin_9 (rfl)
    refine OGo.to (fun _ k => X_1.iaload hx (j := (1 : Int32)) (v := (.int y1)) (by rw [e_1]; exact Ar_8.1) (State.isArrayOf_alike hZ.alike Ar_8.2.1) Ar_8.2.2 hin_9 hat_9 (g := (mkF m 17 #[.val (.ref a1), .val (.ref t1), .val (.int (3 : Int32)), .val (.int (1 : Int32)), .val (.int y0)] [(.int (1 : Int32)), (.ref t1)])) rfl rfl (hb hby d13_17) _ k) ?_
    show OGo p e below _ (T_1.setTop (mkF m 18 #[.val (.ref a1), .val (.ref t1), .val (.int (3 : Int32)), .val (.int (1 : Int32)), .val (.int y0)] [(.int y1)]))
    refine OGo.to (fun _ k => XS.istore X_1.here hx rfl (hb hby d13_18) rfl (l' := #[.val (.ref a1), .val (.ref t1), .val (.int (3 : Int32)), .val (.int (1 : Int32)), .val (.int y1)]) rfl k) ?_
    show OGo p e below _ (T_1.setTop (mkF m 20 #[.val (.ref a1), .val (.ref t1), .val (.int (3 : Int32)), .val (.int (1 : Int32)), .val (.int y1)] []))
    refine OGo.to (fun _ k => XS.iload X_1.here hx rfl (hb hby d13_20) rfl k) ?_
    show OGo p e below _ (T_1.setTop (mkF m 22 #[.val (.ref a1), .val (.ref t1), .val (.int (3 : Int32)), .val (.int (1 : Int32)), .val (.int y1)] [(.int y1)]))
    by_cases hc22__10 : (0 : Int32) < y1
    ·  -- pc 22: yes
      refine OGo.to (fun _ k => XS.ifNo X_1.here hx rfl (hb hby d13_22) rfl ((if0 _ _).trans (tlt hc22__10).2.2.2) k) ?_
      show OGo p e below _ (T_1.setTop (mkF m 25 #[.val (.ref a1), .val (.ref t1), .val (.int (3 : Int32)), .val (.int (1 : Int32)), .val (.int y1)] []))
      refine OGo.to (fun _ k => XS.iconst X_1.here hx rfl (hb hby d13_25) k) ?_
      show OGo p e below _ (T_1.setTop (mkF m 26 #[.val (.ref a1), .val (.ref t1), .val (.int (3 : Int32)), .val (.int (1 : Int32)), .val (.int y1)] [(.int (1 : Int32))]))
      refine OGo.ret (Q := Qop3 Z a1 t1 kk y0 y1 y2 h0 n0) X_1 (some (.int (1 : Int32))) (fun h => by rw [Bd.returns] at h; cases h) Bd.notSynchronized (fun fs hr => retN X_1 hx (t := .boolean) (z := (1 : Int32)) Bd.returns (by simp) (hb hby d13_26) hr) ?_ (by decide) (by decide)
      show Qop3 Z a1 t1 kk y0 y1 y2 h0 n0 _ T_1.heap _
      rw [e_1]
      exact ⟨congrArg (fun z => some (Value.int z)) (show (1 : Int32) = (if (0 : Int32) < y0 then (1 : Int32) else (if (0 : Int32) < y1 then (1 : Int32) else (if (0 : Int32) < y2 then (1 : Int32) else (0 : Int32)))) from by rw [if_neg hc22__6, if_pos hc22__10]), N0, rfl⟩
    ·  -- pc 22: no
      refine OGo.to (fun _ k => XS.ifYes X_1.here hx rfl (pc0 := 22) (pc' := 27) rfl (hb hby d13_22) rfl ((if0 _ _).trans (flt hc22__10).2.2.2) (by decide) (by decide) k) ?_
      show OGo p e below _ (T_1.setTop (mkF m 27 #[.val (.ref a1), .val (.ref t1), .val (.int (3 : Int32)), .val (.int (1 : Int32)), .val (.int y1)] []))
      refine OGo.to (fun _ k => XS.iinc X_1.here hx rfl (hb hby d13_27) rfl (l' := #[.val (.ref a1), .val (.ref t1), .val (.int (3 : Int32)), .val (.int (2 : Int32)), .val (.int y1)]) rfl k) ?_
      show OGo p e below _ (T_1.setTop (mkF m 30 #[.val (.ref a1), .val (.ref t1), .val (.int (3 : Int32)), .val (.int (2 : Int32)), .val (.int y1)] []))
      refine OGo.to (fun _ k => XS.goto X_1.here hx rfl (pc0 := 30) (pc' := 10) rfl (hb hby d13_30) (by decide) (by decide) k) ?_
      show OGo p e below _ (T_1.setTop (mkF m 10 #[.val (.ref a1), .val (.ref t1), .val (.int (3 : Int32)), .val (.int (2 : Int32)), .val (.int y1)] []))
      refine OGo.to (fun _ k => XS.iloadN X_1.here hx rfl (hb hby d13_10) rfl k) ?_
      show OGo p e below _ (T_1.setTop (mkF m 11 #[.val (.ref a1), .val (.ref t1), .val (.int (3 : Int32)), .val (.int (2 : Int32)), .val (.int y1)] [(.int (2 : Int32))]))
      refine OGo.to (fun _ k => XS.iloadN X_1.here hx rfl (hb hby d13_11) rfl k) ?_
      show OGo p e below _ (T_1.setTop (mkF m 12 #[.val (.ref a1), .val (.ref t1), .val (.int (3 : Int32)), .val (.int (2 : Int32)), .val (.int y1)] [(.int (3 : Int32)), (.int (2 : Int32))]))
      have hc12__11 : (2 : Int32) < (3 : Int32) := by decide
      refine OGo.to (fun _ k => XS.icmpNo X_1.here hx rfl (hb hby d13_12) rfl (tlt hc12__11).2.1 k) ?_
      show OGo p e below _ (T_1.setTop (mkF m 15 #[.val (.ref a1), .val (.ref t1), .val (.int (3 : Int32)), .val (.int (2 : Int32)), .val (.int y1)] []))
      refine OGo.to (fun _ k => XS.aloadN X_1.here hx rfl (hb hby d13_15) rfl rfl k) ?_
      show OGo p e below _ (T_1.setTop (mkF m 16 #[.val (.ref a1), .val (.ref t1), .val (.int (3 : Int32)), .val (.int (2 : Int32)), .val (.int y1)] [(.ref t1)]))
      refine OGo.to (fun _ k => XS.iloadN X_1.here hx rfl (hb hby d13_16) rfl k) ?_
      show OGo p e below _ (T_1.setTop (mkF m 17 #[.val (.ref a1), .val (.ref t1), .val (.int (3 : Int32)), .val (.int (2 : Int32)), .val (.int y1)] [(.int (2 : Int32)), (.ref t1)]))
      have Vq_12 := V1
      obtain ⟨cl_12, Ar_12, q_12, S_12, M_12, Hs_12, G_12⟩ := Vq_12
      have hin_13 : ¬ ((2 : Int32) < 0 ∨ cl_12.slots.size ≤ ((2 : Int32)).toNatClampNeg) := inb_of S_12 ⟨by decide, by decide⟩
      have hat_13 : cl_12.slots[((2 : Int32)).toNatClampNeg]? = some (.int y2) := Hs_12.at hin_13 (rfl)
      refine OGo.to (fun _ k => X_1.iaload hx (j := (2 : Int32)) (v := (.int y2)) (by rw [e_1]; exact Ar_12.1) (State.isArrayOf_alike hZ.alike Ar_12.2.1) Ar_12.2.2 hin_13 hat_13 (g := (mkF m 17 #[.val (.ref a1), .val (.ref t1), .val (.int (3 : Int32)), .val (.int (2 : Int32)), .val (.int y1)] [(.int (2 : Int32)), (.ref t1)])) rfl rfl (hb hby d13_17) _ k) ?_
      show OGo p e below _ (T_1.setTop (mkF m 18 #[.val (.ref a1), .val (.ref t1), .val (.int (3 : Int32)), .val (.int (2 : Int32)), .val (.int y1)] [(.int y2)]))
      refine OGo.to (fun _ k => XS.istore X_1.here hx rfl (hb hby d13_18) rfl (l' := #[.val (.ref a1), .val (.ref t1), .val (.int (3 : Int32)), .val (.int (2 : Int32)), .val (.int y2)]) rfl k) ?_
      show OGo p e below _ (T_1.setTop (mkF m 20 #[.val (.ref a1), .val (.ref t1), .val (.int (3 : Int32)), .val (.int (2 : Int32)), .val (.int y2)] []))
      refine OGo.to (fun _ k => XS.iload X_1.here hx rfl (hb hby d13_20) rfl k) ?_
      show OGo p e below _ (T_1.setTop (mkF m 22 #[.val (.ref a1), .val (.ref t1), .val (.int (3 : Int32)), .val (.int (2 : Int32)), .val (.int y2)] [(.int y2)]))
      by_cases hc22__14 : (0 : Int32) < y2
      ·  -- pc 22: yes
        refine OGo.to (fun _ k => XS.ifNo X_1.here hx rfl (hb hby d13_22) rfl ((if0 _ _).trans (tlt hc22__14).2.2.2) k) ?_
        show OGo p e below _ (T_1.setTop (mkF m 25 #[.val (.ref a1), .val (.ref t1), .val (.int (3 : Int32)), .val (.int (2 : Int32)), .val (.int y2)] []))
        refine OGo.to (fun _ k => XS.iconst X_1.here hx rfl (hb hby d13_25) k) ?_
        show OGo p e below _ (T_1.setTop (mkF m 26 #[.val (.ref a1), .val (.ref t1), .val (.int (3 : Int32)), .val (.int (2 : Int32)), .val (.int y2)] [(.int (1 : Int32))]))
        refine OGo.ret (Q := Qop3 Z a1 t1 kk y0 y1 y2 h0 n0) X_1 (some (.int (1 : Int32))) (fun h => by rw [Bd.returns] at h; cases h) Bd.notSynchronized (fun fs hr => retN X_1 hx (t := .boolean) (z := (1 : Int32)) Bd.returns (by simp) (hb hby d13_26) hr) ?_ (by decide) (by decide)
        show Qop3 Z a1 t1 kk y0 y1 y2 h0 n0 _ T_1.heap _
        rw [e_1]
        exact ⟨congrArg (fun z => some (Value.int z)) (show (1 : Int32) = (if (0 : Int32) < y0 then (1 : Int32) else (if (0 : Int32) < y1 then (1 : Int32) else (if (0 : Int32) < y2 then (1 : Int32) else (0 : Int32)))) from by rw [if_neg hc22__6, if_neg hc22__10, if_pos hc22__14]), N0, rfl⟩
      ·  -- pc 22: no
        refine OGo.to (fun _ k => XS.ifYes X_1.here hx rfl (pc0 := 22) (pc' := 27) rfl (hb hby d13_22) rfl ((if0 _ _).trans (flt hc22__14).2.2.2) (by decide) (by decide) k) ?_
        show OGo p e below _ (T_1.setTop (mkF m 27 #[.val (.ref a1), .val (.ref t1), .val (.int (3 : Int32)), .val (.int (2 : Int32)), .val (.int y2)] []))
        refine OGo.to (fun _ k => XS.iinc X_1.here hx rfl (hb hby d13_27) rfl (l' := #[.val (.ref a1), .val (.ref t1), .val (.int (3 : Int32)), .val (.int (3 : Int32)), .val (.int y2)]) rfl k) ?_
        show OGo p e below _ (T_1.setTop (mkF m 30 #[.val (.ref a1), .val (.ref t1), .val (.int (3 : Int32)), .val (.int (3 : Int32)), .val (.int y2)] []))
        refine OGo.to (fun _ k => XS.goto X_1.here hx rfl (pc0 := 30) (pc' := 10) rfl (hb hby d13_30) (by decide) (by decide) k) ?_
        show OGo p e below _ (T_1.setTop (mkF m 10 #[.val (.ref a1), .val (.ref t1), .val (.int (3 : Int32)), .val (.int (3 : Int32)), .val (.int y2)] []))
        refine OGo.to (fun _ k => XS.iloadN X_1.here hx rfl (hb hby d13_10) rfl k) ?_
        show OGo p e below _ (T_1.setTop (mkF m 11 #[.val (.ref a1), .val (.ref t1), .val (.int (3 : Int32)), .val (.int (3 : Int32)), .val (.int y2)] [(.int (3 : Int32))]))
        refine OGo.to (fun _ k => XS.iloadN X_1.here hx rfl (hb hby d13_11) rfl k) ?_
        show OGo p e below _ (T_1.setTop (mkF m 12 #[.val (.ref a1), .val (.ref t1), .val (.int (3 : Int32)), .val (.int (3 : Int32)), .val (.int y2)] [(.int (3 : Int32)), (.int (3 : Int32))]))
        have hc12__15 : ¬ ((3 : Int32) < (3 : Int32)) := by decide
        refine OGo.to (fun _ k => XS.icmpYes X_1.here hx rfl (pc0 := 12) (pc' := 33) rfl (hb hby d13_12) rfl (flt hc12__15).2.1 (by decide) (by decide) k) ?_
        show OGo p e below _ (T_1.setTop (mkF m 33 #[.val (.ref a1), .val (.ref t1), .val (.int (3 : Int32)), .val (.int (3 : Int32)), .val (.int y2)] []))
        refine OGo.to (fun _ k => XS.iconst X_1.here hx rfl (hb hby d13_33) k) ?_
        show OGo p e below _ (T_1.setTop (mkF m 34 #[.val (.ref a1), .val (.ref t1), .val (.int (3 : Int32)), .val (.int (3 : Int32)), .val (.int y2)] [(.int (0 : Int32))]))
        refine OGo.ret (Q := Qop3 Z a1 t1 kk y0 y1 y2 h0 n0) X_1 (some (.int (0 : Int32))) (fun h => by rw [Bd.returns] at h; cases h) Bd.notSynchronized (fun fs hr => retN X_1 hx (t := .boolean) (z := (0 : Int32)) Bd.returns (by simp) (hb hby d13_34) hr) ?_ (by decide) (by decide)
        show Qop3 Z a1 t1 kk y0 y1 y2 h0 n0 _ T_1.heap _
        rw [e_1]
        exact ⟨congrArg (fun z => some (Value.int z)) (show (0 : Int32) = (if (0 : Int32) < y0 then (1 : Int32) else (if (0 : Int32) < y1 then (1 : Int32) else (if (0 : Int32) < y2 then (1 : Int32) else (0 : Int32)))) from by rw [if_neg hc22__6, if_neg hc22__10, if_neg hc22__14]), N0, rfl⟩
theorem ef_0 (m : MethodId) (x0 : Int32) (x1 : Int32) (x2 : Int32) (x3 : Int32) (x4 : Int32) (x5 : Int32) : entryFrame m #[(.int x0), (.int x1), (.int x2), (.int x3), (.int x4), (.int x5)] maxLocals = mkF m 0 #[.val (.int x0), .val (.int x1), .val (.int x2), .val (.int x3), .val (.int x4), .val (.int x5), .unset, .unset, .unset, .unset, .unset, .unset, .unset, .unset, .unset, .unset] [] := by first | (simp [entryFrame, mkF, argsToLocals, Value.category, maxLocals]; done) | rfl
def Q0 (Z : State) (p1 : Int32) (p2 : Int32) (p3 : Int32) (p4 : Int32) (p5 : Int32) (p6 : Int32) (dd : Addr) (kd : ClassId) (h0 : Heap) (n0 : Nat) (v : Option Value) (h : Heap) (L : List Loc) : Prop := v = some (.int (1 : Int32)) ∧ Fr n0 L
set_option maxRecDepth 65536 in
set_option maxHeartbeats 40000000 in
theorem rm0 (l : Launch) (Z : State) (a0 : Array Value) (hw : ∀ d ∈ tables_1, d.before a0 Z = true) (ws : List Jvm.Cond) (p1 : Int32) (p2 : Int32) (p3 : Int32) (p4 : Int32) (p5 : Int32) (p6 : Int32) (dd : Addr) (kd : ClassId) (h0 : Heap) (n0 : Nat) (Z0 : n0 ≤ h0.size) (S1 : Sta Z Z.heap "java/util/ArrayList" "DEFAULTCAPACITY_EMPTY_ELEMENTDATA" "[Ljava/lang/Object;" (.ref dd)) (VD : Arv Z Z.heap dd kd (.object "java/lang/Object") (0 : Int32) [] .null) (O0 : Old Z n0 h0) :
    MetFree l x (head1 (Jvm.Cond.code x code maxLocals ret :: ws) room_1) (fun a U => a = #[(.int p1), (.int p2), (.int p3), (.int p4), (.int p5), (.int p6)] ∧ Z.Warmed39 U.vm ∧ U.heap = h0) (fun _ _ _ _ _ => True) (fun _ U o U' => ∃ v L, o = .returned v ∧ Q0 Z p1 p2 p3 p4 p5 p6 dd kd h0 n0 v U'.heap L ∧ FrameEnd U o U' L room_1.cells room_1.slots) := by
  refine MetFree.of_bodySF (plainFor_of_name pn_8) hisR ?_
  intro p e s m args below meth c s₁ Bd hml0 hP hK
  obtain ⟨rfl, hZ, hh⟩ := hP
  have hx := Bd.exec
  have hby := Bd.bytes
  have hml : c.maxLocals = 16 := hml0
  have hown : s.vm.findClass "com/example/dromos/dromos/service/DefinitionTakesOperatorsPinLaw" = some m.cls := findClass_of_methodNamed Bd.named
  have hnm := (name_of_methodNamed Bd.named Bd.method).1
  have X0 : Stand p l e room_1 s m #[(.int p1), (.int p2), (.int p3), (.int p4), (.int p5), (.int p6)] below meth c s₁ [] 0 0 := Stand.of_body Bd
  have e0 : s₁.heap = h0 := by rw [← hh, Bd.state]; rfl
  have N0 := Fr.nil n0
  show OGo p e below (fun s₂ o => ∃ v L, o = .returned v ∧ Q0 Z p1 p2 p3 p4 p5 p6 dd kd h0 n0 v s₂.heap L ∧ FrameEnd s o s₂ L room_1.cells room_1.slots) _
  refine OGo.to (fun _ k => castTop (ef_0 m p1 p2 p3 p4 p5 p6) k) ?_
  refine OGo.to (fun _ k => XS.iloadN X0.here hx rfl (hb hby at_0) rfl k) ?_
  show OGo p e below _ (s₁.setTop (mkF m 1 #[.val (.int p1), .val (.int p2), .val (.int p3), .val (.int p4), .val (.int p5), .val (.int p6), .unset, .unset, .unset, .unset, .unset, .unset, .unset, .unset, .unset, .unset] [(.int p4)]))
  refine OGo.to (fun _ k => XS.iconst X0.here hx rfl (hb hby at_1) k) ?_
  show OGo p e below _ (s₁.setTop (mkF m 2 #[.val (.int p1), .val (.int p2), .val (.int p3), .val (.int p4), .val (.int p5), .val (.int p6), .unset, .unset, .unset, .unset, .unset, .unset, .unset, .unset, .unset, .unset] [(.int (3 : Int32)), (.int p4)]))
  refine OGo.to (fun _ k => XS.iand X0.here hx rfl (hb hby at_2) rfl k) ?_
  show OGo p e below _ (s₁.setTop (mkF m 3 #[.val (.int p1), .val (.int p2), .val (.int p3), .val (.int p4), .val (.int p5), .val (.int p6), .unset, .unset, .unset, .unset, .unset, .unset, .unset, .unset, .unset, .unset] [(.int (p4 &&& (3 : Int32)))]))
  obtain ⟨nn, hv_nn⟩ : ∃ z : Int32, z = (p4 &&& (3 : Int32)) := ⟨_, rfl⟩
  rw [← hv_nn]
  refine OGo.to (fun _ k => XS.istore X0.here hx rfl (hb hby at_3) rfl (l' := #[.val (.int p1), .val (.int p2), .val (.int p3), .val (.int p4), .val (.int p5), .val (.int p6), .val (.int nn), .unset, .unset, .unset, .unset, .unset, .unset, .unset, .unset, .unset]) rfl k) ?_
  show OGo p e below _ (s₁.setTop (mkF m 5 #[.val (.int p1), .val (.int p2), .val (.int p3), .val (.int p4), .val (.int p5), .val (.int p6), .val (.int nn), .unset, .unset, .unset, .unset, .unset, .unset, .unset, .unset, .unset] []))
  refine OGo.to (fun _ k => XS.iloadN X0.here hx rfl (hb hby at_5) rfl k) ?_
  show OGo p e below _ (s₁.setTop (mkF m 6 #[.val (.int p1), .val (.int p2), .val (.int p3), .val (.int p4), .val (.int p5), .val (.int p6), .val (.int nn), .unset, .unset, .unset, .unset, .unset, .unset, .unset, .unset, .unset] [(.int p4)]))
  refine OGo.to (fun _ k => XS.iconst X0.here hx rfl (hb hby at_6) k) ?_
  show OGo p e below _ (s₁.setTop (mkF m 7 #[.val (.int p1), .val (.int p2), .val (.int p3), .val (.int p4), .val (.int p5), .val (.int p6), .val (.int nn), .unset, .unset, .unset, .unset, .unset, .unset, .unset, .unset, .unset] [(.int (2 : Int32)), (.int p4)]))
  refine OGo.to (fun _ k => XS.ishr X0.here hx rfl (hb hby at_7) rfl k) ?_
  show OGo p e below _ (s₁.setTop (mkF m 8 #[.val (.int p1), .val (.int p2), .val (.int p3), .val (.int p4), .val (.int p5), .val (.int p6), .val (.int nn), .unset, .unset, .unset, .unset, .unset, .unset, .unset, .unset, .unset] [(.int (p4 >>> ((2 : Int32) &&& 31)))]))
  refine OGo.to (fun _ k => XS.iconst X0.here hx rfl (hb hby at_8) k) ?_
  show OGo p e below _ (s₁.setTop (mkF m 9 #[.val (.int p1), .val (.int p2), .val (.int p3), .val (.int p4), .val (.int p5), .val (.int p6), .val (.int nn), .unset, .unset, .unset, .unset, .unset, .unset, .unset, .unset, .unset] [(.int (1 : Int32)), (.int (p4 >>> ((2 : Int32) &&& 31)))]))
  refine OGo.to (fun _ k => XS.iand X0.here hx rfl (hb hby at_9) rfl k) ?_
  show OGo p e below _ (s₁.setTop (mkF m 10 #[.val (.int p1), .val (.int p2), .val (.int p3), .val (.int p4), .val (.int p5), .val (.int p6), .val (.int nn), .unset, .unset, .unset, .unset, .unset, .unset, .unset, .unset, .unset] [(.int ((p4 >>> ((2 : Int32) &&& 31)) &&& (1 : Int32)))]))
  obtain ⟨lx, hv_lx⟩ : ∃ z : Int32, z = (if ((p4 >>> ((2 : Int32) &&& 31)) &&& (1 : Int32)) = (0 : Int32) then (0 : Int32) else (1 : Int32)) := ⟨_, rfl⟩
  refine OGo.to (S' := s₁.setTop (mkF m 18 #[.val (.int p1), .val (.int p2), .val (.int p3), .val (.int p4), .val (.int p5), .val (.int p6), .val (.int nn), .unset, .unset, .unset, .unset, .unset, .unset, .unset, .unset, .unset] [(.int lx)])) (fun _ k => ?_) ?_
  ·
    show Steps p.tables e below (s₁.setTop (mkF m 10 #[.val (.int p1), .val (.int p2), .val (.int p3), .val (.int p4), .val (.int p5), .val (.int p6), .val (.int nn), .unset, .unset, .unset, .unset, .unset, .unset, .unset, .unset, .unset] [(.int ((p4 >>> ((2 : Int32) &&& 31)) &&& (1 : Int32)))])) _
    by_cases hc10__2 : ((p4 >>> ((2 : Int32) &&& 31)) &&& (1 : Int32)) = (0 : Int32)
    ·  -- pc 10: yes
      refine XS.ifYes X0.here hx rfl (pc0 := 10) (pc' := 17) rfl (hb hby at_10) rfl ((if0 _ _).trans (teq hc10__2).1) (by decide) (by decide) ?_
      show Steps p.tables e below (s₁.setTop (mkF m 17 #[.val (.int p1), .val (.int p2), .val (.int p3), .val (.int p4), .val (.int p5), .val (.int p6), .val (.int nn), .unset, .unset, .unset, .unset, .unset, .unset, .unset, .unset, .unset] [])) _
      refine XS.iconst X0.here hx rfl (hb hby at_17) ?_
      show Steps p.tables e below (s₁.setTop (mkF m 18 #[.val (.int p1), .val (.int p2), .val (.int p3), .val (.int p4), .val (.int p5), .val (.int p6), .val (.int nn), .unset, .unset, .unset, .unset, .unset, .unset, .unset, .unset, .unset] [(.int (0 : Int32))])) _
      have hw_lx := hv_lx
      rw [if_pos hc10__2] at hw_lx
      subst hw_lx
      exact k
    ·  -- pc 10: no
      refine XS.ifNo X0.here hx rfl (hb hby at_10) rfl ((if0 _ _).trans (feq hc10__2).1) ?_
      show Steps p.tables e below (s₁.setTop (mkF m 13 #[.val (.int p1), .val (.int p2), .val (.int p3), .val (.int p4), .val (.int p5), .val (.int p6), .val (.int nn), .unset, .unset, .unset, .unset, .unset, .unset, .unset, .unset, .unset] [])) _
      refine XS.iconst X0.here hx rfl (hb hby at_13) ?_
      show Steps p.tables e below (s₁.setTop (mkF m 14 #[.val (.int p1), .val (.int p2), .val (.int p3), .val (.int p4), .val (.int p5), .val (.int p6), .val (.int nn), .unset, .unset, .unset, .unset, .unset, .unset, .unset, .unset, .unset] [(.int (1 : Int32))])) _
      refine XS.goto X0.here hx rfl (pc0 := 14) (pc' := 18) rfl (hb hby at_14) (by decide) (by decide) ?_
      show Steps p.tables e below (s₁.setTop (mkF m 18 #[.val (.int p1), .val (.int p2), .val (.int p3), .val (.int p4), .val (.int p5), .val (.int p6), .val (.int nn), .unset, .unset, .unset, .unset, .unset, .unset, .unset, .unset, .unset] [(.int (1 : Int32))])) _
      have hw_lx := hv_lx
      rw [if_neg hc10__2] at hw_lx
      subst hw_lx
      exact k
  show OGo p e below _ (s₁.setTop (mkF m 18 #[.val (.int p1), .val (.int p2), .val (.int p3), .val (.int p4), .val (.int p5), .val (.int p6), .val (.int nn), .unset, .unset, .unset, .unset, .unset, .unset, .unset, .unset, .unset] [(.int lx)]))
  have b_lx : lx = (0 : Int32) ∨ lx = (1 : Int32) := by rw [hv_lx]; exact own_01
  refine OGo.to (fun _ k => XS.istore X0.here hx rfl (hb hby at_18) rfl (l' := #[.val (.int p1), .val (.int p2), .val (.int p3), .val (.int p4), .val (.int p5), .val (.int p6), .val (.int nn), .val (.int lx), .unset, .unset, .unset, .unset, .unset, .unset, .unset, .unset]) rfl k) ?_
  show OGo p e below _ (s₁.setTop (mkF m 20 #[.val (.int p1), .val (.int p2), .val (.int p3), .val (.int p4), .val (.int p5), .val (.int p6), .val (.int nn), .val (.int lx), .unset, .unset, .unset, .unset, .unset, .unset, .unset, .unset] []))
  refine OGo.to (fun _ k => XS.iloadN X0.here hx rfl (hb hby at_20) rfl k) ?_
  show OGo p e below _ (s₁.setTop (mkF m 21 #[.val (.int p1), .val (.int p2), .val (.int p3), .val (.int p4), .val (.int p5), .val (.int p6), .val (.int nn), .val (.int lx), .unset, .unset, .unset, .unset, .unset, .unset, .unset, .unset] [(.int p1)]))
  refine OGo.to (fun _ k => X0.ldcInt hx hown (mvT hZ (hw _ (List.mem_of_getElem? (i := 0) rfl))) (g := (mkF m 21 #[.val (.int p1), .val (.int p2), .val (.int p3), .val (.int p4), .val (.int p5), .val (.int p6), .val (.int nn), .val (.int lx), .unset, .unset, .unset, .unset, .unset, .unset, .unset, .unset] [(.int p1)])) rfl (hb hby at_21) _ k) ?_
  show OGo p e below _ (s₁.setTop (mkF m 23 #[.val (.int p1), .val (.int p2), .val (.int p3), .val (.int p4), .val (.int p5), .val (.int p6), .val (.int nn), .val (.int lx), .unset, .unset, .unset, .unset, .unset, .unset, .unset, .unset] [(.int (2147483647 : Int32)), (.int p1)]))
  refine OGo.to (fun _ k => XS.iand X0.here hx rfl (hb hby at_23) rfl k) ?_
  show OGo p e below _ (s₁.setTop (mkF m 24 #[.val (.int p1), .val (.int p2), .val (.int p3), .val (.int p4), .val (.int p5), .val (.int p6), .val (.int nn), .val (.int lx), .unset, .unset, .unset, .unset, .unset, .unset, .unset, .unset] [(.int (p1 &&& (2147483647 : Int32)))]))
  obtain ⟨ya, hv_ya⟩ : ∃ z : Int32, z = (p1 &&& (2147483647 : Int32)) := ⟨_, rfl⟩
  rw [← hv_ya]
  refine OGo.to (fun _ k => XS.istore X0.here hx rfl (hb hby at_24) rfl (l' := #[.val (.int p1), .val (.int p2), .val (.int p3), .val (.int p4), .val (.int p5), .val (.int p6), .val (.int nn), .val (.int lx), .val (.int ya), .unset, .unset, .unset, .unset, .unset, .unset, .unset]) rfl k) ?_
  show OGo p e below _ (s₁.setTop (mkF m 26 #[.val (.int p1), .val (.int p2), .val (.int p3), .val (.int p4), .val (.int p5), .val (.int p6), .val (.int nn), .val (.int lx), .val (.int ya), .unset, .unset, .unset, .unset, .unset, .unset, .unset] []))
  refine OGo.to (fun _ k => XS.iloadN X0.here hx rfl (hb hby at_26) rfl k) ?_
  show OGo p e below _ (s₁.setTop (mkF m 27 #[.val (.int p1), .val (.int p2), .val (.int p3), .val (.int p4), .val (.int p5), .val (.int p6), .val (.int nn), .val (.int lx), .val (.int ya), .unset, .unset, .unset, .unset, .unset, .unset, .unset] [(.int p2)]))
  refine OGo.to (fun _ k => X0.ldcInt hx hown (mvT hZ (hw _ (List.mem_of_getElem? (i := 0) rfl))) (g := (mkF m 27 #[.val (.int p1), .val (.int p2), .val (.int p3), .val (.int p4), .val (.int p5), .val (.int p6), .val (.int nn), .val (.int lx), .val (.int ya), .unset, .unset, .unset, .unset, .unset, .unset, .unset] [(.int p2)])) rfl (hb hby at_27) _ k) ?_
  show OGo p e below _ (s₁.setTop (mkF m 29 #[.val (.int p1), .val (.int p2), .val (.int p3), .val (.int p4), .val (.int p5), .val (.int p6), .val (.int nn), .val (.int lx), .val (.int ya), .unset, .unset, .unset, .unset, .unset, .unset, .unset] [(.int (2147483647 : Int32)), (.int p2)]))
  refine OGo.to (fun _ k => XS.iand X0.here hx rfl (hb hby at_29) rfl k) ?_
  show OGo p e below _ (s₁.setTop (mkF m 30 #[.val (.int p1), .val (.int p2), .val (.int p3), .val (.int p4), .val (.int p5), .val (.int p6), .val (.int nn), .val (.int lx), .val (.int ya), .unset, .unset, .unset, .unset, .unset, .unset, .unset] [(.int (p2 &&& (2147483647 : Int32)))]))
  obtain ⟨yb, hv_yb⟩ : ∃ z : Int32, z = (p2 &&& (2147483647 : Int32)) := ⟨_, rfl⟩
  rw [← hv_yb]
  refine OGo.to (fun _ k => XS.istore X0.here hx rfl (hb hby at_30) rfl (l' := #[.val (.int p1), .val (.int p2), .val (.int p3), .val (.int p4), .val (.int p5), .val (.int p6), .val (.int nn), .val (.int lx), .val (.int ya), .val (.int yb), .unset, .unset, .unset, .unset, .unset, .unset]) rfl k) ?_
  show OGo p e below _ (s₁.setTop (mkF m 32 #[.val (.int p1), .val (.int p2), .val (.int p3), .val (.int p4), .val (.int p5), .val (.int p6), .val (.int nn), .val (.int lx), .val (.int ya), .val (.int yb), .unset, .unset, .unset, .unset, .unset, .unset] []))
  refine OGo.to (fun _ k => XS.iloadN X0.here hx rfl (hb hby at_32) rfl k) ?_
  show OGo p e below _ (s₁.setTop (mkF m 33 #[.val (.int p1), .val (.int p2), .val (.int p3), .val (.int p4), .val (.int p5), .val (.int p6), .val (.int nn), .val (.int lx), .val (.int ya), .val (.int yb), .unset, .unset, .unset, .unset, .unset, .unset] [(.int p3)]))
  refine OGo.to (fun _ k => X0.ldcInt hx hown (mvT hZ (hw _ (List.mem_of_getElem? (i := 0) rfl))) (g := (mkF m 33 #[.val (.int p1), .val (.int p2), .val (.int p3), .val (.int p4), .val (.int p5), .val (.int p6), .val (.int nn), .val (.int lx), .val (.int ya), .val (.int yb), .unset, .unset, .unset, .unset, .unset, .unset] [(.int p3)])) rfl (hb hby at_33) _ k) ?_
  show OGo p e below _ (s₁.setTop (mkF m 35 #[.val (.int p1), .val (.int p2), .val (.int p3), .val (.int p4), .val (.int p5), .val (.int p6), .val (.int nn), .val (.int lx), .val (.int ya), .val (.int yb), .unset, .unset, .unset, .unset, .unset, .unset] [(.int (2147483647 : Int32)), (.int p3)]))
  refine OGo.to (fun _ k => XS.iand X0.here hx rfl (hb hby at_35) rfl k) ?_
  show OGo p e below _ (s₁.setTop (mkF m 36 #[.val (.int p1), .val (.int p2), .val (.int p3), .val (.int p4), .val (.int p5), .val (.int p6), .val (.int nn), .val (.int lx), .val (.int ya), .val (.int yb), .unset, .unset, .unset, .unset, .unset, .unset] [(.int (p3 &&& (2147483647 : Int32)))]))
  obtain ⟨yc, hv_yc⟩ : ∃ z : Int32, z = (p3 &&& (2147483647 : Int32)) := ⟨_, rfl⟩
  rw [← hv_yc]
  refine OGo.to (fun _ k => XS.istore X0.here hx rfl (hb hby at_36) rfl (l' := #[.val (.int p1), .val (.int p2), .val (.int p3), .val (.int p4), .val (.int p5), .val (.int p6), .val (.int nn), .val (.int lx), .val (.int ya), .val (.int yb), .val (.int yc), .unset, .unset, .unset, .unset, .unset]) rfl k) ?_
  show OGo p e below _ (s₁.setTop (mkF m 38 #[.val (.int p1), .val (.int p2), .val (.int p3), .val (.int p4), .val (.int p5), .val (.int p6), .val (.int nn), .val (.int lx), .val (.int ya), .val (.int yb), .val (.int yc), .unset, .unset, .unset, .unset, .unset] []))
  have f_4 : Arv Z h0 dd kd (.object "java/lang/Object") (0 : Int32) [] .null := VD.ext O0.2
  obtain ⟨T_3, h_3, X_3, e_3, E_3, A_3, D_3, -, st_3⟩ := newO X0 hx hZ hown (hw _ (List.mem_of_getElem? (i := 1) rfl)) (hw _ (List.mem_of_getElem? (i := 2) rfl)) (hw _ (List.mem_of_getElem? (i := 3) rfl)) e0 (g := (mkF m 38 #[.val (.int p1), .val (.int p2), .val (.int p3), .val (.int p4), .val (.int p5), .val (.int p6), .val (.int nn), .val (.int lx), .val (.int ya), .val (.int yb), .val (.int yc), .unset, .unset, .unset, .unset, .unset] [])) rfl (hb hby at_38) (by decide) (by decide)
  obtain ⟨b_3, g_3⟩ : ∃ z, z = h0.size := ⟨_, rfl⟩
  rw [← g_3] at A_3 D_3 st_3
  have g_b_3 : n0 ≤ b_3 := Nat.le_trans Z0 (Nat.le_of_eq g_3.symm)
  refine OGo.to st_3 ?_
  have ne_dd_b_3 : dd ≠ b_3 := Nat.ne_of_lt (Nat.lt_of_lt_of_le f_4.lt (Nat.le_of_eq g_3.symm))
  have z_5 : n0 ≤ h_3.size := Nat.le_trans Z0 E_3.1
  have O_6 : Old Z n0 h_3 := O0.ext E_3
  have F_modCount_b_3 : Fld Z h_3 b_3 "java/util/AbstractList" "modCount" "I" (.int (0 : Int32)) := D_3 (Or.inl (hw _ (List.mem_of_getElem? (i := 23) rfl))) (ty := .int) (by decide)
  have F_elementData_b_3 : Fld Z h_3 b_3 "java/util/ArrayList" "elementData" "[Ljava/lang/Object;" .null := D_3 (Or.inl (hw _ (List.mem_of_getElem? (i := 26) rfl))) (ty := (.array (.object "java/lang/Object"))) (by decide)
  have F_size_b_3 : Fld Z h_3 b_3 "java/util/ArrayList" "size" "I" (.int (0 : Int32)) := D_3 (Or.inl (hw _ (List.mem_of_getElem? (i := 51) rfl))) (ty := .int) (by decide)
  show OGo p e below _ (T_3.setTop (mkF m 41 #[.val (.int p1), .val (.int p2), .val (.int p3), .val (.int p4), .val (.int p5), .val (.int p6), .val (.int nn), .val (.int lx), .val (.int ya), .val (.int yb), .val (.int yc), .unset, .unset, .unset, .unset, .unset] [(.ref b_3)]))
  refine OGo.to (fun _ k => XS.dup X_3.here hx rfl (hb hby at_41) rfl rfl k) ?_
  show OGo p e below _ (T_3.setTop (mkF m 42 #[.val (.int p1), .val (.int p2), .val (.int p3), .val (.int p4), .val (.int p5), .val (.int p6), .val (.int nn), .val (.int lx), .val (.int ya), .val (.int yb), .val (.int yc), .unset, .unset, .unset, .unset, .unset] [(.ref b_3), (.ref b_3)]))
  obtain ⟨_, T_7, Lc_7, X_7, hQ_7, st_7⟩ := own_un X_3 (Q := Q1 Z b_3 dd h_3 n0) (rc := 0) (rs := 0) (W := fun v B => Steps p.tables e below (T_3.setTop (mkF m 42 #[.val (.int p1), .val (.int p2), .val (.int p3), .val (.int p4), .val (.int p5), .val (.int p6), .val (.int nn), .val (.int lx), .val (.int ya), .val (.int yb), .val (.int yc), .unset, .unset, .unset, .unset, .unset] [(.ref b_3), (.ref b_3)])) (B.setTop { (mkF m 42 #[.val (.int p1), .val (.int p2), .val (.int p3), .val (.int p4), .val (.int p5), .val (.int p6), .val (.int nn), .val (.int lx), .val (.int ya), .val (.int yb), .val (.int yc), .unset, .unset, .unset, .unset, .unset] [(.ref b_3), (.ref b_3)]) with pc := 45, stack := v.toList ++ [(.ref b_3)] })) <| X_3.specialBack hx (y := (⟨"java/util/ArrayList", "<init>", "()V"⟩ : MethodName)) rfl hown (mvT hZ (hw _ (List.mem_of_getElem? (i := 4) rfl))) (mvT hZ (hw _ (List.mem_of_getElem? (i := 5) rfl))) (mvT hZ (hw _ (List.mem_of_getElem? (i := 6) rfl))) (by decide) (backOf (W := 1) (rm1 l Z a0 hw [] b_3 dd h_3 n0 z_5 A_3 F_modCount_b_3 F_size_b_3 F_elementData_b_3 g_b_3 S1 O_6) hZ (hw _ (List.mem_of_getElem? (i := 6) rfl)) (hw _ (List.mem_of_getElem? (i := 3) rfl)) (by decide) (by decide)) (g := (mkF m 42 #[.val (.int p1), .val (.int p2), .val (.int p3), .val (.int p4), .val (.int p5), .val (.int p6), .val (.int nn), .val (.int lx), .val (.int ya), .val (.int yb), .val (.int yc), .unset, .unset, .unset, .unset, .unset] [(.ref b_3), (.ref b_3)])) rfl (by rw [hml]; rfl) (Steps.refl _) (a := b_3) (argsL := []) (rest := [(.ref b_3)]) (lenOf pd_0 rfl) rfl (by show 2 * 0 + _ ≤ _; exact Nat.le_of_eq rfl) (hb hby at_42) (fun _ _ => ⟨rfl, e_3, (by decide : 1 + 0 ≤ _), (by decide : 3 + 0 ≤ _)⟩)
  obtain ⟨rfl, N_7q, K_7, p_7_0, p_7_1, p_7_2⟩ := hQ_7
  have N_7 := Fr.app N0 N_7q
  refine OGo.to (fun _ k => st_7.trans k) ?_
  have z_8 : n0 ≤ T_7.heap.size := Nat.le_trans z_5 K_7.1
  have O_9 : Old Z n0 T_7.heap := O_6.keep K_7 (allS g_b_3 all0)
  show OGo p e below _ (T_7.setTop (mkF m 45 #[.val (.int p1), .val (.int p2), .val (.int p3), .val (.int p4), .val (.int p5), .val (.int p6), .val (.int nn), .val (.int lx), .val (.int ya), .val (.int yb), .val (.int yc), .unset, .unset, .unset, .unset, .unset] [(.ref b_3)]))
  refine OGo.to (fun _ k => XS.astore X_7.here hx rfl (hb hby at_45) rfl rfl (l' := #[.val (.int p1), .val (.int p2), .val (.int p3), .val (.int p4), .val (.int p5), .val (.int p6), .val (.int nn), .val (.int lx), .val (.int ya), .val (.int yb), .val (.int yc), .val (.ref b_3), .unset, .unset, .unset, .unset]) rfl k) ?_
  show OGo p e below _ (T_7.setTop (mkF m 47 #[.val (.int p1), .val (.int p2), .val (.int p3), .val (.int p4), .val (.int p5), .val (.int p6), .val (.int nn), .val (.int lx), .val (.int ya), .val (.int yb), .val (.int yc), .val (.ref b_3), .unset, .unset, .unset, .unset] []))
  rcases own_n4 hv_nn with rfl | rfl | rfl | rfl
  ·
    show OGo p e below _ (T_7.setTop (mkF m 47 #[.val (.int p1), .val (.int p2), .val (.int p3), .val (.int p4), .val (.int p5), .val (.int p6), .val (.int (0 : Int32)), .val (.int lx), .val (.int ya), .val (.int yb), .val (.int yc), .val (.ref b_3), .unset, .unset, .unset, .unset] []))
    refine OGo.to (fun _ k => XS.iload X_7.here hx rfl (hb hby at_47) rfl k) ?_
    show OGo p e below _ (T_7.setTop (mkF m 49 #[.val (.int p1), .val (.int p2), .val (.int p3), .val (.int p4), .val (.int p5), .val (.int p6), .val (.int (0 : Int32)), .val (.int lx), .val (.int ya), .val (.int yb), .val (.int yc), .val (.ref b_3), .unset, .unset, .unset, .unset] [(.int (0 : Int32))]))
    refine OGo.to (fun _ k => XS.iconst X_7.here hx rfl (hb hby at_49) k) ?_
    show OGo p e below _ (T_7.setTop (mkF m 50 #[.val (.int p1), .val (.int p2), .val (.int p3), .val (.int p4), .val (.int p5), .val (.int p6), .val (.int (0 : Int32)), .val (.int lx), .val (.int ya), .val (.int yb), .val (.int yc), .val (.ref b_3), .unset, .unset, .unset, .unset] [(.int (1 : Int32)), (.int (0 : Int32))]))
    have hc50__10 : (0 : Int32) < (1 : Int32) := by decide
    refine OGo.to (fun _ k => XS.icmpYes X_7.here hx rfl (pc0 := 50) (pc' := 69) rfl (hb hby at_50) rfl (tlt hc50__10).1 (by decide) (by decide) k) ?_
    show OGo p e below _ (T_7.setTop (mkF m 69 #[.val (.int p1), .val (.int p2), .val (.int p3), .val (.int p4), .val (.int p5), .val (.int p6), .val (.int (0 : Int32)), .val (.int lx), .val (.int ya), .val (.int yb), .val (.int yc), .val (.ref b_3), .unset, .unset, .unset, .unset] []))
    refine OGo.to (fun _ k => XS.iload X_7.here hx rfl (hb hby at_69) rfl k) ?_
    show OGo p e below _ (T_7.setTop (mkF m 71 #[.val (.int p1), .val (.int p2), .val (.int p3), .val (.int p4), .val (.int p5), .val (.int p6), .val (.int (0 : Int32)), .val (.int lx), .val (.int ya), .val (.int yb), .val (.int yc), .val (.ref b_3), .unset, .unset, .unset, .unset] [(.int (0 : Int32))]))
    refine OGo.to (fun _ k => XS.iconst X_7.here hx rfl (hb hby at_71) k) ?_
    show OGo p e below _ (T_7.setTop (mkF m 72 #[.val (.int p1), .val (.int p2), .val (.int p3), .val (.int p4), .val (.int p5), .val (.int p6), .val (.int (0 : Int32)), .val (.int lx), .val (.int ya), .val (.int yb), .val (.int yc), .val (.ref b_3), .unset, .unset, .unset, .unset] [(.int (2 : Int32)), (.int (0 : Int32))]))
    have hc72__11 : (0 : Int32) < (2 : Int32) := by decide
    refine OGo.to (fun _ k => XS.icmpYes X_7.here hx rfl (pc0 := 72) (pc' := 91) rfl (hb hby at_72) rfl (tlt hc72__11).1 (by decide) (by decide) k) ?_
    show OGo p e below _ (T_7.setTop (mkF m 91 #[.val (.int p1), .val (.int p2), .val (.int p3), .val (.int p4), .val (.int p5), .val (.int p6), .val (.int (0 : Int32)), .val (.int lx), .val (.int ya), .val (.int yb), .val (.int yc), .val (.ref b_3), .unset, .unset, .unset, .unset] []))
    refine OGo.to (fun _ k => XS.iload X_7.here hx rfl (hb hby at_91) rfl k) ?_
    show OGo p e below _ (T_7.setTop (mkF m 93 #[.val (.int p1), .val (.int p2), .val (.int p3), .val (.int p4), .val (.int p5), .val (.int p6), .val (.int (0 : Int32)), .val (.int lx), .val (.int ya), .val (.int yb), .val (.int yc), .val (.ref b_3), .unset, .unset, .unset, .unset] [(.int (0 : Int32))]))
    refine OGo.to (fun _ k => XS.iconst X_7.here hx rfl (hb hby at_93) k) ?_
    show OGo p e below _ (T_7.setTop (mkF m 94 #[.val (.int p1), .val (.int p2), .val (.int p3), .val (.int p4), .val (.int p5), .val (.int p6), .val (.int (0 : Int32)), .val (.int lx), .val (.int ya), .val (.int yb), .val (.int yc), .val (.ref b_3), .unset, .unset, .unset, .unset] [(.int (3 : Int32)), (.int (0 : Int32))]))
    have hc94__12 : (0 : Int32) < (3 : Int32) := by decide
    refine OGo.to (fun _ k => XS.icmpYes X_7.here hx rfl (pc0 := 94) (pc' := 113) rfl (hb hby at_94) rfl (tlt hc94__12).1 (by decide) (by decide) k) ?_
    show OGo p e below _ (T_7.setTop (mkF m 113 #[.val (.int p1), .val (.int p2), .val (.int p3), .val (.int p4), .val (.int p5), .val (.int p6), .val (.int (0 : Int32)), .val (.int lx), .val (.int ya), .val (.int yb), .val (.int yc), .val (.ref b_3), .unset, .unset, .unset, .unset] []))
    have f_14 : Arv Z T_7.heap dd kd (.object "java/lang/Object") (0 : Int32) [] .null := VD.ext O_9.2
    have f_15 : Exa Z T_7.heap b_3 "java/util/ArrayList" := (A_3.keep K_7)
    obtain ⟨T_13, h_13, X_13, e_13, E_13, A_13, D_13, -, st_13⟩ := newO X_7 hx hZ hown (hw _ (List.mem_of_getElem? (i := 74) rfl)) (hw _ (List.mem_of_getElem? (i := 75) rfl)) (hw _ (List.mem_of_getElem? (i := 76) rfl)) (rfl : T_7.heap = T_7.heap) (g := (mkF m 113 #[.val (.int p1), .val (.int p2), .val (.int p3), .val (.int p4), .val (.int p5), .val (.int p6), .val (.int (0 : Int32)), .val (.int lx), .val (.int ya), .val (.int yb), .val (.int yc), .val (.ref b_3), .unset, .unset, .unset, .unset] [])) rfl (hb hby at_113) (by decide) (by decide)
    obtain ⟨b_13, g_13⟩ : ∃ z, z = T_7.heap.size := ⟨_, rfl⟩
    rw [← g_13] at A_13 D_13 st_13
    have g_b_13 : n0 ≤ b_13 := Nat.le_trans z_8 (Nat.le_of_eq g_13.symm)
    refine OGo.to st_13 ?_
    have ne_dd_b_13 : dd ≠ b_13 := Nat.ne_of_lt (Nat.lt_of_lt_of_le f_14.lt (Nat.le_of_eq g_13.symm))
    have ne_b_3_b_13 : b_3 ≠ b_13 := Nat.ne_of_lt (Nat.lt_of_lt_of_le f_15.lt (Nat.le_of_eq g_13.symm))
    have z_16 : n0 ≤ h_13.size := Nat.le_trans z_8 E_13.1
    have O_17 : Old Z n0 h_13 := O_9.ext E_13
    have F_bound_b_13 : Fld Z h_13 b_13 "com/example/dromos/dromos/service/Definition" "bound" "I" (.int (0 : Int32)) := D_13 (Or.inl (hw _ (List.mem_of_getElem? (i := 82) rfl))) (ty := .int) (by decide)
    have F_free_b_13 : Fld Z h_13 b_13 "com/example/dromos/dromos/service/Definition" "free" "I" (.int (0 : Int32)) := D_13 (Or.inl (hw _ (List.mem_of_getElem? (i := 84) rfl))) (ty := .int) (by decide)
    have F_operators_b_13 : Fld Z h_13 b_13 "com/example/dromos/dromos/service/Definition" "operators" "[I" .null := D_13 (Or.inl (hw _ (List.mem_of_getElem? (i := 87) rfl))) (ty := (.array .int)) (by decide)
    have F_name_b_13 : Fld Z h_13 b_13 "com/example/dromos/dromos/service/Definition" "name" "Ljava/lang/String;" .null := D_13 (Or.inr (hw _ (List.mem_of_getElem? (i := 89) rfl))) (ty := (.object "java/lang/String")) (by decide)
    have F_arity_b_13 : Fld Z h_13 b_13 "com/example/dromos/dromos/service/Definition" "arity" "I" (.int (0 : Int32)) := D_13 (Or.inr (hw _ (List.mem_of_getElem? (i := 91) rfl))) (ty := .int) (by decide)
    have F_hidden_b_13 : Fld Z h_13 b_13 "com/example/dromos/dromos/service/Definition" "hidden" "I" (.int (0 : Int32)) := D_13 (Or.inr (hw _ (List.mem_of_getElem? (i := 93) rfl))) (ty := .int) (by decide)
    have F_at_b_13 : Fld Z h_13 b_13 "com/example/dromos/dromos/service/Definition" "at" "Lcom/example/dromos/dromos/model/Location;" .null := D_13 (Or.inr (hw _ (List.mem_of_getElem? (i := 95) rfl))) (ty := (.object "com/example/dromos/dromos/model/Location")) (by decide)
    have F_lexical_b_13 : Fld Z h_13 b_13 "com/example/dromos/dromos/service/Definition" "lexical" "Z" (.int (0 : Int32)) := D_13 (Or.inr (hw _ (List.mem_of_getElem? (i := 97) rfl))) (ty := .boolean) (by decide)
    show OGo p e below _ (T_13.setTop (mkF m 116 #[.val (.int p1), .val (.int p2), .val (.int p3), .val (.int p4), .val (.int p5), .val (.int p6), .val (.int (0 : Int32)), .val (.int lx), .val (.int ya), .val (.int yb), .val (.int yc), .val (.ref b_3), .unset, .unset, .unset, .unset] [(.ref b_13)]))
    refine OGo.to (fun _ k => XS.dup X_13.here hx rfl (hb hby at_116) rfl rfl k) ?_
    show OGo p e below _ (T_13.setTop (mkF m 117 #[.val (.int p1), .val (.int p2), .val (.int p3), .val (.int p4), .val (.int p5), .val (.int p6), .val (.int (0 : Int32)), .val (.int lx), .val (.int ya), .val (.int yb), .val (.int yc), .val (.ref b_3), .unset, .unset, .unset, .unset] [(.ref b_13), (.ref b_13)]))
    refine OGo.to (fun _ k => XS.aconstNull X_13.here hx rfl (hb hby at_117) k) ?_
    show OGo p e below _ (T_13.setTop (mkF m 118 #[.val (.int p1), .val (.int p2), .val (.int p3), .val (.int p4), .val (.int p5), .val (.int p6), .val (.int (0 : Int32)), .val (.int lx), .val (.int ya), .val (.int yb), .val (.int yc), .val (.ref b_3), .unset, .unset, .unset, .unset] [.null, (.ref b_13), (.ref b_13)]))
    refine OGo.to (fun _ k => XS.iload X_13.here hx rfl (hb hby at_118) rfl k) ?_
    show OGo p e below _ (T_13.setTop (mkF m 120 #[.val (.int p1), .val (.int p2), .val (.int p3), .val (.int p4), .val (.int p5), .val (.int p6), .val (.int (0 : Int32)), .val (.int lx), .val (.int ya), .val (.int yb), .val (.int yc), .val (.ref b_3), .unset, .unset, .unset, .unset] [(.int p5), .null, (.ref b_13), (.ref b_13)]))
    refine OGo.to (fun _ k => XS.iload X_13.here hx rfl (hb hby at_120) rfl k) ?_
    show OGo p e below _ (T_13.setTop (mkF m 122 #[.val (.int p1), .val (.int p2), .val (.int p3), .val (.int p4), .val (.int p5), .val (.int p6), .val (.int (0 : Int32)), .val (.int lx), .val (.int ya), .val (.int yb), .val (.int yc), .val (.ref b_3), .unset, .unset, .unset, .unset] [(.int p6), (.int p5), .null, (.ref b_13), (.ref b_13)]))
    refine OGo.to (fun _ k => XS.aconstNull X_13.here hx rfl (hb hby at_122) k) ?_
    show OGo p e below _ (T_13.setTop (mkF m 123 #[.val (.int p1), .val (.int p2), .val (.int p3), .val (.int p4), .val (.int p5), .val (.int p6), .val (.int (0 : Int32)), .val (.int lx), .val (.int ya), .val (.int yb), .val (.int yc), .val (.ref b_3), .unset, .unset, .unset, .unset] [.null, (.int p6), (.int p5), .null, (.ref b_13), (.ref b_13)]))
    refine OGo.to (fun _ k => XS.iload X_13.here hx rfl (hb hby at_123) rfl k) ?_
    show OGo p e below _ (T_13.setTop (mkF m 125 #[.val (.int p1), .val (.int p2), .val (.int p3), .val (.int p4), .val (.int p5), .val (.int p6), .val (.int (0 : Int32)), .val (.int lx), .val (.int ya), .val (.int yb), .val (.int yc), .val (.ref b_3), .unset, .unset, .unset, .unset] [(.int lx), .null, (.int p6), (.int p5), .null, (.ref b_13), (.ref b_13)]))
    have f_19 : Arv Z h_13 dd kd (.object "java/lang/Object") (0 : Int32) [] .null := VD.ext O_17.2
    have f_20 : Exa Z h_13 b_3 "java/util/ArrayList" := (f_15.ext E_13)
    obtain ⟨_, T_18, Lc_18, X_18, hQ_18, st_18⟩ := own_un X_13 (Q := Q12 Z b_13 p5 p6 lx h_13 n0) (rc := 1) (rs := 0) (W := fun v B => Steps p.tables e below (T_13.setTop (mkF m 125 #[.val (.int p1), .val (.int p2), .val (.int p3), .val (.int p4), .val (.int p5), .val (.int p6), .val (.int (0 : Int32)), .val (.int lx), .val (.int ya), .val (.int yb), .val (.int yc), .val (.ref b_3), .unset, .unset, .unset, .unset] [(.int lx), .null, (.int p6), (.int p5), .null, (.ref b_13), (.ref b_13)])) (B.setTop { (mkF m 125 #[.val (.int p1), .val (.int p2), .val (.int p3), .val (.int p4), .val (.int p5), .val (.int p6), .val (.int (0 : Int32)), .val (.int lx), .val (.int ya), .val (.int yb), .val (.int yc), .val (.ref b_3), .unset, .unset, .unset, .unset] [(.int lx), .null, (.int p6), (.int p5), .null, (.ref b_13), (.ref b_13)]) with pc := 128, stack := v.toList ++ [(.ref b_13)] })) <| X_13.specialBack hx (y := (⟨"com/example/dromos/dromos/service/Definition", "<init>", "(Ljava/lang/String;IILcom/example/dromos/dromos/model/Location;Z)V"⟩ : MethodName)) rfl hown (mvT hZ (hw _ (List.mem_of_getElem? (i := 77) rfl))) (mvT hZ (hw _ (List.mem_of_getElem? (i := 78) rfl))) (mvT hZ (hw _ (List.mem_of_getElem? (i := 79) rfl))) (by decide) (backOf (W := 1) (rm12 l Z a0 hw [] b_13 p5 p6 lx h_13 n0 z_16 A_13 F_bound_b_13 F_free_b_13 F_operators_b_13 F_name_b_13 F_arity_b_13 F_hidden_b_13 F_at_b_13 F_lexical_b_13 g_b_13 (b_lx)) hZ (hw _ (List.mem_of_getElem? (i := 79) rfl)) (hw _ (List.mem_of_getElem? (i := 76) rfl)) (by decide) (by decide)) (g := (mkF m 125 #[.val (.int p1), .val (.int p2), .val (.int p3), .val (.int p4), .val (.int p5), .val (.int p6), .val (.int (0 : Int32)), .val (.int lx), .val (.int ya), .val (.int yb), .val (.int yc), .val (.ref b_3), .unset, .unset, .unset, .unset] [(.int lx), .null, (.int p6), (.int p5), .null, (.ref b_13), (.ref b_13)])) rfl (by rw [hml]; rfl) (Steps.refl _) (a := b_13) (argsL := [.null, (.int p5), (.int p6), .null, (.int lx)]) (rest := [(.ref b_13)]) (lenOf pd_8 rfl) rfl (by show 2 * 0 + _ ≤ _; exact Nat.le_of_eq rfl) (hb hby at_125) (fun _ _ => ⟨rfl, e_13, (by decide : 2 + 1 ≤ _), (by decide : 18 + 0 ≤ _)⟩)
    obtain ⟨b__18, kb__18, rfl, N_18q, K_18, gq_b__18, sq_b__18, p_18_0, p_18_1, p_18_2, p_18_3, p_18_4, p_18_5, p_18_6⟩ := hQ_18
    have N_18 := Fr.app N_7 N_18q
    refine OGo.to (fun _ k => st_18.trans k) ?_
    have ne_dd_b__18 : dd ≠ b__18 := Nat.ne_of_lt (Nat.lt_of_lt_of_le f_19.lt sq_b__18)
    have ne_b_3_b__18 : b_3 ≠ b__18 := Nat.ne_of_lt (Nat.lt_of_lt_of_le f_20.lt sq_b__18)
    have ne_b_13_b__18 : b_13 ≠ b__18 := Nat.ne_of_lt (Nat.lt_of_lt_of_le A_13.lt sq_b__18)
    have z_21 : n0 ≤ T_18.heap.size := Nat.le_trans z_16 K_18.1
    have O_22 : Old Z n0 T_18.heap := O_17.keep K_18 (allS g_b_13 all0)
    show OGo p e below _ (T_18.setTop (mkF m 128 #[.val (.int p1), .val (.int p2), .val (.int p3), .val (.int p4), .val (.int p5), .val (.int p6), .val (.int (0 : Int32)), .val (.int lx), .val (.int ya), .val (.int yb), .val (.int yc), .val (.ref b_3), .unset, .unset, .unset, .unset] [(.ref b_13)]))
    refine OGo.to (fun _ k => XS.astore X_18.here hx rfl (hb hby at_128) rfl rfl (l' := #[.val (.int p1), .val (.int p2), .val (.int p3), .val (.int p4), .val (.int p5), .val (.int p6), .val (.int (0 : Int32)), .val (.int lx), .val (.int ya), .val (.int yb), .val (.int yc), .val (.ref b_3), .val (.ref b_13), .unset, .unset, .unset]) rfl k) ?_
    show OGo p e below _ (T_18.setTop (mkF m 130 #[.val (.int p1), .val (.int p2), .val (.int p3), .val (.int p4), .val (.int p5), .val (.int p6), .val (.int (0 : Int32)), .val (.int lx), .val (.int ya), .val (.int yb), .val (.int yc), .val (.ref b_3), .val (.ref b_13), .unset, .unset, .unset] []))
    refine OGo.to (fun _ k => XS.aload X_18.here hx rfl (hb hby at_130) rfl rfl k) ?_
    show OGo p e below _ (T_18.setTop (mkF m 132 #[.val (.int p1), .val (.int p2), .val (.int p3), .val (.int p4), .val (.int p5), .val (.int p6), .val (.int (0 : Int32)), .val (.int lx), .val (.int ya), .val (.int yb), .val (.int yc), .val (.ref b_3), .val (.ref b_13), .unset, .unset, .unset] [(.ref b_13)]))
    have f_24 : Exa Z T_18.heap b_13 "com/example/dromos/dromos/service/Definition" := (A_13.keep K_18)
    obtain ⟨cq_23, kq_23, q_23a, q_23b, q_23c⟩ := isOf hZ (rfl : T_18.heap = T_18.heap) f_24
    obtain ⟨_, T_23, Lc_23, X_23, hQ_23, st_23⟩ := own_un X_18 (Q := Qop0 Z b_13 b__18 kb__18 T_18.heap n0) (rc := 0) (rs := 0) (W := fun v B => Steps p.tables e below (T_18.setTop (mkF m 132 #[.val (.int p1), .val (.int p2), .val (.int p3), .val (.int p4), .val (.int p5), .val (.int p6), .val (.int (0 : Int32)), .val (.int lx), .val (.int ya), .val (.int yb), .val (.int yc), .val (.ref b_3), .val (.ref b_13), .unset, .unset, .unset] [(.ref b_13)])) (B.setTop { (mkF m 132 #[.val (.int p1), .val (.int p2), .val (.int p3), .val (.int p4), .val (.int p5), .val (.int p6), .val (.int (0 : Int32)), .val (.int lx), .val (.int ya), .val (.int yb), .val (.int yc), .val (.ref b_3), .val (.ref b_13), .unset, .unset, .unset] [(.ref b_13)]) with pc := 135, stack := v.toList ++ [] })) <| X_18.virtualBack hx (y := (⟨"com/example/dromos/dromos/service/Definition", "takesOperators", "()Z"⟩ : MethodName)) (z := (⟨"com/example/dromos/dromos/service/Definition", "takesOperators", "()Z"⟩ : MethodName)) hown (mvT hZ (hw _ (List.mem_of_getElem? (i := 98) rfl))) (mvT hZ (hw _ (List.mem_of_getElem? (i := 99) rfl))) (notFace_of_selects (args := #[]) (mvT hZ (hw _ (List.mem_of_getElem? (i := 101) rfl)))) (mvT hZ (hw _ (List.mem_of_getElem? (i := 101) rfl))) (mvT hZ (hw _ (List.mem_of_getElem? (i := 100) rfl))) (by decide) (backOf (W := 0) (rmop0 l Z a0 hw [] b_13 b__18 kb__18 T_18.heap n0 z_21 p_18_4 p_18_5) hZ (hw _ (List.mem_of_getElem? (i := 102) rfl)) (hw _ (List.mem_of_getElem? (i := 76) rfl)) (by decide) (by decide)) q_23a q_23c (g := (mkF m 132 #[.val (.int p1), .val (.int p2), .val (.int p3), .val (.int p4), .val (.int p5), .val (.int p6), .val (.int (0 : Int32)), .val (.int lx), .val (.int ya), .val (.int yb), .val (.int yc), .val (.ref b_3), .val (.ref b_13), .unset, .unset, .unset] [(.ref b_13)])) rfl (by rw [hml]; rfl) (Steps.refl _) (argsL := []) (rest := []) (lenOf pd_9 rfl) rfl (by show 2 * 0 + _ ≤ _; exact Nat.le_of_eq rfl) (hb hby at_132) (fun _ _ => ⟨rfl, (rfl : T_18.heap = T_18.heap), (by decide : 3 + 0 ≤ _), (by decide : 18 + 0 ≤ _)⟩)
    obtain ⟨rfl, N_23q, e_23⟩ := hQ_23
    have N_23 := Fr.app N_18 N_23q
    refine OGo.to (fun _ k => st_23.trans k) ?_
    show OGo p e below _ (T_23.setTop (mkF m 135 #[.val (.int p1), .val (.int p2), .val (.int p3), .val (.int p4), .val (.int p5), .val (.int p6), .val (.int (0 : Int32)), .val (.int lx), .val (.int ya), .val (.int yb), .val (.int yc), .val (.ref b_3), .val (.ref b_13), .unset, .unset, .unset] [(.int (0 : Int32))]))
    refine OGo.to (fun _ k => XS.istore X_23.here hx rfl (hb hby at_135) rfl (l' := #[.val (.int p1), .val (.int p2), .val (.int p3), .val (.int p4), .val (.int p5), .val (.int p6), .val (.int (0 : Int32)), .val (.int lx), .val (.int ya), .val (.int yb), .val (.int yc), .val (.ref b_3), .val (.ref b_13), .val (.int (0 : Int32)), .unset, .unset]) rfl k) ?_
    show OGo p e below _ (T_23.setTop (mkF m 137 #[.val (.int p1), .val (.int p2), .val (.int p3), .val (.int p4), .val (.int p5), .val (.int p6), .val (.int (0 : Int32)), .val (.int lx), .val (.int ya), .val (.int yb), .val (.int yc), .val (.ref b_3), .val (.ref b_13), .val (.int (0 : Int32)), .unset, .unset] []))
    refine OGo.to (fun _ k => XS.aload X_23.here hx rfl (hb hby at_137) rfl rfl k) ?_
    show OGo p e below _ (T_23.setTop (mkF m 139 #[.val (.int p1), .val (.int p2), .val (.int p3), .val (.int p4), .val (.int p5), .val (.int p6), .val (.int (0 : Int32)), .val (.int lx), .val (.int ya), .val (.int yb), .val (.int yc), .val (.ref b_3), .val (.ref b_13), .val (.int (0 : Int32)), .unset, .unset] [(.ref b_13)]))
    refine OGo.to (fun _ k => XS.aload X_23.here hx rfl (hb hby at_139) rfl rfl k) ?_
    show OGo p e below _ (T_23.setTop (mkF m 141 #[.val (.int p1), .val (.int p2), .val (.int p3), .val (.int p4), .val (.int p5), .val (.int p6), .val (.int (0 : Int32)), .val (.int lx), .val (.int ya), .val (.int yb), .val (.int yc), .val (.ref b_3), .val (.ref b_13), .val (.int (0 : Int32)), .unset, .unset] [(.ref b_3), (.ref b_13)]))
    have f_26 : Exa Z T_18.heap b_3 "java/util/ArrayList" := (f_20.keep K_18)
    have f_27 : Fld Z T_18.heap b_3 "java/util/ArrayList" "size" "I" (.int (0 : Int32)) := ((p_7_1.ext E_13).keep K_18 (fun q => ne_b_3_b_13 (List.mem_singleton.mp q)))
    have f_28 : Arv Z T_18.heap dd kd (.object "java/lang/Object") (0 : Int32) [] .null := VD.ext O_22.2
    obtain ⟨cq_25, kq_25, q_25a, q_25b, q_25c⟩ := isOf hZ e_23 f_24
    obtain ⟨_, T_25, Lc_25, X_25, hQ_25, st_25⟩ := own_un X_23 (Q := Qtk0 Z b_13 b_3 b__18 T_18.heap n0) (rc := 1) (rs := 0) (W := fun v B => Steps p.tables e below (T_23.setTop (mkF m 141 #[.val (.int p1), .val (.int p2), .val (.int p3), .val (.int p4), .val (.int p5), .val (.int p6), .val (.int (0 : Int32)), .val (.int lx), .val (.int ya), .val (.int yb), .val (.int yc), .val (.ref b_3), .val (.ref b_13), .val (.int (0 : Int32)), .unset, .unset] [(.ref b_3), (.ref b_13)])) (B.setTop { (mkF m 141 #[.val (.int p1), .val (.int p2), .val (.int p3), .val (.int p4), .val (.int p5), .val (.int p6), .val (.int (0 : Int32)), .val (.int lx), .val (.int ya), .val (.int yb), .val (.int yc), .val (.ref b_3), .val (.ref b_13), .val (.int (0 : Int32)), .unset, .unset] [(.ref b_3), (.ref b_13)]) with pc := 144, stack := v.toList ++ [] })) <| X_23.virtualBack hx (y := (⟨"com/example/dromos/dromos/service/Definition", "takes", "(Ljava/util/List;)V"⟩ : MethodName)) (z := (⟨"com/example/dromos/dromos/service/Definition", "takes", "(Ljava/util/List;)V"⟩ : MethodName)) hown (mvT hZ (hw _ (List.mem_of_getElem? (i := 103) rfl))) (mvT hZ (hw _ (List.mem_of_getElem? (i := 104) rfl))) (notFace_of_selects (args := #[]) (mvT hZ (hw _ (List.mem_of_getElem? (i := 106) rfl)))) (mvT hZ (hw _ (List.mem_of_getElem? (i := 106) rfl))) (mvT hZ (hw _ (List.mem_of_getElem? (i := 105) rfl))) (by decide) (backOf (W := 0) (rmtk0 l Z a0 hw [] b_13 b_3 b__18 T_18.heap n0 z_21 f_24 f_26 p_18_4 f_27 g_b_13 (Ne.symm ne_b_3_b_13)) hZ (hw _ (List.mem_of_getElem? (i := 107) rfl)) (hw _ (List.mem_of_getElem? (i := 76) rfl)) (by decide) (by decide)) q_25a q_25c (g := (mkF m 141 #[.val (.int p1), .val (.int p2), .val (.int p3), .val (.int p4), .val (.int p5), .val (.int p6), .val (.int (0 : Int32)), .val (.int lx), .val (.int ya), .val (.int yb), .val (.int yc), .val (.ref b_3), .val (.ref b_13), .val (.int (0 : Int32)), .unset, .unset] [(.ref b_3), (.ref b_13)])) rfl (by rw [hml]; rfl) (Steps.refl _) (argsL := [(.ref b_3)]) (rest := []) (lenOf pd_10 rfl) rfl (by show 2 * 0 + _ ≤ _; exact Nat.le_of_eq rfl) (hb hby at_141) (fun _ _ => ⟨rfl, e_23, (by decide : 3 + 1 ≤ _), (by decide : 18 + 0 ≤ _)⟩)
    obtain ⟨b__25, kk__25, rfl, N_25q, K_25, gq_b__25, sq_b__25, p_25_0, p_25_1⟩ := hQ_25
    have N_25 := Fr.app N_23 N_25q
    refine OGo.to (fun _ k => st_25.trans k) ?_
    have ne_dd_b__25 : dd ≠ b__25 := Nat.ne_of_lt (Nat.lt_of_lt_of_le f_28.lt sq_b__25)
    have ne_b_3_b__25 : b_3 ≠ b__25 := Nat.ne_of_lt (Nat.lt_of_lt_of_le f_26.lt sq_b__25)
    have ne_b_13_b__25 : b_13 ≠ b__25 := Nat.ne_of_lt (Nat.lt_of_lt_of_le f_24.lt sq_b__25)
    have ne_b__18_b__25 : b__18 ≠ b__25 := Nat.ne_of_lt (Nat.lt_of_lt_of_le p_18_5.lt sq_b__25)
    have z_29 : n0 ≤ T_25.heap.size := Nat.le_trans z_21 K_25.1
    have O_30 : Old Z n0 T_25.heap := O_22.keep K_25 (allS g_b_13 all0)
    show OGo p e below _ (T_25.setTop (mkF m 144 #[.val (.int p1), .val (.int p2), .val (.int p3), .val (.int p4), .val (.int p5), .val (.int p6), .val (.int (0 : Int32)), .val (.int lx), .val (.int ya), .val (.int yb), .val (.int yc), .val (.ref b_3), .val (.ref b_13), .val (.int (0 : Int32)), .unset, .unset] []))
    refine OGo.to (fun _ k => XS.aload X_25.here hx rfl (hb hby at_144) rfl rfl k) ?_
    show OGo p e below _ (T_25.setTop (mkF m 146 #[.val (.int p1), .val (.int p2), .val (.int p3), .val (.int p4), .val (.int p5), .val (.int p6), .val (.int (0 : Int32)), .val (.int lx), .val (.int ya), .val (.int yb), .val (.int yc), .val (.ref b_3), .val (.ref b_13), .val (.int (0 : Int32)), .unset, .unset] [(.ref b_13)]))
    have f_32 : Exa Z T_25.heap b_13 "com/example/dromos/dromos/service/Definition" := (f_24.keep K_25)
    obtain ⟨cq_31, kq_31, q_31a, q_31b, q_31c⟩ := isOf hZ (rfl : T_25.heap = T_25.heap) f_32
    obtain ⟨_, T_31, Lc_31, X_31, hQ_31, st_31⟩ := own_un X_25 (Q := Qop0 Z b_13 b__25 kk__25 T_25.heap n0) (rc := 0) (rs := 0) (W := fun v B => Steps p.tables e below (T_25.setTop (mkF m 146 #[.val (.int p1), .val (.int p2), .val (.int p3), .val (.int p4), .val (.int p5), .val (.int p6), .val (.int (0 : Int32)), .val (.int lx), .val (.int ya), .val (.int yb), .val (.int yc), .val (.ref b_3), .val (.ref b_13), .val (.int (0 : Int32)), .unset, .unset] [(.ref b_13)])) (B.setTop { (mkF m 146 #[.val (.int p1), .val (.int p2), .val (.int p3), .val (.int p4), .val (.int p5), .val (.int p6), .val (.int (0 : Int32)), .val (.int lx), .val (.int ya), .val (.int yb), .val (.int yc), .val (.ref b_3), .val (.ref b_13), .val (.int (0 : Int32)), .unset, .unset] [(.ref b_13)]) with pc := 149, stack := v.toList ++ [] })) <| X_25.virtualBack hx (y := (⟨"com/example/dromos/dromos/service/Definition", "takesOperators", "()Z"⟩ : MethodName)) (z := (⟨"com/example/dromos/dromos/service/Definition", "takesOperators", "()Z"⟩ : MethodName)) hown (mvT hZ (hw _ (List.mem_of_getElem? (i := 98) rfl))) (mvT hZ (hw _ (List.mem_of_getElem? (i := 99) rfl))) (notFace_of_selects (args := #[]) (mvT hZ (hw _ (List.mem_of_getElem? (i := 101) rfl)))) (mvT hZ (hw _ (List.mem_of_getElem? (i := 101) rfl))) (mvT hZ (hw _ (List.mem_of_getElem? (i := 100) rfl))) (by decide) (backOf (W := 0) (rmop0 l Z a0 hw [] b_13 b__25 kk__25 T_25.heap n0 z_29 p_25_0 p_25_1) hZ (hw _ (List.mem_of_getElem? (i := 102) rfl)) (hw _ (List.mem_of_getElem? (i := 76) rfl)) (by decide) (by decide)) q_31a q_31c (g := (mkF m 146 #[.val (.int p1), .val (.int p2), .val (.int p3), .val (.int p4), .val (.int p5), .val (.int p6), .val (.int (0 : Int32)), .val (.int lx), .val (.int ya), .val (.int yb), .val (.int yc), .val (.ref b_3), .val (.ref b_13), .val (.int (0 : Int32)), .unset, .unset] [(.ref b_13)])) rfl (by rw [hml]; rfl) (Steps.refl _) (argsL := []) (rest := []) (lenOf pd_9 rfl) rfl (by show 2 * 0 + _ ≤ _; exact Nat.le_of_eq rfl) (hb hby at_146) (fun _ _ => ⟨rfl, (rfl : T_25.heap = T_25.heap), (by decide : 4 + 0 ≤ _), (by decide : 18 + 0 ≤ _)⟩)
    obtain ⟨rfl, N_31q, e_31⟩ := hQ_31
    have N_31 := Fr.app N_25 N_31q
    refine OGo.to (fun _ k => st_31.trans k) ?_
    show OGo p e below _ (T_31.setTop (mkF m 149 #[.val (.int p1), .val (.int p2), .val (.int p3), .val (.int p4), .val (.int p5), .val (.int p6), .val (.int (0 : Int32)), .val (.int lx), .val (.int ya), .val (.int yb), .val (.int yc), .val (.ref b_3), .val (.ref b_13), .val (.int (0 : Int32)), .unset, .unset] [(.int (0 : Int32))]))
    refine OGo.to (fun _ k => XS.istore X_31.here hx rfl (hb hby at_149) rfl (l' := #[.val (.int p1), .val (.int p2), .val (.int p3), .val (.int p4), .val (.int p5), .val (.int p6), .val (.int (0 : Int32)), .val (.int lx), .val (.int ya), .val (.int yb), .val (.int yc), .val (.ref b_3), .val (.ref b_13), .val (.int (0 : Int32)), .val (.int (0 : Int32)), .unset]) rfl k) ?_
    show OGo p e below _ (T_31.setTop (mkF m 151 #[.val (.int p1), .val (.int p2), .val (.int p3), .val (.int p4), .val (.int p5), .val (.int p6), .val (.int (0 : Int32)), .val (.int lx), .val (.int ya), .val (.int yb), .val (.int yc), .val (.ref b_3), .val (.ref b_13), .val (.int (0 : Int32)), .val (.int (0 : Int32)), .unset] []))
    refine OGo.to (fun _ k => XS.iconst X_31.here hx rfl (hb hby at_151) k) ?_
    show OGo p e below _ (T_31.setTop (mkF m 152 #[.val (.int p1), .val (.int p2), .val (.int p3), .val (.int p4), .val (.int p5), .val (.int p6), .val (.int (0 : Int32)), .val (.int lx), .val (.int ya), .val (.int yb), .val (.int yc), .val (.ref b_3), .val (.ref b_13), .val (.int (0 : Int32)), .val (.int (0 : Int32)), .unset] [(.int (0 : Int32))]))
    refine OGo.to (fun _ k => XS.istore X_31.here hx rfl (hb hby at_152) rfl (l' := #[.val (.int p1), .val (.int p2), .val (.int p3), .val (.int p4), .val (.int p5), .val (.int p6), .val (.int (0 : Int32)), .val (.int lx), .val (.int ya), .val (.int yb), .val (.int yc), .val (.ref b_3), .val (.ref b_13), .val (.int (0 : Int32)), .val (.int (0 : Int32)), .val (.int (0 : Int32))]) rfl k) ?_
    show OGo p e below _ (T_31.setTop (mkF m 154 #[.val (.int p1), .val (.int p2), .val (.int p3), .val (.int p4), .val (.int p5), .val (.int p6), .val (.int (0 : Int32)), .val (.int lx), .val (.int ya), .val (.int yb), .val (.int yc), .val (.ref b_3), .val (.ref b_13), .val (.int (0 : Int32)), .val (.int (0 : Int32)), .val (.int (0 : Int32))] []))
    refine OGo.to (fun _ k => XS.iload X_31.here hx rfl (hb hby at_154) rfl k) ?_
    show OGo p e below _ (T_31.setTop (mkF m 156 #[.val (.int p1), .val (.int p2), .val (.int p3), .val (.int p4), .val (.int p5), .val (.int p6), .val (.int (0 : Int32)), .val (.int lx), .val (.int ya), .val (.int yb), .val (.int yc), .val (.ref b_3), .val (.ref b_13), .val (.int (0 : Int32)), .val (.int (0 : Int32)), .val (.int (0 : Int32))] [(.int (0 : Int32))]))
    refine OGo.to (fun _ k => XS.iconst X_31.here hx rfl (hb hby at_156) k) ?_
    show OGo p e below _ (T_31.setTop (mkF m 157 #[.val (.int p1), .val (.int p2), .val (.int p3), .val (.int p4), .val (.int p5), .val (.int p6), .val (.int (0 : Int32)), .val (.int lx), .val (.int ya), .val (.int yb), .val (.int yc), .val (.ref b_3), .val (.ref b_13), .val (.int (0 : Int32)), .val (.int (0 : Int32)), .val (.int (0 : Int32))] [(.int (1 : Int32)), (.int (0 : Int32))]))
    have hc157__33 : (0 : Int32) < (1 : Int32) := by decide
    refine OGo.to (fun _ k => XS.icmpYes X_31.here hx rfl (pc0 := 157) (pc' := 168) rfl (hb hby at_157) rfl (tlt hc157__33).1 (by decide) (by decide) k) ?_
    show OGo p e below _ (T_31.setTop (mkF m 168 #[.val (.int p1), .val (.int p2), .val (.int p3), .val (.int p4), .val (.int p5), .val (.int p6), .val (.int (0 : Int32)), .val (.int lx), .val (.int ya), .val (.int yb), .val (.int yc), .val (.ref b_3), .val (.ref b_13), .val (.int (0 : Int32)), .val (.int (0 : Int32)), .val (.int (0 : Int32))] []))
    refine OGo.to (fun _ k => XS.iload X_31.here hx rfl (hb hby at_168) rfl k) ?_
    show OGo p e below _ (T_31.setTop (mkF m 170 #[.val (.int p1), .val (.int p2), .val (.int p3), .val (.int p4), .val (.int p5), .val (.int p6), .val (.int (0 : Int32)), .val (.int lx), .val (.int ya), .val (.int yb), .val (.int yc), .val (.ref b_3), .val (.ref b_13), .val (.int (0 : Int32)), .val (.int (0 : Int32)), .val (.int (0 : Int32))] [(.int (0 : Int32))]))
    refine OGo.to (fun _ k => XS.iconst X_31.here hx rfl (hb hby at_170) k) ?_
    show OGo p e below _ (T_31.setTop (mkF m 171 #[.val (.int p1), .val (.int p2), .val (.int p3), .val (.int p4), .val (.int p5), .val (.int p6), .val (.int (0 : Int32)), .val (.int lx), .val (.int ya), .val (.int yb), .val (.int yc), .val (.ref b_3), .val (.ref b_13), .val (.int (0 : Int32)), .val (.int (0 : Int32)), .val (.int (0 : Int32))] [(.int (2 : Int32)), (.int (0 : Int32))]))
    have hc171__34 : (0 : Int32) < (2 : Int32) := by decide
    refine OGo.to (fun _ k => XS.icmpYes X_31.here hx rfl (pc0 := 171) (pc' := 182) rfl (hb hby at_171) rfl (tlt hc171__34).1 (by decide) (by decide) k) ?_
    show OGo p e below _ (T_31.setTop (mkF m 182 #[.val (.int p1), .val (.int p2), .val (.int p3), .val (.int p4), .val (.int p5), .val (.int p6), .val (.int (0 : Int32)), .val (.int lx), .val (.int ya), .val (.int yb), .val (.int yc), .val (.ref b_3), .val (.ref b_13), .val (.int (0 : Int32)), .val (.int (0 : Int32)), .val (.int (0 : Int32))] []))
    refine OGo.to (fun _ k => XS.iload X_31.here hx rfl (hb hby at_182) rfl k) ?_
    show OGo p e below _ (T_31.setTop (mkF m 184 #[.val (.int p1), .val (.int p2), .val (.int p3), .val (.int p4), .val (.int p5), .val (.int p6), .val (.int (0 : Int32)), .val (.int lx), .val (.int ya), .val (.int yb), .val (.int yc), .val (.ref b_3), .val (.ref b_13), .val (.int (0 : Int32)), .val (.int (0 : Int32)), .val (.int (0 : Int32))] [(.int (0 : Int32))]))
    refine OGo.to (fun _ k => XS.iconst X_31.here hx rfl (hb hby at_184) k) ?_
    show OGo p e below _ (T_31.setTop (mkF m 185 #[.val (.int p1), .val (.int p2), .val (.int p3), .val (.int p4), .val (.int p5), .val (.int p6), .val (.int (0 : Int32)), .val (.int lx), .val (.int ya), .val (.int yb), .val (.int yc), .val (.ref b_3), .val (.ref b_13), .val (.int (0 : Int32)), .val (.int (0 : Int32)), .val (.int (0 : Int32))] [(.int (3 : Int32)), (.int (0 : Int32))]))
    have hc185__35 : (0 : Int32) < (3 : Int32) := by decide
    refine OGo.to (fun _ k => XS.icmpYes X_31.here hx rfl (pc0 := 185) (pc' := 196) rfl (hb hby at_185) rfl (tlt hc185__35).1 (by decide) (by decide) k) ?_
    show OGo p e below _ (T_31.setTop (mkF m 196 #[.val (.int p1), .val (.int p2), .val (.int p3), .val (.int p4), .val (.int p5), .val (.int p6), .val (.int (0 : Int32)), .val (.int lx), .val (.int ya), .val (.int yb), .val (.int yc), .val (.ref b_3), .val (.ref b_13), .val (.int (0 : Int32)), .val (.int (0 : Int32)), .val (.int (0 : Int32))] []))
    refine OGo.to (fun _ k => XS.iload X_31.here hx rfl (hb hby at_196) rfl k) ?_
    show OGo p e below _ (T_31.setTop (mkF m 198 #[.val (.int p1), .val (.int p2), .val (.int p3), .val (.int p4), .val (.int p5), .val (.int p6), .val (.int (0 : Int32)), .val (.int lx), .val (.int ya), .val (.int yb), .val (.int yc), .val (.ref b_3), .val (.ref b_13), .val (.int (0 : Int32)), .val (.int (0 : Int32)), .val (.int (0 : Int32))] [(.int (0 : Int32))]))
    have hc198__36 : (0 : Int32) = (0 : Int32) := by decide
    refine OGo.to (fun _ k => XS.ifNo X_31.here hx rfl (hb hby at_198) rfl ((if0 _ _).trans (teq hc198__36).2) k) ?_
    show OGo p e below _ (T_31.setTop (mkF m 201 #[.val (.int p1), .val (.int p2), .val (.int p3), .val (.int p4), .val (.int p5), .val (.int p6), .val (.int (0 : Int32)), .val (.int lx), .val (.int ya), .val (.int yb), .val (.int yc), .val (.ref b_3), .val (.ref b_13), .val (.int (0 : Int32)), .val (.int (0 : Int32)), .val (.int (0 : Int32))] []))
    refine OGo.to (fun _ k => XS.iload X_31.here hx rfl (hb hby at_201) rfl k) ?_
    show OGo p e below _ (T_31.setTop (mkF m 203 #[.val (.int p1), .val (.int p2), .val (.int p3), .val (.int p4), .val (.int p5), .val (.int p6), .val (.int (0 : Int32)), .val (.int lx), .val (.int ya), .val (.int yb), .val (.int yc), .val (.ref b_3), .val (.ref b_13), .val (.int (0 : Int32)), .val (.int (0 : Int32)), .val (.int (0 : Int32))] [(.int (0 : Int32))]))
    refine OGo.to (fun _ k => XS.iload X_31.here hx rfl (hb hby at_203) rfl k) ?_
    show OGo p e below _ (T_31.setTop (mkF m 205 #[.val (.int p1), .val (.int p2), .val (.int p3), .val (.int p4), .val (.int p5), .val (.int p6), .val (.int (0 : Int32)), .val (.int lx), .val (.int ya), .val (.int yb), .val (.int yc), .val (.ref b_3), .val (.ref b_13), .val (.int (0 : Int32)), .val (.int (0 : Int32)), .val (.int (0 : Int32))] [(.int (0 : Int32)), (.int (0 : Int32))]))
    have hc205__37 : (0 : Int32) = (0 : Int32) := by decide
    refine OGo.to (fun _ k => XS.icmpNo X_31.here hx rfl (hb hby at_205) rfl (teq hc205__37).2 k) ?_
    show OGo p e below _ (T_31.setTop (mkF m 208 #[.val (.int p1), .val (.int p2), .val (.int p3), .val (.int p4), .val (.int p5), .val (.int p6), .val (.int (0 : Int32)), .val (.int lx), .val (.int ya), .val (.int yb), .val (.int yc), .val (.ref b_3), .val (.ref b_13), .val (.int (0 : Int32)), .val (.int (0 : Int32)), .val (.int (0 : Int32))] []))
    refine OGo.to (fun _ k => XS.iconst X_31.here hx rfl (hb hby at_208) k) ?_
    show OGo p e below _ (T_31.setTop (mkF m 209 #[.val (.int p1), .val (.int p2), .val (.int p3), .val (.int p4), .val (.int p5), .val (.int p6), .val (.int (0 : Int32)), .val (.int lx), .val (.int ya), .val (.int yb), .val (.int yc), .val (.ref b_3), .val (.ref b_13), .val (.int (0 : Int32)), .val (.int (0 : Int32)), .val (.int (0 : Int32))] [(.int (1 : Int32))]))
    refine OGo.to (fun _ k => XS.goto X_31.here hx rfl (pc0 := 209) (pc' := 213) rfl (hb hby at_209) (by decide) (by decide) k) ?_
    show OGo p e below _ (T_31.setTop (mkF m 213 #[.val (.int p1), .val (.int p2), .val (.int p3), .val (.int p4), .val (.int p5), .val (.int p6), .val (.int (0 : Int32)), .val (.int lx), .val (.int ya), .val (.int yb), .val (.int yc), .val (.ref b_3), .val (.ref b_13), .val (.int (0 : Int32)), .val (.int (0 : Int32)), .val (.int (0 : Int32))] [(.int (1 : Int32))]))
    refine OGo.ret (Q := Q0 Z p1 p2 p3 p4 p5 p6 dd kd h0 n0) X_31 (some (.int (1 : Int32))) (fun h => by rw [Bd.returns] at h; cases h) Bd.notSynchronized (fun fs hr => retN X_31 hx (t := .boolean) (z := (1 : Int32)) Bd.returns (by simp) (hb hby at_213) hr) ?_ (by decide) (by decide)
    show Q0 Z p1 p2 p3 p4 p5 p6 dd kd h0 n0 _ T_31.heap _
    rw [e_31]
    exact ⟨rfl, N_31⟩
  ·
    show OGo p e below _ (T_7.setTop (mkF m 47 #[.val (.int p1), .val (.int p2), .val (.int p3), .val (.int p4), .val (.int p5), .val (.int p6), .val (.int (1 : Int32)), .val (.int lx), .val (.int ya), .val (.int yb), .val (.int yc), .val (.ref b_3), .unset, .unset, .unset, .unset] []))
    refine OGo.to (fun _ k => XS.iload X_7.here hx rfl (hb hby at_47) rfl k) ?_
    show OGo p e below _ (T_7.setTop (mkF m 49 #[.val (.int p1), .val (.int p2), .val (.int p3), .val (.int p4), .val (.int p5), .val (.int p6), .val (.int (1 : Int32)), .val (.int lx), .val (.int ya), .val (.int yb), .val (.int yc), .val (.ref b_3), .unset, .unset, .unset, .unset] [(.int (1 : Int32))]))
    refine OGo.to (fun _ k => XS.iconst X_7.here hx rfl (hb hby at_49) k) ?_
    show OGo p e below _ (T_7.setTop (mkF m 50 #[.val (.int p1), .val (.int p2), .val (.int p3), .val (.int p4), .val (.int p5), .val (.int p6), .val (.int (1 : Int32)), .val (.int lx), .val (.int ya), .val (.int yb), .val (.int yc), .val (.ref b_3), .unset, .unset, .unset, .unset] [(.int (1 : Int32)), (.int (1 : Int32))]))
    have hc50__38 : ¬ ((1 : Int32) < (1 : Int32)) := by decide
    refine OGo.to (fun _ k => XS.icmpNo X_7.here hx rfl (hb hby at_50) rfl (flt hc50__38).1 k) ?_
    show OGo p e below _ (T_7.setTop (mkF m 53 #[.val (.int p1), .val (.int p2), .val (.int p3), .val (.int p4), .val (.int p5), .val (.int p6), .val (.int (1 : Int32)), .val (.int lx), .val (.int ya), .val (.int yb), .val (.int yc), .val (.ref b_3), .unset, .unset, .unset, .unset] []))
    refine OGo.to (fun _ k => XS.aload X_7.here hx rfl (hb hby at_53) rfl rfl k) ?_
    show OGo p e below _ (T_7.setTop (mkF m 55 #[.val (.int p1), .val (.int p2), .val (.int p3), .val (.int p4), .val (.int p5), .val (.int p6), .val (.int (1 : Int32)), .val (.int lx), .val (.int ya), .val (.int yb), .val (.int yc), .val (.ref b_3), .unset, .unset, .unset, .unset] [(.ref b_3)]))
    have f_40 : Arv Z T_7.heap dd kd (.object "java/lang/Object") (0 : Int32) [] .null := VD.ext O_9.2
    have f_41 : Exa Z T_7.heap b_3 "java/util/ArrayList" := (A_3.keep K_7)
    obtain ⟨T_39, h_39, X_39, e_39, E_39, A_39, D_39, -, st_39⟩ := newO X_7 hx hZ hown (hw _ (List.mem_of_getElem? (i := 27) rfl)) (hw _ (List.mem_of_getElem? (i := 28) rfl)) (hw _ (List.mem_of_getElem? (i := 29) rfl)) (rfl : T_7.heap = T_7.heap) (g := (mkF m 55 #[.val (.int p1), .val (.int p2), .val (.int p3), .val (.int p4), .val (.int p5), .val (.int p6), .val (.int (1 : Int32)), .val (.int lx), .val (.int ya), .val (.int yb), .val (.int yc), .val (.ref b_3), .unset, .unset, .unset, .unset] [(.ref b_3)])) rfl (hb hby at_55) (by decide) (by decide)
    obtain ⟨b_39, g_39⟩ : ∃ z, z = T_7.heap.size := ⟨_, rfl⟩
    rw [← g_39] at A_39 D_39 st_39
    have g_b_39 : n0 ≤ b_39 := Nat.le_trans z_8 (Nat.le_of_eq g_39.symm)
    refine OGo.to st_39 ?_
    have ne_dd_b_39 : dd ≠ b_39 := Nat.ne_of_lt (Nat.lt_of_lt_of_le f_40.lt (Nat.le_of_eq g_39.symm))
    have ne_b_3_b_39 : b_3 ≠ b_39 := Nat.ne_of_lt (Nat.lt_of_lt_of_le f_41.lt (Nat.le_of_eq g_39.symm))
    have z_42 : n0 ≤ h_39.size := Nat.le_trans z_8 E_39.1
    have O_43 : Old Z n0 h_39 := O_9.ext E_39
    have F_name_b_39 : Fld Z h_39 b_39 "com/example/dromos/dromos/model/Module$Signature" "name" "Lcom/example/dromos/dromos/model/Identifier;" .null := D_39 (Or.inr (hw _ (List.mem_of_getElem? (i := 40) rfl))) (ty := (.object "com/example/dromos/dromos/model/Identifier")) (by decide)
    have F_arity_b_39 : Fld Z h_39 b_39 "com/example/dromos/dromos/model/Module$Signature" "arity" "I" (.int (0 : Int32)) := D_39 (Or.inr (hw _ (List.mem_of_getElem? (i := 42) rfl))) (ty := .int) (by decide)
    show OGo p e below _ (T_39.setTop (mkF m 58 #[.val (.int p1), .val (.int p2), .val (.int p3), .val (.int p4), .val (.int p5), .val (.int p6), .val (.int (1 : Int32)), .val (.int lx), .val (.int ya), .val (.int yb), .val (.int yc), .val (.ref b_3), .unset, .unset, .unset, .unset] [(.ref b_39), (.ref b_3)]))
    refine OGo.to (fun _ k => XS.dup X_39.here hx rfl (hb hby at_58) rfl rfl k) ?_
    show OGo p e below _ (T_39.setTop (mkF m 59 #[.val (.int p1), .val (.int p2), .val (.int p3), .val (.int p4), .val (.int p5), .val (.int p6), .val (.int (1 : Int32)), .val (.int lx), .val (.int ya), .val (.int yb), .val (.int yc), .val (.ref b_3), .unset, .unset, .unset, .unset] [(.ref b_39), (.ref b_39), (.ref b_3)]))
    refine OGo.to (fun _ k => XS.aconstNull X_39.here hx rfl (hb hby at_59) k) ?_
    show OGo p e below _ (T_39.setTop (mkF m 60 #[.val (.int p1), .val (.int p2), .val (.int p3), .val (.int p4), .val (.int p5), .val (.int p6), .val (.int (1 : Int32)), .val (.int lx), .val (.int ya), .val (.int yb), .val (.int yc), .val (.ref b_3), .unset, .unset, .unset, .unset] [.null, (.ref b_39), (.ref b_39), (.ref b_3)]))
    refine OGo.to (fun _ k => XS.iload X_39.here hx rfl (hb hby at_60) rfl k) ?_
    show OGo p e below _ (T_39.setTop (mkF m 62 #[.val (.int p1), .val (.int p2), .val (.int p3), .val (.int p4), .val (.int p5), .val (.int p6), .val (.int (1 : Int32)), .val (.int lx), .val (.int ya), .val (.int yb), .val (.int yc), .val (.ref b_3), .unset, .unset, .unset, .unset] [(.int ya), .null, (.ref b_39), (.ref b_39), (.ref b_3)]))
    obtain ⟨_, T_44, Lc_44, X_44, hQ_44, st_44⟩ := own_un X_39 (Q := Q5 Z b_39 ya h_39 n0) (rc := 0) (rs := 0) (W := fun v B => Steps p.tables e below (T_39.setTop (mkF m 62 #[.val (.int p1), .val (.int p2), .val (.int p3), .val (.int p4), .val (.int p5), .val (.int p6), .val (.int (1 : Int32)), .val (.int lx), .val (.int ya), .val (.int yb), .val (.int yc), .val (.ref b_3), .unset, .unset, .unset, .unset] [(.int ya), .null, (.ref b_39), (.ref b_39), (.ref b_3)])) (B.setTop { (mkF m 62 #[.val (.int p1), .val (.int p2), .val (.int p3), .val (.int p4), .val (.int p5), .val (.int p6), .val (.int (1 : Int32)), .val (.int lx), .val (.int ya), .val (.int yb), .val (.int yc), .val (.ref b_3), .unset, .unset, .unset, .unset] [(.int ya), .null, (.ref b_39), (.ref b_39), (.ref b_3)]) with pc := 65, stack := v.toList ++ [(.ref b_39), (.ref b_3)] })) <| X_39.specialBack hx (y := (⟨"com/example/dromos/dromos/model/Module$Signature", "<init>", "(Lcom/example/dromos/dromos/model/Identifier;I)V"⟩ : MethodName)) rfl hown (mvT hZ (hw _ (List.mem_of_getElem? (i := 30) rfl))) (mvT hZ (hw _ (List.mem_of_getElem? (i := 31) rfl))) (mvT hZ (hw _ (List.mem_of_getElem? (i := 32) rfl))) (by decide) (backOf (W := 2) (rm5 l Z a0 hw [] b_39 ya h_39 n0 z_42 A_39 F_name_b_39 F_arity_b_39 g_b_39) hZ (hw _ (List.mem_of_getElem? (i := 32) rfl)) (hw _ (List.mem_of_getElem? (i := 29) rfl)) (by decide) (by decide)) (g := (mkF m 62 #[.val (.int p1), .val (.int p2), .val (.int p3), .val (.int p4), .val (.int p5), .val (.int p6), .val (.int (1 : Int32)), .val (.int lx), .val (.int ya), .val (.int yb), .val (.int yc), .val (.ref b_3), .unset, .unset, .unset, .unset] [(.int ya), .null, (.ref b_39), (.ref b_39), (.ref b_3)])) rfl (by rw [hml]; rfl) (Steps.refl _) (a := b_39) (argsL := [.null, (.int ya)]) (rest := [(.ref b_39), (.ref b_3)]) (lenOf pd_11 rfl) rfl (by show 2 * 0 + _ ≤ _; exact Nat.le_of_eq rfl) (hb hby at_62) (fun _ _ => ⟨rfl, e_39, (by decide : 2 + 0 ≤ _), (by decide : 5 + 0 ≤ _)⟩)
    obtain ⟨rfl, N_44q, K_44, p_44_0⟩ := hQ_44
    have N_44 := Fr.app N_7 N_44q
    refine OGo.to (fun _ k => st_44.trans k) ?_
    have z_45 : n0 ≤ T_44.heap.size := Nat.le_trans z_42 K_44.1
    have O_46 : Old Z n0 T_44.heap := O_43.keep K_44 (allS g_b_39 all0)
    show OGo p e below _ (T_44.setTop (mkF m 65 #[.val (.int p1), .val (.int p2), .val (.int p3), .val (.int p4), .val (.int p5), .val (.int p6), .val (.int (1 : Int32)), .val (.int lx), .val (.int ya), .val (.int yb), .val (.int yc), .val (.ref b_3), .unset, .unset, .unset, .unset] [(.ref b_39), (.ref b_3)]))
    have f_48 : Exa Z T_44.heap b_3 "java/util/ArrayList" := ((f_41.ext E_39).keep K_44)
    have f_49 : Exa Z T_44.heap b_39 "com/example/dromos/dromos/model/Module$Signature" := (A_39.keep K_44)
    have f_50 : Fld Z T_44.heap b_3 "java/util/AbstractList" "modCount" "I" (.int (0 : Int32)) := ((p_7_0.ext E_39).keep K_44 (fun q => ne_b_3_b_39 (List.mem_singleton.mp q)))
    have f_51 : Fld Z T_44.heap b_3 "java/util/ArrayList" "size" "I" (.int (0 : Int32)) := ((p_7_1.ext E_39).keep K_44 (fun q => ne_b_3_b_39 (List.mem_singleton.mp q)))
    have f_52 : Fld Z T_44.heap b_3 "java/util/ArrayList" "elementData" "[Ljava/lang/Object;" (.ref dd) := ((p_7_2.ext E_39).keep K_44 (fun q => ne_b_3_b_39 (List.mem_singleton.mp q)))
    have f_53 : Arv Z T_44.heap dd kd (.object "java/lang/Object") (0 : Int32) [] .null := VD.ext O_46.2
    obtain ⟨cq_47, kq_47, q_47a, q_47b, q_47c⟩ := isOf hZ (rfl : T_44.heap = T_44.heap) f_48
    obtain ⟨_, T_47, Lc_47, X_47, hQ_47, st_47⟩ := own_un X_44 (Q := Qadd0 Z b_3 b_39 dd kd T_44.heap n0) (rc := 1) (rs := 10) (W := fun v B => Steps p.tables e below (T_44.setTop (mkF m 65 #[.val (.int p1), .val (.int p2), .val (.int p3), .val (.int p4), .val (.int p5), .val (.int p6), .val (.int (1 : Int32)), .val (.int lx), .val (.int ya), .val (.int yb), .val (.int yc), .val (.ref b_3), .unset, .unset, .unset, .unset] [(.ref b_39), (.ref b_3)])) (B.setTop { (mkF m 65 #[.val (.int p1), .val (.int p2), .val (.int p3), .val (.int p4), .val (.int p5), .val (.int p6), .val (.int (1 : Int32)), .val (.int lx), .val (.int ya), .val (.int yb), .val (.int yc), .val (.ref b_3), .unset, .unset, .unset, .unset] [(.ref b_39), (.ref b_3)]) with pc := 68, stack := v.toList ++ [] })) <| X_44.virtualBack hx (y := (⟨"java/util/ArrayList", "add", "(Ljava/lang/Object;)Z"⟩ : MethodName)) (z := (⟨"java/util/ArrayList", "add", "(Ljava/lang/Object;)Z"⟩ : MethodName)) hown (mvT hZ (hw _ (List.mem_of_getElem? (i := 43) rfl))) (mvT hZ (hw _ (List.mem_of_getElem? (i := 44) rfl))) (notFace_of_selects (args := #[]) (mvT hZ (hw _ (List.mem_of_getElem? (i := 46) rfl)))) (mvT hZ (hw _ (List.mem_of_getElem? (i := 46) rfl))) (mvT hZ (hw _ (List.mem_of_getElem? (i := 45) rfl))) (by decide) (backOf (W := 0) (rmadd0 l Z a0 hw [] b_3 b_39 dd kd T_44.heap n0 z_45 f_48 f_49 g_b_3 ne_b_3_b_39 f_50 f_51 f_52 S1 VD O_46) hZ (hw _ (List.mem_of_getElem? (i := 47) rfl)) (hw _ (List.mem_of_getElem? (i := 3) rfl)) (by decide) (by decide)) q_47a q_47c (g := (mkF m 65 #[.val (.int p1), .val (.int p2), .val (.int p3), .val (.int p4), .val (.int p5), .val (.int p6), .val (.int (1 : Int32)), .val (.int lx), .val (.int ya), .val (.int yb), .val (.int yc), .val (.ref b_3), .unset, .unset, .unset, .unset] [(.ref b_39), (.ref b_3)])) rfl (by rw [hml]; rfl) (Steps.refl _) (argsL := [(.ref b_39)]) (rest := []) (lenOf pd_12 rfl) rfl (by show 2 * 0 + _ ≤ _; exact Nat.le_of_eq rfl) (hb hby at_65) (fun _ _ => ⟨rfl, (rfl : T_44.heap = T_44.heap), (by decide : 2 + 1 ≤ _), (by decide : 5 + 10 ≤ _)⟩)
    obtain ⟨b__47, kb__47, rfl, N_47q, K_47, gq_b__47, sq_b__47, p_47_0, p_47_1, p_47_2, p_47_3, p_47_4, p_47_5, p_47_6⟩ := hQ_47
    have N_47 := Fr.app N_44 N_47q
    refine OGo.to (fun _ k => st_47.trans k) ?_
    have ne_dd_b__47 : dd ≠ b__47 := Nat.ne_of_lt (Nat.lt_of_lt_of_le f_53.lt sq_b__47)
    have ne_b_3_b__47 : b_3 ≠ b__47 := Nat.ne_of_lt (Nat.lt_of_lt_of_le f_48.lt sq_b__47)
    have ne_b_39_b__47 : b_39 ≠ b__47 := Nat.ne_of_lt (Nat.lt_of_lt_of_le f_49.lt sq_b__47)
    have z_54 : n0 ≤ T_47.heap.size := Nat.le_trans z_45 K_47.1
    have O_55 : Old Z n0 T_47.heap := O_46.keep K_47 (allS g_b_3 all0)
    show OGo p e below _ (T_47.setTop (mkF m 68 #[.val (.int p1), .val (.int p2), .val (.int p3), .val (.int p4), .val (.int p5), .val (.int p6), .val (.int (1 : Int32)), .val (.int lx), .val (.int ya), .val (.int yb), .val (.int yc), .val (.ref b_3), .unset, .unset, .unset, .unset] [(.int (1 : Int32))]))
    refine OGo.to (fun _ k => XS.pop X_47.here hx rfl (hb hby at_68) rfl rfl k) ?_
    show OGo p e below _ (T_47.setTop (mkF m 69 #[.val (.int p1), .val (.int p2), .val (.int p3), .val (.int p4), .val (.int p5), .val (.int p6), .val (.int (1 : Int32)), .val (.int lx), .val (.int ya), .val (.int yb), .val (.int yc), .val (.ref b_3), .unset, .unset, .unset, .unset] []))
    refine OGo.to (fun _ k => XS.iload X_47.here hx rfl (hb hby at_69) rfl k) ?_
    show OGo p e below _ (T_47.setTop (mkF m 71 #[.val (.int p1), .val (.int p2), .val (.int p3), .val (.int p4), .val (.int p5), .val (.int p6), .val (.int (1 : Int32)), .val (.int lx), .val (.int ya), .val (.int yb), .val (.int yc), .val (.ref b_3), .unset, .unset, .unset, .unset] [(.int (1 : Int32))]))
    refine OGo.to (fun _ k => XS.iconst X_47.here hx rfl (hb hby at_71) k) ?_
    show OGo p e below _ (T_47.setTop (mkF m 72 #[.val (.int p1), .val (.int p2), .val (.int p3), .val (.int p4), .val (.int p5), .val (.int p6), .val (.int (1 : Int32)), .val (.int lx), .val (.int ya), .val (.int yb), .val (.int yc), .val (.ref b_3), .unset, .unset, .unset, .unset] [(.int (2 : Int32)), (.int (1 : Int32))]))
    have hc72__56 : (1 : Int32) < (2 : Int32) := by decide
    refine OGo.to (fun _ k => XS.icmpYes X_47.here hx rfl (pc0 := 72) (pc' := 91) rfl (hb hby at_72) rfl (tlt hc72__56).1 (by decide) (by decide) k) ?_
    show OGo p e below _ (T_47.setTop (mkF m 91 #[.val (.int p1), .val (.int p2), .val (.int p3), .val (.int p4), .val (.int p5), .val (.int p6), .val (.int (1 : Int32)), .val (.int lx), .val (.int ya), .val (.int yb), .val (.int yc), .val (.ref b_3), .unset, .unset, .unset, .unset] []))
    refine OGo.to (fun _ k => XS.iload X_47.here hx rfl (hb hby at_91) rfl k) ?_
    show OGo p e below _ (T_47.setTop (mkF m 93 #[.val (.int p1), .val (.int p2), .val (.int p3), .val (.int p4), .val (.int p5), .val (.int p6), .val (.int (1 : Int32)), .val (.int lx), .val (.int ya), .val (.int yb), .val (.int yc), .val (.ref b_3), .unset, .unset, .unset, .unset] [(.int (1 : Int32))]))
    refine OGo.to (fun _ k => XS.iconst X_47.here hx rfl (hb hby at_93) k) ?_
    show OGo p e below _ (T_47.setTop (mkF m 94 #[.val (.int p1), .val (.int p2), .val (.int p3), .val (.int p4), .val (.int p5), .val (.int p6), .val (.int (1 : Int32)), .val (.int lx), .val (.int ya), .val (.int yb), .val (.int yc), .val (.ref b_3), .unset, .unset, .unset, .unset] [(.int (3 : Int32)), (.int (1 : Int32))]))
    have hc94__57 : (1 : Int32) < (3 : Int32) := by decide
    refine OGo.to (fun _ k => XS.icmpYes X_47.here hx rfl (pc0 := 94) (pc' := 113) rfl (hb hby at_94) rfl (tlt hc94__57).1 (by decide) (by decide) k) ?_
    show OGo p e below _ (T_47.setTop (mkF m 113 #[.val (.int p1), .val (.int p2), .val (.int p3), .val (.int p4), .val (.int p5), .val (.int p6), .val (.int (1 : Int32)), .val (.int lx), .val (.int ya), .val (.int yb), .val (.int yc), .val (.ref b_3), .unset, .unset, .unset, .unset] []))
    have f_59 : Arv Z T_47.heap dd kd (.object "java/lang/Object") (0 : Int32) [] .null := VD.ext O_55.2
    have f_60 : Exa Z T_47.heap b_3 "java/util/ArrayList" := (f_48.keep K_47)
    have f_61 : Exa Z T_47.heap b_39 "com/example/dromos/dromos/model/Module$Signature" := (f_49.keep K_47)
    obtain ⟨T_58, h_58, X_58, e_58, E_58, A_58, D_58, -, st_58⟩ := newO X_47 hx hZ hown (hw _ (List.mem_of_getElem? (i := 74) rfl)) (hw _ (List.mem_of_getElem? (i := 75) rfl)) (hw _ (List.mem_of_getElem? (i := 76) rfl)) (rfl : T_47.heap = T_47.heap) (g := (mkF m 113 #[.val (.int p1), .val (.int p2), .val (.int p3), .val (.int p4), .val (.int p5), .val (.int p6), .val (.int (1 : Int32)), .val (.int lx), .val (.int ya), .val (.int yb), .val (.int yc), .val (.ref b_3), .unset, .unset, .unset, .unset] [])) rfl (hb hby at_113) (by decide) (by decide)
    obtain ⟨b_58, g_58⟩ : ∃ z, z = T_47.heap.size := ⟨_, rfl⟩
    rw [← g_58] at A_58 D_58 st_58
    have g_b_58 : n0 ≤ b_58 := Nat.le_trans z_54 (Nat.le_of_eq g_58.symm)
    refine OGo.to st_58 ?_
    have ne_dd_b_58 : dd ≠ b_58 := Nat.ne_of_lt (Nat.lt_of_lt_of_le f_59.lt (Nat.le_of_eq g_58.symm))
    have ne_b_3_b_58 : b_3 ≠ b_58 := Nat.ne_of_lt (Nat.lt_of_lt_of_le f_60.lt (Nat.le_of_eq g_58.symm))
    have ne_b_39_b_58 : b_39 ≠ b_58 := Nat.ne_of_lt (Nat.lt_of_lt_of_le f_61.lt (Nat.le_of_eq g_58.symm))
    have ne_b__47_b_58 : b__47 ≠ b_58 := Nat.ne_of_lt (Nat.lt_of_lt_of_le p_47_3.lt (Nat.le_of_eq g_58.symm))
    have z_62 : n0 ≤ h_58.size := Nat.le_trans z_54 E_58.1
    have O_63 : Old Z n0 h_58 := O_55.ext E_58
    have F_bound_b_58 : Fld Z h_58 b_58 "com/example/dromos/dromos/service/Definition" "bound" "I" (.int (0 : Int32)) := D_58 (Or.inl (hw _ (List.mem_of_getElem? (i := 82) rfl))) (ty := .int) (by decide)
    have F_free_b_58 : Fld Z h_58 b_58 "com/example/dromos/dromos/service/Definition" "free" "I" (.int (0 : Int32)) := D_58 (Or.inl (hw _ (List.mem_of_getElem? (i := 84) rfl))) (ty := .int) (by decide)
    have F_operators_b_58 : Fld Z h_58 b_58 "com/example/dromos/dromos/service/Definition" "operators" "[I" .null := D_58 (Or.inl (hw _ (List.mem_of_getElem? (i := 87) rfl))) (ty := (.array .int)) (by decide)
    have F_name_b_58 : Fld Z h_58 b_58 "com/example/dromos/dromos/service/Definition" "name" "Ljava/lang/String;" .null := D_58 (Or.inr (hw _ (List.mem_of_getElem? (i := 89) rfl))) (ty := (.object "java/lang/String")) (by decide)
    have F_arity_b_58 : Fld Z h_58 b_58 "com/example/dromos/dromos/service/Definition" "arity" "I" (.int (0 : Int32)) := D_58 (Or.inr (hw _ (List.mem_of_getElem? (i := 91) rfl))) (ty := .int) (by decide)
    have F_hidden_b_58 : Fld Z h_58 b_58 "com/example/dromos/dromos/service/Definition" "hidden" "I" (.int (0 : Int32)) := D_58 (Or.inr (hw _ (List.mem_of_getElem? (i := 93) rfl))) (ty := .int) (by decide)
    have F_at_b_58 : Fld Z h_58 b_58 "com/example/dromos/dromos/service/Definition" "at" "Lcom/example/dromos/dromos/model/Location;" .null := D_58 (Or.inr (hw _ (List.mem_of_getElem? (i := 95) rfl))) (ty := (.object "com/example/dromos/dromos/model/Location")) (by decide)
    have F_lexical_b_58 : Fld Z h_58 b_58 "com/example/dromos/dromos/service/Definition" "lexical" "Z" (.int (0 : Int32)) := D_58 (Or.inr (hw _ (List.mem_of_getElem? (i := 97) rfl))) (ty := .boolean) (by decide)
    show OGo p e below _ (T_58.setTop (mkF m 116 #[.val (.int p1), .val (.int p2), .val (.int p3), .val (.int p4), .val (.int p5), .val (.int p6), .val (.int (1 : Int32)), .val (.int lx), .val (.int ya), .val (.int yb), .val (.int yc), .val (.ref b_3), .unset, .unset, .unset, .unset] [(.ref b_58)]))
    refine OGo.to (fun _ k => XS.dup X_58.here hx rfl (hb hby at_116) rfl rfl k) ?_
    show OGo p e below _ (T_58.setTop (mkF m 117 #[.val (.int p1), .val (.int p2), .val (.int p3), .val (.int p4), .val (.int p5), .val (.int p6), .val (.int (1 : Int32)), .val (.int lx), .val (.int ya), .val (.int yb), .val (.int yc), .val (.ref b_3), .unset, .unset, .unset, .unset] [(.ref b_58), (.ref b_58)]))
    refine OGo.to (fun _ k => XS.aconstNull X_58.here hx rfl (hb hby at_117) k) ?_
    show OGo p e below _ (T_58.setTop (mkF m 118 #[.val (.int p1), .val (.int p2), .val (.int p3), .val (.int p4), .val (.int p5), .val (.int p6), .val (.int (1 : Int32)), .val (.int lx), .val (.int ya), .val (.int yb), .val (.int yc), .val (.ref b_3), .unset, .unset, .unset, .unset] [.null, (.ref b_58), (.ref b_58)]))
    refine OGo.to (fun _ k => XS.iload X_58.here hx rfl (hb hby at_118) rfl k) ?_
    show OGo p e below _ (T_58.setTop (mkF m 120 #[.val (.int p1), .val (.int p2), .val (.int p3), .val (.int p4), .val (.int p5), .val (.int p6), .val (.int (1 : Int32)), .val (.int lx), .val (.int ya), .val (.int yb), .val (.int yc), .val (.ref b_3), .unset, .unset, .unset, .unset] [(.int p5), .null, (.ref b_58), (.ref b_58)]))
    refine OGo.to (fun _ k => XS.iload X_58.here hx rfl (hb hby at_120) rfl k) ?_
    show OGo p e below _ (T_58.setTop (mkF m 122 #[.val (.int p1), .val (.int p2), .val (.int p3), .val (.int p4), .val (.int p5), .val (.int p6), .val (.int (1 : Int32)), .val (.int lx), .val (.int ya), .val (.int yb), .val (.int yc), .val (.ref b_3), .unset, .unset, .unset, .unset] [(.int p6), (.int p5), .null, (.ref b_58), (.ref b_58)]))
    refine OGo.to (fun _ k => XS.aconstNull X_58.here hx rfl (hb hby at_122) k) ?_
    show OGo p e below _ (T_58.setTop (mkF m 123 #[.val (.int p1), .val (.int p2), .val (.int p3), .val (.int p4), .val (.int p5), .val (.int p6), .val (.int (1 : Int32)), .val (.int lx), .val (.int ya), .val (.int yb), .val (.int yc), .val (.ref b_3), .unset, .unset, .unset, .unset] [.null, (.int p6), (.int p5), .null, (.ref b_58), (.ref b_58)]))
    refine OGo.to (fun _ k => XS.iload X_58.here hx rfl (hb hby at_123) rfl k) ?_
    show OGo p e below _ (T_58.setTop (mkF m 125 #[.val (.int p1), .val (.int p2), .val (.int p3), .val (.int p4), .val (.int p5), .val (.int p6), .val (.int (1 : Int32)), .val (.int lx), .val (.int ya), .val (.int yb), .val (.int yc), .val (.ref b_3), .unset, .unset, .unset, .unset] [(.int lx), .null, (.int p6), (.int p5), .null, (.ref b_58), (.ref b_58)]))
    have f_65 : Arv Z h_58 dd kd (.object "java/lang/Object") (0 : Int32) [] .null := VD.ext O_63.2
    have f_66 : Exa Z h_58 b_3 "java/util/ArrayList" := (f_60.ext E_58)
    have f_67 : Exa Z h_58 b_39 "com/example/dromos/dromos/model/Module$Signature" := (f_61.ext E_58)
    have f_68 : Arv Z h_58 b__47 kb__47 (.object "java/lang/Object") (10 : Int32) [(.ref b_39), .null, .null, .null, .null, .null, .null, .null, .null, .null] .null := (p_47_3.ext E_58)
    obtain ⟨_, T_64, Lc_64, X_64, hQ_64, st_64⟩ := own_un X_58 (Q := Q12 Z b_58 p5 p6 lx h_58 n0) (rc := 1) (rs := 0) (W := fun v B => Steps p.tables e below (T_58.setTop (mkF m 125 #[.val (.int p1), .val (.int p2), .val (.int p3), .val (.int p4), .val (.int p5), .val (.int p6), .val (.int (1 : Int32)), .val (.int lx), .val (.int ya), .val (.int yb), .val (.int yc), .val (.ref b_3), .unset, .unset, .unset, .unset] [(.int lx), .null, (.int p6), (.int p5), .null, (.ref b_58), (.ref b_58)])) (B.setTop { (mkF m 125 #[.val (.int p1), .val (.int p2), .val (.int p3), .val (.int p4), .val (.int p5), .val (.int p6), .val (.int (1 : Int32)), .val (.int lx), .val (.int ya), .val (.int yb), .val (.int yc), .val (.ref b_3), .unset, .unset, .unset, .unset] [(.int lx), .null, (.int p6), (.int p5), .null, (.ref b_58), (.ref b_58)]) with pc := 128, stack := v.toList ++ [(.ref b_58)] })) <| X_58.specialBack hx (y := (⟨"com/example/dromos/dromos/service/Definition", "<init>", "(Ljava/lang/String;IILcom/example/dromos/dromos/model/Location;Z)V"⟩ : MethodName)) rfl hown (mvT hZ (hw _ (List.mem_of_getElem? (i := 77) rfl))) (mvT hZ (hw _ (List.mem_of_getElem? (i := 78) rfl))) (mvT hZ (hw _ (List.mem_of_getElem? (i := 79) rfl))) (by decide) (backOf (W := 1) (rm12 l Z a0 hw [] b_58 p5 p6 lx h_58 n0 z_62 A_58 F_bound_b_58 F_free_b_58 F_operators_b_58 F_name_b_58 F_arity_b_58 F_hidden_b_58 F_at_b_58 F_lexical_b_58 g_b_58 (b_lx)) hZ (hw _ (List.mem_of_getElem? (i := 79) rfl)) (hw _ (List.mem_of_getElem? (i := 76) rfl)) (by decide) (by decide)) (g := (mkF m 125 #[.val (.int p1), .val (.int p2), .val (.int p3), .val (.int p4), .val (.int p5), .val (.int p6), .val (.int (1 : Int32)), .val (.int lx), .val (.int ya), .val (.int yb), .val (.int yc), .val (.ref b_3), .unset, .unset, .unset, .unset] [(.int lx), .null, (.int p6), (.int p5), .null, (.ref b_58), (.ref b_58)])) rfl (by rw [hml]; rfl) (Steps.refl _) (a := b_58) (argsL := [.null, (.int p5), (.int p6), .null, (.int lx)]) (rest := [(.ref b_58)]) (lenOf pd_8 rfl) rfl (by show 2 * 0 + _ ≤ _; exact Nat.le_of_eq rfl) (hb hby at_125) (fun _ _ => ⟨rfl, e_58, (by decide : 4 + 1 ≤ _), (by decide : 30 + 0 ≤ _)⟩)
    obtain ⟨b__64, kb__64, rfl, N_64q, K_64, gq_b__64, sq_b__64, p_64_0, p_64_1, p_64_2, p_64_3, p_64_4, p_64_5, p_64_6⟩ := hQ_64
    have N_64 := Fr.app N_47 N_64q
    refine OGo.to (fun _ k => st_64.trans k) ?_
    have ne_dd_b__64 : dd ≠ b__64 := Nat.ne_of_lt (Nat.lt_of_lt_of_le f_65.lt sq_b__64)
    have ne_b_3_b__64 : b_3 ≠ b__64 := Nat.ne_of_lt (Nat.lt_of_lt_of_le f_66.lt sq_b__64)
    have ne_b_39_b__64 : b_39 ≠ b__64 := Nat.ne_of_lt (Nat.lt_of_lt_of_le f_67.lt sq_b__64)
    have ne_b__47_b__64 : b__47 ≠ b__64 := Nat.ne_of_lt (Nat.lt_of_lt_of_le f_68.lt sq_b__64)
    have ne_b_58_b__64 : b_58 ≠ b__64 := Nat.ne_of_lt (Nat.lt_of_lt_of_le A_58.lt sq_b__64)
    have z_69 : n0 ≤ T_64.heap.size := Nat.le_trans z_62 K_64.1
    have O_70 : Old Z n0 T_64.heap := O_63.keep K_64 (allS g_b_58 all0)
    show OGo p e below _ (T_64.setTop (mkF m 128 #[.val (.int p1), .val (.int p2), .val (.int p3), .val (.int p4), .val (.int p5), .val (.int p6), .val (.int (1 : Int32)), .val (.int lx), .val (.int ya), .val (.int yb), .val (.int yc), .val (.ref b_3), .unset, .unset, .unset, .unset] [(.ref b_58)]))
    refine OGo.to (fun _ k => XS.astore X_64.here hx rfl (hb hby at_128) rfl rfl (l' := #[.val (.int p1), .val (.int p2), .val (.int p3), .val (.int p4), .val (.int p5), .val (.int p6), .val (.int (1 : Int32)), .val (.int lx), .val (.int ya), .val (.int yb), .val (.int yc), .val (.ref b_3), .val (.ref b_58), .unset, .unset, .unset]) rfl k) ?_
    show OGo p e below _ (T_64.setTop (mkF m 130 #[.val (.int p1), .val (.int p2), .val (.int p3), .val (.int p4), .val (.int p5), .val (.int p6), .val (.int (1 : Int32)), .val (.int lx), .val (.int ya), .val (.int yb), .val (.int yc), .val (.ref b_3), .val (.ref b_58), .unset, .unset, .unset] []))
    refine OGo.to (fun _ k => XS.aload X_64.here hx rfl (hb hby at_130) rfl rfl k) ?_
    show OGo p e below _ (T_64.setTop (mkF m 132 #[.val (.int p1), .val (.int p2), .val (.int p3), .val (.int p4), .val (.int p5), .val (.int p6), .val (.int (1 : Int32)), .val (.int lx), .val (.int ya), .val (.int yb), .val (.int yc), .val (.ref b_3), .val (.ref b_58), .unset, .unset, .unset] [(.ref b_58)]))
    have f_72 : Exa Z T_64.heap b_58 "com/example/dromos/dromos/service/Definition" := (A_58.keep K_64)
    obtain ⟨cq_71, kq_71, q_71a, q_71b, q_71c⟩ := isOf hZ (rfl : T_64.heap = T_64.heap) f_72
    obtain ⟨_, T_71, Lc_71, X_71, hQ_71, st_71⟩ := own_un X_64 (Q := Qop0 Z b_58 b__64 kb__64 T_64.heap n0) (rc := 0) (rs := 0) (W := fun v B => Steps p.tables e below (T_64.setTop (mkF m 132 #[.val (.int p1), .val (.int p2), .val (.int p3), .val (.int p4), .val (.int p5), .val (.int p6), .val (.int (1 : Int32)), .val (.int lx), .val (.int ya), .val (.int yb), .val (.int yc), .val (.ref b_3), .val (.ref b_58), .unset, .unset, .unset] [(.ref b_58)])) (B.setTop { (mkF m 132 #[.val (.int p1), .val (.int p2), .val (.int p3), .val (.int p4), .val (.int p5), .val (.int p6), .val (.int (1 : Int32)), .val (.int lx), .val (.int ya), .val (.int yb), .val (.int yc), .val (.ref b_3), .val (.ref b_58), .unset, .unset, .unset] [(.ref b_58)]) with pc := 135, stack := v.toList ++ [] })) <| X_64.virtualBack hx (y := (⟨"com/example/dromos/dromos/service/Definition", "takesOperators", "()Z"⟩ : MethodName)) (z := (⟨"com/example/dromos/dromos/service/Definition", "takesOperators", "()Z"⟩ : MethodName)) hown (mvT hZ (hw _ (List.mem_of_getElem? (i := 98) rfl))) (mvT hZ (hw _ (List.mem_of_getElem? (i := 99) rfl))) (notFace_of_selects (args := #[]) (mvT hZ (hw _ (List.mem_of_getElem? (i := 101) rfl)))) (mvT hZ (hw _ (List.mem_of_getElem? (i := 101) rfl))) (mvT hZ (hw _ (List.mem_of_getElem? (i := 100) rfl))) (by decide) (backOf (W := 0) (rmop0 l Z a0 hw [] b_58 b__64 kb__64 T_64.heap n0 z_69 p_64_4 p_64_5) hZ (hw _ (List.mem_of_getElem? (i := 102) rfl)) (hw _ (List.mem_of_getElem? (i := 76) rfl)) (by decide) (by decide)) q_71a q_71c (g := (mkF m 132 #[.val (.int p1), .val (.int p2), .val (.int p3), .val (.int p4), .val (.int p5), .val (.int p6), .val (.int (1 : Int32)), .val (.int lx), .val (.int ya), .val (.int yb), .val (.int yc), .val (.ref b_3), .val (.ref b_58), .unset, .unset, .unset] [(.ref b_58)])) rfl (by rw [hml]; rfl) (Steps.refl _) (argsL := []) (rest := []) (lenOf pd_9 rfl) rfl (by show 2 * 0 + _ ≤ _; exact Nat.le_of_eq rfl) (hb hby at_132) (fun _ _ => ⟨rfl, (rfl : T_64.heap = T_64.heap), (by decide : 5 + 0 ≤ _), (by decide : 30 + 0 ≤ _)⟩)
    obtain ⟨rfl, N_71q, e_71⟩ := hQ_71
    have N_71 := Fr.app N_64 N_71q
    refine OGo.to (fun _ k => st_71.trans k) ?_
    show OGo p e below _ (T_71.setTop (mkF m 135 #[.val (.int p1), .val (.int p2), .val (.int p3), .val (.int p4), .val (.int p5), .val (.int p6), .val (.int (1 : Int32)), .val (.int lx), .val (.int ya), .val (.int yb), .val (.int yc), .val (.ref b_3), .val (.ref b_58), .unset, .unset, .unset] [(.int (0 : Int32))]))
    refine OGo.to (fun _ k => XS.istore X_71.here hx rfl (hb hby at_135) rfl (l' := #[.val (.int p1), .val (.int p2), .val (.int p3), .val (.int p4), .val (.int p5), .val (.int p6), .val (.int (1 : Int32)), .val (.int lx), .val (.int ya), .val (.int yb), .val (.int yc), .val (.ref b_3), .val (.ref b_58), .val (.int (0 : Int32)), .unset, .unset]) rfl k) ?_
    show OGo p e below _ (T_71.setTop (mkF m 137 #[.val (.int p1), .val (.int p2), .val (.int p3), .val (.int p4), .val (.int p5), .val (.int p6), .val (.int (1 : Int32)), .val (.int lx), .val (.int ya), .val (.int yb), .val (.int yc), .val (.ref b_3), .val (.ref b_58), .val (.int (0 : Int32)), .unset, .unset] []))
    refine OGo.to (fun _ k => XS.aload X_71.here hx rfl (hb hby at_137) rfl rfl k) ?_
    show OGo p e below _ (T_71.setTop (mkF m 139 #[.val (.int p1), .val (.int p2), .val (.int p3), .val (.int p4), .val (.int p5), .val (.int p6), .val (.int (1 : Int32)), .val (.int lx), .val (.int ya), .val (.int yb), .val (.int yc), .val (.ref b_3), .val (.ref b_58), .val (.int (0 : Int32)), .unset, .unset] [(.ref b_58)]))
    refine OGo.to (fun _ k => XS.aload X_71.here hx rfl (hb hby at_139) rfl rfl k) ?_
    show OGo p e below _ (T_71.setTop (mkF m 141 #[.val (.int p1), .val (.int p2), .val (.int p3), .val (.int p4), .val (.int p5), .val (.int p6), .val (.int (1 : Int32)), .val (.int lx), .val (.int ya), .val (.int yb), .val (.int yc), .val (.ref b_3), .val (.ref b_58), .val (.int (0 : Int32)), .unset, .unset] [(.ref b_3), (.ref b_58)]))
    have f_74 : Exa Z T_64.heap b_3 "java/util/ArrayList" := (f_66.keep K_64)
    have f_75 : Fld Z T_64.heap b_3 "java/util/ArrayList" "size" "I" (.int (1 : Int32)) := ((p_47_1.ext E_58).keep K_64 (fun q => ne_b_3_b_58 (List.mem_singleton.mp q)))
    have f_76 : Fld Z T_64.heap b_3 "java/util/ArrayList" "elementData" "[Ljava/lang/Object;" (.ref b__47) := ((p_47_2.ext E_58).keep K_64 (fun q => ne_b_3_b_58 (List.mem_singleton.mp q)))
    have f_77 : Arv Z T_64.heap b__47 kb__47 (.object "java/lang/Object") (10 : Int32) [(.ref b_39), .null, .null, .null, .null, .null, .null, .null, .null, .null] .null := (f_68.keep K_64 (fun q => ne_b__47_b_58 (List.mem_singleton.mp q)))
    have f_78 : Exa Z T_64.heap b_39 "com/example/dromos/dromos/model/Module$Signature" := (f_67.keep K_64)
    have f_79 : Fld Z T_64.heap b_39 "com/example/dromos/dromos/model/Module$Signature" "arity" "I" (.int ya) := (((p_44_0.keep K_47 (fun q => (Ne.symm ne_b_3_b_39) (List.mem_singleton.mp q))).ext E_58).keep K_64 (fun q => ne_b_39_b_58 (List.mem_singleton.mp q)))
    have f_80 : Arv Z T_64.heap dd kd (.object "java/lang/Object") (0 : Int32) [] .null := VD.ext O_70.2
    obtain ⟨cq_73, kq_73, q_73a, q_73b, q_73c⟩ := isOf hZ e_71 f_72
    obtain ⟨_, T_73, Lc_73, X_73, hQ_73, st_73⟩ := own_un X_71 (Q := Qtk1 Z b_58 b_3 b__64 b__47 kb__47 b_39 ya T_64.heap n0) (rc := 1) (rs := 1) (W := fun v B => Steps p.tables e below (T_71.setTop (mkF m 141 #[.val (.int p1), .val (.int p2), .val (.int p3), .val (.int p4), .val (.int p5), .val (.int p6), .val (.int (1 : Int32)), .val (.int lx), .val (.int ya), .val (.int yb), .val (.int yc), .val (.ref b_3), .val (.ref b_58), .val (.int (0 : Int32)), .unset, .unset] [(.ref b_3), (.ref b_58)])) (B.setTop { (mkF m 141 #[.val (.int p1), .val (.int p2), .val (.int p3), .val (.int p4), .val (.int p5), .val (.int p6), .val (.int (1 : Int32)), .val (.int lx), .val (.int ya), .val (.int yb), .val (.int yc), .val (.ref b_3), .val (.ref b_58), .val (.int (0 : Int32)), .unset, .unset] [(.ref b_3), (.ref b_58)]) with pc := 144, stack := v.toList ++ [] })) <| X_71.virtualBack hx (y := (⟨"com/example/dromos/dromos/service/Definition", "takes", "(Ljava/util/List;)V"⟩ : MethodName)) (z := (⟨"com/example/dromos/dromos/service/Definition", "takes", "(Ljava/util/List;)V"⟩ : MethodName)) hown (mvT hZ (hw _ (List.mem_of_getElem? (i := 103) rfl))) (mvT hZ (hw _ (List.mem_of_getElem? (i := 104) rfl))) (notFace_of_selects (args := #[]) (mvT hZ (hw _ (List.mem_of_getElem? (i := 106) rfl)))) (mvT hZ (hw _ (List.mem_of_getElem? (i := 106) rfl))) (mvT hZ (hw _ (List.mem_of_getElem? (i := 105) rfl))) (by decide) (backOf (W := 0) (rmtk1 l Z a0 hw [] b_58 b_3 b__64 b__47 kb__47 b_39 ya T_64.heap n0 z_69 f_72 f_74 p_64_4 f_75 g_b_58 (Ne.symm ne_b_3_b_58) f_76 f_77 (Ne.symm ne_b__47_b_58) f_78 f_79 (Ne.symm ne_b_39_b_58)) hZ (hw _ (List.mem_of_getElem? (i := 107) rfl)) (hw _ (List.mem_of_getElem? (i := 76) rfl)) (by decide) (by decide)) q_73a q_73c (g := (mkF m 141 #[.val (.int p1), .val (.int p2), .val (.int p3), .val (.int p4), .val (.int p5), .val (.int p6), .val (.int (1 : Int32)), .val (.int lx), .val (.int ya), .val (.int yb), .val (.int yc), .val (.ref b_3), .val (.ref b_58), .val (.int (0 : Int32)), .unset, .unset] [(.ref b_3), (.ref b_58)])) rfl (by rw [hml]; rfl) (Steps.refl _) (argsL := [(.ref b_3)]) (rest := []) (lenOf pd_10 rfl) rfl (by show 2 * 0 + _ ≤ _; exact Nat.le_of_eq rfl) (hb hby at_141) (fun _ _ => ⟨rfl, e_71, (by decide : 5 + 1 ≤ _), (by decide : 30 + 1 ≤ _)⟩)
    obtain ⟨b__73, kk__73, rfl, N_73q, K_73, gq_b__73, sq_b__73, p_73_0, p_73_1⟩ := hQ_73
    have N_73 := Fr.app N_71 N_73q
    refine OGo.to (fun _ k => st_73.trans k) ?_
    have ne_dd_b__73 : dd ≠ b__73 := Nat.ne_of_lt (Nat.lt_of_lt_of_le f_80.lt sq_b__73)
    have ne_b_3_b__73 : b_3 ≠ b__73 := Nat.ne_of_lt (Nat.lt_of_lt_of_le f_74.lt sq_b__73)
    have ne_b_39_b__73 : b_39 ≠ b__73 := Nat.ne_of_lt (Nat.lt_of_lt_of_le f_78.lt sq_b__73)
    have ne_b__47_b__73 : b__47 ≠ b__73 := Nat.ne_of_lt (Nat.lt_of_lt_of_le f_77.lt sq_b__73)
    have ne_b_58_b__73 : b_58 ≠ b__73 := Nat.ne_of_lt (Nat.lt_of_lt_of_le f_72.lt sq_b__73)
    have ne_b__64_b__73 : b__64 ≠ b__73 := Nat.ne_of_lt (Nat.lt_of_lt_of_le p_64_5.lt sq_b__73)
    have z_81 : n0 ≤ T_73.heap.size := Nat.le_trans z_69 K_73.1
    have O_82 : Old Z n0 T_73.heap := O_70.keep K_73 (allS g_b_58 all0)
    show OGo p e below _ (T_73.setTop (mkF m 144 #[.val (.int p1), .val (.int p2), .val (.int p3), .val (.int p4), .val (.int p5), .val (.int p6), .val (.int (1 : Int32)), .val (.int lx), .val (.int ya), .val (.int yb), .val (.int yc), .val (.ref b_3), .val (.ref b_58), .val (.int (0 : Int32)), .unset, .unset] []))
    refine OGo.to (fun _ k => XS.aload X_73.here hx rfl (hb hby at_144) rfl rfl k) ?_
    show OGo p e below _ (T_73.setTop (mkF m 146 #[.val (.int p1), .val (.int p2), .val (.int p3), .val (.int p4), .val (.int p5), .val (.int p6), .val (.int (1 : Int32)), .val (.int lx), .val (.int ya), .val (.int yb), .val (.int yc), .val (.ref b_3), .val (.ref b_58), .val (.int (0 : Int32)), .unset, .unset] [(.ref b_58)]))
    have f_84 : Exa Z T_73.heap b_58 "com/example/dromos/dromos/service/Definition" := (f_72.keep K_73)
    obtain ⟨cq_83, kq_83, q_83a, q_83b, q_83c⟩ := isOf hZ (rfl : T_73.heap = T_73.heap) f_84
    obtain ⟨_, T_83, Lc_83, X_83, hQ_83, st_83⟩ := own_un X_73 (Q := Qop1 Z b_58 b__73 kk__73 ya T_73.heap n0) (rc := 0) (rs := 0) (W := fun v B => Steps p.tables e below (T_73.setTop (mkF m 146 #[.val (.int p1), .val (.int p2), .val (.int p3), .val (.int p4), .val (.int p5), .val (.int p6), .val (.int (1 : Int32)), .val (.int lx), .val (.int ya), .val (.int yb), .val (.int yc), .val (.ref b_3), .val (.ref b_58), .val (.int (0 : Int32)), .unset, .unset] [(.ref b_58)])) (B.setTop { (mkF m 146 #[.val (.int p1), .val (.int p2), .val (.int p3), .val (.int p4), .val (.int p5), .val (.int p6), .val (.int (1 : Int32)), .val (.int lx), .val (.int ya), .val (.int yb), .val (.int yc), .val (.ref b_3), .val (.ref b_58), .val (.int (0 : Int32)), .unset, .unset] [(.ref b_58)]) with pc := 149, stack := v.toList ++ [] })) <| X_73.virtualBack hx (y := (⟨"com/example/dromos/dromos/service/Definition", "takesOperators", "()Z"⟩ : MethodName)) (z := (⟨"com/example/dromos/dromos/service/Definition", "takesOperators", "()Z"⟩ : MethodName)) hown (mvT hZ (hw _ (List.mem_of_getElem? (i := 98) rfl))) (mvT hZ (hw _ (List.mem_of_getElem? (i := 99) rfl))) (notFace_of_selects (args := #[]) (mvT hZ (hw _ (List.mem_of_getElem? (i := 101) rfl)))) (mvT hZ (hw _ (List.mem_of_getElem? (i := 101) rfl))) (mvT hZ (hw _ (List.mem_of_getElem? (i := 100) rfl))) (by decide) (backOf (W := 0) (rmop1 l Z a0 hw [] b_58 b__73 kk__73 ya T_73.heap n0 z_81 p_73_0 p_73_1) hZ (hw _ (List.mem_of_getElem? (i := 102) rfl)) (hw _ (List.mem_of_getElem? (i := 76) rfl)) (by decide) (by decide)) q_83a q_83c (g := (mkF m 146 #[.val (.int p1), .val (.int p2), .val (.int p3), .val (.int p4), .val (.int p5), .val (.int p6), .val (.int (1 : Int32)), .val (.int lx), .val (.int ya), .val (.int yb), .val (.int yc), .val (.ref b_3), .val (.ref b_58), .val (.int (0 : Int32)), .unset, .unset] [(.ref b_58)])) rfl (by rw [hml]; rfl) (Steps.refl _) (argsL := []) (rest := []) (lenOf pd_9 rfl) rfl (by show 2 * 0 + _ ≤ _; exact Nat.le_of_eq rfl) (hb hby at_146) (fun _ _ => ⟨rfl, (rfl : T_73.heap = T_73.heap), (by decide : 6 + 0 ≤ _), (by decide : 31 + 0 ≤ _)⟩)
    obtain ⟨rfl, N_83q, e_83⟩ := hQ_83
    have N_83 := Fr.app N_73 N_83q
    refine OGo.to (fun _ k => st_83.trans k) ?_
    show OGo p e below _ (T_83.setTop (mkF m 149 #[.val (.int p1), .val (.int p2), .val (.int p3), .val (.int p4), .val (.int p5), .val (.int p6), .val (.int (1 : Int32)), .val (.int lx), .val (.int ya), .val (.int yb), .val (.int yc), .val (.ref b_3), .val (.ref b_58), .val (.int (0 : Int32)), .unset, .unset] [(.int (if (0 : Int32) < ya then (1 : Int32) else (0 : Int32)))]))
    refine OGo.to (fun _ k => XS.istore X_83.here hx rfl (hb hby at_149) rfl (l' := #[.val (.int p1), .val (.int p2), .val (.int p3), .val (.int p4), .val (.int p5), .val (.int p6), .val (.int (1 : Int32)), .val (.int lx), .val (.int ya), .val (.int yb), .val (.int yc), .val (.ref b_3), .val (.ref b_58), .val (.int (0 : Int32)), .val (.int (if (0 : Int32) < ya then (1 : Int32) else (0 : Int32))), .unset]) rfl k) ?_
    show OGo p e below _ (T_83.setTop (mkF m 151 #[.val (.int p1), .val (.int p2), .val (.int p3), .val (.int p4), .val (.int p5), .val (.int p6), .val (.int (1 : Int32)), .val (.int lx), .val (.int ya), .val (.int yb), .val (.int yc), .val (.ref b_3), .val (.ref b_58), .val (.int (0 : Int32)), .val (.int (if (0 : Int32) < ya then (1 : Int32) else (0 : Int32))), .unset] []))
    refine OGo.to (fun _ k => XS.iconst X_83.here hx rfl (hb hby at_151) k) ?_
    show OGo p e below _ (T_83.setTop (mkF m 152 #[.val (.int p1), .val (.int p2), .val (.int p3), .val (.int p4), .val (.int p5), .val (.int p6), .val (.int (1 : Int32)), .val (.int lx), .val (.int ya), .val (.int yb), .val (.int yc), .val (.ref b_3), .val (.ref b_58), .val (.int (0 : Int32)), .val (.int (if (0 : Int32) < ya then (1 : Int32) else (0 : Int32))), .unset] [(.int (0 : Int32))]))
    refine OGo.to (fun _ k => XS.istore X_83.here hx rfl (hb hby at_152) rfl (l' := #[.val (.int p1), .val (.int p2), .val (.int p3), .val (.int p4), .val (.int p5), .val (.int p6), .val (.int (1 : Int32)), .val (.int lx), .val (.int ya), .val (.int yb), .val (.int yc), .val (.ref b_3), .val (.ref b_58), .val (.int (0 : Int32)), .val (.int (if (0 : Int32) < ya then (1 : Int32) else (0 : Int32))), .val (.int (0 : Int32))]) rfl k) ?_
    show OGo p e below _ (T_83.setTop (mkF m 154 #[.val (.int p1), .val (.int p2), .val (.int p3), .val (.int p4), .val (.int p5), .val (.int p6), .val (.int (1 : Int32)), .val (.int lx), .val (.int ya), .val (.int yb), .val (.int yc), .val (.ref b_3), .val (.ref b_58), .val (.int (0 : Int32)), .val (.int (if (0 : Int32) < ya then (1 : Int32) else (0 : Int32))), .val (.int (0 : Int32))] []))
    refine OGo.to (fun _ k => XS.iload X_83.here hx rfl (hb hby at_154) rfl k) ?_
    show OGo p e below _ (T_83.setTop (mkF m 156 #[.val (.int p1), .val (.int p2), .val (.int p3), .val (.int p4), .val (.int p5), .val (.int p6), .val (.int (1 : Int32)), .val (.int lx), .val (.int ya), .val (.int yb), .val (.int yc), .val (.ref b_3), .val (.ref b_58), .val (.int (0 : Int32)), .val (.int (if (0 : Int32) < ya then (1 : Int32) else (0 : Int32))), .val (.int (0 : Int32))] [(.int (1 : Int32))]))
    refine OGo.to (fun _ k => XS.iconst X_83.here hx rfl (hb hby at_156) k) ?_
    show OGo p e below _ (T_83.setTop (mkF m 157 #[.val (.int p1), .val (.int p2), .val (.int p3), .val (.int p4), .val (.int p5), .val (.int p6), .val (.int (1 : Int32)), .val (.int lx), .val (.int ya), .val (.int yb), .val (.int yc), .val (.ref b_3), .val (.ref b_58), .val (.int (0 : Int32)), .val (.int (if (0 : Int32) < ya then (1 : Int32) else (0 : Int32))), .val (.int (0 : Int32))] [(.int (1 : Int32)), (.int (1 : Int32))]))
    have hc157__85 : ¬ ((1 : Int32) < (1 : Int32)) := by decide
    refine OGo.to (fun _ k => XS.icmpNo X_83.here hx rfl (hb hby at_157) rfl (flt hc157__85).1 k) ?_
    show OGo p e below _ (T_83.setTop (mkF m 160 #[.val (.int p1), .val (.int p2), .val (.int p3), .val (.int p4), .val (.int p5), .val (.int p6), .val (.int (1 : Int32)), .val (.int lx), .val (.int ya), .val (.int yb), .val (.int yc), .val (.ref b_3), .val (.ref b_58), .val (.int (0 : Int32)), .val (.int (if (0 : Int32) < ya then (1 : Int32) else (0 : Int32))), .val (.int (0 : Int32))] []))
    refine OGo.to (fun _ k => XS.iload X_83.here hx rfl (hb hby at_160) rfl k) ?_
    show OGo p e below _ (T_83.setTop (mkF m 162 #[.val (.int p1), .val (.int p2), .val (.int p3), .val (.int p4), .val (.int p5), .val (.int p6), .val (.int (1 : Int32)), .val (.int lx), .val (.int ya), .val (.int yb), .val (.int yc), .val (.ref b_3), .val (.ref b_58), .val (.int (0 : Int32)), .val (.int (if (0 : Int32) < ya then (1 : Int32) else (0 : Int32))), .val (.int (0 : Int32))] [(.int ya)]))
    by_cases hc162__86 : (0 : Int32) < ya
    ·  -- pc 162: yes
      refine OGo.to (fun _ k => XS.ifNo X_83.here hx rfl (hb hby at_162) rfl ((if0 _ _).trans (tlt hc162__86).2.2.2) k) ?_
      show OGo p e below _ (T_83.setTop (mkF m 165 #[.val (.int p1), .val (.int p2), .val (.int p3), .val (.int p4), .val (.int p5), .val (.int p6), .val (.int (1 : Int32)), .val (.int lx), .val (.int ya), .val (.int yb), .val (.int yc), .val (.ref b_3), .val (.ref b_58), .val (.int (0 : Int32)), .val (.int (if (0 : Int32) < ya then (1 : Int32) else (0 : Int32))), .val (.int (0 : Int32))] []))
      refine OGo.to (fun _ k => XS.iconst X_83.here hx rfl (hb hby at_165) k) ?_
      show OGo p e below _ (T_83.setTop (mkF m 166 #[.val (.int p1), .val (.int p2), .val (.int p3), .val (.int p4), .val (.int p5), .val (.int p6), .val (.int (1 : Int32)), .val (.int lx), .val (.int ya), .val (.int yb), .val (.int yc), .val (.ref b_3), .val (.ref b_58), .val (.int (0 : Int32)), .val (.int (if (0 : Int32) < ya then (1 : Int32) else (0 : Int32))), .val (.int (0 : Int32))] [(.int (1 : Int32))]))
      refine OGo.to (fun _ k => XS.istore X_83.here hx rfl (hb hby at_166) rfl (l' := #[.val (.int p1), .val (.int p2), .val (.int p3), .val (.int p4), .val (.int p5), .val (.int p6), .val (.int (1 : Int32)), .val (.int lx), .val (.int ya), .val (.int yb), .val (.int yc), .val (.ref b_3), .val (.ref b_58), .val (.int (0 : Int32)), .val (.int (if (0 : Int32) < ya then (1 : Int32) else (0 : Int32))), .val (.int (1 : Int32))]) rfl k) ?_
      show OGo p e below _ (T_83.setTop (mkF m 168 #[.val (.int p1), .val (.int p2), .val (.int p3), .val (.int p4), .val (.int p5), .val (.int p6), .val (.int (1 : Int32)), .val (.int lx), .val (.int ya), .val (.int yb), .val (.int yc), .val (.ref b_3), .val (.ref b_58), .val (.int (0 : Int32)), .val (.int (if (0 : Int32) < ya then (1 : Int32) else (0 : Int32))), .val (.int (1 : Int32))] []))
      refine OGo.to (fun _ k => XS.iload X_83.here hx rfl (hb hby at_168) rfl k) ?_
      show OGo p e below _ (T_83.setTop (mkF m 170 #[.val (.int p1), .val (.int p2), .val (.int p3), .val (.int p4), .val (.int p5), .val (.int p6), .val (.int (1 : Int32)), .val (.int lx), .val (.int ya), .val (.int yb), .val (.int yc), .val (.ref b_3), .val (.ref b_58), .val (.int (0 : Int32)), .val (.int (if (0 : Int32) < ya then (1 : Int32) else (0 : Int32))), .val (.int (1 : Int32))] [(.int (1 : Int32))]))
      refine OGo.to (fun _ k => XS.iconst X_83.here hx rfl (hb hby at_170) k) ?_
      show OGo p e below _ (T_83.setTop (mkF m 171 #[.val (.int p1), .val (.int p2), .val (.int p3), .val (.int p4), .val (.int p5), .val (.int p6), .val (.int (1 : Int32)), .val (.int lx), .val (.int ya), .val (.int yb), .val (.int yc), .val (.ref b_3), .val (.ref b_58), .val (.int (0 : Int32)), .val (.int (if (0 : Int32) < ya then (1 : Int32) else (0 : Int32))), .val (.int (1 : Int32))] [(.int (2 : Int32)), (.int (1 : Int32))]))
      have hc171__87 : (1 : Int32) < (2 : Int32) := by decide
      refine OGo.to (fun _ k => XS.icmpYes X_83.here hx rfl (pc0 := 171) (pc' := 182) rfl (hb hby at_171) rfl (tlt hc171__87).1 (by decide) (by decide) k) ?_
      show OGo p e below _ (T_83.setTop (mkF m 182 #[.val (.int p1), .val (.int p2), .val (.int p3), .val (.int p4), .val (.int p5), .val (.int p6), .val (.int (1 : Int32)), .val (.int lx), .val (.int ya), .val (.int yb), .val (.int yc), .val (.ref b_3), .val (.ref b_58), .val (.int (0 : Int32)), .val (.int (if (0 : Int32) < ya then (1 : Int32) else (0 : Int32))), .val (.int (1 : Int32))] []))
      refine OGo.to (fun _ k => XS.iload X_83.here hx rfl (hb hby at_182) rfl k) ?_
      show OGo p e below _ (T_83.setTop (mkF m 184 #[.val (.int p1), .val (.int p2), .val (.int p3), .val (.int p4), .val (.int p5), .val (.int p6), .val (.int (1 : Int32)), .val (.int lx), .val (.int ya), .val (.int yb), .val (.int yc), .val (.ref b_3), .val (.ref b_58), .val (.int (0 : Int32)), .val (.int (if (0 : Int32) < ya then (1 : Int32) else (0 : Int32))), .val (.int (1 : Int32))] [(.int (1 : Int32))]))
      refine OGo.to (fun _ k => XS.iconst X_83.here hx rfl (hb hby at_184) k) ?_
      show OGo p e below _ (T_83.setTop (mkF m 185 #[.val (.int p1), .val (.int p2), .val (.int p3), .val (.int p4), .val (.int p5), .val (.int p6), .val (.int (1 : Int32)), .val (.int lx), .val (.int ya), .val (.int yb), .val (.int yc), .val (.ref b_3), .val (.ref b_58), .val (.int (0 : Int32)), .val (.int (if (0 : Int32) < ya then (1 : Int32) else (0 : Int32))), .val (.int (1 : Int32))] [(.int (3 : Int32)), (.int (1 : Int32))]))
      have hc185__88 : (1 : Int32) < (3 : Int32) := by decide
      refine OGo.to (fun _ k => XS.icmpYes X_83.here hx rfl (pc0 := 185) (pc' := 196) rfl (hb hby at_185) rfl (tlt hc185__88).1 (by decide) (by decide) k) ?_
      show OGo p e below _ (T_83.setTop (mkF m 196 #[.val (.int p1), .val (.int p2), .val (.int p3), .val (.int p4), .val (.int p5), .val (.int p6), .val (.int (1 : Int32)), .val (.int lx), .val (.int ya), .val (.int yb), .val (.int yc), .val (.ref b_3), .val (.ref b_58), .val (.int (0 : Int32)), .val (.int (if (0 : Int32) < ya then (1 : Int32) else (0 : Int32))), .val (.int (1 : Int32))] []))
      refine OGo.to (fun _ k => XS.iload X_83.here hx rfl (hb hby at_196) rfl k) ?_
      show OGo p e below _ (T_83.setTop (mkF m 198 #[.val (.int p1), .val (.int p2), .val (.int p3), .val (.int p4), .val (.int p5), .val (.int p6), .val (.int (1 : Int32)), .val (.int lx), .val (.int ya), .val (.int yb), .val (.int yc), .val (.ref b_3), .val (.ref b_58), .val (.int (0 : Int32)), .val (.int (if (0 : Int32) < ya then (1 : Int32) else (0 : Int32))), .val (.int (1 : Int32))] [(.int (0 : Int32))]))
      have hc198__89 : (0 : Int32) = (0 : Int32) := by decide
      refine OGo.to (fun _ k => XS.ifNo X_83.here hx rfl (hb hby at_198) rfl ((if0 _ _).trans (teq hc198__89).2) k) ?_
      show OGo p e below _ (T_83.setTop (mkF m 201 #[.val (.int p1), .val (.int p2), .val (.int p3), .val (.int p4), .val (.int p5), .val (.int p6), .val (.int (1 : Int32)), .val (.int lx), .val (.int ya), .val (.int yb), .val (.int yc), .val (.ref b_3), .val (.ref b_58), .val (.int (0 : Int32)), .val (.int (if (0 : Int32) < ya then (1 : Int32) else (0 : Int32))), .val (.int (1 : Int32))] []))
      refine OGo.to (fun _ k => XS.iload X_83.here hx rfl (hb hby at_201) rfl k) ?_
      show OGo p e below _ (T_83.setTop (mkF m 203 #[.val (.int p1), .val (.int p2), .val (.int p3), .val (.int p4), .val (.int p5), .val (.int p6), .val (.int (1 : Int32)), .val (.int lx), .val (.int ya), .val (.int yb), .val (.int yc), .val (.ref b_3), .val (.ref b_58), .val (.int (0 : Int32)), .val (.int (if (0 : Int32) < ya then (1 : Int32) else (0 : Int32))), .val (.int (1 : Int32))] [(.int (if (0 : Int32) < ya then (1 : Int32) else (0 : Int32)))]))
      refine OGo.to (fun _ k => XS.iload X_83.here hx rfl (hb hby at_203) rfl k) ?_
      show OGo p e below _ (T_83.setTop (mkF m 205 #[.val (.int p1), .val (.int p2), .val (.int p3), .val (.int p4), .val (.int p5), .val (.int p6), .val (.int (1 : Int32)), .val (.int lx), .val (.int ya), .val (.int yb), .val (.int yc), .val (.ref b_3), .val (.ref b_58), .val (.int (0 : Int32)), .val (.int (if (0 : Int32) < ya then (1 : Int32) else (0 : Int32))), .val (.int (1 : Int32))] [(.int (1 : Int32)), (.int (if (0 : Int32) < ya then (1 : Int32) else (0 : Int32)))]))
      have hc205__90 : (if (0 : Int32) < ya then (1 : Int32) else (0 : Int32)) = (1 : Int32) := by rw [if_pos hc162__86]
      refine OGo.to (fun _ k => XS.icmpNo X_83.here hx rfl (hb hby at_205) rfl (teq hc205__90).2 k) ?_
      show OGo p e below _ (T_83.setTop (mkF m 208 #[.val (.int p1), .val (.int p2), .val (.int p3), .val (.int p4), .val (.int p5), .val (.int p6), .val (.int (1 : Int32)), .val (.int lx), .val (.int ya), .val (.int yb), .val (.int yc), .val (.ref b_3), .val (.ref b_58), .val (.int (0 : Int32)), .val (.int (if (0 : Int32) < ya then (1 : Int32) else (0 : Int32))), .val (.int (1 : Int32))] []))
      refine OGo.to (fun _ k => XS.iconst X_83.here hx rfl (hb hby at_208) k) ?_
      show OGo p e below _ (T_83.setTop (mkF m 209 #[.val (.int p1), .val (.int p2), .val (.int p3), .val (.int p4), .val (.int p5), .val (.int p6), .val (.int (1 : Int32)), .val (.int lx), .val (.int ya), .val (.int yb), .val (.int yc), .val (.ref b_3), .val (.ref b_58), .val (.int (0 : Int32)), .val (.int (if (0 : Int32) < ya then (1 : Int32) else (0 : Int32))), .val (.int (1 : Int32))] [(.int (1 : Int32))]))
      refine OGo.to (fun _ k => XS.goto X_83.here hx rfl (pc0 := 209) (pc' := 213) rfl (hb hby at_209) (by decide) (by decide) k) ?_
      show OGo p e below _ (T_83.setTop (mkF m 213 #[.val (.int p1), .val (.int p2), .val (.int p3), .val (.int p4), .val (.int p5), .val (.int p6), .val (.int (1 : Int32)), .val (.int lx), .val (.int ya), .val (.int yb), .val (.int yc), .val (.ref b_3), .val (.ref b_58), .val (.int (0 : Int32)), .val (.int (if (0 : Int32) < ya then (1 : Int32) else (0 : Int32))), .val (.int (1 : Int32))] [(.int (1 : Int32))]))
      refine OGo.ret (Q := Q0 Z p1 p2 p3 p4 p5 p6 dd kd h0 n0) X_83 (some (.int (1 : Int32))) (fun h => by rw [Bd.returns] at h; cases h) Bd.notSynchronized (fun fs hr => retN X_83 hx (t := .boolean) (z := (1 : Int32)) Bd.returns (by simp) (hb hby at_213) hr) ?_ (by decide) (by decide)
      show Q0 Z p1 p2 p3 p4 p5 p6 dd kd h0 n0 _ T_83.heap _
      rw [e_83]
      exact ⟨rfl, N_83⟩
    ·  -- pc 162: no
      refine OGo.to (fun _ k => XS.ifYes X_83.here hx rfl (pc0 := 162) (pc' := 168) rfl (hb hby at_162) rfl ((if0 _ _).trans (flt hc162__86).2.2.2) (by decide) (by decide) k) ?_
      show OGo p e below _ (T_83.setTop (mkF m 168 #[.val (.int p1), .val (.int p2), .val (.int p3), .val (.int p4), .val (.int p5), .val (.int p6), .val (.int (1 : Int32)), .val (.int lx), .val (.int ya), .val (.int yb), .val (.int yc), .val (.ref b_3), .val (.ref b_58), .val (.int (0 : Int32)), .val (.int (if (0 : Int32) < ya then (1 : Int32) else (0 : Int32))), .val (.int (0 : Int32))] []))
      refine OGo.to (fun _ k => XS.iload X_83.here hx rfl (hb hby at_168) rfl k) ?_
      show OGo p e below _ (T_83.setTop (mkF m 170 #[.val (.int p1), .val (.int p2), .val (.int p3), .val (.int p4), .val (.int p5), .val (.int p6), .val (.int (1 : Int32)), .val (.int lx), .val (.int ya), .val (.int yb), .val (.int yc), .val (.ref b_3), .val (.ref b_58), .val (.int (0 : Int32)), .val (.int (if (0 : Int32) < ya then (1 : Int32) else (0 : Int32))), .val (.int (0 : Int32))] [(.int (1 : Int32))]))
      refine OGo.to (fun _ k => XS.iconst X_83.here hx rfl (hb hby at_170) k) ?_
      show OGo p e below _ (T_83.setTop (mkF m 171 #[.val (.int p1), .val (.int p2), .val (.int p3), .val (.int p4), .val (.int p5), .val (.int p6), .val (.int (1 : Int32)), .val (.int lx), .val (.int ya), .val (.int yb), .val (.int yc), .val (.ref b_3), .val (.ref b_58), .val (.int (0 : Int32)), .val (.int (if (0 : Int32) < ya then (1 : Int32) else (0 : Int32))), .val (.int (0 : Int32))] [(.int (2 : Int32)), (.int (1 : Int32))]))
      have hc171__91 : (1 : Int32) < (2 : Int32) := by decide
      refine OGo.to (fun _ k => XS.icmpYes X_83.here hx rfl (pc0 := 171) (pc' := 182) rfl (hb hby at_171) rfl (tlt hc171__91).1 (by decide) (by decide) k) ?_
      show OGo p e below _ (T_83.setTop (mkF m 182 #[.val (.int p1), .val (.int p2), .val (.int p3), .val (.int p4), .val (.int p5), .val (.int p6), .val (.int (1 : Int32)), .val (.int lx), .val (.int ya), .val (.int yb), .val (.int yc), .val (.ref b_3), .val (.ref b_58), .val (.int (0 : Int32)), .val (.int (if (0 : Int32) < ya then (1 : Int32) else (0 : Int32))), .val (.int (0 : Int32))] []))
      refine OGo.to (fun _ k => XS.iload X_83.here hx rfl (hb hby at_182) rfl k) ?_
      show OGo p e below _ (T_83.setTop (mkF m 184 #[.val (.int p1), .val (.int p2), .val (.int p3), .val (.int p4), .val (.int p5), .val (.int p6), .val (.int (1 : Int32)), .val (.int lx), .val (.int ya), .val (.int yb), .val (.int yc), .val (.ref b_3), .val (.ref b_58), .val (.int (0 : Int32)), .val (.int (if (0 : Int32) < ya then (1 : Int32) else (0 : Int32))), .val (.int (0 : Int32))] [(.int (1 : Int32))]))
      refine OGo.to (fun _ k => XS.iconst X_83.here hx rfl (hb hby at_184) k) ?_
      show OGo p e below _ (T_83.setTop (mkF m 185 #[.val (.int p1), .val (.int p2), .val (.int p3), .val (.int p4), .val (.int p5), .val (.int p6), .val (.int (1 : Int32)), .val (.int lx), .val (.int ya), .val (.int yb), .val (.int yc), .val (.ref b_3), .val (.ref b_58), .val (.int (0 : Int32)), .val (.int (if (0 : Int32) < ya then (1 : Int32) else (0 : Int32))), .val (.int (0 : Int32))] [(.int (3 : Int32)), (.int (1 : Int32))]))
      have hc185__92 : (1 : Int32) < (3 : Int32) := by decide
      refine OGo.to (fun _ k => XS.icmpYes X_83.here hx rfl (pc0 := 185) (pc' := 196) rfl (hb hby at_185) rfl (tlt hc185__92).1 (by decide) (by decide) k) ?_
      show OGo p e below _ (T_83.setTop (mkF m 196 #[.val (.int p1), .val (.int p2), .val (.int p3), .val (.int p4), .val (.int p5), .val (.int p6), .val (.int (1 : Int32)), .val (.int lx), .val (.int ya), .val (.int yb), .val (.int yc), .val (.ref b_3), .val (.ref b_58), .val (.int (0 : Int32)), .val (.int (if (0 : Int32) < ya then (1 : Int32) else (0 : Int32))), .val (.int (0 : Int32))] []))
      refine OGo.to (fun _ k => XS.iload X_83.here hx rfl (hb hby at_196) rfl k) ?_
      show OGo p e below _ (T_83.setTop (mkF m 198 #[.val (.int p1), .val (.int p2), .val (.int p3), .val (.int p4), .val (.int p5), .val (.int p6), .val (.int (1 : Int32)), .val (.int lx), .val (.int ya), .val (.int yb), .val (.int yc), .val (.ref b_3), .val (.ref b_58), .val (.int (0 : Int32)), .val (.int (if (0 : Int32) < ya then (1 : Int32) else (0 : Int32))), .val (.int (0 : Int32))] [(.int (0 : Int32))]))
      have hc198__93 : (0 : Int32) = (0 : Int32) := by decide
      refine OGo.to (fun _ k => XS.ifNo X_83.here hx rfl (hb hby at_198) rfl ((if0 _ _).trans (teq hc198__93).2) k) ?_
      show OGo p e below _ (T_83.setTop (mkF m 201 #[.val (.int p1), .val (.int p2), .val (.int p3), .val (.int p4), .val (.int p5), .val (.int p6), .val (.int (1 : Int32)), .val (.int lx), .val (.int ya), .val (.int yb), .val (.int yc), .val (.ref b_3), .val (.ref b_58), .val (.int (0 : Int32)), .val (.int (if (0 : Int32) < ya then (1 : Int32) else (0 : Int32))), .val (.int (0 : Int32))] []))
      refine OGo.to (fun _ k => XS.iload X_83.here hx rfl (hb hby at_201) rfl k) ?_
      show OGo p e below _ (T_83.setTop (mkF m 203 #[.val (.int p1), .val (.int p2), .val (.int p3), .val (.int p4), .val (.int p5), .val (.int p6), .val (.int (1 : Int32)), .val (.int lx), .val (.int ya), .val (.int yb), .val (.int yc), .val (.ref b_3), .val (.ref b_58), .val (.int (0 : Int32)), .val (.int (if (0 : Int32) < ya then (1 : Int32) else (0 : Int32))), .val (.int (0 : Int32))] [(.int (if (0 : Int32) < ya then (1 : Int32) else (0 : Int32)))]))
      refine OGo.to (fun _ k => XS.iload X_83.here hx rfl (hb hby at_203) rfl k) ?_
      show OGo p e below _ (T_83.setTop (mkF m 205 #[.val (.int p1), .val (.int p2), .val (.int p3), .val (.int p4), .val (.int p5), .val (.int p6), .val (.int (1 : Int32)), .val (.int lx), .val (.int ya), .val (.int yb), .val (.int yc), .val (.ref b_3), .val (.ref b_58), .val (.int (0 : Int32)), .val (.int (if (0 : Int32) < ya then (1 : Int32) else (0 : Int32))), .val (.int (0 : Int32))] [(.int (0 : Int32)), (.int (if (0 : Int32) < ya then (1 : Int32) else (0 : Int32)))]))
      have hc205__94 : (if (0 : Int32) < ya then (1 : Int32) else (0 : Int32)) = (0 : Int32) := by rw [if_neg hc162__86]
      refine OGo.to (fun _ k => XS.icmpNo X_83.here hx rfl (hb hby at_205) rfl (teq hc205__94).2 k) ?_
      show OGo p e below _ (T_83.setTop (mkF m 208 #[.val (.int p1), .val (.int p2), .val (.int p3), .val (.int p4), .val (.int p5), .val (.int p6), .val (.int (1 : Int32)), .val (.int lx), .val (.int ya), .val (.int yb), .val (.int yc), .val (.ref b_3), .val (.ref b_58), .val (.int (0 : Int32)), .val (.int (if (0 : Int32) < ya then (1 : Int32) else (0 : Int32))), .val (.int (0 : Int32))] []))
      refine OGo.to (fun _ k => XS.iconst X_83.here hx rfl (hb hby at_208) k) ?_
      show OGo p e below _ (T_83.setTop (mkF m 209 #[.val (.int p1), .val (.int p2), .val (.int p3), .val (.int p4), .val (.int p5), .val (.int p6), .val (.int (1 : Int32)), .val (.int lx), .val (.int ya), .val (.int yb), .val (.int yc), .val (.ref b_3), .val (.ref b_58), .val (.int (0 : Int32)), .val (.int (if (0 : Int32) < ya then (1 : Int32) else (0 : Int32))), .val (.int (0 : Int32))] [(.int (1 : Int32))]))
      refine OGo.to (fun _ k => XS.goto X_83.here hx rfl (pc0 := 209) (pc' := 213) rfl (hb hby at_209) (by decide) (by decide) k) ?_
      show OGo p e below _ (T_83.setTop (mkF m 213 #[.val (.int p1), .val (.int p2), .val (.int p3), .val (.int p4), .val (.int p5), .val (.int p6), .val (.int (1 : Int32)), .val (.int lx), .val (.int ya), .val (.int yb), .val (.int yc), .val (.ref b_3), .val (.ref b_58), .val (.int (0 : Int32)), .val (.int (if (0 : Int32) < ya then (1 : Int32) else (0 : Int32))), .val (.int (0 : Int32))] [(.int (1 : Int32))]))
      refine OGo.ret (Q := Q0 Z p1 p2 p3 p4 p5 p6 dd kd h0 n0) X_83 (some (.int (1 : Int32))) (fun h => by rw [Bd.returns] at h; cases h) Bd.notSynchronized (fun fs hr => retN X_83 hx (t := .boolean) (z := (1 : Int32)) Bd.returns (by simp) (hb hby at_213) hr) ?_ (by decide) (by decide)
      show Q0 Z p1 p2 p3 p4 p5 p6 dd kd h0 n0 _ T_83.heap _
      rw [e_83]
      exact ⟨rfl, N_83⟩
  ·
    show OGo p e below _ (T_7.setTop (mkF m 47 #[.val (.int p1), .val (.int p2), .val (.int p3), .val (.int p4), .val (.int p5), .val (.int p6), .val (.int (2 : Int32)), .val (.int lx), .val (.int ya), .val (.int yb), .val (.int yc), .val (.ref b_3), .unset, .unset, .unset, .unset] []))
    refine OGo.to (fun _ k => XS.iload X_7.here hx rfl (hb hby at_47) rfl k) ?_
    show OGo p e below _ (T_7.setTop (mkF m 49 #[.val (.int p1), .val (.int p2), .val (.int p3), .val (.int p4), .val (.int p5), .val (.int p6), .val (.int (2 : Int32)), .val (.int lx), .val (.int ya), .val (.int yb), .val (.int yc), .val (.ref b_3), .unset, .unset, .unset, .unset] [(.int (2 : Int32))]))
    refine OGo.to (fun _ k => XS.iconst X_7.here hx rfl (hb hby at_49) k) ?_
    show OGo p e below _ (T_7.setTop (mkF m 50 #[.val (.int p1), .val (.int p2), .val (.int p3), .val (.int p4), .val (.int p5), .val (.int p6), .val (.int (2 : Int32)), .val (.int lx), .val (.int ya), .val (.int yb), .val (.int yc), .val (.ref b_3), .unset, .unset, .unset, .unset] [(.int (1 : Int32)), (.int (2 : Int32))]))
    have hc50__95 : ¬ ((2 : Int32) < (1 : Int32)) := by decide
    refine OGo.to (fun _ k => XS.icmpNo X_7.here hx rfl (hb hby at_50) rfl (flt hc50__95).1 k) ?_
    show OGo p e below _ (T_7.setTop (mkF m 53 #[.val (.int p1), .val (.int p2), .val (.int p3), .val (.int p4), .val (.int p5), .val (.int p6), .val (.int (2 : Int32)), .val (.int lx), .val (.int ya), .val (.int yb), .val (.int yc), .val (.ref b_3), .unset, .unset, .unset, .unset] []))
    refine OGo.to (fun _ k => XS.aload X_7.here hx rfl (hb hby at_53) rfl rfl k) ?_
    show OGo p e below _ (T_7.setTop (mkF m 55 #[.val (.int p1), .val (.int p2), .val (.int p3), .val (.int p4), .val (.int p5), .val (.int p6), .val (.int (2 : Int32)), .val (.int lx), .val (.int ya), .val (.int yb), .val (.int yc), .val (.ref b_3), .unset, .unset, .unset, .unset] [(.ref b_3)]))
    have f_97 : Arv Z T_7.heap dd kd (.object "java/lang/Object") (0 : Int32) [] .null := VD.ext O_9.2
    have f_98 : Exa Z T_7.heap b_3 "java/util/ArrayList" := (A_3.keep K_7)
    obtain ⟨T_96, h_96, X_96, e_96, E_96, A_96, D_96, -, st_96⟩ := newO X_7 hx hZ hown (hw _ (List.mem_of_getElem? (i := 27) rfl)) (hw _ (List.mem_of_getElem? (i := 28) rfl)) (hw _ (List.mem_of_getElem? (i := 29) rfl)) (rfl : T_7.heap = T_7.heap) (g := (mkF m 55 #[.val (.int p1), .val (.int p2), .val (.int p3), .val (.int p4), .val (.int p5), .val (.int p6), .val (.int (2 : Int32)), .val (.int lx), .val (.int ya), .val (.int yb), .val (.int yc), .val (.ref b_3), .unset, .unset, .unset, .unset] [(.ref b_3)])) rfl (hb hby at_55) (by decide) (by decide)
    obtain ⟨b_96, g_96⟩ : ∃ z, z = T_7.heap.size := ⟨_, rfl⟩
    rw [← g_96] at A_96 D_96 st_96
    have g_b_96 : n0 ≤ b_96 := Nat.le_trans z_8 (Nat.le_of_eq g_96.symm)
    refine OGo.to st_96 ?_
    have ne_dd_b_96 : dd ≠ b_96 := Nat.ne_of_lt (Nat.lt_of_lt_of_le f_97.lt (Nat.le_of_eq g_96.symm))
    have ne_b_3_b_96 : b_3 ≠ b_96 := Nat.ne_of_lt (Nat.lt_of_lt_of_le f_98.lt (Nat.le_of_eq g_96.symm))
    have z_99 : n0 ≤ h_96.size := Nat.le_trans z_8 E_96.1
    have O_100 : Old Z n0 h_96 := O_9.ext E_96
    have F_name_b_96 : Fld Z h_96 b_96 "com/example/dromos/dromos/model/Module$Signature" "name" "Lcom/example/dromos/dromos/model/Identifier;" .null := D_96 (Or.inr (hw _ (List.mem_of_getElem? (i := 40) rfl))) (ty := (.object "com/example/dromos/dromos/model/Identifier")) (by decide)
    have F_arity_b_96 : Fld Z h_96 b_96 "com/example/dromos/dromos/model/Module$Signature" "arity" "I" (.int (0 : Int32)) := D_96 (Or.inr (hw _ (List.mem_of_getElem? (i := 42) rfl))) (ty := .int) (by decide)
    show OGo p e below _ (T_96.setTop (mkF m 58 #[.val (.int p1), .val (.int p2), .val (.int p3), .val (.int p4), .val (.int p5), .val (.int p6), .val (.int (2 : Int32)), .val (.int lx), .val (.int ya), .val (.int yb), .val (.int yc), .val (.ref b_3), .unset, .unset, .unset, .unset] [(.ref b_96), (.ref b_3)]))
    refine OGo.to (fun _ k => XS.dup X_96.here hx rfl (hb hby at_58) rfl rfl k) ?_
    show OGo p e below _ (T_96.setTop (mkF m 59 #[.val (.int p1), .val (.int p2), .val (.int p3), .val (.int p4), .val (.int p5), .val (.int p6), .val (.int (2 : Int32)), .val (.int lx), .val (.int ya), .val (.int yb), .val (.int yc), .val (.ref b_3), .unset, .unset, .unset, .unset] [(.ref b_96), (.ref b_96), (.ref b_3)]))
    refine OGo.to (fun _ k => XS.aconstNull X_96.here hx rfl (hb hby at_59) k) ?_
    show OGo p e below _ (T_96.setTop (mkF m 60 #[.val (.int p1), .val (.int p2), .val (.int p3), .val (.int p4), .val (.int p5), .val (.int p6), .val (.int (2 : Int32)), .val (.int lx), .val (.int ya), .val (.int yb), .val (.int yc), .val (.ref b_3), .unset, .unset, .unset, .unset] [.null, (.ref b_96), (.ref b_96), (.ref b_3)]))
    refine OGo.to (fun _ k => XS.iload X_96.here hx rfl (hb hby at_60) rfl k) ?_
    show OGo p e below _ (T_96.setTop (mkF m 62 #[.val (.int p1), .val (.int p2), .val (.int p3), .val (.int p4), .val (.int p5), .val (.int p6), .val (.int (2 : Int32)), .val (.int lx), .val (.int ya), .val (.int yb), .val (.int yc), .val (.ref b_3), .unset, .unset, .unset, .unset] [(.int ya), .null, (.ref b_96), (.ref b_96), (.ref b_3)]))
    obtain ⟨_, T_101, Lc_101, X_101, hQ_101, st_101⟩ := own_un X_96 (Q := Q5 Z b_96 ya h_96 n0) (rc := 0) (rs := 0) (W := fun v B => Steps p.tables e below (T_96.setTop (mkF m 62 #[.val (.int p1), .val (.int p2), .val (.int p3), .val (.int p4), .val (.int p5), .val (.int p6), .val (.int (2 : Int32)), .val (.int lx), .val (.int ya), .val (.int yb), .val (.int yc), .val (.ref b_3), .unset, .unset, .unset, .unset] [(.int ya), .null, (.ref b_96), (.ref b_96), (.ref b_3)])) (B.setTop { (mkF m 62 #[.val (.int p1), .val (.int p2), .val (.int p3), .val (.int p4), .val (.int p5), .val (.int p6), .val (.int (2 : Int32)), .val (.int lx), .val (.int ya), .val (.int yb), .val (.int yc), .val (.ref b_3), .unset, .unset, .unset, .unset] [(.int ya), .null, (.ref b_96), (.ref b_96), (.ref b_3)]) with pc := 65, stack := v.toList ++ [(.ref b_96), (.ref b_3)] })) <| X_96.specialBack hx (y := (⟨"com/example/dromos/dromos/model/Module$Signature", "<init>", "(Lcom/example/dromos/dromos/model/Identifier;I)V"⟩ : MethodName)) rfl hown (mvT hZ (hw _ (List.mem_of_getElem? (i := 30) rfl))) (mvT hZ (hw _ (List.mem_of_getElem? (i := 31) rfl))) (mvT hZ (hw _ (List.mem_of_getElem? (i := 32) rfl))) (by decide) (backOf (W := 2) (rm5 l Z a0 hw [] b_96 ya h_96 n0 z_99 A_96 F_name_b_96 F_arity_b_96 g_b_96) hZ (hw _ (List.mem_of_getElem? (i := 32) rfl)) (hw _ (List.mem_of_getElem? (i := 29) rfl)) (by decide) (by decide)) (g := (mkF m 62 #[.val (.int p1), .val (.int p2), .val (.int p3), .val (.int p4), .val (.int p5), .val (.int p6), .val (.int (2 : Int32)), .val (.int lx), .val (.int ya), .val (.int yb), .val (.int yc), .val (.ref b_3), .unset, .unset, .unset, .unset] [(.int ya), .null, (.ref b_96), (.ref b_96), (.ref b_3)])) rfl (by rw [hml]; rfl) (Steps.refl _) (a := b_96) (argsL := [.null, (.int ya)]) (rest := [(.ref b_96), (.ref b_3)]) (lenOf pd_11 rfl) rfl (by show 2 * 0 + _ ≤ _; exact Nat.le_of_eq rfl) (hb hby at_62) (fun _ _ => ⟨rfl, e_96, (by decide : 2 + 0 ≤ _), (by decide : 5 + 0 ≤ _)⟩)
    obtain ⟨rfl, N_101q, K_101, p_101_0⟩ := hQ_101
    have N_101 := Fr.app N_7 N_101q
    refine OGo.to (fun _ k => st_101.trans k) ?_
    have z_102 : n0 ≤ T_101.heap.size := Nat.le_trans z_99 K_101.1
    have O_103 : Old Z n0 T_101.heap := O_100.keep K_101 (allS g_b_96 all0)
    show OGo p e below _ (T_101.setTop (mkF m 65 #[.val (.int p1), .val (.int p2), .val (.int p3), .val (.int p4), .val (.int p5), .val (.int p6), .val (.int (2 : Int32)), .val (.int lx), .val (.int ya), .val (.int yb), .val (.int yc), .val (.ref b_3), .unset, .unset, .unset, .unset] [(.ref b_96), (.ref b_3)]))
    have f_105 : Exa Z T_101.heap b_3 "java/util/ArrayList" := ((f_98.ext E_96).keep K_101)
    have f_106 : Exa Z T_101.heap b_96 "com/example/dromos/dromos/model/Module$Signature" := (A_96.keep K_101)
    have f_107 : Fld Z T_101.heap b_3 "java/util/AbstractList" "modCount" "I" (.int (0 : Int32)) := ((p_7_0.ext E_96).keep K_101 (fun q => ne_b_3_b_96 (List.mem_singleton.mp q)))
    have f_108 : Fld Z T_101.heap b_3 "java/util/ArrayList" "size" "I" (.int (0 : Int32)) := ((p_7_1.ext E_96).keep K_101 (fun q => ne_b_3_b_96 (List.mem_singleton.mp q)))
    have f_109 : Fld Z T_101.heap b_3 "java/util/ArrayList" "elementData" "[Ljava/lang/Object;" (.ref dd) := ((p_7_2.ext E_96).keep K_101 (fun q => ne_b_3_b_96 (List.mem_singleton.mp q)))
    have f_110 : Arv Z T_101.heap dd kd (.object "java/lang/Object") (0 : Int32) [] .null := VD.ext O_103.2
    obtain ⟨cq_104, kq_104, q_104a, q_104b, q_104c⟩ := isOf hZ (rfl : T_101.heap = T_101.heap) f_105
    obtain ⟨_, T_104, Lc_104, X_104, hQ_104, st_104⟩ := own_un X_101 (Q := Qadd0 Z b_3 b_96 dd kd T_101.heap n0) (rc := 1) (rs := 10) (W := fun v B => Steps p.tables e below (T_101.setTop (mkF m 65 #[.val (.int p1), .val (.int p2), .val (.int p3), .val (.int p4), .val (.int p5), .val (.int p6), .val (.int (2 : Int32)), .val (.int lx), .val (.int ya), .val (.int yb), .val (.int yc), .val (.ref b_3), .unset, .unset, .unset, .unset] [(.ref b_96), (.ref b_3)])) (B.setTop { (mkF m 65 #[.val (.int p1), .val (.int p2), .val (.int p3), .val (.int p4), .val (.int p5), .val (.int p6), .val (.int (2 : Int32)), .val (.int lx), .val (.int ya), .val (.int yb), .val (.int yc), .val (.ref b_3), .unset, .unset, .unset, .unset] [(.ref b_96), (.ref b_3)]) with pc := 68, stack := v.toList ++ [] })) <| X_101.virtualBack hx (y := (⟨"java/util/ArrayList", "add", "(Ljava/lang/Object;)Z"⟩ : MethodName)) (z := (⟨"java/util/ArrayList", "add", "(Ljava/lang/Object;)Z"⟩ : MethodName)) hown (mvT hZ (hw _ (List.mem_of_getElem? (i := 43) rfl))) (mvT hZ (hw _ (List.mem_of_getElem? (i := 44) rfl))) (notFace_of_selects (args := #[]) (mvT hZ (hw _ (List.mem_of_getElem? (i := 46) rfl)))) (mvT hZ (hw _ (List.mem_of_getElem? (i := 46) rfl))) (mvT hZ (hw _ (List.mem_of_getElem? (i := 45) rfl))) (by decide) (backOf (W := 0) (rmadd0 l Z a0 hw [] b_3 b_96 dd kd T_101.heap n0 z_102 f_105 f_106 g_b_3 ne_b_3_b_96 f_107 f_108 f_109 S1 VD O_103) hZ (hw _ (List.mem_of_getElem? (i := 47) rfl)) (hw _ (List.mem_of_getElem? (i := 3) rfl)) (by decide) (by decide)) q_104a q_104c (g := (mkF m 65 #[.val (.int p1), .val (.int p2), .val (.int p3), .val (.int p4), .val (.int p5), .val (.int p6), .val (.int (2 : Int32)), .val (.int lx), .val (.int ya), .val (.int yb), .val (.int yc), .val (.ref b_3), .unset, .unset, .unset, .unset] [(.ref b_96), (.ref b_3)])) rfl (by rw [hml]; rfl) (Steps.refl _) (argsL := [(.ref b_96)]) (rest := []) (lenOf pd_12 rfl) rfl (by show 2 * 0 + _ ≤ _; exact Nat.le_of_eq rfl) (hb hby at_65) (fun _ _ => ⟨rfl, (rfl : T_101.heap = T_101.heap), (by decide : 2 + 1 ≤ _), (by decide : 5 + 10 ≤ _)⟩)
    obtain ⟨b__104, kb__104, rfl, N_104q, K_104, gq_b__104, sq_b__104, p_104_0, p_104_1, p_104_2, p_104_3, p_104_4, p_104_5, p_104_6⟩ := hQ_104
    have N_104 := Fr.app N_101 N_104q
    refine OGo.to (fun _ k => st_104.trans k) ?_
    have ne_dd_b__104 : dd ≠ b__104 := Nat.ne_of_lt (Nat.lt_of_lt_of_le f_110.lt sq_b__104)
    have ne_b_3_b__104 : b_3 ≠ b__104 := Nat.ne_of_lt (Nat.lt_of_lt_of_le f_105.lt sq_b__104)
    have ne_b_96_b__104 : b_96 ≠ b__104 := Nat.ne_of_lt (Nat.lt_of_lt_of_le f_106.lt sq_b__104)
    have z_111 : n0 ≤ T_104.heap.size := Nat.le_trans z_102 K_104.1
    have O_112 : Old Z n0 T_104.heap := O_103.keep K_104 (allS g_b_3 all0)
    show OGo p e below _ (T_104.setTop (mkF m 68 #[.val (.int p1), .val (.int p2), .val (.int p3), .val (.int p4), .val (.int p5), .val (.int p6), .val (.int (2 : Int32)), .val (.int lx), .val (.int ya), .val (.int yb), .val (.int yc), .val (.ref b_3), .unset, .unset, .unset, .unset] [(.int (1 : Int32))]))
    refine OGo.to (fun _ k => XS.pop X_104.here hx rfl (hb hby at_68) rfl rfl k) ?_
    show OGo p e below _ (T_104.setTop (mkF m 69 #[.val (.int p1), .val (.int p2), .val (.int p3), .val (.int p4), .val (.int p5), .val (.int p6), .val (.int (2 : Int32)), .val (.int lx), .val (.int ya), .val (.int yb), .val (.int yc), .val (.ref b_3), .unset, .unset, .unset, .unset] []))
    refine OGo.to (fun _ k => XS.iload X_104.here hx rfl (hb hby at_69) rfl k) ?_
    show OGo p e below _ (T_104.setTop (mkF m 71 #[.val (.int p1), .val (.int p2), .val (.int p3), .val (.int p4), .val (.int p5), .val (.int p6), .val (.int (2 : Int32)), .val (.int lx), .val (.int ya), .val (.int yb), .val (.int yc), .val (.ref b_3), .unset, .unset, .unset, .unset] [(.int (2 : Int32))]))
    refine OGo.to (fun _ k => XS.iconst X_104.here hx rfl (hb hby at_71) k) ?_
    show OGo p e below _ (T_104.setTop (mkF m 72 #[.val (.int p1), .val (.int p2), .val (.int p3), .val (.int p4), .val (.int p5), .val (.int p6), .val (.int (2 : Int32)), .val (.int lx), .val (.int ya), .val (.int yb), .val (.int yc), .val (.ref b_3), .unset, .unset, .unset, .unset] [(.int (2 : Int32)), (.int (2 : Int32))]))
    have hc72__113 : ¬ ((2 : Int32) < (2 : Int32)) := by decide
    refine OGo.to (fun _ k => XS.icmpNo X_104.here hx rfl (hb hby at_72) rfl (flt hc72__113).1 k) ?_
    show OGo p e below _ (T_104.setTop (mkF m 75 #[.val (.int p1), .val (.int p2), .val (.int p3), .val (.int p4), .val (.int p5), .val (.int p6), .val (.int (2 : Int32)), .val (.int lx), .val (.int ya), .val (.int yb), .val (.int yc), .val (.ref b_3), .unset, .unset, .unset, .unset] []))
    refine OGo.to (fun _ k => XS.aload X_104.here hx rfl (hb hby at_75) rfl rfl k) ?_
    show OGo p e below _ (T_104.setTop (mkF m 77 #[.val (.int p1), .val (.int p2), .val (.int p3), .val (.int p4), .val (.int p5), .val (.int p6), .val (.int (2 : Int32)), .val (.int lx), .val (.int ya), .val (.int yb), .val (.int yc), .val (.ref b_3), .unset, .unset, .unset, .unset] [(.ref b_3)]))
    have f_115 : Arv Z T_104.heap dd kd (.object "java/lang/Object") (0 : Int32) [] .null := VD.ext O_112.2
    have f_116 : Exa Z T_104.heap b_3 "java/util/ArrayList" := (f_105.keep K_104)
    have f_117 : Exa Z T_104.heap b_96 "com/example/dromos/dromos/model/Module$Signature" := (f_106.keep K_104)
    obtain ⟨T_114, h_114, X_114, e_114, E_114, A_114, D_114, -, st_114⟩ := newO X_104 hx hZ hown (hw _ (List.mem_of_getElem? (i := 27) rfl)) (hw _ (List.mem_of_getElem? (i := 28) rfl)) (hw _ (List.mem_of_getElem? (i := 29) rfl)) (rfl : T_104.heap = T_104.heap) (g := (mkF m 77 #[.val (.int p1), .val (.int p2), .val (.int p3), .val (.int p4), .val (.int p5), .val (.int p6), .val (.int (2 : Int32)), .val (.int lx), .val (.int ya), .val (.int yb), .val (.int yc), .val (.ref b_3), .unset, .unset, .unset, .unset] [(.ref b_3)])) rfl (hb hby at_77) (by decide) (by decide)
    obtain ⟨b_114, g_114⟩ : ∃ z, z = T_104.heap.size := ⟨_, rfl⟩
    rw [← g_114] at A_114 D_114 st_114
    have g_b_114 : n0 ≤ b_114 := Nat.le_trans z_111 (Nat.le_of_eq g_114.symm)
    refine OGo.to st_114 ?_
    have ne_dd_b_114 : dd ≠ b_114 := Nat.ne_of_lt (Nat.lt_of_lt_of_le f_115.lt (Nat.le_of_eq g_114.symm))
    have ne_b_3_b_114 : b_3 ≠ b_114 := Nat.ne_of_lt (Nat.lt_of_lt_of_le f_116.lt (Nat.le_of_eq g_114.symm))
    have ne_b_96_b_114 : b_96 ≠ b_114 := Nat.ne_of_lt (Nat.lt_of_lt_of_le f_117.lt (Nat.le_of_eq g_114.symm))
    have ne_b__104_b_114 : b__104 ≠ b_114 := Nat.ne_of_lt (Nat.lt_of_lt_of_le p_104_3.lt (Nat.le_of_eq g_114.symm))
    have z_118 : n0 ≤ h_114.size := Nat.le_trans z_111 E_114.1
    have O_119 : Old Z n0 h_114 := O_112.ext E_114
    have F_name_b_114 : Fld Z h_114 b_114 "com/example/dromos/dromos/model/Module$Signature" "name" "Lcom/example/dromos/dromos/model/Identifier;" .null := D_114 (Or.inr (hw _ (List.mem_of_getElem? (i := 40) rfl))) (ty := (.object "com/example/dromos/dromos/model/Identifier")) (by decide)
    have F_arity_b_114 : Fld Z h_114 b_114 "com/example/dromos/dromos/model/Module$Signature" "arity" "I" (.int (0 : Int32)) := D_114 (Or.inr (hw _ (List.mem_of_getElem? (i := 42) rfl))) (ty := .int) (by decide)
    show OGo p e below _ (T_114.setTop (mkF m 80 #[.val (.int p1), .val (.int p2), .val (.int p3), .val (.int p4), .val (.int p5), .val (.int p6), .val (.int (2 : Int32)), .val (.int lx), .val (.int ya), .val (.int yb), .val (.int yc), .val (.ref b_3), .unset, .unset, .unset, .unset] [(.ref b_114), (.ref b_3)]))
    refine OGo.to (fun _ k => XS.dup X_114.here hx rfl (hb hby at_80) rfl rfl k) ?_
    show OGo p e below _ (T_114.setTop (mkF m 81 #[.val (.int p1), .val (.int p2), .val (.int p3), .val (.int p4), .val (.int p5), .val (.int p6), .val (.int (2 : Int32)), .val (.int lx), .val (.int ya), .val (.int yb), .val (.int yc), .val (.ref b_3), .unset, .unset, .unset, .unset] [(.ref b_114), (.ref b_114), (.ref b_3)]))
    refine OGo.to (fun _ k => XS.aconstNull X_114.here hx rfl (hb hby at_81) k) ?_
    show OGo p e below _ (T_114.setTop (mkF m 82 #[.val (.int p1), .val (.int p2), .val (.int p3), .val (.int p4), .val (.int p5), .val (.int p6), .val (.int (2 : Int32)), .val (.int lx), .val (.int ya), .val (.int yb), .val (.int yc), .val (.ref b_3), .unset, .unset, .unset, .unset] [.null, (.ref b_114), (.ref b_114), (.ref b_3)]))
    refine OGo.to (fun _ k => XS.iload X_114.here hx rfl (hb hby at_82) rfl k) ?_
    show OGo p e below _ (T_114.setTop (mkF m 84 #[.val (.int p1), .val (.int p2), .val (.int p3), .val (.int p4), .val (.int p5), .val (.int p6), .val (.int (2 : Int32)), .val (.int lx), .val (.int ya), .val (.int yb), .val (.int yc), .val (.ref b_3), .unset, .unset, .unset, .unset] [(.int yb), .null, (.ref b_114), (.ref b_114), (.ref b_3)]))
    obtain ⟨_, T_120, Lc_120, X_120, hQ_120, st_120⟩ := own_un X_114 (Q := Q5 Z b_114 yb h_114 n0) (rc := 0) (rs := 0) (W := fun v B => Steps p.tables e below (T_114.setTop (mkF m 84 #[.val (.int p1), .val (.int p2), .val (.int p3), .val (.int p4), .val (.int p5), .val (.int p6), .val (.int (2 : Int32)), .val (.int lx), .val (.int ya), .val (.int yb), .val (.int yc), .val (.ref b_3), .unset, .unset, .unset, .unset] [(.int yb), .null, (.ref b_114), (.ref b_114), (.ref b_3)])) (B.setTop { (mkF m 84 #[.val (.int p1), .val (.int p2), .val (.int p3), .val (.int p4), .val (.int p5), .val (.int p6), .val (.int (2 : Int32)), .val (.int lx), .val (.int ya), .val (.int yb), .val (.int yc), .val (.ref b_3), .unset, .unset, .unset, .unset] [(.int yb), .null, (.ref b_114), (.ref b_114), (.ref b_3)]) with pc := 87, stack := v.toList ++ [(.ref b_114), (.ref b_3)] })) <| X_114.specialBack hx (y := (⟨"com/example/dromos/dromos/model/Module$Signature", "<init>", "(Lcom/example/dromos/dromos/model/Identifier;I)V"⟩ : MethodName)) rfl hown (mvT hZ (hw _ (List.mem_of_getElem? (i := 30) rfl))) (mvT hZ (hw _ (List.mem_of_getElem? (i := 31) rfl))) (mvT hZ (hw _ (List.mem_of_getElem? (i := 32) rfl))) (by decide) (backOf (W := 2) (rm5 l Z a0 hw [] b_114 yb h_114 n0 z_118 A_114 F_name_b_114 F_arity_b_114 g_b_114) hZ (hw _ (List.mem_of_getElem? (i := 32) rfl)) (hw _ (List.mem_of_getElem? (i := 29) rfl)) (by decide) (by decide)) (g := (mkF m 84 #[.val (.int p1), .val (.int p2), .val (.int p3), .val (.int p4), .val (.int p5), .val (.int p6), .val (.int (2 : Int32)), .val (.int lx), .val (.int ya), .val (.int yb), .val (.int yc), .val (.ref b_3), .unset, .unset, .unset, .unset] [(.int yb), .null, (.ref b_114), (.ref b_114), (.ref b_3)])) rfl (by rw [hml]; rfl) (Steps.refl _) (a := b_114) (argsL := [.null, (.int yb)]) (rest := [(.ref b_114), (.ref b_3)]) (lenOf pd_11 rfl) rfl (by show 2 * 0 + _ ≤ _; exact Nat.le_of_eq rfl) (hb hby at_84) (fun _ _ => ⟨rfl, e_114, (by decide : 4 + 0 ≤ _), (by decide : 17 + 0 ≤ _)⟩)
    obtain ⟨rfl, N_120q, K_120, p_120_0⟩ := hQ_120
    have N_120 := Fr.app N_104 N_120q
    refine OGo.to (fun _ k => st_120.trans k) ?_
    have z_121 : n0 ≤ T_120.heap.size := Nat.le_trans z_118 K_120.1
    have O_122 : Old Z n0 T_120.heap := O_119.keep K_120 (allS g_b_114 all0)
    show OGo p e below _ (T_120.setTop (mkF m 87 #[.val (.int p1), .val (.int p2), .val (.int p3), .val (.int p4), .val (.int p5), .val (.int p6), .val (.int (2 : Int32)), .val (.int lx), .val (.int ya), .val (.int yb), .val (.int yc), .val (.ref b_3), .unset, .unset, .unset, .unset] [(.ref b_114), (.ref b_3)]))
    have f_124 : Exa Z T_120.heap b_3 "java/util/ArrayList" := ((f_116.ext E_114).keep K_120)
    have f_125 : Exa Z T_120.heap b_114 "com/example/dromos/dromos/model/Module$Signature" := (A_114.keep K_120)
    have f_126 : Fld Z T_120.heap b_3 "java/util/AbstractList" "modCount" "I" (.int (1 : Int32)) := ((p_104_0.ext E_114).keep K_120 (fun q => ne_b_3_b_114 (List.mem_singleton.mp q)))
    have f_127 : Fld Z T_120.heap b_3 "java/util/ArrayList" "size" "I" (.int (1 : Int32)) := ((p_104_1.ext E_114).keep K_120 (fun q => ne_b_3_b_114 (List.mem_singleton.mp q)))
    have f_128 : Fld Z T_120.heap b_3 "java/util/ArrayList" "elementData" "[Ljava/lang/Object;" (.ref b__104) := ((p_104_2.ext E_114).keep K_120 (fun q => ne_b_3_b_114 (List.mem_singleton.mp q)))
    have f_129 : Arv Z T_120.heap b__104 kb__104 (.object "java/lang/Object") (10 : Int32) [(.ref b_96), .null, .null, .null, .null, .null, .null, .null, .null, .null] .null := ((p_104_3.ext E_114).keep K_120 (fun q => ne_b__104_b_114 (List.mem_singleton.mp q)))
    obtain ⟨cq_123, kq_123, q_123a, q_123b, q_123c⟩ := isOf hZ (rfl : T_120.heap = T_120.heap) f_124
    obtain ⟨_, T_123, Lc_123, X_123, hQ_123, st_123⟩ := own_un X_120 (Q := Qadd1 Z b_3 b_114 b__104 kb__104 b_96 T_120.heap n0) (rc := 0) (rs := 0) (W := fun v B => Steps p.tables e below (T_120.setTop (mkF m 87 #[.val (.int p1), .val (.int p2), .val (.int p3), .val (.int p4), .val (.int p5), .val (.int p6), .val (.int (2 : Int32)), .val (.int lx), .val (.int ya), .val (.int yb), .val (.int yc), .val (.ref b_3), .unset, .unset, .unset, .unset] [(.ref b_114), (.ref b_3)])) (B.setTop { (mkF m 87 #[.val (.int p1), .val (.int p2), .val (.int p3), .val (.int p4), .val (.int p5), .val (.int p6), .val (.int (2 : Int32)), .val (.int lx), .val (.int ya), .val (.int yb), .val (.int yc), .val (.ref b_3), .unset, .unset, .unset, .unset] [(.ref b_114), (.ref b_3)]) with pc := 90, stack := v.toList ++ [] })) <| X_120.virtualBack hx (y := (⟨"java/util/ArrayList", "add", "(Ljava/lang/Object;)Z"⟩ : MethodName)) (z := (⟨"java/util/ArrayList", "add", "(Ljava/lang/Object;)Z"⟩ : MethodName)) hown (mvT hZ (hw _ (List.mem_of_getElem? (i := 43) rfl))) (mvT hZ (hw _ (List.mem_of_getElem? (i := 44) rfl))) (notFace_of_selects (args := #[]) (mvT hZ (hw _ (List.mem_of_getElem? (i := 46) rfl)))) (mvT hZ (hw _ (List.mem_of_getElem? (i := 46) rfl))) (mvT hZ (hw _ (List.mem_of_getElem? (i := 45) rfl))) (by decide) (backOf (W := 0) (rmadd1 l Z a0 hw [] b_3 b_114 b__104 kb__104 b_96 T_120.heap n0 z_121 f_124 f_125 g_b_3 ne_b_3_b_114 f_126 f_127 f_128 f_129 p_104_4 gq_b__104 p_104_5 (Ne.symm ne_b__104_b_114)) hZ (hw _ (List.mem_of_getElem? (i := 47) rfl)) (hw _ (List.mem_of_getElem? (i := 3) rfl)) (by decide) (by decide)) q_123a q_123c (g := (mkF m 87 #[.val (.int p1), .val (.int p2), .val (.int p3), .val (.int p4), .val (.int p5), .val (.int p6), .val (.int (2 : Int32)), .val (.int lx), .val (.int ya), .val (.int yb), .val (.int yc), .val (.ref b_3), .unset, .unset, .unset, .unset] [(.ref b_114), (.ref b_3)])) rfl (by rw [hml]; rfl) (Steps.refl _) (argsL := [(.ref b_114)]) (rest := []) (lenOf pd_12 rfl) rfl (by show 2 * 0 + _ ≤ _; exact Nat.le_of_eq rfl) (hb hby at_87) (fun _ _ => ⟨rfl, (rfl : T_120.heap = T_120.heap), (by decide : 4 + 0 ≤ _), (by decide : 17 + 0 ≤ _)⟩)
    obtain ⟨rfl, N_123q, K_123, p_123_0, p_123_1, p_123_2, p_123_3⟩ := hQ_123
    have N_123 := Fr.app N_120 N_123q
    refine OGo.to (fun _ k => st_123.trans k) ?_
    have z_130 : n0 ≤ T_123.heap.size := Nat.le_trans z_121 K_123.1
    have O_131 : Old Z n0 T_123.heap := O_122.keep K_123 (allS g_b_3 (allS gq_b__104 all0))
    show OGo p e below _ (T_123.setTop (mkF m 90 #[.val (.int p1), .val (.int p2), .val (.int p3), .val (.int p4), .val (.int p5), .val (.int p6), .val (.int (2 : Int32)), .val (.int lx), .val (.int ya), .val (.int yb), .val (.int yc), .val (.ref b_3), .unset, .unset, .unset, .unset] [(.int (1 : Int32))]))
    refine OGo.to (fun _ k => XS.pop X_123.here hx rfl (hb hby at_90) rfl rfl k) ?_
    show OGo p e below _ (T_123.setTop (mkF m 91 #[.val (.int p1), .val (.int p2), .val (.int p3), .val (.int p4), .val (.int p5), .val (.int p6), .val (.int (2 : Int32)), .val (.int lx), .val (.int ya), .val (.int yb), .val (.int yc), .val (.ref b_3), .unset, .unset, .unset, .unset] []))
    refine OGo.to (fun _ k => XS.iload X_123.here hx rfl (hb hby at_91) rfl k) ?_
    show OGo p e below _ (T_123.setTop (mkF m 93 #[.val (.int p1), .val (.int p2), .val (.int p3), .val (.int p4), .val (.int p5), .val (.int p6), .val (.int (2 : Int32)), .val (.int lx), .val (.int ya), .val (.int yb), .val (.int yc), .val (.ref b_3), .unset, .unset, .unset, .unset] [(.int (2 : Int32))]))
    refine OGo.to (fun _ k => XS.iconst X_123.here hx rfl (hb hby at_93) k) ?_
    show OGo p e below _ (T_123.setTop (mkF m 94 #[.val (.int p1), .val (.int p2), .val (.int p3), .val (.int p4), .val (.int p5), .val (.int p6), .val (.int (2 : Int32)), .val (.int lx), .val (.int ya), .val (.int yb), .val (.int yc), .val (.ref b_3), .unset, .unset, .unset, .unset] [(.int (3 : Int32)), (.int (2 : Int32))]))
    have hc94__132 : (2 : Int32) < (3 : Int32) := by decide
    refine OGo.to (fun _ k => XS.icmpYes X_123.here hx rfl (pc0 := 94) (pc' := 113) rfl (hb hby at_94) rfl (tlt hc94__132).1 (by decide) (by decide) k) ?_
    show OGo p e below _ (T_123.setTop (mkF m 113 #[.val (.int p1), .val (.int p2), .val (.int p3), .val (.int p4), .val (.int p5), .val (.int p6), .val (.int (2 : Int32)), .val (.int lx), .val (.int ya), .val (.int yb), .val (.int yc), .val (.ref b_3), .unset, .unset, .unset, .unset] []))
    have f_134 : Arv Z T_123.heap dd kd (.object "java/lang/Object") (0 : Int32) [] .null := VD.ext O_131.2
    have f_135 : Exa Z T_123.heap b_3 "java/util/ArrayList" := (f_124.keep K_123)
    have f_136 : Exa Z T_123.heap b_96 "com/example/dromos/dromos/model/Module$Signature" := (((f_117.ext E_114).keep K_120).keep K_123)
    have f_137 : Exa Z T_123.heap b_114 "com/example/dromos/dromos/model/Module$Signature" := (f_125.keep K_123)
    obtain ⟨T_133, h_133, X_133, e_133, E_133, A_133, D_133, -, st_133⟩ := newO X_123 hx hZ hown (hw _ (List.mem_of_getElem? (i := 74) rfl)) (hw _ (List.mem_of_getElem? (i := 75) rfl)) (hw _ (List.mem_of_getElem? (i := 76) rfl)) (rfl : T_123.heap = T_123.heap) (g := (mkF m 113 #[.val (.int p1), .val (.int p2), .val (.int p3), .val (.int p4), .val (.int p5), .val (.int p6), .val (.int (2 : Int32)), .val (.int lx), .val (.int ya), .val (.int yb), .val (.int yc), .val (.ref b_3), .unset, .unset, .unset, .unset] [])) rfl (hb hby at_113) (by decide) (by decide)
    obtain ⟨b_133, g_133⟩ : ∃ z, z = T_123.heap.size := ⟨_, rfl⟩
    rw [← g_133] at A_133 D_133 st_133
    have g_b_133 : n0 ≤ b_133 := Nat.le_trans z_130 (Nat.le_of_eq g_133.symm)
    refine OGo.to st_133 ?_
    have ne_dd_b_133 : dd ≠ b_133 := Nat.ne_of_lt (Nat.lt_of_lt_of_le f_134.lt (Nat.le_of_eq g_133.symm))
    have ne_b_3_b_133 : b_3 ≠ b_133 := Nat.ne_of_lt (Nat.lt_of_lt_of_le f_135.lt (Nat.le_of_eq g_133.symm))
    have ne_b_96_b_133 : b_96 ≠ b_133 := Nat.ne_of_lt (Nat.lt_of_lt_of_le f_136.lt (Nat.le_of_eq g_133.symm))
    have ne_b_114_b_133 : b_114 ≠ b_133 := Nat.ne_of_lt (Nat.lt_of_lt_of_le f_137.lt (Nat.le_of_eq g_133.symm))
    have ne_b__104_b_133 : b__104 ≠ b_133 := Nat.ne_of_lt (Nat.lt_of_lt_of_le p_123_3.lt (Nat.le_of_eq g_133.symm))
    have z_138 : n0 ≤ h_133.size := Nat.le_trans z_130 E_133.1
    have O_139 : Old Z n0 h_133 := O_131.ext E_133
    have F_bound_b_133 : Fld Z h_133 b_133 "com/example/dromos/dromos/service/Definition" "bound" "I" (.int (0 : Int32)) := D_133 (Or.inl (hw _ (List.mem_of_getElem? (i := 82) rfl))) (ty := .int) (by decide)
    have F_free_b_133 : Fld Z h_133 b_133 "com/example/dromos/dromos/service/Definition" "free" "I" (.int (0 : Int32)) := D_133 (Or.inl (hw _ (List.mem_of_getElem? (i := 84) rfl))) (ty := .int) (by decide)
    have F_operators_b_133 : Fld Z h_133 b_133 "com/example/dromos/dromos/service/Definition" "operators" "[I" .null := D_133 (Or.inl (hw _ (List.mem_of_getElem? (i := 87) rfl))) (ty := (.array .int)) (by decide)
    have F_name_b_133 : Fld Z h_133 b_133 "com/example/dromos/dromos/service/Definition" "name" "Ljava/lang/String;" .null := D_133 (Or.inr (hw _ (List.mem_of_getElem? (i := 89) rfl))) (ty := (.object "java/lang/String")) (by decide)
    have F_arity_b_133 : Fld Z h_133 b_133 "com/example/dromos/dromos/service/Definition" "arity" "I" (.int (0 : Int32)) := D_133 (Or.inr (hw _ (List.mem_of_getElem? (i := 91) rfl))) (ty := .int) (by decide)
    have F_hidden_b_133 : Fld Z h_133 b_133 "com/example/dromos/dromos/service/Definition" "hidden" "I" (.int (0 : Int32)) := D_133 (Or.inr (hw _ (List.mem_of_getElem? (i := 93) rfl))) (ty := .int) (by decide)
    have F_at_b_133 : Fld Z h_133 b_133 "com/example/dromos/dromos/service/Definition" "at" "Lcom/example/dromos/dromos/model/Location;" .null := D_133 (Or.inr (hw _ (List.mem_of_getElem? (i := 95) rfl))) (ty := (.object "com/example/dromos/dromos/model/Location")) (by decide)
    have F_lexical_b_133 : Fld Z h_133 b_133 "com/example/dromos/dromos/service/Definition" "lexical" "Z" (.int (0 : Int32)) := D_133 (Or.inr (hw _ (List.mem_of_getElem? (i := 97) rfl))) (ty := .boolean) (by decide)
    show OGo p e below _ (T_133.setTop (mkF m 116 #[.val (.int p1), .val (.int p2), .val (.int p3), .val (.int p4), .val (.int p5), .val (.int p6), .val (.int (2 : Int32)), .val (.int lx), .val (.int ya), .val (.int yb), .val (.int yc), .val (.ref b_3), .unset, .unset, .unset, .unset] [(.ref b_133)]))
    refine OGo.to (fun _ k => XS.dup X_133.here hx rfl (hb hby at_116) rfl rfl k) ?_
    show OGo p e below _ (T_133.setTop (mkF m 117 #[.val (.int p1), .val (.int p2), .val (.int p3), .val (.int p4), .val (.int p5), .val (.int p6), .val (.int (2 : Int32)), .val (.int lx), .val (.int ya), .val (.int yb), .val (.int yc), .val (.ref b_3), .unset, .unset, .unset, .unset] [(.ref b_133), (.ref b_133)]))
    refine OGo.to (fun _ k => XS.aconstNull X_133.here hx rfl (hb hby at_117) k) ?_
    show OGo p e below _ (T_133.setTop (mkF m 118 #[.val (.int p1), .val (.int p2), .val (.int p3), .val (.int p4), .val (.int p5), .val (.int p6), .val (.int (2 : Int32)), .val (.int lx), .val (.int ya), .val (.int yb), .val (.int yc), .val (.ref b_3), .unset, .unset, .unset, .unset] [.null, (.ref b_133), (.ref b_133)]))
    refine OGo.to (fun _ k => XS.iload X_133.here hx rfl (hb hby at_118) rfl k) ?_
    show OGo p e below _ (T_133.setTop (mkF m 120 #[.val (.int p1), .val (.int p2), .val (.int p3), .val (.int p4), .val (.int p5), .val (.int p6), .val (.int (2 : Int32)), .val (.int lx), .val (.int ya), .val (.int yb), .val (.int yc), .val (.ref b_3), .unset, .unset, .unset, .unset] [(.int p5), .null, (.ref b_133), (.ref b_133)]))
    refine OGo.to (fun _ k => XS.iload X_133.here hx rfl (hb hby at_120) rfl k) ?_
    show OGo p e below _ (T_133.setTop (mkF m 122 #[.val (.int p1), .val (.int p2), .val (.int p3), .val (.int p4), .val (.int p5), .val (.int p6), .val (.int (2 : Int32)), .val (.int lx), .val (.int ya), .val (.int yb), .val (.int yc), .val (.ref b_3), .unset, .unset, .unset, .unset] [(.int p6), (.int p5), .null, (.ref b_133), (.ref b_133)]))
    refine OGo.to (fun _ k => XS.aconstNull X_133.here hx rfl (hb hby at_122) k) ?_
    show OGo p e below _ (T_133.setTop (mkF m 123 #[.val (.int p1), .val (.int p2), .val (.int p3), .val (.int p4), .val (.int p5), .val (.int p6), .val (.int (2 : Int32)), .val (.int lx), .val (.int ya), .val (.int yb), .val (.int yc), .val (.ref b_3), .unset, .unset, .unset, .unset] [.null, (.int p6), (.int p5), .null, (.ref b_133), (.ref b_133)]))
    refine OGo.to (fun _ k => XS.iload X_133.here hx rfl (hb hby at_123) rfl k) ?_
    show OGo p e below _ (T_133.setTop (mkF m 125 #[.val (.int p1), .val (.int p2), .val (.int p3), .val (.int p4), .val (.int p5), .val (.int p6), .val (.int (2 : Int32)), .val (.int lx), .val (.int ya), .val (.int yb), .val (.int yc), .val (.ref b_3), .unset, .unset, .unset, .unset] [(.int lx), .null, (.int p6), (.int p5), .null, (.ref b_133), (.ref b_133)]))
    have f_141 : Arv Z h_133 dd kd (.object "java/lang/Object") (0 : Int32) [] .null := VD.ext O_139.2
    have f_142 : Exa Z h_133 b_3 "java/util/ArrayList" := (f_135.ext E_133)
    have f_143 : Exa Z h_133 b_96 "com/example/dromos/dromos/model/Module$Signature" := (f_136.ext E_133)
    have f_144 : Exa Z h_133 b_114 "com/example/dromos/dromos/model/Module$Signature" := (f_137.ext E_133)
    have f_145 : Arv Z h_133 b__104 kb__104 (.object "java/lang/Object") (10 : Int32) [(.ref b_96), (.ref b_114), .null, .null, .null, .null, .null, .null, .null, .null] .null := (p_123_3.ext E_133)
    obtain ⟨_, T_140, Lc_140, X_140, hQ_140, st_140⟩ := own_un X_133 (Q := Q12 Z b_133 p5 p6 lx h_133 n0) (rc := 1) (rs := 0) (W := fun v B => Steps p.tables e below (T_133.setTop (mkF m 125 #[.val (.int p1), .val (.int p2), .val (.int p3), .val (.int p4), .val (.int p5), .val (.int p6), .val (.int (2 : Int32)), .val (.int lx), .val (.int ya), .val (.int yb), .val (.int yc), .val (.ref b_3), .unset, .unset, .unset, .unset] [(.int lx), .null, (.int p6), (.int p5), .null, (.ref b_133), (.ref b_133)])) (B.setTop { (mkF m 125 #[.val (.int p1), .val (.int p2), .val (.int p3), .val (.int p4), .val (.int p5), .val (.int p6), .val (.int (2 : Int32)), .val (.int lx), .val (.int ya), .val (.int yb), .val (.int yc), .val (.ref b_3), .unset, .unset, .unset, .unset] [(.int lx), .null, (.int p6), (.int p5), .null, (.ref b_133), (.ref b_133)]) with pc := 128, stack := v.toList ++ [(.ref b_133)] })) <| X_133.specialBack hx (y := (⟨"com/example/dromos/dromos/service/Definition", "<init>", "(Ljava/lang/String;IILcom/example/dromos/dromos/model/Location;Z)V"⟩ : MethodName)) rfl hown (mvT hZ (hw _ (List.mem_of_getElem? (i := 77) rfl))) (mvT hZ (hw _ (List.mem_of_getElem? (i := 78) rfl))) (mvT hZ (hw _ (List.mem_of_getElem? (i := 79) rfl))) (by decide) (backOf (W := 1) (rm12 l Z a0 hw [] b_133 p5 p6 lx h_133 n0 z_138 A_133 F_bound_b_133 F_free_b_133 F_operators_b_133 F_name_b_133 F_arity_b_133 F_hidden_b_133 F_at_b_133 F_lexical_b_133 g_b_133 (b_lx)) hZ (hw _ (List.mem_of_getElem? (i := 79) rfl)) (hw _ (List.mem_of_getElem? (i := 76) rfl)) (by decide) (by decide)) (g := (mkF m 125 #[.val (.int p1), .val (.int p2), .val (.int p3), .val (.int p4), .val (.int p5), .val (.int p6), .val (.int (2 : Int32)), .val (.int lx), .val (.int ya), .val (.int yb), .val (.int yc), .val (.ref b_3), .unset, .unset, .unset, .unset] [(.int lx), .null, (.int p6), (.int p5), .null, (.ref b_133), (.ref b_133)])) rfl (by rw [hml]; rfl) (Steps.refl _) (a := b_133) (argsL := [.null, (.int p5), (.int p6), .null, (.int lx)]) (rest := [(.ref b_133)]) (lenOf pd_8 rfl) rfl (by show 2 * 0 + _ ≤ _; exact Nat.le_of_eq rfl) (hb hby at_125) (fun _ _ => ⟨rfl, e_133, (by decide : 5 + 1 ≤ _), (by decide : 32 + 0 ≤ _)⟩)
    obtain ⟨b__140, kb__140, rfl, N_140q, K_140, gq_b__140, sq_b__140, p_140_0, p_140_1, p_140_2, p_140_3, p_140_4, p_140_5, p_140_6⟩ := hQ_140
    have N_140 := Fr.app N_123 N_140q
    refine OGo.to (fun _ k => st_140.trans k) ?_
    have ne_dd_b__140 : dd ≠ b__140 := Nat.ne_of_lt (Nat.lt_of_lt_of_le f_141.lt sq_b__140)
    have ne_b_3_b__140 : b_3 ≠ b__140 := Nat.ne_of_lt (Nat.lt_of_lt_of_le f_142.lt sq_b__140)
    have ne_b_96_b__140 : b_96 ≠ b__140 := Nat.ne_of_lt (Nat.lt_of_lt_of_le f_143.lt sq_b__140)
    have ne_b_114_b__140 : b_114 ≠ b__140 := Nat.ne_of_lt (Nat.lt_of_lt_of_le f_144.lt sq_b__140)
    have ne_b__104_b__140 : b__104 ≠ b__140 := Nat.ne_of_lt (Nat.lt_of_lt_of_le f_145.lt sq_b__140)
    have ne_b_133_b__140 : b_133 ≠ b__140 := Nat.ne_of_lt (Nat.lt_of_lt_of_le A_133.lt sq_b__140)
    have z_146 : n0 ≤ T_140.heap.size := Nat.le_trans z_138 K_140.1
    have O_147 : Old Z n0 T_140.heap := O_139.keep K_140 (allS g_b_133 all0)
    show OGo p e below _ (T_140.setTop (mkF m 128 #[.val (.int p1), .val (.int p2), .val (.int p3), .val (.int p4), .val (.int p5), .val (.int p6), .val (.int (2 : Int32)), .val (.int lx), .val (.int ya), .val (.int yb), .val (.int yc), .val (.ref b_3), .unset, .unset, .unset, .unset] [(.ref b_133)]))
    refine OGo.to (fun _ k => XS.astore X_140.here hx rfl (hb hby at_128) rfl rfl (l' := #[.val (.int p1), .val (.int p2), .val (.int p3), .val (.int p4), .val (.int p5), .val (.int p6), .val (.int (2 : Int32)), .val (.int lx), .val (.int ya), .val (.int yb), .val (.int yc), .val (.ref b_3), .val (.ref b_133), .unset, .unset, .unset]) rfl k) ?_
    show OGo p e below _ (T_140.setTop (mkF m 130 #[.val (.int p1), .val (.int p2), .val (.int p3), .val (.int p4), .val (.int p5), .val (.int p6), .val (.int (2 : Int32)), .val (.int lx), .val (.int ya), .val (.int yb), .val (.int yc), .val (.ref b_3), .val (.ref b_133), .unset, .unset, .unset] []))
    refine OGo.to (fun _ k => XS.aload X_140.here hx rfl (hb hby at_130) rfl rfl k) ?_
    show OGo p e below _ (T_140.setTop (mkF m 132 #[.val (.int p1), .val (.int p2), .val (.int p3), .val (.int p4), .val (.int p5), .val (.int p6), .val (.int (2 : Int32)), .val (.int lx), .val (.int ya), .val (.int yb), .val (.int yc), .val (.ref b_3), .val (.ref b_133), .unset, .unset, .unset] [(.ref b_133)]))
    have f_149 : Exa Z T_140.heap b_133 "com/example/dromos/dromos/service/Definition" := (A_133.keep K_140)
    obtain ⟨cq_148, kq_148, q_148a, q_148b, q_148c⟩ := isOf hZ (rfl : T_140.heap = T_140.heap) f_149
    obtain ⟨_, T_148, Lc_148, X_148, hQ_148, st_148⟩ := own_un X_140 (Q := Qop0 Z b_133 b__140 kb__140 T_140.heap n0) (rc := 0) (rs := 0) (W := fun v B => Steps p.tables e below (T_140.setTop (mkF m 132 #[.val (.int p1), .val (.int p2), .val (.int p3), .val (.int p4), .val (.int p5), .val (.int p6), .val (.int (2 : Int32)), .val (.int lx), .val (.int ya), .val (.int yb), .val (.int yc), .val (.ref b_3), .val (.ref b_133), .unset, .unset, .unset] [(.ref b_133)])) (B.setTop { (mkF m 132 #[.val (.int p1), .val (.int p2), .val (.int p3), .val (.int p4), .val (.int p5), .val (.int p6), .val (.int (2 : Int32)), .val (.int lx), .val (.int ya), .val (.int yb), .val (.int yc), .val (.ref b_3), .val (.ref b_133), .unset, .unset, .unset] [(.ref b_133)]) with pc := 135, stack := v.toList ++ [] })) <| X_140.virtualBack hx (y := (⟨"com/example/dromos/dromos/service/Definition", "takesOperators", "()Z"⟩ : MethodName)) (z := (⟨"com/example/dromos/dromos/service/Definition", "takesOperators", "()Z"⟩ : MethodName)) hown (mvT hZ (hw _ (List.mem_of_getElem? (i := 98) rfl))) (mvT hZ (hw _ (List.mem_of_getElem? (i := 99) rfl))) (notFace_of_selects (args := #[]) (mvT hZ (hw _ (List.mem_of_getElem? (i := 101) rfl)))) (mvT hZ (hw _ (List.mem_of_getElem? (i := 101) rfl))) (mvT hZ (hw _ (List.mem_of_getElem? (i := 100) rfl))) (by decide) (backOf (W := 0) (rmop0 l Z a0 hw [] b_133 b__140 kb__140 T_140.heap n0 z_146 p_140_4 p_140_5) hZ (hw _ (List.mem_of_getElem? (i := 102) rfl)) (hw _ (List.mem_of_getElem? (i := 76) rfl)) (by decide) (by decide)) q_148a q_148c (g := (mkF m 132 #[.val (.int p1), .val (.int p2), .val (.int p3), .val (.int p4), .val (.int p5), .val (.int p6), .val (.int (2 : Int32)), .val (.int lx), .val (.int ya), .val (.int yb), .val (.int yc), .val (.ref b_3), .val (.ref b_133), .unset, .unset, .unset] [(.ref b_133)])) rfl (by rw [hml]; rfl) (Steps.refl _) (argsL := []) (rest := []) (lenOf pd_9 rfl) rfl (by show 2 * 0 + _ ≤ _; exact Nat.le_of_eq rfl) (hb hby at_132) (fun _ _ => ⟨rfl, (rfl : T_140.heap = T_140.heap), (by decide : 6 + 0 ≤ _), (by decide : 32 + 0 ≤ _)⟩)
    obtain ⟨rfl, N_148q, e_148⟩ := hQ_148
    have N_148 := Fr.app N_140 N_148q
    refine OGo.to (fun _ k => st_148.trans k) ?_
    show OGo p e below _ (T_148.setTop (mkF m 135 #[.val (.int p1), .val (.int p2), .val (.int p3), .val (.int p4), .val (.int p5), .val (.int p6), .val (.int (2 : Int32)), .val (.int lx), .val (.int ya), .val (.int yb), .val (.int yc), .val (.ref b_3), .val (.ref b_133), .unset, .unset, .unset] [(.int (0 : Int32))]))
    refine OGo.to (fun _ k => XS.istore X_148.here hx rfl (hb hby at_135) rfl (l' := #[.val (.int p1), .val (.int p2), .val (.int p3), .val (.int p4), .val (.int p5), .val (.int p6), .val (.int (2 : Int32)), .val (.int lx), .val (.int ya), .val (.int yb), .val (.int yc), .val (.ref b_3), .val (.ref b_133), .val (.int (0 : Int32)), .unset, .unset]) rfl k) ?_
    show OGo p e below _ (T_148.setTop (mkF m 137 #[.val (.int p1), .val (.int p2), .val (.int p3), .val (.int p4), .val (.int p5), .val (.int p6), .val (.int (2 : Int32)), .val (.int lx), .val (.int ya), .val (.int yb), .val (.int yc), .val (.ref b_3), .val (.ref b_133), .val (.int (0 : Int32)), .unset, .unset] []))
    refine OGo.to (fun _ k => XS.aload X_148.here hx rfl (hb hby at_137) rfl rfl k) ?_
    show OGo p e below _ (T_148.setTop (mkF m 139 #[.val (.int p1), .val (.int p2), .val (.int p3), .val (.int p4), .val (.int p5), .val (.int p6), .val (.int (2 : Int32)), .val (.int lx), .val (.int ya), .val (.int yb), .val (.int yc), .val (.ref b_3), .val (.ref b_133), .val (.int (0 : Int32)), .unset, .unset] [(.ref b_133)]))
    refine OGo.to (fun _ k => XS.aload X_148.here hx rfl (hb hby at_139) rfl rfl k) ?_
    show OGo p e below _ (T_148.setTop (mkF m 141 #[.val (.int p1), .val (.int p2), .val (.int p3), .val (.int p4), .val (.int p5), .val (.int p6), .val (.int (2 : Int32)), .val (.int lx), .val (.int ya), .val (.int yb), .val (.int yc), .val (.ref b_3), .val (.ref b_133), .val (.int (0 : Int32)), .unset, .unset] [(.ref b_3), (.ref b_133)]))
    have f_151 : Exa Z T_140.heap b_3 "java/util/ArrayList" := (f_142.keep K_140)
    have f_152 : Fld Z T_140.heap b_3 "java/util/ArrayList" "size" "I" (.int (2 : Int32)) := ((p_123_1.ext E_133).keep K_140 (fun q => ne_b_3_b_133 (List.mem_singleton.mp q)))
    have f_153 : Fld Z T_140.heap b_3 "java/util/ArrayList" "elementData" "[Ljava/lang/Object;" (.ref b__104) := ((p_123_2.ext E_133).keep K_140 (fun q => ne_b_3_b_133 (List.mem_singleton.mp q)))
    have f_154 : Arv Z T_140.heap b__104 kb__104 (.object "java/lang/Object") (10 : Int32) [(.ref b_96), (.ref b_114), .null, .null, .null, .null, .null, .null, .null, .null] .null := (f_145.keep K_140 (fun q => ne_b__104_b_133 (List.mem_singleton.mp q)))
    have f_155 : Exa Z T_140.heap b_96 "com/example/dromos/dromos/model/Module$Signature" := (f_143.keep K_140)
    have f_156 : Fld Z T_140.heap b_96 "com/example/dromos/dromos/model/Module$Signature" "arity" "I" (.int ya) := ((((((p_101_0.keep K_104 (fun q => (Ne.symm ne_b_3_b_96) (List.mem_singleton.mp q))).ext E_114).keep K_120 (fun q => ne_b_96_b_114 (List.mem_singleton.mp q))).keep K_123 (by simp only [List.mem_cons, List.not_mem_nil, or_false, not_or]; exact ⟨(Ne.symm ne_b_3_b_96), p_104_6⟩)).ext E_133).keep K_140 (fun q => ne_b_96_b_133 (List.mem_singleton.mp q)))
    have f_157 : Exa Z T_140.heap b_114 "com/example/dromos/dromos/model/Module$Signature" := (f_144.keep K_140)
    have f_158 : Fld Z T_140.heap b_114 "com/example/dromos/dromos/model/Module$Signature" "arity" "I" (.int yb) := (((p_120_0.keep K_123 (by simp only [List.mem_cons, List.not_mem_nil, or_false, not_or]; exact ⟨(Ne.symm ne_b_3_b_114), (Ne.symm ne_b__104_b_114)⟩)).ext E_133).keep K_140 (fun q => ne_b_114_b_133 (List.mem_singleton.mp q)))
    have f_159 : Arv Z T_140.heap dd kd (.object "java/lang/Object") (0 : Int32) [] .null := VD.ext O_147.2
    obtain ⟨cq_150, kq_150, q_150a, q_150b, q_150c⟩ := isOf hZ e_148 f_149
    obtain ⟨_, T_150, Lc_150, X_150, hQ_150, st_150⟩ := own_un X_148 (Q := Qtk2 Z b_133 b_3 b__140 b__104 kb__104 b_96 b_114 ya yb T_140.heap n0) (rc := 1) (rs := 2) (W := fun v B => Steps p.tables e below (T_148.setTop (mkF m 141 #[.val (.int p1), .val (.int p2), .val (.int p3), .val (.int p4), .val (.int p5), .val (.int p6), .val (.int (2 : Int32)), .val (.int lx), .val (.int ya), .val (.int yb), .val (.int yc), .val (.ref b_3), .val (.ref b_133), .val (.int (0 : Int32)), .unset, .unset] [(.ref b_3), (.ref b_133)])) (B.setTop { (mkF m 141 #[.val (.int p1), .val (.int p2), .val (.int p3), .val (.int p4), .val (.int p5), .val (.int p6), .val (.int (2 : Int32)), .val (.int lx), .val (.int ya), .val (.int yb), .val (.int yc), .val (.ref b_3), .val (.ref b_133), .val (.int (0 : Int32)), .unset, .unset] [(.ref b_3), (.ref b_133)]) with pc := 144, stack := v.toList ++ [] })) <| X_148.virtualBack hx (y := (⟨"com/example/dromos/dromos/service/Definition", "takes", "(Ljava/util/List;)V"⟩ : MethodName)) (z := (⟨"com/example/dromos/dromos/service/Definition", "takes", "(Ljava/util/List;)V"⟩ : MethodName)) hown (mvT hZ (hw _ (List.mem_of_getElem? (i := 103) rfl))) (mvT hZ (hw _ (List.mem_of_getElem? (i := 104) rfl))) (notFace_of_selects (args := #[]) (mvT hZ (hw _ (List.mem_of_getElem? (i := 106) rfl)))) (mvT hZ (hw _ (List.mem_of_getElem? (i := 106) rfl))) (mvT hZ (hw _ (List.mem_of_getElem? (i := 105) rfl))) (by decide) (backOf (W := 0) (rmtk2 l Z a0 hw [] b_133 b_3 b__140 b__104 kb__104 b_96 b_114 ya yb T_140.heap n0 z_146 f_149 f_151 p_140_4 f_152 g_b_133 (Ne.symm ne_b_3_b_133) f_153 f_154 (Ne.symm ne_b__104_b_133) f_155 f_156 (Ne.symm ne_b_96_b_133) f_157 f_158 (Ne.symm ne_b_114_b_133)) hZ (hw _ (List.mem_of_getElem? (i := 107) rfl)) (hw _ (List.mem_of_getElem? (i := 76) rfl)) (by decide) (by decide)) q_150a q_150c (g := (mkF m 141 #[.val (.int p1), .val (.int p2), .val (.int p3), .val (.int p4), .val (.int p5), .val (.int p6), .val (.int (2 : Int32)), .val (.int lx), .val (.int ya), .val (.int yb), .val (.int yc), .val (.ref b_3), .val (.ref b_133), .val (.int (0 : Int32)), .unset, .unset] [(.ref b_3), (.ref b_133)])) rfl (by rw [hml]; rfl) (Steps.refl _) (argsL := [(.ref b_3)]) (rest := []) (lenOf pd_10 rfl) rfl (by show 2 * 0 + _ ≤ _; exact Nat.le_of_eq rfl) (hb hby at_141) (fun _ _ => ⟨rfl, e_148, (by decide : 6 + 1 ≤ _), (by decide : 32 + 2 ≤ _)⟩)
    obtain ⟨b__150, kk__150, rfl, N_150q, K_150, gq_b__150, sq_b__150, p_150_0, p_150_1⟩ := hQ_150
    have N_150 := Fr.app N_148 N_150q
    refine OGo.to (fun _ k => st_150.trans k) ?_
    have ne_dd_b__150 : dd ≠ b__150 := Nat.ne_of_lt (Nat.lt_of_lt_of_le f_159.lt sq_b__150)
    have ne_b_3_b__150 : b_3 ≠ b__150 := Nat.ne_of_lt (Nat.lt_of_lt_of_le f_151.lt sq_b__150)
    have ne_b_96_b__150 : b_96 ≠ b__150 := Nat.ne_of_lt (Nat.lt_of_lt_of_le f_155.lt sq_b__150)
    have ne_b_114_b__150 : b_114 ≠ b__150 := Nat.ne_of_lt (Nat.lt_of_lt_of_le f_157.lt sq_b__150)
    have ne_b__104_b__150 : b__104 ≠ b__150 := Nat.ne_of_lt (Nat.lt_of_lt_of_le f_154.lt sq_b__150)
    have ne_b_133_b__150 : b_133 ≠ b__150 := Nat.ne_of_lt (Nat.lt_of_lt_of_le f_149.lt sq_b__150)
    have ne_b__140_b__150 : b__140 ≠ b__150 := Nat.ne_of_lt (Nat.lt_of_lt_of_le p_140_5.lt sq_b__150)
    have z_160 : n0 ≤ T_150.heap.size := Nat.le_trans z_146 K_150.1
    have O_161 : Old Z n0 T_150.heap := O_147.keep K_150 (allS g_b_133 all0)
    show OGo p e below _ (T_150.setTop (mkF m 144 #[.val (.int p1), .val (.int p2), .val (.int p3), .val (.int p4), .val (.int p5), .val (.int p6), .val (.int (2 : Int32)), .val (.int lx), .val (.int ya), .val (.int yb), .val (.int yc), .val (.ref b_3), .val (.ref b_133), .val (.int (0 : Int32)), .unset, .unset] []))
    refine OGo.to (fun _ k => XS.aload X_150.here hx rfl (hb hby at_144) rfl rfl k) ?_
    show OGo p e below _ (T_150.setTop (mkF m 146 #[.val (.int p1), .val (.int p2), .val (.int p3), .val (.int p4), .val (.int p5), .val (.int p6), .val (.int (2 : Int32)), .val (.int lx), .val (.int ya), .val (.int yb), .val (.int yc), .val (.ref b_3), .val (.ref b_133), .val (.int (0 : Int32)), .unset, .unset] [(.ref b_133)]))
    have f_163 : Exa Z T_150.heap b_133 "com/example/dromos/dromos/service/Definition" := (f_149.keep K_150)
    obtain ⟨cq_162, kq_162, q_162a, q_162b, q_162c⟩ := isOf hZ (rfl : T_150.heap = T_150.heap) f_163
    obtain ⟨_, T_162, Lc_162, X_162, hQ_162, st_162⟩ := own_un X_150 (Q := Qop2 Z b_133 b__150 kk__150 ya yb T_150.heap n0) (rc := 0) (rs := 0) (W := fun v B => Steps p.tables e below (T_150.setTop (mkF m 146 #[.val (.int p1), .val (.int p2), .val (.int p3), .val (.int p4), .val (.int p5), .val (.int p6), .val (.int (2 : Int32)), .val (.int lx), .val (.int ya), .val (.int yb), .val (.int yc), .val (.ref b_3), .val (.ref b_133), .val (.int (0 : Int32)), .unset, .unset] [(.ref b_133)])) (B.setTop { (mkF m 146 #[.val (.int p1), .val (.int p2), .val (.int p3), .val (.int p4), .val (.int p5), .val (.int p6), .val (.int (2 : Int32)), .val (.int lx), .val (.int ya), .val (.int yb), .val (.int yc), .val (.ref b_3), .val (.ref b_133), .val (.int (0 : Int32)), .unset, .unset] [(.ref b_133)]) with pc := 149, stack := v.toList ++ [] })) <| X_150.virtualBack hx (y := (⟨"com/example/dromos/dromos/service/Definition", "takesOperators", "()Z"⟩ : MethodName)) (z := (⟨"com/example/dromos/dromos/service/Definition", "takesOperators", "()Z"⟩ : MethodName)) hown (mvT hZ (hw _ (List.mem_of_getElem? (i := 98) rfl))) (mvT hZ (hw _ (List.mem_of_getElem? (i := 99) rfl))) (notFace_of_selects (args := #[]) (mvT hZ (hw _ (List.mem_of_getElem? (i := 101) rfl)))) (mvT hZ (hw _ (List.mem_of_getElem? (i := 101) rfl))) (mvT hZ (hw _ (List.mem_of_getElem? (i := 100) rfl))) (by decide) (backOf (W := 0) (rmop2 l Z a0 hw [] b_133 b__150 kk__150 ya yb T_150.heap n0 z_160 p_150_0 p_150_1) hZ (hw _ (List.mem_of_getElem? (i := 102) rfl)) (hw _ (List.mem_of_getElem? (i := 76) rfl)) (by decide) (by decide)) q_162a q_162c (g := (mkF m 146 #[.val (.int p1), .val (.int p2), .val (.int p3), .val (.int p4), .val (.int p5), .val (.int p6), .val (.int (2 : Int32)), .val (.int lx), .val (.int ya), .val (.int yb), .val (.int yc), .val (.ref b_3), .val (.ref b_133), .val (.int (0 : Int32)), .unset, .unset] [(.ref b_133)])) rfl (by rw [hml]; rfl) (Steps.refl _) (argsL := []) (rest := []) (lenOf pd_9 rfl) rfl (by show 2 * 0 + _ ≤ _; exact Nat.le_of_eq rfl) (hb hby at_146) (fun _ _ => ⟨rfl, (rfl : T_150.heap = T_150.heap), (by decide : 7 + 0 ≤ _), (by decide : 34 + 0 ≤ _)⟩)
    obtain ⟨rfl, N_162q, e_162⟩ := hQ_162
    have N_162 := Fr.app N_150 N_162q
    refine OGo.to (fun _ k => st_162.trans k) ?_
    show OGo p e below _ (T_162.setTop (mkF m 149 #[.val (.int p1), .val (.int p2), .val (.int p3), .val (.int p4), .val (.int p5), .val (.int p6), .val (.int (2 : Int32)), .val (.int lx), .val (.int ya), .val (.int yb), .val (.int yc), .val (.ref b_3), .val (.ref b_133), .val (.int (0 : Int32)), .unset, .unset] [(.int (if (0 : Int32) < ya then (1 : Int32) else (if (0 : Int32) < yb then (1 : Int32) else (0 : Int32))))]))
    refine OGo.to (fun _ k => XS.istore X_162.here hx rfl (hb hby at_149) rfl (l' := #[.val (.int p1), .val (.int p2), .val (.int p3), .val (.int p4), .val (.int p5), .val (.int p6), .val (.int (2 : Int32)), .val (.int lx), .val (.int ya), .val (.int yb), .val (.int yc), .val (.ref b_3), .val (.ref b_133), .val (.int (0 : Int32)), .val (.int (if (0 : Int32) < ya then (1 : Int32) else (if (0 : Int32) < yb then (1 : Int32) else (0 : Int32)))), .unset]) rfl k) ?_
    show OGo p e below _ (T_162.setTop (mkF m 151 #[.val (.int p1), .val (.int p2), .val (.int p3), .val (.int p4), .val (.int p5), .val (.int p6), .val (.int (2 : Int32)), .val (.int lx), .val (.int ya), .val (.int yb), .val (.int yc), .val (.ref b_3), .val (.ref b_133), .val (.int (0 : Int32)), .val (.int (if (0 : Int32) < ya then (1 : Int32) else (if (0 : Int32) < yb then (1 : Int32) else (0 : Int32)))), .unset] []))
    refine OGo.to (fun _ k => XS.iconst X_162.here hx rfl (hb hby at_151) k) ?_
    show OGo p e below _ (T_162.setTop (mkF m 152 #[.val (.int p1), .val (.int p2), .val (.int p3), .val (.int p4), .val (.int p5), .val (.int p6), .val (.int (2 : Int32)), .val (.int lx), .val (.int ya), .val (.int yb), .val (.int yc), .val (.ref b_3), .val (.ref b_133), .val (.int (0 : Int32)), .val (.int (if (0 : Int32) < ya then (1 : Int32) else (if (0 : Int32) < yb then (1 : Int32) else (0 : Int32)))), .unset] [(.int (0 : Int32))]))
    refine OGo.to (fun _ k => XS.istore X_162.here hx rfl (hb hby at_152) rfl (l' := #[.val (.int p1), .val (.int p2), .val (.int p3), .val (.int p4), .val (.int p5), .val (.int p6), .val (.int (2 : Int32)), .val (.int lx), .val (.int ya), .val (.int yb), .val (.int yc), .val (.ref b_3), .val (.ref b_133), .val (.int (0 : Int32)), .val (.int (if (0 : Int32) < ya then (1 : Int32) else (if (0 : Int32) < yb then (1 : Int32) else (0 : Int32)))), .val (.int (0 : Int32))]) rfl k) ?_
    show OGo p e below _ (T_162.setTop (mkF m 154 #[.val (.int p1), .val (.int p2), .val (.int p3), .val (.int p4), .val (.int p5), .val (.int p6), .val (.int (2 : Int32)), .val (.int lx), .val (.int ya), .val (.int yb), .val (.int yc), .val (.ref b_3), .val (.ref b_133), .val (.int (0 : Int32)), .val (.int (if (0 : Int32) < ya then (1 : Int32) else (if (0 : Int32) < yb then (1 : Int32) else (0 : Int32)))), .val (.int (0 : Int32))] []))
    refine OGo.to (fun _ k => XS.iload X_162.here hx rfl (hb hby at_154) rfl k) ?_
    show OGo p e below _ (T_162.setTop (mkF m 156 #[.val (.int p1), .val (.int p2), .val (.int p3), .val (.int p4), .val (.int p5), .val (.int p6), .val (.int (2 : Int32)), .val (.int lx), .val (.int ya), .val (.int yb), .val (.int yc), .val (.ref b_3), .val (.ref b_133), .val (.int (0 : Int32)), .val (.int (if (0 : Int32) < ya then (1 : Int32) else (if (0 : Int32) < yb then (1 : Int32) else (0 : Int32)))), .val (.int (0 : Int32))] [(.int (2 : Int32))]))
    refine OGo.to (fun _ k => XS.iconst X_162.here hx rfl (hb hby at_156) k) ?_
    show OGo p e below _ (T_162.setTop (mkF m 157 #[.val (.int p1), .val (.int p2), .val (.int p3), .val (.int p4), .val (.int p5), .val (.int p6), .val (.int (2 : Int32)), .val (.int lx), .val (.int ya), .val (.int yb), .val (.int yc), .val (.ref b_3), .val (.ref b_133), .val (.int (0 : Int32)), .val (.int (if (0 : Int32) < ya then (1 : Int32) else (if (0 : Int32) < yb then (1 : Int32) else (0 : Int32)))), .val (.int (0 : Int32))] [(.int (1 : Int32)), (.int (2 : Int32))]))
    have hc157__164 : ¬ ((2 : Int32) < (1 : Int32)) := by decide
    refine OGo.to (fun _ k => XS.icmpNo X_162.here hx rfl (hb hby at_157) rfl (flt hc157__164).1 k) ?_
    show OGo p e below _ (T_162.setTop (mkF m 160 #[.val (.int p1), .val (.int p2), .val (.int p3), .val (.int p4), .val (.int p5), .val (.int p6), .val (.int (2 : Int32)), .val (.int lx), .val (.int ya), .val (.int yb), .val (.int yc), .val (.ref b_3), .val (.ref b_133), .val (.int (0 : Int32)), .val (.int (if (0 : Int32) < ya then (1 : Int32) else (if (0 : Int32) < yb then (1 : Int32) else (0 : Int32)))), .val (.int (0 : Int32))] []))
    refine OGo.to (fun _ k => XS.iload X_162.here hx rfl (hb hby at_160) rfl k) ?_
    show OGo p e below _ (T_162.setTop (mkF m 162 #[.val (.int p1), .val (.int p2), .val (.int p3), .val (.int p4), .val (.int p5), .val (.int p6), .val (.int (2 : Int32)), .val (.int lx), .val (.int ya), .val (.int yb), .val (.int yc), .val (.ref b_3), .val (.ref b_133), .val (.int (0 : Int32)), .val (.int (if (0 : Int32) < ya then (1 : Int32) else (if (0 : Int32) < yb then (1 : Int32) else (0 : Int32)))), .val (.int (0 : Int32))] [(.int ya)]))
    by_cases hc162__165 : (0 : Int32) < ya
    ·  -- pc 162: yes
      refine OGo.to (fun _ k => XS.ifNo X_162.here hx rfl (hb hby at_162) rfl ((if0 _ _).trans (tlt hc162__165).2.2.2) k) ?_
      show OGo p e below _ (T_162.setTop (mkF m 165 #[.val (.int p1), .val (.int p2), .val (.int p3), .val (.int p4), .val (.int p5), .val (.int p6), .val (.int (2 : Int32)), .val (.int lx), .val (.int ya), .val (.int yb), .val (.int yc), .val (.ref b_3), .val (.ref b_133), .val (.int (0 : Int32)), .val (.int (if (0 : Int32) < ya then (1 : Int32) else (if (0 : Int32) < yb then (1 : Int32) else (0 : Int32)))), .val (.int (0 : Int32))] []))
      refine OGo.to (fun _ k => XS.iconst X_162.here hx rfl (hb hby at_165) k) ?_
      show OGo p e below _ (T_162.setTop (mkF m 166 #[.val (.int p1), .val (.int p2), .val (.int p3), .val (.int p4), .val (.int p5), .val (.int p6), .val (.int (2 : Int32)), .val (.int lx), .val (.int ya), .val (.int yb), .val (.int yc), .val (.ref b_3), .val (.ref b_133), .val (.int (0 : Int32)), .val (.int (if (0 : Int32) < ya then (1 : Int32) else (if (0 : Int32) < yb then (1 : Int32) else (0 : Int32)))), .val (.int (0 : Int32))] [(.int (1 : Int32))]))
      refine OGo.to (fun _ k => XS.istore X_162.here hx rfl (hb hby at_166) rfl (l' := #[.val (.int p1), .val (.int p2), .val (.int p3), .val (.int p4), .val (.int p5), .val (.int p6), .val (.int (2 : Int32)), .val (.int lx), .val (.int ya), .val (.int yb), .val (.int yc), .val (.ref b_3), .val (.ref b_133), .val (.int (0 : Int32)), .val (.int (if (0 : Int32) < ya then (1 : Int32) else (if (0 : Int32) < yb then (1 : Int32) else (0 : Int32)))), .val (.int (1 : Int32))]) rfl k) ?_
      show OGo p e below _ (T_162.setTop (mkF m 168 #[.val (.int p1), .val (.int p2), .val (.int p3), .val (.int p4), .val (.int p5), .val (.int p6), .val (.int (2 : Int32)), .val (.int lx), .val (.int ya), .val (.int yb), .val (.int yc), .val (.ref b_3), .val (.ref b_133), .val (.int (0 : Int32)), .val (.int (if (0 : Int32) < ya then (1 : Int32) else (if (0 : Int32) < yb then (1 : Int32) else (0 : Int32)))), .val (.int (1 : Int32))] []))
      refine OGo.to (fun _ k => XS.iload X_162.here hx rfl (hb hby at_168) rfl k) ?_
      show OGo p e below _ (T_162.setTop (mkF m 170 #[.val (.int p1), .val (.int p2), .val (.int p3), .val (.int p4), .val (.int p5), .val (.int p6), .val (.int (2 : Int32)), .val (.int lx), .val (.int ya), .val (.int yb), .val (.int yc), .val (.ref b_3), .val (.ref b_133), .val (.int (0 : Int32)), .val (.int (if (0 : Int32) < ya then (1 : Int32) else (if (0 : Int32) < yb then (1 : Int32) else (0 : Int32)))), .val (.int (1 : Int32))] [(.int (2 : Int32))]))
      refine OGo.to (fun _ k => XS.iconst X_162.here hx rfl (hb hby at_170) k) ?_
      show OGo p e below _ (T_162.setTop (mkF m 171 #[.val (.int p1), .val (.int p2), .val (.int p3), .val (.int p4), .val (.int p5), .val (.int p6), .val (.int (2 : Int32)), .val (.int lx), .val (.int ya), .val (.int yb), .val (.int yc), .val (.ref b_3), .val (.ref b_133), .val (.int (0 : Int32)), .val (.int (if (0 : Int32) < ya then (1 : Int32) else (if (0 : Int32) < yb then (1 : Int32) else (0 : Int32)))), .val (.int (1 : Int32))] [(.int (2 : Int32)), (.int (2 : Int32))]))
      have hc171__166 : ¬ ((2 : Int32) < (2 : Int32)) := by decide
      refine OGo.to (fun _ k => XS.icmpNo X_162.here hx rfl (hb hby at_171) rfl (flt hc171__166).1 k) ?_
      show OGo p e below _ (T_162.setTop (mkF m 174 #[.val (.int p1), .val (.int p2), .val (.int p3), .val (.int p4), .val (.int p5), .val (.int p6), .val (.int (2 : Int32)), .val (.int lx), .val (.int ya), .val (.int yb), .val (.int yc), .val (.ref b_3), .val (.ref b_133), .val (.int (0 : Int32)), .val (.int (if (0 : Int32) < ya then (1 : Int32) else (if (0 : Int32) < yb then (1 : Int32) else (0 : Int32)))), .val (.int (1 : Int32))] []))
      refine OGo.to (fun _ k => XS.iload X_162.here hx rfl (hb hby at_174) rfl k) ?_
      show OGo p e below _ (T_162.setTop (mkF m 176 #[.val (.int p1), .val (.int p2), .val (.int p3), .val (.int p4), .val (.int p5), .val (.int p6), .val (.int (2 : Int32)), .val (.int lx), .val (.int ya), .val (.int yb), .val (.int yc), .val (.ref b_3), .val (.ref b_133), .val (.int (0 : Int32)), .val (.int (if (0 : Int32) < ya then (1 : Int32) else (if (0 : Int32) < yb then (1 : Int32) else (0 : Int32)))), .val (.int (1 : Int32))] [(.int yb)]))
      by_cases hc176__167 : (0 : Int32) < yb
      ·  -- pc 176: yes
        refine OGo.to (fun _ k => XS.ifNo X_162.here hx rfl (hb hby at_176) rfl ((if0 _ _).trans (tlt hc176__167).2.2.2) k) ?_
        show OGo p e below _ (T_162.setTop (mkF m 179 #[.val (.int p1), .val (.int p2), .val (.int p3), .val (.int p4), .val (.int p5), .val (.int p6), .val (.int (2 : Int32)), .val (.int lx), .val (.int ya), .val (.int yb), .val (.int yc), .val (.ref b_3), .val (.ref b_133), .val (.int (0 : Int32)), .val (.int (if (0 : Int32) < ya then (1 : Int32) else (if (0 : Int32) < yb then (1 : Int32) else (0 : Int32)))), .val (.int (1 : Int32))] []))
        refine OGo.to (fun _ k => XS.iconst X_162.here hx rfl (hb hby at_179) k) ?_
        show OGo p e below _ (T_162.setTop (mkF m 180 #[.val (.int p1), .val (.int p2), .val (.int p3), .val (.int p4), .val (.int p5), .val (.int p6), .val (.int (2 : Int32)), .val (.int lx), .val (.int ya), .val (.int yb), .val (.int yc), .val (.ref b_3), .val (.ref b_133), .val (.int (0 : Int32)), .val (.int (if (0 : Int32) < ya then (1 : Int32) else (if (0 : Int32) < yb then (1 : Int32) else (0 : Int32)))), .val (.int (1 : Int32))] [(.int (1 : Int32))]))
        refine OGo.to (fun _ k => XS.istore X_162.here hx rfl (hb hby at_180) rfl (l' := #[.val (.int p1), .val (.int p2), .val (.int p3), .val (.int p4), .val (.int p5), .val (.int p6), .val (.int (2 : Int32)), .val (.int lx), .val (.int ya), .val (.int yb), .val (.int yc), .val (.ref b_3), .val (.ref b_133), .val (.int (0 : Int32)), .val (.int (if (0 : Int32) < ya then (1 : Int32) else (if (0 : Int32) < yb then (1 : Int32) else (0 : Int32)))), .val (.int (1 : Int32))]) rfl k) ?_
        show OGo p e below _ (T_162.setTop (mkF m 182 #[.val (.int p1), .val (.int p2), .val (.int p3), .val (.int p4), .val (.int p5), .val (.int p6), .val (.int (2 : Int32)), .val (.int lx), .val (.int ya), .val (.int yb), .val (.int yc), .val (.ref b_3), .val (.ref b_133), .val (.int (0 : Int32)), .val (.int (if (0 : Int32) < ya then (1 : Int32) else (if (0 : Int32) < yb then (1 : Int32) else (0 : Int32)))), .val (.int (1 : Int32))] []))
        refine OGo.to (fun _ k => XS.iload X_162.here hx rfl (hb hby at_182) rfl k) ?_
        show OGo p e below _ (T_162.setTop (mkF m 184 #[.val (.int p1), .val (.int p2), .val (.int p3), .val (.int p4), .val (.int p5), .val (.int p6), .val (.int (2 : Int32)), .val (.int lx), .val (.int ya), .val (.int yb), .val (.int yc), .val (.ref b_3), .val (.ref b_133), .val (.int (0 : Int32)), .val (.int (if (0 : Int32) < ya then (1 : Int32) else (if (0 : Int32) < yb then (1 : Int32) else (0 : Int32)))), .val (.int (1 : Int32))] [(.int (2 : Int32))]))
        refine OGo.to (fun _ k => XS.iconst X_162.here hx rfl (hb hby at_184) k) ?_
        show OGo p e below _ (T_162.setTop (mkF m 185 #[.val (.int p1), .val (.int p2), .val (.int p3), .val (.int p4), .val (.int p5), .val (.int p6), .val (.int (2 : Int32)), .val (.int lx), .val (.int ya), .val (.int yb), .val (.int yc), .val (.ref b_3), .val (.ref b_133), .val (.int (0 : Int32)), .val (.int (if (0 : Int32) < ya then (1 : Int32) else (if (0 : Int32) < yb then (1 : Int32) else (0 : Int32)))), .val (.int (1 : Int32))] [(.int (3 : Int32)), (.int (2 : Int32))]))
        have hc185__168 : (2 : Int32) < (3 : Int32) := by decide
        refine OGo.to (fun _ k => XS.icmpYes X_162.here hx rfl (pc0 := 185) (pc' := 196) rfl (hb hby at_185) rfl (tlt hc185__168).1 (by decide) (by decide) k) ?_
        show OGo p e below _ (T_162.setTop (mkF m 196 #[.val (.int p1), .val (.int p2), .val (.int p3), .val (.int p4), .val (.int p5), .val (.int p6), .val (.int (2 : Int32)), .val (.int lx), .val (.int ya), .val (.int yb), .val (.int yc), .val (.ref b_3), .val (.ref b_133), .val (.int (0 : Int32)), .val (.int (if (0 : Int32) < ya then (1 : Int32) else (if (0 : Int32) < yb then (1 : Int32) else (0 : Int32)))), .val (.int (1 : Int32))] []))
        refine OGo.to (fun _ k => XS.iload X_162.here hx rfl (hb hby at_196) rfl k) ?_
        show OGo p e below _ (T_162.setTop (mkF m 198 #[.val (.int p1), .val (.int p2), .val (.int p3), .val (.int p4), .val (.int p5), .val (.int p6), .val (.int (2 : Int32)), .val (.int lx), .val (.int ya), .val (.int yb), .val (.int yc), .val (.ref b_3), .val (.ref b_133), .val (.int (0 : Int32)), .val (.int (if (0 : Int32) < ya then (1 : Int32) else (if (0 : Int32) < yb then (1 : Int32) else (0 : Int32)))), .val (.int (1 : Int32))] [(.int (0 : Int32))]))
        have hc198__169 : (0 : Int32) = (0 : Int32) := by decide
        refine OGo.to (fun _ k => XS.ifNo X_162.here hx rfl (hb hby at_198) rfl ((if0 _ _).trans (teq hc198__169).2) k) ?_
        show OGo p e below _ (T_162.setTop (mkF m 201 #[.val (.int p1), .val (.int p2), .val (.int p3), .val (.int p4), .val (.int p5), .val (.int p6), .val (.int (2 : Int32)), .val (.int lx), .val (.int ya), .val (.int yb), .val (.int yc), .val (.ref b_3), .val (.ref b_133), .val (.int (0 : Int32)), .val (.int (if (0 : Int32) < ya then (1 : Int32) else (if (0 : Int32) < yb then (1 : Int32) else (0 : Int32)))), .val (.int (1 : Int32))] []))
        refine OGo.to (fun _ k => XS.iload X_162.here hx rfl (hb hby at_201) rfl k) ?_
        show OGo p e below _ (T_162.setTop (mkF m 203 #[.val (.int p1), .val (.int p2), .val (.int p3), .val (.int p4), .val (.int p5), .val (.int p6), .val (.int (2 : Int32)), .val (.int lx), .val (.int ya), .val (.int yb), .val (.int yc), .val (.ref b_3), .val (.ref b_133), .val (.int (0 : Int32)), .val (.int (if (0 : Int32) < ya then (1 : Int32) else (if (0 : Int32) < yb then (1 : Int32) else (0 : Int32)))), .val (.int (1 : Int32))] [(.int (if (0 : Int32) < ya then (1 : Int32) else (if (0 : Int32) < yb then (1 : Int32) else (0 : Int32))))]))
        refine OGo.to (fun _ k => XS.iload X_162.here hx rfl (hb hby at_203) rfl k) ?_
        show OGo p e below _ (T_162.setTop (mkF m 205 #[.val (.int p1), .val (.int p2), .val (.int p3), .val (.int p4), .val (.int p5), .val (.int p6), .val (.int (2 : Int32)), .val (.int lx), .val (.int ya), .val (.int yb), .val (.int yc), .val (.ref b_3), .val (.ref b_133), .val (.int (0 : Int32)), .val (.int (if (0 : Int32) < ya then (1 : Int32) else (if (0 : Int32) < yb then (1 : Int32) else (0 : Int32)))), .val (.int (1 : Int32))] [(.int (1 : Int32)), (.int (if (0 : Int32) < ya then (1 : Int32) else (if (0 : Int32) < yb then (1 : Int32) else (0 : Int32))))]))
        have hc205__170 : (if (0 : Int32) < ya then (1 : Int32) else (if (0 : Int32) < yb then (1 : Int32) else (0 : Int32))) = (1 : Int32) := by rw [if_pos hc162__165]
        refine OGo.to (fun _ k => XS.icmpNo X_162.here hx rfl (hb hby at_205) rfl (teq hc205__170).2 k) ?_
        show OGo p e below _ (T_162.setTop (mkF m 208 #[.val (.int p1), .val (.int p2), .val (.int p3), .val (.int p4), .val (.int p5), .val (.int p6), .val (.int (2 : Int32)), .val (.int lx), .val (.int ya), .val (.int yb), .val (.int yc), .val (.ref b_3), .val (.ref b_133), .val (.int (0 : Int32)), .val (.int (if (0 : Int32) < ya then (1 : Int32) else (if (0 : Int32) < yb then (1 : Int32) else (0 : Int32)))), .val (.int (1 : Int32))] []))
        refine OGo.to (fun _ k => XS.iconst X_162.here hx rfl (hb hby at_208) k) ?_
        show OGo p e below _ (T_162.setTop (mkF m 209 #[.val (.int p1), .val (.int p2), .val (.int p3), .val (.int p4), .val (.int p5), .val (.int p6), .val (.int (2 : Int32)), .val (.int lx), .val (.int ya), .val (.int yb), .val (.int yc), .val (.ref b_3), .val (.ref b_133), .val (.int (0 : Int32)), .val (.int (if (0 : Int32) < ya then (1 : Int32) else (if (0 : Int32) < yb then (1 : Int32) else (0 : Int32)))), .val (.int (1 : Int32))] [(.int (1 : Int32))]))
        refine OGo.to (fun _ k => XS.goto X_162.here hx rfl (pc0 := 209) (pc' := 213) rfl (hb hby at_209) (by decide) (by decide) k) ?_
        show OGo p e below _ (T_162.setTop (mkF m 213 #[.val (.int p1), .val (.int p2), .val (.int p3), .val (.int p4), .val (.int p5), .val (.int p6), .val (.int (2 : Int32)), .val (.int lx), .val (.int ya), .val (.int yb), .val (.int yc), .val (.ref b_3), .val (.ref b_133), .val (.int (0 : Int32)), .val (.int (if (0 : Int32) < ya then (1 : Int32) else (if (0 : Int32) < yb then (1 : Int32) else (0 : Int32)))), .val (.int (1 : Int32))] [(.int (1 : Int32))]))
        refine OGo.ret (Q := Q0 Z p1 p2 p3 p4 p5 p6 dd kd h0 n0) X_162 (some (.int (1 : Int32))) (fun h => by rw [Bd.returns] at h; cases h) Bd.notSynchronized (fun fs hr => retN X_162 hx (t := .boolean) (z := (1 : Int32)) Bd.returns (by simp) (hb hby at_213) hr) ?_ (by decide) (by decide)
        show Q0 Z p1 p2 p3 p4 p5 p6 dd kd h0 n0 _ T_162.heap _
        rw [e_162]
        exact ⟨rfl, N_162⟩
      ·  -- pc 176: no
        refine OGo.to (fun _ k => XS.ifYes X_162.here hx rfl (pc0 := 176) (pc' := 182) rfl (hb hby at_176) rfl ((if0 _ _).trans (flt hc176__167).2.2.2) (by decide) (by decide) k) ?_
        show OGo p e below _ (T_162.setTop (mkF m 182 #[.val (.int p1), .val (.int p2), .val (.int p3), .val (.int p4), .val (.int p5), .val (.int p6), .val (.int (2 : Int32)), .val (.int lx), .val (.int ya), .val (.int yb), .val (.int yc), .val (.ref b_3), .val (.ref b_133), .val (.int (0 : Int32)), .val (.int (if (0 : Int32) < ya then (1 : Int32) else (if (0 : Int32) < yb then (1 : Int32) else (0 : Int32)))), .val (.int (1 : Int32))] []))
        refine OGo.to (fun _ k => XS.iload X_162.here hx rfl (hb hby at_182) rfl k) ?_
        show OGo p e below _ (T_162.setTop (mkF m 184 #[.val (.int p1), .val (.int p2), .val (.int p3), .val (.int p4), .val (.int p5), .val (.int p6), .val (.int (2 : Int32)), .val (.int lx), .val (.int ya), .val (.int yb), .val (.int yc), .val (.ref b_3), .val (.ref b_133), .val (.int (0 : Int32)), .val (.int (if (0 : Int32) < ya then (1 : Int32) else (if (0 : Int32) < yb then (1 : Int32) else (0 : Int32)))), .val (.int (1 : Int32))] [(.int (2 : Int32))]))
        refine OGo.to (fun _ k => XS.iconst X_162.here hx rfl (hb hby at_184) k) ?_
        show OGo p e below _ (T_162.setTop (mkF m 185 #[.val (.int p1), .val (.int p2), .val (.int p3), .val (.int p4), .val (.int p5), .val (.int p6), .val (.int (2 : Int32)), .val (.int lx), .val (.int ya), .val (.int yb), .val (.int yc), .val (.ref b_3), .val (.ref b_133), .val (.int (0 : Int32)), .val (.int (if (0 : Int32) < ya then (1 : Int32) else (if (0 : Int32) < yb then (1 : Int32) else (0 : Int32)))), .val (.int (1 : Int32))] [(.int (3 : Int32)), (.int (2 : Int32))]))
        have hc185__171 : (2 : Int32) < (3 : Int32) := by decide
        refine OGo.to (fun _ k => XS.icmpYes X_162.here hx rfl (pc0 := 185) (pc' := 196) rfl (hb hby at_185) rfl (tlt hc185__171).1 (by decide) (by decide) k) ?_
        show OGo p e below _ (T_162.setTop (mkF m 196 #[.val (.int p1), .val (.int p2), .val (.int p3), .val (.int p4), .val (.int p5), .val (.int p6), .val (.int (2 : Int32)), .val (.int lx), .val (.int ya), .val (.int yb), .val (.int yc), .val (.ref b_3), .val (.ref b_133), .val (.int (0 : Int32)), .val (.int (if (0 : Int32) < ya then (1 : Int32) else (if (0 : Int32) < yb then (1 : Int32) else (0 : Int32)))), .val (.int (1 : Int32))] []))
        refine OGo.to (fun _ k => XS.iload X_162.here hx rfl (hb hby at_196) rfl k) ?_
        show OGo p e below _ (T_162.setTop (mkF m 198 #[.val (.int p1), .val (.int p2), .val (.int p3), .val (.int p4), .val (.int p5), .val (.int p6), .val (.int (2 : Int32)), .val (.int lx), .val (.int ya), .val (.int yb), .val (.int yc), .val (.ref b_3), .val (.ref b_133), .val (.int (0 : Int32)), .val (.int (if (0 : Int32) < ya then (1 : Int32) else (if (0 : Int32) < yb then (1 : Int32) else (0 : Int32)))), .val (.int (1 : Int32))] [(.int (0 : Int32))]))
        have hc198__172 : (0 : Int32) = (0 : Int32) := by decide
        refine OGo.to (fun _ k => XS.ifNo X_162.here hx rfl (hb hby at_198) rfl ((if0 _ _).trans (teq hc198__172).2) k) ?_
        show OGo p e below _ (T_162.setTop (mkF m 201 #[.val (.int p1), .val (.int p2), .val (.int p3), .val (.int p4), .val (.int p5), .val (.int p6), .val (.int (2 : Int32)), .val (.int lx), .val (.int ya), .val (.int yb), .val (.int yc), .val (.ref b_3), .val (.ref b_133), .val (.int (0 : Int32)), .val (.int (if (0 : Int32) < ya then (1 : Int32) else (if (0 : Int32) < yb then (1 : Int32) else (0 : Int32)))), .val (.int (1 : Int32))] []))
        refine OGo.to (fun _ k => XS.iload X_162.here hx rfl (hb hby at_201) rfl k) ?_
        show OGo p e below _ (T_162.setTop (mkF m 203 #[.val (.int p1), .val (.int p2), .val (.int p3), .val (.int p4), .val (.int p5), .val (.int p6), .val (.int (2 : Int32)), .val (.int lx), .val (.int ya), .val (.int yb), .val (.int yc), .val (.ref b_3), .val (.ref b_133), .val (.int (0 : Int32)), .val (.int (if (0 : Int32) < ya then (1 : Int32) else (if (0 : Int32) < yb then (1 : Int32) else (0 : Int32)))), .val (.int (1 : Int32))] [(.int (if (0 : Int32) < ya then (1 : Int32) else (if (0 : Int32) < yb then (1 : Int32) else (0 : Int32))))]))
        refine OGo.to (fun _ k => XS.iload X_162.here hx rfl (hb hby at_203) rfl k) ?_
        show OGo p e below _ (T_162.setTop (mkF m 205 #[.val (.int p1), .val (.int p2), .val (.int p3), .val (.int p4), .val (.int p5), .val (.int p6), .val (.int (2 : Int32)), .val (.int lx), .val (.int ya), .val (.int yb), .val (.int yc), .val (.ref b_3), .val (.ref b_133), .val (.int (0 : Int32)), .val (.int (if (0 : Int32) < ya then (1 : Int32) else (if (0 : Int32) < yb then (1 : Int32) else (0 : Int32)))), .val (.int (1 : Int32))] [(.int (1 : Int32)), (.int (if (0 : Int32) < ya then (1 : Int32) else (if (0 : Int32) < yb then (1 : Int32) else (0 : Int32))))]))
        have hc205__173 : (if (0 : Int32) < ya then (1 : Int32) else (if (0 : Int32) < yb then (1 : Int32) else (0 : Int32))) = (1 : Int32) := by rw [if_pos hc162__165]
        refine OGo.to (fun _ k => XS.icmpNo X_162.here hx rfl (hb hby at_205) rfl (teq hc205__173).2 k) ?_
        show OGo p e below _ (T_162.setTop (mkF m 208 #[.val (.int p1), .val (.int p2), .val (.int p3), .val (.int p4), .val (.int p5), .val (.int p6), .val (.int (2 : Int32)), .val (.int lx), .val (.int ya), .val (.int yb), .val (.int yc), .val (.ref b_3), .val (.ref b_133), .val (.int (0 : Int32)), .val (.int (if (0 : Int32) < ya then (1 : Int32) else (if (0 : Int32) < yb then (1 : Int32) else (0 : Int32)))), .val (.int (1 : Int32))] []))
        refine OGo.to (fun _ k => XS.iconst X_162.here hx rfl (hb hby at_208) k) ?_
        show OGo p e below _ (T_162.setTop (mkF m 209 #[.val (.int p1), .val (.int p2), .val (.int p3), .val (.int p4), .val (.int p5), .val (.int p6), .val (.int (2 : Int32)), .val (.int lx), .val (.int ya), .val (.int yb), .val (.int yc), .val (.ref b_3), .val (.ref b_133), .val (.int (0 : Int32)), .val (.int (if (0 : Int32) < ya then (1 : Int32) else (if (0 : Int32) < yb then (1 : Int32) else (0 : Int32)))), .val (.int (1 : Int32))] [(.int (1 : Int32))]))
        refine OGo.to (fun _ k => XS.goto X_162.here hx rfl (pc0 := 209) (pc' := 213) rfl (hb hby at_209) (by decide) (by decide) k) ?_
        show OGo p e below _ (T_162.setTop (mkF m 213 #[.val (.int p1), .val (.int p2), .val (.int p3), .val (.int p4), .val (.int p5), .val (.int p6), .val (.int (2 : Int32)), .val (.int lx), .val (.int ya), .val (.int yb), .val (.int yc), .val (.ref b_3), .val (.ref b_133), .val (.int (0 : Int32)), .val (.int (if (0 : Int32) < ya then (1 : Int32) else (if (0 : Int32) < yb then (1 : Int32) else (0 : Int32)))), .val (.int (1 : Int32))] [(.int (1 : Int32))]))
        refine OGo.ret (Q := Q0 Z p1 p2 p3 p4 p5 p6 dd kd h0 n0) X_162 (some (.int (1 : Int32))) (fun h => by rw [Bd.returns] at h; cases h) Bd.notSynchronized (fun fs hr => retN X_162 hx (t := .boolean) (z := (1 : Int32)) Bd.returns (by simp) (hb hby at_213) hr) ?_ (by decide) (by decide)
        show Q0 Z p1 p2 p3 p4 p5 p6 dd kd h0 n0 _ T_162.heap _
        rw [e_162]
        exact ⟨rfl, N_162⟩
    ·  -- pc 162: no
      refine OGo.to (fun _ k => XS.ifYes X_162.here hx rfl (pc0 := 162) (pc' := 168) rfl (hb hby at_162) rfl ((if0 _ _).trans (flt hc162__165).2.2.2) (by decide) (by decide) k) ?_
      show OGo p e below _ (T_162.setTop (mkF m 168 #[.val (.int p1), .val (.int p2), .val (.int p3), .val (.int p4), .val (.int p5), .val (.int p6), .val (.int (2 : Int32)), .val (.int lx), .val (.int ya), .val (.int yb), .val (.int yc), .val (.ref b_3), .val (.ref b_133), .val (.int (0 : Int32)), .val (.int (if (0 : Int32) < ya then (1 : Int32) else (if (0 : Int32) < yb then (1 : Int32) else (0 : Int32)))), .val (.int (0 : Int32))] []))
      refine OGo.to (fun _ k => XS.iload X_162.here hx rfl (hb hby at_168) rfl k) ?_
      show OGo p e below _ (T_162.setTop (mkF m 170 #[.val (.int p1), .val (.int p2), .val (.int p3), .val (.int p4), .val (.int p5), .val (.int p6), .val (.int (2 : Int32)), .val (.int lx), .val (.int ya), .val (.int yb), .val (.int yc), .val (.ref b_3), .val (.ref b_133), .val (.int (0 : Int32)), .val (.int (if (0 : Int32) < ya then (1 : Int32) else (if (0 : Int32) < yb then (1 : Int32) else (0 : Int32)))), .val (.int (0 : Int32))] [(.int (2 : Int32))]))
      refine OGo.to (fun _ k => XS.iconst X_162.here hx rfl (hb hby at_170) k) ?_
      show OGo p e below _ (T_162.setTop (mkF m 171 #[.val (.int p1), .val (.int p2), .val (.int p3), .val (.int p4), .val (.int p5), .val (.int p6), .val (.int (2 : Int32)), .val (.int lx), .val (.int ya), .val (.int yb), .val (.int yc), .val (.ref b_3), .val (.ref b_133), .val (.int (0 : Int32)), .val (.int (if (0 : Int32) < ya then (1 : Int32) else (if (0 : Int32) < yb then (1 : Int32) else (0 : Int32)))), .val (.int (0 : Int32))] [(.int (2 : Int32)), (.int (2 : Int32))]))
      have hc171__174 : ¬ ((2 : Int32) < (2 : Int32)) := by decide
      refine OGo.to (fun _ k => XS.icmpNo X_162.here hx rfl (hb hby at_171) rfl (flt hc171__174).1 k) ?_
      show OGo p e below _ (T_162.setTop (mkF m 174 #[.val (.int p1), .val (.int p2), .val (.int p3), .val (.int p4), .val (.int p5), .val (.int p6), .val (.int (2 : Int32)), .val (.int lx), .val (.int ya), .val (.int yb), .val (.int yc), .val (.ref b_3), .val (.ref b_133), .val (.int (0 : Int32)), .val (.int (if (0 : Int32) < ya then (1 : Int32) else (if (0 : Int32) < yb then (1 : Int32) else (0 : Int32)))), .val (.int (0 : Int32))] []))
      refine OGo.to (fun _ k => XS.iload X_162.here hx rfl (hb hby at_174) rfl k) ?_
      show OGo p e below _ (T_162.setTop (mkF m 176 #[.val (.int p1), .val (.int p2), .val (.int p3), .val (.int p4), .val (.int p5), .val (.int p6), .val (.int (2 : Int32)), .val (.int lx), .val (.int ya), .val (.int yb), .val (.int yc), .val (.ref b_3), .val (.ref b_133), .val (.int (0 : Int32)), .val (.int (if (0 : Int32) < ya then (1 : Int32) else (if (0 : Int32) < yb then (1 : Int32) else (0 : Int32)))), .val (.int (0 : Int32))] [(.int yb)]))
      by_cases hc176__175 : (0 : Int32) < yb
      ·  -- pc 176: yes
        refine OGo.to (fun _ k => XS.ifNo X_162.here hx rfl (hb hby at_176) rfl ((if0 _ _).trans (tlt hc176__175).2.2.2) k) ?_
        show OGo p e below _ (T_162.setTop (mkF m 179 #[.val (.int p1), .val (.int p2), .val (.int p3), .val (.int p4), .val (.int p5), .val (.int p6), .val (.int (2 : Int32)), .val (.int lx), .val (.int ya), .val (.int yb), .val (.int yc), .val (.ref b_3), .val (.ref b_133), .val (.int (0 : Int32)), .val (.int (if (0 : Int32) < ya then (1 : Int32) else (if (0 : Int32) < yb then (1 : Int32) else (0 : Int32)))), .val (.int (0 : Int32))] []))
        refine OGo.to (fun _ k => XS.iconst X_162.here hx rfl (hb hby at_179) k) ?_
        show OGo p e below _ (T_162.setTop (mkF m 180 #[.val (.int p1), .val (.int p2), .val (.int p3), .val (.int p4), .val (.int p5), .val (.int p6), .val (.int (2 : Int32)), .val (.int lx), .val (.int ya), .val (.int yb), .val (.int yc), .val (.ref b_3), .val (.ref b_133), .val (.int (0 : Int32)), .val (.int (if (0 : Int32) < ya then (1 : Int32) else (if (0 : Int32) < yb then (1 : Int32) else (0 : Int32)))), .val (.int (0 : Int32))] [(.int (1 : Int32))]))
        refine OGo.to (fun _ k => XS.istore X_162.here hx rfl (hb hby at_180) rfl (l' := #[.val (.int p1), .val (.int p2), .val (.int p3), .val (.int p4), .val (.int p5), .val (.int p6), .val (.int (2 : Int32)), .val (.int lx), .val (.int ya), .val (.int yb), .val (.int yc), .val (.ref b_3), .val (.ref b_133), .val (.int (0 : Int32)), .val (.int (if (0 : Int32) < ya then (1 : Int32) else (if (0 : Int32) < yb then (1 : Int32) else (0 : Int32)))), .val (.int (1 : Int32))]) rfl k) ?_
        show OGo p e below _ (T_162.setTop (mkF m 182 #[.val (.int p1), .val (.int p2), .val (.int p3), .val (.int p4), .val (.int p5), .val (.int p6), .val (.int (2 : Int32)), .val (.int lx), .val (.int ya), .val (.int yb), .val (.int yc), .val (.ref b_3), .val (.ref b_133), .val (.int (0 : Int32)), .val (.int (if (0 : Int32) < ya then (1 : Int32) else (if (0 : Int32) < yb then (1 : Int32) else (0 : Int32)))), .val (.int (1 : Int32))] []))
        refine OGo.to (fun _ k => XS.iload X_162.here hx rfl (hb hby at_182) rfl k) ?_
        show OGo p e below _ (T_162.setTop (mkF m 184 #[.val (.int p1), .val (.int p2), .val (.int p3), .val (.int p4), .val (.int p5), .val (.int p6), .val (.int (2 : Int32)), .val (.int lx), .val (.int ya), .val (.int yb), .val (.int yc), .val (.ref b_3), .val (.ref b_133), .val (.int (0 : Int32)), .val (.int (if (0 : Int32) < ya then (1 : Int32) else (if (0 : Int32) < yb then (1 : Int32) else (0 : Int32)))), .val (.int (1 : Int32))] [(.int (2 : Int32))]))
        refine OGo.to (fun _ k => XS.iconst X_162.here hx rfl (hb hby at_184) k) ?_
        show OGo p e below _ (T_162.setTop (mkF m 185 #[.val (.int p1), .val (.int p2), .val (.int p3), .val (.int p4), .val (.int p5), .val (.int p6), .val (.int (2 : Int32)), .val (.int lx), .val (.int ya), .val (.int yb), .val (.int yc), .val (.ref b_3), .val (.ref b_133), .val (.int (0 : Int32)), .val (.int (if (0 : Int32) < ya then (1 : Int32) else (if (0 : Int32) < yb then (1 : Int32) else (0 : Int32)))), .val (.int (1 : Int32))] [(.int (3 : Int32)), (.int (2 : Int32))]))
        have hc185__176 : (2 : Int32) < (3 : Int32) := by decide
        refine OGo.to (fun _ k => XS.icmpYes X_162.here hx rfl (pc0 := 185) (pc' := 196) rfl (hb hby at_185) rfl (tlt hc185__176).1 (by decide) (by decide) k) ?_
        show OGo p e below _ (T_162.setTop (mkF m 196 #[.val (.int p1), .val (.int p2), .val (.int p3), .val (.int p4), .val (.int p5), .val (.int p6), .val (.int (2 : Int32)), .val (.int lx), .val (.int ya), .val (.int yb), .val (.int yc), .val (.ref b_3), .val (.ref b_133), .val (.int (0 : Int32)), .val (.int (if (0 : Int32) < ya then (1 : Int32) else (if (0 : Int32) < yb then (1 : Int32) else (0 : Int32)))), .val (.int (1 : Int32))] []))
        refine OGo.to (fun _ k => XS.iload X_162.here hx rfl (hb hby at_196) rfl k) ?_
        show OGo p e below _ (T_162.setTop (mkF m 198 #[.val (.int p1), .val (.int p2), .val (.int p3), .val (.int p4), .val (.int p5), .val (.int p6), .val (.int (2 : Int32)), .val (.int lx), .val (.int ya), .val (.int yb), .val (.int yc), .val (.ref b_3), .val (.ref b_133), .val (.int (0 : Int32)), .val (.int (if (0 : Int32) < ya then (1 : Int32) else (if (0 : Int32) < yb then (1 : Int32) else (0 : Int32)))), .val (.int (1 : Int32))] [(.int (0 : Int32))]))
        have hc198__177 : (0 : Int32) = (0 : Int32) := by decide
        refine OGo.to (fun _ k => XS.ifNo X_162.here hx rfl (hb hby at_198) rfl ((if0 _ _).trans (teq hc198__177).2) k) ?_
        show OGo p e below _ (T_162.setTop (mkF m 201 #[.val (.int p1), .val (.int p2), .val (.int p3), .val (.int p4), .val (.int p5), .val (.int p6), .val (.int (2 : Int32)), .val (.int lx), .val (.int ya), .val (.int yb), .val (.int yc), .val (.ref b_3), .val (.ref b_133), .val (.int (0 : Int32)), .val (.int (if (0 : Int32) < ya then (1 : Int32) else (if (0 : Int32) < yb then (1 : Int32) else (0 : Int32)))), .val (.int (1 : Int32))] []))
        refine OGo.to (fun _ k => XS.iload X_162.here hx rfl (hb hby at_201) rfl k) ?_
        show OGo p e below _ (T_162.setTop (mkF m 203 #[.val (.int p1), .val (.int p2), .val (.int p3), .val (.int p4), .val (.int p5), .val (.int p6), .val (.int (2 : Int32)), .val (.int lx), .val (.int ya), .val (.int yb), .val (.int yc), .val (.ref b_3), .val (.ref b_133), .val (.int (0 : Int32)), .val (.int (if (0 : Int32) < ya then (1 : Int32) else (if (0 : Int32) < yb then (1 : Int32) else (0 : Int32)))), .val (.int (1 : Int32))] [(.int (if (0 : Int32) < ya then (1 : Int32) else (if (0 : Int32) < yb then (1 : Int32) else (0 : Int32))))]))
        refine OGo.to (fun _ k => XS.iload X_162.here hx rfl (hb hby at_203) rfl k) ?_
        show OGo p e below _ (T_162.setTop (mkF m 205 #[.val (.int p1), .val (.int p2), .val (.int p3), .val (.int p4), .val (.int p5), .val (.int p6), .val (.int (2 : Int32)), .val (.int lx), .val (.int ya), .val (.int yb), .val (.int yc), .val (.ref b_3), .val (.ref b_133), .val (.int (0 : Int32)), .val (.int (if (0 : Int32) < ya then (1 : Int32) else (if (0 : Int32) < yb then (1 : Int32) else (0 : Int32)))), .val (.int (1 : Int32))] [(.int (1 : Int32)), (.int (if (0 : Int32) < ya then (1 : Int32) else (if (0 : Int32) < yb then (1 : Int32) else (0 : Int32))))]))
        have hc205__178 : (if (0 : Int32) < ya then (1 : Int32) else (if (0 : Int32) < yb then (1 : Int32) else (0 : Int32))) = (1 : Int32) := by rw [if_neg hc162__165, if_pos hc176__175]
        refine OGo.to (fun _ k => XS.icmpNo X_162.here hx rfl (hb hby at_205) rfl (teq hc205__178).2 k) ?_
        show OGo p e below _ (T_162.setTop (mkF m 208 #[.val (.int p1), .val (.int p2), .val (.int p3), .val (.int p4), .val (.int p5), .val (.int p6), .val (.int (2 : Int32)), .val (.int lx), .val (.int ya), .val (.int yb), .val (.int yc), .val (.ref b_3), .val (.ref b_133), .val (.int (0 : Int32)), .val (.int (if (0 : Int32) < ya then (1 : Int32) else (if (0 : Int32) < yb then (1 : Int32) else (0 : Int32)))), .val (.int (1 : Int32))] []))
        refine OGo.to (fun _ k => XS.iconst X_162.here hx rfl (hb hby at_208) k) ?_
        show OGo p e below _ (T_162.setTop (mkF m 209 #[.val (.int p1), .val (.int p2), .val (.int p3), .val (.int p4), .val (.int p5), .val (.int p6), .val (.int (2 : Int32)), .val (.int lx), .val (.int ya), .val (.int yb), .val (.int yc), .val (.ref b_3), .val (.ref b_133), .val (.int (0 : Int32)), .val (.int (if (0 : Int32) < ya then (1 : Int32) else (if (0 : Int32) < yb then (1 : Int32) else (0 : Int32)))), .val (.int (1 : Int32))] [(.int (1 : Int32))]))
        refine OGo.to (fun _ k => XS.goto X_162.here hx rfl (pc0 := 209) (pc' := 213) rfl (hb hby at_209) (by decide) (by decide) k) ?_
        show OGo p e below _ (T_162.setTop (mkF m 213 #[.val (.int p1), .val (.int p2), .val (.int p3), .val (.int p4), .val (.int p5), .val (.int p6), .val (.int (2 : Int32)), .val (.int lx), .val (.int ya), .val (.int yb), .val (.int yc), .val (.ref b_3), .val (.ref b_133), .val (.int (0 : Int32)), .val (.int (if (0 : Int32) < ya then (1 : Int32) else (if (0 : Int32) < yb then (1 : Int32) else (0 : Int32)))), .val (.int (1 : Int32))] [(.int (1 : Int32))]))
        refine OGo.ret (Q := Q0 Z p1 p2 p3 p4 p5 p6 dd kd h0 n0) X_162 (some (.int (1 : Int32))) (fun h => by rw [Bd.returns] at h; cases h) Bd.notSynchronized (fun fs hr => retN X_162 hx (t := .boolean) (z := (1 : Int32)) Bd.returns (by simp) (hb hby at_213) hr) ?_ (by decide) (by decide)
        show Q0 Z p1 p2 p3 p4 p5 p6 dd kd h0 n0 _ T_162.heap _
        rw [e_162]
        exact ⟨rfl, N_162⟩
      ·  -- pc 176: no
        refine OGo.to (fun _ k => XS.ifYes X_162.here hx rfl (pc0 := 176) (pc' := 182) rfl (hb hby at_176) rfl ((if0 _ _).trans (flt hc176__175).2.2.2) (by decide) (by decide) k) ?_
        show OGo p e below _ (T_162.setTop (mkF m 182 #[.val (.int p1), .val (.int p2), .val (.int p3), .val (.int p4), .val (.int p5), .val (.int p6), .val (.int (2 : Int32)), .val (.int lx), .val (.int ya), .val (.int yb), .val (.int yc), .val (.ref b_3), .val (.ref b_133), .val (.int (0 : Int32)), .val (.int (if (0 : Int32) < ya then (1 : Int32) else (if (0 : Int32) < yb then (1 : Int32) else (0 : Int32)))), .val (.int (0 : Int32))] []))
        refine OGo.to (fun _ k => XS.iload X_162.here hx rfl (hb hby at_182) rfl k) ?_
        show OGo p e below _ (T_162.setTop (mkF m 184 #[.val (.int p1), .val (.int p2), .val (.int p3), .val (.int p4), .val (.int p5), .val (.int p6), .val (.int (2 : Int32)), .val (.int lx), .val (.int ya), .val (.int yb), .val (.int yc), .val (.ref b_3), .val (.ref b_133), .val (.int (0 : Int32)), .val (.int (if (0 : Int32) < ya then (1 : Int32) else (if (0 : Int32) < yb then (1 : Int32) else (0 : Int32)))), .val (.int (0 : Int32))] [(.int (2 : Int32))]))
        refine OGo.to (fun _ k => XS.iconst X_162.here hx rfl (hb hby at_184) k) ?_
        show OGo p e below _ (T_162.setTop (mkF m 185 #[.val (.int p1), .val (.int p2), .val (.int p3), .val (.int p4), .val (.int p5), .val (.int p6), .val (.int (2 : Int32)), .val (.int lx), .val (.int ya), .val (.int yb), .val (.int yc), .val (.ref b_3), .val (.ref b_133), .val (.int (0 : Int32)), .val (.int (if (0 : Int32) < ya then (1 : Int32) else (if (0 : Int32) < yb then (1 : Int32) else (0 : Int32)))), .val (.int (0 : Int32))] [(.int (3 : Int32)), (.int (2 : Int32))]))
        have hc185__179 : (2 : Int32) < (3 : Int32) := by decide
        refine OGo.to (fun _ k => XS.icmpYes X_162.here hx rfl (pc0 := 185) (pc' := 196) rfl (hb hby at_185) rfl (tlt hc185__179).1 (by decide) (by decide) k) ?_
        show OGo p e below _ (T_162.setTop (mkF m 196 #[.val (.int p1), .val (.int p2), .val (.int p3), .val (.int p4), .val (.int p5), .val (.int p6), .val (.int (2 : Int32)), .val (.int lx), .val (.int ya), .val (.int yb), .val (.int yc), .val (.ref b_3), .val (.ref b_133), .val (.int (0 : Int32)), .val (.int (if (0 : Int32) < ya then (1 : Int32) else (if (0 : Int32) < yb then (1 : Int32) else (0 : Int32)))), .val (.int (0 : Int32))] []))
        refine OGo.to (fun _ k => XS.iload X_162.here hx rfl (hb hby at_196) rfl k) ?_
        show OGo p e below _ (T_162.setTop (mkF m 198 #[.val (.int p1), .val (.int p2), .val (.int p3), .val (.int p4), .val (.int p5), .val (.int p6), .val (.int (2 : Int32)), .val (.int lx), .val (.int ya), .val (.int yb), .val (.int yc), .val (.ref b_3), .val (.ref b_133), .val (.int (0 : Int32)), .val (.int (if (0 : Int32) < ya then (1 : Int32) else (if (0 : Int32) < yb then (1 : Int32) else (0 : Int32)))), .val (.int (0 : Int32))] [(.int (0 : Int32))]))
        have hc198__180 : (0 : Int32) = (0 : Int32) := by decide
        refine OGo.to (fun _ k => XS.ifNo X_162.here hx rfl (hb hby at_198) rfl ((if0 _ _).trans (teq hc198__180).2) k) ?_
        show OGo p e below _ (T_162.setTop (mkF m 201 #[.val (.int p1), .val (.int p2), .val (.int p3), .val (.int p4), .val (.int p5), .val (.int p6), .val (.int (2 : Int32)), .val (.int lx), .val (.int ya), .val (.int yb), .val (.int yc), .val (.ref b_3), .val (.ref b_133), .val (.int (0 : Int32)), .val (.int (if (0 : Int32) < ya then (1 : Int32) else (if (0 : Int32) < yb then (1 : Int32) else (0 : Int32)))), .val (.int (0 : Int32))] []))
        refine OGo.to (fun _ k => XS.iload X_162.here hx rfl (hb hby at_201) rfl k) ?_
        show OGo p e below _ (T_162.setTop (mkF m 203 #[.val (.int p1), .val (.int p2), .val (.int p3), .val (.int p4), .val (.int p5), .val (.int p6), .val (.int (2 : Int32)), .val (.int lx), .val (.int ya), .val (.int yb), .val (.int yc), .val (.ref b_3), .val (.ref b_133), .val (.int (0 : Int32)), .val (.int (if (0 : Int32) < ya then (1 : Int32) else (if (0 : Int32) < yb then (1 : Int32) else (0 : Int32)))), .val (.int (0 : Int32))] [(.int (if (0 : Int32) < ya then (1 : Int32) else (if (0 : Int32) < yb then (1 : Int32) else (0 : Int32))))]))
        refine OGo.to (fun _ k => XS.iload X_162.here hx rfl (hb hby at_203) rfl k) ?_
        show OGo p e below _ (T_162.setTop (mkF m 205 #[.val (.int p1), .val (.int p2), .val (.int p3), .val (.int p4), .val (.int p5), .val (.int p6), .val (.int (2 : Int32)), .val (.int lx), .val (.int ya), .val (.int yb), .val (.int yc), .val (.ref b_3), .val (.ref b_133), .val (.int (0 : Int32)), .val (.int (if (0 : Int32) < ya then (1 : Int32) else (if (0 : Int32) < yb then (1 : Int32) else (0 : Int32)))), .val (.int (0 : Int32))] [(.int (0 : Int32)), (.int (if (0 : Int32) < ya then (1 : Int32) else (if (0 : Int32) < yb then (1 : Int32) else (0 : Int32))))]))
        have hc205__181 : (if (0 : Int32) < ya then (1 : Int32) else (if (0 : Int32) < yb then (1 : Int32) else (0 : Int32))) = (0 : Int32) := by rw [if_neg hc162__165, if_neg hc176__175]
        refine OGo.to (fun _ k => XS.icmpNo X_162.here hx rfl (hb hby at_205) rfl (teq hc205__181).2 k) ?_
        show OGo p e below _ (T_162.setTop (mkF m 208 #[.val (.int p1), .val (.int p2), .val (.int p3), .val (.int p4), .val (.int p5), .val (.int p6), .val (.int (2 : Int32)), .val (.int lx), .val (.int ya), .val (.int yb), .val (.int yc), .val (.ref b_3), .val (.ref b_133), .val (.int (0 : Int32)), .val (.int (if (0 : Int32) < ya then (1 : Int32) else (if (0 : Int32) < yb then (1 : Int32) else (0 : Int32)))), .val (.int (0 : Int32))] []))
        refine OGo.to (fun _ k => XS.iconst X_162.here hx rfl (hb hby at_208) k) ?_
        show OGo p e below _ (T_162.setTop (mkF m 209 #[.val (.int p1), .val (.int p2), .val (.int p3), .val (.int p4), .val (.int p5), .val (.int p6), .val (.int (2 : Int32)), .val (.int lx), .val (.int ya), .val (.int yb), .val (.int yc), .val (.ref b_3), .val (.ref b_133), .val (.int (0 : Int32)), .val (.int (if (0 : Int32) < ya then (1 : Int32) else (if (0 : Int32) < yb then (1 : Int32) else (0 : Int32)))), .val (.int (0 : Int32))] [(.int (1 : Int32))]))
        refine OGo.to (fun _ k => XS.goto X_162.here hx rfl (pc0 := 209) (pc' := 213) rfl (hb hby at_209) (by decide) (by decide) k) ?_
        show OGo p e below _ (T_162.setTop (mkF m 213 #[.val (.int p1), .val (.int p2), .val (.int p3), .val (.int p4), .val (.int p5), .val (.int p6), .val (.int (2 : Int32)), .val (.int lx), .val (.int ya), .val (.int yb), .val (.int yc), .val (.ref b_3), .val (.ref b_133), .val (.int (0 : Int32)), .val (.int (if (0 : Int32) < ya then (1 : Int32) else (if (0 : Int32) < yb then (1 : Int32) else (0 : Int32)))), .val (.int (0 : Int32))] [(.int (1 : Int32))]))
        refine OGo.ret (Q := Q0 Z p1 p2 p3 p4 p5 p6 dd kd h0 n0) X_162 (some (.int (1 : Int32))) (fun h => by rw [Bd.returns] at h; cases h) Bd.notSynchronized (fun fs hr => retN X_162 hx (t := .boolean) (z := (1 : Int32)) Bd.returns (by simp) (hb hby at_213) hr) ?_ (by decide) (by decide)
        show Q0 Z p1 p2 p3 p4 p5 p6 dd kd h0 n0 _ T_162.heap _
        rw [e_162]
        exact ⟨rfl, N_162⟩
  ·
    show OGo p e below _ (T_7.setTop (mkF m 47 #[.val (.int p1), .val (.int p2), .val (.int p3), .val (.int p4), .val (.int p5), .val (.int p6), .val (.int (3 : Int32)), .val (.int lx), .val (.int ya), .val (.int yb), .val (.int yc), .val (.ref b_3), .unset, .unset, .unset, .unset] []))
    refine OGo.to (fun _ k => XS.iload X_7.here hx rfl (hb hby at_47) rfl k) ?_
    show OGo p e below _ (T_7.setTop (mkF m 49 #[.val (.int p1), .val (.int p2), .val (.int p3), .val (.int p4), .val (.int p5), .val (.int p6), .val (.int (3 : Int32)), .val (.int lx), .val (.int ya), .val (.int yb), .val (.int yc), .val (.ref b_3), .unset, .unset, .unset, .unset] [(.int (3 : Int32))]))
    refine OGo.to (fun _ k => XS.iconst X_7.here hx rfl (hb hby at_49) k) ?_
    show OGo p e below _ (T_7.setTop (mkF m 50 #[.val (.int p1), .val (.int p2), .val (.int p3), .val (.int p4), .val (.int p5), .val (.int p6), .val (.int (3 : Int32)), .val (.int lx), .val (.int ya), .val (.int yb), .val (.int yc), .val (.ref b_3), .unset, .unset, .unset, .unset] [(.int (1 : Int32)), (.int (3 : Int32))]))
    have hc50__182 : ¬ ((3 : Int32) < (1 : Int32)) := by decide
    refine OGo.to (fun _ k => XS.icmpNo X_7.here hx rfl (hb hby at_50) rfl (flt hc50__182).1 k) ?_
    show OGo p e below _ (T_7.setTop (mkF m 53 #[.val (.int p1), .val (.int p2), .val (.int p3), .val (.int p4), .val (.int p5), .val (.int p6), .val (.int (3 : Int32)), .val (.int lx), .val (.int ya), .val (.int yb), .val (.int yc), .val (.ref b_3), .unset, .unset, .unset, .unset] []))
    refine OGo.to (fun _ k => XS.aload X_7.here hx rfl (hb hby at_53) rfl rfl k) ?_
    show OGo p e below _ (T_7.setTop (mkF m 55 #[.val (.int p1), .val (.int p2), .val (.int p3), .val (.int p4), .val (.int p5), .val (.int p6), .val (.int (3 : Int32)), .val (.int lx), .val (.int ya), .val (.int yb), .val (.int yc), .val (.ref b_3), .unset, .unset, .unset, .unset] [(.ref b_3)]))
    have f_184 : Arv Z T_7.heap dd kd (.object "java/lang/Object") (0 : Int32) [] .null := VD.ext O_9.2
    have f_185 : Exa Z T_7.heap b_3 "java/util/ArrayList" := (A_3.keep K_7)
    obtain ⟨T_183, h_183, X_183, e_183, E_183, A_183, D_183, -, st_183⟩ := newO X_7 hx hZ hown (hw _ (List.mem_of_getElem? (i := 27) rfl)) (hw _ (List.mem_of_getElem? (i := 28) rfl)) (hw _ (List.mem_of_getElem? (i := 29) rfl)) (rfl : T_7.heap = T_7.heap) (g := (mkF m 55 #[.val (.int p1), .val (.int p2), .val (.int p3), .val (.int p4), .val (.int p5), .val (.int p6), .val (.int (3 : Int32)), .val (.int lx), .val (.int ya), .val (.int yb), .val (.int yc), .val (.ref b_3), .unset, .unset, .unset, .unset] [(.ref b_3)])) rfl (hb hby at_55) (by decide) (by decide)
    obtain ⟨b_183, g_183⟩ : ∃ z, z = T_7.heap.size := ⟨_, rfl⟩
    rw [← g_183] at A_183 D_183 st_183
    have g_b_183 : n0 ≤ b_183 := Nat.le_trans z_8 (Nat.le_of_eq g_183.symm)
    refine OGo.to st_183 ?_
    have ne_dd_b_183 : dd ≠ b_183 := Nat.ne_of_lt (Nat.lt_of_lt_of_le f_184.lt (Nat.le_of_eq g_183.symm))
    have ne_b_3_b_183 : b_3 ≠ b_183 := Nat.ne_of_lt (Nat.lt_of_lt_of_le f_185.lt (Nat.le_of_eq g_183.symm))
    have z_186 : n0 ≤ h_183.size := Nat.le_trans z_8 E_183.1
    have O_187 : Old Z n0 h_183 := O_9.ext E_183
    have F_name_b_183 : Fld Z h_183 b_183 "com/example/dromos/dromos/model/Module$Signature" "name" "Lcom/example/dromos/dromos/model/Identifier;" .null := D_183 (Or.inr (hw _ (List.mem_of_getElem? (i := 40) rfl))) (ty := (.object "com/example/dromos/dromos/model/Identifier")) (by decide)
    have F_arity_b_183 : Fld Z h_183 b_183 "com/example/dromos/dromos/model/Module$Signature" "arity" "I" (.int (0 : Int32)) := D_183 (Or.inr (hw _ (List.mem_of_getElem? (i := 42) rfl))) (ty := .int) (by decide)
    show OGo p e below _ (T_183.setTop (mkF m 58 #[.val (.int p1), .val (.int p2), .val (.int p3), .val (.int p4), .val (.int p5), .val (.int p6), .val (.int (3 : Int32)), .val (.int lx), .val (.int ya), .val (.int yb), .val (.int yc), .val (.ref b_3), .unset, .unset, .unset, .unset] [(.ref b_183), (.ref b_3)]))
    refine OGo.to (fun _ k => XS.dup X_183.here hx rfl (hb hby at_58) rfl rfl k) ?_
    show OGo p e below _ (T_183.setTop (mkF m 59 #[.val (.int p1), .val (.int p2), .val (.int p3), .val (.int p4), .val (.int p5), .val (.int p6), .val (.int (3 : Int32)), .val (.int lx), .val (.int ya), .val (.int yb), .val (.int yc), .val (.ref b_3), .unset, .unset, .unset, .unset] [(.ref b_183), (.ref b_183), (.ref b_3)]))
    refine OGo.to (fun _ k => XS.aconstNull X_183.here hx rfl (hb hby at_59) k) ?_
    show OGo p e below _ (T_183.setTop (mkF m 60 #[.val (.int p1), .val (.int p2), .val (.int p3), .val (.int p4), .val (.int p5), .val (.int p6), .val (.int (3 : Int32)), .val (.int lx), .val (.int ya), .val (.int yb), .val (.int yc), .val (.ref b_3), .unset, .unset, .unset, .unset] [.null, (.ref b_183), (.ref b_183), (.ref b_3)]))
    refine OGo.to (fun _ k => XS.iload X_183.here hx rfl (hb hby at_60) rfl k) ?_
    show OGo p e below _ (T_183.setTop (mkF m 62 #[.val (.int p1), .val (.int p2), .val (.int p3), .val (.int p4), .val (.int p5), .val (.int p6), .val (.int (3 : Int32)), .val (.int lx), .val (.int ya), .val (.int yb), .val (.int yc), .val (.ref b_3), .unset, .unset, .unset, .unset] [(.int ya), .null, (.ref b_183), (.ref b_183), (.ref b_3)]))
    obtain ⟨_, T_188, Lc_188, X_188, hQ_188, st_188⟩ := own_un X_183 (Q := Q5 Z b_183 ya h_183 n0) (rc := 0) (rs := 0) (W := fun v B => Steps p.tables e below (T_183.setTop (mkF m 62 #[.val (.int p1), .val (.int p2), .val (.int p3), .val (.int p4), .val (.int p5), .val (.int p6), .val (.int (3 : Int32)), .val (.int lx), .val (.int ya), .val (.int yb), .val (.int yc), .val (.ref b_3), .unset, .unset, .unset, .unset] [(.int ya), .null, (.ref b_183), (.ref b_183), (.ref b_3)])) (B.setTop { (mkF m 62 #[.val (.int p1), .val (.int p2), .val (.int p3), .val (.int p4), .val (.int p5), .val (.int p6), .val (.int (3 : Int32)), .val (.int lx), .val (.int ya), .val (.int yb), .val (.int yc), .val (.ref b_3), .unset, .unset, .unset, .unset] [(.int ya), .null, (.ref b_183), (.ref b_183), (.ref b_3)]) with pc := 65, stack := v.toList ++ [(.ref b_183), (.ref b_3)] })) <| X_183.specialBack hx (y := (⟨"com/example/dromos/dromos/model/Module$Signature", "<init>", "(Lcom/example/dromos/dromos/model/Identifier;I)V"⟩ : MethodName)) rfl hown (mvT hZ (hw _ (List.mem_of_getElem? (i := 30) rfl))) (mvT hZ (hw _ (List.mem_of_getElem? (i := 31) rfl))) (mvT hZ (hw _ (List.mem_of_getElem? (i := 32) rfl))) (by decide) (backOf (W := 2) (rm5 l Z a0 hw [] b_183 ya h_183 n0 z_186 A_183 F_name_b_183 F_arity_b_183 g_b_183) hZ (hw _ (List.mem_of_getElem? (i := 32) rfl)) (hw _ (List.mem_of_getElem? (i := 29) rfl)) (by decide) (by decide)) (g := (mkF m 62 #[.val (.int p1), .val (.int p2), .val (.int p3), .val (.int p4), .val (.int p5), .val (.int p6), .val (.int (3 : Int32)), .val (.int lx), .val (.int ya), .val (.int yb), .val (.int yc), .val (.ref b_3), .unset, .unset, .unset, .unset] [(.int ya), .null, (.ref b_183), (.ref b_183), (.ref b_3)])) rfl (by rw [hml]; rfl) (Steps.refl _) (a := b_183) (argsL := [.null, (.int ya)]) (rest := [(.ref b_183), (.ref b_3)]) (lenOf pd_11 rfl) rfl (by show 2 * 0 + _ ≤ _; exact Nat.le_of_eq rfl) (hb hby at_62) (fun _ _ => ⟨rfl, e_183, (by decide : 2 + 0 ≤ _), (by decide : 5 + 0 ≤ _)⟩)
    obtain ⟨rfl, N_188q, K_188, p_188_0⟩ := hQ_188
    have N_188 := Fr.app N_7 N_188q
    refine OGo.to (fun _ k => st_188.trans k) ?_
    have z_189 : n0 ≤ T_188.heap.size := Nat.le_trans z_186 K_188.1
    have O_190 : Old Z n0 T_188.heap := O_187.keep K_188 (allS g_b_183 all0)
    show OGo p e below _ (T_188.setTop (mkF m 65 #[.val (.int p1), .val (.int p2), .val (.int p3), .val (.int p4), .val (.int p5), .val (.int p6), .val (.int (3 : Int32)), .val (.int lx), .val (.int ya), .val (.int yb), .val (.int yc), .val (.ref b_3), .unset, .unset, .unset, .unset] [(.ref b_183), (.ref b_3)]))
    have f_192 : Exa Z T_188.heap b_3 "java/util/ArrayList" := ((f_185.ext E_183).keep K_188)
    have f_193 : Exa Z T_188.heap b_183 "com/example/dromos/dromos/model/Module$Signature" := (A_183.keep K_188)
    have f_194 : Fld Z T_188.heap b_3 "java/util/AbstractList" "modCount" "I" (.int (0 : Int32)) := ((p_7_0.ext E_183).keep K_188 (fun q => ne_b_3_b_183 (List.mem_singleton.mp q)))
    have f_195 : Fld Z T_188.heap b_3 "java/util/ArrayList" "size" "I" (.int (0 : Int32)) := ((p_7_1.ext E_183).keep K_188 (fun q => ne_b_3_b_183 (List.mem_singleton.mp q)))
    have f_196 : Fld Z T_188.heap b_3 "java/util/ArrayList" "elementData" "[Ljava/lang/Object;" (.ref dd) := ((p_7_2.ext E_183).keep K_188 (fun q => ne_b_3_b_183 (List.mem_singleton.mp q)))
    have f_197 : Arv Z T_188.heap dd kd (.object "java/lang/Object") (0 : Int32) [] .null := VD.ext O_190.2
    obtain ⟨cq_191, kq_191, q_191a, q_191b, q_191c⟩ := isOf hZ (rfl : T_188.heap = T_188.heap) f_192
    obtain ⟨_, T_191, Lc_191, X_191, hQ_191, st_191⟩ := own_un X_188 (Q := Qadd0 Z b_3 b_183 dd kd T_188.heap n0) (rc := 1) (rs := 10) (W := fun v B => Steps p.tables e below (T_188.setTop (mkF m 65 #[.val (.int p1), .val (.int p2), .val (.int p3), .val (.int p4), .val (.int p5), .val (.int p6), .val (.int (3 : Int32)), .val (.int lx), .val (.int ya), .val (.int yb), .val (.int yc), .val (.ref b_3), .unset, .unset, .unset, .unset] [(.ref b_183), (.ref b_3)])) (B.setTop { (mkF m 65 #[.val (.int p1), .val (.int p2), .val (.int p3), .val (.int p4), .val (.int p5), .val (.int p6), .val (.int (3 : Int32)), .val (.int lx), .val (.int ya), .val (.int yb), .val (.int yc), .val (.ref b_3), .unset, .unset, .unset, .unset] [(.ref b_183), (.ref b_3)]) with pc := 68, stack := v.toList ++ [] })) <| X_188.virtualBack hx (y := (⟨"java/util/ArrayList", "add", "(Ljava/lang/Object;)Z"⟩ : MethodName)) (z := (⟨"java/util/ArrayList", "add", "(Ljava/lang/Object;)Z"⟩ : MethodName)) hown (mvT hZ (hw _ (List.mem_of_getElem? (i := 43) rfl))) (mvT hZ (hw _ (List.mem_of_getElem? (i := 44) rfl))) (notFace_of_selects (args := #[]) (mvT hZ (hw _ (List.mem_of_getElem? (i := 46) rfl)))) (mvT hZ (hw _ (List.mem_of_getElem? (i := 46) rfl))) (mvT hZ (hw _ (List.mem_of_getElem? (i := 45) rfl))) (by decide) (backOf (W := 0) (rmadd0 l Z a0 hw [] b_3 b_183 dd kd T_188.heap n0 z_189 f_192 f_193 g_b_3 ne_b_3_b_183 f_194 f_195 f_196 S1 VD O_190) hZ (hw _ (List.mem_of_getElem? (i := 47) rfl)) (hw _ (List.mem_of_getElem? (i := 3) rfl)) (by decide) (by decide)) q_191a q_191c (g := (mkF m 65 #[.val (.int p1), .val (.int p2), .val (.int p3), .val (.int p4), .val (.int p5), .val (.int p6), .val (.int (3 : Int32)), .val (.int lx), .val (.int ya), .val (.int yb), .val (.int yc), .val (.ref b_3), .unset, .unset, .unset, .unset] [(.ref b_183), (.ref b_3)])) rfl (by rw [hml]; rfl) (Steps.refl _) (argsL := [(.ref b_183)]) (rest := []) (lenOf pd_12 rfl) rfl (by show 2 * 0 + _ ≤ _; exact Nat.le_of_eq rfl) (hb hby at_65) (fun _ _ => ⟨rfl, (rfl : T_188.heap = T_188.heap), (by decide : 2 + 1 ≤ _), (by decide : 5 + 10 ≤ _)⟩)
    obtain ⟨b__191, kb__191, rfl, N_191q, K_191, gq_b__191, sq_b__191, p_191_0, p_191_1, p_191_2, p_191_3, p_191_4, p_191_5, p_191_6⟩ := hQ_191
    have N_191 := Fr.app N_188 N_191q
    refine OGo.to (fun _ k => st_191.trans k) ?_
    have ne_dd_b__191 : dd ≠ b__191 := Nat.ne_of_lt (Nat.lt_of_lt_of_le f_197.lt sq_b__191)
    have ne_b_3_b__191 : b_3 ≠ b__191 := Nat.ne_of_lt (Nat.lt_of_lt_of_le f_192.lt sq_b__191)
    have ne_b_183_b__191 : b_183 ≠ b__191 := Nat.ne_of_lt (Nat.lt_of_lt_of_le f_193.lt sq_b__191)
    have z_198 : n0 ≤ T_191.heap.size := Nat.le_trans z_189 K_191.1
    have O_199 : Old Z n0 T_191.heap := O_190.keep K_191 (allS g_b_3 all0)
    show OGo p e below _ (T_191.setTop (mkF m 68 #[.val (.int p1), .val (.int p2), .val (.int p3), .val (.int p4), .val (.int p5), .val (.int p6), .val (.int (3 : Int32)), .val (.int lx), .val (.int ya), .val (.int yb), .val (.int yc), .val (.ref b_3), .unset, .unset, .unset, .unset] [(.int (1 : Int32))]))
    refine OGo.to (fun _ k => XS.pop X_191.here hx rfl (hb hby at_68) rfl rfl k) ?_
    show OGo p e below _ (T_191.setTop (mkF m 69 #[.val (.int p1), .val (.int p2), .val (.int p3), .val (.int p4), .val (.int p5), .val (.int p6), .val (.int (3 : Int32)), .val (.int lx), .val (.int ya), .val (.int yb), .val (.int yc), .val (.ref b_3), .unset, .unset, .unset, .unset] []))
    refine OGo.to (fun _ k => XS.iload X_191.here hx rfl (hb hby at_69) rfl k) ?_
    show OGo p e below _ (T_191.setTop (mkF m 71 #[.val (.int p1), .val (.int p2), .val (.int p3), .val (.int p4), .val (.int p5), .val (.int p6), .val (.int (3 : Int32)), .val (.int lx), .val (.int ya), .val (.int yb), .val (.int yc), .val (.ref b_3), .unset, .unset, .unset, .unset] [(.int (3 : Int32))]))
    refine OGo.to (fun _ k => XS.iconst X_191.here hx rfl (hb hby at_71) k) ?_
    show OGo p e below _ (T_191.setTop (mkF m 72 #[.val (.int p1), .val (.int p2), .val (.int p3), .val (.int p4), .val (.int p5), .val (.int p6), .val (.int (3 : Int32)), .val (.int lx), .val (.int ya), .val (.int yb), .val (.int yc), .val (.ref b_3), .unset, .unset, .unset, .unset] [(.int (2 : Int32)), (.int (3 : Int32))]))
    have hc72__200 : ¬ ((3 : Int32) < (2 : Int32)) := by decide
    refine OGo.to (fun _ k => XS.icmpNo X_191.here hx rfl (hb hby at_72) rfl (flt hc72__200).1 k) ?_
    show OGo p e below _ (T_191.setTop (mkF m 75 #[.val (.int p1), .val (.int p2), .val (.int p3), .val (.int p4), .val (.int p5), .val (.int p6), .val (.int (3 : Int32)), .val (.int lx), .val (.int ya), .val (.int yb), .val (.int yc), .val (.ref b_3), .unset, .unset, .unset, .unset] []))
    refine OGo.to (fun _ k => XS.aload X_191.here hx rfl (hb hby at_75) rfl rfl k) ?_
    show OGo p e below _ (T_191.setTop (mkF m 77 #[.val (.int p1), .val (.int p2), .val (.int p3), .val (.int p4), .val (.int p5), .val (.int p6), .val (.int (3 : Int32)), .val (.int lx), .val (.int ya), .val (.int yb), .val (.int yc), .val (.ref b_3), .unset, .unset, .unset, .unset] [(.ref b_3)]))
    have f_202 : Arv Z T_191.heap dd kd (.object "java/lang/Object") (0 : Int32) [] .null := VD.ext O_199.2
    have f_203 : Exa Z T_191.heap b_3 "java/util/ArrayList" := (f_192.keep K_191)
    have f_204 : Exa Z T_191.heap b_183 "com/example/dromos/dromos/model/Module$Signature" := (f_193.keep K_191)
    obtain ⟨T_201, h_201, X_201, e_201, E_201, A_201, D_201, -, st_201⟩ := newO X_191 hx hZ hown (hw _ (List.mem_of_getElem? (i := 27) rfl)) (hw _ (List.mem_of_getElem? (i := 28) rfl)) (hw _ (List.mem_of_getElem? (i := 29) rfl)) (rfl : T_191.heap = T_191.heap) (g := (mkF m 77 #[.val (.int p1), .val (.int p2), .val (.int p3), .val (.int p4), .val (.int p5), .val (.int p6), .val (.int (3 : Int32)), .val (.int lx), .val (.int ya), .val (.int yb), .val (.int yc), .val (.ref b_3), .unset, .unset, .unset, .unset] [(.ref b_3)])) rfl (hb hby at_77) (by decide) (by decide)
    obtain ⟨b_201, g_201⟩ : ∃ z, z = T_191.heap.size := ⟨_, rfl⟩
    rw [← g_201] at A_201 D_201 st_201
    have g_b_201 : n0 ≤ b_201 := Nat.le_trans z_198 (Nat.le_of_eq g_201.symm)
    refine OGo.to st_201 ?_
    have ne_dd_b_201 : dd ≠ b_201 := Nat.ne_of_lt (Nat.lt_of_lt_of_le f_202.lt (Nat.le_of_eq g_201.symm))
    have ne_b_3_b_201 : b_3 ≠ b_201 := Nat.ne_of_lt (Nat.lt_of_lt_of_le f_203.lt (Nat.le_of_eq g_201.symm))
    have ne_b_183_b_201 : b_183 ≠ b_201 := Nat.ne_of_lt (Nat.lt_of_lt_of_le f_204.lt (Nat.le_of_eq g_201.symm))
    have ne_b__191_b_201 : b__191 ≠ b_201 := Nat.ne_of_lt (Nat.lt_of_lt_of_le p_191_3.lt (Nat.le_of_eq g_201.symm))
    have z_205 : n0 ≤ h_201.size := Nat.le_trans z_198 E_201.1
    have O_206 : Old Z n0 h_201 := O_199.ext E_201
    have F_name_b_201 : Fld Z h_201 b_201 "com/example/dromos/dromos/model/Module$Signature" "name" "Lcom/example/dromos/dromos/model/Identifier;" .null := D_201 (Or.inr (hw _ (List.mem_of_getElem? (i := 40) rfl))) (ty := (.object "com/example/dromos/dromos/model/Identifier")) (by decide)
    have F_arity_b_201 : Fld Z h_201 b_201 "com/example/dromos/dromos/model/Module$Signature" "arity" "I" (.int (0 : Int32)) := D_201 (Or.inr (hw _ (List.mem_of_getElem? (i := 42) rfl))) (ty := .int) (by decide)
    show OGo p e below _ (T_201.setTop (mkF m 80 #[.val (.int p1), .val (.int p2), .val (.int p3), .val (.int p4), .val (.int p5), .val (.int p6), .val (.int (3 : Int32)), .val (.int lx), .val (.int ya), .val (.int yb), .val (.int yc), .val (.ref b_3), .unset, .unset, .unset, .unset] [(.ref b_201), (.ref b_3)]))
    refine OGo.to (fun _ k => XS.dup X_201.here hx rfl (hb hby at_80) rfl rfl k) ?_
    show OGo p e below _ (T_201.setTop (mkF m 81 #[.val (.int p1), .val (.int p2), .val (.int p3), .val (.int p4), .val (.int p5), .val (.int p6), .val (.int (3 : Int32)), .val (.int lx), .val (.int ya), .val (.int yb), .val (.int yc), .val (.ref b_3), .unset, .unset, .unset, .unset] [(.ref b_201), (.ref b_201), (.ref b_3)]))
    refine OGo.to (fun _ k => XS.aconstNull X_201.here hx rfl (hb hby at_81) k) ?_
    show OGo p e below _ (T_201.setTop (mkF m 82 #[.val (.int p1), .val (.int p2), .val (.int p3), .val (.int p4), .val (.int p5), .val (.int p6), .val (.int (3 : Int32)), .val (.int lx), .val (.int ya), .val (.int yb), .val (.int yc), .val (.ref b_3), .unset, .unset, .unset, .unset] [.null, (.ref b_201), (.ref b_201), (.ref b_3)]))
    refine OGo.to (fun _ k => XS.iload X_201.here hx rfl (hb hby at_82) rfl k) ?_
    show OGo p e below _ (T_201.setTop (mkF m 84 #[.val (.int p1), .val (.int p2), .val (.int p3), .val (.int p4), .val (.int p5), .val (.int p6), .val (.int (3 : Int32)), .val (.int lx), .val (.int ya), .val (.int yb), .val (.int yc), .val (.ref b_3), .unset, .unset, .unset, .unset] [(.int yb), .null, (.ref b_201), (.ref b_201), (.ref b_3)]))
    obtain ⟨_, T_207, Lc_207, X_207, hQ_207, st_207⟩ := own_un X_201 (Q := Q5 Z b_201 yb h_201 n0) (rc := 0) (rs := 0) (W := fun v B => Steps p.tables e below (T_201.setTop (mkF m 84 #[.val (.int p1), .val (.int p2), .val (.int p3), .val (.int p4), .val (.int p5), .val (.int p6), .val (.int (3 : Int32)), .val (.int lx), .val (.int ya), .val (.int yb), .val (.int yc), .val (.ref b_3), .unset, .unset, .unset, .unset] [(.int yb), .null, (.ref b_201), (.ref b_201), (.ref b_3)])) (B.setTop { (mkF m 84 #[.val (.int p1), .val (.int p2), .val (.int p3), .val (.int p4), .val (.int p5), .val (.int p6), .val (.int (3 : Int32)), .val (.int lx), .val (.int ya), .val (.int yb), .val (.int yc), .val (.ref b_3), .unset, .unset, .unset, .unset] [(.int yb), .null, (.ref b_201), (.ref b_201), (.ref b_3)]) with pc := 87, stack := v.toList ++ [(.ref b_201), (.ref b_3)] })) <| X_201.specialBack hx (y := (⟨"com/example/dromos/dromos/model/Module$Signature", "<init>", "(Lcom/example/dromos/dromos/model/Identifier;I)V"⟩ : MethodName)) rfl hown (mvT hZ (hw _ (List.mem_of_getElem? (i := 30) rfl))) (mvT hZ (hw _ (List.mem_of_getElem? (i := 31) rfl))) (mvT hZ (hw _ (List.mem_of_getElem? (i := 32) rfl))) (by decide) (backOf (W := 2) (rm5 l Z a0 hw [] b_201 yb h_201 n0 z_205 A_201 F_name_b_201 F_arity_b_201 g_b_201) hZ (hw _ (List.mem_of_getElem? (i := 32) rfl)) (hw _ (List.mem_of_getElem? (i := 29) rfl)) (by decide) (by decide)) (g := (mkF m 84 #[.val (.int p1), .val (.int p2), .val (.int p3), .val (.int p4), .val (.int p5), .val (.int p6), .val (.int (3 : Int32)), .val (.int lx), .val (.int ya), .val (.int yb), .val (.int yc), .val (.ref b_3), .unset, .unset, .unset, .unset] [(.int yb), .null, (.ref b_201), (.ref b_201), (.ref b_3)])) rfl (by rw [hml]; rfl) (Steps.refl _) (a := b_201) (argsL := [.null, (.int yb)]) (rest := [(.ref b_201), (.ref b_3)]) (lenOf pd_11 rfl) rfl (by show 2 * 0 + _ ≤ _; exact Nat.le_of_eq rfl) (hb hby at_84) (fun _ _ => ⟨rfl, e_201, (by decide : 4 + 0 ≤ _), (by decide : 17 + 0 ≤ _)⟩)
    obtain ⟨rfl, N_207q, K_207, p_207_0⟩ := hQ_207
    have N_207 := Fr.app N_191 N_207q
    refine OGo.to (fun _ k => st_207.trans k) ?_
    have z_208 : n0 ≤ T_207.heap.size := Nat.le_trans z_205 K_207.1
    have O_209 : Old Z n0 T_207.heap := O_206.keep K_207 (allS g_b_201 all0)
    show OGo p e below _ (T_207.setTop (mkF m 87 #[.val (.int p1), .val (.int p2), .val (.int p3), .val (.int p4), .val (.int p5), .val (.int p6), .val (.int (3 : Int32)), .val (.int lx), .val (.int ya), .val (.int yb), .val (.int yc), .val (.ref b_3), .unset, .unset, .unset, .unset] [(.ref b_201), (.ref b_3)]))
    have f_211 : Exa Z T_207.heap b_3 "java/util/ArrayList" := ((f_203.ext E_201).keep K_207)
    have f_212 : Exa Z T_207.heap b_201 "com/example/dromos/dromos/model/Module$Signature" := (A_201.keep K_207)
    have f_213 : Fld Z T_207.heap b_3 "java/util/AbstractList" "modCount" "I" (.int (1 : Int32)) := ((p_191_0.ext E_201).keep K_207 (fun q => ne_b_3_b_201 (List.mem_singleton.mp q)))
    have f_214 : Fld Z T_207.heap b_3 "java/util/ArrayList" "size" "I" (.int (1 : Int32)) := ((p_191_1.ext E_201).keep K_207 (fun q => ne_b_3_b_201 (List.mem_singleton.mp q)))
    have f_215 : Fld Z T_207.heap b_3 "java/util/ArrayList" "elementData" "[Ljava/lang/Object;" (.ref b__191) := ((p_191_2.ext E_201).keep K_207 (fun q => ne_b_3_b_201 (List.mem_singleton.mp q)))
    have f_216 : Arv Z T_207.heap b__191 kb__191 (.object "java/lang/Object") (10 : Int32) [(.ref b_183), .null, .null, .null, .null, .null, .null, .null, .null, .null] .null := ((p_191_3.ext E_201).keep K_207 (fun q => ne_b__191_b_201 (List.mem_singleton.mp q)))
    obtain ⟨cq_210, kq_210, q_210a, q_210b, q_210c⟩ := isOf hZ (rfl : T_207.heap = T_207.heap) f_211
    obtain ⟨_, T_210, Lc_210, X_210, hQ_210, st_210⟩ := own_un X_207 (Q := Qadd1 Z b_3 b_201 b__191 kb__191 b_183 T_207.heap n0) (rc := 0) (rs := 0) (W := fun v B => Steps p.tables e below (T_207.setTop (mkF m 87 #[.val (.int p1), .val (.int p2), .val (.int p3), .val (.int p4), .val (.int p5), .val (.int p6), .val (.int (3 : Int32)), .val (.int lx), .val (.int ya), .val (.int yb), .val (.int yc), .val (.ref b_3), .unset, .unset, .unset, .unset] [(.ref b_201), (.ref b_3)])) (B.setTop { (mkF m 87 #[.val (.int p1), .val (.int p2), .val (.int p3), .val (.int p4), .val (.int p5), .val (.int p6), .val (.int (3 : Int32)), .val (.int lx), .val (.int ya), .val (.int yb), .val (.int yc), .val (.ref b_3), .unset, .unset, .unset, .unset] [(.ref b_201), (.ref b_3)]) with pc := 90, stack := v.toList ++ [] })) <| X_207.virtualBack hx (y := (⟨"java/util/ArrayList", "add", "(Ljava/lang/Object;)Z"⟩ : MethodName)) (z := (⟨"java/util/ArrayList", "add", "(Ljava/lang/Object;)Z"⟩ : MethodName)) hown (mvT hZ (hw _ (List.mem_of_getElem? (i := 43) rfl))) (mvT hZ (hw _ (List.mem_of_getElem? (i := 44) rfl))) (notFace_of_selects (args := #[]) (mvT hZ (hw _ (List.mem_of_getElem? (i := 46) rfl)))) (mvT hZ (hw _ (List.mem_of_getElem? (i := 46) rfl))) (mvT hZ (hw _ (List.mem_of_getElem? (i := 45) rfl))) (by decide) (backOf (W := 0) (rmadd1 l Z a0 hw [] b_3 b_201 b__191 kb__191 b_183 T_207.heap n0 z_208 f_211 f_212 g_b_3 ne_b_3_b_201 f_213 f_214 f_215 f_216 p_191_4 gq_b__191 p_191_5 (Ne.symm ne_b__191_b_201)) hZ (hw _ (List.mem_of_getElem? (i := 47) rfl)) (hw _ (List.mem_of_getElem? (i := 3) rfl)) (by decide) (by decide)) q_210a q_210c (g := (mkF m 87 #[.val (.int p1), .val (.int p2), .val (.int p3), .val (.int p4), .val (.int p5), .val (.int p6), .val (.int (3 : Int32)), .val (.int lx), .val (.int ya), .val (.int yb), .val (.int yc), .val (.ref b_3), .unset, .unset, .unset, .unset] [(.ref b_201), (.ref b_3)])) rfl (by rw [hml]; rfl) (Steps.refl _) (argsL := [(.ref b_201)]) (rest := []) (lenOf pd_12 rfl) rfl (by show 2 * 0 + _ ≤ _; exact Nat.le_of_eq rfl) (hb hby at_87) (fun _ _ => ⟨rfl, (rfl : T_207.heap = T_207.heap), (by decide : 4 + 0 ≤ _), (by decide : 17 + 0 ≤ _)⟩)
    obtain ⟨rfl, N_210q, K_210, p_210_0, p_210_1, p_210_2, p_210_3⟩ := hQ_210
    have N_210 := Fr.app N_207 N_210q
    refine OGo.to (fun _ k => st_210.trans k) ?_
    have z_217 : n0 ≤ T_210.heap.size := Nat.le_trans z_208 K_210.1
    have O_218 : Old Z n0 T_210.heap := O_209.keep K_210 (allS g_b_3 (allS gq_b__191 all0))
    show OGo p e below _ (T_210.setTop (mkF m 90 #[.val (.int p1), .val (.int p2), .val (.int p3), .val (.int p4), .val (.int p5), .val (.int p6), .val (.int (3 : Int32)), .val (.int lx), .val (.int ya), .val (.int yb), .val (.int yc), .val (.ref b_3), .unset, .unset, .unset, .unset] [(.int (1 : Int32))]))
    refine OGo.to (fun _ k => XS.pop X_210.here hx rfl (hb hby at_90) rfl rfl k) ?_
    show OGo p e below _ (T_210.setTop (mkF m 91 #[.val (.int p1), .val (.int p2), .val (.int p3), .val (.int p4), .val (.int p5), .val (.int p6), .val (.int (3 : Int32)), .val (.int lx), .val (.int ya), .val (.int yb), .val (.int yc), .val (.ref b_3), .unset, .unset, .unset, .unset] []))
    refine OGo.to (fun _ k => XS.iload X_210.here hx rfl (hb hby at_91) rfl k) ?_
    show OGo p e below _ (T_210.setTop (mkF m 93 #[.val (.int p1), .val (.int p2), .val (.int p3), .val (.int p4), .val (.int p5), .val (.int p6), .val (.int (3 : Int32)), .val (.int lx), .val (.int ya), .val (.int yb), .val (.int yc), .val (.ref b_3), .unset, .unset, .unset, .unset] [(.int (3 : Int32))]))
    refine OGo.to (fun _ k => XS.iconst X_210.here hx rfl (hb hby at_93) k) ?_
    show OGo p e below _ (T_210.setTop (mkF m 94 #[.val (.int p1), .val (.int p2), .val (.int p3), .val (.int p4), .val (.int p5), .val (.int p6), .val (.int (3 : Int32)), .val (.int lx), .val (.int ya), .val (.int yb), .val (.int yc), .val (.ref b_3), .unset, .unset, .unset, .unset] [(.int (3 : Int32)), (.int (3 : Int32))]))
    have hc94__219 : ¬ ((3 : Int32) < (3 : Int32)) := by decide
    refine OGo.to (fun _ k => XS.icmpNo X_210.here hx rfl (hb hby at_94) rfl (flt hc94__219).1 k) ?_
    show OGo p e below _ (T_210.setTop (mkF m 97 #[.val (.int p1), .val (.int p2), .val (.int p3), .val (.int p4), .val (.int p5), .val (.int p6), .val (.int (3 : Int32)), .val (.int lx), .val (.int ya), .val (.int yb), .val (.int yc), .val (.ref b_3), .unset, .unset, .unset, .unset] []))
    refine OGo.to (fun _ k => XS.aload X_210.here hx rfl (hb hby at_97) rfl rfl k) ?_
    show OGo p e below _ (T_210.setTop (mkF m 99 #[.val (.int p1), .val (.int p2), .val (.int p3), .val (.int p4), .val (.int p5), .val (.int p6), .val (.int (3 : Int32)), .val (.int lx), .val (.int ya), .val (.int yb), .val (.int yc), .val (.ref b_3), .unset, .unset, .unset, .unset] [(.ref b_3)]))
    have f_221 : Arv Z T_210.heap dd kd (.object "java/lang/Object") (0 : Int32) [] .null := VD.ext O_218.2
    have f_222 : Exa Z T_210.heap b_3 "java/util/ArrayList" := (f_211.keep K_210)
    have f_223 : Exa Z T_210.heap b_183 "com/example/dromos/dromos/model/Module$Signature" := (((f_204.ext E_201).keep K_207).keep K_210)
    have f_224 : Exa Z T_210.heap b_201 "com/example/dromos/dromos/model/Module$Signature" := (f_212.keep K_210)
    obtain ⟨T_220, h_220, X_220, e_220, E_220, A_220, D_220, -, st_220⟩ := newO X_210 hx hZ hown (hw _ (List.mem_of_getElem? (i := 27) rfl)) (hw _ (List.mem_of_getElem? (i := 28) rfl)) (hw _ (List.mem_of_getElem? (i := 29) rfl)) (rfl : T_210.heap = T_210.heap) (g := (mkF m 99 #[.val (.int p1), .val (.int p2), .val (.int p3), .val (.int p4), .val (.int p5), .val (.int p6), .val (.int (3 : Int32)), .val (.int lx), .val (.int ya), .val (.int yb), .val (.int yc), .val (.ref b_3), .unset, .unset, .unset, .unset] [(.ref b_3)])) rfl (hb hby at_99) (by decide) (by decide)
    obtain ⟨b_220, g_220⟩ : ∃ z, z = T_210.heap.size := ⟨_, rfl⟩
    rw [← g_220] at A_220 D_220 st_220
    have g_b_220 : n0 ≤ b_220 := Nat.le_trans z_217 (Nat.le_of_eq g_220.symm)
    refine OGo.to st_220 ?_
    have ne_dd_b_220 : dd ≠ b_220 := Nat.ne_of_lt (Nat.lt_of_lt_of_le f_221.lt (Nat.le_of_eq g_220.symm))
    have ne_b_3_b_220 : b_3 ≠ b_220 := Nat.ne_of_lt (Nat.lt_of_lt_of_le f_222.lt (Nat.le_of_eq g_220.symm))
    have ne_b_183_b_220 : b_183 ≠ b_220 := Nat.ne_of_lt (Nat.lt_of_lt_of_le f_223.lt (Nat.le_of_eq g_220.symm))
    have ne_b_201_b_220 : b_201 ≠ b_220 := Nat.ne_of_lt (Nat.lt_of_lt_of_le f_224.lt (Nat.le_of_eq g_220.symm))
    have ne_b__191_b_220 : b__191 ≠ b_220 := Nat.ne_of_lt (Nat.lt_of_lt_of_le p_210_3.lt (Nat.le_of_eq g_220.symm))
    have z_225 : n0 ≤ h_220.size := Nat.le_trans z_217 E_220.1
    have O_226 : Old Z n0 h_220 := O_218.ext E_220
    have F_name_b_220 : Fld Z h_220 b_220 "com/example/dromos/dromos/model/Module$Signature" "name" "Lcom/example/dromos/dromos/model/Identifier;" .null := D_220 (Or.inr (hw _ (List.mem_of_getElem? (i := 40) rfl))) (ty := (.object "com/example/dromos/dromos/model/Identifier")) (by decide)
    have F_arity_b_220 : Fld Z h_220 b_220 "com/example/dromos/dromos/model/Module$Signature" "arity" "I" (.int (0 : Int32)) := D_220 (Or.inr (hw _ (List.mem_of_getElem? (i := 42) rfl))) (ty := .int) (by decide)
    show OGo p e below _ (T_220.setTop (mkF m 102 #[.val (.int p1), .val (.int p2), .val (.int p3), .val (.int p4), .val (.int p5), .val (.int p6), .val (.int (3 : Int32)), .val (.int lx), .val (.int ya), .val (.int yb), .val (.int yc), .val (.ref b_3), .unset, .unset, .unset, .unset] [(.ref b_220), (.ref b_3)]))
    refine OGo.to (fun _ k => XS.dup X_220.here hx rfl (hb hby at_102) rfl rfl k) ?_
    show OGo p e below _ (T_220.setTop (mkF m 103 #[.val (.int p1), .val (.int p2), .val (.int p3), .val (.int p4), .val (.int p5), .val (.int p6), .val (.int (3 : Int32)), .val (.int lx), .val (.int ya), .val (.int yb), .val (.int yc), .val (.ref b_3), .unset, .unset, .unset, .unset] [(.ref b_220), (.ref b_220), (.ref b_3)]))
    refine OGo.to (fun _ k => XS.aconstNull X_220.here hx rfl (hb hby at_103) k) ?_
    show OGo p e below _ (T_220.setTop (mkF m 104 #[.val (.int p1), .val (.int p2), .val (.int p3), .val (.int p4), .val (.int p5), .val (.int p6), .val (.int (3 : Int32)), .val (.int lx), .val (.int ya), .val (.int yb), .val (.int yc), .val (.ref b_3), .unset, .unset, .unset, .unset] [.null, (.ref b_220), (.ref b_220), (.ref b_3)]))
    refine OGo.to (fun _ k => XS.iload X_220.here hx rfl (hb hby at_104) rfl k) ?_
    show OGo p e below _ (T_220.setTop (mkF m 106 #[.val (.int p1), .val (.int p2), .val (.int p3), .val (.int p4), .val (.int p5), .val (.int p6), .val (.int (3 : Int32)), .val (.int lx), .val (.int ya), .val (.int yb), .val (.int yc), .val (.ref b_3), .unset, .unset, .unset, .unset] [(.int yc), .null, (.ref b_220), (.ref b_220), (.ref b_3)]))
    obtain ⟨_, T_227, Lc_227, X_227, hQ_227, st_227⟩ := own_un X_220 (Q := Q5 Z b_220 yc h_220 n0) (rc := 0) (rs := 0) (W := fun v B => Steps p.tables e below (T_220.setTop (mkF m 106 #[.val (.int p1), .val (.int p2), .val (.int p3), .val (.int p4), .val (.int p5), .val (.int p6), .val (.int (3 : Int32)), .val (.int lx), .val (.int ya), .val (.int yb), .val (.int yc), .val (.ref b_3), .unset, .unset, .unset, .unset] [(.int yc), .null, (.ref b_220), (.ref b_220), (.ref b_3)])) (B.setTop { (mkF m 106 #[.val (.int p1), .val (.int p2), .val (.int p3), .val (.int p4), .val (.int p5), .val (.int p6), .val (.int (3 : Int32)), .val (.int lx), .val (.int ya), .val (.int yb), .val (.int yc), .val (.ref b_3), .unset, .unset, .unset, .unset] [(.int yc), .null, (.ref b_220), (.ref b_220), (.ref b_3)]) with pc := 109, stack := v.toList ++ [(.ref b_220), (.ref b_3)] })) <| X_220.specialBack hx (y := (⟨"com/example/dromos/dromos/model/Module$Signature", "<init>", "(Lcom/example/dromos/dromos/model/Identifier;I)V"⟩ : MethodName)) rfl hown (mvT hZ (hw _ (List.mem_of_getElem? (i := 30) rfl))) (mvT hZ (hw _ (List.mem_of_getElem? (i := 31) rfl))) (mvT hZ (hw _ (List.mem_of_getElem? (i := 32) rfl))) (by decide) (backOf (W := 2) (rm5 l Z a0 hw [] b_220 yc h_220 n0 z_225 A_220 F_name_b_220 F_arity_b_220 g_b_220) hZ (hw _ (List.mem_of_getElem? (i := 32) rfl)) (hw _ (List.mem_of_getElem? (i := 29) rfl)) (by decide) (by decide)) (g := (mkF m 106 #[.val (.int p1), .val (.int p2), .val (.int p3), .val (.int p4), .val (.int p5), .val (.int p6), .val (.int (3 : Int32)), .val (.int lx), .val (.int ya), .val (.int yb), .val (.int yc), .val (.ref b_3), .unset, .unset, .unset, .unset] [(.int yc), .null, (.ref b_220), (.ref b_220), (.ref b_3)])) rfl (by rw [hml]; rfl) (Steps.refl _) (a := b_220) (argsL := [.null, (.int yc)]) (rest := [(.ref b_220), (.ref b_3)]) (lenOf pd_11 rfl) rfl (by show 2 * 0 + _ ≤ _; exact Nat.le_of_eq rfl) (hb hby at_106) (fun _ _ => ⟨rfl, e_220, (by decide : 5 + 0 ≤ _), (by decide : 19 + 0 ≤ _)⟩)
    obtain ⟨rfl, N_227q, K_227, p_227_0⟩ := hQ_227
    have N_227 := Fr.app N_210 N_227q
    refine OGo.to (fun _ k => st_227.trans k) ?_
    have z_228 : n0 ≤ T_227.heap.size := Nat.le_trans z_225 K_227.1
    have O_229 : Old Z n0 T_227.heap := O_226.keep K_227 (allS g_b_220 all0)
    show OGo p e below _ (T_227.setTop (mkF m 109 #[.val (.int p1), .val (.int p2), .val (.int p3), .val (.int p4), .val (.int p5), .val (.int p6), .val (.int (3 : Int32)), .val (.int lx), .val (.int ya), .val (.int yb), .val (.int yc), .val (.ref b_3), .unset, .unset, .unset, .unset] [(.ref b_220), (.ref b_3)]))
    have f_231 : Exa Z T_227.heap b_3 "java/util/ArrayList" := ((f_222.ext E_220).keep K_227)
    have f_232 : Exa Z T_227.heap b_220 "com/example/dromos/dromos/model/Module$Signature" := (A_220.keep K_227)
    have f_233 : Fld Z T_227.heap b_3 "java/util/AbstractList" "modCount" "I" (.int (2 : Int32)) := ((p_210_0.ext E_220).keep K_227 (fun q => ne_b_3_b_220 (List.mem_singleton.mp q)))
    have f_234 : Fld Z T_227.heap b_3 "java/util/ArrayList" "size" "I" (.int (2 : Int32)) := ((p_210_1.ext E_220).keep K_227 (fun q => ne_b_3_b_220 (List.mem_singleton.mp q)))
    have f_235 : Fld Z T_227.heap b_3 "java/util/ArrayList" "elementData" "[Ljava/lang/Object;" (.ref b__191) := ((p_210_2.ext E_220).keep K_227 (fun q => ne_b_3_b_220 (List.mem_singleton.mp q)))
    have f_236 : Arv Z T_227.heap b__191 kb__191 (.object "java/lang/Object") (10 : Int32) [(.ref b_183), (.ref b_201), .null, .null, .null, .null, .null, .null, .null, .null] .null := ((p_210_3.ext E_220).keep K_227 (fun q => ne_b__191_b_220 (List.mem_singleton.mp q)))
    obtain ⟨cq_230, kq_230, q_230a, q_230b, q_230c⟩ := isOf hZ (rfl : T_227.heap = T_227.heap) f_231
    obtain ⟨_, T_230, Lc_230, X_230, hQ_230, st_230⟩ := own_un X_227 (Q := Qadd2 Z b_3 b_220 b__191 kb__191 b_183 b_201 T_227.heap n0) (rc := 0) (rs := 0) (W := fun v B => Steps p.tables e below (T_227.setTop (mkF m 109 #[.val (.int p1), .val (.int p2), .val (.int p3), .val (.int p4), .val (.int p5), .val (.int p6), .val (.int (3 : Int32)), .val (.int lx), .val (.int ya), .val (.int yb), .val (.int yc), .val (.ref b_3), .unset, .unset, .unset, .unset] [(.ref b_220), (.ref b_3)])) (B.setTop { (mkF m 109 #[.val (.int p1), .val (.int p2), .val (.int p3), .val (.int p4), .val (.int p5), .val (.int p6), .val (.int (3 : Int32)), .val (.int lx), .val (.int ya), .val (.int yb), .val (.int yc), .val (.ref b_3), .unset, .unset, .unset, .unset] [(.ref b_220), (.ref b_3)]) with pc := 112, stack := v.toList ++ [] })) <| X_227.virtualBack hx (y := (⟨"java/util/ArrayList", "add", "(Ljava/lang/Object;)Z"⟩ : MethodName)) (z := (⟨"java/util/ArrayList", "add", "(Ljava/lang/Object;)Z"⟩ : MethodName)) hown (mvT hZ (hw _ (List.mem_of_getElem? (i := 43) rfl))) (mvT hZ (hw _ (List.mem_of_getElem? (i := 44) rfl))) (notFace_of_selects (args := #[]) (mvT hZ (hw _ (List.mem_of_getElem? (i := 46) rfl)))) (mvT hZ (hw _ (List.mem_of_getElem? (i := 46) rfl))) (mvT hZ (hw _ (List.mem_of_getElem? (i := 45) rfl))) (by decide) (backOf (W := 0) (rmadd2 l Z a0 hw [] b_3 b_220 b__191 kb__191 b_183 b_201 T_227.heap n0 z_228 f_231 f_232 g_b_3 ne_b_3_b_220 f_233 f_234 f_235 f_236 p_191_4 gq_b__191 p_191_5 (Ne.symm ne_b__191_b_220)) hZ (hw _ (List.mem_of_getElem? (i := 47) rfl)) (hw _ (List.mem_of_getElem? (i := 3) rfl)) (by decide) (by decide)) q_230a q_230c (g := (mkF m 109 #[.val (.int p1), .val (.int p2), .val (.int p3), .val (.int p4), .val (.int p5), .val (.int p6), .val (.int (3 : Int32)), .val (.int lx), .val (.int ya), .val (.int yb), .val (.int yc), .val (.ref b_3), .unset, .unset, .unset, .unset] [(.ref b_220), (.ref b_3)])) rfl (by rw [hml]; rfl) (Steps.refl _) (argsL := [(.ref b_220)]) (rest := []) (lenOf pd_12 rfl) rfl (by show 2 * 0 + _ ≤ _; exact Nat.le_of_eq rfl) (hb hby at_109) (fun _ _ => ⟨rfl, (rfl : T_227.heap = T_227.heap), (by decide : 5 + 0 ≤ _), (by decide : 19 + 0 ≤ _)⟩)
    obtain ⟨rfl, N_230q, K_230, p_230_0, p_230_1, p_230_2, p_230_3⟩ := hQ_230
    have N_230 := Fr.app N_227 N_230q
    refine OGo.to (fun _ k => st_230.trans k) ?_
    have z_237 : n0 ≤ T_230.heap.size := Nat.le_trans z_228 K_230.1
    have O_238 : Old Z n0 T_230.heap := O_229.keep K_230 (allS g_b_3 (allS gq_b__191 all0))
    show OGo p e below _ (T_230.setTop (mkF m 112 #[.val (.int p1), .val (.int p2), .val (.int p3), .val (.int p4), .val (.int p5), .val (.int p6), .val (.int (3 : Int32)), .val (.int lx), .val (.int ya), .val (.int yb), .val (.int yc), .val (.ref b_3), .unset, .unset, .unset, .unset] [(.int (1 : Int32))]))
    refine OGo.to (fun _ k => XS.pop X_230.here hx rfl (hb hby at_112) rfl rfl k) ?_
    show OGo p e below _ (T_230.setTop (mkF m 113 #[.val (.int p1), .val (.int p2), .val (.int p3), .val (.int p4), .val (.int p5), .val (.int p6), .val (.int (3 : Int32)), .val (.int lx), .val (.int ya), .val (.int yb), .val (.int yc), .val (.ref b_3), .unset, .unset, .unset, .unset] []))
    have f_240 : Arv Z T_230.heap dd kd (.object "java/lang/Object") (0 : Int32) [] .null := VD.ext O_238.2
    have f_241 : Exa Z T_230.heap b_3 "java/util/ArrayList" := (f_231.keep K_230)
    have f_242 : Exa Z T_230.heap b_183 "com/example/dromos/dromos/model/Module$Signature" := (((f_223.ext E_220).keep K_227).keep K_230)
    have f_243 : Exa Z T_230.heap b_201 "com/example/dromos/dromos/model/Module$Signature" := (((f_224.ext E_220).keep K_227).keep K_230)
    have f_244 : Exa Z T_230.heap b_220 "com/example/dromos/dromos/model/Module$Signature" := (f_232.keep K_230)
    obtain ⟨T_239, h_239, X_239, e_239, E_239, A_239, D_239, -, st_239⟩ := newO X_230 hx hZ hown (hw _ (List.mem_of_getElem? (i := 74) rfl)) (hw _ (List.mem_of_getElem? (i := 75) rfl)) (hw _ (List.mem_of_getElem? (i := 76) rfl)) (rfl : T_230.heap = T_230.heap) (g := (mkF m 113 #[.val (.int p1), .val (.int p2), .val (.int p3), .val (.int p4), .val (.int p5), .val (.int p6), .val (.int (3 : Int32)), .val (.int lx), .val (.int ya), .val (.int yb), .val (.int yc), .val (.ref b_3), .unset, .unset, .unset, .unset] [])) rfl (hb hby at_113) (by decide) (by decide)
    obtain ⟨b_239, g_239⟩ : ∃ z, z = T_230.heap.size := ⟨_, rfl⟩
    rw [← g_239] at A_239 D_239 st_239
    have g_b_239 : n0 ≤ b_239 := Nat.le_trans z_237 (Nat.le_of_eq g_239.symm)
    refine OGo.to st_239 ?_
    have ne_dd_b_239 : dd ≠ b_239 := Nat.ne_of_lt (Nat.lt_of_lt_of_le f_240.lt (Nat.le_of_eq g_239.symm))
    have ne_b_3_b_239 : b_3 ≠ b_239 := Nat.ne_of_lt (Nat.lt_of_lt_of_le f_241.lt (Nat.le_of_eq g_239.symm))
    have ne_b_183_b_239 : b_183 ≠ b_239 := Nat.ne_of_lt (Nat.lt_of_lt_of_le f_242.lt (Nat.le_of_eq g_239.symm))
    have ne_b_201_b_239 : b_201 ≠ b_239 := Nat.ne_of_lt (Nat.lt_of_lt_of_le f_243.lt (Nat.le_of_eq g_239.symm))
    have ne_b_220_b_239 : b_220 ≠ b_239 := Nat.ne_of_lt (Nat.lt_of_lt_of_le f_244.lt (Nat.le_of_eq g_239.symm))
    have ne_b__191_b_239 : b__191 ≠ b_239 := Nat.ne_of_lt (Nat.lt_of_lt_of_le p_230_3.lt (Nat.le_of_eq g_239.symm))
    have z_245 : n0 ≤ h_239.size := Nat.le_trans z_237 E_239.1
    have O_246 : Old Z n0 h_239 := O_238.ext E_239
    have F_bound_b_239 : Fld Z h_239 b_239 "com/example/dromos/dromos/service/Definition" "bound" "I" (.int (0 : Int32)) := D_239 (Or.inl (hw _ (List.mem_of_getElem? (i := 82) rfl))) (ty := .int) (by decide)
    have F_free_b_239 : Fld Z h_239 b_239 "com/example/dromos/dromos/service/Definition" "free" "I" (.int (0 : Int32)) := D_239 (Or.inl (hw _ (List.mem_of_getElem? (i := 84) rfl))) (ty := .int) (by decide)
    have F_operators_b_239 : Fld Z h_239 b_239 "com/example/dromos/dromos/service/Definition" "operators" "[I" .null := D_239 (Or.inl (hw _ (List.mem_of_getElem? (i := 87) rfl))) (ty := (.array .int)) (by decide)
    have F_name_b_239 : Fld Z h_239 b_239 "com/example/dromos/dromos/service/Definition" "name" "Ljava/lang/String;" .null := D_239 (Or.inr (hw _ (List.mem_of_getElem? (i := 89) rfl))) (ty := (.object "java/lang/String")) (by decide)
    have F_arity_b_239 : Fld Z h_239 b_239 "com/example/dromos/dromos/service/Definition" "arity" "I" (.int (0 : Int32)) := D_239 (Or.inr (hw _ (List.mem_of_getElem? (i := 91) rfl))) (ty := .int) (by decide)
    have F_hidden_b_239 : Fld Z h_239 b_239 "com/example/dromos/dromos/service/Definition" "hidden" "I" (.int (0 : Int32)) := D_239 (Or.inr (hw _ (List.mem_of_getElem? (i := 93) rfl))) (ty := .int) (by decide)
    have F_at_b_239 : Fld Z h_239 b_239 "com/example/dromos/dromos/service/Definition" "at" "Lcom/example/dromos/dromos/model/Location;" .null := D_239 (Or.inr (hw _ (List.mem_of_getElem? (i := 95) rfl))) (ty := (.object "com/example/dromos/dromos/model/Location")) (by decide)
    have F_lexical_b_239 : Fld Z h_239 b_239 "com/example/dromos/dromos/service/Definition" "lexical" "Z" (.int (0 : Int32)) := D_239 (Or.inr (hw _ (List.mem_of_getElem? (i := 97) rfl))) (ty := .boolean) (by decide)
    show OGo p e below _ (T_239.setTop (mkF m 116 #[.val (.int p1), .val (.int p2), .val (.int p3), .val (.int p4), .val (.int p5), .val (.int p6), .val (.int (3 : Int32)), .val (.int lx), .val (.int ya), .val (.int yb), .val (.int yc), .val (.ref b_3), .unset, .unset, .unset, .unset] [(.ref b_239)]))
    refine OGo.to (fun _ k => XS.dup X_239.here hx rfl (hb hby at_116) rfl rfl k) ?_
    show OGo p e below _ (T_239.setTop (mkF m 117 #[.val (.int p1), .val (.int p2), .val (.int p3), .val (.int p4), .val (.int p5), .val (.int p6), .val (.int (3 : Int32)), .val (.int lx), .val (.int ya), .val (.int yb), .val (.int yc), .val (.ref b_3), .unset, .unset, .unset, .unset] [(.ref b_239), (.ref b_239)]))
    refine OGo.to (fun _ k => XS.aconstNull X_239.here hx rfl (hb hby at_117) k) ?_
    show OGo p e below _ (T_239.setTop (mkF m 118 #[.val (.int p1), .val (.int p2), .val (.int p3), .val (.int p4), .val (.int p5), .val (.int p6), .val (.int (3 : Int32)), .val (.int lx), .val (.int ya), .val (.int yb), .val (.int yc), .val (.ref b_3), .unset, .unset, .unset, .unset] [.null, (.ref b_239), (.ref b_239)]))
    refine OGo.to (fun _ k => XS.iload X_239.here hx rfl (hb hby at_118) rfl k) ?_
    show OGo p e below _ (T_239.setTop (mkF m 120 #[.val (.int p1), .val (.int p2), .val (.int p3), .val (.int p4), .val (.int p5), .val (.int p6), .val (.int (3 : Int32)), .val (.int lx), .val (.int ya), .val (.int yb), .val (.int yc), .val (.ref b_3), .unset, .unset, .unset, .unset] [(.int p5), .null, (.ref b_239), (.ref b_239)]))
    refine OGo.to (fun _ k => XS.iload X_239.here hx rfl (hb hby at_120) rfl k) ?_
    show OGo p e below _ (T_239.setTop (mkF m 122 #[.val (.int p1), .val (.int p2), .val (.int p3), .val (.int p4), .val (.int p5), .val (.int p6), .val (.int (3 : Int32)), .val (.int lx), .val (.int ya), .val (.int yb), .val (.int yc), .val (.ref b_3), .unset, .unset, .unset, .unset] [(.int p6), (.int p5), .null, (.ref b_239), (.ref b_239)]))
    refine OGo.to (fun _ k => XS.aconstNull X_239.here hx rfl (hb hby at_122) k) ?_
    show OGo p e below _ (T_239.setTop (mkF m 123 #[.val (.int p1), .val (.int p2), .val (.int p3), .val (.int p4), .val (.int p5), .val (.int p6), .val (.int (3 : Int32)), .val (.int lx), .val (.int ya), .val (.int yb), .val (.int yc), .val (.ref b_3), .unset, .unset, .unset, .unset] [.null, (.int p6), (.int p5), .null, (.ref b_239), (.ref b_239)]))
    refine OGo.to (fun _ k => XS.iload X_239.here hx rfl (hb hby at_123) rfl k) ?_
    show OGo p e below _ (T_239.setTop (mkF m 125 #[.val (.int p1), .val (.int p2), .val (.int p3), .val (.int p4), .val (.int p5), .val (.int p6), .val (.int (3 : Int32)), .val (.int lx), .val (.int ya), .val (.int yb), .val (.int yc), .val (.ref b_3), .unset, .unset, .unset, .unset] [(.int lx), .null, (.int p6), (.int p5), .null, (.ref b_239), (.ref b_239)]))
    have f_248 : Arv Z h_239 dd kd (.object "java/lang/Object") (0 : Int32) [] .null := VD.ext O_246.2
    have f_249 : Exa Z h_239 b_3 "java/util/ArrayList" := (f_241.ext E_239)
    have f_250 : Exa Z h_239 b_183 "com/example/dromos/dromos/model/Module$Signature" := (f_242.ext E_239)
    have f_251 : Exa Z h_239 b_201 "com/example/dromos/dromos/model/Module$Signature" := (f_243.ext E_239)
    have f_252 : Exa Z h_239 b_220 "com/example/dromos/dromos/model/Module$Signature" := (f_244.ext E_239)
    have f_253 : Arv Z h_239 b__191 kb__191 (.object "java/lang/Object") (10 : Int32) [(.ref b_183), (.ref b_201), (.ref b_220), .null, .null, .null, .null, .null, .null, .null] .null := (p_230_3.ext E_239)
    obtain ⟨_, T_247, Lc_247, X_247, hQ_247, st_247⟩ := own_un X_239 (Q := Q12 Z b_239 p5 p6 lx h_239 n0) (rc := 1) (rs := 0) (W := fun v B => Steps p.tables e below (T_239.setTop (mkF m 125 #[.val (.int p1), .val (.int p2), .val (.int p3), .val (.int p4), .val (.int p5), .val (.int p6), .val (.int (3 : Int32)), .val (.int lx), .val (.int ya), .val (.int yb), .val (.int yc), .val (.ref b_3), .unset, .unset, .unset, .unset] [(.int lx), .null, (.int p6), (.int p5), .null, (.ref b_239), (.ref b_239)])) (B.setTop { (mkF m 125 #[.val (.int p1), .val (.int p2), .val (.int p3), .val (.int p4), .val (.int p5), .val (.int p6), .val (.int (3 : Int32)), .val (.int lx), .val (.int ya), .val (.int yb), .val (.int yc), .val (.ref b_3), .unset, .unset, .unset, .unset] [(.int lx), .null, (.int p6), (.int p5), .null, (.ref b_239), (.ref b_239)]) with pc := 128, stack := v.toList ++ [(.ref b_239)] })) <| X_239.specialBack hx (y := (⟨"com/example/dromos/dromos/service/Definition", "<init>", "(Ljava/lang/String;IILcom/example/dromos/dromos/model/Location;Z)V"⟩ : MethodName)) rfl hown (mvT hZ (hw _ (List.mem_of_getElem? (i := 77) rfl))) (mvT hZ (hw _ (List.mem_of_getElem? (i := 78) rfl))) (mvT hZ (hw _ (List.mem_of_getElem? (i := 79) rfl))) (by decide) (backOf (W := 1) (rm12 l Z a0 hw [] b_239 p5 p6 lx h_239 n0 z_245 A_239 F_bound_b_239 F_free_b_239 F_operators_b_239 F_name_b_239 F_arity_b_239 F_hidden_b_239 F_at_b_239 F_lexical_b_239 g_b_239 (b_lx)) hZ (hw _ (List.mem_of_getElem? (i := 79) rfl)) (hw _ (List.mem_of_getElem? (i := 76) rfl)) (by decide) (by decide)) (g := (mkF m 125 #[.val (.int p1), .val (.int p2), .val (.int p3), .val (.int p4), .val (.int p5), .val (.int p6), .val (.int (3 : Int32)), .val (.int lx), .val (.int ya), .val (.int yb), .val (.int yc), .val (.ref b_3), .unset, .unset, .unset, .unset] [(.int lx), .null, (.int p6), (.int p5), .null, (.ref b_239), (.ref b_239)])) rfl (by rw [hml]; rfl) (Steps.refl _) (a := b_239) (argsL := [.null, (.int p5), (.int p6), .null, (.int lx)]) (rest := [(.ref b_239)]) (lenOf pd_8 rfl) rfl (by show 2 * 0 + _ ≤ _; exact Nat.le_of_eq rfl) (hb hby at_125) (fun _ _ => ⟨rfl, e_239, (by decide : 6 + 1 ≤ _), (by decide : 34 + 0 ≤ _)⟩)
    obtain ⟨b__247, kb__247, rfl, N_247q, K_247, gq_b__247, sq_b__247, p_247_0, p_247_1, p_247_2, p_247_3, p_247_4, p_247_5, p_247_6⟩ := hQ_247
    have N_247 := Fr.app N_230 N_247q
    refine OGo.to (fun _ k => st_247.trans k) ?_
    have ne_dd_b__247 : dd ≠ b__247 := Nat.ne_of_lt (Nat.lt_of_lt_of_le f_248.lt sq_b__247)
    have ne_b_3_b__247 : b_3 ≠ b__247 := Nat.ne_of_lt (Nat.lt_of_lt_of_le f_249.lt sq_b__247)
    have ne_b_183_b__247 : b_183 ≠ b__247 := Nat.ne_of_lt (Nat.lt_of_lt_of_le f_250.lt sq_b__247)
    have ne_b_201_b__247 : b_201 ≠ b__247 := Nat.ne_of_lt (Nat.lt_of_lt_of_le f_251.lt sq_b__247)
    have ne_b_220_b__247 : b_220 ≠ b__247 := Nat.ne_of_lt (Nat.lt_of_lt_of_le f_252.lt sq_b__247)
    have ne_b__191_b__247 : b__191 ≠ b__247 := Nat.ne_of_lt (Nat.lt_of_lt_of_le f_253.lt sq_b__247)
    have ne_b_239_b__247 : b_239 ≠ b__247 := Nat.ne_of_lt (Nat.lt_of_lt_of_le A_239.lt sq_b__247)
    have z_254 : n0 ≤ T_247.heap.size := Nat.le_trans z_245 K_247.1
    have O_255 : Old Z n0 T_247.heap := O_246.keep K_247 (allS g_b_239 all0)
    show OGo p e below _ (T_247.setTop (mkF m 128 #[.val (.int p1), .val (.int p2), .val (.int p3), .val (.int p4), .val (.int p5), .val (.int p6), .val (.int (3 : Int32)), .val (.int lx), .val (.int ya), .val (.int yb), .val (.int yc), .val (.ref b_3), .unset, .unset, .unset, .unset] [(.ref b_239)]))
    refine OGo.to (fun _ k => XS.astore X_247.here hx rfl (hb hby at_128) rfl rfl (l' := #[.val (.int p1), .val (.int p2), .val (.int p3), .val (.int p4), .val (.int p5), .val (.int p6), .val (.int (3 : Int32)), .val (.int lx), .val (.int ya), .val (.int yb), .val (.int yc), .val (.ref b_3), .val (.ref b_239), .unset, .unset, .unset]) rfl k) ?_
    show OGo p e below _ (T_247.setTop (mkF m 130 #[.val (.int p1), .val (.int p2), .val (.int p3), .val (.int p4), .val (.int p5), .val (.int p6), .val (.int (3 : Int32)), .val (.int lx), .val (.int ya), .val (.int yb), .val (.int yc), .val (.ref b_3), .val (.ref b_239), .unset, .unset, .unset] []))
    refine OGo.to (fun _ k => XS.aload X_247.here hx rfl (hb hby at_130) rfl rfl k) ?_
    show OGo p e below _ (T_247.setTop (mkF m 132 #[.val (.int p1), .val (.int p2), .val (.int p3), .val (.int p4), .val (.int p5), .val (.int p6), .val (.int (3 : Int32)), .val (.int lx), .val (.int ya), .val (.int yb), .val (.int yc), .val (.ref b_3), .val (.ref b_239), .unset, .unset, .unset] [(.ref b_239)]))
    have f_257 : Exa Z T_247.heap b_239 "com/example/dromos/dromos/service/Definition" := (A_239.keep K_247)
    obtain ⟨cq_256, kq_256, q_256a, q_256b, q_256c⟩ := isOf hZ (rfl : T_247.heap = T_247.heap) f_257
    obtain ⟨_, T_256, Lc_256, X_256, hQ_256, st_256⟩ := own_un X_247 (Q := Qop0 Z b_239 b__247 kb__247 T_247.heap n0) (rc := 0) (rs := 0) (W := fun v B => Steps p.tables e below (T_247.setTop (mkF m 132 #[.val (.int p1), .val (.int p2), .val (.int p3), .val (.int p4), .val (.int p5), .val (.int p6), .val (.int (3 : Int32)), .val (.int lx), .val (.int ya), .val (.int yb), .val (.int yc), .val (.ref b_3), .val (.ref b_239), .unset, .unset, .unset] [(.ref b_239)])) (B.setTop { (mkF m 132 #[.val (.int p1), .val (.int p2), .val (.int p3), .val (.int p4), .val (.int p5), .val (.int p6), .val (.int (3 : Int32)), .val (.int lx), .val (.int ya), .val (.int yb), .val (.int yc), .val (.ref b_3), .val (.ref b_239), .unset, .unset, .unset] [(.ref b_239)]) with pc := 135, stack := v.toList ++ [] })) <| X_247.virtualBack hx (y := (⟨"com/example/dromos/dromos/service/Definition", "takesOperators", "()Z"⟩ : MethodName)) (z := (⟨"com/example/dromos/dromos/service/Definition", "takesOperators", "()Z"⟩ : MethodName)) hown (mvT hZ (hw _ (List.mem_of_getElem? (i := 98) rfl))) (mvT hZ (hw _ (List.mem_of_getElem? (i := 99) rfl))) (notFace_of_selects (args := #[]) (mvT hZ (hw _ (List.mem_of_getElem? (i := 101) rfl)))) (mvT hZ (hw _ (List.mem_of_getElem? (i := 101) rfl))) (mvT hZ (hw _ (List.mem_of_getElem? (i := 100) rfl))) (by decide) (backOf (W := 0) (rmop0 l Z a0 hw [] b_239 b__247 kb__247 T_247.heap n0 z_254 p_247_4 p_247_5) hZ (hw _ (List.mem_of_getElem? (i := 102) rfl)) (hw _ (List.mem_of_getElem? (i := 76) rfl)) (by decide) (by decide)) q_256a q_256c (g := (mkF m 132 #[.val (.int p1), .val (.int p2), .val (.int p3), .val (.int p4), .val (.int p5), .val (.int p6), .val (.int (3 : Int32)), .val (.int lx), .val (.int ya), .val (.int yb), .val (.int yc), .val (.ref b_3), .val (.ref b_239), .unset, .unset, .unset] [(.ref b_239)])) rfl (by rw [hml]; rfl) (Steps.refl _) (argsL := []) (rest := []) (lenOf pd_9 rfl) rfl (by show 2 * 0 + _ ≤ _; exact Nat.le_of_eq rfl) (hb hby at_132) (fun _ _ => ⟨rfl, (rfl : T_247.heap = T_247.heap), (by decide : 7 + 0 ≤ _), (by decide : 34 + 0 ≤ _)⟩)
    obtain ⟨rfl, N_256q, e_256⟩ := hQ_256
    have N_256 := Fr.app N_247 N_256q
    refine OGo.to (fun _ k => st_256.trans k) ?_
    show OGo p e below _ (T_256.setTop (mkF m 135 #[.val (.int p1), .val (.int p2), .val (.int p3), .val (.int p4), .val (.int p5), .val (.int p6), .val (.int (3 : Int32)), .val (.int lx), .val (.int ya), .val (.int yb), .val (.int yc), .val (.ref b_3), .val (.ref b_239), .unset, .unset, .unset] [(.int (0 : Int32))]))
    refine OGo.to (fun _ k => XS.istore X_256.here hx rfl (hb hby at_135) rfl (l' := #[.val (.int p1), .val (.int p2), .val (.int p3), .val (.int p4), .val (.int p5), .val (.int p6), .val (.int (3 : Int32)), .val (.int lx), .val (.int ya), .val (.int yb), .val (.int yc), .val (.ref b_3), .val (.ref b_239), .val (.int (0 : Int32)), .unset, .unset]) rfl k) ?_
    show OGo p e below _ (T_256.setTop (mkF m 137 #[.val (.int p1), .val (.int p2), .val (.int p3), .val (.int p4), .val (.int p5), .val (.int p6), .val (.int (3 : Int32)), .val (.int lx), .val (.int ya), .val (.int yb), .val (.int yc), .val (.ref b_3), .val (.ref b_239), .val (.int (0 : Int32)), .unset, .unset] []))
    refine OGo.to (fun _ k => XS.aload X_256.here hx rfl (hb hby at_137) rfl rfl k) ?_
    show OGo p e below _ (T_256.setTop (mkF m 139 #[.val (.int p1), .val (.int p2), .val (.int p3), .val (.int p4), .val (.int p5), .val (.int p6), .val (.int (3 : Int32)), .val (.int lx), .val (.int ya), .val (.int yb), .val (.int yc), .val (.ref b_3), .val (.ref b_239), .val (.int (0 : Int32)), .unset, .unset] [(.ref b_239)]))
    refine OGo.to (fun _ k => XS.aload X_256.here hx rfl (hb hby at_139) rfl rfl k) ?_
    show OGo p e below _ (T_256.setTop (mkF m 141 #[.val (.int p1), .val (.int p2), .val (.int p3), .val (.int p4), .val (.int p5), .val (.int p6), .val (.int (3 : Int32)), .val (.int lx), .val (.int ya), .val (.int yb), .val (.int yc), .val (.ref b_3), .val (.ref b_239), .val (.int (0 : Int32)), .unset, .unset] [(.ref b_3), (.ref b_239)]))
    have f_259 : Exa Z T_247.heap b_3 "java/util/ArrayList" := (f_249.keep K_247)
    have f_260 : Fld Z T_247.heap b_3 "java/util/ArrayList" "size" "I" (.int (3 : Int32)) := ((p_230_1.ext E_239).keep K_247 (fun q => ne_b_3_b_239 (List.mem_singleton.mp q)))
    have f_261 : Fld Z T_247.heap b_3 "java/util/ArrayList" "elementData" "[Ljava/lang/Object;" (.ref b__191) := ((p_230_2.ext E_239).keep K_247 (fun q => ne_b_3_b_239 (List.mem_singleton.mp q)))
    have f_262 : Arv Z T_247.heap b__191 kb__191 (.object "java/lang/Object") (10 : Int32) [(.ref b_183), (.ref b_201), (.ref b_220), .null, .null, .null, .null, .null, .null, .null] .null := (f_253.keep K_247 (fun q => ne_b__191_b_239 (List.mem_singleton.mp q)))
    have f_263 : Exa Z T_247.heap b_183 "com/example/dromos/dromos/model/Module$Signature" := (f_250.keep K_247)
    have f_264 : Fld Z T_247.heap b_183 "com/example/dromos/dromos/model/Module$Signature" "arity" "I" (.int ya) := (((((((((p_188_0.keep K_191 (fun q => (Ne.symm ne_b_3_b_183) (List.mem_singleton.mp q))).ext E_201).keep K_207 (fun q => ne_b_183_b_201 (List.mem_singleton.mp q))).keep K_210 (by simp only [List.mem_cons, List.not_mem_nil, or_false, not_or]; exact ⟨(Ne.symm ne_b_3_b_183), p_191_6⟩)).ext E_220).keep K_227 (fun q => ne_b_183_b_220 (List.mem_singleton.mp q))).keep K_230 (by simp only [List.mem_cons, List.not_mem_nil, or_false, not_or]; exact ⟨(Ne.symm ne_b_3_b_183), p_191_6⟩)).ext E_239).keep K_247 (fun q => ne_b_183_b_239 (List.mem_singleton.mp q)))
    have f_265 : Exa Z T_247.heap b_201 "com/example/dromos/dromos/model/Module$Signature" := (f_251.keep K_247)
    have f_266 : Fld Z T_247.heap b_201 "com/example/dromos/dromos/model/Module$Signature" "arity" "I" (.int yb) := ((((((p_207_0.keep K_210 (by simp only [List.mem_cons, List.not_mem_nil, or_false, not_or]; exact ⟨(Ne.symm ne_b_3_b_201), (Ne.symm ne_b__191_b_201)⟩)).ext E_220).keep K_227 (fun q => ne_b_201_b_220 (List.mem_singleton.mp q))).keep K_230 (by simp only [List.mem_cons, List.not_mem_nil, or_false, not_or]; exact ⟨(Ne.symm ne_b_3_b_201), (Ne.symm ne_b__191_b_201)⟩)).ext E_239).keep K_247 (fun q => ne_b_201_b_239 (List.mem_singleton.mp q)))
    have f_267 : Exa Z T_247.heap b_220 "com/example/dromos/dromos/model/Module$Signature" := (f_252.keep K_247)
    have f_268 : Fld Z T_247.heap b_220 "com/example/dromos/dromos/model/Module$Signature" "arity" "I" (.int yc) := (((p_227_0.keep K_230 (by simp only [List.mem_cons, List.not_mem_nil, or_false, not_or]; exact ⟨(Ne.symm ne_b_3_b_220), (Ne.symm ne_b__191_b_220)⟩)).ext E_239).keep K_247 (fun q => ne_b_220_b_239 (List.mem_singleton.mp q)))
    have f_269 : Arv Z T_247.heap dd kd (.object "java/lang/Object") (0 : Int32) [] .null := VD.ext O_255.2
    obtain ⟨cq_258, kq_258, q_258a, q_258b, q_258c⟩ := isOf hZ e_256 f_257
    obtain ⟨_, T_258, Lc_258, X_258, hQ_258, st_258⟩ := own_un X_256 (Q := Qtk3 Z b_239 b_3 b__247 b__191 kb__191 b_183 b_201 b_220 ya yb yc T_247.heap n0) (rc := 1) (rs := 3) (W := fun v B => Steps p.tables e below (T_256.setTop (mkF m 141 #[.val (.int p1), .val (.int p2), .val (.int p3), .val (.int p4), .val (.int p5), .val (.int p6), .val (.int (3 : Int32)), .val (.int lx), .val (.int ya), .val (.int yb), .val (.int yc), .val (.ref b_3), .val (.ref b_239), .val (.int (0 : Int32)), .unset, .unset] [(.ref b_3), (.ref b_239)])) (B.setTop { (mkF m 141 #[.val (.int p1), .val (.int p2), .val (.int p3), .val (.int p4), .val (.int p5), .val (.int p6), .val (.int (3 : Int32)), .val (.int lx), .val (.int ya), .val (.int yb), .val (.int yc), .val (.ref b_3), .val (.ref b_239), .val (.int (0 : Int32)), .unset, .unset] [(.ref b_3), (.ref b_239)]) with pc := 144, stack := v.toList ++ [] })) <| X_256.virtualBack hx (y := (⟨"com/example/dromos/dromos/service/Definition", "takes", "(Ljava/util/List;)V"⟩ : MethodName)) (z := (⟨"com/example/dromos/dromos/service/Definition", "takes", "(Ljava/util/List;)V"⟩ : MethodName)) hown (mvT hZ (hw _ (List.mem_of_getElem? (i := 103) rfl))) (mvT hZ (hw _ (List.mem_of_getElem? (i := 104) rfl))) (notFace_of_selects (args := #[]) (mvT hZ (hw _ (List.mem_of_getElem? (i := 106) rfl)))) (mvT hZ (hw _ (List.mem_of_getElem? (i := 106) rfl))) (mvT hZ (hw _ (List.mem_of_getElem? (i := 105) rfl))) (by decide) (backOf (W := 0) (rmtk3 l Z a0 hw [] b_239 b_3 b__247 b__191 kb__191 b_183 b_201 b_220 ya yb yc T_247.heap n0 z_254 f_257 f_259 p_247_4 f_260 g_b_239 (Ne.symm ne_b_3_b_239) f_261 f_262 (Ne.symm ne_b__191_b_239) f_263 f_264 (Ne.symm ne_b_183_b_239) f_265 f_266 (Ne.symm ne_b_201_b_239) f_267 f_268 (Ne.symm ne_b_220_b_239)) hZ (hw _ (List.mem_of_getElem? (i := 107) rfl)) (hw _ (List.mem_of_getElem? (i := 76) rfl)) (by decide) (by decide)) q_258a q_258c (g := (mkF m 141 #[.val (.int p1), .val (.int p2), .val (.int p3), .val (.int p4), .val (.int p5), .val (.int p6), .val (.int (3 : Int32)), .val (.int lx), .val (.int ya), .val (.int yb), .val (.int yc), .val (.ref b_3), .val (.ref b_239), .val (.int (0 : Int32)), .unset, .unset] [(.ref b_3), (.ref b_239)])) rfl (by rw [hml]; rfl) (Steps.refl _) (argsL := [(.ref b_3)]) (rest := []) (lenOf pd_10 rfl) rfl (by show 2 * 0 + _ ≤ _; exact Nat.le_of_eq rfl) (hb hby at_141) (fun _ _ => ⟨rfl, e_256, (by decide : 7 + 1 ≤ _), (by decide : 34 + 3 ≤ _)⟩)
    obtain ⟨b__258, kk__258, rfl, N_258q, K_258, gq_b__258, sq_b__258, p_258_0, p_258_1⟩ := hQ_258
    have N_258 := Fr.app N_256 N_258q
    refine OGo.to (fun _ k => st_258.trans k) ?_
    have ne_dd_b__258 : dd ≠ b__258 := Nat.ne_of_lt (Nat.lt_of_lt_of_le f_269.lt sq_b__258)
    have ne_b_3_b__258 : b_3 ≠ b__258 := Nat.ne_of_lt (Nat.lt_of_lt_of_le f_259.lt sq_b__258)
    have ne_b_183_b__258 : b_183 ≠ b__258 := Nat.ne_of_lt (Nat.lt_of_lt_of_le f_263.lt sq_b__258)
    have ne_b_201_b__258 : b_201 ≠ b__258 := Nat.ne_of_lt (Nat.lt_of_lt_of_le f_265.lt sq_b__258)
    have ne_b_220_b__258 : b_220 ≠ b__258 := Nat.ne_of_lt (Nat.lt_of_lt_of_le f_267.lt sq_b__258)
    have ne_b__191_b__258 : b__191 ≠ b__258 := Nat.ne_of_lt (Nat.lt_of_lt_of_le f_262.lt sq_b__258)
    have ne_b_239_b__258 : b_239 ≠ b__258 := Nat.ne_of_lt (Nat.lt_of_lt_of_le f_257.lt sq_b__258)
    have ne_b__247_b__258 : b__247 ≠ b__258 := Nat.ne_of_lt (Nat.lt_of_lt_of_le p_247_5.lt sq_b__258)
    have z_270 : n0 ≤ T_258.heap.size := Nat.le_trans z_254 K_258.1
    have O_271 : Old Z n0 T_258.heap := O_255.keep K_258 (allS g_b_239 all0)
    show OGo p e below _ (T_258.setTop (mkF m 144 #[.val (.int p1), .val (.int p2), .val (.int p3), .val (.int p4), .val (.int p5), .val (.int p6), .val (.int (3 : Int32)), .val (.int lx), .val (.int ya), .val (.int yb), .val (.int yc), .val (.ref b_3), .val (.ref b_239), .val (.int (0 : Int32)), .unset, .unset] []))
    refine OGo.to (fun _ k => XS.aload X_258.here hx rfl (hb hby at_144) rfl rfl k) ?_
    show OGo p e below _ (T_258.setTop (mkF m 146 #[.val (.int p1), .val (.int p2), .val (.int p3), .val (.int p4), .val (.int p5), .val (.int p6), .val (.int (3 : Int32)), .val (.int lx), .val (.int ya), .val (.int yb), .val (.int yc), .val (.ref b_3), .val (.ref b_239), .val (.int (0 : Int32)), .unset, .unset] [(.ref b_239)]))
    have f_273 : Exa Z T_258.heap b_239 "com/example/dromos/dromos/service/Definition" := (f_257.keep K_258)
    obtain ⟨cq_272, kq_272, q_272a, q_272b, q_272c⟩ := isOf hZ (rfl : T_258.heap = T_258.heap) f_273
    obtain ⟨_, T_272, Lc_272, X_272, hQ_272, st_272⟩ := own_un X_258 (Q := Qop3 Z b_239 b__258 kk__258 ya yb yc T_258.heap n0) (rc := 0) (rs := 0) (W := fun v B => Steps p.tables e below (T_258.setTop (mkF m 146 #[.val (.int p1), .val (.int p2), .val (.int p3), .val (.int p4), .val (.int p5), .val (.int p6), .val (.int (3 : Int32)), .val (.int lx), .val (.int ya), .val (.int yb), .val (.int yc), .val (.ref b_3), .val (.ref b_239), .val (.int (0 : Int32)), .unset, .unset] [(.ref b_239)])) (B.setTop { (mkF m 146 #[.val (.int p1), .val (.int p2), .val (.int p3), .val (.int p4), .val (.int p5), .val (.int p6), .val (.int (3 : Int32)), .val (.int lx), .val (.int ya), .val (.int yb), .val (.int yc), .val (.ref b_3), .val (.ref b_239), .val (.int (0 : Int32)), .unset, .unset] [(.ref b_239)]) with pc := 149, stack := v.toList ++ [] })) <| X_258.virtualBack hx (y := (⟨"com/example/dromos/dromos/service/Definition", "takesOperators", "()Z"⟩ : MethodName)) (z := (⟨"com/example/dromos/dromos/service/Definition", "takesOperators", "()Z"⟩ : MethodName)) hown (mvT hZ (hw _ (List.mem_of_getElem? (i := 98) rfl))) (mvT hZ (hw _ (List.mem_of_getElem? (i := 99) rfl))) (notFace_of_selects (args := #[]) (mvT hZ (hw _ (List.mem_of_getElem? (i := 101) rfl)))) (mvT hZ (hw _ (List.mem_of_getElem? (i := 101) rfl))) (mvT hZ (hw _ (List.mem_of_getElem? (i := 100) rfl))) (by decide) (backOf (W := 0) (rmop3 l Z a0 hw [] b_239 b__258 kk__258 ya yb yc T_258.heap n0 z_270 p_258_0 p_258_1) hZ (hw _ (List.mem_of_getElem? (i := 102) rfl)) (hw _ (List.mem_of_getElem? (i := 76) rfl)) (by decide) (by decide)) q_272a q_272c (g := (mkF m 146 #[.val (.int p1), .val (.int p2), .val (.int p3), .val (.int p4), .val (.int p5), .val (.int p6), .val (.int (3 : Int32)), .val (.int lx), .val (.int ya), .val (.int yb), .val (.int yc), .val (.ref b_3), .val (.ref b_239), .val (.int (0 : Int32)), .unset, .unset] [(.ref b_239)])) rfl (by rw [hml]; rfl) (Steps.refl _) (argsL := []) (rest := []) (lenOf pd_9 rfl) rfl (by show 2 * 0 + _ ≤ _; exact Nat.le_of_eq rfl) (hb hby at_146) (fun _ _ => ⟨rfl, (rfl : T_258.heap = T_258.heap), (by decide : 8 + 0 ≤ _), (by decide : 37 + 0 ≤ _)⟩)
    obtain ⟨rfl, N_272q, e_272⟩ := hQ_272
    have N_272 := Fr.app N_258 N_272q
    refine OGo.to (fun _ k => st_272.trans k) ?_
    show OGo p e below _ (T_272.setTop (mkF m 149 #[.val (.int p1), .val (.int p2), .val (.int p3), .val (.int p4), .val (.int p5), .val (.int p6), .val (.int (3 : Int32)), .val (.int lx), .val (.int ya), .val (.int yb), .val (.int yc), .val (.ref b_3), .val (.ref b_239), .val (.int (0 : Int32)), .unset, .unset] [(.int (if (0 : Int32) < ya then (1 : Int32) else (if (0 : Int32) < yb then (1 : Int32) else (if (0 : Int32) < yc then (1 : Int32) else (0 : Int32)))))]))
    refine OGo.to (fun _ k => XS.istore X_272.here hx rfl (hb hby at_149) rfl (l' := #[.val (.int p1), .val (.int p2), .val (.int p3), .val (.int p4), .val (.int p5), .val (.int p6), .val (.int (3 : Int32)), .val (.int lx), .val (.int ya), .val (.int yb), .val (.int yc), .val (.ref b_3), .val (.ref b_239), .val (.int (0 : Int32)), .val (.int (if (0 : Int32) < ya then (1 : Int32) else (if (0 : Int32) < yb then (1 : Int32) else (if (0 : Int32) < yc then (1 : Int32) else (0 : Int32))))), .unset]) rfl k) ?_
    show OGo p e below _ (T_272.setTop (mkF m 151 #[.val (.int p1), .val (.int p2), .val (.int p3), .val (.int p4), .val (.int p5), .val (.int p6), .val (.int (3 : Int32)), .val (.int lx), .val (.int ya), .val (.int yb), .val (.int yc), .val (.ref b_3), .val (.ref b_239), .val (.int (0 : Int32)), .val (.int (if (0 : Int32) < ya then (1 : Int32) else (if (0 : Int32) < yb then (1 : Int32) else (if (0 : Int32) < yc then (1 : Int32) else (0 : Int32))))), .unset] []))
    refine OGo.to (fun _ k => XS.iconst X_272.here hx rfl (hb hby at_151) k) ?_
    show OGo p e below _ (T_272.setTop (mkF m 152 #[.val (.int p1), .val (.int p2), .val (.int p3), .val (.int p4), .val (.int p5), .val (.int p6), .val (.int (3 : Int32)), .val (.int lx), .val (.int ya), .val (.int yb), .val (.int yc), .val (.ref b_3), .val (.ref b_239), .val (.int (0 : Int32)), .val (.int (if (0 : Int32) < ya then (1 : Int32) else (if (0 : Int32) < yb then (1 : Int32) else (if (0 : Int32) < yc then (1 : Int32) else (0 : Int32))))), .unset] [(.int (0 : Int32))]))
    refine OGo.to (fun _ k => XS.istore X_272.here hx rfl (hb hby at_152) rfl (l' := #[.val (.int p1), .val (.int p2), .val (.int p3), .val (.int p4), .val (.int p5), .val (.int p6), .val (.int (3 : Int32)), .val (.int lx), .val (.int ya), .val (.int yb), .val (.int yc), .val (.ref b_3), .val (.ref b_239), .val (.int (0 : Int32)), .val (.int (if (0 : Int32) < ya then (1 : Int32) else (if (0 : Int32) < yb then (1 : Int32) else (if (0 : Int32) < yc then (1 : Int32) else (0 : Int32))))), .val (.int (0 : Int32))]) rfl k) ?_
    show OGo p e below _ (T_272.setTop (mkF m 154 #[.val (.int p1), .val (.int p2), .val (.int p3), .val (.int p4), .val (.int p5), .val (.int p6), .val (.int (3 : Int32)), .val (.int lx), .val (.int ya), .val (.int yb), .val (.int yc), .val (.ref b_3), .val (.ref b_239), .val (.int (0 : Int32)), .val (.int (if (0 : Int32) < ya then (1 : Int32) else (if (0 : Int32) < yb then (1 : Int32) else (if (0 : Int32) < yc then (1 : Int32) else (0 : Int32))))), .val (.int (0 : Int32))] []))
    refine OGo.to (fun _ k => XS.iload X_272.here hx rfl (hb hby at_154) rfl k) ?_
    show OGo p e below _ (T_272.setTop (mkF m 156 #[.val (.int p1), .val (.int p2), .val (.int p3), .val (.int p4), .val (.int p5), .val (.int p6), .val (.int (3 : Int32)), .val (.int lx), .val (.int ya), .val (.int yb), .val (.int yc), .val (.ref b_3), .val (.ref b_239), .val (.int (0 : Int32)), .val (.int (if (0 : Int32) < ya then (1 : Int32) else (if (0 : Int32) < yb then (1 : Int32) else (if (0 : Int32) < yc then (1 : Int32) else (0 : Int32))))), .val (.int (0 : Int32))] [(.int (3 : Int32))]))
    refine OGo.to (fun _ k => XS.iconst X_272.here hx rfl (hb hby at_156) k) ?_
    show OGo p e below _ (T_272.setTop (mkF m 157 #[.val (.int p1), .val (.int p2), .val (.int p3), .val (.int p4), .val (.int p5), .val (.int p6), .val (.int (3 : Int32)), .val (.int lx), .val (.int ya), .val (.int yb), .val (.int yc), .val (.ref b_3), .val (.ref b_239), .val (.int (0 : Int32)), .val (.int (if (0 : Int32) < ya then (1 : Int32) else (if (0 : Int32) < yb then (1 : Int32) else (if (0 : Int32) < yc then (1 : Int32) else (0 : Int32))))), .val (.int (0 : Int32))] [(.int (1 : Int32)), (.int (3 : Int32))]))
    have hc157__274 : ¬ ((3 : Int32) < (1 : Int32)) := by decide
    refine OGo.to (fun _ k => XS.icmpNo X_272.here hx rfl (hb hby at_157) rfl (flt hc157__274).1 k) ?_
    show OGo p e below _ (T_272.setTop (mkF m 160 #[.val (.int p1), .val (.int p2), .val (.int p3), .val (.int p4), .val (.int p5), .val (.int p6), .val (.int (3 : Int32)), .val (.int lx), .val (.int ya), .val (.int yb), .val (.int yc), .val (.ref b_3), .val (.ref b_239), .val (.int (0 : Int32)), .val (.int (if (0 : Int32) < ya then (1 : Int32) else (if (0 : Int32) < yb then (1 : Int32) else (if (0 : Int32) < yc then (1 : Int32) else (0 : Int32))))), .val (.int (0 : Int32))] []))
    refine OGo.to (fun _ k => XS.iload X_272.here hx rfl (hb hby at_160) rfl k) ?_
    show OGo p e below _ (T_272.setTop (mkF m 162 #[.val (.int p1), .val (.int p2), .val (.int p3), .val (.int p4), .val (.int p5), .val (.int p6), .val (.int (3 : Int32)), .val (.int lx), .val (.int ya), .val (.int yb), .val (.int yc), .val (.ref b_3), .val (.ref b_239), .val (.int (0 : Int32)), .val (.int (if (0 : Int32) < ya then (1 : Int32) else (if (0 : Int32) < yb then (1 : Int32) else (if (0 : Int32) < yc then (1 : Int32) else (0 : Int32))))), .val (.int (0 : Int32))] [(.int ya)]))
    by_cases hc162__275 : (0 : Int32) < ya
    ·  -- pc 162: yes
      refine OGo.to (fun _ k => XS.ifNo X_272.here hx rfl (hb hby at_162) rfl ((if0 _ _).trans (tlt hc162__275).2.2.2) k) ?_
      show OGo p e below _ (T_272.setTop (mkF m 165 #[.val (.int p1), .val (.int p2), .val (.int p3), .val (.int p4), .val (.int p5), .val (.int p6), .val (.int (3 : Int32)), .val (.int lx), .val (.int ya), .val (.int yb), .val (.int yc), .val (.ref b_3), .val (.ref b_239), .val (.int (0 : Int32)), .val (.int (if (0 : Int32) < ya then (1 : Int32) else (if (0 : Int32) < yb then (1 : Int32) else (if (0 : Int32) < yc then (1 : Int32) else (0 : Int32))))), .val (.int (0 : Int32))] []))
      refine OGo.to (fun _ k => XS.iconst X_272.here hx rfl (hb hby at_165) k) ?_
      show OGo p e below _ (T_272.setTop (mkF m 166 #[.val (.int p1), .val (.int p2), .val (.int p3), .val (.int p4), .val (.int p5), .val (.int p6), .val (.int (3 : Int32)), .val (.int lx), .val (.int ya), .val (.int yb), .val (.int yc), .val (.ref b_3), .val (.ref b_239), .val (.int (0 : Int32)), .val (.int (if (0 : Int32) < ya then (1 : Int32) else (if (0 : Int32) < yb then (1 : Int32) else (if (0 : Int32) < yc then (1 : Int32) else (0 : Int32))))), .val (.int (0 : Int32))] [(.int (1 : Int32))]))
      refine OGo.to (fun _ k => XS.istore X_272.here hx rfl (hb hby at_166) rfl (l' := #[.val (.int p1), .val (.int p2), .val (.int p3), .val (.int p4), .val (.int p5), .val (.int p6), .val (.int (3 : Int32)), .val (.int lx), .val (.int ya), .val (.int yb), .val (.int yc), .val (.ref b_3), .val (.ref b_239), .val (.int (0 : Int32)), .val (.int (if (0 : Int32) < ya then (1 : Int32) else (if (0 : Int32) < yb then (1 : Int32) else (if (0 : Int32) < yc then (1 : Int32) else (0 : Int32))))), .val (.int (1 : Int32))]) rfl k) ?_
      show OGo p e below _ (T_272.setTop (mkF m 168 #[.val (.int p1), .val (.int p2), .val (.int p3), .val (.int p4), .val (.int p5), .val (.int p6), .val (.int (3 : Int32)), .val (.int lx), .val (.int ya), .val (.int yb), .val (.int yc), .val (.ref b_3), .val (.ref b_239), .val (.int (0 : Int32)), .val (.int (if (0 : Int32) < ya then (1 : Int32) else (if (0 : Int32) < yb then (1 : Int32) else (if (0 : Int32) < yc then (1 : Int32) else (0 : Int32))))), .val (.int (1 : Int32))] []))
      refine OGo.to (fun _ k => XS.iload X_272.here hx rfl (hb hby at_168) rfl k) ?_
      show OGo p e below _ (T_272.setTop (mkF m 170 #[.val (.int p1), .val (.int p2), .val (.int p3), .val (.int p4), .val (.int p5), .val (.int p6), .val (.int (3 : Int32)), .val (.int lx), .val (.int ya), .val (.int yb), .val (.int yc), .val (.ref b_3), .val (.ref b_239), .val (.int (0 : Int32)), .val (.int (if (0 : Int32) < ya then (1 : Int32) else (if (0 : Int32) < yb then (1 : Int32) else (if (0 : Int32) < yc then (1 : Int32) else (0 : Int32))))), .val (.int (1 : Int32))] [(.int (3 : Int32))]))
      refine OGo.to (fun _ k => XS.iconst X_272.here hx rfl (hb hby at_170) k) ?_
      show OGo p e below _ (T_272.setTop (mkF m 171 #[.val (.int p1), .val (.int p2), .val (.int p3), .val (.int p4), .val (.int p5), .val (.int p6), .val (.int (3 : Int32)), .val (.int lx), .val (.int ya), .val (.int yb), .val (.int yc), .val (.ref b_3), .val (.ref b_239), .val (.int (0 : Int32)), .val (.int (if (0 : Int32) < ya then (1 : Int32) else (if (0 : Int32) < yb then (1 : Int32) else (if (0 : Int32) < yc then (1 : Int32) else (0 : Int32))))), .val (.int (1 : Int32))] [(.int (2 : Int32)), (.int (3 : Int32))]))
      have hc171__276 : ¬ ((3 : Int32) < (2 : Int32)) := by decide
      refine OGo.to (fun _ k => XS.icmpNo X_272.here hx rfl (hb hby at_171) rfl (flt hc171__276).1 k) ?_
      show OGo p e below _ (T_272.setTop (mkF m 174 #[.val (.int p1), .val (.int p2), .val (.int p3), .val (.int p4), .val (.int p5), .val (.int p6), .val (.int (3 : Int32)), .val (.int lx), .val (.int ya), .val (.int yb), .val (.int yc), .val (.ref b_3), .val (.ref b_239), .val (.int (0 : Int32)), .val (.int (if (0 : Int32) < ya then (1 : Int32) else (if (0 : Int32) < yb then (1 : Int32) else (if (0 : Int32) < yc then (1 : Int32) else (0 : Int32))))), .val (.int (1 : Int32))] []))
      refine OGo.to (fun _ k => XS.iload X_272.here hx rfl (hb hby at_174) rfl k) ?_
      show OGo p e below _ (T_272.setTop (mkF m 176 #[.val (.int p1), .val (.int p2), .val (.int p3), .val (.int p4), .val (.int p5), .val (.int p6), .val (.int (3 : Int32)), .val (.int lx), .val (.int ya), .val (.int yb), .val (.int yc), .val (.ref b_3), .val (.ref b_239), .val (.int (0 : Int32)), .val (.int (if (0 : Int32) < ya then (1 : Int32) else (if (0 : Int32) < yb then (1 : Int32) else (if (0 : Int32) < yc then (1 : Int32) else (0 : Int32))))), .val (.int (1 : Int32))] [(.int yb)]))
      by_cases hc176__277 : (0 : Int32) < yb
      ·  -- pc 176: yes
        refine OGo.to (fun _ k => XS.ifNo X_272.here hx rfl (hb hby at_176) rfl ((if0 _ _).trans (tlt hc176__277).2.2.2) k) ?_
        show OGo p e below _ (T_272.setTop (mkF m 179 #[.val (.int p1), .val (.int p2), .val (.int p3), .val (.int p4), .val (.int p5), .val (.int p6), .val (.int (3 : Int32)), .val (.int lx), .val (.int ya), .val (.int yb), .val (.int yc), .val (.ref b_3), .val (.ref b_239), .val (.int (0 : Int32)), .val (.int (if (0 : Int32) < ya then (1 : Int32) else (if (0 : Int32) < yb then (1 : Int32) else (if (0 : Int32) < yc then (1 : Int32) else (0 : Int32))))), .val (.int (1 : Int32))] []))
        refine OGo.to (fun _ k => XS.iconst X_272.here hx rfl (hb hby at_179) k) ?_
        show OGo p e below _ (T_272.setTop (mkF m 180 #[.val (.int p1), .val (.int p2), .val (.int p3), .val (.int p4), .val (.int p5), .val (.int p6), .val (.int (3 : Int32)), .val (.int lx), .val (.int ya), .val (.int yb), .val (.int yc), .val (.ref b_3), .val (.ref b_239), .val (.int (0 : Int32)), .val (.int (if (0 : Int32) < ya then (1 : Int32) else (if (0 : Int32) < yb then (1 : Int32) else (if (0 : Int32) < yc then (1 : Int32) else (0 : Int32))))), .val (.int (1 : Int32))] [(.int (1 : Int32))]))
        refine OGo.to (fun _ k => XS.istore X_272.here hx rfl (hb hby at_180) rfl (l' := #[.val (.int p1), .val (.int p2), .val (.int p3), .val (.int p4), .val (.int p5), .val (.int p6), .val (.int (3 : Int32)), .val (.int lx), .val (.int ya), .val (.int yb), .val (.int yc), .val (.ref b_3), .val (.ref b_239), .val (.int (0 : Int32)), .val (.int (if (0 : Int32) < ya then (1 : Int32) else (if (0 : Int32) < yb then (1 : Int32) else (if (0 : Int32) < yc then (1 : Int32) else (0 : Int32))))), .val (.int (1 : Int32))]) rfl k) ?_
        show OGo p e below _ (T_272.setTop (mkF m 182 #[.val (.int p1), .val (.int p2), .val (.int p3), .val (.int p4), .val (.int p5), .val (.int p6), .val (.int (3 : Int32)), .val (.int lx), .val (.int ya), .val (.int yb), .val (.int yc), .val (.ref b_3), .val (.ref b_239), .val (.int (0 : Int32)), .val (.int (if (0 : Int32) < ya then (1 : Int32) else (if (0 : Int32) < yb then (1 : Int32) else (if (0 : Int32) < yc then (1 : Int32) else (0 : Int32))))), .val (.int (1 : Int32))] []))
        refine OGo.to (fun _ k => XS.iload X_272.here hx rfl (hb hby at_182) rfl k) ?_
        show OGo p e below _ (T_272.setTop (mkF m 184 #[.val (.int p1), .val (.int p2), .val (.int p3), .val (.int p4), .val (.int p5), .val (.int p6), .val (.int (3 : Int32)), .val (.int lx), .val (.int ya), .val (.int yb), .val (.int yc), .val (.ref b_3), .val (.ref b_239), .val (.int (0 : Int32)), .val (.int (if (0 : Int32) < ya then (1 : Int32) else (if (0 : Int32) < yb then (1 : Int32) else (if (0 : Int32) < yc then (1 : Int32) else (0 : Int32))))), .val (.int (1 : Int32))] [(.int (3 : Int32))]))
        refine OGo.to (fun _ k => XS.iconst X_272.here hx rfl (hb hby at_184) k) ?_
        show OGo p e below _ (T_272.setTop (mkF m 185 #[.val (.int p1), .val (.int p2), .val (.int p3), .val (.int p4), .val (.int p5), .val (.int p6), .val (.int (3 : Int32)), .val (.int lx), .val (.int ya), .val (.int yb), .val (.int yc), .val (.ref b_3), .val (.ref b_239), .val (.int (0 : Int32)), .val (.int (if (0 : Int32) < ya then (1 : Int32) else (if (0 : Int32) < yb then (1 : Int32) else (if (0 : Int32) < yc then (1 : Int32) else (0 : Int32))))), .val (.int (1 : Int32))] [(.int (3 : Int32)), (.int (3 : Int32))]))
        have hc185__278 : ¬ ((3 : Int32) < (3 : Int32)) := by decide
        refine OGo.to (fun _ k => XS.icmpNo X_272.here hx rfl (hb hby at_185) rfl (flt hc185__278).1 k) ?_
        show OGo p e below _ (T_272.setTop (mkF m 188 #[.val (.int p1), .val (.int p2), .val (.int p3), .val (.int p4), .val (.int p5), .val (.int p6), .val (.int (3 : Int32)), .val (.int lx), .val (.int ya), .val (.int yb), .val (.int yc), .val (.ref b_3), .val (.ref b_239), .val (.int (0 : Int32)), .val (.int (if (0 : Int32) < ya then (1 : Int32) else (if (0 : Int32) < yb then (1 : Int32) else (if (0 : Int32) < yc then (1 : Int32) else (0 : Int32))))), .val (.int (1 : Int32))] []))
        refine OGo.to (fun _ k => XS.iload X_272.here hx rfl (hb hby at_188) rfl k) ?_
        show OGo p e below _ (T_272.setTop (mkF m 190 #[.val (.int p1), .val (.int p2), .val (.int p3), .val (.int p4), .val (.int p5), .val (.int p6), .val (.int (3 : Int32)), .val (.int lx), .val (.int ya), .val (.int yb), .val (.int yc), .val (.ref b_3), .val (.ref b_239), .val (.int (0 : Int32)), .val (.int (if (0 : Int32) < ya then (1 : Int32) else (if (0 : Int32) < yb then (1 : Int32) else (if (0 : Int32) < yc then (1 : Int32) else (0 : Int32))))), .val (.int (1 : Int32))] [(.int yc)]))
        by_cases hc190__279 : (0 : Int32) < yc
        ·  -- pc 190: yes
          refine OGo.to (fun _ k => XS.ifNo X_272.here hx rfl (hb hby at_190) rfl ((if0 _ _).trans (tlt hc190__279).2.2.2) k) ?_
          show OGo p e below _ (T_272.setTop (mkF m 193 #[.val (.int p1), .val (.int p2), .val (.int p3), .val (.int p4), .val (.int p5), .val (.int p6), .val (.int (3 : Int32)), .val (.int lx), .val (.int ya), .val (.int yb), .val (.int yc), .val (.ref b_3), .val (.ref b_239), .val (.int (0 : Int32)), .val (.int (if (0 : Int32) < ya then (1 : Int32) else (if (0 : Int32) < yb then (1 : Int32) else (if (0 : Int32) < yc then (1 : Int32) else (0 : Int32))))), .val (.int (1 : Int32))] []))
          refine OGo.to (fun _ k => XS.iconst X_272.here hx rfl (hb hby at_193) k) ?_
          show OGo p e below _ (T_272.setTop (mkF m 194 #[.val (.int p1), .val (.int p2), .val (.int p3), .val (.int p4), .val (.int p5), .val (.int p6), .val (.int (3 : Int32)), .val (.int lx), .val (.int ya), .val (.int yb), .val (.int yc), .val (.ref b_3), .val (.ref b_239), .val (.int (0 : Int32)), .val (.int (if (0 : Int32) < ya then (1 : Int32) else (if (0 : Int32) < yb then (1 : Int32) else (if (0 : Int32) < yc then (1 : Int32) else (0 : Int32))))), .val (.int (1 : Int32))] [(.int (1 : Int32))]))
          refine OGo.to (fun _ k => XS.istore X_272.here hx rfl (hb hby at_194) rfl (l' := #[.val (.int p1), .val (.int p2), .val (.int p3), .val (.int p4), .val (.int p5), .val (.int p6), .val (.int (3 : Int32)), .val (.int lx), .val (.int ya), .val (.int yb), .val (.int yc), .val (.ref b_3), .val (.ref b_239), .val (.int (0 : Int32)), .val (.int (if (0 : Int32) < ya then (1 : Int32) else (if (0 : Int32) < yb then (1 : Int32) else (if (0 : Int32) < yc then (1 : Int32) else (0 : Int32))))), .val (.int (1 : Int32))]) rfl k) ?_
          show OGo p e below _ (T_272.setTop (mkF m 196 #[.val (.int p1), .val (.int p2), .val (.int p3), .val (.int p4), .val (.int p5), .val (.int p6), .val (.int (3 : Int32)), .val (.int lx), .val (.int ya), .val (.int yb), .val (.int yc), .val (.ref b_3), .val (.ref b_239), .val (.int (0 : Int32)), .val (.int (if (0 : Int32) < ya then (1 : Int32) else (if (0 : Int32) < yb then (1 : Int32) else (if (0 : Int32) < yc then (1 : Int32) else (0 : Int32))))), .val (.int (1 : Int32))] []))
          refine OGo.to (fun _ k => XS.iload X_272.here hx rfl (hb hby at_196) rfl k) ?_
          show OGo p e below _ (T_272.setTop (mkF m 198 #[.val (.int p1), .val (.int p2), .val (.int p3), .val (.int p4), .val (.int p5), .val (.int p6), .val (.int (3 : Int32)), .val (.int lx), .val (.int ya), .val (.int yb), .val (.int yc), .val (.ref b_3), .val (.ref b_239), .val (.int (0 : Int32)), .val (.int (if (0 : Int32) < ya then (1 : Int32) else (if (0 : Int32) < yb then (1 : Int32) else (if (0 : Int32) < yc then (1 : Int32) else (0 : Int32))))), .val (.int (1 : Int32))] [(.int (0 : Int32))]))
          have hc198__280 : (0 : Int32) = (0 : Int32) := by decide
          refine OGo.to (fun _ k => XS.ifNo X_272.here hx rfl (hb hby at_198) rfl ((if0 _ _).trans (teq hc198__280).2) k) ?_
          show OGo p e below _ (T_272.setTop (mkF m 201 #[.val (.int p1), .val (.int p2), .val (.int p3), .val (.int p4), .val (.int p5), .val (.int p6), .val (.int (3 : Int32)), .val (.int lx), .val (.int ya), .val (.int yb), .val (.int yc), .val (.ref b_3), .val (.ref b_239), .val (.int (0 : Int32)), .val (.int (if (0 : Int32) < ya then (1 : Int32) else (if (0 : Int32) < yb then (1 : Int32) else (if (0 : Int32) < yc then (1 : Int32) else (0 : Int32))))), .val (.int (1 : Int32))] []))
          refine OGo.to (fun _ k => XS.iload X_272.here hx rfl (hb hby at_201) rfl k) ?_
          show OGo p e below _ (T_272.setTop (mkF m 203 #[.val (.int p1), .val (.int p2), .val (.int p3), .val (.int p4), .val (.int p5), .val (.int p6), .val (.int (3 : Int32)), .val (.int lx), .val (.int ya), .val (.int yb), .val (.int yc), .val (.ref b_3), .val (.ref b_239), .val (.int (0 : Int32)), .val (.int (if (0 : Int32) < ya then (1 : Int32) else (if (0 : Int32) < yb then (1 : Int32) else (if (0 : Int32) < yc then (1 : Int32) else (0 : Int32))))), .val (.int (1 : Int32))] [(.int (if (0 : Int32) < ya then (1 : Int32) else (if (0 : Int32) < yb then (1 : Int32) else (if (0 : Int32) < yc then (1 : Int32) else (0 : Int32)))))]))
          refine OGo.to (fun _ k => XS.iload X_272.here hx rfl (hb hby at_203) rfl k) ?_
          show OGo p e below _ (T_272.setTop (mkF m 205 #[.val (.int p1), .val (.int p2), .val (.int p3), .val (.int p4), .val (.int p5), .val (.int p6), .val (.int (3 : Int32)), .val (.int lx), .val (.int ya), .val (.int yb), .val (.int yc), .val (.ref b_3), .val (.ref b_239), .val (.int (0 : Int32)), .val (.int (if (0 : Int32) < ya then (1 : Int32) else (if (0 : Int32) < yb then (1 : Int32) else (if (0 : Int32) < yc then (1 : Int32) else (0 : Int32))))), .val (.int (1 : Int32))] [(.int (1 : Int32)), (.int (if (0 : Int32) < ya then (1 : Int32) else (if (0 : Int32) < yb then (1 : Int32) else (if (0 : Int32) < yc then (1 : Int32) else (0 : Int32)))))]))
          have hc205__281 : (if (0 : Int32) < ya then (1 : Int32) else (if (0 : Int32) < yb then (1 : Int32) else (if (0 : Int32) < yc then (1 : Int32) else (0 : Int32)))) = (1 : Int32) := by rw [if_pos hc162__275]
          refine OGo.to (fun _ k => XS.icmpNo X_272.here hx rfl (hb hby at_205) rfl (teq hc205__281).2 k) ?_
          show OGo p e below _ (T_272.setTop (mkF m 208 #[.val (.int p1), .val (.int p2), .val (.int p3), .val (.int p4), .val (.int p5), .val (.int p6), .val (.int (3 : Int32)), .val (.int lx), .val (.int ya), .val (.int yb), .val (.int yc), .val (.ref b_3), .val (.ref b_239), .val (.int (0 : Int32)), .val (.int (if (0 : Int32) < ya then (1 : Int32) else (if (0 : Int32) < yb then (1 : Int32) else (if (0 : Int32) < yc then (1 : Int32) else (0 : Int32))))), .val (.int (1 : Int32))] []))
          refine OGo.to (fun _ k => XS.iconst X_272.here hx rfl (hb hby at_208) k) ?_
          show OGo p e below _ (T_272.setTop (mkF m 209 #[.val (.int p1), .val (.int p2), .val (.int p3), .val (.int p4), .val (.int p5), .val (.int p6), .val (.int (3 : Int32)), .val (.int lx), .val (.int ya), .val (.int yb), .val (.int yc), .val (.ref b_3), .val (.ref b_239), .val (.int (0 : Int32)), .val (.int (if (0 : Int32) < ya then (1 : Int32) else (if (0 : Int32) < yb then (1 : Int32) else (if (0 : Int32) < yc then (1 : Int32) else (0 : Int32))))), .val (.int (1 : Int32))] [(.int (1 : Int32))]))
          refine OGo.to (fun _ k => XS.goto X_272.here hx rfl (pc0 := 209) (pc' := 213) rfl (hb hby at_209) (by decide) (by decide) k) ?_
          show OGo p e below _ (T_272.setTop (mkF m 213 #[.val (.int p1), .val (.int p2), .val (.int p3), .val (.int p4), .val (.int p5), .val (.int p6), .val (.int (3 : Int32)), .val (.int lx), .val (.int ya), .val (.int yb), .val (.int yc), .val (.ref b_3), .val (.ref b_239), .val (.int (0 : Int32)), .val (.int (if (0 : Int32) < ya then (1 : Int32) else (if (0 : Int32) < yb then (1 : Int32) else (if (0 : Int32) < yc then (1 : Int32) else (0 : Int32))))), .val (.int (1 : Int32))] [(.int (1 : Int32))]))
          refine OGo.ret (Q := Q0 Z p1 p2 p3 p4 p5 p6 dd kd h0 n0) X_272 (some (.int (1 : Int32))) (fun h => by rw [Bd.returns] at h; cases h) Bd.notSynchronized (fun fs hr => retN X_272 hx (t := .boolean) (z := (1 : Int32)) Bd.returns (by simp) (hb hby at_213) hr) ?_ (by decide) (by decide)
          show Q0 Z p1 p2 p3 p4 p5 p6 dd kd h0 n0 _ T_272.heap _
          rw [e_272]
          exact ⟨rfl, N_272⟩
        ·  -- pc 190: no
          refine OGo.to (fun _ k => XS.ifYes X_272.here hx rfl (pc0 := 190) (pc' := 196) rfl (hb hby at_190) rfl ((if0 _ _).trans (flt hc190__279).2.2.2) (by decide) (by decide) k) ?_
          show OGo p e below _ (T_272.setTop (mkF m 196 #[.val (.int p1), .val (.int p2), .val (.int p3), .val (.int p4), .val (.int p5), .val (.int p6), .val (.int (3 : Int32)), .val (.int lx), .val (.int ya), .val (.int yb), .val (.int yc), .val (.ref b_3), .val (.ref b_239), .val (.int (0 : Int32)), .val (.int (if (0 : Int32) < ya then (1 : Int32) else (if (0 : Int32) < yb then (1 : Int32) else (if (0 : Int32) < yc then (1 : Int32) else (0 : Int32))))), .val (.int (1 : Int32))] []))
          refine OGo.to (fun _ k => XS.iload X_272.here hx rfl (hb hby at_196) rfl k) ?_
          show OGo p e below _ (T_272.setTop (mkF m 198 #[.val (.int p1), .val (.int p2), .val (.int p3), .val (.int p4), .val (.int p5), .val (.int p6), .val (.int (3 : Int32)), .val (.int lx), .val (.int ya), .val (.int yb), .val (.int yc), .val (.ref b_3), .val (.ref b_239), .val (.int (0 : Int32)), .val (.int (if (0 : Int32) < ya then (1 : Int32) else (if (0 : Int32) < yb then (1 : Int32) else (if (0 : Int32) < yc then (1 : Int32) else (0 : Int32))))), .val (.int (1 : Int32))] [(.int (0 : Int32))]))
          have hc198__282 : (0 : Int32) = (0 : Int32) := by decide
          refine OGo.to (fun _ k => XS.ifNo X_272.here hx rfl (hb hby at_198) rfl ((if0 _ _).trans (teq hc198__282).2) k) ?_
          show OGo p e below _ (T_272.setTop (mkF m 201 #[.val (.int p1), .val (.int p2), .val (.int p3), .val (.int p4), .val (.int p5), .val (.int p6), .val (.int (3 : Int32)), .val (.int lx), .val (.int ya), .val (.int yb), .val (.int yc), .val (.ref b_3), .val (.ref b_239), .val (.int (0 : Int32)), .val (.int (if (0 : Int32) < ya then (1 : Int32) else (if (0 : Int32) < yb then (1 : Int32) else (if (0 : Int32) < yc then (1 : Int32) else (0 : Int32))))), .val (.int (1 : Int32))] []))
          refine OGo.to (fun _ k => XS.iload X_272.here hx rfl (hb hby at_201) rfl k) ?_
          show OGo p e below _ (T_272.setTop (mkF m 203 #[.val (.int p1), .val (.int p2), .val (.int p3), .val (.int p4), .val (.int p5), .val (.int p6), .val (.int (3 : Int32)), .val (.int lx), .val (.int ya), .val (.int yb), .val (.int yc), .val (.ref b_3), .val (.ref b_239), .val (.int (0 : Int32)), .val (.int (if (0 : Int32) < ya then (1 : Int32) else (if (0 : Int32) < yb then (1 : Int32) else (if (0 : Int32) < yc then (1 : Int32) else (0 : Int32))))), .val (.int (1 : Int32))] [(.int (if (0 : Int32) < ya then (1 : Int32) else (if (0 : Int32) < yb then (1 : Int32) else (if (0 : Int32) < yc then (1 : Int32) else (0 : Int32)))))]))
          refine OGo.to (fun _ k => XS.iload X_272.here hx rfl (hb hby at_203) rfl k) ?_
          show OGo p e below _ (T_272.setTop (mkF m 205 #[.val (.int p1), .val (.int p2), .val (.int p3), .val (.int p4), .val (.int p5), .val (.int p6), .val (.int (3 : Int32)), .val (.int lx), .val (.int ya), .val (.int yb), .val (.int yc), .val (.ref b_3), .val (.ref b_239), .val (.int (0 : Int32)), .val (.int (if (0 : Int32) < ya then (1 : Int32) else (if (0 : Int32) < yb then (1 : Int32) else (if (0 : Int32) < yc then (1 : Int32) else (0 : Int32))))), .val (.int (1 : Int32))] [(.int (1 : Int32)), (.int (if (0 : Int32) < ya then (1 : Int32) else (if (0 : Int32) < yb then (1 : Int32) else (if (0 : Int32) < yc then (1 : Int32) else (0 : Int32)))))]))
          have hc205__283 : (if (0 : Int32) < ya then (1 : Int32) else (if (0 : Int32) < yb then (1 : Int32) else (if (0 : Int32) < yc then (1 : Int32) else (0 : Int32)))) = (1 : Int32) := by rw [if_pos hc162__275]
          refine OGo.to (fun _ k => XS.icmpNo X_272.here hx rfl (hb hby at_205) rfl (teq hc205__283).2 k) ?_
          show OGo p e below _ (T_272.setTop (mkF m 208 #[.val (.int p1), .val (.int p2), .val (.int p3), .val (.int p4), .val (.int p5), .val (.int p6), .val (.int (3 : Int32)), .val (.int lx), .val (.int ya), .val (.int yb), .val (.int yc), .val (.ref b_3), .val (.ref b_239), .val (.int (0 : Int32)), .val (.int (if (0 : Int32) < ya then (1 : Int32) else (if (0 : Int32) < yb then (1 : Int32) else (if (0 : Int32) < yc then (1 : Int32) else (0 : Int32))))), .val (.int (1 : Int32))] []))
          refine OGo.to (fun _ k => XS.iconst X_272.here hx rfl (hb hby at_208) k) ?_
          show OGo p e below _ (T_272.setTop (mkF m 209 #[.val (.int p1), .val (.int p2), .val (.int p3), .val (.int p4), .val (.int p5), .val (.int p6), .val (.int (3 : Int32)), .val (.int lx), .val (.int ya), .val (.int yb), .val (.int yc), .val (.ref b_3), .val (.ref b_239), .val (.int (0 : Int32)), .val (.int (if (0 : Int32) < ya then (1 : Int32) else (if (0 : Int32) < yb then (1 : Int32) else (if (0 : Int32) < yc then (1 : Int32) else (0 : Int32))))), .val (.int (1 : Int32))] [(.int (1 : Int32))]))
          refine OGo.to (fun _ k => XS.goto X_272.here hx rfl (pc0 := 209) (pc' := 213) rfl (hb hby at_209) (by decide) (by decide) k) ?_
          show OGo p e below _ (T_272.setTop (mkF m 213 #[.val (.int p1), .val (.int p2), .val (.int p3), .val (.int p4), .val (.int p5), .val (.int p6), .val (.int (3 : Int32)), .val (.int lx), .val (.int ya), .val (.int yb), .val (.int yc), .val (.ref b_3), .val (.ref b_239), .val (.int (0 : Int32)), .val (.int (if (0 : Int32) < ya then (1 : Int32) else (if (0 : Int32) < yb then (1 : Int32) else (if (0 : Int32) < yc then (1 : Int32) else (0 : Int32))))), .val (.int (1 : Int32))] [(.int (1 : Int32))]))
          refine OGo.ret (Q := Q0 Z p1 p2 p3 p4 p5 p6 dd kd h0 n0) X_272 (some (.int (1 : Int32))) (fun h => by rw [Bd.returns] at h; cases h) Bd.notSynchronized (fun fs hr => retN X_272 hx (t := .boolean) (z := (1 : Int32)) Bd.returns (by simp) (hb hby at_213) hr) ?_ (by decide) (by decide)
          show Q0 Z p1 p2 p3 p4 p5 p6 dd kd h0 n0 _ T_272.heap _
          rw [e_272]
          exact ⟨rfl, N_272⟩
      ·  -- pc 176: no
        refine OGo.to (fun _ k => XS.ifYes X_272.here hx rfl (pc0 := 176) (pc' := 182) rfl (hb hby at_176) rfl ((if0 _ _).trans (flt hc176__277).2.2.2) (by decide) (by decide) k) ?_
        show OGo p e below _ (T_272.setTop (mkF m 182 #[.val (.int p1), .val (.int p2), .val (.int p3), .val (.int p4), .val (.int p5), .val (.int p6), .val (.int (3 : Int32)), .val (.int lx), .val (.int ya), .val (.int yb), .val (.int yc), .val (.ref b_3), .val (.ref b_239), .val (.int (0 : Int32)), .val (.int (if (0 : Int32) < ya then (1 : Int32) else (if (0 : Int32) < yb then (1 : Int32) else (if (0 : Int32) < yc then (1 : Int32) else (0 : Int32))))), .val (.int (1 : Int32))] []))
        refine OGo.to (fun _ k => XS.iload X_272.here hx rfl (hb hby at_182) rfl k) ?_
        show OGo p e below _ (T_272.setTop (mkF m 184 #[.val (.int p1), .val (.int p2), .val (.int p3), .val (.int p4), .val (.int p5), .val (.int p6), .val (.int (3 : Int32)), .val (.int lx), .val (.int ya), .val (.int yb), .val (.int yc), .val (.ref b_3), .val (.ref b_239), .val (.int (0 : Int32)), .val (.int (if (0 : Int32) < ya then (1 : Int32) else (if (0 : Int32) < yb then (1 : Int32) else (if (0 : Int32) < yc then (1 : Int32) else (0 : Int32))))), .val (.int (1 : Int32))] [(.int (3 : Int32))]))
        refine OGo.to (fun _ k => XS.iconst X_272.here hx rfl (hb hby at_184) k) ?_
        show OGo p e below _ (T_272.setTop (mkF m 185 #[.val (.int p1), .val (.int p2), .val (.int p3), .val (.int p4), .val (.int p5), .val (.int p6), .val (.int (3 : Int32)), .val (.int lx), .val (.int ya), .val (.int yb), .val (.int yc), .val (.ref b_3), .val (.ref b_239), .val (.int (0 : Int32)), .val (.int (if (0 : Int32) < ya then (1 : Int32) else (if (0 : Int32) < yb then (1 : Int32) else (if (0 : Int32) < yc then (1 : Int32) else (0 : Int32))))), .val (.int (1 : Int32))] [(.int (3 : Int32)), (.int (3 : Int32))]))
        have hc185__284 : ¬ ((3 : Int32) < (3 : Int32)) := by decide
        refine OGo.to (fun _ k => XS.icmpNo X_272.here hx rfl (hb hby at_185) rfl (flt hc185__284).1 k) ?_
        show OGo p e below _ (T_272.setTop (mkF m 188 #[.val (.int p1), .val (.int p2), .val (.int p3), .val (.int p4), .val (.int p5), .val (.int p6), .val (.int (3 : Int32)), .val (.int lx), .val (.int ya), .val (.int yb), .val (.int yc), .val (.ref b_3), .val (.ref b_239), .val (.int (0 : Int32)), .val (.int (if (0 : Int32) < ya then (1 : Int32) else (if (0 : Int32) < yb then (1 : Int32) else (if (0 : Int32) < yc then (1 : Int32) else (0 : Int32))))), .val (.int (1 : Int32))] []))
        refine OGo.to (fun _ k => XS.iload X_272.here hx rfl (hb hby at_188) rfl k) ?_
        show OGo p e below _ (T_272.setTop (mkF m 190 #[.val (.int p1), .val (.int p2), .val (.int p3), .val (.int p4), .val (.int p5), .val (.int p6), .val (.int (3 : Int32)), .val (.int lx), .val (.int ya), .val (.int yb), .val (.int yc), .val (.ref b_3), .val (.ref b_239), .val (.int (0 : Int32)), .val (.int (if (0 : Int32) < ya then (1 : Int32) else (if (0 : Int32) < yb then (1 : Int32) else (if (0 : Int32) < yc then (1 : Int32) else (0 : Int32))))), .val (.int (1 : Int32))] [(.int yc)]))
        by_cases hc190__285 : (0 : Int32) < yc
        ·  -- pc 190: yes
          refine OGo.to (fun _ k => XS.ifNo X_272.here hx rfl (hb hby at_190) rfl ((if0 _ _).trans (tlt hc190__285).2.2.2) k) ?_
          show OGo p e below _ (T_272.setTop (mkF m 193 #[.val (.int p1), .val (.int p2), .val (.int p3), .val (.int p4), .val (.int p5), .val (.int p6), .val (.int (3 : Int32)), .val (.int lx), .val (.int ya), .val (.int yb), .val (.int yc), .val (.ref b_3), .val (.ref b_239), .val (.int (0 : Int32)), .val (.int (if (0 : Int32) < ya then (1 : Int32) else (if (0 : Int32) < yb then (1 : Int32) else (if (0 : Int32) < yc then (1 : Int32) else (0 : Int32))))), .val (.int (1 : Int32))] []))
          refine OGo.to (fun _ k => XS.iconst X_272.here hx rfl (hb hby at_193) k) ?_
          show OGo p e below _ (T_272.setTop (mkF m 194 #[.val (.int p1), .val (.int p2), .val (.int p3), .val (.int p4), .val (.int p5), .val (.int p6), .val (.int (3 : Int32)), .val (.int lx), .val (.int ya), .val (.int yb), .val (.int yc), .val (.ref b_3), .val (.ref b_239), .val (.int (0 : Int32)), .val (.int (if (0 : Int32) < ya then (1 : Int32) else (if (0 : Int32) < yb then (1 : Int32) else (if (0 : Int32) < yc then (1 : Int32) else (0 : Int32))))), .val (.int (1 : Int32))] [(.int (1 : Int32))]))
          refine OGo.to (fun _ k => XS.istore X_272.here hx rfl (hb hby at_194) rfl (l' := #[.val (.int p1), .val (.int p2), .val (.int p3), .val (.int p4), .val (.int p5), .val (.int p6), .val (.int (3 : Int32)), .val (.int lx), .val (.int ya), .val (.int yb), .val (.int yc), .val (.ref b_3), .val (.ref b_239), .val (.int (0 : Int32)), .val (.int (if (0 : Int32) < ya then (1 : Int32) else (if (0 : Int32) < yb then (1 : Int32) else (if (0 : Int32) < yc then (1 : Int32) else (0 : Int32))))), .val (.int (1 : Int32))]) rfl k) ?_
          show OGo p e below _ (T_272.setTop (mkF m 196 #[.val (.int p1), .val (.int p2), .val (.int p3), .val (.int p4), .val (.int p5), .val (.int p6), .val (.int (3 : Int32)), .val (.int lx), .val (.int ya), .val (.int yb), .val (.int yc), .val (.ref b_3), .val (.ref b_239), .val (.int (0 : Int32)), .val (.int (if (0 : Int32) < ya then (1 : Int32) else (if (0 : Int32) < yb then (1 : Int32) else (if (0 : Int32) < yc then (1 : Int32) else (0 : Int32))))), .val (.int (1 : Int32))] []))
          refine OGo.to (fun _ k => XS.iload X_272.here hx rfl (hb hby at_196) rfl k) ?_
          show OGo p e below _ (T_272.setTop (mkF m 198 #[.val (.int p1), .val (.int p2), .val (.int p3), .val (.int p4), .val (.int p5), .val (.int p6), .val (.int (3 : Int32)), .val (.int lx), .val (.int ya), .val (.int yb), .val (.int yc), .val (.ref b_3), .val (.ref b_239), .val (.int (0 : Int32)), .val (.int (if (0 : Int32) < ya then (1 : Int32) else (if (0 : Int32) < yb then (1 : Int32) else (if (0 : Int32) < yc then (1 : Int32) else (0 : Int32))))), .val (.int (1 : Int32))] [(.int (0 : Int32))]))
          have hc198__286 : (0 : Int32) = (0 : Int32) := by decide
          refine OGo.to (fun _ k => XS.ifNo X_272.here hx rfl (hb hby at_198) rfl ((if0 _ _).trans (teq hc198__286).2) k) ?_
          show OGo p e below _ (T_272.setTop (mkF m 201 #[.val (.int p1), .val (.int p2), .val (.int p3), .val (.int p4), .val (.int p5), .val (.int p6), .val (.int (3 : Int32)), .val (.int lx), .val (.int ya), .val (.int yb), .val (.int yc), .val (.ref b_3), .val (.ref b_239), .val (.int (0 : Int32)), .val (.int (if (0 : Int32) < ya then (1 : Int32) else (if (0 : Int32) < yb then (1 : Int32) else (if (0 : Int32) < yc then (1 : Int32) else (0 : Int32))))), .val (.int (1 : Int32))] []))
          refine OGo.to (fun _ k => XS.iload X_272.here hx rfl (hb hby at_201) rfl k) ?_
          show OGo p e below _ (T_272.setTop (mkF m 203 #[.val (.int p1), .val (.int p2), .val (.int p3), .val (.int p4), .val (.int p5), .val (.int p6), .val (.int (3 : Int32)), .val (.int lx), .val (.int ya), .val (.int yb), .val (.int yc), .val (.ref b_3), .val (.ref b_239), .val (.int (0 : Int32)), .val (.int (if (0 : Int32) < ya then (1 : Int32) else (if (0 : Int32) < yb then (1 : Int32) else (if (0 : Int32) < yc then (1 : Int32) else (0 : Int32))))), .val (.int (1 : Int32))] [(.int (if (0 : Int32) < ya then (1 : Int32) else (if (0 : Int32) < yb then (1 : Int32) else (if (0 : Int32) < yc then (1 : Int32) else (0 : Int32)))))]))
          refine OGo.to (fun _ k => XS.iload X_272.here hx rfl (hb hby at_203) rfl k) ?_
          show OGo p e below _ (T_272.setTop (mkF m 205 #[.val (.int p1), .val (.int p2), .val (.int p3), .val (.int p4), .val (.int p5), .val (.int p6), .val (.int (3 : Int32)), .val (.int lx), .val (.int ya), .val (.int yb), .val (.int yc), .val (.ref b_3), .val (.ref b_239), .val (.int (0 : Int32)), .val (.int (if (0 : Int32) < ya then (1 : Int32) else (if (0 : Int32) < yb then (1 : Int32) else (if (0 : Int32) < yc then (1 : Int32) else (0 : Int32))))), .val (.int (1 : Int32))] [(.int (1 : Int32)), (.int (if (0 : Int32) < ya then (1 : Int32) else (if (0 : Int32) < yb then (1 : Int32) else (if (0 : Int32) < yc then (1 : Int32) else (0 : Int32)))))]))
          have hc205__287 : (if (0 : Int32) < ya then (1 : Int32) else (if (0 : Int32) < yb then (1 : Int32) else (if (0 : Int32) < yc then (1 : Int32) else (0 : Int32)))) = (1 : Int32) := by rw [if_pos hc162__275]
          refine OGo.to (fun _ k => XS.icmpNo X_272.here hx rfl (hb hby at_205) rfl (teq hc205__287).2 k) ?_
          show OGo p e below _ (T_272.setTop (mkF m 208 #[.val (.int p1), .val (.int p2), .val (.int p3), .val (.int p4), .val (.int p5), .val (.int p6), .val (.int (3 : Int32)), .val (.int lx), .val (.int ya), .val (.int yb), .val (.int yc), .val (.ref b_3), .val (.ref b_239), .val (.int (0 : Int32)), .val (.int (if (0 : Int32) < ya then (1 : Int32) else (if (0 : Int32) < yb then (1 : Int32) else (if (0 : Int32) < yc then (1 : Int32) else (0 : Int32))))), .val (.int (1 : Int32))] []))
          refine OGo.to (fun _ k => XS.iconst X_272.here hx rfl (hb hby at_208) k) ?_
          show OGo p e below _ (T_272.setTop (mkF m 209 #[.val (.int p1), .val (.int p2), .val (.int p3), .val (.int p4), .val (.int p5), .val (.int p6), .val (.int (3 : Int32)), .val (.int lx), .val (.int ya), .val (.int yb), .val (.int yc), .val (.ref b_3), .val (.ref b_239), .val (.int (0 : Int32)), .val (.int (if (0 : Int32) < ya then (1 : Int32) else (if (0 : Int32) < yb then (1 : Int32) else (if (0 : Int32) < yc then (1 : Int32) else (0 : Int32))))), .val (.int (1 : Int32))] [(.int (1 : Int32))]))
          refine OGo.to (fun _ k => XS.goto X_272.here hx rfl (pc0 := 209) (pc' := 213) rfl (hb hby at_209) (by decide) (by decide) k) ?_
          show OGo p e below _ (T_272.setTop (mkF m 213 #[.val (.int p1), .val (.int p2), .val (.int p3), .val (.int p4), .val (.int p5), .val (.int p6), .val (.int (3 : Int32)), .val (.int lx), .val (.int ya), .val (.int yb), .val (.int yc), .val (.ref b_3), .val (.ref b_239), .val (.int (0 : Int32)), .val (.int (if (0 : Int32) < ya then (1 : Int32) else (if (0 : Int32) < yb then (1 : Int32) else (if (0 : Int32) < yc then (1 : Int32) else (0 : Int32))))), .val (.int (1 : Int32))] [(.int (1 : Int32))]))
          refine OGo.ret (Q := Q0 Z p1 p2 p3 p4 p5 p6 dd kd h0 n0) X_272 (some (.int (1 : Int32))) (fun h => by rw [Bd.returns] at h; cases h) Bd.notSynchronized (fun fs hr => retN X_272 hx (t := .boolean) (z := (1 : Int32)) Bd.returns (by simp) (hb hby at_213) hr) ?_ (by decide) (by decide)
          show Q0 Z p1 p2 p3 p4 p5 p6 dd kd h0 n0 _ T_272.heap _
          rw [e_272]
          exact ⟨rfl, N_272⟩
        ·  -- pc 190: no
          refine OGo.to (fun _ k => XS.ifYes X_272.here hx rfl (pc0 := 190) (pc' := 196) rfl (hb hby at_190) rfl ((if0 _ _).trans (flt hc190__285).2.2.2) (by decide) (by decide) k) ?_
          show OGo p e below _ (T_272.setTop (mkF m 196 #[.val (.int p1), .val (.int p2), .val (.int p3), .val (.int p4), .val (.int p5), .val (.int p6), .val (.int (3 : Int32)), .val (.int lx), .val (.int ya), .val (.int yb), .val (.int yc), .val (.ref b_3), .val (.ref b_239), .val (.int (0 : Int32)), .val (.int (if (0 : Int32) < ya then (1 : Int32) else (if (0 : Int32) < yb then (1 : Int32) else (if (0 : Int32) < yc then (1 : Int32) else (0 : Int32))))), .val (.int (1 : Int32))] []))
          refine OGo.to (fun _ k => XS.iload X_272.here hx rfl (hb hby at_196) rfl k) ?_
          show OGo p e below _ (T_272.setTop (mkF m 198 #[.val (.int p1), .val (.int p2), .val (.int p3), .val (.int p4), .val (.int p5), .val (.int p6), .val (.int (3 : Int32)), .val (.int lx), .val (.int ya), .val (.int yb), .val (.int yc), .val (.ref b_3), .val (.ref b_239), .val (.int (0 : Int32)), .val (.int (if (0 : Int32) < ya then (1 : Int32) else (if (0 : Int32) < yb then (1 : Int32) else (if (0 : Int32) < yc then (1 : Int32) else (0 : Int32))))), .val (.int (1 : Int32))] [(.int (0 : Int32))]))
          have hc198__288 : (0 : Int32) = (0 : Int32) := by decide
          refine OGo.to (fun _ k => XS.ifNo X_272.here hx rfl (hb hby at_198) rfl ((if0 _ _).trans (teq hc198__288).2) k) ?_
          show OGo p e below _ (T_272.setTop (mkF m 201 #[.val (.int p1), .val (.int p2), .val (.int p3), .val (.int p4), .val (.int p5), .val (.int p6), .val (.int (3 : Int32)), .val (.int lx), .val (.int ya), .val (.int yb), .val (.int yc), .val (.ref b_3), .val (.ref b_239), .val (.int (0 : Int32)), .val (.int (if (0 : Int32) < ya then (1 : Int32) else (if (0 : Int32) < yb then (1 : Int32) else (if (0 : Int32) < yc then (1 : Int32) else (0 : Int32))))), .val (.int (1 : Int32))] []))
          refine OGo.to (fun _ k => XS.iload X_272.here hx rfl (hb hby at_201) rfl k) ?_
          show OGo p e below _ (T_272.setTop (mkF m 203 #[.val (.int p1), .val (.int p2), .val (.int p3), .val (.int p4), .val (.int p5), .val (.int p6), .val (.int (3 : Int32)), .val (.int lx), .val (.int ya), .val (.int yb), .val (.int yc), .val (.ref b_3), .val (.ref b_239), .val (.int (0 : Int32)), .val (.int (if (0 : Int32) < ya then (1 : Int32) else (if (0 : Int32) < yb then (1 : Int32) else (if (0 : Int32) < yc then (1 : Int32) else (0 : Int32))))), .val (.int (1 : Int32))] [(.int (if (0 : Int32) < ya then (1 : Int32) else (if (0 : Int32) < yb then (1 : Int32) else (if (0 : Int32) < yc then (1 : Int32) else (0 : Int32)))))]))
          refine OGo.to (fun _ k => XS.iload X_272.here hx rfl (hb hby at_203) rfl k) ?_
          show OGo p e below _ (T_272.setTop (mkF m 205 #[.val (.int p1), .val (.int p2), .val (.int p3), .val (.int p4), .val (.int p5), .val (.int p6), .val (.int (3 : Int32)), .val (.int lx), .val (.int ya), .val (.int yb), .val (.int yc), .val (.ref b_3), .val (.ref b_239), .val (.int (0 : Int32)), .val (.int (if (0 : Int32) < ya then (1 : Int32) else (if (0 : Int32) < yb then (1 : Int32) else (if (0 : Int32) < yc then (1 : Int32) else (0 : Int32))))), .val (.int (1 : Int32))] [(.int (1 : Int32)), (.int (if (0 : Int32) < ya then (1 : Int32) else (if (0 : Int32) < yb then (1 : Int32) else (if (0 : Int32) < yc then (1 : Int32) else (0 : Int32)))))]))
          have hc205__289 : (if (0 : Int32) < ya then (1 : Int32) else (if (0 : Int32) < yb then (1 : Int32) else (if (0 : Int32) < yc then (1 : Int32) else (0 : Int32)))) = (1 : Int32) := by rw [if_pos hc162__275]
          refine OGo.to (fun _ k => XS.icmpNo X_272.here hx rfl (hb hby at_205) rfl (teq hc205__289).2 k) ?_
          show OGo p e below _ (T_272.setTop (mkF m 208 #[.val (.int p1), .val (.int p2), .val (.int p3), .val (.int p4), .val (.int p5), .val (.int p6), .val (.int (3 : Int32)), .val (.int lx), .val (.int ya), .val (.int yb), .val (.int yc), .val (.ref b_3), .val (.ref b_239), .val (.int (0 : Int32)), .val (.int (if (0 : Int32) < ya then (1 : Int32) else (if (0 : Int32) < yb then (1 : Int32) else (if (0 : Int32) < yc then (1 : Int32) else (0 : Int32))))), .val (.int (1 : Int32))] []))
          refine OGo.to (fun _ k => XS.iconst X_272.here hx rfl (hb hby at_208) k) ?_
          show OGo p e below _ (T_272.setTop (mkF m 209 #[.val (.int p1), .val (.int p2), .val (.int p3), .val (.int p4), .val (.int p5), .val (.int p6), .val (.int (3 : Int32)), .val (.int lx), .val (.int ya), .val (.int yb), .val (.int yc), .val (.ref b_3), .val (.ref b_239), .val (.int (0 : Int32)), .val (.int (if (0 : Int32) < ya then (1 : Int32) else (if (0 : Int32) < yb then (1 : Int32) else (if (0 : Int32) < yc then (1 : Int32) else (0 : Int32))))), .val (.int (1 : Int32))] [(.int (1 : Int32))]))
          refine OGo.to (fun _ k => XS.goto X_272.here hx rfl (pc0 := 209) (pc' := 213) rfl (hb hby at_209) (by decide) (by decide) k) ?_
          show OGo p e below _ (T_272.setTop (mkF m 213 #[.val (.int p1), .val (.int p2), .val (.int p3), .val (.int p4), .val (.int p5), .val (.int p6), .val (.int (3 : Int32)), .val (.int lx), .val (.int ya), .val (.int yb), .val (.int yc), .val (.ref b_3), .val (.ref b_239), .val (.int (0 : Int32)), .val (.int (if (0 : Int32) < ya then (1 : Int32) else (if (0 : Int32) < yb then (1 : Int32) else (if (0 : Int32) < yc then (1 : Int32) else (0 : Int32))))), .val (.int (1 : Int32))] [(.int (1 : Int32))]))
          refine OGo.ret (Q := Q0 Z p1 p2 p3 p4 p5 p6 dd kd h0 n0) X_272 (some (.int (1 : Int32))) (fun h => by rw [Bd.returns] at h; cases h) Bd.notSynchronized (fun fs hr => retN X_272 hx (t := .boolean) (z := (1 : Int32)) Bd.returns (by simp) (hb hby at_213) hr) ?_ (by decide) (by decide)
          show Q0 Z p1 p2 p3 p4 p5 p6 dd kd h0 n0 _ T_272.heap _
          rw [e_272]
          exact ⟨rfl, N_272⟩
    ·  -- pc 162: no
      refine OGo.to (fun _ k => XS.ifYes X_272.here hx rfl (pc0 := 162) (pc' := 168) rfl (hb hby at_162) rfl ((if0 _ _).trans (flt hc162__275).2.2.2) (by decide) (by decide) k) ?_
      show OGo p e below _ (T_272.setTop (mkF m 168 #[.val (.int p1), .val (.int p2), .val (.int p3), .val (.int p4), .val (.int p5), .val (.int p6), .val (.int (3 : Int32)), .val (.int lx), .val (.int ya), .val (.int yb), .val (.int yc), .val (.ref b_3), .val (.ref b_239), .val (.int (0 : Int32)), .val (.int (if (0 : Int32) < ya then (1 : Int32) else (if (0 : Int32) < yb then (1 : Int32) else (if (0 : Int32) < yc then (1 : Int32) else (0 : Int32))))), .val (.int (0 : Int32))] []))
      refine OGo.to (fun _ k => XS.iload X_272.here hx rfl (hb hby at_168) rfl k) ?_
      show OGo p e below _ (T_272.setTop (mkF m 170 #[.val (.int p1), .val (.int p2), .val (.int p3), .val (.int p4), .val (.int p5), .val (.int p6), .val (.int (3 : Int32)), .val (.int lx), .val (.int ya), .val (.int yb), .val (.int yc), .val (.ref b_3), .val (.ref b_239), .val (.int (0 : Int32)), .val (.int (if (0 : Int32) < ya then (1 : Int32) else (if (0 : Int32) < yb then (1 : Int32) else (if (0 : Int32) < yc then (1 : Int32) else (0 : Int32))))), .val (.int (0 : Int32))] [(.int (3 : Int32))]))
      refine OGo.to (fun _ k => XS.iconst X_272.here hx rfl (hb hby at_170) k) ?_
      show OGo p e below _ (T_272.setTop (mkF m 171 #[.val (.int p1), .val (.int p2), .val (.int p3), .val (.int p4), .val (.int p5), .val (.int p6), .val (.int (3 : Int32)), .val (.int lx), .val (.int ya), .val (.int yb), .val (.int yc), .val (.ref b_3), .val (.ref b_239), .val (.int (0 : Int32)), .val (.int (if (0 : Int32) < ya then (1 : Int32) else (if (0 : Int32) < yb then (1 : Int32) else (if (0 : Int32) < yc then (1 : Int32) else (0 : Int32))))), .val (.int (0 : Int32))] [(.int (2 : Int32)), (.int (3 : Int32))]))
      have hc171__290 : ¬ ((3 : Int32) < (2 : Int32)) := by decide
      refine OGo.to (fun _ k => XS.icmpNo X_272.here hx rfl (hb hby at_171) rfl (flt hc171__290).1 k) ?_
      show OGo p e below _ (T_272.setTop (mkF m 174 #[.val (.int p1), .val (.int p2), .val (.int p3), .val (.int p4), .val (.int p5), .val (.int p6), .val (.int (3 : Int32)), .val (.int lx), .val (.int ya), .val (.int yb), .val (.int yc), .val (.ref b_3), .val (.ref b_239), .val (.int (0 : Int32)), .val (.int (if (0 : Int32) < ya then (1 : Int32) else (if (0 : Int32) < yb then (1 : Int32) else (if (0 : Int32) < yc then (1 : Int32) else (0 : Int32))))), .val (.int (0 : Int32))] []))
      refine OGo.to (fun _ k => XS.iload X_272.here hx rfl (hb hby at_174) rfl k) ?_
      show OGo p e below _ (T_272.setTop (mkF m 176 #[.val (.int p1), .val (.int p2), .val (.int p3), .val (.int p4), .val (.int p5), .val (.int p6), .val (.int (3 : Int32)), .val (.int lx), .val (.int ya), .val (.int yb), .val (.int yc), .val (.ref b_3), .val (.ref b_239), .val (.int (0 : Int32)), .val (.int (if (0 : Int32) < ya then (1 : Int32) else (if (0 : Int32) < yb then (1 : Int32) else (if (0 : Int32) < yc then (1 : Int32) else (0 : Int32))))), .val (.int (0 : Int32))] [(.int yb)]))
      by_cases hc176__291 : (0 : Int32) < yb
      ·  -- pc 176: yes
        refine OGo.to (fun _ k => XS.ifNo X_272.here hx rfl (hb hby at_176) rfl ((if0 _ _).trans (tlt hc176__291).2.2.2) k) ?_
        show OGo p e below _ (T_272.setTop (mkF m 179 #[.val (.int p1), .val (.int p2), .val (.int p3), .val (.int p4), .val (.int p5), .val (.int p6), .val (.int (3 : Int32)), .val (.int lx), .val (.int ya), .val (.int yb), .val (.int yc), .val (.ref b_3), .val (.ref b_239), .val (.int (0 : Int32)), .val (.int (if (0 : Int32) < ya then (1 : Int32) else (if (0 : Int32) < yb then (1 : Int32) else (if (0 : Int32) < yc then (1 : Int32) else (0 : Int32))))), .val (.int (0 : Int32))] []))
        refine OGo.to (fun _ k => XS.iconst X_272.here hx rfl (hb hby at_179) k) ?_
        show OGo p e below _ (T_272.setTop (mkF m 180 #[.val (.int p1), .val (.int p2), .val (.int p3), .val (.int p4), .val (.int p5), .val (.int p6), .val (.int (3 : Int32)), .val (.int lx), .val (.int ya), .val (.int yb), .val (.int yc), .val (.ref b_3), .val (.ref b_239), .val (.int (0 : Int32)), .val (.int (if (0 : Int32) < ya then (1 : Int32) else (if (0 : Int32) < yb then (1 : Int32) else (if (0 : Int32) < yc then (1 : Int32) else (0 : Int32))))), .val (.int (0 : Int32))] [(.int (1 : Int32))]))
        refine OGo.to (fun _ k => XS.istore X_272.here hx rfl (hb hby at_180) rfl (l' := #[.val (.int p1), .val (.int p2), .val (.int p3), .val (.int p4), .val (.int p5), .val (.int p6), .val (.int (3 : Int32)), .val (.int lx), .val (.int ya), .val (.int yb), .val (.int yc), .val (.ref b_3), .val (.ref b_239), .val (.int (0 : Int32)), .val (.int (if (0 : Int32) < ya then (1 : Int32) else (if (0 : Int32) < yb then (1 : Int32) else (if (0 : Int32) < yc then (1 : Int32) else (0 : Int32))))), .val (.int (1 : Int32))]) rfl k) ?_
        show OGo p e below _ (T_272.setTop (mkF m 182 #[.val (.int p1), .val (.int p2), .val (.int p3), .val (.int p4), .val (.int p5), .val (.int p6), .val (.int (3 : Int32)), .val (.int lx), .val (.int ya), .val (.int yb), .val (.int yc), .val (.ref b_3), .val (.ref b_239), .val (.int (0 : Int32)), .val (.int (if (0 : Int32) < ya then (1 : Int32) else (if (0 : Int32) < yb then (1 : Int32) else (if (0 : Int32) < yc then (1 : Int32) else (0 : Int32))))), .val (.int (1 : Int32))] []))
        refine OGo.to (fun _ k => XS.iload X_272.here hx rfl (hb hby at_182) rfl k) ?_
        show OGo p e below _ (T_272.setTop (mkF m 184 #[.val (.int p1), .val (.int p2), .val (.int p3), .val (.int p4), .val (.int p5), .val (.int p6), .val (.int (3 : Int32)), .val (.int lx), .val (.int ya), .val (.int yb), .val (.int yc), .val (.ref b_3), .val (.ref b_239), .val (.int (0 : Int32)), .val (.int (if (0 : Int32) < ya then (1 : Int32) else (if (0 : Int32) < yb then (1 : Int32) else (if (0 : Int32) < yc then (1 : Int32) else (0 : Int32))))), .val (.int (1 : Int32))] [(.int (3 : Int32))]))
        refine OGo.to (fun _ k => XS.iconst X_272.here hx rfl (hb hby at_184) k) ?_
        show OGo p e below _ (T_272.setTop (mkF m 185 #[.val (.int p1), .val (.int p2), .val (.int p3), .val (.int p4), .val (.int p5), .val (.int p6), .val (.int (3 : Int32)), .val (.int lx), .val (.int ya), .val (.int yb), .val (.int yc), .val (.ref b_3), .val (.ref b_239), .val (.int (0 : Int32)), .val (.int (if (0 : Int32) < ya then (1 : Int32) else (if (0 : Int32) < yb then (1 : Int32) else (if (0 : Int32) < yc then (1 : Int32) else (0 : Int32))))), .val (.int (1 : Int32))] [(.int (3 : Int32)), (.int (3 : Int32))]))
        have hc185__292 : ¬ ((3 : Int32) < (3 : Int32)) := by decide
        refine OGo.to (fun _ k => XS.icmpNo X_272.here hx rfl (hb hby at_185) rfl (flt hc185__292).1 k) ?_
        show OGo p e below _ (T_272.setTop (mkF m 188 #[.val (.int p1), .val (.int p2), .val (.int p3), .val (.int p4), .val (.int p5), .val (.int p6), .val (.int (3 : Int32)), .val (.int lx), .val (.int ya), .val (.int yb), .val (.int yc), .val (.ref b_3), .val (.ref b_239), .val (.int (0 : Int32)), .val (.int (if (0 : Int32) < ya then (1 : Int32) else (if (0 : Int32) < yb then (1 : Int32) else (if (0 : Int32) < yc then (1 : Int32) else (0 : Int32))))), .val (.int (1 : Int32))] []))
        refine OGo.to (fun _ k => XS.iload X_272.here hx rfl (hb hby at_188) rfl k) ?_
        show OGo p e below _ (T_272.setTop (mkF m 190 #[.val (.int p1), .val (.int p2), .val (.int p3), .val (.int p4), .val (.int p5), .val (.int p6), .val (.int (3 : Int32)), .val (.int lx), .val (.int ya), .val (.int yb), .val (.int yc), .val (.ref b_3), .val (.ref b_239), .val (.int (0 : Int32)), .val (.int (if (0 : Int32) < ya then (1 : Int32) else (if (0 : Int32) < yb then (1 : Int32) else (if (0 : Int32) < yc then (1 : Int32) else (0 : Int32))))), .val (.int (1 : Int32))] [(.int yc)]))
        by_cases hc190__293 : (0 : Int32) < yc
        ·  -- pc 190: yes
          refine OGo.to (fun _ k => XS.ifNo X_272.here hx rfl (hb hby at_190) rfl ((if0 _ _).trans (tlt hc190__293).2.2.2) k) ?_
          show OGo p e below _ (T_272.setTop (mkF m 193 #[.val (.int p1), .val (.int p2), .val (.int p3), .val (.int p4), .val (.int p5), .val (.int p6), .val (.int (3 : Int32)), .val (.int lx), .val (.int ya), .val (.int yb), .val (.int yc), .val (.ref b_3), .val (.ref b_239), .val (.int (0 : Int32)), .val (.int (if (0 : Int32) < ya then (1 : Int32) else (if (0 : Int32) < yb then (1 : Int32) else (if (0 : Int32) < yc then (1 : Int32) else (0 : Int32))))), .val (.int (1 : Int32))] []))
          refine OGo.to (fun _ k => XS.iconst X_272.here hx rfl (hb hby at_193) k) ?_
          show OGo p e below _ (T_272.setTop (mkF m 194 #[.val (.int p1), .val (.int p2), .val (.int p3), .val (.int p4), .val (.int p5), .val (.int p6), .val (.int (3 : Int32)), .val (.int lx), .val (.int ya), .val (.int yb), .val (.int yc), .val (.ref b_3), .val (.ref b_239), .val (.int (0 : Int32)), .val (.int (if (0 : Int32) < ya then (1 : Int32) else (if (0 : Int32) < yb then (1 : Int32) else (if (0 : Int32) < yc then (1 : Int32) else (0 : Int32))))), .val (.int (1 : Int32))] [(.int (1 : Int32))]))
          refine OGo.to (fun _ k => XS.istore X_272.here hx rfl (hb hby at_194) rfl (l' := #[.val (.int p1), .val (.int p2), .val (.int p3), .val (.int p4), .val (.int p5), .val (.int p6), .val (.int (3 : Int32)), .val (.int lx), .val (.int ya), .val (.int yb), .val (.int yc), .val (.ref b_3), .val (.ref b_239), .val (.int (0 : Int32)), .val (.int (if (0 : Int32) < ya then (1 : Int32) else (if (0 : Int32) < yb then (1 : Int32) else (if (0 : Int32) < yc then (1 : Int32) else (0 : Int32))))), .val (.int (1 : Int32))]) rfl k) ?_
          show OGo p e below _ (T_272.setTop (mkF m 196 #[.val (.int p1), .val (.int p2), .val (.int p3), .val (.int p4), .val (.int p5), .val (.int p6), .val (.int (3 : Int32)), .val (.int lx), .val (.int ya), .val (.int yb), .val (.int yc), .val (.ref b_3), .val (.ref b_239), .val (.int (0 : Int32)), .val (.int (if (0 : Int32) < ya then (1 : Int32) else (if (0 : Int32) < yb then (1 : Int32) else (if (0 : Int32) < yc then (1 : Int32) else (0 : Int32))))), .val (.int (1 : Int32))] []))
          refine OGo.to (fun _ k => XS.iload X_272.here hx rfl (hb hby at_196) rfl k) ?_
          show OGo p e below _ (T_272.setTop (mkF m 198 #[.val (.int p1), .val (.int p2), .val (.int p3), .val (.int p4), .val (.int p5), .val (.int p6), .val (.int (3 : Int32)), .val (.int lx), .val (.int ya), .val (.int yb), .val (.int yc), .val (.ref b_3), .val (.ref b_239), .val (.int (0 : Int32)), .val (.int (if (0 : Int32) < ya then (1 : Int32) else (if (0 : Int32) < yb then (1 : Int32) else (if (0 : Int32) < yc then (1 : Int32) else (0 : Int32))))), .val (.int (1 : Int32))] [(.int (0 : Int32))]))
          have hc198__294 : (0 : Int32) = (0 : Int32) := by decide
          refine OGo.to (fun _ k => XS.ifNo X_272.here hx rfl (hb hby at_198) rfl ((if0 _ _).trans (teq hc198__294).2) k) ?_
          show OGo p e below _ (T_272.setTop (mkF m 201 #[.val (.int p1), .val (.int p2), .val (.int p3), .val (.int p4), .val (.int p5), .val (.int p6), .val (.int (3 : Int32)), .val (.int lx), .val (.int ya), .val (.int yb), .val (.int yc), .val (.ref b_3), .val (.ref b_239), .val (.int (0 : Int32)), .val (.int (if (0 : Int32) < ya then (1 : Int32) else (if (0 : Int32) < yb then (1 : Int32) else (if (0 : Int32) < yc then (1 : Int32) else (0 : Int32))))), .val (.int (1 : Int32))] []))
          refine OGo.to (fun _ k => XS.iload X_272.here hx rfl (hb hby at_201) rfl k) ?_
          show OGo p e below _ (T_272.setTop (mkF m 203 #[.val (.int p1), .val (.int p2), .val (.int p3), .val (.int p4), .val (.int p5), .val (.int p6), .val (.int (3 : Int32)), .val (.int lx), .val (.int ya), .val (.int yb), .val (.int yc), .val (.ref b_3), .val (.ref b_239), .val (.int (0 : Int32)), .val (.int (if (0 : Int32) < ya then (1 : Int32) else (if (0 : Int32) < yb then (1 : Int32) else (if (0 : Int32) < yc then (1 : Int32) else (0 : Int32))))), .val (.int (1 : Int32))] [(.int (if (0 : Int32) < ya then (1 : Int32) else (if (0 : Int32) < yb then (1 : Int32) else (if (0 : Int32) < yc then (1 : Int32) else (0 : Int32)))))]))
          refine OGo.to (fun _ k => XS.iload X_272.here hx rfl (hb hby at_203) rfl k) ?_
          show OGo p e below _ (T_272.setTop (mkF m 205 #[.val (.int p1), .val (.int p2), .val (.int p3), .val (.int p4), .val (.int p5), .val (.int p6), .val (.int (3 : Int32)), .val (.int lx), .val (.int ya), .val (.int yb), .val (.int yc), .val (.ref b_3), .val (.ref b_239), .val (.int (0 : Int32)), .val (.int (if (0 : Int32) < ya then (1 : Int32) else (if (0 : Int32) < yb then (1 : Int32) else (if (0 : Int32) < yc then (1 : Int32) else (0 : Int32))))), .val (.int (1 : Int32))] [(.int (1 : Int32)), (.int (if (0 : Int32) < ya then (1 : Int32) else (if (0 : Int32) < yb then (1 : Int32) else (if (0 : Int32) < yc then (1 : Int32) else (0 : Int32)))))]))
          have hc205__295 : (if (0 : Int32) < ya then (1 : Int32) else (if (0 : Int32) < yb then (1 : Int32) else (if (0 : Int32) < yc then (1 : Int32) else (0 : Int32)))) = (1 : Int32) := by rw [if_neg hc162__275, if_pos hc176__291]
          refine OGo.to (fun _ k => XS.icmpNo X_272.here hx rfl (hb hby at_205) rfl (teq hc205__295).2 k) ?_
          show OGo p e below _ (T_272.setTop (mkF m 208 #[.val (.int p1), .val (.int p2), .val (.int p3), .val (.int p4), .val (.int p5), .val (.int p6), .val (.int (3 : Int32)), .val (.int lx), .val (.int ya), .val (.int yb), .val (.int yc), .val (.ref b_3), .val (.ref b_239), .val (.int (0 : Int32)), .val (.int (if (0 : Int32) < ya then (1 : Int32) else (if (0 : Int32) < yb then (1 : Int32) else (if (0 : Int32) < yc then (1 : Int32) else (0 : Int32))))), .val (.int (1 : Int32))] []))
          refine OGo.to (fun _ k => XS.iconst X_272.here hx rfl (hb hby at_208) k) ?_
          show OGo p e below _ (T_272.setTop (mkF m 209 #[.val (.int p1), .val (.int p2), .val (.int p3), .val (.int p4), .val (.int p5), .val (.int p6), .val (.int (3 : Int32)), .val (.int lx), .val (.int ya), .val (.int yb), .val (.int yc), .val (.ref b_3), .val (.ref b_239), .val (.int (0 : Int32)), .val (.int (if (0 : Int32) < ya then (1 : Int32) else (if (0 : Int32) < yb then (1 : Int32) else (if (0 : Int32) < yc then (1 : Int32) else (0 : Int32))))), .val (.int (1 : Int32))] [(.int (1 : Int32))]))
          refine OGo.to (fun _ k => XS.goto X_272.here hx rfl (pc0 := 209) (pc' := 213) rfl (hb hby at_209) (by decide) (by decide) k) ?_
          show OGo p e below _ (T_272.setTop (mkF m 213 #[.val (.int p1), .val (.int p2), .val (.int p3), .val (.int p4), .val (.int p5), .val (.int p6), .val (.int (3 : Int32)), .val (.int lx), .val (.int ya), .val (.int yb), .val (.int yc), .val (.ref b_3), .val (.ref b_239), .val (.int (0 : Int32)), .val (.int (if (0 : Int32) < ya then (1 : Int32) else (if (0 : Int32) < yb then (1 : Int32) else (if (0 : Int32) < yc then (1 : Int32) else (0 : Int32))))), .val (.int (1 : Int32))] [(.int (1 : Int32))]))
          refine OGo.ret (Q := Q0 Z p1 p2 p3 p4 p5 p6 dd kd h0 n0) X_272 (some (.int (1 : Int32))) (fun h => by rw [Bd.returns] at h; cases h) Bd.notSynchronized (fun fs hr => retN X_272 hx (t := .boolean) (z := (1 : Int32)) Bd.returns (by simp) (hb hby at_213) hr) ?_ (by decide) (by decide)
          show Q0 Z p1 p2 p3 p4 p5 p6 dd kd h0 n0 _ T_272.heap _
          rw [e_272]
          exact ⟨rfl, N_272⟩
        ·  -- pc 190: no
          refine OGo.to (fun _ k => XS.ifYes X_272.here hx rfl (pc0 := 190) (pc' := 196) rfl (hb hby at_190) rfl ((if0 _ _).trans (flt hc190__293).2.2.2) (by decide) (by decide) k) ?_
          show OGo p e below _ (T_272.setTop (mkF m 196 #[.val (.int p1), .val (.int p2), .val (.int p3), .val (.int p4), .val (.int p5), .val (.int p6), .val (.int (3 : Int32)), .val (.int lx), .val (.int ya), .val (.int yb), .val (.int yc), .val (.ref b_3), .val (.ref b_239), .val (.int (0 : Int32)), .val (.int (if (0 : Int32) < ya then (1 : Int32) else (if (0 : Int32) < yb then (1 : Int32) else (if (0 : Int32) < yc then (1 : Int32) else (0 : Int32))))), .val (.int (1 : Int32))] []))
          refine OGo.to (fun _ k => XS.iload X_272.here hx rfl (hb hby at_196) rfl k) ?_
          show OGo p e below _ (T_272.setTop (mkF m 198 #[.val (.int p1), .val (.int p2), .val (.int p3), .val (.int p4), .val (.int p5), .val (.int p6), .val (.int (3 : Int32)), .val (.int lx), .val (.int ya), .val (.int yb), .val (.int yc), .val (.ref b_3), .val (.ref b_239), .val (.int (0 : Int32)), .val (.int (if (0 : Int32) < ya then (1 : Int32) else (if (0 : Int32) < yb then (1 : Int32) else (if (0 : Int32) < yc then (1 : Int32) else (0 : Int32))))), .val (.int (1 : Int32))] [(.int (0 : Int32))]))
          have hc198__296 : (0 : Int32) = (0 : Int32) := by decide
          refine OGo.to (fun _ k => XS.ifNo X_272.here hx rfl (hb hby at_198) rfl ((if0 _ _).trans (teq hc198__296).2) k) ?_
          show OGo p e below _ (T_272.setTop (mkF m 201 #[.val (.int p1), .val (.int p2), .val (.int p3), .val (.int p4), .val (.int p5), .val (.int p6), .val (.int (3 : Int32)), .val (.int lx), .val (.int ya), .val (.int yb), .val (.int yc), .val (.ref b_3), .val (.ref b_239), .val (.int (0 : Int32)), .val (.int (if (0 : Int32) < ya then (1 : Int32) else (if (0 : Int32) < yb then (1 : Int32) else (if (0 : Int32) < yc then (1 : Int32) else (0 : Int32))))), .val (.int (1 : Int32))] []))
          refine OGo.to (fun _ k => XS.iload X_272.here hx rfl (hb hby at_201) rfl k) ?_
          show OGo p e below _ (T_272.setTop (mkF m 203 #[.val (.int p1), .val (.int p2), .val (.int p3), .val (.int p4), .val (.int p5), .val (.int p6), .val (.int (3 : Int32)), .val (.int lx), .val (.int ya), .val (.int yb), .val (.int yc), .val (.ref b_3), .val (.ref b_239), .val (.int (0 : Int32)), .val (.int (if (0 : Int32) < ya then (1 : Int32) else (if (0 : Int32) < yb then (1 : Int32) else (if (0 : Int32) < yc then (1 : Int32) else (0 : Int32))))), .val (.int (1 : Int32))] [(.int (if (0 : Int32) < ya then (1 : Int32) else (if (0 : Int32) < yb then (1 : Int32) else (if (0 : Int32) < yc then (1 : Int32) else (0 : Int32)))))]))
          refine OGo.to (fun _ k => XS.iload X_272.here hx rfl (hb hby at_203) rfl k) ?_
          show OGo p e below _ (T_272.setTop (mkF m 205 #[.val (.int p1), .val (.int p2), .val (.int p3), .val (.int p4), .val (.int p5), .val (.int p6), .val (.int (3 : Int32)), .val (.int lx), .val (.int ya), .val (.int yb), .val (.int yc), .val (.ref b_3), .val (.ref b_239), .val (.int (0 : Int32)), .val (.int (if (0 : Int32) < ya then (1 : Int32) else (if (0 : Int32) < yb then (1 : Int32) else (if (0 : Int32) < yc then (1 : Int32) else (0 : Int32))))), .val (.int (1 : Int32))] [(.int (1 : Int32)), (.int (if (0 : Int32) < ya then (1 : Int32) else (if (0 : Int32) < yb then (1 : Int32) else (if (0 : Int32) < yc then (1 : Int32) else (0 : Int32)))))]))
          have hc205__297 : (if (0 : Int32) < ya then (1 : Int32) else (if (0 : Int32) < yb then (1 : Int32) else (if (0 : Int32) < yc then (1 : Int32) else (0 : Int32)))) = (1 : Int32) := by rw [if_neg hc162__275, if_pos hc176__291]
          refine OGo.to (fun _ k => XS.icmpNo X_272.here hx rfl (hb hby at_205) rfl (teq hc205__297).2 k) ?_
          show OGo p e below _ (T_272.setTop (mkF m 208 #[.val (.int p1), .val (.int p2), .val (.int p3), .val (.int p4), .val (.int p5), .val (.int p6), .val (.int (3 : Int32)), .val (.int lx), .val (.int ya), .val (.int yb), .val (.int yc), .val (.ref b_3), .val (.ref b_239), .val (.int (0 : Int32)), .val (.int (if (0 : Int32) < ya then (1 : Int32) else (if (0 : Int32) < yb then (1 : Int32) else (if (0 : Int32) < yc then (1 : Int32) else (0 : Int32))))), .val (.int (1 : Int32))] []))
          refine OGo.to (fun _ k => XS.iconst X_272.here hx rfl (hb hby at_208) k) ?_
          show OGo p e below _ (T_272.setTop (mkF m 209 #[.val (.int p1), .val (.int p2), .val (.int p3), .val (.int p4), .val (.int p5), .val (.int p6), .val (.int (3 : Int32)), .val (.int lx), .val (.int ya), .val (.int yb), .val (.int yc), .val (.ref b_3), .val (.ref b_239), .val (.int (0 : Int32)), .val (.int (if (0 : Int32) < ya then (1 : Int32) else (if (0 : Int32) < yb then (1 : Int32) else (if (0 : Int32) < yc then (1 : Int32) else (0 : Int32))))), .val (.int (1 : Int32))] [(.int (1 : Int32))]))
          refine OGo.to (fun _ k => XS.goto X_272.here hx rfl (pc0 := 209) (pc' := 213) rfl (hb hby at_209) (by decide) (by decide) k) ?_
          show OGo p e below _ (T_272.setTop (mkF m 213 #[.val (.int p1), .val (.int p2), .val (.int p3), .val (.int p4), .val (.int p5), .val (.int p6), .val (.int (3 : Int32)), .val (.int lx), .val (.int ya), .val (.int yb), .val (.int yc), .val (.ref b_3), .val (.ref b_239), .val (.int (0 : Int32)), .val (.int (if (0 : Int32) < ya then (1 : Int32) else (if (0 : Int32) < yb then (1 : Int32) else (if (0 : Int32) < yc then (1 : Int32) else (0 : Int32))))), .val (.int (1 : Int32))] [(.int (1 : Int32))]))
          refine OGo.ret (Q := Q0 Z p1 p2 p3 p4 p5 p6 dd kd h0 n0) X_272 (some (.int (1 : Int32))) (fun h => by rw [Bd.returns] at h; cases h) Bd.notSynchronized (fun fs hr => retN X_272 hx (t := .boolean) (z := (1 : Int32)) Bd.returns (by simp) (hb hby at_213) hr) ?_ (by decide) (by decide)
          show Q0 Z p1 p2 p3 p4 p5 p6 dd kd h0 n0 _ T_272.heap _
          rw [e_272]
          exact ⟨rfl, N_272⟩
      ·  -- pc 176: no
        refine OGo.to (fun _ k => XS.ifYes X_272.here hx rfl (pc0 := 176) (pc' := 182) rfl (hb hby at_176) rfl ((if0 _ _).trans (flt hc176__291).2.2.2) (by decide) (by decide) k) ?_
        show OGo p e below _ (T_272.setTop (mkF m 182 #[.val (.int p1), .val (.int p2), .val (.int p3), .val (.int p4), .val (.int p5), .val (.int p6), .val (.int (3 : Int32)), .val (.int lx), .val (.int ya), .val (.int yb), .val (.int yc), .val (.ref b_3), .val (.ref b_239), .val (.int (0 : Int32)), .val (.int (if (0 : Int32) < ya then (1 : Int32) else (if (0 : Int32) < yb then (1 : Int32) else (if (0 : Int32) < yc then (1 : Int32) else (0 : Int32))))), .val (.int (0 : Int32))] []))
        refine OGo.to (fun _ k => XS.iload X_272.here hx rfl (hb hby at_182) rfl k) ?_
        show OGo p e below _ (T_272.setTop (mkF m 184 #[.val (.int p1), .val (.int p2), .val (.int p3), .val (.int p4), .val (.int p5), .val (.int p6), .val (.int (3 : Int32)), .val (.int lx), .val (.int ya), .val (.int yb), .val (.int yc), .val (.ref b_3), .val (.ref b_239), .val (.int (0 : Int32)), .val (.int (if (0 : Int32) < ya then (1 : Int32) else (if (0 : Int32) < yb then (1 : Int32) else (if (0 : Int32) < yc then (1 : Int32) else (0 : Int32))))), .val (.int (0 : Int32))] [(.int (3 : Int32))]))
        refine OGo.to (fun _ k => XS.iconst X_272.here hx rfl (hb hby at_184) k) ?_
        show OGo p e below _ (T_272.setTop (mkF m 185 #[.val (.int p1), .val (.int p2), .val (.int p3), .val (.int p4), .val (.int p5), .val (.int p6), .val (.int (3 : Int32)), .val (.int lx), .val (.int ya), .val (.int yb), .val (.int yc), .val (.ref b_3), .val (.ref b_239), .val (.int (0 : Int32)), .val (.int (if (0 : Int32) < ya then (1 : Int32) else (if (0 : Int32) < yb then (1 : Int32) else (if (0 : Int32) < yc then (1 : Int32) else (0 : Int32))))), .val (.int (0 : Int32))] [(.int (3 : Int32)), (.int (3 : Int32))]))
        have hc185__298 : ¬ ((3 : Int32) < (3 : Int32)) := by decide
        refine OGo.to (fun _ k => XS.icmpNo X_272.here hx rfl (hb hby at_185) rfl (flt hc185__298).1 k) ?_
        show OGo p e below _ (T_272.setTop (mkF m 188 #[.val (.int p1), .val (.int p2), .val (.int p3), .val (.int p4), .val (.int p5), .val (.int p6), .val (.int (3 : Int32)), .val (.int lx), .val (.int ya), .val (.int yb), .val (.int yc), .val (.ref b_3), .val (.ref b_239), .val (.int (0 : Int32)), .val (.int (if (0 : Int32) < ya then (1 : Int32) else (if (0 : Int32) < yb then (1 : Int32) else (if (0 : Int32) < yc then (1 : Int32) else (0 : Int32))))), .val (.int (0 : Int32))] []))
        refine OGo.to (fun _ k => XS.iload X_272.here hx rfl (hb hby at_188) rfl k) ?_
        show OGo p e below _ (T_272.setTop (mkF m 190 #[.val (.int p1), .val (.int p2), .val (.int p3), .val (.int p4), .val (.int p5), .val (.int p6), .val (.int (3 : Int32)), .val (.int lx), .val (.int ya), .val (.int yb), .val (.int yc), .val (.ref b_3), .val (.ref b_239), .val (.int (0 : Int32)), .val (.int (if (0 : Int32) < ya then (1 : Int32) else (if (0 : Int32) < yb then (1 : Int32) else (if (0 : Int32) < yc then (1 : Int32) else (0 : Int32))))), .val (.int (0 : Int32))] [(.int yc)]))
        by_cases hc190__299 : (0 : Int32) < yc
        ·  -- pc 190: yes
          refine OGo.to (fun _ k => XS.ifNo X_272.here hx rfl (hb hby at_190) rfl ((if0 _ _).trans (tlt hc190__299).2.2.2) k) ?_
          show OGo p e below _ (T_272.setTop (mkF m 193 #[.val (.int p1), .val (.int p2), .val (.int p3), .val (.int p4), .val (.int p5), .val (.int p6), .val (.int (3 : Int32)), .val (.int lx), .val (.int ya), .val (.int yb), .val (.int yc), .val (.ref b_3), .val (.ref b_239), .val (.int (0 : Int32)), .val (.int (if (0 : Int32) < ya then (1 : Int32) else (if (0 : Int32) < yb then (1 : Int32) else (if (0 : Int32) < yc then (1 : Int32) else (0 : Int32))))), .val (.int (0 : Int32))] []))
          refine OGo.to (fun _ k => XS.iconst X_272.here hx rfl (hb hby at_193) k) ?_
          show OGo p e below _ (T_272.setTop (mkF m 194 #[.val (.int p1), .val (.int p2), .val (.int p3), .val (.int p4), .val (.int p5), .val (.int p6), .val (.int (3 : Int32)), .val (.int lx), .val (.int ya), .val (.int yb), .val (.int yc), .val (.ref b_3), .val (.ref b_239), .val (.int (0 : Int32)), .val (.int (if (0 : Int32) < ya then (1 : Int32) else (if (0 : Int32) < yb then (1 : Int32) else (if (0 : Int32) < yc then (1 : Int32) else (0 : Int32))))), .val (.int (0 : Int32))] [(.int (1 : Int32))]))
          refine OGo.to (fun _ k => XS.istore X_272.here hx rfl (hb hby at_194) rfl (l' := #[.val (.int p1), .val (.int p2), .val (.int p3), .val (.int p4), .val (.int p5), .val (.int p6), .val (.int (3 : Int32)), .val (.int lx), .val (.int ya), .val (.int yb), .val (.int yc), .val (.ref b_3), .val (.ref b_239), .val (.int (0 : Int32)), .val (.int (if (0 : Int32) < ya then (1 : Int32) else (if (0 : Int32) < yb then (1 : Int32) else (if (0 : Int32) < yc then (1 : Int32) else (0 : Int32))))), .val (.int (1 : Int32))]) rfl k) ?_
          show OGo p e below _ (T_272.setTop (mkF m 196 #[.val (.int p1), .val (.int p2), .val (.int p3), .val (.int p4), .val (.int p5), .val (.int p6), .val (.int (3 : Int32)), .val (.int lx), .val (.int ya), .val (.int yb), .val (.int yc), .val (.ref b_3), .val (.ref b_239), .val (.int (0 : Int32)), .val (.int (if (0 : Int32) < ya then (1 : Int32) else (if (0 : Int32) < yb then (1 : Int32) else (if (0 : Int32) < yc then (1 : Int32) else (0 : Int32))))), .val (.int (1 : Int32))] []))
          refine OGo.to (fun _ k => XS.iload X_272.here hx rfl (hb hby at_196) rfl k) ?_
          show OGo p e below _ (T_272.setTop (mkF m 198 #[.val (.int p1), .val (.int p2), .val (.int p3), .val (.int p4), .val (.int p5), .val (.int p6), .val (.int (3 : Int32)), .val (.int lx), .val (.int ya), .val (.int yb), .val (.int yc), .val (.ref b_3), .val (.ref b_239), .val (.int (0 : Int32)), .val (.int (if (0 : Int32) < ya then (1 : Int32) else (if (0 : Int32) < yb then (1 : Int32) else (if (0 : Int32) < yc then (1 : Int32) else (0 : Int32))))), .val (.int (1 : Int32))] [(.int (0 : Int32))]))
          have hc198__300 : (0 : Int32) = (0 : Int32) := by decide
          refine OGo.to (fun _ k => XS.ifNo X_272.here hx rfl (hb hby at_198) rfl ((if0 _ _).trans (teq hc198__300).2) k) ?_
          show OGo p e below _ (T_272.setTop (mkF m 201 #[.val (.int p1), .val (.int p2), .val (.int p3), .val (.int p4), .val (.int p5), .val (.int p6), .val (.int (3 : Int32)), .val (.int lx), .val (.int ya), .val (.int yb), .val (.int yc), .val (.ref b_3), .val (.ref b_239), .val (.int (0 : Int32)), .val (.int (if (0 : Int32) < ya then (1 : Int32) else (if (0 : Int32) < yb then (1 : Int32) else (if (0 : Int32) < yc then (1 : Int32) else (0 : Int32))))), .val (.int (1 : Int32))] []))
          refine OGo.to (fun _ k => XS.iload X_272.here hx rfl (hb hby at_201) rfl k) ?_
          show OGo p e below _ (T_272.setTop (mkF m 203 #[.val (.int p1), .val (.int p2), .val (.int p3), .val (.int p4), .val (.int p5), .val (.int p6), .val (.int (3 : Int32)), .val (.int lx), .val (.int ya), .val (.int yb), .val (.int yc), .val (.ref b_3), .val (.ref b_239), .val (.int (0 : Int32)), .val (.int (if (0 : Int32) < ya then (1 : Int32) else (if (0 : Int32) < yb then (1 : Int32) else (if (0 : Int32) < yc then (1 : Int32) else (0 : Int32))))), .val (.int (1 : Int32))] [(.int (if (0 : Int32) < ya then (1 : Int32) else (if (0 : Int32) < yb then (1 : Int32) else (if (0 : Int32) < yc then (1 : Int32) else (0 : Int32)))))]))
          refine OGo.to (fun _ k => XS.iload X_272.here hx rfl (hb hby at_203) rfl k) ?_
          show OGo p e below _ (T_272.setTop (mkF m 205 #[.val (.int p1), .val (.int p2), .val (.int p3), .val (.int p4), .val (.int p5), .val (.int p6), .val (.int (3 : Int32)), .val (.int lx), .val (.int ya), .val (.int yb), .val (.int yc), .val (.ref b_3), .val (.ref b_239), .val (.int (0 : Int32)), .val (.int (if (0 : Int32) < ya then (1 : Int32) else (if (0 : Int32) < yb then (1 : Int32) else (if (0 : Int32) < yc then (1 : Int32) else (0 : Int32))))), .val (.int (1 : Int32))] [(.int (1 : Int32)), (.int (if (0 : Int32) < ya then (1 : Int32) else (if (0 : Int32) < yb then (1 : Int32) else (if (0 : Int32) < yc then (1 : Int32) else (0 : Int32)))))]))
          have hc205__301 : (if (0 : Int32) < ya then (1 : Int32) else (if (0 : Int32) < yb then (1 : Int32) else (if (0 : Int32) < yc then (1 : Int32) else (0 : Int32)))) = (1 : Int32) := by rw [if_neg hc162__275, if_neg hc176__291, if_pos hc190__299]
          refine OGo.to (fun _ k => XS.icmpNo X_272.here hx rfl (hb hby at_205) rfl (teq hc205__301).2 k) ?_
          show OGo p e below _ (T_272.setTop (mkF m 208 #[.val (.int p1), .val (.int p2), .val (.int p3), .val (.int p4), .val (.int p5), .val (.int p6), .val (.int (3 : Int32)), .val (.int lx), .val (.int ya), .val (.int yb), .val (.int yc), .val (.ref b_3), .val (.ref b_239), .val (.int (0 : Int32)), .val (.int (if (0 : Int32) < ya then (1 : Int32) else (if (0 : Int32) < yb then (1 : Int32) else (if (0 : Int32) < yc then (1 : Int32) else (0 : Int32))))), .val (.int (1 : Int32))] []))
          refine OGo.to (fun _ k => XS.iconst X_272.here hx rfl (hb hby at_208) k) ?_
          show OGo p e below _ (T_272.setTop (mkF m 209 #[.val (.int p1), .val (.int p2), .val (.int p3), .val (.int p4), .val (.int p5), .val (.int p6), .val (.int (3 : Int32)), .val (.int lx), .val (.int ya), .val (.int yb), .val (.int yc), .val (.ref b_3), .val (.ref b_239), .val (.int (0 : Int32)), .val (.int (if (0 : Int32) < ya then (1 : Int32) else (if (0 : Int32) < yb then (1 : Int32) else (if (0 : Int32) < yc then (1 : Int32) else (0 : Int32))))), .val (.int (1 : Int32))] [(.int (1 : Int32))]))
          refine OGo.to (fun _ k => XS.goto X_272.here hx rfl (pc0 := 209) (pc' := 213) rfl (hb hby at_209) (by decide) (by decide) k) ?_
          show OGo p e below _ (T_272.setTop (mkF m 213 #[.val (.int p1), .val (.int p2), .val (.int p3), .val (.int p4), .val (.int p5), .val (.int p6), .val (.int (3 : Int32)), .val (.int lx), .val (.int ya), .val (.int yb), .val (.int yc), .val (.ref b_3), .val (.ref b_239), .val (.int (0 : Int32)), .val (.int (if (0 : Int32) < ya then (1 : Int32) else (if (0 : Int32) < yb then (1 : Int32) else (if (0 : Int32) < yc then (1 : Int32) else (0 : Int32))))), .val (.int (1 : Int32))] [(.int (1 : Int32))]))
          refine OGo.ret (Q := Q0 Z p1 p2 p3 p4 p5 p6 dd kd h0 n0) X_272 (some (.int (1 : Int32))) (fun h => by rw [Bd.returns] at h; cases h) Bd.notSynchronized (fun fs hr => retN X_272 hx (t := .boolean) (z := (1 : Int32)) Bd.returns (by simp) (hb hby at_213) hr) ?_ (by decide) (by decide)
          show Q0 Z p1 p2 p3 p4 p5 p6 dd kd h0 n0 _ T_272.heap _
          rw [e_272]
          exact ⟨rfl, N_272⟩
        ·  -- pc 190: no
          refine OGo.to (fun _ k => XS.ifYes X_272.here hx rfl (pc0 := 190) (pc' := 196) rfl (hb hby at_190) rfl ((if0 _ _).trans (flt hc190__299).2.2.2) (by decide) (by decide) k) ?_
          show OGo p e below _ (T_272.setTop (mkF m 196 #[.val (.int p1), .val (.int p2), .val (.int p3), .val (.int p4), .val (.int p5), .val (.int p6), .val (.int (3 : Int32)), .val (.int lx), .val (.int ya), .val (.int yb), .val (.int yc), .val (.ref b_3), .val (.ref b_239), .val (.int (0 : Int32)), .val (.int (if (0 : Int32) < ya then (1 : Int32) else (if (0 : Int32) < yb then (1 : Int32) else (if (0 : Int32) < yc then (1 : Int32) else (0 : Int32))))), .val (.int (0 : Int32))] []))
          refine OGo.to (fun _ k => XS.iload X_272.here hx rfl (hb hby at_196) rfl k) ?_
          show OGo p e below _ (T_272.setTop (mkF m 198 #[.val (.int p1), .val (.int p2), .val (.int p3), .val (.int p4), .val (.int p5), .val (.int p6), .val (.int (3 : Int32)), .val (.int lx), .val (.int ya), .val (.int yb), .val (.int yc), .val (.ref b_3), .val (.ref b_239), .val (.int (0 : Int32)), .val (.int (if (0 : Int32) < ya then (1 : Int32) else (if (0 : Int32) < yb then (1 : Int32) else (if (0 : Int32) < yc then (1 : Int32) else (0 : Int32))))), .val (.int (0 : Int32))] [(.int (0 : Int32))]))
          have hc198__302 : (0 : Int32) = (0 : Int32) := by decide
          refine OGo.to (fun _ k => XS.ifNo X_272.here hx rfl (hb hby at_198) rfl ((if0 _ _).trans (teq hc198__302).2) k) ?_
          show OGo p e below _ (T_272.setTop (mkF m 201 #[.val (.int p1), .val (.int p2), .val (.int p3), .val (.int p4), .val (.int p5), .val (.int p6), .val (.int (3 : Int32)), .val (.int lx), .val (.int ya), .val (.int yb), .val (.int yc), .val (.ref b_3), .val (.ref b_239), .val (.int (0 : Int32)), .val (.int (if (0 : Int32) < ya then (1 : Int32) else (if (0 : Int32) < yb then (1 : Int32) else (if (0 : Int32) < yc then (1 : Int32) else (0 : Int32))))), .val (.int (0 : Int32))] []))
          refine OGo.to (fun _ k => XS.iload X_272.here hx rfl (hb hby at_201) rfl k) ?_
          show OGo p e below _ (T_272.setTop (mkF m 203 #[.val (.int p1), .val (.int p2), .val (.int p3), .val (.int p4), .val (.int p5), .val (.int p6), .val (.int (3 : Int32)), .val (.int lx), .val (.int ya), .val (.int yb), .val (.int yc), .val (.ref b_3), .val (.ref b_239), .val (.int (0 : Int32)), .val (.int (if (0 : Int32) < ya then (1 : Int32) else (if (0 : Int32) < yb then (1 : Int32) else (if (0 : Int32) < yc then (1 : Int32) else (0 : Int32))))), .val (.int (0 : Int32))] [(.int (if (0 : Int32) < ya then (1 : Int32) else (if (0 : Int32) < yb then (1 : Int32) else (if (0 : Int32) < yc then (1 : Int32) else (0 : Int32)))))]))
          refine OGo.to (fun _ k => XS.iload X_272.here hx rfl (hb hby at_203) rfl k) ?_
          show OGo p e below _ (T_272.setTop (mkF m 205 #[.val (.int p1), .val (.int p2), .val (.int p3), .val (.int p4), .val (.int p5), .val (.int p6), .val (.int (3 : Int32)), .val (.int lx), .val (.int ya), .val (.int yb), .val (.int yc), .val (.ref b_3), .val (.ref b_239), .val (.int (0 : Int32)), .val (.int (if (0 : Int32) < ya then (1 : Int32) else (if (0 : Int32) < yb then (1 : Int32) else (if (0 : Int32) < yc then (1 : Int32) else (0 : Int32))))), .val (.int (0 : Int32))] [(.int (0 : Int32)), (.int (if (0 : Int32) < ya then (1 : Int32) else (if (0 : Int32) < yb then (1 : Int32) else (if (0 : Int32) < yc then (1 : Int32) else (0 : Int32)))))]))
          have hc205__303 : (if (0 : Int32) < ya then (1 : Int32) else (if (0 : Int32) < yb then (1 : Int32) else (if (0 : Int32) < yc then (1 : Int32) else (0 : Int32)))) = (0 : Int32) := by rw [if_neg hc162__275, if_neg hc176__291, if_neg hc190__299]
          refine OGo.to (fun _ k => XS.icmpNo X_272.here hx rfl (hb hby at_205) rfl (teq hc205__303).2 k) ?_
          show OGo p e below _ (T_272.setTop (mkF m 208 #[.val (.int p1), .val (.int p2), .val (.int p3), .val (.int p4), .val (.int p5), .val (.int p6), .val (.int (3 : Int32)), .val (.int lx), .val (.int ya), .val (.int yb), .val (.int yc), .val (.ref b_3), .val (.ref b_239), .val (.int (0 : Int32)), .val (.int (if (0 : Int32) < ya then (1 : Int32) else (if (0 : Int32) < yb then (1 : Int32) else (if (0 : Int32) < yc then (1 : Int32) else (0 : Int32))))), .val (.int (0 : Int32))] []))
          refine OGo.to (fun _ k => XS.iconst X_272.here hx rfl (hb hby at_208) k) ?_
          show OGo p e below _ (T_272.setTop (mkF m 209 #[.val (.int p1), .val (.int p2), .val (.int p3), .val (.int p4), .val (.int p5), .val (.int p6), .val (.int (3 : Int32)), .val (.int lx), .val (.int ya), .val (.int yb), .val (.int yc), .val (.ref b_3), .val (.ref b_239), .val (.int (0 : Int32)), .val (.int (if (0 : Int32) < ya then (1 : Int32) else (if (0 : Int32) < yb then (1 : Int32) else (if (0 : Int32) < yc then (1 : Int32) else (0 : Int32))))), .val (.int (0 : Int32))] [(.int (1 : Int32))]))
          refine OGo.to (fun _ k => XS.goto X_272.here hx rfl (pc0 := 209) (pc' := 213) rfl (hb hby at_209) (by decide) (by decide) k) ?_
          show OGo p e below _ (T_272.setTop (mkF m 213 #[.val (.int p1), .val (.int p2), .val (.int p3), .val (.int p4), .val (.int p5), .val (.int p6), .val (.int (3 : Int32)), .val (.int lx), .val (.int ya), .val (.int yb), .val (.int yc), .val (.ref b_3), .val (.ref b_239), .val (.int (0 : Int32)), .val (.int (if (0 : Int32) < ya then (1 : Int32) else (if (0 : Int32) < yb then (1 : Int32) else (if (0 : Int32) < yc then (1 : Int32) else (0 : Int32))))), .val (.int (0 : Int32))] [(.int (1 : Int32))]))
          refine OGo.ret (Q := Q0 Z p1 p2 p3 p4 p5 p6 dd kd h0 n0) X_272 (some (.int (1 : Int32))) (fun h => by rw [Bd.returns] at h; cases h) Bd.notSynchronized (fun fs hr => retN X_272 hx (t := .boolean) (z := (1 : Int32)) Bd.returns (by simp) (hb hby at_213) hr) ?_ (by decide) (by decide)
          show Q0 Z p1 p2 p3 p4 p5 p6 dd kd h0 n0 _ T_272.heap _
          rw [e_272]
          exact ⟨rfl, N_272⟩
set_option maxRecDepth 65536 in
set_option maxHeartbeats 40000000 in
theorem comes_1 {Post : Tables → Env → Array Value → State → Outcome → State → Prop} (hpost : ∀ tb e args s v u, (limb_1_1.after args s (.returned v) u = true ∧ limb_1_2.after args s (.returned v) u = true ∧ True) → FrameEnd s (.returned v) u (Jvm.fieldLocs frame_1_writes args s ++ Jvm.arrayLocs frame_1_arrays args s ++ Jvm.staticLocs frame_1_statics s) 24 192 → Post tb e args s (.returned v) u) :
    ArmFor flags0 classFile x code maxLocals ret World_1 tables_1 room_1 Calls_1 rest_1 Pre_1 Post := by
  intro l hfl _ _ p e ha hc hk s m args below hf hA hF happ hP
  obtain ⟨hcalls, hrest, hpre⟩ := hP
  obtain ⟨-, -, -, hnamed, -, -, -, hat⟩ := (Spec.applies_iff hf).mp happ
  obtain ⟨hg, hn⟩ := and_e (Cond.before_iff.mp (show (Jvm.Cond.and given_1 narrow_1).before args s = true from hpre))
  obtain ⟨g1, g2⟩ := and_e hg
  obtain ⟨g3, g4⟩ := and_e g2
  obtain ⟨g5, g6⟩ := and_e g4
  obtain ⟨g7, g8⟩ := and_e g6
  obtain ⟨g9, g10⟩ := and_e g8
  obtain ⟨g11, g12⟩ := and_e g10
  obtain ⟨w0, w1, w2, w3, w4, w5, rfl⟩ : ∃ w0 w1 w2 w3 w4 w5 : Value, args = #[w0, w1, w2, w3, w4, w5] := by
    have hs : args.size = 6 := by simpa [Cond.value, given_1] using g1
    obtain ⟨L⟩ := args
    match L, hs with
    | [w0, w1, w2, w3, w4, w5], _ => exact ⟨w0, w1, w2, w3, w4, w5, rfl⟩
  have hw := fun d (hd : d ∈ tables_1) => atoms_spec (ws := Jvm.Cond.code x code maxLocals ret :: tables_1) hat d (List.mem_cons_of_mem _ hd)
  have hfit : Fit s := fun {y c} hc i hi => by
    obtain ⟨ha, rfl⟩ := Array.getElem?_eq_some_iff.mp hc
    have q := List.all_eq_true.mp ((Array.all_eq_true_iff_forall_mem.mp hF) _ (Array.getElem_mem ha)) i (List.mem_range.mpr hi)
    simpa [Array.getElem?_eq_getElem hi] using q
  obtain ⟨hsets, hown0⟩ := atoms_of _ (rest_1_c_eq ▸ (show rest_1_c.before _ s = true from hrest))
  have hr0 := Cond.before_iff.mp hown0
  obtain ⟨i0, ei0⟩ := is_v g3
  obtain rfl : w0 = (.int i0) := Option.some.inj ei0
  obtain ⟨i1, ei1⟩ := is_v g5
  obtain rfl : w1 = (.int i1) := Option.some.inj ei1
  obtain ⟨i2, ei2⟩ := is_v g7
  obtain rfl : w2 = (.int i2) := Option.some.inj ei2
  obtain ⟨i3, ei3⟩ := is_v g9
  obtain rfl : w3 = (.int i3) := Option.some.inj ei3
  obtain ⟨i4, ei4⟩ := is_v g11
  obtain rfl : w4 = (.int i4) := Option.some.inj ei4
  obtain ⟨i5, ei5⟩ := is_v g12
  obtain rfl : w5 = (.int i5) := Option.some.inj ei5
  obtain ⟨dd, edd⟩ := arr_v (Cond.before_iff.mp (hsets _ (List.mem_of_getElem? (i := 6) rfl)))
  have S1 : Sta s s.heap "java/util/ArrayList" "DEFAULTCAPACITY_EMPTY_ELEMENTDATA" "[Ljava/lang/Object;" (.ref dd) := Sta.start edd (Or.inr ⟨hw _ (List.mem_of_getElem? (i := 3) rfl), (hsets _ (List.mem_of_getElem? (i := 2) rfl))⟩)
  obtain ⟨cl, AC⟩ := Arr.start edd (Cond.before_iff.mp (hsets _ (List.mem_of_getElem? (i := 6) rfl)))
  have VD := own_empty edd AC (hsets _ (List.mem_of_getElem? (i := 8) rfl))
  obtain ⟨n, o, h1, h2, h3, _, L, rfl, ⟨rfl, N⟩, hq⟩ := rm0 l s _ hw tables_1 i0 i1 i2 i3 i4 i5 dd cl.cls s.heap s.heap.size (Nat.le_refl _) S1 VD (Old.start s) p e ha hc hk s m _ below hf ((Spec.applies_iff_loose hf).mp happ).1 ⟨rfl, State.Warmed39.refl s, rfl⟩ trivial
  refine ⟨n, _, h1, h2, h3, hpost _ _ _ _ _ _ ⟨Cond.after_iff.mpr rfl, Cond.after_iff.mpr (eq_i res_at (Term.int_eval (1)) rfl), trivial⟩ ⟨hq.1, hq.2.1, (hq.2.2.sift fun y hy => Or.inr (N y hy)).mono (by decide) (by decide)⟩⟩
theorem main_1_1 : Claimed_1_1 := comes_1 fun _ _ _ _ _ _ h hF => ⟨h.1, hF⟩
theorem main_1_2 : Claimed_1_2 := comes_1 fun _ _ _ _ _ _ h hF => ⟨h.2.1, hF⟩
end Jvm.Pilot.@@N@@
namespace Jvm.Pilot.@@N@@
open Jvm Jvm.ClassFile Sem Op Lib Jvm.Free Jvm.Stand Jvm.Pilot.@@N@@.Jvm.D
/-! MADE BY PROGRAM (witnessworld.py) out of the Statement's table words and the real class files: 23 classes; the members and pool entries that the words name. The judged class is class 1, her method 1. -/
namespace start1
open Jvm.ClassFile
def u (s : String) : CpInfo := .utf8 (stringToUtf16 s)
/-- a pool by its gaps: so many unusable entries, then the entry; so many at the end -/
def gap : Nat → List CpInfo → List CpInfo
  | 0, r => r
  | n + 1, r => .unusable :: gap n r
def poolList (es : List (Nat × CpInfo)) (last : Nat) : List CpInfo := es.foldr (fun e r => gap e.1 (e.2 :: r)) (gap last [])
def pool (es : List (Nat × CpInfo)) (last : Nat) : Array CpInfo := ⟨poolList es last⟩
def fileOf (pool : Array CpInfo) (this : Nat) (attrs : Array Attribute := #[]) (ms : Array MethodInfo := #[]) (fl : Nat := 33) (sup : Nat := 0) (ifs : Array Nat := #[]) (fds : Array FieldInfo := #[]) : ClassFile where
  minorVersion := 0
  majorVersion := 65
  constantPool := pool
  accessFlags := fl
  thisClass := this
  superClass := sup
  interfaces := ifs
  fields := fds
  methods := ms
  attributes := attrs
def plain (name : String) (sup : Option ClassId) : Class where
  name := name
  kind := .ordinary
  loader := none
  accessFlags := 33
  super := sup
  interfaces := #[]
  cf := none
  fields := #[]
  methods := #[]
  instanceTypes := #[]
  staticTypes := #[]
  resolved := #[]
  callSites := []
  init := .initialized
  statics := none
  mirror := none

def pool0 : Array CpInfo := pool [(5, u "<init>"), (0, u "()V"), (1, .class_ 10), (1, u "java/lang/Object")] 113

def k0c0 : Code := { maxStack := 0, maxLocals := 1, code := object_method_1_code, exceptionTable := #[], attributes := #[] }
def k0m0 : Method := { name := "<init>", desc := "()V", sig := { parameters := [], returnType := none }, accessFlags := 1, code := some k0c0 }
/-- java/lang/Object -/
def k0 : Class := { plain "java/lang/Object" none with
  accessFlags := 33
  interfaces := #[]
  cf := some (fileOf pool0 8 #[] #[{ accessFlags := 1, nameIndex := 5, descriptorIndex := 6, attributes := #[] }] 33 0 #[] #[])
  fields := #[]
  methods := #[k0m0]
  instanceTypes := #[]
  staticTypes := #[]
  resolved := Array.replicate 124 none
  statics := none }

def pool1 : Array CpInfo := pool [(2, .class_ 4), (0, .nameAndType 5 6), (0, u "java/lang/Object"), (0, u "<init>"), (0, u "()V"), (0, .integer 2147483647), (0, .class_ 9), (0, u "java/util/ArrayList"), (0, .methodref 8 3), (0, .class_ 12), (0, u "com/example/dromos/dromos/model/Module$Signature"), (0, .methodref 11 14), (0, .nameAndType 5 15), (0, u "(Lcom/example/dromos/dromos/model/Identifier;I)V"), (0, .methodref 8 17), (0, .nameAndType 18 19), (0, u "add"), (0, u "(Ljava/lang/Object;)Z"), (0, .class_ 21), (0, u "com/example/dromos/dromos/service/Definition"), (0, .methodref 20 23), (0, .nameAndType 5 24), (0, u "(Ljava/lang/String;IILcom/example/dromos/dromos/model/Location;Z)V"), (0, .methodref 20 26), (0, .nameAndType 27 28), (0, u "takesOperators"), (0, u "()Z"), (0, .methodref 20 30), (0, .nameAndType 31 32), (0, u "takes"), (0, u "(Ljava/util/List;)V"), (0, .class_ 34), (0, u "com/example/dromos/dromos/service/DefinitionTakesOperatorsPinLaw"), (2, u "law"), (0, u "(IIIIII)Z")] 7

def k1m0 : Method := { name := "<init>", desc := "()V", sig := { parameters := [], returnType := none }, accessFlags := 2, code := none }
def k1c1 : Code := { maxStack := 7, maxLocals := 16, code := code, exceptionTable := #[], attributes := #[] }
def k1m1 : Method := { name := "law", desc := "(IIIIII)Z", sig := { parameters := [.int, .int, .int, .int, .int, .int], returnType := some .boolean }, accessFlags := 9, code := some k1c1 }
/-- com/example/dromos/dromos/service/DefinitionTakesOperatorsPinLaw -/
def k1 : Class := { plain "com/example/dromos/dromos/service/DefinitionTakesOperatorsPinLaw" (some 0) with
  accessFlags := 49
  interfaces := #[]
  cf := some (fileOf pool1 33 #[] #[{ accessFlags := 2, nameIndex := 5, descriptorIndex := 6, attributes := #[] }, { accessFlags := 9, nameIndex := 37, descriptorIndex := 38, attributes := #[] }] 49 2 #[] #[])
  fields := #[]
  methods := #[k1m0, k1m1]
  instanceTypes := #[]
  staticTypes := #[]
  resolved := Array.replicate 46 none
  statics := none }

def pool2 : Array CpInfo := pool [(8, .class_ 10), (1, u "java/lang/Iterable"), (24, .class_ 36), (0, u "java/lang/Object")] 25

/-- java/lang/Iterable -/
def k2 : Class := { plain "java/lang/Iterable" (some 0) with
  accessFlags := 1537
  interfaces := #[]
  cf := some (fileOf pool2 8 #[] #[] 1537 35 #[] #[])
  fields := #[]
  methods := #[]
  instanceTypes := #[]
  staticTypes := #[]
  resolved := Array.replicate 62 none
  statics := none }

def pool3 : Array CpInfo := pool [(10, .class_ 12), (1, u "java/util/Collection"), (47, .class_ 61), (0, u "java/lang/Object"), (0, .class_ 63), (0, u "java/lang/Iterable")] 51

/-- java/util/Collection -/
def k3 : Class := { plain "java/util/Collection" (some 0) with
  accessFlags := 1537
  interfaces := #[2]
  cf := some (fileOf pool3 10 #[] #[] 1537 60 #[62] #[])
  fields := #[]
  methods := #[]
  instanceTypes := #[]
  staticTypes := #[]
  resolved := Array.replicate 115 none
  statics := none }

def pool4 : Array CpInfo := pool [(1, .methodref 2 3), (0, .class_ 4), (0, .nameAndType 5 6), (0, u "java/lang/Object"), (0, u "<init>"), (0, u "()V"), (1, .class_ 10), (1, u "java/util/AbstractCollection"), (66, .class_ 78), (0, u "java/util/Collection")] 81

def k4c0 : Code := { maxStack := 1, maxLocals := 1, code := jdk_22_method_1_code, exceptionTable := #[], attributes := #[] }
def k4m0 : Method := { name := "<init>", desc := "()V", sig := { parameters := [], returnType := none }, accessFlags := 4, code := some k4c0 }
/-- java/util/AbstractCollection -/
def k4 : Class := { plain "java/util/AbstractCollection" (some 0) with
  accessFlags := 1057
  interfaces := #[3]
  cf := some (fileOf pool4 8 #[] #[{ accessFlags := 4, nameIndex := 5, descriptorIndex := 6, attributes := #[] }] 1057 2 #[77] #[])
  fields := #[]
  methods := #[k4m0]
  instanceTypes := #[]
  staticTypes := #[]
  resolved := Array.replicate 160 none
  statics := none }

def pool5 : Array CpInfo := pool [(8, .class_ 10), (1, u "java/util/SequencedCollection"), (15, .class_ 27), (0, u "java/lang/Object"), (0, .class_ 29), (0, u "java/util/Collection")] 27

/-- java/util/SequencedCollection -/
def k5 : Class := { plain "java/util/SequencedCollection" (some 0) with
  accessFlags := 1537
  interfaces := #[3]
  cf := some (fileOf pool5 8 #[] #[] 1537 26 #[28] #[])
  fields := #[]
  methods := #[]
  instanceTypes := #[]
  staticTypes := #[]
  resolved := Array.replicate 57 none
  statics := none }

def pool6 : Array CpInfo := pool [(8, .class_ 10), (1, u "java/util/List"), (64, u "get"), (0, u "(I)Ljava/lang/Object;"), (2, u "size"), (0, u "()I"), (22, .class_ 104), (0, u "java/lang/Object"), (15, .class_ 121), (0, u "java/util/SequencedCollection")] 129

def k6m0 : Method := { name := "size", desc := "()I", sig := { parameters := [], returnType := some .int }, accessFlags := 1025, code := none }
def k6m1 : Method := { name := "get", desc := "(I)Ljava/lang/Object;", sig := { parameters := [.int], returnType := some (.object "java/lang/Object") }, accessFlags := 1025, code := none }
/-- java/util/List -/
def k6 : Class := { plain "java/util/List" (some 0) with
  accessFlags := 1537
  interfaces := #[5]
  cf := some (fileOf pool6 8 #[] #[{ accessFlags := 1025, nameIndex := 79, descriptorIndex := 80, attributes := #[] }, { accessFlags := 1025, nameIndex := 75, descriptorIndex := 76, attributes := #[] }] 1537 103 #[120] #[])
  fields := #[]
  methods := #[k6m0, k6m1]
  instanceTypes := #[]
  staticTypes := #[]
  resolved := Array.replicate 251 none
  statics := none }

def pool7 : Array CpInfo := pool [(1, .methodref 2 3), (0, .class_ 4), (0, .nameAndType 5 6), (0, u "java/util/AbstractCollection"), (0, u "<init>"), (0, u "()V"), (0, .fieldref 8 9), (0, .class_ 10), (0, .nameAndType 11 12), (0, u "java/util/AbstractList"), (0, u "modCount"), (0, u "I"), (64, .class_ 78), (0, u "java/util/AbstractList$Itr"), (3, .class_ 83), (0, u "java/util/AbstractList$ListItr"), (9, .class_ 94), (0, u "java/util/AbstractList$RandomAccessSubList"), (3, .class_ 99), (0, u "java/util/AbstractList$SubList"), (33, .class_ 134), (0, u "java/util/List"), (73, .class_ 209), (0, u "java/util/AbstractList$SubList$1"), (0, .class_ 211), (0, u "java/util/AbstractList$RandomAccessSpliterator")] 6

def k7c0 : Code := { maxStack := 2, maxLocals := 1, code := jdk_39_method_1_code, exceptionTable := #[], attributes := #[] }
def k7m0 : Method := { name := "<init>", desc := "()V", sig := { parameters := [], returnType := none }, accessFlags := 4, code := some k7c0 }
/-- java/util/AbstractList -/
def k7 : Class := { plain "java/util/AbstractList" (some 4) with
  accessFlags := 1057
  interfaces := #[6]
  cf := some (fileOf pool7 8 #[.nestMembers #[93, 98, 208, 210, 82, 77]] #[{ accessFlags := 4, nameIndex := 5, descriptorIndex := 6, attributes := #[] }] 1057 2 #[133] #[{ accessFlags := 132, nameIndex := 11, descriptorIndex := 12, attributes := #[] }])
  fields := #[{ name := "modCount", type := .int, accessFlags := 132, slot := 0, constantValue := 0 }]
  methods := #[k7m0]
  instanceTypes := #[.int]
  staticTypes := #[]
  resolved := Array.replicate 218 none
  statics := none }

def pool8 : Array CpInfo := pool [(1, .class_ 2), (0, u "java/util/RandomAccess"), (0, .class_ 4), (0, u "java/lang/Object")] 2

/-- java/util/RandomAccess -/
def k8 : Class := { plain "java/util/RandomAccess" (some 0) with
  accessFlags := 1537
  interfaces := #[]
  cf := some (fileOf pool8 1 #[] #[] 1537 3 #[] #[])
  fields := #[]
  methods := #[]
  instanceTypes := #[]
  staticTypes := #[]
  resolved := Array.replicate 7 none
  statics := none }

def pool9 : Array CpInfo := pool [(1, .class_ 2), (0, u "java/lang/Cloneable"), (0, .class_ 4), (0, u "java/lang/Object")] 2

/-- java/lang/Cloneable -/
def k9 : Class := { plain "java/lang/Cloneable" (some 0) with
  accessFlags := 1537
  interfaces := #[]
  cf := some (fileOf pool9 1 #[] #[] 1537 3 #[] #[])
  fields := #[]
  methods := #[]
  instanceTypes := #[]
  staticTypes := #[]
  resolved := Array.replicate 7 none
  statics := none }

def pool10 : Array CpInfo := pool [(1, .class_ 2), (0, u "java/io/Serializable"), (0, .class_ 4), (0, u "java/lang/Object")] 2

/-- java/io/Serializable -/
def k10 : Class := { plain "java/io/Serializable" (some 0) with
  accessFlags := 1537
  interfaces := #[]
  cf := some (fileOf pool10 1 #[] #[] 1537 3 #[] #[])
  fields := #[]
  methods := #[]
  instanceTypes := #[]
  staticTypes := #[]
  resolved := Array.replicate 7 none
  statics := none }

def pool11 : Array CpInfo := pool [(1, .methodref 2 3), (0, .class_ 4), (0, .nameAndType 5 6), (0, u "java/util/AbstractList"), (0, u "<init>"), (0, u "()V"), (0, .class_ 8), (0, u "java/lang/Object"), (0, .fieldref 10 11), (0, .class_ 12), (0, .nameAndType 13 14), (0, u "java/util/ArrayList"), (0, u "elementData"), (0, u "[Ljava/lang/Object;"), (2, u "EMPTY_ELEMENTDATA"), (21, .fieldref 10 40), (0, .nameAndType 41 14), (0, u "DEFAULTCAPACITY_EMPTY_ELEMENTDATA"), (5, u "()[Ljava/lang/Object;"), (0, .fieldref 10 49), (0, .nameAndType 50 51), (0, u "size"), (0, u "I"), (11, .fieldref 10 64), (0, .nameAndType 65 51), (0, u "modCount"), (3, .methodref 10 70), (0, .nameAndType 71 72), (0, u "grow"), (0, u "(I)[Ljava/lang/Object;"), (6, .methodref 80 81), (0, .class_ 82), (0, .nameAndType 83 84), (0, u "java/lang/Math"), (0, u "max"), (0, u "(II)I"), (11, u "(Ljava/lang/Object;)Z"), (21, .methodref 119 120), (0, .class_ 121), (0, .nameAndType 122 84), (0, u "java/util/Objects"), (0, u "checkIndex"), (0, .methodref 10 124), (0, .nameAndType 13 125), (0, u "(I)Ljava/lang/Object;"), (3, .methodref 10 130), (0, .nameAndType 71 47), (0, .methodref 10 132), (0, .nameAndType 133 134), (0, u "add"), (0, u "(Ljava/lang/Object;[Ljava/lang/Object;I)V"), (13, .class_ 149), (0, u "java/util/List"), (36, u "()I"), (75, .class_ 263), (0, u "java/util/ArrayList$ListItr"), (3, .class_ 268), (0, u "java/util/ArrayList$Itr"), (7, .class_ 277), (0, u "java/util/ArrayList$SubList"), (12, .class_ 291), (0, u "java/util/ArrayList$ArrayListSpliterator"), (37, .class_ 330), (0, u "java/util/RandomAccess"), (0, .class_ 332), (0, u "java/lang/Cloneable"), (0, .class_ 334), (0, u "java/io/Serializable"), (0, u "serialVersionUID"), (0, u "J"), (3, u "DEFAULT_CAPACITY"), (40, u "get"), (118, .class_ 501), (0, u "java/util/ArrayList$SubList$2"), (0, .class_ 503), (0, u "java/util/ArrayList$SubList$1")] 5

def k11c0 : Code := { maxStack := 2, maxLocals := 1, code := jdk_38_method_2_code, exceptionTable := #[], attributes := #[] }
def k11m0 : Method := { name := "<init>", desc := "()V", sig := { parameters := [], returnType := none }, accessFlags := 1, code := some k11c0 }
def k11c1 : Code := { maxStack := 4, maxLocals := 4, code := jdk_38_method_6_code, exceptionTable := #[], attributes := #[] }
def k11m1 : Method := { name := "grow", desc := "(I)[Ljava/lang/Object;", sig := { parameters := [.int], returnType := some (.array (.object "java/lang/Object")) }, accessFlags := 2, code := some k11c1 }
def k11c2 : Code := { maxStack := 3, maxLocals := 1, code := jdk_38_method_7_code, exceptionTable := #[], attributes := #[] }
def k11m2 : Method := { name := "grow", desc := "()[Ljava/lang/Object;", sig := { parameters := [], returnType := some (.array (.object "java/lang/Object")) }, accessFlags := 2, code := some k11c2 }
def k11c3 : Code := { maxStack := 1, maxLocals := 1, code := jdk_38_method_8_code, exceptionTable := #[], attributes := #[] }
def k11m3 : Method := { name := "size", desc := "()I", sig := { parameters := [], returnType := some .int }, accessFlags := 1, code := some k11c3 }
def k11c4 : Code := { maxStack := 2, maxLocals := 2, code := jdk_38_method_18_code, exceptionTable := #[], attributes := #[] }
def k11m4 : Method := { name := "elementData", desc := "(I)Ljava/lang/Object;", sig := { parameters := [.int], returnType := some (.object "java/lang/Object") }, accessFlags := 0, code := some k11c4 }
def k11c5 : Code := { maxStack := 2, maxLocals := 2, code := jdk_38_method_20_code, exceptionTable := #[], attributes := #[] }
def k11m5 : Method := { name := "get", desc := "(I)Ljava/lang/Object;", sig := { parameters := [.int], returnType := some (.object "java/lang/Object") }, accessFlags := 1, code := some k11c5 }
def k11c6 : Code := { maxStack := 3, maxLocals := 4, code := jdk_38_method_24_code, exceptionTable := #[], attributes := #[] }
def k11m6 : Method := { name := "add", desc := "(Ljava/lang/Object;[Ljava/lang/Object;I)V", sig := { parameters := [(.object "java/lang/Object"), (.array (.object "java/lang/Object")), .int], returnType := none }, accessFlags := 2, code := some k11c6 }
def k11c7 : Code := { maxStack := 4, maxLocals := 2, code := jdk_38_method_25_code, exceptionTable := #[], attributes := #[] }
def k11m7 : Method := { name := "add", desc := "(Ljava/lang/Object;)Z", sig := { parameters := [(.object "java/lang/Object")], returnType := some .boolean }, accessFlags := 1, code := some k11c7 }
/-- java/util/ArrayList -/
def k11 : Class := { plain "java/util/ArrayList" (some 7) with
  accessFlags := 33
  interfaces := #[6, 8, 9, 10]
  cf := some (fileOf pool11 10 #[.nestMembers #[290, 276, 500, 502, 262, 267]] #[{ accessFlags := 1, nameIndex := 5, descriptorIndex := 6, attributes := #[] }, { accessFlags := 2, nameIndex := 71, descriptorIndex := 72, attributes := #[] }, { accessFlags := 2, nameIndex := 71, descriptorIndex := 47, attributes := #[] }, { accessFlags := 1, nameIndex := 50, descriptorIndex := 186, attributes := #[] }, { accessFlags := 0, nameIndex := 13, descriptorIndex := 125, attributes := #[] }, { accessFlags := 1, nameIndex := 381, descriptorIndex := 125, attributes := #[] }, { accessFlags := 2, nameIndex := 133, descriptorIndex := 134, attributes := #[] }, { accessFlags := 1, nameIndex := 133, descriptorIndex := 96, attributes := #[] }] 33 2 #[148, 329, 331, 333] #[{ accessFlags := 26, nameIndex := 335, descriptorIndex := 336, attributes := #[] }, { accessFlags := 26, nameIndex := 340, descriptorIndex := 51, attributes := #[] }, { accessFlags := 26, nameIndex := 17, descriptorIndex := 14, attributes := #[] }, { accessFlags := 26, nameIndex := 41, descriptorIndex := 14, attributes := #[] }, { accessFlags := 128, nameIndex := 13, descriptorIndex := 14, attributes := #[] }, { accessFlags := 2, nameIndex := 50, descriptorIndex := 51, attributes := #[] }])
  fields := #[{ name := "serialVersionUID", type := .long, accessFlags := 26, slot := 0, constantValue := 0 }, { name := "DEFAULT_CAPACITY", type := .int, accessFlags := 26, slot := 1, constantValue := 0 }, { name := "EMPTY_ELEMENTDATA", type := (.array (.object "java/lang/Object")), accessFlags := 26, slot := 2, constantValue := 0 }, { name := "DEFAULTCAPACITY_EMPTY_ELEMENTDATA", type := (.array (.object "java/lang/Object")), accessFlags := 26, slot := 3, constantValue := 0 }, { name := "elementData", type := (.array (.object "java/lang/Object")), accessFlags := 128, slot := 1, constantValue := 0 }, { name := "size", type := .int, accessFlags := 2, slot := 2, constantValue := 0 }]
  methods := #[k11m0, k11m1, k11m2, k11m3, k11m4, k11m5, k11m6, k11m7]
  instanceTypes := #[.int, (.array (.object "java/lang/Object")), .int]
  staticTypes := #[.long, .int, (.array (.object "java/lang/Object")), (.array (.object "java/lang/Object"))]
  resolved := Array.replicate 509 none
  statics := some 0 }

def pool12 : Array CpInfo := pool [(1, .methodref 2 3), (0, .class_ 4), (0, .nameAndType 5 6), (0, u "java/lang/Object"), (0, u "<init>"), (0, u "()V"), (0, .class_ 8), (0, u "java/lang/Record")] 13

def k12c0 : Code := { maxStack := 1, maxLocals := 1, code := jdk_30_method_1_code, exceptionTable := #[], attributes := #[] }
def k12m0 : Method := { name := "<init>", desc := "()V", sig := { parameters := [], returnType := none }, accessFlags := 4, code := some k12c0 }
/-- java/lang/Record -/
def k12 : Class := { plain "java/lang/Record" (some 0) with
  accessFlags := 1057
  interfaces := #[]
  cf := some (fileOf pool12 7 #[] #[{ accessFlags := 4, nameIndex := 5, descriptorIndex := 6, attributes := #[] }] 1057 2 #[] #[])
  fields := #[]
  methods := #[k12m0]
  instanceTypes := #[]
  staticTypes := #[]
  resolved := Array.replicate 22 none
  statics := none }

def pool13 : Array CpInfo := pool [(1, .methodref 2 3), (0, .class_ 4), (0, .nameAndType 5 6), (0, u "java/lang/Record"), (0, u "<init>"), (0, u "()V"), (0, .fieldref 8 9), (0, .class_ 10), (0, .nameAndType 11 12), (0, u "com/example/dromos/dromos/model/Module$Signature"), (0, u "name"), (0, u "Lcom/example/dromos/dromos/model/Identifier;"), (0, .fieldref 8 14), (0, .nameAndType 15 16), (0, u "arity"), (0, u "I"), (12, u "(Lcom/example/dromos/dromos/model/Identifier;I)V"), (4, u "()I"), (5, .class_ 41), (0, u "com/example/dromos/dromos/model/Module")] 20

def k13c0 : Code := { maxStack := 2, maxLocals := 3, code := prog_116_method_1_code, exceptionTable := #[], attributes := #[] }
def k13m0 : Method := { name := "<init>", desc := "(Lcom/example/dromos/dromos/model/Identifier;I)V", sig := { parameters := [(.object "com/example/dromos/dromos/model/Identifier"), .int], returnType := none }, accessFlags := 1, code := some k13c0 }
def k13c1 : Code := { maxStack := 1, maxLocals := 1, code := prog_116_method_6_code, exceptionTable := #[], attributes := #[] }
def k13m1 : Method := { name := "arity", desc := "()I", sig := { parameters := [], returnType := some .int }, accessFlags := 1, code := some k13c1 }
/-- com/example/dromos/dromos/model/Module$Signature -/
def k13 : Class := { plain "com/example/dromos/dromos/model/Module$Signature" (some 12) with
  accessFlags := 49
  interfaces := #[]
  cf := some (fileOf pool13 8 #[.nestHost 40] #[{ accessFlags := 1, nameIndex := 5, descriptorIndex := 29, attributes := #[] }, { accessFlags := 1, nameIndex := 15, descriptorIndex := 34, attributes := #[] }] 49 2 #[] #[{ accessFlags := 18, nameIndex := 11, descriptorIndex := 12, attributes := #[] }, { accessFlags := 18, nameIndex := 15, descriptorIndex := 16, attributes := #[] }])
  fields := #[{ name := "name", type := (.object "com/example/dromos/dromos/model/Identifier"), accessFlags := 18, slot := 0, constantValue := 0 }, { name := "arity", type := .int, accessFlags := 18, slot := 1, constantValue := 0 }]
  methods := #[k13m0, k13m1]
  instanceTypes := #[(.object "com/example/dromos/dromos/model/Identifier"), .int]
  staticTypes := #[]
  resolved := Array.replicate 62 none
  statics := none }

def pool14 : Array CpInfo := pool [(1, .class_ 2), (0, u "java/lang/Math"), (1, .class_ 6), (1, u "java/lang/Object"), (0, u "<init>"), (0, u "()V"), (89, .class_ 100), (1, u "java/lang/Math$RandomNumberGeneratorHolder"), (71, u "negativeZeroFloatBits"), (0, u "J"), (2, u "negativeZeroDoubleBits"), (21, u "max"), (46, u "$assertionsDisabled"), (0, u "Z"), (88, u "(II)I"), (2, u "twoToTheDoubleScaleDown"), (0, u "D"), (4, u "twoToTheDoubleScaleUp"), (9, u "E"), (3, u "PI"), (2, u "TAU"), (2, u "DEGREES_TO_RADIANS"), (0, u "RADIANS_TO_DEGREES")] 94

def k14m0 : Method := { name := "<init>", desc := "()V", sig := { parameters := [], returnType := none }, accessFlags := 2, code := none }
def k14c1 : Code := { maxStack := 2, maxLocals := 2, code := jdk_29_method_65_code, exceptionTable := #[], attributes := #[] }
def k14m1 : Method := { name := "max", desc := "(II)I", sig := { parameters := [.int, .int], returnType := some .int }, accessFlags := 9, code := some k14c1 }
/-- java/lang/Math -/
def k14 : Class := { plain "java/lang/Math" (some 0) with
  accessFlags := 49
  interfaces := #[]
  cf := some (fileOf pool14 1 #[.nestMembers #[98]] #[{ accessFlags := 2, nameIndex := 7, descriptorIndex := 8, attributes := #[] }, { accessFlags := 9, nameIndex := 198, descriptorIndex := 335, attributes := #[] }] 49 4 #[] #[{ accessFlags := 25, nameIndex := 354, descriptorIndex := 339, attributes := #[] }, { accessFlags := 25, nameIndex := 358, descriptorIndex := 339, attributes := #[] }, { accessFlags := 25, nameIndex := 361, descriptorIndex := 339, attributes := #[] }, { accessFlags := 26, nameIndex := 364, descriptorIndex := 339, attributes := #[] }, { accessFlags := 26, nameIndex := 365, descriptorIndex := 339, attributes := #[] }, { accessFlags := 26, nameIndex := 172, descriptorIndex := 173, attributes := #[] }, { accessFlags := 26, nameIndex := 176, descriptorIndex := 173, attributes := #[] }, { accessFlags := 8, nameIndex := 344, descriptorIndex := 339, attributes := #[] }, { accessFlags := 8, nameIndex := 338, descriptorIndex := 339, attributes := #[] }, { accessFlags := 4120, nameIndex := 245, descriptorIndex := 246, attributes := #[] }])
  fields := #[{ name := "E", type := .double, accessFlags := 25, slot := 0, constantValue := 0 }, { name := "PI", type := .double, accessFlags := 25, slot := 1, constantValue := 0 }, { name := "TAU", type := .double, accessFlags := 25, slot := 2, constantValue := 0 }, { name := "DEGREES_TO_RADIANS", type := .double, accessFlags := 26, slot := 3, constantValue := 0 }, { name := "RADIANS_TO_DEGREES", type := .double, accessFlags := 26, slot := 4, constantValue := 0 }, { name := "negativeZeroFloatBits", type := .long, accessFlags := 26, slot := 5, constantValue := 0 }, { name := "negativeZeroDoubleBits", type := .long, accessFlags := 26, slot := 6, constantValue := 0 }, { name := "twoToTheDoubleScaleUp", type := .double, accessFlags := 8, slot := 7, constantValue := 0 }, { name := "twoToTheDoubleScaleDown", type := .double, accessFlags := 8, slot := 8, constantValue := 0 }, { name := "$assertionsDisabled", type := .boolean, accessFlags := 4120, slot := 9, constantValue := 0 }]
  methods := #[k14m0, k14m1]
  instanceTypes := #[]
  staticTypes := #[.double, .double, .double, .double, .double, .long, .long, .double, .double, .boolean]
  resolved := Array.replicate 460 none
  statics := none }

def pool15 : Array CpInfo := pool [(2, .class_ 4), (1, u "com/example/dromos/dromos/service/Definition"), (0, u "<init>"), (0, u "(Ljava/lang/String;IILcom/example/dromos/dromos/model/Location;Z)V"), (0, .methodref 8 9), (0, .class_ 10), (0, .nameAndType 5 11), (0, u "java/lang/Object"), (0, u "()V"), (0, .fieldref 2 13), (0, .nameAndType 14 15), (0, u "bound"), (0, u "I"), (0, .fieldref 2 17), (0, .nameAndType 18 15), (0, u "free"), (0, .fieldref 2 20), (0, .nameAndType 21 22), (0, u "operators"), (0, u "[I"), (0, .fieldref 2 24), (0, .nameAndType 25 26), (0, u "name"), (0, u "Ljava/lang/String;"), (0, .fieldref 2 28), (0, .nameAndType 29 15), (0, u "arity"), (0, .fieldref 2 31), (0, .nameAndType 32 15), (0, u "hidden"), (0, .fieldref 2 34), (0, .nameAndType 35 36), (0, u "at"), (0, u "Lcom/example/dromos/dromos/model/Location;"), (0, .fieldref 2 38), (0, .nameAndType 39 40), (0, u "lexical"), (0, u "Z"), (2, u "body"), (0, u "Lcom/example/dromos/dromos/service/Node;"), (2, u "slots"), (0, .interfaceMethodref 49 50), (0, .class_ 51), (0, .nameAndType 52 53), (0, u "java/util/List"), (0, u "size"), (0, u "()I"), (0, .interfaceMethodref 49 55), (0, .nameAndType 56 57), (0, u "get"), (0, u "(I)Ljava/lang/Object;"), (0, .class_ 59), (0, u "com/example/dromos/dromos/model/Module$Signature"), (0, .methodref 58 61), (0, .nameAndType 29 53), (2, u "results"), (0, u "Ljava/util/Map;"), (16, u "recursive"), (2, u "replacesVariable"), (0, u "source"), (0, u "Lcom/example/dromos/dromos/service/Definition$Source;"), (0, u "value"), (0, u "Lcom/example/dromos/dromos/model/Value;"), (7, u "takes"), (0, u "(Ljava/util/List;)V"), (4, u "takesOperators"), (0, u "()Z"), (13, .class_ 119), (0, u "com/example/dromos/dromos/service/Definition$Source")] 4

def k15c0 : Code := { maxStack := 2, maxLocals := 6, code := prog_165_method_2_code, exceptionTable := #[], attributes := #[] }
def k15m0 : Method := { name := "<init>", desc := "(Ljava/lang/String;IILcom/example/dromos/dromos/model/Location;Z)V", sig := { parameters := [(.object "java/lang/String"), .int, .int, (.object "com/example/dromos/dromos/model/Location"), .boolean], returnType := none }, accessFlags := 0, code := some k15c0 }
def k15c1 : Code := { maxStack := 4, maxLocals := 3, code := prog_165_method_4_code, exceptionTable := #[], attributes := #[] }
def k15m1 : Method := { name := "takes", desc := "(Ljava/util/List;)V", sig := { parameters := [(.object "java/util/List")], returnType := none }, accessFlags := 0, code := some k15c1 }
def k15c2 : Code := { maxStack := 2, maxLocals := 5, code := prog_165_method_6_code, exceptionTable := #[], attributes := #[] }
def k15m2 : Method := { name := "takesOperators", desc := "()Z", sig := { parameters := [], returnType := some .boolean }, accessFlags := 0, code := some k15c2 }
/-- com/example/dromos/dromos/service/Definition -/
def k15 : Class := { plain "com/example/dromos/dromos/service/Definition" (some 0) with
  accessFlags := 48
  interfaces := #[]
  cf := some (fileOf pool15 2 #[.nestMembers #[118]] #[{ accessFlags := 0, nameIndex := 5, descriptorIndex := 6, attributes := #[] }, { accessFlags := 0, nameIndex := 97, descriptorIndex := 98, attributes := #[] }, { accessFlags := 0, nameIndex := 103, descriptorIndex := 104, attributes := #[] }] 48 8 #[] #[{ accessFlags := 16, nameIndex := 25, descriptorIndex := 26, attributes := #[] }, { accessFlags := 16, nameIndex := 29, descriptorIndex := 15, attributes := #[] }, { accessFlags := 16, nameIndex := 32, descriptorIndex := 15, attributes := #[] }, { accessFlags := 16, nameIndex := 35, descriptorIndex := 36, attributes := #[] }, { accessFlags := 16, nameIndex := 39, descriptorIndex := 40, attributes := #[] }, { accessFlags := 0, nameIndex := 43, descriptorIndex := 44, attributes := #[] }, { accessFlags := 0, nameIndex := 47, descriptorIndex := 15, attributes := #[] }, { accessFlags := 0, nameIndex := 82, descriptorIndex := 40, attributes := #[] }, { accessFlags := 0, nameIndex := 86, descriptorIndex := 87, attributes := #[] }, { accessFlags := 0, nameIndex := 14, descriptorIndex := 15, attributes := #[] }, { accessFlags := 0, nameIndex := 85, descriptorIndex := 40, attributes := #[] }, { accessFlags := 0, nameIndex := 88, descriptorIndex := 89, attributes := #[] }, { accessFlags := 0, nameIndex := 18, descriptorIndex := 15, attributes := #[] }, { accessFlags := 2, nameIndex := 21, descriptorIndex := 22, attributes := #[] }, { accessFlags := 66, nameIndex := 64, descriptorIndex := 65, attributes := #[] }])
  fields := #[{ name := "name", type := (.object "java/lang/String"), accessFlags := 16, slot := 0, constantValue := 0 }, { name := "arity", type := .int, accessFlags := 16, slot := 1, constantValue := 0 }, { name := "hidden", type := .int, accessFlags := 16, slot := 2, constantValue := 0 }, { name := "at", type := (.object "com/example/dromos/dromos/model/Location"), accessFlags := 16, slot := 3, constantValue := 0 }, { name := "lexical", type := .boolean, accessFlags := 16, slot := 4, constantValue := 0 }, { name := "body", type := (.object "com/example/dromos/dromos/service/Node"), accessFlags := 0, slot := 5, constantValue := 0 }, { name := "slots", type := .int, accessFlags := 0, slot := 6, constantValue := 0 }, { name := "recursive", type := .boolean, accessFlags := 0, slot := 7, constantValue := 0 }, { name := "source", type := (.object "com/example/dromos/dromos/service/Definition$Source"), accessFlags := 0, slot := 8, constantValue := 0 }, { name := "bound", type := .int, accessFlags := 0, slot := 9, constantValue := 0 }, { name := "replacesVariable", type := .boolean, accessFlags := 0, slot := 10, constantValue := 0 }, { name := "value", type := (.object "com/example/dromos/dromos/model/Value"), accessFlags := 0, slot := 11, constantValue := 0 }, { name := "free", type := .int, accessFlags := 0, slot := 12, constantValue := 0 }, { name := "operators", type := (.array .int), accessFlags := 2, slot := 13, constantValue := 0 }, { name := "results", type := (.object "java/util/Map"), accessFlags := 66, slot := 14, constantValue := 0 }]
  methods := #[k15m0, k15m1, k15m2]
  instanceTypes := #[(.object "java/lang/String"), .int, .int, (.object "com/example/dromos/dromos/model/Location"), .boolean, (.object "com/example/dromos/dromos/service/Node"), .int, .boolean, (.object "com/example/dromos/dromos/service/Definition$Source"), .int, .boolean, (.object "com/example/dromos/dromos/model/Value"), .int, (.array .int), (.object "java/util/Map")]
  staticTypes := #[]
  resolved := Array.replicate 124 none
  statics := none }

def pool16 : Array CpInfo := pool [(2, .class_ 4), (1, u "java/lang/Object"), (0, u "<init>"), (0, u "()V"), (35, .class_ 44), (1, u "java/util/Objects"), (60, .methodref 106 107), (0, .class_ 108), (0, .nameAndType 109 110), (0, u "jdk/internal/util/Preconditions"), (0, u "checkIndex"), (0, u "(IILjava/util/function/BiFunction;)I"), (60, u "(II)I")] 12

def k16m0 : Method := { name := "<init>", desc := "()V", sig := { parameters := [], returnType := none }, accessFlags := 2, code := none }
def k16c1 : Code := { maxStack := 3, maxLocals := 2, code := jdk_31_method_17_code, exceptionTable := #[], attributes := #[] }
def k16m1 : Method := { name := "checkIndex", desc := "(II)I", sig := { parameters := [.int, .int], returnType := some .int }, accessFlags := 9, code := some k16c1 }
/-- java/util/Objects -/
def k16 : Class := { plain "java/util/Objects" (some 0) with
  accessFlags := 49
  interfaces := #[]
  cf := some (fileOf pool16 42 #[] #[{ accessFlags := 2, nameIndex := 5, descriptorIndex := 6, attributes := #[] }, { accessFlags := 9, nameIndex := 109, descriptorIndex := 171, attributes := #[] }] 49 2 #[] #[])
  fields := #[]
  methods := #[k16m0, k16m1]
  instanceTypes := #[]
  staticTypes := #[]
  resolved := Array.replicate 184 none
  statics := none }

def pool17 : Array CpInfo := pool [(2, .class_ 4), (1, u "java/lang/Object"), (0, u "<init>"), (0, u "()V"), (17, .class_ 26), (1, u "jdk/internal/util/Preconditions"), (6, u "checkIndex"), (21, .class_ 56), (0, u "jdk/internal/util/Preconditions$4"), (57, .class_ 115), (0, u "jdk/internal/util/Preconditions$1"), (7, u "SIOOBE_FORMATTER"), (0, u "Ljava/util/function/BiFunction;"), (0, .class_ 126), (0, u "jdk/internal/util/Preconditions$2"), (3, u "AIOOBE_FORMATTER"), (0, .class_ 132), (0, u "jdk/internal/util/Preconditions$3"), (3, u "IOOBE_FORMATTER"), (41, u "(IILjava/util/function/BiFunction;)I")] 15

def k17m0 : Method := { name := "<init>", desc := "()V", sig := { parameters := [], returnType := none }, accessFlags := 1, code := none }
def k17c1 : Code := { maxStack := 3, maxLocals := 3, code := jdk_41_method_11_code, exceptionTable := #[], attributes := #[] }
def k17m1 : Method := { name := "checkIndex", desc := "(IILjava/util/function/BiFunction;)I", sig := { parameters := [.int, .int, (.object "java/util/function/BiFunction")], returnType := some .int }, accessFlags := 9, code := some k17c1 }
/-- jdk/internal/util/Preconditions -/
def k17 : Class := { plain "jdk/internal/util/Preconditions" (some 0) with
  accessFlags := 33
  interfaces := #[]
  cf := some (fileOf pool17 24 #[.nestMembers #[55, 131, 125, 114]] #[{ accessFlags := 1, nameIndex := 5, descriptorIndex := 6, attributes := #[] }, { accessFlags := 9, nameIndex := 33, descriptorIndex := 178, attributes := #[] }] 33 2 #[] #[{ accessFlags := 25, nameIndex := 123, descriptorIndex := 124, attributes := #[] }, { accessFlags := 25, nameIndex := 130, descriptorIndex := 124, attributes := #[] }, { accessFlags := 25, nameIndex := 136, descriptorIndex := 124, attributes := #[] }])
  fields := #[{ name := "SIOOBE_FORMATTER", type := (.object "java/util/function/BiFunction"), accessFlags := 25, slot := 0, constantValue := 0 }, { name := "AIOOBE_FORMATTER", type := (.object "java/util/function/BiFunction"), accessFlags := 25, slot := 1, constantValue := 0 }, { name := "IOOBE_FORMATTER", type := (.object "java/util/function/BiFunction"), accessFlags := 25, slot := 2, constantValue := 0 }]
  methods := #[k17m0, k17m1]
  instanceTypes := #[]
  staticTypes := #[(.object "java/util/function/BiFunction"), (.object "java/util/function/BiFunction"), (.object "java/util/function/BiFunction")]
  resolved := Array.replicate 194 none
  statics := none }

/-- the primitive byte -/
def k18 : Class := { plain "byte" none with kind := .primitive 'B', accessFlags := 0x411 }
/-- [B -/
def k19 : Class := { plain "[B" (some 0) with kind := .array 18 .byte, interfaces := #[9, 10], accessFlags := 1041 }

/-- the primitive int -/
def k20 : Class := { plain "int" none with kind := .primitive 'I', accessFlags := 0x411 }
/-- [I -/
def k21 : Class := { plain "[I" (some 0) with kind := .array 20 .int, interfaces := #[9, 10], accessFlags := 1041 }

/-- [Ljava/lang/Object; -/
def k22 : Class := { plain "[Ljava/lang/Object;" (some 0) with kind := .array 0 (.object "java/lang/Object"), interfaces := #[9, 10], accessFlags := 1041 }

def heap : Heap := #[{ cls := 11, slots := #[.long 0, .int 0, .ref 1, .ref 2], vm := .statics 11 },
  { cls := 22, slots := #[], vm := .none },
  { cls := 22, slots := #[], vm := .none }]
def classes : Array Class := #[k0, k1, k2, k3, k4, k5, k6, k7, k8, k9, k10, k11, k12, k13, k14, k15, k16, k17, k18, k19, k20, k21, k22]
def interned : List (Array UInt16 × Addr) := []
def slotsUsed : Nat := 4
def theMethod : MethodId := ⟨1, 1⟩
def args0 : Array Value := #[.int 5, .int 7, .int 9, .int 3, .int 2, .int 4]
def aboutOver (below : List Frame) : State where
  vm := { classes := classes, interned := interned.toArray }
  heap := heap
  slotsUsed := slotsUsed
  threads := #[{ frames := .invoking theMethod args0 :: below }]
def below0 : List Frame := [.native { method := ⟨0, 0⟩, args := #[] }]
def about1 : State := aboutOver below0
def p0 : Program := .bare "" "" ""
def e0 : Env := launch0.env 0 0 0
theorem w_frames : about1.frames = Frame.invoking theMethod args0 :: below0 := rfl
set_option maxRecDepth 65536 in
theorem w_args : argsFit about1.vm theMethod args0 = true := by decide +kernel
set_option maxRecDepth 65536 in
theorem w_heap : heapFits about1 = true := by decide +kernel
set_option maxRecDepth 65536 in
theorem w_runnable : about1.curStatus? = some .runnable := by decide +kernel
set_option maxRecDepth 65536 in
theorem w_alone : about1.alone = true := by decide +kernel
set_option maxRecDepth 65536 in
theorem w_named : about1.methodNamed? x = some theMethod := by decide +kernel
set_option maxRecDepth 65536 in
theorem w_hears : about1.hears theMethod below0 = true := by decide +kernel
set_option maxRecDepth 65536 in
theorem w_ripe : about1.ripe theMethod args0 below0 = true := by decide +kernel
theorem w_running : about1.status = .running := rfl
set_option maxRecDepth 65536 in
theorem w_room : about1.hasRoom e0.platform room_1 = true :=
  launch0.hasRoom_least _ room_1 (by decide +kernel) (by decide +kernel) (by decide +kernel) (by decide +kernel) (by decide +kernel) (by decide +kernel)
theorem allAtoms_all (ts : List Jvm.Cond) (a : Array Jvm.Value) (st : Jvm.State) : (allAtoms ts).before a st = ts.all (fun c => c.before a st) := by
  induction ts with
  | nil => rfl
  | cons c t ih =>
    show (Jvm.Cond.and c (allAtoms t)).before a st = _
    rw [Jvm.Cond.before_and, ih, List.all_cons]
def words1 : List Jvm.Cond := Jvm.Cond.code x code maxLocals ret :: tables_1
/-- a 'code' word, met by the world's own term for the bytes: nothing is compared byte by byte -/
theorem code_word {y : MethodName} {bytes : ByteArray} {mx : Nat} {rt : Option FieldType} {a : Array Value} {s : State} {m : MethodId} {meth : Method} {c : Code} (h1 : s.methodNamed? y = some m) (h2 : s.vm.method? m = some meth) (h3 : meth.code = some c) (h4 : c.code = bytes)
    (h5 : (c.maxLocals == mx && c.exceptionTable.isEmpty && decide (c.maxStack ≤ mostOperands) && decide (meth.sig.returnType = rt) && !meth.locks && decide (parseMethodDescriptor y.desc = some meth.sig)) = true) : (Jvm.Cond.code y bytes mx rt).before a s = true := by
  simp only [Bool.and_eq_true, beq_iff_eq, Bool.not_eq_true', decide_eq_true_eq] at h5
  obtain ⟨⟨⟨⟨⟨g1, g2⟩, g3⟩, g4⟩, g5⟩, g6⟩ := h5
  simp [Cond.before, Cond.holds, Cond.value, h1, h2, h3, h4, g1, g2, g3, g4, g5, g6]
def isCode : Jvm.Cond → Bool
  | .code _ _ _ _ => true
  | _ => false
theorem all_split {L : List Jvm.Cond} {P : Jvm.Cond → Bool} (h1 : L.all (fun c => isCode c || P c) = true) (h2 : ∀ c ∈ L.filter isCode, P c = true) : L.all P = true := by
  refine List.all_eq_true.mpr fun c hc => ?_
  have h := List.all_eq_true.mp h1 c hc
  rcases Bool.eq_false_or_eq_true (isCode c) with hi | hi
  · exact h2 c (List.mem_filter.mpr ⟨hc, hi⟩)
  · simpa [hi] using h
set_option maxRecDepth 65536 in
theorem w_c0 : (Jvm.Cond.code x code maxLocals ret).before args0 about1 = true := code_word (m := ⟨1, 1⟩) (meth := k1m1) (c := k1c1) (by decide +kernel) rfl rfl rfl (by decide +kernel)
set_option maxRecDepth 65536 in
theorem w_c1 : (Jvm.Cond.code ({ cls := "java/util/ArrayList", name := "<init>", desc := "()V" } : Jvm.MethodName) jdk_38_method_2_code (1 : Nat) (Option.none : Option Jvm.ClassFile.FieldType)).before args0 about1 = true := code_word (m := ⟨11, 0⟩) (meth := k11m0) (c := k11c0) (by decide +kernel) rfl rfl rfl (by decide +kernel)
set_option maxRecDepth 65536 in
theorem w_c2 : (Jvm.Cond.code ({ cls := "java/util/AbstractList", name := "<init>", desc := "()V" } : Jvm.MethodName) jdk_39_method_1_code (1 : Nat) (Option.none : Option Jvm.ClassFile.FieldType)).before args0 about1 = true := code_word (m := ⟨7, 0⟩) (meth := k7m0) (c := k7c0) (by decide +kernel) rfl rfl rfl (by decide +kernel)
set_option maxRecDepth 65536 in
theorem w_c3 : (Jvm.Cond.code ({ cls := "java/util/AbstractCollection", name := "<init>", desc := "()V" } : Jvm.MethodName) jdk_22_method_1_code (1 : Nat) (Option.none : Option Jvm.ClassFile.FieldType)).before args0 about1 = true := code_word (m := ⟨4, 0⟩) (meth := k4m0) (c := k4c0) (by decide +kernel) rfl rfl rfl (by decide +kernel)
set_option maxRecDepth 65536 in
theorem w_c4 : (Jvm.Cond.code ({ cls := "java/lang/Object", name := "<init>", desc := "()V" } : Jvm.MethodName) object_method_1_code (1 : Nat) (Option.none : Option Jvm.ClassFile.FieldType)).before args0 about1 = true := code_word (m := ⟨0, 0⟩) (meth := k0m0) (c := k0c0) (by decide +kernel) rfl rfl rfl (by decide +kernel)
set_option maxRecDepth 65536 in
theorem w_c5 : (Jvm.Cond.code ({ cls := "com/example/dromos/dromos/model/Module$Signature", name := "<init>", desc := "(Lcom/example/dromos/dromos/model/Identifier;I)V" } : Jvm.MethodName) prog_116_method_1_code (3 : Nat) (Option.none : Option Jvm.ClassFile.FieldType)).before args0 about1 = true := code_word (m := ⟨13, 0⟩) (meth := k13m0) (c := k13c0) (by decide +kernel) rfl rfl rfl (by decide +kernel)
set_option maxRecDepth 65536 in
theorem w_c6 : (Jvm.Cond.code ({ cls := "java/lang/Record", name := "<init>", desc := "()V" } : Jvm.MethodName) jdk_30_method_1_code (1 : Nat) (Option.none : Option Jvm.ClassFile.FieldType)).before args0 about1 = true := code_word (m := ⟨12, 0⟩) (meth := k12m0) (c := k12c0) (by decide +kernel) rfl rfl rfl (by decide +kernel)
set_option maxRecDepth 65536 in
theorem w_c7 : (Jvm.Cond.code ({ cls := "java/util/ArrayList", name := "add", desc := "(Ljava/lang/Object;)Z" } : Jvm.MethodName) jdk_38_method_25_code (2 : Nat) (Option.some Jvm.ClassFile.FieldType.boolean)).before args0 about1 = true := code_word (m := ⟨11, 7⟩) (meth := k11m7) (c := k11c7) (by decide +kernel) rfl rfl rfl (by decide +kernel)
set_option maxRecDepth 65536 in
theorem w_c8 : (Jvm.Cond.code ({ cls := "java/util/ArrayList", name := "add", desc := "(Ljava/lang/Object;[Ljava/lang/Object;I)V" } : Jvm.MethodName) jdk_38_method_24_code (4 : Nat) (Option.none : Option Jvm.ClassFile.FieldType)).before args0 about1 = true := code_word (m := ⟨11, 6⟩) (meth := k11m6) (c := k11c6) (by decide +kernel) rfl rfl rfl (by decide +kernel)
set_option maxRecDepth 65536 in
theorem w_c9 : (Jvm.Cond.code ({ cls := "java/util/ArrayList", name := "grow", desc := "()[Ljava/lang/Object;" } : Jvm.MethodName) jdk_38_method_7_code (1 : Nat) (Option.some (Jvm.ClassFile.FieldType.array (Jvm.ClassFile.FieldType.object "java/lang/Object")))).before args0 about1 = true := code_word (m := ⟨11, 2⟩) (meth := k11m2) (c := k11c2) (by decide +kernel) rfl rfl rfl (by decide +kernel)
set_option maxRecDepth 65536 in
theorem w_c10 : (Jvm.Cond.code ({ cls := "java/util/ArrayList", name := "grow", desc := "(I)[Ljava/lang/Object;" } : Jvm.MethodName) jdk_38_method_6_code (4 : Nat) (Option.some (Jvm.ClassFile.FieldType.array (Jvm.ClassFile.FieldType.object "java/lang/Object")))).before args0 about1 = true := code_word (m := ⟨11, 1⟩) (meth := k11m1) (c := k11c1) (by decide +kernel) rfl rfl rfl (by decide +kernel)
set_option maxRecDepth 65536 in
theorem w_c11 : (Jvm.Cond.code ({ cls := "java/lang/Math", name := "max", desc := "(II)I" } : Jvm.MethodName) jdk_29_method_65_code (2 : Nat) (Option.some Jvm.ClassFile.FieldType.int)).before args0 about1 = true := code_word (m := ⟨14, 1⟩) (meth := k14m1) (c := k14c1) (by decide +kernel) rfl rfl rfl (by decide +kernel)
set_option maxRecDepth 65536 in
theorem w_c12 : (Jvm.Cond.code ({ cls := "com/example/dromos/dromos/service/Definition", name := "<init>", desc := "(Ljava/lang/String;IILcom/example/dromos/dromos/model/Location;Z)V" } : Jvm.MethodName) prog_165_method_2_code (6 : Nat) (Option.none : Option Jvm.ClassFile.FieldType)).before args0 about1 = true := code_word (m := ⟨15, 0⟩) (meth := k15m0) (c := k15c0) (by decide +kernel) rfl rfl rfl (by decide +kernel)
set_option maxRecDepth 65536 in
theorem w_c13 : (Jvm.Cond.code ({ cls := "com/example/dromos/dromos/service/Definition", name := "takesOperators", desc := "()Z" } : Jvm.MethodName) prog_165_method_6_code (5 : Nat) (Option.some Jvm.ClassFile.FieldType.boolean)).before args0 about1 = true := code_word (m := ⟨15, 2⟩) (meth := k15m2) (c := k15c2) (by decide +kernel) rfl rfl rfl (by decide +kernel)
set_option maxRecDepth 65536 in
theorem w_c14 : (Jvm.Cond.code ({ cls := "com/example/dromos/dromos/service/Definition", name := "takes", desc := "(Ljava/util/List;)V" } : Jvm.MethodName) prog_165_method_4_code (3 : Nat) (Option.none : Option Jvm.ClassFile.FieldType)).before args0 about1 = true := code_word (m := ⟨15, 1⟩) (meth := k15m1) (c := k15c1) (by decide +kernel) rfl rfl rfl (by decide +kernel)
set_option maxRecDepth 65536 in
theorem w_c15 : (Jvm.Cond.code ({ cls := "java/util/ArrayList", name := "size", desc := "()I" } : Jvm.MethodName) jdk_38_method_8_code (1 : Nat) (Option.some Jvm.ClassFile.FieldType.int)).before args0 about1 = true := code_word (m := ⟨11, 3⟩) (meth := k11m3) (c := k11c3) (by decide +kernel) rfl rfl rfl (by decide +kernel)
set_option maxRecDepth 65536 in
theorem w_c16 : (Jvm.Cond.code ({ cls := "java/util/ArrayList", name := "get", desc := "(I)Ljava/lang/Object;" } : Jvm.MethodName) jdk_38_method_20_code (2 : Nat) (Option.some (Jvm.ClassFile.FieldType.object "java/lang/Object"))).before args0 about1 = true := code_word (m := ⟨11, 5⟩) (meth := k11m5) (c := k11c5) (by decide +kernel) rfl rfl rfl (by decide +kernel)
set_option maxRecDepth 65536 in
theorem w_c17 : (Jvm.Cond.code ({ cls := "java/util/Objects", name := "checkIndex", desc := "(II)I" } : Jvm.MethodName) jdk_31_method_17_code (2 : Nat) (Option.some Jvm.ClassFile.FieldType.int)).before args0 about1 = true := code_word (m := ⟨16, 1⟩) (meth := k16m1) (c := k16c1) (by decide +kernel) rfl rfl rfl (by decide +kernel)
set_option maxRecDepth 65536 in
theorem w_c18 : (Jvm.Cond.code ({ cls := "jdk/internal/util/Preconditions", name := "checkIndex", desc := "(IILjava/util/function/BiFunction;)I" } : Jvm.MethodName) jdk_41_method_11_code (3 : Nat) (Option.some Jvm.ClassFile.FieldType.int)).before args0 about1 = true := code_word (m := ⟨17, 1⟩) (meth := k17m1) (c := k17c1) (by decide +kernel) rfl rfl rfl (by decide +kernel)
set_option maxRecDepth 65536 in
theorem w_c19 : (Jvm.Cond.code ({ cls := "java/util/ArrayList", name := "elementData", desc := "(I)Ljava/lang/Object;" } : Jvm.MethodName) jdk_38_method_18_code (2 : Nat) (Option.some (Jvm.ClassFile.FieldType.object "java/lang/Object"))).before args0 about1 = true := code_word (m := ⟨11, 4⟩) (meth := k11m4) (c := k11c4) (by decide +kernel) rfl rfl rfl (by decide +kernel)
set_option maxRecDepth 65536 in
theorem w_c20 : (Jvm.Cond.code ({ cls := "com/example/dromos/dromos/model/Module$Signature", name := "arity", desc := "()I" } : Jvm.MethodName) prog_116_method_6_code (1 : Nat) (Option.some Jvm.ClassFile.FieldType.int)).before args0 about1 = true := code_word (m := ⟨13, 1⟩) (meth := k13m1) (c := k13c1) (by decide +kernel) rfl rfl rfl (by decide +kernel)
def codes1 : List Jvm.Cond := [Jvm.Cond.code x code maxLocals ret, Jvm.Cond.code ({ cls := "java/util/ArrayList", name := "<init>", desc := "()V" } : Jvm.MethodName) jdk_38_method_2_code (1 : Nat) (Option.none : Option Jvm.ClassFile.FieldType), Jvm.Cond.code ({ cls := "java/util/AbstractList", name := "<init>", desc := "()V" } : Jvm.MethodName) jdk_39_method_1_code (1 : Nat) (Option.none : Option Jvm.ClassFile.FieldType), Jvm.Cond.code ({ cls := "java/util/AbstractCollection", name := "<init>", desc := "()V" } : Jvm.MethodName) jdk_22_method_1_code (1 : Nat) (Option.none : Option Jvm.ClassFile.FieldType), Jvm.Cond.code ({ cls := "java/lang/Object", name := "<init>", desc := "()V" } : Jvm.MethodName) object_method_1_code (1 : Nat) (Option.none : Option Jvm.ClassFile.FieldType), Jvm.Cond.code ({ cls := "com/example/dromos/dromos/model/Module$Signature", name := "<init>", desc := "(Lcom/example/dromos/dromos/model/Identifier;I)V" } : Jvm.MethodName) prog_116_method_1_code (3 : Nat) (Option.none : Option Jvm.ClassFile.FieldType), Jvm.Cond.code ({ cls := "java/lang/Record", name := "<init>", desc := "()V" } : Jvm.MethodName) jdk_30_method_1_code (1 : Nat) (Option.none : Option Jvm.ClassFile.FieldType), Jvm.Cond.code ({ cls := "java/util/ArrayList", name := "add", desc := "(Ljava/lang/Object;)Z" } : Jvm.MethodName) jdk_38_method_25_code (2 : Nat) (Option.some Jvm.ClassFile.FieldType.boolean), Jvm.Cond.code ({ cls := "java/util/ArrayList", name := "add", desc := "(Ljava/lang/Object;[Ljava/lang/Object;I)V" } : Jvm.MethodName) jdk_38_method_24_code (4 : Nat) (Option.none : Option Jvm.ClassFile.FieldType), Jvm.Cond.code ({ cls := "java/util/ArrayList", name := "grow", desc := "()[Ljava/lang/Object;" } : Jvm.MethodName) jdk_38_method_7_code (1 : Nat) (Option.some (Jvm.ClassFile.FieldType.array (Jvm.ClassFile.FieldType.object "java/lang/Object"))), Jvm.Cond.code ({ cls := "java/util/ArrayList", name := "grow", desc := "(I)[Ljava/lang/Object;" } : Jvm.MethodName) jdk_38_method_6_code (4 : Nat) (Option.some (Jvm.ClassFile.FieldType.array (Jvm.ClassFile.FieldType.object "java/lang/Object"))), Jvm.Cond.code ({ cls := "java/lang/Math", name := "max", desc := "(II)I" } : Jvm.MethodName) jdk_29_method_65_code (2 : Nat) (Option.some Jvm.ClassFile.FieldType.int), Jvm.Cond.code ({ cls := "com/example/dromos/dromos/service/Definition", name := "<init>", desc := "(Ljava/lang/String;IILcom/example/dromos/dromos/model/Location;Z)V" } : Jvm.MethodName) prog_165_method_2_code (6 : Nat) (Option.none : Option Jvm.ClassFile.FieldType), Jvm.Cond.code ({ cls := "com/example/dromos/dromos/service/Definition", name := "takesOperators", desc := "()Z" } : Jvm.MethodName) prog_165_method_6_code (5 : Nat) (Option.some Jvm.ClassFile.FieldType.boolean), Jvm.Cond.code ({ cls := "com/example/dromos/dromos/service/Definition", name := "takes", desc := "(Ljava/util/List;)V" } : Jvm.MethodName) prog_165_method_4_code (3 : Nat) (Option.none : Option Jvm.ClassFile.FieldType), Jvm.Cond.code ({ cls := "java/util/ArrayList", name := "size", desc := "()I" } : Jvm.MethodName) jdk_38_method_8_code (1 : Nat) (Option.some Jvm.ClassFile.FieldType.int), Jvm.Cond.code ({ cls := "java/util/ArrayList", name := "get", desc := "(I)Ljava/lang/Object;" } : Jvm.MethodName) jdk_38_method_20_code (2 : Nat) (Option.some (Jvm.ClassFile.FieldType.object "java/lang/Object")), Jvm.Cond.code ({ cls := "java/util/Objects", name := "checkIndex", desc := "(II)I" } : Jvm.MethodName) jdk_31_method_17_code (2 : Nat) (Option.some Jvm.ClassFile.FieldType.int), Jvm.Cond.code ({ cls := "jdk/internal/util/Preconditions", name := "checkIndex", desc := "(IILjava/util/function/BiFunction;)I" } : Jvm.MethodName) jdk_41_method_11_code (3 : Nat) (Option.some Jvm.ClassFile.FieldType.int), Jvm.Cond.code ({ cls := "java/util/ArrayList", name := "elementData", desc := "(I)Ljava/lang/Object;" } : Jvm.MethodName) jdk_38_method_18_code (2 : Nat) (Option.some (Jvm.ClassFile.FieldType.object "java/lang/Object")), Jvm.Cond.code ({ cls := "com/example/dromos/dromos/model/Module$Signature", name := "arity", desc := "()I" } : Jvm.MethodName) prog_116_method_6_code (1 : Nat) (Option.some Jvm.ClassFile.FieldType.int)]
set_option maxRecDepth 65536 in
theorem codes_eq : words1.filter isCode = codes1 := rfl
theorem w_codes : ∀ c ∈ words1.filter isCode, c.before args0 about1 = true := by
  rw [codes_eq]
  intro c hc
  simp only [codes1, List.mem_cons, List.not_mem_nil, or_false] at hc
  rcases hc with rfl | rfl | rfl | rfl | rfl | rfl | rfl | rfl | rfl | rfl | rfl | rfl | rfl | rfl | rfl | rfl | rfl | rfl | rfl | rfl | rfl
  · exact w_c0
  · exact w_c1
  · exact w_c2
  · exact w_c3
  · exact w_c4
  · exact w_c5
  · exact w_c6
  · exact w_c7
  · exact w_c8
  · exact w_c9
  · exact w_c10
  · exact w_c11
  · exact w_c12
  · exact w_c13
  · exact w_c14
  · exact w_c15
  · exact w_c16
  · exact w_c17
  · exact w_c18
  · exact w_c19
  · exact w_c20
set_option maxRecDepth 65536 in
theorem w_t1 : (words1.take 24).all (fun c => isCode c || c.before args0 about1) = true := by decide +kernel
set_option maxRecDepth 65536 in
theorem w_t2 : ((words1.drop 24).take 24).all (fun c => isCode c || c.before args0 about1) = true := by decide +kernel
set_option maxRecDepth 65536 in
theorem w_t3 : (((words1.drop 24).drop 24).take 24).all (fun c => isCode c || c.before args0 about1) = true := by decide +kernel
set_option maxRecDepth 65536 in
theorem w_t4 : ((((words1.drop 24).drop 24).drop 24).take 24).all (fun c => isCode c || c.before args0 about1) = true := by decide +kernel
set_option maxRecDepth 65536 in
theorem w_t5 : (((((words1.drop 24).drop 24).drop 24).drop 24).take 24).all (fun c => isCode c || c.before args0 about1) = true := by decide +kernel
set_option maxRecDepth 65536 in
theorem w_t6 : ((((((words1.drop 24).drop 24).drop 24).drop 24).drop 24).take 24).all (fun c => isCode c || c.before args0 about1) = true := by decide +kernel
set_option maxRecDepth 65536 in
theorem w_t7 : ((((((words1.drop 24).drop 24).drop 24).drop 24).drop 24).drop 24).all (fun c => isCode c || c.before args0 about1) = true := by decide +kernel
theorem w_tables : (allAtoms (Jvm.Cond.code x code maxLocals ret :: tables_1)).before args0 about1 = true := by
  rw [allAtoms_all]
  show words1.all (fun c => c.before args0 about1) = true
  refine all_split ?_ w_codes
  rw [← List.take_append_drop 24 words1, List.all_append, w_t1, ← List.take_append_drop 24 (words1.drop 24), List.all_append, w_t2, ← List.take_append_drop 24 ((words1.drop 24).drop 24), List.all_append, w_t3, ← List.take_append_drop 24 (((words1.drop 24).drop 24).drop 24), List.all_append, w_t4, ← List.take_append_drop 24 ((((words1.drop 24).drop 24).drop 24).drop 24), List.all_append, w_t5, ← List.take_append_drop 24 (((((words1.drop 24).drop 24).drop 24).drop 24).drop 24), List.all_append, w_t6, w_t7]
  rfl
set_option maxRecDepth 65536 in
theorem w_rest : rest_1_c.before args0 about1 = true := by decide +kernel
set_option maxRecDepth 65536 in
theorem w_case : (Jvm.Cond.and given_1 narrow_1).before args0 about1 = true := by decide +kernel
theorem w_applies : (headSpec (Jvm.Cond.code x code maxLocals ret :: tables_1) room_1).applies x e0.platform about1 = true :=
  (Spec.applies_iff w_frames).mpr ⟨w_running, w_runnable, w_alone, w_named, w_hears, w_ripe, w_room, w_tables⟩
theorem atStart : AtStart classFile x code maxLocals ret World_1 tables_1 room_1 Calls_1 rest_1 Pre_1 launch0 p0 e0 about1 theMethod args0 below0 :=
  ⟨lists_1, trivial, launch0.admits_env _ _ _, launch0.least_env, fairChoices_fair.cas, fairChoices_fair.clock, w_frames, w_args, w_heap, w_applies, trivial, w_rest, w_case⟩
end start1
theorem witness_1 : WitnessClaimed_1 := ⟨start1.p0, start1.e0, start1.about1, start1.theMethod, start1.args0, start1.below0, start1.atStart⟩
end Jvm.Pilot.@@N@@
