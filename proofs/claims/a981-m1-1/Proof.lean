import JvmDerived
import JvmDerived.Pilot.@@N@@Statement
import JvmDerived.Pilot.@@N@@Code
set_option linter.unusedVariables false
set_option linter.unusedSimpArgs false
namespace Jvm.RoadKit
open Sem ClassFile Op Lib Jvm.Stand Jvm.Free Jvm.LawKit
section New
variable {p : Program} {l : Launch} {e : Env} {R : Room} {s : State} {m : MethodId} {args : Array Value} {below : List Frame} {meth : Method} {c : Code} {T : State} {locs : List Loc} {cells slots : Nat}
theorem retI (X : Stand p l e R s m args below meth c T locs cells slots) (hx : p.tables.exec = Jvm.exec) {pc : Nat} {Ls : Array Slot} {z : Int32} {rest : List Value} (hret : meth.sig.returnType = some .int) (hd : decode c.code pc = .ok (.ireturn, 1)) {fs : List Frame}
    (hl : ∀ (f : JFrame) (acts : List Action), f.method = m → f.locked = none → f.entered = [] → (doReturn e (T.setTop f) acts (some (.int z))).1 = T.setFrames fs) : Steps p.tables e below (T.setTop (mkF m pc Ls (.int z :: rest))) (T.setFrames fs) := by
  have hm' : T.vm.method? m = some meth := X.method'
  have hn : narrow .int (.int z) = .int z := rfl
  show Steps p.tables e below (T.setTop { method := m, pc := pc, locals := Ls, stack := _ :: rest, locked := none }) _
  jvm_step X.here [X.here.top, hx, hd, hm', hret, hn]
  first | (intro acts; rw [hl _ acts rfl rfl rfl]) | rw [hl _ _ rfl rfl rfl]
  exact Steps.refl _
end New
end Jvm.RoadKit
namespace Jvm.Pilot.@@N@@
open Jvm Jvm.ClassFile Sem Op Lib Jvm.Free Jvm.Stand Jvm.LawKit Jvm.RoadKit Bundle Jvm.Pilot.@@N@@.Jvm.D
section Own
variable {p : Program} {l : Launch} {e : Env} {R : Room} {s : State} {m : MethodId} {args : Array Value} {below : List Frame} {meth : Method} {c : Code} {T : State} {locs : List Loc} {cells slots : Nat}
theorem own_retL (X : Stand p l e R s m args below meth c T locs cells slots) (hx : p.tables.exec = Jvm.exec) {pc : Nat} {Ls : Array Slot} {z : Int64} {rest : List Value} (hret : meth.sig.returnType = some .long) (hd : decode c.code pc = .ok (.lreturn, 1)) {fs : List Frame}
    (hl : ∀ (f : JFrame) (acts : List Action), f.method = m → f.locked = none → f.entered = [] → (doReturn e (T.setTop f) acts (some (.long z))).1 = T.setFrames fs) : Steps p.tables e below (T.setTop (mkF m pc Ls (.long z :: rest))) (T.setFrames fs) := by
  have hm' : T.vm.method? m = some meth := X.method'
  have hn : narrow .long (.long z) = .long z := rfl
  show Steps p.tables e below (T.setTop { method := m, pc := pc, locals := Ls, stack := _ :: rest, locked := none }) _
  jvm_step X.here [X.here.top, hx, hd, hm', hret, hn]
  first | (intro acts; rw [hl _ acts rfl rfl rfl]) | rw [hl _ _ rfl rfl rfl]
  exact Steps.refl _
theorem own_retA (X : Stand p l e R s m args below meth c T locs cells slots) (hx : p.tables.exec = Jvm.exec) {pc : Nat} {Ls : Array Slot} {v : Value} {t : FieldType} {rest : List Value} (hret : meth.sig.returnType = some t) (ht : t.isReference = true) (hv : v.isRef = true) (hd : decode c.code pc = .ok (.areturn, 1)) {fs : List Frame}
    (hl : ∀ (f : JFrame) (acts : List Action), f.method = m → f.locked = none → f.entered = [] → (doReturn e (T.setTop f) acts (some v)).1 = T.setFrames fs) : Steps p.tables e below (T.setTop (mkF m pc Ls (v :: rest))) (T.setFrames fs) := by
  have hm' : T.vm.method? m = some meth := X.method'
  show Steps p.tables e below (T.setTop { method := m, pc := pc, locals := Ls, stack := _ :: rest, locked := none }) _
  jvm_step X.here [X.here.top, hx, hd, hm', hret, hv, ht]
  first | (intro acts; rw [hl _ acts rfl rfl rfl]) | rw [hl _ _ rfl rfl rfl]
  exact Steps.refl _
def OGo (p : Program) (e : Env) (below : List Frame) (P : State → Outcome → Prop) (S : State) : Prop := ∃ s₂ o, Steps p.tables e below S s₂ ∧ s₂.status = .running ∧ Ended s₂ below o ∧ P s₂ o
theorem OGo.to {P : State → Outcome → Prop} {S S' : State} (h : ∀ t, Steps p.tables e below S' t → Steps p.tables e below S t) (g : OGo p e below P S') : OGo p e below P S := by
  obtain ⟨s₂, o, h1, r⟩ := g
  exact ⟨s₂, o, h _ h1, r⟩
theorem OGo.ret {Q : Option Value → Heap → List Loc → Prop} (X : Stand p l e R s m args below meth c T locs cells slots) {g : JFrame} (v : Option Value) (hv : meth.sig.returnType = none → v = none) (hlocks : meth.locks = false)
    (st : ∀ fs : List Frame, (∀ (f : JFrame) (acts : List Action), f.method = m → f.locked = none → f.entered = [] → (doReturn e (T.setTop f) acts v).1 = T.setFrames fs) → Steps p.tables e below (T.setTop g) (T.setFrames fs)) (hq : Q v T.heap locs) {rc rs : Nat} (h1 : cells ≤ rc) (h2 : slots ≤ rs) :
    OGo p e below (fun s₂ o => ∃ v L, o = .returned v ∧ Q v s₂.heap L ∧ FrameEnd s o s₂ L rc rs) (T.setTop g) := by
  obtain ⟨fs, hr, hrun, hended, hW, hsame⟩ := X.leave (v := v) hv hlocks
  exact ⟨_, _, st fs hr, hrun, hended, _, _, rfl, hq, ⟨_, rfl⟩, hW, hsame.mono h1 h2⟩
theorem own_selP {Z : State} {a0 : Array Value} (hZ : Z.Warmed39 s.vm) {y : MethodName} {n : Nat} (wi : (Jvm.Cond.instantiable y.cls n).before a0 Z = true) (wp : (Jvm.Cond.privateMethod y).before a0 Z = true) (wm : (Jvm.Cond.instanceMethod y).before a0 Z = true) (hy : y.cls ≠ "java/lang/invoke/MethodHandle" ∧ y.cls ≠ "java/lang/invoke/VarHandle") : (Jvm.Cond.selects y.cls y y).before args s = true := by
  obtain ⟨c, k, h1, h2, -, h3, -⟩ := Cond.instantiable_spec (mvT (args := args) hZ wi)
  exact selects_self_of_private h1 h2 ((Bool.or_eq_false_iff.mp h3).1) (Cond.privateMethod_at (mvP hZ wp (args := args))) (mvT hZ wm) hy
end Own
theorem own_b {x : Int32} (h : x = (0 : Int32) ∨ x = (1 : Int32)) : narrow .boolean (.int x) = .int x ∧ fits .boolean (.int x) = true := by
  rcases h with rfl | rfl <;> exact ⟨by decide, by decide⟩
theorem own_01 {P : Prop} [Decidable P] : (if P then (0 : Int32) else (1 : Int32)) = (0 : Int32) ∨ (if P then (0 : Int32) else (1 : Int32)) = (1 : Int32) := by
  by_cases h : P
  · exact Or.inl (if_pos h)
  · exact Or.inr (if_neg h)
def own_ex (x1 x2 x3 x4 x5 : Int32) : Int32 := if x1 = (0 : Int32) then (if x2 = (0 : Int32) then (if x3 = (0 : Int32) then (if x4 = (0 : Int32) then (if x5 = (0 : Int32) then (1 : Int32) else (0 : Int32)) else (0 : Int32)) else (0 : Int32)) else (0 : Int32)) else (0 : Int32)
def own_mk (x1 x3 : Int32) : Int32 := if x1 = (0 : Int32) then (if x3 = (0 : Int32) then (1 : Int32) else (0 : Int32)) else (0 : Int32)
def own_rt (x4 : Int32) : Int32 := if x4 = (0 : Int32) then (1 : Int32) else (0 : Int32)
theorem own_mk1 {x1 x2 x3 x4 x5 : Int32} (h : ¬ own_ex x1 x2 x3 x4 x5 = (0 : Int32)) : ¬ own_mk x1 x3 = (0 : Int32) := by
  unfold own_ex at h; unfold own_mk
  by_cases h1 : x1 = (0 : Int32) <;> by_cases h2 : x2 = (0 : Int32) <;> by_cases h3 : x3 = (0 : Int32) <;> simp_all
theorem own_rt1 {x1 x2 x3 x4 x5 : Int32} (h : ¬ own_ex x1 x2 x3 x4 x5 = (0 : Int32)) : ¬ own_rt x4 = (0 : Int32) := by
  unfold own_ex at h; unfold own_rt
  by_cases h1 : x1 = (0 : Int32) <;> by_cases h2 : x2 = (0 : Int32) <;> by_cases h3 : x3 = (0 : Int32) <;> by_cases h4 : x4 = (0 : Int32) <;> simp_all
theorem pd_0 : parseMethodDescriptor "(Lcom/example/dromos/dromos/model/Location;)V" = some ⟨[(.object "com/example/dromos/dromos/model/Location")], none⟩ := by decide +kernel
theorem pd_1 : parseMethodDescriptor "(Ljava/lang/String;IILcom/example/dromos/dromos/model/Location;Z)V" = some ⟨[(.object "java/lang/String"), .int, .int, (.object "com/example/dromos/dromos/model/Location"), .boolean], none⟩ := by decide +kernel
theorem pd_2 : parseMethodDescriptor "(Lcom/example/dromos/dromos/service/Node;I)Lcom/example/dromos/dromos/service/Definition;" = some ⟨[(.object "com/example/dromos/dromos/service/Node"), .int], some (.object "com/example/dromos/dromos/service/Definition")⟩ := by decide +kernel
theorem pd_3 : parseMethodDescriptor "()Z" = some ⟨[], some .boolean⟩ := by decide +kernel
theorem pd_4 : parseMethodDescriptor "(Lcom/example/dromos/dromos/model/Location;Lcom/example/dromos/dromos/model/Value;)V" = some ⟨[(.object "com/example/dromos/dromos/model/Location"), (.object "com/example/dromos/dromos/model/Value")], none⟩ := by decide +kernel
theorem pn_0 : plainName "com/example/dromos/dromos/service/Definition" = true := by first | (simp [plainName, overriddenIn]; done) | decide +kernel
theorem pn_1 : plainName "com/example/dromos/dromos/service/Node" = true := by first | (simp [plainName, overriddenIn]; done) | decide +kernel
theorem pn_2 : plainName "com/example/dromos/dromos/service/Nodes$Constant" = true := by first | (simp [plainName, overriddenIn]; done) | decide +kernel
theorem pn_3 : plainName "com/example/dromos/dromos/service/DefinitionExpandablePinLaw" = true := by first | (simp [plainName, overriddenIn]; done) | decide +kernel
theorem d1_0 : decode prog_165_method_2_code 0 = .ok (.aload_n 0, 1) := by decide +kernel
theorem d1_1 : decode prog_165_method_2_code 1 = .ok (.invokespecial 7, 3) := by decide +kernel
theorem d1_4 : decode prog_165_method_2_code 4 = .ok (.aload_n 0, 1) := by decide +kernel
theorem d1_5 : decode prog_165_method_2_code 5 = .ok (.iconst (-1), 1) := by decide +kernel
theorem d1_6 : decode prog_165_method_2_code 6 = .ok (.putfield 12, 3) := by decide +kernel
theorem d1_9 : decode prog_165_method_2_code 9 = .ok (.aload_n 0, 1) := by decide +kernel
theorem d1_10 : decode prog_165_method_2_code 10 = .ok (.iconst (-1), 1) := by decide +kernel
theorem d1_11 : decode prog_165_method_2_code 11 = .ok (.putfield 16, 3) := by decide +kernel
theorem d1_14 : decode prog_165_method_2_code 14 = .ok (.aload_n 0, 1) := by decide +kernel
theorem d1_15 : decode prog_165_method_2_code 15 = .ok (.iconst 0, 1) := by decide +kernel
theorem d1_16 : decode prog_165_method_2_code 16 = .ok (.newarray .int, 2) := by decide +kernel
theorem d1_18 : decode prog_165_method_2_code 18 = .ok (.putfield 19, 3) := by decide +kernel
theorem d1_21 : decode prog_165_method_2_code 21 = .ok (.aload_n 0, 1) := by decide +kernel
theorem d1_22 : decode prog_165_method_2_code 22 = .ok (.aload_n 1, 1) := by decide +kernel
theorem d1_23 : decode prog_165_method_2_code 23 = .ok (.putfield 23, 3) := by decide +kernel
theorem d1_26 : decode prog_165_method_2_code 26 = .ok (.aload_n 0, 1) := by decide +kernel
theorem d1_27 : decode prog_165_method_2_code 27 = .ok (.iload_n 2, 1) := by decide +kernel
theorem d1_28 : decode prog_165_method_2_code 28 = .ok (.putfield 27, 3) := by decide +kernel
theorem d1_31 : decode prog_165_method_2_code 31 = .ok (.aload_n 0, 1) := by decide +kernel
theorem d1_32 : decode prog_165_method_2_code 32 = .ok (.iload_n 3, 1) := by decide +kernel
theorem d1_33 : decode prog_165_method_2_code 33 = .ok (.putfield 30, 3) := by decide +kernel
theorem d1_36 : decode prog_165_method_2_code 36 = .ok (.aload_n 0, 1) := by decide +kernel
theorem d1_37 : decode prog_165_method_2_code 37 = .ok (.aload 4, 2) := by decide +kernel
theorem d1_39 : decode prog_165_method_2_code 39 = .ok (.putfield 33, 3) := by decide +kernel
theorem d1_42 : decode prog_165_method_2_code 42 = .ok (.aload_n 0, 1) := by decide +kernel
theorem d1_43 : decode prog_165_method_2_code 43 = .ok (.iload 5, 2) := by decide +kernel
theorem d1_45 : decode prog_165_method_2_code 45 = .ok (.putfield 37, 3) := by decide +kernel
theorem d1_48 : decode prog_165_method_2_code 48 = .ok (.return_, 1) := by decide +kernel
theorem ef_1 (m : MethodId) (x0 : Addr) (x2 : Int32) (x3 : Int32) (x5 : Int32) : entryFrame m #[(.ref x0), .null, (.int x2), (.int x3), .null, (.int x5)] 6 = mkF m 0 #[.val (.ref x0), .val .null, .val (.int x2), .val (.int x3), .val .null, .val (.int x5)] [] := by first | (simp [entryFrame, mkF, argsToLocals, Value.category]; done) | rfl
def Q1 (Z : State) (a1 : Addr) (p1 : Int32) (p2 : Int32) (p3 : Int32) (h0 : Heap) (n0 : Nat) (v : Option Value) (h : Heap) (L : List Loc) : Prop := v = none ∧ Fr n0 L ∧ Keep h0 h [a1] ∧ Fld Z h a1 "com/example/dromos/dromos/service/Definition" "arity" "I" (.int p1) ∧ Fld Z h a1 "com/example/dromos/dromos/service/Definition" "lexical" "Z" (.int p3) ∧ Fld Z h a1 "com/example/dromos/dromos/service/Definition" "bound" "I" (.int (-1 : Int32)) ∧ Fld Z h a1 "com/example/dromos/dromos/service/Definition" "free" "I" (.int (-1 : Int32)) ∧ Fld Z h a1 "com/example/dromos/dromos/service/Definition" "body" "Lcom/example/dromos/dromos/service/Node;" .null ∧ Fld Z h a1 "com/example/dromos/dromos/service/Definition" "slots" "I" (.int (0 : Int32)) ∧ Fld Z h a1 "com/example/dromos/dromos/service/Definition" "recursive" "Z" (.int (0 : Int32)) ∧ Fld Z h a1 "com/example/dromos/dromos/service/Definition" "replacesVariable" "Z" (.int (0 : Int32))
set_option maxRecDepth 65536 in
set_option maxHeartbeats 40000000 in
theorem rm1 (l : Launch) (Z : State) (a0 : Array Value) (hw : ∀ d ∈ tables_1, d.before a0 Z = true) (ws : List Jvm.Cond) (a1 : Addr) (p1 : Int32) (p2 : Int32) (p3 : Int32) (h0 : Heap) (n0 : Nat) (Z0 : n0 ≤ h0.size) (E1 : Exa Z h0 a1 "com/example/dromos/dromos/service/Definition") (F0 : Fld Z h0 a1 "com/example/dromos/dromos/service/Definition" "bound" "I" (.int (0 : Int32))) (F1 : Fld Z h0 a1 "com/example/dromos/dromos/service/Definition" "free" "I" (.int (0 : Int32))) (F2 : Fld Z h0 a1 "com/example/dromos/dromos/service/Definition" "operators" "[I" .null) (F3 : Fld Z h0 a1 "com/example/dromos/dromos/service/Definition" "name" "Ljava/lang/String;" .null) (F4 : Fld Z h0 a1 "com/example/dromos/dromos/service/Definition" "arity" "I" (.int (0 : Int32))) (F5 : Fld Z h0 a1 "com/example/dromos/dromos/service/Definition" "hidden" "I" (.int (0 : Int32))) (F6 : Fld Z h0 a1 "com/example/dromos/dromos/service/Definition" "at" "Lcom/example/dromos/dromos/model/Location;" .null) (F7 : Fld Z h0 a1 "com/example/dromos/dromos/service/Definition" "lexical" "Z" (.int (0 : Int32))) (F8 : Fld Z h0 a1 "com/example/dromos/dromos/service/Definition" "body" "Lcom/example/dromos/dromos/service/Node;" .null) (F9 : Fld Z h0 a1 "com/example/dromos/dromos/service/Definition" "slots" "I" (.int (0 : Int32))) (F10 : Fld Z h0 a1 "com/example/dromos/dromos/service/Definition" "recursive" "Z" (.int (0 : Int32))) (F11 : Fld Z h0 a1 "com/example/dromos/dromos/service/Definition" "replacesVariable" "Z" (.int (0 : Int32))) (g1 : n0 ≤ a1) (hb1 : p3 = (0 : Int32) ∨ p3 = (1 : Int32)) :
    MetFree l (⟨"com/example/dromos/dromos/service/Definition", "<init>", "(Ljava/lang/String;IILcom/example/dromos/dromos/model/Location;Z)V"⟩ : MethodName) (head1 (Jvm.Cond.code (⟨"com/example/dromos/dromos/service/Definition", "<init>", "(Ljava/lang/String;IILcom/example/dromos/dromos/model/Location;Z)V"⟩ : MethodName) prog_165_method_2_code 6 none :: ws) ({ frames := 1, cells := 1, slots := 0, locals := 12 } : Room)) (fun a U => a = #[(.ref a1), .null, (.int p1), (.int p2), .null, (.int p3)] ∧ Z.Warmed39 U.vm ∧ U.heap = h0) (fun _ _ _ _ _ => True) (fun _ U o U' => ∃ v L, o = .returned v ∧ Q1 Z a1 p1 p2 p3 h0 n0 v U'.heap L ∧ FrameEnd U o U' L ({ frames := 1, cells := 1, slots := 0, locals := 12 } : Room).cells ({ frames := 1, cells := 1, slots := 0, locals := 12 } : Room).slots) := by
  refine MetFree.of_bodySF (plainFor_of_name pn_0) hisR ?_
  intro p e s m args below meth c s₁ Bd hml0 hP hK
  obtain ⟨rfl, hZ, hh⟩ := hP
  have hx := Bd.exec
  have hby := Bd.bytes
  have hml : c.maxLocals = 6 := hml0
  have hown : s.vm.findClass "com/example/dromos/dromos/service/Definition" = some m.cls := findClass_of_methodNamed Bd.named
  have hnm := (name_of_methodNamed Bd.named Bd.method).1
  have X0 : Stand p l e ({ frames := 1, cells := 1, slots := 0, locals := 12 } : Room) s m #[(.ref a1), .null, (.int p1), (.int p2), .null, (.int p3)] below meth c s₁ [] 0 0 := Stand.of_body Bd
  have e0 : s₁.heap = h0 := by rw [← hh, Bd.state]; rfl
  have N0 := Fr.nil n0
  show OGo p e below (fun s₂ o => ∃ v L, o = .returned v ∧ Q1 Z a1 p1 p2 p3 h0 n0 v s₂.heap L ∧ FrameEnd s o s₂ L ({ frames := 1, cells := 1, slots := 0, locals := 12 } : Room).cells ({ frames := 1, cells := 1, slots := 0, locals := 12 } : Room).slots) _
  refine OGo.to (fun _ k => castTop (ef_1 m a1 p1 p2 p3) k) ?_
  refine OGo.to (fun _ k => XS.aloadN X0.here hx rfl (hb hby d1_0) rfl rfl k) ?_
  show OGo p e below _ (s₁.setTop (mkF m 1 #[.val (.ref a1), .val .null, .val (.int p1), .val (.int p2), .val .null, .val (.int p3)] [(.ref a1)]))
  obtain ⟨T1, X1, e1, st1⟩ := initO X0 hx hZ hown (hw _ (List.mem_of_getElem? (i := 6) rfl)) (hw _ (List.mem_of_getElem? (i := 7) rfl)) (hw _ (List.mem_of_getElem? (i := 8) rfl)) e0 (g := (mkF m 1 #[.val (.ref a1), .val .null, .val (.int p1), .val (.int p2), .val .null, .val (.int p3)] [(.ref a1)])) rfl (by rw [hml]; rfl) rfl (hb hby d1_1) (by decide) (W := 0) (by show 2 * 0 + _ ≤ _; exact Nat.le_of_eq rfl) (by decide)
  refine OGo.to st1 ?_
  show OGo p e below _ (T1.setTop (mkF m 4 #[.val (.ref a1), .val .null, .val (.int p1), .val (.int p2), .val .null, .val (.int p3)] []))
  refine OGo.to (fun _ k => XS.aloadN X1.here hx rfl (hb hby d1_4) rfl rfl k) ?_
  show OGo p e below _ (T1.setTop (mkF m 5 #[.val (.ref a1), .val .null, .val (.int p1), .val (.int p2), .val .null, .val (.int p3)] [(.ref a1)]))
  refine OGo.to (fun _ k => XS.iconst X1.here hx rfl (hb hby d1_5) k) ?_
  show OGo p e below _ (T1.setTop (mkF m 6 #[.val (.ref a1), .val .null, .val (.int p1), .val (.int p2), .val .null, .val (.int p3)] [(.int (-1 : Int32)), (.ref a1)]))
  obtain ⟨T2, h2, X2, e2, W2, st2⟩ := putF X1 hx hZ hown (host := "") (Or.inl (hw _ (List.mem_of_getElem? (i := 9) rfl))) Via.refl e1 F0 E1 (Or.inl (hw _ (List.mem_of_getElem? (i := 10) rfl))) (hw _ (List.mem_of_getElem? (i := 1) rfl)) (ty := .int) (by decide) rfl rfl (g := (mkF m 6 #[.val (.ref a1), .val .null, .val (.int p1), .val (.int p2), .val .null, .val (.int p3)] [(.int (-1 : Int32)), (.ref a1)])) rfl rfl (hb hby d1_6)
  refine OGo.to st2 ?_
  have Fw2 : Fld Z h2 a1 "com/example/dromos/dromos/service/Definition" "bound" "I" (.int (-1 : Int32)) := F0.same W2
  have N2 := Fr.snoc X2 N0 g1
  have z3 : n0 ≤ h2.size := Nat.le_trans Z0 (Keep.of_wr W2).1
  have K4 : Keep h0 h2 [a1] := (Keep.refl h0 [a1]).wr W2 (Or.inl (List.mem_of_getElem? (i := 0) rfl))
  show OGo p e below _ (T2.setTop (mkF m 9 #[.val (.ref a1), .val .null, .val (.int p1), .val (.int p2), .val .null, .val (.int p3)] []))
  refine OGo.to (fun _ k => XS.aloadN X2.here hx rfl (hb hby d1_9) rfl rfl k) ?_
  show OGo p e below _ (T2.setTop (mkF m 10 #[.val (.ref a1), .val .null, .val (.int p1), .val (.int p2), .val .null, .val (.int p3)] [(.ref a1)]))
  refine OGo.to (fun _ k => XS.iconst X2.here hx rfl (hb hby d1_10) k) ?_
  show OGo p e below _ (T2.setTop (mkF m 11 #[.val (.ref a1), .val .null, .val (.int p1), .val (.int p2), .val .null, .val (.int p3)] [(.int (-1 : Int32)), (.ref a1)]))
  have f5 : Exa Z h2 a1 "com/example/dromos/dromos/service/Definition" := (E1.wr W2)
  have f6 : Fld Z h2 a1 "com/example/dromos/dromos/service/Definition" "free" "I" (.int (0 : Int32)) := (F1.other W2 (Or.inr (slot_ne (Or.inl (hw _ (List.mem_of_getElem? (i := 12) rfl))) (Or.inl (hw _ (List.mem_of_getElem? (i := 10) rfl))) (by decide) (t := .int) (t' := .int) (by decide) (by decide))))
  obtain ⟨T7, h7, X7, e7, W7, st7⟩ := putF X2 hx hZ hown (host := "") (Or.inl (hw _ (List.mem_of_getElem? (i := 11) rfl))) Via.refl e2 f6 f5 (Or.inl (hw _ (List.mem_of_getElem? (i := 12) rfl))) (hw _ (List.mem_of_getElem? (i := 1) rfl)) (ty := .int) (by decide) rfl rfl (g := (mkF m 11 #[.val (.ref a1), .val .null, .val (.int p1), .val (.int p2), .val .null, .val (.int p3)] [(.int (-1 : Int32)), (.ref a1)])) rfl rfl (hb hby d1_11)
  refine OGo.to st7 ?_
  have Fw7 : Fld Z h7 a1 "com/example/dromos/dromos/service/Definition" "free" "I" (.int (-1 : Int32)) := f6.same W7
  have N7 := Fr.snoc X7 N2 g1
  have z8 : n0 ≤ h7.size := Nat.le_trans z3 (Keep.of_wr W7).1
  have K9 : Keep h0 h7 [a1] := K4.wr W7 (Or.inl (List.mem_of_getElem? (i := 0) rfl))
  show OGo p e below _ (T7.setTop (mkF m 14 #[.val (.ref a1), .val .null, .val (.int p1), .val (.int p2), .val .null, .val (.int p3)] []))
  refine OGo.to (fun _ k => XS.aloadN X7.here hx rfl (hb hby d1_14) rfl rfl k) ?_
  show OGo p e below _ (T7.setTop (mkF m 15 #[.val (.ref a1), .val .null, .val (.int p1), .val (.int p2), .val .null, .val (.int p3)] [(.ref a1)]))
  refine OGo.to (fun _ k => XS.iconst X7.here hx rfl (hb hby d1_15) k) ?_
  show OGo p e below _ (T7.setTop (mkF m 16 #[.val (.ref a1), .val .null, .val (.int p1), .val (.int p2), .val .null, .val (.int p3)] [(.int (0 : Int32)), (.ref a1)]))
  have f11 : Exa Z h7 a1 "com/example/dromos/dromos/service/Definition" := (f5.wr W7)
  obtain ⟨T10, h10, k10, X10, e10, E10, A10, st10⟩ := newP X7 hx hZ (hw _ (List.mem_of_getElem? (i := 13) rfl)) e7 (g := (mkF m 16 #[.val (.ref a1), .val .null, .val (.int p1), .val (.int p2), .val .null, .val (.int p3)] [(.int (0 : Int32)), (.ref a1)])) rfl (hb hby d1_16) rfl (by decide) (cap := 0) (by decide) (by decide) (by decide) (by decide)
  obtain ⟨b10, g10⟩ : ∃ z, z = h7.size := ⟨_, rfl⟩
  rw [← g10] at A10 st10
  have g_b10 : n0 ≤ b10 := Nat.le_trans z8 (Nat.le_of_eq g10.symm)
  have sz_b10 : h0.size ≤ b10 := Nat.le_trans K9.1 (Nat.le_of_eq g10.symm)
  refine OGo.to st10 ?_
  have ne_a1_b10 : a1 ≠ b10 := Nat.ne_of_lt (Nat.lt_of_lt_of_le f11.lt (Nat.le_of_eq g10.symm))
  have z12 : n0 ≤ h10.size := Nat.le_trans z8 E10.1
  have K13 : Keep h0 h10 [a1] := K9.ext E10
  have V10 : Arv Z h10 b10 k10 .int (0 : Int32) [] (.int (0 : Int32)) := (Arv.new A10 (by decide)).pad (pad_rep [] (.int (0 : Int32)) 0)
  show OGo p e below _ (T10.setTop (mkF m 18 #[.val (.ref a1), .val .null, .val (.int p1), .val (.int p2), .val .null, .val (.int p3)] [(.ref b10), (.ref a1)]))
  have f14 : Exa Z h10 a1 "com/example/dromos/dromos/service/Definition" := (f11.ext E10)
  have f15 : Fld Z h10 a1 "com/example/dromos/dromos/service/Definition" "operators" "[I" .null := (((F2.other W2 (Or.inr (slot_ne (Or.inl (hw _ (List.mem_of_getElem? (i := 15) rfl))) (Or.inl (hw _ (List.mem_of_getElem? (i := 10) rfl))) (by decide) (t := (.array .int)) (t' := .int) (by decide) (by decide)))).other W7 (Or.inr (slot_ne (Or.inl (hw _ (List.mem_of_getElem? (i := 15) rfl))) (Or.inl (hw _ (List.mem_of_getElem? (i := 12) rfl))) (by decide) (t := (.array .int)) (t' := .int) (by decide) (by decide)))).ext E10)
  obtain ⟨T16, h16, X16, e16, W16, st16⟩ := putF X10 hx hZ hown (host := "") (Or.inl (hw _ (List.mem_of_getElem? (i := 14) rfl))) Via.refl e10 f15 f14 (Or.inl (hw _ (List.mem_of_getElem? (i := 15) rfl))) (hw _ (List.mem_of_getElem? (i := 1) rfl)) (ty := (.array .int)) (by decide) rfl rfl (g := (mkF m 18 #[.val (.ref a1), .val .null, .val (.int p1), .val (.int p2), .val .null, .val (.int p3)] [(.ref b10), (.ref a1)])) rfl rfl (hb hby d1_18)
  refine OGo.to st16 ?_
  have Fw16 : Fld Z h16 a1 "com/example/dromos/dromos/service/Definition" "operators" "[I" (.ref b10) := f15.same W16
  have N16 := Fr.snoc X16 N7 g1
  have z17 : n0 ≤ h16.size := Nat.le_trans z12 (Keep.of_wr W16).1
  have K18 : Keep h0 h16 [a1] := K13.wr W16 (Or.inl (List.mem_of_getElem? (i := 0) rfl))
  show OGo p e below _ (T16.setTop (mkF m 21 #[.val (.ref a1), .val .null, .val (.int p1), .val (.int p2), .val .null, .val (.int p3)] []))
  refine OGo.to (fun _ k => XS.aloadN X16.here hx rfl (hb hby d1_21) rfl rfl k) ?_
  show OGo p e below _ (T16.setTop (mkF m 22 #[.val (.ref a1), .val .null, .val (.int p1), .val (.int p2), .val .null, .val (.int p3)] [(.ref a1)]))
  refine OGo.to (fun _ k => XS.aloadN X16.here hx rfl (hb hby d1_22) rfl rfl k) ?_
  show OGo p e below _ (T16.setTop (mkF m 23 #[.val (.ref a1), .val .null, .val (.int p1), .val (.int p2), .val .null, .val (.int p3)] [.null, (.ref a1)]))
  have f19 : Exa Z h16 a1 "com/example/dromos/dromos/service/Definition" := (f14.wr W16)
  have f20 : Fld Z h16 a1 "com/example/dromos/dromos/service/Definition" "name" "Ljava/lang/String;" .null := ((((F3.other W2 (Or.inr (slot_ne (Or.inr (hw _ (List.mem_of_getElem? (i := 17) rfl))) (Or.inl (hw _ (List.mem_of_getElem? (i := 10) rfl))) (by decide) (t := (.object "java/lang/String")) (t' := .int) (by decide) (by decide)))).other W7 (Or.inr (slot_ne (Or.inr (hw _ (List.mem_of_getElem? (i := 17) rfl))) (Or.inl (hw _ (List.mem_of_getElem? (i := 12) rfl))) (by decide) (t := (.object "java/lang/String")) (t' := .int) (by decide) (by decide)))).ext E10).other W16 (Or.inr (slot_ne (Or.inr (hw _ (List.mem_of_getElem? (i := 17) rfl))) (Or.inl (hw _ (List.mem_of_getElem? (i := 15) rfl))) (by decide) (t := (.object "java/lang/String")) (t' := (.array .int)) (by decide) (by decide))))
  obtain ⟨T21, h21, X21, e21, W21, st21⟩ := putF X16 hx hZ hown (host := "") (Or.inl (hw _ (List.mem_of_getElem? (i := 16) rfl))) Via.refl e16 f20 f19 (Or.inr ⟨(hw _ (List.mem_of_getElem? (i := 17) rfl)), rfl, hnm⟩) (hw _ (List.mem_of_getElem? (i := 1) rfl)) (ty := (.object "java/lang/String")) (by decide) rfl rfl (g := (mkF m 23 #[.val (.ref a1), .val .null, .val (.int p1), .val (.int p2), .val .null, .val (.int p3)] [.null, (.ref a1)])) rfl rfl (hb hby d1_23)
  refine OGo.to st21 ?_
  have Fw21 : Fld Z h21 a1 "com/example/dromos/dromos/service/Definition" "name" "Ljava/lang/String;" .null := f20.same W21
  have N21 := Fr.snoc X21 N16 g1
  have z22 : n0 ≤ h21.size := Nat.le_trans z17 (Keep.of_wr W21).1
  have K23 : Keep h0 h21 [a1] := K18.wr W21 (Or.inl (List.mem_of_getElem? (i := 0) rfl))
  show OGo p e below _ (T21.setTop (mkF m 26 #[.val (.ref a1), .val .null, .val (.int p1), .val (.int p2), .val .null, .val (.int p3)] []))
  refine OGo.to (fun _ k => XS.aloadN X21.here hx rfl (hb hby d1_26) rfl rfl k) ?_
  show OGo p e below _ (T21.setTop (mkF m 27 #[.val (.ref a1), .val .null, .val (.int p1), .val (.int p2), .val .null, .val (.int p3)] [(.ref a1)]))
  refine OGo.to (fun _ k => XS.iloadN X21.here hx rfl (hb hby d1_27) rfl k) ?_
  show OGo p e below _ (T21.setTop (mkF m 28 #[.val (.ref a1), .val .null, .val (.int p1), .val (.int p2), .val .null, .val (.int p3)] [(.int p1), (.ref a1)]))
  have f24 : Exa Z h21 a1 "com/example/dromos/dromos/service/Definition" := (f19.wr W21)
  have f25 : Fld Z h21 a1 "com/example/dromos/dromos/service/Definition" "arity" "I" (.int (0 : Int32)) := (((((F4.other W2 (Or.inr (slot_ne (Or.inr (hw _ (List.mem_of_getElem? (i := 19) rfl))) (Or.inl (hw _ (List.mem_of_getElem? (i := 10) rfl))) (by decide) (t := .int) (t' := .int) (by decide) (by decide)))).other W7 (Or.inr (slot_ne (Or.inr (hw _ (List.mem_of_getElem? (i := 19) rfl))) (Or.inl (hw _ (List.mem_of_getElem? (i := 12) rfl))) (by decide) (t := .int) (t' := .int) (by decide) (by decide)))).ext E10).other W16 (Or.inr (slot_ne (Or.inr (hw _ (List.mem_of_getElem? (i := 19) rfl))) (Or.inl (hw _ (List.mem_of_getElem? (i := 15) rfl))) (by decide) (t := .int) (t' := (.array .int)) (by decide) (by decide)))).other W21 (Or.inr (slot_ne (Or.inr (hw _ (List.mem_of_getElem? (i := 19) rfl))) (Or.inr (hw _ (List.mem_of_getElem? (i := 17) rfl))) (by decide) (t := .int) (t' := (.object "java/lang/String")) (by decide) (by decide))))
  obtain ⟨T26, h26, X26, e26, W26, st26⟩ := putF X21 hx hZ hown (host := "") (Or.inl (hw _ (List.mem_of_getElem? (i := 18) rfl))) Via.refl e21 f25 f24 (Or.inr ⟨(hw _ (List.mem_of_getElem? (i := 19) rfl)), rfl, hnm⟩) (hw _ (List.mem_of_getElem? (i := 1) rfl)) (ty := .int) (by decide) rfl rfl (g := (mkF m 28 #[.val (.ref a1), .val .null, .val (.int p1), .val (.int p2), .val .null, .val (.int p3)] [(.int p1), (.ref a1)])) rfl rfl (hb hby d1_28)
  refine OGo.to st26 ?_
  have Fw26 : Fld Z h26 a1 "com/example/dromos/dromos/service/Definition" "arity" "I" (.int p1) := f25.same W26
  have N26 := Fr.snoc X26 N21 g1
  have z27 : n0 ≤ h26.size := Nat.le_trans z22 (Keep.of_wr W26).1
  have K28 : Keep h0 h26 [a1] := K23.wr W26 (Or.inl (List.mem_of_getElem? (i := 0) rfl))
  show OGo p e below _ (T26.setTop (mkF m 31 #[.val (.ref a1), .val .null, .val (.int p1), .val (.int p2), .val .null, .val (.int p3)] []))
  refine OGo.to (fun _ k => XS.aloadN X26.here hx rfl (hb hby d1_31) rfl rfl k) ?_
  show OGo p e below _ (T26.setTop (mkF m 32 #[.val (.ref a1), .val .null, .val (.int p1), .val (.int p2), .val .null, .val (.int p3)] [(.ref a1)]))
  refine OGo.to (fun _ k => XS.iloadN X26.here hx rfl (hb hby d1_32) rfl k) ?_
  show OGo p e below _ (T26.setTop (mkF m 33 #[.val (.ref a1), .val .null, .val (.int p1), .val (.int p2), .val .null, .val (.int p3)] [(.int p2), (.ref a1)]))
  have f29 : Exa Z h26 a1 "com/example/dromos/dromos/service/Definition" := (f24.wr W26)
  have f30 : Fld Z h26 a1 "com/example/dromos/dromos/service/Definition" "hidden" "I" (.int (0 : Int32)) := ((((((F5.other W2 (Or.inr (slot_ne (Or.inr (hw _ (List.mem_of_getElem? (i := 21) rfl))) (Or.inl (hw _ (List.mem_of_getElem? (i := 10) rfl))) (by decide) (t := .int) (t' := .int) (by decide) (by decide)))).other W7 (Or.inr (slot_ne (Or.inr (hw _ (List.mem_of_getElem? (i := 21) rfl))) (Or.inl (hw _ (List.mem_of_getElem? (i := 12) rfl))) (by decide) (t := .int) (t' := .int) (by decide) (by decide)))).ext E10).other W16 (Or.inr (slot_ne (Or.inr (hw _ (List.mem_of_getElem? (i := 21) rfl))) (Or.inl (hw _ (List.mem_of_getElem? (i := 15) rfl))) (by decide) (t := .int) (t' := (.array .int)) (by decide) (by decide)))).other W21 (Or.inr (slot_ne (Or.inr (hw _ (List.mem_of_getElem? (i := 21) rfl))) (Or.inr (hw _ (List.mem_of_getElem? (i := 17) rfl))) (by decide) (t := .int) (t' := (.object "java/lang/String")) (by decide) (by decide)))).other W26 (Or.inr (slot_ne (Or.inr (hw _ (List.mem_of_getElem? (i := 21) rfl))) (Or.inr (hw _ (List.mem_of_getElem? (i := 19) rfl))) (by decide) (t := .int) (t' := .int) (by decide) (by decide))))
  obtain ⟨T31, h31, X31, e31, W31, st31⟩ := putF X26 hx hZ hown (host := "") (Or.inl (hw _ (List.mem_of_getElem? (i := 20) rfl))) Via.refl e26 f30 f29 (Or.inr ⟨(hw _ (List.mem_of_getElem? (i := 21) rfl)), rfl, hnm⟩) (hw _ (List.mem_of_getElem? (i := 1) rfl)) (ty := .int) (by decide) rfl rfl (g := (mkF m 33 #[.val (.ref a1), .val .null, .val (.int p1), .val (.int p2), .val .null, .val (.int p3)] [(.int p2), (.ref a1)])) rfl rfl (hb hby d1_33)
  refine OGo.to st31 ?_
  have Fw31 : Fld Z h31 a1 "com/example/dromos/dromos/service/Definition" "hidden" "I" (.int p2) := f30.same W31
  have N31 := Fr.snoc X31 N26 g1
  have z32 : n0 ≤ h31.size := Nat.le_trans z27 (Keep.of_wr W31).1
  have K33 : Keep h0 h31 [a1] := K28.wr W31 (Or.inl (List.mem_of_getElem? (i := 0) rfl))
  show OGo p e below _ (T31.setTop (mkF m 36 #[.val (.ref a1), .val .null, .val (.int p1), .val (.int p2), .val .null, .val (.int p3)] []))
  refine OGo.to (fun _ k => XS.aloadN X31.here hx rfl (hb hby d1_36) rfl rfl k) ?_
  show OGo p e below _ (T31.setTop (mkF m 37 #[.val (.ref a1), .val .null, .val (.int p1), .val (.int p2), .val .null, .val (.int p3)] [(.ref a1)]))
  refine OGo.to (fun _ k => XS.aload X31.here hx rfl (hb hby d1_37) rfl rfl k) ?_
  show OGo p e below _ (T31.setTop (mkF m 39 #[.val (.ref a1), .val .null, .val (.int p1), .val (.int p2), .val .null, .val (.int p3)] [.null, (.ref a1)]))
  have f34 : Exa Z h31 a1 "com/example/dromos/dromos/service/Definition" := (f29.wr W31)
  have f35 : Fld Z h31 a1 "com/example/dromos/dromos/service/Definition" "at" "Lcom/example/dromos/dromos/model/Location;" .null := (((((((F6.other W2 (Or.inr (slot_ne (Or.inr (hw _ (List.mem_of_getElem? (i := 23) rfl))) (Or.inl (hw _ (List.mem_of_getElem? (i := 10) rfl))) (by decide) (t := (.object "com/example/dromos/dromos/model/Location")) (t' := .int) (by decide) (by decide)))).other W7 (Or.inr (slot_ne (Or.inr (hw _ (List.mem_of_getElem? (i := 23) rfl))) (Or.inl (hw _ (List.mem_of_getElem? (i := 12) rfl))) (by decide) (t := (.object "com/example/dromos/dromos/model/Location")) (t' := .int) (by decide) (by decide)))).ext E10).other W16 (Or.inr (slot_ne (Or.inr (hw _ (List.mem_of_getElem? (i := 23) rfl))) (Or.inl (hw _ (List.mem_of_getElem? (i := 15) rfl))) (by decide) (t := (.object "com/example/dromos/dromos/model/Location")) (t' := (.array .int)) (by decide) (by decide)))).other W21 (Or.inr (slot_ne (Or.inr (hw _ (List.mem_of_getElem? (i := 23) rfl))) (Or.inr (hw _ (List.mem_of_getElem? (i := 17) rfl))) (by decide) (t := (.object "com/example/dromos/dromos/model/Location")) (t' := (.object "java/lang/String")) (by decide) (by decide)))).other W26 (Or.inr (slot_ne (Or.inr (hw _ (List.mem_of_getElem? (i := 23) rfl))) (Or.inr (hw _ (List.mem_of_getElem? (i := 19) rfl))) (by decide) (t := (.object "com/example/dromos/dromos/model/Location")) (t' := .int) (by decide) (by decide)))).other W31 (Or.inr (slot_ne (Or.inr (hw _ (List.mem_of_getElem? (i := 23) rfl))) (Or.inr (hw _ (List.mem_of_getElem? (i := 21) rfl))) (by decide) (t := (.object "com/example/dromos/dromos/model/Location")) (t' := .int) (by decide) (by decide))))
  obtain ⟨T36, h36, X36, e36, W36, st36⟩ := putF X31 hx hZ hown (host := "") (Or.inl (hw _ (List.mem_of_getElem? (i := 22) rfl))) Via.refl e31 f35 f34 (Or.inr ⟨(hw _ (List.mem_of_getElem? (i := 23) rfl)), rfl, hnm⟩) (hw _ (List.mem_of_getElem? (i := 1) rfl)) (ty := (.object "com/example/dromos/dromos/model/Location")) (by decide) rfl rfl (g := (mkF m 39 #[.val (.ref a1), .val .null, .val (.int p1), .val (.int p2), .val .null, .val (.int p3)] [.null, (.ref a1)])) rfl rfl (hb hby d1_39)
  refine OGo.to st36 ?_
  have Fw36 : Fld Z h36 a1 "com/example/dromos/dromos/service/Definition" "at" "Lcom/example/dromos/dromos/model/Location;" .null := f35.same W36
  have N36 := Fr.snoc X36 N31 g1
  have z37 : n0 ≤ h36.size := Nat.le_trans z32 (Keep.of_wr W36).1
  have K38 : Keep h0 h36 [a1] := K33.wr W36 (Or.inl (List.mem_of_getElem? (i := 0) rfl))
  show OGo p e below _ (T36.setTop (mkF m 42 #[.val (.ref a1), .val .null, .val (.int p1), .val (.int p2), .val .null, .val (.int p3)] []))
  refine OGo.to (fun _ k => XS.aloadN X36.here hx rfl (hb hby d1_42) rfl rfl k) ?_
  show OGo p e below _ (T36.setTop (mkF m 43 #[.val (.ref a1), .val .null, .val (.int p1), .val (.int p2), .val .null, .val (.int p3)] [(.ref a1)]))
  refine OGo.to (fun _ k => XS.iload X36.here hx rfl (hb hby d1_43) rfl k) ?_
  show OGo p e below _ (T36.setTop (mkF m 45 #[.val (.ref a1), .val .null, .val (.int p1), .val (.int p2), .val .null, .val (.int p3)] [(.int p3), (.ref a1)]))
  have f39 : Exa Z h36 a1 "com/example/dromos/dromos/service/Definition" := (f34.wr W36)
  have f40 : Fld Z h36 a1 "com/example/dromos/dromos/service/Definition" "lexical" "Z" (.int (0 : Int32)) := ((((((((F7.other W2 (Or.inr (slot_ne (Or.inr (hw _ (List.mem_of_getElem? (i := 25) rfl))) (Or.inl (hw _ (List.mem_of_getElem? (i := 10) rfl))) (by decide) (t := .boolean) (t' := .int) (by decide) (by decide)))).other W7 (Or.inr (slot_ne (Or.inr (hw _ (List.mem_of_getElem? (i := 25) rfl))) (Or.inl (hw _ (List.mem_of_getElem? (i := 12) rfl))) (by decide) (t := .boolean) (t' := .int) (by decide) (by decide)))).ext E10).other W16 (Or.inr (slot_ne (Or.inr (hw _ (List.mem_of_getElem? (i := 25) rfl))) (Or.inl (hw _ (List.mem_of_getElem? (i := 15) rfl))) (by decide) (t := .boolean) (t' := (.array .int)) (by decide) (by decide)))).other W21 (Or.inr (slot_ne (Or.inr (hw _ (List.mem_of_getElem? (i := 25) rfl))) (Or.inr (hw _ (List.mem_of_getElem? (i := 17) rfl))) (by decide) (t := .boolean) (t' := (.object "java/lang/String")) (by decide) (by decide)))).other W26 (Or.inr (slot_ne (Or.inr (hw _ (List.mem_of_getElem? (i := 25) rfl))) (Or.inr (hw _ (List.mem_of_getElem? (i := 19) rfl))) (by decide) (t := .boolean) (t' := .int) (by decide) (by decide)))).other W31 (Or.inr (slot_ne (Or.inr (hw _ (List.mem_of_getElem? (i := 25) rfl))) (Or.inr (hw _ (List.mem_of_getElem? (i := 21) rfl))) (by decide) (t := .boolean) (t' := .int) (by decide) (by decide)))).other W36 (Or.inr (slot_ne (Or.inr (hw _ (List.mem_of_getElem? (i := 25) rfl))) (Or.inr (hw _ (List.mem_of_getElem? (i := 23) rfl))) (by decide) (t := .boolean) (t' := (.object "com/example/dromos/dromos/model/Location")) (by decide) (by decide))))
  obtain ⟨T41, h41, X41, e41, W41, st41⟩ := putF X36 hx hZ hown (host := "") (Or.inl (hw _ (List.mem_of_getElem? (i := 24) rfl))) Via.refl e36 f40 f39 (Or.inr ⟨(hw _ (List.mem_of_getElem? (i := 25) rfl)), rfl, hnm⟩) (hw _ (List.mem_of_getElem? (i := 1) rfl)) (ty := .boolean) (by decide) (own_b hb1).1 (own_b hb1).2 (g := (mkF m 45 #[.val (.ref a1), .val .null, .val (.int p1), .val (.int p2), .val .null, .val (.int p3)] [(.int p3), (.ref a1)])) rfl rfl (hb hby d1_45)
  refine OGo.to st41 ?_
  have Fw41 : Fld Z h41 a1 "com/example/dromos/dromos/service/Definition" "lexical" "Z" (.int p3) := f40.same W41
  have N41 := Fr.snoc X41 N36 g1
  have z42 : n0 ≤ h41.size := Nat.le_trans z37 (Keep.of_wr W41).1
  have K43 : Keep h0 h41 [a1] := K38.wr W41 (Or.inl (List.mem_of_getElem? (i := 0) rfl))
  show OGo p e below _ (T41.setTop (mkF m 48 #[.val (.ref a1), .val .null, .val (.int p1), .val (.int p2), .val .null, .val (.int p3)] []))
  refine OGo.ret (Q := Q1 Z a1 p1 p2 p3 h0 n0) X41 none (fun _ => rfl) Bd.notSynchronized (fun fs hr => X41.returnOut hx Bd.returns (hb hby d1_48) hr) ?_ (by decide) (by decide)
  have f44 : Fld Z h41 a1 "com/example/dromos/dromos/service/Definition" "arity" "I" (.int p1) := (((Fw26.other W31 (Or.inr (slot_ne (Or.inr (hw _ (List.mem_of_getElem? (i := 19) rfl))) (Or.inr (hw _ (List.mem_of_getElem? (i := 21) rfl))) (by decide) (t := .int) (t' := .int) (by decide) (by decide)))).other W36 (Or.inr (slot_ne (Or.inr (hw _ (List.mem_of_getElem? (i := 19) rfl))) (Or.inr (hw _ (List.mem_of_getElem? (i := 23) rfl))) (by decide) (t := .int) (t' := (.object "com/example/dromos/dromos/model/Location")) (by decide) (by decide)))).other W41 (Or.inr (slot_ne (Or.inr (hw _ (List.mem_of_getElem? (i := 19) rfl))) (Or.inr (hw _ (List.mem_of_getElem? (i := 25) rfl))) (by decide) (t := .int) (t' := .boolean) (by decide) (by decide))))
  have f45 : Fld Z h41 a1 "com/example/dromos/dromos/service/Definition" "bound" "I" (.int (-1 : Int32)) := ((((((((Fw2.other W7 (Or.inr (slot_ne (Or.inl (hw _ (List.mem_of_getElem? (i := 10) rfl))) (Or.inl (hw _ (List.mem_of_getElem? (i := 12) rfl))) (by decide) (t := .int) (t' := .int) (by decide) (by decide)))).ext E10).other W16 (Or.inr (slot_ne (Or.inl (hw _ (List.mem_of_getElem? (i := 10) rfl))) (Or.inl (hw _ (List.mem_of_getElem? (i := 15) rfl))) (by decide) (t := .int) (t' := (.array .int)) (by decide) (by decide)))).other W21 (Or.inr (slot_ne (Or.inl (hw _ (List.mem_of_getElem? (i := 10) rfl))) (Or.inr (hw _ (List.mem_of_getElem? (i := 17) rfl))) (by decide) (t := .int) (t' := (.object "java/lang/String")) (by decide) (by decide)))).other W26 (Or.inr (slot_ne (Or.inl (hw _ (List.mem_of_getElem? (i := 10) rfl))) (Or.inr (hw _ (List.mem_of_getElem? (i := 19) rfl))) (by decide) (t := .int) (t' := .int) (by decide) (by decide)))).other W31 (Or.inr (slot_ne (Or.inl (hw _ (List.mem_of_getElem? (i := 10) rfl))) (Or.inr (hw _ (List.mem_of_getElem? (i := 21) rfl))) (by decide) (t := .int) (t' := .int) (by decide) (by decide)))).other W36 (Or.inr (slot_ne (Or.inl (hw _ (List.mem_of_getElem? (i := 10) rfl))) (Or.inr (hw _ (List.mem_of_getElem? (i := 23) rfl))) (by decide) (t := .int) (t' := (.object "com/example/dromos/dromos/model/Location")) (by decide) (by decide)))).other W41 (Or.inr (slot_ne (Or.inl (hw _ (List.mem_of_getElem? (i := 10) rfl))) (Or.inr (hw _ (List.mem_of_getElem? (i := 25) rfl))) (by decide) (t := .int) (t' := .boolean) (by decide) (by decide))))
  have f46 : Fld Z h41 a1 "com/example/dromos/dromos/service/Definition" "free" "I" (.int (-1 : Int32)) := (((((((Fw7.ext E10).other W16 (Or.inr (slot_ne (Or.inl (hw _ (List.mem_of_getElem? (i := 12) rfl))) (Or.inl (hw _ (List.mem_of_getElem? (i := 15) rfl))) (by decide) (t := .int) (t' := (.array .int)) (by decide) (by decide)))).other W21 (Or.inr (slot_ne (Or.inl (hw _ (List.mem_of_getElem? (i := 12) rfl))) (Or.inr (hw _ (List.mem_of_getElem? (i := 17) rfl))) (by decide) (t := .int) (t' := (.object "java/lang/String")) (by decide) (by decide)))).other W26 (Or.inr (slot_ne (Or.inl (hw _ (List.mem_of_getElem? (i := 12) rfl))) (Or.inr (hw _ (List.mem_of_getElem? (i := 19) rfl))) (by decide) (t := .int) (t' := .int) (by decide) (by decide)))).other W31 (Or.inr (slot_ne (Or.inl (hw _ (List.mem_of_getElem? (i := 12) rfl))) (Or.inr (hw _ (List.mem_of_getElem? (i := 21) rfl))) (by decide) (t := .int) (t' := .int) (by decide) (by decide)))).other W36 (Or.inr (slot_ne (Or.inl (hw _ (List.mem_of_getElem? (i := 12) rfl))) (Or.inr (hw _ (List.mem_of_getElem? (i := 23) rfl))) (by decide) (t := .int) (t' := (.object "com/example/dromos/dromos/model/Location")) (by decide) (by decide)))).other W41 (Or.inr (slot_ne (Or.inl (hw _ (List.mem_of_getElem? (i := 12) rfl))) (Or.inr (hw _ (List.mem_of_getElem? (i := 25) rfl))) (by decide) (t := .int) (t' := .boolean) (by decide) (by decide))))
  have f47 : Fld Z h41 a1 "com/example/dromos/dromos/service/Definition" "body" "Lcom/example/dromos/dromos/service/Node;" .null := (((((((((F8.other W2 (Or.inr (slot_ne (Or.inl (hw _ (List.mem_of_getElem? (i := 32) rfl))) (Or.inl (hw _ (List.mem_of_getElem? (i := 10) rfl))) (by decide) (t := (.object "com/example/dromos/dromos/service/Node")) (t' := .int) (by decide) (by decide)))).other W7 (Or.inr (slot_ne (Or.inl (hw _ (List.mem_of_getElem? (i := 32) rfl))) (Or.inl (hw _ (List.mem_of_getElem? (i := 12) rfl))) (by decide) (t := (.object "com/example/dromos/dromos/service/Node")) (t' := .int) (by decide) (by decide)))).ext E10).other W16 (Or.inr (slot_ne (Or.inl (hw _ (List.mem_of_getElem? (i := 32) rfl))) (Or.inl (hw _ (List.mem_of_getElem? (i := 15) rfl))) (by decide) (t := (.object "com/example/dromos/dromos/service/Node")) (t' := (.array .int)) (by decide) (by decide)))).other W21 (Or.inr (slot_ne (Or.inl (hw _ (List.mem_of_getElem? (i := 32) rfl))) (Or.inr (hw _ (List.mem_of_getElem? (i := 17) rfl))) (by decide) (t := (.object "com/example/dromos/dromos/service/Node")) (t' := (.object "java/lang/String")) (by decide) (by decide)))).other W26 (Or.inr (slot_ne (Or.inl (hw _ (List.mem_of_getElem? (i := 32) rfl))) (Or.inr (hw _ (List.mem_of_getElem? (i := 19) rfl))) (by decide) (t := (.object "com/example/dromos/dromos/service/Node")) (t' := .int) (by decide) (by decide)))).other W31 (Or.inr (slot_ne (Or.inl (hw _ (List.mem_of_getElem? (i := 32) rfl))) (Or.inr (hw _ (List.mem_of_getElem? (i := 21) rfl))) (by decide) (t := (.object "com/example/dromos/dromos/service/Node")) (t' := .int) (by decide) (by decide)))).other W36 (Or.inr (slot_ne (Or.inl (hw _ (List.mem_of_getElem? (i := 32) rfl))) (Or.inr (hw _ (List.mem_of_getElem? (i := 23) rfl))) (by decide) (t := (.object "com/example/dromos/dromos/service/Node")) (t' := (.object "com/example/dromos/dromos/model/Location")) (by decide) (by decide)))).other W41 (Or.inr (slot_ne (Or.inl (hw _ (List.mem_of_getElem? (i := 32) rfl))) (Or.inr (hw _ (List.mem_of_getElem? (i := 25) rfl))) (by decide) (t := (.object "com/example/dromos/dromos/service/Node")) (t' := .boolean) (by decide) (by decide))))
  have f48 : Fld Z h41 a1 "com/example/dromos/dromos/service/Definition" "slots" "I" (.int (0 : Int32)) := (((((((((F9.other W2 (Or.inr (slot_ne (Or.inl (hw _ (List.mem_of_getElem? (i := 34) rfl))) (Or.inl (hw _ (List.mem_of_getElem? (i := 10) rfl))) (by decide) (t := .int) (t' := .int) (by decide) (by decide)))).other W7 (Or.inr (slot_ne (Or.inl (hw _ (List.mem_of_getElem? (i := 34) rfl))) (Or.inl (hw _ (List.mem_of_getElem? (i := 12) rfl))) (by decide) (t := .int) (t' := .int) (by decide) (by decide)))).ext E10).other W16 (Or.inr (slot_ne (Or.inl (hw _ (List.mem_of_getElem? (i := 34) rfl))) (Or.inl (hw _ (List.mem_of_getElem? (i := 15) rfl))) (by decide) (t := .int) (t' := (.array .int)) (by decide) (by decide)))).other W21 (Or.inr (slot_ne (Or.inl (hw _ (List.mem_of_getElem? (i := 34) rfl))) (Or.inr (hw _ (List.mem_of_getElem? (i := 17) rfl))) (by decide) (t := .int) (t' := (.object "java/lang/String")) (by decide) (by decide)))).other W26 (Or.inr (slot_ne (Or.inl (hw _ (List.mem_of_getElem? (i := 34) rfl))) (Or.inr (hw _ (List.mem_of_getElem? (i := 19) rfl))) (by decide) (t := .int) (t' := .int) (by decide) (by decide)))).other W31 (Or.inr (slot_ne (Or.inl (hw _ (List.mem_of_getElem? (i := 34) rfl))) (Or.inr (hw _ (List.mem_of_getElem? (i := 21) rfl))) (by decide) (t := .int) (t' := .int) (by decide) (by decide)))).other W36 (Or.inr (slot_ne (Or.inl (hw _ (List.mem_of_getElem? (i := 34) rfl))) (Or.inr (hw _ (List.mem_of_getElem? (i := 23) rfl))) (by decide) (t := .int) (t' := (.object "com/example/dromos/dromos/model/Location")) (by decide) (by decide)))).other W41 (Or.inr (slot_ne (Or.inl (hw _ (List.mem_of_getElem? (i := 34) rfl))) (Or.inr (hw _ (List.mem_of_getElem? (i := 25) rfl))) (by decide) (t := .int) (t' := .boolean) (by decide) (by decide))))
  have f49 : Fld Z h41 a1 "com/example/dromos/dromos/service/Definition" "recursive" "Z" (.int (0 : Int32)) := (((((((((F10.other W2 (Or.inr (slot_ne (Or.inl (hw _ (List.mem_of_getElem? (i := 36) rfl))) (Or.inl (hw _ (List.mem_of_getElem? (i := 10) rfl))) (by decide) (t := .boolean) (t' := .int) (by decide) (by decide)))).other W7 (Or.inr (slot_ne (Or.inl (hw _ (List.mem_of_getElem? (i := 36) rfl))) (Or.inl (hw _ (List.mem_of_getElem? (i := 12) rfl))) (by decide) (t := .boolean) (t' := .int) (by decide) (by decide)))).ext E10).other W16 (Or.inr (slot_ne (Or.inl (hw _ (List.mem_of_getElem? (i := 36) rfl))) (Or.inl (hw _ (List.mem_of_getElem? (i := 15) rfl))) (by decide) (t := .boolean) (t' := (.array .int)) (by decide) (by decide)))).other W21 (Or.inr (slot_ne (Or.inl (hw _ (List.mem_of_getElem? (i := 36) rfl))) (Or.inr (hw _ (List.mem_of_getElem? (i := 17) rfl))) (by decide) (t := .boolean) (t' := (.object "java/lang/String")) (by decide) (by decide)))).other W26 (Or.inr (slot_ne (Or.inl (hw _ (List.mem_of_getElem? (i := 36) rfl))) (Or.inr (hw _ (List.mem_of_getElem? (i := 19) rfl))) (by decide) (t := .boolean) (t' := .int) (by decide) (by decide)))).other W31 (Or.inr (slot_ne (Or.inl (hw _ (List.mem_of_getElem? (i := 36) rfl))) (Or.inr (hw _ (List.mem_of_getElem? (i := 21) rfl))) (by decide) (t := .boolean) (t' := .int) (by decide) (by decide)))).other W36 (Or.inr (slot_ne (Or.inl (hw _ (List.mem_of_getElem? (i := 36) rfl))) (Or.inr (hw _ (List.mem_of_getElem? (i := 23) rfl))) (by decide) (t := .boolean) (t' := (.object "com/example/dromos/dromos/model/Location")) (by decide) (by decide)))).other W41 (Or.inr (slot_ne (Or.inl (hw _ (List.mem_of_getElem? (i := 36) rfl))) (Or.inr (hw _ (List.mem_of_getElem? (i := 25) rfl))) (by decide) (t := .boolean) (t' := .boolean) (by decide) (by decide))))
  have f50 : Fld Z h41 a1 "com/example/dromos/dromos/service/Definition" "replacesVariable" "Z" (.int (0 : Int32)) := (((((((((F11.other W2 (Or.inr (slot_ne (Or.inl (hw _ (List.mem_of_getElem? (i := 38) rfl))) (Or.inl (hw _ (List.mem_of_getElem? (i := 10) rfl))) (by decide) (t := .boolean) (t' := .int) (by decide) (by decide)))).other W7 (Or.inr (slot_ne (Or.inl (hw _ (List.mem_of_getElem? (i := 38) rfl))) (Or.inl (hw _ (List.mem_of_getElem? (i := 12) rfl))) (by decide) (t := .boolean) (t' := .int) (by decide) (by decide)))).ext E10).other W16 (Or.inr (slot_ne (Or.inl (hw _ (List.mem_of_getElem? (i := 38) rfl))) (Or.inl (hw _ (List.mem_of_getElem? (i := 15) rfl))) (by decide) (t := .boolean) (t' := (.array .int)) (by decide) (by decide)))).other W21 (Or.inr (slot_ne (Or.inl (hw _ (List.mem_of_getElem? (i := 38) rfl))) (Or.inr (hw _ (List.mem_of_getElem? (i := 17) rfl))) (by decide) (t := .boolean) (t' := (.object "java/lang/String")) (by decide) (by decide)))).other W26 (Or.inr (slot_ne (Or.inl (hw _ (List.mem_of_getElem? (i := 38) rfl))) (Or.inr (hw _ (List.mem_of_getElem? (i := 19) rfl))) (by decide) (t := .boolean) (t' := .int) (by decide) (by decide)))).other W31 (Or.inr (slot_ne (Or.inl (hw _ (List.mem_of_getElem? (i := 38) rfl))) (Or.inr (hw _ (List.mem_of_getElem? (i := 21) rfl))) (by decide) (t := .boolean) (t' := .int) (by decide) (by decide)))).other W36 (Or.inr (slot_ne (Or.inl (hw _ (List.mem_of_getElem? (i := 38) rfl))) (Or.inr (hw _ (List.mem_of_getElem? (i := 23) rfl))) (by decide) (t := .boolean) (t' := (.object "com/example/dromos/dromos/model/Location")) (by decide) (by decide)))).other W41 (Or.inr (slot_ne (Or.inl (hw _ (List.mem_of_getElem? (i := 38) rfl))) (Or.inr (hw _ (List.mem_of_getElem? (i := 25) rfl))) (by decide) (t := .boolean) (t' := .boolean) (by decide) (by decide))))
  show Q1 Z a1 p1 p2 p3 h0 n0 _ T41.heap _
  rw [e41]
  exact ⟨rfl, N41, K43, f44, Fw41, f45, f46, f47, f48, f49, f50⟩
theorem d6_0 : decode prog_199_method_1_code 0 = .ok (.aload_n 0, 1) := by decide +kernel
theorem d6_1 : decode prog_199_method_1_code 1 = .ok (.invokespecial 1, 3) := by decide +kernel
theorem d6_4 : decode prog_199_method_1_code 4 = .ok (.aload_n 0, 1) := by decide +kernel
theorem d6_5 : decode prog_199_method_1_code 5 = .ok (.aload_n 1, 1) := by decide +kernel
theorem d6_6 : decode prog_199_method_1_code 6 = .ok (.putfield 7, 3) := by decide +kernel
theorem d6_9 : decode prog_199_method_1_code 9 = .ok (.return_, 1) := by decide +kernel
theorem ef_6 (m : MethodId) (x0 : Addr) : entryFrame m #[(.ref x0), .null] 2 = mkF m 0 #[.val (.ref x0), .val .null] [] := by first | (simp [entryFrame, mkF, argsToLocals, Value.category]; done) | rfl
def Q6 (Z : State) (a1 : Addr) (h0 : Heap) (n0 : Nat) (v : Option Value) (h : Heap) (L : List Loc) : Prop := v = none ∧ Fr n0 L ∧ Keep h0 h [a1] ∧ Fld Z h a1 "com/example/dromos/dromos/service/Nodes$Constant" "value" "Lcom/example/dromos/dromos/model/Value;" .null
set_option maxRecDepth 65536 in
set_option maxHeartbeats 40000000 in
theorem rm6 (l : Launch) (Z : State) (a0 : Array Value) (hw : ∀ d ∈ tables_1, d.before a0 Z = true) (ws : List Jvm.Cond) (a1 : Addr) (h0 : Heap) (n0 : Nat) (Z0 : n0 ≤ h0.size) (E1 : Exa Z h0 a1 "com/example/dromos/dromos/service/Nodes$Constant") (F1 : Fld Z h0 a1 "com/example/dromos/dromos/service/Node" "at" "Lcom/example/dromos/dromos/model/Location;" .null) (F2 : Fld Z h0 a1 "com/example/dromos/dromos/service/Nodes$Constant" "value" "Lcom/example/dromos/dromos/model/Value;" .null) (g1 : n0 ≤ a1) :
    MetFree l (⟨"com/example/dromos/dromos/service/Node", "<init>", "(Lcom/example/dromos/dromos/model/Location;)V"⟩ : MethodName) (head1 (Jvm.Cond.code (⟨"com/example/dromos/dromos/service/Node", "<init>", "(Lcom/example/dromos/dromos/model/Location;)V"⟩ : MethodName) prog_199_method_1_code 2 none :: ws) ({ frames := 1, cells := 0, slots := 0, locals := 12 } : Room)) (fun a U => a = #[(.ref a1), .null] ∧ Z.Warmed39 U.vm ∧ U.heap = h0) (fun _ _ _ _ _ => True) (fun _ U o U' => ∃ v L, o = .returned v ∧ Q6 Z a1 h0 n0 v U'.heap L ∧ FrameEnd U o U' L ({ frames := 1, cells := 0, slots := 0, locals := 12 } : Room).cells ({ frames := 1, cells := 0, slots := 0, locals := 12 } : Room).slots) := by
  refine MetFree.of_bodySF (plainFor_of_name pn_1) hisR ?_
  intro p e s m args below meth c s₁ Bd hml0 hP hK
  obtain ⟨rfl, hZ, hh⟩ := hP
  have hx := Bd.exec
  have hby := Bd.bytes
  have hml : c.maxLocals = 2 := hml0
  have hown : s.vm.findClass "com/example/dromos/dromos/service/Node" = some m.cls := findClass_of_methodNamed Bd.named
  have hnm := (name_of_methodNamed Bd.named Bd.method).1
  have X0 : Stand p l e ({ frames := 1, cells := 0, slots := 0, locals := 12 } : Room) s m #[(.ref a1), .null] below meth c s₁ [] 0 0 := Stand.of_body Bd
  have e0 : s₁.heap = h0 := by rw [← hh, Bd.state]; rfl
  have N0 := Fr.nil n0
  show OGo p e below (fun s₂ o => ∃ v L, o = .returned v ∧ Q6 Z a1 h0 n0 v s₂.heap L ∧ FrameEnd s o s₂ L ({ frames := 1, cells := 0, slots := 0, locals := 12 } : Room).cells ({ frames := 1, cells := 0, slots := 0, locals := 12 } : Room).slots) _
  refine OGo.to (fun _ k => castTop (ef_6 m a1) k) ?_
  refine OGo.to (fun _ k => XS.aloadN X0.here hx rfl (hb hby d6_0) rfl rfl k) ?_
  show OGo p e below _ (s₁.setTop (mkF m 1 #[.val (.ref a1), .val .null] [(.ref a1)]))
  obtain ⟨T1, X1, e1, st1⟩ := initO X0 hx hZ hown (hw _ (List.mem_of_getElem? (i := 55) rfl)) (hw _ (List.mem_of_getElem? (i := 7) rfl)) (hw _ (List.mem_of_getElem? (i := 8) rfl)) e0 (g := (mkF m 1 #[.val (.ref a1), .val .null] [(.ref a1)])) rfl (by rw [hml]; rfl) rfl (hb hby d6_1) (by decide) (W := 0) (by show 2 * 0 + _ ≤ _; exact Nat.le_of_eq rfl) (by decide)
  refine OGo.to st1 ?_
  show OGo p e below _ (T1.setTop (mkF m 4 #[.val (.ref a1), .val .null] []))
  refine OGo.to (fun _ k => XS.aloadN X1.here hx rfl (hb hby d6_4) rfl rfl k) ?_
  show OGo p e below _ (T1.setTop (mkF m 5 #[.val (.ref a1), .val .null] [(.ref a1)]))
  refine OGo.to (fun _ k => XS.aloadN X1.here hx rfl (hb hby d6_5) rfl rfl k) ?_
  show OGo p e below _ (T1.setTop (mkF m 6 #[.val (.ref a1), .val .null] [.null, (.ref a1)]))
  obtain ⟨T2, h2, X2, e2, W2, st2⟩ := putF X1 hx hZ hown (host := "") (Or.inl (hw _ (List.mem_of_getElem? (i := 56) rfl))) Via.refl e1 F1 E1 (Or.inr ⟨(hw _ (List.mem_of_getElem? (i := 57) rfl)), rfl, hnm⟩) (hw _ (List.mem_of_getElem? (i := 45) rfl)) (ty := (.object "com/example/dromos/dromos/model/Location")) (by decide) rfl rfl (g := (mkF m 6 #[.val (.ref a1), .val .null] [.null, (.ref a1)])) rfl rfl (hb hby d6_6)
  refine OGo.to st2 ?_
  have Fw2 : Fld Z h2 a1 "com/example/dromos/dromos/service/Node" "at" "Lcom/example/dromos/dromos/model/Location;" .null := F1.same W2
  have N2 := Fr.snoc X2 N0 g1
  have z3 : n0 ≤ h2.size := Nat.le_trans Z0 (Keep.of_wr W2).1
  have K4 : Keep h0 h2 [a1] := (Keep.refl h0 [a1]).wr W2 (Or.inl (List.mem_of_getElem? (i := 0) rfl))
  show OGo p e below _ (T2.setTop (mkF m 9 #[.val (.ref a1), .val .null] []))
  refine OGo.ret (Q := Q6 Z a1 h0 n0) X2 none (fun _ => rfl) Bd.notSynchronized (fun fs hr => X2.returnOut hx Bd.returns (hb hby d6_9) hr) ?_ (by decide) (by decide)
  have f5 : Fld Z h2 a1 "com/example/dromos/dromos/service/Nodes$Constant" "value" "Lcom/example/dromos/dromos/model/Value;" .null := (F2.other W2 (Or.inr (slot_ne (Or.inr (hw _ (List.mem_of_getElem? (i := 59) rfl))) (Or.inr (hw _ (List.mem_of_getElem? (i := 57) rfl))) (by decide) (t := (.object "com/example/dromos/dromos/model/Value")) (t' := (.object "com/example/dromos/dromos/model/Location")) (by decide) (by decide))))
  show Q6 Z a1 h0 n0 _ T2.heap _
  rw [e2]
  exact ⟨rfl, N2, K4, f5⟩
theorem d5_0 : decode prog_208_method_1_code 0 = .ok (.aload_n 0, 1) := by decide +kernel
theorem d5_1 : decode prog_208_method_1_code 1 = .ok (.aload_n 1, 1) := by decide +kernel
theorem d5_2 : decode prog_208_method_1_code 2 = .ok (.invokespecial 1, 3) := by decide +kernel
theorem d5_5 : decode prog_208_method_1_code 5 = .ok (.aload_n 0, 1) := by decide +kernel
theorem d5_6 : decode prog_208_method_1_code 6 = .ok (.aload_n 2, 1) := by decide +kernel
theorem d5_7 : decode prog_208_method_1_code 7 = .ok (.putfield 7, 3) := by decide +kernel
theorem d5_10 : decode prog_208_method_1_code 10 = .ok (.return_, 1) := by decide +kernel
theorem ef_5 (m : MethodId) (x0 : Addr) : entryFrame m #[(.ref x0), .null, .null] 3 = mkF m 0 #[.val (.ref x0), .val .null, .val .null] [] := by first | (simp [entryFrame, mkF, argsToLocals, Value.category]; done) | rfl
def Q5 (Z : State) (a1 : Addr) (h0 : Heap) (n0 : Nat) (v : Option Value) (h : Heap) (L : List Loc) : Prop := v = none ∧ Fr n0 L ∧ Keep h0 h [a1]
set_option maxRecDepth 65536 in
set_option maxHeartbeats 40000000 in
theorem rm5 (l : Launch) (Z : State) (a0 : Array Value) (hw : ∀ d ∈ tables_1, d.before a0 Z = true) (ws : List Jvm.Cond) (a1 : Addr) (h0 : Heap) (n0 : Nat) (Z0 : n0 ≤ h0.size) (E1 : Exa Z h0 a1 "com/example/dromos/dromos/service/Nodes$Constant") (F1 : Fld Z h0 a1 "com/example/dromos/dromos/service/Node" "at" "Lcom/example/dromos/dromos/model/Location;" .null) (F2 : Fld Z h0 a1 "com/example/dromos/dromos/service/Nodes$Constant" "value" "Lcom/example/dromos/dromos/model/Value;" .null) (g1 : n0 ≤ a1) :
    MetFree l (⟨"com/example/dromos/dromos/service/Nodes$Constant", "<init>", "(Lcom/example/dromos/dromos/model/Location;Lcom/example/dromos/dromos/model/Value;)V"⟩ : MethodName) (head1 (Jvm.Cond.code (⟨"com/example/dromos/dromos/service/Nodes$Constant", "<init>", "(Lcom/example/dromos/dromos/model/Location;Lcom/example/dromos/dromos/model/Value;)V"⟩ : MethodName) prog_208_method_1_code 3 none :: ws) ({ frames := 2, cells := 0, slots := 0, locals := 25 } : Room)) (fun a U => a = #[(.ref a1), .null, .null] ∧ Z.Warmed39 U.vm ∧ U.heap = h0) (fun _ _ _ _ _ => True) (fun _ U o U' => ∃ v L, o = .returned v ∧ Q5 Z a1 h0 n0 v U'.heap L ∧ FrameEnd U o U' L ({ frames := 2, cells := 0, slots := 0, locals := 25 } : Room).cells ({ frames := 2, cells := 0, slots := 0, locals := 25 } : Room).slots) := by
  refine MetFree.of_bodySF (plainFor_of_name pn_2) hisR ?_
  intro p e s m args below meth c s₁ Bd hml0 hP hK
  obtain ⟨rfl, hZ, hh⟩ := hP
  have hx := Bd.exec
  have hby := Bd.bytes
  have hml : c.maxLocals = 3 := hml0
  have hown : s.vm.findClass "com/example/dromos/dromos/service/Nodes$Constant" = some m.cls := findClass_of_methodNamed Bd.named
  have hnm := (name_of_methodNamed Bd.named Bd.method).1
  have X0 : Stand p l e ({ frames := 2, cells := 0, slots := 0, locals := 25 } : Room) s m #[(.ref a1), .null, .null] below meth c s₁ [] 0 0 := Stand.of_body Bd
  have e0 : s₁.heap = h0 := by rw [← hh, Bd.state]; rfl
  have N0 := Fr.nil n0
  show OGo p e below (fun s₂ o => ∃ v L, o = .returned v ∧ Q5 Z a1 h0 n0 v s₂.heap L ∧ FrameEnd s o s₂ L ({ frames := 2, cells := 0, slots := 0, locals := 25 } : Room).cells ({ frames := 2, cells := 0, slots := 0, locals := 25 } : Room).slots) _
  refine OGo.to (fun _ k => castTop (ef_5 m a1) k) ?_
  refine OGo.to (fun _ k => XS.aloadN X0.here hx rfl (hb hby d5_0) rfl rfl k) ?_
  show OGo p e below _ (s₁.setTop (mkF m 1 #[.val (.ref a1), .val .null, .val .null] [(.ref a1)]))
  refine OGo.to (fun _ k => XS.aloadN X0.here hx rfl (hb hby d5_1) rfl rfl k) ?_
  show OGo p e below _ (s₁.setTop (mkF m 2 #[.val (.ref a1), .val .null, .val .null] [.null, (.ref a1)]))
  obtain ⟨_, _, ⟨T1, L1, k1, n1⟩, -, X1, ⟨Lc1, hQ1, l1, y1, z1⟩, st1⟩ := X0.specialBack hx (y := (⟨"com/example/dromos/dromos/service/Node", "<init>", "(Lcom/example/dromos/dromos/model/Location;)V"⟩ : MethodName)) rfl hown (mvT hZ (hw _ (List.mem_of_getElem? (i := 50) rfl))) (mvT hZ (hw _ (List.mem_of_getElem? (i := 51) rfl))) (mvT hZ (hw _ (List.mem_of_getElem? (i := 54) rfl))) (by decide) (backOf (W := 0) (rm6 l Z a0 hw [] a1 h0 n0 Z0 E1 F1 F2 g1) hZ (hw _ (List.mem_of_getElem? (i := 54) rfl)) (hw _ (List.mem_of_getElem? (i := 53) rfl)) (by decide) (by decide)) (g := (mkF m 2 #[.val (.ref a1), .val .null, .val .null] [.null, (.ref a1)])) rfl (by rw [hml]; rfl) (Steps.refl _) (a := a1) (argsL := [.null]) (rest := []) (lenOf pd_0 rfl) rfl (by show 2 * 0 + _ ≤ _; exact Nat.le_of_eq rfl) (hb hby d5_2) (fun _ _ => ⟨rfl, e0, (by decide : 0 + 0 ≤ _), (by decide : 0 + 0 ≤ _)⟩)
  dsimp only [Pt.U, Pt.locs, Pt.cells, Pt.slots] at X1 l1 y1 z1 st1 hQ1
  subst l1 y1 z1
  obtain ⟨rfl, N1q, K1, p1_0⟩ := hQ1
  have N1 := Fr.app N0 N1q
  refine OGo.to (fun _ k => st1.trans k) ?_
  have z2 : n0 ≤ T1.heap.size := Nat.le_trans Z0 K1.1
  have K3 : Keep h0 T1.heap [a1] := (Keep.refl h0 [a1]).trans K1 (by intro x hx'; cases List.mem_singleton.mp hx'; exact (Or.inl (List.mem_of_getElem? (i := 0) rfl)))
  show OGo p e below _ (T1.setTop (mkF m 5 #[.val (.ref a1), .val .null, .val .null] []))
  refine OGo.to (fun _ k => XS.aloadN X1.here hx rfl (hb hby d5_5) rfl rfl k) ?_
  show OGo p e below _ (T1.setTop (mkF m 6 #[.val (.ref a1), .val .null, .val .null] [(.ref a1)]))
  refine OGo.to (fun _ k => XS.aloadN X1.here hx rfl (hb hby d5_6) rfl rfl k) ?_
  show OGo p e below _ (T1.setTop (mkF m 7 #[.val (.ref a1), .val .null, .val .null] [.null, (.ref a1)]))
  have f4 : Exa Z T1.heap a1 "com/example/dromos/dromos/service/Nodes$Constant" := (E1.keep K1)
  obtain ⟨T5, h5, X5, e5, W5, st5⟩ := putF X1 hx hZ hown (host := "") (Or.inl (hw _ (List.mem_of_getElem? (i := 58) rfl))) Via.refl (rfl : T1.heap = T1.heap) p1_0 f4 (Or.inr ⟨(hw _ (List.mem_of_getElem? (i := 59) rfl)), rfl, hnm⟩) (hw _ (List.mem_of_getElem? (i := 45) rfl)) (ty := (.object "com/example/dromos/dromos/model/Value")) (by decide) rfl rfl (g := (mkF m 7 #[.val (.ref a1), .val .null, .val .null] [.null, (.ref a1)])) rfl rfl (hb hby d5_7)
  refine OGo.to st5 ?_
  have Fw5 : Fld Z h5 a1 "com/example/dromos/dromos/service/Nodes$Constant" "value" "Lcom/example/dromos/dromos/model/Value;" .null := p1_0.same W5
  have N5 := Fr.snoc X5 N1 g1
  have z6 : n0 ≤ h5.size := Nat.le_trans z2 (Keep.of_wr W5).1
  have K7 : Keep h0 h5 [a1] := K3.wr W5 (Or.inl (List.mem_of_getElem? (i := 0) rfl))
  show OGo p e below _ (T5.setTop (mkF m 10 #[.val (.ref a1), .val .null, .val .null] []))
  refine OGo.ret (Q := Q5 Z a1 h0 n0) X5 none (fun _ => rfl) Bd.notSynchronized (fun fs hr => X5.returnOut hx Bd.returns (hb hby d5_10) hr) ?_ (by decide) (by decide)
  show Q5 Z a1 h0 n0 _ T5.heap _
  rw [e5]
  exact ⟨rfl, N5, K7⟩
theorem d3_0 : decode prog_165_method_3_code 0 = .ok (.aload_n 0, 1) := by decide +kernel
theorem d3_1 : decode prog_165_method_3_code 1 = .ok (.aload_n 1, 1) := by decide +kernel
theorem d3_2 : decode prog_165_method_3_code 2 = .ok (.putfield 41, 3) := by decide +kernel
theorem d3_5 : decode prog_165_method_3_code 5 = .ok (.aload_n 0, 1) := by decide +kernel
theorem d3_6 : decode prog_165_method_3_code 6 = .ok (.iload_n 2, 1) := by decide +kernel
theorem d3_7 : decode prog_165_method_3_code 7 = .ok (.putfield 45, 3) := by decide +kernel
theorem d3_10 : decode prog_165_method_3_code 10 = .ok (.aload_n 0, 1) := by decide +kernel
theorem d3_11 : decode prog_165_method_3_code 11 = .ok (.areturn, 1) := by decide +kernel
theorem ef_defN (m : MethodId) (x0 : Addr) (x2 : Int32) : entryFrame m #[(.ref x0), .null, (.int x2)] 3 = mkF m 0 #[.val (.ref x0), .val .null, .val (.int x2)] [] := by first | (simp [entryFrame, mkF, argsToLocals, Value.category]; done) | rfl
def QdefN (Z : State) (a1 : Addr) (p1 : Int32) (x1 : Int32) (x3 : Int32) (x4 : Int32) (x5 : Int32) (h0 : Heap) (n0 : Nat) (v : Option Value) (h : Heap) (L : List Loc) : Prop := v = some (.ref a1) ∧ Fr n0 L ∧ Keep h0 h [a1] ∧ Fld Z h a1 "com/example/dromos/dromos/service/Definition" "body" "Lcom/example/dromos/dromos/service/Node;" .null ∧ Fld Z h a1 "com/example/dromos/dromos/service/Definition" "slots" "I" (.int p1) ∧ Fld Z h a1 "com/example/dromos/dromos/service/Definition" "arity" "I" (.int x1) ∧ Fld Z h a1 "com/example/dromos/dromos/service/Definition" "lexical" "Z" (.int x3) ∧ Fld Z h a1 "com/example/dromos/dromos/service/Definition" "recursive" "Z" (.int x4) ∧ Fld Z h a1 "com/example/dromos/dromos/service/Definition" "replacesVariable" "Z" (.int x5)
set_option maxRecDepth 65536 in
set_option maxHeartbeats 40000000 in
theorem rmdefN (l : Launch) (Z : State) (a0 : Array Value) (hw : ∀ d ∈ tables_1, d.before a0 Z = true) (ws : List Jvm.Cond) (a1 : Addr) (p1 : Int32) (x1 : Int32) (x3 : Int32) (x4 : Int32) (x5 : Int32) (h0 : Heap) (n0 : Nat) (Z0 : n0 ≤ h0.size) (E1 : Exa Z h0 a1 "com/example/dromos/dromos/service/Definition") (Fb : Fld Z h0 a1 "com/example/dromos/dromos/service/Definition" "body" "Lcom/example/dromos/dromos/service/Node;" .null) (Fs : Fld Z h0 a1 "com/example/dromos/dromos/service/Definition" "slots" "I" (.int (0 : Int32))) (G0 : Fld Z h0 a1 "com/example/dromos/dromos/service/Definition" "arity" "I" (.int x1)) (G1 : Fld Z h0 a1 "com/example/dromos/dromos/service/Definition" "lexical" "Z" (.int x3)) (G2 : Fld Z h0 a1 "com/example/dromos/dromos/service/Definition" "recursive" "Z" (.int x4)) (G3 : Fld Z h0 a1 "com/example/dromos/dromos/service/Definition" "replacesVariable" "Z" (.int x5)) (g1 : n0 ≤ a1) :
    MetFree l (⟨"com/example/dromos/dromos/service/Definition", "define", "(Lcom/example/dromos/dromos/service/Node;I)Lcom/example/dromos/dromos/service/Definition;"⟩ : MethodName) (head1 (Jvm.Cond.code (⟨"com/example/dromos/dromos/service/Definition", "define", "(Lcom/example/dromos/dromos/service/Node;I)Lcom/example/dromos/dromos/service/Definition;"⟩ : MethodName) prog_165_method_3_code 3 (some (.object "com/example/dromos/dromos/service/Definition")) :: ws) ({ frames := 0, cells := 0, slots := 0, locals := 0 } : Room)) (fun a U => a = #[(.ref a1), .null, (.int p1)] ∧ Z.Warmed39 U.vm ∧ U.heap = h0) (fun _ _ _ _ _ => True) (fun _ U o U' => ∃ v L, o = .returned v ∧ QdefN Z a1 p1 x1 x3 x4 x5 h0 n0 v U'.heap L ∧ FrameEnd U o U' L ({ frames := 0, cells := 0, slots := 0, locals := 0 } : Room).cells ({ frames := 0, cells := 0, slots := 0, locals := 0 } : Room).slots) := by
  refine MetFree.of_bodySF (plainFor_of_name pn_0) hisR ?_
  intro p e s m args below meth c s₁ Bd hml0 hP hK
  obtain ⟨rfl, hZ, hh⟩ := hP
  have hx := Bd.exec
  have hby := Bd.bytes
  have hml : c.maxLocals = 3 := hml0
  have hown : s.vm.findClass "com/example/dromos/dromos/service/Definition" = some m.cls := findClass_of_methodNamed Bd.named
  have hnm := (name_of_methodNamed Bd.named Bd.method).1
  have X0 : Stand p l e ({ frames := 0, cells := 0, slots := 0, locals := 0 } : Room) s m #[(.ref a1), .null, (.int p1)] below meth c s₁ [] 0 0 := Stand.of_body Bd
  have e0 : s₁.heap = h0 := by rw [← hh, Bd.state]; rfl
  have N0 := Fr.nil n0
  show OGo p e below (fun s₂ o => ∃ v L, o = .returned v ∧ QdefN Z a1 p1 x1 x3 x4 x5 h0 n0 v s₂.heap L ∧ FrameEnd s o s₂ L ({ frames := 0, cells := 0, slots := 0, locals := 0 } : Room).cells ({ frames := 0, cells := 0, slots := 0, locals := 0 } : Room).slots) _
  refine OGo.to (fun _ k => castTop (ef_defN m a1 p1) k) ?_
  refine OGo.to (fun _ k => XS.aloadN X0.here hx rfl (hb hby d3_0) rfl rfl k) ?_
  show OGo p e below _ (s₁.setTop (mkF m 1 #[.val (.ref a1), .val .null, .val (.int p1)] [(.ref a1)]))
  refine OGo.to (fun _ k => XS.aloadN X0.here hx rfl (hb hby d3_1) rfl rfl k) ?_
  show OGo p e below _ (s₁.setTop (mkF m 2 #[.val (.ref a1), .val .null, .val (.int p1)] [.null, (.ref a1)]))
  obtain ⟨T1, h1, X1, e1, W1, st1⟩ := putF X0 hx hZ hown (host := "") (Or.inl (hw _ (List.mem_of_getElem? (i := 31) rfl))) Via.refl e0 Fb E1 (Or.inl (hw _ (List.mem_of_getElem? (i := 32) rfl))) (hw _ (List.mem_of_getElem? (i := 1) rfl)) (ty := (.object "com/example/dromos/dromos/service/Node")) (by decide) rfl rfl (g := (mkF m 2 #[.val (.ref a1), .val .null, .val (.int p1)] [.null, (.ref a1)])) rfl rfl (hb hby d3_2)
  refine OGo.to st1 ?_
  have Fw1 : Fld Z h1 a1 "com/example/dromos/dromos/service/Definition" "body" "Lcom/example/dromos/dromos/service/Node;" .null := Fb.same W1
  have N1 := Fr.snoc X1 N0 g1
  have z2 : n0 ≤ h1.size := Nat.le_trans Z0 (Keep.of_wr W1).1
  have K3 : Keep h0 h1 [a1] := (Keep.refl h0 [a1]).wr W1 (Or.inl (List.mem_of_getElem? (i := 0) rfl))
  show OGo p e below _ (T1.setTop (mkF m 5 #[.val (.ref a1), .val .null, .val (.int p1)] []))
  refine OGo.to (fun _ k => XS.aloadN X1.here hx rfl (hb hby d3_5) rfl rfl k) ?_
  show OGo p e below _ (T1.setTop (mkF m 6 #[.val (.ref a1), .val .null, .val (.int p1)] [(.ref a1)]))
  refine OGo.to (fun _ k => XS.iloadN X1.here hx rfl (hb hby d3_6) rfl k) ?_
  show OGo p e below _ (T1.setTop (mkF m 7 #[.val (.ref a1), .val .null, .val (.int p1)] [(.int p1), (.ref a1)]))
  have f4 : Exa Z h1 a1 "com/example/dromos/dromos/service/Definition" := (E1.wr W1)
  have f5 : Fld Z h1 a1 "com/example/dromos/dromos/service/Definition" "slots" "I" (.int (0 : Int32)) := (Fs.other W1 (Or.inr (slot_ne (Or.inl (hw _ (List.mem_of_getElem? (i := 34) rfl))) (Or.inl (hw _ (List.mem_of_getElem? (i := 32) rfl))) (by decide) (t := .int) (t' := (.object "com/example/dromos/dromos/service/Node")) (by decide) (by decide))))
  obtain ⟨T6, h6, X6, e6, W6, st6⟩ := putF X1 hx hZ hown (host := "") (Or.inl (hw _ (List.mem_of_getElem? (i := 33) rfl))) Via.refl e1 f5 f4 (Or.inl (hw _ (List.mem_of_getElem? (i := 34) rfl))) (hw _ (List.mem_of_getElem? (i := 1) rfl)) (ty := .int) (by decide) rfl rfl (g := (mkF m 7 #[.val (.ref a1), .val .null, .val (.int p1)] [(.int p1), (.ref a1)])) rfl rfl (hb hby d3_7)
  refine OGo.to st6 ?_
  have Fw6 : Fld Z h6 a1 "com/example/dromos/dromos/service/Definition" "slots" "I" (.int p1) := f5.same W6
  have N6 := Fr.snoc X6 N1 g1
  have z7 : n0 ≤ h6.size := Nat.le_trans z2 (Keep.of_wr W6).1
  have K8 : Keep h0 h6 [a1] := K3.wr W6 (Or.inl (List.mem_of_getElem? (i := 0) rfl))
  show OGo p e below _ (T6.setTop (mkF m 10 #[.val (.ref a1), .val .null, .val (.int p1)] []))
  refine OGo.to (fun _ k => XS.aloadN X6.here hx rfl (hb hby d3_10) rfl rfl k) ?_
  show OGo p e below _ (T6.setTop (mkF m 11 #[.val (.ref a1), .val .null, .val (.int p1)] [(.ref a1)]))
  refine OGo.ret (Q := QdefN Z a1 p1 x1 x3 x4 x5 h0 n0) X6 (some (.ref a1)) (fun h => by rw [Bd.returns] at h; cases h) Bd.notSynchronized (fun fs hr => own_retA X6 hx Bd.returns rfl rfl (hb hby d3_11) hr) ?_ (by decide) (by decide)
  have f9 : Fld Z h6 a1 "com/example/dromos/dromos/service/Definition" "body" "Lcom/example/dromos/dromos/service/Node;" .null := (Fw1.other W6 (Or.inr (slot_ne (Or.inl (hw _ (List.mem_of_getElem? (i := 32) rfl))) (Or.inl (hw _ (List.mem_of_getElem? (i := 34) rfl))) (by decide) (t := (.object "com/example/dromos/dromos/service/Node")) (t' := .int) (by decide) (by decide))))
  have f10 : Fld Z h6 a1 "com/example/dromos/dromos/service/Definition" "arity" "I" (.int x1) := ((G0.other W1 (Or.inr (slot_ne (Or.inr (hw _ (List.mem_of_getElem? (i := 19) rfl))) (Or.inl (hw _ (List.mem_of_getElem? (i := 32) rfl))) (by decide) (t := .int) (t' := (.object "com/example/dromos/dromos/service/Node")) (by decide) (by decide)))).other W6 (Or.inr (slot_ne (Or.inr (hw _ (List.mem_of_getElem? (i := 19) rfl))) (Or.inl (hw _ (List.mem_of_getElem? (i := 34) rfl))) (by decide) (t := .int) (t' := .int) (by decide) (by decide))))
  have f11 : Fld Z h6 a1 "com/example/dromos/dromos/service/Definition" "lexical" "Z" (.int x3) := ((G1.other W1 (Or.inr (slot_ne (Or.inr (hw _ (List.mem_of_getElem? (i := 25) rfl))) (Or.inl (hw _ (List.mem_of_getElem? (i := 32) rfl))) (by decide) (t := .boolean) (t' := (.object "com/example/dromos/dromos/service/Node")) (by decide) (by decide)))).other W6 (Or.inr (slot_ne (Or.inr (hw _ (List.mem_of_getElem? (i := 25) rfl))) (Or.inl (hw _ (List.mem_of_getElem? (i := 34) rfl))) (by decide) (t := .boolean) (t' := .int) (by decide) (by decide))))
  have f12 : Fld Z h6 a1 "com/example/dromos/dromos/service/Definition" "recursive" "Z" (.int x4) := ((G2.other W1 (Or.inr (slot_ne (Or.inl (hw _ (List.mem_of_getElem? (i := 36) rfl))) (Or.inl (hw _ (List.mem_of_getElem? (i := 32) rfl))) (by decide) (t := .boolean) (t' := (.object "com/example/dromos/dromos/service/Node")) (by decide) (by decide)))).other W6 (Or.inr (slot_ne (Or.inl (hw _ (List.mem_of_getElem? (i := 36) rfl))) (Or.inl (hw _ (List.mem_of_getElem? (i := 34) rfl))) (by decide) (t := .boolean) (t' := .int) (by decide) (by decide))))
  have f13 : Fld Z h6 a1 "com/example/dromos/dromos/service/Definition" "replacesVariable" "Z" (.int x5) := ((G3.other W1 (Or.inr (slot_ne (Or.inl (hw _ (List.mem_of_getElem? (i := 38) rfl))) (Or.inl (hw _ (List.mem_of_getElem? (i := 32) rfl))) (by decide) (t := .boolean) (t' := (.object "com/example/dromos/dromos/service/Node")) (by decide) (by decide)))).other W6 (Or.inr (slot_ne (Or.inl (hw _ (List.mem_of_getElem? (i := 38) rfl))) (Or.inl (hw _ (List.mem_of_getElem? (i := 34) rfl))) (by decide) (t := .boolean) (t' := .int) (by decide) (by decide))))
  show QdefN Z a1 p1 x1 x3 x4 x5 h0 n0 _ T6.heap _
  rw [e6]
  exact ⟨rfl, N6, K8, f9, Fw6, f10, f11, f12, f13⟩
theorem d4_0 : decode prog_165_method_10_code 0 = .ok (.aload_n 0, 1) := by decide +kernel
theorem d4_1 : decode prog_165_method_10_code 1 = .ok (.getfield 27, 3) := by decide +kernel
theorem d4_4 : decode prog_165_method_10_code 4 = .ok (.ifCond .ne 42, 3) := by decide +kernel
theorem d4_7 : decode prog_165_method_10_code 7 = .ok (.aload_n 0, 1) := by decide +kernel
theorem d4_8 : decode prog_165_method_10_code 8 = .ok (.getfield 45, 3) := by decide +kernel
theorem d4_11 : decode prog_165_method_10_code 11 = .ok (.ifCond .ne 35, 3) := by decide +kernel
theorem d4_14 : decode prog_165_method_10_code 14 = .ok (.aload_n 0, 1) := by decide +kernel
theorem d4_15 : decode prog_165_method_10_code 15 = .ok (.getfield 37, 3) := by decide +kernel
theorem d4_18 : decode prog_165_method_10_code 18 = .ok (.ifCond .ne 28, 3) := by decide +kernel
theorem d4_21 : decode prog_165_method_10_code 21 = .ok (.aload_n 0, 1) := by decide +kernel
theorem d4_22 : decode prog_165_method_10_code 22 = .ok (.getfield 41, 3) := by decide +kernel
theorem d4_25 : decode prog_165_method_10_code 25 = .ok (.ifnull 21, 3) := by decide +kernel
theorem d4_46 : decode prog_165_method_10_code 46 = .ok (.iconst 0, 1) := by decide +kernel
theorem d4_47 : decode prog_165_method_10_code 47 = .ok (.ireturn, 1) := by decide +kernel
theorem ef_expN (m : MethodId) (x0 : Addr) : entryFrame m #[(.ref x0)] 1 = mkF m 0 #[.val (.ref x0)] [] := by first | (simp [entryFrame, mkF, argsToLocals, Value.category]; done) | rfl
def QexpN (Z : State) (a1 : Addr) (x1 : Int32) (x2 : Int32) (x3 : Int32) (x4 : Int32) (x5 : Int32) (h0 : Heap) (n0 : Nat) (v : Option Value) (h : Heap) (L : List Loc) : Prop := v = some (.int (0 : Int32)) ∧ Fr n0 L ∧ h = h0
set_option maxRecDepth 65536 in
set_option maxHeartbeats 40000000 in
theorem rmexpN (l : Launch) (Z : State) (a0 : Array Value) (hw : ∀ d ∈ tables_1, d.before a0 Z = true) (ws : List Jvm.Cond) (a1 : Addr) (x1 : Int32) (x2 : Int32) (x3 : Int32) (x4 : Int32) (x5 : Int32) (h0 : Heap) (n0 : Nat) (Z0 : n0 ≤ h0.size) (G0 : Fld Z h0 a1 "com/example/dromos/dromos/service/Definition" "arity" "I" (.int x1)) (G1 : Fld Z h0 a1 "com/example/dromos/dromos/service/Definition" "slots" "I" (.int x2)) (G2 : Fld Z h0 a1 "com/example/dromos/dromos/service/Definition" "lexical" "Z" (.int x3)) (G3 : Fld Z h0 a1 "com/example/dromos/dromos/service/Definition" "recursive" "Z" (.int x4)) (G4 : Fld Z h0 a1 "com/example/dromos/dromos/service/Definition" "replacesVariable" "Z" (.int x5)) (Fb : Fld Z h0 a1 "com/example/dromos/dromos/service/Definition" "body" "Lcom/example/dromos/dromos/service/Node;" .null) :
    MetFree l (⟨"com/example/dromos/dromos/service/Definition", "expandable", "()Z"⟩ : MethodName) (head1 (Jvm.Cond.code (⟨"com/example/dromos/dromos/service/Definition", "expandable", "()Z"⟩ : MethodName) prog_165_method_10_code 1 (some .boolean) :: ws) ({ frames := 0, cells := 0, slots := 0, locals := 0 } : Room)) (fun a U => a = #[(.ref a1)] ∧ Z.Warmed39 U.vm ∧ U.heap = h0) (fun _ _ _ _ _ => True) (fun _ U o U' => ∃ v L, o = .returned v ∧ QexpN Z a1 x1 x2 x3 x4 x5 h0 n0 v U'.heap L ∧ FrameEnd U o U' L ({ frames := 0, cells := 0, slots := 0, locals := 0 } : Room).cells ({ frames := 0, cells := 0, slots := 0, locals := 0 } : Room).slots) := by
  refine MetFree.of_bodySF (plainFor_of_name pn_0) hisR ?_
  intro p e s m args below meth c s₁ Bd hml0 hP hK
  obtain ⟨rfl, hZ, hh⟩ := hP
  have hx := Bd.exec
  have hby := Bd.bytes
  have hml : c.maxLocals = 1 := hml0
  have hown : s.vm.findClass "com/example/dromos/dromos/service/Definition" = some m.cls := findClass_of_methodNamed Bd.named
  have hnm := (name_of_methodNamed Bd.named Bd.method).1
  have X0 : Stand p l e ({ frames := 0, cells := 0, slots := 0, locals := 0 } : Room) s m #[(.ref a1)] below meth c s₁ [] 0 0 := Stand.of_body Bd
  have e0 : s₁.heap = h0 := by rw [← hh, Bd.state]; rfl
  have N0 := Fr.nil n0
  show OGo p e below (fun s₂ o => ∃ v L, o = .returned v ∧ QexpN Z a1 x1 x2 x3 x4 x5 h0 n0 v s₂.heap L ∧ FrameEnd s o s₂ L ({ frames := 0, cells := 0, slots := 0, locals := 0 } : Room).cells ({ frames := 0, cells := 0, slots := 0, locals := 0 } : Room).slots) _
  refine OGo.to (fun _ k => castTop (ef_expN m a1) k) ?_
  refine OGo.to (fun _ k => XS.aloadN X0.here hx rfl (hb hby d4_0) rfl rfl k) ?_
  show OGo p e below _ (s₁.setTop (mkF m 1 #[.val (.ref a1)] [(.ref a1)]))
  obtain ⟨T1, X1, e1, st1⟩ := getF X0 hx hZ hown (host := "") (Or.inl (hw _ (List.mem_of_getElem? (i := 18) rfl))) Via.refl e0 G0 (g := (mkF m 1 #[.val (.ref a1)] [(.ref a1)])) rfl rfl (hb hby d4_1)
  refine OGo.to st1 ?_
  show OGo p e below _ (T1.setTop (mkF m 4 #[.val (.ref a1)] [(.int x1)]))
  by_cases hc4_2 : x1 = (0 : Int32)
  ·  -- pc 4: yes
    refine OGo.to (fun _ k => XS.ifNo X1.here hx rfl (hb hby d4_4) rfl ((if0 _ _).trans (teq hc4_2).2) k) ?_
    show OGo p e below _ (T1.setTop (mkF m 7 #[.val (.ref a1)] []))
    refine OGo.to (fun _ k => XS.aloadN X1.here hx rfl (hb hby d4_7) rfl rfl k) ?_
    show OGo p e below _ (T1.setTop (mkF m 8 #[.val (.ref a1)] [(.ref a1)]))
    obtain ⟨T3, X3, e3, st3⟩ := getF X1 hx hZ hown (host := "") (Or.inl (hw _ (List.mem_of_getElem? (i := 33) rfl))) Via.refl e1 G1 (g := (mkF m 8 #[.val (.ref a1)] [(.ref a1)])) rfl rfl (hb hby d4_8)
    refine OGo.to st3 ?_
    show OGo p e below _ (T3.setTop (mkF m 11 #[.val (.ref a1)] [(.int x2)]))
    by_cases hc11_4 : x2 = (0 : Int32)
    ·  -- pc 11: yes
      refine OGo.to (fun _ k => XS.ifNo X3.here hx rfl (hb hby d4_11) rfl ((if0 _ _).trans (teq hc11_4).2) k) ?_
      show OGo p e below _ (T3.setTop (mkF m 14 #[.val (.ref a1)] []))
      refine OGo.to (fun _ k => XS.aloadN X3.here hx rfl (hb hby d4_14) rfl rfl k) ?_
      show OGo p e below _ (T3.setTop (mkF m 15 #[.val (.ref a1)] [(.ref a1)]))
      obtain ⟨T5, X5, e5, st5⟩ := getF X3 hx hZ hown (host := "") (Or.inl (hw _ (List.mem_of_getElem? (i := 24) rfl))) Via.refl e3 G2 (g := (mkF m 15 #[.val (.ref a1)] [(.ref a1)])) rfl rfl (hb hby d4_15)
      refine OGo.to st5 ?_
      show OGo p e below _ (T5.setTop (mkF m 18 #[.val (.ref a1)] [(.int x3)]))
      by_cases hc18_6 : x3 = (0 : Int32)
      ·  -- pc 18: yes
        refine OGo.to (fun _ k => XS.ifNo X5.here hx rfl (hb hby d4_18) rfl ((if0 _ _).trans (teq hc18_6).2) k) ?_
        show OGo p e below _ (T5.setTop (mkF m 21 #[.val (.ref a1)] []))
        refine OGo.to (fun _ k => XS.aloadN X5.here hx rfl (hb hby d4_21) rfl rfl k) ?_
        show OGo p e below _ (T5.setTop (mkF m 22 #[.val (.ref a1)] [(.ref a1)]))
        obtain ⟨T7, X7, e7, st7⟩ := getF X5 hx hZ hown (host := "") (Or.inl (hw _ (List.mem_of_getElem? (i := 31) rfl))) Via.refl e5 Fb (g := (mkF m 22 #[.val (.ref a1)] [(.ref a1)])) rfl rfl (hb hby d4_22)
        refine OGo.to st7 ?_
        show OGo p e below _ (T7.setTop (mkF m 25 #[.val (.ref a1)] [.null]))
        refine OGo.to (fun _ k => XS.ifnullYes X7.here hx rfl (pc0 := 25) (pc' := 46) rfl (hb hby d4_25) rfl (by decide) (by decide) k) ?_
        show OGo p e below _ (T7.setTop (mkF m 46 #[.val (.ref a1)] []))
        refine OGo.to (fun _ k => XS.iconst X7.here hx rfl (hb hby d4_46) k) ?_
        show OGo p e below _ (T7.setTop (mkF m 47 #[.val (.ref a1)] [(.int (0 : Int32))]))
        refine OGo.ret (Q := QexpN Z a1 x1 x2 x3 x4 x5 h0 n0) X7 (some (.int (0 : Int32))) (fun h => by rw [Bd.returns] at h; cases h) Bd.notSynchronized (fun fs hr => retN X7 hx (t := .boolean) (z := (0 : Int32)) Bd.returns (by simp) (hb hby d4_47) hr) ?_ (by decide) (by decide)
        show QexpN Z a1 x1 x2 x3 x4 x5 h0 n0 _ T7.heap _
        rw [e7]
        exact ⟨rfl, N0, rfl⟩
      ·  -- pc 18: no
        refine OGo.to (fun _ k => XS.ifYes X5.here hx rfl (pc0 := 18) (pc' := 46) rfl (hb hby d4_18) rfl ((if0 _ _).trans (feq hc18_6).2) (by decide) (by decide) k) ?_
        show OGo p e below _ (T5.setTop (mkF m 46 #[.val (.ref a1)] []))
        refine OGo.to (fun _ k => XS.iconst X5.here hx rfl (hb hby d4_46) k) ?_
        show OGo p e below _ (T5.setTop (mkF m 47 #[.val (.ref a1)] [(.int (0 : Int32))]))
        refine OGo.ret (Q := QexpN Z a1 x1 x2 x3 x4 x5 h0 n0) X5 (some (.int (0 : Int32))) (fun h => by rw [Bd.returns] at h; cases h) Bd.notSynchronized (fun fs hr => retN X5 hx (t := .boolean) (z := (0 : Int32)) Bd.returns (by simp) (hb hby d4_47) hr) ?_ (by decide) (by decide)
        show QexpN Z a1 x1 x2 x3 x4 x5 h0 n0 _ T5.heap _
        rw [e5]
        exact ⟨rfl, N0, rfl⟩
    ·  -- pc 11: no
      refine OGo.to (fun _ k => XS.ifYes X3.here hx rfl (pc0 := 11) (pc' := 46) rfl (hb hby d4_11) rfl ((if0 _ _).trans (feq hc11_4).2) (by decide) (by decide) k) ?_
      show OGo p e below _ (T3.setTop (mkF m 46 #[.val (.ref a1)] []))
      refine OGo.to (fun _ k => XS.iconst X3.here hx rfl (hb hby d4_46) k) ?_
      show OGo p e below _ (T3.setTop (mkF m 47 #[.val (.ref a1)] [(.int (0 : Int32))]))
      refine OGo.ret (Q := QexpN Z a1 x1 x2 x3 x4 x5 h0 n0) X3 (some (.int (0 : Int32))) (fun h => by rw [Bd.returns] at h; cases h) Bd.notSynchronized (fun fs hr => retN X3 hx (t := .boolean) (z := (0 : Int32)) Bd.returns (by simp) (hb hby d4_47) hr) ?_ (by decide) (by decide)
      show QexpN Z a1 x1 x2 x3 x4 x5 h0 n0 _ T3.heap _
      rw [e3]
      exact ⟨rfl, N0, rfl⟩
  ·  -- pc 4: no
    refine OGo.to (fun _ k => XS.ifYes X1.here hx rfl (pc0 := 4) (pc' := 46) rfl (hb hby d4_4) rfl ((if0 _ _).trans (feq hc4_2).2) (by decide) (by decide) k) ?_
    show OGo p e below _ (T1.setTop (mkF m 46 #[.val (.ref a1)] []))
    refine OGo.to (fun _ k => XS.iconst X1.here hx rfl (hb hby d4_46) k) ?_
    show OGo p e below _ (T1.setTop (mkF m 47 #[.val (.ref a1)] [(.int (0 : Int32))]))
    refine OGo.ret (Q := QexpN Z a1 x1 x2 x3 x4 x5 h0 n0) X1 (some (.int (0 : Int32))) (fun h => by rw [Bd.returns] at h; cases h) Bd.notSynchronized (fun fs hr => retN X1 hx (t := .boolean) (z := (0 : Int32)) Bd.returns (by simp) (hb hby d4_47) hr) ?_ (by decide) (by decide)
    show QexpN Z a1 x1 x2 x3 x4 x5 h0 n0 _ T1.heap _
    rw [e1]
    exact ⟨rfl, N0, rfl⟩
theorem ef_defR (m : MethodId) (x0 : Addr) (x1 : Addr) (x2 : Int32) : entryFrame m #[(.ref x0), (.ref x1), (.int x2)] 3 = mkF m 0 #[.val (.ref x0), .val (.ref x1), .val (.int x2)] [] := by first | (simp [entryFrame, mkF, argsToLocals, Value.category]; done) | rfl
def QdefR (Z : State) (a1 : Addr) (t1 : Addr) (p1 : Int32) (x1 : Int32) (x3 : Int32) (x4 : Int32) (x5 : Int32) (h0 : Heap) (n0 : Nat) (v : Option Value) (h : Heap) (L : List Loc) : Prop := v = some (.ref a1) ∧ Fr n0 L ∧ Keep h0 h [a1] ∧ Fld Z h a1 "com/example/dromos/dromos/service/Definition" "body" "Lcom/example/dromos/dromos/service/Node;" (.ref t1) ∧ Fld Z h a1 "com/example/dromos/dromos/service/Definition" "slots" "I" (.int p1) ∧ Fld Z h a1 "com/example/dromos/dromos/service/Definition" "arity" "I" (.int x1) ∧ Fld Z h a1 "com/example/dromos/dromos/service/Definition" "lexical" "Z" (.int x3) ∧ Fld Z h a1 "com/example/dromos/dromos/service/Definition" "recursive" "Z" (.int x4) ∧ Fld Z h a1 "com/example/dromos/dromos/service/Definition" "replacesVariable" "Z" (.int x5)
set_option maxRecDepth 65536 in
set_option maxHeartbeats 40000000 in
theorem rmdefR (l : Launch) (Z : State) (a0 : Array Value) (hw : ∀ d ∈ tables_1, d.before a0 Z = true) (ws : List Jvm.Cond) (a1 : Addr) (t1 : Addr) (p1 : Int32) (x1 : Int32) (x3 : Int32) (x4 : Int32) (x5 : Int32) (h0 : Heap) (n0 : Nat) (Z0 : n0 ≤ h0.size) (E1 : Exa Z h0 a1 "com/example/dromos/dromos/service/Definition") (Fb : Fld Z h0 a1 "com/example/dromos/dromos/service/Definition" "body" "Lcom/example/dromos/dromos/service/Node;" .null) (Fs : Fld Z h0 a1 "com/example/dromos/dromos/service/Definition" "slots" "I" (.int (0 : Int32))) (G0 : Fld Z h0 a1 "com/example/dromos/dromos/service/Definition" "arity" "I" (.int x1)) (G1 : Fld Z h0 a1 "com/example/dromos/dromos/service/Definition" "lexical" "Z" (.int x3)) (G2 : Fld Z h0 a1 "com/example/dromos/dromos/service/Definition" "recursive" "Z" (.int x4)) (G3 : Fld Z h0 a1 "com/example/dromos/dromos/service/Definition" "replacesVariable" "Z" (.int x5)) (g1 : n0 ≤ a1) :
    MetFree l (⟨"com/example/dromos/dromos/service/Definition", "define", "(Lcom/example/dromos/dromos/service/Node;I)Lcom/example/dromos/dromos/service/Definition;"⟩ : MethodName) (head1 (Jvm.Cond.code (⟨"com/example/dromos/dromos/service/Definition", "define", "(Lcom/example/dromos/dromos/service/Node;I)Lcom/example/dromos/dromos/service/Definition;"⟩ : MethodName) prog_165_method_3_code 3 (some (.object "com/example/dromos/dromos/service/Definition")) :: ws) ({ frames := 0, cells := 0, slots := 0, locals := 0 } : Room)) (fun a U => a = #[(.ref a1), (.ref t1), (.int p1)] ∧ Z.Warmed39 U.vm ∧ U.heap = h0) (fun _ _ _ _ _ => True) (fun _ U o U' => ∃ v L, o = .returned v ∧ QdefR Z a1 t1 p1 x1 x3 x4 x5 h0 n0 v U'.heap L ∧ FrameEnd U o U' L ({ frames := 0, cells := 0, slots := 0, locals := 0 } : Room).cells ({ frames := 0, cells := 0, slots := 0, locals := 0 } : Room).slots) := by
  refine MetFree.of_bodySF (plainFor_of_name pn_0) hisR ?_
  intro p e s m args below meth c s₁ Bd hml0 hP hK
  obtain ⟨rfl, hZ, hh⟩ := hP
  have hx := Bd.exec
  have hby := Bd.bytes
  have hml : c.maxLocals = 3 := hml0
  have hown : s.vm.findClass "com/example/dromos/dromos/service/Definition" = some m.cls := findClass_of_methodNamed Bd.named
  have hnm := (name_of_methodNamed Bd.named Bd.method).1
  have X0 : Stand p l e ({ frames := 0, cells := 0, slots := 0, locals := 0 } : Room) s m #[(.ref a1), (.ref t1), (.int p1)] below meth c s₁ [] 0 0 := Stand.of_body Bd
  have e0 : s₁.heap = h0 := by rw [← hh, Bd.state]; rfl
  have N0 := Fr.nil n0
  show OGo p e below (fun s₂ o => ∃ v L, o = .returned v ∧ QdefR Z a1 t1 p1 x1 x3 x4 x5 h0 n0 v s₂.heap L ∧ FrameEnd s o s₂ L ({ frames := 0, cells := 0, slots := 0, locals := 0 } : Room).cells ({ frames := 0, cells := 0, slots := 0, locals := 0 } : Room).slots) _
  refine OGo.to (fun _ k => castTop (ef_defR m a1 t1 p1) k) ?_
  refine OGo.to (fun _ k => XS.aloadN X0.here hx rfl (hb hby d3_0) rfl rfl k) ?_
  show OGo p e below _ (s₁.setTop (mkF m 1 #[.val (.ref a1), .val (.ref t1), .val (.int p1)] [(.ref a1)]))
  refine OGo.to (fun _ k => XS.aloadN X0.here hx rfl (hb hby d3_1) rfl rfl k) ?_
  show OGo p e below _ (s₁.setTop (mkF m 2 #[.val (.ref a1), .val (.ref t1), .val (.int p1)] [(.ref t1), (.ref a1)]))
  obtain ⟨T1, h1, X1, e1, W1, st1⟩ := putF X0 hx hZ hown (host := "") (Or.inl (hw _ (List.mem_of_getElem? (i := 31) rfl))) Via.refl e0 Fb E1 (Or.inl (hw _ (List.mem_of_getElem? (i := 32) rfl))) (hw _ (List.mem_of_getElem? (i := 1) rfl)) (ty := (.object "com/example/dromos/dromos/service/Node")) (by decide) rfl rfl (g := (mkF m 2 #[.val (.ref a1), .val (.ref t1), .val (.int p1)] [(.ref t1), (.ref a1)])) rfl rfl (hb hby d3_2)
  refine OGo.to st1 ?_
  have Fw1 : Fld Z h1 a1 "com/example/dromos/dromos/service/Definition" "body" "Lcom/example/dromos/dromos/service/Node;" (.ref t1) := Fb.same W1
  have N1 := Fr.snoc X1 N0 g1
  have z2 : n0 ≤ h1.size := Nat.le_trans Z0 (Keep.of_wr W1).1
  have K3 : Keep h0 h1 [a1] := (Keep.refl h0 [a1]).wr W1 (Or.inl (List.mem_of_getElem? (i := 0) rfl))
  show OGo p e below _ (T1.setTop (mkF m 5 #[.val (.ref a1), .val (.ref t1), .val (.int p1)] []))
  refine OGo.to (fun _ k => XS.aloadN X1.here hx rfl (hb hby d3_5) rfl rfl k) ?_
  show OGo p e below _ (T1.setTop (mkF m 6 #[.val (.ref a1), .val (.ref t1), .val (.int p1)] [(.ref a1)]))
  refine OGo.to (fun _ k => XS.iloadN X1.here hx rfl (hb hby d3_6) rfl k) ?_
  show OGo p e below _ (T1.setTop (mkF m 7 #[.val (.ref a1), .val (.ref t1), .val (.int p1)] [(.int p1), (.ref a1)]))
  have f4 : Exa Z h1 a1 "com/example/dromos/dromos/service/Definition" := (E1.wr W1)
  have f5 : Fld Z h1 a1 "com/example/dromos/dromos/service/Definition" "slots" "I" (.int (0 : Int32)) := (Fs.other W1 (Or.inr (slot_ne (Or.inl (hw _ (List.mem_of_getElem? (i := 34) rfl))) (Or.inl (hw _ (List.mem_of_getElem? (i := 32) rfl))) (by decide) (t := .int) (t' := (.object "com/example/dromos/dromos/service/Node")) (by decide) (by decide))))
  obtain ⟨T6, h6, X6, e6, W6, st6⟩ := putF X1 hx hZ hown (host := "") (Or.inl (hw _ (List.mem_of_getElem? (i := 33) rfl))) Via.refl e1 f5 f4 (Or.inl (hw _ (List.mem_of_getElem? (i := 34) rfl))) (hw _ (List.mem_of_getElem? (i := 1) rfl)) (ty := .int) (by decide) rfl rfl (g := (mkF m 7 #[.val (.ref a1), .val (.ref t1), .val (.int p1)] [(.int p1), (.ref a1)])) rfl rfl (hb hby d3_7)
  refine OGo.to st6 ?_
  have Fw6 : Fld Z h6 a1 "com/example/dromos/dromos/service/Definition" "slots" "I" (.int p1) := f5.same W6
  have N6 := Fr.snoc X6 N1 g1
  have z7 : n0 ≤ h6.size := Nat.le_trans z2 (Keep.of_wr W6).1
  have K8 : Keep h0 h6 [a1] := K3.wr W6 (Or.inl (List.mem_of_getElem? (i := 0) rfl))
  show OGo p e below _ (T6.setTop (mkF m 10 #[.val (.ref a1), .val (.ref t1), .val (.int p1)] []))
  refine OGo.to (fun _ k => XS.aloadN X6.here hx rfl (hb hby d3_10) rfl rfl k) ?_
  show OGo p e below _ (T6.setTop (mkF m 11 #[.val (.ref a1), .val (.ref t1), .val (.int p1)] [(.ref a1)]))
  refine OGo.ret (Q := QdefR Z a1 t1 p1 x1 x3 x4 x5 h0 n0) X6 (some (.ref a1)) (fun h => by rw [Bd.returns] at h; cases h) Bd.notSynchronized (fun fs hr => own_retA X6 hx Bd.returns rfl rfl (hb hby d3_11) hr) ?_ (by decide) (by decide)
  have f9 : Fld Z h6 a1 "com/example/dromos/dromos/service/Definition" "body" "Lcom/example/dromos/dromos/service/Node;" (.ref t1) := (Fw1.other W6 (Or.inr (slot_ne (Or.inl (hw _ (List.mem_of_getElem? (i := 32) rfl))) (Or.inl (hw _ (List.mem_of_getElem? (i := 34) rfl))) (by decide) (t := (.object "com/example/dromos/dromos/service/Node")) (t' := .int) (by decide) (by decide))))
  have f10 : Fld Z h6 a1 "com/example/dromos/dromos/service/Definition" "arity" "I" (.int x1) := ((G0.other W1 (Or.inr (slot_ne (Or.inr (hw _ (List.mem_of_getElem? (i := 19) rfl))) (Or.inl (hw _ (List.mem_of_getElem? (i := 32) rfl))) (by decide) (t := .int) (t' := (.object "com/example/dromos/dromos/service/Node")) (by decide) (by decide)))).other W6 (Or.inr (slot_ne (Or.inr (hw _ (List.mem_of_getElem? (i := 19) rfl))) (Or.inl (hw _ (List.mem_of_getElem? (i := 34) rfl))) (by decide) (t := .int) (t' := .int) (by decide) (by decide))))
  have f11 : Fld Z h6 a1 "com/example/dromos/dromos/service/Definition" "lexical" "Z" (.int x3) := ((G1.other W1 (Or.inr (slot_ne (Or.inr (hw _ (List.mem_of_getElem? (i := 25) rfl))) (Or.inl (hw _ (List.mem_of_getElem? (i := 32) rfl))) (by decide) (t := .boolean) (t' := (.object "com/example/dromos/dromos/service/Node")) (by decide) (by decide)))).other W6 (Or.inr (slot_ne (Or.inr (hw _ (List.mem_of_getElem? (i := 25) rfl))) (Or.inl (hw _ (List.mem_of_getElem? (i := 34) rfl))) (by decide) (t := .boolean) (t' := .int) (by decide) (by decide))))
  have f12 : Fld Z h6 a1 "com/example/dromos/dromos/service/Definition" "recursive" "Z" (.int x4) := ((G2.other W1 (Or.inr (slot_ne (Or.inl (hw _ (List.mem_of_getElem? (i := 36) rfl))) (Or.inl (hw _ (List.mem_of_getElem? (i := 32) rfl))) (by decide) (t := .boolean) (t' := (.object "com/example/dromos/dromos/service/Node")) (by decide) (by decide)))).other W6 (Or.inr (slot_ne (Or.inl (hw _ (List.mem_of_getElem? (i := 36) rfl))) (Or.inl (hw _ (List.mem_of_getElem? (i := 34) rfl))) (by decide) (t := .boolean) (t' := .int) (by decide) (by decide))))
  have f13 : Fld Z h6 a1 "com/example/dromos/dromos/service/Definition" "replacesVariable" "Z" (.int x5) := ((G3.other W1 (Or.inr (slot_ne (Or.inl (hw _ (List.mem_of_getElem? (i := 38) rfl))) (Or.inl (hw _ (List.mem_of_getElem? (i := 32) rfl))) (by decide) (t := .boolean) (t' := (.object "com/example/dromos/dromos/service/Node")) (by decide) (by decide)))).other W6 (Or.inr (slot_ne (Or.inl (hw _ (List.mem_of_getElem? (i := 38) rfl))) (Or.inl (hw _ (List.mem_of_getElem? (i := 34) rfl))) (by decide) (t := .boolean) (t' := .int) (by decide) (by decide))))
  show QdefR Z a1 t1 p1 x1 x3 x4 x5 h0 n0 _ T6.heap _
  rw [e6]
  exact ⟨rfl, N6, K8, f9, Fw6, f10, f11, f12, f13⟩
theorem d4_28 : decode prog_165_method_10_code 28 = .ok (.aload_n 0, 1) := by decide +kernel
theorem d4_29 : decode prog_165_method_10_code 29 = .ok (.getfield 80, 3) := by decide +kernel
theorem d4_32 : decode prog_165_method_10_code 32 = .ok (.ifCond .ne 14, 3) := by decide +kernel
theorem d4_35 : decode prog_165_method_10_code 35 = .ok (.aload_n 0, 1) := by decide +kernel
theorem d4_36 : decode prog_165_method_10_code 36 = .ok (.getfield 83, 3) := by decide +kernel
theorem d4_39 : decode prog_165_method_10_code 39 = .ok (.ifCond .ne 7, 3) := by decide +kernel
theorem d4_42 : decode prog_165_method_10_code 42 = .ok (.iconst 1, 1) := by decide +kernel
theorem d4_43 : decode prog_165_method_10_code 43 = .ok (.goto 4, 3) := by decide +kernel
theorem ef_expR (m : MethodId) (x0 : Addr) : entryFrame m #[(.ref x0)] 1 = mkF m 0 #[.val (.ref x0)] [] := by first | (simp [entryFrame, mkF, argsToLocals, Value.category]; done) | rfl
def QexpR (Z : State) (a1 : Addr) (x1 : Int32) (x2 : Int32) (x3 : Int32) (x4 : Int32) (x5 : Int32) (t1 : Addr) (h0 : Heap) (n0 : Nat) (v : Option Value) (h : Heap) (L : List Loc) : Prop := v = some (.int (own_ex x1 x2 x3 x4 x5)) ∧ Fr n0 L ∧ h = h0
set_option maxRecDepth 65536 in
set_option maxHeartbeats 40000000 in
theorem rmexpR (l : Launch) (Z : State) (a0 : Array Value) (hw : ∀ d ∈ tables_1, d.before a0 Z = true) (ws : List Jvm.Cond) (a1 : Addr) (x1 : Int32) (x2 : Int32) (x3 : Int32) (x4 : Int32) (x5 : Int32) (t1 : Addr) (h0 : Heap) (n0 : Nat) (Z0 : n0 ≤ h0.size) (G0 : Fld Z h0 a1 "com/example/dromos/dromos/service/Definition" "arity" "I" (.int x1)) (G1 : Fld Z h0 a1 "com/example/dromos/dromos/service/Definition" "slots" "I" (.int x2)) (G2 : Fld Z h0 a1 "com/example/dromos/dromos/service/Definition" "lexical" "Z" (.int x3)) (G3 : Fld Z h0 a1 "com/example/dromos/dromos/service/Definition" "recursive" "Z" (.int x4)) (G4 : Fld Z h0 a1 "com/example/dromos/dromos/service/Definition" "replacesVariable" "Z" (.int x5)) (Fb : Fld Z h0 a1 "com/example/dromos/dromos/service/Definition" "body" "Lcom/example/dromos/dromos/service/Node;" (.ref t1)) :
    MetFree l (⟨"com/example/dromos/dromos/service/Definition", "expandable", "()Z"⟩ : MethodName) (head1 (Jvm.Cond.code (⟨"com/example/dromos/dromos/service/Definition", "expandable", "()Z"⟩ : MethodName) prog_165_method_10_code 1 (some .boolean) :: ws) ({ frames := 0, cells := 0, slots := 0, locals := 0 } : Room)) (fun a U => a = #[(.ref a1)] ∧ Z.Warmed39 U.vm ∧ U.heap = h0) (fun _ _ _ _ _ => True) (fun _ U o U' => ∃ v L, o = .returned v ∧ QexpR Z a1 x1 x2 x3 x4 x5 t1 h0 n0 v U'.heap L ∧ FrameEnd U o U' L ({ frames := 0, cells := 0, slots := 0, locals := 0 } : Room).cells ({ frames := 0, cells := 0, slots := 0, locals := 0 } : Room).slots) := by
  refine MetFree.of_bodySF (plainFor_of_name pn_0) hisR ?_
  intro p e s m args below meth c s₁ Bd hml0 hP hK
  obtain ⟨rfl, hZ, hh⟩ := hP
  have hx := Bd.exec
  have hby := Bd.bytes
  have hml : c.maxLocals = 1 := hml0
  have hown : s.vm.findClass "com/example/dromos/dromos/service/Definition" = some m.cls := findClass_of_methodNamed Bd.named
  have hnm := (name_of_methodNamed Bd.named Bd.method).1
  have X0 : Stand p l e ({ frames := 0, cells := 0, slots := 0, locals := 0 } : Room) s m #[(.ref a1)] below meth c s₁ [] 0 0 := Stand.of_body Bd
  have e0 : s₁.heap = h0 := by rw [← hh, Bd.state]; rfl
  have N0 := Fr.nil n0
  show OGo p e below (fun s₂ o => ∃ v L, o = .returned v ∧ QexpR Z a1 x1 x2 x3 x4 x5 t1 h0 n0 v s₂.heap L ∧ FrameEnd s o s₂ L ({ frames := 0, cells := 0, slots := 0, locals := 0 } : Room).cells ({ frames := 0, cells := 0, slots := 0, locals := 0 } : Room).slots) _
  refine OGo.to (fun _ k => castTop (ef_expR m a1) k) ?_
  refine OGo.to (fun _ k => XS.aloadN X0.here hx rfl (hb hby d4_0) rfl rfl k) ?_
  show OGo p e below _ (s₁.setTop (mkF m 1 #[.val (.ref a1)] [(.ref a1)]))
  obtain ⟨T1, X1, e1, st1⟩ := getF X0 hx hZ hown (host := "") (Or.inl (hw _ (List.mem_of_getElem? (i := 18) rfl))) Via.refl e0 G0 (g := (mkF m 1 #[.val (.ref a1)] [(.ref a1)])) rfl rfl (hb hby d4_1)
  refine OGo.to st1 ?_
  show OGo p e below _ (T1.setTop (mkF m 4 #[.val (.ref a1)] [(.int x1)]))
  by_cases hc4_2 : x1 = (0 : Int32)
  ·  -- pc 4: yes
    refine OGo.to (fun _ k => XS.ifNo X1.here hx rfl (hb hby d4_4) rfl ((if0 _ _).trans (teq hc4_2).2) k) ?_
    show OGo p e below _ (T1.setTop (mkF m 7 #[.val (.ref a1)] []))
    refine OGo.to (fun _ k => XS.aloadN X1.here hx rfl (hb hby d4_7) rfl rfl k) ?_
    show OGo p e below _ (T1.setTop (mkF m 8 #[.val (.ref a1)] [(.ref a1)]))
    obtain ⟨T3, X3, e3, st3⟩ := getF X1 hx hZ hown (host := "") (Or.inl (hw _ (List.mem_of_getElem? (i := 33) rfl))) Via.refl e1 G1 (g := (mkF m 8 #[.val (.ref a1)] [(.ref a1)])) rfl rfl (hb hby d4_8)
    refine OGo.to st3 ?_
    show OGo p e below _ (T3.setTop (mkF m 11 #[.val (.ref a1)] [(.int x2)]))
    by_cases hc11_4 : x2 = (0 : Int32)
    ·  -- pc 11: yes
      refine OGo.to (fun _ k => XS.ifNo X3.here hx rfl (hb hby d4_11) rfl ((if0 _ _).trans (teq hc11_4).2) k) ?_
      show OGo p e below _ (T3.setTop (mkF m 14 #[.val (.ref a1)] []))
      refine OGo.to (fun _ k => XS.aloadN X3.here hx rfl (hb hby d4_14) rfl rfl k) ?_
      show OGo p e below _ (T3.setTop (mkF m 15 #[.val (.ref a1)] [(.ref a1)]))
      obtain ⟨T5, X5, e5, st5⟩ := getF X3 hx hZ hown (host := "") (Or.inl (hw _ (List.mem_of_getElem? (i := 24) rfl))) Via.refl e3 G2 (g := (mkF m 15 #[.val (.ref a1)] [(.ref a1)])) rfl rfl (hb hby d4_15)
      refine OGo.to st5 ?_
      show OGo p e below _ (T5.setTop (mkF m 18 #[.val (.ref a1)] [(.int x3)]))
      by_cases hc18_6 : x3 = (0 : Int32)
      ·  -- pc 18: yes
        refine OGo.to (fun _ k => XS.ifNo X5.here hx rfl (hb hby d4_18) rfl ((if0 _ _).trans (teq hc18_6).2) k) ?_
        show OGo p e below _ (T5.setTop (mkF m 21 #[.val (.ref a1)] []))
        refine OGo.to (fun _ k => XS.aloadN X5.here hx rfl (hb hby d4_21) rfl rfl k) ?_
        show OGo p e below _ (T5.setTop (mkF m 22 #[.val (.ref a1)] [(.ref a1)]))
        obtain ⟨T7, X7, e7, st7⟩ := getF X5 hx hZ hown (host := "") (Or.inl (hw _ (List.mem_of_getElem? (i := 31) rfl))) Via.refl e5 Fb (g := (mkF m 22 #[.val (.ref a1)] [(.ref a1)])) rfl rfl (hb hby d4_22)
        refine OGo.to st7 ?_
        show OGo p e below _ (T7.setTop (mkF m 25 #[.val (.ref a1)] [(.ref t1)]))
        refine OGo.to (fun _ k => XS.ifnullNo X7.here hx rfl (hb hby d4_25) rfl k) ?_
        show OGo p e below _ (T7.setTop (mkF m 28 #[.val (.ref a1)] []))
        refine OGo.to (fun _ k => XS.aloadN X7.here hx rfl (hb hby d4_28) rfl rfl k) ?_
        show OGo p e below _ (T7.setTop (mkF m 29 #[.val (.ref a1)] [(.ref a1)]))
        obtain ⟨T8, X8, e8, st8⟩ := getF X7 hx hZ hown (host := "") (Or.inl (hw _ (List.mem_of_getElem? (i := 60) rfl))) Via.refl e7 G3 (g := (mkF m 29 #[.val (.ref a1)] [(.ref a1)])) rfl rfl (hb hby d4_29)
        refine OGo.to st8 ?_
        show OGo p e below _ (T8.setTop (mkF m 32 #[.val (.ref a1)] [(.int x4)]))
        by_cases hc32_9 : x4 = (0 : Int32)
        ·  -- pc 32: yes
          refine OGo.to (fun _ k => XS.ifNo X8.here hx rfl (hb hby d4_32) rfl ((if0 _ _).trans (teq hc32_9).2) k) ?_
          show OGo p e below _ (T8.setTop (mkF m 35 #[.val (.ref a1)] []))
          refine OGo.to (fun _ k => XS.aloadN X8.here hx rfl (hb hby d4_35) rfl rfl k) ?_
          show OGo p e below _ (T8.setTop (mkF m 36 #[.val (.ref a1)] [(.ref a1)]))
          obtain ⟨T10, X10, e10, st10⟩ := getF X8 hx hZ hown (host := "") (Or.inl (hw _ (List.mem_of_getElem? (i := 61) rfl))) Via.refl e8 G4 (g := (mkF m 36 #[.val (.ref a1)] [(.ref a1)])) rfl rfl (hb hby d4_36)
          refine OGo.to st10 ?_
          show OGo p e below _ (T10.setTop (mkF m 39 #[.val (.ref a1)] [(.int x5)]))
          by_cases hc39_11 : x5 = (0 : Int32)
          ·  -- pc 39: yes
            refine OGo.to (fun _ k => XS.ifNo X10.here hx rfl (hb hby d4_39) rfl ((if0 _ _).trans (teq hc39_11).2) k) ?_
            show OGo p e below _ (T10.setTop (mkF m 42 #[.val (.ref a1)] []))
            refine OGo.to (fun _ k => XS.iconst X10.here hx rfl (hb hby d4_42) k) ?_
            show OGo p e below _ (T10.setTop (mkF m 43 #[.val (.ref a1)] [(.int (1 : Int32))]))
            refine OGo.to (fun _ k => XS.goto X10.here hx rfl (pc0 := 43) (pc' := 47) rfl (hb hby d4_43) (by decide) (by decide) k) ?_
            show OGo p e below _ (T10.setTop (mkF m 47 #[.val (.ref a1)] [(.int (1 : Int32))]))
            refine OGo.ret (Q := QexpR Z a1 x1 x2 x3 x4 x5 t1 h0 n0) X10 (some (.int (1 : Int32))) (fun h => by rw [Bd.returns] at h; cases h) Bd.notSynchronized (fun fs hr => retN X10 hx (t := .boolean) (z := (1 : Int32)) Bd.returns (by simp) (hb hby d4_47) hr) ?_ (by decide) (by decide)
            show QexpR Z a1 x1 x2 x3 x4 x5 t1 h0 n0 _ T10.heap _
            rw [e10]
            exact ⟨congrArg (fun z => some (Value.int z)) (show (1 : Int32) = (own_ex x1 x2 x3 x4 x5) from by unfold own_ex; rw [if_pos hc4_2, if_pos hc11_4, if_pos hc18_6, if_pos hc32_9, if_pos hc39_11]), N0, rfl⟩
          ·  -- pc 39: no
            refine OGo.to (fun _ k => XS.ifYes X10.here hx rfl (pc0 := 39) (pc' := 46) rfl (hb hby d4_39) rfl ((if0 _ _).trans (feq hc39_11).2) (by decide) (by decide) k) ?_
            show OGo p e below _ (T10.setTop (mkF m 46 #[.val (.ref a1)] []))
            refine OGo.to (fun _ k => XS.iconst X10.here hx rfl (hb hby d4_46) k) ?_
            show OGo p e below _ (T10.setTop (mkF m 47 #[.val (.ref a1)] [(.int (0 : Int32))]))
            refine OGo.ret (Q := QexpR Z a1 x1 x2 x3 x4 x5 t1 h0 n0) X10 (some (.int (0 : Int32))) (fun h => by rw [Bd.returns] at h; cases h) Bd.notSynchronized (fun fs hr => retN X10 hx (t := .boolean) (z := (0 : Int32)) Bd.returns (by simp) (hb hby d4_47) hr) ?_ (by decide) (by decide)
            show QexpR Z a1 x1 x2 x3 x4 x5 t1 h0 n0 _ T10.heap _
            rw [e10]
            exact ⟨congrArg (fun z => some (Value.int z)) (show (0 : Int32) = (own_ex x1 x2 x3 x4 x5) from by unfold own_ex; rw [if_pos hc4_2, if_pos hc11_4, if_pos hc18_6, if_pos hc32_9, if_neg hc39_11]), N0, rfl⟩
        ·  -- pc 32: no
          refine OGo.to (fun _ k => XS.ifYes X8.here hx rfl (pc0 := 32) (pc' := 46) rfl (hb hby d4_32) rfl ((if0 _ _).trans (feq hc32_9).2) (by decide) (by decide) k) ?_
          show OGo p e below _ (T8.setTop (mkF m 46 #[.val (.ref a1)] []))
          refine OGo.to (fun _ k => XS.iconst X8.here hx rfl (hb hby d4_46) k) ?_
          show OGo p e below _ (T8.setTop (mkF m 47 #[.val (.ref a1)] [(.int (0 : Int32))]))
          refine OGo.ret (Q := QexpR Z a1 x1 x2 x3 x4 x5 t1 h0 n0) X8 (some (.int (0 : Int32))) (fun h => by rw [Bd.returns] at h; cases h) Bd.notSynchronized (fun fs hr => retN X8 hx (t := .boolean) (z := (0 : Int32)) Bd.returns (by simp) (hb hby d4_47) hr) ?_ (by decide) (by decide)
          show QexpR Z a1 x1 x2 x3 x4 x5 t1 h0 n0 _ T8.heap _
          rw [e8]
          exact ⟨congrArg (fun z => some (Value.int z)) (show (0 : Int32) = (own_ex x1 x2 x3 x4 x5) from by unfold own_ex; rw [if_pos hc4_2, if_pos hc11_4, if_pos hc18_6, if_neg hc32_9]), N0, rfl⟩
      ·  -- pc 18: no
        refine OGo.to (fun _ k => XS.ifYes X5.here hx rfl (pc0 := 18) (pc' := 46) rfl (hb hby d4_18) rfl ((if0 _ _).trans (feq hc18_6).2) (by decide) (by decide) k) ?_
        show OGo p e below _ (T5.setTop (mkF m 46 #[.val (.ref a1)] []))
        refine OGo.to (fun _ k => XS.iconst X5.here hx rfl (hb hby d4_46) k) ?_
        show OGo p e below _ (T5.setTop (mkF m 47 #[.val (.ref a1)] [(.int (0 : Int32))]))
        refine OGo.ret (Q := QexpR Z a1 x1 x2 x3 x4 x5 t1 h0 n0) X5 (some (.int (0 : Int32))) (fun h => by rw [Bd.returns] at h; cases h) Bd.notSynchronized (fun fs hr => retN X5 hx (t := .boolean) (z := (0 : Int32)) Bd.returns (by simp) (hb hby d4_47) hr) ?_ (by decide) (by decide)
        show QexpR Z a1 x1 x2 x3 x4 x5 t1 h0 n0 _ T5.heap _
        rw [e5]
        exact ⟨congrArg (fun z => some (Value.int z)) (show (0 : Int32) = (own_ex x1 x2 x3 x4 x5) from by unfold own_ex; rw [if_pos hc4_2, if_pos hc11_4, if_neg hc18_6]), N0, rfl⟩
    ·  -- pc 11: no
      refine OGo.to (fun _ k => XS.ifYes X3.here hx rfl (pc0 := 11) (pc' := 46) rfl (hb hby d4_11) rfl ((if0 _ _).trans (feq hc11_4).2) (by decide) (by decide) k) ?_
      show OGo p e below _ (T3.setTop (mkF m 46 #[.val (.ref a1)] []))
      refine OGo.to (fun _ k => XS.iconst X3.here hx rfl (hb hby d4_46) k) ?_
      show OGo p e below _ (T3.setTop (mkF m 47 #[.val (.ref a1)] [(.int (0 : Int32))]))
      refine OGo.ret (Q := QexpR Z a1 x1 x2 x3 x4 x5 t1 h0 n0) X3 (some (.int (0 : Int32))) (fun h => by rw [Bd.returns] at h; cases h) Bd.notSynchronized (fun fs hr => retN X3 hx (t := .boolean) (z := (0 : Int32)) Bd.returns (by simp) (hb hby d4_47) hr) ?_ (by decide) (by decide)
      show QexpR Z a1 x1 x2 x3 x4 x5 t1 h0 n0 _ T3.heap _
      rw [e3]
      exact ⟨congrArg (fun z => some (Value.int z)) (show (0 : Int32) = (own_ex x1 x2 x3 x4 x5) from by unfold own_ex; rw [if_pos hc4_2, if_neg hc11_4]), N0, rfl⟩
  ·  -- pc 4: no
    refine OGo.to (fun _ k => XS.ifYes X1.here hx rfl (pc0 := 4) (pc' := 46) rfl (hb hby d4_4) rfl ((if0 _ _).trans (feq hc4_2).2) (by decide) (by decide) k) ?_
    show OGo p e below _ (T1.setTop (mkF m 46 #[.val (.ref a1)] []))
    refine OGo.to (fun _ k => XS.iconst X1.here hx rfl (hb hby d4_46) k) ?_
    show OGo p e below _ (T1.setTop (mkF m 47 #[.val (.ref a1)] [(.int (0 : Int32))]))
    refine OGo.ret (Q := QexpR Z a1 x1 x2 x3 x4 x5 t1 h0 n0) X1 (some (.int (0 : Int32))) (fun h => by rw [Bd.returns] at h; cases h) Bd.notSynchronized (fun fs hr => retN X1 hx (t := .boolean) (z := (0 : Int32)) Bd.returns (by simp) (hb hby d4_47) hr) ?_ (by decide) (by decide)
    show QexpR Z a1 x1 x2 x3 x4 x5 t1 h0 n0 _ T1.heap _
    rw [e1]
    exact ⟨congrArg (fun z => some (Value.int z)) (show (0 : Int32) = (own_ex x1 x2 x3 x4 x5) from by unfold own_ex; rw [if_neg hc4_2]), N0, rfl⟩
theorem d7_0 : decode prog_165_method_9_code 0 = .ok (.aload_n 0, 1) := by decide +kernel
theorem d7_1 : decode prog_165_method_9_code 1 = .ok (.getfield 27, 3) := by decide +kernel
theorem d7_4 : decode prog_165_method_9_code 4 = .ok (.ifCond .ne 14, 3) := by decide +kernel
theorem d7_7 : decode prog_165_method_9_code 7 = .ok (.aload_n 0, 1) := by decide +kernel
theorem d7_8 : decode prog_165_method_9_code 8 = .ok (.getfield 37, 3) := by decide +kernel
theorem d7_11 : decode prog_165_method_9_code 11 = .ok (.ifCond .ne 7, 3) := by decide +kernel
theorem d7_14 : decode prog_165_method_9_code 14 = .ok (.iconst 1, 1) := by decide +kernel
theorem d7_15 : decode prog_165_method_9_code 15 = .ok (.goto 4, 3) := by decide +kernel
theorem d7_18 : decode prog_165_method_9_code 18 = .ok (.iconst 0, 1) := by decide +kernel
theorem d7_19 : decode prog_165_method_9_code 19 = .ok (.ireturn, 1) := by decide +kernel
theorem ef_7 (m : MethodId) (x0 : Addr) : entryFrame m #[(.ref x0)] 1 = mkF m 0 #[.val (.ref x0)] [] := by first | (simp [entryFrame, mkF, argsToLocals, Value.category]; done) | rfl
def Q7 (Z : State) (a1 : Addr) (x1 : Int32) (x3 : Int32) (h0 : Heap) (n0 : Nat) (v : Option Value) (h : Heap) (L : List Loc) : Prop := v = some (.int (own_mk x1 x3)) ∧ Fr n0 L ∧ h = h0
set_option maxRecDepth 65536 in
set_option maxHeartbeats 40000000 in
theorem rm7 (l : Launch) (Z : State) (a0 : Array Value) (hw : ∀ d ∈ tables_1, d.before a0 Z = true) (ws : List Jvm.Cond) (a1 : Addr) (x1 : Int32) (x3 : Int32) (h0 : Heap) (n0 : Nat) (Z0 : n0 ≤ h0.size) (G0 : Fld Z h0 a1 "com/example/dromos/dromos/service/Definition" "arity" "I" (.int x1)) (G1 : Fld Z h0 a1 "com/example/dromos/dromos/service/Definition" "lexical" "Z" (.int x3)) :
    MetFree l (⟨"com/example/dromos/dromos/service/Definition", "mayKeepValue", "()Z"⟩ : MethodName) (head1 (Jvm.Cond.code (⟨"com/example/dromos/dromos/service/Definition", "mayKeepValue", "()Z"⟩ : MethodName) prog_165_method_9_code 1 (some .boolean) :: ws) ({ frames := 0, cells := 0, slots := 0, locals := 0 } : Room)) (fun a U => a = #[(.ref a1)] ∧ Z.Warmed39 U.vm ∧ U.heap = h0) (fun _ _ _ _ _ => True) (fun _ U o U' => ∃ v L, o = .returned v ∧ Q7 Z a1 x1 x3 h0 n0 v U'.heap L ∧ FrameEnd U o U' L ({ frames := 0, cells := 0, slots := 0, locals := 0 } : Room).cells ({ frames := 0, cells := 0, slots := 0, locals := 0 } : Room).slots) := by
  refine MetFree.of_bodySF (plainFor_of_name pn_0) hisR ?_
  intro p e s m args below meth c s₁ Bd hml0 hP hK
  obtain ⟨rfl, hZ, hh⟩ := hP
  have hx := Bd.exec
  have hby := Bd.bytes
  have hml : c.maxLocals = 1 := hml0
  have hown : s.vm.findClass "com/example/dromos/dromos/service/Definition" = some m.cls := findClass_of_methodNamed Bd.named
  have hnm := (name_of_methodNamed Bd.named Bd.method).1
  have X0 : Stand p l e ({ frames := 0, cells := 0, slots := 0, locals := 0 } : Room) s m #[(.ref a1)] below meth c s₁ [] 0 0 := Stand.of_body Bd
  have e0 : s₁.heap = h0 := by rw [← hh, Bd.state]; rfl
  have N0 := Fr.nil n0
  show OGo p e below (fun s₂ o => ∃ v L, o = .returned v ∧ Q7 Z a1 x1 x3 h0 n0 v s₂.heap L ∧ FrameEnd s o s₂ L ({ frames := 0, cells := 0, slots := 0, locals := 0 } : Room).cells ({ frames := 0, cells := 0, slots := 0, locals := 0 } : Room).slots) _
  refine OGo.to (fun _ k => castTop (ef_7 m a1) k) ?_
  refine OGo.to (fun _ k => XS.aloadN X0.here hx rfl (hb hby d7_0) rfl rfl k) ?_
  show OGo p e below _ (s₁.setTop (mkF m 1 #[.val (.ref a1)] [(.ref a1)]))
  obtain ⟨T1, X1, e1, st1⟩ := getF X0 hx hZ hown (host := "") (Or.inl (hw _ (List.mem_of_getElem? (i := 18) rfl))) Via.refl e0 G0 (g := (mkF m 1 #[.val (.ref a1)] [(.ref a1)])) rfl rfl (hb hby d7_1)
  refine OGo.to st1 ?_
  show OGo p e below _ (T1.setTop (mkF m 4 #[.val (.ref a1)] [(.int x1)]))
  by_cases hc4_2 : x1 = (0 : Int32)
  ·  -- pc 4: yes
    refine OGo.to (fun _ k => XS.ifNo X1.here hx rfl (hb hby d7_4) rfl ((if0 _ _).trans (teq hc4_2).2) k) ?_
    show OGo p e below _ (T1.setTop (mkF m 7 #[.val (.ref a1)] []))
    refine OGo.to (fun _ k => XS.aloadN X1.here hx rfl (hb hby d7_7) rfl rfl k) ?_
    show OGo p e below _ (T1.setTop (mkF m 8 #[.val (.ref a1)] [(.ref a1)]))
    obtain ⟨T3, X3, e3, st3⟩ := getF X1 hx hZ hown (host := "") (Or.inl (hw _ (List.mem_of_getElem? (i := 24) rfl))) Via.refl e1 G1 (g := (mkF m 8 #[.val (.ref a1)] [(.ref a1)])) rfl rfl (hb hby d7_8)
    refine OGo.to st3 ?_
    show OGo p e below _ (T3.setTop (mkF m 11 #[.val (.ref a1)] [(.int x3)]))
    by_cases hc11_4 : x3 = (0 : Int32)
    ·  -- pc 11: yes
      refine OGo.to (fun _ k => XS.ifNo X3.here hx rfl (hb hby d7_11) rfl ((if0 _ _).trans (teq hc11_4).2) k) ?_
      show OGo p e below _ (T3.setTop (mkF m 14 #[.val (.ref a1)] []))
      refine OGo.to (fun _ k => XS.iconst X3.here hx rfl (hb hby d7_14) k) ?_
      show OGo p e below _ (T3.setTop (mkF m 15 #[.val (.ref a1)] [(.int (1 : Int32))]))
      refine OGo.to (fun _ k => XS.goto X3.here hx rfl (pc0 := 15) (pc' := 19) rfl (hb hby d7_15) (by decide) (by decide) k) ?_
      show OGo p e below _ (T3.setTop (mkF m 19 #[.val (.ref a1)] [(.int (1 : Int32))]))
      refine OGo.ret (Q := Q7 Z a1 x1 x3 h0 n0) X3 (some (.int (1 : Int32))) (fun h => by rw [Bd.returns] at h; cases h) Bd.notSynchronized (fun fs hr => retN X3 hx (t := .boolean) (z := (1 : Int32)) Bd.returns (by simp) (hb hby d7_19) hr) ?_ (by decide) (by decide)
      show Q7 Z a1 x1 x3 h0 n0 _ T3.heap _
      rw [e3]
      exact ⟨congrArg (fun z => some (Value.int z)) (show (1 : Int32) = (own_mk x1 x3) from by unfold own_mk; rw [if_pos hc4_2, if_pos hc11_4]), N0, rfl⟩
    ·  -- pc 11: no
      refine OGo.to (fun _ k => XS.ifYes X3.here hx rfl (pc0 := 11) (pc' := 18) rfl (hb hby d7_11) rfl ((if0 _ _).trans (feq hc11_4).2) (by decide) (by decide) k) ?_
      show OGo p e below _ (T3.setTop (mkF m 18 #[.val (.ref a1)] []))
      refine OGo.to (fun _ k => XS.iconst X3.here hx rfl (hb hby d7_18) k) ?_
      show OGo p e below _ (T3.setTop (mkF m 19 #[.val (.ref a1)] [(.int (0 : Int32))]))
      refine OGo.ret (Q := Q7 Z a1 x1 x3 h0 n0) X3 (some (.int (0 : Int32))) (fun h => by rw [Bd.returns] at h; cases h) Bd.notSynchronized (fun fs hr => retN X3 hx (t := .boolean) (z := (0 : Int32)) Bd.returns (by simp) (hb hby d7_19) hr) ?_ (by decide) (by decide)
      show Q7 Z a1 x1 x3 h0 n0 _ T3.heap _
      rw [e3]
      exact ⟨congrArg (fun z => some (Value.int z)) (show (0 : Int32) = (own_mk x1 x3) from by unfold own_mk; rw [if_pos hc4_2, if_neg hc11_4]), N0, rfl⟩
  ·  -- pc 4: no
    refine OGo.to (fun _ k => XS.ifYes X1.here hx rfl (pc0 := 4) (pc' := 18) rfl (hb hby d7_4) rfl ((if0 _ _).trans (feq hc4_2).2) (by decide) (by decide) k) ?_
    show OGo p e below _ (T1.setTop (mkF m 18 #[.val (.ref a1)] []))
    refine OGo.to (fun _ k => XS.iconst X1.here hx rfl (hb hby d7_18) k) ?_
    show OGo p e below _ (T1.setTop (mkF m 19 #[.val (.ref a1)] [(.int (0 : Int32))]))
    refine OGo.ret (Q := Q7 Z a1 x1 x3 h0 n0) X1 (some (.int (0 : Int32))) (fun h => by rw [Bd.returns] at h; cases h) Bd.notSynchronized (fun fs hr => retN X1 hx (t := .boolean) (z := (0 : Int32)) Bd.returns (by simp) (hb hby d7_19) hr) ?_ (by decide) (by decide)
    show Q7 Z a1 x1 x3 h0 n0 _ T1.heap _
    rw [e1]
    exact ⟨congrArg (fun z => some (Value.int z)) (show (0 : Int32) = (own_mk x1 x3) from by unfold own_mk; rw [if_neg hc4_2]), N0, rfl⟩
theorem d8_0 : decode prog_165_method_11_code 0 = .ok (.aload_n 0, 1) := by decide +kernel
theorem d8_1 : decode prog_165_method_11_code 1 = .ok (.getfield 41, 3) := by decide +kernel
theorem d8_4 : decode prog_165_method_11_code 4 = .ok (.ifnull 14, 3) := by decide +kernel
theorem d8_7 : decode prog_165_method_11_code 7 = .ok (.aload_n 0, 1) := by decide +kernel
theorem d8_8 : decode prog_165_method_11_code 8 = .ok (.getfield 80, 3) := by decide +kernel
theorem d8_11 : decode prog_165_method_11_code 11 = .ok (.ifCond .ne 7, 3) := by decide +kernel
theorem d8_14 : decode prog_165_method_11_code 14 = .ok (.iconst 1, 1) := by decide +kernel
theorem d8_15 : decode prog_165_method_11_code 15 = .ok (.goto 4, 3) := by decide +kernel
theorem d8_18 : decode prog_165_method_11_code 18 = .ok (.iconst 0, 1) := by decide +kernel
theorem d8_19 : decode prog_165_method_11_code 19 = .ok (.ireturn, 1) := by decide +kernel
theorem ef_8 (m : MethodId) (x0 : Addr) : entryFrame m #[(.ref x0)] 1 = mkF m 0 #[.val (.ref x0)] [] := by first | (simp [entryFrame, mkF, argsToLocals, Value.category]; done) | rfl
def Q8 (Z : State) (a1 : Addr) (x4 : Int32) (t1 : Addr) (h0 : Heap) (n0 : Nat) (v : Option Value) (h : Heap) (L : List Loc) : Prop := v = some (.int (own_rt x4)) ∧ Fr n0 L ∧ h = h0
set_option maxRecDepth 65536 in
set_option maxHeartbeats 40000000 in
theorem rm8 (l : Launch) (Z : State) (a0 : Array Value) (hw : ∀ d ∈ tables_1, d.before a0 Z = true) (ws : List Jvm.Cond) (a1 : Addr) (x4 : Int32) (t1 : Addr) (h0 : Heap) (n0 : Nat) (Z0 : n0 ≤ h0.size) (G0 : Fld Z h0 a1 "com/example/dromos/dromos/service/Definition" "recursive" "Z" (.int x4)) (Fb : Fld Z h0 a1 "com/example/dromos/dromos/service/Definition" "body" "Lcom/example/dromos/dromos/service/Node;" (.ref t1)) :
    MetFree l (⟨"com/example/dromos/dromos/service/Definition", "readThrough", "()Z"⟩ : MethodName) (head1 (Jvm.Cond.code (⟨"com/example/dromos/dromos/service/Definition", "readThrough", "()Z"⟩ : MethodName) prog_165_method_11_code 1 (some .boolean) :: ws) ({ frames := 0, cells := 0, slots := 0, locals := 0 } : Room)) (fun a U => a = #[(.ref a1)] ∧ Z.Warmed39 U.vm ∧ U.heap = h0) (fun _ _ _ _ _ => True) (fun _ U o U' => ∃ v L, o = .returned v ∧ Q8 Z a1 x4 t1 h0 n0 v U'.heap L ∧ FrameEnd U o U' L ({ frames := 0, cells := 0, slots := 0, locals := 0 } : Room).cells ({ frames := 0, cells := 0, slots := 0, locals := 0 } : Room).slots) := by
  refine MetFree.of_bodySF (plainFor_of_name pn_0) hisR ?_
  intro p e s m args below meth c s₁ Bd hml0 hP hK
  obtain ⟨rfl, hZ, hh⟩ := hP
  have hx := Bd.exec
  have hby := Bd.bytes
  have hml : c.maxLocals = 1 := hml0
  have hown : s.vm.findClass "com/example/dromos/dromos/service/Definition" = some m.cls := findClass_of_methodNamed Bd.named
  have hnm := (name_of_methodNamed Bd.named Bd.method).1
  have X0 : Stand p l e ({ frames := 0, cells := 0, slots := 0, locals := 0 } : Room) s m #[(.ref a1)] below meth c s₁ [] 0 0 := Stand.of_body Bd
  have e0 : s₁.heap = h0 := by rw [← hh, Bd.state]; rfl
  have N0 := Fr.nil n0
  show OGo p e below (fun s₂ o => ∃ v L, o = .returned v ∧ Q8 Z a1 x4 t1 h0 n0 v s₂.heap L ∧ FrameEnd s o s₂ L ({ frames := 0, cells := 0, slots := 0, locals := 0 } : Room).cells ({ frames := 0, cells := 0, slots := 0, locals := 0 } : Room).slots) _
  refine OGo.to (fun _ k => castTop (ef_8 m a1) k) ?_
  refine OGo.to (fun _ k => XS.aloadN X0.here hx rfl (hb hby d8_0) rfl rfl k) ?_
  show OGo p e below _ (s₁.setTop (mkF m 1 #[.val (.ref a1)] [(.ref a1)]))
  obtain ⟨T1, X1, e1, st1⟩ := getF X0 hx hZ hown (host := "") (Or.inl (hw _ (List.mem_of_getElem? (i := 31) rfl))) Via.refl e0 Fb (g := (mkF m 1 #[.val (.ref a1)] [(.ref a1)])) rfl rfl (hb hby d8_1)
  refine OGo.to st1 ?_
  show OGo p e below _ (T1.setTop (mkF m 4 #[.val (.ref a1)] [(.ref t1)]))
  refine OGo.to (fun _ k => XS.ifnullNo X1.here hx rfl (hb hby d8_4) rfl k) ?_
  show OGo p e below _ (T1.setTop (mkF m 7 #[.val (.ref a1)] []))
  refine OGo.to (fun _ k => XS.aloadN X1.here hx rfl (hb hby d8_7) rfl rfl k) ?_
  show OGo p e below _ (T1.setTop (mkF m 8 #[.val (.ref a1)] [(.ref a1)]))
  obtain ⟨T2, X2, e2, st2⟩ := getF X1 hx hZ hown (host := "") (Or.inl (hw _ (List.mem_of_getElem? (i := 60) rfl))) Via.refl e1 G0 (g := (mkF m 8 #[.val (.ref a1)] [(.ref a1)])) rfl rfl (hb hby d8_8)
  refine OGo.to st2 ?_
  show OGo p e below _ (T2.setTop (mkF m 11 #[.val (.ref a1)] [(.int x4)]))
  by_cases hc11_3 : x4 = (0 : Int32)
  ·  -- pc 11: yes
    refine OGo.to (fun _ k => XS.ifNo X2.here hx rfl (hb hby d8_11) rfl ((if0 _ _).trans (teq hc11_3).2) k) ?_
    show OGo p e below _ (T2.setTop (mkF m 14 #[.val (.ref a1)] []))
    refine OGo.to (fun _ k => XS.iconst X2.here hx rfl (hb hby d8_14) k) ?_
    show OGo p e below _ (T2.setTop (mkF m 15 #[.val (.ref a1)] [(.int (1 : Int32))]))
    refine OGo.to (fun _ k => XS.goto X2.here hx rfl (pc0 := 15) (pc' := 19) rfl (hb hby d8_15) (by decide) (by decide) k) ?_
    show OGo p e below _ (T2.setTop (mkF m 19 #[.val (.ref a1)] [(.int (1 : Int32))]))
    refine OGo.ret (Q := Q8 Z a1 x4 t1 h0 n0) X2 (some (.int (1 : Int32))) (fun h => by rw [Bd.returns] at h; cases h) Bd.notSynchronized (fun fs hr => retN X2 hx (t := .boolean) (z := (1 : Int32)) Bd.returns (by simp) (hb hby d8_19) hr) ?_ (by decide) (by decide)
    show Q8 Z a1 x4 t1 h0 n0 _ T2.heap _
    rw [e2]
    exact ⟨congrArg (fun z => some (Value.int z)) (show (1 : Int32) = (own_rt x4) from by unfold own_rt; rw [if_pos hc11_3]), N0, rfl⟩
  ·  -- pc 11: no
    refine OGo.to (fun _ k => XS.ifYes X2.here hx rfl (pc0 := 11) (pc' := 18) rfl (hb hby d8_11) rfl ((if0 _ _).trans (feq hc11_3).2) (by decide) (by decide) k) ?_
    show OGo p e below _ (T2.setTop (mkF m 18 #[.val (.ref a1)] []))
    refine OGo.to (fun _ k => XS.iconst X2.here hx rfl (hb hby d8_18) k) ?_
    show OGo p e below _ (T2.setTop (mkF m 19 #[.val (.ref a1)] [(.int (0 : Int32))]))
    refine OGo.ret (Q := Q8 Z a1 x4 t1 h0 n0) X2 (some (.int (0 : Int32))) (fun h => by rw [Bd.returns] at h; cases h) Bd.notSynchronized (fun fs hr => retN X2 hx (t := .boolean) (z := (0 : Int32)) Bd.returns (by simp) (hb hby d8_19) hr) ?_ (by decide) (by decide)
    show Q8 Z a1 x4 t1 h0 n0 _ T2.heap _
    rw [e2]
    exact ⟨congrArg (fun z => some (Value.int z)) (show (0 : Int32) = (own_rt x4) from by unfold own_rt; rw [if_neg hc11_3]), N0, rfl⟩
theorem ef_0 (m : MethodId) (x0 : Int32) (x1 : Int32) (x2 : Int32) (x3 : Int32) : entryFrame m #[(.int x0), (.int x1), (.int x2), (.int x3)] maxLocals = mkF m 0 #[.val (.int x0), .val (.int x1), .val (.int x2), .val (.int x3), .unset, .unset, .unset, .unset, .unset, .unset, .unset, .unset, .unset, .unset, .unset] [] := by first | (simp [entryFrame, mkF, argsToLocals, Value.category, maxLocals]; done) | rfl
def Q0 (Z : State) (p1 : Int32) (p2 : Int32) (p3 : Int32) (p4 : Int32) (h0 : Heap) (n0 : Nat) (v : Option Value) (h : Heap) (L : List Loc) : Prop := v = some (.int (1 : Int32)) ∧ Fr n0 L
set_option maxRecDepth 65536 in
set_option maxHeartbeats 40000000 in
theorem rm0 (l : Launch) (Z : State) (a0 : Array Value) (hw : ∀ d ∈ tables_1, d.before a0 Z = true) (ws : List Jvm.Cond) (p1 : Int32) (p2 : Int32) (p3 : Int32) (p4 : Int32) (h0 : Heap) (n0 : Nat) (Z0 : n0 ≤ h0.size) :
    MetFree l x (head1 (Jvm.Cond.code x code maxLocals ret :: ws) room_1) (fun a U => a = #[(.int p1), (.int p2), (.int p3), (.int p4)] ∧ Z.Warmed39 U.vm ∧ U.heap = h0) (fun _ _ _ _ _ => True) (fun _ U o U' => ∃ v L, o = .returned v ∧ Q0 Z p1 p2 p3 p4 h0 n0 v U'.heap L ∧ FrameEnd U o U' L room_1.cells room_1.slots) := by
  refine MetFree.of_bodySF (plainFor_of_name pn_3) hisR ?_
  intro p e s m args below meth c s₁ Bd hml0 hP hK
  obtain ⟨rfl, hZ, hh⟩ := hP
  have hx := Bd.exec
  have hby := Bd.bytes
  have hml : c.maxLocals = 15 := hml0
  have hown : s.vm.findClass "com/example/dromos/dromos/service/DefinitionExpandablePinLaw" = some m.cls := findClass_of_methodNamed Bd.named
  have hnm := (name_of_methodNamed Bd.named Bd.method).1
  have X0 : Stand p l e room_1 s m #[(.int p1), (.int p2), (.int p3), (.int p4)] below meth c s₁ [] 0 0 := Stand.of_body Bd
  have e0 : s₁.heap = h0 := by rw [← hh, Bd.state]; rfl
  have N0 := Fr.nil n0
  show OGo p e below (fun s₂ o => ∃ v L, o = .returned v ∧ Q0 Z p1 p2 p3 p4 h0 n0 v s₂.heap L ∧ FrameEnd s o s₂ L room_1.cells room_1.slots) _
  refine OGo.to (fun _ k => castTop (ef_0 m p1 p2 p3 p4) k) ?_
  refine OGo.to (fun _ k => XS.iloadN X0.here hx rfl (hb hby at_0) rfl k) ?_
  show OGo p e below _ (s₁.setTop (mkF m 1 #[.val (.int p1), .val (.int p2), .val (.int p3), .val (.int p4), .unset, .unset, .unset, .unset, .unset, .unset, .unset, .unset, .unset, .unset, .unset] [(.int p4)]))
  refine OGo.to (fun _ k => XS.iconst X0.here hx rfl (hb hby at_1) k) ?_
  show OGo p e below _ (s₁.setTop (mkF m 2 #[.val (.int p1), .val (.int p2), .val (.int p3), .val (.int p4), .unset, .unset, .unset, .unset, .unset, .unset, .unset, .unset, .unset, .unset, .unset] [(.int (1 : Int32)), (.int p4)]))
  refine OGo.to (fun _ k => XS.iand X0.here hx rfl (hb hby at_2) rfl k) ?_
  show OGo p e below _ (s₁.setTop (mkF m 3 #[.val (.int p1), .val (.int p2), .val (.int p3), .val (.int p4), .unset, .unset, .unset, .unset, .unset, .unset, .unset, .unset, .unset, .unset, .unset] [(.int (p4 &&& (1 : Int32)))]))
  obtain ⟨aa, hv_aa⟩ : ∃ z : Int32, z = (if (p4 &&& (1 : Int32)) = (0 : Int32) then p1 else (0 : Int32)) := ⟨_, rfl⟩
  refine OGo.to (S' := s₁.setTop (mkF m 11 #[.val (.int p1), .val (.int p2), .val (.int p3), .val (.int p4), .unset, .unset, .unset, .unset, .unset, .unset, .unset, .unset, .unset, .unset, .unset] [(.int aa)])) (fun _ k => ?_) ?_
  ·
    show Steps p.tables e below (s₁.setTop (mkF m 3 #[.val (.int p1), .val (.int p2), .val (.int p3), .val (.int p4), .unset, .unset, .unset, .unset, .unset, .unset, .unset, .unset, .unset, .unset, .unset] [(.int (p4 &&& (1 : Int32)))])) _
    by_cases hc3_2 : (p4 &&& (1 : Int32)) = (0 : Int32)
    ·  -- pc 3: yes
      refine XS.ifYes X0.here hx rfl (pc0 := 3) (pc' := 10) rfl (hb hby at_3) rfl ((if0 _ _).trans (teq hc3_2).1) (by decide) (by decide) ?_
      show Steps p.tables e below (s₁.setTop (mkF m 10 #[.val (.int p1), .val (.int p2), .val (.int p3), .val (.int p4), .unset, .unset, .unset, .unset, .unset, .unset, .unset, .unset, .unset, .unset, .unset] [])) _
      refine XS.iloadN X0.here hx rfl (hb hby at_10) rfl ?_
      show Steps p.tables e below (s₁.setTop (mkF m 11 #[.val (.int p1), .val (.int p2), .val (.int p3), .val (.int p4), .unset, .unset, .unset, .unset, .unset, .unset, .unset, .unset, .unset, .unset, .unset] [(.int p1)])) _
      have hw_aa := hv_aa
      rw [if_pos hc3_2] at hw_aa
      subst hw_aa
      exact k
    ·  -- pc 3: no
      refine XS.ifNo X0.here hx rfl (hb hby at_3) rfl ((if0 _ _).trans (feq hc3_2).1) ?_
      show Steps p.tables e below (s₁.setTop (mkF m 6 #[.val (.int p1), .val (.int p2), .val (.int p3), .val (.int p4), .unset, .unset, .unset, .unset, .unset, .unset, .unset, .unset, .unset, .unset, .unset] [])) _
      refine XS.iconst X0.here hx rfl (hb hby at_6) ?_
      show Steps p.tables e below (s₁.setTop (mkF m 7 #[.val (.int p1), .val (.int p2), .val (.int p3), .val (.int p4), .unset, .unset, .unset, .unset, .unset, .unset, .unset, .unset, .unset, .unset, .unset] [(.int (0 : Int32))])) _
      refine XS.goto X0.here hx rfl (pc0 := 7) (pc' := 11) rfl (hb hby at_7) (by decide) (by decide) ?_
      show Steps p.tables e below (s₁.setTop (mkF m 11 #[.val (.int p1), .val (.int p2), .val (.int p3), .val (.int p4), .unset, .unset, .unset, .unset, .unset, .unset, .unset, .unset, .unset, .unset, .unset] [(.int (0 : Int32))])) _
      have hw_aa := hv_aa
      rw [if_neg hc3_2] at hw_aa
      subst hw_aa
      exact k
  show OGo p e below _ (s₁.setTop (mkF m 11 #[.val (.int p1), .val (.int p2), .val (.int p3), .val (.int p4), .unset, .unset, .unset, .unset, .unset, .unset, .unset, .unset, .unset, .unset, .unset] [(.int aa)]))
  refine OGo.to (fun _ k => XS.istore X0.here hx rfl (hb hby at_11) rfl (l' := #[.val (.int p1), .val (.int p2), .val (.int p3), .val (.int p4), .val (.int aa), .unset, .unset, .unset, .unset, .unset, .unset, .unset, .unset, .unset, .unset]) rfl k) ?_
  show OGo p e below _ (s₁.setTop (mkF m 13 #[.val (.int p1), .val (.int p2), .val (.int p3), .val (.int p4), .val (.int aa), .unset, .unset, .unset, .unset, .unset, .unset, .unset, .unset, .unset, .unset] []))
  refine OGo.to (fun _ k => XS.iloadN X0.here hx rfl (hb hby at_13) rfl k) ?_
  show OGo p e below _ (s₁.setTop (mkF m 14 #[.val (.int p1), .val (.int p2), .val (.int p3), .val (.int p4), .val (.int aa), .unset, .unset, .unset, .unset, .unset, .unset, .unset, .unset, .unset, .unset] [(.int p4)]))
  refine OGo.to (fun _ k => XS.iconst X0.here hx rfl (hb hby at_14) k) ?_
  show OGo p e below _ (s₁.setTop (mkF m 15 #[.val (.int p1), .val (.int p2), .val (.int p3), .val (.int p4), .val (.int aa), .unset, .unset, .unset, .unset, .unset, .unset, .unset, .unset, .unset, .unset] [(.int (2 : Int32)), (.int p4)]))
  refine OGo.to (fun _ k => XS.iand X0.here hx rfl (hb hby at_15) rfl k) ?_
  show OGo p e below _ (s₁.setTop (mkF m 16 #[.val (.int p1), .val (.int p2), .val (.int p3), .val (.int p4), .val (.int aa), .unset, .unset, .unset, .unset, .unset, .unset, .unset, .unset, .unset, .unset] [(.int (p4 &&& (2 : Int32)))]))
  obtain ⟨ss, hv_ss⟩ : ∃ z : Int32, z = (if (p4 &&& (2 : Int32)) = (0 : Int32) then p2 else (0 : Int32)) := ⟨_, rfl⟩
  refine OGo.to (S' := s₁.setTop (mkF m 24 #[.val (.int p1), .val (.int p2), .val (.int p3), .val (.int p4), .val (.int aa), .unset, .unset, .unset, .unset, .unset, .unset, .unset, .unset, .unset, .unset] [(.int ss)])) (fun _ k => ?_) ?_
  ·
    show Steps p.tables e below (s₁.setTop (mkF m 16 #[.val (.int p1), .val (.int p2), .val (.int p3), .val (.int p4), .val (.int aa), .unset, .unset, .unset, .unset, .unset, .unset, .unset, .unset, .unset, .unset] [(.int (p4 &&& (2 : Int32)))])) _
    by_cases hc16_4 : (p4 &&& (2 : Int32)) = (0 : Int32)
    ·  -- pc 16: yes
      refine XS.ifYes X0.here hx rfl (pc0 := 16) (pc' := 23) rfl (hb hby at_16) rfl ((if0 _ _).trans (teq hc16_4).1) (by decide) (by decide) ?_
      show Steps p.tables e below (s₁.setTop (mkF m 23 #[.val (.int p1), .val (.int p2), .val (.int p3), .val (.int p4), .val (.int aa), .unset, .unset, .unset, .unset, .unset, .unset, .unset, .unset, .unset, .unset] [])) _
      refine XS.iloadN X0.here hx rfl (hb hby at_23) rfl ?_
      show Steps p.tables e below (s₁.setTop (mkF m 24 #[.val (.int p1), .val (.int p2), .val (.int p3), .val (.int p4), .val (.int aa), .unset, .unset, .unset, .unset, .unset, .unset, .unset, .unset, .unset, .unset] [(.int p2)])) _
      have hw_ss := hv_ss
      rw [if_pos hc16_4] at hw_ss
      subst hw_ss
      exact k
    ·  -- pc 16: no
      refine XS.ifNo X0.here hx rfl (hb hby at_16) rfl ((if0 _ _).trans (feq hc16_4).1) ?_
      show Steps p.tables e below (s₁.setTop (mkF m 19 #[.val (.int p1), .val (.int p2), .val (.int p3), .val (.int p4), .val (.int aa), .unset, .unset, .unset, .unset, .unset, .unset, .unset, .unset, .unset, .unset] [])) _
      refine XS.iconst X0.here hx rfl (hb hby at_19) ?_
      show Steps p.tables e below (s₁.setTop (mkF m 20 #[.val (.int p1), .val (.int p2), .val (.int p3), .val (.int p4), .val (.int aa), .unset, .unset, .unset, .unset, .unset, .unset, .unset, .unset, .unset, .unset] [(.int (0 : Int32))])) _
      refine XS.goto X0.here hx rfl (pc0 := 20) (pc' := 24) rfl (hb hby at_20) (by decide) (by decide) ?_
      show Steps p.tables e below (s₁.setTop (mkF m 24 #[.val (.int p1), .val (.int p2), .val (.int p3), .val (.int p4), .val (.int aa), .unset, .unset, .unset, .unset, .unset, .unset, .unset, .unset, .unset, .unset] [(.int (0 : Int32))])) _
      have hw_ss := hv_ss
      rw [if_neg hc16_4] at hw_ss
      subst hw_ss
      exact k
  show OGo p e below _ (s₁.setTop (mkF m 24 #[.val (.int p1), .val (.int p2), .val (.int p3), .val (.int p4), .val (.int aa), .unset, .unset, .unset, .unset, .unset, .unset, .unset, .unset, .unset, .unset] [(.int ss)]))
  refine OGo.to (fun _ k => XS.istore X0.here hx rfl (hb hby at_24) rfl (l' := #[.val (.int p1), .val (.int p2), .val (.int p3), .val (.int p4), .val (.int aa), .val (.int ss), .unset, .unset, .unset, .unset, .unset, .unset, .unset, .unset, .unset]) rfl k) ?_
  show OGo p e below _ (s₁.setTop (mkF m 26 #[.val (.int p1), .val (.int p2), .val (.int p3), .val (.int p4), .val (.int aa), .val (.int ss), .unset, .unset, .unset, .unset, .unset, .unset, .unset, .unset, .unset] []))
  refine OGo.to (fun _ k => XS.iloadN X0.here hx rfl (hb hby at_26) rfl k) ?_
  show OGo p e below _ (s₁.setTop (mkF m 27 #[.val (.int p1), .val (.int p2), .val (.int p3), .val (.int p4), .val (.int aa), .val (.int ss), .unset, .unset, .unset, .unset, .unset, .unset, .unset, .unset, .unset] [(.int p4)]))
  refine OGo.to (fun _ k => XS.iconst X0.here hx rfl (hb hby at_27) k) ?_
  show OGo p e below _ (s₁.setTop (mkF m 28 #[.val (.int p1), .val (.int p2), .val (.int p3), .val (.int p4), .val (.int aa), .val (.int ss), .unset, .unset, .unset, .unset, .unset, .unset, .unset, .unset, .unset] [(.int (4 : Int32)), (.int p4)]))
  refine OGo.to (fun _ k => XS.iand X0.here hx rfl (hb hby at_28) rfl k) ?_
  show OGo p e below _ (s₁.setTop (mkF m 29 #[.val (.int p1), .val (.int p2), .val (.int p3), .val (.int p4), .val (.int aa), .val (.int ss), .unset, .unset, .unset, .unset, .unset, .unset, .unset, .unset, .unset] [(.int (p4 &&& (4 : Int32)))]))
  obtain ⟨lx, hv_lx⟩ : ∃ z : Int32, z = (if (p4 &&& (4 : Int32)) = (0 : Int32) then (0 : Int32) else (1 : Int32)) := ⟨_, rfl⟩
  refine OGo.to (S' := s₁.setTop (mkF m 37 #[.val (.int p1), .val (.int p2), .val (.int p3), .val (.int p4), .val (.int aa), .val (.int ss), .unset, .unset, .unset, .unset, .unset, .unset, .unset, .unset, .unset] [(.int lx)])) (fun _ k => ?_) ?_
  ·
    show Steps p.tables e below (s₁.setTop (mkF m 29 #[.val (.int p1), .val (.int p2), .val (.int p3), .val (.int p4), .val (.int aa), .val (.int ss), .unset, .unset, .unset, .unset, .unset, .unset, .unset, .unset, .unset] [(.int (p4 &&& (4 : Int32)))])) _
    by_cases hc29_6 : (p4 &&& (4 : Int32)) = (0 : Int32)
    ·  -- pc 29: yes
      refine XS.ifYes X0.here hx rfl (pc0 := 29) (pc' := 36) rfl (hb hby at_29) rfl ((if0 _ _).trans (teq hc29_6).1) (by decide) (by decide) ?_
      show Steps p.tables e below (s₁.setTop (mkF m 36 #[.val (.int p1), .val (.int p2), .val (.int p3), .val (.int p4), .val (.int aa), .val (.int ss), .unset, .unset, .unset, .unset, .unset, .unset, .unset, .unset, .unset] [])) _
      refine XS.iconst X0.here hx rfl (hb hby at_36) ?_
      show Steps p.tables e below (s₁.setTop (mkF m 37 #[.val (.int p1), .val (.int p2), .val (.int p3), .val (.int p4), .val (.int aa), .val (.int ss), .unset, .unset, .unset, .unset, .unset, .unset, .unset, .unset, .unset] [(.int (0 : Int32))])) _
      have hw_lx := hv_lx
      rw [if_pos hc29_6] at hw_lx
      subst hw_lx
      exact k
    ·  -- pc 29: no
      refine XS.ifNo X0.here hx rfl (hb hby at_29) rfl ((if0 _ _).trans (feq hc29_6).1) ?_
      show Steps p.tables e below (s₁.setTop (mkF m 32 #[.val (.int p1), .val (.int p2), .val (.int p3), .val (.int p4), .val (.int aa), .val (.int ss), .unset, .unset, .unset, .unset, .unset, .unset, .unset, .unset, .unset] [])) _
      refine XS.iconst X0.here hx rfl (hb hby at_32) ?_
      show Steps p.tables e below (s₁.setTop (mkF m 33 #[.val (.int p1), .val (.int p2), .val (.int p3), .val (.int p4), .val (.int aa), .val (.int ss), .unset, .unset, .unset, .unset, .unset, .unset, .unset, .unset, .unset] [(.int (1 : Int32))])) _
      refine XS.goto X0.here hx rfl (pc0 := 33) (pc' := 37) rfl (hb hby at_33) (by decide) (by decide) ?_
      show Steps p.tables e below (s₁.setTop (mkF m 37 #[.val (.int p1), .val (.int p2), .val (.int p3), .val (.int p4), .val (.int aa), .val (.int ss), .unset, .unset, .unset, .unset, .unset, .unset, .unset, .unset, .unset] [(.int (1 : Int32))])) _
      have hw_lx := hv_lx
      rw [if_neg hc29_6] at hw_lx
      subst hw_lx
      exact k
  show OGo p e below _ (s₁.setTop (mkF m 37 #[.val (.int p1), .val (.int p2), .val (.int p3), .val (.int p4), .val (.int aa), .val (.int ss), .unset, .unset, .unset, .unset, .unset, .unset, .unset, .unset, .unset] [(.int lx)]))
  have b_lx : lx = (0 : Int32) ∨ lx = (1 : Int32) := by rw [hv_lx]; exact own_01
  refine OGo.to (fun _ k => XS.istore X0.here hx rfl (hb hby at_37) rfl (l' := #[.val (.int p1), .val (.int p2), .val (.int p3), .val (.int p4), .val (.int aa), .val (.int ss), .val (.int lx), .unset, .unset, .unset, .unset, .unset, .unset, .unset, .unset]) rfl k) ?_
  show OGo p e below _ (s₁.setTop (mkF m 39 #[.val (.int p1), .val (.int p2), .val (.int p3), .val (.int p4), .val (.int aa), .val (.int ss), .val (.int lx), .unset, .unset, .unset, .unset, .unset, .unset, .unset, .unset] []))
  refine OGo.to (fun _ k => XS.iloadN X0.here hx rfl (hb hby at_39) rfl k) ?_
  show OGo p e below _ (s₁.setTop (mkF m 40 #[.val (.int p1), .val (.int p2), .val (.int p3), .val (.int p4), .val (.int aa), .val (.int ss), .val (.int lx), .unset, .unset, .unset, .unset, .unset, .unset, .unset, .unset] [(.int p4)]))
  refine OGo.to (fun _ k => XS.bipush X0.here hx rfl (hb hby at_40) k) ?_
  show OGo p e below _ (s₁.setTop (mkF m 42 #[.val (.int p1), .val (.int p2), .val (.int p3), .val (.int p4), .val (.int aa), .val (.int ss), .val (.int lx), .unset, .unset, .unset, .unset, .unset, .unset, .unset, .unset] [(.int (8 : Int32)), (.int p4)]))
  refine OGo.to (fun _ k => XS.iand X0.here hx rfl (hb hby at_42) rfl k) ?_
  show OGo p e below _ (s₁.setTop (mkF m 43 #[.val (.int p1), .val (.int p2), .val (.int p3), .val (.int p4), .val (.int aa), .val (.int ss), .val (.int lx), .unset, .unset, .unset, .unset, .unset, .unset, .unset, .unset] [(.int (p4 &&& (8 : Int32)))]))
  obtain ⟨hs, hv_hs⟩ : ∃ z : Int32, z = (if (p4 &&& (8 : Int32)) = (0 : Int32) then (0 : Int32) else (1 : Int32)) := ⟨_, rfl⟩
  refine OGo.to (S' := s₁.setTop (mkF m 51 #[.val (.int p1), .val (.int p2), .val (.int p3), .val (.int p4), .val (.int aa), .val (.int ss), .val (.int lx), .unset, .unset, .unset, .unset, .unset, .unset, .unset, .unset] [(.int hs)])) (fun _ k => ?_) ?_
  ·
    show Steps p.tables e below (s₁.setTop (mkF m 43 #[.val (.int p1), .val (.int p2), .val (.int p3), .val (.int p4), .val (.int aa), .val (.int ss), .val (.int lx), .unset, .unset, .unset, .unset, .unset, .unset, .unset, .unset] [(.int (p4 &&& (8 : Int32)))])) _
    by_cases hc43_8 : (p4 &&& (8 : Int32)) = (0 : Int32)
    ·  -- pc 43: yes
      refine XS.ifYes X0.here hx rfl (pc0 := 43) (pc' := 50) rfl (hb hby at_43) rfl ((if0 _ _).trans (teq hc43_8).1) (by decide) (by decide) ?_
      show Steps p.tables e below (s₁.setTop (mkF m 50 #[.val (.int p1), .val (.int p2), .val (.int p3), .val (.int p4), .val (.int aa), .val (.int ss), .val (.int lx), .unset, .unset, .unset, .unset, .unset, .unset, .unset, .unset] [])) _
      refine XS.iconst X0.here hx rfl (hb hby at_50) ?_
      show Steps p.tables e below (s₁.setTop (mkF m 51 #[.val (.int p1), .val (.int p2), .val (.int p3), .val (.int p4), .val (.int aa), .val (.int ss), .val (.int lx), .unset, .unset, .unset, .unset, .unset, .unset, .unset, .unset] [(.int (0 : Int32))])) _
      have hw_hs := hv_hs
      rw [if_pos hc43_8] at hw_hs
      subst hw_hs
      exact k
    ·  -- pc 43: no
      refine XS.ifNo X0.here hx rfl (hb hby at_43) rfl ((if0 _ _).trans (feq hc43_8).1) ?_
      show Steps p.tables e below (s₁.setTop (mkF m 46 #[.val (.int p1), .val (.int p2), .val (.int p3), .val (.int p4), .val (.int aa), .val (.int ss), .val (.int lx), .unset, .unset, .unset, .unset, .unset, .unset, .unset, .unset] [])) _
      refine XS.iconst X0.here hx rfl (hb hby at_46) ?_
      show Steps p.tables e below (s₁.setTop (mkF m 47 #[.val (.int p1), .val (.int p2), .val (.int p3), .val (.int p4), .val (.int aa), .val (.int ss), .val (.int lx), .unset, .unset, .unset, .unset, .unset, .unset, .unset, .unset] [(.int (1 : Int32))])) _
      refine XS.goto X0.here hx rfl (pc0 := 47) (pc' := 51) rfl (hb hby at_47) (by decide) (by decide) ?_
      show Steps p.tables e below (s₁.setTop (mkF m 51 #[.val (.int p1), .val (.int p2), .val (.int p3), .val (.int p4), .val (.int aa), .val (.int ss), .val (.int lx), .unset, .unset, .unset, .unset, .unset, .unset, .unset, .unset] [(.int (1 : Int32))])) _
      have hw_hs := hv_hs
      rw [if_neg hc43_8] at hw_hs
      subst hw_hs
      exact k
  show OGo p e below _ (s₁.setTop (mkF m 51 #[.val (.int p1), .val (.int p2), .val (.int p3), .val (.int p4), .val (.int aa), .val (.int ss), .val (.int lx), .unset, .unset, .unset, .unset, .unset, .unset, .unset, .unset] [(.int hs)]))
  refine OGo.to (fun _ k => XS.istore X0.here hx rfl (hb hby at_51) rfl (l' := #[.val (.int p1), .val (.int p2), .val (.int p3), .val (.int p4), .val (.int aa), .val (.int ss), .val (.int lx), .val (.int hs), .unset, .unset, .unset, .unset, .unset, .unset, .unset]) rfl k) ?_
  show OGo p e below _ (s₁.setTop (mkF m 53 #[.val (.int p1), .val (.int p2), .val (.int p3), .val (.int p4), .val (.int aa), .val (.int ss), .val (.int lx), .val (.int hs), .unset, .unset, .unset, .unset, .unset, .unset, .unset] []))
  refine OGo.to (fun _ k => XS.iloadN X0.here hx rfl (hb hby at_53) rfl k) ?_
  show OGo p e below _ (s₁.setTop (mkF m 54 #[.val (.int p1), .val (.int p2), .val (.int p3), .val (.int p4), .val (.int aa), .val (.int ss), .val (.int lx), .val (.int hs), .unset, .unset, .unset, .unset, .unset, .unset, .unset] [(.int p4)]))
  refine OGo.to (fun _ k => XS.bipush X0.here hx rfl (hb hby at_54) k) ?_
  show OGo p e below _ (s₁.setTop (mkF m 56 #[.val (.int p1), .val (.int p2), .val (.int p3), .val (.int p4), .val (.int aa), .val (.int ss), .val (.int lx), .val (.int hs), .unset, .unset, .unset, .unset, .unset, .unset, .unset] [(.int (16 : Int32)), (.int p4)]))
  refine OGo.to (fun _ k => XS.iand X0.here hx rfl (hb hby at_56) rfl k) ?_
  show OGo p e below _ (s₁.setTop (mkF m 57 #[.val (.int p1), .val (.int p2), .val (.int p3), .val (.int p4), .val (.int aa), .val (.int ss), .val (.int lx), .val (.int hs), .unset, .unset, .unset, .unset, .unset, .unset, .unset] [(.int (p4 &&& (16 : Int32)))]))
  obtain ⟨rc, hv_rc⟩ : ∃ z : Int32, z = (if (p4 &&& (16 : Int32)) = (0 : Int32) then (0 : Int32) else (1 : Int32)) := ⟨_, rfl⟩
  refine OGo.to (S' := s₁.setTop (mkF m 65 #[.val (.int p1), .val (.int p2), .val (.int p3), .val (.int p4), .val (.int aa), .val (.int ss), .val (.int lx), .val (.int hs), .unset, .unset, .unset, .unset, .unset, .unset, .unset] [(.int rc)])) (fun _ k => ?_) ?_
  ·
    show Steps p.tables e below (s₁.setTop (mkF m 57 #[.val (.int p1), .val (.int p2), .val (.int p3), .val (.int p4), .val (.int aa), .val (.int ss), .val (.int lx), .val (.int hs), .unset, .unset, .unset, .unset, .unset, .unset, .unset] [(.int (p4 &&& (16 : Int32)))])) _
    by_cases hc57_10 : (p4 &&& (16 : Int32)) = (0 : Int32)
    ·  -- pc 57: yes
      refine XS.ifYes X0.here hx rfl (pc0 := 57) (pc' := 64) rfl (hb hby at_57) rfl ((if0 _ _).trans (teq hc57_10).1) (by decide) (by decide) ?_
      show Steps p.tables e below (s₁.setTop (mkF m 64 #[.val (.int p1), .val (.int p2), .val (.int p3), .val (.int p4), .val (.int aa), .val (.int ss), .val (.int lx), .val (.int hs), .unset, .unset, .unset, .unset, .unset, .unset, .unset] [])) _
      refine XS.iconst X0.here hx rfl (hb hby at_64) ?_
      show Steps p.tables e below (s₁.setTop (mkF m 65 #[.val (.int p1), .val (.int p2), .val (.int p3), .val (.int p4), .val (.int aa), .val (.int ss), .val (.int lx), .val (.int hs), .unset, .unset, .unset, .unset, .unset, .unset, .unset] [(.int (0 : Int32))])) _
      have hw_rc := hv_rc
      rw [if_pos hc57_10] at hw_rc
      subst hw_rc
      exact k
    ·  -- pc 57: no
      refine XS.ifNo X0.here hx rfl (hb hby at_57) rfl ((if0 _ _).trans (feq hc57_10).1) ?_
      show Steps p.tables e below (s₁.setTop (mkF m 60 #[.val (.int p1), .val (.int p2), .val (.int p3), .val (.int p4), .val (.int aa), .val (.int ss), .val (.int lx), .val (.int hs), .unset, .unset, .unset, .unset, .unset, .unset, .unset] [])) _
      refine XS.iconst X0.here hx rfl (hb hby at_60) ?_
      show Steps p.tables e below (s₁.setTop (mkF m 61 #[.val (.int p1), .val (.int p2), .val (.int p3), .val (.int p4), .val (.int aa), .val (.int ss), .val (.int lx), .val (.int hs), .unset, .unset, .unset, .unset, .unset, .unset, .unset] [(.int (1 : Int32))])) _
      refine XS.goto X0.here hx rfl (pc0 := 61) (pc' := 65) rfl (hb hby at_61) (by decide) (by decide) ?_
      show Steps p.tables e below (s₁.setTop (mkF m 65 #[.val (.int p1), .val (.int p2), .val (.int p3), .val (.int p4), .val (.int aa), .val (.int ss), .val (.int lx), .val (.int hs), .unset, .unset, .unset, .unset, .unset, .unset, .unset] [(.int (1 : Int32))])) _
      have hw_rc := hv_rc
      rw [if_neg hc57_10] at hw_rc
      subst hw_rc
      exact k
  show OGo p e below _ (s₁.setTop (mkF m 65 #[.val (.int p1), .val (.int p2), .val (.int p3), .val (.int p4), .val (.int aa), .val (.int ss), .val (.int lx), .val (.int hs), .unset, .unset, .unset, .unset, .unset, .unset, .unset] [(.int rc)]))
  have b_rc : rc = (0 : Int32) ∨ rc = (1 : Int32) := by rw [hv_rc]; exact own_01
  refine OGo.to (fun _ k => XS.istore X0.here hx rfl (hb hby at_65) rfl (l' := #[.val (.int p1), .val (.int p2), .val (.int p3), .val (.int p4), .val (.int aa), .val (.int ss), .val (.int lx), .val (.int hs), .val (.int rc), .unset, .unset, .unset, .unset, .unset, .unset]) rfl k) ?_
  show OGo p e below _ (s₁.setTop (mkF m 67 #[.val (.int p1), .val (.int p2), .val (.int p3), .val (.int p4), .val (.int aa), .val (.int ss), .val (.int lx), .val (.int hs), .val (.int rc), .unset, .unset, .unset, .unset, .unset, .unset] []))
  refine OGo.to (fun _ k => XS.iloadN X0.here hx rfl (hb hby at_67) rfl k) ?_
  show OGo p e below _ (s₁.setTop (mkF m 68 #[.val (.int p1), .val (.int p2), .val (.int p3), .val (.int p4), .val (.int aa), .val (.int ss), .val (.int lx), .val (.int hs), .val (.int rc), .unset, .unset, .unset, .unset, .unset, .unset] [(.int p4)]))
  refine OGo.to (fun _ k => XS.bipush X0.here hx rfl (hb hby at_68) k) ?_
  show OGo p e below _ (s₁.setTop (mkF m 70 #[.val (.int p1), .val (.int p2), .val (.int p3), .val (.int p4), .val (.int aa), .val (.int ss), .val (.int lx), .val (.int hs), .val (.int rc), .unset, .unset, .unset, .unset, .unset, .unset] [(.int (32 : Int32)), (.int p4)]))
  refine OGo.to (fun _ k => XS.iand X0.here hx rfl (hb hby at_70) rfl k) ?_
  show OGo p e below _ (s₁.setTop (mkF m 71 #[.val (.int p1), .val (.int p2), .val (.int p3), .val (.int p4), .val (.int aa), .val (.int ss), .val (.int lx), .val (.int hs), .val (.int rc), .unset, .unset, .unset, .unset, .unset, .unset] [(.int (p4 &&& (32 : Int32)))]))
  obtain ⟨rp, hv_rp⟩ : ∃ z : Int32, z = (if (p4 &&& (32 : Int32)) = (0 : Int32) then (0 : Int32) else (1 : Int32)) := ⟨_, rfl⟩
  refine OGo.to (S' := s₁.setTop (mkF m 79 #[.val (.int p1), .val (.int p2), .val (.int p3), .val (.int p4), .val (.int aa), .val (.int ss), .val (.int lx), .val (.int hs), .val (.int rc), .unset, .unset, .unset, .unset, .unset, .unset] [(.int rp)])) (fun _ k => ?_) ?_
  ·
    show Steps p.tables e below (s₁.setTop (mkF m 71 #[.val (.int p1), .val (.int p2), .val (.int p3), .val (.int p4), .val (.int aa), .val (.int ss), .val (.int lx), .val (.int hs), .val (.int rc), .unset, .unset, .unset, .unset, .unset, .unset] [(.int (p4 &&& (32 : Int32)))])) _
    by_cases hc71_12 : (p4 &&& (32 : Int32)) = (0 : Int32)
    ·  -- pc 71: yes
      refine XS.ifYes X0.here hx rfl (pc0 := 71) (pc' := 78) rfl (hb hby at_71) rfl ((if0 _ _).trans (teq hc71_12).1) (by decide) (by decide) ?_
      show Steps p.tables e below (s₁.setTop (mkF m 78 #[.val (.int p1), .val (.int p2), .val (.int p3), .val (.int p4), .val (.int aa), .val (.int ss), .val (.int lx), .val (.int hs), .val (.int rc), .unset, .unset, .unset, .unset, .unset, .unset] [])) _
      refine XS.iconst X0.here hx rfl (hb hby at_78) ?_
      show Steps p.tables e below (s₁.setTop (mkF m 79 #[.val (.int p1), .val (.int p2), .val (.int p3), .val (.int p4), .val (.int aa), .val (.int ss), .val (.int lx), .val (.int hs), .val (.int rc), .unset, .unset, .unset, .unset, .unset, .unset] [(.int (0 : Int32))])) _
      have hw_rp := hv_rp
      rw [if_pos hc71_12] at hw_rp
      subst hw_rp
      exact k
    ·  -- pc 71: no
      refine XS.ifNo X0.here hx rfl (hb hby at_71) rfl ((if0 _ _).trans (feq hc71_12).1) ?_
      show Steps p.tables e below (s₁.setTop (mkF m 74 #[.val (.int p1), .val (.int p2), .val (.int p3), .val (.int p4), .val (.int aa), .val (.int ss), .val (.int lx), .val (.int hs), .val (.int rc), .unset, .unset, .unset, .unset, .unset, .unset] [])) _
      refine XS.iconst X0.here hx rfl (hb hby at_74) ?_
      show Steps p.tables e below (s₁.setTop (mkF m 75 #[.val (.int p1), .val (.int p2), .val (.int p3), .val (.int p4), .val (.int aa), .val (.int ss), .val (.int lx), .val (.int hs), .val (.int rc), .unset, .unset, .unset, .unset, .unset, .unset] [(.int (1 : Int32))])) _
      refine XS.goto X0.here hx rfl (pc0 := 75) (pc' := 79) rfl (hb hby at_75) (by decide) (by decide) ?_
      show Steps p.tables e below (s₁.setTop (mkF m 79 #[.val (.int p1), .val (.int p2), .val (.int p3), .val (.int p4), .val (.int aa), .val (.int ss), .val (.int lx), .val (.int hs), .val (.int rc), .unset, .unset, .unset, .unset, .unset, .unset] [(.int (1 : Int32))])) _
      have hw_rp := hv_rp
      rw [if_neg hc71_12] at hw_rp
      subst hw_rp
      exact k
  show OGo p e below _ (s₁.setTop (mkF m 79 #[.val (.int p1), .val (.int p2), .val (.int p3), .val (.int p4), .val (.int aa), .val (.int ss), .val (.int lx), .val (.int hs), .val (.int rc), .unset, .unset, .unset, .unset, .unset, .unset] [(.int rp)]))
  have b_rp : rp = (0 : Int32) ∨ rp = (1 : Int32) := by rw [hv_rp]; exact own_01
  refine OGo.to (fun _ k => XS.istore X0.here hx rfl (hb hby at_79) rfl (l' := #[.val (.int p1), .val (.int p2), .val (.int p3), .val (.int p4), .val (.int aa), .val (.int ss), .val (.int lx), .val (.int hs), .val (.int rc), .val (.int rp), .unset, .unset, .unset, .unset, .unset]) rfl k) ?_
  show OGo p e below _ (s₁.setTop (mkF m 81 #[.val (.int p1), .val (.int p2), .val (.int p3), .val (.int p4), .val (.int aa), .val (.int ss), .val (.int lx), .val (.int hs), .val (.int rc), .val (.int rp), .unset, .unset, .unset, .unset, .unset] []))
  obtain ⟨T13, h13, X13, e13, E13, A13, D13, -, st13⟩ := newO X0 hx hZ hown (hw _ (List.mem_of_getElem? (i := 0) rfl)) (hw _ (List.mem_of_getElem? (i := 1) rfl)) (hw _ (List.mem_of_getElem? (i := 2) rfl)) e0 (g := (mkF m 81 #[.val (.int p1), .val (.int p2), .val (.int p3), .val (.int p4), .val (.int aa), .val (.int ss), .val (.int lx), .val (.int hs), .val (.int rc), .val (.int rp), .unset, .unset, .unset, .unset, .unset] [])) rfl (hb hby at_81) (by decide) (by decide)
  obtain ⟨b13, g13⟩ : ∃ z, z = h0.size := ⟨_, rfl⟩
  rw [← g13] at A13 D13 st13
  have g_b13 : n0 ≤ b13 := Nat.le_trans Z0 (Nat.le_of_eq g13.symm)
  refine OGo.to st13 ?_
  have z14 : n0 ≤ h13.size := Nat.le_trans Z0 E13.1
  have F_bound_b13 : Fld Z h13 b13 "com/example/dromos/dromos/service/Definition" "bound" "I" (.int (0 : Int32)) := D13 (Or.inl (hw _ (List.mem_of_getElem? (i := 10) rfl))) (ty := .int) (by decide)
  have F_free_b13 : Fld Z h13 b13 "com/example/dromos/dromos/service/Definition" "free" "I" (.int (0 : Int32)) := D13 (Or.inl (hw _ (List.mem_of_getElem? (i := 12) rfl))) (ty := .int) (by decide)
  have F_operators_b13 : Fld Z h13 b13 "com/example/dromos/dromos/service/Definition" "operators" "[I" .null := D13 (Or.inl (hw _ (List.mem_of_getElem? (i := 15) rfl))) (ty := (.array .int)) (by decide)
  have F_name_b13 : Fld Z h13 b13 "com/example/dromos/dromos/service/Definition" "name" "Ljava/lang/String;" .null := D13 (Or.inr (hw _ (List.mem_of_getElem? (i := 17) rfl))) (ty := (.object "java/lang/String")) (by decide)
  have F_arity_b13 : Fld Z h13 b13 "com/example/dromos/dromos/service/Definition" "arity" "I" (.int (0 : Int32)) := D13 (Or.inr (hw _ (List.mem_of_getElem? (i := 19) rfl))) (ty := .int) (by decide)
  have F_hidden_b13 : Fld Z h13 b13 "com/example/dromos/dromos/service/Definition" "hidden" "I" (.int (0 : Int32)) := D13 (Or.inr (hw _ (List.mem_of_getElem? (i := 21) rfl))) (ty := .int) (by decide)
  have F_at_b13 : Fld Z h13 b13 "com/example/dromos/dromos/service/Definition" "at" "Lcom/example/dromos/dromos/model/Location;" .null := D13 (Or.inr (hw _ (List.mem_of_getElem? (i := 23) rfl))) (ty := (.object "com/example/dromos/dromos/model/Location")) (by decide)
  have F_lexical_b13 : Fld Z h13 b13 "com/example/dromos/dromos/service/Definition" "lexical" "Z" (.int (0 : Int32)) := D13 (Or.inr (hw _ (List.mem_of_getElem? (i := 25) rfl))) (ty := .boolean) (by decide)
  have F_body_b13 : Fld Z h13 b13 "com/example/dromos/dromos/service/Definition" "body" "Lcom/example/dromos/dromos/service/Node;" .null := D13 (Or.inl (hw _ (List.mem_of_getElem? (i := 32) rfl))) (ty := (.object "com/example/dromos/dromos/service/Node")) (by decide)
  have F_slots_b13 : Fld Z h13 b13 "com/example/dromos/dromos/service/Definition" "slots" "I" (.int (0 : Int32)) := D13 (Or.inl (hw _ (List.mem_of_getElem? (i := 34) rfl))) (ty := .int) (by decide)
  have F_recursive_b13 : Fld Z h13 b13 "com/example/dromos/dromos/service/Definition" "recursive" "Z" (.int (0 : Int32)) := D13 (Or.inl (hw _ (List.mem_of_getElem? (i := 36) rfl))) (ty := .boolean) (by decide)
  have F_replacesVariable_b13 : Fld Z h13 b13 "com/example/dromos/dromos/service/Definition" "replacesVariable" "Z" (.int (0 : Int32)) := D13 (Or.inl (hw _ (List.mem_of_getElem? (i := 38) rfl))) (ty := .boolean) (by decide)
  show OGo p e below _ (T13.setTop (mkF m 84 #[.val (.int p1), .val (.int p2), .val (.int p3), .val (.int p4), .val (.int aa), .val (.int ss), .val (.int lx), .val (.int hs), .val (.int rc), .val (.int rp), .unset, .unset, .unset, .unset, .unset] [(.ref b13)]))
  refine OGo.to (fun _ k => XS.dup X13.here hx rfl (hb hby at_84) rfl rfl k) ?_
  show OGo p e below _ (T13.setTop (mkF m 85 #[.val (.int p1), .val (.int p2), .val (.int p3), .val (.int p4), .val (.int aa), .val (.int ss), .val (.int lx), .val (.int hs), .val (.int rc), .val (.int rp), .unset, .unset, .unset, .unset, .unset] [(.ref b13), (.ref b13)]))
  refine OGo.to (fun _ k => XS.aconstNull X13.here hx rfl (hb hby at_85) k) ?_
  show OGo p e below _ (T13.setTop (mkF m 86 #[.val (.int p1), .val (.int p2), .val (.int p3), .val (.int p4), .val (.int aa), .val (.int ss), .val (.int lx), .val (.int hs), .val (.int rc), .val (.int rp), .unset, .unset, .unset, .unset, .unset] [.null, (.ref b13), (.ref b13)]))
  refine OGo.to (fun _ k => XS.iload X13.here hx rfl (hb hby at_86) rfl k) ?_
  show OGo p e below _ (T13.setTop (mkF m 88 #[.val (.int p1), .val (.int p2), .val (.int p3), .val (.int p4), .val (.int aa), .val (.int ss), .val (.int lx), .val (.int hs), .val (.int rc), .val (.int rp), .unset, .unset, .unset, .unset, .unset] [(.int aa), .null, (.ref b13), (.ref b13)]))
  refine OGo.to (fun _ k => XS.iloadN X13.here hx rfl (hb hby at_88) rfl k) ?_
  show OGo p e below _ (T13.setTop (mkF m 89 #[.val (.int p1), .val (.int p2), .val (.int p3), .val (.int p4), .val (.int aa), .val (.int ss), .val (.int lx), .val (.int hs), .val (.int rc), .val (.int rp), .unset, .unset, .unset, .unset, .unset] [(.int p3), (.int aa), .null, (.ref b13), (.ref b13)]))
  refine OGo.to (fun _ k => XS.aconstNull X13.here hx rfl (hb hby at_89) k) ?_
  show OGo p e below _ (T13.setTop (mkF m 90 #[.val (.int p1), .val (.int p2), .val (.int p3), .val (.int p4), .val (.int aa), .val (.int ss), .val (.int lx), .val (.int hs), .val (.int rc), .val (.int rp), .unset, .unset, .unset, .unset, .unset] [.null, (.int p3), (.int aa), .null, (.ref b13), (.ref b13)]))
  refine OGo.to (fun _ k => XS.iload X13.here hx rfl (hb hby at_90) rfl k) ?_
  show OGo p e below _ (T13.setTop (mkF m 92 #[.val (.int p1), .val (.int p2), .val (.int p3), .val (.int p4), .val (.int aa), .val (.int ss), .val (.int lx), .val (.int hs), .val (.int rc), .val (.int rp), .unset, .unset, .unset, .unset, .unset] [(.int lx), .null, (.int p3), (.int aa), .null, (.ref b13), (.ref b13)]))
  obtain ⟨_, _, ⟨T15, L15, k15, n15⟩, -, X15, ⟨Lc15, hQ15, l15, y15, z15⟩, st15⟩ := X13.specialBack hx (y := (⟨"com/example/dromos/dromos/service/Definition", "<init>", "(Ljava/lang/String;IILcom/example/dromos/dromos/model/Location;Z)V"⟩ : MethodName)) rfl hown (mvT hZ (hw _ (List.mem_of_getElem? (i := 3) rfl))) (mvT hZ (hw _ (List.mem_of_getElem? (i := 4) rfl))) (mvT hZ (hw _ (List.mem_of_getElem? (i := 5) rfl))) (by decide) (backOf (W := 1) (rm1 l Z a0 hw [] b13 aa p3 lx h13 n0 z14 A13 F_bound_b13 F_free_b13 F_operators_b13 F_name_b13 F_arity_b13 F_hidden_b13 F_at_b13 F_lexical_b13 F_body_b13 F_slots_b13 F_recursive_b13 F_replacesVariable_b13 g_b13 (b_lx)) hZ (hw _ (List.mem_of_getElem? (i := 5) rfl)) (hw _ (List.mem_of_getElem? (i := 2) rfl)) (by decide) (by decide)) (g := (mkF m 92 #[.val (.int p1), .val (.int p2), .val (.int p3), .val (.int p4), .val (.int aa), .val (.int ss), .val (.int lx), .val (.int hs), .val (.int rc), .val (.int rp), .unset, .unset, .unset, .unset, .unset] [(.int lx), .null, (.int p3), (.int aa), .null, (.ref b13), (.ref b13)])) rfl (by rw [hml]; rfl) (Steps.refl _) (a := b13) (argsL := [.null, (.int aa), (.int p3), .null, (.int lx)]) (rest := [(.ref b13)]) (lenOf pd_1 rfl) rfl (by show 2 * 0 + _ ≤ _; exact Nat.le_of_eq rfl) (hb hby at_92) (fun _ _ => ⟨rfl, e13, (by decide : 1 + 1 ≤ _), (by decide : 15 + 0 ≤ _)⟩)
  dsimp only [Pt.U, Pt.locs, Pt.cells, Pt.slots] at X15 l15 y15 z15 st15 hQ15
  subst l15 y15 z15
  obtain ⟨rfl, N15q, K15, p15_0, p15_1, p15_2, p15_3, p15_4, p15_5, p15_6, p15_7⟩ := hQ15
  have N15 := Fr.app N0 N15q
  refine OGo.to (fun _ k => st15.trans k) ?_
  have z16 : n0 ≤ T15.heap.size := Nat.le_trans z14 K15.1
  show OGo p e below _ (T15.setTop (mkF m 95 #[.val (.int p1), .val (.int p2), .val (.int p3), .val (.int p4), .val (.int aa), .val (.int ss), .val (.int lx), .val (.int hs), .val (.int rc), .val (.int rp), .unset, .unset, .unset, .unset, .unset] [(.ref b13)]))
  refine OGo.to (fun _ k => XS.astore X15.here hx rfl (hb hby at_95) rfl rfl (l' := #[.val (.int p1), .val (.int p2), .val (.int p3), .val (.int p4), .val (.int aa), .val (.int ss), .val (.int lx), .val (.int hs), .val (.int rc), .val (.int rp), .val (.ref b13), .unset, .unset, .unset, .unset]) rfl k) ?_
  show OGo p e below _ (T15.setTop (mkF m 97 #[.val (.int p1), .val (.int p2), .val (.int p3), .val (.int p4), .val (.int aa), .val (.int ss), .val (.int lx), .val (.int hs), .val (.int rc), .val (.int rp), .val (.ref b13), .unset, .unset, .unset, .unset] []))
  refine OGo.to (fun _ k => XS.iload X15.here hx rfl (hb hby at_97) rfl k) ?_
  show OGo p e below _ (T15.setTop (mkF m 99 #[.val (.int p1), .val (.int p2), .val (.int p3), .val (.int p4), .val (.int aa), .val (.int ss), .val (.int lx), .val (.int hs), .val (.int rc), .val (.int rp), .val (.ref b13), .unset, .unset, .unset, .unset] [(.int hs)]))
  by_cases hc99_17 : hs = (0 : Int32)
  ·  -- pc 99: yes
    refine OGo.to (fun _ k => XS.ifYes X15.here hx rfl (pc0 := 99) (pc' := 114) rfl (hb hby at_99) rfl ((if0 _ _).trans (teq hc99_17).1) (by decide) (by decide) k) ?_
    show OGo p e below _ (T15.setTop (mkF m 114 #[.val (.int p1), .val (.int p2), .val (.int p3), .val (.int p4), .val (.int aa), .val (.int ss), .val (.int lx), .val (.int hs), .val (.int rc), .val (.int rp), .val (.ref b13), .unset, .unset, .unset, .unset] []))
    refine OGo.to (fun _ k => XS.aconstNull X15.here hx rfl (hb hby at_114) k) ?_
    show OGo p e below _ (T15.setTop (mkF m 115 #[.val (.int p1), .val (.int p2), .val (.int p3), .val (.int p4), .val (.int aa), .val (.int ss), .val (.int lx), .val (.int hs), .val (.int rc), .val (.int rp), .val (.ref b13), .unset, .unset, .unset, .unset] [.null]))
    refine OGo.to (fun _ k => XS.astore X15.here hx rfl (hb hby at_115) rfl rfl (l' := #[.val (.int p1), .val (.int p2), .val (.int p3), .val (.int p4), .val (.int aa), .val (.int ss), .val (.int lx), .val (.int hs), .val (.int rc), .val (.int rp), .val (.ref b13), .val .null, .unset, .unset, .unset]) rfl k) ?_
    show OGo p e below _ (T15.setTop (mkF m 117 #[.val (.int p1), .val (.int p2), .val (.int p3), .val (.int p4), .val (.int aa), .val (.int ss), .val (.int lx), .val (.int hs), .val (.int rc), .val (.int rp), .val (.ref b13), .val .null, .unset, .unset, .unset] []))
    refine OGo.to (fun _ k => XS.aload X15.here hx rfl (hb hby at_117) rfl rfl k) ?_
    show OGo p e below _ (T15.setTop (mkF m 119 #[.val (.int p1), .val (.int p2), .val (.int p3), .val (.int p4), .val (.int aa), .val (.int ss), .val (.int lx), .val (.int hs), .val (.int rc), .val (.int rp), .val (.ref b13), .val .null, .unset, .unset, .unset] [(.ref b13)]))
    refine OGo.to (fun _ k => XS.aload X15.here hx rfl (hb hby at_119) rfl rfl k) ?_
    show OGo p e below _ (T15.setTop (mkF m 121 #[.val (.int p1), .val (.int p2), .val (.int p3), .val (.int p4), .val (.int aa), .val (.int ss), .val (.int lx), .val (.int hs), .val (.int rc), .val (.int rp), .val (.ref b13), .val .null, .unset, .unset, .unset] [.null, (.ref b13)]))
    refine OGo.to (fun _ k => XS.iload X15.here hx rfl (hb hby at_121) rfl k) ?_
    show OGo p e below _ (T15.setTop (mkF m 123 #[.val (.int p1), .val (.int p2), .val (.int p3), .val (.int p4), .val (.int aa), .val (.int ss), .val (.int lx), .val (.int hs), .val (.int rc), .val (.int rp), .val (.ref b13), .val .null, .unset, .unset, .unset] [(.int ss), .null, (.ref b13)]))
    have f19 : Exa Z T15.heap b13 "com/example/dromos/dromos/service/Definition" := (A13.keep K15)
    obtain ⟨cq18, kq18, q18a, q18b, q18c⟩ := isOf hZ (rfl : T15.heap = T15.heap) f19
    obtain ⟨_, _, ⟨T18, L18, k18, n18⟩, -, X18, ⟨Lc18, hQ18, l18, y18, z18⟩, st18⟩ := X15.virtualBack hx (y := (⟨"com/example/dromos/dromos/service/Definition", "define", "(Lcom/example/dromos/dromos/service/Node;I)Lcom/example/dromos/dromos/service/Definition;"⟩ : MethodName)) (z := (⟨"com/example/dromos/dromos/service/Definition", "define", "(Lcom/example/dromos/dromos/service/Node;I)Lcom/example/dromos/dromos/service/Definition;"⟩ : MethodName)) hown (mvT hZ (hw _ (List.mem_of_getElem? (i := 26) rfl))) (mvT hZ (hw _ (List.mem_of_getElem? (i := 27) rfl))) (notFace_of_selects (args := #[]) (mvT hZ (hw _ (List.mem_of_getElem? (i := 29) rfl)))) (mvT hZ (hw _ (List.mem_of_getElem? (i := 29) rfl))) (mvT hZ (hw _ (List.mem_of_getElem? (i := 28) rfl))) (by decide) (backOf (W := 0) (rmdefN l Z a0 hw [] b13 ss aa lx (0 : Int32) (0 : Int32) T15.heap n0 z16 f19 p15_4 p15_5 p15_0 p15_1 p15_6 p15_7 g_b13) hZ (hw _ (List.mem_of_getElem? (i := 30) rfl)) (hw _ (List.mem_of_getElem? (i := 2) rfl)) (by decide) (by decide)) q18a q18c (g := (mkF m 123 #[.val (.int p1), .val (.int p2), .val (.int p3), .val (.int p4), .val (.int aa), .val (.int ss), .val (.int lx), .val (.int hs), .val (.int rc), .val (.int rp), .val (.ref b13), .val .null, .unset, .unset, .unset] [(.int ss), .null, (.ref b13)])) rfl (by rw [hml]; rfl) (Steps.refl _) (argsL := [.null, (.int ss)]) (rest := []) (lenOf pd_2 rfl) rfl (by show 2 * 0 + _ ≤ _; exact Nat.le_of_eq rfl) (hb hby at_123) (fun _ _ => ⟨rfl, (rfl : T15.heap = T15.heap), (by decide : 2 + 0 ≤ _), (by decide : 15 + 0 ≤ _)⟩)
    dsimp only [Pt.U, Pt.locs, Pt.cells, Pt.slots] at X18 l18 y18 z18 st18 hQ18
    subst l18 y18 z18
    obtain ⟨rfl, N18q, K18, p18_0, p18_1, p18_2, p18_3, p18_4, p18_5⟩ := hQ18
    have N18 := Fr.app N15 N18q
    refine OGo.to (fun _ k => st18.trans k) ?_
    have z20 : n0 ≤ T18.heap.size := Nat.le_trans z16 K18.1
    show OGo p e below _ (T18.setTop (mkF m 126 #[.val (.int p1), .val (.int p2), .val (.int p3), .val (.int p4), .val (.int aa), .val (.int ss), .val (.int lx), .val (.int hs), .val (.int rc), .val (.int rp), .val (.ref b13), .val .null, .unset, .unset, .unset] [(.ref b13)]))
    refine OGo.to (fun _ k => XS.astore X18.here hx rfl (hb hby at_126) rfl rfl (l' := #[.val (.int p1), .val (.int p2), .val (.int p3), .val (.int p4), .val (.int aa), .val (.int ss), .val (.int lx), .val (.int hs), .val (.int rc), .val (.int rp), .val (.ref b13), .val .null, .val (.ref b13), .unset, .unset]) rfl k) ?_
    show OGo p e below _ (T18.setTop (mkF m 128 #[.val (.int p1), .val (.int p2), .val (.int p3), .val (.int p4), .val (.int aa), .val (.int ss), .val (.int lx), .val (.int hs), .val (.int rc), .val (.int rp), .val (.ref b13), .val .null, .val (.ref b13), .unset, .unset] []))
    refine OGo.to (fun _ k => XS.aload X18.here hx rfl (hb hby at_128) rfl rfl k) ?_
    show OGo p e below _ (T18.setTop (mkF m 130 #[.val (.int p1), .val (.int p2), .val (.int p3), .val (.int p4), .val (.int aa), .val (.int ss), .val (.int lx), .val (.int hs), .val (.int rc), .val (.int rp), .val (.ref b13), .val .null, .val (.ref b13), .unset, .unset] [(.ref b13)]))
    refine OGo.to (fun _ k => XS.iload X18.here hx rfl (hb hby at_130) rfl k) ?_
    show OGo p e below _ (T18.setTop (mkF m 132 #[.val (.int p1), .val (.int p2), .val (.int p3), .val (.int p4), .val (.int aa), .val (.int ss), .val (.int lx), .val (.int hs), .val (.int rc), .val (.int rp), .val (.ref b13), .val .null, .val (.ref b13), .unset, .unset] [(.int rc), (.ref b13)]))
    have f21 : Exa Z T18.heap b13 "com/example/dromos/dromos/service/Definition" := (f19.keep K18)
    obtain ⟨T22, h22, X22, e22, W22, st22⟩ := putF X18 hx hZ hown (host := "") (Or.inl (hw _ (List.mem_of_getElem? (i := 35) rfl))) Via.refl (rfl : T18.heap = T18.heap) p18_4 f21 (Or.inl (hw _ (List.mem_of_getElem? (i := 36) rfl))) (hw _ (List.mem_of_getElem? (i := 1) rfl)) (ty := .boolean) (by decide) (own_b b_rc).1 (own_b b_rc).2 (g := (mkF m 132 #[.val (.int p1), .val (.int p2), .val (.int p3), .val (.int p4), .val (.int aa), .val (.int ss), .val (.int lx), .val (.int hs), .val (.int rc), .val (.int rp), .val (.ref b13), .val .null, .val (.ref b13), .unset, .unset] [(.int rc), (.ref b13)])) rfl rfl (hb hby at_132)
    refine OGo.to st22 ?_
    have Fw22 : Fld Z h22 b13 "com/example/dromos/dromos/service/Definition" "recursive" "Z" (.int rc) := p18_4.same W22
    have N22 := Fr.snoc X22 N18 g_b13
    have z23 : n0 ≤ h22.size := Nat.le_trans z20 (Keep.of_wr W22).1
    show OGo p e below _ (T22.setTop (mkF m 135 #[.val (.int p1), .val (.int p2), .val (.int p3), .val (.int p4), .val (.int aa), .val (.int ss), .val (.int lx), .val (.int hs), .val (.int rc), .val (.int rp), .val (.ref b13), .val .null, .val (.ref b13), .unset, .unset] []))
    refine OGo.to (fun _ k => XS.aload X22.here hx rfl (hb hby at_135) rfl rfl k) ?_
    show OGo p e below _ (T22.setTop (mkF m 137 #[.val (.int p1), .val (.int p2), .val (.int p3), .val (.int p4), .val (.int aa), .val (.int ss), .val (.int lx), .val (.int hs), .val (.int rc), .val (.int rp), .val (.ref b13), .val .null, .val (.ref b13), .unset, .unset] [(.ref b13)]))
    refine OGo.to (fun _ k => XS.iload X22.here hx rfl (hb hby at_137) rfl k) ?_
    show OGo p e below _ (T22.setTop (mkF m 139 #[.val (.int p1), .val (.int p2), .val (.int p3), .val (.int p4), .val (.int aa), .val (.int ss), .val (.int lx), .val (.int hs), .val (.int rc), .val (.int rp), .val (.ref b13), .val .null, .val (.ref b13), .unset, .unset] [(.int rp), (.ref b13)]))
    have f24 : Exa Z h22 b13 "com/example/dromos/dromos/service/Definition" := (f21.wr W22)
    have f25 : Fld Z h22 b13 "com/example/dromos/dromos/service/Definition" "replacesVariable" "Z" (.int (0 : Int32)) := (p18_5.other W22 (Or.inr (slot_ne (Or.inl (hw _ (List.mem_of_getElem? (i := 38) rfl))) (Or.inl (hw _ (List.mem_of_getElem? (i := 36) rfl))) (by decide) (t := .boolean) (t' := .boolean) (by decide) (by decide))))
    obtain ⟨T26, h26, X26, e26, W26, st26⟩ := putF X22 hx hZ hown (host := "") (Or.inl (hw _ (List.mem_of_getElem? (i := 37) rfl))) Via.refl e22 f25 f24 (Or.inl (hw _ (List.mem_of_getElem? (i := 38) rfl))) (hw _ (List.mem_of_getElem? (i := 1) rfl)) (ty := .boolean) (by decide) (own_b b_rp).1 (own_b b_rp).2 (g := (mkF m 139 #[.val (.int p1), .val (.int p2), .val (.int p3), .val (.int p4), .val (.int aa), .val (.int ss), .val (.int lx), .val (.int hs), .val (.int rc), .val (.int rp), .val (.ref b13), .val .null, .val (.ref b13), .unset, .unset] [(.int rp), (.ref b13)])) rfl rfl (hb hby at_139)
    refine OGo.to st26 ?_
    have Fw26 : Fld Z h26 b13 "com/example/dromos/dromos/service/Definition" "replacesVariable" "Z" (.int rp) := f25.same W26
    have N26 := Fr.snoc X26 N22 g_b13
    have z27 : n0 ≤ h26.size := Nat.le_trans z23 (Keep.of_wr W26).1
    show OGo p e below _ (T26.setTop (mkF m 142 #[.val (.int p1), .val (.int p2), .val (.int p3), .val (.int p4), .val (.int aa), .val (.int ss), .val (.int lx), .val (.int hs), .val (.int rc), .val (.int rp), .val (.ref b13), .val .null, .val (.ref b13), .unset, .unset] []))
    refine OGo.to (fun _ k => XS.aload X26.here hx rfl (hb hby at_142) rfl rfl k) ?_
    show OGo p e below _ (T26.setTop (mkF m 144 #[.val (.int p1), .val (.int p2), .val (.int p3), .val (.int p4), .val (.int aa), .val (.int ss), .val (.int lx), .val (.int hs), .val (.int rc), .val (.int rp), .val (.ref b13), .val .null, .val (.ref b13), .unset, .unset] [(.ref b13)]))
    have f29 : Fld Z h26 b13 "com/example/dromos/dromos/service/Definition" "arity" "I" (.int aa) := ((p18_2.other W22 (Or.inr (slot_ne (Or.inr (hw _ (List.mem_of_getElem? (i := 19) rfl))) (Or.inl (hw _ (List.mem_of_getElem? (i := 36) rfl))) (by decide) (t := .int) (t' := .boolean) (by decide) (by decide)))).other W26 (Or.inr (slot_ne (Or.inr (hw _ (List.mem_of_getElem? (i := 19) rfl))) (Or.inl (hw _ (List.mem_of_getElem? (i := 38) rfl))) (by decide) (t := .int) (t' := .boolean) (by decide) (by decide))))
    have f30 : Fld Z h26 b13 "com/example/dromos/dromos/service/Definition" "slots" "I" (.int ss) := ((p18_1.other W22 (Or.inr (slot_ne (Or.inl (hw _ (List.mem_of_getElem? (i := 34) rfl))) (Or.inl (hw _ (List.mem_of_getElem? (i := 36) rfl))) (by decide) (t := .int) (t' := .boolean) (by decide) (by decide)))).other W26 (Or.inr (slot_ne (Or.inl (hw _ (List.mem_of_getElem? (i := 34) rfl))) (Or.inl (hw _ (List.mem_of_getElem? (i := 38) rfl))) (by decide) (t := .int) (t' := .boolean) (by decide) (by decide))))
    have f31 : Fld Z h26 b13 "com/example/dromos/dromos/service/Definition" "lexical" "Z" (.int lx) := ((p18_3.other W22 (Or.inr (slot_ne (Or.inr (hw _ (List.mem_of_getElem? (i := 25) rfl))) (Or.inl (hw _ (List.mem_of_getElem? (i := 36) rfl))) (by decide) (t := .boolean) (t' := .boolean) (by decide) (by decide)))).other W26 (Or.inr (slot_ne (Or.inr (hw _ (List.mem_of_getElem? (i := 25) rfl))) (Or.inl (hw _ (List.mem_of_getElem? (i := 38) rfl))) (by decide) (t := .boolean) (t' := .boolean) (by decide) (by decide))))
    have f32 : Fld Z h26 b13 "com/example/dromos/dromos/service/Definition" "recursive" "Z" (.int rc) := (Fw22.other W26 (Or.inr (slot_ne (Or.inl (hw _ (List.mem_of_getElem? (i := 36) rfl))) (Or.inl (hw _ (List.mem_of_getElem? (i := 38) rfl))) (by decide) (t := .boolean) (t' := .boolean) (by decide) (by decide))))
    have f33 : Fld Z h26 b13 "com/example/dromos/dromos/service/Definition" "body" "Lcom/example/dromos/dromos/service/Node;" .null := ((p18_0.other W22 (Or.inr (slot_ne (Or.inl (hw _ (List.mem_of_getElem? (i := 32) rfl))) (Or.inl (hw _ (List.mem_of_getElem? (i := 36) rfl))) (by decide) (t := (.object "com/example/dromos/dromos/service/Node")) (t' := .boolean) (by decide) (by decide)))).other W26 (Or.inr (slot_ne (Or.inl (hw _ (List.mem_of_getElem? (i := 32) rfl))) (Or.inl (hw _ (List.mem_of_getElem? (i := 38) rfl))) (by decide) (t := (.object "com/example/dromos/dromos/service/Node")) (t' := .boolean) (by decide) (by decide))))
    have f34 : Exa Z h26 b13 "com/example/dromos/dromos/service/Definition" := (f24.wr W26)
    obtain ⟨cq28, kq28, q28a, q28b, q28c⟩ := isOf hZ e26 f34
    obtain ⟨_, _, ⟨T28, L28, k28, n28⟩, -, X28, ⟨Lc28, hQ28, l28, y28, z28⟩, st28⟩ := X26.virtualBack hx (y := (⟨"com/example/dromos/dromos/service/Definition", "expandable", "()Z"⟩ : MethodName)) (z := (⟨"com/example/dromos/dromos/service/Definition", "expandable", "()Z"⟩ : MethodName)) hown (mvT hZ (hw _ (List.mem_of_getElem? (i := 39) rfl))) (mvT hZ (hw _ (List.mem_of_getElem? (i := 40) rfl))) (notFace_of_selects (args := #[]) (mvT hZ (hw _ (List.mem_of_getElem? (i := 42) rfl)))) (mvT hZ (hw _ (List.mem_of_getElem? (i := 42) rfl))) (mvT hZ (hw _ (List.mem_of_getElem? (i := 41) rfl))) (by decide) (backOf (W := 0) (rmexpN l Z a0 hw [] b13 aa ss lx rc rp h26 n0 z27 f29 f30 f31 f32 Fw26 f33) hZ (hw _ (List.mem_of_getElem? (i := 43) rfl)) (hw _ (List.mem_of_getElem? (i := 2) rfl)) (by decide) (by decide)) q28a q28c (g := (mkF m 144 #[.val (.int p1), .val (.int p2), .val (.int p3), .val (.int p4), .val (.int aa), .val (.int ss), .val (.int lx), .val (.int hs), .val (.int rc), .val (.int rp), .val (.ref b13), .val .null, .val (.ref b13), .unset, .unset] [(.ref b13)])) rfl (by rw [hml]; rfl) (Steps.refl _) (argsL := []) (rest := []) (lenOf pd_3 rfl) rfl (by show 2 * 0 + _ ≤ _; exact Nat.le_of_eq rfl) (hb hby at_144) (fun _ _ => ⟨rfl, e26, (by decide : 2 + 0 ≤ _), (by decide : 15 + 0 ≤ _)⟩)
    dsimp only [Pt.U, Pt.locs, Pt.cells, Pt.slots] at X28 l28 y28 z28 st28 hQ28
    subst l28 y28 z28
    obtain ⟨rfl, N28q, e28⟩ := hQ28
    have N28 := Fr.app N26 N28q
    refine OGo.to (fun _ k => st28.trans k) ?_
    show OGo p e below _ (T28.setTop (mkF m 147 #[.val (.int p1), .val (.int p2), .val (.int p3), .val (.int p4), .val (.int aa), .val (.int ss), .val (.int lx), .val (.int hs), .val (.int rc), .val (.int rp), .val (.ref b13), .val .null, .val (.ref b13), .unset, .unset] [(.int (0 : Int32))]))
    refine OGo.to (fun _ k => XS.istore X28.here hx rfl (hb hby at_147) rfl (l' := #[.val (.int p1), .val (.int p2), .val (.int p3), .val (.int p4), .val (.int aa), .val (.int ss), .val (.int lx), .val (.int hs), .val (.int rc), .val (.int rp), .val (.ref b13), .val .null, .val (.ref b13), .val (.int (0 : Int32)), .unset]) rfl k) ?_
    show OGo p e below _ (T28.setTop (mkF m 149 #[.val (.int p1), .val (.int p2), .val (.int p3), .val (.int p4), .val (.int aa), .val (.int ss), .val (.int lx), .val (.int hs), .val (.int rc), .val (.int rp), .val (.ref b13), .val .null, .val (.ref b13), .val (.int (0 : Int32)), .unset] []))
    refine OGo.to (fun _ k => XS.iload X28.here hx rfl (hb hby at_149) rfl k) ?_
    show OGo p e below _ (T28.setTop (mkF m 151 #[.val (.int p1), .val (.int p2), .val (.int p3), .val (.int p4), .val (.int aa), .val (.int ss), .val (.int lx), .val (.int hs), .val (.int rc), .val (.int rp), .val (.ref b13), .val .null, .val (.ref b13), .val (.int (0 : Int32)), .unset] [(.int aa)]))
    refine OGo.to (S' := T28.setTop (mkF m 216 #[.val (.int p1), .val (.int p2), .val (.int p3), .val (.int p4), .val (.int aa), .val (.int ss), .val (.int lx), .val (.int hs), .val (.int rc), .val (.int rp), .val (.ref b13), .val .null, .val (.ref b13), .val (.int (0 : Int32)), .val (.int (0 : Int32))] [])) (fun _ k => ?_) ?_
    ·
      show Steps p.tables e below (T28.setTop (mkF m 151 #[.val (.int p1), .val (.int p2), .val (.int p3), .val (.int p4), .val (.int aa), .val (.int ss), .val (.int lx), .val (.int hs), .val (.int rc), .val (.int rp), .val (.ref b13), .val .null, .val (.ref b13), .val (.int (0 : Int32)), .unset] [(.int aa)])) _
      by_cases hc151_35 : aa = (0 : Int32)
      ·  -- pc 151: yes
        refine XS.ifYes X28.here hx rfl (pc0 := 151) (pc' := 160) rfl (hb hby at_151) rfl ((if0 _ _).trans (teq hc151_35).1) (by decide) (by decide) ?_
        show Steps p.tables e below (T28.setTop (mkF m 160 #[.val (.int p1), .val (.int p2), .val (.int p3), .val (.int p4), .val (.int aa), .val (.int ss), .val (.int lx), .val (.int hs), .val (.int rc), .val (.int rp), .val (.ref b13), .val .null, .val (.ref b13), .val (.int (0 : Int32)), .unset] [])) _
        refine XS.iload X28.here hx rfl (hb hby at_160) rfl ?_
        show Steps p.tables e below (T28.setTop (mkF m 162 #[.val (.int p1), .val (.int p2), .val (.int p3), .val (.int p4), .val (.int aa), .val (.int ss), .val (.int lx), .val (.int hs), .val (.int rc), .val (.int rp), .val (.ref b13), .val .null, .val (.ref b13), .val (.int (0 : Int32)), .unset] [(.int ss)])) _
        by_cases hc162_36 : ss = (0 : Int32)
        ·  -- pc 162: yes
          refine XS.ifYes X28.here hx rfl (pc0 := 162) (pc' := 171) rfl (hb hby at_162) rfl ((if0 _ _).trans (teq hc162_36).1) (by decide) (by decide) ?_
          show Steps p.tables e below (T28.setTop (mkF m 171 #[.val (.int p1), .val (.int p2), .val (.int p3), .val (.int p4), .val (.int aa), .val (.int ss), .val (.int lx), .val (.int hs), .val (.int rc), .val (.int rp), .val (.ref b13), .val .null, .val (.ref b13), .val (.int (0 : Int32)), .unset] [])) _
          refine XS.iload X28.here hx rfl (hb hby at_171) rfl ?_
          show Steps p.tables e below (T28.setTop (mkF m 173 #[.val (.int p1), .val (.int p2), .val (.int p3), .val (.int p4), .val (.int aa), .val (.int ss), .val (.int lx), .val (.int hs), .val (.int rc), .val (.int rp), .val (.ref b13), .val .null, .val (.ref b13), .val (.int (0 : Int32)), .unset] [(.int lx)])) _
          by_cases hc173_37 : lx = (0 : Int32)
          ·  -- pc 173: yes
            refine XS.ifYes X28.here hx rfl (pc0 := 173) (pc' := 182) rfl (hb hby at_173) rfl ((if0 _ _).trans (teq hc173_37).1) (by decide) (by decide) ?_
            show Steps p.tables e below (T28.setTop (mkF m 182 #[.val (.int p1), .val (.int p2), .val (.int p3), .val (.int p4), .val (.int aa), .val (.int ss), .val (.int lx), .val (.int hs), .val (.int rc), .val (.int rp), .val (.ref b13), .val .null, .val (.ref b13), .val (.int (0 : Int32)), .unset] [])) _
            refine XS.iload X28.here hx rfl (hb hby at_182) rfl ?_
            show Steps p.tables e below (T28.setTop (mkF m 184 #[.val (.int p1), .val (.int p2), .val (.int p3), .val (.int p4), .val (.int aa), .val (.int ss), .val (.int lx), .val (.int hs), .val (.int rc), .val (.int rp), .val (.ref b13), .val .null, .val (.ref b13), .val (.int (0 : Int32)), .unset] [(.int hs)])) _
            refine XS.ifNo X28.here hx rfl (hb hby at_184) rfl ((if0 _ _).trans (teq hc99_17).2) ?_
            show Steps p.tables e below (T28.setTop (mkF m 187 #[.val (.int p1), .val (.int p2), .val (.int p3), .val (.int p4), .val (.int aa), .val (.int ss), .val (.int lx), .val (.int hs), .val (.int rc), .val (.int rp), .val (.ref b13), .val .null, .val (.ref b13), .val (.int (0 : Int32)), .unset] [])) _
            refine XS.iconst X28.here hx rfl (hb hby at_187) ?_
            show Steps p.tables e below (T28.setTop (mkF m 188 #[.val (.int p1), .val (.int p2), .val (.int p3), .val (.int p4), .val (.int aa), .val (.int ss), .val (.int lx), .val (.int hs), .val (.int rc), .val (.int rp), .val (.ref b13), .val .null, .val (.ref b13), .val (.int (0 : Int32)), .unset] [(.int (0 : Int32))])) _
            refine XS.istore X28.here hx rfl (hb hby at_188) rfl (l' := #[.val (.int p1), .val (.int p2), .val (.int p3), .val (.int p4), .val (.int aa), .val (.int ss), .val (.int lx), .val (.int hs), .val (.int rc), .val (.int rp), .val (.ref b13), .val .null, .val (.ref b13), .val (.int (0 : Int32)), .val (.int (0 : Int32))]) rfl ?_
            show Steps p.tables e below (T28.setTop (mkF m 190 #[.val (.int p1), .val (.int p2), .val (.int p3), .val (.int p4), .val (.int aa), .val (.int ss), .val (.int lx), .val (.int hs), .val (.int rc), .val (.int rp), .val (.ref b13), .val .null, .val (.ref b13), .val (.int (0 : Int32)), .val (.int (0 : Int32))] [])) _
            refine XS.goto X28.here hx rfl (pc0 := 190) (pc' := 216) rfl (hb hby at_190) (by decide) (by decide) ?_
            show Steps p.tables e below (T28.setTop (mkF m 216 #[.val (.int p1), .val (.int p2), .val (.int p3), .val (.int p4), .val (.int aa), .val (.int ss), .val (.int lx), .val (.int hs), .val (.int rc), .val (.int rp), .val (.ref b13), .val .null, .val (.ref b13), .val (.int (0 : Int32)), .val (.int (0 : Int32))] [])) _
            exact k
          ·  -- pc 173: no
            refine XS.ifNo X28.here hx rfl (hb hby at_173) rfl ((if0 _ _).trans (feq hc173_37).1) ?_
            show Steps p.tables e below (T28.setTop (mkF m 176 #[.val (.int p1), .val (.int p2), .val (.int p3), .val (.int p4), .val (.int aa), .val (.int ss), .val (.int lx), .val (.int hs), .val (.int rc), .val (.int rp), .val (.ref b13), .val .null, .val (.ref b13), .val (.int (0 : Int32)), .unset] [])) _
            refine XS.iconst X28.here hx rfl (hb hby at_176) ?_
            show Steps p.tables e below (T28.setTop (mkF m 177 #[.val (.int p1), .val (.int p2), .val (.int p3), .val (.int p4), .val (.int aa), .val (.int ss), .val (.int lx), .val (.int hs), .val (.int rc), .val (.int rp), .val (.ref b13), .val .null, .val (.ref b13), .val (.int (0 : Int32)), .unset] [(.int (0 : Int32))])) _
            refine XS.istore X28.here hx rfl (hb hby at_177) rfl (l' := #[.val (.int p1), .val (.int p2), .val (.int p3), .val (.int p4), .val (.int aa), .val (.int ss), .val (.int lx), .val (.int hs), .val (.int rc), .val (.int rp), .val (.ref b13), .val .null, .val (.ref b13), .val (.int (0 : Int32)), .val (.int (0 : Int32))]) rfl ?_
            show Steps p.tables e below (T28.setTop (mkF m 179 #[.val (.int p1), .val (.int p2), .val (.int p3), .val (.int p4), .val (.int aa), .val (.int ss), .val (.int lx), .val (.int hs), .val (.int rc), .val (.int rp), .val (.ref b13), .val .null, .val (.ref b13), .val (.int (0 : Int32)), .val (.int (0 : Int32))] [])) _
            refine XS.goto X28.here hx rfl (pc0 := 179) (pc' := 216) rfl (hb hby at_179) (by decide) (by decide) ?_
            show Steps p.tables e below (T28.setTop (mkF m 216 #[.val (.int p1), .val (.int p2), .val (.int p3), .val (.int p4), .val (.int aa), .val (.int ss), .val (.int lx), .val (.int hs), .val (.int rc), .val (.int rp), .val (.ref b13), .val .null, .val (.ref b13), .val (.int (0 : Int32)), .val (.int (0 : Int32))] [])) _
            exact k
        ·  -- pc 162: no
          refine XS.ifNo X28.here hx rfl (hb hby at_162) rfl ((if0 _ _).trans (feq hc162_36).1) ?_
          show Steps p.tables e below (T28.setTop (mkF m 165 #[.val (.int p1), .val (.int p2), .val (.int p3), .val (.int p4), .val (.int aa), .val (.int ss), .val (.int lx), .val (.int hs), .val (.int rc), .val (.int rp), .val (.ref b13), .val .null, .val (.ref b13), .val (.int (0 : Int32)), .unset] [])) _
          refine XS.iconst X28.here hx rfl (hb hby at_165) ?_
          show Steps p.tables e below (T28.setTop (mkF m 166 #[.val (.int p1), .val (.int p2), .val (.int p3), .val (.int p4), .val (.int aa), .val (.int ss), .val (.int lx), .val (.int hs), .val (.int rc), .val (.int rp), .val (.ref b13), .val .null, .val (.ref b13), .val (.int (0 : Int32)), .unset] [(.int (0 : Int32))])) _
          refine XS.istore X28.here hx rfl (hb hby at_166) rfl (l' := #[.val (.int p1), .val (.int p2), .val (.int p3), .val (.int p4), .val (.int aa), .val (.int ss), .val (.int lx), .val (.int hs), .val (.int rc), .val (.int rp), .val (.ref b13), .val .null, .val (.ref b13), .val (.int (0 : Int32)), .val (.int (0 : Int32))]) rfl ?_
          show Steps p.tables e below (T28.setTop (mkF m 168 #[.val (.int p1), .val (.int p2), .val (.int p3), .val (.int p4), .val (.int aa), .val (.int ss), .val (.int lx), .val (.int hs), .val (.int rc), .val (.int rp), .val (.ref b13), .val .null, .val (.ref b13), .val (.int (0 : Int32)), .val (.int (0 : Int32))] [])) _
          refine XS.goto X28.here hx rfl (pc0 := 168) (pc' := 216) rfl (hb hby at_168) (by decide) (by decide) ?_
          show Steps p.tables e below (T28.setTop (mkF m 216 #[.val (.int p1), .val (.int p2), .val (.int p3), .val (.int p4), .val (.int aa), .val (.int ss), .val (.int lx), .val (.int hs), .val (.int rc), .val (.int rp), .val (.ref b13), .val .null, .val (.ref b13), .val (.int (0 : Int32)), .val (.int (0 : Int32))] [])) _
          exact k
      ·  -- pc 151: no
        refine XS.ifNo X28.here hx rfl (hb hby at_151) rfl ((if0 _ _).trans (feq hc151_35).1) ?_
        show Steps p.tables e below (T28.setTop (mkF m 154 #[.val (.int p1), .val (.int p2), .val (.int p3), .val (.int p4), .val (.int aa), .val (.int ss), .val (.int lx), .val (.int hs), .val (.int rc), .val (.int rp), .val (.ref b13), .val .null, .val (.ref b13), .val (.int (0 : Int32)), .unset] [])) _
        refine XS.iconst X28.here hx rfl (hb hby at_154) ?_
        show Steps p.tables e below (T28.setTop (mkF m 155 #[.val (.int p1), .val (.int p2), .val (.int p3), .val (.int p4), .val (.int aa), .val (.int ss), .val (.int lx), .val (.int hs), .val (.int rc), .val (.int rp), .val (.ref b13), .val .null, .val (.ref b13), .val (.int (0 : Int32)), .unset] [(.int (0 : Int32))])) _
        refine XS.istore X28.here hx rfl (hb hby at_155) rfl (l' := #[.val (.int p1), .val (.int p2), .val (.int p3), .val (.int p4), .val (.int aa), .val (.int ss), .val (.int lx), .val (.int hs), .val (.int rc), .val (.int rp), .val (.ref b13), .val .null, .val (.ref b13), .val (.int (0 : Int32)), .val (.int (0 : Int32))]) rfl ?_
        show Steps p.tables e below (T28.setTop (mkF m 157 #[.val (.int p1), .val (.int p2), .val (.int p3), .val (.int p4), .val (.int aa), .val (.int ss), .val (.int lx), .val (.int hs), .val (.int rc), .val (.int rp), .val (.ref b13), .val .null, .val (.ref b13), .val (.int (0 : Int32)), .val (.int (0 : Int32))] [])) _
        refine XS.goto X28.here hx rfl (pc0 := 157) (pc' := 216) rfl (hb hby at_157) (by decide) (by decide) ?_
        show Steps p.tables e below (T28.setTop (mkF m 216 #[.val (.int p1), .val (.int p2), .val (.int p3), .val (.int p4), .val (.int aa), .val (.int ss), .val (.int lx), .val (.int hs), .val (.int rc), .val (.int rp), .val (.ref b13), .val .null, .val (.ref b13), .val (.int (0 : Int32)), .val (.int (0 : Int32))] [])) _
        exact k
    show OGo p e below _ (T28.setTop (mkF m 216 #[.val (.int p1), .val (.int p2), .val (.int p3), .val (.int p4), .val (.int aa), .val (.int ss), .val (.int lx), .val (.int hs), .val (.int rc), .val (.int rp), .val (.ref b13), .val .null, .val (.ref b13), .val (.int (0 : Int32)), .val (.int (0 : Int32))] []))
    refine OGo.to (fun _ k => XS.aload X28.here hx rfl (hb hby at_216) rfl rfl k) ?_
    show OGo p e below _ (T28.setTop (mkF m 218 #[.val (.int p1), .val (.int p2), .val (.int p3), .val (.int p4), .val (.int aa), .val (.int ss), .val (.int lx), .val (.int hs), .val (.int rc), .val (.int rp), .val (.ref b13), .val .null, .val (.ref b13), .val (.int (0 : Int32)), .val (.int (0 : Int32))] [(.ref b13)]))
    refine OGo.to (fun _ k => XS.aload X28.here hx rfl (hb hby at_218) rfl rfl k) ?_
    show OGo p e below _ (T28.setTop (mkF m 220 #[.val (.int p1), .val (.int p2), .val (.int p3), .val (.int p4), .val (.int aa), .val (.int ss), .val (.int lx), .val (.int hs), .val (.int rc), .val (.int rp), .val (.ref b13), .val .null, .val (.ref b13), .val (.int (0 : Int32)), .val (.int (0 : Int32))] [(.ref b13), (.ref b13)]))
    refine OGo.to (fun _ k => Jvm.RoadKit.acmp (g := (mkF m 220 #[.val (.int p1), .val (.int p2), .val (.int p3), .val (.int p4), .val (.int aa), .val (.int ss), .val (.int lx), .val (.int hs), .val (.int rc), .val (.int rp), .val (.ref b13), .val .null, .val (.ref b13), .val (.int (0 : Int32)), .val (.int (0 : Int32))] [(.ref b13), (.ref b13)])) X28 hx rfl rfl rfl (pc0 := 220) (pc' := 225) (same := true) rfl (hb hby at_220) rfl (decide_eq_true rfl) (by decide) (by decide) k) ?_
    show OGo p e below _ (T28.setTop (mkF m 225 #[.val (.int p1), .val (.int p2), .val (.int p3), .val (.int p4), .val (.int aa), .val (.int ss), .val (.int lx), .val (.int hs), .val (.int rc), .val (.int rp), .val (.ref b13), .val .null, .val (.ref b13), .val (.int (0 : Int32)), .val (.int (0 : Int32))] []))
    refine OGo.to (fun _ k => XS.iload X28.here hx rfl (hb hby at_225) rfl k) ?_
    show OGo p e below _ (T28.setTop (mkF m 227 #[.val (.int p1), .val (.int p2), .val (.int p3), .val (.int p4), .val (.int aa), .val (.int ss), .val (.int lx), .val (.int hs), .val (.int rc), .val (.int rp), .val (.ref b13), .val .null, .val (.ref b13), .val (.int (0 : Int32)), .val (.int (0 : Int32))] [(.int (0 : Int32))]))
    refine OGo.to (fun _ k => XS.iload X28.here hx rfl (hb hby at_227) rfl k) ?_
    show OGo p e below _ (T28.setTop (mkF m 229 #[.val (.int p1), .val (.int p2), .val (.int p3), .val (.int p4), .val (.int aa), .val (.int ss), .val (.int lx), .val (.int hs), .val (.int rc), .val (.int rp), .val (.ref b13), .val .null, .val (.ref b13), .val (.int (0 : Int32)), .val (.int (0 : Int32))] [(.int (0 : Int32)), (.int (0 : Int32))]))
    have hc229_39 : (0 : Int32) = (0 : Int32) := by decide
    refine OGo.to (fun _ k => XS.icmpYes X28.here hx rfl (pc0 := 229) (pc' := 234) rfl (hb hby at_229) rfl (teq hc229_39).1 (by decide) (by decide) k) ?_
    show OGo p e below _ (T28.setTop (mkF m 234 #[.val (.int p1), .val (.int p2), .val (.int p3), .val (.int p4), .val (.int aa), .val (.int ss), .val (.int lx), .val (.int hs), .val (.int rc), .val (.int rp), .val (.ref b13), .val .null, .val (.ref b13), .val (.int (0 : Int32)), .val (.int (0 : Int32))] []))
    refine OGo.to (fun _ k => XS.iload X28.here hx rfl (hb hby at_234) rfl k) ?_
    show OGo p e below _ (T28.setTop (mkF m 236 #[.val (.int p1), .val (.int p2), .val (.int p3), .val (.int p4), .val (.int aa), .val (.int ss), .val (.int lx), .val (.int hs), .val (.int rc), .val (.int rp), .val (.ref b13), .val .null, .val (.ref b13), .val (.int (0 : Int32)), .val (.int (0 : Int32))] [(.int (0 : Int32))]))
    have hc236_40 : (0 : Int32) = (0 : Int32) := by decide
    refine OGo.to (fun _ k => XS.ifYes X28.here hx rfl (pc0 := 236) (pc' := 257) rfl (hb hby at_236) rfl ((if0 _ _).trans (teq hc236_40).1) (by decide) (by decide) k) ?_
    show OGo p e below _ (T28.setTop (mkF m 257 #[.val (.int p1), .val (.int p2), .val (.int p3), .val (.int p4), .val (.int aa), .val (.int ss), .val (.int lx), .val (.int hs), .val (.int rc), .val (.int rp), .val (.ref b13), .val .null, .val (.ref b13), .val (.int (0 : Int32)), .val (.int (0 : Int32))] []))
    refine OGo.to (fun _ k => XS.iconst X28.here hx rfl (hb hby at_257) k) ?_
    show OGo p e below _ (T28.setTop (mkF m 258 #[.val (.int p1), .val (.int p2), .val (.int p3), .val (.int p4), .val (.int aa), .val (.int ss), .val (.int lx), .val (.int hs), .val (.int rc), .val (.int rp), .val (.ref b13), .val .null, .val (.ref b13), .val (.int (0 : Int32)), .val (.int (0 : Int32))] [(.int (1 : Int32))]))
    refine OGo.ret (Q := Q0 Z p1 p2 p3 p4 h0 n0) X28 (some (.int (1 : Int32))) (fun h => by rw [Bd.returns] at h; cases h) Bd.notSynchronized (fun fs hr => retN X28 hx (t := .boolean) (z := (1 : Int32)) Bd.returns (by simp) (hb hby at_258) hr) ?_ (by decide) (by decide)
    show Q0 Z p1 p2 p3 p4 h0 n0 _ T28.heap _
    rw [e28]
    exact ⟨rfl, N28⟩
  ·  -- pc 99: no
    refine OGo.to (fun _ k => XS.ifNo X15.here hx rfl (hb hby at_99) rfl ((if0 _ _).trans (feq hc99_17).1) k) ?_
    show OGo p e below _ (T15.setTop (mkF m 102 #[.val (.int p1), .val (.int p2), .val (.int p3), .val (.int p4), .val (.int aa), .val (.int ss), .val (.int lx), .val (.int hs), .val (.int rc), .val (.int rp), .val (.ref b13), .unset, .unset, .unset, .unset] []))
    have f42 : Exa Z T15.heap b13 "com/example/dromos/dromos/service/Definition" := (A13.keep K15)
    obtain ⟨T41, h41, X41, e41, E41, A41, D41, -, st41⟩ := newO X15 hx hZ hown (hw _ (List.mem_of_getElem? (i := 44) rfl)) (hw _ (List.mem_of_getElem? (i := 45) rfl)) (hw _ (List.mem_of_getElem? (i := 46) rfl)) (rfl : T15.heap = T15.heap) (g := (mkF m 102 #[.val (.int p1), .val (.int p2), .val (.int p3), .val (.int p4), .val (.int aa), .val (.int ss), .val (.int lx), .val (.int hs), .val (.int rc), .val (.int rp), .val (.ref b13), .unset, .unset, .unset, .unset] [])) rfl (hb hby at_102) (by decide) (by decide)
    obtain ⟨b41, g41⟩ : ∃ z, z = T15.heap.size := ⟨_, rfl⟩
    rw [← g41] at A41 D41 st41
    have g_b41 : n0 ≤ b41 := Nat.le_trans z16 (Nat.le_of_eq g41.symm)
    refine OGo.to st41 ?_
    have ne_b13_b41 : b13 ≠ b41 := Nat.ne_of_lt (Nat.lt_of_lt_of_le f42.lt (Nat.le_of_eq g41.symm))
    have z43 : n0 ≤ h41.size := Nat.le_trans z16 E41.1
    have F_at_b41 : Fld Z h41 b41 "com/example/dromos/dromos/service/Node" "at" "Lcom/example/dromos/dromos/model/Location;" .null := D41 (Or.inr (hw _ (List.mem_of_getElem? (i := 57) rfl))) (ty := (.object "com/example/dromos/dromos/model/Location")) (by decide)
    have F_value_b41 : Fld Z h41 b41 "com/example/dromos/dromos/service/Nodes$Constant" "value" "Lcom/example/dromos/dromos/model/Value;" .null := D41 (Or.inr (hw _ (List.mem_of_getElem? (i := 59) rfl))) (ty := (.object "com/example/dromos/dromos/model/Value")) (by decide)
    show OGo p e below _ (T41.setTop (mkF m 105 #[.val (.int p1), .val (.int p2), .val (.int p3), .val (.int p4), .val (.int aa), .val (.int ss), .val (.int lx), .val (.int hs), .val (.int rc), .val (.int rp), .val (.ref b13), .unset, .unset, .unset, .unset] [(.ref b41)]))
    refine OGo.to (fun _ k => XS.dup X41.here hx rfl (hb hby at_105) rfl rfl k) ?_
    show OGo p e below _ (T41.setTop (mkF m 106 #[.val (.int p1), .val (.int p2), .val (.int p3), .val (.int p4), .val (.int aa), .val (.int ss), .val (.int lx), .val (.int hs), .val (.int rc), .val (.int rp), .val (.ref b13), .unset, .unset, .unset, .unset] [(.ref b41), (.ref b41)]))
    refine OGo.to (fun _ k => XS.aconstNull X41.here hx rfl (hb hby at_106) k) ?_
    show OGo p e below _ (T41.setTop (mkF m 107 #[.val (.int p1), .val (.int p2), .val (.int p3), .val (.int p4), .val (.int aa), .val (.int ss), .val (.int lx), .val (.int hs), .val (.int rc), .val (.int rp), .val (.ref b13), .unset, .unset, .unset, .unset] [.null, (.ref b41), (.ref b41)]))
    refine OGo.to (fun _ k => XS.aconstNull X41.here hx rfl (hb hby at_107) k) ?_
    show OGo p e below _ (T41.setTop (mkF m 108 #[.val (.int p1), .val (.int p2), .val (.int p3), .val (.int p4), .val (.int aa), .val (.int ss), .val (.int lx), .val (.int hs), .val (.int rc), .val (.int rp), .val (.ref b13), .unset, .unset, .unset, .unset] [.null, .null, (.ref b41), (.ref b41)]))
    obtain ⟨_, _, ⟨T44, L44, k44, n44⟩, -, X44, ⟨Lc44, hQ44, l44, y44, z44⟩, st44⟩ := X41.specialBack hx (y := (⟨"com/example/dromos/dromos/service/Nodes$Constant", "<init>", "(Lcom/example/dromos/dromos/model/Location;Lcom/example/dromos/dromos/model/Value;)V"⟩ : MethodName)) rfl hown (mvT hZ (hw _ (List.mem_of_getElem? (i := 47) rfl))) (mvT hZ (hw _ (List.mem_of_getElem? (i := 48) rfl))) (mvT hZ (hw _ (List.mem_of_getElem? (i := 49) rfl))) (by decide) (backOf (W := 1) (rm5 l Z a0 hw [] b41 h41 n0 z43 A41 F_at_b41 F_value_b41 g_b41) hZ (hw _ (List.mem_of_getElem? (i := 49) rfl)) (hw _ (List.mem_of_getElem? (i := 46) rfl)) (by decide) (by decide)) (g := (mkF m 108 #[.val (.int p1), .val (.int p2), .val (.int p3), .val (.int p4), .val (.int aa), .val (.int ss), .val (.int lx), .val (.int hs), .val (.int rc), .val (.int rp), .val (.ref b13), .unset, .unset, .unset, .unset] [.null, .null, (.ref b41), (.ref b41)])) rfl (by rw [hml]; rfl) (Steps.refl _) (a := b41) (argsL := [.null, .null]) (rest := [(.ref b41)]) (lenOf pd_4 rfl) rfl (by show 2 * 0 + _ ≤ _; exact Nat.le_of_eq rfl) (hb hby at_108) (fun _ _ => ⟨rfl, e41, (by decide : 3 + 0 ≤ _), (by decide : 17 + 0 ≤ _)⟩)
    dsimp only [Pt.U, Pt.locs, Pt.cells, Pt.slots] at X44 l44 y44 z44 st44 hQ44
    subst l44 y44 z44
    obtain ⟨rfl, N44q, K44⟩ := hQ44
    have N44 := Fr.app N15 N44q
    refine OGo.to (fun _ k => st44.trans k) ?_
    have z45 : n0 ≤ T44.heap.size := Nat.le_trans z43 K44.1
    show OGo p e below _ (T44.setTop (mkF m 111 #[.val (.int p1), .val (.int p2), .val (.int p3), .val (.int p4), .val (.int aa), .val (.int ss), .val (.int lx), .val (.int hs), .val (.int rc), .val (.int rp), .val (.ref b13), .unset, .unset, .unset, .unset] [(.ref b41)]))
    refine OGo.to (fun _ k => XS.goto X44.here hx rfl (pc0 := 111) (pc' := 115) rfl (hb hby at_111) (by decide) (by decide) k) ?_
    show OGo p e below _ (T44.setTop (mkF m 115 #[.val (.int p1), .val (.int p2), .val (.int p3), .val (.int p4), .val (.int aa), .val (.int ss), .val (.int lx), .val (.int hs), .val (.int rc), .val (.int rp), .val (.ref b13), .unset, .unset, .unset, .unset] [(.ref b41)]))
    refine OGo.to (fun _ k => XS.astore X44.here hx rfl (hb hby at_115) rfl rfl (l' := #[.val (.int p1), .val (.int p2), .val (.int p3), .val (.int p4), .val (.int aa), .val (.int ss), .val (.int lx), .val (.int hs), .val (.int rc), .val (.int rp), .val (.ref b13), .val (.ref b41), .unset, .unset, .unset]) rfl k) ?_
    show OGo p e below _ (T44.setTop (mkF m 117 #[.val (.int p1), .val (.int p2), .val (.int p3), .val (.int p4), .val (.int aa), .val (.int ss), .val (.int lx), .val (.int hs), .val (.int rc), .val (.int rp), .val (.ref b13), .val (.ref b41), .unset, .unset, .unset] []))
    refine OGo.to (fun _ k => XS.aload X44.here hx rfl (hb hby at_117) rfl rfl k) ?_
    show OGo p e below _ (T44.setTop (mkF m 119 #[.val (.int p1), .val (.int p2), .val (.int p3), .val (.int p4), .val (.int aa), .val (.int ss), .val (.int lx), .val (.int hs), .val (.int rc), .val (.int rp), .val (.ref b13), .val (.ref b41), .unset, .unset, .unset] [(.ref b13)]))
    refine OGo.to (fun _ k => XS.aload X44.here hx rfl (hb hby at_119) rfl rfl k) ?_
    show OGo p e below _ (T44.setTop (mkF m 121 #[.val (.int p1), .val (.int p2), .val (.int p3), .val (.int p4), .val (.int aa), .val (.int ss), .val (.int lx), .val (.int hs), .val (.int rc), .val (.int rp), .val (.ref b13), .val (.ref b41), .unset, .unset, .unset] [(.ref b41), (.ref b13)]))
    refine OGo.to (fun _ k => XS.iload X44.here hx rfl (hb hby at_121) rfl k) ?_
    show OGo p e below _ (T44.setTop (mkF m 123 #[.val (.int p1), .val (.int p2), .val (.int p3), .val (.int p4), .val (.int aa), .val (.int ss), .val (.int lx), .val (.int hs), .val (.int rc), .val (.int rp), .val (.ref b13), .val (.ref b41), .unset, .unset, .unset] [(.int ss), (.ref b41), (.ref b13)]))
    have f47 : Exa Z T44.heap b13 "com/example/dromos/dromos/service/Definition" := ((f42.ext E41).keep K44)
    have f48 : Fld Z T44.heap b13 "com/example/dromos/dromos/service/Definition" "body" "Lcom/example/dromos/dromos/service/Node;" .null := ((p15_4.ext E41).keep K44 (fun q => ne_b13_b41 (List.mem_singleton.mp q)))
    have f49 : Fld Z T44.heap b13 "com/example/dromos/dromos/service/Definition" "slots" "I" (.int (0 : Int32)) := ((p15_5.ext E41).keep K44 (fun q => ne_b13_b41 (List.mem_singleton.mp q)))
    have f50 : Fld Z T44.heap b13 "com/example/dromos/dromos/service/Definition" "arity" "I" (.int aa) := ((p15_0.ext E41).keep K44 (fun q => ne_b13_b41 (List.mem_singleton.mp q)))
    have f51 : Fld Z T44.heap b13 "com/example/dromos/dromos/service/Definition" "lexical" "Z" (.int lx) := ((p15_1.ext E41).keep K44 (fun q => ne_b13_b41 (List.mem_singleton.mp q)))
    have f52 : Fld Z T44.heap b13 "com/example/dromos/dromos/service/Definition" "recursive" "Z" (.int (0 : Int32)) := ((p15_6.ext E41).keep K44 (fun q => ne_b13_b41 (List.mem_singleton.mp q)))
    have f53 : Fld Z T44.heap b13 "com/example/dromos/dromos/service/Definition" "replacesVariable" "Z" (.int (0 : Int32)) := ((p15_7.ext E41).keep K44 (fun q => ne_b13_b41 (List.mem_singleton.mp q)))
    obtain ⟨cq46, kq46, q46a, q46b, q46c⟩ := isOf hZ (rfl : T44.heap = T44.heap) f47
    obtain ⟨_, _, ⟨T46, L46, k46, n46⟩, -, X46, ⟨Lc46, hQ46, l46, y46, z46⟩, st46⟩ := X44.virtualBack hx (y := (⟨"com/example/dromos/dromos/service/Definition", "define", "(Lcom/example/dromos/dromos/service/Node;I)Lcom/example/dromos/dromos/service/Definition;"⟩ : MethodName)) (z := (⟨"com/example/dromos/dromos/service/Definition", "define", "(Lcom/example/dromos/dromos/service/Node;I)Lcom/example/dromos/dromos/service/Definition;"⟩ : MethodName)) hown (mvT hZ (hw _ (List.mem_of_getElem? (i := 26) rfl))) (mvT hZ (hw _ (List.mem_of_getElem? (i := 27) rfl))) (notFace_of_selects (args := #[]) (mvT hZ (hw _ (List.mem_of_getElem? (i := 29) rfl)))) (mvT hZ (hw _ (List.mem_of_getElem? (i := 29) rfl))) (mvT hZ (hw _ (List.mem_of_getElem? (i := 28) rfl))) (by decide) (backOf (W := 0) (rmdefR l Z a0 hw [] b13 b41 ss aa lx (0 : Int32) (0 : Int32) T44.heap n0 z45 f47 f48 f49 f50 f51 f52 f53 g_b13) hZ (hw _ (List.mem_of_getElem? (i := 30) rfl)) (hw _ (List.mem_of_getElem? (i := 2) rfl)) (by decide) (by decide)) q46a q46c (g := (mkF m 123 #[.val (.int p1), .val (.int p2), .val (.int p3), .val (.int p4), .val (.int aa), .val (.int ss), .val (.int lx), .val (.int hs), .val (.int rc), .val (.int rp), .val (.ref b13), .val (.ref b41), .unset, .unset, .unset] [(.int ss), (.ref b41), (.ref b13)])) rfl (by rw [hml]; rfl) (Steps.refl _) (argsL := [(.ref b41), (.int ss)]) (rest := []) (lenOf pd_2 rfl) rfl (by show 2 * 0 + _ ≤ _; exact Nat.le_of_eq rfl) (hb hby at_123) (fun _ _ => ⟨rfl, (rfl : T44.heap = T44.heap), (by decide : 3 + 0 ≤ _), (by decide : 17 + 0 ≤ _)⟩)
    dsimp only [Pt.U, Pt.locs, Pt.cells, Pt.slots] at X46 l46 y46 z46 st46 hQ46
    subst l46 y46 z46
    obtain ⟨rfl, N46q, K46, p46_0, p46_1, p46_2, p46_3, p46_4, p46_5⟩ := hQ46
    have N46 := Fr.app N44 N46q
    refine OGo.to (fun _ k => st46.trans k) ?_
    have z54 : n0 ≤ T46.heap.size := Nat.le_trans z45 K46.1
    show OGo p e below _ (T46.setTop (mkF m 126 #[.val (.int p1), .val (.int p2), .val (.int p3), .val (.int p4), .val (.int aa), .val (.int ss), .val (.int lx), .val (.int hs), .val (.int rc), .val (.int rp), .val (.ref b13), .val (.ref b41), .unset, .unset, .unset] [(.ref b13)]))
    refine OGo.to (fun _ k => XS.astore X46.here hx rfl (hb hby at_126) rfl rfl (l' := #[.val (.int p1), .val (.int p2), .val (.int p3), .val (.int p4), .val (.int aa), .val (.int ss), .val (.int lx), .val (.int hs), .val (.int rc), .val (.int rp), .val (.ref b13), .val (.ref b41), .val (.ref b13), .unset, .unset]) rfl k) ?_
    show OGo p e below _ (T46.setTop (mkF m 128 #[.val (.int p1), .val (.int p2), .val (.int p3), .val (.int p4), .val (.int aa), .val (.int ss), .val (.int lx), .val (.int hs), .val (.int rc), .val (.int rp), .val (.ref b13), .val (.ref b41), .val (.ref b13), .unset, .unset] []))
    refine OGo.to (fun _ k => XS.aload X46.here hx rfl (hb hby at_128) rfl rfl k) ?_
    show OGo p e below _ (T46.setTop (mkF m 130 #[.val (.int p1), .val (.int p2), .val (.int p3), .val (.int p4), .val (.int aa), .val (.int ss), .val (.int lx), .val (.int hs), .val (.int rc), .val (.int rp), .val (.ref b13), .val (.ref b41), .val (.ref b13), .unset, .unset] [(.ref b13)]))
    refine OGo.to (fun _ k => XS.iload X46.here hx rfl (hb hby at_130) rfl k) ?_
    show OGo p e below _ (T46.setTop (mkF m 132 #[.val (.int p1), .val (.int p2), .val (.int p3), .val (.int p4), .val (.int aa), .val (.int ss), .val (.int lx), .val (.int hs), .val (.int rc), .val (.int rp), .val (.ref b13), .val (.ref b41), .val (.ref b13), .unset, .unset] [(.int rc), (.ref b13)]))
    have f55 : Exa Z T46.heap b13 "com/example/dromos/dromos/service/Definition" := (f47.keep K46)
    obtain ⟨T56, h56, X56, e56, W56, st56⟩ := putF X46 hx hZ hown (host := "") (Or.inl (hw _ (List.mem_of_getElem? (i := 35) rfl))) Via.refl (rfl : T46.heap = T46.heap) p46_4 f55 (Or.inl (hw _ (List.mem_of_getElem? (i := 36) rfl))) (hw _ (List.mem_of_getElem? (i := 1) rfl)) (ty := .boolean) (by decide) (own_b b_rc).1 (own_b b_rc).2 (g := (mkF m 132 #[.val (.int p1), .val (.int p2), .val (.int p3), .val (.int p4), .val (.int aa), .val (.int ss), .val (.int lx), .val (.int hs), .val (.int rc), .val (.int rp), .val (.ref b13), .val (.ref b41), .val (.ref b13), .unset, .unset] [(.int rc), (.ref b13)])) rfl rfl (hb hby at_132)
    refine OGo.to st56 ?_
    have Fw56 : Fld Z h56 b13 "com/example/dromos/dromos/service/Definition" "recursive" "Z" (.int rc) := p46_4.same W56
    have N56 := Fr.snoc X56 N46 g_b13
    have z57 : n0 ≤ h56.size := Nat.le_trans z54 (Keep.of_wr W56).1
    show OGo p e below _ (T56.setTop (mkF m 135 #[.val (.int p1), .val (.int p2), .val (.int p3), .val (.int p4), .val (.int aa), .val (.int ss), .val (.int lx), .val (.int hs), .val (.int rc), .val (.int rp), .val (.ref b13), .val (.ref b41), .val (.ref b13), .unset, .unset] []))
    refine OGo.to (fun _ k => XS.aload X56.here hx rfl (hb hby at_135) rfl rfl k) ?_
    show OGo p e below _ (T56.setTop (mkF m 137 #[.val (.int p1), .val (.int p2), .val (.int p3), .val (.int p4), .val (.int aa), .val (.int ss), .val (.int lx), .val (.int hs), .val (.int rc), .val (.int rp), .val (.ref b13), .val (.ref b41), .val (.ref b13), .unset, .unset] [(.ref b13)]))
    refine OGo.to (fun _ k => XS.iload X56.here hx rfl (hb hby at_137) rfl k) ?_
    show OGo p e below _ (T56.setTop (mkF m 139 #[.val (.int p1), .val (.int p2), .val (.int p3), .val (.int p4), .val (.int aa), .val (.int ss), .val (.int lx), .val (.int hs), .val (.int rc), .val (.int rp), .val (.ref b13), .val (.ref b41), .val (.ref b13), .unset, .unset] [(.int rp), (.ref b13)]))
    have f58 : Exa Z h56 b13 "com/example/dromos/dromos/service/Definition" := (f55.wr W56)
    have f59 : Fld Z h56 b13 "com/example/dromos/dromos/service/Definition" "replacesVariable" "Z" (.int (0 : Int32)) := (p46_5.other W56 (Or.inr (slot_ne (Or.inl (hw _ (List.mem_of_getElem? (i := 38) rfl))) (Or.inl (hw _ (List.mem_of_getElem? (i := 36) rfl))) (by decide) (t := .boolean) (t' := .boolean) (by decide) (by decide))))
    obtain ⟨T60, h60, X60, e60, W60, st60⟩ := putF X56 hx hZ hown (host := "") (Or.inl (hw _ (List.mem_of_getElem? (i := 37) rfl))) Via.refl e56 f59 f58 (Or.inl (hw _ (List.mem_of_getElem? (i := 38) rfl))) (hw _ (List.mem_of_getElem? (i := 1) rfl)) (ty := .boolean) (by decide) (own_b b_rp).1 (own_b b_rp).2 (g := (mkF m 139 #[.val (.int p1), .val (.int p2), .val (.int p3), .val (.int p4), .val (.int aa), .val (.int ss), .val (.int lx), .val (.int hs), .val (.int rc), .val (.int rp), .val (.ref b13), .val (.ref b41), .val (.ref b13), .unset, .unset] [(.int rp), (.ref b13)])) rfl rfl (hb hby at_139)
    refine OGo.to st60 ?_
    have Fw60 : Fld Z h60 b13 "com/example/dromos/dromos/service/Definition" "replacesVariable" "Z" (.int rp) := f59.same W60
    have N60 := Fr.snoc X60 N56 g_b13
    have z61 : n0 ≤ h60.size := Nat.le_trans z57 (Keep.of_wr W60).1
    show OGo p e below _ (T60.setTop (mkF m 142 #[.val (.int p1), .val (.int p2), .val (.int p3), .val (.int p4), .val (.int aa), .val (.int ss), .val (.int lx), .val (.int hs), .val (.int rc), .val (.int rp), .val (.ref b13), .val (.ref b41), .val (.ref b13), .unset, .unset] []))
    refine OGo.to (fun _ k => XS.aload X60.here hx rfl (hb hby at_142) rfl rfl k) ?_
    show OGo p e below _ (T60.setTop (mkF m 144 #[.val (.int p1), .val (.int p2), .val (.int p3), .val (.int p4), .val (.int aa), .val (.int ss), .val (.int lx), .val (.int hs), .val (.int rc), .val (.int rp), .val (.ref b13), .val (.ref b41), .val (.ref b13), .unset, .unset] [(.ref b13)]))
    have f63 : Fld Z h60 b13 "com/example/dromos/dromos/service/Definition" "arity" "I" (.int aa) := ((p46_2.other W56 (Or.inr (slot_ne (Or.inr (hw _ (List.mem_of_getElem? (i := 19) rfl))) (Or.inl (hw _ (List.mem_of_getElem? (i := 36) rfl))) (by decide) (t := .int) (t' := .boolean) (by decide) (by decide)))).other W60 (Or.inr (slot_ne (Or.inr (hw _ (List.mem_of_getElem? (i := 19) rfl))) (Or.inl (hw _ (List.mem_of_getElem? (i := 38) rfl))) (by decide) (t := .int) (t' := .boolean) (by decide) (by decide))))
    have f64 : Fld Z h60 b13 "com/example/dromos/dromos/service/Definition" "slots" "I" (.int ss) := ((p46_1.other W56 (Or.inr (slot_ne (Or.inl (hw _ (List.mem_of_getElem? (i := 34) rfl))) (Or.inl (hw _ (List.mem_of_getElem? (i := 36) rfl))) (by decide) (t := .int) (t' := .boolean) (by decide) (by decide)))).other W60 (Or.inr (slot_ne (Or.inl (hw _ (List.mem_of_getElem? (i := 34) rfl))) (Or.inl (hw _ (List.mem_of_getElem? (i := 38) rfl))) (by decide) (t := .int) (t' := .boolean) (by decide) (by decide))))
    have f65 : Fld Z h60 b13 "com/example/dromos/dromos/service/Definition" "lexical" "Z" (.int lx) := ((p46_3.other W56 (Or.inr (slot_ne (Or.inr (hw _ (List.mem_of_getElem? (i := 25) rfl))) (Or.inl (hw _ (List.mem_of_getElem? (i := 36) rfl))) (by decide) (t := .boolean) (t' := .boolean) (by decide) (by decide)))).other W60 (Or.inr (slot_ne (Or.inr (hw _ (List.mem_of_getElem? (i := 25) rfl))) (Or.inl (hw _ (List.mem_of_getElem? (i := 38) rfl))) (by decide) (t := .boolean) (t' := .boolean) (by decide) (by decide))))
    have f66 : Fld Z h60 b13 "com/example/dromos/dromos/service/Definition" "recursive" "Z" (.int rc) := (Fw56.other W60 (Or.inr (slot_ne (Or.inl (hw _ (List.mem_of_getElem? (i := 36) rfl))) (Or.inl (hw _ (List.mem_of_getElem? (i := 38) rfl))) (by decide) (t := .boolean) (t' := .boolean) (by decide) (by decide))))
    have f67 : Fld Z h60 b13 "com/example/dromos/dromos/service/Definition" "body" "Lcom/example/dromos/dromos/service/Node;" (.ref b41) := ((p46_0.other W56 (Or.inr (slot_ne (Or.inl (hw _ (List.mem_of_getElem? (i := 32) rfl))) (Or.inl (hw _ (List.mem_of_getElem? (i := 36) rfl))) (by decide) (t := (.object "com/example/dromos/dromos/service/Node")) (t' := .boolean) (by decide) (by decide)))).other W60 (Or.inr (slot_ne (Or.inl (hw _ (List.mem_of_getElem? (i := 32) rfl))) (Or.inl (hw _ (List.mem_of_getElem? (i := 38) rfl))) (by decide) (t := (.object "com/example/dromos/dromos/service/Node")) (t' := .boolean) (by decide) (by decide))))
    have f68 : Exa Z h60 b13 "com/example/dromos/dromos/service/Definition" := (f58.wr W60)
    obtain ⟨cq62, kq62, q62a, q62b, q62c⟩ := isOf hZ e60 f68
    obtain ⟨_, _, ⟨T62, L62, k62, n62⟩, -, X62, ⟨Lc62, hQ62, l62, y62, z62⟩, st62⟩ := X60.virtualBack hx (y := (⟨"com/example/dromos/dromos/service/Definition", "expandable", "()Z"⟩ : MethodName)) (z := (⟨"com/example/dromos/dromos/service/Definition", "expandable", "()Z"⟩ : MethodName)) hown (mvT hZ (hw _ (List.mem_of_getElem? (i := 39) rfl))) (mvT hZ (hw _ (List.mem_of_getElem? (i := 40) rfl))) (notFace_of_selects (args := #[]) (mvT hZ (hw _ (List.mem_of_getElem? (i := 42) rfl)))) (mvT hZ (hw _ (List.mem_of_getElem? (i := 42) rfl))) (mvT hZ (hw _ (List.mem_of_getElem? (i := 41) rfl))) (by decide) (backOf (W := 0) (rmexpR l Z a0 hw [] b13 aa ss lx rc rp b41 h60 n0 z61 f63 f64 f65 f66 Fw60 f67) hZ (hw _ (List.mem_of_getElem? (i := 43) rfl)) (hw _ (List.mem_of_getElem? (i := 2) rfl)) (by decide) (by decide)) q62a q62c (g := (mkF m 144 #[.val (.int p1), .val (.int p2), .val (.int p3), .val (.int p4), .val (.int aa), .val (.int ss), .val (.int lx), .val (.int hs), .val (.int rc), .val (.int rp), .val (.ref b13), .val (.ref b41), .val (.ref b13), .unset, .unset] [(.ref b13)])) rfl (by rw [hml]; rfl) (Steps.refl _) (argsL := []) (rest := []) (lenOf pd_3 rfl) rfl (by show 2 * 0 + _ ≤ _; exact Nat.le_of_eq rfl) (hb hby at_144) (fun _ _ => ⟨rfl, e60, (by decide : 3 + 0 ≤ _), (by decide : 17 + 0 ≤ _)⟩)
    dsimp only [Pt.U, Pt.locs, Pt.cells, Pt.slots] at X62 l62 y62 z62 st62 hQ62
    subst l62 y62 z62
    obtain ⟨rfl, N62q, e62⟩ := hQ62
    have N62 := Fr.app N60 N62q
    refine OGo.to (fun _ k => st62.trans k) ?_
    show OGo p e below _ (T62.setTop (mkF m 147 #[.val (.int p1), .val (.int p2), .val (.int p3), .val (.int p4), .val (.int aa), .val (.int ss), .val (.int lx), .val (.int hs), .val (.int rc), .val (.int rp), .val (.ref b13), .val (.ref b41), .val (.ref b13), .unset, .unset] [(.int (own_ex aa ss lx rc rp))]))
    refine OGo.to (fun _ k => XS.istore X62.here hx rfl (hb hby at_147) rfl (l' := #[.val (.int p1), .val (.int p2), .val (.int p3), .val (.int p4), .val (.int aa), .val (.int ss), .val (.int lx), .val (.int hs), .val (.int rc), .val (.int rp), .val (.ref b13), .val (.ref b41), .val (.ref b13), .val (.int (own_ex aa ss lx rc rp)), .unset]) rfl k) ?_
    show OGo p e below _ (T62.setTop (mkF m 149 #[.val (.int p1), .val (.int p2), .val (.int p3), .val (.int p4), .val (.int aa), .val (.int ss), .val (.int lx), .val (.int hs), .val (.int rc), .val (.int rp), .val (.ref b13), .val (.ref b41), .val (.ref b13), .val (.int (own_ex aa ss lx rc rp)), .unset] []))
    refine OGo.to (fun _ k => XS.iload X62.here hx rfl (hb hby at_149) rfl k) ?_
    show OGo p e below _ (T62.setTop (mkF m 151 #[.val (.int p1), .val (.int p2), .val (.int p3), .val (.int p4), .val (.int aa), .val (.int ss), .val (.int lx), .val (.int hs), .val (.int rc), .val (.int rp), .val (.ref b13), .val (.ref b41), .val (.ref b13), .val (.int (own_ex aa ss lx rc rp)), .unset] [(.int aa)]))
    obtain ⟨ex, hv_ex⟩ : ∃ z : Int32, z = (if aa = (0 : Int32) then (if ss = (0 : Int32) then (if lx = (0 : Int32) then (if rc = (0 : Int32) then (if rp = (0 : Int32) then (1 : Int32) else (0 : Int32)) else (0 : Int32)) else (0 : Int32)) else (0 : Int32)) else (0 : Int32)) := ⟨_, rfl⟩
    refine OGo.to (S' := T62.setTop (mkF m 216 #[.val (.int p1), .val (.int p2), .val (.int p3), .val (.int p4), .val (.int aa), .val (.int ss), .val (.int lx), .val (.int hs), .val (.int rc), .val (.int rp), .val (.ref b13), .val (.ref b41), .val (.ref b13), .val (.int (own_ex aa ss lx rc rp)), .val (.int ex)] [])) (fun _ k => ?_) ?_
    ·
      show Steps p.tables e below (T62.setTop (mkF m 151 #[.val (.int p1), .val (.int p2), .val (.int p3), .val (.int p4), .val (.int aa), .val (.int ss), .val (.int lx), .val (.int hs), .val (.int rc), .val (.int rp), .val (.ref b13), .val (.ref b41), .val (.ref b13), .val (.int (own_ex aa ss lx rc rp)), .unset] [(.int aa)])) _
      by_cases hc151_70 : aa = (0 : Int32)
      ·  -- pc 151: yes
        refine XS.ifYes X62.here hx rfl (pc0 := 151) (pc' := 160) rfl (hb hby at_151) rfl ((if0 _ _).trans (teq hc151_70).1) (by decide) (by decide) ?_
        show Steps p.tables e below (T62.setTop (mkF m 160 #[.val (.int p1), .val (.int p2), .val (.int p3), .val (.int p4), .val (.int aa), .val (.int ss), .val (.int lx), .val (.int hs), .val (.int rc), .val (.int rp), .val (.ref b13), .val (.ref b41), .val (.ref b13), .val (.int (own_ex aa ss lx rc rp)), .unset] [])) _
        refine XS.iload X62.here hx rfl (hb hby at_160) rfl ?_
        show Steps p.tables e below (T62.setTop (mkF m 162 #[.val (.int p1), .val (.int p2), .val (.int p3), .val (.int p4), .val (.int aa), .val (.int ss), .val (.int lx), .val (.int hs), .val (.int rc), .val (.int rp), .val (.ref b13), .val (.ref b41), .val (.ref b13), .val (.int (own_ex aa ss lx rc rp)), .unset] [(.int ss)])) _
        by_cases hc162_71 : ss = (0 : Int32)
        ·  -- pc 162: yes
          refine XS.ifYes X62.here hx rfl (pc0 := 162) (pc' := 171) rfl (hb hby at_162) rfl ((if0 _ _).trans (teq hc162_71).1) (by decide) (by decide) ?_
          show Steps p.tables e below (T62.setTop (mkF m 171 #[.val (.int p1), .val (.int p2), .val (.int p3), .val (.int p4), .val (.int aa), .val (.int ss), .val (.int lx), .val (.int hs), .val (.int rc), .val (.int rp), .val (.ref b13), .val (.ref b41), .val (.ref b13), .val (.int (own_ex aa ss lx rc rp)), .unset] [])) _
          refine XS.iload X62.here hx rfl (hb hby at_171) rfl ?_
          show Steps p.tables e below (T62.setTop (mkF m 173 #[.val (.int p1), .val (.int p2), .val (.int p3), .val (.int p4), .val (.int aa), .val (.int ss), .val (.int lx), .val (.int hs), .val (.int rc), .val (.int rp), .val (.ref b13), .val (.ref b41), .val (.ref b13), .val (.int (own_ex aa ss lx rc rp)), .unset] [(.int lx)])) _
          by_cases hc173_72 : lx = (0 : Int32)
          ·  -- pc 173: yes
            refine XS.ifYes X62.here hx rfl (pc0 := 173) (pc' := 182) rfl (hb hby at_173) rfl ((if0 _ _).trans (teq hc173_72).1) (by decide) (by decide) ?_
            show Steps p.tables e below (T62.setTop (mkF m 182 #[.val (.int p1), .val (.int p2), .val (.int p3), .val (.int p4), .val (.int aa), .val (.int ss), .val (.int lx), .val (.int hs), .val (.int rc), .val (.int rp), .val (.ref b13), .val (.ref b41), .val (.ref b13), .val (.int (own_ex aa ss lx rc rp)), .unset] [])) _
            refine XS.iload X62.here hx rfl (hb hby at_182) rfl ?_
            show Steps p.tables e below (T62.setTop (mkF m 184 #[.val (.int p1), .val (.int p2), .val (.int p3), .val (.int p4), .val (.int aa), .val (.int ss), .val (.int lx), .val (.int hs), .val (.int rc), .val (.int rp), .val (.ref b13), .val (.ref b41), .val (.ref b13), .val (.int (own_ex aa ss lx rc rp)), .unset] [(.int hs)])) _
            refine XS.ifYes X62.here hx rfl (pc0 := 184) (pc' := 193) rfl (hb hby at_184) rfl ((if0 _ _).trans (feq hc99_17).2) (by decide) (by decide) ?_
            show Steps p.tables e below (T62.setTop (mkF m 193 #[.val (.int p1), .val (.int p2), .val (.int p3), .val (.int p4), .val (.int aa), .val (.int ss), .val (.int lx), .val (.int hs), .val (.int rc), .val (.int rp), .val (.ref b13), .val (.ref b41), .val (.ref b13), .val (.int (own_ex aa ss lx rc rp)), .unset] [])) _
            refine XS.iload X62.here hx rfl (hb hby at_193) rfl ?_
            show Steps p.tables e below (T62.setTop (mkF m 195 #[.val (.int p1), .val (.int p2), .val (.int p3), .val (.int p4), .val (.int aa), .val (.int ss), .val (.int lx), .val (.int hs), .val (.int rc), .val (.int rp), .val (.ref b13), .val (.ref b41), .val (.ref b13), .val (.int (own_ex aa ss lx rc rp)), .unset] [(.int rc)])) _
            by_cases hc195_74 : rc = (0 : Int32)
            ·  -- pc 195: yes
              refine XS.ifYes X62.here hx rfl (pc0 := 195) (pc' := 204) rfl (hb hby at_195) rfl ((if0 _ _).trans (teq hc195_74).1) (by decide) (by decide) ?_
              show Steps p.tables e below (T62.setTop (mkF m 204 #[.val (.int p1), .val (.int p2), .val (.int p3), .val (.int p4), .val (.int aa), .val (.int ss), .val (.int lx), .val (.int hs), .val (.int rc), .val (.int rp), .val (.ref b13), .val (.ref b41), .val (.ref b13), .val (.int (own_ex aa ss lx rc rp)), .unset] [])) _
              refine XS.iload X62.here hx rfl (hb hby at_204) rfl ?_
              show Steps p.tables e below (T62.setTop (mkF m 206 #[.val (.int p1), .val (.int p2), .val (.int p3), .val (.int p4), .val (.int aa), .val (.int ss), .val (.int lx), .val (.int hs), .val (.int rc), .val (.int rp), .val (.ref b13), .val (.ref b41), .val (.ref b13), .val (.int (own_ex aa ss lx rc rp)), .unset] [(.int rp)])) _
              by_cases hc206_75 : rp = (0 : Int32)
              ·  -- pc 206: yes
                refine XS.ifNo X62.here hx rfl (hb hby at_206) rfl ((if0 _ _).trans (teq hc206_75).2) ?_
                show Steps p.tables e below (T62.setTop (mkF m 209 #[.val (.int p1), .val (.int p2), .val (.int p3), .val (.int p4), .val (.int aa), .val (.int ss), .val (.int lx), .val (.int hs), .val (.int rc), .val (.int rp), .val (.ref b13), .val (.ref b41), .val (.ref b13), .val (.int (own_ex aa ss lx rc rp)), .unset] [])) _
                refine XS.iconst X62.here hx rfl (hb hby at_209) ?_
                show Steps p.tables e below (T62.setTop (mkF m 210 #[.val (.int p1), .val (.int p2), .val (.int p3), .val (.int p4), .val (.int aa), .val (.int ss), .val (.int lx), .val (.int hs), .val (.int rc), .val (.int rp), .val (.ref b13), .val (.ref b41), .val (.ref b13), .val (.int (own_ex aa ss lx rc rp)), .unset] [(.int (1 : Int32))])) _
                refine XS.goto X62.here hx rfl (pc0 := 210) (pc' := 214) rfl (hb hby at_210) (by decide) (by decide) ?_
                show Steps p.tables e below (T62.setTop (mkF m 214 #[.val (.int p1), .val (.int p2), .val (.int p3), .val (.int p4), .val (.int aa), .val (.int ss), .val (.int lx), .val (.int hs), .val (.int rc), .val (.int rp), .val (.ref b13), .val (.ref b41), .val (.ref b13), .val (.int (own_ex aa ss lx rc rp)), .unset] [(.int (1 : Int32))])) _
                refine XS.istore X62.here hx rfl (hb hby at_214) rfl (l' := #[.val (.int p1), .val (.int p2), .val (.int p3), .val (.int p4), .val (.int aa), .val (.int ss), .val (.int lx), .val (.int hs), .val (.int rc), .val (.int rp), .val (.ref b13), .val (.ref b41), .val (.ref b13), .val (.int (own_ex aa ss lx rc rp)), .val (.int (1 : Int32))]) rfl ?_
                show Steps p.tables e below (T62.setTop (mkF m 216 #[.val (.int p1), .val (.int p2), .val (.int p3), .val (.int p4), .val (.int aa), .val (.int ss), .val (.int lx), .val (.int hs), .val (.int rc), .val (.int rp), .val (.ref b13), .val (.ref b41), .val (.ref b13), .val (.int (own_ex aa ss lx rc rp)), .val (.int (1 : Int32))] [])) _
                have hw_ex := hv_ex
                rw [if_pos hc151_70, if_pos hc162_71, if_pos hc173_72, if_pos hc195_74, if_pos hc206_75] at hw_ex
                subst hw_ex
                exact k
              ·  -- pc 206: no
                refine XS.ifYes X62.here hx rfl (pc0 := 206) (pc' := 213) rfl (hb hby at_206) rfl ((if0 _ _).trans (feq hc206_75).2) (by decide) (by decide) ?_
                show Steps p.tables e below (T62.setTop (mkF m 213 #[.val (.int p1), .val (.int p2), .val (.int p3), .val (.int p4), .val (.int aa), .val (.int ss), .val (.int lx), .val (.int hs), .val (.int rc), .val (.int rp), .val (.ref b13), .val (.ref b41), .val (.ref b13), .val (.int (own_ex aa ss lx rc rp)), .unset] [])) _
                refine XS.iconst X62.here hx rfl (hb hby at_213) ?_
                show Steps p.tables e below (T62.setTop (mkF m 214 #[.val (.int p1), .val (.int p2), .val (.int p3), .val (.int p4), .val (.int aa), .val (.int ss), .val (.int lx), .val (.int hs), .val (.int rc), .val (.int rp), .val (.ref b13), .val (.ref b41), .val (.ref b13), .val (.int (own_ex aa ss lx rc rp)), .unset] [(.int (0 : Int32))])) _
                refine XS.istore X62.here hx rfl (hb hby at_214) rfl (l' := #[.val (.int p1), .val (.int p2), .val (.int p3), .val (.int p4), .val (.int aa), .val (.int ss), .val (.int lx), .val (.int hs), .val (.int rc), .val (.int rp), .val (.ref b13), .val (.ref b41), .val (.ref b13), .val (.int (own_ex aa ss lx rc rp)), .val (.int (0 : Int32))]) rfl ?_
                show Steps p.tables e below (T62.setTop (mkF m 216 #[.val (.int p1), .val (.int p2), .val (.int p3), .val (.int p4), .val (.int aa), .val (.int ss), .val (.int lx), .val (.int hs), .val (.int rc), .val (.int rp), .val (.ref b13), .val (.ref b41), .val (.ref b13), .val (.int (own_ex aa ss lx rc rp)), .val (.int (0 : Int32))] [])) _
                have hw_ex := hv_ex
                rw [if_pos hc151_70, if_pos hc162_71, if_pos hc173_72, if_pos hc195_74, if_neg hc206_75] at hw_ex
                subst hw_ex
                exact k
            ·  -- pc 195: no
              refine XS.ifNo X62.here hx rfl (hb hby at_195) rfl ((if0 _ _).trans (feq hc195_74).1) ?_
              show Steps p.tables e below (T62.setTop (mkF m 198 #[.val (.int p1), .val (.int p2), .val (.int p3), .val (.int p4), .val (.int aa), .val (.int ss), .val (.int lx), .val (.int hs), .val (.int rc), .val (.int rp), .val (.ref b13), .val (.ref b41), .val (.ref b13), .val (.int (own_ex aa ss lx rc rp)), .unset] [])) _
              refine XS.iconst X62.here hx rfl (hb hby at_198) ?_
              show Steps p.tables e below (T62.setTop (mkF m 199 #[.val (.int p1), .val (.int p2), .val (.int p3), .val (.int p4), .val (.int aa), .val (.int ss), .val (.int lx), .val (.int hs), .val (.int rc), .val (.int rp), .val (.ref b13), .val (.ref b41), .val (.ref b13), .val (.int (own_ex aa ss lx rc rp)), .unset] [(.int (0 : Int32))])) _
              refine XS.istore X62.here hx rfl (hb hby at_199) rfl (l' := #[.val (.int p1), .val (.int p2), .val (.int p3), .val (.int p4), .val (.int aa), .val (.int ss), .val (.int lx), .val (.int hs), .val (.int rc), .val (.int rp), .val (.ref b13), .val (.ref b41), .val (.ref b13), .val (.int (own_ex aa ss lx rc rp)), .val (.int (0 : Int32))]) rfl ?_
              show Steps p.tables e below (T62.setTop (mkF m 201 #[.val (.int p1), .val (.int p2), .val (.int p3), .val (.int p4), .val (.int aa), .val (.int ss), .val (.int lx), .val (.int hs), .val (.int rc), .val (.int rp), .val (.ref b13), .val (.ref b41), .val (.ref b13), .val (.int (own_ex aa ss lx rc rp)), .val (.int (0 : Int32))] [])) _
              refine XS.goto X62.here hx rfl (pc0 := 201) (pc' := 216) rfl (hb hby at_201) (by decide) (by decide) ?_
              show Steps p.tables e below (T62.setTop (mkF m 216 #[.val (.int p1), .val (.int p2), .val (.int p3), .val (.int p4), .val (.int aa), .val (.int ss), .val (.int lx), .val (.int hs), .val (.int rc), .val (.int rp), .val (.ref b13), .val (.ref b41), .val (.ref b13), .val (.int (own_ex aa ss lx rc rp)), .val (.int (0 : Int32))] [])) _
              have hw_ex := hv_ex
              rw [if_pos hc151_70, if_pos hc162_71, if_pos hc173_72, if_neg hc195_74] at hw_ex
              subst hw_ex
              exact k
          ·  -- pc 173: no
            refine XS.ifNo X62.here hx rfl (hb hby at_173) rfl ((if0 _ _).trans (feq hc173_72).1) ?_
            show Steps p.tables e below (T62.setTop (mkF m 176 #[.val (.int p1), .val (.int p2), .val (.int p3), .val (.int p4), .val (.int aa), .val (.int ss), .val (.int lx), .val (.int hs), .val (.int rc), .val (.int rp), .val (.ref b13), .val (.ref b41), .val (.ref b13), .val (.int (own_ex aa ss lx rc rp)), .unset] [])) _
            refine XS.iconst X62.here hx rfl (hb hby at_176) ?_
            show Steps p.tables e below (T62.setTop (mkF m 177 #[.val (.int p1), .val (.int p2), .val (.int p3), .val (.int p4), .val (.int aa), .val (.int ss), .val (.int lx), .val (.int hs), .val (.int rc), .val (.int rp), .val (.ref b13), .val (.ref b41), .val (.ref b13), .val (.int (own_ex aa ss lx rc rp)), .unset] [(.int (0 : Int32))])) _
            refine XS.istore X62.here hx rfl (hb hby at_177) rfl (l' := #[.val (.int p1), .val (.int p2), .val (.int p3), .val (.int p4), .val (.int aa), .val (.int ss), .val (.int lx), .val (.int hs), .val (.int rc), .val (.int rp), .val (.ref b13), .val (.ref b41), .val (.ref b13), .val (.int (own_ex aa ss lx rc rp)), .val (.int (0 : Int32))]) rfl ?_
            show Steps p.tables e below (T62.setTop (mkF m 179 #[.val (.int p1), .val (.int p2), .val (.int p3), .val (.int p4), .val (.int aa), .val (.int ss), .val (.int lx), .val (.int hs), .val (.int rc), .val (.int rp), .val (.ref b13), .val (.ref b41), .val (.ref b13), .val (.int (own_ex aa ss lx rc rp)), .val (.int (0 : Int32))] [])) _
            refine XS.goto X62.here hx rfl (pc0 := 179) (pc' := 216) rfl (hb hby at_179) (by decide) (by decide) ?_
            show Steps p.tables e below (T62.setTop (mkF m 216 #[.val (.int p1), .val (.int p2), .val (.int p3), .val (.int p4), .val (.int aa), .val (.int ss), .val (.int lx), .val (.int hs), .val (.int rc), .val (.int rp), .val (.ref b13), .val (.ref b41), .val (.ref b13), .val (.int (own_ex aa ss lx rc rp)), .val (.int (0 : Int32))] [])) _
            have hw_ex := hv_ex
            rw [if_pos hc151_70, if_pos hc162_71, if_neg hc173_72] at hw_ex
            subst hw_ex
            exact k
        ·  -- pc 162: no
          refine XS.ifNo X62.here hx rfl (hb hby at_162) rfl ((if0 _ _).trans (feq hc162_71).1) ?_
          show Steps p.tables e below (T62.setTop (mkF m 165 #[.val (.int p1), .val (.int p2), .val (.int p3), .val (.int p4), .val (.int aa), .val (.int ss), .val (.int lx), .val (.int hs), .val (.int rc), .val (.int rp), .val (.ref b13), .val (.ref b41), .val (.ref b13), .val (.int (own_ex aa ss lx rc rp)), .unset] [])) _
          refine XS.iconst X62.here hx rfl (hb hby at_165) ?_
          show Steps p.tables e below (T62.setTop (mkF m 166 #[.val (.int p1), .val (.int p2), .val (.int p3), .val (.int p4), .val (.int aa), .val (.int ss), .val (.int lx), .val (.int hs), .val (.int rc), .val (.int rp), .val (.ref b13), .val (.ref b41), .val (.ref b13), .val (.int (own_ex aa ss lx rc rp)), .unset] [(.int (0 : Int32))])) _
          refine XS.istore X62.here hx rfl (hb hby at_166) rfl (l' := #[.val (.int p1), .val (.int p2), .val (.int p3), .val (.int p4), .val (.int aa), .val (.int ss), .val (.int lx), .val (.int hs), .val (.int rc), .val (.int rp), .val (.ref b13), .val (.ref b41), .val (.ref b13), .val (.int (own_ex aa ss lx rc rp)), .val (.int (0 : Int32))]) rfl ?_
          show Steps p.tables e below (T62.setTop (mkF m 168 #[.val (.int p1), .val (.int p2), .val (.int p3), .val (.int p4), .val (.int aa), .val (.int ss), .val (.int lx), .val (.int hs), .val (.int rc), .val (.int rp), .val (.ref b13), .val (.ref b41), .val (.ref b13), .val (.int (own_ex aa ss lx rc rp)), .val (.int (0 : Int32))] [])) _
          refine XS.goto X62.here hx rfl (pc0 := 168) (pc' := 216) rfl (hb hby at_168) (by decide) (by decide) ?_
          show Steps p.tables e below (T62.setTop (mkF m 216 #[.val (.int p1), .val (.int p2), .val (.int p3), .val (.int p4), .val (.int aa), .val (.int ss), .val (.int lx), .val (.int hs), .val (.int rc), .val (.int rp), .val (.ref b13), .val (.ref b41), .val (.ref b13), .val (.int (own_ex aa ss lx rc rp)), .val (.int (0 : Int32))] [])) _
          have hw_ex := hv_ex
          rw [if_pos hc151_70, if_neg hc162_71] at hw_ex
          subst hw_ex
          exact k
      ·  -- pc 151: no
        refine XS.ifNo X62.here hx rfl (hb hby at_151) rfl ((if0 _ _).trans (feq hc151_70).1) ?_
        show Steps p.tables e below (T62.setTop (mkF m 154 #[.val (.int p1), .val (.int p2), .val (.int p3), .val (.int p4), .val (.int aa), .val (.int ss), .val (.int lx), .val (.int hs), .val (.int rc), .val (.int rp), .val (.ref b13), .val (.ref b41), .val (.ref b13), .val (.int (own_ex aa ss lx rc rp)), .unset] [])) _
        refine XS.iconst X62.here hx rfl (hb hby at_154) ?_
        show Steps p.tables e below (T62.setTop (mkF m 155 #[.val (.int p1), .val (.int p2), .val (.int p3), .val (.int p4), .val (.int aa), .val (.int ss), .val (.int lx), .val (.int hs), .val (.int rc), .val (.int rp), .val (.ref b13), .val (.ref b41), .val (.ref b13), .val (.int (own_ex aa ss lx rc rp)), .unset] [(.int (0 : Int32))])) _
        refine XS.istore X62.here hx rfl (hb hby at_155) rfl (l' := #[.val (.int p1), .val (.int p2), .val (.int p3), .val (.int p4), .val (.int aa), .val (.int ss), .val (.int lx), .val (.int hs), .val (.int rc), .val (.int rp), .val (.ref b13), .val (.ref b41), .val (.ref b13), .val (.int (own_ex aa ss lx rc rp)), .val (.int (0 : Int32))]) rfl ?_
        show Steps p.tables e below (T62.setTop (mkF m 157 #[.val (.int p1), .val (.int p2), .val (.int p3), .val (.int p4), .val (.int aa), .val (.int ss), .val (.int lx), .val (.int hs), .val (.int rc), .val (.int rp), .val (.ref b13), .val (.ref b41), .val (.ref b13), .val (.int (own_ex aa ss lx rc rp)), .val (.int (0 : Int32))] [])) _
        refine XS.goto X62.here hx rfl (pc0 := 157) (pc' := 216) rfl (hb hby at_157) (by decide) (by decide) ?_
        show Steps p.tables e below (T62.setTop (mkF m 216 #[.val (.int p1), .val (.int p2), .val (.int p3), .val (.int p4), .val (.int aa), .val (.int ss), .val (.int lx), .val (.int hs), .val (.int rc), .val (.int rp), .val (.ref b13), .val (.ref b41), .val (.ref b13), .val (.int (own_ex aa ss lx rc rp)), .val (.int (0 : Int32))] [])) _
        have hw_ex := hv_ex
        rw [if_neg hc151_70] at hw_ex
        subst hw_ex
        exact k
    show OGo p e below _ (T62.setTop (mkF m 216 #[.val (.int p1), .val (.int p2), .val (.int p3), .val (.int p4), .val (.int aa), .val (.int ss), .val (.int lx), .val (.int hs), .val (.int rc), .val (.int rp), .val (.ref b13), .val (.ref b41), .val (.ref b13), .val (.int (own_ex aa ss lx rc rp)), .val (.int ex)] []))
    refine OGo.to (fun _ k => XS.aload X62.here hx rfl (hb hby at_216) rfl rfl k) ?_
    show OGo p e below _ (T62.setTop (mkF m 218 #[.val (.int p1), .val (.int p2), .val (.int p3), .val (.int p4), .val (.int aa), .val (.int ss), .val (.int lx), .val (.int hs), .val (.int rc), .val (.int rp), .val (.ref b13), .val (.ref b41), .val (.ref b13), .val (.int (own_ex aa ss lx rc rp)), .val (.int ex)] [(.ref b13)]))
    refine OGo.to (fun _ k => XS.aload X62.here hx rfl (hb hby at_218) rfl rfl k) ?_
    show OGo p e below _ (T62.setTop (mkF m 220 #[.val (.int p1), .val (.int p2), .val (.int p3), .val (.int p4), .val (.int aa), .val (.int ss), .val (.int lx), .val (.int hs), .val (.int rc), .val (.int rp), .val (.ref b13), .val (.ref b41), .val (.ref b13), .val (.int (own_ex aa ss lx rc rp)), .val (.int ex)] [(.ref b13), (.ref b13)]))
    refine OGo.to (fun _ k => Jvm.RoadKit.acmp (g := (mkF m 220 #[.val (.int p1), .val (.int p2), .val (.int p3), .val (.int p4), .val (.int aa), .val (.int ss), .val (.int lx), .val (.int hs), .val (.int rc), .val (.int rp), .val (.ref b13), .val (.ref b41), .val (.ref b13), .val (.int (own_ex aa ss lx rc rp)), .val (.int ex)] [(.ref b13), (.ref b13)])) X62 hx rfl rfl rfl (pc0 := 220) (pc' := 225) (same := true) rfl (hb hby at_220) rfl (decide_eq_true rfl) (by decide) (by decide) k) ?_
    show OGo p e below _ (T62.setTop (mkF m 225 #[.val (.int p1), .val (.int p2), .val (.int p3), .val (.int p4), .val (.int aa), .val (.int ss), .val (.int lx), .val (.int hs), .val (.int rc), .val (.int rp), .val (.ref b13), .val (.ref b41), .val (.ref b13), .val (.int (own_ex aa ss lx rc rp)), .val (.int ex)] []))
    refine OGo.to (fun _ k => XS.iload X62.here hx rfl (hb hby at_225) rfl k) ?_
    show OGo p e below _ (T62.setTop (mkF m 227 #[.val (.int p1), .val (.int p2), .val (.int p3), .val (.int p4), .val (.int aa), .val (.int ss), .val (.int lx), .val (.int hs), .val (.int rc), .val (.int rp), .val (.ref b13), .val (.ref b41), .val (.ref b13), .val (.int (own_ex aa ss lx rc rp)), .val (.int ex)] [(.int (own_ex aa ss lx rc rp))]))
    refine OGo.to (fun _ k => XS.iload X62.here hx rfl (hb hby at_227) rfl k) ?_
    show OGo p e below _ (T62.setTop (mkF m 229 #[.val (.int p1), .val (.int p2), .val (.int p3), .val (.int p4), .val (.int aa), .val (.int ss), .val (.int lx), .val (.int hs), .val (.int rc), .val (.int rp), .val (.ref b13), .val (.ref b41), .val (.ref b13), .val (.int (own_ex aa ss lx rc rp)), .val (.int ex)] [(.int ex), (.int (own_ex aa ss lx rc rp))]))
    have hc229_76 : (own_ex aa ss lx rc rp) = ex := hv_ex.symm
    refine OGo.to (fun _ k => XS.icmpYes X62.here hx rfl (pc0 := 229) (pc' := 234) rfl (hb hby at_229) rfl (teq hc229_76).1 (by decide) (by decide) k) ?_
    show OGo p e below _ (T62.setTop (mkF m 234 #[.val (.int p1), .val (.int p2), .val (.int p3), .val (.int p4), .val (.int aa), .val (.int ss), .val (.int lx), .val (.int hs), .val (.int rc), .val (.int rp), .val (.ref b13), .val (.ref b41), .val (.ref b13), .val (.int (own_ex aa ss lx rc rp)), .val (.int ex)] []))
    refine OGo.to (fun _ k => XS.iload X62.here hx rfl (hb hby at_234) rfl k) ?_
    show OGo p e below _ (T62.setTop (mkF m 236 #[.val (.int p1), .val (.int p2), .val (.int p3), .val (.int p4), .val (.int aa), .val (.int ss), .val (.int lx), .val (.int hs), .val (.int rc), .val (.int rp), .val (.ref b13), .val (.ref b41), .val (.ref b13), .val (.int (own_ex aa ss lx rc rp)), .val (.int ex)] [(.int (own_ex aa ss lx rc rp))]))
    by_cases hc236_77 : (own_ex aa ss lx rc rp) = (0 : Int32)
    ·  -- pc 236: yes
      refine OGo.to (fun _ k => XS.ifYes X62.here hx rfl (pc0 := 236) (pc' := 257) rfl (hb hby at_236) rfl ((if0 _ _).trans (teq hc236_77).1) (by decide) (by decide) k) ?_
      show OGo p e below _ (T62.setTop (mkF m 257 #[.val (.int p1), .val (.int p2), .val (.int p3), .val (.int p4), .val (.int aa), .val (.int ss), .val (.int lx), .val (.int hs), .val (.int rc), .val (.int rp), .val (.ref b13), .val (.ref b41), .val (.ref b13), .val (.int (own_ex aa ss lx rc rp)), .val (.int ex)] []))
      refine OGo.to (fun _ k => XS.iconst X62.here hx rfl (hb hby at_257) k) ?_
      show OGo p e below _ (T62.setTop (mkF m 258 #[.val (.int p1), .val (.int p2), .val (.int p3), .val (.int p4), .val (.int aa), .val (.int ss), .val (.int lx), .val (.int hs), .val (.int rc), .val (.int rp), .val (.ref b13), .val (.ref b41), .val (.ref b13), .val (.int (own_ex aa ss lx rc rp)), .val (.int ex)] [(.int (1 : Int32))]))
      refine OGo.ret (Q := Q0 Z p1 p2 p3 p4 h0 n0) X62 (some (.int (1 : Int32))) (fun h => by rw [Bd.returns] at h; cases h) Bd.notSynchronized (fun fs hr => retN X62 hx (t := .boolean) (z := (1 : Int32)) Bd.returns (by simp) (hb hby at_258) hr) ?_ (by decide) (by decide)
      show Q0 Z p1 p2 p3 p4 h0 n0 _ T62.heap _
      rw [e62]
      exact ⟨rfl, N62⟩
    ·  -- pc 236: no
      refine OGo.to (fun _ k => XS.ifNo X62.here hx rfl (hb hby at_236) rfl ((if0 _ _).trans (feq hc236_77).1) k) ?_
      show OGo p e below _ (T62.setTop (mkF m 239 #[.val (.int p1), .val (.int p2), .val (.int p3), .val (.int p4), .val (.int aa), .val (.int ss), .val (.int lx), .val (.int hs), .val (.int rc), .val (.int rp), .val (.ref b13), .val (.ref b41), .val (.ref b13), .val (.int (own_ex aa ss lx rc rp)), .val (.int ex)] []))
      refine OGo.to (fun _ k => XS.aload X62.here hx rfl (hb hby at_239) rfl rfl k) ?_
      show OGo p e below _ (T62.setTop (mkF m 241 #[.val (.int p1), .val (.int p2), .val (.int p3), .val (.int p4), .val (.int aa), .val (.int ss), .val (.int lx), .val (.int hs), .val (.int rc), .val (.int rp), .val (.ref b13), .val (.ref b41), .val (.ref b13), .val (.int (own_ex aa ss lx rc rp)), .val (.int ex)] [(.ref b13)]))
      obtain ⟨cq78, kq78, q78a, q78b, q78c⟩ := isOf hZ e62 f68
      obtain ⟨_, _, ⟨T78, L78, k78, n78⟩, -, X78, ⟨Lc78, hQ78, l78, y78, z78⟩, st78⟩ := X62.virtualBack hx (y := (⟨"com/example/dromos/dromos/service/Definition", "mayKeepValue", "()Z"⟩ : MethodName)) (z := (⟨"com/example/dromos/dromos/service/Definition", "mayKeepValue", "()Z"⟩ : MethodName)) hown (mvT hZ (hw _ (List.mem_of_getElem? (i := 62) rfl))) (mvT hZ (hw _ (List.mem_of_getElem? (i := 63) rfl))) (notFace_of_selects (args := #[]) (mvT hZ (hw _ (List.mem_of_getElem? (i := 65) rfl)))) (mvT hZ (hw _ (List.mem_of_getElem? (i := 65) rfl))) (mvT hZ (hw _ (List.mem_of_getElem? (i := 64) rfl))) (by decide) (backOf (W := 0) (rm7 l Z a0 hw [] b13 aa lx h60 n0 z61 f63 f65) hZ (hw _ (List.mem_of_getElem? (i := 66) rfl)) (hw _ (List.mem_of_getElem? (i := 2) rfl)) (by decide) (by decide)) q78a q78c (g := (mkF m 241 #[.val (.int p1), .val (.int p2), .val (.int p3), .val (.int p4), .val (.int aa), .val (.int ss), .val (.int lx), .val (.int hs), .val (.int rc), .val (.int rp), .val (.ref b13), .val (.ref b41), .val (.ref b13), .val (.int (own_ex aa ss lx rc rp)), .val (.int ex)] [(.ref b13)])) rfl (by rw [hml]; rfl) (Steps.refl _) (argsL := []) (rest := []) (lenOf pd_3 rfl) rfl (by show 2 * 0 + _ ≤ _; exact Nat.le_of_eq rfl) (hb hby at_241) (fun _ _ => ⟨rfl, e62, (by decide : 3 + 0 ≤ _), (by decide : 17 + 0 ≤ _)⟩)
      dsimp only [Pt.U, Pt.locs, Pt.cells, Pt.slots] at X78 l78 y78 z78 st78 hQ78
      subst l78 y78 z78
      obtain ⟨rfl, N78q, e78⟩ := hQ78
      have N78 := Fr.app N62 N78q
      refine OGo.to (fun _ k => st78.trans k) ?_
      show OGo p e below _ (T78.setTop (mkF m 244 #[.val (.int p1), .val (.int p2), .val (.int p3), .val (.int p4), .val (.int aa), .val (.int ss), .val (.int lx), .val (.int hs), .val (.int rc), .val (.int rp), .val (.ref b13), .val (.ref b41), .val (.ref b13), .val (.int (own_ex aa ss lx rc rp)), .val (.int ex)] [(.int (own_mk aa lx))]))
      have hc244_79 : ¬ ((own_mk aa lx) = (0 : Int32)) := own_mk1 hc236_77
      refine OGo.to (fun _ k => XS.ifNo X78.here hx rfl (hb hby at_244) rfl ((if0 _ _).trans (feq hc244_79).1) k) ?_
      show OGo p e below _ (T78.setTop (mkF m 247 #[.val (.int p1), .val (.int p2), .val (.int p3), .val (.int p4), .val (.int aa), .val (.int ss), .val (.int lx), .val (.int hs), .val (.int rc), .val (.int rp), .val (.ref b13), .val (.ref b41), .val (.ref b13), .val (.int (own_ex aa ss lx rc rp)), .val (.int ex)] []))
      refine OGo.to (fun _ k => XS.aload X78.here hx rfl (hb hby at_247) rfl rfl k) ?_
      show OGo p e below _ (T78.setTop (mkF m 249 #[.val (.int p1), .val (.int p2), .val (.int p3), .val (.int p4), .val (.int aa), .val (.int ss), .val (.int lx), .val (.int hs), .val (.int rc), .val (.int rp), .val (.ref b13), .val (.ref b41), .val (.ref b13), .val (.int (own_ex aa ss lx rc rp)), .val (.int ex)] [(.ref b13)]))
      obtain ⟨cq80, kq80, q80a, q80b, q80c⟩ := isOf hZ e78 f68
      obtain ⟨_, _, ⟨T80, L80, k80, n80⟩, -, X80, ⟨Lc80, hQ80, l80, y80, z80⟩, st80⟩ := X78.virtualBack hx (y := (⟨"com/example/dromos/dromos/service/Definition", "readThrough", "()Z"⟩ : MethodName)) (z := (⟨"com/example/dromos/dromos/service/Definition", "readThrough", "()Z"⟩ : MethodName)) hown (mvT hZ (hw _ (List.mem_of_getElem? (i := 67) rfl))) (mvT hZ (hw _ (List.mem_of_getElem? (i := 68) rfl))) (notFace_of_selects (args := #[]) (mvT hZ (hw _ (List.mem_of_getElem? (i := 70) rfl)))) (mvT hZ (hw _ (List.mem_of_getElem? (i := 70) rfl))) (mvT hZ (hw _ (List.mem_of_getElem? (i := 69) rfl))) (by decide) (backOf (W := 0) (rm8 l Z a0 hw [] b13 rc b41 h60 n0 z61 f66 f67) hZ (hw _ (List.mem_of_getElem? (i := 71) rfl)) (hw _ (List.mem_of_getElem? (i := 2) rfl)) (by decide) (by decide)) q80a q80c (g := (mkF m 249 #[.val (.int p1), .val (.int p2), .val (.int p3), .val (.int p4), .val (.int aa), .val (.int ss), .val (.int lx), .val (.int hs), .val (.int rc), .val (.int rp), .val (.ref b13), .val (.ref b41), .val (.ref b13), .val (.int (own_ex aa ss lx rc rp)), .val (.int ex)] [(.ref b13)])) rfl (by rw [hml]; rfl) (Steps.refl _) (argsL := []) (rest := []) (lenOf pd_3 rfl) rfl (by show 2 * 0 + _ ≤ _; exact Nat.le_of_eq rfl) (hb hby at_249) (fun _ _ => ⟨rfl, e78, (by decide : 3 + 0 ≤ _), (by decide : 17 + 0 ≤ _)⟩)
      dsimp only [Pt.U, Pt.locs, Pt.cells, Pt.slots] at X80 l80 y80 z80 st80 hQ80
      subst l80 y80 z80
      obtain ⟨rfl, N80q, e80⟩ := hQ80
      have N80 := Fr.app N78 N80q
      refine OGo.to (fun _ k => st80.trans k) ?_
      show OGo p e below _ (T80.setTop (mkF m 252 #[.val (.int p1), .val (.int p2), .val (.int p3), .val (.int p4), .val (.int aa), .val (.int ss), .val (.int lx), .val (.int hs), .val (.int rc), .val (.int rp), .val (.ref b13), .val (.ref b41), .val (.ref b13), .val (.int (own_ex aa ss lx rc rp)), .val (.int ex)] [(.int (own_rt rc))]))
      have hc252_81 : ¬ ((own_rt rc) = (0 : Int32)) := own_rt1 hc236_77
      refine OGo.to (fun _ k => XS.ifYes X80.here hx rfl (pc0 := 252) (pc' := 257) rfl (hb hby at_252) rfl ((if0 _ _).trans (feq hc252_81).2) (by decide) (by decide) k) ?_
      show OGo p e below _ (T80.setTop (mkF m 257 #[.val (.int p1), .val (.int p2), .val (.int p3), .val (.int p4), .val (.int aa), .val (.int ss), .val (.int lx), .val (.int hs), .val (.int rc), .val (.int rp), .val (.ref b13), .val (.ref b41), .val (.ref b13), .val (.int (own_ex aa ss lx rc rp)), .val (.int ex)] []))
      refine OGo.to (fun _ k => XS.iconst X80.here hx rfl (hb hby at_257) k) ?_
      show OGo p e below _ (T80.setTop (mkF m 258 #[.val (.int p1), .val (.int p2), .val (.int p3), .val (.int p4), .val (.int aa), .val (.int ss), .val (.int lx), .val (.int hs), .val (.int rc), .val (.int rp), .val (.ref b13), .val (.ref b41), .val (.ref b13), .val (.int (own_ex aa ss lx rc rp)), .val (.int ex)] [(.int (1 : Int32))]))
      refine OGo.ret (Q := Q0 Z p1 p2 p3 p4 h0 n0) X80 (some (.int (1 : Int32))) (fun h => by rw [Bd.returns] at h; cases h) Bd.notSynchronized (fun fs hr => retN X80 hx (t := .boolean) (z := (1 : Int32)) Bd.returns (by simp) (hb hby at_258) hr) ?_ (by decide) (by decide)
      show Q0 Z p1 p2 p3 p4 h0 n0 _ T80.heap _
      rw [e80]
      exact ⟨rfl, N80⟩
set_option maxRecDepth 65536 in
set_option maxHeartbeats 40000000 in
theorem comes_1 {Post : Tables → Env → Array Value → State → Outcome → State → Prop} (hpost : ∀ tb e args s v u, (limb_1_1.after args s (.returned v) u = true ∧ limb_1_2.after args s (.returned v) u = true ∧ True) → FrameEnd s (.returned v) u (Jvm.fieldLocs frame_1_writes args s ++ Jvm.arrayLocs frame_1_arrays args s ++ Jvm.staticLocs frame_1_statics s) 16 128 → Post tb e args s (.returned v) u) :
    ArmFor flags0 classFile x code maxLocals ret World_1 tables_1 room_1 Calls_1 rest_1 Pre_1 Post := by
  intro l hfl _ _ p e ha hc hk s m args below hf hA hF happ hP
  obtain ⟨hcalls, hrest, hpre⟩ := hP
  obtain ⟨-, -, -, hnamed, -, -, -, hat⟩ := (Spec.applies_iff hf).mp happ
  obtain ⟨hg, hn⟩ := and_e (Cond.before_iff.mp (show (Jvm.Cond.and given_1 narrow_1).before args s = true from hpre))
  obtain ⟨g1, g2⟩ := and_e hg
  obtain ⟨g3, g4⟩ := and_e g2
  obtain ⟨g5, g6⟩ := and_e g4
  obtain ⟨g7, g8⟩ := and_e g6
  obtain ⟨w0, w1, w2, w3, rfl⟩ : ∃ w0 w1 w2 w3 : Value, args = #[w0, w1, w2, w3] := by
    have hs : args.size = 4 := by simpa [Cond.value, given_1] using g1
    obtain ⟨L⟩ := args
    match L, hs with
    | [w0, w1, w2, w3], _ => exact ⟨w0, w1, w2, w3, rfl⟩
  have hw := fun d (hd : d ∈ tables_1) => atoms_spec (ws := Jvm.Cond.code x code maxLocals ret :: tables_1) hat d (List.mem_cons_of_mem _ hd)
  have hfit : Fit s := fun {y c} hc i hi => by
    obtain ⟨ha, rfl⟩ := Array.getElem?_eq_some_iff.mp hc
    have q := List.all_eq_true.mp ((Array.all_eq_true_iff_forall_mem.mp hF) _ (Array.getElem_mem ha)) i (List.mem_range.mpr hi)
    simpa [Array.getElem?_eq_getElem hi] using q
  obtain ⟨i0, ei0⟩ := is_v g3
  obtain rfl : w0 = (.int i0) := Option.some.inj ei0
  obtain ⟨i1, ei1⟩ := is_v g5
  obtain rfl : w1 = (.int i1) := Option.some.inj ei1
  obtain ⟨i2, ei2⟩ := is_v g7
  obtain rfl : w2 = (.int i2) := Option.some.inj ei2
  obtain ⟨i3, ei3⟩ := is_v g8
  obtain rfl : w3 = (.int i3) := Option.some.inj ei3
  obtain ⟨n, o, h1, h2, h3, _, L, rfl, ⟨rfl, N⟩, hq⟩ := rm0 l s _ hw tables_1 i0 i1 i2 i3 s.heap s.heap.size (Nat.le_refl _)  p e ha hc hk s m _ below hf ((Spec.applies_iff_loose hf).mp happ).1 ⟨rfl, State.Warmed39.refl s, rfl⟩ trivial
  refine ⟨n, _, h1, h2, h3, hpost _ _ _ _ _ _ ⟨Cond.after_iff.mpr rfl, Cond.after_iff.mpr (eq_i res_at (Term.int_eval (1)) rfl), trivial⟩ ⟨hq.1, hq.2.1, (hq.2.2.sift fun y hy => Or.inr (N y hy)).mono (by decide) (by decide)⟩⟩
theorem main_1_1 : Claimed_1_1 := comes_1 fun _ _ _ _ _ _ h hF => ⟨h.1, hF⟩
theorem main_1_2 : Claimed_1_2 := comes_1 fun _ _ _ _ _ _ h hF => ⟨h.2.1, hF⟩
end Jvm.Pilot.@@N@@
namespace Jvm.Pilot.@@N@@
open Jvm Jvm.ClassFile Sem Op Lib Jvm.Free Jvm.Stand Jvm.Pilot.@@N@@.Jvm.D
/-! MADE BY PROGRAM (witnessworld.py) out of the Statement's table words and the real class files: 11 classes; the members and pool entries that the words name. The judged class is class 1, her method 1. -/
namespace start1
open Jvm.ClassFile
def u (s : String) : CpInfo := .utf8 (stringToUtf16 s)
/-- a pool by its gaps: so many unusable entries, then the entry; so many at the end -/
def gap : Nat → List CpInfo → List CpInfo
  | 0, r => r
  | n + 1, r => .unusable :: gap n r
def poolList (es : List (Nat × CpInfo)) (last : Nat) : List CpInfo := es.foldr (fun e r => gap e.1 (e.2 :: r)) (gap last [])
def pool (es : List (Nat × CpInfo)) (last : Nat) : Array CpInfo := ⟨poolList es last⟩
def fileOf (pool : Array CpInfo) (this : Nat) (attrs : Array Attribute := #[]) (ms : Array MethodInfo := #[]) (fl : Nat := 33) (sup : Nat := 0) (ifs : Array Nat := #[]) (fds : Array FieldInfo := #[]) : ClassFile where
  minorVersion := 0
  majorVersion := 65
  constantPool := pool
  accessFlags := fl
  thisClass := this
  superClass := sup
  interfaces := ifs
  fields := fds
  methods := ms
  attributes := attrs
def plain (name : String) (sup : Option ClassId) : Class where
  name := name
  kind := .ordinary
  loader := none
  accessFlags := 33
  super := sup
  interfaces := #[]
  cf := none
  fields := #[]
  methods := #[]
  instanceTypes := #[]
  staticTypes := #[]
  resolved := #[]
  callSites := []
  init := .initialized
  statics := none
  mirror := none

def pool0 : Array CpInfo := pool [(5, u "<init>"), (0, u "()V"), (1, .class_ 10), (1, u "java/lang/Object")] 113

def k0c0 : Code := { maxStack := 0, maxLocals := 1, code := object_method_1_code, exceptionTable := #[], attributes := #[] }
def k0m0 : Method := { name := "<init>", desc := "()V", sig := { parameters := [], returnType := none }, accessFlags := 1, code := some k0c0 }
/-- java/lang/Object -/
def k0 : Class := { plain "java/lang/Object" none with
  accessFlags := 33
  interfaces := #[]
  cf := some (fileOf pool0 8 #[] #[{ accessFlags := 1, nameIndex := 5, descriptorIndex := 6, attributes := #[] }] 33 0 #[] #[])
  fields := #[]
  methods := #[k0m0]
  instanceTypes := #[]
  staticTypes := #[]
  resolved := Array.replicate 124 none
  statics := none }

def pool1 : Array CpInfo := pool [(2, .class_ 4), (1, u "java/lang/Object"), (0, u "<init>"), (0, u "()V"), (0, .class_ 8), (0, u "com/example/dromos/dromos/service/Definition"), (0, .methodref 7 10), (0, .nameAndType 5 11), (0, u "(Ljava/lang/String;IILcom/example/dromos/dromos/model/Location;Z)V"), (0, .class_ 13), (0, u "com/example/dromos/dromos/service/Nodes$Constant"), (0, .methodref 12 15), (0, .nameAndType 5 16), (0, u "(Lcom/example/dromos/dromos/model/Location;Lcom/example/dromos/dromos/model/Value;)V"), (0, .methodref 7 18), (0, .nameAndType 19 20), (0, u "define"), (0, u "(Lcom/example/dromos/dromos/service/Node;I)Lcom/example/dromos/dromos/service/Definition;"), (0, .fieldref 7 22), (0, .nameAndType 23 24), (0, u "recursive"), (0, u "Z"), (0, .fieldref 7 26), (0, .nameAndType 27 24), (0, u "replacesVariable"), (0, .methodref 7 29), (0, .nameAndType 30 31), (0, u "expandable"), (0, u "()Z"), (0, .methodref 7 33), (0, .nameAndType 34 31), (0, u "mayKeepValue"), (0, .methodref 7 36), (0, .nameAndType 37 31), (0, u "readThrough"), (0, .class_ 39), (0, u "com/example/dromos/dromos/service/DefinitionExpandablePinLaw"), (2, u "law"), (0, u "(IIII)Z")] 7

def k1m0 : Method := { name := "<init>", desc := "()V", sig := { parameters := [], returnType := none }, accessFlags := 1, code := none }
def k1c1 : Code := { maxStack := 7, maxLocals := 15, code := code, exceptionTable := #[], attributes := #[] }
def k1m1 : Method := { name := "law", desc := "(IIII)Z", sig := { parameters := [.int, .int, .int, .int], returnType := some .boolean }, accessFlags := 9, code := some k1c1 }
/-- com/example/dromos/dromos/service/DefinitionExpandablePinLaw -/
def k1 : Class := { plain "com/example/dromos/dromos/service/DefinitionExpandablePinLaw" (some 0) with
  accessFlags := 49
  interfaces := #[]
  cf := some (fileOf pool1 38 #[] #[{ accessFlags := 1, nameIndex := 5, descriptorIndex := 6, attributes := #[] }, { accessFlags := 9, nameIndex := 42, descriptorIndex := 43, attributes := #[] }] 49 2 #[] #[])
  fields := #[]
  methods := #[k1m0, k1m1]
  instanceTypes := #[]
  staticTypes := #[]
  resolved := Array.replicate 51 none
  statics := none }

def pool2 : Array CpInfo := pool [(2, .class_ 4), (1, u "com/example/dromos/dromos/service/Definition"), (0, u "<init>"), (0, u "(Ljava/lang/String;IILcom/example/dromos/dromos/model/Location;Z)V"), (0, .methodref 8 9), (0, .class_ 10), (0, .nameAndType 5 11), (0, u "java/lang/Object"), (0, u "()V"), (0, .fieldref 2 13), (0, .nameAndType 14 15), (0, u "bound"), (0, u "I"), (0, .fieldref 2 17), (0, .nameAndType 18 15), (0, u "free"), (0, .fieldref 2 20), (0, .nameAndType 21 22), (0, u "operators"), (0, u "[I"), (0, .fieldref 2 24), (0, .nameAndType 25 26), (0, u "name"), (0, u "Ljava/lang/String;"), (0, .fieldref 2 28), (0, .nameAndType 29 15), (0, u "arity"), (0, .fieldref 2 31), (0, .nameAndType 32 15), (0, u "hidden"), (0, .fieldref 2 34), (0, .nameAndType 35 36), (0, u "at"), (0, u "Lcom/example/dromos/dromos/model/Location;"), (0, .fieldref 2 38), (0, .nameAndType 39 40), (0, u "lexical"), (0, u "Z"), (0, .fieldref 2 42), (0, .nameAndType 43 44), (0, u "body"), (0, u "Lcom/example/dromos/dromos/service/Node;"), (0, .fieldref 2 46), (0, .nameAndType 47 15), (0, u "slots"), (16, u "results"), (0, u "Ljava/util/Map;"), (14, .fieldref 2 81), (0, .nameAndType 82 40), (0, u "recursive"), (0, .fieldref 2 84), (0, .nameAndType 85 40), (0, u "replacesVariable"), (0, u "source"), (0, u "Lcom/example/dromos/dromos/service/Definition$Source;"), (0, u "value"), (0, u "Lcom/example/dromos/dromos/model/Value;"), (5, u "define"), (0, u "(Lcom/example/dromos/dromos/service/Node;I)Lcom/example/dromos/dromos/service/Definition;"), (7, u "()Z"), (7, u "mayKeepValue"), (0, u "expandable"), (0, u "readThrough"), (3, .class_ 119), (0, u "com/example/dromos/dromos/service/Definition$Source")] 4

def k2c0 : Code := { maxStack := 2, maxLocals := 6, code := prog_165_method_2_code, exceptionTable := #[], attributes := #[] }
def k2m0 : Method := { name := "<init>", desc := "(Ljava/lang/String;IILcom/example/dromos/dromos/model/Location;Z)V", sig := { parameters := [(.object "java/lang/String"), .int, .int, (.object "com/example/dromos/dromos/model/Location"), .boolean], returnType := none }, accessFlags := 0, code := some k2c0 }
def k2c1 : Code := { maxStack := 2, maxLocals := 3, code := prog_165_method_3_code, exceptionTable := #[], attributes := #[] }
def k2m1 : Method := { name := "define", desc := "(Lcom/example/dromos/dromos/service/Node;I)Lcom/example/dromos/dromos/service/Definition;", sig := { parameters := [(.object "com/example/dromos/dromos/service/Node"), .int], returnType := some (.object "com/example/dromos/dromos/service/Definition") }, accessFlags := 0, code := some k2c1 }
def k2c2 : Code := { maxStack := 1, maxLocals := 1, code := prog_165_method_9_code, exceptionTable := #[], attributes := #[] }
def k2m2 : Method := { name := "mayKeepValue", desc := "()Z", sig := { parameters := [], returnType := some .boolean }, accessFlags := 0, code := some k2c2 }
def k2c3 : Code := { maxStack := 1, maxLocals := 1, code := prog_165_method_10_code, exceptionTable := #[], attributes := #[] }
def k2m3 : Method := { name := "expandable", desc := "()Z", sig := { parameters := [], returnType := some .boolean }, accessFlags := 0, code := some k2c3 }
def k2c4 : Code := { maxStack := 1, maxLocals := 1, code := prog_165_method_11_code, exceptionTable := #[], attributes := #[] }
def k2m4 : Method := { name := "readThrough", desc := "()Z", sig := { parameters := [], returnType := some .boolean }, accessFlags := 0, code := some k2c4 }
/-- com/example/dromos/dromos/service/Definition -/
def k2 : Class := { plain "com/example/dromos/dromos/service/Definition" (some 0) with
  accessFlags := 48
  interfaces := #[]
  cf := some (fileOf pool2 2 #[.nestMembers #[118]] #[{ accessFlags := 0, nameIndex := 5, descriptorIndex := 6, attributes := #[] }, { accessFlags := 0, nameIndex := 95, descriptorIndex := 96, attributes := #[] }, { accessFlags := 0, nameIndex := 112, descriptorIndex := 104, attributes := #[] }, { accessFlags := 0, nameIndex := 113, descriptorIndex := 104, attributes := #[] }, { accessFlags := 0, nameIndex := 114, descriptorIndex := 104, attributes := #[] }] 48 8 #[] #[{ accessFlags := 16, nameIndex := 25, descriptorIndex := 26, attributes := #[] }, { accessFlags := 16, nameIndex := 29, descriptorIndex := 15, attributes := #[] }, { accessFlags := 16, nameIndex := 32, descriptorIndex := 15, attributes := #[] }, { accessFlags := 16, nameIndex := 35, descriptorIndex := 36, attributes := #[] }, { accessFlags := 16, nameIndex := 39, descriptorIndex := 40, attributes := #[] }, { accessFlags := 0, nameIndex := 43, descriptorIndex := 44, attributes := #[] }, { accessFlags := 0, nameIndex := 47, descriptorIndex := 15, attributes := #[] }, { accessFlags := 0, nameIndex := 82, descriptorIndex := 40, attributes := #[] }, { accessFlags := 0, nameIndex := 86, descriptorIndex := 87, attributes := #[] }, { accessFlags := 0, nameIndex := 14, descriptorIndex := 15, attributes := #[] }, { accessFlags := 0, nameIndex := 85, descriptorIndex := 40, attributes := #[] }, { accessFlags := 0, nameIndex := 88, descriptorIndex := 89, attributes := #[] }, { accessFlags := 0, nameIndex := 18, descriptorIndex := 15, attributes := #[] }, { accessFlags := 2, nameIndex := 21, descriptorIndex := 22, attributes := #[] }, { accessFlags := 66, nameIndex := 64, descriptorIndex := 65, attributes := #[] }])
  fields := #[{ name := "name", type := (.object "java/lang/String"), accessFlags := 16, slot := 0, constantValue := 0 }, { name := "arity", type := .int, accessFlags := 16, slot := 1, constantValue := 0 }, { name := "hidden", type := .int, accessFlags := 16, slot := 2, constantValue := 0 }, { name := "at", type := (.object "com/example/dromos/dromos/model/Location"), accessFlags := 16, slot := 3, constantValue := 0 }, { name := "lexical", type := .boolean, accessFlags := 16, slot := 4, constantValue := 0 }, { name := "body", type := (.object "com/example/dromos/dromos/service/Node"), accessFlags := 0, slot := 5, constantValue := 0 }, { name := "slots", type := .int, accessFlags := 0, slot := 6, constantValue := 0 }, { name := "recursive", type := .boolean, accessFlags := 0, slot := 7, constantValue := 0 }, { name := "source", type := (.object "com/example/dromos/dromos/service/Definition$Source"), accessFlags := 0, slot := 8, constantValue := 0 }, { name := "bound", type := .int, accessFlags := 0, slot := 9, constantValue := 0 }, { name := "replacesVariable", type := .boolean, accessFlags := 0, slot := 10, constantValue := 0 }, { name := "value", type := (.object "com/example/dromos/dromos/model/Value"), accessFlags := 0, slot := 11, constantValue := 0 }, { name := "free", type := .int, accessFlags := 0, slot := 12, constantValue := 0 }, { name := "operators", type := (.array .int), accessFlags := 2, slot := 13, constantValue := 0 }, { name := "results", type := (.object "java/util/Map"), accessFlags := 66, slot := 14, constantValue := 0 }]
  methods := #[k2m0, k2m1, k2m2, k2m3, k2m4]
  instanceTypes := #[(.object "java/lang/String"), .int, .int, (.object "com/example/dromos/dromos/model/Location"), .boolean, (.object "com/example/dromos/dromos/service/Node"), .int, .boolean, (.object "com/example/dromos/dromos/service/Definition$Source"), .int, .boolean, (.object "com/example/dromos/dromos/model/Value"), .int, (.array .int), (.object "java/util/Map")]
  staticTypes := #[]
  resolved := Array.replicate 124 none
  statics := none }

def pool3 : Array CpInfo := pool [(1, .methodref 2 3), (0, .class_ 4), (0, .nameAndType 5 6), (0, u "java/lang/Object"), (0, u "<init>"), (0, u "()V"), (0, .fieldref 8 9), (0, .class_ 10), (0, .nameAndType 11 12), (0, u "com/example/dromos/dromos/service/Node"), (0, u "at"), (0, u "Lcom/example/dromos/dromos/model/Location;"), (34, u "GUARDS"), (0, u "Ljava/lang/ClassValue;"), (18, u "FINDERS"), (35, .class_ 104), (0, u "com/example/dromos/dromos/service/Node$1"), (1, .class_ 107), (0, u "com/example/dromos/dromos/service/Node$2"), (3, u "(Lcom/example/dromos/dromos/model/Location;)V")] 37

def k3c0 : Code := { maxStack := 2, maxLocals := 2, code := prog_199_method_1_code, exceptionTable := #[], attributes := #[] }
def k3m0 : Method := { name := "<init>", desc := "(Lcom/example/dromos/dromos/model/Location;)V", sig := { parameters := [(.object "com/example/dromos/dromos/model/Location")], returnType := none }, accessFlags := 0, code := some k3c0 }
/-- com/example/dromos/dromos/service/Node -/
def k3 : Class := { plain "com/example/dromos/dromos/service/Node" (some 0) with
  accessFlags := 1056
  interfaces := #[]
  cf := some (fileOf pool3 8 #[.nestMembers #[106, 103]] #[{ accessFlags := 0, nameIndex := 5, descriptorIndex := 111, attributes := #[] }] 1056 2 #[] #[{ accessFlags := 26, nameIndex := 47, descriptorIndex := 48, attributes := #[] }, { accessFlags := 26, nameIndex := 67, descriptorIndex := 48, attributes := #[] }, { accessFlags := 16, nameIndex := 11, descriptorIndex := 12, attributes := #[] }])
  fields := #[{ name := "GUARDS", type := (.object "java/lang/ClassValue"), accessFlags := 26, slot := 0, constantValue := 0 }, { name := "FINDERS", type := (.object "java/lang/ClassValue"), accessFlags := 26, slot := 1, constantValue := 0 }, { name := "at", type := (.object "com/example/dromos/dromos/model/Location"), accessFlags := 16, slot := 0, constantValue := 0 }]
  methods := #[k3m0]
  instanceTypes := #[(.object "com/example/dromos/dromos/model/Location")]
  staticTypes := #[(.object "java/lang/ClassValue"), (.object "java/lang/ClassValue")]
  resolved := Array.replicate 149 none
  statics := none }

def pool4 : Array CpInfo := pool [(1, .methodref 2 3), (0, .class_ 4), (0, .nameAndType 5 6), (0, u "com/example/dromos/dromos/service/Node"), (0, u "<init>"), (0, u "(Lcom/example/dromos/dromos/model/Location;)V"), (0, .fieldref 8 9), (0, .class_ 10), (0, .nameAndType 11 12), (0, u "com/example/dromos/dromos/service/Nodes$Constant"), (0, u "value"), (0, u "Lcom/example/dromos/dromos/model/Value;"), (0, u "(Lcom/example/dromos/dromos/model/Location;Lcom/example/dromos/dromos/model/Value;)V"), (7, .class_ 22), (0, u "com/example/dromos/dromos/service/Nodes")] 2

def k4c0 : Code := { maxStack := 2, maxLocals := 3, code := prog_208_method_1_code, exceptionTable := #[], attributes := #[] }
def k4m0 : Method := { name := "<init>", desc := "(Lcom/example/dromos/dromos/model/Location;Lcom/example/dromos/dromos/model/Value;)V", sig := { parameters := [(.object "com/example/dromos/dromos/model/Location"), (.object "com/example/dromos/dromos/model/Value")], returnType := none }, accessFlags := 0, code := some k4c0 }
/-- com/example/dromos/dromos/service/Nodes$Constant -/
def k4 : Class := { plain "com/example/dromos/dromos/service/Nodes$Constant" (some 3) with
  accessFlags := 48
  interfaces := #[]
  cf := some (fileOf pool4 8 #[.nestHost 21] #[{ accessFlags := 0, nameIndex := 5, descriptorIndex := 13, attributes := #[] }] 48 2 #[] #[{ accessFlags := 18, nameIndex := 11, descriptorIndex := 12, attributes := #[] }])
  fields := #[{ name := "value", type := (.object "com/example/dromos/dromos/model/Value"), accessFlags := 18, slot := 1, constantValue := 0 }]
  methods := #[k4m0]
  instanceTypes := #[(.object "com/example/dromos/dromos/model/Location"), (.object "com/example/dromos/dromos/model/Value")]
  staticTypes := #[]
  resolved := Array.replicate 25 none
  statics := none }

def pool5 : Array CpInfo := pool [(1, u "java/lang/Cloneable"), (0, .class_ 1), (0, u "java/lang/Object"), (0, .class_ 3)] 3

/-- java/lang/Cloneable -/
def k5 : Class := { plain "java/lang/Cloneable" (some 0) with
  accessFlags := 1537
  interfaces := #[]
  cf := some (fileOf pool5 2 #[] #[] 1537 4 #[] #[])
  fields := #[]
  methods := #[]
  instanceTypes := #[]
  staticTypes := #[]
  resolved := Array.replicate 8 none
  statics := none }

def pool6 : Array CpInfo := pool [(1, u "java/io/Serializable"), (0, .class_ 1), (0, u "java/lang/Object"), (0, .class_ 3)] 3

/-- java/io/Serializable -/
def k6 : Class := { plain "java/io/Serializable" (some 0) with
  accessFlags := 1537
  interfaces := #[]
  cf := some (fileOf pool6 2 #[] #[] 1537 4 #[] #[])
  fields := #[]
  methods := #[]
  instanceTypes := #[]
  staticTypes := #[]
  resolved := Array.replicate 8 none
  statics := none }

/-- the primitive byte -/
def k7 : Class := { plain "byte" none with kind := .primitive 'B', accessFlags := 0x411 }
/-- [B -/
def k8 : Class := { plain "[B" (some 0) with kind := .array 7 .byte, interfaces := #[5, 6], accessFlags := 1041 }

/-- the primitive int -/
def k9 : Class := { plain "int" none with kind := .primitive 'I', accessFlags := 0x411 }
/-- [I -/
def k10 : Class := { plain "[I" (some 0) with kind := .array 9 .int, interfaces := #[5, 6], accessFlags := 1041 }

def heap : Heap := #[]
def classes : Array Class := #[k0, k1, k2, k3, k4, k5, k6, k7, k8, k9, k10]
def interned : List (Array UInt16 × Addr) := []
def slotsUsed : Nat := 0
def theMethod : MethodId := ⟨1, 1⟩
def args0 : Array Value := #[.int 5, .int 7, .int 9, .int 3]
def aboutOver (below : List Frame) : State where
  vm := { classes := classes, interned := interned.toArray }
  heap := heap
  slotsUsed := slotsUsed
  threads := #[{ frames := .invoking theMethod args0 :: below }]
def below0 : List Frame := [.native { method := ⟨0, 0⟩, args := #[] }]
def about1 : State := aboutOver below0
def p0 : Program := .bare "" "" ""
def e0 : Env := launch0.env 0 0 0
theorem w_frames : about1.frames = Frame.invoking theMethod args0 :: below0 := rfl
set_option maxRecDepth 65536 in
theorem w_args : argsFit about1.vm theMethod args0 = true := by decide +kernel
set_option maxRecDepth 65536 in
theorem w_heap : heapFits about1 = true := by decide +kernel
set_option maxRecDepth 65536 in
theorem w_runnable : about1.curStatus? = some .runnable := by decide +kernel
set_option maxRecDepth 65536 in
theorem w_alone : about1.alone = true := by decide +kernel
set_option maxRecDepth 65536 in
theorem w_named : about1.methodNamed? x = some theMethod := by decide +kernel
set_option maxRecDepth 65536 in
theorem w_hears : about1.hears theMethod below0 = true := by decide +kernel
set_option maxRecDepth 65536 in
theorem w_ripe : about1.ripe theMethod args0 below0 = true := by decide +kernel
theorem w_running : about1.status = .running := rfl
set_option maxRecDepth 65536 in
theorem w_room : about1.hasRoom e0.platform room_1 = true :=
  launch0.hasRoom_least _ room_1 (by decide +kernel) (by decide +kernel) (by decide +kernel) (by decide +kernel) (by decide +kernel) (by decide +kernel)
theorem allAtoms_all (ts : List Jvm.Cond) (a : Array Jvm.Value) (st : Jvm.State) : (allAtoms ts).before a st = ts.all (fun c => c.before a st) := by
  induction ts with
  | nil => rfl
  | cons c t ih =>
    show (Jvm.Cond.and c (allAtoms t)).before a st = _
    rw [Jvm.Cond.before_and, ih, List.all_cons]
def words1 : List Jvm.Cond := Jvm.Cond.code x code maxLocals ret :: tables_1
/-- a 'code' word, met by the world's own term for the bytes: nothing is compared byte by byte -/
theorem code_word {y : MethodName} {bytes : ByteArray} {mx : Nat} {rt : Option FieldType} {a : Array Value} {s : State} {m : MethodId} {meth : Method} {c : Code} (h1 : s.methodNamed? y = some m) (h2 : s.vm.method? m = some meth) (h3 : meth.code = some c) (h4 : c.code = bytes)
    (h5 : (c.maxLocals == mx && c.exceptionTable.isEmpty && decide (c.maxStack ≤ mostOperands) && decide (meth.sig.returnType = rt) && !meth.locks && decide (parseMethodDescriptor y.desc = some meth.sig)) = true) : (Jvm.Cond.code y bytes mx rt).before a s = true := by
  simp only [Bool.and_eq_true, beq_iff_eq, Bool.not_eq_true', decide_eq_true_eq] at h5
  obtain ⟨⟨⟨⟨⟨g1, g2⟩, g3⟩, g4⟩, g5⟩, g6⟩ := h5
  simp [Cond.before, Cond.holds, Cond.value, h1, h2, h3, h4, g1, g2, g3, g4, g5, g6]
def isCode : Jvm.Cond → Bool
  | .code _ _ _ _ => true
  | _ => false
theorem all_split {L : List Jvm.Cond} {P : Jvm.Cond → Bool} (h1 : L.all (fun c => isCode c || P c) = true) (h2 : ∀ c ∈ L.filter isCode, P c = true) : L.all P = true := by
  refine List.all_eq_true.mpr fun c hc => ?_
  have h := List.all_eq_true.mp h1 c hc
  rcases Bool.eq_false_or_eq_true (isCode c) with hi | hi
  · exact h2 c (List.mem_filter.mpr ⟨hc, hi⟩)
  · simpa [hi] using h
set_option maxRecDepth 65536 in
theorem w_c0 : (Jvm.Cond.code x code maxLocals ret).before args0 about1 = true := code_word (m := ⟨1, 1⟩) (meth := k1m1) (c := k1c1) (by decide +kernel) rfl rfl rfl (by decide +kernel)
set_option maxRecDepth 65536 in
theorem w_c1 : (Jvm.Cond.code ({ cls := "com/example/dromos/dromos/service/Definition", name := "<init>", desc := "(Ljava/lang/String;IILcom/example/dromos/dromos/model/Location;Z)V" } : Jvm.MethodName) prog_165_method_2_code (6 : Nat) (Option.none : Option Jvm.ClassFile.FieldType)).before args0 about1 = true := code_word (m := ⟨2, 0⟩) (meth := k2m0) (c := k2c0) (by decide +kernel) rfl rfl rfl (by decide +kernel)
set_option maxRecDepth 65536 in
theorem w_c2 : (Jvm.Cond.code ({ cls := "java/lang/Object", name := "<init>", desc := "()V" } : Jvm.MethodName) object_method_1_code (1 : Nat) (Option.none : Option Jvm.ClassFile.FieldType)).before args0 about1 = true := code_word (m := ⟨0, 0⟩) (meth := k0m0) (c := k0c0) (by decide +kernel) rfl rfl rfl (by decide +kernel)
set_option maxRecDepth 65536 in
theorem w_c3 : (Jvm.Cond.code ({ cls := "com/example/dromos/dromos/service/Definition", name := "define", desc := "(Lcom/example/dromos/dromos/service/Node;I)Lcom/example/dromos/dromos/service/Definition;" } : Jvm.MethodName) prog_165_method_3_code (3 : Nat) (Option.some (Jvm.ClassFile.FieldType.object "com/example/dromos/dromos/service/Definition"))).before args0 about1 = true := code_word (m := ⟨2, 1⟩) (meth := k2m1) (c := k2c1) (by decide +kernel) rfl rfl rfl (by decide +kernel)
set_option maxRecDepth 65536 in
theorem w_c4 : (Jvm.Cond.code ({ cls := "com/example/dromos/dromos/service/Definition", name := "expandable", desc := "()Z" } : Jvm.MethodName) prog_165_method_10_code (1 : Nat) (Option.some Jvm.ClassFile.FieldType.boolean)).before args0 about1 = true := code_word (m := ⟨2, 3⟩) (meth := k2m3) (c := k2c3) (by decide +kernel) rfl rfl rfl (by decide +kernel)
set_option maxRecDepth 65536 in
theorem w_c5 : (Jvm.Cond.code ({ cls := "com/example/dromos/dromos/service/Nodes$Constant", name := "<init>", desc := "(Lcom/example/dromos/dromos/model/Location;Lcom/example/dromos/dromos/model/Value;)V" } : Jvm.MethodName) prog_208_method_1_code (3 : Nat) (Option.none : Option Jvm.ClassFile.FieldType)).before args0 about1 = true := code_word (m := ⟨4, 0⟩) (meth := k4m0) (c := k4c0) (by decide +kernel) rfl rfl rfl (by decide +kernel)
set_option maxRecDepth 65536 in
theorem w_c6 : (Jvm.Cond.code ({ cls := "com/example/dromos/dromos/service/Node", name := "<init>", desc := "(Lcom/example/dromos/dromos/model/Location;)V" } : Jvm.MethodName) prog_199_method_1_code (2 : Nat) (Option.none : Option Jvm.ClassFile.FieldType)).before args0 about1 = true := code_word (m := ⟨3, 0⟩) (meth := k3m0) (c := k3c0) (by decide +kernel) rfl rfl rfl (by decide +kernel)
set_option maxRecDepth 65536 in
theorem w_c7 : (Jvm.Cond.code ({ cls := "com/example/dromos/dromos/service/Definition", name := "mayKeepValue", desc := "()Z" } : Jvm.MethodName) prog_165_method_9_code (1 : Nat) (Option.some Jvm.ClassFile.FieldType.boolean)).before args0 about1 = true := code_word (m := ⟨2, 2⟩) (meth := k2m2) (c := k2c2) (by decide +kernel) rfl rfl rfl (by decide +kernel)
set_option maxRecDepth 65536 in
theorem w_c8 : (Jvm.Cond.code ({ cls := "com/example/dromos/dromos/service/Definition", name := "readThrough", desc := "()Z" } : Jvm.MethodName) prog_165_method_11_code (1 : Nat) (Option.some Jvm.ClassFile.FieldType.boolean)).before args0 about1 = true := code_word (m := ⟨2, 4⟩) (meth := k2m4) (c := k2c4) (by decide +kernel) rfl rfl rfl (by decide +kernel)
def codes1 : List Jvm.Cond := [Jvm.Cond.code x code maxLocals ret, Jvm.Cond.code ({ cls := "com/example/dromos/dromos/service/Definition", name := "<init>", desc := "(Ljava/lang/String;IILcom/example/dromos/dromos/model/Location;Z)V" } : Jvm.MethodName) prog_165_method_2_code (6 : Nat) (Option.none : Option Jvm.ClassFile.FieldType), Jvm.Cond.code ({ cls := "java/lang/Object", name := "<init>", desc := "()V" } : Jvm.MethodName) object_method_1_code (1 : Nat) (Option.none : Option Jvm.ClassFile.FieldType), Jvm.Cond.code ({ cls := "com/example/dromos/dromos/service/Definition", name := "define", desc := "(Lcom/example/dromos/dromos/service/Node;I)Lcom/example/dromos/dromos/service/Definition;" } : Jvm.MethodName) prog_165_method_3_code (3 : Nat) (Option.some (Jvm.ClassFile.FieldType.object "com/example/dromos/dromos/service/Definition")), Jvm.Cond.code ({ cls := "com/example/dromos/dromos/service/Definition", name := "expandable", desc := "()Z" } : Jvm.MethodName) prog_165_method_10_code (1 : Nat) (Option.some Jvm.ClassFile.FieldType.boolean), Jvm.Cond.code ({ cls := "com/example/dromos/dromos/service/Nodes$Constant", name := "<init>", desc := "(Lcom/example/dromos/dromos/model/Location;Lcom/example/dromos/dromos/model/Value;)V" } : Jvm.MethodName) prog_208_method_1_code (3 : Nat) (Option.none : Option Jvm.ClassFile.FieldType), Jvm.Cond.code ({ cls := "com/example/dromos/dromos/service/Node", name := "<init>", desc := "(Lcom/example/dromos/dromos/model/Location;)V" } : Jvm.MethodName) prog_199_method_1_code (2 : Nat) (Option.none : Option Jvm.ClassFile.FieldType), Jvm.Cond.code ({ cls := "com/example/dromos/dromos/service/Definition", name := "mayKeepValue", desc := "()Z" } : Jvm.MethodName) prog_165_method_9_code (1 : Nat) (Option.some Jvm.ClassFile.FieldType.boolean), Jvm.Cond.code ({ cls := "com/example/dromos/dromos/service/Definition", name := "readThrough", desc := "()Z" } : Jvm.MethodName) prog_165_method_11_code (1 : Nat) (Option.some Jvm.ClassFile.FieldType.boolean)]
set_option maxRecDepth 65536 in
theorem codes_eq : words1.filter isCode = codes1 := rfl
theorem w_codes : ∀ c ∈ words1.filter isCode, c.before args0 about1 = true := by
  rw [codes_eq]
  intro c hc
  simp only [codes1, List.mem_cons, List.not_mem_nil, or_false] at hc
  rcases hc with rfl | rfl | rfl | rfl | rfl | rfl | rfl | rfl | rfl
  · exact w_c0
  · exact w_c1
  · exact w_c2
  · exact w_c3
  · exact w_c4
  · exact w_c5
  · exact w_c6
  · exact w_c7
  · exact w_c8
set_option maxRecDepth 65536 in
theorem w_t1 : (words1.take 24).all (fun c => isCode c || c.before args0 about1) = true := by decide +kernel
set_option maxRecDepth 65536 in
theorem w_t2 : ((words1.drop 24).take 24).all (fun c => isCode c || c.before args0 about1) = true := by decide +kernel
set_option maxRecDepth 65536 in
theorem w_t3 : (((words1.drop 24).drop 24).take 24).all (fun c => isCode c || c.before args0 about1) = true := by decide +kernel
set_option maxRecDepth 65536 in
theorem w_t4 : (((words1.drop 24).drop 24).drop 24).all (fun c => isCode c || c.before args0 about1) = true := by decide +kernel
theorem w_tables : (allAtoms (Jvm.Cond.code x code maxLocals ret :: tables_1)).before args0 about1 = true := by
  rw [allAtoms_all]
  show words1.all (fun c => c.before args0 about1) = true
  refine all_split ?_ w_codes
  rw [← List.take_append_drop 24 words1, List.all_append, w_t1, ← List.take_append_drop 24 (words1.drop 24), List.all_append, w_t2, ← List.take_append_drop 24 ((words1.drop 24).drop 24), List.all_append, w_t3, w_t4]
  rfl
set_option maxRecDepth 65536 in
theorem w_case : (Jvm.Cond.and given_1 narrow_1).before args0 about1 = true := by decide +kernel
theorem w_applies : (headSpec (Jvm.Cond.code x code maxLocals ret :: tables_1) room_1).applies x e0.platform about1 = true :=
  (Spec.applies_iff w_frames).mpr ⟨w_running, w_runnable, w_alone, w_named, w_hears, w_ripe, w_room, w_tables⟩
theorem atStart : AtStart classFile x code maxLocals ret World_1 tables_1 room_1 Calls_1 rest_1 Pre_1 launch0 p0 e0 about1 theMethod args0 below0 :=
  ⟨lists_1, trivial, launch0.admits_env _ _ _, launch0.least_env, fairChoices_fair.cas, fairChoices_fair.clock, w_frames, w_args, w_heap, w_applies, trivial, trivial, w_case⟩
end start1
theorem witness_1 : WitnessClaimed_1 := ⟨start1.p0, start1.e0, start1.about1, start1.theMethod, start1.args0, start1.below0, start1.atStart⟩
end Jvm.Pilot.@@N@@
