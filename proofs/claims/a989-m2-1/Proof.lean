import JvmDerived
import JvmDerived.Pilot.@@N@@Statement
import JvmDerived.Pilot.@@N@@Code
set_option linter.unusedVariables false
set_option linter.unusedSimpArgs false
namespace Jvm.RoadKit
open Sem ClassFile Op Lib Jvm.Stand Jvm.Free Jvm.LawKit
section New
variable {p : Program} {l : Launch} {e : Env} {R : Room} {s : State} {m : MethodId} {args : Array Value} {below : List Frame} {meth : Method} {c : Code} {T : State} {locs : List Loc} {cells slots : Nat}
theorem retI (X : Stand p l e R s m args below meth c T locs cells slots) (hx : p.tables.exec = Jvm.exec) {pc : Nat} {Ls : Array Slot} {z : Int32} {rest : List Value} (hret : meth.sig.returnType = some .int) (hd : decode c.code pc = .ok (.ireturn, 1)) {fs : List Frame}
    (hl : ∀ (f : JFrame) (acts : List Action), f.method = m → f.locked = none → f.entered = [] → (doReturn e (T.setTop f) acts (some (.int z))).1 = T.setFrames fs) : Steps p.tables e below (T.setTop (mkF m pc Ls (.int z :: rest))) (T.setFrames fs) := by
  have hm' : T.vm.method? m = some meth := X.method'
  have hn : narrow .int (.int z) = .int z := rfl
  show Steps p.tables e below (T.setTop { method := m, pc := pc, locals := Ls, stack := _ :: rest, locked := none }) _
  jvm_step X.here [X.here.top, hx, hd, hm', hret, hn]
  first | (intro acts; rw [hl _ acts rfl rfl rfl]) | rw [hl _ _ rfl rfl rfl]
  exact Steps.refl _
end New
end Jvm.RoadKit
namespace Jvm.Pilot.@@N@@
open Jvm Jvm.ClassFile Sem Op Lib Jvm.Free Jvm.Stand Jvm.LawKit Jvm.RoadKit Bundle Jvm.Pilot.@@N@@.Jvm.D
section Own
variable {p : Program} {l : Launch} {e : Env} {R : Room} {s : State} {m : MethodId} {args : Array Value} {below : List Frame} {meth : Method} {c : Code} {T : State} {locs : List Loc} {cells slots : Nat}
theorem own_retL (X : Stand p l e R s m args below meth c T locs cells slots) (hx : p.tables.exec = Jvm.exec) {pc : Nat} {Ls : Array Slot} {z : Int64} {rest : List Value} (hret : meth.sig.returnType = some .long) (hd : decode c.code pc = .ok (.lreturn, 1)) {fs : List Frame}
    (hl : ∀ (f : JFrame) (acts : List Action), f.method = m → f.locked = none → f.entered = [] → (doReturn e (T.setTop f) acts (some (.long z))).1 = T.setFrames fs) : Steps p.tables e below (T.setTop (mkF m pc Ls (.long z :: rest))) (T.setFrames fs) := by
  have hm' : T.vm.method? m = some meth := X.method'
  have hn : narrow .long (.long z) = .long z := rfl
  show Steps p.tables e below (T.setTop { method := m, pc := pc, locals := Ls, stack := _ :: rest, locked := none }) _
  jvm_step X.here [X.here.top, hx, hd, hm', hret, hn]
  first | (intro acts; rw [hl _ acts rfl rfl rfl]) | rw [hl _ _ rfl rfl rfl]
  exact Steps.refl _
theorem own_retA (X : Stand p l e R s m args below meth c T locs cells slots) (hx : p.tables.exec = Jvm.exec) {pc : Nat} {Ls : Array Slot} {v : Value} {t : FieldType} {rest : List Value} (hret : meth.sig.returnType = some t) (ht : t.isReference = true) (hv : v.isRef = true) (hd : decode c.code pc = .ok (.areturn, 1)) {fs : List Frame}
    (hl : ∀ (f : JFrame) (acts : List Action), f.method = m → f.locked = none → f.entered = [] → (doReturn e (T.setTop f) acts (some v)).1 = T.setFrames fs) : Steps p.tables e below (T.setTop (mkF m pc Ls (v :: rest))) (T.setFrames fs) := by
  have hm' : T.vm.method? m = some meth := X.method'
  show Steps p.tables e below (T.setTop { method := m, pc := pc, locals := Ls, stack := _ :: rest, locked := none }) _
  jvm_step X.here [X.here.top, hx, hd, hm', hret, hv, ht]
  first | (intro acts; rw [hl _ acts rfl rfl rfl]) | rw [hl _ _ rfl rfl rfl]
  exact Steps.refl _
def OGo (p : Program) (e : Env) (below : List Frame) (P : State → Outcome → Prop) (S : State) : Prop := ∃ s₂ o, Steps p.tables e below S s₂ ∧ s₂.status = .running ∧ Ended s₂ below o ∧ P s₂ o
theorem OGo.to {P : State → Outcome → Prop} {S S' : State} (h : ∀ t, Steps p.tables e below S' t → Steps p.tables e below S t) (g : OGo p e below P S') : OGo p e below P S := by
  obtain ⟨s₂, o, h1, r⟩ := g
  exact ⟨s₂, o, h _ h1, r⟩
theorem OGo.ret {Q : Option Value → Heap → List Loc → Prop} (X : Stand p l e R s m args below meth c T locs cells slots) {g : JFrame} (v : Option Value) (hv : meth.sig.returnType = none → v = none) (hlocks : meth.locks = false)
    (st : ∀ fs : List Frame, (∀ (f : JFrame) (acts : List Action), f.method = m → f.locked = none → f.entered = [] → (doReturn e (T.setTop f) acts v).1 = T.setFrames fs) → Steps p.tables e below (T.setTop g) (T.setFrames fs)) (hq : Q v T.heap locs) {rc rs : Nat} (h1 : cells ≤ rc) (h2 : slots ≤ rs) :
    OGo p e below (fun s₂ o => ∃ v L, o = .returned v ∧ Q v s₂.heap L ∧ FrameEnd s o s₂ L rc rs) (T.setTop g) := by
  obtain ⟨fs, hr, hrun, hended, hW, hsame⟩ := X.leave (v := v) hv hlocks
  exact ⟨_, _, st fs hr, hrun, hended, _, _, rfl, hq, ⟨_, rfl⟩, hW, hsame.mono h1 h2⟩
theorem own_un (X0 : Stand p l e R s m args below meth c T locs cells slots) {Q : Option Value → Heap → List Loc → Prop} {rc rs : Nat} {W : Option Value → State → Prop}
    (h : ∃ (v : Option Value) (vm₁ : Vm) (B : Pt), s.WarmedH vm₁ ∧ Stand p l e R s m args below meth c B.U B.locs B.cells B.slots ∧ (∃ L, Q v B.U.heap L ∧ B.locs = locs ++ L ∧ B.cells = cells + rc ∧ B.slots = slots + rs) ∧ W v B.U) :
    ∃ (v : Option Value) (T' : State) (Lc : List Loc), Stand p l e R s m args below meth c T' (locs ++ Lc) (cells + rc) (slots + rs) ∧ Q v T'.heap Lc ∧ W v T' := by
  obtain ⟨v, vm₁, ⟨T', L', k', n'⟩, -, X, ⟨Lc, hQ, h1, h2, h3⟩, st⟩ := h
  subst h1 h2 h3
  exact ⟨v, T', Lc, X, hQ, st⟩
theorem own_selP {Z : State} {a0 : Array Value} (hZ : Z.Warmed39 s.vm) {y : MethodName} {n : Nat} (wi : (Jvm.Cond.instantiable y.cls n).before a0 Z = true) (wp : (Jvm.Cond.privateMethod y).before a0 Z = true) (wm : (Jvm.Cond.instanceMethod y).before a0 Z = true) (hy : y.cls ≠ "java/lang/invoke/MethodHandle" ∧ y.cls ≠ "java/lang/invoke/VarHandle") : (Jvm.Cond.selects y.cls y y).before args s = true := by
  obtain ⟨c, k, h1, h2, -, h3, -⟩ := Cond.instantiable_spec (mvT (args := args) hZ wi)
  exact selects_self_of_private h1 h2 ((Bool.or_eq_false_iff.mp h3).1) (Cond.privateMethod_at (mvP hZ wp (args := args))) (mvT hZ wm) hy
end Own
theorem own_ieq {a b : Int32} (h : a = b) : a.toInt = b.toInt := congrArg _ h
theorem own_ine {a b : Int32} (h : ¬ a = b) : a.toInt ≠ b.toInt := fun q => h (Int32.toInt_inj.mp q)
theorem own_ilt {a b : Int32} (h : a < b) : a.toInt < b.toInt := Int32.lt_iff_toInt_lt.mp h
theorem own_inlt {a b : Int32} (h : ¬ a < b) : b.toInt ≤ a.toInt := Int.not_lt.mp fun q => h (Int32.lt_iff_toInt_lt.mpr q)
theorem own_eqi {a b : Int32} (h : a.toInt = b.toInt) : a = b := Int32.toInt_inj.mp h
theorem own_lti {a b : Int32} (h : a.toInt < b.toInt) : a < b := Int32.lt_iff_toInt_lt.mpr h
theorem own_nlti {a b : Int32} (h : b.toInt ≤ a.toInt) : ¬ a < b := fun q => absurd (Int32.lt_iff_toInt_lt.mp q) (Int.not_lt.mpr h)
def own_X (c : Int32) : Prop := c.toInt = 9 ∨ c.toInt = 10 ∨ c.toInt = 13 ∨ (32 ≤ c.toInt ∧ c.toInt ≤ 55295) ∨ (57344 ≤ c.toInt ∧ c.toInt ≤ 65533) ∨ (65536 ≤ c.toInt ∧ c.toInt ≤ 1114111)
instance (c : Int32) : Decidable (own_X c) := by unfold own_X; infer_instance
def own_xml (c : Int32) : Int32 := if own_X c then 1 else 0
def own_exc (c : Int32) : Int32 := if own_X c then 0 else 1
theorem own_agree (c : Int32) : (own_exc c = (0 : Int32) → own_xml c = (1 : Int32)) ∧ (¬ own_exc c = (0 : Int32) → own_xml c = (0 : Int32)) := by
  unfold own_exc own_xml
  by_cases h : own_X c
  · rw [if_pos h, if_pos h]; exact ⟨fun _ => rfl, fun q => absurd rfl q⟩
  · rw [if_neg h, if_neg h]; exact ⟨fun q => absurd q (by decide), fun _ => rfl⟩
def own_pts : List Int32 := [0, 8, 9, 10, 11, 12, 13, 14, 31, 32, 55295, 55296, 57343, 57344, 65533, 65534, 65535, 65536, 1114111, 1114112, -2147483648, 2147483647, -1]
theorem own_getD (L : List Int32) (i : Nat) : (L.map Value.int).getD i (.int (0 : Int32)) = .int (L.getD i (0 : Int32)) := by
  rw [List.getD_eq_getElem?_getD, List.getD_eq_getElem?_getD, List.getElem?_map]
  cases L[i]? <;> rfl
theorem own_rem (x y : Int32) (hy : 0 < y.toInt) : 0 ≤ ((x &&& (2147483647 : Int32)) % y).toInt ∧ ((x &&& (2147483647 : Int32)) % y).toInt < y.toInt := by
  have h1 := c_and x (2147483647 : Int32) (by decide)
  have h2 := (c_iremV (x &&& (2147483647 : Int32)) y).1 h1.1 hy
  exact ⟨h2.1, h2.2.1⟩
theorem pd_0 : parseMethodDescriptor "(I)Z" = some ⟨[.int], some .boolean⟩ := by decide +kernel
theorem pn_0 : plainName "com/example/querytrail/querytrail/trec/XmlSyntax" = true := by first | (simp [plainName, overriddenIn]; done) | decide +kernel
theorem pn_1 : plainName "com/example/querytrail/querytrail/trec/XmlSyntaxIsXmlCharacterPinLaw" = true := by first | (simp [plainName, overriddenIn]; done) | decide +kernel
theorem d2_0 : decode prog_90_method_7_code 0 = .ok (.iload_n 0, 1) := by decide +kernel
theorem d2_1 : decode prog_90_method_7_code 1 = .ok (.bipush 9, 2) := by decide +kernel
theorem d2_3 : decode prog_90_method_7_code 3 = .ok (.if_icmp .eq 51, 3) := by decide +kernel
theorem d2_6 : decode prog_90_method_7_code 6 = .ok (.iload_n 0, 1) := by decide +kernel
theorem d2_7 : decode prog_90_method_7_code 7 = .ok (.bipush 10, 2) := by decide +kernel
theorem d2_9 : decode prog_90_method_7_code 9 = .ok (.if_icmp .eq 45, 3) := by decide +kernel
theorem d2_12 : decode prog_90_method_7_code 12 = .ok (.iload_n 0, 1) := by decide +kernel
theorem d2_13 : decode prog_90_method_7_code 13 = .ok (.bipush 13, 2) := by decide +kernel
theorem d2_15 : decode prog_90_method_7_code 15 = .ok (.if_icmp .eq 39, 3) := by decide +kernel
theorem d2_18 : decode prog_90_method_7_code 18 = .ok (.iload_n 0, 1) := by decide +kernel
theorem d2_19 : decode prog_90_method_7_code 19 = .ok (.bipush 32, 2) := by decide +kernel
theorem d2_21 : decode prog_90_method_7_code 21 = .ok (.if_icmp .lt 9, 3) := by decide +kernel
theorem d2_24 : decode prog_90_method_7_code 24 = .ok (.iload_n 0, 1) := by decide +kernel
theorem d2_25 : decode prog_90_method_7_code 25 = .ok (.ldc 112, 2) := by decide +kernel
theorem d2_27 : decode prog_90_method_7_code 27 = .ok (.if_icmp .le 27, 3) := by decide +kernel
theorem d2_30 : decode prog_90_method_7_code 30 = .ok (.iload_n 0, 1) := by decide +kernel
theorem d2_31 : decode prog_90_method_7_code 31 = .ok (.ldc 113, 2) := by decide +kernel
theorem d2_33 : decode prog_90_method_7_code 33 = .ok (.if_icmp .lt 9, 3) := by decide +kernel
theorem d2_36 : decode prog_90_method_7_code 36 = .ok (.iload_n 0, 1) := by decide +kernel
theorem d2_37 : decode prog_90_method_7_code 37 = .ok (.ldc 114, 2) := by decide +kernel
theorem d2_39 : decode prog_90_method_7_code 39 = .ok (.if_icmp .le 15, 3) := by decide +kernel
theorem d2_42 : decode prog_90_method_7_code 42 = .ok (.iload_n 0, 1) := by decide +kernel
theorem d2_43 : decode prog_90_method_7_code 43 = .ok (.ldc 115, 2) := by decide +kernel
theorem d2_45 : decode prog_90_method_7_code 45 = .ok (.if_icmp .lt 13, 3) := by decide +kernel
theorem d2_48 : decode prog_90_method_7_code 48 = .ok (.iload_n 0, 1) := by decide +kernel
theorem d2_49 : decode prog_90_method_7_code 49 = .ok (.ldc 116, 2) := by decide +kernel
theorem d2_51 : decode prog_90_method_7_code 51 = .ok (.if_icmp .gt 7, 3) := by decide +kernel
theorem d2_54 : decode prog_90_method_7_code 54 = .ok (.iconst 1, 1) := by decide +kernel
theorem d2_55 : decode prog_90_method_7_code 55 = .ok (.goto 4, 3) := by decide +kernel
theorem d2_58 : decode prog_90_method_7_code 58 = .ok (.iconst 0, 1) := by decide +kernel
theorem d2_59 : decode prog_90_method_7_code 59 = .ok (.ireturn, 1) := by decide +kernel
theorem ef_2 (m : MethodId) (x0 : Int32) : entryFrame m #[(.int x0)] 1 = mkF m 0 #[.val (.int x0)] [] := by first | (simp [entryFrame, mkF, argsToLocals, Value.category]; done) | rfl
def Q2 (Z : State) (p1 : Int32) (h0 : Heap) (n0 : Nat) (v : Option Value) (h : Heap) (L : List Loc) : Prop := v = some (.int (own_xml p1)) ∧ Fr n0 L ∧ h = h0
set_option maxRecDepth 65536 in
set_option maxHeartbeats 40000000 in
theorem rm2 (l : Launch) (Z : State) (a0 : Array Value) (hw : ∀ d ∈ tables_1, d.before a0 Z = true) (ws : List Jvm.Cond) (p1 : Int32) (h0 : Heap) (n0 : Nat) (Z0 : n0 ≤ h0.size) :
    MetFree l (⟨"com/example/querytrail/querytrail/trec/XmlSyntax", "isXmlCharacter", "(I)Z"⟩ : MethodName) (head1 (Jvm.Cond.code (⟨"com/example/querytrail/querytrail/trec/XmlSyntax", "isXmlCharacter", "(I)Z"⟩ : MethodName) prog_90_method_7_code 1 (some .boolean) :: ws) ({ frames := 0, cells := 0, slots := 0, locals := 0 } : Room)) (fun a U => a = #[(.int p1)] ∧ Z.Warmed39 U.vm ∧ U.heap = h0) (fun _ _ _ _ _ => True) (fun _ U o U' => ∃ v L, o = .returned v ∧ Q2 Z p1 h0 n0 v U'.heap L ∧ FrameEnd U o U' L ({ frames := 0, cells := 0, slots := 0, locals := 0 } : Room).cells ({ frames := 0, cells := 0, slots := 0, locals := 0 } : Room).slots) := by
  refine MetFree.of_bodySF (plainFor_of_name pn_0) hisR ?_
  intro p e s m args below meth c s₁ Bd hml0 hP hK
  obtain ⟨rfl, hZ, hh⟩ := hP
  have hx := Bd.exec
  have hby := Bd.bytes
  have hml : c.maxLocals = 1 := hml0
  have hown : s.vm.findClass "com/example/querytrail/querytrail/trec/XmlSyntax" = some m.cls := findClass_of_methodNamed Bd.named
  have hnm := (name_of_methodNamed Bd.named Bd.method).1
  have X0 : Stand p l e ({ frames := 0, cells := 0, slots := 0, locals := 0 } : Room) s m #[(.int p1)] below meth c s₁ [] 0 0 := Stand.of_body Bd
  have e0 : s₁.heap = h0 := by rw [← hh, Bd.state]; rfl
  have N0 := Fr.nil n0
  show OGo p e below (fun s₂ o => ∃ v L, o = .returned v ∧ Q2 Z p1 h0 n0 v s₂.heap L ∧ FrameEnd s o s₂ L ({ frames := 0, cells := 0, slots := 0, locals := 0 } : Room).cells ({ frames := 0, cells := 0, slots := 0, locals := 0 } : Room).slots) _
  refine OGo.to (fun _ k => castTop (ef_2 m p1) k) ?_
  refine OGo.to (fun _ k => XS.iloadN X0.here hx rfl (hb hby d2_0) rfl k) ?_
  show OGo p e below _ (s₁.setTop (mkF m 1 #[.val (.int p1)] [(.int p1)]))
  refine OGo.to (fun _ k => XS.bipush X0.here hx rfl (hb hby d2_1) k) ?_
  show OGo p e below _ (s₁.setTop (mkF m 3 #[.val (.int p1)] [(.int (9 : Int32)), (.int p1)]))
  by_cases hc3_1 : p1 = (9 : Int32)
  ·  -- pc 3: yes
    refine OGo.to (fun _ k => XS.icmpYes X0.here hx rfl (pc0 := 3) (pc' := 54) rfl (hb hby d2_3) rfl (teq hc3_1).1 (by decide) (by decide) k) ?_
    show OGo p e below _ (s₁.setTop (mkF m 54 #[.val (.int p1)] []))
    refine OGo.to (fun _ k => XS.iconst X0.here hx rfl (hb hby d2_54) k) ?_
    show OGo p e below _ (s₁.setTop (mkF m 55 #[.val (.int p1)] [(.int (1 : Int32))]))
    refine OGo.to (fun _ k => XS.goto X0.here hx rfl (pc0 := 55) (pc' := 59) rfl (hb hby d2_55) (by decide) (by decide) k) ?_
    show OGo p e below _ (s₁.setTop (mkF m 59 #[.val (.int p1)] [(.int (1 : Int32))]))
    refine OGo.ret (Q := Q2 Z p1 h0 n0) X0 (some (.int (1 : Int32))) (fun h => by rw [Bd.returns] at h; cases h) Bd.notSynchronized (fun fs hr => retN X0 hx (t := .boolean) (z := (1 : Int32)) Bd.returns (by simp) (hb hby d2_59) hr) ?_ (by decide) (by decide)
    have i2 : (p1).toInt = 9 := own_ieq hc3_1
    show Q2 Z p1 h0 n0 _ s₁.heap _
    rw [e0]
    exact ⟨congrArg (fun z => some (Value.int z)) (show (1 : Int32) = (own_xml p1) from by unfold own_xml; rw [if_pos (by unfold own_X; omega)]), N0, rfl⟩
  ·  -- pc 3: no
    refine OGo.to (fun _ k => XS.icmpNo X0.here hx rfl (hb hby d2_3) rfl (feq hc3_1).1 k) ?_
    show OGo p e below _ (s₁.setTop (mkF m 6 #[.val (.int p1)] []))
    refine OGo.to (fun _ k => XS.iloadN X0.here hx rfl (hb hby d2_6) rfl k) ?_
    show OGo p e below _ (s₁.setTop (mkF m 7 #[.val (.int p1)] [(.int p1)]))
    refine OGo.to (fun _ k => XS.bipush X0.here hx rfl (hb hby d2_7) k) ?_
    show OGo p e below _ (s₁.setTop (mkF m 9 #[.val (.int p1)] [(.int (10 : Int32)), (.int p1)]))
    by_cases hc9_3 : p1 = (10 : Int32)
    ·  -- pc 9: yes
      refine OGo.to (fun _ k => XS.icmpYes X0.here hx rfl (pc0 := 9) (pc' := 54) rfl (hb hby d2_9) rfl (teq hc9_3).1 (by decide) (by decide) k) ?_
      show OGo p e below _ (s₁.setTop (mkF m 54 #[.val (.int p1)] []))
      refine OGo.to (fun _ k => XS.iconst X0.here hx rfl (hb hby d2_54) k) ?_
      show OGo p e below _ (s₁.setTop (mkF m 55 #[.val (.int p1)] [(.int (1 : Int32))]))
      refine OGo.to (fun _ k => XS.goto X0.here hx rfl (pc0 := 55) (pc' := 59) rfl (hb hby d2_55) (by decide) (by decide) k) ?_
      show OGo p e below _ (s₁.setTop (mkF m 59 #[.val (.int p1)] [(.int (1 : Int32))]))
      refine OGo.ret (Q := Q2 Z p1 h0 n0) X0 (some (.int (1 : Int32))) (fun h => by rw [Bd.returns] at h; cases h) Bd.notSynchronized (fun fs hr => retN X0 hx (t := .boolean) (z := (1 : Int32)) Bd.returns (by simp) (hb hby d2_59) hr) ?_ (by decide) (by decide)
      have i4 : (p1).toInt ≠ 9 := own_ine hc3_1
      have i5 : (p1).toInt = 10 := own_ieq hc9_3
      show Q2 Z p1 h0 n0 _ s₁.heap _
      rw [e0]
      exact ⟨congrArg (fun z => some (Value.int z)) (show (1 : Int32) = (own_xml p1) from by unfold own_xml; rw [if_pos (by unfold own_X; omega)]), N0, rfl⟩
    ·  -- pc 9: no
      refine OGo.to (fun _ k => XS.icmpNo X0.here hx rfl (hb hby d2_9) rfl (feq hc9_3).1 k) ?_
      show OGo p e below _ (s₁.setTop (mkF m 12 #[.val (.int p1)] []))
      refine OGo.to (fun _ k => XS.iloadN X0.here hx rfl (hb hby d2_12) rfl k) ?_
      show OGo p e below _ (s₁.setTop (mkF m 13 #[.val (.int p1)] [(.int p1)]))
      refine OGo.to (fun _ k => XS.bipush X0.here hx rfl (hb hby d2_13) k) ?_
      show OGo p e below _ (s₁.setTop (mkF m 15 #[.val (.int p1)] [(.int (13 : Int32)), (.int p1)]))
      by_cases hc15_6 : p1 = (13 : Int32)
      ·  -- pc 15: yes
        refine OGo.to (fun _ k => XS.icmpYes X0.here hx rfl (pc0 := 15) (pc' := 54) rfl (hb hby d2_15) rfl (teq hc15_6).1 (by decide) (by decide) k) ?_
        show OGo p e below _ (s₁.setTop (mkF m 54 #[.val (.int p1)] []))
        refine OGo.to (fun _ k => XS.iconst X0.here hx rfl (hb hby d2_54) k) ?_
        show OGo p e below _ (s₁.setTop (mkF m 55 #[.val (.int p1)] [(.int (1 : Int32))]))
        refine OGo.to (fun _ k => XS.goto X0.here hx rfl (pc0 := 55) (pc' := 59) rfl (hb hby d2_55) (by decide) (by decide) k) ?_
        show OGo p e below _ (s₁.setTop (mkF m 59 #[.val (.int p1)] [(.int (1 : Int32))]))
        refine OGo.ret (Q := Q2 Z p1 h0 n0) X0 (some (.int (1 : Int32))) (fun h => by rw [Bd.returns] at h; cases h) Bd.notSynchronized (fun fs hr => retN X0 hx (t := .boolean) (z := (1 : Int32)) Bd.returns (by simp) (hb hby d2_59) hr) ?_ (by decide) (by decide)
        have i7 : (p1).toInt ≠ 9 := own_ine hc3_1
        have i8 : (p1).toInt ≠ 10 := own_ine hc9_3
        have i9 : (p1).toInt = 13 := own_ieq hc15_6
        show Q2 Z p1 h0 n0 _ s₁.heap _
        rw [e0]
        exact ⟨congrArg (fun z => some (Value.int z)) (show (1 : Int32) = (own_xml p1) from by unfold own_xml; rw [if_pos (by unfold own_X; omega)]), N0, rfl⟩
      ·  -- pc 15: no
        refine OGo.to (fun _ k => XS.icmpNo X0.here hx rfl (hb hby d2_15) rfl (feq hc15_6).1 k) ?_
        show OGo p e below _ (s₁.setTop (mkF m 18 #[.val (.int p1)] []))
        refine OGo.to (fun _ k => XS.iloadN X0.here hx rfl (hb hby d2_18) rfl k) ?_
        show OGo p e below _ (s₁.setTop (mkF m 19 #[.val (.int p1)] [(.int p1)]))
        refine OGo.to (fun _ k => XS.bipush X0.here hx rfl (hb hby d2_19) k) ?_
        show OGo p e below _ (s₁.setTop (mkF m 21 #[.val (.int p1)] [(.int (32 : Int32)), (.int p1)]))
        by_cases hc21_10 : p1 < (32 : Int32)
        ·  -- pc 21: yes
          refine OGo.to (fun _ k => XS.icmpYes X0.here hx rfl (pc0 := 21) (pc' := 30) rfl (hb hby d2_21) rfl (tlt hc21_10).1 (by decide) (by decide) k) ?_
          show OGo p e below _ (s₁.setTop (mkF m 30 #[.val (.int p1)] []))
          refine OGo.to (fun _ k => XS.iloadN X0.here hx rfl (hb hby d2_30) rfl k) ?_
          show OGo p e below _ (s₁.setTop (mkF m 31 #[.val (.int p1)] [(.int p1)]))
          refine OGo.to (fun _ k => X0.ldcInt hx hown (mvT hZ (hw _ (List.mem_of_getElem? (i := 21) rfl))) (g := (mkF m 31 #[.val (.int p1)] [(.int p1)])) rfl (hb hby d2_31) _ k) ?_
          show OGo p e below _ (s₁.setTop (mkF m 33 #[.val (.int p1)] [(.int (57344 : Int32)), (.int p1)]))
          by_cases hc33_11 : p1 < (57344 : Int32)
          ·  -- pc 33: yes
            refine OGo.to (fun _ k => XS.icmpYes X0.here hx rfl (pc0 := 33) (pc' := 42) rfl (hb hby d2_33) rfl (tlt hc33_11).1 (by decide) (by decide) k) ?_
            show OGo p e below _ (s₁.setTop (mkF m 42 #[.val (.int p1)] []))
            refine OGo.to (fun _ k => XS.iloadN X0.here hx rfl (hb hby d2_42) rfl k) ?_
            show OGo p e below _ (s₁.setTop (mkF m 43 #[.val (.int p1)] [(.int p1)]))
            refine OGo.to (fun _ k => X0.ldcInt hx hown (mvT hZ (hw _ (List.mem_of_getElem? (i := 22) rfl))) (g := (mkF m 43 #[.val (.int p1)] [(.int p1)])) rfl (hb hby d2_43) _ k) ?_
            show OGo p e below _ (s₁.setTop (mkF m 45 #[.val (.int p1)] [(.int (65536 : Int32)), (.int p1)]))
            by_cases hc45_12 : p1 < (65536 : Int32)
            ·  -- pc 45: yes
              refine OGo.to (fun _ k => XS.icmpYes X0.here hx rfl (pc0 := 45) (pc' := 58) rfl (hb hby d2_45) rfl (tlt hc45_12).1 (by decide) (by decide) k) ?_
              show OGo p e below _ (s₁.setTop (mkF m 58 #[.val (.int p1)] []))
              refine OGo.to (fun _ k => XS.iconst X0.here hx rfl (hb hby d2_58) k) ?_
              show OGo p e below _ (s₁.setTop (mkF m 59 #[.val (.int p1)] [(.int (0 : Int32))]))
              refine OGo.ret (Q := Q2 Z p1 h0 n0) X0 (some (.int (0 : Int32))) (fun h => by rw [Bd.returns] at h; cases h) Bd.notSynchronized (fun fs hr => retN X0 hx (t := .boolean) (z := (0 : Int32)) Bd.returns (by simp) (hb hby d2_59) hr) ?_ (by decide) (by decide)
              have i13 : (p1).toInt ≠ 9 := own_ine hc3_1
              have i14 : (p1).toInt ≠ 10 := own_ine hc9_3
              have i15 : (p1).toInt ≠ 13 := own_ine hc15_6
              have i16 : (p1).toInt < 32 := own_ilt hc21_10
              have i17 : (p1).toInt < 57344 := own_ilt hc33_11
              have i18 : (p1).toInt < 65536 := own_ilt hc45_12
              show Q2 Z p1 h0 n0 _ s₁.heap _
              rw [e0]
              exact ⟨congrArg (fun z => some (Value.int z)) (show (0 : Int32) = (own_xml p1) from by unfold own_xml; rw [if_neg (by unfold own_X; omega)]), N0, rfl⟩
            ·  -- pc 45: no
              refine OGo.to (fun _ k => XS.icmpNo X0.here hx rfl (hb hby d2_45) rfl (flt hc45_12).1 k) ?_
              show OGo p e below _ (s₁.setTop (mkF m 48 #[.val (.int p1)] []))
              refine OGo.to (fun _ k => XS.iloadN X0.here hx rfl (hb hby d2_48) rfl k) ?_
              show OGo p e below _ (s₁.setTop (mkF m 49 #[.val (.int p1)] [(.int p1)]))
              refine OGo.to (fun _ k => X0.ldcInt hx hown (mvT hZ (hw _ (List.mem_of_getElem? (i := 28) rfl))) (g := (mkF m 49 #[.val (.int p1)] [(.int p1)])) rfl (hb hby d2_49) _ k) ?_
              show OGo p e below _ (s₁.setTop (mkF m 51 #[.val (.int p1)] [(.int (1114111 : Int32)), (.int p1)]))
              by_cases hc51_19 : (1114111 : Int32) < p1
              ·  -- pc 51: yes
                refine OGo.to (fun _ k => XS.icmpYes X0.here hx rfl (pc0 := 51) (pc' := 58) rfl (hb hby d2_51) rfl (tlt hc51_19).2.2.1 (by decide) (by decide) k) ?_
                show OGo p e below _ (s₁.setTop (mkF m 58 #[.val (.int p1)] []))
                refine OGo.to (fun _ k => XS.iconst X0.here hx rfl (hb hby d2_58) k) ?_
                show OGo p e below _ (s₁.setTop (mkF m 59 #[.val (.int p1)] [(.int (0 : Int32))]))
                refine OGo.ret (Q := Q2 Z p1 h0 n0) X0 (some (.int (0 : Int32))) (fun h => by rw [Bd.returns] at h; cases h) Bd.notSynchronized (fun fs hr => retN X0 hx (t := .boolean) (z := (0 : Int32)) Bd.returns (by simp) (hb hby d2_59) hr) ?_ (by decide) (by decide)
                have i20 : (p1).toInt ≠ 9 := own_ine hc3_1
                have i21 : (p1).toInt ≠ 10 := own_ine hc9_3
                have i22 : (p1).toInt ≠ 13 := own_ine hc15_6
                have i23 : (p1).toInt < 32 := own_ilt hc21_10
                have i24 : (p1).toInt < 57344 := own_ilt hc33_11
                have i25 : 65536 ≤ (p1).toInt := own_inlt hc45_12
                have i26 : 1114111 < (p1).toInt := own_ilt hc51_19
                show Q2 Z p1 h0 n0 _ s₁.heap _
                rw [e0]
                exact ⟨congrArg (fun z => some (Value.int z)) (show (0 : Int32) = (own_xml p1) from by unfold own_xml; rw [if_neg (by unfold own_X; omega)]), N0, rfl⟩
              ·  -- pc 51: no
                refine OGo.to (fun _ k => XS.icmpNo X0.here hx rfl (hb hby d2_51) rfl (flt hc51_19).2.2.1 k) ?_
                show OGo p e below _ (s₁.setTop (mkF m 54 #[.val (.int p1)] []))
                refine OGo.to (fun _ k => XS.iconst X0.here hx rfl (hb hby d2_54) k) ?_
                show OGo p e below _ (s₁.setTop (mkF m 55 #[.val (.int p1)] [(.int (1 : Int32))]))
                refine OGo.to (fun _ k => XS.goto X0.here hx rfl (pc0 := 55) (pc' := 59) rfl (hb hby d2_55) (by decide) (by decide) k) ?_
                show OGo p e below _ (s₁.setTop (mkF m 59 #[.val (.int p1)] [(.int (1 : Int32))]))
                refine OGo.ret (Q := Q2 Z p1 h0 n0) X0 (some (.int (1 : Int32))) (fun h => by rw [Bd.returns] at h; cases h) Bd.notSynchronized (fun fs hr => retN X0 hx (t := .boolean) (z := (1 : Int32)) Bd.returns (by simp) (hb hby d2_59) hr) ?_ (by decide) (by decide)
                have i27 : (p1).toInt ≠ 9 := own_ine hc3_1
                have i28 : (p1).toInt ≠ 10 := own_ine hc9_3
                have i29 : (p1).toInt ≠ 13 := own_ine hc15_6
                have i30 : (p1).toInt < 32 := own_ilt hc21_10
                have i31 : (p1).toInt < 57344 := own_ilt hc33_11
                have i32 : 65536 ≤ (p1).toInt := own_inlt hc45_12
                have i33 : (p1).toInt ≤ 1114111 := own_inlt hc51_19
                show Q2 Z p1 h0 n0 _ s₁.heap _
                rw [e0]
                exact ⟨congrArg (fun z => some (Value.int z)) (show (1 : Int32) = (own_xml p1) from by unfold own_xml; rw [if_pos (by unfold own_X; omega)]), N0, rfl⟩
          ·  -- pc 33: no
            refine OGo.to (fun _ k => XS.icmpNo X0.here hx rfl (hb hby d2_33) rfl (flt hc33_11).1 k) ?_
            show OGo p e below _ (s₁.setTop (mkF m 36 #[.val (.int p1)] []))
            refine OGo.to (fun _ k => XS.iloadN X0.here hx rfl (hb hby d2_36) rfl k) ?_
            show OGo p e below _ (s₁.setTop (mkF m 37 #[.val (.int p1)] [(.int p1)]))
            refine OGo.to (fun _ k => X0.ldcInt hx hown (mvT hZ (hw _ (List.mem_of_getElem? (i := 27) rfl))) (g := (mkF m 37 #[.val (.int p1)] [(.int p1)])) rfl (hb hby d2_37) _ k) ?_
            show OGo p e below _ (s₁.setTop (mkF m 39 #[.val (.int p1)] [(.int (65533 : Int32)), (.int p1)]))
            by_cases hc39_34 : (65533 : Int32) < p1
            ·  -- pc 39: yes
              refine OGo.to (fun _ k => XS.icmpNo X0.here hx rfl (hb hby d2_39) rfl (tlt hc39_34).2.2.2 k) ?_
              show OGo p e below _ (s₁.setTop (mkF m 42 #[.val (.int p1)] []))
              refine OGo.to (fun _ k => XS.iloadN X0.here hx rfl (hb hby d2_42) rfl k) ?_
              show OGo p e below _ (s₁.setTop (mkF m 43 #[.val (.int p1)] [(.int p1)]))
              refine OGo.to (fun _ k => X0.ldcInt hx hown (mvT hZ (hw _ (List.mem_of_getElem? (i := 22) rfl))) (g := (mkF m 43 #[.val (.int p1)] [(.int p1)])) rfl (hb hby d2_43) _ k) ?_
              show OGo p e below _ (s₁.setTop (mkF m 45 #[.val (.int p1)] [(.int (65536 : Int32)), (.int p1)]))
              by_cases hc45_35 : p1 < (65536 : Int32)
              ·  -- pc 45: yes
                refine OGo.to (fun _ k => XS.icmpYes X0.here hx rfl (pc0 := 45) (pc' := 58) rfl (hb hby d2_45) rfl (tlt hc45_35).1 (by decide) (by decide) k) ?_
                show OGo p e below _ (s₁.setTop (mkF m 58 #[.val (.int p1)] []))
                refine OGo.to (fun _ k => XS.iconst X0.here hx rfl (hb hby d2_58) k) ?_
                show OGo p e below _ (s₁.setTop (mkF m 59 #[.val (.int p1)] [(.int (0 : Int32))]))
                refine OGo.ret (Q := Q2 Z p1 h0 n0) X0 (some (.int (0 : Int32))) (fun h => by rw [Bd.returns] at h; cases h) Bd.notSynchronized (fun fs hr => retN X0 hx (t := .boolean) (z := (0 : Int32)) Bd.returns (by simp) (hb hby d2_59) hr) ?_ (by decide) (by decide)
                have i36 : (p1).toInt ≠ 9 := own_ine hc3_1
                have i37 : (p1).toInt ≠ 10 := own_ine hc9_3
                have i38 : (p1).toInt ≠ 13 := own_ine hc15_6
                have i39 : (p1).toInt < 32 := own_ilt hc21_10
                have i40 : 57344 ≤ (p1).toInt := own_inlt hc33_11
                have i41 : 65533 < (p1).toInt := own_ilt hc39_34
                have i42 : (p1).toInt < 65536 := own_ilt hc45_35
                show Q2 Z p1 h0 n0 _ s₁.heap _
                rw [e0]
                exact ⟨congrArg (fun z => some (Value.int z)) (show (0 : Int32) = (own_xml p1) from by unfold own_xml; rw [if_neg (by unfold own_X; omega)]), N0, rfl⟩
              ·  -- pc 45: no
                refine OGo.to (fun _ k => XS.icmpNo X0.here hx rfl (hb hby d2_45) rfl (flt hc45_35).1 k) ?_
                show OGo p e below _ (s₁.setTop (mkF m 48 #[.val (.int p1)] []))
                refine OGo.to (fun _ k => XS.iloadN X0.here hx rfl (hb hby d2_48) rfl k) ?_
                show OGo p e below _ (s₁.setTop (mkF m 49 #[.val (.int p1)] [(.int p1)]))
                refine OGo.to (fun _ k => X0.ldcInt hx hown (mvT hZ (hw _ (List.mem_of_getElem? (i := 28) rfl))) (g := (mkF m 49 #[.val (.int p1)] [(.int p1)])) rfl (hb hby d2_49) _ k) ?_
                show OGo p e below _ (s₁.setTop (mkF m 51 #[.val (.int p1)] [(.int (1114111 : Int32)), (.int p1)]))
                by_cases hc51_43 : (1114111 : Int32) < p1
                ·  -- pc 51: yes
                  refine OGo.to (fun _ k => XS.icmpYes X0.here hx rfl (pc0 := 51) (pc' := 58) rfl (hb hby d2_51) rfl (tlt hc51_43).2.2.1 (by decide) (by decide) k) ?_
                  show OGo p e below _ (s₁.setTop (mkF m 58 #[.val (.int p1)] []))
                  refine OGo.to (fun _ k => XS.iconst X0.here hx rfl (hb hby d2_58) k) ?_
                  show OGo p e below _ (s₁.setTop (mkF m 59 #[.val (.int p1)] [(.int (0 : Int32))]))
                  refine OGo.ret (Q := Q2 Z p1 h0 n0) X0 (some (.int (0 : Int32))) (fun h => by rw [Bd.returns] at h; cases h) Bd.notSynchronized (fun fs hr => retN X0 hx (t := .boolean) (z := (0 : Int32)) Bd.returns (by simp) (hb hby d2_59) hr) ?_ (by decide) (by decide)
                  have i44 : (p1).toInt ≠ 9 := own_ine hc3_1
                  have i45 : (p1).toInt ≠ 10 := own_ine hc9_3
                  have i46 : (p1).toInt ≠ 13 := own_ine hc15_6
                  have i47 : (p1).toInt < 32 := own_ilt hc21_10
                  have i48 : 57344 ≤ (p1).toInt := own_inlt hc33_11
                  have i49 : 65533 < (p1).toInt := own_ilt hc39_34
                  have i50 : 65536 ≤ (p1).toInt := own_inlt hc45_35
                  have i51 : 1114111 < (p1).toInt := own_ilt hc51_43
                  show Q2 Z p1 h0 n0 _ s₁.heap _
                  rw [e0]
                  exact ⟨congrArg (fun z => some (Value.int z)) (show (0 : Int32) = (own_xml p1) from by unfold own_xml; rw [if_neg (by unfold own_X; omega)]), N0, rfl⟩
                ·  -- pc 51: no
                  refine OGo.to (fun _ k => XS.icmpNo X0.here hx rfl (hb hby d2_51) rfl (flt hc51_43).2.2.1 k) ?_
                  show OGo p e below _ (s₁.setTop (mkF m 54 #[.val (.int p1)] []))
                  refine OGo.to (fun _ k => XS.iconst X0.here hx rfl (hb hby d2_54) k) ?_
                  show OGo p e below _ (s₁.setTop (mkF m 55 #[.val (.int p1)] [(.int (1 : Int32))]))
                  refine OGo.to (fun _ k => XS.goto X0.here hx rfl (pc0 := 55) (pc' := 59) rfl (hb hby d2_55) (by decide) (by decide) k) ?_
                  show OGo p e below _ (s₁.setTop (mkF m 59 #[.val (.int p1)] [(.int (1 : Int32))]))
                  refine OGo.ret (Q := Q2 Z p1 h0 n0) X0 (some (.int (1 : Int32))) (fun h => by rw [Bd.returns] at h; cases h) Bd.notSynchronized (fun fs hr => retN X0 hx (t := .boolean) (z := (1 : Int32)) Bd.returns (by simp) (hb hby d2_59) hr) ?_ (by decide) (by decide)
                  have i52 : (p1).toInt ≠ 9 := own_ine hc3_1
                  have i53 : (p1).toInt ≠ 10 := own_ine hc9_3
                  have i54 : (p1).toInt ≠ 13 := own_ine hc15_6
                  have i55 : (p1).toInt < 32 := own_ilt hc21_10
                  have i56 : 57344 ≤ (p1).toInt := own_inlt hc33_11
                  have i57 : 65533 < (p1).toInt := own_ilt hc39_34
                  have i58 : 65536 ≤ (p1).toInt := own_inlt hc45_35
                  have i59 : (p1).toInt ≤ 1114111 := own_inlt hc51_43
                  show Q2 Z p1 h0 n0 _ s₁.heap _
                  rw [e0]
                  exact ⟨congrArg (fun z => some (Value.int z)) (show (1 : Int32) = (own_xml p1) from by unfold own_xml; rw [if_pos (by unfold own_X; omega)]), N0, rfl⟩
            ·  -- pc 39: no
              refine OGo.to (fun _ k => XS.icmpYes X0.here hx rfl (pc0 := 39) (pc' := 54) rfl (hb hby d2_39) rfl (flt hc39_34).2.2.2 (by decide) (by decide) k) ?_
              show OGo p e below _ (s₁.setTop (mkF m 54 #[.val (.int p1)] []))
              refine OGo.to (fun _ k => XS.iconst X0.here hx rfl (hb hby d2_54) k) ?_
              show OGo p e below _ (s₁.setTop (mkF m 55 #[.val (.int p1)] [(.int (1 : Int32))]))
              refine OGo.to (fun _ k => XS.goto X0.here hx rfl (pc0 := 55) (pc' := 59) rfl (hb hby d2_55) (by decide) (by decide) k) ?_
              show OGo p e below _ (s₁.setTop (mkF m 59 #[.val (.int p1)] [(.int (1 : Int32))]))
              refine OGo.ret (Q := Q2 Z p1 h0 n0) X0 (some (.int (1 : Int32))) (fun h => by rw [Bd.returns] at h; cases h) Bd.notSynchronized (fun fs hr => retN X0 hx (t := .boolean) (z := (1 : Int32)) Bd.returns (by simp) (hb hby d2_59) hr) ?_ (by decide) (by decide)
              have i60 : (p1).toInt ≠ 9 := own_ine hc3_1
              have i61 : (p1).toInt ≠ 10 := own_ine hc9_3
              have i62 : (p1).toInt ≠ 13 := own_ine hc15_6
              have i63 : (p1).toInt < 32 := own_ilt hc21_10
              have i64 : 57344 ≤ (p1).toInt := own_inlt hc33_11
              have i65 : (p1).toInt ≤ 65533 := own_inlt hc39_34
              show Q2 Z p1 h0 n0 _ s₁.heap _
              rw [e0]
              exact ⟨congrArg (fun z => some (Value.int z)) (show (1 : Int32) = (own_xml p1) from by unfold own_xml; rw [if_pos (by unfold own_X; omega)]), N0, rfl⟩
        ·  -- pc 21: no
          refine OGo.to (fun _ k => XS.icmpNo X0.here hx rfl (hb hby d2_21) rfl (flt hc21_10).1 k) ?_
          show OGo p e below _ (s₁.setTop (mkF m 24 #[.val (.int p1)] []))
          refine OGo.to (fun _ k => XS.iloadN X0.here hx rfl (hb hby d2_24) rfl k) ?_
          show OGo p e below _ (s₁.setTop (mkF m 25 #[.val (.int p1)] [(.int p1)]))
          refine OGo.to (fun _ k => X0.ldcInt hx hown (mvT hZ (hw _ (List.mem_of_getElem? (i := 26) rfl))) (g := (mkF m 25 #[.val (.int p1)] [(.int p1)])) rfl (hb hby d2_25) _ k) ?_
          show OGo p e below _ (s₁.setTop (mkF m 27 #[.val (.int p1)] [(.int (55295 : Int32)), (.int p1)]))
          by_cases hc27_66 : (55295 : Int32) < p1
          ·  -- pc 27: yes
            refine OGo.to (fun _ k => XS.icmpNo X0.here hx rfl (hb hby d2_27) rfl (tlt hc27_66).2.2.2 k) ?_
            show OGo p e below _ (s₁.setTop (mkF m 30 #[.val (.int p1)] []))
            refine OGo.to (fun _ k => XS.iloadN X0.here hx rfl (hb hby d2_30) rfl k) ?_
            show OGo p e below _ (s₁.setTop (mkF m 31 #[.val (.int p1)] [(.int p1)]))
            refine OGo.to (fun _ k => X0.ldcInt hx hown (mvT hZ (hw _ (List.mem_of_getElem? (i := 21) rfl))) (g := (mkF m 31 #[.val (.int p1)] [(.int p1)])) rfl (hb hby d2_31) _ k) ?_
            show OGo p e below _ (s₁.setTop (mkF m 33 #[.val (.int p1)] [(.int (57344 : Int32)), (.int p1)]))
            by_cases hc33_67 : p1 < (57344 : Int32)
            ·  -- pc 33: yes
              refine OGo.to (fun _ k => XS.icmpYes X0.here hx rfl (pc0 := 33) (pc' := 42) rfl (hb hby d2_33) rfl (tlt hc33_67).1 (by decide) (by decide) k) ?_
              show OGo p e below _ (s₁.setTop (mkF m 42 #[.val (.int p1)] []))
              refine OGo.to (fun _ k => XS.iloadN X0.here hx rfl (hb hby d2_42) rfl k) ?_
              show OGo p e below _ (s₁.setTop (mkF m 43 #[.val (.int p1)] [(.int p1)]))
              refine OGo.to (fun _ k => X0.ldcInt hx hown (mvT hZ (hw _ (List.mem_of_getElem? (i := 22) rfl))) (g := (mkF m 43 #[.val (.int p1)] [(.int p1)])) rfl (hb hby d2_43) _ k) ?_
              show OGo p e below _ (s₁.setTop (mkF m 45 #[.val (.int p1)] [(.int (65536 : Int32)), (.int p1)]))
              by_cases hc45_68 : p1 < (65536 : Int32)
              ·  -- pc 45: yes
                refine OGo.to (fun _ k => XS.icmpYes X0.here hx rfl (pc0 := 45) (pc' := 58) rfl (hb hby d2_45) rfl (tlt hc45_68).1 (by decide) (by decide) k) ?_
                show OGo p e below _ (s₁.setTop (mkF m 58 #[.val (.int p1)] []))
                refine OGo.to (fun _ k => XS.iconst X0.here hx rfl (hb hby d2_58) k) ?_
                show OGo p e below _ (s₁.setTop (mkF m 59 #[.val (.int p1)] [(.int (0 : Int32))]))
                refine OGo.ret (Q := Q2 Z p1 h0 n0) X0 (some (.int (0 : Int32))) (fun h => by rw [Bd.returns] at h; cases h) Bd.notSynchronized (fun fs hr => retN X0 hx (t := .boolean) (z := (0 : Int32)) Bd.returns (by simp) (hb hby d2_59) hr) ?_ (by decide) (by decide)
                have i69 : (p1).toInt ≠ 9 := own_ine hc3_1
                have i70 : (p1).toInt ≠ 10 := own_ine hc9_3
                have i71 : (p1).toInt ≠ 13 := own_ine hc15_6
                have i72 : 32 ≤ (p1).toInt := own_inlt hc21_10
                have i73 : 55295 < (p1).toInt := own_ilt hc27_66
                have i74 : (p1).toInt < 57344 := own_ilt hc33_67
                have i75 : (p1).toInt < 65536 := own_ilt hc45_68
                show Q2 Z p1 h0 n0 _ s₁.heap _
                rw [e0]
                exact ⟨congrArg (fun z => some (Value.int z)) (show (0 : Int32) = (own_xml p1) from by unfold own_xml; rw [if_neg (by unfold own_X; omega)]), N0, rfl⟩
              ·  -- pc 45: no
                refine OGo.to (fun _ k => XS.icmpNo X0.here hx rfl (hb hby d2_45) rfl (flt hc45_68).1 k) ?_
                show OGo p e below _ (s₁.setTop (mkF m 48 #[.val (.int p1)] []))
                refine OGo.to (fun _ k => XS.iloadN X0.here hx rfl (hb hby d2_48) rfl k) ?_
                show OGo p e below _ (s₁.setTop (mkF m 49 #[.val (.int p1)] [(.int p1)]))
                refine OGo.to (fun _ k => X0.ldcInt hx hown (mvT hZ (hw _ (List.mem_of_getElem? (i := 28) rfl))) (g := (mkF m 49 #[.val (.int p1)] [(.int p1)])) rfl (hb hby d2_49) _ k) ?_
                show OGo p e below _ (s₁.setTop (mkF m 51 #[.val (.int p1)] [(.int (1114111 : Int32)), (.int p1)]))
                by_cases hc51_76 : (1114111 : Int32) < p1
                ·  -- pc 51: yes
                  refine OGo.to (fun _ k => XS.icmpYes X0.here hx rfl (pc0 := 51) (pc' := 58) rfl (hb hby d2_51) rfl (tlt hc51_76).2.2.1 (by decide) (by decide) k) ?_
                  show OGo p e below _ (s₁.setTop (mkF m 58 #[.val (.int p1)] []))
                  refine OGo.to (fun _ k => XS.iconst X0.here hx rfl (hb hby d2_58) k) ?_
                  show OGo p e below _ (s₁.setTop (mkF m 59 #[.val (.int p1)] [(.int (0 : Int32))]))
                  refine OGo.ret (Q := Q2 Z p1 h0 n0) X0 (some (.int (0 : Int32))) (fun h => by rw [Bd.returns] at h; cases h) Bd.notSynchronized (fun fs hr => retN X0 hx (t := .boolean) (z := (0 : Int32)) Bd.returns (by simp) (hb hby d2_59) hr) ?_ (by decide) (by decide)
                  have i77 : (p1).toInt ≠ 9 := own_ine hc3_1
                  have i78 : (p1).toInt ≠ 10 := own_ine hc9_3
                  have i79 : (p1).toInt ≠ 13 := own_ine hc15_6
                  have i80 : 32 ≤ (p1).toInt := own_inlt hc21_10
                  have i81 : 55295 < (p1).toInt := own_ilt hc27_66
                  have i82 : (p1).toInt < 57344 := own_ilt hc33_67
                  have i83 : 65536 ≤ (p1).toInt := own_inlt hc45_68
                  have i84 : 1114111 < (p1).toInt := own_ilt hc51_76
                  show Q2 Z p1 h0 n0 _ s₁.heap _
                  rw [e0]
                  exact ⟨congrArg (fun z => some (Value.int z)) (show (0 : Int32) = (own_xml p1) from by unfold own_xml; rw [if_neg (by unfold own_X; omega)]), N0, rfl⟩
                ·  -- pc 51: no
                  refine OGo.to (fun _ k => XS.icmpNo X0.here hx rfl (hb hby d2_51) rfl (flt hc51_76).2.2.1 k) ?_
                  show OGo p e below _ (s₁.setTop (mkF m 54 #[.val (.int p1)] []))
                  refine OGo.to (fun _ k => XS.iconst X0.here hx rfl (hb hby d2_54) k) ?_
                  show OGo p e below _ (s₁.setTop (mkF m 55 #[.val (.int p1)] [(.int (1 : Int32))]))
                  refine OGo.to (fun _ k => XS.goto X0.here hx rfl (pc0 := 55) (pc' := 59) rfl (hb hby d2_55) (by decide) (by decide) k) ?_
                  show OGo p e below _ (s₁.setTop (mkF m 59 #[.val (.int p1)] [(.int (1 : Int32))]))
                  refine OGo.ret (Q := Q2 Z p1 h0 n0) X0 (some (.int (1 : Int32))) (fun h => by rw [Bd.returns] at h; cases h) Bd.notSynchronized (fun fs hr => retN X0 hx (t := .boolean) (z := (1 : Int32)) Bd.returns (by simp) (hb hby d2_59) hr) ?_ (by decide) (by decide)
                  have i85 : (p1).toInt ≠ 9 := own_ine hc3_1
                  have i86 : (p1).toInt ≠ 10 := own_ine hc9_3
                  have i87 : (p1).toInt ≠ 13 := own_ine hc15_6
                  have i88 : 32 ≤ (p1).toInt := own_inlt hc21_10
                  have i89 : 55295 < (p1).toInt := own_ilt hc27_66
                  have i90 : (p1).toInt < 57344 := own_ilt hc33_67
                  have i91 : 65536 ≤ (p1).toInt := own_inlt hc45_68
                  have i92 : (p1).toInt ≤ 1114111 := own_inlt hc51_76
                  show Q2 Z p1 h0 n0 _ s₁.heap _
                  rw [e0]
                  exact ⟨congrArg (fun z => some (Value.int z)) (show (1 : Int32) = (own_xml p1) from by unfold own_xml; rw [if_pos (by unfold own_X; omega)]), N0, rfl⟩
            ·  -- pc 33: no
              refine OGo.to (fun _ k => XS.icmpNo X0.here hx rfl (hb hby d2_33) rfl (flt hc33_67).1 k) ?_
              show OGo p e below _ (s₁.setTop (mkF m 36 #[.val (.int p1)] []))
              refine OGo.to (fun _ k => XS.iloadN X0.here hx rfl (hb hby d2_36) rfl k) ?_
              show OGo p e below _ (s₁.setTop (mkF m 37 #[.val (.int p1)] [(.int p1)]))
              refine OGo.to (fun _ k => X0.ldcInt hx hown (mvT hZ (hw _ (List.mem_of_getElem? (i := 27) rfl))) (g := (mkF m 37 #[.val (.int p1)] [(.int p1)])) rfl (hb hby d2_37) _ k) ?_
              show OGo p e below _ (s₁.setTop (mkF m 39 #[.val (.int p1)] [(.int (65533 : Int32)), (.int p1)]))
              by_cases hc39_93 : (65533 : Int32) < p1
              ·  -- pc 39: yes
                refine OGo.to (fun _ k => XS.icmpNo X0.here hx rfl (hb hby d2_39) rfl (tlt hc39_93).2.2.2 k) ?_
                show OGo p e below _ (s₁.setTop (mkF m 42 #[.val (.int p1)] []))
                refine OGo.to (fun _ k => XS.iloadN X0.here hx rfl (hb hby d2_42) rfl k) ?_
                show OGo p e below _ (s₁.setTop (mkF m 43 #[.val (.int p1)] [(.int p1)]))
                refine OGo.to (fun _ k => X0.ldcInt hx hown (mvT hZ (hw _ (List.mem_of_getElem? (i := 22) rfl))) (g := (mkF m 43 #[.val (.int p1)] [(.int p1)])) rfl (hb hby d2_43) _ k) ?_
                show OGo p e below _ (s₁.setTop (mkF m 45 #[.val (.int p1)] [(.int (65536 : Int32)), (.int p1)]))
                by_cases hc45_94 : p1 < (65536 : Int32)
                ·  -- pc 45: yes
                  refine OGo.to (fun _ k => XS.icmpYes X0.here hx rfl (pc0 := 45) (pc' := 58) rfl (hb hby d2_45) rfl (tlt hc45_94).1 (by decide) (by decide) k) ?_
                  show OGo p e below _ (s₁.setTop (mkF m 58 #[.val (.int p1)] []))
                  refine OGo.to (fun _ k => XS.iconst X0.here hx rfl (hb hby d2_58) k) ?_
                  show OGo p e below _ (s₁.setTop (mkF m 59 #[.val (.int p1)] [(.int (0 : Int32))]))
                  refine OGo.ret (Q := Q2 Z p1 h0 n0) X0 (some (.int (0 : Int32))) (fun h => by rw [Bd.returns] at h; cases h) Bd.notSynchronized (fun fs hr => retN X0 hx (t := .boolean) (z := (0 : Int32)) Bd.returns (by simp) (hb hby d2_59) hr) ?_ (by decide) (by decide)
                  have i95 : (p1).toInt ≠ 9 := own_ine hc3_1
                  have i96 : (p1).toInt ≠ 10 := own_ine hc9_3
                  have i97 : (p1).toInt ≠ 13 := own_ine hc15_6
                  have i98 : 32 ≤ (p1).toInt := own_inlt hc21_10
                  have i99 : 55295 < (p1).toInt := own_ilt hc27_66
                  have i100 : 57344 ≤ (p1).toInt := own_inlt hc33_67
                  have i101 : 65533 < (p1).toInt := own_ilt hc39_93
                  have i102 : (p1).toInt < 65536 := own_ilt hc45_94
                  show Q2 Z p1 h0 n0 _ s₁.heap _
                  rw [e0]
                  exact ⟨congrArg (fun z => some (Value.int z)) (show (0 : Int32) = (own_xml p1) from by unfold own_xml; rw [if_neg (by unfold own_X; omega)]), N0, rfl⟩
                ·  -- pc 45: no
                  refine OGo.to (fun _ k => XS.icmpNo X0.here hx rfl (hb hby d2_45) rfl (flt hc45_94).1 k) ?_
                  show OGo p e below _ (s₁.setTop (mkF m 48 #[.val (.int p1)] []))
                  refine OGo.to (fun _ k => XS.iloadN X0.here hx rfl (hb hby d2_48) rfl k) ?_
                  show OGo p e below _ (s₁.setTop (mkF m 49 #[.val (.int p1)] [(.int p1)]))
                  refine OGo.to (fun _ k => X0.ldcInt hx hown (mvT hZ (hw _ (List.mem_of_getElem? (i := 28) rfl))) (g := (mkF m 49 #[.val (.int p1)] [(.int p1)])) rfl (hb hby d2_49) _ k) ?_
                  show OGo p e below _ (s₁.setTop (mkF m 51 #[.val (.int p1)] [(.int (1114111 : Int32)), (.int p1)]))
                  by_cases hc51_103 : (1114111 : Int32) < p1
                  ·  -- pc 51: yes
                    refine OGo.to (fun _ k => XS.icmpYes X0.here hx rfl (pc0 := 51) (pc' := 58) rfl (hb hby d2_51) rfl (tlt hc51_103).2.2.1 (by decide) (by decide) k) ?_
                    show OGo p e below _ (s₁.setTop (mkF m 58 #[.val (.int p1)] []))
                    refine OGo.to (fun _ k => XS.iconst X0.here hx rfl (hb hby d2_58) k) ?_
                    show OGo p e below _ (s₁.setTop (mkF m 59 #[.val (.int p1)] [(.int (0 : Int32))]))
                    refine OGo.ret (Q := Q2 Z p1 h0 n0) X0 (some (.int (0 : Int32))) (fun h => by rw [Bd.returns] at h; cases h) Bd.notSynchronized (fun fs hr => retN X0 hx (t := .boolean) (z := (0 : Int32)) Bd.returns (by simp) (hb hby d2_59) hr) ?_ (by decide) (by decide)
                    have i104 : (p1).toInt ≠ 9 := own_ine hc3_1
                    have i105 : (p1).toInt ≠ 10 := own_ine hc9_3
                    have i106 : (p1).toInt ≠ 13 := own_ine hc15_6
                    have i107 : 32 ≤ (p1).toInt := own_inlt hc21_10
                    have i108 : 55295 < (p1).toInt := own_ilt hc27_66
                    have i109 : 57344 ≤ (p1).toInt := own_inlt hc33_67
                    have i110 : 65533 < (p1).toInt := own_ilt hc39_93
                    have i111 : 65536 ≤ (p1).toInt := own_inlt hc45_94
                    have i112 : 1114111 < (p1).toInt := own_ilt hc51_103
                    show Q2 Z p1 h0 n0 _ s₁.heap _
                    rw [e0]
                    exact ⟨congrArg (fun z => some (Value.int z)) (show (0 : Int32) = (own_xml p1) from by unfold own_xml; rw [if_neg (by unfold own_X; omega)]), N0, rfl⟩
                  ·  -- pc 51: no
                    refine OGo.to (fun _ k => XS.icmpNo X0.here hx rfl (hb hby d2_51) rfl (flt hc51_103).2.2.1 k) ?_
                    show OGo p e below _ (s₁.setTop (mkF m 54 #[.val (.int p1)] []))
                    refine OGo.to (fun _ k => XS.iconst X0.here hx rfl (hb hby d2_54) k) ?_
                    show OGo p e below _ (s₁.setTop (mkF m 55 #[.val (.int p1)] [(.int (1 : Int32))]))
                    refine OGo.to (fun _ k => XS.goto X0.here hx rfl (pc0 := 55) (pc' := 59) rfl (hb hby d2_55) (by decide) (by decide) k) ?_
                    show OGo p e below _ (s₁.setTop (mkF m 59 #[.val (.int p1)] [(.int (1 : Int32))]))
                    refine OGo.ret (Q := Q2 Z p1 h0 n0) X0 (some (.int (1 : Int32))) (fun h => by rw [Bd.returns] at h; cases h) Bd.notSynchronized (fun fs hr => retN X0 hx (t := .boolean) (z := (1 : Int32)) Bd.returns (by simp) (hb hby d2_59) hr) ?_ (by decide) (by decide)
                    have i113 : (p1).toInt ≠ 9 := own_ine hc3_1
                    have i114 : (p1).toInt ≠ 10 := own_ine hc9_3
                    have i115 : (p1).toInt ≠ 13 := own_ine hc15_6
                    have i116 : 32 ≤ (p1).toInt := own_inlt hc21_10
                    have i117 : 55295 < (p1).toInt := own_ilt hc27_66
                    have i118 : 57344 ≤ (p1).toInt := own_inlt hc33_67
                    have i119 : 65533 < (p1).toInt := own_ilt hc39_93
                    have i120 : 65536 ≤ (p1).toInt := own_inlt hc45_94
                    have i121 : (p1).toInt ≤ 1114111 := own_inlt hc51_103
                    show Q2 Z p1 h0 n0 _ s₁.heap _
                    rw [e0]
                    exact ⟨congrArg (fun z => some (Value.int z)) (show (1 : Int32) = (own_xml p1) from by unfold own_xml; rw [if_pos (by unfold own_X; omega)]), N0, rfl⟩
              ·  -- pc 39: no
                refine OGo.to (fun _ k => XS.icmpYes X0.here hx rfl (pc0 := 39) (pc' := 54) rfl (hb hby d2_39) rfl (flt hc39_93).2.2.2 (by decide) (by decide) k) ?_
                show OGo p e below _ (s₁.setTop (mkF m 54 #[.val (.int p1)] []))
                refine OGo.to (fun _ k => XS.iconst X0.here hx rfl (hb hby d2_54) k) ?_
                show OGo p e below _ (s₁.setTop (mkF m 55 #[.val (.int p1)] [(.int (1 : Int32))]))
                refine OGo.to (fun _ k => XS.goto X0.here hx rfl (pc0 := 55) (pc' := 59) rfl (hb hby d2_55) (by decide) (by decide) k) ?_
                show OGo p e below _ (s₁.setTop (mkF m 59 #[.val (.int p1)] [(.int (1 : Int32))]))
                refine OGo.ret (Q := Q2 Z p1 h0 n0) X0 (some (.int (1 : Int32))) (fun h => by rw [Bd.returns] at h; cases h) Bd.notSynchronized (fun fs hr => retN X0 hx (t := .boolean) (z := (1 : Int32)) Bd.returns (by simp) (hb hby d2_59) hr) ?_ (by decide) (by decide)
                have i122 : (p1).toInt ≠ 9 := own_ine hc3_1
                have i123 : (p1).toInt ≠ 10 := own_ine hc9_3
                have i124 : (p1).toInt ≠ 13 := own_ine hc15_6
                have i125 : 32 ≤ (p1).toInt := own_inlt hc21_10
                have i126 : 55295 < (p1).toInt := own_ilt hc27_66
                have i127 : 57344 ≤ (p1).toInt := own_inlt hc33_67
                have i128 : (p1).toInt ≤ 65533 := own_inlt hc39_93
                show Q2 Z p1 h0 n0 _ s₁.heap _
                rw [e0]
                exact ⟨congrArg (fun z => some (Value.int z)) (show (1 : Int32) = (own_xml p1) from by unfold own_xml; rw [if_pos (by unfold own_X; omega)]), N0, rfl⟩
          ·  -- pc 27: no
            refine OGo.to (fun _ k => XS.icmpYes X0.here hx rfl (pc0 := 27) (pc' := 54) rfl (hb hby d2_27) rfl (flt hc27_66).2.2.2 (by decide) (by decide) k) ?_
            show OGo p e below _ (s₁.setTop (mkF m 54 #[.val (.int p1)] []))
            refine OGo.to (fun _ k => XS.iconst X0.here hx rfl (hb hby d2_54) k) ?_
            show OGo p e below _ (s₁.setTop (mkF m 55 #[.val (.int p1)] [(.int (1 : Int32))]))
            refine OGo.to (fun _ k => XS.goto X0.here hx rfl (pc0 := 55) (pc' := 59) rfl (hb hby d2_55) (by decide) (by decide) k) ?_
            show OGo p e below _ (s₁.setTop (mkF m 59 #[.val (.int p1)] [(.int (1 : Int32))]))
            refine OGo.ret (Q := Q2 Z p1 h0 n0) X0 (some (.int (1 : Int32))) (fun h => by rw [Bd.returns] at h; cases h) Bd.notSynchronized (fun fs hr => retN X0 hx (t := .boolean) (z := (1 : Int32)) Bd.returns (by simp) (hb hby d2_59) hr) ?_ (by decide) (by decide)
            have i129 : (p1).toInt ≠ 9 := own_ine hc3_1
            have i130 : (p1).toInt ≠ 10 := own_ine hc9_3
            have i131 : (p1).toInt ≠ 13 := own_ine hc15_6
            have i132 : 32 ≤ (p1).toInt := own_inlt hc21_10
            have i133 : (p1).toInt ≤ 55295 := own_inlt hc27_66
            show Q2 Z p1 h0 n0 _ s₁.heap _
            rw [e0]
            exact ⟨congrArg (fun z => some (Value.int z)) (show (1 : Int32) = (own_xml p1) from by unfold own_xml; rw [if_pos (by unfold own_X; omega)]), N0, rfl⟩
theorem d3_0 : decode method_2_code 0 = .ok (.iload_n 0, 1) := by decide +kernel
theorem d3_1 : decode method_2_code 1 = .ok (.bipush 32, 2) := by decide +kernel
theorem d3_3 : decode method_2_code 3 = .ok (.if_icmp .ge 27, 3) := by decide +kernel
theorem d3_6 : decode method_2_code 6 = .ok (.iload_n 0, 1) := by decide +kernel
theorem d3_7 : decode method_2_code 7 = .ok (.bipush 9, 2) := by decide +kernel
theorem d3_9 : decode method_2_code 9 = .ok (.if_icmp .eq 19, 3) := by decide +kernel
theorem d3_12 : decode method_2_code 12 = .ok (.iload_n 0, 1) := by decide +kernel
theorem d3_13 : decode method_2_code 13 = .ok (.bipush 10, 2) := by decide +kernel
theorem d3_15 : decode method_2_code 15 = .ok (.if_icmp .eq 13, 3) := by decide +kernel
theorem d3_18 : decode method_2_code 18 = .ok (.iload_n 0, 1) := by decide +kernel
theorem d3_19 : decode method_2_code 19 = .ok (.bipush 13, 2) := by decide +kernel
theorem d3_21 : decode method_2_code 21 = .ok (.if_icmp .eq 7, 3) := by decide +kernel
theorem d3_24 : decode method_2_code 24 = .ok (.iconst 1, 1) := by decide +kernel
theorem d3_25 : decode method_2_code 25 = .ok (.goto 4, 3) := by decide +kernel
theorem d3_28 : decode method_2_code 28 = .ok (.iconst 0, 1) := by decide +kernel
theorem d3_29 : decode method_2_code 29 = .ok (.ireturn, 1) := by decide +kernel
theorem d3_30 : decode method_2_code 30 = .ok (.iload_n 0, 1) := by decide +kernel
theorem d3_31 : decode method_2_code 31 = .ok (.ldc 7, 2) := by decide +kernel
theorem d3_33 : decode method_2_code 33 = .ok (.if_icmp .lt 11, 3) := by decide +kernel
theorem d3_36 : decode method_2_code 36 = .ok (.iload_n 0, 1) := by decide +kernel
theorem d3_37 : decode method_2_code 37 = .ok (.ldc 8, 2) := by decide +kernel
theorem d3_39 : decode method_2_code 39 = .ok (.if_icmp .gt 5, 3) := by decide +kernel
theorem d3_42 : decode method_2_code 42 = .ok (.iconst 1, 1) := by decide +kernel
theorem d3_43 : decode method_2_code 43 = .ok (.ireturn, 1) := by decide +kernel
theorem d3_44 : decode method_2_code 44 = .ok (.iload_n 0, 1) := by decide +kernel
theorem d3_45 : decode method_2_code 45 = .ok (.ldc 9, 2) := by decide +kernel
theorem d3_47 : decode method_2_code 47 = .ok (.if_icmp .eq 9, 3) := by decide +kernel
theorem d3_50 : decode method_2_code 50 = .ok (.iload_n 0, 1) := by decide +kernel
theorem d3_51 : decode method_2_code 51 = .ok (.ldc 10, 2) := by decide +kernel
theorem d3_53 : decode method_2_code 53 = .ok (.if_icmp .ne 5, 3) := by decide +kernel
theorem d3_56 : decode method_2_code 56 = .ok (.iconst 1, 1) := by decide +kernel
theorem d3_57 : decode method_2_code 57 = .ok (.ireturn, 1) := by decide +kernel
theorem d3_58 : decode method_2_code 58 = .ok (.iload_n 0, 1) := by decide +kernel
theorem d3_59 : decode method_2_code 59 = .ok (.ldc 11, 2) := by decide +kernel
theorem d3_61 : decode method_2_code 61 = .ok (.if_icmp .le 7, 3) := by decide +kernel
theorem d3_64 : decode method_2_code 64 = .ok (.iconst 1, 1) := by decide +kernel
theorem d3_65 : decode method_2_code 65 = .ok (.goto 4, 3) := by decide +kernel
theorem d3_68 : decode method_2_code 68 = .ok (.iconst 0, 1) := by decide +kernel
theorem d3_69 : decode method_2_code 69 = .ok (.ireturn, 1) := by decide +kernel
theorem ef_3 (m : MethodId) (x0 : Int32) : entryFrame m #[(.int x0)] 1 = mkF m 0 #[.val (.int x0)] [] := by first | (simp [entryFrame, mkF, argsToLocals, Value.category]; done) | rfl
def Q3 (Z : State) (p1 : Int32) (h0 : Heap) (n0 : Nat) (v : Option Value) (h : Heap) (L : List Loc) : Prop := v = some (.int (own_exc p1)) ∧ Fr n0 L ∧ h = h0
set_option maxRecDepth 65536 in
set_option maxHeartbeats 40000000 in
theorem rm3 (l : Launch) (Z : State) (a0 : Array Value) (hw : ∀ d ∈ tables_1, d.before a0 Z = true) (ws : List Jvm.Cond) (p1 : Int32) (h0 : Heap) (n0 : Nat) (Z0 : n0 ≤ h0.size) :
    MetFree l (⟨"com/example/querytrail/querytrail/trec/XmlSyntaxIsXmlCharacterPinLaw", "excluded", "(I)Z"⟩ : MethodName) (head1 (Jvm.Cond.code (⟨"com/example/querytrail/querytrail/trec/XmlSyntaxIsXmlCharacterPinLaw", "excluded", "(I)Z"⟩ : MethodName) method_2_code 1 (some .boolean) :: ws) ({ frames := 0, cells := 0, slots := 0, locals := 0 } : Room)) (fun a U => a = #[(.int p1)] ∧ Z.Warmed39 U.vm ∧ U.heap = h0) (fun _ _ _ _ _ => True) (fun _ U o U' => ∃ v L, o = .returned v ∧ Q3 Z p1 h0 n0 v U'.heap L ∧ FrameEnd U o U' L ({ frames := 0, cells := 0, slots := 0, locals := 0 } : Room).cells ({ frames := 0, cells := 0, slots := 0, locals := 0 } : Room).slots) := by
  refine MetFree.of_bodySF (plainFor_of_name pn_1) hisR ?_
  intro p e s m args below meth c s₁ Bd hml0 hP hK
  obtain ⟨rfl, hZ, hh⟩ := hP
  have hx := Bd.exec
  have hby := Bd.bytes
  have hml : c.maxLocals = 1 := hml0
  have hown : s.vm.findClass "com/example/querytrail/querytrail/trec/XmlSyntaxIsXmlCharacterPinLaw" = some m.cls := findClass_of_methodNamed Bd.named
  have hnm := (name_of_methodNamed Bd.named Bd.method).1
  have X0 : Stand p l e ({ frames := 0, cells := 0, slots := 0, locals := 0 } : Room) s m #[(.int p1)] below meth c s₁ [] 0 0 := Stand.of_body Bd
  have e0 : s₁.heap = h0 := by rw [← hh, Bd.state]; rfl
  have N0 := Fr.nil n0
  show OGo p e below (fun s₂ o => ∃ v L, o = .returned v ∧ Q3 Z p1 h0 n0 v s₂.heap L ∧ FrameEnd s o s₂ L ({ frames := 0, cells := 0, slots := 0, locals := 0 } : Room).cells ({ frames := 0, cells := 0, slots := 0, locals := 0 } : Room).slots) _
  refine OGo.to (fun _ k => castTop (ef_3 m p1) k) ?_
  refine OGo.to (fun _ k => XS.iloadN X0.here hx rfl (hb hby d3_0) rfl k) ?_
  show OGo p e below _ (s₁.setTop (mkF m 1 #[.val (.int p1)] [(.int p1)]))
  refine OGo.to (fun _ k => XS.bipush X0.here hx rfl (hb hby d3_1) k) ?_
  show OGo p e below _ (s₁.setTop (mkF m 3 #[.val (.int p1)] [(.int (32 : Int32)), (.int p1)]))
  by_cases hc3_1 : p1 < (32 : Int32)
  ·  -- pc 3: yes
    refine OGo.to (fun _ k => XS.icmpNo X0.here hx rfl (hb hby d3_3) rfl (tlt hc3_1).2.1 k) ?_
    show OGo p e below _ (s₁.setTop (mkF m 6 #[.val (.int p1)] []))
    refine OGo.to (fun _ k => XS.iloadN X0.here hx rfl (hb hby d3_6) rfl k) ?_
    show OGo p e below _ (s₁.setTop (mkF m 7 #[.val (.int p1)] [(.int p1)]))
    refine OGo.to (fun _ k => XS.bipush X0.here hx rfl (hb hby d3_7) k) ?_
    show OGo p e below _ (s₁.setTop (mkF m 9 #[.val (.int p1)] [(.int (9 : Int32)), (.int p1)]))
    by_cases hc9_2 : p1 = (9 : Int32)
    ·  -- pc 9: yes
      refine OGo.to (fun _ k => XS.icmpYes X0.here hx rfl (pc0 := 9) (pc' := 28) rfl (hb hby d3_9) rfl (teq hc9_2).1 (by decide) (by decide) k) ?_
      show OGo p e below _ (s₁.setTop (mkF m 28 #[.val (.int p1)] []))
      refine OGo.to (fun _ k => XS.iconst X0.here hx rfl (hb hby d3_28) k) ?_
      show OGo p e below _ (s₁.setTop (mkF m 29 #[.val (.int p1)] [(.int (0 : Int32))]))
      refine OGo.ret (Q := Q3 Z p1 h0 n0) X0 (some (.int (0 : Int32))) (fun h => by rw [Bd.returns] at h; cases h) Bd.notSynchronized (fun fs hr => retN X0 hx (t := .boolean) (z := (0 : Int32)) Bd.returns (by simp) (hb hby d3_29) hr) ?_ (by decide) (by decide)
      have i3 : (p1).toInt < 32 := own_ilt hc3_1
      have i4 : (p1).toInt = 9 := own_ieq hc9_2
      show Q3 Z p1 h0 n0 _ s₁.heap _
      rw [e0]
      exact ⟨congrArg (fun z => some (Value.int z)) (show (0 : Int32) = (own_exc p1) from by unfold own_exc; rw [if_pos (by unfold own_X; omega)]), N0, rfl⟩
    ·  -- pc 9: no
      refine OGo.to (fun _ k => XS.icmpNo X0.here hx rfl (hb hby d3_9) rfl (feq hc9_2).1 k) ?_
      show OGo p e below _ (s₁.setTop (mkF m 12 #[.val (.int p1)] []))
      refine OGo.to (fun _ k => XS.iloadN X0.here hx rfl (hb hby d3_12) rfl k) ?_
      show OGo p e below _ (s₁.setTop (mkF m 13 #[.val (.int p1)] [(.int p1)]))
      refine OGo.to (fun _ k => XS.bipush X0.here hx rfl (hb hby d3_13) k) ?_
      show OGo p e below _ (s₁.setTop (mkF m 15 #[.val (.int p1)] [(.int (10 : Int32)), (.int p1)]))
      by_cases hc15_5 : p1 = (10 : Int32)
      ·  -- pc 15: yes
        refine OGo.to (fun _ k => XS.icmpYes X0.here hx rfl (pc0 := 15) (pc' := 28) rfl (hb hby d3_15) rfl (teq hc15_5).1 (by decide) (by decide) k) ?_
        show OGo p e below _ (s₁.setTop (mkF m 28 #[.val (.int p1)] []))
        refine OGo.to (fun _ k => XS.iconst X0.here hx rfl (hb hby d3_28) k) ?_
        show OGo p e below _ (s₁.setTop (mkF m 29 #[.val (.int p1)] [(.int (0 : Int32))]))
        refine OGo.ret (Q := Q3 Z p1 h0 n0) X0 (some (.int (0 : Int32))) (fun h => by rw [Bd.returns] at h; cases h) Bd.notSynchronized (fun fs hr => retN X0 hx (t := .boolean) (z := (0 : Int32)) Bd.returns (by simp) (hb hby d3_29) hr) ?_ (by decide) (by decide)
        have i6 : (p1).toInt < 32 := own_ilt hc3_1
        have i7 : (p1).toInt ≠ 9 := own_ine hc9_2
        have i8 : (p1).toInt = 10 := own_ieq hc15_5
        show Q3 Z p1 h0 n0 _ s₁.heap _
        rw [e0]
        exact ⟨congrArg (fun z => some (Value.int z)) (show (0 : Int32) = (own_exc p1) from by unfold own_exc; rw [if_pos (by unfold own_X; omega)]), N0, rfl⟩
      ·  -- pc 15: no
        refine OGo.to (fun _ k => XS.icmpNo X0.here hx rfl (hb hby d3_15) rfl (feq hc15_5).1 k) ?_
        show OGo p e below _ (s₁.setTop (mkF m 18 #[.val (.int p1)] []))
        refine OGo.to (fun _ k => XS.iloadN X0.here hx rfl (hb hby d3_18) rfl k) ?_
        show OGo p e below _ (s₁.setTop (mkF m 19 #[.val (.int p1)] [(.int p1)]))
        refine OGo.to (fun _ k => XS.bipush X0.here hx rfl (hb hby d3_19) k) ?_
        show OGo p e below _ (s₁.setTop (mkF m 21 #[.val (.int p1)] [(.int (13 : Int32)), (.int p1)]))
        by_cases hc21_9 : p1 = (13 : Int32)
        ·  -- pc 21: yes
          refine OGo.to (fun _ k => XS.icmpYes X0.here hx rfl (pc0 := 21) (pc' := 28) rfl (hb hby d3_21) rfl (teq hc21_9).1 (by decide) (by decide) k) ?_
          show OGo p e below _ (s₁.setTop (mkF m 28 #[.val (.int p1)] []))
          refine OGo.to (fun _ k => XS.iconst X0.here hx rfl (hb hby d3_28) k) ?_
          show OGo p e below _ (s₁.setTop (mkF m 29 #[.val (.int p1)] [(.int (0 : Int32))]))
          refine OGo.ret (Q := Q3 Z p1 h0 n0) X0 (some (.int (0 : Int32))) (fun h => by rw [Bd.returns] at h; cases h) Bd.notSynchronized (fun fs hr => retN X0 hx (t := .boolean) (z := (0 : Int32)) Bd.returns (by simp) (hb hby d3_29) hr) ?_ (by decide) (by decide)
          have i10 : (p1).toInt < 32 := own_ilt hc3_1
          have i11 : (p1).toInt ≠ 9 := own_ine hc9_2
          have i12 : (p1).toInt ≠ 10 := own_ine hc15_5
          have i13 : (p1).toInt = 13 := own_ieq hc21_9
          show Q3 Z p1 h0 n0 _ s₁.heap _
          rw [e0]
          exact ⟨congrArg (fun z => some (Value.int z)) (show (0 : Int32) = (own_exc p1) from by unfold own_exc; rw [if_pos (by unfold own_X; omega)]), N0, rfl⟩
        ·  -- pc 21: no
          refine OGo.to (fun _ k => XS.icmpNo X0.here hx rfl (hb hby d3_21) rfl (feq hc21_9).1 k) ?_
          show OGo p e below _ (s₁.setTop (mkF m 24 #[.val (.int p1)] []))
          refine OGo.to (fun _ k => XS.iconst X0.here hx rfl (hb hby d3_24) k) ?_
          show OGo p e below _ (s₁.setTop (mkF m 25 #[.val (.int p1)] [(.int (1 : Int32))]))
          refine OGo.to (fun _ k => XS.goto X0.here hx rfl (pc0 := 25) (pc' := 29) rfl (hb hby d3_25) (by decide) (by decide) k) ?_
          show OGo p e below _ (s₁.setTop (mkF m 29 #[.val (.int p1)] [(.int (1 : Int32))]))
          refine OGo.ret (Q := Q3 Z p1 h0 n0) X0 (some (.int (1 : Int32))) (fun h => by rw [Bd.returns] at h; cases h) Bd.notSynchronized (fun fs hr => retN X0 hx (t := .boolean) (z := (1 : Int32)) Bd.returns (by simp) (hb hby d3_29) hr) ?_ (by decide) (by decide)
          have i14 : (p1).toInt < 32 := own_ilt hc3_1
          have i15 : (p1).toInt ≠ 9 := own_ine hc9_2
          have i16 : (p1).toInt ≠ 10 := own_ine hc15_5
          have i17 : (p1).toInt ≠ 13 := own_ine hc21_9
          show Q3 Z p1 h0 n0 _ s₁.heap _
          rw [e0]
          exact ⟨congrArg (fun z => some (Value.int z)) (show (1 : Int32) = (own_exc p1) from by unfold own_exc; rw [if_neg (by unfold own_X; omega)]), N0, rfl⟩
  ·  -- pc 3: no
    refine OGo.to (fun _ k => XS.icmpYes X0.here hx rfl (pc0 := 3) (pc' := 30) rfl (hb hby d3_3) rfl (flt hc3_1).2.1 (by decide) (by decide) k) ?_
    show OGo p e below _ (s₁.setTop (mkF m 30 #[.val (.int p1)] []))
    refine OGo.to (fun _ k => XS.iloadN X0.here hx rfl (hb hby d3_30) rfl k) ?_
    show OGo p e below _ (s₁.setTop (mkF m 31 #[.val (.int p1)] [(.int p1)]))
    refine OGo.to (fun _ k => X0.ldcInt hx hown (mvT hZ (hw _ (List.mem_of_getElem? (i := 2) rfl))) (g := (mkF m 31 #[.val (.int p1)] [(.int p1)])) rfl (hb hby d3_31) _ k) ?_
    show OGo p e below _ (s₁.setTop (mkF m 33 #[.val (.int p1)] [(.int (55296 : Int32)), (.int p1)]))
    by_cases hc33_18 : p1 < (55296 : Int32)
    ·  -- pc 33: yes
      refine OGo.to (fun _ k => XS.icmpYes X0.here hx rfl (pc0 := 33) (pc' := 44) rfl (hb hby d3_33) rfl (tlt hc33_18).1 (by decide) (by decide) k) ?_
      show OGo p e below _ (s₁.setTop (mkF m 44 #[.val (.int p1)] []))
      refine OGo.to (fun _ k => XS.iloadN X0.here hx rfl (hb hby d3_44) rfl k) ?_
      show OGo p e below _ (s₁.setTop (mkF m 45 #[.val (.int p1)] [(.int p1)]))
      refine OGo.to (fun _ k => X0.ldcInt hx hown (mvT hZ (hw _ (List.mem_of_getElem? (i := 6) rfl))) (g := (mkF m 45 #[.val (.int p1)] [(.int p1)])) rfl (hb hby d3_45) _ k) ?_
      show OGo p e below _ (s₁.setTop (mkF m 47 #[.val (.int p1)] [(.int (65534 : Int32)), (.int p1)]))
      by_cases hc47_19 : p1 = (65534 : Int32)
      ·  -- pc 47: yes
        refine OGo.to (fun _ k => XS.icmpYes X0.here hx rfl (pc0 := 47) (pc' := 56) rfl (hb hby d3_47) rfl (teq hc47_19).1 (by decide) (by decide) k) ?_
        show OGo p e below _ (s₁.setTop (mkF m 56 #[.val (.int p1)] []))
        refine OGo.to (fun _ k => XS.iconst X0.here hx rfl (hb hby d3_56) k) ?_
        show OGo p e below _ (s₁.setTop (mkF m 57 #[.val (.int p1)] [(.int (1 : Int32))]))
        refine OGo.ret (Q := Q3 Z p1 h0 n0) X0 (some (.int (1 : Int32))) (fun h => by rw [Bd.returns] at h; cases h) Bd.notSynchronized (fun fs hr => retN X0 hx (t := .boolean) (z := (1 : Int32)) Bd.returns (by simp) (hb hby d3_57) hr) ?_ (by decide) (by decide)
        have i20 : 32 ≤ (p1).toInt := own_inlt hc3_1
        have i21 : (p1).toInt < 55296 := own_ilt hc33_18
        have i22 : (p1).toInt = 65534 := own_ieq hc47_19
        show Q3 Z p1 h0 n0 _ s₁.heap _
        rw [e0]
        exact ⟨congrArg (fun z => some (Value.int z)) (show (1 : Int32) = (own_exc p1) from by unfold own_exc; rw [if_neg (by unfold own_X; omega)]), N0, rfl⟩
      ·  -- pc 47: no
        refine OGo.to (fun _ k => XS.icmpNo X0.here hx rfl (hb hby d3_47) rfl (feq hc47_19).1 k) ?_
        show OGo p e below _ (s₁.setTop (mkF m 50 #[.val (.int p1)] []))
        refine OGo.to (fun _ k => XS.iloadN X0.here hx rfl (hb hby d3_50) rfl k) ?_
        show OGo p e below _ (s₁.setTop (mkF m 51 #[.val (.int p1)] [(.int p1)]))
        refine OGo.to (fun _ k => X0.ldcInt hx hown (mvT hZ (hw _ (List.mem_of_getElem? (i := 7) rfl))) (g := (mkF m 51 #[.val (.int p1)] [(.int p1)])) rfl (hb hby d3_51) _ k) ?_
        show OGo p e below _ (s₁.setTop (mkF m 53 #[.val (.int p1)] [(.int (65535 : Int32)), (.int p1)]))
        by_cases hc53_23 : p1 = (65535 : Int32)
        ·  -- pc 53: yes
          refine OGo.to (fun _ k => XS.icmpNo X0.here hx rfl (hb hby d3_53) rfl (teq hc53_23).2 k) ?_
          show OGo p e below _ (s₁.setTop (mkF m 56 #[.val (.int p1)] []))
          refine OGo.to (fun _ k => XS.iconst X0.here hx rfl (hb hby d3_56) k) ?_
          show OGo p e below _ (s₁.setTop (mkF m 57 #[.val (.int p1)] [(.int (1 : Int32))]))
          refine OGo.ret (Q := Q3 Z p1 h0 n0) X0 (some (.int (1 : Int32))) (fun h => by rw [Bd.returns] at h; cases h) Bd.notSynchronized (fun fs hr => retN X0 hx (t := .boolean) (z := (1 : Int32)) Bd.returns (by simp) (hb hby d3_57) hr) ?_ (by decide) (by decide)
          have i24 : 32 ≤ (p1).toInt := own_inlt hc3_1
          have i25 : (p1).toInt < 55296 := own_ilt hc33_18
          have i26 : (p1).toInt ≠ 65534 := own_ine hc47_19
          have i27 : (p1).toInt = 65535 := own_ieq hc53_23
          show Q3 Z p1 h0 n0 _ s₁.heap _
          rw [e0]
          exact ⟨congrArg (fun z => some (Value.int z)) (show (1 : Int32) = (own_exc p1) from by unfold own_exc; rw [if_neg (by unfold own_X; omega)]), N0, rfl⟩
        ·  -- pc 53: no
          refine OGo.to (fun _ k => XS.icmpYes X0.here hx rfl (pc0 := 53) (pc' := 58) rfl (hb hby d3_53) rfl (feq hc53_23).2 (by decide) (by decide) k) ?_
          show OGo p e below _ (s₁.setTop (mkF m 58 #[.val (.int p1)] []))
          refine OGo.to (fun _ k => XS.iloadN X0.here hx rfl (hb hby d3_58) rfl k) ?_
          show OGo p e below _ (s₁.setTop (mkF m 59 #[.val (.int p1)] [(.int p1)]))
          refine OGo.to (fun _ k => X0.ldcInt hx hown (mvT hZ (hw _ (List.mem_of_getElem? (i := 9) rfl))) (g := (mkF m 59 #[.val (.int p1)] [(.int p1)])) rfl (hb hby d3_59) _ k) ?_
          show OGo p e below _ (s₁.setTop (mkF m 61 #[.val (.int p1)] [(.int (1114111 : Int32)), (.int p1)]))
          by_cases hc61_28 : (1114111 : Int32) < p1
          ·  -- pc 61: yes
            refine OGo.to (fun _ k => XS.icmpNo X0.here hx rfl (hb hby d3_61) rfl (tlt hc61_28).2.2.2 k) ?_
            show OGo p e below _ (s₁.setTop (mkF m 64 #[.val (.int p1)] []))
            refine OGo.to (fun _ k => XS.iconst X0.here hx rfl (hb hby d3_64) k) ?_
            show OGo p e below _ (s₁.setTop (mkF m 65 #[.val (.int p1)] [(.int (1 : Int32))]))
            refine OGo.to (fun _ k => XS.goto X0.here hx rfl (pc0 := 65) (pc' := 69) rfl (hb hby d3_65) (by decide) (by decide) k) ?_
            show OGo p e below _ (s₁.setTop (mkF m 69 #[.val (.int p1)] [(.int (1 : Int32))]))
            refine OGo.ret (Q := Q3 Z p1 h0 n0) X0 (some (.int (1 : Int32))) (fun h => by rw [Bd.returns] at h; cases h) Bd.notSynchronized (fun fs hr => retN X0 hx (t := .boolean) (z := (1 : Int32)) Bd.returns (by simp) (hb hby d3_69) hr) ?_ (by decide) (by decide)
            have i29 : 32 ≤ (p1).toInt := own_inlt hc3_1
            have i30 : (p1).toInt < 55296 := own_ilt hc33_18
            have i31 : (p1).toInt ≠ 65534 := own_ine hc47_19
            have i32 : (p1).toInt ≠ 65535 := own_ine hc53_23
            have i33 : 1114111 < (p1).toInt := own_ilt hc61_28
            show Q3 Z p1 h0 n0 _ s₁.heap _
            rw [e0]
            exact ⟨congrArg (fun z => some (Value.int z)) (show (1 : Int32) = (own_exc p1) from by unfold own_exc; rw [if_neg (by unfold own_X; omega)]), N0, rfl⟩
          ·  -- pc 61: no
            refine OGo.to (fun _ k => XS.icmpYes X0.here hx rfl (pc0 := 61) (pc' := 68) rfl (hb hby d3_61) rfl (flt hc61_28).2.2.2 (by decide) (by decide) k) ?_
            show OGo p e below _ (s₁.setTop (mkF m 68 #[.val (.int p1)] []))
            refine OGo.to (fun _ k => XS.iconst X0.here hx rfl (hb hby d3_68) k) ?_
            show OGo p e below _ (s₁.setTop (mkF m 69 #[.val (.int p1)] [(.int (0 : Int32))]))
            refine OGo.ret (Q := Q3 Z p1 h0 n0) X0 (some (.int (0 : Int32))) (fun h => by rw [Bd.returns] at h; cases h) Bd.notSynchronized (fun fs hr => retN X0 hx (t := .boolean) (z := (0 : Int32)) Bd.returns (by simp) (hb hby d3_69) hr) ?_ (by decide) (by decide)
            have i34 : 32 ≤ (p1).toInt := own_inlt hc3_1
            have i35 : (p1).toInt < 55296 := own_ilt hc33_18
            have i36 : (p1).toInt ≠ 65534 := own_ine hc47_19
            have i37 : (p1).toInt ≠ 65535 := own_ine hc53_23
            have i38 : (p1).toInt ≤ 1114111 := own_inlt hc61_28
            show Q3 Z p1 h0 n0 _ s₁.heap _
            rw [e0]
            exact ⟨congrArg (fun z => some (Value.int z)) (show (0 : Int32) = (own_exc p1) from by unfold own_exc; rw [if_pos (by unfold own_X; omega)]), N0, rfl⟩
    ·  -- pc 33: no
      refine OGo.to (fun _ k => XS.icmpNo X0.here hx rfl (hb hby d3_33) rfl (flt hc33_18).1 k) ?_
      show OGo p e below _ (s₁.setTop (mkF m 36 #[.val (.int p1)] []))
      refine OGo.to (fun _ k => XS.iloadN X0.here hx rfl (hb hby d3_36) rfl k) ?_
      show OGo p e below _ (s₁.setTop (mkF m 37 #[.val (.int p1)] [(.int p1)]))
      refine OGo.to (fun _ k => X0.ldcInt hx hown (mvT hZ (hw _ (List.mem_of_getElem? (i := 3) rfl))) (g := (mkF m 37 #[.val (.int p1)] [(.int p1)])) rfl (hb hby d3_37) _ k) ?_
      show OGo p e below _ (s₁.setTop (mkF m 39 #[.val (.int p1)] [(.int (57343 : Int32)), (.int p1)]))
      by_cases hc39_39 : (57343 : Int32) < p1
      ·  -- pc 39: yes
        refine OGo.to (fun _ k => XS.icmpYes X0.here hx rfl (pc0 := 39) (pc' := 44) rfl (hb hby d3_39) rfl (tlt hc39_39).2.2.1 (by decide) (by decide) k) ?_
        show OGo p e below _ (s₁.setTop (mkF m 44 #[.val (.int p1)] []))
        refine OGo.to (fun _ k => XS.iloadN X0.here hx rfl (hb hby d3_44) rfl k) ?_
        show OGo p e below _ (s₁.setTop (mkF m 45 #[.val (.int p1)] [(.int p1)]))
        refine OGo.to (fun _ k => X0.ldcInt hx hown (mvT hZ (hw _ (List.mem_of_getElem? (i := 6) rfl))) (g := (mkF m 45 #[.val (.int p1)] [(.int p1)])) rfl (hb hby d3_45) _ k) ?_
        show OGo p e below _ (s₁.setTop (mkF m 47 #[.val (.int p1)] [(.int (65534 : Int32)), (.int p1)]))
        by_cases hc47_40 : p1 = (65534 : Int32)
        ·  -- pc 47: yes
          refine OGo.to (fun _ k => XS.icmpYes X0.here hx rfl (pc0 := 47) (pc' := 56) rfl (hb hby d3_47) rfl (teq hc47_40).1 (by decide) (by decide) k) ?_
          show OGo p e below _ (s₁.setTop (mkF m 56 #[.val (.int p1)] []))
          refine OGo.to (fun _ k => XS.iconst X0.here hx rfl (hb hby d3_56) k) ?_
          show OGo p e below _ (s₁.setTop (mkF m 57 #[.val (.int p1)] [(.int (1 : Int32))]))
          refine OGo.ret (Q := Q3 Z p1 h0 n0) X0 (some (.int (1 : Int32))) (fun h => by rw [Bd.returns] at h; cases h) Bd.notSynchronized (fun fs hr => retN X0 hx (t := .boolean) (z := (1 : Int32)) Bd.returns (by simp) (hb hby d3_57) hr) ?_ (by decide) (by decide)
          have i41 : 32 ≤ (p1).toInt := own_inlt hc3_1
          have i42 : 55296 ≤ (p1).toInt := own_inlt hc33_18
          have i43 : 57343 < (p1).toInt := own_ilt hc39_39
          have i44 : (p1).toInt = 65534 := own_ieq hc47_40
          show Q3 Z p1 h0 n0 _ s₁.heap _
          rw [e0]
          exact ⟨congrArg (fun z => some (Value.int z)) (show (1 : Int32) = (own_exc p1) from by unfold own_exc; rw [if_neg (by unfold own_X; omega)]), N0, rfl⟩
        ·  -- pc 47: no
          refine OGo.to (fun _ k => XS.icmpNo X0.here hx rfl (hb hby d3_47) rfl (feq hc47_40).1 k) ?_
          show OGo p e below _ (s₁.setTop (mkF m 50 #[.val (.int p1)] []))
          refine OGo.to (fun _ k => XS.iloadN X0.here hx rfl (hb hby d3_50) rfl k) ?_
          show OGo p e below _ (s₁.setTop (mkF m 51 #[.val (.int p1)] [(.int p1)]))
          refine OGo.to (fun _ k => X0.ldcInt hx hown (mvT hZ (hw _ (List.mem_of_getElem? (i := 7) rfl))) (g := (mkF m 51 #[.val (.int p1)] [(.int p1)])) rfl (hb hby d3_51) _ k) ?_
          show OGo p e below _ (s₁.setTop (mkF m 53 #[.val (.int p1)] [(.int (65535 : Int32)), (.int p1)]))
          by_cases hc53_45 : p1 = (65535 : Int32)
          ·  -- pc 53: yes
            refine OGo.to (fun _ k => XS.icmpNo X0.here hx rfl (hb hby d3_53) rfl (teq hc53_45).2 k) ?_
            show OGo p e below _ (s₁.setTop (mkF m 56 #[.val (.int p1)] []))
            refine OGo.to (fun _ k => XS.iconst X0.here hx rfl (hb hby d3_56) k) ?_
            show OGo p e below _ (s₁.setTop (mkF m 57 #[.val (.int p1)] [(.int (1 : Int32))]))
            refine OGo.ret (Q := Q3 Z p1 h0 n0) X0 (some (.int (1 : Int32))) (fun h => by rw [Bd.returns] at h; cases h) Bd.notSynchronized (fun fs hr => retN X0 hx (t := .boolean) (z := (1 : Int32)) Bd.returns (by simp) (hb hby d3_57) hr) ?_ (by decide) (by decide)
            have i46 : 32 ≤ (p1).toInt := own_inlt hc3_1
            have i47 : 55296 ≤ (p1).toInt := own_inlt hc33_18
            have i48 : 57343 < (p1).toInt := own_ilt hc39_39
            have i49 : (p1).toInt ≠ 65534 := own_ine hc47_40
            have i50 : (p1).toInt = 65535 := own_ieq hc53_45
            show Q3 Z p1 h0 n0 _ s₁.heap _
            rw [e0]
            exact ⟨congrArg (fun z => some (Value.int z)) (show (1 : Int32) = (own_exc p1) from by unfold own_exc; rw [if_neg (by unfold own_X; omega)]), N0, rfl⟩
          ·  -- pc 53: no
            refine OGo.to (fun _ k => XS.icmpYes X0.here hx rfl (pc0 := 53) (pc' := 58) rfl (hb hby d3_53) rfl (feq hc53_45).2 (by decide) (by decide) k) ?_
            show OGo p e below _ (s₁.setTop (mkF m 58 #[.val (.int p1)] []))
            refine OGo.to (fun _ k => XS.iloadN X0.here hx rfl (hb hby d3_58) rfl k) ?_
            show OGo p e below _ (s₁.setTop (mkF m 59 #[.val (.int p1)] [(.int p1)]))
            refine OGo.to (fun _ k => X0.ldcInt hx hown (mvT hZ (hw _ (List.mem_of_getElem? (i := 9) rfl))) (g := (mkF m 59 #[.val (.int p1)] [(.int p1)])) rfl (hb hby d3_59) _ k) ?_
            show OGo p e below _ (s₁.setTop (mkF m 61 #[.val (.int p1)] [(.int (1114111 : Int32)), (.int p1)]))
            by_cases hc61_51 : (1114111 : Int32) < p1
            ·  -- pc 61: yes
              refine OGo.to (fun _ k => XS.icmpNo X0.here hx rfl (hb hby d3_61) rfl (tlt hc61_51).2.2.2 k) ?_
              show OGo p e below _ (s₁.setTop (mkF m 64 #[.val (.int p1)] []))
              refine OGo.to (fun _ k => XS.iconst X0.here hx rfl (hb hby d3_64) k) ?_
              show OGo p e below _ (s₁.setTop (mkF m 65 #[.val (.int p1)] [(.int (1 : Int32))]))
              refine OGo.to (fun _ k => XS.goto X0.here hx rfl (pc0 := 65) (pc' := 69) rfl (hb hby d3_65) (by decide) (by decide) k) ?_
              show OGo p e below _ (s₁.setTop (mkF m 69 #[.val (.int p1)] [(.int (1 : Int32))]))
              refine OGo.ret (Q := Q3 Z p1 h0 n0) X0 (some (.int (1 : Int32))) (fun h => by rw [Bd.returns] at h; cases h) Bd.notSynchronized (fun fs hr => retN X0 hx (t := .boolean) (z := (1 : Int32)) Bd.returns (by simp) (hb hby d3_69) hr) ?_ (by decide) (by decide)
              have i52 : 32 ≤ (p1).toInt := own_inlt hc3_1
              have i53 : 55296 ≤ (p1).toInt := own_inlt hc33_18
              have i54 : 57343 < (p1).toInt := own_ilt hc39_39
              have i55 : (p1).toInt ≠ 65534 := own_ine hc47_40
              have i56 : (p1).toInt ≠ 65535 := own_ine hc53_45
              have i57 : 1114111 < (p1).toInt := own_ilt hc61_51
              show Q3 Z p1 h0 n0 _ s₁.heap _
              rw [e0]
              exact ⟨congrArg (fun z => some (Value.int z)) (show (1 : Int32) = (own_exc p1) from by unfold own_exc; rw [if_neg (by unfold own_X; omega)]), N0, rfl⟩
            ·  -- pc 61: no
              refine OGo.to (fun _ k => XS.icmpYes X0.here hx rfl (pc0 := 61) (pc' := 68) rfl (hb hby d3_61) rfl (flt hc61_51).2.2.2 (by decide) (by decide) k) ?_
              show OGo p e below _ (s₁.setTop (mkF m 68 #[.val (.int p1)] []))
              refine OGo.to (fun _ k => XS.iconst X0.here hx rfl (hb hby d3_68) k) ?_
              show OGo p e below _ (s₁.setTop (mkF m 69 #[.val (.int p1)] [(.int (0 : Int32))]))
              refine OGo.ret (Q := Q3 Z p1 h0 n0) X0 (some (.int (0 : Int32))) (fun h => by rw [Bd.returns] at h; cases h) Bd.notSynchronized (fun fs hr => retN X0 hx (t := .boolean) (z := (0 : Int32)) Bd.returns (by simp) (hb hby d3_69) hr) ?_ (by decide) (by decide)
              have i58 : 32 ≤ (p1).toInt := own_inlt hc3_1
              have i59 : 55296 ≤ (p1).toInt := own_inlt hc33_18
              have i60 : 57343 < (p1).toInt := own_ilt hc39_39
              have i61 : (p1).toInt ≠ 65534 := own_ine hc47_40
              have i62 : (p1).toInt ≠ 65535 := own_ine hc53_45
              have i63 : (p1).toInt ≤ 1114111 := own_inlt hc61_51
              show Q3 Z p1 h0 n0 _ s₁.heap _
              rw [e0]
              exact ⟨congrArg (fun z => some (Value.int z)) (show (0 : Int32) = (own_exc p1) from by unfold own_exc; rw [if_pos (by unfold own_X; omega)]), N0, rfl⟩
      ·  -- pc 39: no
        refine OGo.to (fun _ k => XS.icmpNo X0.here hx rfl (hb hby d3_39) rfl (flt hc39_39).2.2.1 k) ?_
        show OGo p e below _ (s₁.setTop (mkF m 42 #[.val (.int p1)] []))
        refine OGo.to (fun _ k => XS.iconst X0.here hx rfl (hb hby d3_42) k) ?_
        show OGo p e below _ (s₁.setTop (mkF m 43 #[.val (.int p1)] [(.int (1 : Int32))]))
        refine OGo.ret (Q := Q3 Z p1 h0 n0) X0 (some (.int (1 : Int32))) (fun h => by rw [Bd.returns] at h; cases h) Bd.notSynchronized (fun fs hr => retN X0 hx (t := .boolean) (z := (1 : Int32)) Bd.returns (by simp) (hb hby d3_43) hr) ?_ (by decide) (by decide)
        have i64 : 32 ≤ (p1).toInt := own_inlt hc3_1
        have i65 : 55296 ≤ (p1).toInt := own_inlt hc33_18
        have i66 : (p1).toInt ≤ 57343 := own_inlt hc39_39
        show Q3 Z p1 h0 n0 _ s₁.heap _
        rw [e0]
        exact ⟨congrArg (fun z => some (Value.int z)) (show (1 : Int32) = (own_exc p1) from by unfold own_exc; rw [if_neg (by unfold own_X; omega)]), N0, rfl⟩
theorem d1_0 : decode method_3_code 0 = .ok (.iload_n 0, 1) := by decide +kernel
theorem d1_1 : decode method_3_code 1 = .ok (.invokestatic 12, 3) := by decide +kernel
theorem d1_4 : decode method_3_code 4 = .ok (.iload_n 0, 1) := by decide +kernel
theorem d1_5 : decode method_3_code 5 = .ok (.invokestatic 18, 3) := by decide +kernel
theorem d1_8 : decode method_3_code 8 = .ok (.ifCond .ne 7, 3) := by decide +kernel
theorem d1_11 : decode method_3_code 11 = .ok (.iconst 1, 1) := by decide +kernel
theorem d1_12 : decode method_3_code 12 = .ok (.goto 4, 3) := by decide +kernel
theorem d1_15 : decode method_3_code 15 = .ok (.iconst 0, 1) := by decide +kernel
theorem d1_16 : decode method_3_code 16 = .ok (.if_icmp .ne 7, 3) := by decide +kernel
theorem d1_19 : decode method_3_code 19 = .ok (.iconst 1, 1) := by decide +kernel
theorem d1_20 : decode method_3_code 20 = .ok (.goto 4, 3) := by decide +kernel
theorem d1_24 : decode method_3_code 24 = .ok (.ireturn, 1) := by decide +kernel
theorem ef_1 (m : MethodId) (x0 : Int32) : entryFrame m #[(.int x0)] 1 = mkF m 0 #[.val (.int x0)] [] := by first | (simp [entryFrame, mkF, argsToLocals, Value.category]; done) | rfl
def Q1 (Z : State) (p1 : Int32) (h0 : Heap) (n0 : Nat) (v : Option Value) (h : Heap) (L : List Loc) : Prop := v = some (.int (1 : Int32)) ∧ Fr n0 L ∧ h = h0
set_option maxRecDepth 65536 in
set_option maxHeartbeats 40000000 in
theorem rm1 (l : Launch) (Z : State) (a0 : Array Value) (hw : ∀ d ∈ tables_1, d.before a0 Z = true) (ws : List Jvm.Cond) (p1 : Int32) (h0 : Heap) (n0 : Nat) (Z0 : n0 ≤ h0.size) :
    MetFree l (⟨"com/example/querytrail/querytrail/trec/XmlSyntaxIsXmlCharacterPinLaw", "agrees", "(I)Z"⟩ : MethodName) (head1 (Jvm.Cond.code (⟨"com/example/querytrail/querytrail/trec/XmlSyntaxIsXmlCharacterPinLaw", "agrees", "(I)Z"⟩ : MethodName) method_3_code 1 (some .boolean) :: ws) ({ frames := 1, cells := 0, slots := 0, locals := 13 } : Room)) (fun a U => a = #[(.int p1)] ∧ Z.Warmed39 U.vm ∧ U.heap = h0) (fun _ _ _ _ _ => True) (fun _ U o U' => ∃ v L, o = .returned v ∧ Q1 Z p1 h0 n0 v U'.heap L ∧ FrameEnd U o U' L ({ frames := 1, cells := 0, slots := 0, locals := 13 } : Room).cells ({ frames := 1, cells := 0, slots := 0, locals := 13 } : Room).slots) := by
  refine MetFree.of_bodySF (plainFor_of_name pn_1) hisR ?_
  intro p e s m args below meth c s₁ Bd hml0 hP hK
  obtain ⟨rfl, hZ, hh⟩ := hP
  have hx := Bd.exec
  have hby := Bd.bytes
  have hml : c.maxLocals = 1 := hml0
  have hown : s.vm.findClass "com/example/querytrail/querytrail/trec/XmlSyntaxIsXmlCharacterPinLaw" = some m.cls := findClass_of_methodNamed Bd.named
  have hnm := (name_of_methodNamed Bd.named Bd.method).1
  have X0 : Stand p l e ({ frames := 1, cells := 0, slots := 0, locals := 13 } : Room) s m #[(.int p1)] below meth c s₁ [] 0 0 := Stand.of_body Bd
  have e0 : s₁.heap = h0 := by rw [← hh, Bd.state]; rfl
  have N0 := Fr.nil n0
  show OGo p e below (fun s₂ o => ∃ v L, o = .returned v ∧ Q1 Z p1 h0 n0 v s₂.heap L ∧ FrameEnd s o s₂ L ({ frames := 1, cells := 0, slots := 0, locals := 13 } : Room).cells ({ frames := 1, cells := 0, slots := 0, locals := 13 } : Room).slots) _
  refine OGo.to (fun _ k => castTop (ef_1 m p1) k) ?_
  refine OGo.to (fun _ k => XS.iloadN X0.here hx rfl (hb hby d1_0) rfl k) ?_
  show OGo p e below _ (s₁.setTop (mkF m 1 #[.val (.int p1)] [(.int p1)]))
  obtain ⟨_, T1, Lc1, X1, hQ1, st1⟩ := own_un X0 (Q := Q2 Z p1 h0 n0) (rc := 0) (rs := 0) (W := fun v B => ∀ target, Steps p.tables e below (B.setTop { (mkF m 1 #[.val (.int p1)] [(.int p1)]) with pc := 4, stack := v.toList ++ [] }) target → Steps p.tables e below (s₁.setTop (mkF m 1 #[.val (.int p1)] [(.int p1)])) target) <| Jvm.LawKit.callS X0 hx (y := (⟨"com/example/querytrail/querytrail/trec/XmlSyntax", "isXmlCharacter", "(I)Z"⟩ : MethodName)) hown (mvT hZ (hw _ (List.mem_of_getElem? (i := 17) rfl))) (mvT hZ (hw _ (List.mem_of_getElem? (i := 18) rfl))) (mvT hZ (hw _ (List.mem_of_getElem? (i := 19) rfl))) (mvT hZ (hw _ (List.mem_of_getElem? (i := 20) rfl))) (by decide) (backOf (W := 0) (rm2 l Z a0 hw [] p1 h0 n0 Z0 ) hZ (hw _ (List.mem_of_getElem? (i := 20) rfl)) (hw _ (List.mem_of_getElem? (i := 19) rfl)) (by decide) (by decide)) (g := (mkF m 1 #[.val (.int p1)] [(.int p1)])) rfl (by rw [hml]; rfl) (argsL := [(.int p1)]) (rest := []) (lenOf pd_0 rfl) rfl (by show 2 * 0 + _ ≤ _; exact Nat.le_of_eq rfl) (hb hby d1_1) (fun _ _ => ⟨rfl, e0, (by decide : 0 + 0 ≤ _), (by decide : 0 + 0 ≤ _)⟩)
  obtain ⟨rfl, N1q, e1⟩ := hQ1
  have N1 := Fr.app N0 N1q
  refine OGo.to st1 ?_
  show OGo p e below _ (T1.setTop (mkF m 4 #[.val (.int p1)] [(.int (own_xml p1))]))
  refine OGo.to (fun _ k => XS.iloadN X1.here hx rfl (hb hby d1_4) rfl k) ?_
  show OGo p e below _ (T1.setTop (mkF m 5 #[.val (.int p1)] [(.int p1), (.int (own_xml p1))]))
  obtain ⟨_, T2, Lc2, X2, hQ2, st2⟩ := own_un X1 (Q := Q3 Z p1 h0 n0) (rc := 0) (rs := 0) (W := fun v B => ∀ target, Steps p.tables e below (B.setTop { (mkF m 5 #[.val (.int p1)] [(.int p1), (.int (own_xml p1))]) with pc := 8, stack := v.toList ++ [(.int (own_xml p1))] }) target → Steps p.tables e below (T1.setTop (mkF m 5 #[.val (.int p1)] [(.int p1), (.int (own_xml p1))])) target) <| Jvm.LawKit.callS X1 hx (y := (⟨"com/example/querytrail/querytrail/trec/XmlSyntaxIsXmlCharacterPinLaw", "excluded", "(I)Z"⟩ : MethodName)) hown (mvT hZ (hw _ (List.mem_of_getElem? (i := 23) rfl))) (mvT hZ (hw _ (List.mem_of_getElem? (i := 24) rfl))) (mvT hZ (hw _ (List.mem_of_getElem? (i := 15) rfl))) (mvT hZ (hw _ (List.mem_of_getElem? (i := 25) rfl))) (by decide) (backOf (W := 1) (rm3 l Z a0 hw [] p1 h0 n0 Z0 ) hZ (hw _ (List.mem_of_getElem? (i := 25) rfl)) (hw _ (List.mem_of_getElem? (i := 15) rfl)) (by decide) (by decide)) (g := (mkF m 5 #[.val (.int p1)] [(.int p1), (.int (own_xml p1))])) rfl (by rw [hml]; rfl) (argsL := [(.int p1)]) (rest := [(.int (own_xml p1))]) (lenOf pd_0 rfl) rfl (by show 2 * 0 + _ ≤ _; exact Nat.le_of_eq rfl) (hb hby d1_5) (fun _ _ => ⟨rfl, e1, (by decide : 0 + 0 ≤ _), (by decide : 0 + 0 ≤ _)⟩)
  obtain ⟨rfl, N2q, e2⟩ := hQ2
  have N2 := Fr.app N1 N2q
  refine OGo.to st2 ?_
  show OGo p e below _ (T2.setTop (mkF m 8 #[.val (.int p1)] [(.int (own_exc p1)), (.int (own_xml p1))]))
  by_cases hc8_3 : (own_exc p1) = (0 : Int32)
  ·  -- pc 8: yes
    refine OGo.to (fun _ k => XS.ifNo X2.here hx rfl (hb hby d1_8) rfl ((if0 _ _).trans (teq hc8_3).2) k) ?_
    show OGo p e below _ (T2.setTop (mkF m 11 #[.val (.int p1)] [(.int (own_xml p1))]))
    refine OGo.to (fun _ k => XS.iconst X2.here hx rfl (hb hby d1_11) k) ?_
    show OGo p e below _ (T2.setTop (mkF m 12 #[.val (.int p1)] [(.int (1 : Int32)), (.int (own_xml p1))]))
    refine OGo.to (fun _ k => XS.goto X2.here hx rfl (pc0 := 12) (pc' := 16) rfl (hb hby d1_12) (by decide) (by decide) k) ?_
    show OGo p e below _ (T2.setTop (mkF m 16 #[.val (.int p1)] [(.int (1 : Int32)), (.int (own_xml p1))]))
    have hc16_4 : (own_xml p1) = (1 : Int32) := (own_agree p1).1 hc8_3
    refine OGo.to (fun _ k => XS.icmpNo X2.here hx rfl (hb hby d1_16) rfl (teq hc16_4).2 k) ?_
    show OGo p e below _ (T2.setTop (mkF m 19 #[.val (.int p1)] []))
    refine OGo.to (fun _ k => XS.iconst X2.here hx rfl (hb hby d1_19) k) ?_
    show OGo p e below _ (T2.setTop (mkF m 20 #[.val (.int p1)] [(.int (1 : Int32))]))
    refine OGo.to (fun _ k => XS.goto X2.here hx rfl (pc0 := 20) (pc' := 24) rfl (hb hby d1_20) (by decide) (by decide) k) ?_
    show OGo p e below _ (T2.setTop (mkF m 24 #[.val (.int p1)] [(.int (1 : Int32))]))
    refine OGo.ret (Q := Q1 Z p1 h0 n0) X2 (some (.int (1 : Int32))) (fun h => by rw [Bd.returns] at h; cases h) Bd.notSynchronized (fun fs hr => retN X2 hx (t := .boolean) (z := (1 : Int32)) Bd.returns (by simp) (hb hby d1_24) hr) ?_ (by decide) (by decide)
    show Q1 Z p1 h0 n0 _ T2.heap _
    rw [e2]
    exact ⟨rfl, N2, rfl⟩
  ·  -- pc 8: no
    refine OGo.to (fun _ k => XS.ifYes X2.here hx rfl (pc0 := 8) (pc' := 15) rfl (hb hby d1_8) rfl ((if0 _ _).trans (feq hc8_3).2) (by decide) (by decide) k) ?_
    show OGo p e below _ (T2.setTop (mkF m 15 #[.val (.int p1)] [(.int (own_xml p1))]))
    refine OGo.to (fun _ k => XS.iconst X2.here hx rfl (hb hby d1_15) k) ?_
    show OGo p e below _ (T2.setTop (mkF m 16 #[.val (.int p1)] [(.int (0 : Int32)), (.int (own_xml p1))]))
    have hc16_5 : (own_xml p1) = (0 : Int32) := (own_agree p1).2 hc8_3
    refine OGo.to (fun _ k => XS.icmpNo X2.here hx rfl (hb hby d1_16) rfl (teq hc16_5).2 k) ?_
    show OGo p e below _ (T2.setTop (mkF m 19 #[.val (.int p1)] []))
    refine OGo.to (fun _ k => XS.iconst X2.here hx rfl (hb hby d1_19) k) ?_
    show OGo p e below _ (T2.setTop (mkF m 20 #[.val (.int p1)] [(.int (1 : Int32))]))
    refine OGo.to (fun _ k => XS.goto X2.here hx rfl (pc0 := 20) (pc' := 24) rfl (hb hby d1_20) (by decide) (by decide) k) ?_
    show OGo p e below _ (T2.setTop (mkF m 24 #[.val (.int p1)] [(.int (1 : Int32))]))
    refine OGo.ret (Q := Q1 Z p1 h0 n0) X2 (some (.int (1 : Int32))) (fun h => by rw [Bd.returns] at h; cases h) Bd.notSynchronized (fun fs hr => retN X2 hx (t := .boolean) (z := (1 : Int32)) Bd.returns (by simp) (hb hby d1_24) hr) ?_ (by decide) (by decide)
    show Q1 Z p1 h0 n0 _ T2.heap _
    rw [e2]
    exact ⟨rfl, N2, rfl⟩
theorem ef_0 (m : MethodId) (x0 : Int32) (x1 : Int32) : entryFrame m #[(.int x0), (.int x1)] maxLocals = mkF m 0 #[.val (.int x0), .val (.int x1), .unset, .unset, .unset, .unset] [] := by first | (simp [entryFrame, mkF, argsToLocals, Value.category, maxLocals]; done) | rfl
def Q0 (Z : State) (p1 : Int32) (p2 : Int32) (h0 : Heap) (n0 : Nat) (v : Option Value) (h : Heap) (L : List Loc) : Prop := v = some (.int (1 : Int32)) ∧ Fr n0 L
set_option maxRecDepth 65536 in
set_option maxHeartbeats 40000000 in
theorem rm0 (l : Launch) (Z : State) (a0 : Array Value) (hw : ∀ d ∈ tables_1, d.before a0 Z = true) (ws : List Jvm.Cond) (p1 : Int32) (p2 : Int32) (h0 : Heap) (n0 : Nat) (Z0 : n0 ≤ h0.size) :
    MetFree l x (head1 (Jvm.Cond.code x code maxLocals ret :: ws) room_1) (fun a U => a = #[(.int p1), (.int p2)] ∧ Z.Warmed39 U.vm ∧ U.heap = h0) (fun _ _ _ _ _ => True) (fun _ U o U' => ∃ v L, o = .returned v ∧ Q0 Z p1 p2 h0 n0 v U'.heap L ∧ FrameEnd U o U' L room_1.cells room_1.slots) := by
  refine MetFree.of_bodySF (plainFor_of_name pn_1) hisR ?_
  intro p e s m args below meth c s₁ Bd hml0 hP hK
  obtain ⟨rfl, hZ, hh⟩ := hP
  have hx := Bd.exec
  have hby := Bd.bytes
  have hml : c.maxLocals = 6 := hml0
  have hown : s.vm.findClass "com/example/querytrail/querytrail/trec/XmlSyntaxIsXmlCharacterPinLaw" = some m.cls := findClass_of_methodNamed Bd.named
  have hnm := (name_of_methodNamed Bd.named Bd.method).1
  have X0 : Stand p l e room_1 s m #[(.int p1), (.int p2)] below meth c s₁ [] 0 0 := Stand.of_body Bd
  have e0 : s₁.heap = h0 := by rw [← hh, Bd.state]; rfl
  have N0 := Fr.nil n0
  show OGo p e below (fun s₂ o => ∃ v L, o = .returned v ∧ Q0 Z p1 p2 h0 n0 v s₂.heap L ∧ FrameEnd s o s₂ L room_1.cells room_1.slots) _
  refine OGo.to (fun _ k => castTop (ef_0 m p1 p2) k) ?_
  refine OGo.to (fun _ k => XS.bipush X0.here hx rfl (hb hby at_0) k) ?_
  show OGo p e below _ (s₁.setTop (mkF m 2 #[.val (.int p1), .val (.int p2), .unset, .unset, .unset, .unset] [(.int (23 : Int32))]))
  obtain ⟨T1, h1, k1, X1, e1, E1, A1, st1⟩ := newP X0 hx hZ (hw _ (List.mem_of_getElem? (i := 0) rfl)) e0 (g := (mkF m 2 #[.val (.int p1), .val (.int p2), .unset, .unset, .unset, .unset] [(.int (23 : Int32))])) rfl (hb hby at_2) rfl (by decide) (cap := 23) (by decide) (by decide) (by decide) (by decide)
  obtain ⟨b1, g1⟩ : ∃ z, z = h0.size := ⟨_, rfl⟩
  rw [← g1] at A1 st1
  have g_b1 : n0 ≤ b1 := Nat.le_trans Z0 (Nat.le_of_eq g1.symm)
  refine OGo.to st1 ?_
  have z2 : n0 ≤ h1.size := Nat.le_trans Z0 E1.1
  have V1 : Arv Z h1 b1 k1 .int (23 : Int32) [(.int (0 : Int32)), (.int (0 : Int32)), (.int (0 : Int32)), (.int (0 : Int32)), (.int (0 : Int32)), (.int (0 : Int32)), (.int (0 : Int32)), (.int (0 : Int32)), (.int (0 : Int32)), (.int (0 : Int32)), (.int (0 : Int32)), (.int (0 : Int32)), (.int (0 : Int32)), (.int (0 : Int32)), (.int (0 : Int32)), (.int (0 : Int32)), (.int (0 : Int32)), (.int (0 : Int32)), (.int (0 : Int32)), (.int (0 : Int32)), (.int (0 : Int32)), (.int (0 : Int32)), (.int (0 : Int32))] (.int (0 : Int32)) := (Arv.new A1 (by decide)).pad (pad_rep [] (.int (0 : Int32)) 23)
  show OGo p e below _ (T1.setTop (mkF m 4 #[.val (.int p1), .val (.int p2), .unset, .unset, .unset, .unset] [(.ref b1)]))
  refine OGo.to (fun _ k => XS.dup X1.here hx rfl (hb hby at_4) rfl rfl k) ?_
  show OGo p e below _ (T1.setTop (mkF m 5 #[.val (.int p1), .val (.int p2), .unset, .unset, .unset, .unset] [(.ref b1), (.ref b1)]))
  refine OGo.to (fun _ k => XS.iconst X1.here hx rfl (hb hby at_5) k) ?_
  show OGo p e below _ (T1.setTop (mkF m 6 #[.val (.int p1), .val (.int p2), .unset, .unset, .unset, .unset] [(.int (0 : Int32)), (.ref b1), (.ref b1)]))
  refine OGo.to (fun _ k => XS.iconst X1.here hx rfl (hb hby at_6) k) ?_
  show OGo p e below _ (T1.setTop (mkF m 7 #[.val (.int p1), .val (.int p2), .unset, .unset, .unset, .unset] [(.int (0 : Int32)), (.int (0 : Int32)), (.ref b1), (.ref b1)]))
  have Vq3 := V1
  obtain ⟨cl3, Ar3, q3, S3, M3, Hs3, G3⟩ := Vq3
  have hin4 : ¬ ((0 : Int32) < 0 ∨ cl3.slots.size ≤ ((0 : Int32)).toNatClampNeg) := inb_of S3 ⟨by decide, by decide⟩
  obtain ⟨T4, h4, X4, e4, W4, st4⟩ := stI X1 hx hZ e1 Ar3 (j := (0 : Int32)) hin4 (g := (mkF m 7 #[.val (.int p1), .val (.int p2), .unset, .unset, .unset, .unset] [(.int (0 : Int32)), (.int (0 : Int32)), (.ref b1), (.ref b1)])) rfl rfl (hb hby at_7)
  refine OGo.to st4 ?_
  have V4 : Arv Z h4 b1 k1 .int (23 : Int32) [(.int (0 : Int32)), (.int (0 : Int32)), (.int (0 : Int32)), (.int (0 : Int32)), (.int (0 : Int32)), (.int (0 : Int32)), (.int (0 : Int32)), (.int (0 : Int32)), (.int (0 : Int32)), (.int (0 : Int32)), (.int (0 : Int32)), (.int (0 : Int32)), (.int (0 : Int32)), (.int (0 : Int32)), (.int (0 : Int32)), (.int (0 : Int32)), (.int (0 : Int32)), (.int (0 : Int32)), (.int (0 : Int32)), (.int (0 : Int32)), (.int (0 : Int32)), (.int (0 : Int32)), (.int (0 : Int32))] (.int (0 : Int32)) := Arv.set Ar3 q3 S3 M3 Hs3 G3 rfl W4 0 rfl (Nat.le_of_ble_eq_true rfl)
  have N4 := Fr.snoc X4 N0 g_b1
  have z5 : n0 ≤ h4.size := Nat.le_trans z2 (Keep.of_wr W4).1
  show OGo p e below _ (T4.setTop (mkF m 8 #[.val (.int p1), .val (.int p2), .unset, .unset, .unset, .unset] [(.ref b1)]))
  refine OGo.to (fun _ k => XS.dup X4.here hx rfl (hb hby at_8) rfl rfl k) ?_
  show OGo p e below _ (T4.setTop (mkF m 9 #[.val (.int p1), .val (.int p2), .unset, .unset, .unset, .unset] [(.ref b1), (.ref b1)]))
  refine OGo.to (fun _ k => XS.iconst X4.here hx rfl (hb hby at_9) k) ?_
  show OGo p e below _ (T4.setTop (mkF m 10 #[.val (.int p1), .val (.int p2), .unset, .unset, .unset, .unset] [(.int (1 : Int32)), (.ref b1), (.ref b1)]))
  refine OGo.to (fun _ k => XS.bipush X4.here hx rfl (hb hby at_10) k) ?_
  show OGo p e below _ (T4.setTop (mkF m 12 #[.val (.int p1), .val (.int p2), .unset, .unset, .unset, .unset] [(.int (8 : Int32)), (.int (1 : Int32)), (.ref b1), (.ref b1)]))
  have Vq6 := V4
  obtain ⟨cl6, Ar6, q6, S6, M6, Hs6, G6⟩ := Vq6
  have hin7 : ¬ ((1 : Int32) < 0 ∨ cl6.slots.size ≤ ((1 : Int32)).toNatClampNeg) := inb_of S6 ⟨by decide, by decide⟩
  obtain ⟨T7, h7, X7, e7, W7, st7⟩ := stI X4 hx hZ e4 Ar6 (j := (1 : Int32)) hin7 (g := (mkF m 12 #[.val (.int p1), .val (.int p2), .unset, .unset, .unset, .unset] [(.int (8 : Int32)), (.int (1 : Int32)), (.ref b1), (.ref b1)])) rfl rfl (hb hby at_12)
  refine OGo.to st7 ?_
  have V7 : Arv Z h7 b1 k1 .int (23 : Int32) [(.int (0 : Int32)), (.int (8 : Int32)), (.int (0 : Int32)), (.int (0 : Int32)), (.int (0 : Int32)), (.int (0 : Int32)), (.int (0 : Int32)), (.int (0 : Int32)), (.int (0 : Int32)), (.int (0 : Int32)), (.int (0 : Int32)), (.int (0 : Int32)), (.int (0 : Int32)), (.int (0 : Int32)), (.int (0 : Int32)), (.int (0 : Int32)), (.int (0 : Int32)), (.int (0 : Int32)), (.int (0 : Int32)), (.int (0 : Int32)), (.int (0 : Int32)), (.int (0 : Int32)), (.int (0 : Int32))] (.int (0 : Int32)) := Arv.set Ar6 q6 S6 M6 Hs6 G6 rfl W7 1 rfl (Nat.le_of_ble_eq_true rfl)
  have N7 := Fr.snoc X7 N4 g_b1
  have z8 : n0 ≤ h7.size := Nat.le_trans z5 (Keep.of_wr W7).1
  show OGo p e below _ (T7.setTop (mkF m 13 #[.val (.int p1), .val (.int p2), .unset, .unset, .unset, .unset] [(.ref b1)]))
  refine OGo.to (fun _ k => XS.dup X7.here hx rfl (hb hby at_13) rfl rfl k) ?_
  show OGo p e below _ (T7.setTop (mkF m 14 #[.val (.int p1), .val (.int p2), .unset, .unset, .unset, .unset] [(.ref b1), (.ref b1)]))
  refine OGo.to (fun _ k => XS.iconst X7.here hx rfl (hb hby at_14) k) ?_
  show OGo p e below _ (T7.setTop (mkF m 15 #[.val (.int p1), .val (.int p2), .unset, .unset, .unset, .unset] [(.int (2 : Int32)), (.ref b1), (.ref b1)]))
  refine OGo.to (fun _ k => XS.bipush X7.here hx rfl (hb hby at_15) k) ?_
  show OGo p e below _ (T7.setTop (mkF m 17 #[.val (.int p1), .val (.int p2), .unset, .unset, .unset, .unset] [(.int (9 : Int32)), (.int (2 : Int32)), (.ref b1), (.ref b1)]))
  have Vq9 := V7
  obtain ⟨cl9, Ar9, q9, S9, M9, Hs9, G9⟩ := Vq9
  have hin10 : ¬ ((2 : Int32) < 0 ∨ cl9.slots.size ≤ ((2 : Int32)).toNatClampNeg) := inb_of S9 ⟨by decide, by decide⟩
  obtain ⟨T10, h10, X10, e10, W10, st10⟩ := stI X7 hx hZ e7 Ar9 (j := (2 : Int32)) hin10 (g := (mkF m 17 #[.val (.int p1), .val (.int p2), .unset, .unset, .unset, .unset] [(.int (9 : Int32)), (.int (2 : Int32)), (.ref b1), (.ref b1)])) rfl rfl (hb hby at_17)
  refine OGo.to st10 ?_
  have V10 : Arv Z h10 b1 k1 .int (23 : Int32) [(.int (0 : Int32)), (.int (8 : Int32)), (.int (9 : Int32)), (.int (0 : Int32)), (.int (0 : Int32)), (.int (0 : Int32)), (.int (0 : Int32)), (.int (0 : Int32)), (.int (0 : Int32)), (.int (0 : Int32)), (.int (0 : Int32)), (.int (0 : Int32)), (.int (0 : Int32)), (.int (0 : Int32)), (.int (0 : Int32)), (.int (0 : Int32)), (.int (0 : Int32)), (.int (0 : Int32)), (.int (0 : Int32)), (.int (0 : Int32)), (.int (0 : Int32)), (.int (0 : Int32)), (.int (0 : Int32))] (.int (0 : Int32)) := Arv.set Ar9 q9 S9 M9 Hs9 G9 rfl W10 2 rfl (Nat.le_of_ble_eq_true rfl)
  have N10 := Fr.snoc X10 N7 g_b1
  have z11 : n0 ≤ h10.size := Nat.le_trans z8 (Keep.of_wr W10).1
  show OGo p e below _ (T10.setTop (mkF m 18 #[.val (.int p1), .val (.int p2), .unset, .unset, .unset, .unset] [(.ref b1)]))
  refine OGo.to (fun _ k => XS.dup X10.here hx rfl (hb hby at_18) rfl rfl k) ?_
  show OGo p e below _ (T10.setTop (mkF m 19 #[.val (.int p1), .val (.int p2), .unset, .unset, .unset, .unset] [(.ref b1), (.ref b1)]))
  refine OGo.to (fun _ k => XS.iconst X10.here hx rfl (hb hby at_19) k) ?_
  show OGo p e below _ (T10.setTop (mkF m 20 #[.val (.int p1), .val (.int p2), .unset, .unset, .unset, .unset] [(.int (3 : Int32)), (.ref b1), (.ref b1)]))
  refine OGo.to (fun _ k => XS.bipush X10.here hx rfl (hb hby at_20) k) ?_
  show OGo p e below _ (T10.setTop (mkF m 22 #[.val (.int p1), .val (.int p2), .unset, .unset, .unset, .unset] [(.int (10 : Int32)), (.int (3 : Int32)), (.ref b1), (.ref b1)]))
  have Vq12 := V10
  obtain ⟨cl12, Ar12, q12, S12, M12, Hs12, G12⟩ := Vq12
  have hin13 : ¬ ((3 : Int32) < 0 ∨ cl12.slots.size ≤ ((3 : Int32)).toNatClampNeg) := inb_of S12 ⟨by decide, by decide⟩
  obtain ⟨T13, h13, X13, e13, W13, st13⟩ := stI X10 hx hZ e10 Ar12 (j := (3 : Int32)) hin13 (g := (mkF m 22 #[.val (.int p1), .val (.int p2), .unset, .unset, .unset, .unset] [(.int (10 : Int32)), (.int (3 : Int32)), (.ref b1), (.ref b1)])) rfl rfl (hb hby at_22)
  refine OGo.to st13 ?_
  have V13 : Arv Z h13 b1 k1 .int (23 : Int32) [(.int (0 : Int32)), (.int (8 : Int32)), (.int (9 : Int32)), (.int (10 : Int32)), (.int (0 : Int32)), (.int (0 : Int32)), (.int (0 : Int32)), (.int (0 : Int32)), (.int (0 : Int32)), (.int (0 : Int32)), (.int (0 : Int32)), (.int (0 : Int32)), (.int (0 : Int32)), (.int (0 : Int32)), (.int (0 : Int32)), (.int (0 : Int32)), (.int (0 : Int32)), (.int (0 : Int32)), (.int (0 : Int32)), (.int (0 : Int32)), (.int (0 : Int32)), (.int (0 : Int32)), (.int (0 : Int32))] (.int (0 : Int32)) := Arv.set Ar12 q12 S12 M12 Hs12 G12 rfl W13 3 rfl (Nat.le_of_ble_eq_true rfl)
  have N13 := Fr.snoc X13 N10 g_b1
  have z14 : n0 ≤ h13.size := Nat.le_trans z11 (Keep.of_wr W13).1
  show OGo p e below _ (T13.setTop (mkF m 23 #[.val (.int p1), .val (.int p2), .unset, .unset, .unset, .unset] [(.ref b1)]))
  refine OGo.to (fun _ k => XS.dup X13.here hx rfl (hb hby at_23) rfl rfl k) ?_
  show OGo p e below _ (T13.setTop (mkF m 24 #[.val (.int p1), .val (.int p2), .unset, .unset, .unset, .unset] [(.ref b1), (.ref b1)]))
  refine OGo.to (fun _ k => XS.iconst X13.here hx rfl (hb hby at_24) k) ?_
  show OGo p e below _ (T13.setTop (mkF m 25 #[.val (.int p1), .val (.int p2), .unset, .unset, .unset, .unset] [(.int (4 : Int32)), (.ref b1), (.ref b1)]))
  refine OGo.to (fun _ k => XS.bipush X13.here hx rfl (hb hby at_25) k) ?_
  show OGo p e below _ (T13.setTop (mkF m 27 #[.val (.int p1), .val (.int p2), .unset, .unset, .unset, .unset] [(.int (11 : Int32)), (.int (4 : Int32)), (.ref b1), (.ref b1)]))
  have Vq15 := V13
  obtain ⟨cl15, Ar15, q15, S15, M15, Hs15, G15⟩ := Vq15
  have hin16 : ¬ ((4 : Int32) < 0 ∨ cl15.slots.size ≤ ((4 : Int32)).toNatClampNeg) := inb_of S15 ⟨by decide, by decide⟩
  obtain ⟨T16, h16, X16, e16, W16, st16⟩ := stI X13 hx hZ e13 Ar15 (j := (4 : Int32)) hin16 (g := (mkF m 27 #[.val (.int p1), .val (.int p2), .unset, .unset, .unset, .unset] [(.int (11 : Int32)), (.int (4 : Int32)), (.ref b1), (.ref b1)])) rfl rfl (hb hby at_27)
  refine OGo.to st16 ?_
  have V16 : Arv Z h16 b1 k1 .int (23 : Int32) [(.int (0 : Int32)), (.int (8 : Int32)), (.int (9 : Int32)), (.int (10 : Int32)), (.int (11 : Int32)), (.int (0 : Int32)), (.int (0 : Int32)), (.int (0 : Int32)), (.int (0 : Int32)), (.int (0 : Int32)), (.int (0 : Int32)), (.int (0 : Int32)), (.int (0 : Int32)), (.int (0 : Int32)), (.int (0 : Int32)), (.int (0 : Int32)), (.int (0 : Int32)), (.int (0 : Int32)), (.int (0 : Int32)), (.int (0 : Int32)), (.int (0 : Int32)), (.int (0 : Int32)), (.int (0 : Int32))] (.int (0 : Int32)) := Arv.set Ar15 q15 S15 M15 Hs15 G15 rfl W16 4 rfl (Nat.le_of_ble_eq_true rfl)
  have N16 := Fr.snoc X16 N13 g_b1
  have z17 : n0 ≤ h16.size := Nat.le_trans z14 (Keep.of_wr W16).1
  show OGo p e below _ (T16.setTop (mkF m 28 #[.val (.int p1), .val (.int p2), .unset, .unset, .unset, .unset] [(.ref b1)]))
  refine OGo.to (fun _ k => XS.dup X16.here hx rfl (hb hby at_28) rfl rfl k) ?_
  show OGo p e below _ (T16.setTop (mkF m 29 #[.val (.int p1), .val (.int p2), .unset, .unset, .unset, .unset] [(.ref b1), (.ref b1)]))
  refine OGo.to (fun _ k => XS.iconst X16.here hx rfl (hb hby at_29) k) ?_
  show OGo p e below _ (T16.setTop (mkF m 30 #[.val (.int p1), .val (.int p2), .unset, .unset, .unset, .unset] [(.int (5 : Int32)), (.ref b1), (.ref b1)]))
  refine OGo.to (fun _ k => XS.bipush X16.here hx rfl (hb hby at_30) k) ?_
  show OGo p e below _ (T16.setTop (mkF m 32 #[.val (.int p1), .val (.int p2), .unset, .unset, .unset, .unset] [(.int (12 : Int32)), (.int (5 : Int32)), (.ref b1), (.ref b1)]))
  have Vq18 := V16
  obtain ⟨cl18, Ar18, q18, S18, M18, Hs18, G18⟩ := Vq18
  have hin19 : ¬ ((5 : Int32) < 0 ∨ cl18.slots.size ≤ ((5 : Int32)).toNatClampNeg) := inb_of S18 ⟨by decide, by decide⟩
  obtain ⟨T19, h19, X19, e19, W19, st19⟩ := stI X16 hx hZ e16 Ar18 (j := (5 : Int32)) hin19 (g := (mkF m 32 #[.val (.int p1), .val (.int p2), .unset, .unset, .unset, .unset] [(.int (12 : Int32)), (.int (5 : Int32)), (.ref b1), (.ref b1)])) rfl rfl (hb hby at_32)
  refine OGo.to st19 ?_
  have V19 : Arv Z h19 b1 k1 .int (23 : Int32) [(.int (0 : Int32)), (.int (8 : Int32)), (.int (9 : Int32)), (.int (10 : Int32)), (.int (11 : Int32)), (.int (12 : Int32)), (.int (0 : Int32)), (.int (0 : Int32)), (.int (0 : Int32)), (.int (0 : Int32)), (.int (0 : Int32)), (.int (0 : Int32)), (.int (0 : Int32)), (.int (0 : Int32)), (.int (0 : Int32)), (.int (0 : Int32)), (.int (0 : Int32)), (.int (0 : Int32)), (.int (0 : Int32)), (.int (0 : Int32)), (.int (0 : Int32)), (.int (0 : Int32)), (.int (0 : Int32))] (.int (0 : Int32)) := Arv.set Ar18 q18 S18 M18 Hs18 G18 rfl W19 5 rfl (Nat.le_of_ble_eq_true rfl)
  have N19 := Fr.snoc X19 N16 g_b1
  have z20 : n0 ≤ h19.size := Nat.le_trans z17 (Keep.of_wr W19).1
  show OGo p e below _ (T19.setTop (mkF m 33 #[.val (.int p1), .val (.int p2), .unset, .unset, .unset, .unset] [(.ref b1)]))
  refine OGo.to (fun _ k => XS.dup X19.here hx rfl (hb hby at_33) rfl rfl k) ?_
  show OGo p e below _ (T19.setTop (mkF m 34 #[.val (.int p1), .val (.int p2), .unset, .unset, .unset, .unset] [(.ref b1), (.ref b1)]))
  refine OGo.to (fun _ k => XS.bipush X19.here hx rfl (hb hby at_34) k) ?_
  show OGo p e below _ (T19.setTop (mkF m 36 #[.val (.int p1), .val (.int p2), .unset, .unset, .unset, .unset] [(.int (6 : Int32)), (.ref b1), (.ref b1)]))
  refine OGo.to (fun _ k => XS.bipush X19.here hx rfl (hb hby at_36) k) ?_
  show OGo p e below _ (T19.setTop (mkF m 38 #[.val (.int p1), .val (.int p2), .unset, .unset, .unset, .unset] [(.int (13 : Int32)), (.int (6 : Int32)), (.ref b1), (.ref b1)]))
  have Vq21 := V19
  obtain ⟨cl21, Ar21, q21, S21, M21, Hs21, G21⟩ := Vq21
  have hin22 : ¬ ((6 : Int32) < 0 ∨ cl21.slots.size ≤ ((6 : Int32)).toNatClampNeg) := inb_of S21 ⟨by decide, by decide⟩
  obtain ⟨T22, h22, X22, e22, W22, st22⟩ := stI X19 hx hZ e19 Ar21 (j := (6 : Int32)) hin22 (g := (mkF m 38 #[.val (.int p1), .val (.int p2), .unset, .unset, .unset, .unset] [(.int (13 : Int32)), (.int (6 : Int32)), (.ref b1), (.ref b1)])) rfl rfl (hb hby at_38)
  refine OGo.to st22 ?_
  have V22 : Arv Z h22 b1 k1 .int (23 : Int32) [(.int (0 : Int32)), (.int (8 : Int32)), (.int (9 : Int32)), (.int (10 : Int32)), (.int (11 : Int32)), (.int (12 : Int32)), (.int (13 : Int32)), (.int (0 : Int32)), (.int (0 : Int32)), (.int (0 : Int32)), (.int (0 : Int32)), (.int (0 : Int32)), (.int (0 : Int32)), (.int (0 : Int32)), (.int (0 : Int32)), (.int (0 : Int32)), (.int (0 : Int32)), (.int (0 : Int32)), (.int (0 : Int32)), (.int (0 : Int32)), (.int (0 : Int32)), (.int (0 : Int32)), (.int (0 : Int32))] (.int (0 : Int32)) := Arv.set Ar21 q21 S21 M21 Hs21 G21 rfl W22 6 rfl (Nat.le_of_ble_eq_true rfl)
  have N22 := Fr.snoc X22 N19 g_b1
  have z23 : n0 ≤ h22.size := Nat.le_trans z20 (Keep.of_wr W22).1
  show OGo p e below _ (T22.setTop (mkF m 39 #[.val (.int p1), .val (.int p2), .unset, .unset, .unset, .unset] [(.ref b1)]))
  refine OGo.to (fun _ k => XS.dup X22.here hx rfl (hb hby at_39) rfl rfl k) ?_
  show OGo p e below _ (T22.setTop (mkF m 40 #[.val (.int p1), .val (.int p2), .unset, .unset, .unset, .unset] [(.ref b1), (.ref b1)]))
  refine OGo.to (fun _ k => XS.bipush X22.here hx rfl (hb hby at_40) k) ?_
  show OGo p e below _ (T22.setTop (mkF m 42 #[.val (.int p1), .val (.int p2), .unset, .unset, .unset, .unset] [(.int (7 : Int32)), (.ref b1), (.ref b1)]))
  refine OGo.to (fun _ k => XS.bipush X22.here hx rfl (hb hby at_42) k) ?_
  show OGo p e below _ (T22.setTop (mkF m 44 #[.val (.int p1), .val (.int p2), .unset, .unset, .unset, .unset] [(.int (14 : Int32)), (.int (7 : Int32)), (.ref b1), (.ref b1)]))
  have Vq24 := V22
  obtain ⟨cl24, Ar24, q24, S24, M24, Hs24, G24⟩ := Vq24
  have hin25 : ¬ ((7 : Int32) < 0 ∨ cl24.slots.size ≤ ((7 : Int32)).toNatClampNeg) := inb_of S24 ⟨by decide, by decide⟩
  obtain ⟨T25, h25, X25, e25, W25, st25⟩ := stI X22 hx hZ e22 Ar24 (j := (7 : Int32)) hin25 (g := (mkF m 44 #[.val (.int p1), .val (.int p2), .unset, .unset, .unset, .unset] [(.int (14 : Int32)), (.int (7 : Int32)), (.ref b1), (.ref b1)])) rfl rfl (hb hby at_44)
  refine OGo.to st25 ?_
  have V25 : Arv Z h25 b1 k1 .int (23 : Int32) [(.int (0 : Int32)), (.int (8 : Int32)), (.int (9 : Int32)), (.int (10 : Int32)), (.int (11 : Int32)), (.int (12 : Int32)), (.int (13 : Int32)), (.int (14 : Int32)), (.int (0 : Int32)), (.int (0 : Int32)), (.int (0 : Int32)), (.int (0 : Int32)), (.int (0 : Int32)), (.int (0 : Int32)), (.int (0 : Int32)), (.int (0 : Int32)), (.int (0 : Int32)), (.int (0 : Int32)), (.int (0 : Int32)), (.int (0 : Int32)), (.int (0 : Int32)), (.int (0 : Int32)), (.int (0 : Int32))] (.int (0 : Int32)) := Arv.set Ar24 q24 S24 M24 Hs24 G24 rfl W25 7 rfl (Nat.le_of_ble_eq_true rfl)
  have N25 := Fr.snoc X25 N22 g_b1
  have z26 : n0 ≤ h25.size := Nat.le_trans z23 (Keep.of_wr W25).1
  show OGo p e below _ (T25.setTop (mkF m 45 #[.val (.int p1), .val (.int p2), .unset, .unset, .unset, .unset] [(.ref b1)]))
  refine OGo.to (fun _ k => XS.dup X25.here hx rfl (hb hby at_45) rfl rfl k) ?_
  show OGo p e below _ (T25.setTop (mkF m 46 #[.val (.int p1), .val (.int p2), .unset, .unset, .unset, .unset] [(.ref b1), (.ref b1)]))
  refine OGo.to (fun _ k => XS.bipush X25.here hx rfl (hb hby at_46) k) ?_
  show OGo p e below _ (T25.setTop (mkF m 48 #[.val (.int p1), .val (.int p2), .unset, .unset, .unset, .unset] [(.int (8 : Int32)), (.ref b1), (.ref b1)]))
  refine OGo.to (fun _ k => XS.bipush X25.here hx rfl (hb hby at_48) k) ?_
  show OGo p e below _ (T25.setTop (mkF m 50 #[.val (.int p1), .val (.int p2), .unset, .unset, .unset, .unset] [(.int (31 : Int32)), (.int (8 : Int32)), (.ref b1), (.ref b1)]))
  have Vq27 := V25
  obtain ⟨cl27, Ar27, q27, S27, M27, Hs27, G27⟩ := Vq27
  have hin28 : ¬ ((8 : Int32) < 0 ∨ cl27.slots.size ≤ ((8 : Int32)).toNatClampNeg) := inb_of S27 ⟨by decide, by decide⟩
  obtain ⟨T28, h28, X28, e28, W28, st28⟩ := stI X25 hx hZ e25 Ar27 (j := (8 : Int32)) hin28 (g := (mkF m 50 #[.val (.int p1), .val (.int p2), .unset, .unset, .unset, .unset] [(.int (31 : Int32)), (.int (8 : Int32)), (.ref b1), (.ref b1)])) rfl rfl (hb hby at_50)
  refine OGo.to st28 ?_
  have V28 : Arv Z h28 b1 k1 .int (23 : Int32) [(.int (0 : Int32)), (.int (8 : Int32)), (.int (9 : Int32)), (.int (10 : Int32)), (.int (11 : Int32)), (.int (12 : Int32)), (.int (13 : Int32)), (.int (14 : Int32)), (.int (31 : Int32)), (.int (0 : Int32)), (.int (0 : Int32)), (.int (0 : Int32)), (.int (0 : Int32)), (.int (0 : Int32)), (.int (0 : Int32)), (.int (0 : Int32)), (.int (0 : Int32)), (.int (0 : Int32)), (.int (0 : Int32)), (.int (0 : Int32)), (.int (0 : Int32)), (.int (0 : Int32)), (.int (0 : Int32))] (.int (0 : Int32)) := Arv.set Ar27 q27 S27 M27 Hs27 G27 rfl W28 8 rfl (Nat.le_of_ble_eq_true rfl)
  have N28 := Fr.snoc X28 N25 g_b1
  have z29 : n0 ≤ h28.size := Nat.le_trans z26 (Keep.of_wr W28).1
  show OGo p e below _ (T28.setTop (mkF m 51 #[.val (.int p1), .val (.int p2), .unset, .unset, .unset, .unset] [(.ref b1)]))
  refine OGo.to (fun _ k => XS.dup X28.here hx rfl (hb hby at_51) rfl rfl k) ?_
  show OGo p e below _ (T28.setTop (mkF m 52 #[.val (.int p1), .val (.int p2), .unset, .unset, .unset, .unset] [(.ref b1), (.ref b1)]))
  refine OGo.to (fun _ k => XS.bipush X28.here hx rfl (hb hby at_52) k) ?_
  show OGo p e below _ (T28.setTop (mkF m 54 #[.val (.int p1), .val (.int p2), .unset, .unset, .unset, .unset] [(.int (9 : Int32)), (.ref b1), (.ref b1)]))
  refine OGo.to (fun _ k => XS.bipush X28.here hx rfl (hb hby at_54) k) ?_
  show OGo p e below _ (T28.setTop (mkF m 56 #[.val (.int p1), .val (.int p2), .unset, .unset, .unset, .unset] [(.int (32 : Int32)), (.int (9 : Int32)), (.ref b1), (.ref b1)]))
  have Vq30 := V28
  obtain ⟨cl30, Ar30, q30, S30, M30, Hs30, G30⟩ := Vq30
  have hin31 : ¬ ((9 : Int32) < 0 ∨ cl30.slots.size ≤ ((9 : Int32)).toNatClampNeg) := inb_of S30 ⟨by decide, by decide⟩
  obtain ⟨T31, h31, X31, e31, W31, st31⟩ := stI X28 hx hZ e28 Ar30 (j := (9 : Int32)) hin31 (g := (mkF m 56 #[.val (.int p1), .val (.int p2), .unset, .unset, .unset, .unset] [(.int (32 : Int32)), (.int (9 : Int32)), (.ref b1), (.ref b1)])) rfl rfl (hb hby at_56)
  refine OGo.to st31 ?_
  have V31 : Arv Z h31 b1 k1 .int (23 : Int32) [(.int (0 : Int32)), (.int (8 : Int32)), (.int (9 : Int32)), (.int (10 : Int32)), (.int (11 : Int32)), (.int (12 : Int32)), (.int (13 : Int32)), (.int (14 : Int32)), (.int (31 : Int32)), (.int (32 : Int32)), (.int (0 : Int32)), (.int (0 : Int32)), (.int (0 : Int32)), (.int (0 : Int32)), (.int (0 : Int32)), (.int (0 : Int32)), (.int (0 : Int32)), (.int (0 : Int32)), (.int (0 : Int32)), (.int (0 : Int32)), (.int (0 : Int32)), (.int (0 : Int32)), (.int (0 : Int32))] (.int (0 : Int32)) := Arv.set Ar30 q30 S30 M30 Hs30 G30 rfl W31 9 rfl (Nat.le_of_ble_eq_true rfl)
  have N31 := Fr.snoc X31 N28 g_b1
  have z32 : n0 ≤ h31.size := Nat.le_trans z29 (Keep.of_wr W31).1
  show OGo p e below _ (T31.setTop (mkF m 57 #[.val (.int p1), .val (.int p2), .unset, .unset, .unset, .unset] [(.ref b1)]))
  refine OGo.to (fun _ k => XS.dup X31.here hx rfl (hb hby at_57) rfl rfl k) ?_
  show OGo p e below _ (T31.setTop (mkF m 58 #[.val (.int p1), .val (.int p2), .unset, .unset, .unset, .unset] [(.ref b1), (.ref b1)]))
  refine OGo.to (fun _ k => XS.bipush X31.here hx rfl (hb hby at_58) k) ?_
  show OGo p e below _ (T31.setTop (mkF m 60 #[.val (.int p1), .val (.int p2), .unset, .unset, .unset, .unset] [(.int (10 : Int32)), (.ref b1), (.ref b1)]))
  refine OGo.to (fun _ k => X31.ldcInt hx hown (mvT hZ (hw _ (List.mem_of_getElem? (i := 1) rfl))) (g := (mkF m 60 #[.val (.int p1), .val (.int p2), .unset, .unset, .unset, .unset] [(.int (10 : Int32)), (.ref b1), (.ref b1)])) rfl (hb hby at_60) _ k) ?_
  show OGo p e below _ (T31.setTop (mkF m 62 #[.val (.int p1), .val (.int p2), .unset, .unset, .unset, .unset] [(.int (55295 : Int32)), (.int (10 : Int32)), (.ref b1), (.ref b1)]))
  have Vq33 := V31
  obtain ⟨cl33, Ar33, q33, S33, M33, Hs33, G33⟩ := Vq33
  have hin34 : ¬ ((10 : Int32) < 0 ∨ cl33.slots.size ≤ ((10 : Int32)).toNatClampNeg) := inb_of S33 ⟨by decide, by decide⟩
  obtain ⟨T34, h34, X34, e34, W34, st34⟩ := stI X31 hx hZ e31 Ar33 (j := (10 : Int32)) hin34 (g := (mkF m 62 #[.val (.int p1), .val (.int p2), .unset, .unset, .unset, .unset] [(.int (55295 : Int32)), (.int (10 : Int32)), (.ref b1), (.ref b1)])) rfl rfl (hb hby at_62)
  refine OGo.to st34 ?_
  have V34 : Arv Z h34 b1 k1 .int (23 : Int32) [(.int (0 : Int32)), (.int (8 : Int32)), (.int (9 : Int32)), (.int (10 : Int32)), (.int (11 : Int32)), (.int (12 : Int32)), (.int (13 : Int32)), (.int (14 : Int32)), (.int (31 : Int32)), (.int (32 : Int32)), (.int (55295 : Int32)), (.int (0 : Int32)), (.int (0 : Int32)), (.int (0 : Int32)), (.int (0 : Int32)), (.int (0 : Int32)), (.int (0 : Int32)), (.int (0 : Int32)), (.int (0 : Int32)), (.int (0 : Int32)), (.int (0 : Int32)), (.int (0 : Int32)), (.int (0 : Int32))] (.int (0 : Int32)) := Arv.set Ar33 q33 S33 M33 Hs33 G33 rfl W34 10 rfl (Nat.le_of_ble_eq_true rfl)
  have N34 := Fr.snoc X34 N31 g_b1
  have z35 : n0 ≤ h34.size := Nat.le_trans z32 (Keep.of_wr W34).1
  show OGo p e below _ (T34.setTop (mkF m 63 #[.val (.int p1), .val (.int p2), .unset, .unset, .unset, .unset] [(.ref b1)]))
  refine OGo.to (fun _ k => XS.dup X34.here hx rfl (hb hby at_63) rfl rfl k) ?_
  show OGo p e below _ (T34.setTop (mkF m 64 #[.val (.int p1), .val (.int p2), .unset, .unset, .unset, .unset] [(.ref b1), (.ref b1)]))
  refine OGo.to (fun _ k => XS.bipush X34.here hx rfl (hb hby at_64) k) ?_
  show OGo p e below _ (T34.setTop (mkF m 66 #[.val (.int p1), .val (.int p2), .unset, .unset, .unset, .unset] [(.int (11 : Int32)), (.ref b1), (.ref b1)]))
  refine OGo.to (fun _ k => X34.ldcInt hx hown (mvT hZ (hw _ (List.mem_of_getElem? (i := 2) rfl))) (g := (mkF m 66 #[.val (.int p1), .val (.int p2), .unset, .unset, .unset, .unset] [(.int (11 : Int32)), (.ref b1), (.ref b1)])) rfl (hb hby at_66) _ k) ?_
  show OGo p e below _ (T34.setTop (mkF m 68 #[.val (.int p1), .val (.int p2), .unset, .unset, .unset, .unset] [(.int (55296 : Int32)), (.int (11 : Int32)), (.ref b1), (.ref b1)]))
  have Vq36 := V34
  obtain ⟨cl36, Ar36, q36, S36, M36, Hs36, G36⟩ := Vq36
  have hin37 : ¬ ((11 : Int32) < 0 ∨ cl36.slots.size ≤ ((11 : Int32)).toNatClampNeg) := inb_of S36 ⟨by decide, by decide⟩
  obtain ⟨T37, h37, X37, e37, W37, st37⟩ := stI X34 hx hZ e34 Ar36 (j := (11 : Int32)) hin37 (g := (mkF m 68 #[.val (.int p1), .val (.int p2), .unset, .unset, .unset, .unset] [(.int (55296 : Int32)), (.int (11 : Int32)), (.ref b1), (.ref b1)])) rfl rfl (hb hby at_68)
  refine OGo.to st37 ?_
  have V37 : Arv Z h37 b1 k1 .int (23 : Int32) [(.int (0 : Int32)), (.int (8 : Int32)), (.int (9 : Int32)), (.int (10 : Int32)), (.int (11 : Int32)), (.int (12 : Int32)), (.int (13 : Int32)), (.int (14 : Int32)), (.int (31 : Int32)), (.int (32 : Int32)), (.int (55295 : Int32)), (.int (55296 : Int32)), (.int (0 : Int32)), (.int (0 : Int32)), (.int (0 : Int32)), (.int (0 : Int32)), (.int (0 : Int32)), (.int (0 : Int32)), (.int (0 : Int32)), (.int (0 : Int32)), (.int (0 : Int32)), (.int (0 : Int32)), (.int (0 : Int32))] (.int (0 : Int32)) := Arv.set Ar36 q36 S36 M36 Hs36 G36 rfl W37 11 rfl (Nat.le_of_ble_eq_true rfl)
  have N37 := Fr.snoc X37 N34 g_b1
  have z38 : n0 ≤ h37.size := Nat.le_trans z35 (Keep.of_wr W37).1
  show OGo p e below _ (T37.setTop (mkF m 69 #[.val (.int p1), .val (.int p2), .unset, .unset, .unset, .unset] [(.ref b1)]))
  refine OGo.to (fun _ k => XS.dup X37.here hx rfl (hb hby at_69) rfl rfl k) ?_
  show OGo p e below _ (T37.setTop (mkF m 70 #[.val (.int p1), .val (.int p2), .unset, .unset, .unset, .unset] [(.ref b1), (.ref b1)]))
  refine OGo.to (fun _ k => XS.bipush X37.here hx rfl (hb hby at_70) k) ?_
  show OGo p e below _ (T37.setTop (mkF m 72 #[.val (.int p1), .val (.int p2), .unset, .unset, .unset, .unset] [(.int (12 : Int32)), (.ref b1), (.ref b1)]))
  refine OGo.to (fun _ k => X37.ldcInt hx hown (mvT hZ (hw _ (List.mem_of_getElem? (i := 3) rfl))) (g := (mkF m 72 #[.val (.int p1), .val (.int p2), .unset, .unset, .unset, .unset] [(.int (12 : Int32)), (.ref b1), (.ref b1)])) rfl (hb hby at_72) _ k) ?_
  show OGo p e below _ (T37.setTop (mkF m 74 #[.val (.int p1), .val (.int p2), .unset, .unset, .unset, .unset] [(.int (57343 : Int32)), (.int (12 : Int32)), (.ref b1), (.ref b1)]))
  have Vq39 := V37
  obtain ⟨cl39, Ar39, q39, S39, M39, Hs39, G39⟩ := Vq39
  have hin40 : ¬ ((12 : Int32) < 0 ∨ cl39.slots.size ≤ ((12 : Int32)).toNatClampNeg) := inb_of S39 ⟨by decide, by decide⟩
  obtain ⟨T40, h40, X40, e40, W40, st40⟩ := stI X37 hx hZ e37 Ar39 (j := (12 : Int32)) hin40 (g := (mkF m 74 #[.val (.int p1), .val (.int p2), .unset, .unset, .unset, .unset] [(.int (57343 : Int32)), (.int (12 : Int32)), (.ref b1), (.ref b1)])) rfl rfl (hb hby at_74)
  refine OGo.to st40 ?_
  have V40 : Arv Z h40 b1 k1 .int (23 : Int32) [(.int (0 : Int32)), (.int (8 : Int32)), (.int (9 : Int32)), (.int (10 : Int32)), (.int (11 : Int32)), (.int (12 : Int32)), (.int (13 : Int32)), (.int (14 : Int32)), (.int (31 : Int32)), (.int (32 : Int32)), (.int (55295 : Int32)), (.int (55296 : Int32)), (.int (57343 : Int32)), (.int (0 : Int32)), (.int (0 : Int32)), (.int (0 : Int32)), (.int (0 : Int32)), (.int (0 : Int32)), (.int (0 : Int32)), (.int (0 : Int32)), (.int (0 : Int32)), (.int (0 : Int32)), (.int (0 : Int32))] (.int (0 : Int32)) := Arv.set Ar39 q39 S39 M39 Hs39 G39 rfl W40 12 rfl (Nat.le_of_ble_eq_true rfl)
  have N40 := Fr.snoc X40 N37 g_b1
  have z41 : n0 ≤ h40.size := Nat.le_trans z38 (Keep.of_wr W40).1
  show OGo p e below _ (T40.setTop (mkF m 75 #[.val (.int p1), .val (.int p2), .unset, .unset, .unset, .unset] [(.ref b1)]))
  refine OGo.to (fun _ k => XS.dup X40.here hx rfl (hb hby at_75) rfl rfl k) ?_
  show OGo p e below _ (T40.setTop (mkF m 76 #[.val (.int p1), .val (.int p2), .unset, .unset, .unset, .unset] [(.ref b1), (.ref b1)]))
  refine OGo.to (fun _ k => XS.bipush X40.here hx rfl (hb hby at_76) k) ?_
  show OGo p e below _ (T40.setTop (mkF m 78 #[.val (.int p1), .val (.int p2), .unset, .unset, .unset, .unset] [(.int (13 : Int32)), (.ref b1), (.ref b1)]))
  refine OGo.to (fun _ k => X40.ldcInt hx hown (mvT hZ (hw _ (List.mem_of_getElem? (i := 4) rfl))) (g := (mkF m 78 #[.val (.int p1), .val (.int p2), .unset, .unset, .unset, .unset] [(.int (13 : Int32)), (.ref b1), (.ref b1)])) rfl (hb hby at_78) _ k) ?_
  show OGo p e below _ (T40.setTop (mkF m 80 #[.val (.int p1), .val (.int p2), .unset, .unset, .unset, .unset] [(.int (57344 : Int32)), (.int (13 : Int32)), (.ref b1), (.ref b1)]))
  have Vq42 := V40
  obtain ⟨cl42, Ar42, q42, S42, M42, Hs42, G42⟩ := Vq42
  have hin43 : ¬ ((13 : Int32) < 0 ∨ cl42.slots.size ≤ ((13 : Int32)).toNatClampNeg) := inb_of S42 ⟨by decide, by decide⟩
  obtain ⟨T43, h43, X43, e43, W43, st43⟩ := stI X40 hx hZ e40 Ar42 (j := (13 : Int32)) hin43 (g := (mkF m 80 #[.val (.int p1), .val (.int p2), .unset, .unset, .unset, .unset] [(.int (57344 : Int32)), (.int (13 : Int32)), (.ref b1), (.ref b1)])) rfl rfl (hb hby at_80)
  refine OGo.to st43 ?_
  have V43 : Arv Z h43 b1 k1 .int (23 : Int32) [(.int (0 : Int32)), (.int (8 : Int32)), (.int (9 : Int32)), (.int (10 : Int32)), (.int (11 : Int32)), (.int (12 : Int32)), (.int (13 : Int32)), (.int (14 : Int32)), (.int (31 : Int32)), (.int (32 : Int32)), (.int (55295 : Int32)), (.int (55296 : Int32)), (.int (57343 : Int32)), (.int (57344 : Int32)), (.int (0 : Int32)), (.int (0 : Int32)), (.int (0 : Int32)), (.int (0 : Int32)), (.int (0 : Int32)), (.int (0 : Int32)), (.int (0 : Int32)), (.int (0 : Int32)), (.int (0 : Int32))] (.int (0 : Int32)) := Arv.set Ar42 q42 S42 M42 Hs42 G42 rfl W43 13 rfl (Nat.le_of_ble_eq_true rfl)
  have N43 := Fr.snoc X43 N40 g_b1
  have z44 : n0 ≤ h43.size := Nat.le_trans z41 (Keep.of_wr W43).1
  show OGo p e below _ (T43.setTop (mkF m 81 #[.val (.int p1), .val (.int p2), .unset, .unset, .unset, .unset] [(.ref b1)]))
  refine OGo.to (fun _ k => XS.dup X43.here hx rfl (hb hby at_81) rfl rfl k) ?_
  show OGo p e below _ (T43.setTop (mkF m 82 #[.val (.int p1), .val (.int p2), .unset, .unset, .unset, .unset] [(.ref b1), (.ref b1)]))
  refine OGo.to (fun _ k => XS.bipush X43.here hx rfl (hb hby at_82) k) ?_
  show OGo p e below _ (T43.setTop (mkF m 84 #[.val (.int p1), .val (.int p2), .unset, .unset, .unset, .unset] [(.int (14 : Int32)), (.ref b1), (.ref b1)]))
  refine OGo.to (fun _ k => X43.ldcInt hx hown (mvT hZ (hw _ (List.mem_of_getElem? (i := 5) rfl))) (g := (mkF m 84 #[.val (.int p1), .val (.int p2), .unset, .unset, .unset, .unset] [(.int (14 : Int32)), (.ref b1), (.ref b1)])) rfl (hb hby at_84) _ k) ?_
  show OGo p e below _ (T43.setTop (mkF m 86 #[.val (.int p1), .val (.int p2), .unset, .unset, .unset, .unset] [(.int (65533 : Int32)), (.int (14 : Int32)), (.ref b1), (.ref b1)]))
  have Vq45 := V43
  obtain ⟨cl45, Ar45, q45, S45, M45, Hs45, G45⟩ := Vq45
  have hin46 : ¬ ((14 : Int32) < 0 ∨ cl45.slots.size ≤ ((14 : Int32)).toNatClampNeg) := inb_of S45 ⟨by decide, by decide⟩
  obtain ⟨T46, h46, X46, e46, W46, st46⟩ := stI X43 hx hZ e43 Ar45 (j := (14 : Int32)) hin46 (g := (mkF m 86 #[.val (.int p1), .val (.int p2), .unset, .unset, .unset, .unset] [(.int (65533 : Int32)), (.int (14 : Int32)), (.ref b1), (.ref b1)])) rfl rfl (hb hby at_86)
  refine OGo.to st46 ?_
  have V46 : Arv Z h46 b1 k1 .int (23 : Int32) [(.int (0 : Int32)), (.int (8 : Int32)), (.int (9 : Int32)), (.int (10 : Int32)), (.int (11 : Int32)), (.int (12 : Int32)), (.int (13 : Int32)), (.int (14 : Int32)), (.int (31 : Int32)), (.int (32 : Int32)), (.int (55295 : Int32)), (.int (55296 : Int32)), (.int (57343 : Int32)), (.int (57344 : Int32)), (.int (65533 : Int32)), (.int (0 : Int32)), (.int (0 : Int32)), (.int (0 : Int32)), (.int (0 : Int32)), (.int (0 : Int32)), (.int (0 : Int32)), (.int (0 : Int32)), (.int (0 : Int32))] (.int (0 : Int32)) := Arv.set Ar45 q45 S45 M45 Hs45 G45 rfl W46 14 rfl (Nat.le_of_ble_eq_true rfl)
  have N46 := Fr.snoc X46 N43 g_b1
  have z47 : n0 ≤ h46.size := Nat.le_trans z44 (Keep.of_wr W46).1
  show OGo p e below _ (T46.setTop (mkF m 87 #[.val (.int p1), .val (.int p2), .unset, .unset, .unset, .unset] [(.ref b1)]))
  refine OGo.to (fun _ k => XS.dup X46.here hx rfl (hb hby at_87) rfl rfl k) ?_
  show OGo p e below _ (T46.setTop (mkF m 88 #[.val (.int p1), .val (.int p2), .unset, .unset, .unset, .unset] [(.ref b1), (.ref b1)]))
  refine OGo.to (fun _ k => XS.bipush X46.here hx rfl (hb hby at_88) k) ?_
  show OGo p e below _ (T46.setTop (mkF m 90 #[.val (.int p1), .val (.int p2), .unset, .unset, .unset, .unset] [(.int (15 : Int32)), (.ref b1), (.ref b1)]))
  refine OGo.to (fun _ k => X46.ldcInt hx hown (mvT hZ (hw _ (List.mem_of_getElem? (i := 6) rfl))) (g := (mkF m 90 #[.val (.int p1), .val (.int p2), .unset, .unset, .unset, .unset] [(.int (15 : Int32)), (.ref b1), (.ref b1)])) rfl (hb hby at_90) _ k) ?_
  show OGo p e below _ (T46.setTop (mkF m 92 #[.val (.int p1), .val (.int p2), .unset, .unset, .unset, .unset] [(.int (65534 : Int32)), (.int (15 : Int32)), (.ref b1), (.ref b1)]))
  have Vq48 := V46
  obtain ⟨cl48, Ar48, q48, S48, M48, Hs48, G48⟩ := Vq48
  have hin49 : ¬ ((15 : Int32) < 0 ∨ cl48.slots.size ≤ ((15 : Int32)).toNatClampNeg) := inb_of S48 ⟨by decide, by decide⟩
  obtain ⟨T49, h49, X49, e49, W49, st49⟩ := stI X46 hx hZ e46 Ar48 (j := (15 : Int32)) hin49 (g := (mkF m 92 #[.val (.int p1), .val (.int p2), .unset, .unset, .unset, .unset] [(.int (65534 : Int32)), (.int (15 : Int32)), (.ref b1), (.ref b1)])) rfl rfl (hb hby at_92)
  refine OGo.to st49 ?_
  have V49 : Arv Z h49 b1 k1 .int (23 : Int32) [(.int (0 : Int32)), (.int (8 : Int32)), (.int (9 : Int32)), (.int (10 : Int32)), (.int (11 : Int32)), (.int (12 : Int32)), (.int (13 : Int32)), (.int (14 : Int32)), (.int (31 : Int32)), (.int (32 : Int32)), (.int (55295 : Int32)), (.int (55296 : Int32)), (.int (57343 : Int32)), (.int (57344 : Int32)), (.int (65533 : Int32)), (.int (65534 : Int32)), (.int (0 : Int32)), (.int (0 : Int32)), (.int (0 : Int32)), (.int (0 : Int32)), (.int (0 : Int32)), (.int (0 : Int32)), (.int (0 : Int32))] (.int (0 : Int32)) := Arv.set Ar48 q48 S48 M48 Hs48 G48 rfl W49 15 rfl (Nat.le_of_ble_eq_true rfl)
  have N49 := Fr.snoc X49 N46 g_b1
  have z50 : n0 ≤ h49.size := Nat.le_trans z47 (Keep.of_wr W49).1
  show OGo p e below _ (T49.setTop (mkF m 93 #[.val (.int p1), .val (.int p2), .unset, .unset, .unset, .unset] [(.ref b1)]))
  refine OGo.to (fun _ k => XS.dup X49.here hx rfl (hb hby at_93) rfl rfl k) ?_
  show OGo p e below _ (T49.setTop (mkF m 94 #[.val (.int p1), .val (.int p2), .unset, .unset, .unset, .unset] [(.ref b1), (.ref b1)]))
  refine OGo.to (fun _ k => XS.bipush X49.here hx rfl (hb hby at_94) k) ?_
  show OGo p e below _ (T49.setTop (mkF m 96 #[.val (.int p1), .val (.int p2), .unset, .unset, .unset, .unset] [(.int (16 : Int32)), (.ref b1), (.ref b1)]))
  refine OGo.to (fun _ k => X49.ldcInt hx hown (mvT hZ (hw _ (List.mem_of_getElem? (i := 7) rfl))) (g := (mkF m 96 #[.val (.int p1), .val (.int p2), .unset, .unset, .unset, .unset] [(.int (16 : Int32)), (.ref b1), (.ref b1)])) rfl (hb hby at_96) _ k) ?_
  show OGo p e below _ (T49.setTop (mkF m 98 #[.val (.int p1), .val (.int p2), .unset, .unset, .unset, .unset] [(.int (65535 : Int32)), (.int (16 : Int32)), (.ref b1), (.ref b1)]))
  have Vq51 := V49
  obtain ⟨cl51, Ar51, q51, S51, M51, Hs51, G51⟩ := Vq51
  have hin52 : ¬ ((16 : Int32) < 0 ∨ cl51.slots.size ≤ ((16 : Int32)).toNatClampNeg) := inb_of S51 ⟨by decide, by decide⟩
  obtain ⟨T52, h52, X52, e52, W52, st52⟩ := stI X49 hx hZ e49 Ar51 (j := (16 : Int32)) hin52 (g := (mkF m 98 #[.val (.int p1), .val (.int p2), .unset, .unset, .unset, .unset] [(.int (65535 : Int32)), (.int (16 : Int32)), (.ref b1), (.ref b1)])) rfl rfl (hb hby at_98)
  refine OGo.to st52 ?_
  have V52 : Arv Z h52 b1 k1 .int (23 : Int32) [(.int (0 : Int32)), (.int (8 : Int32)), (.int (9 : Int32)), (.int (10 : Int32)), (.int (11 : Int32)), (.int (12 : Int32)), (.int (13 : Int32)), (.int (14 : Int32)), (.int (31 : Int32)), (.int (32 : Int32)), (.int (55295 : Int32)), (.int (55296 : Int32)), (.int (57343 : Int32)), (.int (57344 : Int32)), (.int (65533 : Int32)), (.int (65534 : Int32)), (.int (65535 : Int32)), (.int (0 : Int32)), (.int (0 : Int32)), (.int (0 : Int32)), (.int (0 : Int32)), (.int (0 : Int32)), (.int (0 : Int32))] (.int (0 : Int32)) := Arv.set Ar51 q51 S51 M51 Hs51 G51 rfl W52 16 rfl (Nat.le_of_ble_eq_true rfl)
  have N52 := Fr.snoc X52 N49 g_b1
  have z53 : n0 ≤ h52.size := Nat.le_trans z50 (Keep.of_wr W52).1
  show OGo p e below _ (T52.setTop (mkF m 99 #[.val (.int p1), .val (.int p2), .unset, .unset, .unset, .unset] [(.ref b1)]))
  refine OGo.to (fun _ k => XS.dup X52.here hx rfl (hb hby at_99) rfl rfl k) ?_
  show OGo p e below _ (T52.setTop (mkF m 100 #[.val (.int p1), .val (.int p2), .unset, .unset, .unset, .unset] [(.ref b1), (.ref b1)]))
  refine OGo.to (fun _ k => XS.bipush X52.here hx rfl (hb hby at_100) k) ?_
  show OGo p e below _ (T52.setTop (mkF m 102 #[.val (.int p1), .val (.int p2), .unset, .unset, .unset, .unset] [(.int (17 : Int32)), (.ref b1), (.ref b1)]))
  refine OGo.to (fun _ k => X52.ldcInt hx hown (mvT hZ (hw _ (List.mem_of_getElem? (i := 8) rfl))) (g := (mkF m 102 #[.val (.int p1), .val (.int p2), .unset, .unset, .unset, .unset] [(.int (17 : Int32)), (.ref b1), (.ref b1)])) rfl (hb hby at_102) _ k) ?_
  show OGo p e below _ (T52.setTop (mkF m 104 #[.val (.int p1), .val (.int p2), .unset, .unset, .unset, .unset] [(.int (65536 : Int32)), (.int (17 : Int32)), (.ref b1), (.ref b1)]))
  have Vq54 := V52
  obtain ⟨cl54, Ar54, q54, S54, M54, Hs54, G54⟩ := Vq54
  have hin55 : ¬ ((17 : Int32) < 0 ∨ cl54.slots.size ≤ ((17 : Int32)).toNatClampNeg) := inb_of S54 ⟨by decide, by decide⟩
  obtain ⟨T55, h55, X55, e55, W55, st55⟩ := stI X52 hx hZ e52 Ar54 (j := (17 : Int32)) hin55 (g := (mkF m 104 #[.val (.int p1), .val (.int p2), .unset, .unset, .unset, .unset] [(.int (65536 : Int32)), (.int (17 : Int32)), (.ref b1), (.ref b1)])) rfl rfl (hb hby at_104)
  refine OGo.to st55 ?_
  have V55 : Arv Z h55 b1 k1 .int (23 : Int32) [(.int (0 : Int32)), (.int (8 : Int32)), (.int (9 : Int32)), (.int (10 : Int32)), (.int (11 : Int32)), (.int (12 : Int32)), (.int (13 : Int32)), (.int (14 : Int32)), (.int (31 : Int32)), (.int (32 : Int32)), (.int (55295 : Int32)), (.int (55296 : Int32)), (.int (57343 : Int32)), (.int (57344 : Int32)), (.int (65533 : Int32)), (.int (65534 : Int32)), (.int (65535 : Int32)), (.int (65536 : Int32)), (.int (0 : Int32)), (.int (0 : Int32)), (.int (0 : Int32)), (.int (0 : Int32)), (.int (0 : Int32))] (.int (0 : Int32)) := Arv.set Ar54 q54 S54 M54 Hs54 G54 rfl W55 17 rfl (Nat.le_of_ble_eq_true rfl)
  have N55 := Fr.snoc X55 N52 g_b1
  have z56 : n0 ≤ h55.size := Nat.le_trans z53 (Keep.of_wr W55).1
  show OGo p e below _ (T55.setTop (mkF m 105 #[.val (.int p1), .val (.int p2), .unset, .unset, .unset, .unset] [(.ref b1)]))
  refine OGo.to (fun _ k => XS.dup X55.here hx rfl (hb hby at_105) rfl rfl k) ?_
  show OGo p e below _ (T55.setTop (mkF m 106 #[.val (.int p1), .val (.int p2), .unset, .unset, .unset, .unset] [(.ref b1), (.ref b1)]))
  refine OGo.to (fun _ k => XS.bipush X55.here hx rfl (hb hby at_106) k) ?_
  show OGo p e below _ (T55.setTop (mkF m 108 #[.val (.int p1), .val (.int p2), .unset, .unset, .unset, .unset] [(.int (18 : Int32)), (.ref b1), (.ref b1)]))
  refine OGo.to (fun _ k => X55.ldcInt hx hown (mvT hZ (hw _ (List.mem_of_getElem? (i := 9) rfl))) (g := (mkF m 108 #[.val (.int p1), .val (.int p2), .unset, .unset, .unset, .unset] [(.int (18 : Int32)), (.ref b1), (.ref b1)])) rfl (hb hby at_108) _ k) ?_
  show OGo p e below _ (T55.setTop (mkF m 110 #[.val (.int p1), .val (.int p2), .unset, .unset, .unset, .unset] [(.int (1114111 : Int32)), (.int (18 : Int32)), (.ref b1), (.ref b1)]))
  have Vq57 := V55
  obtain ⟨cl57, Ar57, q57, S57, M57, Hs57, G57⟩ := Vq57
  have hin58 : ¬ ((18 : Int32) < 0 ∨ cl57.slots.size ≤ ((18 : Int32)).toNatClampNeg) := inb_of S57 ⟨by decide, by decide⟩
  obtain ⟨T58, h58, X58, e58, W58, st58⟩ := stI X55 hx hZ e55 Ar57 (j := (18 : Int32)) hin58 (g := (mkF m 110 #[.val (.int p1), .val (.int p2), .unset, .unset, .unset, .unset] [(.int (1114111 : Int32)), (.int (18 : Int32)), (.ref b1), (.ref b1)])) rfl rfl (hb hby at_110)
  refine OGo.to st58 ?_
  have V58 : Arv Z h58 b1 k1 .int (23 : Int32) [(.int (0 : Int32)), (.int (8 : Int32)), (.int (9 : Int32)), (.int (10 : Int32)), (.int (11 : Int32)), (.int (12 : Int32)), (.int (13 : Int32)), (.int (14 : Int32)), (.int (31 : Int32)), (.int (32 : Int32)), (.int (55295 : Int32)), (.int (55296 : Int32)), (.int (57343 : Int32)), (.int (57344 : Int32)), (.int (65533 : Int32)), (.int (65534 : Int32)), (.int (65535 : Int32)), (.int (65536 : Int32)), (.int (1114111 : Int32)), (.int (0 : Int32)), (.int (0 : Int32)), (.int (0 : Int32)), (.int (0 : Int32))] (.int (0 : Int32)) := Arv.set Ar57 q57 S57 M57 Hs57 G57 rfl W58 18 rfl (Nat.le_of_ble_eq_true rfl)
  have N58 := Fr.snoc X58 N55 g_b1
  have z59 : n0 ≤ h58.size := Nat.le_trans z56 (Keep.of_wr W58).1
  show OGo p e below _ (T58.setTop (mkF m 111 #[.val (.int p1), .val (.int p2), .unset, .unset, .unset, .unset] [(.ref b1)]))
  refine OGo.to (fun _ k => XS.dup X58.here hx rfl (hb hby at_111) rfl rfl k) ?_
  show OGo p e below _ (T58.setTop (mkF m 112 #[.val (.int p1), .val (.int p2), .unset, .unset, .unset, .unset] [(.ref b1), (.ref b1)]))
  refine OGo.to (fun _ k => XS.bipush X58.here hx rfl (hb hby at_112) k) ?_
  show OGo p e below _ (T58.setTop (mkF m 114 #[.val (.int p1), .val (.int p2), .unset, .unset, .unset, .unset] [(.int (19 : Int32)), (.ref b1), (.ref b1)]))
  refine OGo.to (fun _ k => X58.ldcInt hx hown (mvT hZ (hw _ (List.mem_of_getElem? (i := 10) rfl))) (g := (mkF m 114 #[.val (.int p1), .val (.int p2), .unset, .unset, .unset, .unset] [(.int (19 : Int32)), (.ref b1), (.ref b1)])) rfl (hb hby at_114) _ k) ?_
  show OGo p e below _ (T58.setTop (mkF m 116 #[.val (.int p1), .val (.int p2), .unset, .unset, .unset, .unset] [(.int (1114112 : Int32)), (.int (19 : Int32)), (.ref b1), (.ref b1)]))
  have Vq60 := V58
  obtain ⟨cl60, Ar60, q60, S60, M60, Hs60, G60⟩ := Vq60
  have hin61 : ¬ ((19 : Int32) < 0 ∨ cl60.slots.size ≤ ((19 : Int32)).toNatClampNeg) := inb_of S60 ⟨by decide, by decide⟩
  obtain ⟨T61, h61, X61, e61, W61, st61⟩ := stI X58 hx hZ e58 Ar60 (j := (19 : Int32)) hin61 (g := (mkF m 116 #[.val (.int p1), .val (.int p2), .unset, .unset, .unset, .unset] [(.int (1114112 : Int32)), (.int (19 : Int32)), (.ref b1), (.ref b1)])) rfl rfl (hb hby at_116)
  refine OGo.to st61 ?_
  have V61 : Arv Z h61 b1 k1 .int (23 : Int32) [(.int (0 : Int32)), (.int (8 : Int32)), (.int (9 : Int32)), (.int (10 : Int32)), (.int (11 : Int32)), (.int (12 : Int32)), (.int (13 : Int32)), (.int (14 : Int32)), (.int (31 : Int32)), (.int (32 : Int32)), (.int (55295 : Int32)), (.int (55296 : Int32)), (.int (57343 : Int32)), (.int (57344 : Int32)), (.int (65533 : Int32)), (.int (65534 : Int32)), (.int (65535 : Int32)), (.int (65536 : Int32)), (.int (1114111 : Int32)), (.int (1114112 : Int32)), (.int (0 : Int32)), (.int (0 : Int32)), (.int (0 : Int32))] (.int (0 : Int32)) := Arv.set Ar60 q60 S60 M60 Hs60 G60 rfl W61 19 rfl (Nat.le_of_ble_eq_true rfl)
  have N61 := Fr.snoc X61 N58 g_b1
  have z62 : n0 ≤ h61.size := Nat.le_trans z59 (Keep.of_wr W61).1
  show OGo p e below _ (T61.setTop (mkF m 117 #[.val (.int p1), .val (.int p2), .unset, .unset, .unset, .unset] [(.ref b1)]))
  refine OGo.to (fun _ k => XS.dup X61.here hx rfl (hb hby at_117) rfl rfl k) ?_
  show OGo p e below _ (T61.setTop (mkF m 118 #[.val (.int p1), .val (.int p2), .unset, .unset, .unset, .unset] [(.ref b1), (.ref b1)]))
  refine OGo.to (fun _ k => XS.bipush X61.here hx rfl (hb hby at_118) k) ?_
  show OGo p e below _ (T61.setTop (mkF m 120 #[.val (.int p1), .val (.int p2), .unset, .unset, .unset, .unset] [(.int (20 : Int32)), (.ref b1), (.ref b1)]))
  refine OGo.to (fun _ k => X61.ldcInt hx hown (mvT hZ (hw _ (List.mem_of_getElem? (i := 11) rfl))) (g := (mkF m 120 #[.val (.int p1), .val (.int p2), .unset, .unset, .unset, .unset] [(.int (20 : Int32)), (.ref b1), (.ref b1)])) rfl (hb hby at_120) _ k) ?_
  show OGo p e below _ (T61.setTop (mkF m 122 #[.val (.int p1), .val (.int p2), .unset, .unset, .unset, .unset] [(.int (-2147483648 : Int32)), (.int (20 : Int32)), (.ref b1), (.ref b1)]))
  have Vq63 := V61
  obtain ⟨cl63, Ar63, q63, S63, M63, Hs63, G63⟩ := Vq63
  have hin64 : ¬ ((20 : Int32) < 0 ∨ cl63.slots.size ≤ ((20 : Int32)).toNatClampNeg) := inb_of S63 ⟨by decide, by decide⟩
  obtain ⟨T64, h64, X64, e64, W64, st64⟩ := stI X61 hx hZ e61 Ar63 (j := (20 : Int32)) hin64 (g := (mkF m 122 #[.val (.int p1), .val (.int p2), .unset, .unset, .unset, .unset] [(.int (-2147483648 : Int32)), (.int (20 : Int32)), (.ref b1), (.ref b1)])) rfl rfl (hb hby at_122)
  refine OGo.to st64 ?_
  have V64 : Arv Z h64 b1 k1 .int (23 : Int32) [(.int (0 : Int32)), (.int (8 : Int32)), (.int (9 : Int32)), (.int (10 : Int32)), (.int (11 : Int32)), (.int (12 : Int32)), (.int (13 : Int32)), (.int (14 : Int32)), (.int (31 : Int32)), (.int (32 : Int32)), (.int (55295 : Int32)), (.int (55296 : Int32)), (.int (57343 : Int32)), (.int (57344 : Int32)), (.int (65533 : Int32)), (.int (65534 : Int32)), (.int (65535 : Int32)), (.int (65536 : Int32)), (.int (1114111 : Int32)), (.int (1114112 : Int32)), (.int (-2147483648 : Int32)), (.int (0 : Int32)), (.int (0 : Int32))] (.int (0 : Int32)) := Arv.set Ar63 q63 S63 M63 Hs63 G63 rfl W64 20 rfl (Nat.le_of_ble_eq_true rfl)
  have N64 := Fr.snoc X64 N61 g_b1
  have z65 : n0 ≤ h64.size := Nat.le_trans z62 (Keep.of_wr W64).1
  show OGo p e below _ (T64.setTop (mkF m 123 #[.val (.int p1), .val (.int p2), .unset, .unset, .unset, .unset] [(.ref b1)]))
  refine OGo.to (fun _ k => XS.dup X64.here hx rfl (hb hby at_123) rfl rfl k) ?_
  show OGo p e below _ (T64.setTop (mkF m 124 #[.val (.int p1), .val (.int p2), .unset, .unset, .unset, .unset] [(.ref b1), (.ref b1)]))
  refine OGo.to (fun _ k => XS.bipush X64.here hx rfl (hb hby at_124) k) ?_
  show OGo p e below _ (T64.setTop (mkF m 126 #[.val (.int p1), .val (.int p2), .unset, .unset, .unset, .unset] [(.int (21 : Int32)), (.ref b1), (.ref b1)]))
  refine OGo.to (fun _ k => X64.ldcInt hx hown (mvT hZ (hw _ (List.mem_of_getElem? (i := 12) rfl))) (g := (mkF m 126 #[.val (.int p1), .val (.int p2), .unset, .unset, .unset, .unset] [(.int (21 : Int32)), (.ref b1), (.ref b1)])) rfl (hb hby at_126) _ k) ?_
  show OGo p e below _ (T64.setTop (mkF m 128 #[.val (.int p1), .val (.int p2), .unset, .unset, .unset, .unset] [(.int (2147483647 : Int32)), (.int (21 : Int32)), (.ref b1), (.ref b1)]))
  have Vq66 := V64
  obtain ⟨cl66, Ar66, q66, S66, M66, Hs66, G66⟩ := Vq66
  have hin67 : ¬ ((21 : Int32) < 0 ∨ cl66.slots.size ≤ ((21 : Int32)).toNatClampNeg) := inb_of S66 ⟨by decide, by decide⟩
  obtain ⟨T67, h67, X67, e67, W67, st67⟩ := stI X64 hx hZ e64 Ar66 (j := (21 : Int32)) hin67 (g := (mkF m 128 #[.val (.int p1), .val (.int p2), .unset, .unset, .unset, .unset] [(.int (2147483647 : Int32)), (.int (21 : Int32)), (.ref b1), (.ref b1)])) rfl rfl (hb hby at_128)
  refine OGo.to st67 ?_
  have V67 : Arv Z h67 b1 k1 .int (23 : Int32) [(.int (0 : Int32)), (.int (8 : Int32)), (.int (9 : Int32)), (.int (10 : Int32)), (.int (11 : Int32)), (.int (12 : Int32)), (.int (13 : Int32)), (.int (14 : Int32)), (.int (31 : Int32)), (.int (32 : Int32)), (.int (55295 : Int32)), (.int (55296 : Int32)), (.int (57343 : Int32)), (.int (57344 : Int32)), (.int (65533 : Int32)), (.int (65534 : Int32)), (.int (65535 : Int32)), (.int (65536 : Int32)), (.int (1114111 : Int32)), (.int (1114112 : Int32)), (.int (-2147483648 : Int32)), (.int (2147483647 : Int32)), (.int (0 : Int32))] (.int (0 : Int32)) := Arv.set Ar66 q66 S66 M66 Hs66 G66 rfl W67 21 rfl (Nat.le_of_ble_eq_true rfl)
  have N67 := Fr.snoc X67 N64 g_b1
  have z68 : n0 ≤ h67.size := Nat.le_trans z65 (Keep.of_wr W67).1
  show OGo p e below _ (T67.setTop (mkF m 129 #[.val (.int p1), .val (.int p2), .unset, .unset, .unset, .unset] [(.ref b1)]))
  refine OGo.to (fun _ k => XS.dup X67.here hx rfl (hb hby at_129) rfl rfl k) ?_
  show OGo p e below _ (T67.setTop (mkF m 130 #[.val (.int p1), .val (.int p2), .unset, .unset, .unset, .unset] [(.ref b1), (.ref b1)]))
  refine OGo.to (fun _ k => XS.bipush X67.here hx rfl (hb hby at_130) k) ?_
  show OGo p e below _ (T67.setTop (mkF m 132 #[.val (.int p1), .val (.int p2), .unset, .unset, .unset, .unset] [(.int (22 : Int32)), (.ref b1), (.ref b1)]))
  refine OGo.to (fun _ k => XS.iconst X67.here hx rfl (hb hby at_132) k) ?_
  show OGo p e below _ (T67.setTop (mkF m 133 #[.val (.int p1), .val (.int p2), .unset, .unset, .unset, .unset] [(.int (-1 : Int32)), (.int (22 : Int32)), (.ref b1), (.ref b1)]))
  have Vq69 := V67
  obtain ⟨cl69, Ar69, q69, S69, M69, Hs69, G69⟩ := Vq69
  have hin70 : ¬ ((22 : Int32) < 0 ∨ cl69.slots.size ≤ ((22 : Int32)).toNatClampNeg) := inb_of S69 ⟨by decide, by decide⟩
  obtain ⟨T70, h70, X70, e70, W70, st70⟩ := stI X67 hx hZ e67 Ar69 (j := (22 : Int32)) hin70 (g := (mkF m 133 #[.val (.int p1), .val (.int p2), .unset, .unset, .unset, .unset] [(.int (-1 : Int32)), (.int (22 : Int32)), (.ref b1), (.ref b1)])) rfl rfl (hb hby at_133)
  refine OGo.to st70 ?_
  have V70 : Arv Z h70 b1 k1 .int (23 : Int32) [(.int (0 : Int32)), (.int (8 : Int32)), (.int (9 : Int32)), (.int (10 : Int32)), (.int (11 : Int32)), (.int (12 : Int32)), (.int (13 : Int32)), (.int (14 : Int32)), (.int (31 : Int32)), (.int (32 : Int32)), (.int (55295 : Int32)), (.int (55296 : Int32)), (.int (57343 : Int32)), (.int (57344 : Int32)), (.int (65533 : Int32)), (.int (65534 : Int32)), (.int (65535 : Int32)), (.int (65536 : Int32)), (.int (1114111 : Int32)), (.int (1114112 : Int32)), (.int (-2147483648 : Int32)), (.int (2147483647 : Int32)), (.int (-1 : Int32))] (.int (0 : Int32)) := Arv.set Ar69 q69 S69 M69 Hs69 G69 rfl W70 22 rfl (Nat.le_of_ble_eq_true rfl)
  have N70 := Fr.snoc X70 N67 g_b1
  have z71 : n0 ≤ h70.size := Nat.le_trans z68 (Keep.of_wr W70).1
  show OGo p e below _ (T70.setTop (mkF m 134 #[.val (.int p1), .val (.int p2), .unset, .unset, .unset, .unset] [(.ref b1)]))
  refine OGo.to (fun _ k => XS.astoreN X70.here hx rfl (hb hby at_134) rfl rfl (l' := #[.val (.int p1), .val (.int p2), .val (.ref b1), .unset, .unset, .unset]) rfl k) ?_
  show OGo p e below _ (T70.setTop (mkF m 135 #[.val (.int p1), .val (.int p2), .val (.ref b1), .unset, .unset, .unset] []))
  refine OGo.to (fun _ k => XS.iloadN X70.here hx rfl (hb hby at_135) rfl k) ?_
  show OGo p e below _ (T70.setTop (mkF m 136 #[.val (.int p1), .val (.int p2), .val (.ref b1), .unset, .unset, .unset] [(.int p2)]))
  refine OGo.to (fun _ k => X70.ldcInt hx hown (mvT hZ (hw _ (List.mem_of_getElem? (i := 12) rfl))) (g := (mkF m 136 #[.val (.int p1), .val (.int p2), .val (.ref b1), .unset, .unset, .unset] [(.int p2)])) rfl (hb hby at_136) _ k) ?_
  show OGo p e below _ (T70.setTop (mkF m 138 #[.val (.int p1), .val (.int p2), .val (.ref b1), .unset, .unset, .unset] [(.int (2147483647 : Int32)), (.int p2)]))
  refine OGo.to (fun _ k => XS.iand X70.here hx rfl (hb hby at_138) rfl k) ?_
  show OGo p e below _ (T70.setTop (mkF m 139 #[.val (.int p1), .val (.int p2), .val (.ref b1), .unset, .unset, .unset] [(.int (p2 &&& (2147483647 : Int32)))]))
  refine OGo.to (fun _ k => XS.bipush X70.here hx rfl (hb hby at_139) k) ?_
  show OGo p e below _ (T70.setTop (mkF m 141 #[.val (.int p1), .val (.int p2), .val (.ref b1), .unset, .unset, .unset] [(.int (23 : Int32)), (.int (p2 &&& (2147483647 : Int32)))]))
  have hnz141_72 : (23 : Int32) ≠ (0 : Int32) := by decide
  refine OGo.to (fun _ k => iremM X70 hx rfl (hb hby at_141) rfl hnz141_72 k) ?_
  show OGo p e below _ (T70.setTop (mkF m 142 #[.val (.int p1), .val (.int p2), .val (.ref b1), .unset, .unset, .unset] [(.int ((p2 &&& (2147483647 : Int32)) % (23 : Int32)))]))
  obtain ⟨ix, hv_ix⟩ : ∃ z : Int32, z = ((p2 &&& (2147483647 : Int32)) % (23 : Int32)) := ⟨_, rfl⟩
  rw [← hv_ix]
  refine OGo.to (fun _ k => XS.istoreN X70.here hx rfl (hb hby at_142) rfl (l' := #[.val (.int p1), .val (.int p2), .val (.ref b1), .val (.int ix), .unset, .unset]) rfl k) ?_
  show OGo p e below _ (T70.setTop (mkF m 143 #[.val (.int p1), .val (.int p2), .val (.ref b1), .val (.int ix), .unset, .unset] []))
  refine OGo.to (fun _ k => XS.iloadN X70.here hx rfl (hb hby at_143) rfl k) ?_
  show OGo p e below _ (T70.setTop (mkF m 144 #[.val (.int p1), .val (.int p2), .val (.ref b1), .val (.int ix), .unset, .unset] [(.int p2)]))
  refine OGo.to (fun _ k => XS.bipush X70.here hx rfl (hb hby at_144) k) ?_
  show OGo p e below _ (T70.setTop (mkF m 146 #[.val (.int p1), .val (.int p2), .val (.ref b1), .val (.int ix), .unset, .unset] [(.int (8 : Int32)), (.int p2)]))
  refine OGo.to (fun _ k => XS.iushr X70.here hx rfl (hb hby at_146) rfl k) ?_
  show OGo p e below _ (T70.setTop (mkF m 147 #[.val (.int p1), .val (.int p2), .val (.ref b1), .val (.int ix), .unset, .unset] [(.int ((p2.toUInt32 >>> ((8 : Int32) &&& 31).toUInt32).toInt32))]))
  refine OGo.to (fun _ k => XS.iconst X70.here hx rfl (hb hby at_147) k) ?_
  show OGo p e below _ (T70.setTop (mkF m 148 #[.val (.int p1), .val (.int p2), .val (.ref b1), .val (.int ix), .unset, .unset] [(.int (3 : Int32)), (.int ((p2.toUInt32 >>> ((8 : Int32) &&& 31).toUInt32).toInt32))]))
  have hnz148_73 : (3 : Int32) ≠ (0 : Int32) := by decide
  refine OGo.to (fun _ k => iremM X70 hx rfl (hb hby at_148) rfl hnz148_73 k) ?_
  show OGo p e below _ (T70.setTop (mkF m 149 #[.val (.int p1), .val (.int p2), .val (.ref b1), .val (.int ix), .unset, .unset] [(.int (((p2.toUInt32 >>> ((8 : Int32) &&& 31).toUInt32).toInt32) % (3 : Int32)))]))
  refine OGo.to (fun _ k => XS.iconst X70.here hx rfl (hb hby at_149) k) ?_
  show OGo p e below _ (T70.setTop (mkF m 150 #[.val (.int p1), .val (.int p2), .val (.ref b1), .val (.int ix), .unset, .unset] [(.int (1 : Int32)), (.int (((p2.toUInt32 >>> ((8 : Int32) &&& 31).toUInt32).toInt32) % (3 : Int32)))]))
  refine OGo.to (fun _ k => XS.isub X70.here hx rfl (hb hby at_150) rfl k) ?_
  show OGo p e below _ (T70.setTop (mkF m 151 #[.val (.int p1), .val (.int p2), .val (.ref b1), .val (.int ix), .unset, .unset] [(.int ((((p2.toUInt32 >>> ((8 : Int32) &&& 31).toUInt32).toInt32) % (3 : Int32)) - (1 : Int32)))]))
  refine OGo.to (fun _ k => XS.istore X70.here hx rfl (hb hby at_151) rfl (l' := #[.val (.int p1), .val (.int p2), .val (.ref b1), .val (.int ix), .val (.int ((((p2.toUInt32 >>> ((8 : Int32) &&& 31).toUInt32).toInt32) % (3 : Int32)) - (1 : Int32))), .unset]) rfl k) ?_
  show OGo p e below _ (T70.setTop (mkF m 153 #[.val (.int p1), .val (.int p2), .val (.ref b1), .val (.int ix), .val (.int ((((p2.toUInt32 >>> ((8 : Int32) &&& 31).toUInt32).toInt32) % (3 : Int32)) - (1 : Int32))), .unset] []))
  refine OGo.to (fun _ k => XS.aloadN X70.here hx rfl (hb hby at_153) rfl rfl k) ?_
  show OGo p e below _ (T70.setTop (mkF m 154 #[.val (.int p1), .val (.int p2), .val (.ref b1), .val (.int ix), .val (.int ((((p2.toUInt32 >>> ((8 : Int32) &&& 31).toUInt32).toInt32) % (3 : Int32)) - (1 : Int32))), .unset] [(.ref b1)]))
  refine OGo.to (fun _ k => XS.iloadN X70.here hx rfl (hb hby at_154) rfl k) ?_
  show OGo p e below _ (T70.setTop (mkF m 155 #[.val (.int p1), .val (.int p2), .val (.ref b1), .val (.int ix), .val (.int ((((p2.toUInt32 >>> ((8 : Int32) &&& 31).toUInt32).toInt32) % (3 : Int32)) - (1 : Int32))), .unset] [(.int ix), (.ref b1)]))
  have Vq74 := V70
  obtain ⟨cl74, Ar74, q74, S74, M74, Hs74, G74⟩ := Vq74
  have hin75 : ¬ (ix < 0 ∨ cl74.slots.size ≤ (ix).toNatClampNeg) := inb_of S74 ⟨own_nlti (by rw [hv_ix]; exact (own_rem p2 (23 : Int32) (by decide)).1), own_lti (by rw [hv_ix]; exact (own_rem p2 (23 : Int32) (by decide)).2)⟩
  have hat75 : cl74.slots[(ix).toNatClampNeg]? = some (.int (own_pts.getD ix.toNatClampNeg (0 : Int32))) := Hs74.at hin75 (own_getD own_pts ix.toNatClampNeg)
  refine OGo.to (fun _ k => X70.iaload hx (j := ix) (v := (.int (own_pts.getD ix.toNatClampNeg (0 : Int32)))) (by rw [e70]; exact Ar74.1) (State.isArrayOf_alike hZ.alike Ar74.2.1) Ar74.2.2 hin75 hat75 (g := (mkF m 155 #[.val (.int p1), .val (.int p2), .val (.ref b1), .val (.int ix), .val (.int ((((p2.toUInt32 >>> ((8 : Int32) &&& 31).toUInt32).toInt32) % (3 : Int32)) - (1 : Int32))), .unset] [(.int ix), (.ref b1)])) rfl rfl (hb hby at_155) _ k) ?_
  show OGo p e below _ (T70.setTop (mkF m 156 #[.val (.int p1), .val (.int p2), .val (.ref b1), .val (.int ix), .val (.int ((((p2.toUInt32 >>> ((8 : Int32) &&& 31).toUInt32).toInt32) % (3 : Int32)) - (1 : Int32))), .unset] [(.int (own_pts.getD ix.toNatClampNeg (0 : Int32)))]))
  refine OGo.to (fun _ k => XS.iload X70.here hx rfl (hb hby at_156) rfl k) ?_
  show OGo p e below _ (T70.setTop (mkF m 158 #[.val (.int p1), .val (.int p2), .val (.ref b1), .val (.int ix), .val (.int ((((p2.toUInt32 >>> ((8 : Int32) &&& 31).toUInt32).toInt32) % (3 : Int32)) - (1 : Int32))), .unset] [(.int ((((p2.toUInt32 >>> ((8 : Int32) &&& 31).toUInt32).toInt32) % (3 : Int32)) - (1 : Int32))), (.int (own_pts.getD ix.toNatClampNeg (0 : Int32)))]))
  refine OGo.to (fun _ k => XS.iadd X70.here hx rfl (hb hby at_158) rfl k) ?_
  show OGo p e below _ (T70.setTop (mkF m 159 #[.val (.int p1), .val (.int p2), .val (.ref b1), .val (.int ix), .val (.int ((((p2.toUInt32 >>> ((8 : Int32) &&& 31).toUInt32).toInt32) % (3 : Int32)) - (1 : Int32))), .unset] [(.int ((own_pts.getD ix.toNatClampNeg (0 : Int32)) + ((((p2.toUInt32 >>> ((8 : Int32) &&& 31).toUInt32).toInt32) % (3 : Int32)) - (1 : Int32))))]))
  refine OGo.to (fun _ k => XS.istore X70.here hx rfl (hb hby at_159) rfl (l' := #[.val (.int p1), .val (.int p2), .val (.ref b1), .val (.int ix), .val (.int ((((p2.toUInt32 >>> ((8 : Int32) &&& 31).toUInt32).toInt32) % (3 : Int32)) - (1 : Int32))), .val (.int ((own_pts.getD ix.toNatClampNeg (0 : Int32)) + ((((p2.toUInt32 >>> ((8 : Int32) &&& 31).toUInt32).toInt32) % (3 : Int32)) - (1 : Int32))))]) rfl k) ?_
  show OGo p e below _ (T70.setTop (mkF m 161 #[.val (.int p1), .val (.int p2), .val (.ref b1), .val (.int ix), .val (.int ((((p2.toUInt32 >>> ((8 : Int32) &&& 31).toUInt32).toInt32) % (3 : Int32)) - (1 : Int32))), .val (.int ((own_pts.getD ix.toNatClampNeg (0 : Int32)) + ((((p2.toUInt32 >>> ((8 : Int32) &&& 31).toUInt32).toInt32) % (3 : Int32)) - (1 : Int32))))] []))
  refine OGo.to (fun _ k => XS.iloadN X70.here hx rfl (hb hby at_161) rfl k) ?_
  show OGo p e below _ (T70.setTop (mkF m 162 #[.val (.int p1), .val (.int p2), .val (.ref b1), .val (.int ix), .val (.int ((((p2.toUInt32 >>> ((8 : Int32) &&& 31).toUInt32).toInt32) % (3 : Int32)) - (1 : Int32))), .val (.int ((own_pts.getD ix.toNatClampNeg (0 : Int32)) + ((((p2.toUInt32 >>> ((8 : Int32) &&& 31).toUInt32).toInt32) % (3 : Int32)) - (1 : Int32))))] [(.int p1)]))
  obtain ⟨_, T76, Lc76, X76, hQ76, st76⟩ := own_un X70 (Q := Q1 Z p1 h70 n0) (rc := 0) (rs := 0) (W := fun v B => ∀ target, Steps p.tables e below (B.setTop { (mkF m 162 #[.val (.int p1), .val (.int p2), .val (.ref b1), .val (.int ix), .val (.int ((((p2.toUInt32 >>> ((8 : Int32) &&& 31).toUInt32).toInt32) % (3 : Int32)) - (1 : Int32))), .val (.int ((own_pts.getD ix.toNatClampNeg (0 : Int32)) + ((((p2.toUInt32 >>> ((8 : Int32) &&& 31).toUInt32).toInt32) % (3 : Int32)) - (1 : Int32))))] [(.int p1)]) with pc := 165, stack := v.toList ++ [] }) target → Steps p.tables e below (T70.setTop (mkF m 162 #[.val (.int p1), .val (.int p2), .val (.ref b1), .val (.int ix), .val (.int ((((p2.toUInt32 >>> ((8 : Int32) &&& 31).toUInt32).toInt32) % (3 : Int32)) - (1 : Int32))), .val (.int ((own_pts.getD ix.toNatClampNeg (0 : Int32)) + ((((p2.toUInt32 >>> ((8 : Int32) &&& 31).toUInt32).toInt32) % (3 : Int32)) - (1 : Int32))))] [(.int p1)])) target) <| Jvm.LawKit.callS X70 hx (y := (⟨"com/example/querytrail/querytrail/trec/XmlSyntaxIsXmlCharacterPinLaw", "agrees", "(I)Z"⟩ : MethodName)) hown (mvT hZ (hw _ (List.mem_of_getElem? (i := 13) rfl))) (mvT hZ (hw _ (List.mem_of_getElem? (i := 14) rfl))) (mvT hZ (hw _ (List.mem_of_getElem? (i := 15) rfl))) (mvT hZ (hw _ (List.mem_of_getElem? (i := 16) rfl))) (by decide) (backOf (W := 0) (rm1 l Z a0 hw [] p1 h70 n0 z71 ) hZ (hw _ (List.mem_of_getElem? (i := 16) rfl)) (hw _ (List.mem_of_getElem? (i := 15) rfl)) (by decide) (by decide)) (g := (mkF m 162 #[.val (.int p1), .val (.int p2), .val (.ref b1), .val (.int ix), .val (.int ((((p2.toUInt32 >>> ((8 : Int32) &&& 31).toUInt32).toInt32) % (3 : Int32)) - (1 : Int32))), .val (.int ((own_pts.getD ix.toNatClampNeg (0 : Int32)) + ((((p2.toUInt32 >>> ((8 : Int32) &&& 31).toUInt32).toInt32) % (3 : Int32)) - (1 : Int32))))] [(.int p1)])) rfl (by rw [hml]; rfl) (argsL := [(.int p1)]) (rest := []) (lenOf pd_0 rfl) rfl (by show 2 * 0 + _ ≤ _; exact Nat.le_of_eq rfl) (hb hby at_162) (fun _ _ => ⟨rfl, e70, (by decide : 1 + 0 ≤ _), (by decide : 23 + 0 ≤ _)⟩)
  obtain ⟨rfl, N76q, e76⟩ := hQ76
  have N76 := Fr.app N70 N76q
  refine OGo.to st76 ?_
  show OGo p e below _ (T76.setTop (mkF m 165 #[.val (.int p1), .val (.int p2), .val (.ref b1), .val (.int ix), .val (.int ((((p2.toUInt32 >>> ((8 : Int32) &&& 31).toUInt32).toInt32) % (3 : Int32)) - (1 : Int32))), .val (.int ((own_pts.getD ix.toNatClampNeg (0 : Int32)) + ((((p2.toUInt32 >>> ((8 : Int32) &&& 31).toUInt32).toInt32) % (3 : Int32)) - (1 : Int32))))] [(.int (1 : Int32))]))
  have hc165_77 : ¬ ((1 : Int32) = (0 : Int32)) := by decide
  refine OGo.to (fun _ k => XS.ifNo X76.here hx rfl (hb hby at_165) rfl ((if0 _ _).trans (feq hc165_77).1) k) ?_
  show OGo p e below _ (T76.setTop (mkF m 168 #[.val (.int p1), .val (.int p2), .val (.ref b1), .val (.int ix), .val (.int ((((p2.toUInt32 >>> ((8 : Int32) &&& 31).toUInt32).toInt32) % (3 : Int32)) - (1 : Int32))), .val (.int ((own_pts.getD ix.toNatClampNeg (0 : Int32)) + ((((p2.toUInt32 >>> ((8 : Int32) &&& 31).toUInt32).toInt32) % (3 : Int32)) - (1 : Int32))))] []))
  refine OGo.to (fun _ k => XS.iload X76.here hx rfl (hb hby at_168) rfl k) ?_
  show OGo p e below _ (T76.setTop (mkF m 170 #[.val (.int p1), .val (.int p2), .val (.ref b1), .val (.int ix), .val (.int ((((p2.toUInt32 >>> ((8 : Int32) &&& 31).toUInt32).toInt32) % (3 : Int32)) - (1 : Int32))), .val (.int ((own_pts.getD ix.toNatClampNeg (0 : Int32)) + ((((p2.toUInt32 >>> ((8 : Int32) &&& 31).toUInt32).toInt32) % (3 : Int32)) - (1 : Int32))))] [(.int ((own_pts.getD ix.toNatClampNeg (0 : Int32)) + ((((p2.toUInt32 >>> ((8 : Int32) &&& 31).toUInt32).toInt32) % (3 : Int32)) - (1 : Int32))))]))
  obtain ⟨_, T78, Lc78, X78, hQ78, st78⟩ := own_un X76 (Q := Q1 Z ((own_pts.getD ix.toNatClampNeg (0 : Int32)) + ((((p2.toUInt32 >>> ((8 : Int32) &&& 31).toUInt32).toInt32) % (3 : Int32)) - (1 : Int32))) h70 n0) (rc := 0) (rs := 0) (W := fun v B => ∀ target, Steps p.tables e below (B.setTop { (mkF m 170 #[.val (.int p1), .val (.int p2), .val (.ref b1), .val (.int ix), .val (.int ((((p2.toUInt32 >>> ((8 : Int32) &&& 31).toUInt32).toInt32) % (3 : Int32)) - (1 : Int32))), .val (.int ((own_pts.getD ix.toNatClampNeg (0 : Int32)) + ((((p2.toUInt32 >>> ((8 : Int32) &&& 31).toUInt32).toInt32) % (3 : Int32)) - (1 : Int32))))] [(.int ((own_pts.getD ix.toNatClampNeg (0 : Int32)) + ((((p2.toUInt32 >>> ((8 : Int32) &&& 31).toUInt32).toInt32) % (3 : Int32)) - (1 : Int32))))]) with pc := 173, stack := v.toList ++ [] }) target → Steps p.tables e below (T76.setTop (mkF m 170 #[.val (.int p1), .val (.int p2), .val (.ref b1), .val (.int ix), .val (.int ((((p2.toUInt32 >>> ((8 : Int32) &&& 31).toUInt32).toInt32) % (3 : Int32)) - (1 : Int32))), .val (.int ((own_pts.getD ix.toNatClampNeg (0 : Int32)) + ((((p2.toUInt32 >>> ((8 : Int32) &&& 31).toUInt32).toInt32) % (3 : Int32)) - (1 : Int32))))] [(.int ((own_pts.getD ix.toNatClampNeg (0 : Int32)) + ((((p2.toUInt32 >>> ((8 : Int32) &&& 31).toUInt32).toInt32) % (3 : Int32)) - (1 : Int32))))])) target) <| Jvm.LawKit.callS X76 hx (y := (⟨"com/example/querytrail/querytrail/trec/XmlSyntaxIsXmlCharacterPinLaw", "agrees", "(I)Z"⟩ : MethodName)) hown (mvT hZ (hw _ (List.mem_of_getElem? (i := 13) rfl))) (mvT hZ (hw _ (List.mem_of_getElem? (i := 14) rfl))) (mvT hZ (hw _ (List.mem_of_getElem? (i := 15) rfl))) (mvT hZ (hw _ (List.mem_of_getElem? (i := 16) rfl))) (by decide) (backOf (W := 0) (rm1 l Z a0 hw [] ((own_pts.getD ix.toNatClampNeg (0 : Int32)) + ((((p2.toUInt32 >>> ((8 : Int32) &&& 31).toUInt32).toInt32) % (3 : Int32)) - (1 : Int32))) h70 n0 z71 ) hZ (hw _ (List.mem_of_getElem? (i := 16) rfl)) (hw _ (List.mem_of_getElem? (i := 15) rfl)) (by decide) (by decide)) (g := (mkF m 170 #[.val (.int p1), .val (.int p2), .val (.ref b1), .val (.int ix), .val (.int ((((p2.toUInt32 >>> ((8 : Int32) &&& 31).toUInt32).toInt32) % (3 : Int32)) - (1 : Int32))), .val (.int ((own_pts.getD ix.toNatClampNeg (0 : Int32)) + ((((p2.toUInt32 >>> ((8 : Int32) &&& 31).toUInt32).toInt32) % (3 : Int32)) - (1 : Int32))))] [(.int ((own_pts.getD ix.toNatClampNeg (0 : Int32)) + ((((p2.toUInt32 >>> ((8 : Int32) &&& 31).toUInt32).toInt32) % (3 : Int32)) - (1 : Int32))))])) rfl (by rw [hml]; rfl) (argsL := [(.int ((own_pts.getD ix.toNatClampNeg (0 : Int32)) + ((((p2.toUInt32 >>> ((8 : Int32) &&& 31).toUInt32).toInt32) % (3 : Int32)) - (1 : Int32))))]) (rest := []) (lenOf pd_0 rfl) rfl (by show 2 * 0 + _ ≤ _; exact Nat.le_of_eq rfl) (hb hby at_170) (fun _ _ => ⟨rfl, e76, (by decide : 1 + 0 ≤ _), (by decide : 23 + 0 ≤ _)⟩)
  obtain ⟨rfl, N78q, e78⟩ := hQ78
  have N78 := Fr.app N76 N78q
  refine OGo.to st78 ?_
  show OGo p e below _ (T78.setTop (mkF m 173 #[.val (.int p1), .val (.int p2), .val (.ref b1), .val (.int ix), .val (.int ((((p2.toUInt32 >>> ((8 : Int32) &&& 31).toUInt32).toInt32) % (3 : Int32)) - (1 : Int32))), .val (.int ((own_pts.getD ix.toNatClampNeg (0 : Int32)) + ((((p2.toUInt32 >>> ((8 : Int32) &&& 31).toUInt32).toInt32) % (3 : Int32)) - (1 : Int32))))] [(.int (1 : Int32))]))
  have hc173_79 : ¬ ((1 : Int32) = (0 : Int32)) := by decide
  refine OGo.to (fun _ k => XS.ifNo X78.here hx rfl (hb hby at_173) rfl ((if0 _ _).trans (feq hc173_79).1) k) ?_
  show OGo p e below _ (T78.setTop (mkF m 176 #[.val (.int p1), .val (.int p2), .val (.ref b1), .val (.int ix), .val (.int ((((p2.toUInt32 >>> ((8 : Int32) &&& 31).toUInt32).toInt32) % (3 : Int32)) - (1 : Int32))), .val (.int ((own_pts.getD ix.toNatClampNeg (0 : Int32)) + ((((p2.toUInt32 >>> ((8 : Int32) &&& 31).toUInt32).toInt32) % (3 : Int32)) - (1 : Int32))))] []))
  refine OGo.to (fun _ k => XS.iconst X78.here hx rfl (hb hby at_176) k) ?_
  show OGo p e below _ (T78.setTop (mkF m 177 #[.val (.int p1), .val (.int p2), .val (.ref b1), .val (.int ix), .val (.int ((((p2.toUInt32 >>> ((8 : Int32) &&& 31).toUInt32).toInt32) % (3 : Int32)) - (1 : Int32))), .val (.int ((own_pts.getD ix.toNatClampNeg (0 : Int32)) + ((((p2.toUInt32 >>> ((8 : Int32) &&& 31).toUInt32).toInt32) % (3 : Int32)) - (1 : Int32))))] [(.int (1 : Int32))]))
  refine OGo.to (fun _ k => XS.goto X78.here hx rfl (pc0 := 177) (pc' := 181) rfl (hb hby at_177) (by decide) (by decide) k) ?_
  show OGo p e below _ (T78.setTop (mkF m 181 #[.val (.int p1), .val (.int p2), .val (.ref b1), .val (.int ix), .val (.int ((((p2.toUInt32 >>> ((8 : Int32) &&& 31).toUInt32).toInt32) % (3 : Int32)) - (1 : Int32))), .val (.int ((own_pts.getD ix.toNatClampNeg (0 : Int32)) + ((((p2.toUInt32 >>> ((8 : Int32) &&& 31).toUInt32).toInt32) % (3 : Int32)) - (1 : Int32))))] [(.int (1 : Int32))]))
  refine OGo.ret (Q := Q0 Z p1 p2 h0 n0) X78 (some (.int (1 : Int32))) (fun h => by rw [Bd.returns] at h; cases h) Bd.notSynchronized (fun fs hr => retN X78 hx (t := .boolean) (z := (1 : Int32)) Bd.returns (by simp) (hb hby at_181) hr) ?_ (by decide) (by decide)
  show Q0 Z p1 p2 h0 n0 _ T78.heap _
  rw [e78]
  exact ⟨rfl, N78⟩
set_option maxRecDepth 65536 in
set_option maxHeartbeats 40000000 in
theorem comes_1 {Post : Tables → Env → Array Value → State → Outcome → State → Prop} (hpost : ∀ tb e args s v u, (limb_1_1.after args s (.returned v) u = true ∧ limb_1_2.after args s (.returned v) u = true ∧ True) → FrameEnd s (.returned v) u (Jvm.fieldLocs frame_1_writes args s ++ Jvm.arrayLocs frame_1_arrays args s ++ Jvm.staticLocs frame_1_statics s) 16 128 → Post tb e args s (.returned v) u) :
    ArmFor flags0 classFile x code maxLocals ret World_1 tables_1 room_1 Calls_1 rest_1 Pre_1 Post := by
  intro l hfl _ _ p e ha hc hk s m args below hf hA hF happ hP
  obtain ⟨hcalls, hrest, hpre⟩ := hP
  obtain ⟨-, -, -, hnamed, -, -, -, hat⟩ := (Spec.applies_iff hf).mp happ
  obtain ⟨hg, hn⟩ := and_e (Cond.before_iff.mp (show (Jvm.Cond.and given_1 narrow_1).before args s = true from hpre))
  obtain ⟨g1, g2⟩ := and_e hg
  obtain ⟨g3, g4⟩ := and_e g2
  obtain ⟨w0, w1, rfl⟩ : ∃ w0 w1 : Value, args = #[w0, w1] := by
    have hs : args.size = 2 := by simpa [Cond.value, given_1] using g1
    obtain ⟨L⟩ := args
    match L, hs with
    | [w0, w1], _ => exact ⟨w0, w1, rfl⟩
  have hw := fun d (hd : d ∈ tables_1) => atoms_spec (ws := Jvm.Cond.code x code maxLocals ret :: tables_1) hat d (List.mem_cons_of_mem _ hd)
  have hfit : Fit s := fun {y c} hc i hi => by
    obtain ⟨ha, rfl⟩ := Array.getElem?_eq_some_iff.mp hc
    have q := List.all_eq_true.mp ((Array.all_eq_true_iff_forall_mem.mp hF) _ (Array.getElem_mem ha)) i (List.mem_range.mpr hi)
    simpa [Array.getElem?_eq_getElem hi] using q
  obtain ⟨i0, ei0⟩ := is_v g3
  obtain rfl : w0 = (.int i0) := Option.some.inj ei0
  obtain ⟨i1, ei1⟩ := is_v g4
  obtain rfl : w1 = (.int i1) := Option.some.inj ei1
  obtain ⟨n, o, h1, h2, h3, _, L, rfl, ⟨rfl, N⟩, hq⟩ := rm0 l s _ hw tables_1 i0 i1 s.heap s.heap.size (Nat.le_refl _)  p e ha hc hk s m _ below hf ((Spec.applies_iff_loose hf).mp happ).1 ⟨rfl, State.Warmed39.refl s, rfl⟩ trivial
  refine ⟨n, _, h1, h2, h3, hpost _ _ _ _ _ _ ⟨Cond.after_iff.mpr rfl, Cond.after_iff.mpr (eq_i res_at (Term.int_eval (1)) rfl), trivial⟩ ⟨hq.1, hq.2.1, (hq.2.2.sift fun y hy => Or.inr (N y hy)).mono (by decide) (by decide)⟩⟩
theorem main_1_1 : Claimed_1_1 := comes_1 fun _ _ _ _ _ _ h hF => ⟨h.1, hF⟩
theorem main_1_2 : Claimed_1_2 := comes_1 fun _ _ _ _ _ _ h hF => ⟨h.2.1, hF⟩
end Jvm.Pilot.@@N@@
namespace Jvm.Pilot.@@N@@
open Jvm Jvm.ClassFile Sem Op Lib Jvm.Free Jvm.Stand Jvm.Pilot.@@N@@.Jvm.D
/-! MADE BY PROGRAM (witnessworld.py) out of the Statement's table words and the real class files: 9 classes; the members and pool entries that the words name. The judged class is class 1, her method 3. -/
namespace start1
open Jvm.ClassFile
def u (s : String) : CpInfo := .utf8 (stringToUtf16 s)
/-- a pool by its gaps: so many unusable entries, then the entry; so many at the end -/
def gap : Nat → List CpInfo → List CpInfo
  | 0, r => r
  | n + 1, r => .unusable :: gap n r
def poolList (es : List (Nat × CpInfo)) (last : Nat) : List CpInfo := es.foldr (fun e r => gap e.1 (e.2 :: r)) (gap last [])
def pool (es : List (Nat × CpInfo)) (last : Nat) : Array CpInfo := ⟨poolList es last⟩
def fileOf (pool : Array CpInfo) (this : Nat) (attrs : Array Attribute := #[]) (ms : Array MethodInfo := #[]) (fl : Nat := 33) (sup : Nat := 0) (ifs : Array Nat := #[]) (fds : Array FieldInfo := #[]) : ClassFile where
  minorVersion := 0
  majorVersion := 65
  constantPool := pool
  accessFlags := fl
  thisClass := this
  superClass := sup
  interfaces := ifs
  fields := fds
  methods := ms
  attributes := attrs
def plain (name : String) (sup : Option ClassId) : Class where
  name := name
  kind := .ordinary
  loader := none
  accessFlags := 33
  super := sup
  interfaces := #[]
  cf := none
  fields := #[]
  methods := #[]
  instanceTypes := #[]
  staticTypes := #[]
  resolved := #[]
  callSites := []
  init := .initialized
  statics := none
  mirror := none

def pool0 : Array CpInfo := pool [(5, u "<init>"), (0, u "()V"), (1, .class_ 10), (1, u "java/lang/Object")] 113

def k0m0 : Method := { name := "<init>", desc := "()V", sig := { parameters := [], returnType := none }, accessFlags := 1, code := none }
/-- java/lang/Object -/
def k0 : Class := { plain "java/lang/Object" none with
  accessFlags := 33
  interfaces := #[]
  cf := some (fileOf pool0 8 #[] #[{ accessFlags := 1, nameIndex := 5, descriptorIndex := 6, attributes := #[] }] 33 0 #[] #[])
  fields := #[]
  methods := #[k0m0]
  instanceTypes := #[]
  staticTypes := #[]
  resolved := Array.replicate 124 none
  statics := none }

def pool1 : Array CpInfo := pool [(2, .class_ 4), (1, u "java/lang/Object"), (0, u "<init>"), (0, u "()V"), (0, .integer 55296), (0, .integer 57343), (0, .integer 65534), (0, .integer 65535), (0, .integer 1114111), (0, .methodref 13 14), (0, .class_ 15), (0, .nameAndType 16 17), (0, u "com/example/querytrail/querytrail/trec/XmlSyntax"), (0, u "isXmlCharacter"), (0, u "(I)Z"), (0, .methodref 19 20), (0, .class_ 21), (0, .nameAndType 22 17), (0, u "com/example/querytrail/querytrail/trec/XmlSyntaxIsXmlCharacterPinLaw"), (0, u "excluded"), (0, .integer 55295), (0, .integer 57344), (0, .integer 65533), (0, .integer 65536), (0, .integer 1114112), (2, .integer 2147483648), (0, .integer 2147483647), (0, .methodref 19 33), (0, .nameAndType 34 17), (0, u "agrees"), (3, u "law"), (0, u "(II)Z")] 4

def k1m0 : Method := { name := "<init>", desc := "()V", sig := { parameters := [], returnType := none }, accessFlags := 2, code := none }
def k1c1 : Code := { maxStack := 2, maxLocals := 1, code := method_2_code, exceptionTable := #[], attributes := #[] }
def k1m1 : Method := { name := "excluded", desc := "(I)Z", sig := { parameters := [.int], returnType := some .boolean }, accessFlags := 10, code := some k1c1 }
def k1c2 : Code := { maxStack := 2, maxLocals := 1, code := method_3_code, exceptionTable := #[], attributes := #[] }
def k1m2 : Method := { name := "agrees", desc := "(I)Z", sig := { parameters := [.int], returnType := some .boolean }, accessFlags := 10, code := some k1c2 }
def k1c3 : Code := { maxStack := 4, maxLocals := 6, code := code, exceptionTable := #[], attributes := #[] }
def k1m3 : Method := { name := "law", desc := "(II)Z", sig := { parameters := [.int, .int], returnType := some .boolean }, accessFlags := 9, code := some k1c3 }
/-- com/example/querytrail/querytrail/trec/XmlSyntaxIsXmlCharacterPinLaw -/
def k1 : Class := { plain "com/example/querytrail/querytrail/trec/XmlSyntaxIsXmlCharacterPinLaw" (some 0) with
  accessFlags := 49
  interfaces := #[]
  cf := some (fileOf pool1 19 #[] #[{ accessFlags := 2, nameIndex := 5, descriptorIndex := 6, attributes := #[] }, { accessFlags := 10, nameIndex := 22, descriptorIndex := 17, attributes := #[] }, { accessFlags := 10, nameIndex := 34, descriptorIndex := 17, attributes := #[] }, { accessFlags := 9, nameIndex := 38, descriptorIndex := 39, attributes := #[] }] 49 2 #[] #[])
  fields := #[]
  methods := #[k1m0, k1m1, k1m2, k1m3]
  instanceTypes := #[]
  staticTypes := #[]
  resolved := Array.replicate 44 none
  statics := none }

def pool2 : Array CpInfo := pool [(2, .class_ 4), (1, u "java/lang/Object"), (0, u "<init>"), (0, u "()V"), (1, .class_ 10), (1, u "com/example/querytrail/querytrail/trec/XmlSyntax"), (0, u "XML_REFERENCES"), (0, u "Lcom/example/querytrail/querytrail/trec/XmlSyntax$ReferenceRule;"), (5, .class_ 20), (1, u "com/example/querytrail/querytrail/trec/XmlSyntax$Source"), (6, .class_ 29), (1, u "com/example/querytrail/querytrail/trec/XmlSyntax$ReferenceRule"), (1, u "Ljava/lang/String;"), (13, u "(I)Z"), (3, u "Ljava/util/Map;"), (4, .class_ 55), (0, u "com/example/querytrail/querytrail/trec/XmlSyntax$MalformedReference"), (27, .class_ 84), (0, u "com/example/querytrail/querytrail/trec/XmlSyntax$TextSource"), (27, .integer 55295), (0, .integer 57344), (0, .integer 65533), (0, .integer 65536), (0, .integer 1114111), (37, u "isXmlCharacter"), (50, u "PREDEFINED_ENTITIES"), (7, u "ENTITIES_READ")] 41

def k2m0 : Method := { name := "<init>", desc := "()V", sig := { parameters := [], returnType := none }, accessFlags := 2, code := none }
def k2c1 : Code := { maxStack := 2, maxLocals := 1, code := prog_90_method_7_code, exceptionTable := #[], attributes := #[] }
def k2m1 : Method := { name := "isXmlCharacter", desc := "(I)Z", sig := { parameters := [.int], returnType := some .boolean }, accessFlags := 8, code := some k2c1 }
/-- com/example/querytrail/querytrail/trec/XmlSyntax -/
def k2 : Class := { plain "com/example/querytrail/querytrail/trec/XmlSyntax" (some 0) with
  accessFlags := 48
  interfaces := #[]
  cf := some (fileOf pool2 8 #[.nestMembers #[83, 54, 27, 18]] #[{ accessFlags := 2, nameIndex := 5, descriptorIndex := 6, attributes := #[] }, { accessFlags := 8, nameIndex := 154, descriptorIndex := 45, attributes := #[] }] 48 2 #[] #[{ accessFlags := 24, nameIndex := 205, descriptorIndex := 49, attributes := #[] }, { accessFlags := 26, nameIndex := 11, descriptorIndex := 12, attributes := #[] }, { accessFlags := 26, nameIndex := 213, descriptorIndex := 31, attributes := #[] }])
  fields := #[{ name := "PREDEFINED_ENTITIES", type := (.object "java/util/Map"), accessFlags := 24, slot := 0, constantValue := 0 }, { name := "XML_REFERENCES", type := (.object "com/example/querytrail/querytrail/trec/XmlSyntax$ReferenceRule"), accessFlags := 26, slot := 1, constantValue := 0 }, { name := "ENTITIES_READ", type := (.object "java/lang/String"), accessFlags := 26, slot := 2, constantValue := 0 }]
  methods := #[k2m0, k2m1]
  instanceTypes := #[]
  staticTypes := #[(.object "java/util/Map"), (.object "com/example/querytrail/querytrail/trec/XmlSyntax$ReferenceRule"), (.object "java/lang/String")]
  resolved := Array.replicate 255 none
  statics := none }

def pool3 : Array CpInfo := pool [(1, u "java/lang/Cloneable"), (0, .class_ 1), (0, u "java/lang/Object"), (0, .class_ 3)] 3

/-- java/lang/Cloneable -/
def k3 : Class := { plain "java/lang/Cloneable" (some 0) with
  accessFlags := 1537
  interfaces := #[]
  cf := some (fileOf pool3 2 #[] #[] 1537 4 #[] #[])
  fields := #[]
  methods := #[]
  instanceTypes := #[]
  staticTypes := #[]
  resolved := Array.replicate 8 none
  statics := none }

def pool4 : Array CpInfo := pool [(1, u "java/io/Serializable"), (0, .class_ 1), (0, u "java/lang/Object"), (0, .class_ 3)] 3

/-- java/io/Serializable -/
def k4 : Class := { plain "java/io/Serializable" (some 0) with
  accessFlags := 1537
  interfaces := #[]
  cf := some (fileOf pool4 2 #[] #[] 1537 4 #[] #[])
  fields := #[]
  methods := #[]
  instanceTypes := #[]
  staticTypes := #[]
  resolved := Array.replicate 8 none
  statics := none }

/-- the primitive byte -/
def k5 : Class := { plain "byte" none with kind := .primitive 'B', accessFlags := 0x411 }
/-- [B -/
def k6 : Class := { plain "[B" (some 0) with kind := .array 5 .byte, interfaces := #[3, 4], accessFlags := 1041 }

/-- the primitive int -/
def k7 : Class := { plain "int" none with kind := .primitive 'I', accessFlags := 0x411 }
/-- [I -/
def k8 : Class := { plain "[I" (some 0) with kind := .array 7 .int, interfaces := #[3, 4], accessFlags := 1041 }

def heap : Heap := #[]
def classes : Array Class := #[k0, k1, k2, k3, k4, k5, k6, k7, k8]
def interned : List (Array UInt16 × Addr) := []
def slotsUsed : Nat := 0
def theMethod : MethodId := ⟨1, 3⟩
def args0 : Array Value := #[.int 5, .int 7]
def aboutOver (below : List Frame) : State where
  vm := { classes := classes, interned := interned.toArray }
  heap := heap
  slotsUsed := slotsUsed
  threads := #[{ frames := .invoking theMethod args0 :: below }]
def below0 : List Frame := [.native { method := ⟨0, 0⟩, args := #[] }]
def about1 : State := aboutOver below0
def p0 : Program := .bare "" "" ""
def e0 : Env := launch0.env 0 0 0
theorem w_frames : about1.frames = Frame.invoking theMethod args0 :: below0 := rfl
set_option maxRecDepth 65536 in
theorem w_args : argsFit about1.vm theMethod args0 = true := by decide +kernel
set_option maxRecDepth 65536 in
theorem w_heap : heapFits about1 = true := by decide +kernel
set_option maxRecDepth 65536 in
theorem w_runnable : about1.curStatus? = some .runnable := by decide +kernel
set_option maxRecDepth 65536 in
theorem w_alone : about1.alone = true := by decide +kernel
set_option maxRecDepth 65536 in
theorem w_named : about1.methodNamed? x = some theMethod := by decide +kernel
set_option maxRecDepth 65536 in
theorem w_hears : about1.hears theMethod below0 = true := by decide +kernel
set_option maxRecDepth 65536 in
theorem w_ripe : about1.ripe theMethod args0 below0 = true := by decide +kernel
theorem w_running : about1.status = .running := rfl
set_option maxRecDepth 65536 in
theorem w_room : about1.hasRoom e0.platform room_1 = true :=
  launch0.hasRoom_least _ room_1 (by decide +kernel) (by decide +kernel) (by decide +kernel) (by decide +kernel) (by decide +kernel) (by decide +kernel)
theorem allAtoms_all (ts : List Jvm.Cond) (a : Array Jvm.Value) (st : Jvm.State) : (allAtoms ts).before a st = ts.all (fun c => c.before a st) := by
  induction ts with
  | nil => rfl
  | cons c t ih =>
    show (Jvm.Cond.and c (allAtoms t)).before a st = _
    rw [Jvm.Cond.before_and, ih, List.all_cons]
def words1 : List Jvm.Cond := Jvm.Cond.code x code maxLocals ret :: tables_1
/-- a 'code' word, met by the world's own term for the bytes: nothing is compared byte by byte -/
theorem code_word {y : MethodName} {bytes : ByteArray} {mx : Nat} {rt : Option FieldType} {a : Array Value} {s : State} {m : MethodId} {meth : Method} {c : Code} (h1 : s.methodNamed? y = some m) (h2 : s.vm.method? m = some meth) (h3 : meth.code = some c) (h4 : c.code = bytes)
    (h5 : (c.maxLocals == mx && c.exceptionTable.isEmpty && decide (c.maxStack ≤ mostOperands) && decide (meth.sig.returnType = rt) && !meth.locks && decide (parseMethodDescriptor y.desc = some meth.sig)) = true) : (Jvm.Cond.code y bytes mx rt).before a s = true := by
  simp only [Bool.and_eq_true, beq_iff_eq, Bool.not_eq_true', decide_eq_true_eq] at h5
  obtain ⟨⟨⟨⟨⟨g1, g2⟩, g3⟩, g4⟩, g5⟩, g6⟩ := h5
  simp [Cond.before, Cond.holds, Cond.value, h1, h2, h3, h4, g1, g2, g3, g4, g5, g6]
def isCode : Jvm.Cond → Bool
  | .code _ _ _ _ => true
  | _ => false
theorem all_split {L : List Jvm.Cond} {P : Jvm.Cond → Bool} (h1 : L.all (fun c => isCode c || P c) = true) (h2 : ∀ c ∈ L.filter isCode, P c = true) : L.all P = true := by
  refine List.all_eq_true.mpr fun c hc => ?_
  have h := List.all_eq_true.mp h1 c hc
  rcases Bool.eq_false_or_eq_true (isCode c) with hi | hi
  · exact h2 c (List.mem_filter.mpr ⟨hc, hi⟩)
  · simpa [hi] using h
set_option maxRecDepth 65536 in
theorem w_c0 : (Jvm.Cond.code x code maxLocals ret).before args0 about1 = true := code_word (m := ⟨1, 3⟩) (meth := k1m3) (c := k1c3) (by decide +kernel) rfl rfl rfl (by decide +kernel)
set_option maxRecDepth 65536 in
theorem w_c1 : (Jvm.Cond.code ({ cls := "com/example/querytrail/querytrail/trec/XmlSyntaxIsXmlCharacterPinLaw", name := "agrees", desc := "(I)Z" } : Jvm.MethodName) method_3_code (1 : Nat) (Option.some Jvm.ClassFile.FieldType.boolean)).before args0 about1 = true := code_word (m := ⟨1, 2⟩) (meth := k1m2) (c := k1c2) (by decide +kernel) rfl rfl rfl (by decide +kernel)
set_option maxRecDepth 65536 in
theorem w_c2 : (Jvm.Cond.code ({ cls := "com/example/querytrail/querytrail/trec/XmlSyntax", name := "isXmlCharacter", desc := "(I)Z" } : Jvm.MethodName) prog_90_method_7_code (1 : Nat) (Option.some Jvm.ClassFile.FieldType.boolean)).before args0 about1 = true := code_word (m := ⟨2, 1⟩) (meth := k2m1) (c := k2c1) (by decide +kernel) rfl rfl rfl (by decide +kernel)
set_option maxRecDepth 65536 in
theorem w_c3 : (Jvm.Cond.code ({ cls := "com/example/querytrail/querytrail/trec/XmlSyntaxIsXmlCharacterPinLaw", name := "excluded", desc := "(I)Z" } : Jvm.MethodName) method_2_code (1 : Nat) (Option.some Jvm.ClassFile.FieldType.boolean)).before args0 about1 = true := code_word (m := ⟨1, 1⟩) (meth := k1m1) (c := k1c1) (by decide +kernel) rfl rfl rfl (by decide +kernel)
def codes1 : List Jvm.Cond := [Jvm.Cond.code x code maxLocals ret, Jvm.Cond.code ({ cls := "com/example/querytrail/querytrail/trec/XmlSyntaxIsXmlCharacterPinLaw", name := "agrees", desc := "(I)Z" } : Jvm.MethodName) method_3_code (1 : Nat) (Option.some Jvm.ClassFile.FieldType.boolean), Jvm.Cond.code ({ cls := "com/example/querytrail/querytrail/trec/XmlSyntax", name := "isXmlCharacter", desc := "(I)Z" } : Jvm.MethodName) prog_90_method_7_code (1 : Nat) (Option.some Jvm.ClassFile.FieldType.boolean), Jvm.Cond.code ({ cls := "com/example/querytrail/querytrail/trec/XmlSyntaxIsXmlCharacterPinLaw", name := "excluded", desc := "(I)Z" } : Jvm.MethodName) method_2_code (1 : Nat) (Option.some Jvm.ClassFile.FieldType.boolean)]
set_option maxRecDepth 65536 in
theorem codes_eq : words1.filter isCode = codes1 := rfl
theorem w_codes : ∀ c ∈ words1.filter isCode, c.before args0 about1 = true := by
  rw [codes_eq]
  intro c hc
  simp only [codes1, List.mem_cons, List.not_mem_nil, or_false] at hc
  rcases hc with rfl | rfl | rfl | rfl
  · exact w_c0
  · exact w_c1
  · exact w_c2
  · exact w_c3
set_option maxRecDepth 65536 in
theorem w_t1 : (words1.take 24).all (fun c => isCode c || c.before args0 about1) = true := by decide +kernel
set_option maxRecDepth 65536 in
theorem w_t2 : (words1.drop 24).all (fun c => isCode c || c.before args0 about1) = true := by decide +kernel
theorem w_tables : (allAtoms (Jvm.Cond.code x code maxLocals ret :: tables_1)).before args0 about1 = true := by
  rw [allAtoms_all]
  show words1.all (fun c => c.before args0 about1) = true
  refine all_split ?_ w_codes
  rw [← List.take_append_drop 24 words1, List.all_append, w_t1, w_t2]
  rfl
set_option maxRecDepth 65536 in
theorem w_case : (Jvm.Cond.and given_1 narrow_1).before args0 about1 = true := by decide +kernel
theorem w_applies : (headSpec (Jvm.Cond.code x code maxLocals ret :: tables_1) room_1).applies x e0.platform about1 = true :=
  (Spec.applies_iff w_frames).mpr ⟨w_running, w_runnable, w_alone, w_named, w_hears, w_ripe, w_room, w_tables⟩
theorem atStart : AtStart classFile x code maxLocals ret World_1 tables_1 room_1 Calls_1 rest_1 Pre_1 launch0 p0 e0 about1 theMethod args0 below0 :=
  ⟨lists_1, trivial, launch0.admits_env _ _ _, launch0.least_env, fairChoices_fair.cas, fairChoices_fair.clock, w_frames, w_args, w_heap, w_applies, trivial, trivial, w_case⟩
end start1
theorem witness_1 : WitnessClaimed_1 := ⟨start1.p0, start1.e0, start1.about1, start1.theMethod, start1.args0, start1.below0, start1.atStart⟩
end Jvm.Pilot.@@N@@
