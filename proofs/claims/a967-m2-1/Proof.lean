import JvmDerived
import JvmDerived.Pilot.@@N@@Statement
import JvmDerived.Pilot.@@N@@Code
set_option linter.unusedVariables false
set_option linter.unusedSimpArgs false
namespace Jvm.RoadKit
open Sem ClassFile Op Lib Jvm.Stand Jvm.Free Jvm.LawKit
section New
variable {p : Program} {l : Launch} {e : Env} {R : Room} {s : State} {m : MethodId} {args : Array Value} {below : List Frame} {meth : Method} {c : Code} {T : State} {locs : List Loc} {cells slots : Nat}
theorem retI (X : Stand p l e R s m args below meth c T locs cells slots) (hx : p.tables.exec = Jvm.exec) {pc : Nat} {Ls : Array Slot} {z : Int32} {rest : List Value} (hret : meth.sig.returnType = some .int) (hd : decode c.code pc = .ok (.ireturn, 1)) {fs : List Frame}
    (hl : ∀ (f : JFrame) (acts : List Action), f.method = m → f.locked = none → f.entered = [] → (doReturn e (T.setTop f) acts (some (.int z))).1 = T.setFrames fs) : Steps p.tables e below (T.setTop (mkF m pc Ls (.int z :: rest))) (T.setFrames fs) := by
  have hm' : T.vm.method? m = some meth := X.method'
  have hn : narrow .int (.int z) = .int z := rfl
  show Steps p.tables e below (T.setTop { method := m, pc := pc, locals := Ls, stack := _ :: rest, locked := none }) _
  jvm_step X.here [X.here.top, hx, hd, hm', hret, hn]
  first | (intro acts; rw [hl _ acts rfl rfl rfl]) | rw [hl _ _ rfl rfl rfl]
  exact Steps.refl _
end New
end Jvm.RoadKit
namespace Jvm.Pilot.@@N@@
open Jvm Jvm.ClassFile Sem Op Lib Jvm.Free Jvm.Stand Jvm.LawKit Jvm.RoadKit Bundle Jvm.Pilot.@@N@@.Jvm.D
section Own
variable {p : Program} {l : Launch} {e : Env} {R : Room} {s : State} {m : MethodId} {args : Array Value} {below : List Frame} {meth : Method} {c : Code} {T : State} {locs : List Loc} {cells slots : Nat}
theorem own_retL (X : Stand p l e R s m args below meth c T locs cells slots) (hx : p.tables.exec = Jvm.exec) {pc : Nat} {Ls : Array Slot} {z : Int64} {rest : List Value} (hret : meth.sig.returnType = some .long) (hd : decode c.code pc = .ok (.lreturn, 1)) {fs : List Frame}
    (hl : ∀ (f : JFrame) (acts : List Action), f.method = m → f.locked = none → f.entered = [] → (doReturn e (T.setTop f) acts (some (.long z))).1 = T.setFrames fs) : Steps p.tables e below (T.setTop (mkF m pc Ls (.long z :: rest))) (T.setFrames fs) := by
  have hm' : T.vm.method? m = some meth := X.method'
  have hn : narrow .long (.long z) = .long z := rfl
  show Steps p.tables e below (T.setTop { method := m, pc := pc, locals := Ls, stack := _ :: rest, locked := none }) _
  jvm_step X.here [X.here.top, hx, hd, hm', hret, hn]
  first | (intro acts; rw [hl _ acts rfl rfl rfl]) | rw [hl _ _ rfl rfl rfl]
  exact Steps.refl _
theorem own_retA (X : Stand p l e R s m args below meth c T locs cells slots) (hx : p.tables.exec = Jvm.exec) {pc : Nat} {Ls : Array Slot} {v : Value} {t : FieldType} {rest : List Value} (hret : meth.sig.returnType = some t) (ht : t.isReference = true) (hv : v.isRef = true) (hd : decode c.code pc = .ok (.areturn, 1)) {fs : List Frame}
    (hl : ∀ (f : JFrame) (acts : List Action), f.method = m → f.locked = none → f.entered = [] → (doReturn e (T.setTop f) acts (some v)).1 = T.setFrames fs) : Steps p.tables e below (T.setTop (mkF m pc Ls (v :: rest))) (T.setFrames fs) := by
  have hm' : T.vm.method? m = some meth := X.method'
  show Steps p.tables e below (T.setTop { method := m, pc := pc, locals := Ls, stack := _ :: rest, locked := none }) _
  jvm_step X.here [X.here.top, hx, hd, hm', hret, hv, ht]
  first | (intro acts; rw [hl _ acts rfl rfl rfl]) | rw [hl _ _ rfl rfl rfl]
  exact Steps.refl _
def OGo (p : Program) (e : Env) (below : List Frame) (P : State → Outcome → Prop) (S : State) : Prop := ∃ s₂ o, Steps p.tables e below S s₂ ∧ s₂.status = .running ∧ Ended s₂ below o ∧ P s₂ o
theorem OGo.to {P : State → Outcome → Prop} {S S' : State} (h : ∀ t, Steps p.tables e below S' t → Steps p.tables e below S t) (g : OGo p e below P S') : OGo p e below P S := by
  obtain ⟨s₂, o, h1, r⟩ := g
  exact ⟨s₂, o, h _ h1, r⟩
theorem OGo.ret {Q : Option Value → Heap → List Loc → Prop} (X : Stand p l e R s m args below meth c T locs cells slots) {g : JFrame} (v : Option Value) (hv : meth.sig.returnType = none → v = none) (hlocks : meth.locks = false)
    (st : ∀ fs : List Frame, (∀ (f : JFrame) (acts : List Action), f.method = m → f.locked = none → f.entered = [] → (doReturn e (T.setTop f) acts v).1 = T.setFrames fs) → Steps p.tables e below (T.setTop g) (T.setFrames fs)) (hq : Q v T.heap locs) {rc rs : Nat} (h1 : cells ≤ rc) (h2 : slots ≤ rs) :
    OGo p e below (fun s₂ o => ∃ v L, o = .returned v ∧ Q v s₂.heap L ∧ FrameEnd s o s₂ L rc rs) (T.setTop g) := by
  obtain ⟨fs, hr, hrun, hended, hW, hsame⟩ := X.leave (v := v) hv hlocks
  exact ⟨_, _, st fs hr, hrun, hended, _, _, rfl, hq, ⟨_, rfl⟩, hW, hsame.mono h1 h2⟩
theorem own_un (X0 : Stand p l e R s m args below meth c T locs cells slots) {Q : Option Value → Heap → List Loc → Prop} {rc rs : Nat} {W : Option Value → State → Prop}
    (h : ∃ (v : Option Value) (vm₁ : Vm) (B : Pt), s.WarmedH vm₁ ∧ Stand p l e R s m args below meth c B.U B.locs B.cells B.slots ∧ (∃ L, Q v B.U.heap L ∧ B.locs = locs ++ L ∧ B.cells = cells + rc ∧ B.slots = slots + rs) ∧ W v B.U) :
    ∃ (v : Option Value) (T' : State) (Lc : List Loc), Stand p l e R s m args below meth c T' (locs ++ Lc) (cells + rc) (slots + rs) ∧ Q v T'.heap Lc ∧ W v T' := by
  obtain ⟨v, vm₁, ⟨T', L', k', n'⟩, -, X, ⟨Lc, hQ, h1, h2, h3⟩, st⟩ := h
  subst h1 h2 h3
  exact ⟨v, T', Lc, X, hQ, st⟩
theorem own_selP {Z : State} {a0 : Array Value} (hZ : Z.Warmed39 s.vm) {y : MethodName} {n : Nat} (wi : (Jvm.Cond.instantiable y.cls n).before a0 Z = true) (wp : (Jvm.Cond.privateMethod y).before a0 Z = true) (wm : (Jvm.Cond.instanceMethod y).before a0 Z = true) (hy : y.cls ≠ "java/lang/invoke/MethodHandle" ∧ y.cls ≠ "java/lang/invoke/VarHandle") : (Jvm.Cond.selects y.cls y y).before args s = true := by
  obtain ⟨c, k, h1, h2, -, h3, -⟩ := Cond.instantiable_spec (mvT (args := args) hZ wi)
  exact selects_self_of_private h1 h2 ((Bool.or_eq_false_iff.mp h3).1) (Cond.privateMethod_at (mvP hZ wp (args := args))) (mvT hZ wm) hy
end Own
theorem own_pos {a b : Int} (h : a < b) : 0 < b - a := by omega
theorem own_ne0 {y : Int32} (h : 0 < y.toInt) : y ≠ (0 : Int32) := fun q => by subst q; exact absurd h (by decide)
theorem own_rem (x y : Int32) (hy : 0 < y.toInt) : 0 ≤ ((x &&& (2147483647 : Int32)) % y).toInt ∧ ((x &&& (2147483647 : Int32)) % y).toInt < y.toInt := by
  have h1 := c_and x (2147483647 : Int32) (by decide)
  have h2 := (c_iremV (x &&& (2147483647 : Int32)) y).1 h1.1 hy
  exact ⟨h2.1, h2.2.1⟩
theorem own_sub (a b : Int32) (ha : 0 ≤ a.toInt) (hb : 0 ≤ b.toInt) (hab : b.toInt ≤ a.toInt) : (a - b).toInt = a.toInt - b.toInt := by
  have h1 := c_isub a b
  have h2 := rng32 a
  have h3 := rng32 (a - b)
  omega
theorem own_a1 (a : Int32) : a - (0 : Int32) = a := Int32.sub_zero a
theorem own_a2 (a b : Int32) : a + b - a = b := by rw [Int32.add_comm, Int32.add_sub_cancel]
theorem pd_0 : parseMethodDescriptor "(I)I" = some ⟨[.int], some .int⟩ := by decide +kernel
theorem pd_1 : parseMethodDescriptor "([I[I[I)V" = some ⟨[(.array .int), (.array .int), (.array .int)], none⟩ := by decide +kernel
theorem pn_0 : plainName "com/example/cogram/cogram/index/Postings" = true := by first | (simp [plainName, overriddenIn]; done) | decide +kernel
theorem pn_1 : plainName "com/example/cogram/cogram/index/PostingsFrequencyPinLaw" = true := by first | (simp [plainName, overriddenIn]; done) | decide +kernel
theorem d1_0 : decode prog_38_method_1_code 0 = .ok (.aload_n 0, 1) := by decide +kernel
theorem d1_1 : decode prog_38_method_1_code 1 = .ok (.invokespecial 1, 3) := by decide +kernel
theorem d1_4 : decode prog_38_method_1_code 4 = .ok (.aload_n 0, 1) := by decide +kernel
theorem d1_5 : decode prog_38_method_1_code 5 = .ok (.aload_n 1, 1) := by decide +kernel
theorem d1_6 : decode prog_38_method_1_code 6 = .ok (.putfield 7, 3) := by decide +kernel
theorem d1_9 : decode prog_38_method_1_code 9 = .ok (.aload_n 0, 1) := by decide +kernel
theorem d1_10 : decode prog_38_method_1_code 10 = .ok (.aload_n 2, 1) := by decide +kernel
theorem d1_11 : decode prog_38_method_1_code 11 = .ok (.putfield 13, 3) := by decide +kernel
theorem d1_14 : decode prog_38_method_1_code 14 = .ok (.aload_n 0, 1) := by decide +kernel
theorem d1_15 : decode prog_38_method_1_code 15 = .ok (.aload_n 3, 1) := by decide +kernel
theorem d1_16 : decode prog_38_method_1_code 16 = .ok (.putfield 16, 3) := by decide +kernel
theorem d1_19 : decode prog_38_method_1_code 19 = .ok (.return_, 1) := by decide +kernel
theorem ef_1 (m : MethodId) (x0 : Addr) (x1 : Addr) (x2 : Addr) (x3 : Addr) : entryFrame m #[(.ref x0), (.ref x1), (.ref x2), (.ref x3)] 4 = mkF m 0 #[.val (.ref x0), .val (.ref x1), .val (.ref x2), .val (.ref x3)] [] := by first | (simp [entryFrame, mkF, argsToLocals, Value.category]; done) | rfl
def Q1 (Z : State) (a1 : Addr) (a2 : Addr) (a3 : Addr) (a4 : Addr) (u0 : Value) (u1 : Value) (u2 : Value) (h0 : Heap) (n0 : Nat) (v : Option Value) (h : Heap) (L : List Loc) : Prop := v = none ∧ Fr n0 L ∧ Keep h0 h [a1] ∧ Fld Z h a1 "com/example/cogram/cogram/index/Postings" "docs" "[I" (.ref a2) ∧ Fld Z h a1 "com/example/cogram/cogram/index/Postings" "ends" "[I" (.ref a3) ∧ Fld Z h a1 "com/example/cogram/cogram/index/Postings" "positions" "[I" (.ref a4)
set_option maxRecDepth 65536 in
set_option maxHeartbeats 40000000 in
theorem rm1 (l : Launch) (Z : State) (a0 : Array Value) (hw : ∀ d ∈ tables_1, d.before a0 Z = true) (ws : List Jvm.Cond) (a1 : Addr) (a2 : Addr) (a3 : Addr) (a4 : Addr) (u0 : Value) (u1 : Value) (u2 : Value) (h0 : Heap) (n0 : Nat) (Z0 : n0 ≤ h0.size) (E1 : Exa Z h0 a1 "com/example/cogram/cogram/index/Postings") (F0 : Fld Z h0 a1 "com/example/cogram/cogram/index/Postings" "docs" "[I" u0) (F1 : Fld Z h0 a1 "com/example/cogram/cogram/index/Postings" "ends" "[I" u1) (F2 : Fld Z h0 a1 "com/example/cogram/cogram/index/Postings" "positions" "[I" u2) (g1 : n0 ≤ a1) :
    MetFree l (⟨"com/example/cogram/cogram/index/Postings", "<init>", "([I[I[I)V"⟩ : MethodName) (head1 (Jvm.Cond.code (⟨"com/example/cogram/cogram/index/Postings", "<init>", "([I[I[I)V"⟩ : MethodName) prog_38_method_1_code 4 none :: ws) ({ frames := 1, cells := 0, slots := 0, locals := 12 } : Room)) (fun a U => a = #[(.ref a1), (.ref a2), (.ref a3), (.ref a4)] ∧ Z.Warmed39 U.vm ∧ U.heap = h0) (fun _ _ _ _ _ => True) (fun _ U o U' => ∃ v L, o = .returned v ∧ Q1 Z a1 a2 a3 a4 u0 u1 u2 h0 n0 v U'.heap L ∧ FrameEnd U o U' L ({ frames := 1, cells := 0, slots := 0, locals := 12 } : Room).cells ({ frames := 1, cells := 0, slots := 0, locals := 12 } : Room).slots) := by
  refine MetFree.of_bodySF (plainFor_of_name pn_0) hisR ?_
  intro p e s m args below meth c s₁ Bd hml0 hP hK
  obtain ⟨rfl, hZ, hh⟩ := hP
  have hx := Bd.exec
  have hby := Bd.bytes
  have hml : c.maxLocals = 4 := hml0
  have hown : s.vm.findClass "com/example/cogram/cogram/index/Postings" = some m.cls := findClass_of_methodNamed Bd.named
  have hnm := (name_of_methodNamed Bd.named Bd.method).1
  have X0 : Stand p l e ({ frames := 1, cells := 0, slots := 0, locals := 12 } : Room) s m #[(.ref a1), (.ref a2), (.ref a3), (.ref a4)] below meth c s₁ [] 0 0 := Stand.of_body Bd
  have e0 : s₁.heap = h0 := by rw [← hh, Bd.state]; rfl
  have N0 := Fr.nil n0
  show OGo p e below (fun s₂ o => ∃ v L, o = .returned v ∧ Q1 Z a1 a2 a3 a4 u0 u1 u2 h0 n0 v s₂.heap L ∧ FrameEnd s o s₂ L ({ frames := 1, cells := 0, slots := 0, locals := 12 } : Room).cells ({ frames := 1, cells := 0, slots := 0, locals := 12 } : Room).slots) _
  refine OGo.to (fun _ k => castTop (ef_1 m a1 a2 a3 a4) k) ?_
  refine OGo.to (fun _ k => XS.aloadN X0.here hx rfl (hb hby d1_0) rfl rfl k) ?_
  show OGo p e below _ (s₁.setTop (mkF m 1 #[.val (.ref a1), .val (.ref a2), .val (.ref a3), .val (.ref a4)] [(.ref a1)]))
  obtain ⟨T1, X1, e1, st1⟩ := initO X0 hx hZ hown (hw _ (List.mem_of_getElem? (i := 8) rfl)) (hw _ (List.mem_of_getElem? (i := 9) rfl)) (hw _ (List.mem_of_getElem? (i := 10) rfl)) e0 (g := (mkF m 1 #[.val (.ref a1), .val (.ref a2), .val (.ref a3), .val (.ref a4)] [(.ref a1)])) rfl (by rw [hml]; rfl) rfl (hb hby d1_1) (by decide) (W := 0) (by show 2 * 0 + _ ≤ _; exact Nat.le_of_eq rfl) (by decide)
  refine OGo.to st1 ?_
  show OGo p e below _ (T1.setTop (mkF m 4 #[.val (.ref a1), .val (.ref a2), .val (.ref a3), .val (.ref a4)] []))
  refine OGo.to (fun _ k => XS.aloadN X1.here hx rfl (hb hby d1_4) rfl rfl k) ?_
  show OGo p e below _ (T1.setTop (mkF m 5 #[.val (.ref a1), .val (.ref a2), .val (.ref a3), .val (.ref a4)] [(.ref a1)]))
  refine OGo.to (fun _ k => XS.aloadN X1.here hx rfl (hb hby d1_5) rfl rfl k) ?_
  show OGo p e below _ (T1.setTop (mkF m 6 #[.val (.ref a1), .val (.ref a2), .val (.ref a3), .val (.ref a4)] [(.ref a2), (.ref a1)]))
  obtain ⟨T2, h2, X2, e2, W2, st2⟩ := putF X1 hx hZ hown (host := "") (Or.inl (hw _ (List.mem_of_getElem? (i := 11) rfl))) Via.refl e1 F0 E1 (Or.inr ⟨(hw _ (List.mem_of_getElem? (i := 12) rfl)), rfl, hnm⟩) (hw _ (List.mem_of_getElem? (i := 3) rfl)) (ty := (.array .int)) (by decide) rfl rfl (g := (mkF m 6 #[.val (.ref a1), .val (.ref a2), .val (.ref a3), .val (.ref a4)] [(.ref a2), (.ref a1)])) rfl rfl (hb hby d1_6)
  refine OGo.to st2 ?_
  have Fw2 : Fld Z h2 a1 "com/example/cogram/cogram/index/Postings" "docs" "[I" (.ref a2) := F0.same W2
  have N2 := Fr.snoc X2 N0 g1
  have z3 : n0 ≤ h2.size := Nat.le_trans Z0 (Keep.of_wr W2).1
  have K4 : Keep h0 h2 [a1] := (Keep.refl h0 [a1]).wr W2 (Or.inl (List.mem_of_getElem? (i := 0) rfl))
  show OGo p e below _ (T2.setTop (mkF m 9 #[.val (.ref a1), .val (.ref a2), .val (.ref a3), .val (.ref a4)] []))
  refine OGo.to (fun _ k => XS.aloadN X2.here hx rfl (hb hby d1_9) rfl rfl k) ?_
  show OGo p e below _ (T2.setTop (mkF m 10 #[.val (.ref a1), .val (.ref a2), .val (.ref a3), .val (.ref a4)] [(.ref a1)]))
  refine OGo.to (fun _ k => XS.aloadN X2.here hx rfl (hb hby d1_10) rfl rfl k) ?_
  show OGo p e below _ (T2.setTop (mkF m 11 #[.val (.ref a1), .val (.ref a2), .val (.ref a3), .val (.ref a4)] [(.ref a3), (.ref a1)]))
  have f5 : Exa Z h2 a1 "com/example/cogram/cogram/index/Postings" := (E1.wr W2)
  have f6 : Fld Z h2 a1 "com/example/cogram/cogram/index/Postings" "ends" "[I" u1 := (F1.other W2 (Or.inr (slot_ne (Or.inr (hw _ (List.mem_of_getElem? (i := 14) rfl))) (Or.inr (hw _ (List.mem_of_getElem? (i := 12) rfl))) (by decide) (t := (.array .int)) (t' := (.array .int)) (by decide) (by decide))))
  obtain ⟨T7, h7, X7, e7, W7, st7⟩ := putF X2 hx hZ hown (host := "") (Or.inl (hw _ (List.mem_of_getElem? (i := 13) rfl))) Via.refl e2 f6 f5 (Or.inr ⟨(hw _ (List.mem_of_getElem? (i := 14) rfl)), rfl, hnm⟩) (hw _ (List.mem_of_getElem? (i := 3) rfl)) (ty := (.array .int)) (by decide) rfl rfl (g := (mkF m 11 #[.val (.ref a1), .val (.ref a2), .val (.ref a3), .val (.ref a4)] [(.ref a3), (.ref a1)])) rfl rfl (hb hby d1_11)
  refine OGo.to st7 ?_
  have Fw7 : Fld Z h7 a1 "com/example/cogram/cogram/index/Postings" "ends" "[I" (.ref a3) := f6.same W7
  have N7 := Fr.snoc X7 N2 g1
  have z8 : n0 ≤ h7.size := Nat.le_trans z3 (Keep.of_wr W7).1
  have K9 : Keep h0 h7 [a1] := K4.wr W7 (Or.inl (List.mem_of_getElem? (i := 0) rfl))
  show OGo p e below _ (T7.setTop (mkF m 14 #[.val (.ref a1), .val (.ref a2), .val (.ref a3), .val (.ref a4)] []))
  refine OGo.to (fun _ k => XS.aloadN X7.here hx rfl (hb hby d1_14) rfl rfl k) ?_
  show OGo p e below _ (T7.setTop (mkF m 15 #[.val (.ref a1), .val (.ref a2), .val (.ref a3), .val (.ref a4)] [(.ref a1)]))
  refine OGo.to (fun _ k => XS.aloadN X7.here hx rfl (hb hby d1_15) rfl rfl k) ?_
  show OGo p e below _ (T7.setTop (mkF m 16 #[.val (.ref a1), .val (.ref a2), .val (.ref a3), .val (.ref a4)] [(.ref a4), (.ref a1)]))
  have f10 : Exa Z h7 a1 "com/example/cogram/cogram/index/Postings" := (f5.wr W7)
  have f11 : Fld Z h7 a1 "com/example/cogram/cogram/index/Postings" "positions" "[I" u2 := ((F2.other W2 (Or.inr (slot_ne (Or.inr (hw _ (List.mem_of_getElem? (i := 16) rfl))) (Or.inr (hw _ (List.mem_of_getElem? (i := 12) rfl))) (by decide) (t := (.array .int)) (t' := (.array .int)) (by decide) (by decide)))).other W7 (Or.inr (slot_ne (Or.inr (hw _ (List.mem_of_getElem? (i := 16) rfl))) (Or.inr (hw _ (List.mem_of_getElem? (i := 14) rfl))) (by decide) (t := (.array .int)) (t' := (.array .int)) (by decide) (by decide))))
  obtain ⟨T12, h12, X12, e12, W12, st12⟩ := putF X7 hx hZ hown (host := "") (Or.inl (hw _ (List.mem_of_getElem? (i := 15) rfl))) Via.refl e7 f11 f10 (Or.inr ⟨(hw _ (List.mem_of_getElem? (i := 16) rfl)), rfl, hnm⟩) (hw _ (List.mem_of_getElem? (i := 3) rfl)) (ty := (.array .int)) (by decide) rfl rfl (g := (mkF m 16 #[.val (.ref a1), .val (.ref a2), .val (.ref a3), .val (.ref a4)] [(.ref a4), (.ref a1)])) rfl rfl (hb hby d1_16)
  refine OGo.to st12 ?_
  have Fw12 : Fld Z h12 a1 "com/example/cogram/cogram/index/Postings" "positions" "[I" (.ref a4) := f11.same W12
  have N12 := Fr.snoc X12 N7 g1
  have z13 : n0 ≤ h12.size := Nat.le_trans z8 (Keep.of_wr W12).1
  have K14 : Keep h0 h12 [a1] := K9.wr W12 (Or.inl (List.mem_of_getElem? (i := 0) rfl))
  show OGo p e below _ (T12.setTop (mkF m 19 #[.val (.ref a1), .val (.ref a2), .val (.ref a3), .val (.ref a4)] []))
  refine OGo.ret (Q := Q1 Z a1 a2 a3 a4 u0 u1 u2 h0 n0) X12 none (fun _ => rfl) Bd.notSynchronized (fun fs hr => X12.returnOut hx Bd.returns (hb hby d1_19) hr) ?_ (by decide) (by decide)
  have f15 : Fld Z h12 a1 "com/example/cogram/cogram/index/Postings" "docs" "[I" (.ref a2) := ((Fw2.other W7 (Or.inr (slot_ne (Or.inr (hw _ (List.mem_of_getElem? (i := 12) rfl))) (Or.inr (hw _ (List.mem_of_getElem? (i := 14) rfl))) (by decide) (t := (.array .int)) (t' := (.array .int)) (by decide) (by decide)))).other W12 (Or.inr (slot_ne (Or.inr (hw _ (List.mem_of_getElem? (i := 12) rfl))) (Or.inr (hw _ (List.mem_of_getElem? (i := 16) rfl))) (by decide) (t := (.array .int)) (t' := (.array .int)) (by decide) (by decide))))
  have f16 : Fld Z h12 a1 "com/example/cogram/cogram/index/Postings" "ends" "[I" (.ref a3) := (Fw7.other W12 (Or.inr (slot_ne (Or.inr (hw _ (List.mem_of_getElem? (i := 14) rfl))) (Or.inr (hw _ (List.mem_of_getElem? (i := 16) rfl))) (by decide) (t := (.array .int)) (t' := (.array .int)) (by decide) (by decide))))
  show Q1 Z a1 a2 a3 a4 u0 u1 u2 h0 n0 _ T12.heap _
  rw [e12]
  exact ⟨rfl, N12, K14, f15, f16, Fw12⟩
theorem d4_0 : decode prog_38_method_9_code 0 = .ok (.iload_n 1, 1) := by decide +kernel
theorem d4_1 : decode prog_38_method_9_code 1 = .ok (.ifCond .ne 7, 3) := by decide +kernel
theorem d4_4 : decode prog_38_method_9_code 4 = .ok (.iconst 0, 1) := by decide +kernel
theorem d4_5 : decode prog_38_method_9_code 5 = .ok (.goto 11, 3) := by decide +kernel
theorem d4_16 : decode prog_38_method_9_code 16 = .ok (.ireturn, 1) := by decide +kernel
theorem ef_s0 (m : MethodId) (x0 : Addr) (x1 : Int32) : entryFrame m #[(.ref x0), (.int x1)] 2 = mkF m 0 #[.val (.ref x0), .val (.int x1)] [] := by first | (simp [entryFrame, mkF, argsToLocals, Value.category]; done) | rfl
def Qs0 (Z : State) (a1 : Addr) (t1 : Addr) (kc : ClassId) (ev0 : Int32) (ev1 : Int32) (ev2 : Int32) (h0 : Heap) (n0 : Nat) (v : Option Value) (h : Heap) (L : List Loc) : Prop := v = some (.int (0 : Int32)) ∧ Fr n0 L ∧ h = h0
set_option maxRecDepth 65536 in
set_option maxHeartbeats 40000000 in
theorem rms0 (l : Launch) (Z : State) (a0 : Array Value) (hw : ∀ d ∈ tables_1, d.before a0 Z = true) (ws : List Jvm.Cond) (a1 : Addr) (t1 : Addr) (kc : ClassId) (ev0 : Int32) (ev1 : Int32) (ev2 : Int32) (h0 : Heap) (n0 : Nat) (Z0 : n0 ≤ h0.size) (E1 : Exa Z h0 a1 "com/example/cogram/cogram/index/Postings") (F1 : Fld Z h0 a1 "com/example/cogram/cogram/index/Postings" "ends" "[I" (.ref t1)) (V1 : Arv Z h0 t1 kc .int (3 : Int32) [(.int ev0), (.int ev1), (.int ev2)] (.int (0 : Int32))) :
    MetFree l (⟨"com/example/cogram/cogram/index/Postings", "start", "(I)I"⟩ : MethodName) (head1 (Jvm.Cond.code (⟨"com/example/cogram/cogram/index/Postings", "start", "(I)I"⟩ : MethodName) prog_38_method_9_code 2 (some .int) :: ws) ({ frames := 0, cells := 0, slots := 0, locals := 0 } : Room)) (fun a U => a = #[(.ref a1), (.int (0 : Int32))] ∧ Z.Warmed39 U.vm ∧ U.heap = h0) (fun _ _ _ _ _ => True) (fun _ U o U' => ∃ v L, o = .returned v ∧ Qs0 Z a1 t1 kc ev0 ev1 ev2 h0 n0 v U'.heap L ∧ FrameEnd U o U' L ({ frames := 0, cells := 0, slots := 0, locals := 0 } : Room).cells ({ frames := 0, cells := 0, slots := 0, locals := 0 } : Room).slots) := by
  refine MetFree.of_bodySF (plainFor_of_name pn_0) hisR ?_
  intro p e s m args below meth c s₁ Bd hml0 hP hK
  obtain ⟨rfl, hZ, hh⟩ := hP
  have hx := Bd.exec
  have hby := Bd.bytes
  have hml : c.maxLocals = 2 := hml0
  have hown : s.vm.findClass "com/example/cogram/cogram/index/Postings" = some m.cls := findClass_of_methodNamed Bd.named
  have hnm := (name_of_methodNamed Bd.named Bd.method).1
  have X0 : Stand p l e ({ frames := 0, cells := 0, slots := 0, locals := 0 } : Room) s m #[(.ref a1), (.int (0 : Int32))] below meth c s₁ [] 0 0 := Stand.of_body Bd
  have e0 : s₁.heap = h0 := by rw [← hh, Bd.state]; rfl
  have N0 := Fr.nil n0
  show OGo p e below (fun s₂ o => ∃ v L, o = .returned v ∧ Qs0 Z a1 t1 kc ev0 ev1 ev2 h0 n0 v s₂.heap L ∧ FrameEnd s o s₂ L ({ frames := 0, cells := 0, slots := 0, locals := 0 } : Room).cells ({ frames := 0, cells := 0, slots := 0, locals := 0 } : Room).slots) _
  refine OGo.to (fun _ k => castTop (ef_s0 m a1 (0 : Int32)) k) ?_
  refine OGo.to (fun _ k => XS.iloadN X0.here hx rfl (hb hby d4_0) rfl k) ?_
  show OGo p e below _ (s₁.setTop (mkF m 1 #[.val (.ref a1), .val (.int (0 : Int32))] [(.int (0 : Int32))]))
  have hc1_1 : (0 : Int32) = (0 : Int32) := by decide
  refine OGo.to (fun _ k => XS.ifNo X0.here hx rfl (hb hby d4_1) rfl ((if0 _ _).trans (teq hc1_1).2) k) ?_
  show OGo p e below _ (s₁.setTop (mkF m 4 #[.val (.ref a1), .val (.int (0 : Int32))] []))
  refine OGo.to (fun _ k => XS.iconst X0.here hx rfl (hb hby d4_4) k) ?_
  show OGo p e below _ (s₁.setTop (mkF m 5 #[.val (.ref a1), .val (.int (0 : Int32))] [(.int (0 : Int32))]))
  refine OGo.to (fun _ k => XS.goto X0.here hx rfl (pc0 := 5) (pc' := 16) rfl (hb hby d4_5) (by decide) (by decide) k) ?_
  show OGo p e below _ (s₁.setTop (mkF m 16 #[.val (.ref a1), .val (.int (0 : Int32))] [(.int (0 : Int32))]))
  refine OGo.ret (Q := Qs0 Z a1 t1 kc ev0 ev1 ev2 h0 n0) X0 (some (.int (0 : Int32))) (fun h => by rw [Bd.returns] at h; cases h) Bd.notSynchronized (fun fs hr => retI X0 hx Bd.returns (hb hby d4_16) hr) ?_ (by decide) (by decide)
  show Qs0 Z a1 t1 kc ev0 ev1 ev2 h0 n0 _ s₁.heap _
  rw [e0]
  exact ⟨rfl, N0, rfl⟩
theorem d3_0 : decode prog_38_method_4_code 0 = .ok (.aload_n 0, 1) := by decide +kernel
theorem d3_1 : decode prog_38_method_4_code 1 = .ok (.getfield 13, 3) := by decide +kernel
theorem d3_4 : decode prog_38_method_4_code 4 = .ok (.iload_n 1, 1) := by decide +kernel
theorem d3_5 : decode prog_38_method_4_code 5 = .ok (.iaload, 1) := by decide +kernel
theorem d3_6 : decode prog_38_method_4_code 6 = .ok (.aload_n 0, 1) := by decide +kernel
theorem d3_7 : decode prog_38_method_4_code 7 = .ok (.iload_n 1, 1) := by decide +kernel
theorem d3_8 : decode prog_38_method_4_code 8 = .ok (.invokevirtual 19, 3) := by decide +kernel
theorem d3_11 : decode prog_38_method_4_code 11 = .ok (.isub, 1) := by decide +kernel
theorem d3_12 : decode prog_38_method_4_code 12 = .ok (.ireturn, 1) := by decide +kernel
theorem ef_f0 (m : MethodId) (x0 : Addr) (x1 : Int32) : entryFrame m #[(.ref x0), (.int x1)] 2 = mkF m 0 #[.val (.ref x0), .val (.int x1)] [] := by first | (simp [entryFrame, mkF, argsToLocals, Value.category]; done) | rfl
def Qf0 (Z : State) (a1 : Addr) (t1 : Addr) (kc : ClassId) (ev0 : Int32) (ev1 : Int32) (ev2 : Int32) (h0 : Heap) (n0 : Nat) (v : Option Value) (h : Heap) (L : List Loc) : Prop := v = some (.int (ev0 - (0 : Int32))) ∧ Fr n0 L ∧ h = h0
set_option maxRecDepth 65536 in
set_option maxHeartbeats 40000000 in
theorem rmf0 (l : Launch) (Z : State) (a0 : Array Value) (hw : ∀ d ∈ tables_1, d.before a0 Z = true) (ws : List Jvm.Cond) (a1 : Addr) (t1 : Addr) (kc : ClassId) (ev0 : Int32) (ev1 : Int32) (ev2 : Int32) (h0 : Heap) (n0 : Nat) (Z0 : n0 ≤ h0.size) (E1 : Exa Z h0 a1 "com/example/cogram/cogram/index/Postings") (F1 : Fld Z h0 a1 "com/example/cogram/cogram/index/Postings" "ends" "[I" (.ref t1)) (V1 : Arv Z h0 t1 kc .int (3 : Int32) [(.int ev0), (.int ev1), (.int ev2)] (.int (0 : Int32))) :
    MetFree l (⟨"com/example/cogram/cogram/index/Postings", "frequency", "(I)I"⟩ : MethodName) (head1 (Jvm.Cond.code (⟨"com/example/cogram/cogram/index/Postings", "frequency", "(I)I"⟩ : MethodName) prog_38_method_4_code 2 (some .int) :: ws) ({ frames := 1, cells := 0, slots := 0, locals := 14 } : Room)) (fun a U => a = #[(.ref a1), (.int (0 : Int32))] ∧ Z.Warmed39 U.vm ∧ U.heap = h0) (fun _ _ _ _ _ => True) (fun _ U o U' => ∃ v L, o = .returned v ∧ Qf0 Z a1 t1 kc ev0 ev1 ev2 h0 n0 v U'.heap L ∧ FrameEnd U o U' L ({ frames := 1, cells := 0, slots := 0, locals := 14 } : Room).cells ({ frames := 1, cells := 0, slots := 0, locals := 14 } : Room).slots) := by
  refine MetFree.of_bodySF (plainFor_of_name pn_0) hisR ?_
  intro p e s m args below meth c s₁ Bd hml0 hP hK
  obtain ⟨rfl, hZ, hh⟩ := hP
  have hx := Bd.exec
  have hby := Bd.bytes
  have hml : c.maxLocals = 2 := hml0
  have hown : s.vm.findClass "com/example/cogram/cogram/index/Postings" = some m.cls := findClass_of_methodNamed Bd.named
  have hnm := (name_of_methodNamed Bd.named Bd.method).1
  have X0 : Stand p l e ({ frames := 1, cells := 0, slots := 0, locals := 14 } : Room) s m #[(.ref a1), (.int (0 : Int32))] below meth c s₁ [] 0 0 := Stand.of_body Bd
  have e0 : s₁.heap = h0 := by rw [← hh, Bd.state]; rfl
  have N0 := Fr.nil n0
  show OGo p e below (fun s₂ o => ∃ v L, o = .returned v ∧ Qf0 Z a1 t1 kc ev0 ev1 ev2 h0 n0 v s₂.heap L ∧ FrameEnd s o s₂ L ({ frames := 1, cells := 0, slots := 0, locals := 14 } : Room).cells ({ frames := 1, cells := 0, slots := 0, locals := 14 } : Room).slots) _
  refine OGo.to (fun _ k => castTop (ef_f0 m a1 (0 : Int32)) k) ?_
  refine OGo.to (fun _ k => XS.aloadN X0.here hx rfl (hb hby d3_0) rfl rfl k) ?_
  show OGo p e below _ (s₁.setTop (mkF m 1 #[.val (.ref a1), .val (.int (0 : Int32))] [(.ref a1)]))
  obtain ⟨T1, X1, e1, st1⟩ := getF X0 hx hZ hown (host := "") (Or.inl (hw _ (List.mem_of_getElem? (i := 13) rfl))) Via.refl e0 F1 (g := (mkF m 1 #[.val (.ref a1), .val (.int (0 : Int32))] [(.ref a1)])) rfl rfl (hb hby d3_1)
  refine OGo.to st1 ?_
  show OGo p e below _ (T1.setTop (mkF m 4 #[.val (.ref a1), .val (.int (0 : Int32))] [(.ref t1)]))
  refine OGo.to (fun _ k => XS.iloadN X1.here hx rfl (hb hby d3_4) rfl k) ?_
  show OGo p e below _ (T1.setTop (mkF m 5 #[.val (.ref a1), .val (.int (0 : Int32))] [(.int (0 : Int32)), (.ref t1)]))
  have Vq2 := V1
  obtain ⟨cl2, Ar2, q2, S2, M2, Hs2, G2⟩ := Vq2
  have hin3 : ¬ ((0 : Int32) < 0 ∨ cl2.slots.size ≤ ((0 : Int32)).toNatClampNeg) := inb_of S2 ⟨by decide, by decide⟩
  have hat3 : cl2.slots[((0 : Int32)).toNatClampNeg]? = some (.int ev0) := Hs2.at hin3 (rfl)
  refine OGo.to (fun _ k => X1.iaload hx (j := (0 : Int32)) (v := (.int ev0)) (by rw [e1]; exact Ar2.1) (State.isArrayOf_alike hZ.alike Ar2.2.1) Ar2.2.2 hin3 hat3 (g := (mkF m 5 #[.val (.ref a1), .val (.int (0 : Int32))] [(.int (0 : Int32)), (.ref t1)])) rfl rfl (hb hby d3_5) _ k) ?_
  show OGo p e below _ (T1.setTop (mkF m 6 #[.val (.ref a1), .val (.int (0 : Int32))] [(.int ev0)]))
  refine OGo.to (fun _ k => XS.aloadN X1.here hx rfl (hb hby d3_6) rfl rfl k) ?_
  show OGo p e below _ (T1.setTop (mkF m 7 #[.val (.ref a1), .val (.int (0 : Int32))] [(.ref a1), (.int ev0)]))
  refine OGo.to (fun _ k => XS.iloadN X1.here hx rfl (hb hby d3_7) rfl k) ?_
  show OGo p e below _ (T1.setTop (mkF m 8 #[.val (.ref a1), .val (.int (0 : Int32))] [(.int (0 : Int32)), (.ref a1), (.int ev0)]))
  obtain ⟨cq4, q4, q4'⟩ := E1.cell
  obtain ⟨_, T4, Lc4, X4, hQ4, st4⟩ := own_un X1 (Q := Qs0 Z a1 t1 kc ev0 ev1 ev2 h0 n0) (rc := 0) (rs := 0) (W := fun v B => Steps p.tables e below (T1.setTop (mkF m 8 #[.val (.ref a1), .val (.int (0 : Int32))] [(.int (0 : Int32)), (.ref a1), (.int ev0)])) (B.setTop { (mkF m 8 #[.val (.ref a1), .val (.int (0 : Int32))] [(.int (0 : Int32)), (.ref a1), (.int ev0)]) with pc := 11, stack := v.toList ++ [(.int ev0)] })) <| X1.privateBack hx (y := (⟨"com/example/cogram/cogram/index/Postings", "start", "(I)I"⟩ : MethodName)) hown (mvT hZ (hw _ (List.mem_of_getElem? (i := 22) rfl))) (mvT hZ (hw _ (List.mem_of_getElem? (i := 23) rfl))) (own_selP hZ (hw _ (List.mem_of_getElem? (i := 3) rfl)) (hw _ (List.mem_of_getElem? (i := 24) rfl)) (hw _ (List.mem_of_getElem? (i := 23) rfl)) (by decide)) (Cond.privateMethod_at (mvP hZ (hw _ (List.mem_of_getElem? (i := 24) rfl)) (args := #[]))) (mvT hZ (hw _ (List.mem_of_getElem? (i := 25) rfl))) (by decide) (backOf (W := 1) (rms0 l Z a0 hw [] a1 t1 kc ev0 ev1 ev2 h0 n0 Z0 E1 F1 V1) hZ (hw _ (List.mem_of_getElem? (i := 25) rfl)) (hw _ (List.mem_of_getElem? (i := 4) rfl)) (by decide) (by decide)) (g := (mkF m 8 #[.val (.ref a1), .val (.int (0 : Int32))] [(.int (0 : Int32)), (.ref a1), (.int ev0)])) rfl (by rw [hml]; rfl) (Steps.refl _) (a := a1) (by rw [e1]; exact q4) q4' (argsL := [(.int (0 : Int32))]) (rest := [(.int ev0)]) (lenOf pd_0 rfl) rfl (by show 2 * 0 + _ ≤ _; exact Nat.le_of_eq rfl) (hb hby d3_8) (fun _ _ => ⟨rfl, e1, (by decide : 0 + 0 ≤ _), (by decide : 0 + 0 ≤ _)⟩)
  obtain ⟨rfl, N4q, e4⟩ := hQ4
  have N4 := Fr.app N0 N4q
  refine OGo.to (fun _ k => st4.trans k) ?_
  show OGo p e below _ (T4.setTop (mkF m 11 #[.val (.ref a1), .val (.int (0 : Int32))] [(.int (0 : Int32)), (.int ev0)]))
  refine OGo.to (fun _ k => XS.isub X4.here hx rfl (hb hby d3_11) rfl k) ?_
  show OGo p e below _ (T4.setTop (mkF m 12 #[.val (.ref a1), .val (.int (0 : Int32))] [(.int (ev0 - (0 : Int32)))]))
  refine OGo.ret (Q := Qf0 Z a1 t1 kc ev0 ev1 ev2 h0 n0) X4 (some (.int (ev0 - (0 : Int32)))) (fun h => by rw [Bd.returns] at h; cases h) Bd.notSynchronized (fun fs hr => retI X4 hx Bd.returns (hb hby d3_12) hr) ?_ (by decide) (by decide)
  show Qf0 Z a1 t1 kc ev0 ev1 ev2 h0 n0 _ T4.heap _
  rw [e4]
  exact ⟨rfl, N4, rfl⟩
theorem d4_8 : decode prog_38_method_9_code 8 = .ok (.aload_n 0, 1) := by decide +kernel
theorem d4_9 : decode prog_38_method_9_code 9 = .ok (.getfield 13, 3) := by decide +kernel
theorem d4_12 : decode prog_38_method_9_code 12 = .ok (.iload_n 1, 1) := by decide +kernel
theorem d4_13 : decode prog_38_method_9_code 13 = .ok (.iconst 1, 1) := by decide +kernel
theorem d4_14 : decode prog_38_method_9_code 14 = .ok (.isub, 1) := by decide +kernel
theorem d4_15 : decode prog_38_method_9_code 15 = .ok (.iaload, 1) := by decide +kernel
theorem ef_s1 (m : MethodId) (x0 : Addr) (x1 : Int32) : entryFrame m #[(.ref x0), (.int x1)] 2 = mkF m 0 #[.val (.ref x0), .val (.int x1)] [] := by first | (simp [entryFrame, mkF, argsToLocals, Value.category]; done) | rfl
def Qs1 (Z : State) (a1 : Addr) (t1 : Addr) (kc : ClassId) (ev0 : Int32) (ev1 : Int32) (ev2 : Int32) (h0 : Heap) (n0 : Nat) (v : Option Value) (h : Heap) (L : List Loc) : Prop := v = some (.int ev0) ∧ Fr n0 L ∧ h = h0
set_option maxRecDepth 65536 in
set_option maxHeartbeats 40000000 in
theorem rms1 (l : Launch) (Z : State) (a0 : Array Value) (hw : ∀ d ∈ tables_1, d.before a0 Z = true) (ws : List Jvm.Cond) (a1 : Addr) (t1 : Addr) (kc : ClassId) (ev0 : Int32) (ev1 : Int32) (ev2 : Int32) (h0 : Heap) (n0 : Nat) (Z0 : n0 ≤ h0.size) (E1 : Exa Z h0 a1 "com/example/cogram/cogram/index/Postings") (F1 : Fld Z h0 a1 "com/example/cogram/cogram/index/Postings" "ends" "[I" (.ref t1)) (V1 : Arv Z h0 t1 kc .int (3 : Int32) [(.int ev0), (.int ev1), (.int ev2)] (.int (0 : Int32))) :
    MetFree l (⟨"com/example/cogram/cogram/index/Postings", "start", "(I)I"⟩ : MethodName) (head1 (Jvm.Cond.code (⟨"com/example/cogram/cogram/index/Postings", "start", "(I)I"⟩ : MethodName) prog_38_method_9_code 2 (some .int) :: ws) ({ frames := 0, cells := 0, slots := 0, locals := 0 } : Room)) (fun a U => a = #[(.ref a1), (.int (1 : Int32))] ∧ Z.Warmed39 U.vm ∧ U.heap = h0) (fun _ _ _ _ _ => True) (fun _ U o U' => ∃ v L, o = .returned v ∧ Qs1 Z a1 t1 kc ev0 ev1 ev2 h0 n0 v U'.heap L ∧ FrameEnd U o U' L ({ frames := 0, cells := 0, slots := 0, locals := 0 } : Room).cells ({ frames := 0, cells := 0, slots := 0, locals := 0 } : Room).slots) := by
  refine MetFree.of_bodySF (plainFor_of_name pn_0) hisR ?_
  intro p e s m args below meth c s₁ Bd hml0 hP hK
  obtain ⟨rfl, hZ, hh⟩ := hP
  have hx := Bd.exec
  have hby := Bd.bytes
  have hml : c.maxLocals = 2 := hml0
  have hown : s.vm.findClass "com/example/cogram/cogram/index/Postings" = some m.cls := findClass_of_methodNamed Bd.named
  have hnm := (name_of_methodNamed Bd.named Bd.method).1
  have X0 : Stand p l e ({ frames := 0, cells := 0, slots := 0, locals := 0 } : Room) s m #[(.ref a1), (.int (1 : Int32))] below meth c s₁ [] 0 0 := Stand.of_body Bd
  have e0 : s₁.heap = h0 := by rw [← hh, Bd.state]; rfl
  have N0 := Fr.nil n0
  show OGo p e below (fun s₂ o => ∃ v L, o = .returned v ∧ Qs1 Z a1 t1 kc ev0 ev1 ev2 h0 n0 v s₂.heap L ∧ FrameEnd s o s₂ L ({ frames := 0, cells := 0, slots := 0, locals := 0 } : Room).cells ({ frames := 0, cells := 0, slots := 0, locals := 0 } : Room).slots) _
  refine OGo.to (fun _ k => castTop (ef_s1 m a1 (1 : Int32)) k) ?_
  refine OGo.to (fun _ k => XS.iloadN X0.here hx rfl (hb hby d4_0) rfl k) ?_
  show OGo p e below _ (s₁.setTop (mkF m 1 #[.val (.ref a1), .val (.int (1 : Int32))] [(.int (1 : Int32))]))
  have hc1_1 : ¬ ((1 : Int32) = (0 : Int32)) := by decide
  refine OGo.to (fun _ k => XS.ifYes X0.here hx rfl (pc0 := 1) (pc' := 8) rfl (hb hby d4_1) rfl ((if0 _ _).trans (feq hc1_1).2) (by decide) (by decide) k) ?_
  show OGo p e below _ (s₁.setTop (mkF m 8 #[.val (.ref a1), .val (.int (1 : Int32))] []))
  refine OGo.to (fun _ k => XS.aloadN X0.here hx rfl (hb hby d4_8) rfl rfl k) ?_
  show OGo p e below _ (s₁.setTop (mkF m 9 #[.val (.ref a1), .val (.int (1 : Int32))] [(.ref a1)]))
  obtain ⟨T2, X2, e2, st2⟩ := getF X0 hx hZ hown (host := "") (Or.inl (hw _ (List.mem_of_getElem? (i := 13) rfl))) Via.refl e0 F1 (g := (mkF m 9 #[.val (.ref a1), .val (.int (1 : Int32))] [(.ref a1)])) rfl rfl (hb hby d4_9)
  refine OGo.to st2 ?_
  show OGo p e below _ (T2.setTop (mkF m 12 #[.val (.ref a1), .val (.int (1 : Int32))] [(.ref t1)]))
  refine OGo.to (fun _ k => XS.iloadN X2.here hx rfl (hb hby d4_12) rfl k) ?_
  show OGo p e below _ (T2.setTop (mkF m 13 #[.val (.ref a1), .val (.int (1 : Int32))] [(.int (1 : Int32)), (.ref t1)]))
  refine OGo.to (fun _ k => XS.iconst X2.here hx rfl (hb hby d4_13) k) ?_
  show OGo p e below _ (T2.setTop (mkF m 14 #[.val (.ref a1), .val (.int (1 : Int32))] [(.int (1 : Int32)), (.int (1 : Int32)), (.ref t1)]))
  refine OGo.to (fun _ k => XS.isub X2.here hx rfl (hb hby d4_14) rfl k) ?_
  show OGo p e below _ (T2.setTop (mkF m 15 #[.val (.ref a1), .val (.int (1 : Int32))] [(.int (0 : Int32)), (.ref t1)]))
  have Vq3 := V1
  obtain ⟨cl3, Ar3, q3, S3, M3, Hs3, G3⟩ := Vq3
  have hin4 : ¬ ((0 : Int32) < 0 ∨ cl3.slots.size ≤ ((0 : Int32)).toNatClampNeg) := inb_of S3 ⟨by decide, by decide⟩
  have hat4 : cl3.slots[((0 : Int32)).toNatClampNeg]? = some (.int ev0) := Hs3.at hin4 (rfl)
  refine OGo.to (fun _ k => X2.iaload hx (j := (0 : Int32)) (v := (.int ev0)) (by rw [e2]; exact Ar3.1) (State.isArrayOf_alike hZ.alike Ar3.2.1) Ar3.2.2 hin4 hat4 (g := (mkF m 15 #[.val (.ref a1), .val (.int (1 : Int32))] [(.int (0 : Int32)), (.ref t1)])) rfl rfl (hb hby d4_15) _ k) ?_
  show OGo p e below _ (T2.setTop (mkF m 16 #[.val (.ref a1), .val (.int (1 : Int32))] [(.int ev0)]))
  refine OGo.ret (Q := Qs1 Z a1 t1 kc ev0 ev1 ev2 h0 n0) X2 (some (.int ev0)) (fun h => by rw [Bd.returns] at h; cases h) Bd.notSynchronized (fun fs hr => retI X2 hx Bd.returns (hb hby d4_16) hr) ?_ (by decide) (by decide)
  show Qs1 Z a1 t1 kc ev0 ev1 ev2 h0 n0 _ T2.heap _
  rw [e2]
  exact ⟨rfl, N0, rfl⟩
theorem ef_f1 (m : MethodId) (x0 : Addr) (x1 : Int32) : entryFrame m #[(.ref x0), (.int x1)] 2 = mkF m 0 #[.val (.ref x0), .val (.int x1)] [] := by first | (simp [entryFrame, mkF, argsToLocals, Value.category]; done) | rfl
def Qf1 (Z : State) (a1 : Addr) (t1 : Addr) (kc : ClassId) (ev0 : Int32) (ev1 : Int32) (ev2 : Int32) (h0 : Heap) (n0 : Nat) (v : Option Value) (h : Heap) (L : List Loc) : Prop := v = some (.int (ev1 - ev0)) ∧ Fr n0 L ∧ h = h0
set_option maxRecDepth 65536 in
set_option maxHeartbeats 40000000 in
theorem rmf1 (l : Launch) (Z : State) (a0 : Array Value) (hw : ∀ d ∈ tables_1, d.before a0 Z = true) (ws : List Jvm.Cond) (a1 : Addr) (t1 : Addr) (kc : ClassId) (ev0 : Int32) (ev1 : Int32) (ev2 : Int32) (h0 : Heap) (n0 : Nat) (Z0 : n0 ≤ h0.size) (E1 : Exa Z h0 a1 "com/example/cogram/cogram/index/Postings") (F1 : Fld Z h0 a1 "com/example/cogram/cogram/index/Postings" "ends" "[I" (.ref t1)) (V1 : Arv Z h0 t1 kc .int (3 : Int32) [(.int ev0), (.int ev1), (.int ev2)] (.int (0 : Int32))) :
    MetFree l (⟨"com/example/cogram/cogram/index/Postings", "frequency", "(I)I"⟩ : MethodName) (head1 (Jvm.Cond.code (⟨"com/example/cogram/cogram/index/Postings", "frequency", "(I)I"⟩ : MethodName) prog_38_method_4_code 2 (some .int) :: ws) ({ frames := 1, cells := 0, slots := 0, locals := 14 } : Room)) (fun a U => a = #[(.ref a1), (.int (1 : Int32))] ∧ Z.Warmed39 U.vm ∧ U.heap = h0) (fun _ _ _ _ _ => True) (fun _ U o U' => ∃ v L, o = .returned v ∧ Qf1 Z a1 t1 kc ev0 ev1 ev2 h0 n0 v U'.heap L ∧ FrameEnd U o U' L ({ frames := 1, cells := 0, slots := 0, locals := 14 } : Room).cells ({ frames := 1, cells := 0, slots := 0, locals := 14 } : Room).slots) := by
  refine MetFree.of_bodySF (plainFor_of_name pn_0) hisR ?_
  intro p e s m args below meth c s₁ Bd hml0 hP hK
  obtain ⟨rfl, hZ, hh⟩ := hP
  have hx := Bd.exec
  have hby := Bd.bytes
  have hml : c.maxLocals = 2 := hml0
  have hown : s.vm.findClass "com/example/cogram/cogram/index/Postings" = some m.cls := findClass_of_methodNamed Bd.named
  have hnm := (name_of_methodNamed Bd.named Bd.method).1
  have X0 : Stand p l e ({ frames := 1, cells := 0, slots := 0, locals := 14 } : Room) s m #[(.ref a1), (.int (1 : Int32))] below meth c s₁ [] 0 0 := Stand.of_body Bd
  have e0 : s₁.heap = h0 := by rw [← hh, Bd.state]; rfl
  have N0 := Fr.nil n0
  show OGo p e below (fun s₂ o => ∃ v L, o = .returned v ∧ Qf1 Z a1 t1 kc ev0 ev1 ev2 h0 n0 v s₂.heap L ∧ FrameEnd s o s₂ L ({ frames := 1, cells := 0, slots := 0, locals := 14 } : Room).cells ({ frames := 1, cells := 0, slots := 0, locals := 14 } : Room).slots) _
  refine OGo.to (fun _ k => castTop (ef_f1 m a1 (1 : Int32)) k) ?_
  refine OGo.to (fun _ k => XS.aloadN X0.here hx rfl (hb hby d3_0) rfl rfl k) ?_
  show OGo p e below _ (s₁.setTop (mkF m 1 #[.val (.ref a1), .val (.int (1 : Int32))] [(.ref a1)]))
  obtain ⟨T1, X1, e1, st1⟩ := getF X0 hx hZ hown (host := "") (Or.inl (hw _ (List.mem_of_getElem? (i := 13) rfl))) Via.refl e0 F1 (g := (mkF m 1 #[.val (.ref a1), .val (.int (1 : Int32))] [(.ref a1)])) rfl rfl (hb hby d3_1)
  refine OGo.to st1 ?_
  show OGo p e below _ (T1.setTop (mkF m 4 #[.val (.ref a1), .val (.int (1 : Int32))] [(.ref t1)]))
  refine OGo.to (fun _ k => XS.iloadN X1.here hx rfl (hb hby d3_4) rfl k) ?_
  show OGo p e below _ (T1.setTop (mkF m 5 #[.val (.ref a1), .val (.int (1 : Int32))] [(.int (1 : Int32)), (.ref t1)]))
  have Vq2 := V1
  obtain ⟨cl2, Ar2, q2, S2, M2, Hs2, G2⟩ := Vq2
  have hin3 : ¬ ((1 : Int32) < 0 ∨ cl2.slots.size ≤ ((1 : Int32)).toNatClampNeg) := inb_of S2 ⟨by decide, by decide⟩
  have hat3 : cl2.slots[((1 : Int32)).toNatClampNeg]? = some (.int ev1) := Hs2.at hin3 (rfl)
  refine OGo.to (fun _ k => X1.iaload hx (j := (1 : Int32)) (v := (.int ev1)) (by rw [e1]; exact Ar2.1) (State.isArrayOf_alike hZ.alike Ar2.2.1) Ar2.2.2 hin3 hat3 (g := (mkF m 5 #[.val (.ref a1), .val (.int (1 : Int32))] [(.int (1 : Int32)), (.ref t1)])) rfl rfl (hb hby d3_5) _ k) ?_
  show OGo p e below _ (T1.setTop (mkF m 6 #[.val (.ref a1), .val (.int (1 : Int32))] [(.int ev1)]))
  refine OGo.to (fun _ k => XS.aloadN X1.here hx rfl (hb hby d3_6) rfl rfl k) ?_
  show OGo p e below _ (T1.setTop (mkF m 7 #[.val (.ref a1), .val (.int (1 : Int32))] [(.ref a1), (.int ev1)]))
  refine OGo.to (fun _ k => XS.iloadN X1.here hx rfl (hb hby d3_7) rfl k) ?_
  show OGo p e below _ (T1.setTop (mkF m 8 #[.val (.ref a1), .val (.int (1 : Int32))] [(.int (1 : Int32)), (.ref a1), (.int ev1)]))
  obtain ⟨cq4, q4, q4'⟩ := E1.cell
  obtain ⟨_, T4, Lc4, X4, hQ4, st4⟩ := own_un X1 (Q := Qs1 Z a1 t1 kc ev0 ev1 ev2 h0 n0) (rc := 0) (rs := 0) (W := fun v B => Steps p.tables e below (T1.setTop (mkF m 8 #[.val (.ref a1), .val (.int (1 : Int32))] [(.int (1 : Int32)), (.ref a1), (.int ev1)])) (B.setTop { (mkF m 8 #[.val (.ref a1), .val (.int (1 : Int32))] [(.int (1 : Int32)), (.ref a1), (.int ev1)]) with pc := 11, stack := v.toList ++ [(.int ev1)] })) <| X1.privateBack hx (y := (⟨"com/example/cogram/cogram/index/Postings", "start", "(I)I"⟩ : MethodName)) hown (mvT hZ (hw _ (List.mem_of_getElem? (i := 22) rfl))) (mvT hZ (hw _ (List.mem_of_getElem? (i := 23) rfl))) (own_selP hZ (hw _ (List.mem_of_getElem? (i := 3) rfl)) (hw _ (List.mem_of_getElem? (i := 24) rfl)) (hw _ (List.mem_of_getElem? (i := 23) rfl)) (by decide)) (Cond.privateMethod_at (mvP hZ (hw _ (List.mem_of_getElem? (i := 24) rfl)) (args := #[]))) (mvT hZ (hw _ (List.mem_of_getElem? (i := 25) rfl))) (by decide) (backOf (W := 1) (rms1 l Z a0 hw [] a1 t1 kc ev0 ev1 ev2 h0 n0 Z0 E1 F1 V1) hZ (hw _ (List.mem_of_getElem? (i := 25) rfl)) (hw _ (List.mem_of_getElem? (i := 4) rfl)) (by decide) (by decide)) (g := (mkF m 8 #[.val (.ref a1), .val (.int (1 : Int32))] [(.int (1 : Int32)), (.ref a1), (.int ev1)])) rfl (by rw [hml]; rfl) (Steps.refl _) (a := a1) (by rw [e1]; exact q4) q4' (argsL := [(.int (1 : Int32))]) (rest := [(.int ev1)]) (lenOf pd_0 rfl) rfl (by show 2 * 0 + _ ≤ _; exact Nat.le_of_eq rfl) (hb hby d3_8) (fun _ _ => ⟨rfl, e1, (by decide : 0 + 0 ≤ _), (by decide : 0 + 0 ≤ _)⟩)
  obtain ⟨rfl, N4q, e4⟩ := hQ4
  have N4 := Fr.app N0 N4q
  refine OGo.to (fun _ k => st4.trans k) ?_
  show OGo p e below _ (T4.setTop (mkF m 11 #[.val (.ref a1), .val (.int (1 : Int32))] [(.int ev0), (.int ev1)]))
  refine OGo.to (fun _ k => XS.isub X4.here hx rfl (hb hby d3_11) rfl k) ?_
  show OGo p e below _ (T4.setTop (mkF m 12 #[.val (.ref a1), .val (.int (1 : Int32))] [(.int (ev1 - ev0))]))
  refine OGo.ret (Q := Qf1 Z a1 t1 kc ev0 ev1 ev2 h0 n0) X4 (some (.int (ev1 - ev0))) (fun h => by rw [Bd.returns] at h; cases h) Bd.notSynchronized (fun fs hr => retI X4 hx Bd.returns (hb hby d3_12) hr) ?_ (by decide) (by decide)
  show Qf1 Z a1 t1 kc ev0 ev1 ev2 h0 n0 _ T4.heap _
  rw [e4]
  exact ⟨rfl, N4, rfl⟩
theorem ef_s2 (m : MethodId) (x0 : Addr) (x1 : Int32) : entryFrame m #[(.ref x0), (.int x1)] 2 = mkF m 0 #[.val (.ref x0), .val (.int x1)] [] := by first | (simp [entryFrame, mkF, argsToLocals, Value.category]; done) | rfl
def Qs2 (Z : State) (a1 : Addr) (t1 : Addr) (kc : ClassId) (ev0 : Int32) (ev1 : Int32) (ev2 : Int32) (h0 : Heap) (n0 : Nat) (v : Option Value) (h : Heap) (L : List Loc) : Prop := v = some (.int ev1) ∧ Fr n0 L ∧ h = h0
set_option maxRecDepth 65536 in
set_option maxHeartbeats 40000000 in
theorem rms2 (l : Launch) (Z : State) (a0 : Array Value) (hw : ∀ d ∈ tables_1, d.before a0 Z = true) (ws : List Jvm.Cond) (a1 : Addr) (t1 : Addr) (kc : ClassId) (ev0 : Int32) (ev1 : Int32) (ev2 : Int32) (h0 : Heap) (n0 : Nat) (Z0 : n0 ≤ h0.size) (E1 : Exa Z h0 a1 "com/example/cogram/cogram/index/Postings") (F1 : Fld Z h0 a1 "com/example/cogram/cogram/index/Postings" "ends" "[I" (.ref t1)) (V1 : Arv Z h0 t1 kc .int (3 : Int32) [(.int ev0), (.int ev1), (.int ev2)] (.int (0 : Int32))) :
    MetFree l (⟨"com/example/cogram/cogram/index/Postings", "start", "(I)I"⟩ : MethodName) (head1 (Jvm.Cond.code (⟨"com/example/cogram/cogram/index/Postings", "start", "(I)I"⟩ : MethodName) prog_38_method_9_code 2 (some .int) :: ws) ({ frames := 0, cells := 0, slots := 0, locals := 0 } : Room)) (fun a U => a = #[(.ref a1), (.int (2 : Int32))] ∧ Z.Warmed39 U.vm ∧ U.heap = h0) (fun _ _ _ _ _ => True) (fun _ U o U' => ∃ v L, o = .returned v ∧ Qs2 Z a1 t1 kc ev0 ev1 ev2 h0 n0 v U'.heap L ∧ FrameEnd U o U' L ({ frames := 0, cells := 0, slots := 0, locals := 0 } : Room).cells ({ frames := 0, cells := 0, slots := 0, locals := 0 } : Room).slots) := by
  refine MetFree.of_bodySF (plainFor_of_name pn_0) hisR ?_
  intro p e s m args below meth c s₁ Bd hml0 hP hK
  obtain ⟨rfl, hZ, hh⟩ := hP
  have hx := Bd.exec
  have hby := Bd.bytes
  have hml : c.maxLocals = 2 := hml0
  have hown : s.vm.findClass "com/example/cogram/cogram/index/Postings" = some m.cls := findClass_of_methodNamed Bd.named
  have hnm := (name_of_methodNamed Bd.named Bd.method).1
  have X0 : Stand p l e ({ frames := 0, cells := 0, slots := 0, locals := 0 } : Room) s m #[(.ref a1), (.int (2 : Int32))] below meth c s₁ [] 0 0 := Stand.of_body Bd
  have e0 : s₁.heap = h0 := by rw [← hh, Bd.state]; rfl
  have N0 := Fr.nil n0
  show OGo p e below (fun s₂ o => ∃ v L, o = .returned v ∧ Qs2 Z a1 t1 kc ev0 ev1 ev2 h0 n0 v s₂.heap L ∧ FrameEnd s o s₂ L ({ frames := 0, cells := 0, slots := 0, locals := 0 } : Room).cells ({ frames := 0, cells := 0, slots := 0, locals := 0 } : Room).slots) _
  refine OGo.to (fun _ k => castTop (ef_s2 m a1 (2 : Int32)) k) ?_
  refine OGo.to (fun _ k => XS.iloadN X0.here hx rfl (hb hby d4_0) rfl k) ?_
  show OGo p e below _ (s₁.setTop (mkF m 1 #[.val (.ref a1), .val (.int (2 : Int32))] [(.int (2 : Int32))]))
  have hc1_1 : ¬ ((2 : Int32) = (0 : Int32)) := by decide
  refine OGo.to (fun _ k => XS.ifYes X0.here hx rfl (pc0 := 1) (pc' := 8) rfl (hb hby d4_1) rfl ((if0 _ _).trans (feq hc1_1).2) (by decide) (by decide) k) ?_
  show OGo p e below _ (s₁.setTop (mkF m 8 #[.val (.ref a1), .val (.int (2 : Int32))] []))
  refine OGo.to (fun _ k => XS.aloadN X0.here hx rfl (hb hby d4_8) rfl rfl k) ?_
  show OGo p e below _ (s₁.setTop (mkF m 9 #[.val (.ref a1), .val (.int (2 : Int32))] [(.ref a1)]))
  obtain ⟨T2, X2, e2, st2⟩ := getF X0 hx hZ hown (host := "") (Or.inl (hw _ (List.mem_of_getElem? (i := 13) rfl))) Via.refl e0 F1 (g := (mkF m 9 #[.val (.ref a1), .val (.int (2 : Int32))] [(.ref a1)])) rfl rfl (hb hby d4_9)
  refine OGo.to st2 ?_
  show OGo p e below _ (T2.setTop (mkF m 12 #[.val (.ref a1), .val (.int (2 : Int32))] [(.ref t1)]))
  refine OGo.to (fun _ k => XS.iloadN X2.here hx rfl (hb hby d4_12) rfl k) ?_
  show OGo p e below _ (T2.setTop (mkF m 13 #[.val (.ref a1), .val (.int (2 : Int32))] [(.int (2 : Int32)), (.ref t1)]))
  refine OGo.to (fun _ k => XS.iconst X2.here hx rfl (hb hby d4_13) k) ?_
  show OGo p e below _ (T2.setTop (mkF m 14 #[.val (.ref a1), .val (.int (2 : Int32))] [(.int (1 : Int32)), (.int (2 : Int32)), (.ref t1)]))
  refine OGo.to (fun _ k => XS.isub X2.here hx rfl (hb hby d4_14) rfl k) ?_
  show OGo p e below _ (T2.setTop (mkF m 15 #[.val (.ref a1), .val (.int (2 : Int32))] [(.int (1 : Int32)), (.ref t1)]))
  have Vq3 := V1
  obtain ⟨cl3, Ar3, q3, S3, M3, Hs3, G3⟩ := Vq3
  have hin4 : ¬ ((1 : Int32) < 0 ∨ cl3.slots.size ≤ ((1 : Int32)).toNatClampNeg) := inb_of S3 ⟨by decide, by decide⟩
  have hat4 : cl3.slots[((1 : Int32)).toNatClampNeg]? = some (.int ev1) := Hs3.at hin4 (rfl)
  refine OGo.to (fun _ k => X2.iaload hx (j := (1 : Int32)) (v := (.int ev1)) (by rw [e2]; exact Ar3.1) (State.isArrayOf_alike hZ.alike Ar3.2.1) Ar3.2.2 hin4 hat4 (g := (mkF m 15 #[.val (.ref a1), .val (.int (2 : Int32))] [(.int (1 : Int32)), (.ref t1)])) rfl rfl (hb hby d4_15) _ k) ?_
  show OGo p e below _ (T2.setTop (mkF m 16 #[.val (.ref a1), .val (.int (2 : Int32))] [(.int ev1)]))
  refine OGo.ret (Q := Qs2 Z a1 t1 kc ev0 ev1 ev2 h0 n0) X2 (some (.int ev1)) (fun h => by rw [Bd.returns] at h; cases h) Bd.notSynchronized (fun fs hr => retI X2 hx Bd.returns (hb hby d4_16) hr) ?_ (by decide) (by decide)
  show Qs2 Z a1 t1 kc ev0 ev1 ev2 h0 n0 _ T2.heap _
  rw [e2]
  exact ⟨rfl, N0, rfl⟩
theorem ef_f2 (m : MethodId) (x0 : Addr) (x1 : Int32) : entryFrame m #[(.ref x0), (.int x1)] 2 = mkF m 0 #[.val (.ref x0), .val (.int x1)] [] := by first | (simp [entryFrame, mkF, argsToLocals, Value.category]; done) | rfl
def Qf2 (Z : State) (a1 : Addr) (t1 : Addr) (kc : ClassId) (ev0 : Int32) (ev1 : Int32) (ev2 : Int32) (h0 : Heap) (n0 : Nat) (v : Option Value) (h : Heap) (L : List Loc) : Prop := v = some (.int (ev2 - ev1)) ∧ Fr n0 L ∧ h = h0
set_option maxRecDepth 65536 in
set_option maxHeartbeats 40000000 in
theorem rmf2 (l : Launch) (Z : State) (a0 : Array Value) (hw : ∀ d ∈ tables_1, d.before a0 Z = true) (ws : List Jvm.Cond) (a1 : Addr) (t1 : Addr) (kc : ClassId) (ev0 : Int32) (ev1 : Int32) (ev2 : Int32) (h0 : Heap) (n0 : Nat) (Z0 : n0 ≤ h0.size) (E1 : Exa Z h0 a1 "com/example/cogram/cogram/index/Postings") (F1 : Fld Z h0 a1 "com/example/cogram/cogram/index/Postings" "ends" "[I" (.ref t1)) (V1 : Arv Z h0 t1 kc .int (3 : Int32) [(.int ev0), (.int ev1), (.int ev2)] (.int (0 : Int32))) :
    MetFree l (⟨"com/example/cogram/cogram/index/Postings", "frequency", "(I)I"⟩ : MethodName) (head1 (Jvm.Cond.code (⟨"com/example/cogram/cogram/index/Postings", "frequency", "(I)I"⟩ : MethodName) prog_38_method_4_code 2 (some .int) :: ws) ({ frames := 1, cells := 0, slots := 0, locals := 14 } : Room)) (fun a U => a = #[(.ref a1), (.int (2 : Int32))] ∧ Z.Warmed39 U.vm ∧ U.heap = h0) (fun _ _ _ _ _ => True) (fun _ U o U' => ∃ v L, o = .returned v ∧ Qf2 Z a1 t1 kc ev0 ev1 ev2 h0 n0 v U'.heap L ∧ FrameEnd U o U' L ({ frames := 1, cells := 0, slots := 0, locals := 14 } : Room).cells ({ frames := 1, cells := 0, slots := 0, locals := 14 } : Room).slots) := by
  refine MetFree.of_bodySF (plainFor_of_name pn_0) hisR ?_
  intro p e s m args below meth c s₁ Bd hml0 hP hK
  obtain ⟨rfl, hZ, hh⟩ := hP
  have hx := Bd.exec
  have hby := Bd.bytes
  have hml : c.maxLocals = 2 := hml0
  have hown : s.vm.findClass "com/example/cogram/cogram/index/Postings" = some m.cls := findClass_of_methodNamed Bd.named
  have hnm := (name_of_methodNamed Bd.named Bd.method).1
  have X0 : Stand p l e ({ frames := 1, cells := 0, slots := 0, locals := 14 } : Room) s m #[(.ref a1), (.int (2 : Int32))] below meth c s₁ [] 0 0 := Stand.of_body Bd
  have e0 : s₁.heap = h0 := by rw [← hh, Bd.state]; rfl
  have N0 := Fr.nil n0
  show OGo p e below (fun s₂ o => ∃ v L, o = .returned v ∧ Qf2 Z a1 t1 kc ev0 ev1 ev2 h0 n0 v s₂.heap L ∧ FrameEnd s o s₂ L ({ frames := 1, cells := 0, slots := 0, locals := 14 } : Room).cells ({ frames := 1, cells := 0, slots := 0, locals := 14 } : Room).slots) _
  refine OGo.to (fun _ k => castTop (ef_f2 m a1 (2 : Int32)) k) ?_
  refine OGo.to (fun _ k => XS.aloadN X0.here hx rfl (hb hby d3_0) rfl rfl k) ?_
  show OGo p e below _ (s₁.setTop (mkF m 1 #[.val (.ref a1), .val (.int (2 : Int32))] [(.ref a1)]))
  obtain ⟨T1, X1, e1, st1⟩ := getF X0 hx hZ hown (host := "") (Or.inl (hw _ (List.mem_of_getElem? (i := 13) rfl))) Via.refl e0 F1 (g := (mkF m 1 #[.val (.ref a1), .val (.int (2 : Int32))] [(.ref a1)])) rfl rfl (hb hby d3_1)
  refine OGo.to st1 ?_
  show OGo p e below _ (T1.setTop (mkF m 4 #[.val (.ref a1), .val (.int (2 : Int32))] [(.ref t1)]))
  refine OGo.to (fun _ k => XS.iloadN X1.here hx rfl (hb hby d3_4) rfl k) ?_
  show OGo p e below _ (T1.setTop (mkF m 5 #[.val (.ref a1), .val (.int (2 : Int32))] [(.int (2 : Int32)), (.ref t1)]))
  have Vq2 := V1
  obtain ⟨cl2, Ar2, q2, S2, M2, Hs2, G2⟩ := Vq2
  have hin3 : ¬ ((2 : Int32) < 0 ∨ cl2.slots.size ≤ ((2 : Int32)).toNatClampNeg) := inb_of S2 ⟨by decide, by decide⟩
  have hat3 : cl2.slots[((2 : Int32)).toNatClampNeg]? = some (.int ev2) := Hs2.at hin3 (rfl)
  refine OGo.to (fun _ k => X1.iaload hx (j := (2 : Int32)) (v := (.int ev2)) (by rw [e1]; exact Ar2.1) (State.isArrayOf_alike hZ.alike Ar2.2.1) Ar2.2.2 hin3 hat3 (g := (mkF m 5 #[.val (.ref a1), .val (.int (2 : Int32))] [(.int (2 : Int32)), (.ref t1)])) rfl rfl (hb hby d3_5) _ k) ?_
  show OGo p e below _ (T1.setTop (mkF m 6 #[.val (.ref a1), .val (.int (2 : Int32))] [(.int ev2)]))
  refine OGo.to (fun _ k => XS.aloadN X1.here hx rfl (hb hby d3_6) rfl rfl k) ?_
  show OGo p e below _ (T1.setTop (mkF m 7 #[.val (.ref a1), .val (.int (2 : Int32))] [(.ref a1), (.int ev2)]))
  refine OGo.to (fun _ k => XS.iloadN X1.here hx rfl (hb hby d3_7) rfl k) ?_
  show OGo p e below _ (T1.setTop (mkF m 8 #[.val (.ref a1), .val (.int (2 : Int32))] [(.int (2 : Int32)), (.ref a1), (.int ev2)]))
  obtain ⟨cq4, q4, q4'⟩ := E1.cell
  obtain ⟨_, T4, Lc4, X4, hQ4, st4⟩ := own_un X1 (Q := Qs2 Z a1 t1 kc ev0 ev1 ev2 h0 n0) (rc := 0) (rs := 0) (W := fun v B => Steps p.tables e below (T1.setTop (mkF m 8 #[.val (.ref a1), .val (.int (2 : Int32))] [(.int (2 : Int32)), (.ref a1), (.int ev2)])) (B.setTop { (mkF m 8 #[.val (.ref a1), .val (.int (2 : Int32))] [(.int (2 : Int32)), (.ref a1), (.int ev2)]) with pc := 11, stack := v.toList ++ [(.int ev2)] })) <| X1.privateBack hx (y := (⟨"com/example/cogram/cogram/index/Postings", "start", "(I)I"⟩ : MethodName)) hown (mvT hZ (hw _ (List.mem_of_getElem? (i := 22) rfl))) (mvT hZ (hw _ (List.mem_of_getElem? (i := 23) rfl))) (own_selP hZ (hw _ (List.mem_of_getElem? (i := 3) rfl)) (hw _ (List.mem_of_getElem? (i := 24) rfl)) (hw _ (List.mem_of_getElem? (i := 23) rfl)) (by decide)) (Cond.privateMethod_at (mvP hZ (hw _ (List.mem_of_getElem? (i := 24) rfl)) (args := #[]))) (mvT hZ (hw _ (List.mem_of_getElem? (i := 25) rfl))) (by decide) (backOf (W := 1) (rms2 l Z a0 hw [] a1 t1 kc ev0 ev1 ev2 h0 n0 Z0 E1 F1 V1) hZ (hw _ (List.mem_of_getElem? (i := 25) rfl)) (hw _ (List.mem_of_getElem? (i := 4) rfl)) (by decide) (by decide)) (g := (mkF m 8 #[.val (.ref a1), .val (.int (2 : Int32))] [(.int (2 : Int32)), (.ref a1), (.int ev2)])) rfl (by rw [hml]; rfl) (Steps.refl _) (a := a1) (by rw [e1]; exact q4) q4' (argsL := [(.int (2 : Int32))]) (rest := [(.int ev2)]) (lenOf pd_0 rfl) rfl (by show 2 * 0 + _ ≤ _; exact Nat.le_of_eq rfl) (hb hby d3_8) (fun _ _ => ⟨rfl, e1, (by decide : 0 + 0 ≤ _), (by decide : 0 + 0 ≤ _)⟩)
  obtain ⟨rfl, N4q, e4⟩ := hQ4
  have N4 := Fr.app N0 N4q
  refine OGo.to (fun _ k => st4.trans k) ?_
  show OGo p e below _ (T4.setTop (mkF m 11 #[.val (.ref a1), .val (.int (2 : Int32))] [(.int ev1), (.int ev2)]))
  refine OGo.to (fun _ k => XS.isub X4.here hx rfl (hb hby d3_11) rfl k) ?_
  show OGo p e below _ (T4.setTop (mkF m 12 #[.val (.ref a1), .val (.int (2 : Int32))] [(.int (ev2 - ev1))]))
  refine OGo.ret (Q := Qf2 Z a1 t1 kc ev0 ev1 ev2 h0 n0) X4 (some (.int (ev2 - ev1))) (fun h => by rw [Bd.returns] at h; cases h) Bd.notSynchronized (fun fs hr => retI X4 hx Bd.returns (hb hby d3_12) hr) ?_ (by decide) (by decide)
  show Qf2 Z a1 t1 kc ev0 ev1 ev2 h0 n0 _ T4.heap _
  rw [e4]
  exact ⟨rfl, N4, rfl⟩
theorem ef_0 (m : MethodId) (x0 : Int32) (x1 : Int32) (x2 : Int32) : entryFrame m #[(.int x0), (.int x1), (.int x2)] maxLocals = mkF m 0 #[.val (.int x0), .val (.int x1), .val (.int x2), .unset, .unset, .unset, .unset, .unset, .unset, .unset] [] := by first | (simp [entryFrame, mkF, argsToLocals, Value.category, maxLocals]; done) | rfl
def Q0 (Z : State) (p1 : Int32) (p2 : Int32) (p3 : Int32) (h0 : Heap) (n0 : Nat) (v : Option Value) (h : Heap) (L : List Loc) : Prop := v = some (.int (1 : Int32)) ∧ Fr n0 L
set_option maxRecDepth 65536 in
set_option maxHeartbeats 40000000 in
theorem rm0 (l : Launch) (Z : State) (a0 : Array Value) (hw : ∀ d ∈ tables_1, d.before a0 Z = true) (ws : List Jvm.Cond) (p1 : Int32) (p2 : Int32) (p3 : Int32) (h0 : Heap) (n0 : Nat) (Z0 : n0 ≤ h0.size) :
    MetFree l x (head1 (Jvm.Cond.code x code maxLocals ret :: ws) room_1) (fun a U => a = #[(.int p1), (.int p2), (.int p3)] ∧ Z.Warmed39 U.vm ∧ U.heap = h0) (fun _ _ _ _ _ => True) (fun _ U o U' => ∃ v L, o = .returned v ∧ Q0 Z p1 p2 p3 h0 n0 v U'.heap L ∧ FrameEnd U o U' L room_1.cells room_1.slots) := by
  refine MetFree.of_bodySF (plainFor_of_name pn_1) hisR ?_
  intro p e s m args below meth c s₁ Bd hml0 hP hK
  obtain ⟨rfl, hZ, hh⟩ := hP
  have hx := Bd.exec
  have hby := Bd.bytes
  have hml : c.maxLocals = 10 := hml0
  have hown : s.vm.findClass "com/example/cogram/cogram/index/PostingsFrequencyPinLaw" = some m.cls := findClass_of_methodNamed Bd.named
  have hnm := (name_of_methodNamed Bd.named Bd.method).1
  have X0 : Stand p l e room_1 s m #[(.int p1), (.int p2), (.int p3)] below meth c s₁ [] 0 0 := Stand.of_body Bd
  have e0 : s₁.heap = h0 := by rw [← hh, Bd.state]; rfl
  have N0 := Fr.nil n0
  show OGo p e below (fun s₂ o => ∃ v L, o = .returned v ∧ Q0 Z p1 p2 p3 h0 n0 v s₂.heap L ∧ FrameEnd s o s₂ L room_1.cells room_1.slots) _
  refine OGo.to (fun _ k => castTop (ef_0 m p1 p2 p3) k) ?_
  refine OGo.to (fun _ k => XS.iloadN X0.here hx rfl (hb hby at_0) rfl k) ?_
  show OGo p e below _ (s₁.setTop (mkF m 1 #[.val (.int p1), .val (.int p2), .val (.int p3), .unset, .unset, .unset, .unset, .unset, .unset, .unset] [(.int p1)]))
  refine OGo.to (fun _ k => X0.ldcInt hx hown (mvT hZ (hw _ (List.mem_of_getElem? (i := 0) rfl))) (g := (mkF m 1 #[.val (.int p1), .val (.int p2), .val (.int p3), .unset, .unset, .unset, .unset, .unset, .unset, .unset] [(.int p1)])) rfl (hb hby at_1) _ k) ?_
  show OGo p e below _ (s₁.setTop (mkF m 3 #[.val (.int p1), .val (.int p2), .val (.int p3), .unset, .unset, .unset, .unset, .unset, .unset, .unset] [(.int (2147483647 : Int32)), (.int p1)]))
  refine OGo.to (fun _ k => XS.iand X0.here hx rfl (hb hby at_3) rfl k) ?_
  show OGo p e below _ (s₁.setTop (mkF m 4 #[.val (.int p1), .val (.int p2), .val (.int p3), .unset, .unset, .unset, .unset, .unset, .unset, .unset] [(.int (p1 &&& (2147483647 : Int32)))]))
  refine OGo.to (fun _ k => XS.bipush X0.here hx rfl (hb hby at_4) k) ?_
  show OGo p e below _ (s₁.setTop (mkF m 6 #[.val (.int p1), .val (.int p2), .val (.int p3), .unset, .unset, .unset, .unset, .unset, .unset, .unset] [(.int (13 : Int32)), (.int (p1 &&& (2147483647 : Int32)))]))
  have hnz6_1 : (13 : Int32) ≠ (0 : Int32) := by decide
  refine OGo.to (fun _ k => iremM X0 hx rfl (hb hby at_6) rfl hnz6_1 k) ?_
  show OGo p e below _ (s₁.setTop (mkF m 7 #[.val (.int p1), .val (.int p2), .val (.int p3), .unset, .unset, .unset, .unset, .unset, .unset, .unset] [(.int ((p1 &&& (2147483647 : Int32)) % (13 : Int32)))]))
  obtain ⟨c0, hv_c0⟩ : ∃ z : Int32, z = ((p1 &&& (2147483647 : Int32)) % (13 : Int32)) := ⟨_, rfl⟩
  rw [← hv_c0]
  refine OGo.to (fun _ k => XS.istoreN X0.here hx rfl (hb hby at_7) rfl (l' := #[.val (.int p1), .val (.int p2), .val (.int p3), .val (.int c0), .unset, .unset, .unset, .unset, .unset, .unset]) rfl k) ?_
  show OGo p e below _ (s₁.setTop (mkF m 8 #[.val (.int p1), .val (.int p2), .val (.int p3), .val (.int c0), .unset, .unset, .unset, .unset, .unset, .unset] []))
  have bd0 := own_rem p1 (13 : Int32) (by decide)
  rw [← hv_c0] at bd0
  have d0 := own_sub (13 : Int32) c0 (by decide) bd0.1 (Int.le_of_lt bd0.2)
  refine OGo.to (fun _ k => XS.iloadN X0.here hx rfl (hb hby at_8) rfl k) ?_
  show OGo p e below _ (s₁.setTop (mkF m 9 #[.val (.int p1), .val (.int p2), .val (.int p3), .val (.int c0), .unset, .unset, .unset, .unset, .unset, .unset] [(.int p2)]))
  refine OGo.to (fun _ k => X0.ldcInt hx hown (mvT hZ (hw _ (List.mem_of_getElem? (i := 0) rfl))) (g := (mkF m 9 #[.val (.int p1), .val (.int p2), .val (.int p3), .val (.int c0), .unset, .unset, .unset, .unset, .unset, .unset] [(.int p2)])) rfl (hb hby at_9) _ k) ?_
  show OGo p e below _ (s₁.setTop (mkF m 11 #[.val (.int p1), .val (.int p2), .val (.int p3), .val (.int c0), .unset, .unset, .unset, .unset, .unset, .unset] [(.int (2147483647 : Int32)), (.int p2)]))
  refine OGo.to (fun _ k => XS.iand X0.here hx rfl (hb hby at_11) rfl k) ?_
  show OGo p e below _ (s₁.setTop (mkF m 12 #[.val (.int p1), .val (.int p2), .val (.int p3), .val (.int c0), .unset, .unset, .unset, .unset, .unset, .unset] [(.int (p2 &&& (2147483647 : Int32)))]))
  refine OGo.to (fun _ k => XS.bipush X0.here hx rfl (hb hby at_12) k) ?_
  show OGo p e below _ (s₁.setTop (mkF m 14 #[.val (.int p1), .val (.int p2), .val (.int p3), .val (.int c0), .unset, .unset, .unset, .unset, .unset, .unset] [(.int (13 : Int32)), (.int (p2 &&& (2147483647 : Int32)))]))
  refine OGo.to (fun _ k => XS.iloadN X0.here hx rfl (hb hby at_14) rfl k) ?_
  show OGo p e below _ (s₁.setTop (mkF m 15 #[.val (.int p1), .val (.int p2), .val (.int p3), .val (.int c0), .unset, .unset, .unset, .unset, .unset, .unset] [(.int c0), (.int (13 : Int32)), (.int (p2 &&& (2147483647 : Int32)))]))
  refine OGo.to (fun _ k => XS.isub X0.here hx rfl (hb hby at_15) rfl k) ?_
  show OGo p e below _ (s₁.setTop (mkF m 16 #[.val (.int p1), .val (.int p2), .val (.int p3), .val (.int c0), .unset, .unset, .unset, .unset, .unset, .unset] [(.int ((13 : Int32) - c0)), (.int (p2 &&& (2147483647 : Int32)))]))
  have hnz16_2 : ((13 : Int32) - c0) ≠ (0 : Int32) := own_ne0 (by rw [d0]; exact own_pos bd0.2)
  refine OGo.to (fun _ k => iremM X0 hx rfl (hb hby at_16) rfl hnz16_2 k) ?_
  show OGo p e below _ (s₁.setTop (mkF m 17 #[.val (.int p1), .val (.int p2), .val (.int p3), .val (.int c0), .unset, .unset, .unset, .unset, .unset, .unset] [(.int ((p2 &&& (2147483647 : Int32)) % ((13 : Int32) - c0)))]))
  obtain ⟨c1, hv_c1⟩ : ∃ z : Int32, z = ((p2 &&& (2147483647 : Int32)) % ((13 : Int32) - c0)) := ⟨_, rfl⟩
  rw [← hv_c1]
  refine OGo.to (fun _ k => XS.istore X0.here hx rfl (hb hby at_17) rfl (l' := #[.val (.int p1), .val (.int p2), .val (.int p3), .val (.int c0), .val (.int c1), .unset, .unset, .unset, .unset, .unset]) rfl k) ?_
  show OGo p e below _ (s₁.setTop (mkF m 19 #[.val (.int p1), .val (.int p2), .val (.int p3), .val (.int c0), .val (.int c1), .unset, .unset, .unset, .unset, .unset] []))
  have bd1 := own_rem p2 ((13 : Int32) - c0) (by rw [d0]; exact own_pos bd0.2)
  rw [← hv_c1] at bd1
  have d1 := own_sub ((13 : Int32) - c0) c1 (by rw [d0]; exact Int.le_of_lt (own_pos bd0.2)) bd1.1 (Int.le_of_lt bd1.2)
  refine OGo.to (fun _ k => XS.iloadN X0.here hx rfl (hb hby at_19) rfl k) ?_
  show OGo p e below _ (s₁.setTop (mkF m 20 #[.val (.int p1), .val (.int p2), .val (.int p3), .val (.int c0), .val (.int c1), .unset, .unset, .unset, .unset, .unset] [(.int p3)]))
  refine OGo.to (fun _ k => X0.ldcInt hx hown (mvT hZ (hw _ (List.mem_of_getElem? (i := 0) rfl))) (g := (mkF m 20 #[.val (.int p1), .val (.int p2), .val (.int p3), .val (.int c0), .val (.int c1), .unset, .unset, .unset, .unset, .unset] [(.int p3)])) rfl (hb hby at_20) _ k) ?_
  show OGo p e below _ (s₁.setTop (mkF m 22 #[.val (.int p1), .val (.int p2), .val (.int p3), .val (.int c0), .val (.int c1), .unset, .unset, .unset, .unset, .unset] [(.int (2147483647 : Int32)), (.int p3)]))
  refine OGo.to (fun _ k => XS.iand X0.here hx rfl (hb hby at_22) rfl k) ?_
  show OGo p e below _ (s₁.setTop (mkF m 23 #[.val (.int p1), .val (.int p2), .val (.int p3), .val (.int c0), .val (.int c1), .unset, .unset, .unset, .unset, .unset] [(.int (p3 &&& (2147483647 : Int32)))]))
  refine OGo.to (fun _ k => XS.bipush X0.here hx rfl (hb hby at_23) k) ?_
  show OGo p e below _ (s₁.setTop (mkF m 25 #[.val (.int p1), .val (.int p2), .val (.int p3), .val (.int c0), .val (.int c1), .unset, .unset, .unset, .unset, .unset] [(.int (13 : Int32)), (.int (p3 &&& (2147483647 : Int32)))]))
  refine OGo.to (fun _ k => XS.iloadN X0.here hx rfl (hb hby at_25) rfl k) ?_
  show OGo p e below _ (s₁.setTop (mkF m 26 #[.val (.int p1), .val (.int p2), .val (.int p3), .val (.int c0), .val (.int c1), .unset, .unset, .unset, .unset, .unset] [(.int c0), (.int (13 : Int32)), (.int (p3 &&& (2147483647 : Int32)))]))
  refine OGo.to (fun _ k => XS.isub X0.here hx rfl (hb hby at_26) rfl k) ?_
  show OGo p e below _ (s₁.setTop (mkF m 27 #[.val (.int p1), .val (.int p2), .val (.int p3), .val (.int c0), .val (.int c1), .unset, .unset, .unset, .unset, .unset] [(.int ((13 : Int32) - c0)), (.int (p3 &&& (2147483647 : Int32)))]))
  refine OGo.to (fun _ k => XS.iload X0.here hx rfl (hb hby at_27) rfl k) ?_
  show OGo p e below _ (s₁.setTop (mkF m 29 #[.val (.int p1), .val (.int p2), .val (.int p3), .val (.int c0), .val (.int c1), .unset, .unset, .unset, .unset, .unset] [(.int c1), (.int ((13 : Int32) - c0)), (.int (p3 &&& (2147483647 : Int32)))]))
  refine OGo.to (fun _ k => XS.isub X0.here hx rfl (hb hby at_29) rfl k) ?_
  show OGo p e below _ (s₁.setTop (mkF m 30 #[.val (.int p1), .val (.int p2), .val (.int p3), .val (.int c0), .val (.int c1), .unset, .unset, .unset, .unset, .unset] [(.int (((13 : Int32) - c0) - c1)), (.int (p3 &&& (2147483647 : Int32)))]))
  have hnz30_3 : (((13 : Int32) - c0) - c1) ≠ (0 : Int32) := own_ne0 (by rw [d1]; exact own_pos bd1.2)
  refine OGo.to (fun _ k => iremM X0 hx rfl (hb hby at_30) rfl hnz30_3 k) ?_
  show OGo p e below _ (s₁.setTop (mkF m 31 #[.val (.int p1), .val (.int p2), .val (.int p3), .val (.int c0), .val (.int c1), .unset, .unset, .unset, .unset, .unset] [(.int ((p3 &&& (2147483647 : Int32)) % (((13 : Int32) - c0) - c1)))]))
  obtain ⟨c2, hv_c2⟩ : ∃ z : Int32, z = ((p3 &&& (2147483647 : Int32)) % (((13 : Int32) - c0) - c1)) := ⟨_, rfl⟩
  rw [← hv_c2]
  refine OGo.to (fun _ k => XS.istore X0.here hx rfl (hb hby at_31) rfl (l' := #[.val (.int p1), .val (.int p2), .val (.int p3), .val (.int c0), .val (.int c1), .val (.int c2), .unset, .unset, .unset, .unset]) rfl k) ?_
  show OGo p e below _ (s₁.setTop (mkF m 33 #[.val (.int p1), .val (.int p2), .val (.int p3), .val (.int c0), .val (.int c1), .val (.int c2), .unset, .unset, .unset, .unset] []))
  refine OGo.to (fun _ k => XS.iconst X0.here hx rfl (hb hby at_33) k) ?_
  show OGo p e below _ (s₁.setTop (mkF m 34 #[.val (.int p1), .val (.int p2), .val (.int p3), .val (.int c0), .val (.int c1), .val (.int c2), .unset, .unset, .unset, .unset] [(.int (3 : Int32))]))
  obtain ⟨T4, h4, k4, X4, e4, E4, A4, st4⟩ := newP X0 hx hZ (hw _ (List.mem_of_getElem? (i := 1) rfl)) e0 (g := (mkF m 34 #[.val (.int p1), .val (.int p2), .val (.int p3), .val (.int c0), .val (.int c1), .val (.int c2), .unset, .unset, .unset, .unset] [(.int (3 : Int32))])) rfl (hb hby at_34) rfl (by decide) (cap := 3) (by decide) (by decide) (by decide) (by decide)
  obtain ⟨b4, g4⟩ : ∃ z, z = h0.size := ⟨_, rfl⟩
  rw [← g4] at A4 st4
  have g_b4 : n0 ≤ b4 := Nat.le_trans Z0 (Nat.le_of_eq g4.symm)
  refine OGo.to st4 ?_
  have z5 : n0 ≤ h4.size := Nat.le_trans Z0 E4.1
  have V4 : Arv Z h4 b4 k4 .int (3 : Int32) [(.int (0 : Int32)), (.int (0 : Int32)), (.int (0 : Int32))] (.int (0 : Int32)) := (Arv.new A4 (by decide)).pad (pad_rep [] (.int (0 : Int32)) 3)
  show OGo p e below _ (T4.setTop (mkF m 36 #[.val (.int p1), .val (.int p2), .val (.int p3), .val (.int c0), .val (.int c1), .val (.int c2), .unset, .unset, .unset, .unset] [(.ref b4)]))
  refine OGo.to (fun _ k => XS.dup X4.here hx rfl (hb hby at_36) rfl rfl k) ?_
  show OGo p e below _ (T4.setTop (mkF m 37 #[.val (.int p1), .val (.int p2), .val (.int p3), .val (.int c0), .val (.int c1), .val (.int c2), .unset, .unset, .unset, .unset] [(.ref b4), (.ref b4)]))
  refine OGo.to (fun _ k => XS.iconst X4.here hx rfl (hb hby at_37) k) ?_
  show OGo p e below _ (T4.setTop (mkF m 38 #[.val (.int p1), .val (.int p2), .val (.int p3), .val (.int c0), .val (.int c1), .val (.int c2), .unset, .unset, .unset, .unset] [(.int (0 : Int32)), (.ref b4), (.ref b4)]))
  refine OGo.to (fun _ k => XS.iconst X4.here hx rfl (hb hby at_38) k) ?_
  show OGo p e below _ (T4.setTop (mkF m 39 #[.val (.int p1), .val (.int p2), .val (.int p3), .val (.int c0), .val (.int c1), .val (.int c2), .unset, .unset, .unset, .unset] [(.int (0 : Int32)), (.int (0 : Int32)), (.ref b4), (.ref b4)]))
  have Vq6 := V4
  obtain ⟨cl6, Ar6, q6, S6, M6, Hs6, G6⟩ := Vq6
  have hin7 : ¬ ((0 : Int32) < 0 ∨ cl6.slots.size ≤ ((0 : Int32)).toNatClampNeg) := inb_of S6 ⟨by decide, by decide⟩
  obtain ⟨T7, h7, X7, e7, W7, st7⟩ := stI X4 hx hZ e4 Ar6 (j := (0 : Int32)) hin7 (g := (mkF m 39 #[.val (.int p1), .val (.int p2), .val (.int p3), .val (.int c0), .val (.int c1), .val (.int c2), .unset, .unset, .unset, .unset] [(.int (0 : Int32)), (.int (0 : Int32)), (.ref b4), (.ref b4)])) rfl rfl (hb hby at_39)
  refine OGo.to st7 ?_
  have V7 : Arv Z h7 b4 k4 .int (3 : Int32) [(.int (0 : Int32)), (.int (0 : Int32)), (.int (0 : Int32))] (.int (0 : Int32)) := Arv.set Ar6 q6 S6 M6 Hs6 G6 rfl W7 0 rfl (Nat.le_of_ble_eq_true rfl)
  have N7 := Fr.snoc X7 N0 g_b4
  have z8 : n0 ≤ h7.size := Nat.le_trans z5 (Keep.of_wr W7).1
  show OGo p e below _ (T7.setTop (mkF m 40 #[.val (.int p1), .val (.int p2), .val (.int p3), .val (.int c0), .val (.int c1), .val (.int c2), .unset, .unset, .unset, .unset] [(.ref b4)]))
  refine OGo.to (fun _ k => XS.dup X7.here hx rfl (hb hby at_40) rfl rfl k) ?_
  show OGo p e below _ (T7.setTop (mkF m 41 #[.val (.int p1), .val (.int p2), .val (.int p3), .val (.int c0), .val (.int c1), .val (.int c2), .unset, .unset, .unset, .unset] [(.ref b4), (.ref b4)]))
  refine OGo.to (fun _ k => XS.iconst X7.here hx rfl (hb hby at_41) k) ?_
  show OGo p e below _ (T7.setTop (mkF m 42 #[.val (.int p1), .val (.int p2), .val (.int p3), .val (.int c0), .val (.int c1), .val (.int c2), .unset, .unset, .unset, .unset] [(.int (1 : Int32)), (.ref b4), (.ref b4)]))
  refine OGo.to (fun _ k => XS.iconst X7.here hx rfl (hb hby at_42) k) ?_
  show OGo p e below _ (T7.setTop (mkF m 43 #[.val (.int p1), .val (.int p2), .val (.int p3), .val (.int c0), .val (.int c1), .val (.int c2), .unset, .unset, .unset, .unset] [(.int (1 : Int32)), (.int (1 : Int32)), (.ref b4), (.ref b4)]))
  have Vq9 := V7
  obtain ⟨cl9, Ar9, q9, S9, M9, Hs9, G9⟩ := Vq9
  have hin10 : ¬ ((1 : Int32) < 0 ∨ cl9.slots.size ≤ ((1 : Int32)).toNatClampNeg) := inb_of S9 ⟨by decide, by decide⟩
  obtain ⟨T10, h10, X10, e10, W10, st10⟩ := stI X7 hx hZ e7 Ar9 (j := (1 : Int32)) hin10 (g := (mkF m 43 #[.val (.int p1), .val (.int p2), .val (.int p3), .val (.int c0), .val (.int c1), .val (.int c2), .unset, .unset, .unset, .unset] [(.int (1 : Int32)), (.int (1 : Int32)), (.ref b4), (.ref b4)])) rfl rfl (hb hby at_43)
  refine OGo.to st10 ?_
  have V10 : Arv Z h10 b4 k4 .int (3 : Int32) [(.int (0 : Int32)), (.int (1 : Int32)), (.int (0 : Int32))] (.int (0 : Int32)) := Arv.set Ar9 q9 S9 M9 Hs9 G9 rfl W10 1 rfl (Nat.le_of_ble_eq_true rfl)
  have N10 := Fr.snoc X10 N7 g_b4
  have z11 : n0 ≤ h10.size := Nat.le_trans z8 (Keep.of_wr W10).1
  show OGo p e below _ (T10.setTop (mkF m 44 #[.val (.int p1), .val (.int p2), .val (.int p3), .val (.int c0), .val (.int c1), .val (.int c2), .unset, .unset, .unset, .unset] [(.ref b4)]))
  refine OGo.to (fun _ k => XS.dup X10.here hx rfl (hb hby at_44) rfl rfl k) ?_
  show OGo p e below _ (T10.setTop (mkF m 45 #[.val (.int p1), .val (.int p2), .val (.int p3), .val (.int c0), .val (.int c1), .val (.int c2), .unset, .unset, .unset, .unset] [(.ref b4), (.ref b4)]))
  refine OGo.to (fun _ k => XS.iconst X10.here hx rfl (hb hby at_45) k) ?_
  show OGo p e below _ (T10.setTop (mkF m 46 #[.val (.int p1), .val (.int p2), .val (.int p3), .val (.int c0), .val (.int c1), .val (.int c2), .unset, .unset, .unset, .unset] [(.int (2 : Int32)), (.ref b4), (.ref b4)]))
  refine OGo.to (fun _ k => XS.iconst X10.here hx rfl (hb hby at_46) k) ?_
  show OGo p e below _ (T10.setTop (mkF m 47 #[.val (.int p1), .val (.int p2), .val (.int p3), .val (.int c0), .val (.int c1), .val (.int c2), .unset, .unset, .unset, .unset] [(.int (2 : Int32)), (.int (2 : Int32)), (.ref b4), (.ref b4)]))
  have Vq12 := V10
  obtain ⟨cl12, Ar12, q12, S12, M12, Hs12, G12⟩ := Vq12
  have hin13 : ¬ ((2 : Int32) < 0 ∨ cl12.slots.size ≤ ((2 : Int32)).toNatClampNeg) := inb_of S12 ⟨by decide, by decide⟩
  obtain ⟨T13, h13, X13, e13, W13, st13⟩ := stI X10 hx hZ e10 Ar12 (j := (2 : Int32)) hin13 (g := (mkF m 47 #[.val (.int p1), .val (.int p2), .val (.int p3), .val (.int c0), .val (.int c1), .val (.int c2), .unset, .unset, .unset, .unset] [(.int (2 : Int32)), (.int (2 : Int32)), (.ref b4), (.ref b4)])) rfl rfl (hb hby at_47)
  refine OGo.to st13 ?_
  have V13 : Arv Z h13 b4 k4 .int (3 : Int32) [(.int (0 : Int32)), (.int (1 : Int32)), (.int (2 : Int32))] (.int (0 : Int32)) := Arv.set Ar12 q12 S12 M12 Hs12 G12 rfl W13 2 rfl (Nat.le_of_ble_eq_true rfl)
  have N13 := Fr.snoc X13 N10 g_b4
  have z14 : n0 ≤ h13.size := Nat.le_trans z11 (Keep.of_wr W13).1
  show OGo p e below _ (T13.setTop (mkF m 48 #[.val (.int p1), .val (.int p2), .val (.int p3), .val (.int c0), .val (.int c1), .val (.int c2), .unset, .unset, .unset, .unset] [(.ref b4)]))
  refine OGo.to (fun _ k => XS.astore X13.here hx rfl (hb hby at_48) rfl rfl (l' := #[.val (.int p1), .val (.int p2), .val (.int p3), .val (.int c0), .val (.int c1), .val (.int c2), .val (.ref b4), .unset, .unset, .unset]) rfl k) ?_
  show OGo p e below _ (T13.setTop (mkF m 50 #[.val (.int p1), .val (.int p2), .val (.int p3), .val (.int c0), .val (.int c1), .val (.int c2), .val (.ref b4), .unset, .unset, .unset] []))
  refine OGo.to (fun _ k => XS.iconst X13.here hx rfl (hb hby at_50) k) ?_
  show OGo p e below _ (T13.setTop (mkF m 51 #[.val (.int p1), .val (.int p2), .val (.int p3), .val (.int c0), .val (.int c1), .val (.int c2), .val (.ref b4), .unset, .unset, .unset] [(.int (3 : Int32))]))
  obtain ⟨T15, h15, k15, X15, e15, E15, A15, st15⟩ := newP X13 hx hZ (hw _ (List.mem_of_getElem? (i := 1) rfl)) e13 (g := (mkF m 51 #[.val (.int p1), .val (.int p2), .val (.int p3), .val (.int c0), .val (.int c1), .val (.int c2), .val (.ref b4), .unset, .unset, .unset] [(.int (3 : Int32))])) rfl (hb hby at_51) rfl (by decide) (cap := 3) (by decide) (by decide) (by decide) (by decide)
  obtain ⟨b15, g15⟩ : ∃ z, z = h13.size := ⟨_, rfl⟩
  rw [← g15] at A15 st15
  have g_b15 : n0 ≤ b15 := Nat.le_trans z14 (Nat.le_of_eq g15.symm)
  refine OGo.to st15 ?_
  have ne_b4_b15 : b4 ≠ b15 := Nat.ne_of_lt (Nat.lt_of_lt_of_le V13.lt (Nat.le_of_eq g15.symm))
  have z16 : n0 ≤ h15.size := Nat.le_trans z14 E15.1
  have V15 : Arv Z h15 b15 k15 .int (3 : Int32) [(.int (0 : Int32)), (.int (0 : Int32)), (.int (0 : Int32))] (.int (0 : Int32)) := (Arv.new A15 (by decide)).pad (pad_rep [] (.int (0 : Int32)) 3)
  show OGo p e below _ (T15.setTop (mkF m 53 #[.val (.int p1), .val (.int p2), .val (.int p3), .val (.int c0), .val (.int c1), .val (.int c2), .val (.ref b4), .unset, .unset, .unset] [(.ref b15)]))
  refine OGo.to (fun _ k => XS.dup X15.here hx rfl (hb hby at_53) rfl rfl k) ?_
  show OGo p e below _ (T15.setTop (mkF m 54 #[.val (.int p1), .val (.int p2), .val (.int p3), .val (.int c0), .val (.int c1), .val (.int c2), .val (.ref b4), .unset, .unset, .unset] [(.ref b15), (.ref b15)]))
  refine OGo.to (fun _ k => XS.iconst X15.here hx rfl (hb hby at_54) k) ?_
  show OGo p e below _ (T15.setTop (mkF m 55 #[.val (.int p1), .val (.int p2), .val (.int p3), .val (.int c0), .val (.int c1), .val (.int c2), .val (.ref b4), .unset, .unset, .unset] [(.int (0 : Int32)), (.ref b15), (.ref b15)]))
  refine OGo.to (fun _ k => XS.iloadN X15.here hx rfl (hb hby at_55) rfl k) ?_
  show OGo p e below _ (T15.setTop (mkF m 56 #[.val (.int p1), .val (.int p2), .val (.int p3), .val (.int c0), .val (.int c1), .val (.int c2), .val (.ref b4), .unset, .unset, .unset] [(.int c0), (.int (0 : Int32)), (.ref b15), (.ref b15)]))
  have Vq17 := V15
  obtain ⟨cl17, Ar17, q17, S17, M17, Hs17, G17⟩ := Vq17
  have hin18 : ¬ ((0 : Int32) < 0 ∨ cl17.slots.size ≤ ((0 : Int32)).toNatClampNeg) := inb_of S17 ⟨by decide, by decide⟩
  obtain ⟨T18, h18, X18, e18, W18, st18⟩ := stI X15 hx hZ e15 Ar17 (j := (0 : Int32)) hin18 (g := (mkF m 56 #[.val (.int p1), .val (.int p2), .val (.int p3), .val (.int c0), .val (.int c1), .val (.int c2), .val (.ref b4), .unset, .unset, .unset] [(.int c0), (.int (0 : Int32)), (.ref b15), (.ref b15)])) rfl rfl (hb hby at_56)
  refine OGo.to st18 ?_
  have V18 : Arv Z h18 b15 k15 .int (3 : Int32) [(.int c0), (.int (0 : Int32)), (.int (0 : Int32))] (.int (0 : Int32)) := Arv.set Ar17 q17 S17 M17 Hs17 G17 rfl W18 0 rfl (Nat.le_of_ble_eq_true rfl)
  have N18 := Fr.snoc X18 N13 g_b15
  have z19 : n0 ≤ h18.size := Nat.le_trans z16 (Keep.of_wr W18).1
  show OGo p e below _ (T18.setTop (mkF m 57 #[.val (.int p1), .val (.int p2), .val (.int p3), .val (.int c0), .val (.int c1), .val (.int c2), .val (.ref b4), .unset, .unset, .unset] [(.ref b15)]))
  refine OGo.to (fun _ k => XS.dup X18.here hx rfl (hb hby at_57) rfl rfl k) ?_
  show OGo p e below _ (T18.setTop (mkF m 58 #[.val (.int p1), .val (.int p2), .val (.int p3), .val (.int c0), .val (.int c1), .val (.int c2), .val (.ref b4), .unset, .unset, .unset] [(.ref b15), (.ref b15)]))
  refine OGo.to (fun _ k => XS.iconst X18.here hx rfl (hb hby at_58) k) ?_
  show OGo p e below _ (T18.setTop (mkF m 59 #[.val (.int p1), .val (.int p2), .val (.int p3), .val (.int c0), .val (.int c1), .val (.int c2), .val (.ref b4), .unset, .unset, .unset] [(.int (1 : Int32)), (.ref b15), (.ref b15)]))
  refine OGo.to (fun _ k => XS.iloadN X18.here hx rfl (hb hby at_59) rfl k) ?_
  show OGo p e below _ (T18.setTop (mkF m 60 #[.val (.int p1), .val (.int p2), .val (.int p3), .val (.int c0), .val (.int c1), .val (.int c2), .val (.ref b4), .unset, .unset, .unset] [(.int c0), (.int (1 : Int32)), (.ref b15), (.ref b15)]))
  refine OGo.to (fun _ k => XS.iload X18.here hx rfl (hb hby at_60) rfl k) ?_
  show OGo p e below _ (T18.setTop (mkF m 62 #[.val (.int p1), .val (.int p2), .val (.int p3), .val (.int c0), .val (.int c1), .val (.int c2), .val (.ref b4), .unset, .unset, .unset] [(.int c1), (.int c0), (.int (1 : Int32)), (.ref b15), (.ref b15)]))
  refine OGo.to (fun _ k => XS.iadd X18.here hx rfl (hb hby at_62) rfl k) ?_
  show OGo p e below _ (T18.setTop (mkF m 63 #[.val (.int p1), .val (.int p2), .val (.int p3), .val (.int c0), .val (.int c1), .val (.int c2), .val (.ref b4), .unset, .unset, .unset] [(.int (c0 + c1)), (.int (1 : Int32)), (.ref b15), (.ref b15)]))
  have Vq20 := V18
  obtain ⟨cl20, Ar20, q20, S20, M20, Hs20, G20⟩ := Vq20
  have hin21 : ¬ ((1 : Int32) < 0 ∨ cl20.slots.size ≤ ((1 : Int32)).toNatClampNeg) := inb_of S20 ⟨by decide, by decide⟩
  obtain ⟨T21, h21, X21, e21, W21, st21⟩ := stI X18 hx hZ e18 Ar20 (j := (1 : Int32)) hin21 (g := (mkF m 63 #[.val (.int p1), .val (.int p2), .val (.int p3), .val (.int c0), .val (.int c1), .val (.int c2), .val (.ref b4), .unset, .unset, .unset] [(.int (c0 + c1)), (.int (1 : Int32)), (.ref b15), (.ref b15)])) rfl rfl (hb hby at_63)
  refine OGo.to st21 ?_
  have V21 : Arv Z h21 b15 k15 .int (3 : Int32) [(.int c0), (.int (c0 + c1)), (.int (0 : Int32))] (.int (0 : Int32)) := Arv.set Ar20 q20 S20 M20 Hs20 G20 rfl W21 1 rfl (Nat.le_of_ble_eq_true rfl)
  have N21 := Fr.snoc X21 N18 g_b15
  have z22 : n0 ≤ h21.size := Nat.le_trans z19 (Keep.of_wr W21).1
  show OGo p e below _ (T21.setTop (mkF m 64 #[.val (.int p1), .val (.int p2), .val (.int p3), .val (.int c0), .val (.int c1), .val (.int c2), .val (.ref b4), .unset, .unset, .unset] [(.ref b15)]))
  refine OGo.to (fun _ k => XS.dup X21.here hx rfl (hb hby at_64) rfl rfl k) ?_
  show OGo p e below _ (T21.setTop (mkF m 65 #[.val (.int p1), .val (.int p2), .val (.int p3), .val (.int c0), .val (.int c1), .val (.int c2), .val (.ref b4), .unset, .unset, .unset] [(.ref b15), (.ref b15)]))
  refine OGo.to (fun _ k => XS.iconst X21.here hx rfl (hb hby at_65) k) ?_
  show OGo p e below _ (T21.setTop (mkF m 66 #[.val (.int p1), .val (.int p2), .val (.int p3), .val (.int c0), .val (.int c1), .val (.int c2), .val (.ref b4), .unset, .unset, .unset] [(.int (2 : Int32)), (.ref b15), (.ref b15)]))
  refine OGo.to (fun _ k => XS.iloadN X21.here hx rfl (hb hby at_66) rfl k) ?_
  show OGo p e below _ (T21.setTop (mkF m 67 #[.val (.int p1), .val (.int p2), .val (.int p3), .val (.int c0), .val (.int c1), .val (.int c2), .val (.ref b4), .unset, .unset, .unset] [(.int c0), (.int (2 : Int32)), (.ref b15), (.ref b15)]))
  refine OGo.to (fun _ k => XS.iload X21.here hx rfl (hb hby at_67) rfl k) ?_
  show OGo p e below _ (T21.setTop (mkF m 69 #[.val (.int p1), .val (.int p2), .val (.int p3), .val (.int c0), .val (.int c1), .val (.int c2), .val (.ref b4), .unset, .unset, .unset] [(.int c1), (.int c0), (.int (2 : Int32)), (.ref b15), (.ref b15)]))
  refine OGo.to (fun _ k => XS.iadd X21.here hx rfl (hb hby at_69) rfl k) ?_
  show OGo p e below _ (T21.setTop (mkF m 70 #[.val (.int p1), .val (.int p2), .val (.int p3), .val (.int c0), .val (.int c1), .val (.int c2), .val (.ref b4), .unset, .unset, .unset] [(.int (c0 + c1)), (.int (2 : Int32)), (.ref b15), (.ref b15)]))
  refine OGo.to (fun _ k => XS.iload X21.here hx rfl (hb hby at_70) rfl k) ?_
  show OGo p e below _ (T21.setTop (mkF m 72 #[.val (.int p1), .val (.int p2), .val (.int p3), .val (.int c0), .val (.int c1), .val (.int c2), .val (.ref b4), .unset, .unset, .unset] [(.int c2), (.int (c0 + c1)), (.int (2 : Int32)), (.ref b15), (.ref b15)]))
  refine OGo.to (fun _ k => XS.iadd X21.here hx rfl (hb hby at_72) rfl k) ?_
  show OGo p e below _ (T21.setTop (mkF m 73 #[.val (.int p1), .val (.int p2), .val (.int p3), .val (.int c0), .val (.int c1), .val (.int c2), .val (.ref b4), .unset, .unset, .unset] [(.int ((c0 + c1) + c2)), (.int (2 : Int32)), (.ref b15), (.ref b15)]))
  have Vq23 := V21
  obtain ⟨cl23, Ar23, q23, S23, M23, Hs23, G23⟩ := Vq23
  have hin24 : ¬ ((2 : Int32) < 0 ∨ cl23.slots.size ≤ ((2 : Int32)).toNatClampNeg) := inb_of S23 ⟨by decide, by decide⟩
  obtain ⟨T24, h24, X24, e24, W24, st24⟩ := stI X21 hx hZ e21 Ar23 (j := (2 : Int32)) hin24 (g := (mkF m 73 #[.val (.int p1), .val (.int p2), .val (.int p3), .val (.int c0), .val (.int c1), .val (.int c2), .val (.ref b4), .unset, .unset, .unset] [(.int ((c0 + c1) + c2)), (.int (2 : Int32)), (.ref b15), (.ref b15)])) rfl rfl (hb hby at_73)
  refine OGo.to st24 ?_
  have V24 : Arv Z h24 b15 k15 .int (3 : Int32) [(.int c0), (.int (c0 + c1)), (.int ((c0 + c1) + c2))] (.int (0 : Int32)) := Arv.set Ar23 q23 S23 M23 Hs23 G23 rfl W24 2 rfl (Nat.le_of_ble_eq_true rfl)
  have N24 := Fr.snoc X24 N21 g_b15
  have z25 : n0 ≤ h24.size := Nat.le_trans z22 (Keep.of_wr W24).1
  show OGo p e below _ (T24.setTop (mkF m 74 #[.val (.int p1), .val (.int p2), .val (.int p3), .val (.int c0), .val (.int c1), .val (.int c2), .val (.ref b4), .unset, .unset, .unset] [(.ref b15)]))
  refine OGo.to (fun _ k => XS.astore X24.here hx rfl (hb hby at_74) rfl rfl (l' := #[.val (.int p1), .val (.int p2), .val (.int p3), .val (.int c0), .val (.int c1), .val (.int c2), .val (.ref b4), .val (.ref b15), .unset, .unset]) rfl k) ?_
  show OGo p e below _ (T24.setTop (mkF m 76 #[.val (.int p1), .val (.int p2), .val (.int p3), .val (.int c0), .val (.int c1), .val (.int c2), .val (.ref b4), .val (.ref b15), .unset, .unset] []))
  refine OGo.to (fun _ k => XS.bipush X24.here hx rfl (hb hby at_76) k) ?_
  show OGo p e below _ (T24.setTop (mkF m 78 #[.val (.int p1), .val (.int p2), .val (.int p3), .val (.int c0), .val (.int c1), .val (.int c2), .val (.ref b4), .val (.ref b15), .unset, .unset] [(.int (12 : Int32))]))
  have f27 : Arv Z h24 b4 k4 .int (3 : Int32) [(.int (0 : Int32)), (.int (1 : Int32)), (.int (2 : Int32))] (.int (0 : Int32)) := ((((V13.ext E15).other W18 ne_b4_b15).other W21 ne_b4_b15).other W24 ne_b4_b15)
  obtain ⟨T26, h26, k26, X26, e26, E26, A26, st26⟩ := newP X24 hx hZ (hw _ (List.mem_of_getElem? (i := 1) rfl)) e24 (g := (mkF m 78 #[.val (.int p1), .val (.int p2), .val (.int p3), .val (.int c0), .val (.int c1), .val (.int c2), .val (.ref b4), .val (.ref b15), .unset, .unset] [(.int (12 : Int32))])) rfl (hb hby at_78) rfl (by decide) (cap := 12) (by decide) (by decide) (by decide) (by decide)
  obtain ⟨b26, g26⟩ : ∃ z, z = h24.size := ⟨_, rfl⟩
  rw [← g26] at A26 st26
  have g_b26 : n0 ≤ b26 := Nat.le_trans z25 (Nat.le_of_eq g26.symm)
  refine OGo.to st26 ?_
  have ne_b4_b26 : b4 ≠ b26 := Nat.ne_of_lt (Nat.lt_of_lt_of_le f27.lt (Nat.le_of_eq g26.symm))
  have ne_b15_b26 : b15 ≠ b26 := Nat.ne_of_lt (Nat.lt_of_lt_of_le V24.lt (Nat.le_of_eq g26.symm))
  have z28 : n0 ≤ h26.size := Nat.le_trans z25 E26.1
  have V26 : Arv Z h26 b26 k26 .int (12 : Int32) [(.int (0 : Int32)), (.int (0 : Int32)), (.int (0 : Int32)), (.int (0 : Int32)), (.int (0 : Int32)), (.int (0 : Int32)), (.int (0 : Int32)), (.int (0 : Int32)), (.int (0 : Int32)), (.int (0 : Int32)), (.int (0 : Int32)), (.int (0 : Int32))] (.int (0 : Int32)) := (Arv.new A26 (by decide)).pad (pad_rep [] (.int (0 : Int32)) 12)
  show OGo p e below _ (T26.setTop (mkF m 80 #[.val (.int p1), .val (.int p2), .val (.int p3), .val (.int c0), .val (.int c1), .val (.int c2), .val (.ref b4), .val (.ref b15), .unset, .unset] [(.ref b26)]))
  refine OGo.to (fun _ k => XS.dup X26.here hx rfl (hb hby at_80) rfl rfl k) ?_
  show OGo p e below _ (T26.setTop (mkF m 81 #[.val (.int p1), .val (.int p2), .val (.int p3), .val (.int c0), .val (.int c1), .val (.int c2), .val (.ref b4), .val (.ref b15), .unset, .unset] [(.ref b26), (.ref b26)]))
  refine OGo.to (fun _ k => XS.iconst X26.here hx rfl (hb hby at_81) k) ?_
  show OGo p e below _ (T26.setTop (mkF m 82 #[.val (.int p1), .val (.int p2), .val (.int p3), .val (.int c0), .val (.int c1), .val (.int c2), .val (.ref b4), .val (.ref b15), .unset, .unset] [(.int (0 : Int32)), (.ref b26), (.ref b26)]))
  refine OGo.to (fun _ k => XS.iconst X26.here hx rfl (hb hby at_82) k) ?_
  show OGo p e below _ (T26.setTop (mkF m 83 #[.val (.int p1), .val (.int p2), .val (.int p3), .val (.int c0), .val (.int c1), .val (.int c2), .val (.ref b4), .val (.ref b15), .unset, .unset] [(.int (1 : Int32)), (.int (0 : Int32)), (.ref b26), (.ref b26)]))
  have Vq29 := V26
  obtain ⟨cl29, Ar29, q29, S29, M29, Hs29, G29⟩ := Vq29
  have hin30 : ¬ ((0 : Int32) < 0 ∨ cl29.slots.size ≤ ((0 : Int32)).toNatClampNeg) := inb_of S29 ⟨by decide, by decide⟩
  obtain ⟨T30, h30, X30, e30, W30, st30⟩ := stI X26 hx hZ e26 Ar29 (j := (0 : Int32)) hin30 (g := (mkF m 83 #[.val (.int p1), .val (.int p2), .val (.int p3), .val (.int c0), .val (.int c1), .val (.int c2), .val (.ref b4), .val (.ref b15), .unset, .unset] [(.int (1 : Int32)), (.int (0 : Int32)), (.ref b26), (.ref b26)])) rfl rfl (hb hby at_83)
  refine OGo.to st30 ?_
  have V30 : Arv Z h30 b26 k26 .int (12 : Int32) [(.int (1 : Int32)), (.int (0 : Int32)), (.int (0 : Int32)), (.int (0 : Int32)), (.int (0 : Int32)), (.int (0 : Int32)), (.int (0 : Int32)), (.int (0 : Int32)), (.int (0 : Int32)), (.int (0 : Int32)), (.int (0 : Int32)), (.int (0 : Int32))] (.int (0 : Int32)) := Arv.set Ar29 q29 S29 M29 Hs29 G29 rfl W30 0 rfl (Nat.le_of_ble_eq_true rfl)
  have N30 := Fr.snoc X30 N24 g_b26
  have z31 : n0 ≤ h30.size := Nat.le_trans z28 (Keep.of_wr W30).1
  show OGo p e below _ (T30.setTop (mkF m 84 #[.val (.int p1), .val (.int p2), .val (.int p3), .val (.int c0), .val (.int c1), .val (.int c2), .val (.ref b4), .val (.ref b15), .unset, .unset] [(.ref b26)]))
  refine OGo.to (fun _ k => XS.dup X30.here hx rfl (hb hby at_84) rfl rfl k) ?_
  show OGo p e below _ (T30.setTop (mkF m 85 #[.val (.int p1), .val (.int p2), .val (.int p3), .val (.int c0), .val (.int c1), .val (.int c2), .val (.ref b4), .val (.ref b15), .unset, .unset] [(.ref b26), (.ref b26)]))
  refine OGo.to (fun _ k => XS.iconst X30.here hx rfl (hb hby at_85) k) ?_
  show OGo p e below _ (T30.setTop (mkF m 86 #[.val (.int p1), .val (.int p2), .val (.int p3), .val (.int c0), .val (.int c1), .val (.int c2), .val (.ref b4), .val (.ref b15), .unset, .unset] [(.int (1 : Int32)), (.ref b26), (.ref b26)]))
  refine OGo.to (fun _ k => XS.iconst X30.here hx rfl (hb hby at_86) k) ?_
  show OGo p e below _ (T30.setTop (mkF m 87 #[.val (.int p1), .val (.int p2), .val (.int p3), .val (.int c0), .val (.int c1), .val (.int c2), .val (.ref b4), .val (.ref b15), .unset, .unset] [(.int (2 : Int32)), (.int (1 : Int32)), (.ref b26), (.ref b26)]))
  have Vq32 := V30
  obtain ⟨cl32, Ar32, q32, S32, M32, Hs32, G32⟩ := Vq32
  have hin33 : ¬ ((1 : Int32) < 0 ∨ cl32.slots.size ≤ ((1 : Int32)).toNatClampNeg) := inb_of S32 ⟨by decide, by decide⟩
  obtain ⟨T33, h33, X33, e33, W33, st33⟩ := stI X30 hx hZ e30 Ar32 (j := (1 : Int32)) hin33 (g := (mkF m 87 #[.val (.int p1), .val (.int p2), .val (.int p3), .val (.int c0), .val (.int c1), .val (.int c2), .val (.ref b4), .val (.ref b15), .unset, .unset] [(.int (2 : Int32)), (.int (1 : Int32)), (.ref b26), (.ref b26)])) rfl rfl (hb hby at_87)
  refine OGo.to st33 ?_
  have V33 : Arv Z h33 b26 k26 .int (12 : Int32) [(.int (1 : Int32)), (.int (2 : Int32)), (.int (0 : Int32)), (.int (0 : Int32)), (.int (0 : Int32)), (.int (0 : Int32)), (.int (0 : Int32)), (.int (0 : Int32)), (.int (0 : Int32)), (.int (0 : Int32)), (.int (0 : Int32)), (.int (0 : Int32))] (.int (0 : Int32)) := Arv.set Ar32 q32 S32 M32 Hs32 G32 rfl W33 1 rfl (Nat.le_of_ble_eq_true rfl)
  have N33 := Fr.snoc X33 N30 g_b26
  have z34 : n0 ≤ h33.size := Nat.le_trans z31 (Keep.of_wr W33).1
  show OGo p e below _ (T33.setTop (mkF m 88 #[.val (.int p1), .val (.int p2), .val (.int p3), .val (.int c0), .val (.int c1), .val (.int c2), .val (.ref b4), .val (.ref b15), .unset, .unset] [(.ref b26)]))
  refine OGo.to (fun _ k => XS.dup X33.here hx rfl (hb hby at_88) rfl rfl k) ?_
  show OGo p e below _ (T33.setTop (mkF m 89 #[.val (.int p1), .val (.int p2), .val (.int p3), .val (.int c0), .val (.int c1), .val (.int c2), .val (.ref b4), .val (.ref b15), .unset, .unset] [(.ref b26), (.ref b26)]))
  refine OGo.to (fun _ k => XS.iconst X33.here hx rfl (hb hby at_89) k) ?_
  show OGo p e below _ (T33.setTop (mkF m 90 #[.val (.int p1), .val (.int p2), .val (.int p3), .val (.int c0), .val (.int c1), .val (.int c2), .val (.ref b4), .val (.ref b15), .unset, .unset] [(.int (2 : Int32)), (.ref b26), (.ref b26)]))
  refine OGo.to (fun _ k => XS.iconst X33.here hx rfl (hb hby at_90) k) ?_
  show OGo p e below _ (T33.setTop (mkF m 91 #[.val (.int p1), .val (.int p2), .val (.int p3), .val (.int c0), .val (.int c1), .val (.int c2), .val (.ref b4), .val (.ref b15), .unset, .unset] [(.int (3 : Int32)), (.int (2 : Int32)), (.ref b26), (.ref b26)]))
  have Vq35 := V33
  obtain ⟨cl35, Ar35, q35, S35, M35, Hs35, G35⟩ := Vq35
  have hin36 : ¬ ((2 : Int32) < 0 ∨ cl35.slots.size ≤ ((2 : Int32)).toNatClampNeg) := inb_of S35 ⟨by decide, by decide⟩
  obtain ⟨T36, h36, X36, e36, W36, st36⟩ := stI X33 hx hZ e33 Ar35 (j := (2 : Int32)) hin36 (g := (mkF m 91 #[.val (.int p1), .val (.int p2), .val (.int p3), .val (.int c0), .val (.int c1), .val (.int c2), .val (.ref b4), .val (.ref b15), .unset, .unset] [(.int (3 : Int32)), (.int (2 : Int32)), (.ref b26), (.ref b26)])) rfl rfl (hb hby at_91)
  refine OGo.to st36 ?_
  have V36 : Arv Z h36 b26 k26 .int (12 : Int32) [(.int (1 : Int32)), (.int (2 : Int32)), (.int (3 : Int32)), (.int (0 : Int32)), (.int (0 : Int32)), (.int (0 : Int32)), (.int (0 : Int32)), (.int (0 : Int32)), (.int (0 : Int32)), (.int (0 : Int32)), (.int (0 : Int32)), (.int (0 : Int32))] (.int (0 : Int32)) := Arv.set Ar35 q35 S35 M35 Hs35 G35 rfl W36 2 rfl (Nat.le_of_ble_eq_true rfl)
  have N36 := Fr.snoc X36 N33 g_b26
  have z37 : n0 ≤ h36.size := Nat.le_trans z34 (Keep.of_wr W36).1
  show OGo p e below _ (T36.setTop (mkF m 92 #[.val (.int p1), .val (.int p2), .val (.int p3), .val (.int c0), .val (.int c1), .val (.int c2), .val (.ref b4), .val (.ref b15), .unset, .unset] [(.ref b26)]))
  refine OGo.to (fun _ k => XS.dup X36.here hx rfl (hb hby at_92) rfl rfl k) ?_
  show OGo p e below _ (T36.setTop (mkF m 93 #[.val (.int p1), .val (.int p2), .val (.int p3), .val (.int c0), .val (.int c1), .val (.int c2), .val (.ref b4), .val (.ref b15), .unset, .unset] [(.ref b26), (.ref b26)]))
  refine OGo.to (fun _ k => XS.iconst X36.here hx rfl (hb hby at_93) k) ?_
  show OGo p e below _ (T36.setTop (mkF m 94 #[.val (.int p1), .val (.int p2), .val (.int p3), .val (.int c0), .val (.int c1), .val (.int c2), .val (.ref b4), .val (.ref b15), .unset, .unset] [(.int (3 : Int32)), (.ref b26), (.ref b26)]))
  refine OGo.to (fun _ k => XS.iconst X36.here hx rfl (hb hby at_94) k) ?_
  show OGo p e below _ (T36.setTop (mkF m 95 #[.val (.int p1), .val (.int p2), .val (.int p3), .val (.int c0), .val (.int c1), .val (.int c2), .val (.ref b4), .val (.ref b15), .unset, .unset] [(.int (4 : Int32)), (.int (3 : Int32)), (.ref b26), (.ref b26)]))
  have Vq38 := V36
  obtain ⟨cl38, Ar38, q38, S38, M38, Hs38, G38⟩ := Vq38
  have hin39 : ¬ ((3 : Int32) < 0 ∨ cl38.slots.size ≤ ((3 : Int32)).toNatClampNeg) := inb_of S38 ⟨by decide, by decide⟩
  obtain ⟨T39, h39, X39, e39, W39, st39⟩ := stI X36 hx hZ e36 Ar38 (j := (3 : Int32)) hin39 (g := (mkF m 95 #[.val (.int p1), .val (.int p2), .val (.int p3), .val (.int c0), .val (.int c1), .val (.int c2), .val (.ref b4), .val (.ref b15), .unset, .unset] [(.int (4 : Int32)), (.int (3 : Int32)), (.ref b26), (.ref b26)])) rfl rfl (hb hby at_95)
  refine OGo.to st39 ?_
  have V39 : Arv Z h39 b26 k26 .int (12 : Int32) [(.int (1 : Int32)), (.int (2 : Int32)), (.int (3 : Int32)), (.int (4 : Int32)), (.int (0 : Int32)), (.int (0 : Int32)), (.int (0 : Int32)), (.int (0 : Int32)), (.int (0 : Int32)), (.int (0 : Int32)), (.int (0 : Int32)), (.int (0 : Int32))] (.int (0 : Int32)) := Arv.set Ar38 q38 S38 M38 Hs38 G38 rfl W39 3 rfl (Nat.le_of_ble_eq_true rfl)
  have N39 := Fr.snoc X39 N36 g_b26
  have z40 : n0 ≤ h39.size := Nat.le_trans z37 (Keep.of_wr W39).1
  show OGo p e below _ (T39.setTop (mkF m 96 #[.val (.int p1), .val (.int p2), .val (.int p3), .val (.int c0), .val (.int c1), .val (.int c2), .val (.ref b4), .val (.ref b15), .unset, .unset] [(.ref b26)]))
  refine OGo.to (fun _ k => XS.dup X39.here hx rfl (hb hby at_96) rfl rfl k) ?_
  show OGo p e below _ (T39.setTop (mkF m 97 #[.val (.int p1), .val (.int p2), .val (.int p3), .val (.int c0), .val (.int c1), .val (.int c2), .val (.ref b4), .val (.ref b15), .unset, .unset] [(.ref b26), (.ref b26)]))
  refine OGo.to (fun _ k => XS.iconst X39.here hx rfl (hb hby at_97) k) ?_
  show OGo p e below _ (T39.setTop (mkF m 98 #[.val (.int p1), .val (.int p2), .val (.int p3), .val (.int c0), .val (.int c1), .val (.int c2), .val (.ref b4), .val (.ref b15), .unset, .unset] [(.int (4 : Int32)), (.ref b26), (.ref b26)]))
  refine OGo.to (fun _ k => XS.iconst X39.here hx rfl (hb hby at_98) k) ?_
  show OGo p e below _ (T39.setTop (mkF m 99 #[.val (.int p1), .val (.int p2), .val (.int p3), .val (.int c0), .val (.int c1), .val (.int c2), .val (.ref b4), .val (.ref b15), .unset, .unset] [(.int (5 : Int32)), (.int (4 : Int32)), (.ref b26), (.ref b26)]))
  have Vq41 := V39
  obtain ⟨cl41, Ar41, q41, S41, M41, Hs41, G41⟩ := Vq41
  have hin42 : ¬ ((4 : Int32) < 0 ∨ cl41.slots.size ≤ ((4 : Int32)).toNatClampNeg) := inb_of S41 ⟨by decide, by decide⟩
  obtain ⟨T42, h42, X42, e42, W42, st42⟩ := stI X39 hx hZ e39 Ar41 (j := (4 : Int32)) hin42 (g := (mkF m 99 #[.val (.int p1), .val (.int p2), .val (.int p3), .val (.int c0), .val (.int c1), .val (.int c2), .val (.ref b4), .val (.ref b15), .unset, .unset] [(.int (5 : Int32)), (.int (4 : Int32)), (.ref b26), (.ref b26)])) rfl rfl (hb hby at_99)
  refine OGo.to st42 ?_
  have V42 : Arv Z h42 b26 k26 .int (12 : Int32) [(.int (1 : Int32)), (.int (2 : Int32)), (.int (3 : Int32)), (.int (4 : Int32)), (.int (5 : Int32)), (.int (0 : Int32)), (.int (0 : Int32)), (.int (0 : Int32)), (.int (0 : Int32)), (.int (0 : Int32)), (.int (0 : Int32)), (.int (0 : Int32))] (.int (0 : Int32)) := Arv.set Ar41 q41 S41 M41 Hs41 G41 rfl W42 4 rfl (Nat.le_of_ble_eq_true rfl)
  have N42 := Fr.snoc X42 N39 g_b26
  have z43 : n0 ≤ h42.size := Nat.le_trans z40 (Keep.of_wr W42).1
  show OGo p e below _ (T42.setTop (mkF m 100 #[.val (.int p1), .val (.int p2), .val (.int p3), .val (.int c0), .val (.int c1), .val (.int c2), .val (.ref b4), .val (.ref b15), .unset, .unset] [(.ref b26)]))
  refine OGo.to (fun _ k => XS.dup X42.here hx rfl (hb hby at_100) rfl rfl k) ?_
  show OGo p e below _ (T42.setTop (mkF m 101 #[.val (.int p1), .val (.int p2), .val (.int p3), .val (.int c0), .val (.int c1), .val (.int c2), .val (.ref b4), .val (.ref b15), .unset, .unset] [(.ref b26), (.ref b26)]))
  refine OGo.to (fun _ k => XS.iconst X42.here hx rfl (hb hby at_101) k) ?_
  show OGo p e below _ (T42.setTop (mkF m 102 #[.val (.int p1), .val (.int p2), .val (.int p3), .val (.int c0), .val (.int c1), .val (.int c2), .val (.ref b4), .val (.ref b15), .unset, .unset] [(.int (5 : Int32)), (.ref b26), (.ref b26)]))
  refine OGo.to (fun _ k => XS.bipush X42.here hx rfl (hb hby at_102) k) ?_
  show OGo p e below _ (T42.setTop (mkF m 104 #[.val (.int p1), .val (.int p2), .val (.int p3), .val (.int c0), .val (.int c1), .val (.int c2), .val (.ref b4), .val (.ref b15), .unset, .unset] [(.int (6 : Int32)), (.int (5 : Int32)), (.ref b26), (.ref b26)]))
  have Vq44 := V42
  obtain ⟨cl44, Ar44, q44, S44, M44, Hs44, G44⟩ := Vq44
  have hin45 : ¬ ((5 : Int32) < 0 ∨ cl44.slots.size ≤ ((5 : Int32)).toNatClampNeg) := inb_of S44 ⟨by decide, by decide⟩
  obtain ⟨T45, h45, X45, e45, W45, st45⟩ := stI X42 hx hZ e42 Ar44 (j := (5 : Int32)) hin45 (g := (mkF m 104 #[.val (.int p1), .val (.int p2), .val (.int p3), .val (.int c0), .val (.int c1), .val (.int c2), .val (.ref b4), .val (.ref b15), .unset, .unset] [(.int (6 : Int32)), (.int (5 : Int32)), (.ref b26), (.ref b26)])) rfl rfl (hb hby at_104)
  refine OGo.to st45 ?_
  have V45 : Arv Z h45 b26 k26 .int (12 : Int32) [(.int (1 : Int32)), (.int (2 : Int32)), (.int (3 : Int32)), (.int (4 : Int32)), (.int (5 : Int32)), (.int (6 : Int32)), (.int (0 : Int32)), (.int (0 : Int32)), (.int (0 : Int32)), (.int (0 : Int32)), (.int (0 : Int32)), (.int (0 : Int32))] (.int (0 : Int32)) := Arv.set Ar44 q44 S44 M44 Hs44 G44 rfl W45 5 rfl (Nat.le_of_ble_eq_true rfl)
  have N45 := Fr.snoc X45 N42 g_b26
  have z46 : n0 ≤ h45.size := Nat.le_trans z43 (Keep.of_wr W45).1
  show OGo p e below _ (T45.setTop (mkF m 105 #[.val (.int p1), .val (.int p2), .val (.int p3), .val (.int c0), .val (.int c1), .val (.int c2), .val (.ref b4), .val (.ref b15), .unset, .unset] [(.ref b26)]))
  refine OGo.to (fun _ k => XS.dup X45.here hx rfl (hb hby at_105) rfl rfl k) ?_
  show OGo p e below _ (T45.setTop (mkF m 106 #[.val (.int p1), .val (.int p2), .val (.int p3), .val (.int c0), .val (.int c1), .val (.int c2), .val (.ref b4), .val (.ref b15), .unset, .unset] [(.ref b26), (.ref b26)]))
  refine OGo.to (fun _ k => XS.bipush X45.here hx rfl (hb hby at_106) k) ?_
  show OGo p e below _ (T45.setTop (mkF m 108 #[.val (.int p1), .val (.int p2), .val (.int p3), .val (.int c0), .val (.int c1), .val (.int c2), .val (.ref b4), .val (.ref b15), .unset, .unset] [(.int (6 : Int32)), (.ref b26), (.ref b26)]))
  refine OGo.to (fun _ k => XS.bipush X45.here hx rfl (hb hby at_108) k) ?_
  show OGo p e below _ (T45.setTop (mkF m 110 #[.val (.int p1), .val (.int p2), .val (.int p3), .val (.int c0), .val (.int c1), .val (.int c2), .val (.ref b4), .val (.ref b15), .unset, .unset] [(.int (7 : Int32)), (.int (6 : Int32)), (.ref b26), (.ref b26)]))
  have Vq47 := V45
  obtain ⟨cl47, Ar47, q47, S47, M47, Hs47, G47⟩ := Vq47
  have hin48 : ¬ ((6 : Int32) < 0 ∨ cl47.slots.size ≤ ((6 : Int32)).toNatClampNeg) := inb_of S47 ⟨by decide, by decide⟩
  obtain ⟨T48, h48, X48, e48, W48, st48⟩ := stI X45 hx hZ e45 Ar47 (j := (6 : Int32)) hin48 (g := (mkF m 110 #[.val (.int p1), .val (.int p2), .val (.int p3), .val (.int c0), .val (.int c1), .val (.int c2), .val (.ref b4), .val (.ref b15), .unset, .unset] [(.int (7 : Int32)), (.int (6 : Int32)), (.ref b26), (.ref b26)])) rfl rfl (hb hby at_110)
  refine OGo.to st48 ?_
  have V48 : Arv Z h48 b26 k26 .int (12 : Int32) [(.int (1 : Int32)), (.int (2 : Int32)), (.int (3 : Int32)), (.int (4 : Int32)), (.int (5 : Int32)), (.int (6 : Int32)), (.int (7 : Int32)), (.int (0 : Int32)), (.int (0 : Int32)), (.int (0 : Int32)), (.int (0 : Int32)), (.int (0 : Int32))] (.int (0 : Int32)) := Arv.set Ar47 q47 S47 M47 Hs47 G47 rfl W48 6 rfl (Nat.le_of_ble_eq_true rfl)
  have N48 := Fr.snoc X48 N45 g_b26
  have z49 : n0 ≤ h48.size := Nat.le_trans z46 (Keep.of_wr W48).1
  show OGo p e below _ (T48.setTop (mkF m 111 #[.val (.int p1), .val (.int p2), .val (.int p3), .val (.int c0), .val (.int c1), .val (.int c2), .val (.ref b4), .val (.ref b15), .unset, .unset] [(.ref b26)]))
  refine OGo.to (fun _ k => XS.dup X48.here hx rfl (hb hby at_111) rfl rfl k) ?_
  show OGo p e below _ (T48.setTop (mkF m 112 #[.val (.int p1), .val (.int p2), .val (.int p3), .val (.int c0), .val (.int c1), .val (.int c2), .val (.ref b4), .val (.ref b15), .unset, .unset] [(.ref b26), (.ref b26)]))
  refine OGo.to (fun _ k => XS.bipush X48.here hx rfl (hb hby at_112) k) ?_
  show OGo p e below _ (T48.setTop (mkF m 114 #[.val (.int p1), .val (.int p2), .val (.int p3), .val (.int c0), .val (.int c1), .val (.int c2), .val (.ref b4), .val (.ref b15), .unset, .unset] [(.int (7 : Int32)), (.ref b26), (.ref b26)]))
  refine OGo.to (fun _ k => XS.bipush X48.here hx rfl (hb hby at_114) k) ?_
  show OGo p e below _ (T48.setTop (mkF m 116 #[.val (.int p1), .val (.int p2), .val (.int p3), .val (.int c0), .val (.int c1), .val (.int c2), .val (.ref b4), .val (.ref b15), .unset, .unset] [(.int (8 : Int32)), (.int (7 : Int32)), (.ref b26), (.ref b26)]))
  have Vq50 := V48
  obtain ⟨cl50, Ar50, q50, S50, M50, Hs50, G50⟩ := Vq50
  have hin51 : ¬ ((7 : Int32) < 0 ∨ cl50.slots.size ≤ ((7 : Int32)).toNatClampNeg) := inb_of S50 ⟨by decide, by decide⟩
  obtain ⟨T51, h51, X51, e51, W51, st51⟩ := stI X48 hx hZ e48 Ar50 (j := (7 : Int32)) hin51 (g := (mkF m 116 #[.val (.int p1), .val (.int p2), .val (.int p3), .val (.int c0), .val (.int c1), .val (.int c2), .val (.ref b4), .val (.ref b15), .unset, .unset] [(.int (8 : Int32)), (.int (7 : Int32)), (.ref b26), (.ref b26)])) rfl rfl (hb hby at_116)
  refine OGo.to st51 ?_
  have V51 : Arv Z h51 b26 k26 .int (12 : Int32) [(.int (1 : Int32)), (.int (2 : Int32)), (.int (3 : Int32)), (.int (4 : Int32)), (.int (5 : Int32)), (.int (6 : Int32)), (.int (7 : Int32)), (.int (8 : Int32)), (.int (0 : Int32)), (.int (0 : Int32)), (.int (0 : Int32)), (.int (0 : Int32))] (.int (0 : Int32)) := Arv.set Ar50 q50 S50 M50 Hs50 G50 rfl W51 7 rfl (Nat.le_of_ble_eq_true rfl)
  have N51 := Fr.snoc X51 N48 g_b26
  have z52 : n0 ≤ h51.size := Nat.le_trans z49 (Keep.of_wr W51).1
  show OGo p e below _ (T51.setTop (mkF m 117 #[.val (.int p1), .val (.int p2), .val (.int p3), .val (.int c0), .val (.int c1), .val (.int c2), .val (.ref b4), .val (.ref b15), .unset, .unset] [(.ref b26)]))
  refine OGo.to (fun _ k => XS.dup X51.here hx rfl (hb hby at_117) rfl rfl k) ?_
  show OGo p e below _ (T51.setTop (mkF m 118 #[.val (.int p1), .val (.int p2), .val (.int p3), .val (.int c0), .val (.int c1), .val (.int c2), .val (.ref b4), .val (.ref b15), .unset, .unset] [(.ref b26), (.ref b26)]))
  refine OGo.to (fun _ k => XS.bipush X51.here hx rfl (hb hby at_118) k) ?_
  show OGo p e below _ (T51.setTop (mkF m 120 #[.val (.int p1), .val (.int p2), .val (.int p3), .val (.int c0), .val (.int c1), .val (.int c2), .val (.ref b4), .val (.ref b15), .unset, .unset] [(.int (8 : Int32)), (.ref b26), (.ref b26)]))
  refine OGo.to (fun _ k => XS.bipush X51.here hx rfl (hb hby at_120) k) ?_
  show OGo p e below _ (T51.setTop (mkF m 122 #[.val (.int p1), .val (.int p2), .val (.int p3), .val (.int c0), .val (.int c1), .val (.int c2), .val (.ref b4), .val (.ref b15), .unset, .unset] [(.int (9 : Int32)), (.int (8 : Int32)), (.ref b26), (.ref b26)]))
  have Vq53 := V51
  obtain ⟨cl53, Ar53, q53, S53, M53, Hs53, G53⟩ := Vq53
  have hin54 : ¬ ((8 : Int32) < 0 ∨ cl53.slots.size ≤ ((8 : Int32)).toNatClampNeg) := inb_of S53 ⟨by decide, by decide⟩
  obtain ⟨T54, h54, X54, e54, W54, st54⟩ := stI X51 hx hZ e51 Ar53 (j := (8 : Int32)) hin54 (g := (mkF m 122 #[.val (.int p1), .val (.int p2), .val (.int p3), .val (.int c0), .val (.int c1), .val (.int c2), .val (.ref b4), .val (.ref b15), .unset, .unset] [(.int (9 : Int32)), (.int (8 : Int32)), (.ref b26), (.ref b26)])) rfl rfl (hb hby at_122)
  refine OGo.to st54 ?_
  have V54 : Arv Z h54 b26 k26 .int (12 : Int32) [(.int (1 : Int32)), (.int (2 : Int32)), (.int (3 : Int32)), (.int (4 : Int32)), (.int (5 : Int32)), (.int (6 : Int32)), (.int (7 : Int32)), (.int (8 : Int32)), (.int (9 : Int32)), (.int (0 : Int32)), (.int (0 : Int32)), (.int (0 : Int32))] (.int (0 : Int32)) := Arv.set Ar53 q53 S53 M53 Hs53 G53 rfl W54 8 rfl (Nat.le_of_ble_eq_true rfl)
  have N54 := Fr.snoc X54 N51 g_b26
  have z55 : n0 ≤ h54.size := Nat.le_trans z52 (Keep.of_wr W54).1
  show OGo p e below _ (T54.setTop (mkF m 123 #[.val (.int p1), .val (.int p2), .val (.int p3), .val (.int c0), .val (.int c1), .val (.int c2), .val (.ref b4), .val (.ref b15), .unset, .unset] [(.ref b26)]))
  refine OGo.to (fun _ k => XS.dup X54.here hx rfl (hb hby at_123) rfl rfl k) ?_
  show OGo p e below _ (T54.setTop (mkF m 124 #[.val (.int p1), .val (.int p2), .val (.int p3), .val (.int c0), .val (.int c1), .val (.int c2), .val (.ref b4), .val (.ref b15), .unset, .unset] [(.ref b26), (.ref b26)]))
  refine OGo.to (fun _ k => XS.bipush X54.here hx rfl (hb hby at_124) k) ?_
  show OGo p e below _ (T54.setTop (mkF m 126 #[.val (.int p1), .val (.int p2), .val (.int p3), .val (.int c0), .val (.int c1), .val (.int c2), .val (.ref b4), .val (.ref b15), .unset, .unset] [(.int (9 : Int32)), (.ref b26), (.ref b26)]))
  refine OGo.to (fun _ k => XS.bipush X54.here hx rfl (hb hby at_126) k) ?_
  show OGo p e below _ (T54.setTop (mkF m 128 #[.val (.int p1), .val (.int p2), .val (.int p3), .val (.int c0), .val (.int c1), .val (.int c2), .val (.ref b4), .val (.ref b15), .unset, .unset] [(.int (10 : Int32)), (.int (9 : Int32)), (.ref b26), (.ref b26)]))
  have Vq56 := V54
  obtain ⟨cl56, Ar56, q56, S56, M56, Hs56, G56⟩ := Vq56
  have hin57 : ¬ ((9 : Int32) < 0 ∨ cl56.slots.size ≤ ((9 : Int32)).toNatClampNeg) := inb_of S56 ⟨by decide, by decide⟩
  obtain ⟨T57, h57, X57, e57, W57, st57⟩ := stI X54 hx hZ e54 Ar56 (j := (9 : Int32)) hin57 (g := (mkF m 128 #[.val (.int p1), .val (.int p2), .val (.int p3), .val (.int c0), .val (.int c1), .val (.int c2), .val (.ref b4), .val (.ref b15), .unset, .unset] [(.int (10 : Int32)), (.int (9 : Int32)), (.ref b26), (.ref b26)])) rfl rfl (hb hby at_128)
  refine OGo.to st57 ?_
  have V57 : Arv Z h57 b26 k26 .int (12 : Int32) [(.int (1 : Int32)), (.int (2 : Int32)), (.int (3 : Int32)), (.int (4 : Int32)), (.int (5 : Int32)), (.int (6 : Int32)), (.int (7 : Int32)), (.int (8 : Int32)), (.int (9 : Int32)), (.int (10 : Int32)), (.int (0 : Int32)), (.int (0 : Int32))] (.int (0 : Int32)) := Arv.set Ar56 q56 S56 M56 Hs56 G56 rfl W57 9 rfl (Nat.le_of_ble_eq_true rfl)
  have N57 := Fr.snoc X57 N54 g_b26
  have z58 : n0 ≤ h57.size := Nat.le_trans z55 (Keep.of_wr W57).1
  show OGo p e below _ (T57.setTop (mkF m 129 #[.val (.int p1), .val (.int p2), .val (.int p3), .val (.int c0), .val (.int c1), .val (.int c2), .val (.ref b4), .val (.ref b15), .unset, .unset] [(.ref b26)]))
  refine OGo.to (fun _ k => XS.dup X57.here hx rfl (hb hby at_129) rfl rfl k) ?_
  show OGo p e below _ (T57.setTop (mkF m 130 #[.val (.int p1), .val (.int p2), .val (.int p3), .val (.int c0), .val (.int c1), .val (.int c2), .val (.ref b4), .val (.ref b15), .unset, .unset] [(.ref b26), (.ref b26)]))
  refine OGo.to (fun _ k => XS.bipush X57.here hx rfl (hb hby at_130) k) ?_
  show OGo p e below _ (T57.setTop (mkF m 132 #[.val (.int p1), .val (.int p2), .val (.int p3), .val (.int c0), .val (.int c1), .val (.int c2), .val (.ref b4), .val (.ref b15), .unset, .unset] [(.int (10 : Int32)), (.ref b26), (.ref b26)]))
  refine OGo.to (fun _ k => XS.bipush X57.here hx rfl (hb hby at_132) k) ?_
  show OGo p e below _ (T57.setTop (mkF m 134 #[.val (.int p1), .val (.int p2), .val (.int p3), .val (.int c0), .val (.int c1), .val (.int c2), .val (.ref b4), .val (.ref b15), .unset, .unset] [(.int (11 : Int32)), (.int (10 : Int32)), (.ref b26), (.ref b26)]))
  have Vq59 := V57
  obtain ⟨cl59, Ar59, q59, S59, M59, Hs59, G59⟩ := Vq59
  have hin60 : ¬ ((10 : Int32) < 0 ∨ cl59.slots.size ≤ ((10 : Int32)).toNatClampNeg) := inb_of S59 ⟨by decide, by decide⟩
  obtain ⟨T60, h60, X60, e60, W60, st60⟩ := stI X57 hx hZ e57 Ar59 (j := (10 : Int32)) hin60 (g := (mkF m 134 #[.val (.int p1), .val (.int p2), .val (.int p3), .val (.int c0), .val (.int c1), .val (.int c2), .val (.ref b4), .val (.ref b15), .unset, .unset] [(.int (11 : Int32)), (.int (10 : Int32)), (.ref b26), (.ref b26)])) rfl rfl (hb hby at_134)
  refine OGo.to st60 ?_
  have V60 : Arv Z h60 b26 k26 .int (12 : Int32) [(.int (1 : Int32)), (.int (2 : Int32)), (.int (3 : Int32)), (.int (4 : Int32)), (.int (5 : Int32)), (.int (6 : Int32)), (.int (7 : Int32)), (.int (8 : Int32)), (.int (9 : Int32)), (.int (10 : Int32)), (.int (11 : Int32)), (.int (0 : Int32))] (.int (0 : Int32)) := Arv.set Ar59 q59 S59 M59 Hs59 G59 rfl W60 10 rfl (Nat.le_of_ble_eq_true rfl)
  have N60 := Fr.snoc X60 N57 g_b26
  have z61 : n0 ≤ h60.size := Nat.le_trans z58 (Keep.of_wr W60).1
  show OGo p e below _ (T60.setTop (mkF m 135 #[.val (.int p1), .val (.int p2), .val (.int p3), .val (.int c0), .val (.int c1), .val (.int c2), .val (.ref b4), .val (.ref b15), .unset, .unset] [(.ref b26)]))
  refine OGo.to (fun _ k => XS.dup X60.here hx rfl (hb hby at_135) rfl rfl k) ?_
  show OGo p e below _ (T60.setTop (mkF m 136 #[.val (.int p1), .val (.int p2), .val (.int p3), .val (.int c0), .val (.int c1), .val (.int c2), .val (.ref b4), .val (.ref b15), .unset, .unset] [(.ref b26), (.ref b26)]))
  refine OGo.to (fun _ k => XS.bipush X60.here hx rfl (hb hby at_136) k) ?_
  show OGo p e below _ (T60.setTop (mkF m 138 #[.val (.int p1), .val (.int p2), .val (.int p3), .val (.int c0), .val (.int c1), .val (.int c2), .val (.ref b4), .val (.ref b15), .unset, .unset] [(.int (11 : Int32)), (.ref b26), (.ref b26)]))
  refine OGo.to (fun _ k => XS.bipush X60.here hx rfl (hb hby at_138) k) ?_
  show OGo p e below _ (T60.setTop (mkF m 140 #[.val (.int p1), .val (.int p2), .val (.int p3), .val (.int c0), .val (.int c1), .val (.int c2), .val (.ref b4), .val (.ref b15), .unset, .unset] [(.int (12 : Int32)), (.int (11 : Int32)), (.ref b26), (.ref b26)]))
  have Vq62 := V60
  obtain ⟨cl62, Ar62, q62, S62, M62, Hs62, G62⟩ := Vq62
  have hin63 : ¬ ((11 : Int32) < 0 ∨ cl62.slots.size ≤ ((11 : Int32)).toNatClampNeg) := inb_of S62 ⟨by decide, by decide⟩
  obtain ⟨T63, h63, X63, e63, W63, st63⟩ := stI X60 hx hZ e60 Ar62 (j := (11 : Int32)) hin63 (g := (mkF m 140 #[.val (.int p1), .val (.int p2), .val (.int p3), .val (.int c0), .val (.int c1), .val (.int c2), .val (.ref b4), .val (.ref b15), .unset, .unset] [(.int (12 : Int32)), (.int (11 : Int32)), (.ref b26), (.ref b26)])) rfl rfl (hb hby at_140)
  refine OGo.to st63 ?_
  have V63 : Arv Z h63 b26 k26 .int (12 : Int32) [(.int (1 : Int32)), (.int (2 : Int32)), (.int (3 : Int32)), (.int (4 : Int32)), (.int (5 : Int32)), (.int (6 : Int32)), (.int (7 : Int32)), (.int (8 : Int32)), (.int (9 : Int32)), (.int (10 : Int32)), (.int (11 : Int32)), (.int (12 : Int32))] (.int (0 : Int32)) := Arv.set Ar62 q62 S62 M62 Hs62 G62 rfl W63 11 rfl (Nat.le_of_ble_eq_true rfl)
  have N63 := Fr.snoc X63 N60 g_b26
  have z64 : n0 ≤ h63.size := Nat.le_trans z61 (Keep.of_wr W63).1
  show OGo p e below _ (T63.setTop (mkF m 141 #[.val (.int p1), .val (.int p2), .val (.int p3), .val (.int c0), .val (.int c1), .val (.int c2), .val (.ref b4), .val (.ref b15), .unset, .unset] [(.ref b26)]))
  refine OGo.to (fun _ k => XS.astore X63.here hx rfl (hb hby at_141) rfl rfl (l' := #[.val (.int p1), .val (.int p2), .val (.int p3), .val (.int c0), .val (.int c1), .val (.int c2), .val (.ref b4), .val (.ref b15), .val (.ref b26), .unset]) rfl k) ?_
  show OGo p e below _ (T63.setTop (mkF m 143 #[.val (.int p1), .val (.int p2), .val (.int p3), .val (.int c0), .val (.int c1), .val (.int c2), .val (.ref b4), .val (.ref b15), .val (.ref b26), .unset] []))
  have f66 : Arv Z h63 b4 k4 .int (3 : Int32) [(.int (0 : Int32)), (.int (1 : Int32)), (.int (2 : Int32))] (.int (0 : Int32)) := (((((((((((((f27.ext E26).other W30 ne_b4_b26).other W33 ne_b4_b26).other W36 ne_b4_b26).other W39 ne_b4_b26).other W42 ne_b4_b26).other W45 ne_b4_b26).other W48 ne_b4_b26).other W51 ne_b4_b26).other W54 ne_b4_b26).other W57 ne_b4_b26).other W60 ne_b4_b26).other W63 ne_b4_b26)
  have f67 : Arv Z h63 b15 k15 .int (3 : Int32) [(.int c0), (.int (c0 + c1)), (.int ((c0 + c1) + c2))] (.int (0 : Int32)) := (((((((((((((V24.ext E26).other W30 ne_b15_b26).other W33 ne_b15_b26).other W36 ne_b15_b26).other W39 ne_b15_b26).other W42 ne_b15_b26).other W45 ne_b15_b26).other W48 ne_b15_b26).other W51 ne_b15_b26).other W54 ne_b15_b26).other W57 ne_b15_b26).other W60 ne_b15_b26).other W63 ne_b15_b26)
  obtain ⟨T65, h65, X65, e65, E65, A65, D65, -, st65⟩ := newO X63 hx hZ hown (hw _ (List.mem_of_getElem? (i := 2) rfl)) (hw _ (List.mem_of_getElem? (i := 3) rfl)) (hw _ (List.mem_of_getElem? (i := 4) rfl)) e63 (g := (mkF m 143 #[.val (.int p1), .val (.int p2), .val (.int p3), .val (.int c0), .val (.int c1), .val (.int c2), .val (.ref b4), .val (.ref b15), .val (.ref b26), .unset] [])) rfl (hb hby at_143) (by decide) (by decide)
  obtain ⟨b65, g65⟩ : ∃ z, z = h63.size := ⟨_, rfl⟩
  rw [← g65] at A65 D65 st65
  have g_b65 : n0 ≤ b65 := Nat.le_trans z64 (Nat.le_of_eq g65.symm)
  refine OGo.to st65 ?_
  have ne_b4_b65 : b4 ≠ b65 := Nat.ne_of_lt (Nat.lt_of_lt_of_le f66.lt (Nat.le_of_eq g65.symm))
  have ne_b15_b65 : b15 ≠ b65 := Nat.ne_of_lt (Nat.lt_of_lt_of_le f67.lt (Nat.le_of_eq g65.symm))
  have ne_b26_b65 : b26 ≠ b65 := Nat.ne_of_lt (Nat.lt_of_lt_of_le V63.lt (Nat.le_of_eq g65.symm))
  have z68 : n0 ≤ h65.size := Nat.le_trans z64 E65.1
  have F_docs_b65 : Fld Z h65 b65 "com/example/cogram/cogram/index/Postings" "docs" "[I" .null := D65 (Or.inr (hw _ (List.mem_of_getElem? (i := 12) rfl))) (ty := (.array .int)) (by decide)
  have F_ends_b65 : Fld Z h65 b65 "com/example/cogram/cogram/index/Postings" "ends" "[I" .null := D65 (Or.inr (hw _ (List.mem_of_getElem? (i := 14) rfl))) (ty := (.array .int)) (by decide)
  have F_positions_b65 : Fld Z h65 b65 "com/example/cogram/cogram/index/Postings" "positions" "[I" .null := D65 (Or.inr (hw _ (List.mem_of_getElem? (i := 16) rfl))) (ty := (.array .int)) (by decide)
  show OGo p e below _ (T65.setTop (mkF m 146 #[.val (.int p1), .val (.int p2), .val (.int p3), .val (.int c0), .val (.int c1), .val (.int c2), .val (.ref b4), .val (.ref b15), .val (.ref b26), .unset] [(.ref b65)]))
  refine OGo.to (fun _ k => XS.dup X65.here hx rfl (hb hby at_146) rfl rfl k) ?_
  show OGo p e below _ (T65.setTop (mkF m 147 #[.val (.int p1), .val (.int p2), .val (.int p3), .val (.int c0), .val (.int c1), .val (.int c2), .val (.ref b4), .val (.ref b15), .val (.ref b26), .unset] [(.ref b65), (.ref b65)]))
  refine OGo.to (fun _ k => XS.aload X65.here hx rfl (hb hby at_147) rfl rfl k) ?_
  show OGo p e below _ (T65.setTop (mkF m 149 #[.val (.int p1), .val (.int p2), .val (.int p3), .val (.int c0), .val (.int c1), .val (.int c2), .val (.ref b4), .val (.ref b15), .val (.ref b26), .unset] [(.ref b4), (.ref b65), (.ref b65)]))
  refine OGo.to (fun _ k => XS.aload X65.here hx rfl (hb hby at_149) rfl rfl k) ?_
  show OGo p e below _ (T65.setTop (mkF m 151 #[.val (.int p1), .val (.int p2), .val (.int p3), .val (.int c0), .val (.int c1), .val (.int c2), .val (.ref b4), .val (.ref b15), .val (.ref b26), .unset] [(.ref b15), (.ref b4), (.ref b65), (.ref b65)]))
  refine OGo.to (fun _ k => XS.aload X65.here hx rfl (hb hby at_151) rfl rfl k) ?_
  show OGo p e below _ (T65.setTop (mkF m 153 #[.val (.int p1), .val (.int p2), .val (.int p3), .val (.int c0), .val (.int c1), .val (.int c2), .val (.ref b4), .val (.ref b15), .val (.ref b26), .unset] [(.ref b26), (.ref b15), (.ref b4), (.ref b65), (.ref b65)]))
  obtain ⟨_, T69, Lc69, X69, hQ69, st69⟩ := own_un X65 (Q := Q1 Z b65 b4 b15 b26 .null .null .null h65 n0) (rc := 0) (rs := 0) (W := fun v B => Steps p.tables e below (T65.setTop (mkF m 153 #[.val (.int p1), .val (.int p2), .val (.int p3), .val (.int c0), .val (.int c1), .val (.int c2), .val (.ref b4), .val (.ref b15), .val (.ref b26), .unset] [(.ref b26), (.ref b15), (.ref b4), (.ref b65), (.ref b65)])) (B.setTop { (mkF m 153 #[.val (.int p1), .val (.int p2), .val (.int p3), .val (.int c0), .val (.int c1), .val (.int c2), .val (.ref b4), .val (.ref b15), .val (.ref b26), .unset] [(.ref b26), (.ref b15), (.ref b4), (.ref b65), (.ref b65)]) with pc := 156, stack := v.toList ++ [(.ref b65)] })) <| X65.specialBack hx (y := (⟨"com/example/cogram/cogram/index/Postings", "<init>", "([I[I[I)V"⟩ : MethodName)) rfl hown (mvT hZ (hw _ (List.mem_of_getElem? (i := 5) rfl))) (mvT hZ (hw _ (List.mem_of_getElem? (i := 6) rfl))) (mvT hZ (hw _ (List.mem_of_getElem? (i := 7) rfl))) (by decide) (backOf (W := 1) (rm1 l Z a0 hw [] b65 b4 b15 b26 .null .null .null h65 n0 z68 A65 F_docs_b65 F_ends_b65 F_positions_b65 g_b65) hZ (hw _ (List.mem_of_getElem? (i := 7) rfl)) (hw _ (List.mem_of_getElem? (i := 4) rfl)) (by decide) (by decide)) (g := (mkF m 153 #[.val (.int p1), .val (.int p2), .val (.int p3), .val (.int c0), .val (.int c1), .val (.int c2), .val (.ref b4), .val (.ref b15), .val (.ref b26), .unset] [(.ref b26), (.ref b15), (.ref b4), (.ref b65), (.ref b65)])) rfl (by rw [hml]; rfl) (Steps.refl _) (a := b65) (argsL := [(.ref b4), (.ref b15), (.ref b26)]) (rest := [(.ref b65)]) (lenOf pd_1 rfl) rfl (by show 2 * 0 + _ ≤ _; exact Nat.le_of_eq rfl) (hb hby at_153) (fun _ _ => ⟨rfl, e65, (by decide : 4 + 0 ≤ _), (by decide : 21 + 0 ≤ _)⟩)
  obtain ⟨rfl, N69q, K69, p69_0, p69_1, p69_2⟩ := hQ69
  have N69 := Fr.app N63 N69q
  refine OGo.to (fun _ k => st69.trans k) ?_
  have z70 : n0 ≤ T69.heap.size := Nat.le_trans z68 K69.1
  show OGo p e below _ (T69.setTop (mkF m 156 #[.val (.int p1), .val (.int p2), .val (.int p3), .val (.int c0), .val (.int c1), .val (.int c2), .val (.ref b4), .val (.ref b15), .val (.ref b26), .unset] [(.ref b65)]))
  refine OGo.to (fun _ k => XS.astore X69.here hx rfl (hb hby at_156) rfl rfl (l' := #[.val (.int p1), .val (.int p2), .val (.int p3), .val (.int c0), .val (.int c1), .val (.int c2), .val (.ref b4), .val (.ref b15), .val (.ref b26), .val (.ref b65)]) rfl k) ?_
  show OGo p e below _ (T69.setTop (mkF m 158 #[.val (.int p1), .val (.int p2), .val (.int p3), .val (.int c0), .val (.int c1), .val (.int c2), .val (.ref b4), .val (.ref b15), .val (.ref b26), .val (.ref b65)] []))
  refine OGo.to (fun _ k => XS.aload X69.here hx rfl (hb hby at_158) rfl rfl k) ?_
  show OGo p e below _ (T69.setTop (mkF m 160 #[.val (.int p1), .val (.int p2), .val (.int p3), .val (.int c0), .val (.int c1), .val (.int c2), .val (.ref b4), .val (.ref b15), .val (.ref b26), .val (.ref b65)] [(.ref b65)]))
  refine OGo.to (fun _ k => XS.iconst X69.here hx rfl (hb hby at_160) k) ?_
  show OGo p e below _ (T69.setTop (mkF m 161 #[.val (.int p1), .val (.int p2), .val (.int p3), .val (.int c0), .val (.int c1), .val (.int c2), .val (.ref b4), .val (.ref b15), .val (.ref b26), .val (.ref b65)] [(.int (0 : Int32)), (.ref b65)]))
  have f72 : Exa Z T69.heap b65 "com/example/cogram/cogram/index/Postings" := (A65.keep K69)
  have f73 : Arv Z T69.heap b15 k15 .int (3 : Int32) [(.int c0), (.int (c0 + c1)), (.int ((c0 + c1) + c2))] (.int (0 : Int32)) := ((f67.ext E65).keep K69 (fun q => ne_b15_b65 (List.mem_singleton.mp q)))
  obtain ⟨cq71, kq71, q71a, q71b, q71c⟩ := isOf hZ (rfl : T69.heap = T69.heap) f72
  obtain ⟨_, T71, Lc71, X71, hQ71, st71⟩ := own_un X69 (Q := Qf0 Z b65 b15 k15 c0 (c0 + c1) ((c0 + c1) + c2) T69.heap n0) (rc := 0) (rs := 0) (W := fun v B => Steps p.tables e below (T69.setTop (mkF m 161 #[.val (.int p1), .val (.int p2), .val (.int p3), .val (.int c0), .val (.int c1), .val (.int c2), .val (.ref b4), .val (.ref b15), .val (.ref b26), .val (.ref b65)] [(.int (0 : Int32)), (.ref b65)])) (B.setTop { (mkF m 161 #[.val (.int p1), .val (.int p2), .val (.int p3), .val (.int c0), .val (.int c1), .val (.int c2), .val (.ref b4), .val (.ref b15), .val (.ref b26), .val (.ref b65)] [(.int (0 : Int32)), (.ref b65)]) with pc := 164, stack := v.toList ++ [] })) <| X69.virtualBack hx (y := (⟨"com/example/cogram/cogram/index/Postings", "frequency", "(I)I"⟩ : MethodName)) (z := (⟨"com/example/cogram/cogram/index/Postings", "frequency", "(I)I"⟩ : MethodName)) hown (mvT hZ (hw _ (List.mem_of_getElem? (i := 17) rfl))) (mvT hZ (hw _ (List.mem_of_getElem? (i := 18) rfl))) (notFace_of_selects (args := #[]) (mvT hZ (hw _ (List.mem_of_getElem? (i := 20) rfl)))) (mvT hZ (hw _ (List.mem_of_getElem? (i := 20) rfl))) (mvT hZ (hw _ (List.mem_of_getElem? (i := 19) rfl))) (by decide) (backOf (W := 0) (rmf0 l Z a0 hw [] b65 b15 k15 c0 (c0 + c1) ((c0 + c1) + c2) T69.heap n0 z70 f72 p69_1 f73) hZ (hw _ (List.mem_of_getElem? (i := 21) rfl)) (hw _ (List.mem_of_getElem? (i := 4) rfl)) (by decide) (by decide)) q71a q71c (g := (mkF m 161 #[.val (.int p1), .val (.int p2), .val (.int p3), .val (.int c0), .val (.int c1), .val (.int c2), .val (.ref b4), .val (.ref b15), .val (.ref b26), .val (.ref b65)] [(.int (0 : Int32)), (.ref b65)])) rfl (by rw [hml]; rfl) (Steps.refl _) (argsL := [(.int (0 : Int32))]) (rest := []) (lenOf pd_0 rfl) rfl (by show 2 * 0 + _ ≤ _; exact Nat.le_of_eq rfl) (hb hby at_161) (fun _ _ => ⟨rfl, (rfl : T69.heap = T69.heap), (by decide : 4 + 0 ≤ _), (by decide : 21 + 0 ≤ _)⟩)
  obtain ⟨rfl, N71q, e71⟩ := hQ71
  have N71 := Fr.app N69 N71q
  refine OGo.to (fun _ k => st71.trans k) ?_
  show OGo p e below _ (T71.setTop (mkF m 164 #[.val (.int p1), .val (.int p2), .val (.int p3), .val (.int c0), .val (.int c1), .val (.int c2), .val (.ref b4), .val (.ref b15), .val (.ref b26), .val (.ref b65)] [(.int (c0 - (0 : Int32)))]))
  refine OGo.to (fun _ k => XS.iloadN X71.here hx rfl (hb hby at_164) rfl k) ?_
  show OGo p e below _ (T71.setTop (mkF m 165 #[.val (.int p1), .val (.int p2), .val (.int p3), .val (.int c0), .val (.int c1), .val (.int c2), .val (.ref b4), .val (.ref b15), .val (.ref b26), .val (.ref b65)] [(.int c0), (.int (c0 - (0 : Int32)))]))
  have hc165_74 : (c0 - (0 : Int32)) = c0 := own_a1 c0
  refine OGo.to (fun _ k => XS.icmpNo X71.here hx rfl (hb hby at_165) rfl (teq hc165_74).2 k) ?_
  show OGo p e below _ (T71.setTop (mkF m 168 #[.val (.int p1), .val (.int p2), .val (.int p3), .val (.int c0), .val (.int c1), .val (.int c2), .val (.ref b4), .val (.ref b15), .val (.ref b26), .val (.ref b65)] []))
  refine OGo.to (fun _ k => XS.aload X71.here hx rfl (hb hby at_168) rfl rfl k) ?_
  show OGo p e below _ (T71.setTop (mkF m 170 #[.val (.int p1), .val (.int p2), .val (.int p3), .val (.int c0), .val (.int c1), .val (.int c2), .val (.ref b4), .val (.ref b15), .val (.ref b26), .val (.ref b65)] [(.ref b65)]))
  refine OGo.to (fun _ k => XS.iconst X71.here hx rfl (hb hby at_170) k) ?_
  show OGo p e below _ (T71.setTop (mkF m 171 #[.val (.int p1), .val (.int p2), .val (.int p3), .val (.int c0), .val (.int c1), .val (.int c2), .val (.ref b4), .val (.ref b15), .val (.ref b26), .val (.ref b65)] [(.int (1 : Int32)), (.ref b65)]))
  obtain ⟨cq75, kq75, q75a, q75b, q75c⟩ := isOf hZ e71 f72
  obtain ⟨_, T75, Lc75, X75, hQ75, st75⟩ := own_un X71 (Q := Qf1 Z b65 b15 k15 c0 (c0 + c1) ((c0 + c1) + c2) T69.heap n0) (rc := 0) (rs := 0) (W := fun v B => Steps p.tables e below (T71.setTop (mkF m 171 #[.val (.int p1), .val (.int p2), .val (.int p3), .val (.int c0), .val (.int c1), .val (.int c2), .val (.ref b4), .val (.ref b15), .val (.ref b26), .val (.ref b65)] [(.int (1 : Int32)), (.ref b65)])) (B.setTop { (mkF m 171 #[.val (.int p1), .val (.int p2), .val (.int p3), .val (.int c0), .val (.int c1), .val (.int c2), .val (.ref b4), .val (.ref b15), .val (.ref b26), .val (.ref b65)] [(.int (1 : Int32)), (.ref b65)]) with pc := 174, stack := v.toList ++ [] })) <| X71.virtualBack hx (y := (⟨"com/example/cogram/cogram/index/Postings", "frequency", "(I)I"⟩ : MethodName)) (z := (⟨"com/example/cogram/cogram/index/Postings", "frequency", "(I)I"⟩ : MethodName)) hown (mvT hZ (hw _ (List.mem_of_getElem? (i := 17) rfl))) (mvT hZ (hw _ (List.mem_of_getElem? (i := 18) rfl))) (notFace_of_selects (args := #[]) (mvT hZ (hw _ (List.mem_of_getElem? (i := 20) rfl)))) (mvT hZ (hw _ (List.mem_of_getElem? (i := 20) rfl))) (mvT hZ (hw _ (List.mem_of_getElem? (i := 19) rfl))) (by decide) (backOf (W := 0) (rmf1 l Z a0 hw [] b65 b15 k15 c0 (c0 + c1) ((c0 + c1) + c2) T69.heap n0 z70 f72 p69_1 f73) hZ (hw _ (List.mem_of_getElem? (i := 21) rfl)) (hw _ (List.mem_of_getElem? (i := 4) rfl)) (by decide) (by decide)) q75a q75c (g := (mkF m 171 #[.val (.int p1), .val (.int p2), .val (.int p3), .val (.int c0), .val (.int c1), .val (.int c2), .val (.ref b4), .val (.ref b15), .val (.ref b26), .val (.ref b65)] [(.int (1 : Int32)), (.ref b65)])) rfl (by rw [hml]; rfl) (Steps.refl _) (argsL := [(.int (1 : Int32))]) (rest := []) (lenOf pd_0 rfl) rfl (by show 2 * 0 + _ ≤ _; exact Nat.le_of_eq rfl) (hb hby at_171) (fun _ _ => ⟨rfl, e71, (by decide : 4 + 0 ≤ _), (by decide : 21 + 0 ≤ _)⟩)
  obtain ⟨rfl, N75q, e75⟩ := hQ75
  have N75 := Fr.app N71 N75q
  refine OGo.to (fun _ k => st75.trans k) ?_
  show OGo p e below _ (T75.setTop (mkF m 174 #[.val (.int p1), .val (.int p2), .val (.int p3), .val (.int c0), .val (.int c1), .val (.int c2), .val (.ref b4), .val (.ref b15), .val (.ref b26), .val (.ref b65)] [(.int ((c0 + c1) - c0))]))
  refine OGo.to (fun _ k => XS.iload X75.here hx rfl (hb hby at_174) rfl k) ?_
  show OGo p e below _ (T75.setTop (mkF m 176 #[.val (.int p1), .val (.int p2), .val (.int p3), .val (.int c0), .val (.int c1), .val (.int c2), .val (.ref b4), .val (.ref b15), .val (.ref b26), .val (.ref b65)] [(.int c1), (.int ((c0 + c1) - c0))]))
  have hc176_76 : ((c0 + c1) - c0) = c1 := own_a2 c0 c1
  refine OGo.to (fun _ k => XS.icmpNo X75.here hx rfl (hb hby at_176) rfl (teq hc176_76).2 k) ?_
  show OGo p e below _ (T75.setTop (mkF m 179 #[.val (.int p1), .val (.int p2), .val (.int p3), .val (.int c0), .val (.int c1), .val (.int c2), .val (.ref b4), .val (.ref b15), .val (.ref b26), .val (.ref b65)] []))
  refine OGo.to (fun _ k => XS.aload X75.here hx rfl (hb hby at_179) rfl rfl k) ?_
  show OGo p e below _ (T75.setTop (mkF m 181 #[.val (.int p1), .val (.int p2), .val (.int p3), .val (.int c0), .val (.int c1), .val (.int c2), .val (.ref b4), .val (.ref b15), .val (.ref b26), .val (.ref b65)] [(.ref b65)]))
  refine OGo.to (fun _ k => XS.iconst X75.here hx rfl (hb hby at_181) k) ?_
  show OGo p e below _ (T75.setTop (mkF m 182 #[.val (.int p1), .val (.int p2), .val (.int p3), .val (.int c0), .val (.int c1), .val (.int c2), .val (.ref b4), .val (.ref b15), .val (.ref b26), .val (.ref b65)] [(.int (2 : Int32)), (.ref b65)]))
  obtain ⟨cq77, kq77, q77a, q77b, q77c⟩ := isOf hZ e75 f72
  obtain ⟨_, T77, Lc77, X77, hQ77, st77⟩ := own_un X75 (Q := Qf2 Z b65 b15 k15 c0 (c0 + c1) ((c0 + c1) + c2) T69.heap n0) (rc := 0) (rs := 0) (W := fun v B => Steps p.tables e below (T75.setTop (mkF m 182 #[.val (.int p1), .val (.int p2), .val (.int p3), .val (.int c0), .val (.int c1), .val (.int c2), .val (.ref b4), .val (.ref b15), .val (.ref b26), .val (.ref b65)] [(.int (2 : Int32)), (.ref b65)])) (B.setTop { (mkF m 182 #[.val (.int p1), .val (.int p2), .val (.int p3), .val (.int c0), .val (.int c1), .val (.int c2), .val (.ref b4), .val (.ref b15), .val (.ref b26), .val (.ref b65)] [(.int (2 : Int32)), (.ref b65)]) with pc := 185, stack := v.toList ++ [] })) <| X75.virtualBack hx (y := (⟨"com/example/cogram/cogram/index/Postings", "frequency", "(I)I"⟩ : MethodName)) (z := (⟨"com/example/cogram/cogram/index/Postings", "frequency", "(I)I"⟩ : MethodName)) hown (mvT hZ (hw _ (List.mem_of_getElem? (i := 17) rfl))) (mvT hZ (hw _ (List.mem_of_getElem? (i := 18) rfl))) (notFace_of_selects (args := #[]) (mvT hZ (hw _ (List.mem_of_getElem? (i := 20) rfl)))) (mvT hZ (hw _ (List.mem_of_getElem? (i := 20) rfl))) (mvT hZ (hw _ (List.mem_of_getElem? (i := 19) rfl))) (by decide) (backOf (W := 0) (rmf2 l Z a0 hw [] b65 b15 k15 c0 (c0 + c1) ((c0 + c1) + c2) T69.heap n0 z70 f72 p69_1 f73) hZ (hw _ (List.mem_of_getElem? (i := 21) rfl)) (hw _ (List.mem_of_getElem? (i := 4) rfl)) (by decide) (by decide)) q77a q77c (g := (mkF m 182 #[.val (.int p1), .val (.int p2), .val (.int p3), .val (.int c0), .val (.int c1), .val (.int c2), .val (.ref b4), .val (.ref b15), .val (.ref b26), .val (.ref b65)] [(.int (2 : Int32)), (.ref b65)])) rfl (by rw [hml]; rfl) (Steps.refl _) (argsL := [(.int (2 : Int32))]) (rest := []) (lenOf pd_0 rfl) rfl (by show 2 * 0 + _ ≤ _; exact Nat.le_of_eq rfl) (hb hby at_182) (fun _ _ => ⟨rfl, e75, (by decide : 4 + 0 ≤ _), (by decide : 21 + 0 ≤ _)⟩)
  obtain ⟨rfl, N77q, e77⟩ := hQ77
  have N77 := Fr.app N75 N77q
  refine OGo.to (fun _ k => st77.trans k) ?_
  show OGo p e below _ (T77.setTop (mkF m 185 #[.val (.int p1), .val (.int p2), .val (.int p3), .val (.int c0), .val (.int c1), .val (.int c2), .val (.ref b4), .val (.ref b15), .val (.ref b26), .val (.ref b65)] [(.int (((c0 + c1) + c2) - (c0 + c1)))]))
  refine OGo.to (fun _ k => XS.iload X77.here hx rfl (hb hby at_185) rfl k) ?_
  show OGo p e below _ (T77.setTop (mkF m 187 #[.val (.int p1), .val (.int p2), .val (.int p3), .val (.int c0), .val (.int c1), .val (.int c2), .val (.ref b4), .val (.ref b15), .val (.ref b26), .val (.ref b65)] [(.int c2), (.int (((c0 + c1) + c2) - (c0 + c1)))]))
  have hc187_78 : (((c0 + c1) + c2) - (c0 + c1)) = c2 := own_a2 (c0 + c1) c2
  refine OGo.to (fun _ k => XS.icmpNo X77.here hx rfl (hb hby at_187) rfl (teq hc187_78).2 k) ?_
  show OGo p e below _ (T77.setTop (mkF m 190 #[.val (.int p1), .val (.int p2), .val (.int p3), .val (.int c0), .val (.int c1), .val (.int c2), .val (.ref b4), .val (.ref b15), .val (.ref b26), .val (.ref b65)] []))
  refine OGo.to (fun _ k => XS.iconst X77.here hx rfl (hb hby at_190) k) ?_
  show OGo p e below _ (T77.setTop (mkF m 191 #[.val (.int p1), .val (.int p2), .val (.int p3), .val (.int c0), .val (.int c1), .val (.int c2), .val (.ref b4), .val (.ref b15), .val (.ref b26), .val (.ref b65)] [(.int (1 : Int32))]))
  refine OGo.to (fun _ k => XS.goto X77.here hx rfl (pc0 := 191) (pc' := 195) rfl (hb hby at_191) (by decide) (by decide) k) ?_
  show OGo p e below _ (T77.setTop (mkF m 195 #[.val (.int p1), .val (.int p2), .val (.int p3), .val (.int c0), .val (.int c1), .val (.int c2), .val (.ref b4), .val (.ref b15), .val (.ref b26), .val (.ref b65)] [(.int (1 : Int32))]))
  refine OGo.ret (Q := Q0 Z p1 p2 p3 h0 n0) X77 (some (.int (1 : Int32))) (fun h => by rw [Bd.returns] at h; cases h) Bd.notSynchronized (fun fs hr => retN X77 hx (t := .boolean) (z := (1 : Int32)) Bd.returns (by simp) (hb hby at_195) hr) ?_ (by decide) (by decide)
  show Q0 Z p1 p2 p3 h0 n0 _ T77.heap _
  rw [e77]
  exact ⟨rfl, N77⟩
set_option maxRecDepth 65536 in
set_option maxHeartbeats 40000000 in
theorem comes_1 {Post : Tables → Env → Array Value → State → Outcome → State → Prop} (hpost : ∀ tb e args s v u, (limb_1_1.after args s (.returned v) u = true ∧ limb_1_2.after args s (.returned v) u = true ∧ True) → FrameEnd s (.returned v) u (Jvm.fieldLocs frame_1_writes args s ++ Jvm.arrayLocs frame_1_arrays args s ++ Jvm.staticLocs frame_1_statics s) 16 128 → Post tb e args s (.returned v) u) :
    ArmFor flags0 classFile x code maxLocals ret World_1 tables_1 room_1 Calls_1 rest_1 Pre_1 Post := by
  intro l hfl _ _ p e ha hc hk s m args below hf hA hF happ hP
  obtain ⟨hcalls, hrest, hpre⟩ := hP
  obtain ⟨-, -, -, hnamed, -, -, -, hat⟩ := (Spec.applies_iff hf).mp happ
  obtain ⟨hg, hn⟩ := and_e (Cond.before_iff.mp (show (Jvm.Cond.and given_1 narrow_1).before args s = true from hpre))
  obtain ⟨g1, g2⟩ := and_e hg
  obtain ⟨g3, g4⟩ := and_e g2
  obtain ⟨g5, g6⟩ := and_e g4
  obtain ⟨w0, w1, w2, rfl⟩ : ∃ w0 w1 w2 : Value, args = #[w0, w1, w2] := by
    have hs : args.size = 3 := by simpa [Cond.value, given_1] using g1
    obtain ⟨L⟩ := args
    match L, hs with
    | [w0, w1, w2], _ => exact ⟨w0, w1, w2, rfl⟩
  have hw := fun d (hd : d ∈ tables_1) => atoms_spec (ws := Jvm.Cond.code x code maxLocals ret :: tables_1) hat d (List.mem_cons_of_mem _ hd)
  have hfit : Fit s := fun {y c} hc i hi => by
    obtain ⟨ha, rfl⟩ := Array.getElem?_eq_some_iff.mp hc
    have q := List.all_eq_true.mp ((Array.all_eq_true_iff_forall_mem.mp hF) _ (Array.getElem_mem ha)) i (List.mem_range.mpr hi)
    simpa [Array.getElem?_eq_getElem hi] using q
  obtain ⟨i0, ei0⟩ := is_v g3
  obtain rfl : w0 = (.int i0) := Option.some.inj ei0
  obtain ⟨i1, ei1⟩ := is_v g5
  obtain rfl : w1 = (.int i1) := Option.some.inj ei1
  obtain ⟨i2, ei2⟩ := is_v g6
  obtain rfl : w2 = (.int i2) := Option.some.inj ei2
  obtain ⟨n, o, h1, h2, h3, _, L, rfl, ⟨rfl, N⟩, hq⟩ := rm0 l s _ hw tables_1 i0 i1 i2 s.heap s.heap.size (Nat.le_refl _)  p e ha hc hk s m _ below hf ((Spec.applies_iff_loose hf).mp happ).1 ⟨rfl, State.Warmed39.refl s, rfl⟩ trivial
  refine ⟨n, _, h1, h2, h3, hpost _ _ _ _ _ _ ⟨Cond.after_iff.mpr rfl, Cond.after_iff.mpr (eq_i res_at (Term.int_eval (1)) rfl), trivial⟩ ⟨hq.1, hq.2.1, (hq.2.2.sift fun y hy => Or.inr (N y hy)).mono (by decide) (by decide)⟩⟩
theorem main_1_1 : Claimed_1_1 := comes_1 fun _ _ _ _ _ _ h hF => ⟨h.1, hF⟩
theorem main_1_2 : Claimed_1_2 := comes_1 fun _ _ _ _ _ _ h hF => ⟨h.2.1, hF⟩
end Jvm.Pilot.@@N@@
namespace Jvm.Pilot.@@N@@
open Jvm Jvm.ClassFile Sem Op Lib Jvm.Free Jvm.Stand Jvm.Pilot.@@N@@.Jvm.D
/-! MADE BY PROGRAM (witnessworld.py) out of the Statement's table words and the real class files: 9 classes; the members and pool entries that the words name. The judged class is class 1, her method 1. -/
namespace start1
open Jvm.ClassFile
def u (s : String) : CpInfo := .utf8 (stringToUtf16 s)
/-- a pool by its gaps: so many unusable entries, then the entry; so many at the end -/
def gap : Nat → List CpInfo → List CpInfo
  | 0, r => r
  | n + 1, r => .unusable :: gap n r
def poolList (es : List (Nat × CpInfo)) (last : Nat) : List CpInfo := es.foldr (fun e r => gap e.1 (e.2 :: r)) (gap last [])
def pool (es : List (Nat × CpInfo)) (last : Nat) : Array CpInfo := ⟨poolList es last⟩
def fileOf (pool : Array CpInfo) (this : Nat) (attrs : Array Attribute := #[]) (ms : Array MethodInfo := #[]) (fl : Nat := 33) (sup : Nat := 0) (ifs : Array Nat := #[]) (fds : Array FieldInfo := #[]) : ClassFile where
  minorVersion := 0
  majorVersion := 65
  constantPool := pool
  accessFlags := fl
  thisClass := this
  superClass := sup
  interfaces := ifs
  fields := fds
  methods := ms
  attributes := attrs
def plain (name : String) (sup : Option ClassId) : Class where
  name := name
  kind := .ordinary
  loader := none
  accessFlags := 33
  super := sup
  interfaces := #[]
  cf := none
  fields := #[]
  methods := #[]
  instanceTypes := #[]
  staticTypes := #[]
  resolved := #[]
  callSites := []
  init := .initialized
  statics := none
  mirror := none

def pool0 : Array CpInfo := pool [(5, u "<init>"), (0, u "()V"), (1, .class_ 10), (1, u "java/lang/Object")] 113

def k0c0 : Code := { maxStack := 0, maxLocals := 1, code := object_method_1_code, exceptionTable := #[], attributes := #[] }
def k0m0 : Method := { name := "<init>", desc := "()V", sig := { parameters := [], returnType := none }, accessFlags := 1, code := some k0c0 }
/-- java/lang/Object -/
def k0 : Class := { plain "java/lang/Object" none with
  accessFlags := 33
  interfaces := #[]
  cf := some (fileOf pool0 8 #[] #[{ accessFlags := 1, nameIndex := 5, descriptorIndex := 6, attributes := #[] }] 33 0 #[] #[])
  fields := #[]
  methods := #[k0m0]
  instanceTypes := #[]
  staticTypes := #[]
  resolved := Array.replicate 124 none
  statics := none }

def pool1 : Array CpInfo := pool [(2, .class_ 4), (1, u "java/lang/Object"), (0, u "<init>"), (0, u "()V"), (0, .integer 2147483647), (0, .class_ 9), (0, u "com/example/cogram/cogram/index/Postings"), (0, .methodref 8 11), (0, .nameAndType 5 12), (0, u "([I[I[I)V"), (0, .methodref 8 14), (0, .nameAndType 15 16), (0, u "frequency"), (0, u "(I)I"), (0, .class_ 18), (0, u "com/example/cogram/cogram/index/PostingsFrequencyPinLaw"), (2, u "law"), (0, u "(III)Z")] 5

def k1m0 : Method := { name := "<init>", desc := "()V", sig := { parameters := [], returnType := none }, accessFlags := 1, code := none }
def k1c1 : Code := { maxStack := 5, maxLocals := 10, code := code, exceptionTable := #[], attributes := #[] }
def k1m1 : Method := { name := "law", desc := "(III)Z", sig := { parameters := [.int, .int, .int], returnType := some .boolean }, accessFlags := 9, code := some k1c1 }
/-- com/example/cogram/cogram/index/PostingsFrequencyPinLaw -/
def k1 : Class := { plain "com/example/cogram/cogram/index/PostingsFrequencyPinLaw" (some 0) with
  accessFlags := 49
  interfaces := #[]
  cf := some (fileOf pool1 17 #[] #[{ accessFlags := 1, nameIndex := 5, descriptorIndex := 6, attributes := #[] }, { accessFlags := 9, nameIndex := 21, descriptorIndex := 22, attributes := #[] }] 49 2 #[] #[])
  fields := #[]
  methods := #[k1m0, k1m1]
  instanceTypes := #[]
  staticTypes := #[]
  resolved := Array.replicate 28 none
  statics := none }

def pool2 : Array CpInfo := pool [(1, .methodref 2 3), (0, .class_ 4), (0, .nameAndType 5 6), (0, u "java/lang/Object"), (0, u "<init>"), (0, u "()V"), (0, .fieldref 8 9), (0, .class_ 10), (0, .nameAndType 11 12), (0, u "com/example/cogram/cogram/index/Postings"), (0, u "docs"), (0, u "[I"), (0, .fieldref 8 14), (0, .nameAndType 15 12), (0, u "ends"), (0, .fieldref 8 17), (0, .nameAndType 18 12), (0, u "positions"), (0, .methodref 8 20), (0, .nameAndType 21 22), (0, u "start"), (0, u "(I)I"), (12, u "([I[I[I)V"), (2, u "EMPTY"), (0, u "Lcom/example/cogram/cogram/index/Postings;"), (5, u "frequency")] 9

def k2c0 : Code := { maxStack := 2, maxLocals := 4, code := prog_38_method_1_code, exceptionTable := #[], attributes := #[] }
def k2m0 : Method := { name := "<init>", desc := "([I[I[I)V", sig := { parameters := [(.array .int), (.array .int), (.array .int)], returnType := none }, accessFlags := 0, code := some k2c0 }
def k2c1 : Code := { maxStack := 3, maxLocals := 2, code := prog_38_method_4_code, exceptionTable := #[], attributes := #[] }
def k2m1 : Method := { name := "frequency", desc := "(I)I", sig := { parameters := [.int], returnType := some .int }, accessFlags := 1, code := some k2c1 }
def k2c2 : Code := { maxStack := 3, maxLocals := 2, code := prog_38_method_9_code, exceptionTable := #[], attributes := #[] }
def k2m2 : Method := { name := "start", desc := "(I)I", sig := { parameters := [.int], returnType := some .int }, accessFlags := 2, code := some k2c2 }
/-- com/example/cogram/cogram/index/Postings -/
def k2 : Class := { plain "com/example/cogram/cogram/index/Postings" (some 0) with
  accessFlags := 33
  interfaces := #[]
  cf := some (fileOf pool2 8 #[] #[{ accessFlags := 0, nameIndex := 5, descriptorIndex := 35, attributes := #[] }, { accessFlags := 1, nameIndex := 45, descriptorIndex := 22, attributes := #[] }, { accessFlags := 2, nameIndex := 21, descriptorIndex := 22, attributes := #[] }] 33 2 #[] #[{ accessFlags := 25, nameIndex := 38, descriptorIndex := 39, attributes := #[] }, { accessFlags := 18, nameIndex := 11, descriptorIndex := 12, attributes := #[] }, { accessFlags := 18, nameIndex := 15, descriptorIndex := 12, attributes := #[] }, { accessFlags := 18, nameIndex := 18, descriptorIndex := 12, attributes := #[] }])
  fields := #[{ name := "EMPTY", type := (.object "com/example/cogram/cogram/index/Postings"), accessFlags := 25, slot := 0, constantValue := 0 }, { name := "docs", type := (.array .int), accessFlags := 18, slot := 0, constantValue := 0 }, { name := "ends", type := (.array .int), accessFlags := 18, slot := 1, constantValue := 0 }, { name := "positions", type := (.array .int), accessFlags := 18, slot := 2, constantValue := 0 }]
  methods := #[k2m0, k2m1, k2m2]
  instanceTypes := #[(.array .int), (.array .int), (.array .int)]
  staticTypes := #[(.object "com/example/cogram/cogram/index/Postings")]
  resolved := Array.replicate 55 none
  statics := none }

def pool3 : Array CpInfo := pool [(1, u "java/lang/Cloneable"), (0, .class_ 1), (0, u "java/lang/Object"), (0, .class_ 3)] 3

/-- java/lang/Cloneable -/
def k3 : Class := { plain "java/lang/Cloneable" (some 0) with
  accessFlags := 1537
  interfaces := #[]
  cf := some (fileOf pool3 2 #[] #[] 1537 4 #[] #[])
  fields := #[]
  methods := #[]
  instanceTypes := #[]
  staticTypes := #[]
  resolved := Array.replicate 8 none
  statics := none }

def pool4 : Array CpInfo := pool [(1, u "java/io/Serializable"), (0, .class_ 1), (0, u "java/lang/Object"), (0, .class_ 3)] 3

/-- java/io/Serializable -/
def k4 : Class := { plain "java/io/Serializable" (some 0) with
  accessFlags := 1537
  interfaces := #[]
  cf := some (fileOf pool4 2 #[] #[] 1537 4 #[] #[])
  fields := #[]
  methods := #[]
  instanceTypes := #[]
  staticTypes := #[]
  resolved := Array.replicate 8 none
  statics := none }

/-- the primitive byte -/
def k5 : Class := { plain "byte" none with kind := .primitive 'B', accessFlags := 0x411 }
/-- [B -/
def k6 : Class := { plain "[B" (some 0) with kind := .array 5 .byte, interfaces := #[3, 4], accessFlags := 1041 }

/-- the primitive int -/
def k7 : Class := { plain "int" none with kind := .primitive 'I', accessFlags := 0x411 }
/-- [I -/
def k8 : Class := { plain "[I" (some 0) with kind := .array 7 .int, interfaces := #[3, 4], accessFlags := 1041 }

def heap : Heap := #[]
def classes : Array Class := #[k0, k1, k2, k3, k4, k5, k6, k7, k8]
def interned : List (Array UInt16 × Addr) := []
def slotsUsed : Nat := 0
def theMethod : MethodId := ⟨1, 1⟩
def args0 : Array Value := #[.int 5, .int 7, .int 9]
def aboutOver (below : List Frame) : State where
  vm := { classes := classes, interned := interned.toArray }
  heap := heap
  slotsUsed := slotsUsed
  threads := #[{ frames := .invoking theMethod args0 :: below }]
def below0 : List Frame := [.native { method := ⟨0, 0⟩, args := #[] }]
def about1 : State := aboutOver below0
def p0 : Program := .bare "" "" ""
def e0 : Env := launch0.env 0 0 0
theorem w_frames : about1.frames = Frame.invoking theMethod args0 :: below0 := rfl
set_option maxRecDepth 65536 in
theorem w_args : argsFit about1.vm theMethod args0 = true := by decide +kernel
set_option maxRecDepth 65536 in
theorem w_heap : heapFits about1 = true := by decide +kernel
set_option maxRecDepth 65536 in
theorem w_runnable : about1.curStatus? = some .runnable := by decide +kernel
set_option maxRecDepth 65536 in
theorem w_alone : about1.alone = true := by decide +kernel
set_option maxRecDepth 65536 in
theorem w_named : about1.methodNamed? x = some theMethod := by decide +kernel
set_option maxRecDepth 65536 in
theorem w_hears : about1.hears theMethod below0 = true := by decide +kernel
set_option maxRecDepth 65536 in
theorem w_ripe : about1.ripe theMethod args0 below0 = true := by decide +kernel
theorem w_running : about1.status = .running := rfl
set_option maxRecDepth 65536 in
theorem w_room : about1.hasRoom e0.platform room_1 = true :=
  launch0.hasRoom_least _ room_1 (by decide +kernel) (by decide +kernel) (by decide +kernel) (by decide +kernel) (by decide +kernel) (by decide +kernel)
theorem allAtoms_all (ts : List Jvm.Cond) (a : Array Jvm.Value) (st : Jvm.State) : (allAtoms ts).before a st = ts.all (fun c => c.before a st) := by
  induction ts with
  | nil => rfl
  | cons c t ih =>
    show (Jvm.Cond.and c (allAtoms t)).before a st = _
    rw [Jvm.Cond.before_and, ih, List.all_cons]
def words1 : List Jvm.Cond := Jvm.Cond.code x code maxLocals ret :: tables_1
/-- a 'code' word, met by the world's own term for the bytes: nothing is compared byte by byte -/
theorem code_word {y : MethodName} {bytes : ByteArray} {mx : Nat} {rt : Option FieldType} {a : Array Value} {s : State} {m : MethodId} {meth : Method} {c : Code} (h1 : s.methodNamed? y = some m) (h2 : s.vm.method? m = some meth) (h3 : meth.code = some c) (h4 : c.code = bytes)
    (h5 : (c.maxLocals == mx && c.exceptionTable.isEmpty && decide (c.maxStack ≤ mostOperands) && decide (meth.sig.returnType = rt) && !meth.locks && decide (parseMethodDescriptor y.desc = some meth.sig)) = true) : (Jvm.Cond.code y bytes mx rt).before a s = true := by
  simp only [Bool.and_eq_true, beq_iff_eq, Bool.not_eq_true', decide_eq_true_eq] at h5
  obtain ⟨⟨⟨⟨⟨g1, g2⟩, g3⟩, g4⟩, g5⟩, g6⟩ := h5
  simp [Cond.before, Cond.holds, Cond.value, h1, h2, h3, h4, g1, g2, g3, g4, g5, g6]
def isCode : Jvm.Cond → Bool
  | .code _ _ _ _ => true
  | _ => false
theorem all_split {L : List Jvm.Cond} {P : Jvm.Cond → Bool} (h1 : L.all (fun c => isCode c || P c) = true) (h2 : ∀ c ∈ L.filter isCode, P c = true) : L.all P = true := by
  refine List.all_eq_true.mpr fun c hc => ?_
  have h := List.all_eq_true.mp h1 c hc
  rcases Bool.eq_false_or_eq_true (isCode c) with hi | hi
  · exact h2 c (List.mem_filter.mpr ⟨hc, hi⟩)
  · simpa [hi] using h
set_option maxRecDepth 65536 in
theorem w_c0 : (Jvm.Cond.code x code maxLocals ret).before args0 about1 = true := code_word (m := ⟨1, 1⟩) (meth := k1m1) (c := k1c1) (by decide +kernel) rfl rfl rfl (by decide +kernel)
set_option maxRecDepth 65536 in
theorem w_c1 : (Jvm.Cond.code ({ cls := "com/example/cogram/cogram/index/Postings", name := "<init>", desc := "([I[I[I)V" } : Jvm.MethodName) prog_38_method_1_code (4 : Nat) (Option.none : Option Jvm.ClassFile.FieldType)).before args0 about1 = true := code_word (m := ⟨2, 0⟩) (meth := k2m0) (c := k2c0) (by decide +kernel) rfl rfl rfl (by decide +kernel)
set_option maxRecDepth 65536 in
theorem w_c2 : (Jvm.Cond.code ({ cls := "java/lang/Object", name := "<init>", desc := "()V" } : Jvm.MethodName) object_method_1_code (1 : Nat) (Option.none : Option Jvm.ClassFile.FieldType)).before args0 about1 = true := code_word (m := ⟨0, 0⟩) (meth := k0m0) (c := k0c0) (by decide +kernel) rfl rfl rfl (by decide +kernel)
set_option maxRecDepth 65536 in
theorem w_c3 : (Jvm.Cond.code ({ cls := "com/example/cogram/cogram/index/Postings", name := "frequency", desc := "(I)I" } : Jvm.MethodName) prog_38_method_4_code (2 : Nat) (Option.some Jvm.ClassFile.FieldType.int)).before args0 about1 = true := code_word (m := ⟨2, 1⟩) (meth := k2m1) (c := k2c1) (by decide +kernel) rfl rfl rfl (by decide +kernel)
set_option maxRecDepth 65536 in
theorem w_c4 : (Jvm.Cond.code ({ cls := "com/example/cogram/cogram/index/Postings", name := "start", desc := "(I)I" } : Jvm.MethodName) prog_38_method_9_code (2 : Nat) (Option.some Jvm.ClassFile.FieldType.int)).before args0 about1 = true := code_word (m := ⟨2, 2⟩) (meth := k2m2) (c := k2c2) (by decide +kernel) rfl rfl rfl (by decide +kernel)
def codes1 : List Jvm.Cond := [Jvm.Cond.code x code maxLocals ret, Jvm.Cond.code ({ cls := "com/example/cogram/cogram/index/Postings", name := "<init>", desc := "([I[I[I)V" } : Jvm.MethodName) prog_38_method_1_code (4 : Nat) (Option.none : Option Jvm.ClassFile.FieldType), Jvm.Cond.code ({ cls := "java/lang/Object", name := "<init>", desc := "()V" } : Jvm.MethodName) object_method_1_code (1 : Nat) (Option.none : Option Jvm.ClassFile.FieldType), Jvm.Cond.code ({ cls := "com/example/cogram/cogram/index/Postings", name := "frequency", desc := "(I)I" } : Jvm.MethodName) prog_38_method_4_code (2 : Nat) (Option.some Jvm.ClassFile.FieldType.int), Jvm.Cond.code ({ cls := "com/example/cogram/cogram/index/Postings", name := "start", desc := "(I)I" } : Jvm.MethodName) prog_38_method_9_code (2 : Nat) (Option.some Jvm.ClassFile.FieldType.int)]
set_option maxRecDepth 65536 in
theorem codes_eq : words1.filter isCode = codes1 := rfl
theorem w_codes : ∀ c ∈ words1.filter isCode, c.before args0 about1 = true := by
  rw [codes_eq]
  intro c hc
  simp only [codes1, List.mem_cons, List.not_mem_nil, or_false] at hc
  rcases hc with rfl | rfl | rfl | rfl | rfl
  · exact w_c0
  · exact w_c1
  · exact w_c2
  · exact w_c3
  · exact w_c4
set_option maxRecDepth 65536 in
theorem w_t1 : (words1.take 24).all (fun c => isCode c || c.before args0 about1) = true := by decide +kernel
set_option maxRecDepth 65536 in
theorem w_t2 : (words1.drop 24).all (fun c => isCode c || c.before args0 about1) = true := by decide +kernel
theorem w_tables : (allAtoms (Jvm.Cond.code x code maxLocals ret :: tables_1)).before args0 about1 = true := by
  rw [allAtoms_all]
  show words1.all (fun c => c.before args0 about1) = true
  refine all_split ?_ w_codes
  rw [← List.take_append_drop 24 words1, List.all_append, w_t1, w_t2]
  rfl
set_option maxRecDepth 65536 in
theorem w_case : (Jvm.Cond.and given_1 narrow_1).before args0 about1 = true := by decide +kernel
theorem w_applies : (headSpec (Jvm.Cond.code x code maxLocals ret :: tables_1) room_1).applies x e0.platform about1 = true :=
  (Spec.applies_iff w_frames).mpr ⟨w_running, w_runnable, w_alone, w_named, w_hears, w_ripe, w_room, w_tables⟩
theorem atStart : AtStart classFile x code maxLocals ret World_1 tables_1 room_1 Calls_1 rest_1 Pre_1 launch0 p0 e0 about1 theMethod args0 below0 :=
  ⟨lists_1, trivial, launch0.admits_env _ _ _, launch0.least_env, fairChoices_fair.cas, fairChoices_fair.clock, w_frames, w_args, w_heap, w_applies, trivial, trivial, w_case⟩
end start1
theorem witness_1 : WitnessClaimed_1 := ⟨start1.p0, start1.e0, start1.about1, start1.theMethod, start1.args0, start1.below0, start1.atStart⟩
end Jvm.Pilot.@@N@@
