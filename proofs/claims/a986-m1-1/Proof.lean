import JvmDerived
import JvmDerived.Pilot.@@N@@Statement
import JvmDerived.Pilot.@@N@@Code
set_option linter.unusedVariables false
set_option linter.unusedSimpArgs false
namespace Jvm.RoadKit
open Sem ClassFile Op Lib Jvm.Stand Jvm.Free Jvm.LawKit
section New
variable {p : Program} {l : Launch} {e : Env} {R : Room} {s : State} {m : MethodId} {args : Array Value} {below : List Frame} {meth : Method} {c : Code} {T : State} {locs : List Loc} {cells slots : Nat}
theorem retI (X : Stand p l e R s m args below meth c T locs cells slots) (hx : p.tables.exec = Jvm.exec) {pc : Nat} {Ls : Array Slot} {z : Int32} {rest : List Value} (hret : meth.sig.returnType = some .int) (hd : decode c.code pc = .ok (.ireturn, 1)) {fs : List Frame}
    (hl : ∀ (f : JFrame) (acts : List Action), f.method = m → f.locked = none → f.entered = [] → (doReturn e (T.setTop f) acts (some (.int z))).1 = T.setFrames fs) : Steps p.tables e below (T.setTop (mkF m pc Ls (.int z :: rest))) (T.setFrames fs) := by
  have hm' : T.vm.method? m = some meth := X.method'
  have hn : narrow .int (.int z) = .int z := rfl
  show Steps p.tables e below (T.setTop { method := m, pc := pc, locals := Ls, stack := _ :: rest, locked := none }) _
  jvm_step X.here [X.here.top, hx, hd, hm', hret, hn]
  first | (intro acts; rw [hl _ acts rfl rfl rfl]) | rw [hl _ _ rfl rfl rfl]
  exact Steps.refl _
end New
end Jvm.RoadKit
namespace Jvm.Pilot.@@N@@
open Jvm Jvm.ClassFile Sem Op Lib Jvm.Free Jvm.Stand Jvm.LawKit Jvm.RoadKit Bundle Jvm.Pilot.@@N@@.Jvm.D
section Own
variable {p : Program} {l : Launch} {e : Env} {R : Room} {s : State} {m : MethodId} {args : Array Value} {below : List Frame} {meth : Method} {c : Code} {T : State} {locs : List Loc} {cells slots : Nat}
theorem own_retL (X : Stand p l e R s m args below meth c T locs cells slots) (hx : p.tables.exec = Jvm.exec) {pc : Nat} {Ls : Array Slot} {z : Int64} {rest : List Value} (hret : meth.sig.returnType = some .long) (hd : decode c.code pc = .ok (.lreturn, 1)) {fs : List Frame}
    (hl : ∀ (f : JFrame) (acts : List Action), f.method = m → f.locked = none → f.entered = [] → (doReturn e (T.setTop f) acts (some (.long z))).1 = T.setFrames fs) : Steps p.tables e below (T.setTop (mkF m pc Ls (.long z :: rest))) (T.setFrames fs) := by
  have hm' : T.vm.method? m = some meth := X.method'
  have hn : narrow .long (.long z) = .long z := rfl
  show Steps p.tables e below (T.setTop { method := m, pc := pc, locals := Ls, stack := _ :: rest, locked := none }) _
  jvm_step X.here [X.here.top, hx, hd, hm', hret, hn]
  first | (intro acts; rw [hl _ acts rfl rfl rfl]) | rw [hl _ _ rfl rfl rfl]
  exact Steps.refl _
theorem own_retA (X : Stand p l e R s m args below meth c T locs cells slots) (hx : p.tables.exec = Jvm.exec) {pc : Nat} {Ls : Array Slot} {v : Value} {t : FieldType} {rest : List Value} (hret : meth.sig.returnType = some t) (ht : t.isReference = true) (hv : v.isRef = true) (hd : decode c.code pc = .ok (.areturn, 1)) {fs : List Frame}
    (hl : ∀ (f : JFrame) (acts : List Action), f.method = m → f.locked = none → f.entered = [] → (doReturn e (T.setTop f) acts (some v)).1 = T.setFrames fs) : Steps p.tables e below (T.setTop (mkF m pc Ls (v :: rest))) (T.setFrames fs) := by
  have hm' : T.vm.method? m = some meth := X.method'
  show Steps p.tables e below (T.setTop { method := m, pc := pc, locals := Ls, stack := _ :: rest, locked := none }) _
  jvm_step X.here [X.here.top, hx, hd, hm', hret, hv, ht]
  first | (intro acts; rw [hl _ acts rfl rfl rfl]) | rw [hl _ _ rfl rfl rfl]
  exact Steps.refl _
def OGo (p : Program) (e : Env) (below : List Frame) (P : State → Outcome → Prop) (S : State) : Prop := ∃ s₂ o, Steps p.tables e below S s₂ ∧ s₂.status = .running ∧ Ended s₂ below o ∧ P s₂ o
theorem OGo.to {P : State → Outcome → Prop} {S S' : State} (h : ∀ t, Steps p.tables e below S' t → Steps p.tables e below S t) (g : OGo p e below P S') : OGo p e below P S := by
  obtain ⟨s₂, o, h1, r⟩ := g
  exact ⟨s₂, o, h _ h1, r⟩
theorem OGo.ret {Q : Option Value → Heap → List Loc → Prop} (X : Stand p l e R s m args below meth c T locs cells slots) {g : JFrame} (v : Option Value) (hv : meth.sig.returnType = none → v = none) (hlocks : meth.locks = false)
    (st : ∀ fs : List Frame, (∀ (f : JFrame) (acts : List Action), f.method = m → f.locked = none → f.entered = [] → (doReturn e (T.setTop f) acts v).1 = T.setFrames fs) → Steps p.tables e below (T.setTop g) (T.setFrames fs)) (hq : Q v T.heap locs) {rc rs : Nat} (h1 : cells ≤ rc) (h2 : slots ≤ rs) :
    OGo p e below (fun s₂ o => ∃ v L, o = .returned v ∧ Q v s₂.heap L ∧ FrameEnd s o s₂ L rc rs) (T.setTop g) := by
  obtain ⟨fs, hr, hrun, hended, hW, hsame⟩ := X.leave (v := v) hv hlocks
  exact ⟨_, _, st fs hr, hrun, hended, _, _, rfl, hq, ⟨_, rfl⟩, hW, hsame.mono h1 h2⟩
theorem OGo.retW {vm₁ : Vm} {Q : Option Value → Heap → List Loc → Prop} (X : Stand p l e R (s.setVm vm₁) m args below meth c T locs cells slots) {n : Nat} (hS : s.Since vm₁ n) (hn : n ≤ T.heap.size) {g : JFrame} (v : Option Value) (hv : meth.sig.returnType = none → v = none) (hlocks : meth.locks = false)
    (st : ∀ fs : List Frame, (∀ (f : JFrame) (acts : List Action), f.method = m → f.locked = none → f.entered = [] → (doReturn e (T.setTop f) acts v).1 = T.setFrames fs) → Steps p.tables e below (T.setTop g) (T.setFrames fs)) (hq : Q v T.heap locs) {rc rs : Nat} (h1 : cells ≤ rc) (h2 : slots ≤ rs) :
    OGo p e below (fun s₂ o => ∃ v L, o = .returned v ∧ Q v s₂.heap L ∧ ReturnedEndW s o s₂ L rc rs) (T.setTop g) := by
  obtain ⟨fs, hr, hrun, hended, a, b, c', d⟩ := X.leaveW hS hn (v := v) hv hlocks
  exact ⟨_, _, st fs hr, hrun, hended, _, _, rfl, hq, a, b, c', d.mono h1 h2⟩
theorem own_unS {Z : State} {own : String} {vm0 : Vm} {k0 : Nat} (hS : s.Since vm0 k0) (hk : k0 ≤ T.heap.size) (hZ : Z.Warmed39 (s.setVm vm0).vm) (hown : (s.setVm vm0).vm.findClass own = some m.cls) (X0 : Stand p l e R (s.setVm vm0) m args below meth c T locs cells slots) {Q : Option Value → Heap → List Loc → Prop} {rc rs : Nat} {W : Option Value → State → Prop}
    (h : ∃ (v : Option Value) (vm₁ : Vm) (B : Pt), (s.setVm vm0).WarmedH vm₁ ∧ Stand p l e R ((s.setVm vm0).setVm B.U.vm) m args below meth c B.U B.locs B.cells B.slots ∧ (s.setVm vm0).Since B.U.vm B.U.heap.size ∧ T.heap.size ≤ B.U.heap.size ∧ (∃ L, Q v B.U.heap L ∧ B.locs = locs ++ L ∧ B.cells = cells + rc ∧ B.slots = slots + rs) ∧ W v B.U) :
    ∃ (v : Option Value) (T' : State) (Lc : List Loc), Stand p l e R (s.setVm T'.vm) m args below meth c T' (locs ++ Lc) (cells + rc) (slots + rs) ∧ s.Since T'.vm T'.heap.size ∧ Z.Warmed39 (s.setVm T'.vm).vm ∧ (s.setVm T'.vm).vm.findClass own = some m.cls ∧ Q v T'.heap Lc ∧ W v T' := by
  obtain ⟨v, vm₁, ⟨T', L', k', n'⟩, -, X, h2, gg, ⟨Lc, hQ, q1, q2, q3⟩, st⟩ := h
  subst q1 q2 q3
  obtain ⟨r1, r2, r3, r4⟩ := rebS hS hk X h2 gg hZ hown
  exact ⟨v, T', Lc, r1, r2, r3, r4, hQ, st⟩
theorem own_un (X0 : Stand p l e R s m args below meth c T locs cells slots) {Q : Option Value → Heap → List Loc → Prop} {rc rs : Nat} {W : Option Value → State → Prop}
    (h : ∃ (v : Option Value) (vm₁ : Vm) (B : Pt), s.WarmedH vm₁ ∧ Stand p l e R s m args below meth c B.U B.locs B.cells B.slots ∧ (∃ L, Q v B.U.heap L ∧ B.locs = locs ++ L ∧ B.cells = cells + rc ∧ B.slots = slots + rs) ∧ W v B.U) :
    ∃ (v : Option Value) (T' : State) (Lc : List Loc), Stand p l e R s m args below meth c T' (locs ++ Lc) (cells + rc) (slots + rs) ∧ Q v T'.heap Lc ∧ W v T' := by
  obtain ⟨v, vm₁, ⟨T', L', k', n'⟩, -, X, ⟨Lc, hQ, h1, h2, h3⟩, st⟩ := h
  subst h1 h2 h3
  exact ⟨v, T', Lc, X, hQ, st⟩
theorem own_selP {Z : State} {a0 : Array Value} (hZ : Z.Warmed39 s.vm) {y : MethodName} {n : Nat} (wi : (Jvm.Cond.instantiable y.cls n).before a0 Z = true) (wp : (Jvm.Cond.privateMethod y).before a0 Z = true) (wm : (Jvm.Cond.instanceMethod y).before a0 Z = true) (hy : y.cls ≠ "java/lang/invoke/MethodHandle" ∧ y.cls ≠ "java/lang/invoke/VarHandle") : (Jvm.Cond.selects y.cls y y).before args s = true := by
  obtain ⟨c, k, h1, h2, -, h3, -⟩ := Cond.instantiable_spec (mvT (args := args) hZ wi)
  exact selects_self_of_private h1 h2 ((Bool.or_eq_false_iff.mp h3).1) (Cond.privateMethod_at (mvP hZ wp (args := args))) (mvT hZ wm) hy
end Own
theorem own_c255 (x : Int32) : ¬ (255 : Int32) < (x &&& (255 : Int32)) := fun q => by
  have h := c_and x (255 : Int32) (by decide)
  have q2 := Int32.lt_iff_toInt_lt.mp q
  omega
theorem own_cc (x : Int32) : ((x &&& (255 : Int32)).toUInt32.toUInt16.toUInt32.toInt32) = x &&& (255 : Int32) := i2c_mask x
theorem own_cn (x : Int32) : nar .char ((x &&& (255 : Int32)).toUInt32.toUInt16.toUInt32.toInt32) = x &&& (255 : Int32) := by
  rw [own_cc]; exact i2c_mask x
theorem own_cs {args : Array Value} {s : State} {t : Jvm.Term} {cs : Int32} (e : t.eval args s none [] s = some (.int cs)) (h : (Jvm.Cond.not (Jvm.Cond.eq t (Jvm.Term.int (0 : Int32)))).before args s = true) : ¬ (cs = (0 : Int32)) := by
  rintro rfl
  have q := not_v (Cond.before_iff.mp h)
  have r := eq_i (args := args) (first := s) (o := none) (idx := []) (s := s) e (Term.int_eval (0)) rfl
  rw [r] at q
  cases q
theorem own_wS {Z : State} {a0 : Array Value} (hw : ∀ d ∈ tables_1, d.before a0 Z = true) : ∀ a ∈ Bundle.stringAtoms, a.before a0 Z = true := by
  intro a ha
  simp only [Bundle.stringAtoms, List.mem_cons, List.not_mem_nil, or_false] at ha
  rcases ha with rfl | rfl | rfl | rfl | rfl | rfl | rfl
  · exact (hw _ (List.mem_of_getElem? (i := 6) rfl))
  · exact (hw _ (List.mem_of_getElem? (i := 5) rfl))
  · exact (hw _ (List.mem_of_getElem? (i := 22) rfl))
  · exact (hw _ (List.mem_of_getElem? (i := 32) rfl))
  · exact (hw _ (List.mem_of_getElem? (i := 30) rfl))
  · exact (hw _ (List.mem_of_getElem? (i := 38) rfl))
  · exact (hw _ (List.mem_of_getElem? (i := 39) rfl))
def own_hold (f : Int32) (v : Int64) : Int64 := if (f &&& (2 : Int32)) = (0 : Int32) then (0 : Int64) else v
theorem own_h0 (v : Int64) : own_hold (0 : Int32) v = (0 : Int64) := by unfold own_hold; rw [if_pos (by decide)]
theorem own_h2 (v : Int64) : own_hold ((0 : Int32) ||| (2 : Int32)) v = v := by unfold own_hold; rw [if_neg (by decide)]

theorem pd_0 : parseMethodDescriptor "([CI[BII)I" = some ⟨[(.array .char), .int, (.array .byte), .int, .int], some .int⟩ := by decide +kernel
theorem pd_1 : parseMethodDescriptor "([CII)[B" = some ⟨[(.array .char), .int, .int], some (.array .byte)⟩ := by decide +kernel
theorem pd_2 : parseMethodDescriptor "([BI)B" = some ⟨[(.array .byte), .int], some .byte⟩ := by decide +kernel
theorem pd_3 : parseMethodDescriptor "([CIILjava/lang/Void;)V" = some ⟨[(.array .char), .int, .int, (.object "java/lang/Void")], none⟩ := by decide +kernel
theorem pd_4 : parseMethodDescriptor "(Ljava/lang/String;Ljava/lang/String;IJIIJJJLjava/lang/String;)V" = some ⟨[(.object "java/lang/String"), (.object "java/lang/String"), .int, .long, .int, .int, .long, .long, .long, (.object "java/lang/String")], none⟩ := by decide +kernel
theorem pd_5 : parseMethodDescriptor "([C)V" = some ⟨[(.array .char)], none⟩ := by decide +kernel
theorem pd_6 : parseMethodDescriptor "(Ljava/lang/String;Ljava/lang/String;IJI)V" = some ⟨[(.object "java/lang/String"), (.object "java/lang/String"), .int, .long, .int], none⟩ := by decide +kernel
theorem pd_7 : parseMethodDescriptor "()J" = some ⟨[], some .long⟩ := by decide +kernel
theorem pd_8 : parseMethodDescriptor "(J)Lcom/example/lahetti/lahetti/protocol/PullRequestHeader;" = some ⟨[.long], some (.object "com/example/lahetti/lahetti/protocol/PullRequestHeader")⟩ := by decide +kernel
theorem pn_0 : plainName "java/lang/StringUTF16" = true := by first | (simp [plainName, overriddenIn]; done) | decide +kernel
theorem pn_1 : plainName "java/lang/String" = true := by first | (simp [plainName, overriddenIn]; done) | decide +kernel
theorem pn_2 : plainName "com/example/lahetti/lahetti/protocol/PullRequestHeader" = true := by first | (simp [plainName, overriddenIn]; done) | decide +kernel
theorem pn_3 : plainName "com/example/lahetti/lahetti/protocol/PullRequestHeaderGetHoldMillisPinLaw" = true := by first | (simp [plainName, overriddenIn]; done) | decide +kernel
theorem d5_0 : decode jdk_52_method_21_code 0 = .ok (.iconst 0, 1) := by decide +kernel
theorem d5_1 : decode jdk_52_method_21_code 1 = .ok (.istore 5, 2) := by decide +kernel
theorem d5_3 : decode jdk_52_method_21_code 3 = .ok (.iload 5, 2) := by decide +kernel
theorem d5_5 : decode jdk_52_method_21_code 5 = .ok (.iload 4, 2) := by decide +kernel
theorem d5_7 : decode jdk_52_method_21_code 7 = .ok (.if_icmp .ge 37, 3) := by decide +kernel
theorem d5_10 : decode jdk_52_method_21_code 10 = .ok (.aload_n 0, 1) := by decide +kernel
theorem d5_11 : decode jdk_52_method_21_code 11 = .ok (.iload_n 1, 1) := by decide +kernel
theorem d5_12 : decode jdk_52_method_21_code 12 = .ok (.caload, 1) := by decide +kernel
theorem d5_13 : decode jdk_52_method_21_code 13 = .ok (.istore 6, 2) := by decide +kernel
theorem d5_15 : decode jdk_52_method_21_code 15 = .ok (.iload 6, 2) := by decide +kernel
theorem d5_17 : decode jdk_52_method_21_code 17 = .ok (.sipush 255, 3) := by decide +kernel
theorem d5_20 : decode jdk_52_method_21_code 20 = .ok (.if_icmp .le 6, 3) := by decide +kernel
theorem d5_26 : decode jdk_52_method_21_code 26 = .ok (.aload_n 2, 1) := by decide +kernel
theorem d5_27 : decode jdk_52_method_21_code 27 = .ok (.iload_n 3, 1) := by decide +kernel
theorem d5_28 : decode jdk_52_method_21_code 28 = .ok (.iload 6, 2) := by decide +kernel
theorem d5_30 : decode jdk_52_method_21_code 30 = .ok (.i2b, 1) := by decide +kernel
theorem d5_31 : decode jdk_52_method_21_code 31 = .ok (.bastore, 1) := by decide +kernel
theorem d5_32 : decode jdk_52_method_21_code 32 = .ok (.iinc 1 1, 3) := by decide +kernel
theorem d5_35 : decode jdk_52_method_21_code 35 = .ok (.iinc 3 1, 3) := by decide +kernel
theorem d5_38 : decode jdk_52_method_21_code 38 = .ok (.iinc 5 1, 3) := by decide +kernel
theorem d5_41 : decode jdk_52_method_21_code 41 = .ok (.goto (-38), 3) := by decide +kernel
theorem d5_44 : decode jdk_52_method_21_code 44 = .ok (.iload 4, 2) := by decide +kernel
theorem d5_46 : decode jdk_52_method_21_code 46 = .ok (.ireturn, 1) := by decide +kernel
theorem ef_cp1 (m : MethodId) (x0 : Addr) (x1 : Int32) (x2 : Addr) (x3 : Int32) (x4 : Int32) : entryFrame m #[(.ref x0), (.int x1), (.ref x2), (.int x3), (.int x4)] 7 = mkF m 0 #[.val (.ref x0), .val (.int x1), .val (.ref x2), .val (.int x3), .val (.int x4), .unset, .unset] [] := by first | (simp [entryFrame, mkF, argsToLocals, Value.category]; done) | rfl
def Qcp1 (Z : State) (a1 : Addr) (a2 : Addr) (kc : ClassId) (x0 : Int32) (kb : ClassId) (h0 : Heap) (n0 : Nat) (v : Option Value) (h : Heap) (L : List Loc) : Prop := v = some (.int (1 : Int32)) ∧ Fr n0 L ∧ Keep h0 h [a2] ∧ Arv Z h a2 kb .byte (1 : Int32) [(.int ((x0.toInt8.toInt32)).toInt8.toInt32)] (.int (0 : Int32))
set_option maxRecDepth 65536 in
set_option maxHeartbeats 40000000 in
theorem rmcp1 (l : Launch) (Z : State) (a0 : Array Value) (hw : ∀ d ∈ tables_1, d.before a0 Z = true) (ws : List Jvm.Cond) (a1 : Addr) (a2 : Addr) (kc : ClassId) (x0 : Int32) (kb : ClassId) (h0 : Heap) (n0 : Nat) (Z0 : n0 ≤ h0.size) (VA : Arv Z h0 a1 kc .char (1 : Int32) [(.int x0)] (.int (0 : Int32))) (VB : Arv Z h0 a2 kb .byte (1 : Int32) [(.int (0 : Int32))] (.int (0 : Int32))) (nab : a1 ≠ a2) (g2 : n0 ≤ a2) (hx0 : ¬ ((255 : Int32) < x0)) :
    MetFree l (⟨"java/lang/StringUTF16", "compress", "([CI[BII)I"⟩ : MethodName) (head1 (Jvm.Cond.code (⟨"java/lang/StringUTF16", "compress", "([CI[BII)I"⟩ : MethodName) jdk_52_method_21_code 7 (some .int) :: ws) ({ frames := 0, cells := 0, slots := 0, locals := 0 } : Room)) (fun a U => a = #[(.ref a1), (.int (0 : Int32)), (.ref a2), (.int (0 : Int32)), (.int (1 : Int32))] ∧ Z.Warmed39 U.vm ∧ U.heap = h0) (fun _ _ _ _ _ => True) (fun _ U o U' => ∃ v L, o = .returned v ∧ Qcp1 Z a1 a2 kc x0 kb h0 n0 v U'.heap L ∧ FrameEnd U o U' L ({ frames := 0, cells := 0, slots := 0, locals := 0 } : Room).cells ({ frames := 0, cells := 0, slots := 0, locals := 0 } : Room).slots) := by
  refine MetFree.of_bodySF (plainFor_of_name pn_0) hisR ?_
  intro p e s m args below meth c s₁ Bd hml0 hP hK
  obtain ⟨rfl, hZ, hh⟩ := hP
  have hx := Bd.exec
  have hby := Bd.bytes
  have hml : c.maxLocals = 7 := hml0
  have hown : s.vm.findClass "java/lang/StringUTF16" = some m.cls := findClass_of_methodNamed Bd.named
  have hnm := (name_of_methodNamed Bd.named Bd.method).1
  have X0 : Stand p l e ({ frames := 0, cells := 0, slots := 0, locals := 0 } : Room) s m #[(.ref a1), (.int (0 : Int32)), (.ref a2), (.int (0 : Int32)), (.int (1 : Int32))] below meth c s₁ [] 0 0 := Stand.of_body Bd
  have e0 : s₁.heap = h0 := by rw [← hh, Bd.state]; rfl
  have N0 := Fr.nil n0
  show OGo p e below (fun s₂ o => ∃ v L, o = .returned v ∧ Qcp1 Z a1 a2 kc x0 kb h0 n0 v s₂.heap L ∧ FrameEnd s o s₂ L ({ frames := 0, cells := 0, slots := 0, locals := 0 } : Room).cells ({ frames := 0, cells := 0, slots := 0, locals := 0 } : Room).slots) _
  refine OGo.to (fun _ k => castTop (ef_cp1 m a1 (0 : Int32) a2 (0 : Int32) (1 : Int32)) k) ?_
  refine OGo.to (fun _ k => XS.iconst X0.here hx rfl (hb hby d5_0) k) ?_
  show OGo p e below _ (s₁.setTop (mkF m 1 #[.val (.ref a1), .val (.int (0 : Int32)), .val (.ref a2), .val (.int (0 : Int32)), .val (.int (1 : Int32)), .unset, .unset] [(.int (0 : Int32))]))
  refine OGo.to (fun _ k => XS.istore X0.here hx rfl (hb hby d5_1) rfl (l' := #[.val (.ref a1), .val (.int (0 : Int32)), .val (.ref a2), .val (.int (0 : Int32)), .val (.int (1 : Int32)), .val (.int (0 : Int32)), .unset]) rfl k) ?_
  show OGo p e below _ (s₁.setTop (mkF m 3 #[.val (.ref a1), .val (.int (0 : Int32)), .val (.ref a2), .val (.int (0 : Int32)), .val (.int (1 : Int32)), .val (.int (0 : Int32)), .unset] []))
  refine OGo.to (fun _ k => XS.iload X0.here hx rfl (hb hby d5_3) rfl k) ?_
  show OGo p e below _ (s₁.setTop (mkF m 5 #[.val (.ref a1), .val (.int (0 : Int32)), .val (.ref a2), .val (.int (0 : Int32)), .val (.int (1 : Int32)), .val (.int (0 : Int32)), .unset] [(.int (0 : Int32))]))
  refine OGo.to (fun _ k => XS.iload X0.here hx rfl (hb hby d5_5) rfl k) ?_
  show OGo p e below _ (s₁.setTop (mkF m 7 #[.val (.ref a1), .val (.int (0 : Int32)), .val (.ref a2), .val (.int (0 : Int32)), .val (.int (1 : Int32)), .val (.int (0 : Int32)), .unset] [(.int (1 : Int32)), (.int (0 : Int32))]))
  have hc7__1 : (0 : Int32) < (1 : Int32) := by decide
  refine OGo.to (fun _ k => XS.icmpNo X0.here hx rfl (hb hby d5_7) rfl (tlt hc7__1).2.1 k) ?_
  show OGo p e below _ (s₁.setTop (mkF m 10 #[.val (.ref a1), .val (.int (0 : Int32)), .val (.ref a2), .val (.int (0 : Int32)), .val (.int (1 : Int32)), .val (.int (0 : Int32)), .unset] []))
  refine OGo.to (fun _ k => XS.aloadN X0.here hx rfl (hb hby d5_10) rfl rfl k) ?_
  show OGo p e below _ (s₁.setTop (mkF m 11 #[.val (.ref a1), .val (.int (0 : Int32)), .val (.ref a2), .val (.int (0 : Int32)), .val (.int (1 : Int32)), .val (.int (0 : Int32)), .unset] [(.ref a1)]))
  refine OGo.to (fun _ k => XS.iloadN X0.here hx rfl (hb hby d5_11) rfl k) ?_
  show OGo p e below _ (s₁.setTop (mkF m 12 #[.val (.ref a1), .val (.int (0 : Int32)), .val (.ref a2), .val (.int (0 : Int32)), .val (.int (1 : Int32)), .val (.int (0 : Int32)), .unset] [(.int (0 : Int32)), (.ref a1)]))
  have Vq_2 := VA
  obtain ⟨cl_2, Ar_2, q_2, S_2, M_2, Hs_2, G_2⟩ := Vq_2
  have hin_3 : ¬ ((0 : Int32) < 0 ∨ cl_2.slots.size ≤ ((0 : Int32)).toNatClampNeg) := inb_of S_2 ⟨by decide, by decide⟩
  have hat_3 : cl_2.slots[((0 : Int32)).toNatClampNeg]? = some (.int x0) := Hs_2.at hin_3 (rfl)
  refine OGo.to (fun _ k => X0.caload hx (j := (0 : Int32)) (v := (.int x0)) (by rw [e0]; exact Ar_2.1) (State.isArrayOf_alike hZ.alike Ar_2.2.1) Ar_2.2.2 hin_3 hat_3 (g := (mkF m 12 #[.val (.ref a1), .val (.int (0 : Int32)), .val (.ref a2), .val (.int (0 : Int32)), .val (.int (1 : Int32)), .val (.int (0 : Int32)), .unset] [(.int (0 : Int32)), (.ref a1)])) rfl rfl (hb hby d5_12) _ k) ?_
  show OGo p e below _ (s₁.setTop (mkF m 13 #[.val (.ref a1), .val (.int (0 : Int32)), .val (.ref a2), .val (.int (0 : Int32)), .val (.int (1 : Int32)), .val (.int (0 : Int32)), .unset] [(.int x0)]))
  refine OGo.to (fun _ k => XS.istore X0.here hx rfl (hb hby d5_13) rfl (l' := #[.val (.ref a1), .val (.int (0 : Int32)), .val (.ref a2), .val (.int (0 : Int32)), .val (.int (1 : Int32)), .val (.int (0 : Int32)), .val (.int x0)]) rfl k) ?_
  show OGo p e below _ (s₁.setTop (mkF m 15 #[.val (.ref a1), .val (.int (0 : Int32)), .val (.ref a2), .val (.int (0 : Int32)), .val (.int (1 : Int32)), .val (.int (0 : Int32)), .val (.int x0)] []))
  refine OGo.to (fun _ k => XS.iload X0.here hx rfl (hb hby d5_15) rfl k) ?_
  show OGo p e below _ (s₁.setTop (mkF m 17 #[.val (.ref a1), .val (.int (0 : Int32)), .val (.ref a2), .val (.int (0 : Int32)), .val (.int (1 : Int32)), .val (.int (0 : Int32)), .val (.int x0)] [(.int x0)]))
  refine OGo.to (fun _ k => XS.sipush X0.here hx rfl (hb hby d5_17) k) ?_
  show OGo p e below _ (s₁.setTop (mkF m 20 #[.val (.ref a1), .val (.int (0 : Int32)), .val (.ref a2), .val (.int (0 : Int32)), .val (.int (1 : Int32)), .val (.int (0 : Int32)), .val (.int x0)] [(.int (255 : Int32)), (.int x0)]))
  have hc20__4 : ¬ ((255 : Int32) < x0) := hx0
  refine OGo.to (fun _ k => XS.icmpYes X0.here hx rfl (pc0 := 20) (pc' := 26) rfl (hb hby d5_20) rfl (flt hc20__4).2.2.2 (by decide) (by decide) k) ?_
  show OGo p e below _ (s₁.setTop (mkF m 26 #[.val (.ref a1), .val (.int (0 : Int32)), .val (.ref a2), .val (.int (0 : Int32)), .val (.int (1 : Int32)), .val (.int (0 : Int32)), .val (.int x0)] []))
  refine OGo.to (fun _ k => XS.aloadN X0.here hx rfl (hb hby d5_26) rfl rfl k) ?_
  show OGo p e below _ (s₁.setTop (mkF m 27 #[.val (.ref a1), .val (.int (0 : Int32)), .val (.ref a2), .val (.int (0 : Int32)), .val (.int (1 : Int32)), .val (.int (0 : Int32)), .val (.int x0)] [(.ref a2)]))
  refine OGo.to (fun _ k => XS.iloadN X0.here hx rfl (hb hby d5_27) rfl k) ?_
  show OGo p e below _ (s₁.setTop (mkF m 28 #[.val (.ref a1), .val (.int (0 : Int32)), .val (.ref a2), .val (.int (0 : Int32)), .val (.int (1 : Int32)), .val (.int (0 : Int32)), .val (.int x0)] [(.int (0 : Int32)), (.ref a2)]))
  refine OGo.to (fun _ k => XS.iload X0.here hx rfl (hb hby d5_28) rfl k) ?_
  show OGo p e below _ (s₁.setTop (mkF m 30 #[.val (.ref a1), .val (.int (0 : Int32)), .val (.ref a2), .val (.int (0 : Int32)), .val (.int (1 : Int32)), .val (.int (0 : Int32)), .val (.int x0)] [(.int x0), (.int (0 : Int32)), (.ref a2)]))
  refine OGo.to (fun _ k => XS.i2b X0.here hx rfl (hb hby d5_30) rfl k) ?_
  show OGo p e below _ (s₁.setTop (mkF m 31 #[.val (.ref a1), .val (.int (0 : Int32)), .val (.ref a2), .val (.int (0 : Int32)), .val (.int (1 : Int32)), .val (.int (0 : Int32)), .val (.int x0)] [(.int (x0.toInt8.toInt32)), (.int (0 : Int32)), (.ref a2)]))
  have Vq_5 := VB
  obtain ⟨cl_5, Ar_5, q_5, S_5, M_5, Hs_5, G_5⟩ := Vq_5
  have hin_6 : ¬ ((0 : Int32) < 0 ∨ cl_5.slots.size ≤ ((0 : Int32)).toNatClampNeg) := inb_of S_5 ⟨by decide, by decide⟩
  obtain ⟨T_6, h_6, X_6, e_6, W_6, st_6⟩ := stB X0 hx hZ e0 Ar_5 (j := (0 : Int32)) hin_6 (g := (mkF m 31 #[.val (.ref a1), .val (.int (0 : Int32)), .val (.ref a2), .val (.int (0 : Int32)), .val (.int (1 : Int32)), .val (.int (0 : Int32)), .val (.int x0)] [(.int (x0.toInt8.toInt32)), (.int (0 : Int32)), (.ref a2)])) rfl rfl (hb hby d5_31)
  refine OGo.to st_6 ?_
  have V_6 : Arv Z h_6 a2 kb .byte (1 : Int32) [(.int ((x0.toInt8.toInt32)).toInt8.toInt32)] (.int (0 : Int32)) := Arv.set Ar_5 q_5 S_5 M_5 Hs_5 G_5 (fits_nar_byte _) W_6 0 rfl (Nat.le_of_ble_eq_true rfl)
  have N_6 := Fr.snoc X_6 N0 g2
  have z_7 : n0 ≤ h_6.size := Nat.le_trans Z0 (Keep.of_wr W_6).1
  have K_8 : Keep h0 h_6 [a2] := (Keep.refl h0 [a2]).wr W_6 (Or.inl (List.mem_of_getElem? (i := 0) rfl))
  show OGo p e below _ (T_6.setTop (mkF m 32 #[.val (.ref a1), .val (.int (0 : Int32)), .val (.ref a2), .val (.int (0 : Int32)), .val (.int (1 : Int32)), .val (.int (0 : Int32)), .val (.int x0)] []))
  refine OGo.to (fun _ k => XS.iinc X_6.here hx rfl (hb hby d5_32) rfl (l' := #[.val (.ref a1), .val (.int (1 : Int32)), .val (.ref a2), .val (.int (0 : Int32)), .val (.int (1 : Int32)), .val (.int (0 : Int32)), .val (.int x0)]) rfl k) ?_
  show OGo p e below _ (T_6.setTop (mkF m 35 #[.val (.ref a1), .val (.int (1 : Int32)), .val (.ref a2), .val (.int (0 : Int32)), .val (.int (1 : Int32)), .val (.int (0 : Int32)), .val (.int x0)] []))
  refine OGo.to (fun _ k => XS.iinc X_6.here hx rfl (hb hby d5_35) rfl (l' := #[.val (.ref a1), .val (.int (1 : Int32)), .val (.ref a2), .val (.int (1 : Int32)), .val (.int (1 : Int32)), .val (.int (0 : Int32)), .val (.int x0)]) rfl k) ?_
  show OGo p e below _ (T_6.setTop (mkF m 38 #[.val (.ref a1), .val (.int (1 : Int32)), .val (.ref a2), .val (.int (1 : Int32)), .val (.int (1 : Int32)), .val (.int (0 : Int32)), .val (.int x0)] []))
  refine OGo.to (fun _ k => XS.iinc X_6.here hx rfl (hb hby d5_38) rfl (l' := #[.val (.ref a1), .val (.int (1 : Int32)), .val (.ref a2), .val (.int (1 : Int32)), .val (.int (1 : Int32)), .val (.int (1 : Int32)), .val (.int x0)]) rfl k) ?_
  show OGo p e below _ (T_6.setTop (mkF m 41 #[.val (.ref a1), .val (.int (1 : Int32)), .val (.ref a2), .val (.int (1 : Int32)), .val (.int (1 : Int32)), .val (.int (1 : Int32)), .val (.int x0)] []))
  refine OGo.to (fun _ k => XS.goto X_6.here hx rfl (pc0 := 41) (pc' := 3) rfl (hb hby d5_41) (by decide) (by decide) k) ?_
  show OGo p e below _ (T_6.setTop (mkF m 3 #[.val (.ref a1), .val (.int (1 : Int32)), .val (.ref a2), .val (.int (1 : Int32)), .val (.int (1 : Int32)), .val (.int (1 : Int32)), .val (.int x0)] []))
  refine OGo.to (fun _ k => XS.iload X_6.here hx rfl (hb hby d5_3) rfl k) ?_
  show OGo p e below _ (T_6.setTop (mkF m 5 #[.val (.ref a1), .val (.int (1 : Int32)), .val (.ref a2), .val (.int (1 : Int32)), .val (.int (1 : Int32)), .val (.int (1 : Int32)), .val (.int x0)] [(.int (1 : Int32))]))
  refine OGo.to (fun _ k => XS.iload X_6.here hx rfl (hb hby d5_5) rfl k) ?_
  show OGo p e below _ (T_6.setTop (mkF m 7 #[.val (.ref a1), .val (.int (1 : Int32)), .val (.ref a2), .val (.int (1 : Int32)), .val (.int (1 : Int32)), .val (.int (1 : Int32)), .val (.int x0)] [(.int (1 : Int32)), (.int (1 : Int32))]))
  have hc7__9 : ¬ ((1 : Int32) < (1 : Int32)) := by decide
  refine OGo.to (fun _ k => XS.icmpYes X_6.here hx rfl (pc0 := 7) (pc' := 44) rfl (hb hby d5_7) rfl (flt hc7__9).2.1 (by decide) (by decide) k) ?_
  show OGo p e below _ (T_6.setTop (mkF m 44 #[.val (.ref a1), .val (.int (1 : Int32)), .val (.ref a2), .val (.int (1 : Int32)), .val (.int (1 : Int32)), .val (.int (1 : Int32)), .val (.int x0)] []))
  refine OGo.to (fun _ k => XS.iload X_6.here hx rfl (hb hby d5_44) rfl k) ?_
  show OGo p e below _ (T_6.setTop (mkF m 46 #[.val (.ref a1), .val (.int (1 : Int32)), .val (.ref a2), .val (.int (1 : Int32)), .val (.int (1 : Int32)), .val (.int (1 : Int32)), .val (.int x0)] [(.int (1 : Int32))]))
  refine OGo.ret (Q := Qcp1 Z a1 a2 kc x0 kb h0 n0) X_6 (some (.int (1 : Int32))) (fun h => by rw [Bd.returns] at h; cases h) Bd.notSynchronized (fun fs hr => retI X_6 hx Bd.returns (hb hby d5_46) hr) ?_ (by decide) (by decide)
  show Qcp1 Z a1 a2 kc x0 kb h0 n0 _ T_6.heap _
  rw [e_6]
  exact ⟨rfl, N_6, K_8, V_6⟩
theorem d4_0 : decode jdk_52_method_16_code 0 = .ok (.iload_n 2, 1) := by decide +kernel
theorem d4_1 : decode jdk_52_method_16_code 1 = .ok (.newarray .byte, 2) := by decide +kernel
theorem d4_3 : decode jdk_52_method_16_code 3 = .ok (.astore_n 3, 1) := by decide +kernel
theorem d4_4 : decode jdk_52_method_16_code 4 = .ok (.aload_n 0, 1) := by decide +kernel
theorem d4_5 : decode jdk_52_method_16_code 5 = .ok (.iload_n 1, 1) := by decide +kernel
theorem d4_6 : decode jdk_52_method_16_code 6 = .ok (.aload_n 3, 1) := by decide +kernel
theorem d4_7 : decode jdk_52_method_16_code 7 = .ok (.iconst 0, 1) := by decide +kernel
theorem d4_8 : decode jdk_52_method_16_code 8 = .ok (.iload_n 2, 1) := by decide +kernel
theorem d4_9 : decode jdk_52_method_16_code 9 = .ok (.invokestatic 115, 3) := by decide +kernel
theorem d4_12 : decode jdk_52_method_16_code 12 = .ok (.istore 4, 2) := by decide +kernel
theorem d4_14 : decode jdk_52_method_16_code 14 = .ok (.iload 4, 2) := by decide +kernel
theorem d4_16 : decode jdk_52_method_16_code 16 = .ok (.iload_n 2, 1) := by decide +kernel
theorem d4_17 : decode jdk_52_method_16_code 17 = .ok (.if_icmp .eq 40, 3) := by decide +kernel
theorem d4_57 : decode jdk_52_method_16_code 57 = .ok (.aload_n 3, 1) := by decide +kernel
theorem d4_58 : decode jdk_52_method_16_code 58 = .ok (.areturn, 1) := by decide +kernel
theorem ef_cq1 (m : MethodId) (x0 : Addr) (x1 : Int32) (x2 : Int32) : entryFrame m #[(.ref x0), (.int x1), (.int x2)] 6 = mkF m 0 #[.val (.ref x0), .val (.int x1), .val (.int x2), .unset, .unset, .unset] [] := by first | (simp [entryFrame, mkF, argsToLocals, Value.category]; done) | rfl
def Qcq1 (Z : State) (a1 : Addr) (kc : ClassId) (x0 : Int32) (h0 : Heap) (n0 : Nat) (v : Option Value) (h : Heap) (L : List Loc) : Prop := ∃ (b : Addr), ∃ (kb : ClassId), v = some (.ref b) ∧ Fr n0 L ∧ Keep h0 h [] ∧ n0 ≤ b ∧ h0.size ≤ b ∧ Arv Z h b kb .byte (1 : Int32) [(.int ((x0.toInt8.toInt32)).toInt8.toInt32)] (.int (0 : Int32))
set_option maxRecDepth 65536 in
set_option maxHeartbeats 40000000 in
theorem rmcq1 (l : Launch) (Z : State) (a0 : Array Value) (hw : ∀ d ∈ tables_1, d.before a0 Z = true) (ws : List Jvm.Cond) (a1 : Addr) (kc : ClassId) (x0 : Int32) (h0 : Heap) (n0 : Nat) (Z0 : n0 ≤ h0.size) (VA : Arv Z h0 a1 kc .char (1 : Int32) [(.int x0)] (.int (0 : Int32))) (hx0 : ¬ ((255 : Int32) < x0)) :
    MetFree l (⟨"java/lang/StringUTF16", "compress", "([CII)[B"⟩ : MethodName) (head1 (Jvm.Cond.code (⟨"java/lang/StringUTF16", "compress", "([CII)[B"⟩ : MethodName) jdk_52_method_16_code 6 (some (.array .byte)) :: ws) ({ frames := 1, cells := 1, slots := 1, locals := 18 } : Room)) (fun a U => a = #[(.ref a1), (.int (0 : Int32)), (.int (1 : Int32))] ∧ Z.Warmed39 U.vm ∧ U.heap = h0) (fun _ _ _ _ _ => True) (fun _ U o U' => ∃ v L, o = .returned v ∧ Qcq1 Z a1 kc x0 h0 n0 v U'.heap L ∧ FrameEnd U o U' L ({ frames := 1, cells := 1, slots := 1, locals := 18 } : Room).cells ({ frames := 1, cells := 1, slots := 1, locals := 18 } : Room).slots) := by
  refine MetFree.of_bodySF (plainFor_of_name pn_0) hisR ?_
  intro p e s m args below meth c s₁ Bd hml0 hP hK
  obtain ⟨rfl, hZ, hh⟩ := hP
  have hx := Bd.exec
  have hby := Bd.bytes
  have hml : c.maxLocals = 6 := hml0
  have hown : s.vm.findClass "java/lang/StringUTF16" = some m.cls := findClass_of_methodNamed Bd.named
  have hnm := (name_of_methodNamed Bd.named Bd.method).1
  have X0 : Stand p l e ({ frames := 1, cells := 1, slots := 1, locals := 18 } : Room) s m #[(.ref a1), (.int (0 : Int32)), (.int (1 : Int32))] below meth c s₁ [] 0 0 := Stand.of_body Bd
  have e0 : s₁.heap = h0 := by rw [← hh, Bd.state]; rfl
  have N0 := Fr.nil n0
  show OGo p e below (fun s₂ o => ∃ v L, o = .returned v ∧ Qcq1 Z a1 kc x0 h0 n0 v s₂.heap L ∧ FrameEnd s o s₂ L ({ frames := 1, cells := 1, slots := 1, locals := 18 } : Room).cells ({ frames := 1, cells := 1, slots := 1, locals := 18 } : Room).slots) _
  refine OGo.to (fun _ k => castTop (ef_cq1 m a1 (0 : Int32) (1 : Int32)) k) ?_
  refine OGo.to (fun _ k => XS.iloadN X0.here hx rfl (hb hby d4_0) rfl k) ?_
  show OGo p e below _ (s₁.setTop (mkF m 1 #[.val (.ref a1), .val (.int (0 : Int32)), .val (.int (1 : Int32)), .unset, .unset, .unset] [(.int (1 : Int32))]))
  obtain ⟨T_1, h_1, k_1, X_1, e_1, E_1, A_1, st_1⟩ := newP X0 hx hZ (hw _ (List.mem_of_getElem? (i := 22) rfl)) e0 (g := (mkF m 1 #[.val (.ref a1), .val (.int (0 : Int32)), .val (.int (1 : Int32)), .unset, .unset, .unset] [(.int (1 : Int32))])) rfl (hb hby d4_1) rfl (by decide) (cap := 1) (by decide) (by decide) (by decide) (by decide)
  obtain ⟨b_1, g_1⟩ : ∃ z, z = h0.size := ⟨_, rfl⟩
  rw [← g_1] at A_1 st_1
  have g_b_1 : n0 ≤ b_1 := Nat.le_trans Z0 (Nat.le_of_eq g_1.symm)
  have sz_b_1 : h0.size ≤ b_1 := Nat.le_trans (Keep.refl h0 []).1 (Nat.le_of_eq g_1.symm)
  refine OGo.to st_1 ?_
  have ne_a1_b_1 : a1 ≠ b_1 := Nat.ne_of_lt (Nat.lt_of_lt_of_le VA.lt (Nat.le_of_eq g_1.symm))
  have z_2 : n0 ≤ h_1.size := Nat.le_trans Z0 E_1.1
  have K_3 : Keep h0 h_1 [] := (Keep.refl h0 []).ext E_1
  have V_1 : Arv Z h_1 b_1 k_1 .byte (1 : Int32) [(.int (0 : Int32))] (.int (0 : Int32)) := (Arv.new A_1 (by decide)).pad (pad_rep [] (.int (0 : Int32)) 1)
  show OGo p e below _ (T_1.setTop (mkF m 3 #[.val (.ref a1), .val (.int (0 : Int32)), .val (.int (1 : Int32)), .unset, .unset, .unset] [(.ref b_1)]))
  refine OGo.to (fun _ k => XS.astoreN X_1.here hx rfl (hb hby d4_3) rfl rfl (l' := #[.val (.ref a1), .val (.int (0 : Int32)), .val (.int (1 : Int32)), .val (.ref b_1), .unset, .unset]) rfl k) ?_
  show OGo p e below _ (T_1.setTop (mkF m 4 #[.val (.ref a1), .val (.int (0 : Int32)), .val (.int (1 : Int32)), .val (.ref b_1), .unset, .unset] []))
  refine OGo.to (fun _ k => XS.aloadN X_1.here hx rfl (hb hby d4_4) rfl rfl k) ?_
  show OGo p e below _ (T_1.setTop (mkF m 5 #[.val (.ref a1), .val (.int (0 : Int32)), .val (.int (1 : Int32)), .val (.ref b_1), .unset, .unset] [(.ref a1)]))
  refine OGo.to (fun _ k => XS.iloadN X_1.here hx rfl (hb hby d4_5) rfl k) ?_
  show OGo p e below _ (T_1.setTop (mkF m 6 #[.val (.ref a1), .val (.int (0 : Int32)), .val (.int (1 : Int32)), .val (.ref b_1), .unset, .unset] [(.int (0 : Int32)), (.ref a1)]))
  refine OGo.to (fun _ k => XS.aloadN X_1.here hx rfl (hb hby d4_6) rfl rfl k) ?_
  show OGo p e below _ (T_1.setTop (mkF m 7 #[.val (.ref a1), .val (.int (0 : Int32)), .val (.int (1 : Int32)), .val (.ref b_1), .unset, .unset] [(.ref b_1), (.int (0 : Int32)), (.ref a1)]))
  refine OGo.to (fun _ k => XS.iconst X_1.here hx rfl (hb hby d4_7) k) ?_
  show OGo p e below _ (T_1.setTop (mkF m 8 #[.val (.ref a1), .val (.int (0 : Int32)), .val (.int (1 : Int32)), .val (.ref b_1), .unset, .unset] [(.int (0 : Int32)), (.ref b_1), (.int (0 : Int32)), (.ref a1)]))
  refine OGo.to (fun _ k => XS.iloadN X_1.here hx rfl (hb hby d4_8) rfl k) ?_
  show OGo p e below _ (T_1.setTop (mkF m 9 #[.val (.ref a1), .val (.int (0 : Int32)), .val (.int (1 : Int32)), .val (.ref b_1), .unset, .unset] [(.int (1 : Int32)), (.int (0 : Int32)), (.ref b_1), (.int (0 : Int32)), (.ref a1)]))
  have f_5 : Arv Z h_1 a1 kc .char (1 : Int32) [(.int x0)] (.int (0 : Int32)) := (VA.ext E_1)
  obtain ⟨_, T_4, Lc_4, X_4, hQ_4, st_4⟩ := own_un X_1 (Q := Qcp1 Z a1 b_1 kc x0 k_1 h_1 n0) (rc := 0) (rs := 0) (W := fun v B => ∀ target, Steps p.tables e below (B.setTop { (mkF m 9 #[.val (.ref a1), .val (.int (0 : Int32)), .val (.int (1 : Int32)), .val (.ref b_1), .unset, .unset] [(.int (1 : Int32)), (.int (0 : Int32)), (.ref b_1), (.int (0 : Int32)), (.ref a1)]) with pc := 12, stack := v.toList ++ [] }) target → Steps p.tables e below (T_1.setTop (mkF m 9 #[.val (.ref a1), .val (.int (0 : Int32)), .val (.int (1 : Int32)), .val (.ref b_1), .unset, .unset] [(.int (1 : Int32)), (.int (0 : Int32)), (.ref b_1), (.int (0 : Int32)), (.ref a1)])) target) <| Jvm.LawKit.callS X_1 hx (y := (⟨"java/lang/StringUTF16", "compress", "([CI[BII)I"⟩ : MethodName)) hown (mvT hZ (hw _ (List.mem_of_getElem? (i := 23) rfl))) (mvT hZ (hw _ (List.mem_of_getElem? (i := 24) rfl))) (mvT hZ (hw _ (List.mem_of_getElem? (i := 20) rfl))) (mvT hZ (hw _ (List.mem_of_getElem? (i := 25) rfl))) (by decide) (backOf (W := 0) (rmcp1 l Z a0 hw [] a1 b_1 kc x0 k_1 h_1 n0 z_2 f_5 V_1 ne_a1_b_1 g_b_1 (hx0)) hZ (hw _ (List.mem_of_getElem? (i := 25) rfl)) (hw _ (List.mem_of_getElem? (i := 20) rfl)) (by decide) (by decide)) (g := (mkF m 9 #[.val (.ref a1), .val (.int (0 : Int32)), .val (.int (1 : Int32)), .val (.ref b_1), .unset, .unset] [(.int (1 : Int32)), (.int (0 : Int32)), (.ref b_1), (.int (0 : Int32)), (.ref a1)])) rfl (by rw [hml]; rfl) (argsL := [(.ref a1), (.int (0 : Int32)), (.ref b_1), (.int (0 : Int32)), (.int (1 : Int32))]) (rest := []) (lenOf pd_0 rfl) rfl (by show 2 * 0 + _ ≤ _; exact Nat.le_of_eq rfl) (hb hby d4_9) (fun _ _ => ⟨rfl, e_1, (by decide : 1 + 0 ≤ _), (by decide : 1 + 0 ≤ _)⟩)
  obtain ⟨rfl, N_4q, K_4, p_4_0⟩ := hQ_4
  have N_4 := Fr.app N0 N_4q
  refine OGo.to st_4 ?_
  have z_6 : n0 ≤ T_4.heap.size := Nat.le_trans z_2 K_4.1
  have K_7 : Keep h0 T_4.heap [] := K_3.trans K_4 (by intro x hx'; cases List.mem_singleton.mp hx'; exact (Or.inr sz_b_1))
  show OGo p e below _ (T_4.setTop (mkF m 12 #[.val (.ref a1), .val (.int (0 : Int32)), .val (.int (1 : Int32)), .val (.ref b_1), .unset, .unset] [(.int (1 : Int32))]))
  refine OGo.to (fun _ k => XS.istore X_4.here hx rfl (hb hby d4_12) rfl (l' := #[.val (.ref a1), .val (.int (0 : Int32)), .val (.int (1 : Int32)), .val (.ref b_1), .val (.int (1 : Int32)), .unset]) rfl k) ?_
  show OGo p e below _ (T_4.setTop (mkF m 14 #[.val (.ref a1), .val (.int (0 : Int32)), .val (.int (1 : Int32)), .val (.ref b_1), .val (.int (1 : Int32)), .unset] []))
  refine OGo.to (fun _ k => XS.iload X_4.here hx rfl (hb hby d4_14) rfl k) ?_
  show OGo p e below _ (T_4.setTop (mkF m 16 #[.val (.ref a1), .val (.int (0 : Int32)), .val (.int (1 : Int32)), .val (.ref b_1), .val (.int (1 : Int32)), .unset] [(.int (1 : Int32))]))
  refine OGo.to (fun _ k => XS.iloadN X_4.here hx rfl (hb hby d4_16) rfl k) ?_
  show OGo p e below _ (T_4.setTop (mkF m 17 #[.val (.ref a1), .val (.int (0 : Int32)), .val (.int (1 : Int32)), .val (.ref b_1), .val (.int (1 : Int32)), .unset] [(.int (1 : Int32)), (.int (1 : Int32))]))
  have hc17__8 : (1 : Int32) = (1 : Int32) := by decide
  refine OGo.to (fun _ k => XS.icmpYes X_4.here hx rfl (pc0 := 17) (pc' := 57) rfl (hb hby d4_17) rfl (teq hc17__8).1 (by decide) (by decide) k) ?_
  show OGo p e below _ (T_4.setTop (mkF m 57 #[.val (.ref a1), .val (.int (0 : Int32)), .val (.int (1 : Int32)), .val (.ref b_1), .val (.int (1 : Int32)), .unset] []))
  refine OGo.to (fun _ k => XS.aloadN X_4.here hx rfl (hb hby d4_57) rfl rfl k) ?_
  show OGo p e below _ (T_4.setTop (mkF m 58 #[.val (.ref a1), .val (.int (0 : Int32)), .val (.int (1 : Int32)), .val (.ref b_1), .val (.int (1 : Int32)), .unset] [(.ref b_1)]))
  refine OGo.ret (Q := Qcq1 Z a1 kc x0 h0 n0) X_4 (some (.ref b_1)) (fun h => by rw [Bd.returns] at h; cases h) Bd.notSynchronized (fun fs hr => own_retA X_4 hx Bd.returns rfl rfl (hb hby d4_58) hr) ?_ (by decide) (by decide)
  show Qcq1 Z a1 kc x0 h0 n0 _ T_4.heap _
  exact ⟨b_1, k_1, rfl, N_4, K_7, g_b_1, sz_b_1, p_4_0⟩
theorem d6_0 : decode jdk_52_method_15_code 0 = .ok (.iload_n 1, 1) := by decide +kernel
theorem d6_1 : decode jdk_52_method_15_code 1 = .ok (.aload_n 0, 1) := by decide +kernel
theorem d6_2 : decode jdk_52_method_15_code 2 = .ok (.arraylength, 1) := by decide +kernel
theorem d6_3 : decode jdk_52_method_15_code 3 = .ok (.isub, 1) := by decide +kernel
theorem d6_4 : decode jdk_52_method_15_code 4 = .ok (.bipush 31, 2) := by decide +kernel
theorem d6_6 : decode jdk_52_method_15_code 6 = .ok (.iushr, 1) := by decide +kernel
theorem d6_7 : decode jdk_52_method_15_code 7 = .ok (.i2b, 1) := by decide +kernel
theorem d6_8 : decode jdk_52_method_15_code 8 = .ok (.ireturn, 1) := by decide +kernel
theorem ef_cl1 (m : MethodId) (x0 : Addr) (x1 : Int32) : entryFrame m #[(.ref x0), (.int x1)] 2 = mkF m 0 #[.val (.ref x0), .val (.int x1)] [] := by first | (simp [entryFrame, mkF, argsToLocals, Value.category]; done) | rfl
def Qcl1 (Z : State) (a1 : Addr) (kb : ClassId) (y0 : Int32) (h0 : Heap) (n0 : Nat) (v : Option Value) (h : Heap) (L : List Loc) : Prop := v = some (.int (0 : Int32)) ∧ Fr n0 L ∧ h = h0
set_option maxRecDepth 65536 in
set_option maxHeartbeats 40000000 in
theorem rmcl1 (l : Launch) (Z : State) (a0 : Array Value) (hw : ∀ d ∈ tables_1, d.before a0 Z = true) (ws : List Jvm.Cond) (a1 : Addr) (kb : ClassId) (y0 : Int32) (h0 : Heap) (n0 : Nat) (Z0 : n0 ≤ h0.size) (VB : Arv Z h0 a1 kb .byte (1 : Int32) [(.int y0)] (.int (0 : Int32))) :
    MetFree l (⟨"java/lang/StringUTF16", "coderFromArrayLen", "([BI)B"⟩ : MethodName) (head1 (Jvm.Cond.code (⟨"java/lang/StringUTF16", "coderFromArrayLen", "([BI)B"⟩ : MethodName) jdk_52_method_15_code 2 (some .byte) :: ws) ({ frames := 0, cells := 0, slots := 0, locals := 0 } : Room)) (fun a U => a = #[(.ref a1), (.int (1 : Int32))] ∧ Z.Warmed39 U.vm ∧ U.heap = h0) (fun _ _ _ _ _ => True) (fun _ U o U' => ∃ v L, o = .returned v ∧ Qcl1 Z a1 kb y0 h0 n0 v U'.heap L ∧ FrameEnd U o U' L ({ frames := 0, cells := 0, slots := 0, locals := 0 } : Room).cells ({ frames := 0, cells := 0, slots := 0, locals := 0 } : Room).slots) := by
  refine MetFree.of_bodySF (plainFor_of_name pn_0) hisR ?_
  intro p e s m args below meth c s₁ Bd hml0 hP hK
  obtain ⟨rfl, hZ, hh⟩ := hP
  have hx := Bd.exec
  have hby := Bd.bytes
  have hml : c.maxLocals = 2 := hml0
  have hown : s.vm.findClass "java/lang/StringUTF16" = some m.cls := findClass_of_methodNamed Bd.named
  have hnm := (name_of_methodNamed Bd.named Bd.method).1
  have X0 : Stand p l e ({ frames := 0, cells := 0, slots := 0, locals := 0 } : Room) s m #[(.ref a1), (.int (1 : Int32))] below meth c s₁ [] 0 0 := Stand.of_body Bd
  have e0 : s₁.heap = h0 := by rw [← hh, Bd.state]; rfl
  have N0 := Fr.nil n0
  show OGo p e below (fun s₂ o => ∃ v L, o = .returned v ∧ Qcl1 Z a1 kb y0 h0 n0 v s₂.heap L ∧ FrameEnd s o s₂ L ({ frames := 0, cells := 0, slots := 0, locals := 0 } : Room).cells ({ frames := 0, cells := 0, slots := 0, locals := 0 } : Room).slots) _
  refine OGo.to (fun _ k => castTop (ef_cl1 m a1 (1 : Int32)) k) ?_
  refine OGo.to (fun _ k => XS.iloadN X0.here hx rfl (hb hby d6_0) rfl k) ?_
  show OGo p e below _ (s₁.setTop (mkF m 1 #[.val (.ref a1), .val (.int (1 : Int32))] [(.int (1 : Int32))]))
  refine OGo.to (fun _ k => XS.aloadN X0.here hx rfl (hb hby d6_1) rfl rfl k) ?_
  show OGo p e below _ (s₁.setTop (mkF m 2 #[.val (.ref a1), .val (.int (1 : Int32))] [(.ref a1), (.int (1 : Int32))]))
  have Vq_1 := VB
  obtain ⟨cl_1, Ar_1, q_1, S_1, M_1, Hs_1, G_1⟩ := Vq_1
  refine OGo.to (fun _ k => X0.arraylength hx (by rw [e0]; exact Ar_1.1) (State.isArrayOf_alike hZ.alike Ar_1.2.1) (g := (mkF m 2 #[.val (.ref a1), .val (.int (1 : Int32))] [(.ref a1), (.int (1 : Int32))])) rfl rfl (hb hby d6_2) _ k) ?_
  rw [len_of S_1 M_1]
  show OGo p e below _ (s₁.setTop (mkF m 3 #[.val (.ref a1), .val (.int (1 : Int32))] [(.int (1 : Int32)), (.int (1 : Int32))]))
  refine OGo.to (fun _ k => XS.isub X0.here hx rfl (hb hby d6_3) rfl k) ?_
  show OGo p e below _ (s₁.setTop (mkF m 4 #[.val (.ref a1), .val (.int (1 : Int32))] [(.int (0 : Int32))]))
  refine OGo.to (fun _ k => XS.bipush X0.here hx rfl (hb hby d6_4) k) ?_
  show OGo p e below _ (s₁.setTop (mkF m 6 #[.val (.ref a1), .val (.int (1 : Int32))] [(.int (31 : Int32)), (.int (0 : Int32))]))
  refine OGo.to (fun _ k => XS.iushr X0.here hx rfl (hb hby d6_6) rfl k) ?_
  show OGo p e below _ (s₁.setTop (mkF m 7 #[.val (.ref a1), .val (.int (1 : Int32))] [(.int (0 : Int32))]))
  refine OGo.to (fun _ k => XS.i2b X0.here hx rfl (hb hby d6_7) rfl k) ?_
  show OGo p e below _ (s₁.setTop (mkF m 8 #[.val (.ref a1), .val (.int (1 : Int32))] [(.int (0 : Int32))]))
  refine OGo.ret (Q := Qcl1 Z a1 kb y0 h0 n0) X0 (some (.int (0 : Int32))) (fun h => by rw [Bd.returns] at h; cases h) Bd.notSynchronized (fun fs hr => retN X0 hx (t := .byte) (z := (0 : Int32)) Bd.returns (by simp) (hb hby d6_8) hr) ?_ (by decide) (by decide)
  show Qcl1 Z a1 kb y0 h0 n0 _ s₁.heap _
  rw [e0]
  exact ⟨rfl, N0, rfl⟩
theorem d2_0 : decode jdk_42_method_149_code 0 = .ok (.aload_n 0, 1) := by decide +kernel
theorem d2_1 : decode jdk_42_method_149_code 1 = .ok (.invokespecial 1, 3) := by decide +kernel
theorem d2_4 : decode jdk_42_method_149_code 4 = .ok (.iload_n 3, 1) := by decide +kernel
theorem d2_5 : decode jdk_42_method_149_code 5 = .ok (.ifCond .ne 22, 3) := by decide +kernel
theorem d2_27 : decode jdk_42_method_149_code 27 = .ok (.getstatic 38, 3) := by decide +kernel
theorem d2_30 : decode jdk_42_method_149_code 30 = .ok (.ifCond .eq 28, 3) := by decide +kernel
theorem d2_33 : decode jdk_42_method_149_code 33 = .ok (.aload_n 1, 1) := by decide +kernel
theorem d2_34 : decode jdk_42_method_149_code 34 = .ok (.iload_n 2, 1) := by decide +kernel
theorem d2_35 : decode jdk_42_method_149_code 35 = .ok (.iload_n 3, 1) := by decide +kernel
theorem d2_36 : decode jdk_42_method_149_code 36 = .ok (.invokestatic 177, 3) := by decide +kernel
theorem d2_39 : decode jdk_42_method_149_code 39 = .ok (.astore 5, 2) := by decide +kernel
theorem d2_41 : decode jdk_42_method_149_code 41 = .ok (.aload_n 0, 1) := by decide +kernel
theorem d2_42 : decode jdk_42_method_149_code 42 = .ok (.aload 5, 2) := by decide +kernel
theorem d2_44 : decode jdk_42_method_149_code 44 = .ok (.iload_n 3, 1) := by decide +kernel
theorem d2_45 : decode jdk_42_method_149_code 45 = .ok (.invokestatic 47, 3) := by decide +kernel
theorem d2_48 : decode jdk_42_method_149_code 48 = .ok (.putfield 15, 3) := by decide +kernel
theorem d2_51 : decode jdk_42_method_149_code 51 = .ok (.aload_n 0, 1) := by decide +kernel
theorem d2_52 : decode jdk_42_method_149_code 52 = .ok (.aload 5, 2) := by decide +kernel
theorem d2_54 : decode jdk_42_method_149_code 54 = .ok (.putfield 9, 3) := by decide +kernel
theorem d2_57 : decode jdk_42_method_149_code 57 = .ok (.return_, 1) := by decide +kernel
theorem ef_si1 (m : MethodId) (x0 : Addr) (x1 : Addr) (x2 : Int32) (x3 : Int32) : entryFrame m #[(.ref x0), (.ref x1), (.int x2), (.int x3), .null] 6 = mkF m 0 #[.val (.ref x0), .val (.ref x1), .val (.int x2), .val (.int x3), .val .null, .unset] [] := by first | (simp [entryFrame, mkF, argsToLocals, Value.category]; done) | rfl
def Qsi1 (Z : State) (a1 : Addr) (a2 : Addr) (kc : ClassId) (x0 : Int32) (cs : Int32) (h0 : Heap) (n0 : Nat) (v : Option Value) (h : Heap) (L : List Loc) : Prop := ∃ (b : Addr), ∃ (kb : ClassId), v = none ∧ Fr n0 L ∧ Keep h0 h [a1] ∧ n0 ≤ b ∧ h0.size ≤ b ∧ Fld Z h a1 "java/lang/String" "value" "[B" (.ref b) ∧ Fld Z h a1 "java/lang/String" "coder" "B" (.int (0 : Int32)) ∧ Arv Z h b kb .byte (1 : Int32) [(.int ((x0.toInt8.toInt32)).toInt8.toInt32)] (.int (0 : Int32))
set_option maxRecDepth 65536 in
set_option maxHeartbeats 40000000 in
theorem rmsi1 (l : Launch) (Z : State) (a0 : Array Value) (hw : ∀ d ∈ tables_1, d.before a0 Z = true) (ws : List Jvm.Cond) (a1 : Addr) (a2 : Addr) (kc : ClassId) (x0 : Int32) (cs : Int32) (h0 : Heap) (n0 : Nat) (Z0 : n0 ≤ h0.size) (E1 : Exa Z h0 a1 "java/lang/String") (F1 : Fld Z h0 a1 "java/lang/String" "value" "[B" .null) (F2 : Fld Z h0 a1 "java/lang/String" "coder" "B" (.int (0 : Int32))) (g1 : n0 ≤ a1) (VA : Arv Z h0 a2 kc .char (1 : Int32) [(.int x0)] (.int (0 : Int32))) (n12 : a1 ≠ a2) (SC : Sta Z Z.heap "java/lang/String" "COMPACT_STRINGS" "Z" (.int cs)) (O0 : Old Z n0 h0) (hcs : ¬ (cs = (0 : Int32))) (hx0 : ¬ ((255 : Int32) < x0)) :
    MetFree l (⟨"java/lang/String", "<init>", "([CIILjava/lang/Void;)V"⟩ : MethodName) (head1 (Jvm.Cond.code (⟨"java/lang/String", "<init>", "([CIILjava/lang/Void;)V"⟩ : MethodName) jdk_42_method_149_code 6 none :: ws) ({ frames := 2, cells := 1, slots := 1, locals := 35 } : Room)) (fun a U => a = #[(.ref a1), (.ref a2), (.int (0 : Int32)), (.int (1 : Int32)), .null] ∧ Z.Warmed39 U.vm ∧ U.heap = h0) (fun _ _ _ _ _ => True) (fun _ U o U' => ∃ v L, o = .returned v ∧ Qsi1 Z a1 a2 kc x0 cs h0 n0 v U'.heap L ∧ FrameEnd U o U' L ({ frames := 2, cells := 1, slots := 1, locals := 35 } : Room).cells ({ frames := 2, cells := 1, slots := 1, locals := 35 } : Room).slots) := by
  refine MetFree.of_bodySF (plainFor_of_name pn_1) hisR ?_
  intro p e s m args below meth c s₁ Bd hml0 hP hK
  obtain ⟨rfl, hZ, hh⟩ := hP
  have hx := Bd.exec
  have hby := Bd.bytes
  have hml : c.maxLocals = 6 := hml0
  have hown : s.vm.findClass "java/lang/String" = some m.cls := findClass_of_methodNamed Bd.named
  have hnm := (name_of_methodNamed Bd.named Bd.method).1
  have X0 : Stand p l e ({ frames := 2, cells := 1, slots := 1, locals := 35 } : Room) s m #[(.ref a1), (.ref a2), (.int (0 : Int32)), (.int (1 : Int32)), .null] below meth c s₁ [] 0 0 := Stand.of_body Bd
  have e0 : s₁.heap = h0 := by rw [← hh, Bd.state]; rfl
  have N0 := Fr.nil n0
  show OGo p e below (fun s₂ o => ∃ v L, o = .returned v ∧ Qsi1 Z a1 a2 kc x0 cs h0 n0 v s₂.heap L ∧ FrameEnd s o s₂ L ({ frames := 2, cells := 1, slots := 1, locals := 35 } : Room).cells ({ frames := 2, cells := 1, slots := 1, locals := 35 } : Room).slots) _
  refine OGo.to (fun _ k => castTop (ef_si1 m a1 a2 (0 : Int32) (1 : Int32)) k) ?_
  refine OGo.to (fun _ k => XS.aloadN X0.here hx rfl (hb hby d2_0) rfl rfl k) ?_
  show OGo p e below _ (s₁.setTop (mkF m 1 #[.val (.ref a1), .val (.ref a2), .val (.int (0 : Int32)), .val (.int (1 : Int32)), .val .null, .unset] [(.ref a1)]))
  obtain ⟨T_1, X_1, e_1, st_1⟩ := initO X0 hx hZ hown (hw _ (List.mem_of_getElem? (i := 14) rfl)) (hw _ (List.mem_of_getElem? (i := 15) rfl)) (hw _ (List.mem_of_getElem? (i := 16) rfl)) e0 (g := (mkF m 1 #[.val (.ref a1), .val (.ref a2), .val (.int (0 : Int32)), .val (.int (1 : Int32)), .val .null, .unset] [(.ref a1)])) rfl (by rw [hml]; rfl) rfl (hb hby d2_1) (by decide) (W := 0) (by show 2 * 0 + _ ≤ _; exact Nat.le_of_eq rfl) (by decide)
  refine OGo.to st_1 ?_
  show OGo p e below _ (T_1.setTop (mkF m 4 #[.val (.ref a1), .val (.ref a2), .val (.int (0 : Int32)), .val (.int (1 : Int32)), .val .null, .unset] []))
  refine OGo.to (fun _ k => XS.iloadN X_1.here hx rfl (hb hby d2_4) rfl k) ?_
  show OGo p e below _ (T_1.setTop (mkF m 5 #[.val (.ref a1), .val (.ref a2), .val (.int (0 : Int32)), .val (.int (1 : Int32)), .val .null, .unset] [(.int (1 : Int32))]))
  have hc5__2 : ¬ ((1 : Int32) = (0 : Int32)) := by decide
  refine OGo.to (fun _ k => XS.ifYes X_1.here hx rfl (pc0 := 5) (pc' := 27) rfl (hb hby d2_5) rfl ((if0 _ _).trans (feq hc5__2).2) (by decide) (by decide) k) ?_
  show OGo p e below _ (T_1.setTop (mkF m 27 #[.val (.ref a1), .val (.ref a2), .val (.int (0 : Int32)), .val (.int (1 : Int32)), .val .null, .unset] []))
  have f_3 : Sta Z h0 "java/lang/String" "COMPACT_STRINGS" "Z" (.int cs) := Sta.ext O0.2 SC
  obtain ⟨T_4, X_4, e_4, st_4⟩ := getS2 X_1 hx hZ hown (host := "") (Or.inl (hw _ (List.mem_of_getElem? (i := 17) rfl))) Via.refl e_1 f_3 (g := (mkF m 27 #[.val (.ref a1), .val (.ref a2), .val (.int (0 : Int32)), .val (.int (1 : Int32)), .val .null, .unset] [])) rfl (hb hby d2_27)
  refine OGo.to st_4 ?_
  show OGo p e below _ (T_4.setTop (mkF m 30 #[.val (.ref a1), .val (.ref a2), .val (.int (0 : Int32)), .val (.int (1 : Int32)), .val .null, .unset] [(.int cs)]))
  refine OGo.to (fun _ k => XS.ifNo X_4.here hx rfl (hb hby d2_30) rfl ((if0 _ _).trans (feq hcs).1) k) ?_
  show OGo p e below _ (T_4.setTop (mkF m 33 #[.val (.ref a1), .val (.ref a2), .val (.int (0 : Int32)), .val (.int (1 : Int32)), .val .null, .unset] []))
  refine OGo.to (fun _ k => XS.aloadN X_4.here hx rfl (hb hby d2_33) rfl rfl k) ?_
  show OGo p e below _ (T_4.setTop (mkF m 34 #[.val (.ref a1), .val (.ref a2), .val (.int (0 : Int32)), .val (.int (1 : Int32)), .val .null, .unset] [(.ref a2)]))
  refine OGo.to (fun _ k => XS.iloadN X_4.here hx rfl (hb hby d2_34) rfl k) ?_
  show OGo p e below _ (T_4.setTop (mkF m 35 #[.val (.ref a1), .val (.ref a2), .val (.int (0 : Int32)), .val (.int (1 : Int32)), .val .null, .unset] [(.int (0 : Int32)), (.ref a2)]))
  refine OGo.to (fun _ k => XS.iloadN X_4.here hx rfl (hb hby d2_35) rfl k) ?_
  show OGo p e below _ (T_4.setTop (mkF m 36 #[.val (.ref a1), .val (.ref a2), .val (.int (0 : Int32)), .val (.int (1 : Int32)), .val .null, .unset] [(.int (1 : Int32)), (.int (0 : Int32)), (.ref a2)]))
  obtain ⟨_, T_6, Lc_6, X_6, hQ_6, st_6⟩ := own_un X_4 (Q := Qcq1 Z a2 kc x0 h0 n0) (rc := 1) (rs := 1) (W := fun v B => ∀ target, Steps p.tables e below (B.setTop { (mkF m 36 #[.val (.ref a1), .val (.ref a2), .val (.int (0 : Int32)), .val (.int (1 : Int32)), .val .null, .unset] [(.int (1 : Int32)), (.int (0 : Int32)), (.ref a2)]) with pc := 39, stack := v.toList ++ [] }) target → Steps p.tables e below (T_4.setTop (mkF m 36 #[.val (.ref a1), .val (.ref a2), .val (.int (0 : Int32)), .val (.int (1 : Int32)), .val .null, .unset] [(.int (1 : Int32)), (.int (0 : Int32)), (.ref a2)])) target) <| Jvm.LawKit.callS X_4 hx (y := (⟨"java/lang/StringUTF16", "compress", "([CII)[B"⟩ : MethodName)) hown (mvT hZ (hw _ (List.mem_of_getElem? (i := 18) rfl))) (mvT hZ (hw _ (List.mem_of_getElem? (i := 19) rfl))) (mvT hZ (hw _ (List.mem_of_getElem? (i := 20) rfl))) (mvT hZ (hw _ (List.mem_of_getElem? (i := 21) rfl))) (by decide) (backOf (W := 0) (rmcq1 l Z a0 hw [] a2 kc x0 h0 n0 Z0 VA (hx0)) hZ (hw _ (List.mem_of_getElem? (i := 21) rfl)) (hw _ (List.mem_of_getElem? (i := 20) rfl)) (by decide) (by decide)) (g := (mkF m 36 #[.val (.ref a1), .val (.ref a2), .val (.int (0 : Int32)), .val (.int (1 : Int32)), .val .null, .unset] [(.int (1 : Int32)), (.int (0 : Int32)), (.ref a2)])) rfl (by rw [hml]; rfl) (argsL := [(.ref a2), (.int (0 : Int32)), (.int (1 : Int32))]) (rest := []) (lenOf pd_1 rfl) rfl (by show 2 * 0 + _ ≤ _; exact Nat.le_of_eq rfl) (hb hby d2_36) (fun _ _ => ⟨rfl, e_4, (by decide : 0 + 1 ≤ _), (by decide : 0 + 1 ≤ _)⟩)
  obtain ⟨b__6, kb__6, rfl, N_6q, K_6, gq_b__6, sq_b__6, p_6_0⟩ := hQ_6
  have N_6 := Fr.app N0 N_6q
  refine OGo.to st_6 ?_
  have ne_a1_b__6 : a1 ≠ b__6 := Nat.ne_of_lt (Nat.lt_of_lt_of_le E1.lt sq_b__6)
  have ne_a2_b__6 : a2 ≠ b__6 := Nat.ne_of_lt (Nat.lt_of_lt_of_le VA.lt sq_b__6)
  have sz_b__6 : h0.size ≤ b__6 := Nat.le_trans (Keep.refl h0 [a1]).1 sq_b__6
  have z_7 : n0 ≤ T_6.heap.size := Nat.le_trans Z0 K_6.1
  have O_8 : Old Z n0 T_6.heap := O0.keep K_6 all0
  have K_9 : Keep h0 T_6.heap [a1] := (Keep.refl h0 [a1]).trans K_6 (by simp)
  show OGo p e below _ (T_6.setTop (mkF m 39 #[.val (.ref a1), .val (.ref a2), .val (.int (0 : Int32)), .val (.int (1 : Int32)), .val .null, .unset] [(.ref b__6)]))
  refine OGo.to (fun _ k => XS.astore X_6.here hx rfl (hb hby d2_39) rfl rfl (l' := #[.val (.ref a1), .val (.ref a2), .val (.int (0 : Int32)), .val (.int (1 : Int32)), .val .null, .val (.ref b__6)]) rfl k) ?_
  show OGo p e below _ (T_6.setTop (mkF m 41 #[.val (.ref a1), .val (.ref a2), .val (.int (0 : Int32)), .val (.int (1 : Int32)), .val .null, .val (.ref b__6)] []))
  refine OGo.to (fun _ k => XS.aloadN X_6.here hx rfl (hb hby d2_41) rfl rfl k) ?_
  show OGo p e below _ (T_6.setTop (mkF m 42 #[.val (.ref a1), .val (.ref a2), .val (.int (0 : Int32)), .val (.int (1 : Int32)), .val .null, .val (.ref b__6)] [(.ref a1)]))
  refine OGo.to (fun _ k => XS.aload X_6.here hx rfl (hb hby d2_42) rfl rfl k) ?_
  show OGo p e below _ (T_6.setTop (mkF m 44 #[.val (.ref a1), .val (.ref a2), .val (.int (0 : Int32)), .val (.int (1 : Int32)), .val .null, .val (.ref b__6)] [(.ref b__6), (.ref a1)]))
  refine OGo.to (fun _ k => XS.iloadN X_6.here hx rfl (hb hby d2_44) rfl k) ?_
  show OGo p e below _ (T_6.setTop (mkF m 45 #[.val (.ref a1), .val (.ref a2), .val (.int (0 : Int32)), .val (.int (1 : Int32)), .val .null, .val (.ref b__6)] [(.int (1 : Int32)), (.ref b__6), (.ref a1)]))
  obtain ⟨_, T_10, Lc_10, X_10, hQ_10, st_10⟩ := own_un X_6 (Q := Qcl1 Z b__6 kb__6 ((x0.toInt8.toInt32)).toInt8.toInt32 T_6.heap n0) (rc := 0) (rs := 0) (W := fun v B => ∀ target, Steps p.tables e below (B.setTop { (mkF m 45 #[.val (.ref a1), .val (.ref a2), .val (.int (0 : Int32)), .val (.int (1 : Int32)), .val .null, .val (.ref b__6)] [(.int (1 : Int32)), (.ref b__6), (.ref a1)]) with pc := 48, stack := v.toList ++ [(.ref a1)] }) target → Steps p.tables e below (T_6.setTop (mkF m 45 #[.val (.ref a1), .val (.ref a2), .val (.int (0 : Int32)), .val (.int (1 : Int32)), .val .null, .val (.ref b__6)] [(.int (1 : Int32)), (.ref b__6), (.ref a1)])) target) <| Jvm.LawKit.callS X_6 hx (y := (⟨"java/lang/StringUTF16", "coderFromArrayLen", "([BI)B"⟩ : MethodName)) hown (mvT hZ (hw _ (List.mem_of_getElem? (i := 26) rfl))) (mvT hZ (hw _ (List.mem_of_getElem? (i := 27) rfl))) (mvT hZ (hw _ (List.mem_of_getElem? (i := 20) rfl))) (mvT hZ (hw _ (List.mem_of_getElem? (i := 28) rfl))) (by decide) (backOf (W := 1) (rmcl1 l Z a0 hw [] b__6 kb__6 ((x0.toInt8.toInt32)).toInt8.toInt32 T_6.heap n0 z_7 p_6_0) hZ (hw _ (List.mem_of_getElem? (i := 28) rfl)) (hw _ (List.mem_of_getElem? (i := 20) rfl)) (by decide) (by decide)) (g := (mkF m 45 #[.val (.ref a1), .val (.ref a2), .val (.int (0 : Int32)), .val (.int (1 : Int32)), .val .null, .val (.ref b__6)] [(.int (1 : Int32)), (.ref b__6), (.ref a1)])) rfl (by rw [hml]; rfl) (argsL := [(.ref b__6), (.int (1 : Int32))]) (rest := [(.ref a1)]) (lenOf pd_2 rfl) rfl (by show 2 * 0 + _ ≤ _; exact Nat.le_of_eq rfl) (hb hby d2_45) (fun _ _ => ⟨rfl, (rfl : T_6.heap = T_6.heap), (by decide : 1 + 0 ≤ _), (by decide : 1 + 0 ≤ _)⟩)
  obtain ⟨rfl, N_10q, e_10⟩ := hQ_10
  have N_10 := Fr.app N_6 N_10q
  refine OGo.to st_10 ?_
  show OGo p e below _ (T_10.setTop (mkF m 48 #[.val (.ref a1), .val (.ref a2), .val (.int (0 : Int32)), .val (.int (1 : Int32)), .val .null, .val (.ref b__6)] [(.int (0 : Int32)), (.ref a1)]))
  have f_11 : Exa Z T_6.heap a1 "java/lang/String" := (E1.keep K_6)
  have f_12 : Fld Z T_6.heap a1 "java/lang/String" "coder" "B" (.int (0 : Int32)) := (F2.keep K_6 (List.not_mem_nil))
  obtain ⟨T_13, h_13, X_13, e_13, W_13, st_13⟩ := putF X_10 hx hZ hown (host := "") (Or.inl (hw _ (List.mem_of_getElem? (i := 29) rfl))) Via.refl e_10 f_12 f_11 (Or.inr ⟨(hw _ (List.mem_of_getElem? (i := 30) rfl)), rfl, hnm⟩) (hw _ (List.mem_of_getElem? (i := 5) rfl)) (ty := .byte) (by decide) rfl rfl (g := (mkF m 48 #[.val (.ref a1), .val (.ref a2), .val (.int (0 : Int32)), .val (.int (1 : Int32)), .val .null, .val (.ref b__6)] [(.int (0 : Int32)), (.ref a1)])) rfl rfl (hb hby d2_48)
  refine OGo.to st_13 ?_
  have Fw_13 : Fld Z h_13 a1 "java/lang/String" "coder" "B" (.int (0 : Int32)) := f_12.same W_13
  have N_13 := Fr.snoc X_13 N_10 g1
  have z_14 : n0 ≤ h_13.size := Nat.le_trans z_7 (Keep.of_wr W_13).1
  have O_15 : Old Z n0 h_13 := O_8.wr W_13 g1
  have K_16 : Keep h0 h_13 [a1] := K_9.wr W_13 (Or.inl (List.mem_of_getElem? (i := 0) rfl))
  show OGo p e below _ (T_13.setTop (mkF m 51 #[.val (.ref a1), .val (.ref a2), .val (.int (0 : Int32)), .val (.int (1 : Int32)), .val .null, .val (.ref b__6)] []))
  refine OGo.to (fun _ k => XS.aloadN X_13.here hx rfl (hb hby d2_51) rfl rfl k) ?_
  show OGo p e below _ (T_13.setTop (mkF m 52 #[.val (.ref a1), .val (.ref a2), .val (.int (0 : Int32)), .val (.int (1 : Int32)), .val .null, .val (.ref b__6)] [(.ref a1)]))
  refine OGo.to (fun _ k => XS.aload X_13.here hx rfl (hb hby d2_52) rfl rfl k) ?_
  show OGo p e below _ (T_13.setTop (mkF m 54 #[.val (.ref a1), .val (.ref a2), .val (.int (0 : Int32)), .val (.int (1 : Int32)), .val .null, .val (.ref b__6)] [(.ref b__6), (.ref a1)]))
  have f_17 : Exa Z h_13 a1 "java/lang/String" := (f_11.wr W_13)
  have f_18 : Fld Z h_13 a1 "java/lang/String" "value" "[B" .null := ((F1.keep K_6 (List.not_mem_nil)).other W_13 (Or.inr (slot_ne (Or.inr (hw _ (List.mem_of_getElem? (i := 32) rfl))) (Or.inr (hw _ (List.mem_of_getElem? (i := 30) rfl))) (by decide) (t := (.array .byte)) (t' := .byte) (by decide) (by decide))))
  obtain ⟨T_19, h_19, X_19, e_19, W_19, st_19⟩ := putF X_13 hx hZ hown (host := "") (Or.inl (hw _ (List.mem_of_getElem? (i := 31) rfl))) Via.refl e_13 f_18 f_17 (Or.inr ⟨(hw _ (List.mem_of_getElem? (i := 32) rfl)), rfl, hnm⟩) (hw _ (List.mem_of_getElem? (i := 5) rfl)) (ty := (.array .byte)) (by decide) rfl rfl (g := (mkF m 54 #[.val (.ref a1), .val (.ref a2), .val (.int (0 : Int32)), .val (.int (1 : Int32)), .val .null, .val (.ref b__6)] [(.ref b__6), (.ref a1)])) rfl rfl (hb hby d2_54)
  refine OGo.to st_19 ?_
  have Fw_19 : Fld Z h_19 a1 "java/lang/String" "value" "[B" (.ref b__6) := f_18.same W_19
  have N_19 := Fr.snoc X_19 N_13 g1
  have z_20 : n0 ≤ h_19.size := Nat.le_trans z_14 (Keep.of_wr W_19).1
  have O_21 : Old Z n0 h_19 := O_15.wr W_19 g1
  have K_22 : Keep h0 h_19 [a1] := K_16.wr W_19 (Or.inl (List.mem_of_getElem? (i := 0) rfl))
  show OGo p e below _ (T_19.setTop (mkF m 57 #[.val (.ref a1), .val (.ref a2), .val (.int (0 : Int32)), .val (.int (1 : Int32)), .val .null, .val (.ref b__6)] []))
  refine OGo.ret (Q := Qsi1 Z a1 a2 kc x0 cs h0 n0) X_19 none (fun _ => rfl) Bd.notSynchronized (fun fs hr => X_19.returnOut hx Bd.returns (hb hby d2_57) hr) ?_ (by decide) (by decide)
  have f_23 : Fld Z h_19 a1 "java/lang/String" "coder" "B" (.int (0 : Int32)) := (Fw_13.other W_19 (Or.inr (slot_ne (Or.inr (hw _ (List.mem_of_getElem? (i := 30) rfl))) (Or.inr (hw _ (List.mem_of_getElem? (i := 32) rfl))) (by decide) (t := .byte) (t' := (.array .byte)) (by decide) (by decide))))
  have f_24 : Arv Z h_19 b__6 kb__6 .byte (1 : Int32) [(.int ((x0.toInt8.toInt32)).toInt8.toInt32)] (.int (0 : Int32)) := ((p_6_0.other W_13 (Ne.symm ne_a1_b__6)).other W_19 (Ne.symm ne_a1_b__6))
  show Qsi1 Z a1 a2 kc x0 cs h0 n0 _ T_19.heap _
  rw [e_19]
  exact ⟨b__6, kb__6, rfl, N_19, K_22, gq_b__6, sz_b__6, Fw_19, f_23, f_24⟩
theorem d1_0 : decode jdk_42_method_3_code 0 = .ok (.aload_n 0, 1) := by decide +kernel
theorem d1_1 : decode jdk_42_method_3_code 1 = .ok (.aload_n 1, 1) := by decide +kernel
theorem d1_2 : decode jdk_42_method_3_code 2 = .ok (.iconst 0, 1) := by decide +kernel
theorem d1_3 : decode jdk_42_method_3_code 3 = .ok (.aload_n 1, 1) := by decide +kernel
theorem d1_4 : decode jdk_42_method_3_code 4 = .ok (.arraylength, 1) := by decide +kernel
theorem d1_5 : decode jdk_42_method_3_code 5 = .ok (.aconst_null, 1) := by decide +kernel
theorem d1_6 : decode jdk_42_method_3_code 6 = .ok (.invokespecial 27, 3) := by decide +kernel
theorem d1_9 : decode jdk_42_method_3_code 9 = .ok (.return_, 1) := by decide +kernel
theorem ef_sc1 (m : MethodId) (x0 : Addr) (x1 : Addr) : entryFrame m #[(.ref x0), (.ref x1)] 2 = mkF m 0 #[.val (.ref x0), .val (.ref x1)] [] := by first | (simp [entryFrame, mkF, argsToLocals, Value.category]; done) | rfl
def Qsc1 (Z : State) (a1 : Addr) (a2 : Addr) (kc : ClassId) (x0 : Int32) (cs : Int32) (h0 : Heap) (n0 : Nat) (v : Option Value) (h : Heap) (L : List Loc) : Prop := ∃ (b : Addr), ∃ (kb : ClassId), v = none ∧ Fr n0 L ∧ Keep h0 h [a1] ∧ n0 ≤ b ∧ h0.size ≤ b ∧ Fld Z h a1 "java/lang/String" "value" "[B" (.ref b) ∧ Fld Z h a1 "java/lang/String" "coder" "B" (.int (0 : Int32)) ∧ Arv Z h b kb .byte (1 : Int32) [(.int ((x0.toInt8.toInt32)).toInt8.toInt32)] (.int (0 : Int32))
set_option maxRecDepth 65536 in
set_option maxHeartbeats 40000000 in
theorem rmsc1 (l : Launch) (Z : State) (a0 : Array Value) (hw : ∀ d ∈ tables_1, d.before a0 Z = true) (ws : List Jvm.Cond) (a1 : Addr) (a2 : Addr) (kc : ClassId) (x0 : Int32) (cs : Int32) (h0 : Heap) (n0 : Nat) (Z0 : n0 ≤ h0.size) (E1 : Exa Z h0 a1 "java/lang/String") (F1 : Fld Z h0 a1 "java/lang/String" "value" "[B" .null) (F2 : Fld Z h0 a1 "java/lang/String" "coder" "B" (.int (0 : Int32))) (g1 : n0 ≤ a1) (VA : Arv Z h0 a2 kc .char (1 : Int32) [(.int x0)] (.int (0 : Int32))) (n12 : a1 ≠ a2) (SC : Sta Z Z.heap "java/lang/String" "COMPACT_STRINGS" "Z" (.int cs)) (O0 : Old Z n0 h0) (hcs : ¬ (cs = (0 : Int32))) (hx0 : ¬ ((255 : Int32) < x0)) :
    MetFree l (⟨"java/lang/String", "<init>", "([C)V"⟩ : MethodName) (head1 (Jvm.Cond.code (⟨"java/lang/String", "<init>", "([C)V"⟩ : MethodName) jdk_42_method_3_code 2 none :: ws) ({ frames := 3, cells := 1, slots := 1, locals := 52 } : Room)) (fun a U => a = #[(.ref a1), (.ref a2)] ∧ Z.Warmed39 U.vm ∧ U.heap = h0) (fun _ _ _ _ _ => True) (fun _ U o U' => ∃ v L, o = .returned v ∧ Qsc1 Z a1 a2 kc x0 cs h0 n0 v U'.heap L ∧ FrameEnd U o U' L ({ frames := 3, cells := 1, slots := 1, locals := 52 } : Room).cells ({ frames := 3, cells := 1, slots := 1, locals := 52 } : Room).slots) := by
  refine MetFree.of_bodySF (plainFor_of_name pn_1) hisR ?_
  intro p e s m args below meth c s₁ Bd hml0 hP hK
  obtain ⟨rfl, hZ, hh⟩ := hP
  have hx := Bd.exec
  have hby := Bd.bytes
  have hml : c.maxLocals = 2 := hml0
  have hown : s.vm.findClass "java/lang/String" = some m.cls := findClass_of_methodNamed Bd.named
  have hnm := (name_of_methodNamed Bd.named Bd.method).1
  have X0 : Stand p l e ({ frames := 3, cells := 1, slots := 1, locals := 52 } : Room) s m #[(.ref a1), (.ref a2)] below meth c s₁ [] 0 0 := Stand.of_body Bd
  have e0 : s₁.heap = h0 := by rw [← hh, Bd.state]; rfl
  have N0 := Fr.nil n0
  show OGo p e below (fun s₂ o => ∃ v L, o = .returned v ∧ Qsc1 Z a1 a2 kc x0 cs h0 n0 v s₂.heap L ∧ FrameEnd s o s₂ L ({ frames := 3, cells := 1, slots := 1, locals := 52 } : Room).cells ({ frames := 3, cells := 1, slots := 1, locals := 52 } : Room).slots) _
  refine OGo.to (fun _ k => castTop (ef_sc1 m a1 a2) k) ?_
  refine OGo.to (fun _ k => XS.aloadN X0.here hx rfl (hb hby d1_0) rfl rfl k) ?_
  show OGo p e below _ (s₁.setTop (mkF m 1 #[.val (.ref a1), .val (.ref a2)] [(.ref a1)]))
  refine OGo.to (fun _ k => XS.aloadN X0.here hx rfl (hb hby d1_1) rfl rfl k) ?_
  show OGo p e below _ (s₁.setTop (mkF m 2 #[.val (.ref a1), .val (.ref a2)] [(.ref a2), (.ref a1)]))
  refine OGo.to (fun _ k => XS.iconst X0.here hx rfl (hb hby d1_2) k) ?_
  show OGo p e below _ (s₁.setTop (mkF m 3 #[.val (.ref a1), .val (.ref a2)] [(.int (0 : Int32)), (.ref a2), (.ref a1)]))
  refine OGo.to (fun _ k => XS.aloadN X0.here hx rfl (hb hby d1_3) rfl rfl k) ?_
  show OGo p e below _ (s₁.setTop (mkF m 4 #[.val (.ref a1), .val (.ref a2)] [(.ref a2), (.int (0 : Int32)), (.ref a2), (.ref a1)]))
  have Vq_1 := VA
  obtain ⟨cl_1, Ar_1, q_1, S_1, M_1, Hs_1, G_1⟩ := Vq_1
  refine OGo.to (fun _ k => X0.arraylength hx (by rw [e0]; exact Ar_1.1) (State.isArrayOf_alike hZ.alike Ar_1.2.1) (g := (mkF m 4 #[.val (.ref a1), .val (.ref a2)] [(.ref a2), (.int (0 : Int32)), (.ref a2), (.ref a1)])) rfl rfl (hb hby d1_4) _ k) ?_
  rw [len_of S_1 M_1]
  show OGo p e below _ (s₁.setTop (mkF m 5 #[.val (.ref a1), .val (.ref a2)] [(.int (1 : Int32)), (.int (0 : Int32)), (.ref a2), (.ref a1)]))
  refine OGo.to (fun _ k => XS.aconstNull X0.here hx rfl (hb hby d1_5) k) ?_
  show OGo p e below _ (s₁.setTop (mkF m 6 #[.val (.ref a1), .val (.ref a2)] [.null, (.int (1 : Int32)), (.int (0 : Int32)), (.ref a2), (.ref a1)]))
  obtain ⟨_, T_2, Lc_2, X_2, hQ_2, st_2⟩ := own_un X0 (Q := Qsi1 Z a1 a2 kc x0 cs h0 n0) (rc := 1) (rs := 1) (W := fun v B => Steps p.tables e below (s₁.setTop (mkF m 6 #[.val (.ref a1), .val (.ref a2)] [.null, (.int (1 : Int32)), (.int (0 : Int32)), (.ref a2), (.ref a1)])) (B.setTop { (mkF m 6 #[.val (.ref a1), .val (.ref a2)] [.null, (.int (1 : Int32)), (.int (0 : Int32)), (.ref a2), (.ref a1)]) with pc := 9, stack := v.toList ++ [] })) <| X0.specialBack hx (y := (⟨"java/lang/String", "<init>", "([CIILjava/lang/Void;)V"⟩ : MethodName)) rfl hown (mvT hZ (hw _ (List.mem_of_getElem? (i := 10) rfl))) (mvT hZ (hw _ (List.mem_of_getElem? (i := 11) rfl))) (mvT hZ (hw _ (List.mem_of_getElem? (i := 13) rfl))) (by decide) (backOf (W := 0) (rmsi1 l Z a0 hw [] a1 a2 kc x0 cs h0 n0 Z0 E1 F1 F2 g1 VA n12 SC O0 (hcs) (hx0)) hZ (hw _ (List.mem_of_getElem? (i := 13) rfl)) (hw _ (List.mem_of_getElem? (i := 6) rfl)) (by decide) (by decide)) (g := (mkF m 6 #[.val (.ref a1), .val (.ref a2)] [.null, (.int (1 : Int32)), (.int (0 : Int32)), (.ref a2), (.ref a1)])) rfl (by rw [hml]; rfl) (Steps.refl _) (a := a1) (argsL := [(.ref a2), (.int (0 : Int32)), (.int (1 : Int32)), .null]) (rest := []) (lenOf pd_3 rfl) rfl (by show 2 * 0 + _ ≤ _; exact Nat.le_of_eq rfl) (hb hby d1_6) (fun _ _ => ⟨rfl, e0, (by decide : 0 + 1 ≤ _), (by decide : 0 + 1 ≤ _)⟩)
  obtain ⟨b__2, kb__2, rfl, N_2q, K_2, gq_b__2, sq_b__2, p_2_0, p_2_1, p_2_2⟩ := hQ_2
  have N_2 := Fr.app N0 N_2q
  refine OGo.to (fun _ k => st_2.trans k) ?_
  have ne_a1_b__2 : a1 ≠ b__2 := Nat.ne_of_lt (Nat.lt_of_lt_of_le E1.lt sq_b__2)
  have ne_a2_b__2 : a2 ≠ b__2 := Nat.ne_of_lt (Nat.lt_of_lt_of_le VA.lt sq_b__2)
  have sz_b__2 : h0.size ≤ b__2 := Nat.le_trans (Keep.refl h0 [a1]).1 sq_b__2
  have z_3 : n0 ≤ T_2.heap.size := Nat.le_trans Z0 K_2.1
  have O_4 : Old Z n0 T_2.heap := O0.keep K_2 (allS g1 all0)
  have K_5 : Keep h0 T_2.heap [a1] := (Keep.refl h0 [a1]).trans K_2 (by intro x hx'; cases List.mem_singleton.mp hx'; exact (Or.inl (List.mem_of_getElem? (i := 0) rfl)))
  show OGo p e below _ (T_2.setTop (mkF m 9 #[.val (.ref a1), .val (.ref a2)] []))
  refine OGo.ret (Q := Qsc1 Z a1 a2 kc x0 cs h0 n0) X_2 none (fun _ => rfl) Bd.notSynchronized (fun fs hr => X_2.returnOut hx Bd.returns (hb hby d1_9) hr) ?_ (by decide) (by decide)
  show Qsc1 Z a1 a2 kc x0 cs h0 n0 _ T_2.heap _
  exact ⟨b__2, kb__2, rfl, N_2, K_5, gq_b__2, sz_b__2, p_2_0, p_2_1, p_2_2⟩
theorem d8_0 : decode prog_31_method_2_code 0 = .ok (.aload_n 0, 1) := by decide +kernel
theorem d8_1 : decode prog_31_method_2_code 1 = .ok (.invokespecial 11, 3) := by decide +kernel
theorem d8_4 : decode prog_31_method_2_code 4 = .ok (.aload_n 0, 1) := by decide +kernel
theorem d8_5 : decode prog_31_method_2_code 5 = .ok (.aload_n 1, 1) := by decide +kernel
theorem d8_6 : decode prog_31_method_2_code 6 = .ok (.putfield 16, 3) := by decide +kernel
theorem d8_9 : decode prog_31_method_2_code 9 = .ok (.aload_n 0, 1) := by decide +kernel
theorem d8_10 : decode prog_31_method_2_code 10 = .ok (.aload_n 2, 1) := by decide +kernel
theorem d8_11 : decode prog_31_method_2_code 11 = .ok (.putfield 20, 3) := by decide +kernel
theorem d8_14 : decode prog_31_method_2_code 14 = .ok (.aload_n 0, 1) := by decide +kernel
theorem d8_15 : decode prog_31_method_2_code 15 = .ok (.iload_n 3, 1) := by decide +kernel
theorem d8_16 : decode prog_31_method_2_code 16 = .ok (.putfield 23, 3) := by decide +kernel
theorem d8_19 : decode prog_31_method_2_code 19 = .ok (.aload_n 0, 1) := by decide +kernel
theorem d8_20 : decode prog_31_method_2_code 20 = .ok (.lload 4, 2) := by decide +kernel
theorem d8_22 : decode prog_31_method_2_code 22 = .ok (.putfield 27, 3) := by decide +kernel
theorem d8_25 : decode prog_31_method_2_code 25 = .ok (.aload_n 0, 1) := by decide +kernel
theorem d8_26 : decode prog_31_method_2_code 26 = .ok (.iload 6, 2) := by decide +kernel
theorem d8_28 : decode prog_31_method_2_code 28 = .ok (.putfield 31, 3) := by decide +kernel
theorem d8_31 : decode prog_31_method_2_code 31 = .ok (.aload_n 0, 1) := by decide +kernel
theorem d8_32 : decode prog_31_method_2_code 32 = .ok (.iload 7, 2) := by decide +kernel
theorem d8_34 : decode prog_31_method_2_code 34 = .ok (.putfield 34, 3) := by decide +kernel
theorem d8_37 : decode prog_31_method_2_code 37 = .ok (.aload_n 0, 1) := by decide +kernel
theorem d8_38 : decode prog_31_method_2_code 38 = .ok (.lload 8, 2) := by decide +kernel
theorem d8_40 : decode prog_31_method_2_code 40 = .ok (.putfield 37, 3) := by decide +kernel
theorem d8_43 : decode prog_31_method_2_code 43 = .ok (.aload_n 0, 1) := by decide +kernel
theorem d8_44 : decode prog_31_method_2_code 44 = .ok (.lload 10, 2) := by decide +kernel
theorem d8_46 : decode prog_31_method_2_code 46 = .ok (.putfield 40, 3) := by decide +kernel
theorem d8_49 : decode prog_31_method_2_code 49 = .ok (.aload_n 0, 1) := by decide +kernel
theorem d8_50 : decode prog_31_method_2_code 50 = .ok (.lload 12, 2) := by decide +kernel
theorem d8_52 : decode prog_31_method_2_code 52 = .ok (.putfield 43, 3) := by decide +kernel
theorem d8_55 : decode prog_31_method_2_code 55 = .ok (.aload_n 0, 1) := by decide +kernel
theorem d8_56 : decode prog_31_method_2_code 56 = .ok (.aload 14, 2) := by decide +kernel
theorem d8_58 : decode prog_31_method_2_code 58 = .ok (.putfield 46, 3) := by decide +kernel
theorem d8_61 : decode prog_31_method_2_code 61 = .ok (.return_, 1) := by decide +kernel
theorem ef_c2 (m : MethodId) (x0 : Addr) (x1 : Addr) (x2 : Addr) (x3 : Int32) (x4 : Int64) (x5 : Int32) (x6 : Int32) (x7 : Int64) (x8 : Int64) (x9 : Int64) (x10 : Addr) : entryFrame m #[(.ref x0), (.ref x1), (.ref x2), (.int x3), (.long x4), (.int x5), (.int x6), (.long x7), (.long x8), (.long x9), (.ref x10)] 15 = mkF m 0 #[.val (.ref x0), .val (.ref x1), .val (.ref x2), .val (.int x3), .val (.long x4), .second, .val (.int x5), .val (.int x6), .val (.long x7), .second, .val (.long x8), .second, .val (.long x9), .second, .val (.ref x10)] [] := by first | (simp [entryFrame, mkF, argsToLocals, Value.category]; done) | rfl
def Qc2 (Z : State) (a1 : Addr) (c0 : Addr) (c1 : Addr) (c2 : Int32) (c3 : Int64) (c4 : Int32) (c5 : Int32) (c6 : Int64) (c7 : Int64) (c8 : Int64) (c9 : Addr) (h0 : Heap) (n0 : Nat) (v : Option Value) (h : Heap) (L : List Loc) : Prop := v = none ∧ Fr n0 L ∧ Keep h0 h [a1] ∧ Fld Z h a1 "com/example/lahetti/lahetti/protocol/PullRequestHeader" "consumerGroup" "Ljava/lang/String;" (.ref c0) ∧ Fld Z h a1 "com/example/lahetti/lahetti/protocol/PullRequestHeader" "topic" "Ljava/lang/String;" (.ref c1) ∧ Fld Z h a1 "com/example/lahetti/lahetti/protocol/PullRequestHeader" "queueId" "I" (.int c2) ∧ Fld Z h a1 "com/example/lahetti/lahetti/protocol/PullRequestHeader" "queueOffset" "J" (.long c3) ∧ Fld Z h a1 "com/example/lahetti/lahetti/protocol/PullRequestHeader" "maxMsgNums" "I" (.int c4) ∧ Fld Z h a1 "com/example/lahetti/lahetti/protocol/PullRequestHeader" "sysFlag" "I" (.int c5) ∧ Fld Z h a1 "com/example/lahetti/lahetti/protocol/PullRequestHeader" "commitOffset" "J" (.long c6) ∧ Fld Z h a1 "com/example/lahetti/lahetti/protocol/PullRequestHeader" "suspendTimeoutMillis" "J" (.long c7) ∧ Fld Z h a1 "com/example/lahetti/lahetti/protocol/PullRequestHeader" "subVersion" "J" (.long c8) ∧ Fld Z h a1 "com/example/lahetti/lahetti/protocol/PullRequestHeader" "expressionType" "Ljava/lang/String;" (.ref c9)
set_option maxRecDepth 65536 in
set_option maxHeartbeats 40000000 in
theorem rmc2 (l : Launch) (Z : State) (a0 : Array Value) (hw : ∀ d ∈ tables_1, d.before a0 Z = true) (ws : List Jvm.Cond) (a1 : Addr) (c0 : Addr) (c1 : Addr) (c2 : Int32) (c3 : Int64) (c4 : Int32) (c5 : Int32) (c6 : Int64) (c7 : Int64) (c8 : Int64) (c9 : Addr) (h0 : Heap) (n0 : Nat) (Z0 : n0 ≤ h0.size) (E1 : Exa Z h0 a1 "com/example/lahetti/lahetti/protocol/PullRequestHeader") (F0 : Fld Z h0 a1 "com/example/lahetti/lahetti/protocol/PullRequestHeader" "consumerGroup" "Ljava/lang/String;" .null) (F1 : Fld Z h0 a1 "com/example/lahetti/lahetti/protocol/PullRequestHeader" "topic" "Ljava/lang/String;" .null) (F2 : Fld Z h0 a1 "com/example/lahetti/lahetti/protocol/PullRequestHeader" "queueId" "I" (.int (0 : Int32))) (F3 : Fld Z h0 a1 "com/example/lahetti/lahetti/protocol/PullRequestHeader" "queueOffset" "J" (.long (0 : Int64))) (F4 : Fld Z h0 a1 "com/example/lahetti/lahetti/protocol/PullRequestHeader" "maxMsgNums" "I" (.int (0 : Int32))) (F5 : Fld Z h0 a1 "com/example/lahetti/lahetti/protocol/PullRequestHeader" "sysFlag" "I" (.int (0 : Int32))) (F6 : Fld Z h0 a1 "com/example/lahetti/lahetti/protocol/PullRequestHeader" "commitOffset" "J" (.long (0 : Int64))) (F7 : Fld Z h0 a1 "com/example/lahetti/lahetti/protocol/PullRequestHeader" "suspendTimeoutMillis" "J" (.long (0 : Int64))) (F8 : Fld Z h0 a1 "com/example/lahetti/lahetti/protocol/PullRequestHeader" "subVersion" "J" (.long (0 : Int64))) (F9 : Fld Z h0 a1 "com/example/lahetti/lahetti/protocol/PullRequestHeader" "expressionType" "Ljava/lang/String;" .null) (g1 : n0 ≤ a1) :
    MetFree l (⟨"com/example/lahetti/lahetti/protocol/PullRequestHeader", "<init>", "(Ljava/lang/String;Ljava/lang/String;IJIIJJJLjava/lang/String;)V"⟩ : MethodName) (head1 (Jvm.Cond.code (⟨"com/example/lahetti/lahetti/protocol/PullRequestHeader", "<init>", "(Ljava/lang/String;Ljava/lang/String;IJIIJJJLjava/lang/String;)V"⟩ : MethodName) prog_31_method_2_code 15 none :: ws) ({ frames := 1, cells := 0, slots := 0, locals := 12 } : Room)) (fun a U => a = #[(.ref a1), (.ref c0), (.ref c1), (.int c2), (.long c3), (.int c4), (.int c5), (.long c6), (.long c7), (.long c8), (.ref c9)] ∧ Z.Warmed39 U.vm ∧ U.heap = h0) (fun _ _ _ _ _ => True) (fun _ U o U' => ∃ v L, o = .returned v ∧ Qc2 Z a1 c0 c1 c2 c3 c4 c5 c6 c7 c8 c9 h0 n0 v U'.heap L ∧ FrameEnd U o U' L ({ frames := 1, cells := 0, slots := 0, locals := 12 } : Room).cells ({ frames := 1, cells := 0, slots := 0, locals := 12 } : Room).slots) := by
  refine MetFree.of_bodySF (plainFor_of_name pn_2) hisR ?_
  intro p e s m args below meth c s₁ Bd hml0 hP hK
  obtain ⟨rfl, hZ, hh⟩ := hP
  have hx := Bd.exec
  have hby := Bd.bytes
  have hml : c.maxLocals = 15 := hml0
  have hown : s.vm.findClass "com/example/lahetti/lahetti/protocol/PullRequestHeader" = some m.cls := findClass_of_methodNamed Bd.named
  have hnm := (name_of_methodNamed Bd.named Bd.method).1
  have X0 : Stand p l e ({ frames := 1, cells := 0, slots := 0, locals := 12 } : Room) s m #[(.ref a1), (.ref c0), (.ref c1), (.int c2), (.long c3), (.int c4), (.int c5), (.long c6), (.long c7), (.long c8), (.ref c9)] below meth c s₁ [] 0 0 := Stand.of_body Bd
  have e0 : s₁.heap = h0 := by rw [← hh, Bd.state]; rfl
  have N0 := Fr.nil n0
  show OGo p e below (fun s₂ o => ∃ v L, o = .returned v ∧ Qc2 Z a1 c0 c1 c2 c3 c4 c5 c6 c7 c8 c9 h0 n0 v s₂.heap L ∧ FrameEnd s o s₂ L ({ frames := 1, cells := 0, slots := 0, locals := 12 } : Room).cells ({ frames := 1, cells := 0, slots := 0, locals := 12 } : Room).slots) _
  refine OGo.to (fun _ k => castTop (ef_c2 m a1 c0 c1 c2 c3 c4 c5 c6 c7 c8 c9) k) ?_
  refine OGo.to (fun _ k => XS.aloadN X0.here hx rfl (hb hby d8_0) rfl rfl k) ?_
  show OGo p e below _ (s₁.setTop (mkF m 1 #[.val (.ref a1), .val (.ref c0), .val (.ref c1), .val (.int c2), .val (.long c3), .second, .val (.int c4), .val (.int c5), .val (.long c6), .second, .val (.long c7), .second, .val (.long c8), .second, .val (.ref c9)] [(.ref a1)]))
  obtain ⟨T_1, X_1, e_1, st_1⟩ := initO X0 hx hZ hown (hw _ (List.mem_of_getElem? (i := 43) rfl)) (hw _ (List.mem_of_getElem? (i := 15) rfl)) (hw _ (List.mem_of_getElem? (i := 16) rfl)) e0 (g := (mkF m 1 #[.val (.ref a1), .val (.ref c0), .val (.ref c1), .val (.int c2), .val (.long c3), .second, .val (.int c4), .val (.int c5), .val (.long c6), .second, .val (.long c7), .second, .val (.long c8), .second, .val (.ref c9)] [(.ref a1)])) rfl (by rw [hml]; rfl) rfl (hb hby d8_1) (by decide) (W := 0) (by show 2 * 0 + _ ≤ _; exact Nat.le_of_eq rfl) (by decide)
  refine OGo.to st_1 ?_
  show OGo p e below _ (T_1.setTop (mkF m 4 #[.val (.ref a1), .val (.ref c0), .val (.ref c1), .val (.int c2), .val (.long c3), .second, .val (.int c4), .val (.int c5), .val (.long c6), .second, .val (.long c7), .second, .val (.long c8), .second, .val (.ref c9)] []))
  refine OGo.to (fun _ k => XS.aloadN X_1.here hx rfl (hb hby d8_4) rfl rfl k) ?_
  show OGo p e below _ (T_1.setTop (mkF m 5 #[.val (.ref a1), .val (.ref c0), .val (.ref c1), .val (.int c2), .val (.long c3), .second, .val (.int c4), .val (.int c5), .val (.long c6), .second, .val (.long c7), .second, .val (.long c8), .second, .val (.ref c9)] [(.ref a1)]))
  refine OGo.to (fun _ k => XS.aloadN X_1.here hx rfl (hb hby d8_5) rfl rfl k) ?_
  show OGo p e below _ (T_1.setTop (mkF m 6 #[.val (.ref a1), .val (.ref c0), .val (.ref c1), .val (.int c2), .val (.long c3), .second, .val (.int c4), .val (.int c5), .val (.long c6), .second, .val (.long c7), .second, .val (.long c8), .second, .val (.ref c9)] [(.ref c0), (.ref a1)]))
  obtain ⟨T_2, h_2, X_2, e_2, W_2, st_2⟩ := putF X_1 hx hZ hown (host := "") (Or.inl (hw _ (List.mem_of_getElem? (i := 44) rfl))) Via.refl e_1 F0 E1 (Or.inr ⟨(hw _ (List.mem_of_getElem? (i := 45) rfl)), rfl, hnm⟩) (hw _ (List.mem_of_getElem? (i := 2) rfl)) (ty := (.object "java/lang/String")) (by decide) rfl rfl (g := (mkF m 6 #[.val (.ref a1), .val (.ref c0), .val (.ref c1), .val (.int c2), .val (.long c3), .second, .val (.int c4), .val (.int c5), .val (.long c6), .second, .val (.long c7), .second, .val (.long c8), .second, .val (.ref c9)] [(.ref c0), (.ref a1)])) rfl rfl (hb hby d8_6)
  refine OGo.to st_2 ?_
  have Fw_2 : Fld Z h_2 a1 "com/example/lahetti/lahetti/protocol/PullRequestHeader" "consumerGroup" "Ljava/lang/String;" (.ref c0) := F0.same W_2
  have N_2 := Fr.snoc X_2 N0 g1
  have z_3 : n0 ≤ h_2.size := Nat.le_trans Z0 (Keep.of_wr W_2).1
  have K_4 : Keep h0 h_2 [a1] := (Keep.refl h0 [a1]).wr W_2 (Or.inl (List.mem_of_getElem? (i := 0) rfl))
  show OGo p e below _ (T_2.setTop (mkF m 9 #[.val (.ref a1), .val (.ref c0), .val (.ref c1), .val (.int c2), .val (.long c3), .second, .val (.int c4), .val (.int c5), .val (.long c6), .second, .val (.long c7), .second, .val (.long c8), .second, .val (.ref c9)] []))
  refine OGo.to (fun _ k => XS.aloadN X_2.here hx rfl (hb hby d8_9) rfl rfl k) ?_
  show OGo p e below _ (T_2.setTop (mkF m 10 #[.val (.ref a1), .val (.ref c0), .val (.ref c1), .val (.int c2), .val (.long c3), .second, .val (.int c4), .val (.int c5), .val (.long c6), .second, .val (.long c7), .second, .val (.long c8), .second, .val (.ref c9)] [(.ref a1)]))
  refine OGo.to (fun _ k => XS.aloadN X_2.here hx rfl (hb hby d8_10) rfl rfl k) ?_
  show OGo p e below _ (T_2.setTop (mkF m 11 #[.val (.ref a1), .val (.ref c0), .val (.ref c1), .val (.int c2), .val (.long c3), .second, .val (.int c4), .val (.int c5), .val (.long c6), .second, .val (.long c7), .second, .val (.long c8), .second, .val (.ref c9)] [(.ref c1), (.ref a1)]))
  have f_5 : Exa Z h_2 a1 "com/example/lahetti/lahetti/protocol/PullRequestHeader" := (E1.wr W_2)
  have f_6 : Fld Z h_2 a1 "com/example/lahetti/lahetti/protocol/PullRequestHeader" "topic" "Ljava/lang/String;" .null := (F1.other W_2 (Or.inr (slot_ne (Or.inr (hw _ (List.mem_of_getElem? (i := 47) rfl))) (Or.inr (hw _ (List.mem_of_getElem? (i := 45) rfl))) (by decide) (t := (.object "java/lang/String")) (t' := (.object "java/lang/String")) (by decide) (by decide))))
  obtain ⟨T_7, h_7, X_7, e_7, W_7, st_7⟩ := putF X_2 hx hZ hown (host := "") (Or.inl (hw _ (List.mem_of_getElem? (i := 46) rfl))) Via.refl e_2 f_6 f_5 (Or.inr ⟨(hw _ (List.mem_of_getElem? (i := 47) rfl)), rfl, hnm⟩) (hw _ (List.mem_of_getElem? (i := 2) rfl)) (ty := (.object "java/lang/String")) (by decide) rfl rfl (g := (mkF m 11 #[.val (.ref a1), .val (.ref c0), .val (.ref c1), .val (.int c2), .val (.long c3), .second, .val (.int c4), .val (.int c5), .val (.long c6), .second, .val (.long c7), .second, .val (.long c8), .second, .val (.ref c9)] [(.ref c1), (.ref a1)])) rfl rfl (hb hby d8_11)
  refine OGo.to st_7 ?_
  have Fw_7 : Fld Z h_7 a1 "com/example/lahetti/lahetti/protocol/PullRequestHeader" "topic" "Ljava/lang/String;" (.ref c1) := f_6.same W_7
  have N_7 := Fr.snoc X_7 N_2 g1
  have z_8 : n0 ≤ h_7.size := Nat.le_trans z_3 (Keep.of_wr W_7).1
  have K_9 : Keep h0 h_7 [a1] := K_4.wr W_7 (Or.inl (List.mem_of_getElem? (i := 0) rfl))
  show OGo p e below _ (T_7.setTop (mkF m 14 #[.val (.ref a1), .val (.ref c0), .val (.ref c1), .val (.int c2), .val (.long c3), .second, .val (.int c4), .val (.int c5), .val (.long c6), .second, .val (.long c7), .second, .val (.long c8), .second, .val (.ref c9)] []))
  refine OGo.to (fun _ k => XS.aloadN X_7.here hx rfl (hb hby d8_14) rfl rfl k) ?_
  show OGo p e below _ (T_7.setTop (mkF m 15 #[.val (.ref a1), .val (.ref c0), .val (.ref c1), .val (.int c2), .val (.long c3), .second, .val (.int c4), .val (.int c5), .val (.long c6), .second, .val (.long c7), .second, .val (.long c8), .second, .val (.ref c9)] [(.ref a1)]))
  refine OGo.to (fun _ k => XS.iloadN X_7.here hx rfl (hb hby d8_15) rfl k) ?_
  show OGo p e below _ (T_7.setTop (mkF m 16 #[.val (.ref a1), .val (.ref c0), .val (.ref c1), .val (.int c2), .val (.long c3), .second, .val (.int c4), .val (.int c5), .val (.long c6), .second, .val (.long c7), .second, .val (.long c8), .second, .val (.ref c9)] [(.int c2), (.ref a1)]))
  have f_10 : Exa Z h_7 a1 "com/example/lahetti/lahetti/protocol/PullRequestHeader" := (f_5.wr W_7)
  have f_11 : Fld Z h_7 a1 "com/example/lahetti/lahetti/protocol/PullRequestHeader" "queueId" "I" (.int (0 : Int32)) := ((F2.other W_2 (Or.inr (slot_ne (Or.inr (hw _ (List.mem_of_getElem? (i := 49) rfl))) (Or.inr (hw _ (List.mem_of_getElem? (i := 45) rfl))) (by decide) (t := .int) (t' := (.object "java/lang/String")) (by decide) (by decide)))).other W_7 (Or.inr (slot_ne (Or.inr (hw _ (List.mem_of_getElem? (i := 49) rfl))) (Or.inr (hw _ (List.mem_of_getElem? (i := 47) rfl))) (by decide) (t := .int) (t' := (.object "java/lang/String")) (by decide) (by decide))))
  obtain ⟨T_12, h_12, X_12, e_12, W_12, st_12⟩ := putF X_7 hx hZ hown (host := "") (Or.inl (hw _ (List.mem_of_getElem? (i := 48) rfl))) Via.refl e_7 f_11 f_10 (Or.inr ⟨(hw _ (List.mem_of_getElem? (i := 49) rfl)), rfl, hnm⟩) (hw _ (List.mem_of_getElem? (i := 2) rfl)) (ty := .int) (by decide) rfl rfl (g := (mkF m 16 #[.val (.ref a1), .val (.ref c0), .val (.ref c1), .val (.int c2), .val (.long c3), .second, .val (.int c4), .val (.int c5), .val (.long c6), .second, .val (.long c7), .second, .val (.long c8), .second, .val (.ref c9)] [(.int c2), (.ref a1)])) rfl rfl (hb hby d8_16)
  refine OGo.to st_12 ?_
  have Fw_12 : Fld Z h_12 a1 "com/example/lahetti/lahetti/protocol/PullRequestHeader" "queueId" "I" (.int c2) := f_11.same W_12
  have N_12 := Fr.snoc X_12 N_7 g1
  have z_13 : n0 ≤ h_12.size := Nat.le_trans z_8 (Keep.of_wr W_12).1
  have K_14 : Keep h0 h_12 [a1] := K_9.wr W_12 (Or.inl (List.mem_of_getElem? (i := 0) rfl))
  show OGo p e below _ (T_12.setTop (mkF m 19 #[.val (.ref a1), .val (.ref c0), .val (.ref c1), .val (.int c2), .val (.long c3), .second, .val (.int c4), .val (.int c5), .val (.long c6), .second, .val (.long c7), .second, .val (.long c8), .second, .val (.ref c9)] []))
  refine OGo.to (fun _ k => XS.aloadN X_12.here hx rfl (hb hby d8_19) rfl rfl k) ?_
  show OGo p e below _ (T_12.setTop (mkF m 20 #[.val (.ref a1), .val (.ref c0), .val (.ref c1), .val (.int c2), .val (.long c3), .second, .val (.int c4), .val (.int c5), .val (.long c6), .second, .val (.long c7), .second, .val (.long c8), .second, .val (.ref c9)] [(.ref a1)]))
  refine OGo.to (fun _ k => XS.lload X_12.here hx rfl (hb hby d8_20) rfl k) ?_
  show OGo p e below _ (T_12.setTop (mkF m 22 #[.val (.ref a1), .val (.ref c0), .val (.ref c1), .val (.int c2), .val (.long c3), .second, .val (.int c4), .val (.int c5), .val (.long c6), .second, .val (.long c7), .second, .val (.long c8), .second, .val (.ref c9)] [(.long c3), (.ref a1)]))
  have f_15 : Exa Z h_12 a1 "com/example/lahetti/lahetti/protocol/PullRequestHeader" := (f_10.wr W_12)
  have f_16 : Fld Z h_12 a1 "com/example/lahetti/lahetti/protocol/PullRequestHeader" "queueOffset" "J" (.long (0 : Int64)) := (((F3.other W_2 (Or.inr (slot_ne (Or.inr (hw _ (List.mem_of_getElem? (i := 51) rfl))) (Or.inr (hw _ (List.mem_of_getElem? (i := 45) rfl))) (by decide) (t := .long) (t' := (.object "java/lang/String")) (by decide) (by decide)))).other W_7 (Or.inr (slot_ne (Or.inr (hw _ (List.mem_of_getElem? (i := 51) rfl))) (Or.inr (hw _ (List.mem_of_getElem? (i := 47) rfl))) (by decide) (t := .long) (t' := (.object "java/lang/String")) (by decide) (by decide)))).other W_12 (Or.inr (slot_ne (Or.inr (hw _ (List.mem_of_getElem? (i := 51) rfl))) (Or.inr (hw _ (List.mem_of_getElem? (i := 49) rfl))) (by decide) (t := .long) (t' := .int) (by decide) (by decide))))
  obtain ⟨T_17, h_17, X_17, e_17, W_17, st_17⟩ := putF X_12 hx hZ hown (host := "") (Or.inl (hw _ (List.mem_of_getElem? (i := 50) rfl))) Via.refl e_12 f_16 f_15 (Or.inr ⟨(hw _ (List.mem_of_getElem? (i := 51) rfl)), rfl, hnm⟩) (hw _ (List.mem_of_getElem? (i := 2) rfl)) (ty := .long) (by decide) rfl rfl (g := (mkF m 22 #[.val (.ref a1), .val (.ref c0), .val (.ref c1), .val (.int c2), .val (.long c3), .second, .val (.int c4), .val (.int c5), .val (.long c6), .second, .val (.long c7), .second, .val (.long c8), .second, .val (.ref c9)] [(.long c3), (.ref a1)])) rfl rfl (hb hby d8_22)
  refine OGo.to st_17 ?_
  have Fw_17 : Fld Z h_17 a1 "com/example/lahetti/lahetti/protocol/PullRequestHeader" "queueOffset" "J" (.long c3) := f_16.same W_17
  have N_17 := Fr.snoc X_17 N_12 g1
  have z_18 : n0 ≤ h_17.size := Nat.le_trans z_13 (Keep.of_wr W_17).1
  have K_19 : Keep h0 h_17 [a1] := K_14.wr W_17 (Or.inl (List.mem_of_getElem? (i := 0) rfl))
  show OGo p e below _ (T_17.setTop (mkF m 25 #[.val (.ref a1), .val (.ref c0), .val (.ref c1), .val (.int c2), .val (.long c3), .second, .val (.int c4), .val (.int c5), .val (.long c6), .second, .val (.long c7), .second, .val (.long c8), .second, .val (.ref c9)] []))
  refine OGo.to (fun _ k => XS.aloadN X_17.here hx rfl (hb hby d8_25) rfl rfl k) ?_
  show OGo p e below _ (T_17.setTop (mkF m 26 #[.val (.ref a1), .val (.ref c0), .val (.ref c1), .val (.int c2), .val (.long c3), .second, .val (.int c4), .val (.int c5), .val (.long c6), .second, .val (.long c7), .second, .val (.long c8), .second, .val (.ref c9)] [(.ref a1)]))
  refine OGo.to (fun _ k => XS.iload X_17.here hx rfl (hb hby d8_26) rfl k) ?_
  show OGo p e below _ (T_17.setTop (mkF m 28 #[.val (.ref a1), .val (.ref c0), .val (.ref c1), .val (.int c2), .val (.long c3), .second, .val (.int c4), .val (.int c5), .val (.long c6), .second, .val (.long c7), .second, .val (.long c8), .second, .val (.ref c9)] [(.int c4), (.ref a1)]))
  have f_20 : Exa Z h_17 a1 "com/example/lahetti/lahetti/protocol/PullRequestHeader" := (f_15.wr W_17)
  have f_21 : Fld Z h_17 a1 "com/example/lahetti/lahetti/protocol/PullRequestHeader" "maxMsgNums" "I" (.int (0 : Int32)) := ((((F4.other W_2 (Or.inr (slot_ne (Or.inr (hw _ (List.mem_of_getElem? (i := 53) rfl))) (Or.inr (hw _ (List.mem_of_getElem? (i := 45) rfl))) (by decide) (t := .int) (t' := (.object "java/lang/String")) (by decide) (by decide)))).other W_7 (Or.inr (slot_ne (Or.inr (hw _ (List.mem_of_getElem? (i := 53) rfl))) (Or.inr (hw _ (List.mem_of_getElem? (i := 47) rfl))) (by decide) (t := .int) (t' := (.object "java/lang/String")) (by decide) (by decide)))).other W_12 (Or.inr (slot_ne (Or.inr (hw _ (List.mem_of_getElem? (i := 53) rfl))) (Or.inr (hw _ (List.mem_of_getElem? (i := 49) rfl))) (by decide) (t := .int) (t' := .int) (by decide) (by decide)))).other W_17 (Or.inr (slot_ne (Or.inr (hw _ (List.mem_of_getElem? (i := 53) rfl))) (Or.inr (hw _ (List.mem_of_getElem? (i := 51) rfl))) (by decide) (t := .int) (t' := .long) (by decide) (by decide))))
  obtain ⟨T_22, h_22, X_22, e_22, W_22, st_22⟩ := putF X_17 hx hZ hown (host := "") (Or.inl (hw _ (List.mem_of_getElem? (i := 52) rfl))) Via.refl e_17 f_21 f_20 (Or.inr ⟨(hw _ (List.mem_of_getElem? (i := 53) rfl)), rfl, hnm⟩) (hw _ (List.mem_of_getElem? (i := 2) rfl)) (ty := .int) (by decide) rfl rfl (g := (mkF m 28 #[.val (.ref a1), .val (.ref c0), .val (.ref c1), .val (.int c2), .val (.long c3), .second, .val (.int c4), .val (.int c5), .val (.long c6), .second, .val (.long c7), .second, .val (.long c8), .second, .val (.ref c9)] [(.int c4), (.ref a1)])) rfl rfl (hb hby d8_28)
  refine OGo.to st_22 ?_
  have Fw_22 : Fld Z h_22 a1 "com/example/lahetti/lahetti/protocol/PullRequestHeader" "maxMsgNums" "I" (.int c4) := f_21.same W_22
  have N_22 := Fr.snoc X_22 N_17 g1
  have z_23 : n0 ≤ h_22.size := Nat.le_trans z_18 (Keep.of_wr W_22).1
  have K_24 : Keep h0 h_22 [a1] := K_19.wr W_22 (Or.inl (List.mem_of_getElem? (i := 0) rfl))
  show OGo p e below _ (T_22.setTop (mkF m 31 #[.val (.ref a1), .val (.ref c0), .val (.ref c1), .val (.int c2), .val (.long c3), .second, .val (.int c4), .val (.int c5), .val (.long c6), .second, .val (.long c7), .second, .val (.long c8), .second, .val (.ref c9)] []))
  refine OGo.to (fun _ k => XS.aloadN X_22.here hx rfl (hb hby d8_31) rfl rfl k) ?_
  show OGo p e below _ (T_22.setTop (mkF m 32 #[.val (.ref a1), .val (.ref c0), .val (.ref c1), .val (.int c2), .val (.long c3), .second, .val (.int c4), .val (.int c5), .val (.long c6), .second, .val (.long c7), .second, .val (.long c8), .second, .val (.ref c9)] [(.ref a1)]))
  refine OGo.to (fun _ k => XS.iload X_22.here hx rfl (hb hby d8_32) rfl k) ?_
  show OGo p e below _ (T_22.setTop (mkF m 34 #[.val (.ref a1), .val (.ref c0), .val (.ref c1), .val (.int c2), .val (.long c3), .second, .val (.int c4), .val (.int c5), .val (.long c6), .second, .val (.long c7), .second, .val (.long c8), .second, .val (.ref c9)] [(.int c5), (.ref a1)]))
  have f_25 : Exa Z h_22 a1 "com/example/lahetti/lahetti/protocol/PullRequestHeader" := (f_20.wr W_22)
  have f_26 : Fld Z h_22 a1 "com/example/lahetti/lahetti/protocol/PullRequestHeader" "sysFlag" "I" (.int (0 : Int32)) := (((((F5.other W_2 (Or.inr (slot_ne (Or.inr (hw _ (List.mem_of_getElem? (i := 55) rfl))) (Or.inr (hw _ (List.mem_of_getElem? (i := 45) rfl))) (by decide) (t := .int) (t' := (.object "java/lang/String")) (by decide) (by decide)))).other W_7 (Or.inr (slot_ne (Or.inr (hw _ (List.mem_of_getElem? (i := 55) rfl))) (Or.inr (hw _ (List.mem_of_getElem? (i := 47) rfl))) (by decide) (t := .int) (t' := (.object "java/lang/String")) (by decide) (by decide)))).other W_12 (Or.inr (slot_ne (Or.inr (hw _ (List.mem_of_getElem? (i := 55) rfl))) (Or.inr (hw _ (List.mem_of_getElem? (i := 49) rfl))) (by decide) (t := .int) (t' := .int) (by decide) (by decide)))).other W_17 (Or.inr (slot_ne (Or.inr (hw _ (List.mem_of_getElem? (i := 55) rfl))) (Or.inr (hw _ (List.mem_of_getElem? (i := 51) rfl))) (by decide) (t := .int) (t' := .long) (by decide) (by decide)))).other W_22 (Or.inr (slot_ne (Or.inr (hw _ (List.mem_of_getElem? (i := 55) rfl))) (Or.inr (hw _ (List.mem_of_getElem? (i := 53) rfl))) (by decide) (t := .int) (t' := .int) (by decide) (by decide))))
  obtain ⟨T_27, h_27, X_27, e_27, W_27, st_27⟩ := putF X_22 hx hZ hown (host := "") (Or.inl (hw _ (List.mem_of_getElem? (i := 54) rfl))) Via.refl e_22 f_26 f_25 (Or.inr ⟨(hw _ (List.mem_of_getElem? (i := 55) rfl)), rfl, hnm⟩) (hw _ (List.mem_of_getElem? (i := 2) rfl)) (ty := .int) (by decide) rfl rfl (g := (mkF m 34 #[.val (.ref a1), .val (.ref c0), .val (.ref c1), .val (.int c2), .val (.long c3), .second, .val (.int c4), .val (.int c5), .val (.long c6), .second, .val (.long c7), .second, .val (.long c8), .second, .val (.ref c9)] [(.int c5), (.ref a1)])) rfl rfl (hb hby d8_34)
  refine OGo.to st_27 ?_
  have Fw_27 : Fld Z h_27 a1 "com/example/lahetti/lahetti/protocol/PullRequestHeader" "sysFlag" "I" (.int c5) := f_26.same W_27
  have N_27 := Fr.snoc X_27 N_22 g1
  have z_28 : n0 ≤ h_27.size := Nat.le_trans z_23 (Keep.of_wr W_27).1
  have K_29 : Keep h0 h_27 [a1] := K_24.wr W_27 (Or.inl (List.mem_of_getElem? (i := 0) rfl))
  show OGo p e below _ (T_27.setTop (mkF m 37 #[.val (.ref a1), .val (.ref c0), .val (.ref c1), .val (.int c2), .val (.long c3), .second, .val (.int c4), .val (.int c5), .val (.long c6), .second, .val (.long c7), .second, .val (.long c8), .second, .val (.ref c9)] []))
  refine OGo.to (fun _ k => XS.aloadN X_27.here hx rfl (hb hby d8_37) rfl rfl k) ?_
  show OGo p e below _ (T_27.setTop (mkF m 38 #[.val (.ref a1), .val (.ref c0), .val (.ref c1), .val (.int c2), .val (.long c3), .second, .val (.int c4), .val (.int c5), .val (.long c6), .second, .val (.long c7), .second, .val (.long c8), .second, .val (.ref c9)] [(.ref a1)]))
  refine OGo.to (fun _ k => XS.lload X_27.here hx rfl (hb hby d8_38) rfl k) ?_
  show OGo p e below _ (T_27.setTop (mkF m 40 #[.val (.ref a1), .val (.ref c0), .val (.ref c1), .val (.int c2), .val (.long c3), .second, .val (.int c4), .val (.int c5), .val (.long c6), .second, .val (.long c7), .second, .val (.long c8), .second, .val (.ref c9)] [(.long c6), (.ref a1)]))
  have f_30 : Exa Z h_27 a1 "com/example/lahetti/lahetti/protocol/PullRequestHeader" := (f_25.wr W_27)
  have f_31 : Fld Z h_27 a1 "com/example/lahetti/lahetti/protocol/PullRequestHeader" "commitOffset" "J" (.long (0 : Int64)) := ((((((F6.other W_2 (Or.inr (slot_ne (Or.inr (hw _ (List.mem_of_getElem? (i := 57) rfl))) (Or.inr (hw _ (List.mem_of_getElem? (i := 45) rfl))) (by decide) (t := .long) (t' := (.object "java/lang/String")) (by decide) (by decide)))).other W_7 (Or.inr (slot_ne (Or.inr (hw _ (List.mem_of_getElem? (i := 57) rfl))) (Or.inr (hw _ (List.mem_of_getElem? (i := 47) rfl))) (by decide) (t := .long) (t' := (.object "java/lang/String")) (by decide) (by decide)))).other W_12 (Or.inr (slot_ne (Or.inr (hw _ (List.mem_of_getElem? (i := 57) rfl))) (Or.inr (hw _ (List.mem_of_getElem? (i := 49) rfl))) (by decide) (t := .long) (t' := .int) (by decide) (by decide)))).other W_17 (Or.inr (slot_ne (Or.inr (hw _ (List.mem_of_getElem? (i := 57) rfl))) (Or.inr (hw _ (List.mem_of_getElem? (i := 51) rfl))) (by decide) (t := .long) (t' := .long) (by decide) (by decide)))).other W_22 (Or.inr (slot_ne (Or.inr (hw _ (List.mem_of_getElem? (i := 57) rfl))) (Or.inr (hw _ (List.mem_of_getElem? (i := 53) rfl))) (by decide) (t := .long) (t' := .int) (by decide) (by decide)))).other W_27 (Or.inr (slot_ne (Or.inr (hw _ (List.mem_of_getElem? (i := 57) rfl))) (Or.inr (hw _ (List.mem_of_getElem? (i := 55) rfl))) (by decide) (t := .long) (t' := .int) (by decide) (by decide))))
  obtain ⟨T_32, h_32, X_32, e_32, W_32, st_32⟩ := putF X_27 hx hZ hown (host := "") (Or.inl (hw _ (List.mem_of_getElem? (i := 56) rfl))) Via.refl e_27 f_31 f_30 (Or.inr ⟨(hw _ (List.mem_of_getElem? (i := 57) rfl)), rfl, hnm⟩) (hw _ (List.mem_of_getElem? (i := 2) rfl)) (ty := .long) (by decide) rfl rfl (g := (mkF m 40 #[.val (.ref a1), .val (.ref c0), .val (.ref c1), .val (.int c2), .val (.long c3), .second, .val (.int c4), .val (.int c5), .val (.long c6), .second, .val (.long c7), .second, .val (.long c8), .second, .val (.ref c9)] [(.long c6), (.ref a1)])) rfl rfl (hb hby d8_40)
  refine OGo.to st_32 ?_
  have Fw_32 : Fld Z h_32 a1 "com/example/lahetti/lahetti/protocol/PullRequestHeader" "commitOffset" "J" (.long c6) := f_31.same W_32
  have N_32 := Fr.snoc X_32 N_27 g1
  have z_33 : n0 ≤ h_32.size := Nat.le_trans z_28 (Keep.of_wr W_32).1
  have K_34 : Keep h0 h_32 [a1] := K_29.wr W_32 (Or.inl (List.mem_of_getElem? (i := 0) rfl))
  show OGo p e below _ (T_32.setTop (mkF m 43 #[.val (.ref a1), .val (.ref c0), .val (.ref c1), .val (.int c2), .val (.long c3), .second, .val (.int c4), .val (.int c5), .val (.long c6), .second, .val (.long c7), .second, .val (.long c8), .second, .val (.ref c9)] []))
  refine OGo.to (fun _ k => XS.aloadN X_32.here hx rfl (hb hby d8_43) rfl rfl k) ?_
  show OGo p e below _ (T_32.setTop (mkF m 44 #[.val (.ref a1), .val (.ref c0), .val (.ref c1), .val (.int c2), .val (.long c3), .second, .val (.int c4), .val (.int c5), .val (.long c6), .second, .val (.long c7), .second, .val (.long c8), .second, .val (.ref c9)] [(.ref a1)]))
  refine OGo.to (fun _ k => XS.lload X_32.here hx rfl (hb hby d8_44) rfl k) ?_
  show OGo p e below _ (T_32.setTop (mkF m 46 #[.val (.ref a1), .val (.ref c0), .val (.ref c1), .val (.int c2), .val (.long c3), .second, .val (.int c4), .val (.int c5), .val (.long c6), .second, .val (.long c7), .second, .val (.long c8), .second, .val (.ref c9)] [(.long c7), (.ref a1)]))
  have f_35 : Exa Z h_32 a1 "com/example/lahetti/lahetti/protocol/PullRequestHeader" := (f_30.wr W_32)
  have f_36 : Fld Z h_32 a1 "com/example/lahetti/lahetti/protocol/PullRequestHeader" "suspendTimeoutMillis" "J" (.long (0 : Int64)) := (((((((F7.other W_2 (Or.inr (slot_ne (Or.inr (hw _ (List.mem_of_getElem? (i := 59) rfl))) (Or.inr (hw _ (List.mem_of_getElem? (i := 45) rfl))) (by decide) (t := .long) (t' := (.object "java/lang/String")) (by decide) (by decide)))).other W_7 (Or.inr (slot_ne (Or.inr (hw _ (List.mem_of_getElem? (i := 59) rfl))) (Or.inr (hw _ (List.mem_of_getElem? (i := 47) rfl))) (by decide) (t := .long) (t' := (.object "java/lang/String")) (by decide) (by decide)))).other W_12 (Or.inr (slot_ne (Or.inr (hw _ (List.mem_of_getElem? (i := 59) rfl))) (Or.inr (hw _ (List.mem_of_getElem? (i := 49) rfl))) (by decide) (t := .long) (t' := .int) (by decide) (by decide)))).other W_17 (Or.inr (slot_ne (Or.inr (hw _ (List.mem_of_getElem? (i := 59) rfl))) (Or.inr (hw _ (List.mem_of_getElem? (i := 51) rfl))) (by decide) (t := .long) (t' := .long) (by decide) (by decide)))).other W_22 (Or.inr (slot_ne (Or.inr (hw _ (List.mem_of_getElem? (i := 59) rfl))) (Or.inr (hw _ (List.mem_of_getElem? (i := 53) rfl))) (by decide) (t := .long) (t' := .int) (by decide) (by decide)))).other W_27 (Or.inr (slot_ne (Or.inr (hw _ (List.mem_of_getElem? (i := 59) rfl))) (Or.inr (hw _ (List.mem_of_getElem? (i := 55) rfl))) (by decide) (t := .long) (t' := .int) (by decide) (by decide)))).other W_32 (Or.inr (slot_ne (Or.inr (hw _ (List.mem_of_getElem? (i := 59) rfl))) (Or.inr (hw _ (List.mem_of_getElem? (i := 57) rfl))) (by decide) (t := .long) (t' := .long) (by decide) (by decide))))
  obtain ⟨T_37, h_37, X_37, e_37, W_37, st_37⟩ := putF X_32 hx hZ hown (host := "") (Or.inl (hw _ (List.mem_of_getElem? (i := 58) rfl))) Via.refl e_32 f_36 f_35 (Or.inr ⟨(hw _ (List.mem_of_getElem? (i := 59) rfl)), rfl, hnm⟩) (hw _ (List.mem_of_getElem? (i := 2) rfl)) (ty := .long) (by decide) rfl rfl (g := (mkF m 46 #[.val (.ref a1), .val (.ref c0), .val (.ref c1), .val (.int c2), .val (.long c3), .second, .val (.int c4), .val (.int c5), .val (.long c6), .second, .val (.long c7), .second, .val (.long c8), .second, .val (.ref c9)] [(.long c7), (.ref a1)])) rfl rfl (hb hby d8_46)
  refine OGo.to st_37 ?_
  have Fw_37 : Fld Z h_37 a1 "com/example/lahetti/lahetti/protocol/PullRequestHeader" "suspendTimeoutMillis" "J" (.long c7) := f_36.same W_37
  have N_37 := Fr.snoc X_37 N_32 g1
  have z_38 : n0 ≤ h_37.size := Nat.le_trans z_33 (Keep.of_wr W_37).1
  have K_39 : Keep h0 h_37 [a1] := K_34.wr W_37 (Or.inl (List.mem_of_getElem? (i := 0) rfl))
  show OGo p e below _ (T_37.setTop (mkF m 49 #[.val (.ref a1), .val (.ref c0), .val (.ref c1), .val (.int c2), .val (.long c3), .second, .val (.int c4), .val (.int c5), .val (.long c6), .second, .val (.long c7), .second, .val (.long c8), .second, .val (.ref c9)] []))
  refine OGo.to (fun _ k => XS.aloadN X_37.here hx rfl (hb hby d8_49) rfl rfl k) ?_
  show OGo p e below _ (T_37.setTop (mkF m 50 #[.val (.ref a1), .val (.ref c0), .val (.ref c1), .val (.int c2), .val (.long c3), .second, .val (.int c4), .val (.int c5), .val (.long c6), .second, .val (.long c7), .second, .val (.long c8), .second, .val (.ref c9)] [(.ref a1)]))
  refine OGo.to (fun _ k => XS.lload X_37.here hx rfl (hb hby d8_50) rfl k) ?_
  show OGo p e below _ (T_37.setTop (mkF m 52 #[.val (.ref a1), .val (.ref c0), .val (.ref c1), .val (.int c2), .val (.long c3), .second, .val (.int c4), .val (.int c5), .val (.long c6), .second, .val (.long c7), .second, .val (.long c8), .second, .val (.ref c9)] [(.long c8), (.ref a1)]))
  have f_40 : Exa Z h_37 a1 "com/example/lahetti/lahetti/protocol/PullRequestHeader" := (f_35.wr W_37)
  have f_41 : Fld Z h_37 a1 "com/example/lahetti/lahetti/protocol/PullRequestHeader" "subVersion" "J" (.long (0 : Int64)) := ((((((((F8.other W_2 (Or.inr (slot_ne (Or.inr (hw _ (List.mem_of_getElem? (i := 61) rfl))) (Or.inr (hw _ (List.mem_of_getElem? (i := 45) rfl))) (by decide) (t := .long) (t' := (.object "java/lang/String")) (by decide) (by decide)))).other W_7 (Or.inr (slot_ne (Or.inr (hw _ (List.mem_of_getElem? (i := 61) rfl))) (Or.inr (hw _ (List.mem_of_getElem? (i := 47) rfl))) (by decide) (t := .long) (t' := (.object "java/lang/String")) (by decide) (by decide)))).other W_12 (Or.inr (slot_ne (Or.inr (hw _ (List.mem_of_getElem? (i := 61) rfl))) (Or.inr (hw _ (List.mem_of_getElem? (i := 49) rfl))) (by decide) (t := .long) (t' := .int) (by decide) (by decide)))).other W_17 (Or.inr (slot_ne (Or.inr (hw _ (List.mem_of_getElem? (i := 61) rfl))) (Or.inr (hw _ (List.mem_of_getElem? (i := 51) rfl))) (by decide) (t := .long) (t' := .long) (by decide) (by decide)))).other W_22 (Or.inr (slot_ne (Or.inr (hw _ (List.mem_of_getElem? (i := 61) rfl))) (Or.inr (hw _ (List.mem_of_getElem? (i := 53) rfl))) (by decide) (t := .long) (t' := .int) (by decide) (by decide)))).other W_27 (Or.inr (slot_ne (Or.inr (hw _ (List.mem_of_getElem? (i := 61) rfl))) (Or.inr (hw _ (List.mem_of_getElem? (i := 55) rfl))) (by decide) (t := .long) (t' := .int) (by decide) (by decide)))).other W_32 (Or.inr (slot_ne (Or.inr (hw _ (List.mem_of_getElem? (i := 61) rfl))) (Or.inr (hw _ (List.mem_of_getElem? (i := 57) rfl))) (by decide) (t := .long) (t' := .long) (by decide) (by decide)))).other W_37 (Or.inr (slot_ne (Or.inr (hw _ (List.mem_of_getElem? (i := 61) rfl))) (Or.inr (hw _ (List.mem_of_getElem? (i := 59) rfl))) (by decide) (t := .long) (t' := .long) (by decide) (by decide))))
  obtain ⟨T_42, h_42, X_42, e_42, W_42, st_42⟩ := putF X_37 hx hZ hown (host := "") (Or.inl (hw _ (List.mem_of_getElem? (i := 60) rfl))) Via.refl e_37 f_41 f_40 (Or.inr ⟨(hw _ (List.mem_of_getElem? (i := 61) rfl)), rfl, hnm⟩) (hw _ (List.mem_of_getElem? (i := 2) rfl)) (ty := .long) (by decide) rfl rfl (g := (mkF m 52 #[.val (.ref a1), .val (.ref c0), .val (.ref c1), .val (.int c2), .val (.long c3), .second, .val (.int c4), .val (.int c5), .val (.long c6), .second, .val (.long c7), .second, .val (.long c8), .second, .val (.ref c9)] [(.long c8), (.ref a1)])) rfl rfl (hb hby d8_52)
  refine OGo.to st_42 ?_
  have Fw_42 : Fld Z h_42 a1 "com/example/lahetti/lahetti/protocol/PullRequestHeader" "subVersion" "J" (.long c8) := f_41.same W_42
  have N_42 := Fr.snoc X_42 N_37 g1
  have z_43 : n0 ≤ h_42.size := Nat.le_trans z_38 (Keep.of_wr W_42).1
  have K_44 : Keep h0 h_42 [a1] := K_39.wr W_42 (Or.inl (List.mem_of_getElem? (i := 0) rfl))
  show OGo p e below _ (T_42.setTop (mkF m 55 #[.val (.ref a1), .val (.ref c0), .val (.ref c1), .val (.int c2), .val (.long c3), .second, .val (.int c4), .val (.int c5), .val (.long c6), .second, .val (.long c7), .second, .val (.long c8), .second, .val (.ref c9)] []))
  refine OGo.to (fun _ k => XS.aloadN X_42.here hx rfl (hb hby d8_55) rfl rfl k) ?_
  show OGo p e below _ (T_42.setTop (mkF m 56 #[.val (.ref a1), .val (.ref c0), .val (.ref c1), .val (.int c2), .val (.long c3), .second, .val (.int c4), .val (.int c5), .val (.long c6), .second, .val (.long c7), .second, .val (.long c8), .second, .val (.ref c9)] [(.ref a1)]))
  refine OGo.to (fun _ k => XS.aload X_42.here hx rfl (hb hby d8_56) rfl rfl k) ?_
  show OGo p e below _ (T_42.setTop (mkF m 58 #[.val (.ref a1), .val (.ref c0), .val (.ref c1), .val (.int c2), .val (.long c3), .second, .val (.int c4), .val (.int c5), .val (.long c6), .second, .val (.long c7), .second, .val (.long c8), .second, .val (.ref c9)] [(.ref c9), (.ref a1)]))
  have f_45 : Exa Z h_42 a1 "com/example/lahetti/lahetti/protocol/PullRequestHeader" := (f_40.wr W_42)
  have f_46 : Fld Z h_42 a1 "com/example/lahetti/lahetti/protocol/PullRequestHeader" "expressionType" "Ljava/lang/String;" .null := (((((((((F9.other W_2 (Or.inr (slot_ne (Or.inr (hw _ (List.mem_of_getElem? (i := 63) rfl))) (Or.inr (hw _ (List.mem_of_getElem? (i := 45) rfl))) (by decide) (t := (.object "java/lang/String")) (t' := (.object "java/lang/String")) (by decide) (by decide)))).other W_7 (Or.inr (slot_ne (Or.inr (hw _ (List.mem_of_getElem? (i := 63) rfl))) (Or.inr (hw _ (List.mem_of_getElem? (i := 47) rfl))) (by decide) (t := (.object "java/lang/String")) (t' := (.object "java/lang/String")) (by decide) (by decide)))).other W_12 (Or.inr (slot_ne (Or.inr (hw _ (List.mem_of_getElem? (i := 63) rfl))) (Or.inr (hw _ (List.mem_of_getElem? (i := 49) rfl))) (by decide) (t := (.object "java/lang/String")) (t' := .int) (by decide) (by decide)))).other W_17 (Or.inr (slot_ne (Or.inr (hw _ (List.mem_of_getElem? (i := 63) rfl))) (Or.inr (hw _ (List.mem_of_getElem? (i := 51) rfl))) (by decide) (t := (.object "java/lang/String")) (t' := .long) (by decide) (by decide)))).other W_22 (Or.inr (slot_ne (Or.inr (hw _ (List.mem_of_getElem? (i := 63) rfl))) (Or.inr (hw _ (List.mem_of_getElem? (i := 53) rfl))) (by decide) (t := (.object "java/lang/String")) (t' := .int) (by decide) (by decide)))).other W_27 (Or.inr (slot_ne (Or.inr (hw _ (List.mem_of_getElem? (i := 63) rfl))) (Or.inr (hw _ (List.mem_of_getElem? (i := 55) rfl))) (by decide) (t := (.object "java/lang/String")) (t' := .int) (by decide) (by decide)))).other W_32 (Or.inr (slot_ne (Or.inr (hw _ (List.mem_of_getElem? (i := 63) rfl))) (Or.inr (hw _ (List.mem_of_getElem? (i := 57) rfl))) (by decide) (t := (.object "java/lang/String")) (t' := .long) (by decide) (by decide)))).other W_37 (Or.inr (slot_ne (Or.inr (hw _ (List.mem_of_getElem? (i := 63) rfl))) (Or.inr (hw _ (List.mem_of_getElem? (i := 59) rfl))) (by decide) (t := (.object "java/lang/String")) (t' := .long) (by decide) (by decide)))).other W_42 (Or.inr (slot_ne (Or.inr (hw _ (List.mem_of_getElem? (i := 63) rfl))) (Or.inr (hw _ (List.mem_of_getElem? (i := 61) rfl))) (by decide) (t := (.object "java/lang/String")) (t' := .long) (by decide) (by decide))))
  obtain ⟨T_47, h_47, X_47, e_47, W_47, st_47⟩ := putF X_42 hx hZ hown (host := "") (Or.inl (hw _ (List.mem_of_getElem? (i := 62) rfl))) Via.refl e_42 f_46 f_45 (Or.inr ⟨(hw _ (List.mem_of_getElem? (i := 63) rfl)), rfl, hnm⟩) (hw _ (List.mem_of_getElem? (i := 2) rfl)) (ty := (.object "java/lang/String")) (by decide) rfl rfl (g := (mkF m 58 #[.val (.ref a1), .val (.ref c0), .val (.ref c1), .val (.int c2), .val (.long c3), .second, .val (.int c4), .val (.int c5), .val (.long c6), .second, .val (.long c7), .second, .val (.long c8), .second, .val (.ref c9)] [(.ref c9), (.ref a1)])) rfl rfl (hb hby d8_58)
  refine OGo.to st_47 ?_
  have Fw_47 : Fld Z h_47 a1 "com/example/lahetti/lahetti/protocol/PullRequestHeader" "expressionType" "Ljava/lang/String;" (.ref c9) := f_46.same W_47
  have N_47 := Fr.snoc X_47 N_42 g1
  have z_48 : n0 ≤ h_47.size := Nat.le_trans z_43 (Keep.of_wr W_47).1
  have K_49 : Keep h0 h_47 [a1] := K_44.wr W_47 (Or.inl (List.mem_of_getElem? (i := 0) rfl))
  show OGo p e below _ (T_47.setTop (mkF m 61 #[.val (.ref a1), .val (.ref c0), .val (.ref c1), .val (.int c2), .val (.long c3), .second, .val (.int c4), .val (.int c5), .val (.long c6), .second, .val (.long c7), .second, .val (.long c8), .second, .val (.ref c9)] []))
  refine OGo.ret (Q := Qc2 Z a1 c0 c1 c2 c3 c4 c5 c6 c7 c8 c9 h0 n0) X_47 none (fun _ => rfl) Bd.notSynchronized (fun fs hr => X_47.returnOut hx Bd.returns (hb hby d8_61) hr) ?_ (by decide) (by decide)
  have f_50 : Fld Z h_47 a1 "com/example/lahetti/lahetti/protocol/PullRequestHeader" "consumerGroup" "Ljava/lang/String;" (.ref c0) := (((((((((Fw_2.other W_7 (Or.inr (slot_ne (Or.inr (hw _ (List.mem_of_getElem? (i := 45) rfl))) (Or.inr (hw _ (List.mem_of_getElem? (i := 47) rfl))) (by decide) (t := (.object "java/lang/String")) (t' := (.object "java/lang/String")) (by decide) (by decide)))).other W_12 (Or.inr (slot_ne (Or.inr (hw _ (List.mem_of_getElem? (i := 45) rfl))) (Or.inr (hw _ (List.mem_of_getElem? (i := 49) rfl))) (by decide) (t := (.object "java/lang/String")) (t' := .int) (by decide) (by decide)))).other W_17 (Or.inr (slot_ne (Or.inr (hw _ (List.mem_of_getElem? (i := 45) rfl))) (Or.inr (hw _ (List.mem_of_getElem? (i := 51) rfl))) (by decide) (t := (.object "java/lang/String")) (t' := .long) (by decide) (by decide)))).other W_22 (Or.inr (slot_ne (Or.inr (hw _ (List.mem_of_getElem? (i := 45) rfl))) (Or.inr (hw _ (List.mem_of_getElem? (i := 53) rfl))) (by decide) (t := (.object "java/lang/String")) (t' := .int) (by decide) (by decide)))).other W_27 (Or.inr (slot_ne (Or.inr (hw _ (List.mem_of_getElem? (i := 45) rfl))) (Or.inr (hw _ (List.mem_of_getElem? (i := 55) rfl))) (by decide) (t := (.object "java/lang/String")) (t' := .int) (by decide) (by decide)))).other W_32 (Or.inr (slot_ne (Or.inr (hw _ (List.mem_of_getElem? (i := 45) rfl))) (Or.inr (hw _ (List.mem_of_getElem? (i := 57) rfl))) (by decide) (t := (.object "java/lang/String")) (t' := .long) (by decide) (by decide)))).other W_37 (Or.inr (slot_ne (Or.inr (hw _ (List.mem_of_getElem? (i := 45) rfl))) (Or.inr (hw _ (List.mem_of_getElem? (i := 59) rfl))) (by decide) (t := (.object "java/lang/String")) (t' := .long) (by decide) (by decide)))).other W_42 (Or.inr (slot_ne (Or.inr (hw _ (List.mem_of_getElem? (i := 45) rfl))) (Or.inr (hw _ (List.mem_of_getElem? (i := 61) rfl))) (by decide) (t := (.object "java/lang/String")) (t' := .long) (by decide) (by decide)))).other W_47 (Or.inr (slot_ne (Or.inr (hw _ (List.mem_of_getElem? (i := 45) rfl))) (Or.inr (hw _ (List.mem_of_getElem? (i := 63) rfl))) (by decide) (t := (.object "java/lang/String")) (t' := (.object "java/lang/String")) (by decide) (by decide))))
  have f_51 : Fld Z h_47 a1 "com/example/lahetti/lahetti/protocol/PullRequestHeader" "topic" "Ljava/lang/String;" (.ref c1) := ((((((((Fw_7.other W_12 (Or.inr (slot_ne (Or.inr (hw _ (List.mem_of_getElem? (i := 47) rfl))) (Or.inr (hw _ (List.mem_of_getElem? (i := 49) rfl))) (by decide) (t := (.object "java/lang/String")) (t' := .int) (by decide) (by decide)))).other W_17 (Or.inr (slot_ne (Or.inr (hw _ (List.mem_of_getElem? (i := 47) rfl))) (Or.inr (hw _ (List.mem_of_getElem? (i := 51) rfl))) (by decide) (t := (.object "java/lang/String")) (t' := .long) (by decide) (by decide)))).other W_22 (Or.inr (slot_ne (Or.inr (hw _ (List.mem_of_getElem? (i := 47) rfl))) (Or.inr (hw _ (List.mem_of_getElem? (i := 53) rfl))) (by decide) (t := (.object "java/lang/String")) (t' := .int) (by decide) (by decide)))).other W_27 (Or.inr (slot_ne (Or.inr (hw _ (List.mem_of_getElem? (i := 47) rfl))) (Or.inr (hw _ (List.mem_of_getElem? (i := 55) rfl))) (by decide) (t := (.object "java/lang/String")) (t' := .int) (by decide) (by decide)))).other W_32 (Or.inr (slot_ne (Or.inr (hw _ (List.mem_of_getElem? (i := 47) rfl))) (Or.inr (hw _ (List.mem_of_getElem? (i := 57) rfl))) (by decide) (t := (.object "java/lang/String")) (t' := .long) (by decide) (by decide)))).other W_37 (Or.inr (slot_ne (Or.inr (hw _ (List.mem_of_getElem? (i := 47) rfl))) (Or.inr (hw _ (List.mem_of_getElem? (i := 59) rfl))) (by decide) (t := (.object "java/lang/String")) (t' := .long) (by decide) (by decide)))).other W_42 (Or.inr (slot_ne (Or.inr (hw _ (List.mem_of_getElem? (i := 47) rfl))) (Or.inr (hw _ (List.mem_of_getElem? (i := 61) rfl))) (by decide) (t := (.object "java/lang/String")) (t' := .long) (by decide) (by decide)))).other W_47 (Or.inr (slot_ne (Or.inr (hw _ (List.mem_of_getElem? (i := 47) rfl))) (Or.inr (hw _ (List.mem_of_getElem? (i := 63) rfl))) (by decide) (t := (.object "java/lang/String")) (t' := (.object "java/lang/String")) (by decide) (by decide))))
  have f_52 : Fld Z h_47 a1 "com/example/lahetti/lahetti/protocol/PullRequestHeader" "queueId" "I" (.int c2) := (((((((Fw_12.other W_17 (Or.inr (slot_ne (Or.inr (hw _ (List.mem_of_getElem? (i := 49) rfl))) (Or.inr (hw _ (List.mem_of_getElem? (i := 51) rfl))) (by decide) (t := .int) (t' := .long) (by decide) (by decide)))).other W_22 (Or.inr (slot_ne (Or.inr (hw _ (List.mem_of_getElem? (i := 49) rfl))) (Or.inr (hw _ (List.mem_of_getElem? (i := 53) rfl))) (by decide) (t := .int) (t' := .int) (by decide) (by decide)))).other W_27 (Or.inr (slot_ne (Or.inr (hw _ (List.mem_of_getElem? (i := 49) rfl))) (Or.inr (hw _ (List.mem_of_getElem? (i := 55) rfl))) (by decide) (t := .int) (t' := .int) (by decide) (by decide)))).other W_32 (Or.inr (slot_ne (Or.inr (hw _ (List.mem_of_getElem? (i := 49) rfl))) (Or.inr (hw _ (List.mem_of_getElem? (i := 57) rfl))) (by decide) (t := .int) (t' := .long) (by decide) (by decide)))).other W_37 (Or.inr (slot_ne (Or.inr (hw _ (List.mem_of_getElem? (i := 49) rfl))) (Or.inr (hw _ (List.mem_of_getElem? (i := 59) rfl))) (by decide) (t := .int) (t' := .long) (by decide) (by decide)))).other W_42 (Or.inr (slot_ne (Or.inr (hw _ (List.mem_of_getElem? (i := 49) rfl))) (Or.inr (hw _ (List.mem_of_getElem? (i := 61) rfl))) (by decide) (t := .int) (t' := .long) (by decide) (by decide)))).other W_47 (Or.inr (slot_ne (Or.inr (hw _ (List.mem_of_getElem? (i := 49) rfl))) (Or.inr (hw _ (List.mem_of_getElem? (i := 63) rfl))) (by decide) (t := .int) (t' := (.object "java/lang/String")) (by decide) (by decide))))
  have f_53 : Fld Z h_47 a1 "com/example/lahetti/lahetti/protocol/PullRequestHeader" "queueOffset" "J" (.long c3) := ((((((Fw_17.other W_22 (Or.inr (slot_ne (Or.inr (hw _ (List.mem_of_getElem? (i := 51) rfl))) (Or.inr (hw _ (List.mem_of_getElem? (i := 53) rfl))) (by decide) (t := .long) (t' := .int) (by decide) (by decide)))).other W_27 (Or.inr (slot_ne (Or.inr (hw _ (List.mem_of_getElem? (i := 51) rfl))) (Or.inr (hw _ (List.mem_of_getElem? (i := 55) rfl))) (by decide) (t := .long) (t' := .int) (by decide) (by decide)))).other W_32 (Or.inr (slot_ne (Or.inr (hw _ (List.mem_of_getElem? (i := 51) rfl))) (Or.inr (hw _ (List.mem_of_getElem? (i := 57) rfl))) (by decide) (t := .long) (t' := .long) (by decide) (by decide)))).other W_37 (Or.inr (slot_ne (Or.inr (hw _ (List.mem_of_getElem? (i := 51) rfl))) (Or.inr (hw _ (List.mem_of_getElem? (i := 59) rfl))) (by decide) (t := .long) (t' := .long) (by decide) (by decide)))).other W_42 (Or.inr (slot_ne (Or.inr (hw _ (List.mem_of_getElem? (i := 51) rfl))) (Or.inr (hw _ (List.mem_of_getElem? (i := 61) rfl))) (by decide) (t := .long) (t' := .long) (by decide) (by decide)))).other W_47 (Or.inr (slot_ne (Or.inr (hw _ (List.mem_of_getElem? (i := 51) rfl))) (Or.inr (hw _ (List.mem_of_getElem? (i := 63) rfl))) (by decide) (t := .long) (t' := (.object "java/lang/String")) (by decide) (by decide))))
  have f_54 : Fld Z h_47 a1 "com/example/lahetti/lahetti/protocol/PullRequestHeader" "maxMsgNums" "I" (.int c4) := (((((Fw_22.other W_27 (Or.inr (slot_ne (Or.inr (hw _ (List.mem_of_getElem? (i := 53) rfl))) (Or.inr (hw _ (List.mem_of_getElem? (i := 55) rfl))) (by decide) (t := .int) (t' := .int) (by decide) (by decide)))).other W_32 (Or.inr (slot_ne (Or.inr (hw _ (List.mem_of_getElem? (i := 53) rfl))) (Or.inr (hw _ (List.mem_of_getElem? (i := 57) rfl))) (by decide) (t := .int) (t' := .long) (by decide) (by decide)))).other W_37 (Or.inr (slot_ne (Or.inr (hw _ (List.mem_of_getElem? (i := 53) rfl))) (Or.inr (hw _ (List.mem_of_getElem? (i := 59) rfl))) (by decide) (t := .int) (t' := .long) (by decide) (by decide)))).other W_42 (Or.inr (slot_ne (Or.inr (hw _ (List.mem_of_getElem? (i := 53) rfl))) (Or.inr (hw _ (List.mem_of_getElem? (i := 61) rfl))) (by decide) (t := .int) (t' := .long) (by decide) (by decide)))).other W_47 (Or.inr (slot_ne (Or.inr (hw _ (List.mem_of_getElem? (i := 53) rfl))) (Or.inr (hw _ (List.mem_of_getElem? (i := 63) rfl))) (by decide) (t := .int) (t' := (.object "java/lang/String")) (by decide) (by decide))))
  have f_55 : Fld Z h_47 a1 "com/example/lahetti/lahetti/protocol/PullRequestHeader" "sysFlag" "I" (.int c5) := ((((Fw_27.other W_32 (Or.inr (slot_ne (Or.inr (hw _ (List.mem_of_getElem? (i := 55) rfl))) (Or.inr (hw _ (List.mem_of_getElem? (i := 57) rfl))) (by decide) (t := .int) (t' := .long) (by decide) (by decide)))).other W_37 (Or.inr (slot_ne (Or.inr (hw _ (List.mem_of_getElem? (i := 55) rfl))) (Or.inr (hw _ (List.mem_of_getElem? (i := 59) rfl))) (by decide) (t := .int) (t' := .long) (by decide) (by decide)))).other W_42 (Or.inr (slot_ne (Or.inr (hw _ (List.mem_of_getElem? (i := 55) rfl))) (Or.inr (hw _ (List.mem_of_getElem? (i := 61) rfl))) (by decide) (t := .int) (t' := .long) (by decide) (by decide)))).other W_47 (Or.inr (slot_ne (Or.inr (hw _ (List.mem_of_getElem? (i := 55) rfl))) (Or.inr (hw _ (List.mem_of_getElem? (i := 63) rfl))) (by decide) (t := .int) (t' := (.object "java/lang/String")) (by decide) (by decide))))
  have f_56 : Fld Z h_47 a1 "com/example/lahetti/lahetti/protocol/PullRequestHeader" "commitOffset" "J" (.long c6) := (((Fw_32.other W_37 (Or.inr (slot_ne (Or.inr (hw _ (List.mem_of_getElem? (i := 57) rfl))) (Or.inr (hw _ (List.mem_of_getElem? (i := 59) rfl))) (by decide) (t := .long) (t' := .long) (by decide) (by decide)))).other W_42 (Or.inr (slot_ne (Or.inr (hw _ (List.mem_of_getElem? (i := 57) rfl))) (Or.inr (hw _ (List.mem_of_getElem? (i := 61) rfl))) (by decide) (t := .long) (t' := .long) (by decide) (by decide)))).other W_47 (Or.inr (slot_ne (Or.inr (hw _ (List.mem_of_getElem? (i := 57) rfl))) (Or.inr (hw _ (List.mem_of_getElem? (i := 63) rfl))) (by decide) (t := .long) (t' := (.object "java/lang/String")) (by decide) (by decide))))
  have f_57 : Fld Z h_47 a1 "com/example/lahetti/lahetti/protocol/PullRequestHeader" "suspendTimeoutMillis" "J" (.long c7) := ((Fw_37.other W_42 (Or.inr (slot_ne (Or.inr (hw _ (List.mem_of_getElem? (i := 59) rfl))) (Or.inr (hw _ (List.mem_of_getElem? (i := 61) rfl))) (by decide) (t := .long) (t' := .long) (by decide) (by decide)))).other W_47 (Or.inr (slot_ne (Or.inr (hw _ (List.mem_of_getElem? (i := 59) rfl))) (Or.inr (hw _ (List.mem_of_getElem? (i := 63) rfl))) (by decide) (t := .long) (t' := (.object "java/lang/String")) (by decide) (by decide))))
  have f_58 : Fld Z h_47 a1 "com/example/lahetti/lahetti/protocol/PullRequestHeader" "subVersion" "J" (.long c8) := (Fw_42.other W_47 (Or.inr (slot_ne (Or.inr (hw _ (List.mem_of_getElem? (i := 61) rfl))) (Or.inr (hw _ (List.mem_of_getElem? (i := 63) rfl))) (by decide) (t := .long) (t' := (.object "java/lang/String")) (by decide) (by decide))))
  show Qc2 Z a1 c0 c1 c2 c3 c4 c5 c6 c7 c8 c9 h0 n0 _ T_47.heap _
  rw [e_47]
  exact ⟨rfl, N_47, K_49, f_50, f_51, f_52, f_53, f_54, f_55, f_56, f_57, f_58, Fw_47⟩
theorem d7_0 : decode prog_31_method_1_code 0 = .ok (.aload_n 0, 1) := by decide +kernel
theorem d7_1 : decode prog_31_method_1_code 1 = .ok (.aload_n 1, 1) := by decide +kernel
theorem d7_2 : decode prog_31_method_1_code 2 = .ok (.aload_n 2, 1) := by decide +kernel
theorem d7_3 : decode prog_31_method_1_code 3 = .ok (.iload_n 3, 1) := by decide +kernel
theorem d7_4 : decode prog_31_method_1_code 4 = .ok (.lload 4, 2) := by decide +kernel
theorem d7_6 : decode prog_31_method_1_code 6 = .ok (.iload 6, 2) := by decide +kernel
theorem d7_8 : decode prog_31_method_1_code 8 = .ok (.iconst 0, 1) := by decide +kernel
theorem d7_9 : decode prog_31_method_1_code 9 = .ok (.lconst 0, 1) := by decide +kernel
theorem d7_10 : decode prog_31_method_1_code 10 = .ok (.ldc2_w 3, 3) := by decide +kernel
theorem d7_13 : decode prog_31_method_1_code 13 = .ok (.lconst 0, 1) := by decide +kernel
theorem d7_14 : decode prog_31_method_1_code 14 = .ok (.ldc 5, 2) := by decide +kernel
theorem d7_16 : decode prog_31_method_1_code 16 = .ok (.invokespecial 7, 3) := by decide +kernel
theorem d7_19 : decode prog_31_method_1_code 19 = .ok (.return_, 1) := by decide +kernel
theorem ef_c1 (m : MethodId) (x0 : Addr) (x1 : Addr) (x2 : Addr) (x3 : Int32) (x4 : Int64) (x5 : Int32) : entryFrame m #[(.ref x0), (.ref x1), (.ref x2), (.int x3), (.long x4), (.int x5)] 7 = mkF m 0 #[.val (.ref x0), .val (.ref x1), .val (.ref x2), .val (.int x3), .val (.long x4), .second, .val (.int x5)] [] := by first | (simp [entryFrame, mkF, argsToLocals, Value.category]; done) | rfl
def Qc1 (Z : State) (a1 : Addr) (c0 : Addr) (c1 : Addr) (c2 : Int32) (c3 : Int64) (c4 : Int32) (h0 : Heap) (n0 : Nat) (v : Option Value) (h : Heap) (L : List Loc) : Prop := ∃ (tg : Addr), v = none ∧ Fr n0 L ∧ Keep h0 h [a1] ∧ Fld Z h a1 "com/example/lahetti/lahetti/protocol/PullRequestHeader" "consumerGroup" "Ljava/lang/String;" (.ref c0) ∧ Fld Z h a1 "com/example/lahetti/lahetti/protocol/PullRequestHeader" "topic" "Ljava/lang/String;" (.ref c1) ∧ Fld Z h a1 "com/example/lahetti/lahetti/protocol/PullRequestHeader" "queueId" "I" (.int c2) ∧ Fld Z h a1 "com/example/lahetti/lahetti/protocol/PullRequestHeader" "queueOffset" "J" (.long c3) ∧ Fld Z h a1 "com/example/lahetti/lahetti/protocol/PullRequestHeader" "maxMsgNums" "I" (.int c4) ∧ Fld Z h a1 "com/example/lahetti/lahetti/protocol/PullRequestHeader" "sysFlag" "I" (.int (0 : Int32)) ∧ Fld Z h a1 "com/example/lahetti/lahetti/protocol/PullRequestHeader" "commitOffset" "J" (.long (0 : Int64)) ∧ Fld Z h a1 "com/example/lahetti/lahetti/protocol/PullRequestHeader" "suspendTimeoutMillis" "J" (.long (15000 : Int64)) ∧ Fld Z h a1 "com/example/lahetti/lahetti/protocol/PullRequestHeader" "subVersion" "J" (.long (0 : Int64)) ∧ Fld Z h a1 "com/example/lahetti/lahetti/protocol/PullRequestHeader" "expressionType" "Ljava/lang/String;" (.ref tg)
set_option maxRecDepth 65536 in
set_option maxHeartbeats 40000000 in
theorem rmc1 (l : Launch) (Z : State) (a0 : Array Value) (hw : ∀ d ∈ tables_1, d.before a0 Z = true) (ws : List Jvm.Cond) (a1 : Addr) (c0 : Addr) (c1 : Addr) (c2 : Int32) (c3 : Int64) (c4 : Int32) (h0 : Heap) (n0 : Nat) (Z0 : n0 ≤ h0.size) (E1 : Exa Z h0 a1 "com/example/lahetti/lahetti/protocol/PullRequestHeader") (F0 : Fld Z h0 a1 "com/example/lahetti/lahetti/protocol/PullRequestHeader" "consumerGroup" "Ljava/lang/String;" .null) (F1 : Fld Z h0 a1 "com/example/lahetti/lahetti/protocol/PullRequestHeader" "topic" "Ljava/lang/String;" .null) (F2 : Fld Z h0 a1 "com/example/lahetti/lahetti/protocol/PullRequestHeader" "queueId" "I" (.int (0 : Int32))) (F3 : Fld Z h0 a1 "com/example/lahetti/lahetti/protocol/PullRequestHeader" "queueOffset" "J" (.long (0 : Int64))) (F4 : Fld Z h0 a1 "com/example/lahetti/lahetti/protocol/PullRequestHeader" "maxMsgNums" "I" (.int (0 : Int32))) (F5 : Fld Z h0 a1 "com/example/lahetti/lahetti/protocol/PullRequestHeader" "sysFlag" "I" (.int (0 : Int32))) (F6 : Fld Z h0 a1 "com/example/lahetti/lahetti/protocol/PullRequestHeader" "commitOffset" "J" (.long (0 : Int64))) (F7 : Fld Z h0 a1 "com/example/lahetti/lahetti/protocol/PullRequestHeader" "suspendTimeoutMillis" "J" (.long (0 : Int64))) (F8 : Fld Z h0 a1 "com/example/lahetti/lahetti/protocol/PullRequestHeader" "subVersion" "J" (.long (0 : Int64))) (F9 : Fld Z h0 a1 "com/example/lahetti/lahetti/protocol/PullRequestHeader" "expressionType" "Ljava/lang/String;" .null) (g1 : n0 ≤ a1) :
    MetFree l (⟨"com/example/lahetti/lahetti/protocol/PullRequestHeader", "<init>", "(Ljava/lang/String;Ljava/lang/String;IJI)V"⟩ : MethodName) (head1 (Jvm.Cond.code (⟨"com/example/lahetti/lahetti/protocol/PullRequestHeader", "<init>", "(Ljava/lang/String;Ljava/lang/String;IJI)V"⟩ : MethodName) prog_31_method_1_code 7 none :: ws) ({ frames := 2, cells := 2, slots := 16, locals := 38 } : Room)) (fun a U => a = #[(.ref a1), (.ref c0), (.ref c1), (.int c2), (.long c3), (.int c4)] ∧ Z.Warmed39 U.vm ∧ U.heap = h0) (fun _ _ _ _ _ => True) (fun _ U o U' => ∃ v L, o = .returned v ∧ Qc1 Z a1 c0 c1 c2 c3 c4 h0 n0 v U'.heap L ∧ ReturnedEndW U o U' L ({ frames := 2, cells := 2, slots := 16, locals := 38 } : Room).cells ({ frames := 2, cells := 2, slots := 16, locals := 38 } : Room).slots) := by
  refine MetFree.of_bodySF (plainFor_of_name pn_2) hisR ?_
  intro p e s m args below meth c s₁ Bd hml0 hP hK
  obtain ⟨rfl, hZ, hh⟩ := hP
  have hx := Bd.exec
  have hby := Bd.bytes
  have hml : c.maxLocals = 7 := hml0
  have hown : s.vm.findClass "com/example/lahetti/lahetti/protocol/PullRequestHeader" = some m.cls := findClass_of_methodNamed Bd.named
  have hnm := (name_of_methodNamed Bd.named Bd.method).1
  have X0 : Stand p l e ({ frames := 2, cells := 2, slots := 16, locals := 38 } : Room) (s.setVm s.vm) m #[(.ref a1), (.ref c0), (.ref c1), (.int c2), (.long c3), (.int c4)] below meth c s₁ [] 0 0 := Stand.of_body Bd
  have hZ : Z.Warmed39 (s.setVm s.vm).vm := hZ
  have hown : (s.setVm s.vm).vm.findClass "com/example/lahetti/lahetti/protocol/PullRequestHeader" = some m.cls := hown
  have hS0 : s.Since s.vm h0.size := (State.WarmedH.refl s).since _
  have e0 : s₁.heap = h0 := by rw [← hh, Bd.state]; rfl
  have N0 := Fr.nil n0
  show OGo p e below (fun s₂ o => ∃ v L, o = .returned v ∧ Qc1 Z a1 c0 c1 c2 c3 c4 h0 n0 v s₂.heap L ∧ ReturnedEndW s o s₂ L ({ frames := 2, cells := 2, slots := 16, locals := 38 } : Room).cells ({ frames := 2, cells := 2, slots := 16, locals := 38 } : Room).slots) _
  refine OGo.to (fun _ k => castTop (ef_c1 m a1 c0 c1 c2 c3 c4) k) ?_
  refine OGo.to (fun _ k => XS.aloadN X0.here hx rfl (hb hby d7_0) rfl rfl k) ?_
  show OGo p e below _ (s₁.setTop (mkF m 1 #[.val (.ref a1), .val (.ref c0), .val (.ref c1), .val (.int c2), .val (.long c3), .second, .val (.int c4)] [(.ref a1)]))
  refine OGo.to (fun _ k => XS.aloadN X0.here hx rfl (hb hby d7_1) rfl rfl k) ?_
  show OGo p e below _ (s₁.setTop (mkF m 2 #[.val (.ref a1), .val (.ref c0), .val (.ref c1), .val (.int c2), .val (.long c3), .second, .val (.int c4)] [(.ref c0), (.ref a1)]))
  refine OGo.to (fun _ k => XS.aloadN X0.here hx rfl (hb hby d7_2) rfl rfl k) ?_
  show OGo p e below _ (s₁.setTop (mkF m 3 #[.val (.ref a1), .val (.ref c0), .val (.ref c1), .val (.int c2), .val (.long c3), .second, .val (.int c4)] [(.ref c1), (.ref c0), (.ref a1)]))
  refine OGo.to (fun _ k => XS.iloadN X0.here hx rfl (hb hby d7_3) rfl k) ?_
  show OGo p e below _ (s₁.setTop (mkF m 4 #[.val (.ref a1), .val (.ref c0), .val (.ref c1), .val (.int c2), .val (.long c3), .second, .val (.int c4)] [(.int c2), (.ref c1), (.ref c0), (.ref a1)]))
  refine OGo.to (fun _ k => XS.lload X0.here hx rfl (hb hby d7_4) rfl k) ?_
  show OGo p e below _ (s₁.setTop (mkF m 6 #[.val (.ref a1), .val (.ref c0), .val (.ref c1), .val (.int c2), .val (.long c3), .second, .val (.int c4)] [(.long c3), (.int c2), (.ref c1), (.ref c0), (.ref a1)]))
  refine OGo.to (fun _ k => XS.iload X0.here hx rfl (hb hby d7_6) rfl k) ?_
  show OGo p e below _ (s₁.setTop (mkF m 8 #[.val (.ref a1), .val (.ref c0), .val (.ref c1), .val (.int c2), .val (.long c3), .second, .val (.int c4)] [(.int c4), (.long c3), (.int c2), (.ref c1), (.ref c0), (.ref a1)]))
  refine OGo.to (fun _ k => XS.iconst X0.here hx rfl (hb hby d7_8) k) ?_
  show OGo p e below _ (s₁.setTop (mkF m 9 #[.val (.ref a1), .val (.ref c0), .val (.ref c1), .val (.int c2), .val (.long c3), .second, .val (.int c4)] [(.int (0 : Int32)), (.int c4), (.long c3), (.int c2), (.ref c1), (.ref c0), (.ref a1)]))
  refine OGo.to (fun _ k => XS.lconst X0.here hx rfl (hb hby d7_9) k) ?_
  show OGo p e below _ (s₁.setTop (mkF m 10 #[.val (.ref a1), .val (.ref c0), .val (.ref c1), .val (.int c2), .val (.long c3), .second, .val (.int c4)] [(.long (0 : Int64)), (.int (0 : Int32)), (.int c4), (.long c3), (.int c2), (.ref c1), (.ref c0), (.ref a1)]))
  refine OGo.to (fun _ k => X0.ldc2Long hx hown (mvT hZ (hw _ (List.mem_of_getElem? (i := 36) rfl))) (g := (mkF m 10 #[.val (.ref a1), .val (.ref c0), .val (.ref c1), .val (.int c2), .val (.long c3), .second, .val (.int c4)] [(.long (0 : Int64)), (.int (0 : Int32)), (.int c4), (.long c3), (.int c2), (.ref c1), (.ref c0), (.ref a1)])) rfl (hb hby d7_10) _ k) ?_
  show OGo p e below _ (s₁.setTop (mkF m 13 #[.val (.ref a1), .val (.ref c0), .val (.ref c1), .val (.int c2), .val (.long c3), .second, .val (.int c4)] [(.long (15000 : Int64)), (.long (0 : Int64)), (.int (0 : Int32)), (.int c4), (.long c3), (.int c2), (.ref c1), (.ref c0), (.ref a1)]))
  refine OGo.to (fun _ k => XS.lconst X0.here hx rfl (hb hby d7_13) k) ?_
  show OGo p e below _ (s₁.setTop (mkF m 14 #[.val (.ref a1), .val (.ref c0), .val (.ref c1), .val (.int c2), .val (.long c3), .second, .val (.int c4)] [(.long (0 : Int64)), (.long (15000 : Int64)), (.long (0 : Int64)), (.int (0 : Int32)), (.int c4), (.long c3), (.int c2), (.ref c1), (.ref c0), (.ref a1)]))
  obtain ⟨a_1, T_1, h_1, k_1, X_1, e_1, E_1, hS_1, hk_1, hZ, hown, st_1⟩ := ldcS X0 hx hZ hown (hw _ (List.mem_of_getElem? (i := 37) rfl)) (own_wS hw) e0 hS0 (Nat.le_refl h0.size) (g := (mkF m 14 #[.val (.ref a1), .val (.ref c0), .val (.ref c1), .val (.int c2), .val (.long c3), .second, .val (.int c4)] [(.long (0 : Int64)), (.long (15000 : Int64)), (.long (0 : Int64)), (.int (0 : Int32)), (.int c4), (.long c3), (.int c2), (.ref c1), (.ref c0), (.ref a1)])) rfl (hb hby d7_14) (n := 12) (by decide) (by decide) (by decide) (by decide)
  refine OGo.to st_1 ?_
  have z_2 : n0 ≤ h_1.size := Nat.le_trans Z0 E_1.1
  have K_3 : Keep h0 h_1 [a1] := (Keep.refl h0 [a1]).ext E_1
  show OGo p e below _ (T_1.setTop (mkF m 16 #[.val (.ref a1), .val (.ref c0), .val (.ref c1), .val (.int c2), .val (.long c3), .second, .val (.int c4)] [(.ref a_1), (.long (0 : Int64)), (.long (15000 : Int64)), (.long (0 : Int64)), (.int (0 : Int32)), (.int c4), (.long c3), (.int c2), (.ref c1), (.ref c0), (.ref a1)]))
  have f_5 : Exa Z h_1 a1 "com/example/lahetti/lahetti/protocol/PullRequestHeader" := (E1.ext E_1)
  have f_6 : Fld Z h_1 a1 "com/example/lahetti/lahetti/protocol/PullRequestHeader" "consumerGroup" "Ljava/lang/String;" .null := (F0.ext E_1)
  have f_7 : Fld Z h_1 a1 "com/example/lahetti/lahetti/protocol/PullRequestHeader" "topic" "Ljava/lang/String;" .null := (F1.ext E_1)
  have f_8 : Fld Z h_1 a1 "com/example/lahetti/lahetti/protocol/PullRequestHeader" "queueId" "I" (.int (0 : Int32)) := (F2.ext E_1)
  have f_9 : Fld Z h_1 a1 "com/example/lahetti/lahetti/protocol/PullRequestHeader" "queueOffset" "J" (.long (0 : Int64)) := (F3.ext E_1)
  have f_10 : Fld Z h_1 a1 "com/example/lahetti/lahetti/protocol/PullRequestHeader" "maxMsgNums" "I" (.int (0 : Int32)) := (F4.ext E_1)
  have f_11 : Fld Z h_1 a1 "com/example/lahetti/lahetti/protocol/PullRequestHeader" "sysFlag" "I" (.int (0 : Int32)) := (F5.ext E_1)
  have f_12 : Fld Z h_1 a1 "com/example/lahetti/lahetti/protocol/PullRequestHeader" "commitOffset" "J" (.long (0 : Int64)) := (F6.ext E_1)
  have f_13 : Fld Z h_1 a1 "com/example/lahetti/lahetti/protocol/PullRequestHeader" "suspendTimeoutMillis" "J" (.long (0 : Int64)) := (F7.ext E_1)
  have f_14 : Fld Z h_1 a1 "com/example/lahetti/lahetti/protocol/PullRequestHeader" "subVersion" "J" (.long (0 : Int64)) := (F8.ext E_1)
  have f_15 : Fld Z h_1 a1 "com/example/lahetti/lahetti/protocol/PullRequestHeader" "expressionType" "Ljava/lang/String;" .null := (F9.ext E_1)
  obtain ⟨_, T_4, Lc_4, X_4, hQ_4, st_4⟩ := own_un X_1 (Q := Qc2 Z a1 c0 c1 c2 c3 c4 (0 : Int32) (0 : Int64) (15000 : Int64) (0 : Int64) a_1 h_1 n0) (rc := 0) (rs := 0) (W := fun v B => Steps p.tables e below (T_1.setTop (mkF m 16 #[.val (.ref a1), .val (.ref c0), .val (.ref c1), .val (.int c2), .val (.long c3), .second, .val (.int c4)] [(.ref a_1), (.long (0 : Int64)), (.long (15000 : Int64)), (.long (0 : Int64)), (.int (0 : Int32)), (.int c4), (.long c3), (.int c2), (.ref c1), (.ref c0), (.ref a1)])) (B.setTop { (mkF m 16 #[.val (.ref a1), .val (.ref c0), .val (.ref c1), .val (.int c2), .val (.long c3), .second, .val (.int c4)] [(.ref a_1), (.long (0 : Int64)), (.long (15000 : Int64)), (.long (0 : Int64)), (.int (0 : Int32)), (.int c4), (.long c3), (.int c2), (.ref c1), (.ref c0), (.ref a1)]) with pc := 19, stack := v.toList ++ [] })) <| X_1.specialBack hx (y := (⟨"com/example/lahetti/lahetti/protocol/PullRequestHeader", "<init>", "(Ljava/lang/String;Ljava/lang/String;IJIIJJJLjava/lang/String;)V"⟩ : MethodName)) rfl hown (mvT hZ (hw _ (List.mem_of_getElem? (i := 40) rfl))) (mvT hZ (hw _ (List.mem_of_getElem? (i := 41) rfl))) (mvT hZ (hw _ (List.mem_of_getElem? (i := 42) rfl))) (by decide) (backOf (W := 0) (rmc2 l Z a0 hw [] a1 c0 c1 c2 c3 c4 (0 : Int32) (0 : Int64) (15000 : Int64) (0 : Int64) a_1 h_1 n0 z_2 f_5 f_6 f_7 f_8 f_9 f_10 f_11 f_12 f_13 f_14 f_15 g1) hZ (hw _ (List.mem_of_getElem? (i := 42) rfl)) (hw _ (List.mem_of_getElem? (i := 3) rfl)) (by decide) (by decide)) (g := (mkF m 16 #[.val (.ref a1), .val (.ref c0), .val (.ref c1), .val (.int c2), .val (.long c3), .second, .val (.int c4)] [(.ref a_1), (.long (0 : Int64)), (.long (15000 : Int64)), (.long (0 : Int64)), (.int (0 : Int32)), (.int c4), (.long c3), (.int c2), (.ref c1), (.ref c0), (.ref a1)])) rfl (by rw [hml]; rfl) (Steps.refl _) (a := a1) (argsL := [(.ref c0), (.ref c1), (.int c2), (.long c3), (.int c4), (.int (0 : Int32)), (.long (0 : Int64)), (.long (15000 : Int64)), (.long (0 : Int64)), (.ref a_1)]) (rest := []) (lenOf pd_4 rfl) rfl (by show 2 * 0 + _ ≤ _; exact Nat.le_of_eq rfl) (hb hby d7_16) (fun _ _ => ⟨rfl, e_1, (by decide : 2 + 0 ≤ _), (by decide : 16 + 0 ≤ _)⟩)
  obtain ⟨rfl, N_4q, K_4, p_4_0, p_4_1, p_4_2, p_4_3, p_4_4, p_4_5, p_4_6, p_4_7, p_4_8, p_4_9⟩ := hQ_4
  have N_4 := Fr.app N0 N_4q
  refine OGo.to (fun _ k => st_4.trans k) ?_
  have z_16 : n0 ≤ T_4.heap.size := Nat.le_trans z_2 K_4.1
  have K_17 : Keep h0 T_4.heap [a1] := K_3.trans K_4 (by intro x hx'; cases List.mem_singleton.mp hx'; exact (Or.inl (List.mem_of_getElem? (i := 0) rfl)))
  show OGo p e below _ (T_4.setTop (mkF m 19 #[.val (.ref a1), .val (.ref c0), .val (.ref c1), .val (.int c2), .val (.long c3), .second, .val (.int c4)] []))
  refine OGo.retW (Q := Qc1 Z a1 c0 c1 c2 c3 c4 h0 n0) X_4 hS_1 (Nat.le_trans hk_1 K_4.1) none (fun _ => rfl) Bd.notSynchronized (fun fs hr => X_4.returnOut hx Bd.returns (hb hby d7_19) hr) ?_ (by decide) (by decide)
  show Qc1 Z a1 c0 c1 c2 c3 c4 h0 n0 _ T_4.heap _
  exact ⟨a_1, rfl, N_4, K_17, p_4_0, p_4_1, p_4_2, p_4_3, p_4_4, p_4_5, p_4_6, p_4_7, p_4_8, p_4_9⟩
theorem d9_0 : decode prog_31_method_12_code 0 = .ok (.aload_n 0, 1) := by decide +kernel
theorem d9_1 : decode prog_31_method_12_code 1 = .ok (.getfield 34, 3) := by decide +kernel
theorem d9_4 : decode prog_31_method_12_code 4 = .ok (.iconst 2, 1) := by decide +kernel
theorem d9_5 : decode prog_31_method_12_code 5 = .ok (.iand, 1) := by decide +kernel
theorem d9_6 : decode prog_31_method_12_code 6 = .ok (.ifCond .eq 10, 3) := by decide +kernel
theorem d9_9 : decode prog_31_method_12_code 9 = .ok (.aload_n 0, 1) := by decide +kernel
theorem d9_10 : decode prog_31_method_12_code 10 = .ok (.getfield 40, 3) := by decide +kernel
theorem d9_13 : decode prog_31_method_12_code 13 = .ok (.goto 4, 3) := by decide +kernel
theorem d9_16 : decode prog_31_method_12_code 16 = .ok (.lconst 0, 1) := by decide +kernel
theorem d9_17 : decode prog_31_method_12_code 17 = .ok (.lreturn, 1) := by decide +kernel
theorem ef_gh (m : MethodId) (x0 : Addr) : entryFrame m #[(.ref x0)] 1 = mkF m 0 #[.val (.ref x0)] [] := by first | (simp [entryFrame, mkF, argsToLocals, Value.category]; done) | rfl
def Qgh (Z : State) (a1 : Addr) (w5 : Int32) (w7 : Int64) (h0 : Heap) (n0 : Nat) (v : Option Value) (h : Heap) (L : List Loc) : Prop := v = some (.long (own_hold w5 w7)) ∧ Fr n0 L ∧ h = h0
set_option maxRecDepth 65536 in
set_option maxHeartbeats 40000000 in
theorem rmgh (l : Launch) (Z : State) (a0 : Array Value) (hw : ∀ d ∈ tables_1, d.before a0 Z = true) (ws : List Jvm.Cond) (a1 : Addr) (w5 : Int32) (w7 : Int64) (h0 : Heap) (n0 : Nat) (Z0 : n0 ≤ h0.size) (G5 : Fld Z h0 a1 "com/example/lahetti/lahetti/protocol/PullRequestHeader" "sysFlag" "I" (.int w5)) (G7 : Fld Z h0 a1 "com/example/lahetti/lahetti/protocol/PullRequestHeader" "suspendTimeoutMillis" "J" (.long w7)) :
    MetFree l (⟨"com/example/lahetti/lahetti/protocol/PullRequestHeader", "getHoldMillis", "()J"⟩ : MethodName) (head1 (Jvm.Cond.code (⟨"com/example/lahetti/lahetti/protocol/PullRequestHeader", "getHoldMillis", "()J"⟩ : MethodName) prog_31_method_12_code 1 (some .long) :: ws) ({ frames := 0, cells := 0, slots := 0, locals := 0 } : Room)) (fun a U => a = #[(.ref a1)] ∧ Z.Warmed39 U.vm ∧ U.heap = h0) (fun _ _ _ _ _ => True) (fun _ U o U' => ∃ v L, o = .returned v ∧ Qgh Z a1 w5 w7 h0 n0 v U'.heap L ∧ FrameEnd U o U' L ({ frames := 0, cells := 0, slots := 0, locals := 0 } : Room).cells ({ frames := 0, cells := 0, slots := 0, locals := 0 } : Room).slots) := by
  refine MetFree.of_bodySF (plainFor_of_name pn_2) hisR ?_
  intro p e s m args below meth c s₁ Bd hml0 hP hK
  obtain ⟨rfl, hZ, hh⟩ := hP
  have hx := Bd.exec
  have hby := Bd.bytes
  have hml : c.maxLocals = 1 := hml0
  have hown : s.vm.findClass "com/example/lahetti/lahetti/protocol/PullRequestHeader" = some m.cls := findClass_of_methodNamed Bd.named
  have hnm := (name_of_methodNamed Bd.named Bd.method).1
  have X0 : Stand p l e ({ frames := 0, cells := 0, slots := 0, locals := 0 } : Room) s m #[(.ref a1)] below meth c s₁ [] 0 0 := Stand.of_body Bd
  have e0 : s₁.heap = h0 := by rw [← hh, Bd.state]; rfl
  have N0 := Fr.nil n0
  show OGo p e below (fun s₂ o => ∃ v L, o = .returned v ∧ Qgh Z a1 w5 w7 h0 n0 v s₂.heap L ∧ FrameEnd s o s₂ L ({ frames := 0, cells := 0, slots := 0, locals := 0 } : Room).cells ({ frames := 0, cells := 0, slots := 0, locals := 0 } : Room).slots) _
  refine OGo.to (fun _ k => castTop (ef_gh m a1) k) ?_
  refine OGo.to (fun _ k => XS.aloadN X0.here hx rfl (hb hby d9_0) rfl rfl k) ?_
  show OGo p e below _ (s₁.setTop (mkF m 1 #[.val (.ref a1)] [(.ref a1)]))
  obtain ⟨T_1, X_1, e_1, st_1⟩ := getF X0 hx hZ hown (host := "") (Or.inl (hw _ (List.mem_of_getElem? (i := 54) rfl))) Via.refl e0 G5 (g := (mkF m 1 #[.val (.ref a1)] [(.ref a1)])) rfl rfl (hb hby d9_1)
  refine OGo.to st_1 ?_
  show OGo p e below _ (T_1.setTop (mkF m 4 #[.val (.ref a1)] [(.int w5)]))
  refine OGo.to (fun _ k => XS.iconst X_1.here hx rfl (hb hby d9_4) k) ?_
  show OGo p e below _ (T_1.setTop (mkF m 5 #[.val (.ref a1)] [(.int (2 : Int32)), (.int w5)]))
  refine OGo.to (fun _ k => XS.iand X_1.here hx rfl (hb hby d9_5) rfl k) ?_
  show OGo p e below _ (T_1.setTop (mkF m 6 #[.val (.ref a1)] [(.int (w5 &&& (2 : Int32)))]))
  by_cases hc6__2 : (w5 &&& (2 : Int32)) = (0 : Int32)
  ·  -- pc 6: yes
    refine OGo.to (fun _ k => XS.ifYes X_1.here hx rfl (pc0 := 6) (pc' := 16) rfl (hb hby d9_6) rfl ((if0 _ _).trans (teq hc6__2).1) (by decide) (by decide) k) ?_
    show OGo p e below _ (T_1.setTop (mkF m 16 #[.val (.ref a1)] []))
    refine OGo.to (fun _ k => XS.lconst X_1.here hx rfl (hb hby d9_16) k) ?_
    show OGo p e below _ (T_1.setTop (mkF m 17 #[.val (.ref a1)] [(.long (0 : Int64))]))
    refine OGo.ret (Q := Qgh Z a1 w5 w7 h0 n0) X_1 (some (.long (0 : Int64))) (fun h => by rw [Bd.returns] at h; cases h) Bd.notSynchronized (fun fs hr => own_retL X_1 hx Bd.returns (hb hby d9_17) hr) ?_ (by decide) (by decide)
    show Qgh Z a1 w5 w7 h0 n0 _ T_1.heap _
    rw [e_1]
    exact ⟨congrArg (fun z => some (Value.long z)) (show (0 : Int64) = (own_hold w5 w7) from by unfold own_hold; rw [if_pos hc6__2]), N0, rfl⟩
  ·  -- pc 6: no
    refine OGo.to (fun _ k => XS.ifNo X_1.here hx rfl (hb hby d9_6) rfl ((if0 _ _).trans (feq hc6__2).1) k) ?_
    show OGo p e below _ (T_1.setTop (mkF m 9 #[.val (.ref a1)] []))
    refine OGo.to (fun _ k => XS.aloadN X_1.here hx rfl (hb hby d9_9) rfl rfl k) ?_
    show OGo p e below _ (T_1.setTop (mkF m 10 #[.val (.ref a1)] [(.ref a1)]))
    obtain ⟨T_3, X_3, e_3, st_3⟩ := getF X_1 hx hZ hown (host := "") (Or.inl (hw _ (List.mem_of_getElem? (i := 58) rfl))) Via.refl e_1 G7 (g := (mkF m 10 #[.val (.ref a1)] [(.ref a1)])) rfl rfl (hb hby d9_10)
    refine OGo.to st_3 ?_
    show OGo p e below _ (T_3.setTop (mkF m 13 #[.val (.ref a1)] [(.long w7)]))
    refine OGo.to (fun _ k => XS.goto X_3.here hx rfl (pc0 := 13) (pc' := 17) rfl (hb hby d9_13) (by decide) (by decide) k) ?_
    show OGo p e below _ (T_3.setTop (mkF m 17 #[.val (.ref a1)] [(.long w7)]))
    refine OGo.ret (Q := Qgh Z a1 w5 w7 h0 n0) X_3 (some (.long w7)) (fun h => by rw [Bd.returns] at h; cases h) Bd.notSynchronized (fun fs hr => own_retL X_3 hx Bd.returns (hb hby d9_17) hr) ?_ (by decide) (by decide)
    show Qgh Z a1 w5 w7 h0 n0 _ T_3.heap _
    rw [e_3]
    exact ⟨congrArg (fun z => some (Value.long z)) (show w7 = (own_hold w5 w7) from by unfold own_hold; rw [if_neg hc6__2]), N0, rfl⟩
theorem d10_0 : decode prog_31_method_5_code 0 = .ok (.new 1, 3) := by decide +kernel
theorem d10_3 : decode prog_31_method_5_code 3 = .ok (.dup, 1) := by decide +kernel
theorem d10_4 : decode prog_31_method_5_code 4 = .ok (.aload_n 0, 1) := by decide +kernel
theorem d10_5 : decode prog_31_method_5_code 5 = .ok (.getfield 16, 3) := by decide +kernel
theorem d10_8 : decode prog_31_method_5_code 8 = .ok (.aload_n 0, 1) := by decide +kernel
theorem d10_9 : decode prog_31_method_5_code 9 = .ok (.getfield 20, 3) := by decide +kernel
theorem d10_12 : decode prog_31_method_5_code 12 = .ok (.aload_n 0, 1) := by decide +kernel
theorem d10_13 : decode prog_31_method_5_code 13 = .ok (.getfield 23, 3) := by decide +kernel
theorem d10_16 : decode prog_31_method_5_code 16 = .ok (.aload_n 0, 1) := by decide +kernel
theorem d10_17 : decode prog_31_method_5_code 17 = .ok (.getfield 27, 3) := by decide +kernel
theorem d10_20 : decode prog_31_method_5_code 20 = .ok (.aload_n 0, 1) := by decide +kernel
theorem d10_21 : decode prog_31_method_5_code 21 = .ok (.getfield 31, 3) := by decide +kernel
theorem d10_24 : decode prog_31_method_5_code 24 = .ok (.aload_n 0, 1) := by decide +kernel
theorem d10_25 : decode prog_31_method_5_code 25 = .ok (.getfield 34, 3) := by decide +kernel
theorem d10_28 : decode prog_31_method_5_code 28 = .ok (.aload_n 0, 1) := by decide +kernel
theorem d10_29 : decode prog_31_method_5_code 29 = .ok (.getfield 37, 3) := by decide +kernel
theorem d10_32 : decode prog_31_method_5_code 32 = .ok (.aload_n 0, 1) := by decide +kernel
theorem d10_33 : decode prog_31_method_5_code 33 = .ok (.getfield 40, 3) := by decide +kernel
theorem d10_36 : decode prog_31_method_5_code 36 = .ok (.lload_n 1, 1) := by decide +kernel
theorem d10_37 : decode prog_31_method_5_code 37 = .ok (.aload_n 0, 1) := by decide +kernel
theorem d10_38 : decode prog_31_method_5_code 38 = .ok (.getfield 46, 3) := by decide +kernel
theorem d10_41 : decode prog_31_method_5_code 41 = .ok (.invokespecial 7, 3) := by decide +kernel
theorem d10_44 : decode prog_31_method_5_code 44 = .ok (.areturn, 1) := by decide +kernel
theorem ef_withSubVersion (m : MethodId) (x0 : Addr) (x1 : Int64) : entryFrame m #[(.ref x0), (.long x1)] 3 = mkF m 0 #[.val (.ref x0), .val (.long x1), .second] [] := by first | (simp [entryFrame, mkF, argsToLocals, Value.category]; done) | rfl
def QwithSubVersion (Z : State) (a1 : Addr) (q1 : Int64) (w0 : Addr) (w1 : Addr) (w2 : Int32) (w3 : Int64) (w4 : Int32) (w5 : Int32) (w6 : Int64) (w7 : Int64) (w8 : Int64) (w9 : Addr) (h0 : Heap) (n0 : Nat) (v : Option Value) (h : Heap) (L : List Loc) : Prop := ∃ (b : Addr), v = some (.ref b) ∧ Fr n0 L ∧ Keep h0 h [] ∧ n0 ≤ b ∧ h0.size ≤ b ∧ Exa Z h b "com/example/lahetti/lahetti/protocol/PullRequestHeader" ∧ Fld Z h b "com/example/lahetti/lahetti/protocol/PullRequestHeader" "consumerGroup" "Ljava/lang/String;" (.ref w0) ∧ Fld Z h b "com/example/lahetti/lahetti/protocol/PullRequestHeader" "topic" "Ljava/lang/String;" (.ref w1) ∧ Fld Z h b "com/example/lahetti/lahetti/protocol/PullRequestHeader" "queueId" "I" (.int w2) ∧ Fld Z h b "com/example/lahetti/lahetti/protocol/PullRequestHeader" "queueOffset" "J" (.long w3) ∧ Fld Z h b "com/example/lahetti/lahetti/protocol/PullRequestHeader" "maxMsgNums" "I" (.int w4) ∧ Fld Z h b "com/example/lahetti/lahetti/protocol/PullRequestHeader" "sysFlag" "I" (.int w5) ∧ Fld Z h b "com/example/lahetti/lahetti/protocol/PullRequestHeader" "commitOffset" "J" (.long w6) ∧ Fld Z h b "com/example/lahetti/lahetti/protocol/PullRequestHeader" "suspendTimeoutMillis" "J" (.long w7) ∧ Fld Z h b "com/example/lahetti/lahetti/protocol/PullRequestHeader" "subVersion" "J" (.long q1) ∧ Fld Z h b "com/example/lahetti/lahetti/protocol/PullRequestHeader" "expressionType" "Ljava/lang/String;" (.ref w9)
set_option maxRecDepth 65536 in
set_option maxHeartbeats 40000000 in
theorem rmwithSubVersion (l : Launch) (Z : State) (a0 : Array Value) (hw : ∀ d ∈ tables_1, d.before a0 Z = true) (ws : List Jvm.Cond) (a1 : Addr) (q1 : Int64) (w0 : Addr) (w1 : Addr) (w2 : Int32) (w3 : Int64) (w4 : Int32) (w5 : Int32) (w6 : Int64) (w7 : Int64) (w8 : Int64) (w9 : Addr) (h0 : Heap) (n0 : Nat) (Z0 : n0 ≤ h0.size) (G0 : Fld Z h0 a1 "com/example/lahetti/lahetti/protocol/PullRequestHeader" "consumerGroup" "Ljava/lang/String;" (.ref w0)) (G1 : Fld Z h0 a1 "com/example/lahetti/lahetti/protocol/PullRequestHeader" "topic" "Ljava/lang/String;" (.ref w1)) (G2 : Fld Z h0 a1 "com/example/lahetti/lahetti/protocol/PullRequestHeader" "queueId" "I" (.int w2)) (G3 : Fld Z h0 a1 "com/example/lahetti/lahetti/protocol/PullRequestHeader" "queueOffset" "J" (.long w3)) (G4 : Fld Z h0 a1 "com/example/lahetti/lahetti/protocol/PullRequestHeader" "maxMsgNums" "I" (.int w4)) (G5 : Fld Z h0 a1 "com/example/lahetti/lahetti/protocol/PullRequestHeader" "sysFlag" "I" (.int w5)) (G6 : Fld Z h0 a1 "com/example/lahetti/lahetti/protocol/PullRequestHeader" "commitOffset" "J" (.long w6)) (G7 : Fld Z h0 a1 "com/example/lahetti/lahetti/protocol/PullRequestHeader" "suspendTimeoutMillis" "J" (.long w7)) (G8 : Fld Z h0 a1 "com/example/lahetti/lahetti/protocol/PullRequestHeader" "subVersion" "J" (.long w8)) (G9 : Fld Z h0 a1 "com/example/lahetti/lahetti/protocol/PullRequestHeader" "expressionType" "Ljava/lang/String;" (.ref w9)) :
    MetFree l (⟨"com/example/lahetti/lahetti/protocol/PullRequestHeader", "withSubVersion", "(J)Lcom/example/lahetti/lahetti/protocol/PullRequestHeader;"⟩ : MethodName) (head1 (Jvm.Cond.code (⟨"com/example/lahetti/lahetti/protocol/PullRequestHeader", "withSubVersion", "(J)Lcom/example/lahetti/lahetti/protocol/PullRequestHeader;"⟩ : MethodName) prog_31_method_5_code 3 (some (.object "com/example/lahetti/lahetti/protocol/PullRequestHeader")) :: ws) ({ frames := 2, cells := 1, slots := 10, locals := 39 } : Room)) (fun a U => a = #[(.ref a1), (.long q1)] ∧ Z.Warmed39 U.vm ∧ U.heap = h0) (fun _ _ _ _ _ => True) (fun _ U o U' => ∃ v L, o = .returned v ∧ QwithSubVersion Z a1 q1 w0 w1 w2 w3 w4 w5 w6 w7 w8 w9 h0 n0 v U'.heap L ∧ FrameEnd U o U' L ({ frames := 2, cells := 1, slots := 10, locals := 39 } : Room).cells ({ frames := 2, cells := 1, slots := 10, locals := 39 } : Room).slots) := by
  refine MetFree.of_bodySF (plainFor_of_name pn_2) hisR ?_
  intro p e s m args below meth c s₁ Bd hml0 hP hK
  obtain ⟨rfl, hZ, hh⟩ := hP
  have hx := Bd.exec
  have hby := Bd.bytes
  have hml : c.maxLocals = 3 := hml0
  have hown : s.vm.findClass "com/example/lahetti/lahetti/protocol/PullRequestHeader" = some m.cls := findClass_of_methodNamed Bd.named
  have hnm := (name_of_methodNamed Bd.named Bd.method).1
  have X0 : Stand p l e ({ frames := 2, cells := 1, slots := 10, locals := 39 } : Room) s m #[(.ref a1), (.long q1)] below meth c s₁ [] 0 0 := Stand.of_body Bd
  have e0 : s₁.heap = h0 := by rw [← hh, Bd.state]; rfl
  have N0 := Fr.nil n0
  show OGo p e below (fun s₂ o => ∃ v L, o = .returned v ∧ QwithSubVersion Z a1 q1 w0 w1 w2 w3 w4 w5 w6 w7 w8 w9 h0 n0 v s₂.heap L ∧ FrameEnd s o s₂ L ({ frames := 2, cells := 1, slots := 10, locals := 39 } : Room).cells ({ frames := 2, cells := 1, slots := 10, locals := 39 } : Room).slots) _
  refine OGo.to (fun _ k => castTop (ef_withSubVersion m a1 q1) k) ?_
  obtain ⟨T_1, h_1, X_1, e_1, E_1, A_1, D_1, -, st_1⟩ := newO X0 hx hZ hown (hw _ (List.mem_of_getElem? (i := 74) rfl)) (hw _ (List.mem_of_getElem? (i := 2) rfl)) (hw _ (List.mem_of_getElem? (i := 3) rfl)) e0 (g := (mkF m 0 #[.val (.ref a1), .val (.long q1), .second] [])) rfl (hb hby d10_0) (by decide) (by decide)
  obtain ⟨b_1, g_1⟩ : ∃ z, z = h0.size := ⟨_, rfl⟩
  rw [← g_1] at A_1 D_1 st_1
  have g_b_1 : n0 ≤ b_1 := Nat.le_trans Z0 (Nat.le_of_eq g_1.symm)
  have sz_b_1 : h0.size ≤ b_1 := Nat.le_trans (Keep.refl h0 []).1 (Nat.le_of_eq g_1.symm)
  refine OGo.to st_1 ?_
  have ne_a1_b_1 : a1 ≠ b_1 := Nat.ne_of_lt (Nat.lt_of_lt_of_le G0.lt (Nat.le_of_eq g_1.symm))
  have z_2 : n0 ≤ h_1.size := Nat.le_trans Z0 E_1.1
  have K_3 : Keep h0 h_1 [] := (Keep.refl h0 []).ext E_1
  have F_consumerGroup_b_1 : Fld Z h_1 b_1 "com/example/lahetti/lahetti/protocol/PullRequestHeader" "consumerGroup" "Ljava/lang/String;" .null := D_1 (Or.inr (hw _ (List.mem_of_getElem? (i := 45) rfl))) (ty := (.object "java/lang/String")) (by decide)
  have F_topic_b_1 : Fld Z h_1 b_1 "com/example/lahetti/lahetti/protocol/PullRequestHeader" "topic" "Ljava/lang/String;" .null := D_1 (Or.inr (hw _ (List.mem_of_getElem? (i := 47) rfl))) (ty := (.object "java/lang/String")) (by decide)
  have F_queueId_b_1 : Fld Z h_1 b_1 "com/example/lahetti/lahetti/protocol/PullRequestHeader" "queueId" "I" (.int (0 : Int32)) := D_1 (Or.inr (hw _ (List.mem_of_getElem? (i := 49) rfl))) (ty := .int) (by decide)
  have F_queueOffset_b_1 : Fld Z h_1 b_1 "com/example/lahetti/lahetti/protocol/PullRequestHeader" "queueOffset" "J" (.long (0 : Int64)) := D_1 (Or.inr (hw _ (List.mem_of_getElem? (i := 51) rfl))) (ty := .long) (by decide)
  have F_maxMsgNums_b_1 : Fld Z h_1 b_1 "com/example/lahetti/lahetti/protocol/PullRequestHeader" "maxMsgNums" "I" (.int (0 : Int32)) := D_1 (Or.inr (hw _ (List.mem_of_getElem? (i := 53) rfl))) (ty := .int) (by decide)
  have F_sysFlag_b_1 : Fld Z h_1 b_1 "com/example/lahetti/lahetti/protocol/PullRequestHeader" "sysFlag" "I" (.int (0 : Int32)) := D_1 (Or.inr (hw _ (List.mem_of_getElem? (i := 55) rfl))) (ty := .int) (by decide)
  have F_commitOffset_b_1 : Fld Z h_1 b_1 "com/example/lahetti/lahetti/protocol/PullRequestHeader" "commitOffset" "J" (.long (0 : Int64)) := D_1 (Or.inr (hw _ (List.mem_of_getElem? (i := 57) rfl))) (ty := .long) (by decide)
  have F_suspendTimeoutMillis_b_1 : Fld Z h_1 b_1 "com/example/lahetti/lahetti/protocol/PullRequestHeader" "suspendTimeoutMillis" "J" (.long (0 : Int64)) := D_1 (Or.inr (hw _ (List.mem_of_getElem? (i := 59) rfl))) (ty := .long) (by decide)
  have F_subVersion_b_1 : Fld Z h_1 b_1 "com/example/lahetti/lahetti/protocol/PullRequestHeader" "subVersion" "J" (.long (0 : Int64)) := D_1 (Or.inr (hw _ (List.mem_of_getElem? (i := 61) rfl))) (ty := .long) (by decide)
  have F_expressionType_b_1 : Fld Z h_1 b_1 "com/example/lahetti/lahetti/protocol/PullRequestHeader" "expressionType" "Ljava/lang/String;" .null := D_1 (Or.inr (hw _ (List.mem_of_getElem? (i := 63) rfl))) (ty := (.object "java/lang/String")) (by decide)
  show OGo p e below _ (T_1.setTop (mkF m 3 #[.val (.ref a1), .val (.long q1), .second] [(.ref b_1)]))
  refine OGo.to (fun _ k => XS.dup X_1.here hx rfl (hb hby d10_3) rfl rfl k) ?_
  show OGo p e below _ (T_1.setTop (mkF m 4 #[.val (.ref a1), .val (.long q1), .second] [(.ref b_1), (.ref b_1)]))
  refine OGo.to (fun _ k => XS.aloadN X_1.here hx rfl (hb hby d10_4) rfl rfl k) ?_
  show OGo p e below _ (T_1.setTop (mkF m 5 #[.val (.ref a1), .val (.long q1), .second] [(.ref a1), (.ref b_1), (.ref b_1)]))
  have f_4 : Fld Z h_1 a1 "com/example/lahetti/lahetti/protocol/PullRequestHeader" "consumerGroup" "Ljava/lang/String;" (.ref w0) := (G0.ext E_1)
  obtain ⟨T_5, X_5, e_5, st_5⟩ := getF X_1 hx hZ hown (host := "") (Or.inl (hw _ (List.mem_of_getElem? (i := 44) rfl))) Via.refl e_1 f_4 (g := (mkF m 5 #[.val (.ref a1), .val (.long q1), .second] [(.ref a1), (.ref b_1), (.ref b_1)])) rfl rfl (hb hby d10_5)
  refine OGo.to st_5 ?_
  show OGo p e below _ (T_5.setTop (mkF m 8 #[.val (.ref a1), .val (.long q1), .second] [(.ref w0), (.ref b_1), (.ref b_1)]))
  refine OGo.to (fun _ k => XS.aloadN X_5.here hx rfl (hb hby d10_8) rfl rfl k) ?_
  show OGo p e below _ (T_5.setTop (mkF m 9 #[.val (.ref a1), .val (.long q1), .second] [(.ref a1), (.ref w0), (.ref b_1), (.ref b_1)]))
  have f_6 : Fld Z h_1 a1 "com/example/lahetti/lahetti/protocol/PullRequestHeader" "topic" "Ljava/lang/String;" (.ref w1) := (G1.ext E_1)
  obtain ⟨T_7, X_7, e_7, st_7⟩ := getF X_5 hx hZ hown (host := "") (Or.inl (hw _ (List.mem_of_getElem? (i := 46) rfl))) Via.refl e_5 f_6 (g := (mkF m 9 #[.val (.ref a1), .val (.long q1), .second] [(.ref a1), (.ref w0), (.ref b_1), (.ref b_1)])) rfl rfl (hb hby d10_9)
  refine OGo.to st_7 ?_
  show OGo p e below _ (T_7.setTop (mkF m 12 #[.val (.ref a1), .val (.long q1), .second] [(.ref w1), (.ref w0), (.ref b_1), (.ref b_1)]))
  refine OGo.to (fun _ k => XS.aloadN X_7.here hx rfl (hb hby d10_12) rfl rfl k) ?_
  show OGo p e below _ (T_7.setTop (mkF m 13 #[.val (.ref a1), .val (.long q1), .second] [(.ref a1), (.ref w1), (.ref w0), (.ref b_1), (.ref b_1)]))
  have f_8 : Fld Z h_1 a1 "com/example/lahetti/lahetti/protocol/PullRequestHeader" "queueId" "I" (.int w2) := (G2.ext E_1)
  obtain ⟨T_9, X_9, e_9, st_9⟩ := getF X_7 hx hZ hown (host := "") (Or.inl (hw _ (List.mem_of_getElem? (i := 48) rfl))) Via.refl e_7 f_8 (g := (mkF m 13 #[.val (.ref a1), .val (.long q1), .second] [(.ref a1), (.ref w1), (.ref w0), (.ref b_1), (.ref b_1)])) rfl rfl (hb hby d10_13)
  refine OGo.to st_9 ?_
  show OGo p e below _ (T_9.setTop (mkF m 16 #[.val (.ref a1), .val (.long q1), .second] [(.int w2), (.ref w1), (.ref w0), (.ref b_1), (.ref b_1)]))
  refine OGo.to (fun _ k => XS.aloadN X_9.here hx rfl (hb hby d10_16) rfl rfl k) ?_
  show OGo p e below _ (T_9.setTop (mkF m 17 #[.val (.ref a1), .val (.long q1), .second] [(.ref a1), (.int w2), (.ref w1), (.ref w0), (.ref b_1), (.ref b_1)]))
  have f_10 : Fld Z h_1 a1 "com/example/lahetti/lahetti/protocol/PullRequestHeader" "queueOffset" "J" (.long w3) := (G3.ext E_1)
  obtain ⟨T_11, X_11, e_11, st_11⟩ := getF X_9 hx hZ hown (host := "") (Or.inl (hw _ (List.mem_of_getElem? (i := 50) rfl))) Via.refl e_9 f_10 (g := (mkF m 17 #[.val (.ref a1), .val (.long q1), .second] [(.ref a1), (.int w2), (.ref w1), (.ref w0), (.ref b_1), (.ref b_1)])) rfl rfl (hb hby d10_17)
  refine OGo.to st_11 ?_
  show OGo p e below _ (T_11.setTop (mkF m 20 #[.val (.ref a1), .val (.long q1), .second] [(.long w3), (.int w2), (.ref w1), (.ref w0), (.ref b_1), (.ref b_1)]))
  refine OGo.to (fun _ k => XS.aloadN X_11.here hx rfl (hb hby d10_20) rfl rfl k) ?_
  show OGo p e below _ (T_11.setTop (mkF m 21 #[.val (.ref a1), .val (.long q1), .second] [(.ref a1), (.long w3), (.int w2), (.ref w1), (.ref w0), (.ref b_1), (.ref b_1)]))
  have f_12 : Fld Z h_1 a1 "com/example/lahetti/lahetti/protocol/PullRequestHeader" "maxMsgNums" "I" (.int w4) := (G4.ext E_1)
  obtain ⟨T_13, X_13, e_13, st_13⟩ := getF X_11 hx hZ hown (host := "") (Or.inl (hw _ (List.mem_of_getElem? (i := 52) rfl))) Via.refl e_11 f_12 (g := (mkF m 21 #[.val (.ref a1), .val (.long q1), .second] [(.ref a1), (.long w3), (.int w2), (.ref w1), (.ref w0), (.ref b_1), (.ref b_1)])) rfl rfl (hb hby d10_21)
  refine OGo.to st_13 ?_
  show OGo p e below _ (T_13.setTop (mkF m 24 #[.val (.ref a1), .val (.long q1), .second] [(.int w4), (.long w3), (.int w2), (.ref w1), (.ref w0), (.ref b_1), (.ref b_1)]))
  refine OGo.to (fun _ k => XS.aloadN X_13.here hx rfl (hb hby d10_24) rfl rfl k) ?_
  show OGo p e below _ (T_13.setTop (mkF m 25 #[.val (.ref a1), .val (.long q1), .second] [(.ref a1), (.int w4), (.long w3), (.int w2), (.ref w1), (.ref w0), (.ref b_1), (.ref b_1)]))
  have f_14 : Fld Z h_1 a1 "com/example/lahetti/lahetti/protocol/PullRequestHeader" "sysFlag" "I" (.int w5) := (G5.ext E_1)
  obtain ⟨T_15, X_15, e_15, st_15⟩ := getF X_13 hx hZ hown (host := "") (Or.inl (hw _ (List.mem_of_getElem? (i := 54) rfl))) Via.refl e_13 f_14 (g := (mkF m 25 #[.val (.ref a1), .val (.long q1), .second] [(.ref a1), (.int w4), (.long w3), (.int w2), (.ref w1), (.ref w0), (.ref b_1), (.ref b_1)])) rfl rfl (hb hby d10_25)
  refine OGo.to st_15 ?_
  show OGo p e below _ (T_15.setTop (mkF m 28 #[.val (.ref a1), .val (.long q1), .second] [(.int w5), (.int w4), (.long w3), (.int w2), (.ref w1), (.ref w0), (.ref b_1), (.ref b_1)]))
  refine OGo.to (fun _ k => XS.aloadN X_15.here hx rfl (hb hby d10_28) rfl rfl k) ?_
  show OGo p e below _ (T_15.setTop (mkF m 29 #[.val (.ref a1), .val (.long q1), .second] [(.ref a1), (.int w5), (.int w4), (.long w3), (.int w2), (.ref w1), (.ref w0), (.ref b_1), (.ref b_1)]))
  have f_16 : Fld Z h_1 a1 "com/example/lahetti/lahetti/protocol/PullRequestHeader" "commitOffset" "J" (.long w6) := (G6.ext E_1)
  obtain ⟨T_17, X_17, e_17, st_17⟩ := getF X_15 hx hZ hown (host := "") (Or.inl (hw _ (List.mem_of_getElem? (i := 56) rfl))) Via.refl e_15 f_16 (g := (mkF m 29 #[.val (.ref a1), .val (.long q1), .second] [(.ref a1), (.int w5), (.int w4), (.long w3), (.int w2), (.ref w1), (.ref w0), (.ref b_1), (.ref b_1)])) rfl rfl (hb hby d10_29)
  refine OGo.to st_17 ?_
  show OGo p e below _ (T_17.setTop (mkF m 32 #[.val (.ref a1), .val (.long q1), .second] [(.long w6), (.int w5), (.int w4), (.long w3), (.int w2), (.ref w1), (.ref w0), (.ref b_1), (.ref b_1)]))
  refine OGo.to (fun _ k => XS.aloadN X_17.here hx rfl (hb hby d10_32) rfl rfl k) ?_
  show OGo p e below _ (T_17.setTop (mkF m 33 #[.val (.ref a1), .val (.long q1), .second] [(.ref a1), (.long w6), (.int w5), (.int w4), (.long w3), (.int w2), (.ref w1), (.ref w0), (.ref b_1), (.ref b_1)]))
  have f_18 : Fld Z h_1 a1 "com/example/lahetti/lahetti/protocol/PullRequestHeader" "suspendTimeoutMillis" "J" (.long w7) := (G7.ext E_1)
  obtain ⟨T_19, X_19, e_19, st_19⟩ := getF X_17 hx hZ hown (host := "") (Or.inl (hw _ (List.mem_of_getElem? (i := 58) rfl))) Via.refl e_17 f_18 (g := (mkF m 33 #[.val (.ref a1), .val (.long q1), .second] [(.ref a1), (.long w6), (.int w5), (.int w4), (.long w3), (.int w2), (.ref w1), (.ref w0), (.ref b_1), (.ref b_1)])) rfl rfl (hb hby d10_33)
  refine OGo.to st_19 ?_
  show OGo p e below _ (T_19.setTop (mkF m 36 #[.val (.ref a1), .val (.long q1), .second] [(.long w7), (.long w6), (.int w5), (.int w4), (.long w3), (.int w2), (.ref w1), (.ref w0), (.ref b_1), (.ref b_1)]))
  refine OGo.to (fun _ k => XS.lloadN X_19.here hx rfl (hb hby d10_36) rfl k) ?_
  show OGo p e below _ (T_19.setTop (mkF m 37 #[.val (.ref a1), .val (.long q1), .second] [(.long q1), (.long w7), (.long w6), (.int w5), (.int w4), (.long w3), (.int w2), (.ref w1), (.ref w0), (.ref b_1), (.ref b_1)]))
  refine OGo.to (fun _ k => XS.aloadN X_19.here hx rfl (hb hby d10_37) rfl rfl k) ?_
  show OGo p e below _ (T_19.setTop (mkF m 38 #[.val (.ref a1), .val (.long q1), .second] [(.ref a1), (.long q1), (.long w7), (.long w6), (.int w5), (.int w4), (.long w3), (.int w2), (.ref w1), (.ref w0), (.ref b_1), (.ref b_1)]))
  have f_20 : Fld Z h_1 a1 "com/example/lahetti/lahetti/protocol/PullRequestHeader" "expressionType" "Ljava/lang/String;" (.ref w9) := (G9.ext E_1)
  obtain ⟨T_21, X_21, e_21, st_21⟩ := getF X_19 hx hZ hown (host := "") (Or.inl (hw _ (List.mem_of_getElem? (i := 62) rfl))) Via.refl e_19 f_20 (g := (mkF m 38 #[.val (.ref a1), .val (.long q1), .second] [(.ref a1), (.long q1), (.long w7), (.long w6), (.int w5), (.int w4), (.long w3), (.int w2), (.ref w1), (.ref w0), (.ref b_1), (.ref b_1)])) rfl rfl (hb hby d10_38)
  refine OGo.to st_21 ?_
  show OGo p e below _ (T_21.setTop (mkF m 41 #[.val (.ref a1), .val (.long q1), .second] [(.ref w9), (.long q1), (.long w7), (.long w6), (.int w5), (.int w4), (.long w3), (.int w2), (.ref w1), (.ref w0), (.ref b_1), (.ref b_1)]))
  obtain ⟨_, T_22, Lc_22, X_22, hQ_22, st_22⟩ := own_un X_21 (Q := Qc2 Z b_1 w0 w1 w2 w3 w4 w5 w6 w7 q1 w9 h_1 n0) (rc := 0) (rs := 0) (W := fun v B => Steps p.tables e below (T_21.setTop (mkF m 41 #[.val (.ref a1), .val (.long q1), .second] [(.ref w9), (.long q1), (.long w7), (.long w6), (.int w5), (.int w4), (.long w3), (.int w2), (.ref w1), (.ref w0), (.ref b_1), (.ref b_1)])) (B.setTop { (mkF m 41 #[.val (.ref a1), .val (.long q1), .second] [(.ref w9), (.long q1), (.long w7), (.long w6), (.int w5), (.int w4), (.long w3), (.int w2), (.ref w1), (.ref w0), (.ref b_1), (.ref b_1)]) with pc := 44, stack := v.toList ++ [(.ref b_1)] })) <| X_21.specialBack hx (y := (⟨"com/example/lahetti/lahetti/protocol/PullRequestHeader", "<init>", "(Ljava/lang/String;Ljava/lang/String;IJIIJJJLjava/lang/String;)V"⟩ : MethodName)) rfl hown (mvT hZ (hw _ (List.mem_of_getElem? (i := 40) rfl))) (mvT hZ (hw _ (List.mem_of_getElem? (i := 41) rfl))) (mvT hZ (hw _ (List.mem_of_getElem? (i := 42) rfl))) (by decide) (backOf (W := 1) (rmc2 l Z a0 hw [] b_1 w0 w1 w2 w3 w4 w5 w6 w7 q1 w9 h_1 n0 z_2 A_1 F_consumerGroup_b_1 F_topic_b_1 F_queueId_b_1 F_queueOffset_b_1 F_maxMsgNums_b_1 F_sysFlag_b_1 F_commitOffset_b_1 F_suspendTimeoutMillis_b_1 F_subVersion_b_1 F_expressionType_b_1 g_b_1) hZ (hw _ (List.mem_of_getElem? (i := 42) rfl)) (hw _ (List.mem_of_getElem? (i := 3) rfl)) (by decide) (by decide)) (g := (mkF m 41 #[.val (.ref a1), .val (.long q1), .second] [(.ref w9), (.long q1), (.long w7), (.long w6), (.int w5), (.int w4), (.long w3), (.int w2), (.ref w1), (.ref w0), (.ref b_1), (.ref b_1)])) rfl (by rw [hml]; rfl) (Steps.refl _) (a := b_1) (argsL := [(.ref w0), (.ref w1), (.int w2), (.long w3), (.int w4), (.int w5), (.long w6), (.long w7), (.long q1), (.ref w9)]) (rest := [(.ref b_1)]) (lenOf pd_4 rfl) rfl (by show 2 * 0 + _ ≤ _; exact Nat.le_of_eq rfl) (hb hby d10_41) (fun _ _ => ⟨rfl, e_21, (by decide : 1 + 0 ≤ _), (by decide : 10 + 0 ≤ _)⟩)
  obtain ⟨rfl, N_22q, K_22, p_22_0, p_22_1, p_22_2, p_22_3, p_22_4, p_22_5, p_22_6, p_22_7, p_22_8, p_22_9⟩ := hQ_22
  have N_22 := Fr.app N0 N_22q
  refine OGo.to (fun _ k => st_22.trans k) ?_
  have z_23 : n0 ≤ T_22.heap.size := Nat.le_trans z_2 K_22.1
  have K_24 : Keep h0 T_22.heap [] := K_3.trans K_22 (by intro x hx'; cases List.mem_singleton.mp hx'; exact (Or.inr sz_b_1))
  show OGo p e below _ (T_22.setTop (mkF m 44 #[.val (.ref a1), .val (.long q1), .second] [(.ref b_1)]))
  refine OGo.ret (Q := QwithSubVersion Z a1 q1 w0 w1 w2 w3 w4 w5 w6 w7 w8 w9 h0 n0) X_22 (some (.ref b_1)) (fun h => by rw [Bd.returns] at h; cases h) Bd.notSynchronized (fun fs hr => own_retA X_22 hx Bd.returns rfl rfl (hb hby d10_44) hr) ?_ (by decide) (by decide)
  have f_25 : Exa Z T_22.heap b_1 "com/example/lahetti/lahetti/protocol/PullRequestHeader" := (A_1.keep K_22)
  show QwithSubVersion Z a1 q1 w0 w1 w2 w3 w4 w5 w6 w7 w8 w9 h0 n0 _ T_22.heap _
  exact ⟨b_1, rfl, N_22, K_24, g_b_1, sz_b_1, f_25, p_22_0, p_22_1, p_22_2, p_22_3, p_22_4, p_22_5, p_22_6, p_22_7, p_22_8, p_22_9⟩
theorem d11_0 : decode prog_31_method_4_code 0 = .ok (.new 1, 3) := by decide +kernel
theorem d11_3 : decode prog_31_method_4_code 3 = .ok (.dup, 1) := by decide +kernel
theorem d11_4 : decode prog_31_method_4_code 4 = .ok (.aload_n 0, 1) := by decide +kernel
theorem d11_5 : decode prog_31_method_4_code 5 = .ok (.getfield 16, 3) := by decide +kernel
theorem d11_8 : decode prog_31_method_4_code 8 = .ok (.aload_n 0, 1) := by decide +kernel
theorem d11_9 : decode prog_31_method_4_code 9 = .ok (.getfield 20, 3) := by decide +kernel
theorem d11_12 : decode prog_31_method_4_code 12 = .ok (.aload_n 0, 1) := by decide +kernel
theorem d11_13 : decode prog_31_method_4_code 13 = .ok (.getfield 23, 3) := by decide +kernel
theorem d11_16 : decode prog_31_method_4_code 16 = .ok (.aload_n 0, 1) := by decide +kernel
theorem d11_17 : decode prog_31_method_4_code 17 = .ok (.getfield 27, 3) := by decide +kernel
theorem d11_20 : decode prog_31_method_4_code 20 = .ok (.aload_n 0, 1) := by decide +kernel
theorem d11_21 : decode prog_31_method_4_code 21 = .ok (.getfield 31, 3) := by decide +kernel
theorem d11_24 : decode prog_31_method_4_code 24 = .ok (.aload_n 0, 1) := by decide +kernel
theorem d11_25 : decode prog_31_method_4_code 25 = .ok (.getfield 34, 3) := by decide +kernel
theorem d11_28 : decode prog_31_method_4_code 28 = .ok (.iconst 2, 1) := by decide +kernel
theorem d11_29 : decode prog_31_method_4_code 29 = .ok (.ior, 1) := by decide +kernel
theorem d11_30 : decode prog_31_method_4_code 30 = .ok (.aload_n 0, 1) := by decide +kernel
theorem d11_31 : decode prog_31_method_4_code 31 = .ok (.getfield 37, 3) := by decide +kernel
theorem d11_34 : decode prog_31_method_4_code 34 = .ok (.lload_n 1, 1) := by decide +kernel
theorem d11_35 : decode prog_31_method_4_code 35 = .ok (.aload_n 0, 1) := by decide +kernel
theorem d11_36 : decode prog_31_method_4_code 36 = .ok (.getfield 43, 3) := by decide +kernel
theorem d11_39 : decode prog_31_method_4_code 39 = .ok (.aload_n 0, 1) := by decide +kernel
theorem d11_40 : decode prog_31_method_4_code 40 = .ok (.getfield 46, 3) := by decide +kernel
theorem d11_43 : decode prog_31_method_4_code 43 = .ok (.invokespecial 7, 3) := by decide +kernel
theorem d11_46 : decode prog_31_method_4_code 46 = .ok (.areturn, 1) := by decide +kernel
theorem ef_withHoldMillis (m : MethodId) (x0 : Addr) (x1 : Int64) : entryFrame m #[(.ref x0), (.long x1)] 3 = mkF m 0 #[.val (.ref x0), .val (.long x1), .second] [] := by first | (simp [entryFrame, mkF, argsToLocals, Value.category]; done) | rfl
def QwithHoldMillis (Z : State) (a1 : Addr) (q1 : Int64) (w0 : Addr) (w1 : Addr) (w2 : Int32) (w3 : Int64) (w4 : Int32) (w5 : Int32) (w6 : Int64) (w7 : Int64) (w8 : Int64) (w9 : Addr) (h0 : Heap) (n0 : Nat) (v : Option Value) (h : Heap) (L : List Loc) : Prop := ∃ (b : Addr), v = some (.ref b) ∧ Fr n0 L ∧ Keep h0 h [] ∧ n0 ≤ b ∧ h0.size ≤ b ∧ Exa Z h b "com/example/lahetti/lahetti/protocol/PullRequestHeader" ∧ Fld Z h b "com/example/lahetti/lahetti/protocol/PullRequestHeader" "consumerGroup" "Ljava/lang/String;" (.ref w0) ∧ Fld Z h b "com/example/lahetti/lahetti/protocol/PullRequestHeader" "topic" "Ljava/lang/String;" (.ref w1) ∧ Fld Z h b "com/example/lahetti/lahetti/protocol/PullRequestHeader" "queueId" "I" (.int w2) ∧ Fld Z h b "com/example/lahetti/lahetti/protocol/PullRequestHeader" "queueOffset" "J" (.long w3) ∧ Fld Z h b "com/example/lahetti/lahetti/protocol/PullRequestHeader" "maxMsgNums" "I" (.int w4) ∧ Fld Z h b "com/example/lahetti/lahetti/protocol/PullRequestHeader" "sysFlag" "I" (.int (w5 ||| (2 : Int32))) ∧ Fld Z h b "com/example/lahetti/lahetti/protocol/PullRequestHeader" "commitOffset" "J" (.long w6) ∧ Fld Z h b "com/example/lahetti/lahetti/protocol/PullRequestHeader" "suspendTimeoutMillis" "J" (.long q1) ∧ Fld Z h b "com/example/lahetti/lahetti/protocol/PullRequestHeader" "subVersion" "J" (.long w8) ∧ Fld Z h b "com/example/lahetti/lahetti/protocol/PullRequestHeader" "expressionType" "Ljava/lang/String;" (.ref w9)
set_option maxRecDepth 65536 in
set_option maxHeartbeats 40000000 in
theorem rmwithHoldMillis (l : Launch) (Z : State) (a0 : Array Value) (hw : ∀ d ∈ tables_1, d.before a0 Z = true) (ws : List Jvm.Cond) (a1 : Addr) (q1 : Int64) (w0 : Addr) (w1 : Addr) (w2 : Int32) (w3 : Int64) (w4 : Int32) (w5 : Int32) (w6 : Int64) (w7 : Int64) (w8 : Int64) (w9 : Addr) (h0 : Heap) (n0 : Nat) (Z0 : n0 ≤ h0.size) (G0 : Fld Z h0 a1 "com/example/lahetti/lahetti/protocol/PullRequestHeader" "consumerGroup" "Ljava/lang/String;" (.ref w0)) (G1 : Fld Z h0 a1 "com/example/lahetti/lahetti/protocol/PullRequestHeader" "topic" "Ljava/lang/String;" (.ref w1)) (G2 : Fld Z h0 a1 "com/example/lahetti/lahetti/protocol/PullRequestHeader" "queueId" "I" (.int w2)) (G3 : Fld Z h0 a1 "com/example/lahetti/lahetti/protocol/PullRequestHeader" "queueOffset" "J" (.long w3)) (G4 : Fld Z h0 a1 "com/example/lahetti/lahetti/protocol/PullRequestHeader" "maxMsgNums" "I" (.int w4)) (G5 : Fld Z h0 a1 "com/example/lahetti/lahetti/protocol/PullRequestHeader" "sysFlag" "I" (.int w5)) (G6 : Fld Z h0 a1 "com/example/lahetti/lahetti/protocol/PullRequestHeader" "commitOffset" "J" (.long w6)) (G7 : Fld Z h0 a1 "com/example/lahetti/lahetti/protocol/PullRequestHeader" "suspendTimeoutMillis" "J" (.long w7)) (G8 : Fld Z h0 a1 "com/example/lahetti/lahetti/protocol/PullRequestHeader" "subVersion" "J" (.long w8)) (G9 : Fld Z h0 a1 "com/example/lahetti/lahetti/protocol/PullRequestHeader" "expressionType" "Ljava/lang/String;" (.ref w9)) :
    MetFree l (⟨"com/example/lahetti/lahetti/protocol/PullRequestHeader", "withHoldMillis", "(J)Lcom/example/lahetti/lahetti/protocol/PullRequestHeader;"⟩ : MethodName) (head1 (Jvm.Cond.code (⟨"com/example/lahetti/lahetti/protocol/PullRequestHeader", "withHoldMillis", "(J)Lcom/example/lahetti/lahetti/protocol/PullRequestHeader;"⟩ : MethodName) prog_31_method_4_code 3 (some (.object "com/example/lahetti/lahetti/protocol/PullRequestHeader")) :: ws) ({ frames := 2, cells := 1, slots := 10, locals := 39 } : Room)) (fun a U => a = #[(.ref a1), (.long q1)] ∧ Z.Warmed39 U.vm ∧ U.heap = h0) (fun _ _ _ _ _ => True) (fun _ U o U' => ∃ v L, o = .returned v ∧ QwithHoldMillis Z a1 q1 w0 w1 w2 w3 w4 w5 w6 w7 w8 w9 h0 n0 v U'.heap L ∧ FrameEnd U o U' L ({ frames := 2, cells := 1, slots := 10, locals := 39 } : Room).cells ({ frames := 2, cells := 1, slots := 10, locals := 39 } : Room).slots) := by
  refine MetFree.of_bodySF (plainFor_of_name pn_2) hisR ?_
  intro p e s m args below meth c s₁ Bd hml0 hP hK
  obtain ⟨rfl, hZ, hh⟩ := hP
  have hx := Bd.exec
  have hby := Bd.bytes
  have hml : c.maxLocals = 3 := hml0
  have hown : s.vm.findClass "com/example/lahetti/lahetti/protocol/PullRequestHeader" = some m.cls := findClass_of_methodNamed Bd.named
  have hnm := (name_of_methodNamed Bd.named Bd.method).1
  have X0 : Stand p l e ({ frames := 2, cells := 1, slots := 10, locals := 39 } : Room) s m #[(.ref a1), (.long q1)] below meth c s₁ [] 0 0 := Stand.of_body Bd
  have e0 : s₁.heap = h0 := by rw [← hh, Bd.state]; rfl
  have N0 := Fr.nil n0
  show OGo p e below (fun s₂ o => ∃ v L, o = .returned v ∧ QwithHoldMillis Z a1 q1 w0 w1 w2 w3 w4 w5 w6 w7 w8 w9 h0 n0 v s₂.heap L ∧ FrameEnd s o s₂ L ({ frames := 2, cells := 1, slots := 10, locals := 39 } : Room).cells ({ frames := 2, cells := 1, slots := 10, locals := 39 } : Room).slots) _
  refine OGo.to (fun _ k => castTop (ef_withHoldMillis m a1 q1) k) ?_
  obtain ⟨T_1, h_1, X_1, e_1, E_1, A_1, D_1, -, st_1⟩ := newO X0 hx hZ hown (hw _ (List.mem_of_getElem? (i := 74) rfl)) (hw _ (List.mem_of_getElem? (i := 2) rfl)) (hw _ (List.mem_of_getElem? (i := 3) rfl)) e0 (g := (mkF m 0 #[.val (.ref a1), .val (.long q1), .second] [])) rfl (hb hby d11_0) (by decide) (by decide)
  obtain ⟨b_1, g_1⟩ : ∃ z, z = h0.size := ⟨_, rfl⟩
  rw [← g_1] at A_1 D_1 st_1
  have g_b_1 : n0 ≤ b_1 := Nat.le_trans Z0 (Nat.le_of_eq g_1.symm)
  have sz_b_1 : h0.size ≤ b_1 := Nat.le_trans (Keep.refl h0 []).1 (Nat.le_of_eq g_1.symm)
  refine OGo.to st_1 ?_
  have ne_a1_b_1 : a1 ≠ b_1 := Nat.ne_of_lt (Nat.lt_of_lt_of_le G0.lt (Nat.le_of_eq g_1.symm))
  have z_2 : n0 ≤ h_1.size := Nat.le_trans Z0 E_1.1
  have K_3 : Keep h0 h_1 [] := (Keep.refl h0 []).ext E_1
  have F_consumerGroup_b_1 : Fld Z h_1 b_1 "com/example/lahetti/lahetti/protocol/PullRequestHeader" "consumerGroup" "Ljava/lang/String;" .null := D_1 (Or.inr (hw _ (List.mem_of_getElem? (i := 45) rfl))) (ty := (.object "java/lang/String")) (by decide)
  have F_topic_b_1 : Fld Z h_1 b_1 "com/example/lahetti/lahetti/protocol/PullRequestHeader" "topic" "Ljava/lang/String;" .null := D_1 (Or.inr (hw _ (List.mem_of_getElem? (i := 47) rfl))) (ty := (.object "java/lang/String")) (by decide)
  have F_queueId_b_1 : Fld Z h_1 b_1 "com/example/lahetti/lahetti/protocol/PullRequestHeader" "queueId" "I" (.int (0 : Int32)) := D_1 (Or.inr (hw _ (List.mem_of_getElem? (i := 49) rfl))) (ty := .int) (by decide)
  have F_queueOffset_b_1 : Fld Z h_1 b_1 "com/example/lahetti/lahetti/protocol/PullRequestHeader" "queueOffset" "J" (.long (0 : Int64)) := D_1 (Or.inr (hw _ (List.mem_of_getElem? (i := 51) rfl))) (ty := .long) (by decide)
  have F_maxMsgNums_b_1 : Fld Z h_1 b_1 "com/example/lahetti/lahetti/protocol/PullRequestHeader" "maxMsgNums" "I" (.int (0 : Int32)) := D_1 (Or.inr (hw _ (List.mem_of_getElem? (i := 53) rfl))) (ty := .int) (by decide)
  have F_sysFlag_b_1 : Fld Z h_1 b_1 "com/example/lahetti/lahetti/protocol/PullRequestHeader" "sysFlag" "I" (.int (0 : Int32)) := D_1 (Or.inr (hw _ (List.mem_of_getElem? (i := 55) rfl))) (ty := .int) (by decide)
  have F_commitOffset_b_1 : Fld Z h_1 b_1 "com/example/lahetti/lahetti/protocol/PullRequestHeader" "commitOffset" "J" (.long (0 : Int64)) := D_1 (Or.inr (hw _ (List.mem_of_getElem? (i := 57) rfl))) (ty := .long) (by decide)
  have F_suspendTimeoutMillis_b_1 : Fld Z h_1 b_1 "com/example/lahetti/lahetti/protocol/PullRequestHeader" "suspendTimeoutMillis" "J" (.long (0 : Int64)) := D_1 (Or.inr (hw _ (List.mem_of_getElem? (i := 59) rfl))) (ty := .long) (by decide)
  have F_subVersion_b_1 : Fld Z h_1 b_1 "com/example/lahetti/lahetti/protocol/PullRequestHeader" "subVersion" "J" (.long (0 : Int64)) := D_1 (Or.inr (hw _ (List.mem_of_getElem? (i := 61) rfl))) (ty := .long) (by decide)
  have F_expressionType_b_1 : Fld Z h_1 b_1 "com/example/lahetti/lahetti/protocol/PullRequestHeader" "expressionType" "Ljava/lang/String;" .null := D_1 (Or.inr (hw _ (List.mem_of_getElem? (i := 63) rfl))) (ty := (.object "java/lang/String")) (by decide)
  show OGo p e below _ (T_1.setTop (mkF m 3 #[.val (.ref a1), .val (.long q1), .second] [(.ref b_1)]))
  refine OGo.to (fun _ k => XS.dup X_1.here hx rfl (hb hby d11_3) rfl rfl k) ?_
  show OGo p e below _ (T_1.setTop (mkF m 4 #[.val (.ref a1), .val (.long q1), .second] [(.ref b_1), (.ref b_1)]))
  refine OGo.to (fun _ k => XS.aloadN X_1.here hx rfl (hb hby d11_4) rfl rfl k) ?_
  show OGo p e below _ (T_1.setTop (mkF m 5 #[.val (.ref a1), .val (.long q1), .second] [(.ref a1), (.ref b_1), (.ref b_1)]))
  have f_4 : Fld Z h_1 a1 "com/example/lahetti/lahetti/protocol/PullRequestHeader" "consumerGroup" "Ljava/lang/String;" (.ref w0) := (G0.ext E_1)
  obtain ⟨T_5, X_5, e_5, st_5⟩ := getF X_1 hx hZ hown (host := "") (Or.inl (hw _ (List.mem_of_getElem? (i := 44) rfl))) Via.refl e_1 f_4 (g := (mkF m 5 #[.val (.ref a1), .val (.long q1), .second] [(.ref a1), (.ref b_1), (.ref b_1)])) rfl rfl (hb hby d11_5)
  refine OGo.to st_5 ?_
  show OGo p e below _ (T_5.setTop (mkF m 8 #[.val (.ref a1), .val (.long q1), .second] [(.ref w0), (.ref b_1), (.ref b_1)]))
  refine OGo.to (fun _ k => XS.aloadN X_5.here hx rfl (hb hby d11_8) rfl rfl k) ?_
  show OGo p e below _ (T_5.setTop (mkF m 9 #[.val (.ref a1), .val (.long q1), .second] [(.ref a1), (.ref w0), (.ref b_1), (.ref b_1)]))
  have f_6 : Fld Z h_1 a1 "com/example/lahetti/lahetti/protocol/PullRequestHeader" "topic" "Ljava/lang/String;" (.ref w1) := (G1.ext E_1)
  obtain ⟨T_7, X_7, e_7, st_7⟩ := getF X_5 hx hZ hown (host := "") (Or.inl (hw _ (List.mem_of_getElem? (i := 46) rfl))) Via.refl e_5 f_6 (g := (mkF m 9 #[.val (.ref a1), .val (.long q1), .second] [(.ref a1), (.ref w0), (.ref b_1), (.ref b_1)])) rfl rfl (hb hby d11_9)
  refine OGo.to st_7 ?_
  show OGo p e below _ (T_7.setTop (mkF m 12 #[.val (.ref a1), .val (.long q1), .second] [(.ref w1), (.ref w0), (.ref b_1), (.ref b_1)]))
  refine OGo.to (fun _ k => XS.aloadN X_7.here hx rfl (hb hby d11_12) rfl rfl k) ?_
  show OGo p e below _ (T_7.setTop (mkF m 13 #[.val (.ref a1), .val (.long q1), .second] [(.ref a1), (.ref w1), (.ref w0), (.ref b_1), (.ref b_1)]))
  have f_8 : Fld Z h_1 a1 "com/example/lahetti/lahetti/protocol/PullRequestHeader" "queueId" "I" (.int w2) := (G2.ext E_1)
  obtain ⟨T_9, X_9, e_9, st_9⟩ := getF X_7 hx hZ hown (host := "") (Or.inl (hw _ (List.mem_of_getElem? (i := 48) rfl))) Via.refl e_7 f_8 (g := (mkF m 13 #[.val (.ref a1), .val (.long q1), .second] [(.ref a1), (.ref w1), (.ref w0), (.ref b_1), (.ref b_1)])) rfl rfl (hb hby d11_13)
  refine OGo.to st_9 ?_
  show OGo p e below _ (T_9.setTop (mkF m 16 #[.val (.ref a1), .val (.long q1), .second] [(.int w2), (.ref w1), (.ref w0), (.ref b_1), (.ref b_1)]))
  refine OGo.to (fun _ k => XS.aloadN X_9.here hx rfl (hb hby d11_16) rfl rfl k) ?_
  show OGo p e below _ (T_9.setTop (mkF m 17 #[.val (.ref a1), .val (.long q1), .second] [(.ref a1), (.int w2), (.ref w1), (.ref w0), (.ref b_1), (.ref b_1)]))
  have f_10 : Fld Z h_1 a1 "com/example/lahetti/lahetti/protocol/PullRequestHeader" "queueOffset" "J" (.long w3) := (G3.ext E_1)
  obtain ⟨T_11, X_11, e_11, st_11⟩ := getF X_9 hx hZ hown (host := "") (Or.inl (hw _ (List.mem_of_getElem? (i := 50) rfl))) Via.refl e_9 f_10 (g := (mkF m 17 #[.val (.ref a1), .val (.long q1), .second] [(.ref a1), (.int w2), (.ref w1), (.ref w0), (.ref b_1), (.ref b_1)])) rfl rfl (hb hby d11_17)
  refine OGo.to st_11 ?_
  show OGo p e below _ (T_11.setTop (mkF m 20 #[.val (.ref a1), .val (.long q1), .second] [(.long w3), (.int w2), (.ref w1), (.ref w0), (.ref b_1), (.ref b_1)]))
  refine OGo.to (fun _ k => XS.aloadN X_11.here hx rfl (hb hby d11_20) rfl rfl k) ?_
  show OGo p e below _ (T_11.setTop (mkF m 21 #[.val (.ref a1), .val (.long q1), .second] [(.ref a1), (.long w3), (.int w2), (.ref w1), (.ref w0), (.ref b_1), (.ref b_1)]))
  have f_12 : Fld Z h_1 a1 "com/example/lahetti/lahetti/protocol/PullRequestHeader" "maxMsgNums" "I" (.int w4) := (G4.ext E_1)
  obtain ⟨T_13, X_13, e_13, st_13⟩ := getF X_11 hx hZ hown (host := "") (Or.inl (hw _ (List.mem_of_getElem? (i := 52) rfl))) Via.refl e_11 f_12 (g := (mkF m 21 #[.val (.ref a1), .val (.long q1), .second] [(.ref a1), (.long w3), (.int w2), (.ref w1), (.ref w0), (.ref b_1), (.ref b_1)])) rfl rfl (hb hby d11_21)
  refine OGo.to st_13 ?_
  show OGo p e below _ (T_13.setTop (mkF m 24 #[.val (.ref a1), .val (.long q1), .second] [(.int w4), (.long w3), (.int w2), (.ref w1), (.ref w0), (.ref b_1), (.ref b_1)]))
  refine OGo.to (fun _ k => XS.aloadN X_13.here hx rfl (hb hby d11_24) rfl rfl k) ?_
  show OGo p e below _ (T_13.setTop (mkF m 25 #[.val (.ref a1), .val (.long q1), .second] [(.ref a1), (.int w4), (.long w3), (.int w2), (.ref w1), (.ref w0), (.ref b_1), (.ref b_1)]))
  have f_14 : Fld Z h_1 a1 "com/example/lahetti/lahetti/protocol/PullRequestHeader" "sysFlag" "I" (.int w5) := (G5.ext E_1)
  obtain ⟨T_15, X_15, e_15, st_15⟩ := getF X_13 hx hZ hown (host := "") (Or.inl (hw _ (List.mem_of_getElem? (i := 54) rfl))) Via.refl e_13 f_14 (g := (mkF m 25 #[.val (.ref a1), .val (.long q1), .second] [(.ref a1), (.int w4), (.long w3), (.int w2), (.ref w1), (.ref w0), (.ref b_1), (.ref b_1)])) rfl rfl (hb hby d11_25)
  refine OGo.to st_15 ?_
  show OGo p e below _ (T_15.setTop (mkF m 28 #[.val (.ref a1), .val (.long q1), .second] [(.int w5), (.int w4), (.long w3), (.int w2), (.ref w1), (.ref w0), (.ref b_1), (.ref b_1)]))
  refine OGo.to (fun _ k => XS.iconst X_15.here hx rfl (hb hby d11_28) k) ?_
  show OGo p e below _ (T_15.setTop (mkF m 29 #[.val (.ref a1), .val (.long q1), .second] [(.int (2 : Int32)), (.int w5), (.int w4), (.long w3), (.int w2), (.ref w1), (.ref w0), (.ref b_1), (.ref b_1)]))
  refine OGo.to (fun _ k => XS.ior X_15.here hx rfl (hb hby d11_29) rfl k) ?_
  show OGo p e below _ (T_15.setTop (mkF m 30 #[.val (.ref a1), .val (.long q1), .second] [(.int (w5 ||| (2 : Int32))), (.int w4), (.long w3), (.int w2), (.ref w1), (.ref w0), (.ref b_1), (.ref b_1)]))
  refine OGo.to (fun _ k => XS.aloadN X_15.here hx rfl (hb hby d11_30) rfl rfl k) ?_
  show OGo p e below _ (T_15.setTop (mkF m 31 #[.val (.ref a1), .val (.long q1), .second] [(.ref a1), (.int (w5 ||| (2 : Int32))), (.int w4), (.long w3), (.int w2), (.ref w1), (.ref w0), (.ref b_1), (.ref b_1)]))
  have f_16 : Fld Z h_1 a1 "com/example/lahetti/lahetti/protocol/PullRequestHeader" "commitOffset" "J" (.long w6) := (G6.ext E_1)
  obtain ⟨T_17, X_17, e_17, st_17⟩ := getF X_15 hx hZ hown (host := "") (Or.inl (hw _ (List.mem_of_getElem? (i := 56) rfl))) Via.refl e_15 f_16 (g := (mkF m 31 #[.val (.ref a1), .val (.long q1), .second] [(.ref a1), (.int (w5 ||| (2 : Int32))), (.int w4), (.long w3), (.int w2), (.ref w1), (.ref w0), (.ref b_1), (.ref b_1)])) rfl rfl (hb hby d11_31)
  refine OGo.to st_17 ?_
  show OGo p e below _ (T_17.setTop (mkF m 34 #[.val (.ref a1), .val (.long q1), .second] [(.long w6), (.int (w5 ||| (2 : Int32))), (.int w4), (.long w3), (.int w2), (.ref w1), (.ref w0), (.ref b_1), (.ref b_1)]))
  refine OGo.to (fun _ k => XS.lloadN X_17.here hx rfl (hb hby d11_34) rfl k) ?_
  show OGo p e below _ (T_17.setTop (mkF m 35 #[.val (.ref a1), .val (.long q1), .second] [(.long q1), (.long w6), (.int (w5 ||| (2 : Int32))), (.int w4), (.long w3), (.int w2), (.ref w1), (.ref w0), (.ref b_1), (.ref b_1)]))
  refine OGo.to (fun _ k => XS.aloadN X_17.here hx rfl (hb hby d11_35) rfl rfl k) ?_
  show OGo p e below _ (T_17.setTop (mkF m 36 #[.val (.ref a1), .val (.long q1), .second] [(.ref a1), (.long q1), (.long w6), (.int (w5 ||| (2 : Int32))), (.int w4), (.long w3), (.int w2), (.ref w1), (.ref w0), (.ref b_1), (.ref b_1)]))
  have f_18 : Fld Z h_1 a1 "com/example/lahetti/lahetti/protocol/PullRequestHeader" "subVersion" "J" (.long w8) := (G8.ext E_1)
  obtain ⟨T_19, X_19, e_19, st_19⟩ := getF X_17 hx hZ hown (host := "") (Or.inl (hw _ (List.mem_of_getElem? (i := 60) rfl))) Via.refl e_17 f_18 (g := (mkF m 36 #[.val (.ref a1), .val (.long q1), .second] [(.ref a1), (.long q1), (.long w6), (.int (w5 ||| (2 : Int32))), (.int w4), (.long w3), (.int w2), (.ref w1), (.ref w0), (.ref b_1), (.ref b_1)])) rfl rfl (hb hby d11_36)
  refine OGo.to st_19 ?_
  show OGo p e below _ (T_19.setTop (mkF m 39 #[.val (.ref a1), .val (.long q1), .second] [(.long w8), (.long q1), (.long w6), (.int (w5 ||| (2 : Int32))), (.int w4), (.long w3), (.int w2), (.ref w1), (.ref w0), (.ref b_1), (.ref b_1)]))
  refine OGo.to (fun _ k => XS.aloadN X_19.here hx rfl (hb hby d11_39) rfl rfl k) ?_
  show OGo p e below _ (T_19.setTop (mkF m 40 #[.val (.ref a1), .val (.long q1), .second] [(.ref a1), (.long w8), (.long q1), (.long w6), (.int (w5 ||| (2 : Int32))), (.int w4), (.long w3), (.int w2), (.ref w1), (.ref w0), (.ref b_1), (.ref b_1)]))
  have f_20 : Fld Z h_1 a1 "com/example/lahetti/lahetti/protocol/PullRequestHeader" "expressionType" "Ljava/lang/String;" (.ref w9) := (G9.ext E_1)
  obtain ⟨T_21, X_21, e_21, st_21⟩ := getF X_19 hx hZ hown (host := "") (Or.inl (hw _ (List.mem_of_getElem? (i := 62) rfl))) Via.refl e_19 f_20 (g := (mkF m 40 #[.val (.ref a1), .val (.long q1), .second] [(.ref a1), (.long w8), (.long q1), (.long w6), (.int (w5 ||| (2 : Int32))), (.int w4), (.long w3), (.int w2), (.ref w1), (.ref w0), (.ref b_1), (.ref b_1)])) rfl rfl (hb hby d11_40)
  refine OGo.to st_21 ?_
  show OGo p e below _ (T_21.setTop (mkF m 43 #[.val (.ref a1), .val (.long q1), .second] [(.ref w9), (.long w8), (.long q1), (.long w6), (.int (w5 ||| (2 : Int32))), (.int w4), (.long w3), (.int w2), (.ref w1), (.ref w0), (.ref b_1), (.ref b_1)]))
  obtain ⟨_, T_22, Lc_22, X_22, hQ_22, st_22⟩ := own_un X_21 (Q := Qc2 Z b_1 w0 w1 w2 w3 w4 (w5 ||| (2 : Int32)) w6 q1 w8 w9 h_1 n0) (rc := 0) (rs := 0) (W := fun v B => Steps p.tables e below (T_21.setTop (mkF m 43 #[.val (.ref a1), .val (.long q1), .second] [(.ref w9), (.long w8), (.long q1), (.long w6), (.int (w5 ||| (2 : Int32))), (.int w4), (.long w3), (.int w2), (.ref w1), (.ref w0), (.ref b_1), (.ref b_1)])) (B.setTop { (mkF m 43 #[.val (.ref a1), .val (.long q1), .second] [(.ref w9), (.long w8), (.long q1), (.long w6), (.int (w5 ||| (2 : Int32))), (.int w4), (.long w3), (.int w2), (.ref w1), (.ref w0), (.ref b_1), (.ref b_1)]) with pc := 46, stack := v.toList ++ [(.ref b_1)] })) <| X_21.specialBack hx (y := (⟨"com/example/lahetti/lahetti/protocol/PullRequestHeader", "<init>", "(Ljava/lang/String;Ljava/lang/String;IJIIJJJLjava/lang/String;)V"⟩ : MethodName)) rfl hown (mvT hZ (hw _ (List.mem_of_getElem? (i := 40) rfl))) (mvT hZ (hw _ (List.mem_of_getElem? (i := 41) rfl))) (mvT hZ (hw _ (List.mem_of_getElem? (i := 42) rfl))) (by decide) (backOf (W := 1) (rmc2 l Z a0 hw [] b_1 w0 w1 w2 w3 w4 (w5 ||| (2 : Int32)) w6 q1 w8 w9 h_1 n0 z_2 A_1 F_consumerGroup_b_1 F_topic_b_1 F_queueId_b_1 F_queueOffset_b_1 F_maxMsgNums_b_1 F_sysFlag_b_1 F_commitOffset_b_1 F_suspendTimeoutMillis_b_1 F_subVersion_b_1 F_expressionType_b_1 g_b_1) hZ (hw _ (List.mem_of_getElem? (i := 42) rfl)) (hw _ (List.mem_of_getElem? (i := 3) rfl)) (by decide) (by decide)) (g := (mkF m 43 #[.val (.ref a1), .val (.long q1), .second] [(.ref w9), (.long w8), (.long q1), (.long w6), (.int (w5 ||| (2 : Int32))), (.int w4), (.long w3), (.int w2), (.ref w1), (.ref w0), (.ref b_1), (.ref b_1)])) rfl (by rw [hml]; rfl) (Steps.refl _) (a := b_1) (argsL := [(.ref w0), (.ref w1), (.int w2), (.long w3), (.int w4), (.int (w5 ||| (2 : Int32))), (.long w6), (.long q1), (.long w8), (.ref w9)]) (rest := [(.ref b_1)]) (lenOf pd_4 rfl) rfl (by show 2 * 0 + _ ≤ _; exact Nat.le_of_eq rfl) (hb hby d11_43) (fun _ _ => ⟨rfl, e_21, (by decide : 1 + 0 ≤ _), (by decide : 10 + 0 ≤ _)⟩)
  obtain ⟨rfl, N_22q, K_22, p_22_0, p_22_1, p_22_2, p_22_3, p_22_4, p_22_5, p_22_6, p_22_7, p_22_8, p_22_9⟩ := hQ_22
  have N_22 := Fr.app N0 N_22q
  refine OGo.to (fun _ k => st_22.trans k) ?_
  have z_23 : n0 ≤ T_22.heap.size := Nat.le_trans z_2 K_22.1
  have K_24 : Keep h0 T_22.heap [] := K_3.trans K_22 (by intro x hx'; cases List.mem_singleton.mp hx'; exact (Or.inr sz_b_1))
  show OGo p e below _ (T_22.setTop (mkF m 46 #[.val (.ref a1), .val (.long q1), .second] [(.ref b_1)]))
  refine OGo.ret (Q := QwithHoldMillis Z a1 q1 w0 w1 w2 w3 w4 w5 w6 w7 w8 w9 h0 n0) X_22 (some (.ref b_1)) (fun h => by rw [Bd.returns] at h; cases h) Bd.notSynchronized (fun fs hr => own_retA X_22 hx Bd.returns rfl rfl (hb hby d11_46) hr) ?_ (by decide) (by decide)
  have f_25 : Exa Z T_22.heap b_1 "com/example/lahetti/lahetti/protocol/PullRequestHeader" := (A_1.keep K_22)
  show QwithHoldMillis Z a1 q1 w0 w1 w2 w3 w4 w5 w6 w7 w8 w9 h0 n0 _ T_22.heap _
  exact ⟨b_1, rfl, N_22, K_24, g_b_1, sz_b_1, f_25, p_22_0, p_22_1, p_22_2, p_22_3, p_22_4, p_22_5, p_22_6, p_22_7, p_22_8, p_22_9⟩
theorem ef_0 (m : MethodId) (x0 : Int64) (x1 : Int64) (x2 : Int32) (x3 : Int32) (x4 : Int32) (x5 : Int64) : entryFrame m #[(.long x0), (.long x1), (.int x2), (.int x3), (.int x4), (.long x5)] maxLocals = mkF m 0 #[.val (.long x0), .second, .val (.long x1), .second, .val (.int x2), .val (.int x3), .val (.int x4), .val (.long x5), .second, .unset, .unset, .unset, .unset, .unset, .unset] [] := by first | (simp [entryFrame, mkF, argsToLocals, Value.category, maxLocals]; done) | rfl
def Q0 (Z : State) (q1 : Int64) (q2 : Int64) (p1 : Int32) (p2 : Int32) (p3 : Int32) (q3 : Int64) (cs : Int32) (h0 : Heap) (n0 : Nat) (v : Option Value) (h : Heap) (L : List Loc) : Prop := v = some (.int (1 : Int32)) ∧ Fr n0 L
set_option maxRecDepth 65536 in
set_option maxHeartbeats 40000000 in
theorem rm0 (l : Launch) (Z : State) (a0 : Array Value) (hw : ∀ d ∈ tables_1, d.before a0 Z = true) (ws : List Jvm.Cond) (q1 : Int64) (q2 : Int64) (p1 : Int32) (p2 : Int32) (p3 : Int32) (q3 : Int64) (cs : Int32) (h0 : Heap) (n0 : Nat) (Z0 : n0 ≤ h0.size) (SC : Sta Z Z.heap "java/lang/String" "COMPACT_STRINGS" "Z" (.int cs)) (O0 : Old Z n0 h0) (hcs : ¬ (cs = (0 : Int32))) :
    MetFree l x (head1 (Jvm.Cond.code x code maxLocals ret :: ws) room_1) (fun a U => a = #[(.long q1), (.long q2), (.int p1), (.int p2), (.int p3), (.long q3)] ∧ Z.Warmed39 U.vm ∧ U.heap = h0) (fun _ _ _ _ _ => True) (fun _ U o U' => ∃ v L, o = .returned v ∧ Q0 Z q1 q2 p1 p2 p3 q3 cs h0 n0 v U'.heap L ∧ ReturnedEndW U o U' L room_1.cells room_1.slots) := by
  refine MetFree.of_bodySF (plainFor_of_name pn_3) hisR ?_
  intro p e s m args below meth c s₁ Bd hml0 hP hK
  obtain ⟨rfl, hZ, hh⟩ := hP
  have hx := Bd.exec
  have hby := Bd.bytes
  have hml : c.maxLocals = 15 := hml0
  have hown : s.vm.findClass "com/example/lahetti/lahetti/protocol/PullRequestHeaderGetHoldMillisPinLaw" = some m.cls := findClass_of_methodNamed Bd.named
  have hnm := (name_of_methodNamed Bd.named Bd.method).1
  have X0 : Stand p l e room_1 (s.setVm s.vm) m #[(.long q1), (.long q2), (.int p1), (.int p2), (.int p3), (.long q3)] below meth c s₁ [] 0 0 := Stand.of_body Bd
  have hZ : Z.Warmed39 (s.setVm s.vm).vm := hZ
  have hown : (s.setVm s.vm).vm.findClass "com/example/lahetti/lahetti/protocol/PullRequestHeaderGetHoldMillisPinLaw" = some m.cls := hown
  have hS0 : s.Since s.vm h0.size := (State.WarmedH.refl s).since _
  have e0 : s₁.heap = h0 := by rw [← hh, Bd.state]; rfl
  have N0 := Fr.nil n0
  show OGo p e below (fun s₂ o => ∃ v L, o = .returned v ∧ Q0 Z q1 q2 p1 p2 p3 q3 cs h0 n0 v s₂.heap L ∧ ReturnedEndW s o s₂ L room_1.cells room_1.slots) _
  refine OGo.to (fun _ k => castTop (ef_0 m q1 q2 p1 p2 p3 q3) k) ?_
  refine OGo.to (fun _ k => XS.iconst X0.here hx rfl (hb hby at_0) k) ?_
  show OGo p e below _ (s₁.setTop (mkF m 1 #[.val (.long q1), .second, .val (.long q2), .second, .val (.int p1), .val (.int p2), .val (.int p3), .val (.long q3), .second, .unset, .unset, .unset, .unset, .unset, .unset] [(.int (1 : Int32))]))
  obtain ⟨T_1, h_1, k_1, X_1, e_1, E_1, A_1, st_1⟩ := newP X0 hx hZ (hw _ (List.mem_of_getElem? (i := 0) rfl)) e0 (g := (mkF m 1 #[.val (.long q1), .second, .val (.long q2), .second, .val (.int p1), .val (.int p2), .val (.int p3), .val (.long q3), .second, .unset, .unset, .unset, .unset, .unset, .unset] [(.int (1 : Int32))])) rfl (hb hby at_1) rfl (by decide) (cap := 1) (by decide) (by decide) (by decide) (by decide)
  obtain ⟨b_1, g_1⟩ : ∃ z, z = h0.size := ⟨_, rfl⟩
  rw [← g_1] at A_1 st_1
  have g_b_1 : n0 ≤ b_1 := Nat.le_trans Z0 (Nat.le_of_eq g_1.symm)
  refine OGo.to st_1 ?_
  have z_2 : n0 ≤ h_1.size := Nat.le_trans Z0 E_1.1
  have O_3 : Old Z n0 h_1 := O0.ext E_1
  have V_1 : Arv Z h_1 b_1 k_1 .char (1 : Int32) [(.int (0 : Int32))] (.int (0 : Int32)) := (Arv.new A_1 (by decide)).pad (pad_rep [] (.int (0 : Int32)) 1)
  show OGo p e below _ (T_1.setTop (mkF m 3 #[.val (.long q1), .second, .val (.long q2), .second, .val (.int p1), .val (.int p2), .val (.int p3), .val (.long q3), .second, .unset, .unset, .unset, .unset, .unset, .unset] [(.ref b_1)]))
  refine OGo.to (fun _ k => XS.astore X_1.here hx rfl (hb hby at_3) rfl rfl (l' := #[.val (.long q1), .second, .val (.long q2), .second, .val (.int p1), .val (.int p2), .val (.int p3), .val (.long q3), .second, .val (.ref b_1), .unset, .unset, .unset, .unset, .unset]) rfl k) ?_
  show OGo p e below _ (T_1.setTop (mkF m 5 #[.val (.long q1), .second, .val (.long q2), .second, .val (.int p1), .val (.int p2), .val (.int p3), .val (.long q3), .second, .val (.ref b_1), .unset, .unset, .unset, .unset, .unset] []))
  refine OGo.to (fun _ k => XS.aload X_1.here hx rfl (hb hby at_5) rfl rfl k) ?_
  show OGo p e below _ (T_1.setTop (mkF m 7 #[.val (.long q1), .second, .val (.long q2), .second, .val (.int p1), .val (.int p2), .val (.int p3), .val (.long q3), .second, .val (.ref b_1), .unset, .unset, .unset, .unset, .unset] [(.ref b_1)]))
  refine OGo.to (fun _ k => XS.iconst X_1.here hx rfl (hb hby at_7) k) ?_
  show OGo p e below _ (T_1.setTop (mkF m 8 #[.val (.long q1), .second, .val (.long q2), .second, .val (.int p1), .val (.int p2), .val (.int p3), .val (.long q3), .second, .val (.ref b_1), .unset, .unset, .unset, .unset, .unset] [(.int (0 : Int32)), (.ref b_1)]))
  refine OGo.to (fun _ k => XS.iload X_1.here hx rfl (hb hby at_8) rfl k) ?_
  show OGo p e below _ (T_1.setTop (mkF m 10 #[.val (.long q1), .second, .val (.long q2), .second, .val (.int p1), .val (.int p2), .val (.int p3), .val (.long q3), .second, .val (.ref b_1), .unset, .unset, .unset, .unset, .unset] [(.int p3), (.int (0 : Int32)), (.ref b_1)]))
  refine OGo.to (fun _ k => XS.sipush X_1.here hx rfl (hb hby at_10) k) ?_
  show OGo p e below _ (T_1.setTop (mkF m 13 #[.val (.long q1), .second, .val (.long q2), .second, .val (.int p1), .val (.int p2), .val (.int p3), .val (.long q3), .second, .val (.ref b_1), .unset, .unset, .unset, .unset, .unset] [(.int (255 : Int32)), (.int p3), (.int (0 : Int32)), (.ref b_1)]))
  refine OGo.to (fun _ k => XS.iand X_1.here hx rfl (hb hby at_13) rfl k) ?_
  show OGo p e below _ (T_1.setTop (mkF m 14 #[.val (.long q1), .second, .val (.long q2), .second, .val (.int p1), .val (.int p2), .val (.int p3), .val (.long q3), .second, .val (.ref b_1), .unset, .unset, .unset, .unset, .unset] [(.int (p3 &&& (255 : Int32))), (.int (0 : Int32)), (.ref b_1)]))
  refine OGo.to (fun _ k => XS.i2c X_1.here hx rfl (hb hby at_14) rfl k) ?_
  show OGo p e below _ (T_1.setTop (mkF m 15 #[.val (.long q1), .second, .val (.long q2), .second, .val (.int p1), .val (.int p2), .val (.int p3), .val (.long q3), .second, .val (.ref b_1), .unset, .unset, .unset, .unset, .unset] [(.int ((p3 &&& (255 : Int32)).toUInt32.toUInt16.toUInt32.toInt32)), (.int (0 : Int32)), (.ref b_1)]))
  have Vq_4 := V_1
  obtain ⟨cl_4, Ar_4, q_4, S_4, M_4, Hs_4, G_4⟩ := Vq_4
  have hin_5 : ¬ ((0 : Int32) < 0 ∨ cl_4.slots.size ≤ ((0 : Int32)).toNatClampNeg) := inb_of S_4 ⟨by decide, by decide⟩
  obtain ⟨T_5, h_5, X_5, e_5, W_5, st_5⟩ := stC X_1 hx hZ e_1 Ar_4 (j := (0 : Int32)) hin_5 (g := (mkF m 15 #[.val (.long q1), .second, .val (.long q2), .second, .val (.int p1), .val (.int p2), .val (.int p3), .val (.long q3), .second, .val (.ref b_1), .unset, .unset, .unset, .unset, .unset] [(.int ((p3 &&& (255 : Int32)).toUInt32.toUInt16.toUInt32.toInt32)), (.int (0 : Int32)), (.ref b_1)])) rfl rfl (hb hby at_15)
  refine OGo.to st_5 ?_
  have V_5 : Arv Z h_5 b_1 k_1 .char (1 : Int32) [(.int (nar .char ((p3 &&& (255 : Int32)).toUInt32.toUInt16.toUInt32.toInt32)))] (.int (0 : Int32)) := Arv.set Ar_4 q_4 S_4 M_4 Hs_4 G_4 (fits_nar_char _) W_5 0 rfl (Nat.le_of_ble_eq_true rfl)
  have N_5 := Fr.snoc X_5 N0 g_b_1
  have z_6 : n0 ≤ h_5.size := Nat.le_trans z_2 (Keep.of_wr W_5).1
  have O_7 : Old Z n0 h_5 := O_3.wr W_5 g_b_1
  show OGo p e below _ (T_5.setTop (mkF m 16 #[.val (.long q1), .second, .val (.long q2), .second, .val (.int p1), .val (.int p2), .val (.int p3), .val (.long q3), .second, .val (.ref b_1), .unset, .unset, .unset, .unset, .unset] []))
  refine OGo.to (fun _ k => XS.iconst X_5.here hx rfl (hb hby at_16) k) ?_
  show OGo p e below _ (T_5.setTop (mkF m 17 #[.val (.long q1), .second, .val (.long q2), .second, .val (.int p1), .val (.int p2), .val (.int p3), .val (.long q3), .second, .val (.ref b_1), .unset, .unset, .unset, .unset, .unset] [(.int (1 : Int32))]))
  obtain ⟨T_8, h_8, k_8, X_8, e_8, E_8, A_8, st_8⟩ := newP X_5 hx hZ (hw _ (List.mem_of_getElem? (i := 0) rfl)) e_5 (g := (mkF m 17 #[.val (.long q1), .second, .val (.long q2), .second, .val (.int p1), .val (.int p2), .val (.int p3), .val (.long q3), .second, .val (.ref b_1), .unset, .unset, .unset, .unset, .unset] [(.int (1 : Int32))])) rfl (hb hby at_17) rfl (by decide) (cap := 1) (by decide) (by decide) (by decide) (by decide)
  obtain ⟨b_8, g_8⟩ : ∃ z, z = h_5.size := ⟨_, rfl⟩
  rw [← g_8] at A_8 st_8
  have g_b_8 : n0 ≤ b_8 := Nat.le_trans z_6 (Nat.le_of_eq g_8.symm)
  refine OGo.to st_8 ?_
  have ne_b_1_b_8 : b_1 ≠ b_8 := Nat.ne_of_lt (Nat.lt_of_lt_of_le V_5.lt (Nat.le_of_eq g_8.symm))
  have z_9 : n0 ≤ h_8.size := Nat.le_trans z_6 E_8.1
  have O_10 : Old Z n0 h_8 := O_7.ext E_8
  have V_8 : Arv Z h_8 b_8 k_8 .char (1 : Int32) [(.int (0 : Int32))] (.int (0 : Int32)) := (Arv.new A_8 (by decide)).pad (pad_rep [] (.int (0 : Int32)) 1)
  show OGo p e below _ (T_8.setTop (mkF m 19 #[.val (.long q1), .second, .val (.long q2), .second, .val (.int p1), .val (.int p2), .val (.int p3), .val (.long q3), .second, .val (.ref b_1), .unset, .unset, .unset, .unset, .unset] [(.ref b_8)]))
  refine OGo.to (fun _ k => XS.astore X_8.here hx rfl (hb hby at_19) rfl rfl (l' := #[.val (.long q1), .second, .val (.long q2), .second, .val (.int p1), .val (.int p2), .val (.int p3), .val (.long q3), .second, .val (.ref b_1), .val (.ref b_8), .unset, .unset, .unset, .unset]) rfl k) ?_
  show OGo p e below _ (T_8.setTop (mkF m 21 #[.val (.long q1), .second, .val (.long q2), .second, .val (.int p1), .val (.int p2), .val (.int p3), .val (.long q3), .second, .val (.ref b_1), .val (.ref b_8), .unset, .unset, .unset, .unset] []))
  refine OGo.to (fun _ k => XS.aload X_8.here hx rfl (hb hby at_21) rfl rfl k) ?_
  show OGo p e below _ (T_8.setTop (mkF m 23 #[.val (.long q1), .second, .val (.long q2), .second, .val (.int p1), .val (.int p2), .val (.int p3), .val (.long q3), .second, .val (.ref b_1), .val (.ref b_8), .unset, .unset, .unset, .unset] [(.ref b_8)]))
  refine OGo.to (fun _ k => XS.iconst X_8.here hx rfl (hb hby at_23) k) ?_
  show OGo p e below _ (T_8.setTop (mkF m 24 #[.val (.long q1), .second, .val (.long q2), .second, .val (.int p1), .val (.int p2), .val (.int p3), .val (.long q3), .second, .val (.ref b_1), .val (.ref b_8), .unset, .unset, .unset, .unset] [(.int (0 : Int32)), (.ref b_8)]))
  refine OGo.to (fun _ k => XS.iload X_8.here hx rfl (hb hby at_24) rfl k) ?_
  show OGo p e below _ (T_8.setTop (mkF m 26 #[.val (.long q1), .second, .val (.long q2), .second, .val (.int p1), .val (.int p2), .val (.int p3), .val (.long q3), .second, .val (.ref b_1), .val (.ref b_8), .unset, .unset, .unset, .unset] [(.int p3), (.int (0 : Int32)), (.ref b_8)]))
  refine OGo.to (fun _ k => XS.bipush X_8.here hx rfl (hb hby at_26) k) ?_
  show OGo p e below _ (T_8.setTop (mkF m 28 #[.val (.long q1), .second, .val (.long q2), .second, .val (.int p1), .val (.int p2), .val (.int p3), .val (.long q3), .second, .val (.ref b_1), .val (.ref b_8), .unset, .unset, .unset, .unset] [(.int (8 : Int32)), (.int p3), (.int (0 : Int32)), (.ref b_8)]))
  refine OGo.to (fun _ k => XS.iushr X_8.here hx rfl (hb hby at_28) rfl k) ?_
  show OGo p e below _ (T_8.setTop (mkF m 29 #[.val (.long q1), .second, .val (.long q2), .second, .val (.int p1), .val (.int p2), .val (.int p3), .val (.long q3), .second, .val (.ref b_1), .val (.ref b_8), .unset, .unset, .unset, .unset] [(.int ((p3.toUInt32 >>> ((8 : Int32) &&& 31).toUInt32).toInt32)), (.int (0 : Int32)), (.ref b_8)]))
  refine OGo.to (fun _ k => XS.sipush X_8.here hx rfl (hb hby at_29) k) ?_
  show OGo p e below _ (T_8.setTop (mkF m 32 #[.val (.long q1), .second, .val (.long q2), .second, .val (.int p1), .val (.int p2), .val (.int p3), .val (.long q3), .second, .val (.ref b_1), .val (.ref b_8), .unset, .unset, .unset, .unset] [(.int (255 : Int32)), (.int ((p3.toUInt32 >>> ((8 : Int32) &&& 31).toUInt32).toInt32)), (.int (0 : Int32)), (.ref b_8)]))
  refine OGo.to (fun _ k => XS.iand X_8.here hx rfl (hb hby at_32) rfl k) ?_
  show OGo p e below _ (T_8.setTop (mkF m 33 #[.val (.long q1), .second, .val (.long q2), .second, .val (.int p1), .val (.int p2), .val (.int p3), .val (.long q3), .second, .val (.ref b_1), .val (.ref b_8), .unset, .unset, .unset, .unset] [(.int (((p3.toUInt32 >>> ((8 : Int32) &&& 31).toUInt32).toInt32) &&& (255 : Int32))), (.int (0 : Int32)), (.ref b_8)]))
  refine OGo.to (fun _ k => XS.i2c X_8.here hx rfl (hb hby at_33) rfl k) ?_
  show OGo p e below _ (T_8.setTop (mkF m 34 #[.val (.long q1), .second, .val (.long q2), .second, .val (.int p1), .val (.int p2), .val (.int p3), .val (.long q3), .second, .val (.ref b_1), .val (.ref b_8), .unset, .unset, .unset, .unset] [(.int ((((p3.toUInt32 >>> ((8 : Int32) &&& 31).toUInt32).toInt32) &&& (255 : Int32)).toUInt32.toUInt16.toUInt32.toInt32)), (.int (0 : Int32)), (.ref b_8)]))
  have Vq_11 := V_8
  obtain ⟨cl_11, Ar_11, q_11, S_11, M_11, Hs_11, G_11⟩ := Vq_11
  have hin_12 : ¬ ((0 : Int32) < 0 ∨ cl_11.slots.size ≤ ((0 : Int32)).toNatClampNeg) := inb_of S_11 ⟨by decide, by decide⟩
  obtain ⟨T_12, h_12, X_12, e_12, W_12, st_12⟩ := stC X_8 hx hZ e_8 Ar_11 (j := (0 : Int32)) hin_12 (g := (mkF m 34 #[.val (.long q1), .second, .val (.long q2), .second, .val (.int p1), .val (.int p2), .val (.int p3), .val (.long q3), .second, .val (.ref b_1), .val (.ref b_8), .unset, .unset, .unset, .unset] [(.int ((((p3.toUInt32 >>> ((8 : Int32) &&& 31).toUInt32).toInt32) &&& (255 : Int32)).toUInt32.toUInt16.toUInt32.toInt32)), (.int (0 : Int32)), (.ref b_8)])) rfl rfl (hb hby at_34)
  refine OGo.to st_12 ?_
  have V_12 : Arv Z h_12 b_8 k_8 .char (1 : Int32) [(.int (nar .char ((((p3.toUInt32 >>> ((8 : Int32) &&& 31).toUInt32).toInt32) &&& (255 : Int32)).toUInt32.toUInt16.toUInt32.toInt32)))] (.int (0 : Int32)) := Arv.set Ar_11 q_11 S_11 M_11 Hs_11 G_11 (fits_nar_char _) W_12 0 rfl (Nat.le_of_ble_eq_true rfl)
  have N_12 := Fr.snoc X_12 N_5 g_b_8
  have z_13 : n0 ≤ h_12.size := Nat.le_trans z_9 (Keep.of_wr W_12).1
  have O_14 : Old Z n0 h_12 := O_10.wr W_12 g_b_8
  show OGo p e below _ (T_12.setTop (mkF m 35 #[.val (.long q1), .second, .val (.long q2), .second, .val (.int p1), .val (.int p2), .val (.int p3), .val (.long q3), .second, .val (.ref b_1), .val (.ref b_8), .unset, .unset, .unset, .unset] []))
  have f_16 : Arv Z h_12 b_1 k_1 .char (1 : Int32) [(.int (nar .char ((p3 &&& (255 : Int32)).toUInt32.toUInt16.toUInt32.toInt32)))] (.int (0 : Int32)) := ((V_5.ext E_8).other W_12 ne_b_1_b_8)
  obtain ⟨T_15, h_15, X_15, e_15, E_15, A_15, D_15, -, st_15⟩ := newO X_12 hx hZ hown (hw _ (List.mem_of_getElem? (i := 1) rfl)) (hw _ (List.mem_of_getElem? (i := 2) rfl)) (hw _ (List.mem_of_getElem? (i := 3) rfl)) e_12 (g := (mkF m 35 #[.val (.long q1), .second, .val (.long q2), .second, .val (.int p1), .val (.int p2), .val (.int p3), .val (.long q3), .second, .val (.ref b_1), .val (.ref b_8), .unset, .unset, .unset, .unset] [])) rfl (hb hby at_35) (by decide) (by decide)
  obtain ⟨b_15, g_15⟩ : ∃ z, z = h_12.size := ⟨_, rfl⟩
  rw [← g_15] at A_15 D_15 st_15
  have g_b_15 : n0 ≤ b_15 := Nat.le_trans z_13 (Nat.le_of_eq g_15.symm)
  refine OGo.to st_15 ?_
  have ne_b_1_b_15 : b_1 ≠ b_15 := Nat.ne_of_lt (Nat.lt_of_lt_of_le f_16.lt (Nat.le_of_eq g_15.symm))
  have ne_b_8_b_15 : b_8 ≠ b_15 := Nat.ne_of_lt (Nat.lt_of_lt_of_le V_12.lt (Nat.le_of_eq g_15.symm))
  have z_17 : n0 ≤ h_15.size := Nat.le_trans z_13 E_15.1
  have O_18 : Old Z n0 h_15 := O_14.ext E_15
  have F_consumerGroup_b_15 : Fld Z h_15 b_15 "com/example/lahetti/lahetti/protocol/PullRequestHeader" "consumerGroup" "Ljava/lang/String;" .null := D_15 (Or.inr (hw _ (List.mem_of_getElem? (i := 45) rfl))) (ty := (.object "java/lang/String")) (by decide)
  have F_topic_b_15 : Fld Z h_15 b_15 "com/example/lahetti/lahetti/protocol/PullRequestHeader" "topic" "Ljava/lang/String;" .null := D_15 (Or.inr (hw _ (List.mem_of_getElem? (i := 47) rfl))) (ty := (.object "java/lang/String")) (by decide)
  have F_queueId_b_15 : Fld Z h_15 b_15 "com/example/lahetti/lahetti/protocol/PullRequestHeader" "queueId" "I" (.int (0 : Int32)) := D_15 (Or.inr (hw _ (List.mem_of_getElem? (i := 49) rfl))) (ty := .int) (by decide)
  have F_queueOffset_b_15 : Fld Z h_15 b_15 "com/example/lahetti/lahetti/protocol/PullRequestHeader" "queueOffset" "J" (.long (0 : Int64)) := D_15 (Or.inr (hw _ (List.mem_of_getElem? (i := 51) rfl))) (ty := .long) (by decide)
  have F_maxMsgNums_b_15 : Fld Z h_15 b_15 "com/example/lahetti/lahetti/protocol/PullRequestHeader" "maxMsgNums" "I" (.int (0 : Int32)) := D_15 (Or.inr (hw _ (List.mem_of_getElem? (i := 53) rfl))) (ty := .int) (by decide)
  have F_sysFlag_b_15 : Fld Z h_15 b_15 "com/example/lahetti/lahetti/protocol/PullRequestHeader" "sysFlag" "I" (.int (0 : Int32)) := D_15 (Or.inr (hw _ (List.mem_of_getElem? (i := 55) rfl))) (ty := .int) (by decide)
  have F_commitOffset_b_15 : Fld Z h_15 b_15 "com/example/lahetti/lahetti/protocol/PullRequestHeader" "commitOffset" "J" (.long (0 : Int64)) := D_15 (Or.inr (hw _ (List.mem_of_getElem? (i := 57) rfl))) (ty := .long) (by decide)
  have F_suspendTimeoutMillis_b_15 : Fld Z h_15 b_15 "com/example/lahetti/lahetti/protocol/PullRequestHeader" "suspendTimeoutMillis" "J" (.long (0 : Int64)) := D_15 (Or.inr (hw _ (List.mem_of_getElem? (i := 59) rfl))) (ty := .long) (by decide)
  have F_subVersion_b_15 : Fld Z h_15 b_15 "com/example/lahetti/lahetti/protocol/PullRequestHeader" "subVersion" "J" (.long (0 : Int64)) := D_15 (Or.inr (hw _ (List.mem_of_getElem? (i := 61) rfl))) (ty := .long) (by decide)
  have F_expressionType_b_15 : Fld Z h_15 b_15 "com/example/lahetti/lahetti/protocol/PullRequestHeader" "expressionType" "Ljava/lang/String;" .null := D_15 (Or.inr (hw _ (List.mem_of_getElem? (i := 63) rfl))) (ty := (.object "java/lang/String")) (by decide)
  show OGo p e below _ (T_15.setTop (mkF m 38 #[.val (.long q1), .second, .val (.long q2), .second, .val (.int p1), .val (.int p2), .val (.int p3), .val (.long q3), .second, .val (.ref b_1), .val (.ref b_8), .unset, .unset, .unset, .unset] [(.ref b_15)]))
  refine OGo.to (fun _ k => XS.dup X_15.here hx rfl (hb hby at_38) rfl rfl k) ?_
  show OGo p e below _ (T_15.setTop (mkF m 39 #[.val (.long q1), .second, .val (.long q2), .second, .val (.int p1), .val (.int p2), .val (.int p3), .val (.long q3), .second, .val (.ref b_1), .val (.ref b_8), .unset, .unset, .unset, .unset] [(.ref b_15), (.ref b_15)]))
  have f_20 : Arv Z h_15 b_1 k_1 .char (1 : Int32) [(.int (nar .char ((p3 &&& (255 : Int32)).toUInt32.toUInt16.toUInt32.toInt32)))] (.int (0 : Int32)) := (f_16.ext E_15)
  have f_21 : Arv Z h_15 b_8 k_8 .char (1 : Int32) [(.int (nar .char ((((p3.toUInt32 >>> ((8 : Int32) &&& 31).toUInt32).toInt32) &&& (255 : Int32)).toUInt32.toUInt16.toUInt32.toInt32)))] (.int (0 : Int32)) := (V_12.ext E_15)
  obtain ⟨T_19, h_19, X_19, e_19, E_19, A_19, D_19, -, st_19⟩ := newO X_15 hx hZ hown (hw _ (List.mem_of_getElem? (i := 4) rfl)) (hw _ (List.mem_of_getElem? (i := 5) rfl)) (hw _ (List.mem_of_getElem? (i := 6) rfl)) e_15 (g := (mkF m 39 #[.val (.long q1), .second, .val (.long q2), .second, .val (.int p1), .val (.int p2), .val (.int p3), .val (.long q3), .second, .val (.ref b_1), .val (.ref b_8), .unset, .unset, .unset, .unset] [(.ref b_15), (.ref b_15)])) rfl (hb hby at_39) (by decide) (by decide)
  obtain ⟨b_19, g_19⟩ : ∃ z, z = h_15.size := ⟨_, rfl⟩
  rw [← g_19] at A_19 D_19 st_19
  have g_b_19 : n0 ≤ b_19 := Nat.le_trans z_17 (Nat.le_of_eq g_19.symm)
  refine OGo.to st_19 ?_
  have ne_b_1_b_19 : b_1 ≠ b_19 := Nat.ne_of_lt (Nat.lt_of_lt_of_le f_20.lt (Nat.le_of_eq g_19.symm))
  have ne_b_8_b_19 : b_8 ≠ b_19 := Nat.ne_of_lt (Nat.lt_of_lt_of_le f_21.lt (Nat.le_of_eq g_19.symm))
  have ne_b_15_b_19 : b_15 ≠ b_19 := Nat.ne_of_lt (Nat.lt_of_lt_of_le A_15.lt (Nat.le_of_eq g_19.symm))
  have z_22 : n0 ≤ h_19.size := Nat.le_trans z_17 E_19.1
  have O_23 : Old Z n0 h_19 := O_18.ext E_19
  have F_coder_b_19 : Fld Z h_19 b_19 "java/lang/String" "coder" "B" (.int (0 : Int32)) := D_19 (Or.inr (hw _ (List.mem_of_getElem? (i := 30) rfl))) (ty := .byte) (by decide)
  have F_value_b_19 : Fld Z h_19 b_19 "java/lang/String" "value" "[B" .null := D_19 (Or.inr (hw _ (List.mem_of_getElem? (i := 32) rfl))) (ty := (.array .byte)) (by decide)
  show OGo p e below _ (T_19.setTop (mkF m 42 #[.val (.long q1), .second, .val (.long q2), .second, .val (.int p1), .val (.int p2), .val (.int p3), .val (.long q3), .second, .val (.ref b_1), .val (.ref b_8), .unset, .unset, .unset, .unset] [(.ref b_19), (.ref b_15), (.ref b_15)]))
  refine OGo.to (fun _ k => XS.dup X_19.here hx rfl (hb hby at_42) rfl rfl k) ?_
  show OGo p e below _ (T_19.setTop (mkF m 43 #[.val (.long q1), .second, .val (.long q2), .second, .val (.int p1), .val (.int p2), .val (.int p3), .val (.long q3), .second, .val (.ref b_1), .val (.ref b_8), .unset, .unset, .unset, .unset] [(.ref b_19), (.ref b_19), (.ref b_15), (.ref b_15)]))
  refine OGo.to (fun _ k => XS.aload X_19.here hx rfl (hb hby at_43) rfl rfl k) ?_
  show OGo p e below _ (T_19.setTop (mkF m 45 #[.val (.long q1), .second, .val (.long q2), .second, .val (.int p1), .val (.int p2), .val (.int p3), .val (.long q3), .second, .val (.ref b_1), .val (.ref b_8), .unset, .unset, .unset, .unset] [(.ref b_1), (.ref b_19), (.ref b_19), (.ref b_15), (.ref b_15)]))
  have f_25 : Arv Z h_19 b_1 k_1 .char (1 : Int32) [(.int (nar .char ((p3 &&& (255 : Int32)).toUInt32.toUInt16.toUInt32.toInt32)))] (.int (0 : Int32)) := (f_20.ext E_19)
  have f_26 : Arv Z h_19 b_8 k_8 .char (1 : Int32) [(.int (nar .char ((((p3.toUInt32 >>> ((8 : Int32) &&& 31).toUInt32).toInt32) &&& (255 : Int32)).toUInt32.toUInt16.toUInt32.toInt32)))] (.int (0 : Int32)) := (f_21.ext E_19)
  have f_27 : Exa Z h_19 b_15 "com/example/lahetti/lahetti/protocol/PullRequestHeader" := (A_15.ext E_19)
  obtain ⟨_, T_24, Lc_24, X_24, hQ_24, st_24⟩ := own_un X_19 (Q := Qsc1 Z b_19 b_1 k_1 (nar .char ((p3 &&& (255 : Int32)).toUInt32.toUInt16.toUInt32.toInt32)) cs h_19 n0) (rc := 1) (rs := 1) (W := fun v B => Steps p.tables e below (T_19.setTop (mkF m 45 #[.val (.long q1), .second, .val (.long q2), .second, .val (.int p1), .val (.int p2), .val (.int p3), .val (.long q3), .second, .val (.ref b_1), .val (.ref b_8), .unset, .unset, .unset, .unset] [(.ref b_1), (.ref b_19), (.ref b_19), (.ref b_15), (.ref b_15)])) (B.setTop { (mkF m 45 #[.val (.long q1), .second, .val (.long q2), .second, .val (.int p1), .val (.int p2), .val (.int p3), .val (.long q3), .second, .val (.ref b_1), .val (.ref b_8), .unset, .unset, .unset, .unset] [(.ref b_1), (.ref b_19), (.ref b_19), (.ref b_15), (.ref b_15)]) with pc := 48, stack := v.toList ++ [(.ref b_19), (.ref b_15), (.ref b_15)] })) <| X_19.specialBack hx (y := (⟨"java/lang/String", "<init>", "([C)V"⟩ : MethodName)) rfl hown (mvT hZ (hw _ (List.mem_of_getElem? (i := 7) rfl))) (mvT hZ (hw _ (List.mem_of_getElem? (i := 8) rfl))) (mvT hZ (hw _ (List.mem_of_getElem? (i := 9) rfl))) (by decide) (backOf (W := 3) (rmsc1 l Z a0 hw [] b_19 b_1 k_1 (nar .char ((p3 &&& (255 : Int32)).toUInt32.toUInt16.toUInt32.toInt32)) cs h_19 n0 z_22 A_19 F_value_b_19 F_coder_b_19 g_b_19 f_25 (Ne.symm ne_b_1_b_19) SC O_23 (hcs) (by rw [own_cn]; exact own_c255 _)) hZ (hw _ (List.mem_of_getElem? (i := 9) rfl)) (hw _ (List.mem_of_getElem? (i := 6) rfl)) (by decide) (by decide)) (g := (mkF m 45 #[.val (.long q1), .second, .val (.long q2), .second, .val (.int p1), .val (.int p2), .val (.int p3), .val (.long q3), .second, .val (.ref b_1), .val (.ref b_8), .unset, .unset, .unset, .unset] [(.ref b_1), (.ref b_19), (.ref b_19), (.ref b_15), (.ref b_15)])) rfl (by rw [hml]; rfl) (Steps.refl _) (a := b_19) (argsL := [(.ref b_1)]) (rest := [(.ref b_19), (.ref b_15), (.ref b_15)]) (lenOf pd_5 rfl) rfl (by show 2 * 0 + _ ≤ _; exact Nat.le_of_eq rfl) (hb hby at_45) (fun _ _ => ⟨rfl, e_19, (by decide : 4 + 1 ≤ _), (by decide : 16 + 1 ≤ _)⟩)
  obtain ⟨b__24, kb__24, rfl, N_24q, K_24, gq_b__24, sq_b__24, p_24_0, p_24_1, p_24_2⟩ := hQ_24
  have N_24 := Fr.app N_12 N_24q
  refine OGo.to (fun _ k => st_24.trans k) ?_
  have ne_b_1_b__24 : b_1 ≠ b__24 := Nat.ne_of_lt (Nat.lt_of_lt_of_le f_25.lt sq_b__24)
  have ne_b_8_b__24 : b_8 ≠ b__24 := Nat.ne_of_lt (Nat.lt_of_lt_of_le f_26.lt sq_b__24)
  have ne_b_15_b__24 : b_15 ≠ b__24 := Nat.ne_of_lt (Nat.lt_of_lt_of_le f_27.lt sq_b__24)
  have ne_b_19_b__24 : b_19 ≠ b__24 := Nat.ne_of_lt (Nat.lt_of_lt_of_le A_19.lt sq_b__24)
  have z_28 : n0 ≤ T_24.heap.size := Nat.le_trans z_22 K_24.1
  have O_29 : Old Z n0 T_24.heap := O_23.keep K_24 (allS g_b_19 all0)
  show OGo p e below _ (T_24.setTop (mkF m 48 #[.val (.long q1), .second, .val (.long q2), .second, .val (.int p1), .val (.int p2), .val (.int p3), .val (.long q3), .second, .val (.ref b_1), .val (.ref b_8), .unset, .unset, .unset, .unset] [(.ref b_19), (.ref b_15), (.ref b_15)]))
  have f_31 : Arv Z T_24.heap b_1 k_1 .char (1 : Int32) [(.int (nar .char ((p3 &&& (255 : Int32)).toUInt32.toUInt16.toUInt32.toInt32)))] (.int (0 : Int32)) := (f_25.keep K_24 (fun q => ne_b_1_b_19 (List.mem_singleton.mp q)))
  have f_32 : Arv Z T_24.heap b_8 k_8 .char (1 : Int32) [(.int (nar .char ((((p3.toUInt32 >>> ((8 : Int32) &&& 31).toUInt32).toInt32) &&& (255 : Int32)).toUInt32.toUInt16.toUInt32.toInt32)))] (.int (0 : Int32)) := (f_26.keep K_24 (fun q => ne_b_8_b_19 (List.mem_singleton.mp q)))
  have f_33 : Exa Z T_24.heap b_15 "com/example/lahetti/lahetti/protocol/PullRequestHeader" := (f_27.keep K_24)
  have f_34 : Exa Z T_24.heap b_19 "java/lang/String" := (A_19.keep K_24)
  obtain ⟨T_30, h_30, X_30, e_30, E_30, A_30, D_30, -, st_30⟩ := newO X_24 hx hZ hown (hw _ (List.mem_of_getElem? (i := 4) rfl)) (hw _ (List.mem_of_getElem? (i := 5) rfl)) (hw _ (List.mem_of_getElem? (i := 6) rfl)) (rfl : T_24.heap = T_24.heap) (g := (mkF m 48 #[.val (.long q1), .second, .val (.long q2), .second, .val (.int p1), .val (.int p2), .val (.int p3), .val (.long q3), .second, .val (.ref b_1), .val (.ref b_8), .unset, .unset, .unset, .unset] [(.ref b_19), (.ref b_15), (.ref b_15)])) rfl (hb hby at_48) (by decide) (by decide)
  obtain ⟨b_30, g_30⟩ : ∃ z, z = T_24.heap.size := ⟨_, rfl⟩
  rw [← g_30] at A_30 D_30 st_30
  have g_b_30 : n0 ≤ b_30 := Nat.le_trans z_28 (Nat.le_of_eq g_30.symm)
  refine OGo.to st_30 ?_
  have ne_b_1_b_30 : b_1 ≠ b_30 := Nat.ne_of_lt (Nat.lt_of_lt_of_le f_31.lt (Nat.le_of_eq g_30.symm))
  have ne_b_8_b_30 : b_8 ≠ b_30 := Nat.ne_of_lt (Nat.lt_of_lt_of_le f_32.lt (Nat.le_of_eq g_30.symm))
  have ne_b_15_b_30 : b_15 ≠ b_30 := Nat.ne_of_lt (Nat.lt_of_lt_of_le f_33.lt (Nat.le_of_eq g_30.symm))
  have ne_b_19_b_30 : b_19 ≠ b_30 := Nat.ne_of_lt (Nat.lt_of_lt_of_le f_34.lt (Nat.le_of_eq g_30.symm))
  have ne_b__24_b_30 : b__24 ≠ b_30 := Nat.ne_of_lt (Nat.lt_of_lt_of_le p_24_2.lt (Nat.le_of_eq g_30.symm))
  have z_35 : n0 ≤ h_30.size := Nat.le_trans z_28 E_30.1
  have O_36 : Old Z n0 h_30 := O_29.ext E_30
  have F_coder_b_30 : Fld Z h_30 b_30 "java/lang/String" "coder" "B" (.int (0 : Int32)) := D_30 (Or.inr (hw _ (List.mem_of_getElem? (i := 30) rfl))) (ty := .byte) (by decide)
  have F_value_b_30 : Fld Z h_30 b_30 "java/lang/String" "value" "[B" .null := D_30 (Or.inr (hw _ (List.mem_of_getElem? (i := 32) rfl))) (ty := (.array .byte)) (by decide)
  show OGo p e below _ (T_30.setTop (mkF m 51 #[.val (.long q1), .second, .val (.long q2), .second, .val (.int p1), .val (.int p2), .val (.int p3), .val (.long q3), .second, .val (.ref b_1), .val (.ref b_8), .unset, .unset, .unset, .unset] [(.ref b_30), (.ref b_19), (.ref b_15), (.ref b_15)]))
  refine OGo.to (fun _ k => XS.dup X_30.here hx rfl (hb hby at_51) rfl rfl k) ?_
  show OGo p e below _ (T_30.setTop (mkF m 52 #[.val (.long q1), .second, .val (.long q2), .second, .val (.int p1), .val (.int p2), .val (.int p3), .val (.long q3), .second, .val (.ref b_1), .val (.ref b_8), .unset, .unset, .unset, .unset] [(.ref b_30), (.ref b_30), (.ref b_19), (.ref b_15), (.ref b_15)]))
  refine OGo.to (fun _ k => XS.aload X_30.here hx rfl (hb hby at_52) rfl rfl k) ?_
  show OGo p e below _ (T_30.setTop (mkF m 54 #[.val (.long q1), .second, .val (.long q2), .second, .val (.int p1), .val (.int p2), .val (.int p3), .val (.long q3), .second, .val (.ref b_1), .val (.ref b_8), .unset, .unset, .unset, .unset] [(.ref b_8), (.ref b_30), (.ref b_30), (.ref b_19), (.ref b_15), (.ref b_15)]))
  have f_38 : Arv Z h_30 b_8 k_8 .char (1 : Int32) [(.int (nar .char ((((p3.toUInt32 >>> ((8 : Int32) &&& 31).toUInt32).toInt32) &&& (255 : Int32)).toUInt32.toUInt16.toUInt32.toInt32)))] (.int (0 : Int32)) := (f_32.ext E_30)
  have f_39 : Arv Z h_30 b_1 k_1 .char (1 : Int32) [(.int (nar .char ((p3 &&& (255 : Int32)).toUInt32.toUInt16.toUInt32.toInt32)))] (.int (0 : Int32)) := (f_31.ext E_30)
  have f_40 : Exa Z h_30 b_15 "com/example/lahetti/lahetti/protocol/PullRequestHeader" := (f_33.ext E_30)
  have f_41 : Exa Z h_30 b_19 "java/lang/String" := (f_34.ext E_30)
  have f_42 : Arv Z h_30 b__24 kb__24 .byte (1 : Int32) [(.int (((nar .char ((p3 &&& (255 : Int32)).toUInt32.toUInt16.toUInt32.toInt32)).toInt8.toInt32)).toInt8.toInt32)] (.int (0 : Int32)) := (p_24_2.ext E_30)
  obtain ⟨_, T_37, Lc_37, X_37, hQ_37, st_37⟩ := own_un X_30 (Q := Qsc1 Z b_30 b_8 k_8 (nar .char ((((p3.toUInt32 >>> ((8 : Int32) &&& 31).toUInt32).toInt32) &&& (255 : Int32)).toUInt32.toUInt16.toUInt32.toInt32)) cs h_30 n0) (rc := 1) (rs := 1) (W := fun v B => Steps p.tables e below (T_30.setTop (mkF m 54 #[.val (.long q1), .second, .val (.long q2), .second, .val (.int p1), .val (.int p2), .val (.int p3), .val (.long q3), .second, .val (.ref b_1), .val (.ref b_8), .unset, .unset, .unset, .unset] [(.ref b_8), (.ref b_30), (.ref b_30), (.ref b_19), (.ref b_15), (.ref b_15)])) (B.setTop { (mkF m 54 #[.val (.long q1), .second, .val (.long q2), .second, .val (.int p1), .val (.int p2), .val (.int p3), .val (.long q3), .second, .val (.ref b_1), .val (.ref b_8), .unset, .unset, .unset, .unset] [(.ref b_8), (.ref b_30), (.ref b_30), (.ref b_19), (.ref b_15), (.ref b_15)]) with pc := 57, stack := v.toList ++ [(.ref b_30), (.ref b_19), (.ref b_15), (.ref b_15)] })) <| X_30.specialBack hx (y := (⟨"java/lang/String", "<init>", "([C)V"⟩ : MethodName)) rfl hown (mvT hZ (hw _ (List.mem_of_getElem? (i := 7) rfl))) (mvT hZ (hw _ (List.mem_of_getElem? (i := 8) rfl))) (mvT hZ (hw _ (List.mem_of_getElem? (i := 9) rfl))) (by decide) (backOf (W := 4) (rmsc1 l Z a0 hw [] b_30 b_8 k_8 (nar .char ((((p3.toUInt32 >>> ((8 : Int32) &&& 31).toUInt32).toInt32) &&& (255 : Int32)).toUInt32.toUInt16.toUInt32.toInt32)) cs h_30 n0 z_35 A_30 F_value_b_30 F_coder_b_30 g_b_30 f_38 (Ne.symm ne_b_8_b_30) SC O_36 (hcs) (by rw [own_cn]; exact own_c255 _)) hZ (hw _ (List.mem_of_getElem? (i := 9) rfl)) (hw _ (List.mem_of_getElem? (i := 6) rfl)) (by decide) (by decide)) (g := (mkF m 54 #[.val (.long q1), .second, .val (.long q2), .second, .val (.int p1), .val (.int p2), .val (.int p3), .val (.long q3), .second, .val (.ref b_1), .val (.ref b_8), .unset, .unset, .unset, .unset] [(.ref b_8), (.ref b_30), (.ref b_30), (.ref b_19), (.ref b_15), (.ref b_15)])) rfl (by rw [hml]; rfl) (Steps.refl _) (a := b_30) (argsL := [(.ref b_8)]) (rest := [(.ref b_30), (.ref b_19), (.ref b_15), (.ref b_15)]) (lenOf pd_5 rfl) rfl (by show 2 * 0 + _ ≤ _; exact Nat.le_of_eq rfl) (hb hby at_54) (fun _ _ => ⟨rfl, e_30, (by decide : 6 + 1 ≤ _), (by decide : 21 + 1 ≤ _)⟩)
  obtain ⟨b__37, kb__37, rfl, N_37q, K_37, gq_b__37, sq_b__37, p_37_0, p_37_1, p_37_2⟩ := hQ_37
  have N_37 := Fr.app N_24 N_37q
  refine OGo.to (fun _ k => st_37.trans k) ?_
  have ne_b_1_b__37 : b_1 ≠ b__37 := Nat.ne_of_lt (Nat.lt_of_lt_of_le f_39.lt sq_b__37)
  have ne_b_8_b__37 : b_8 ≠ b__37 := Nat.ne_of_lt (Nat.lt_of_lt_of_le f_38.lt sq_b__37)
  have ne_b_15_b__37 : b_15 ≠ b__37 := Nat.ne_of_lt (Nat.lt_of_lt_of_le f_40.lt sq_b__37)
  have ne_b_19_b__37 : b_19 ≠ b__37 := Nat.ne_of_lt (Nat.lt_of_lt_of_le f_41.lt sq_b__37)
  have ne_b__24_b__37 : b__24 ≠ b__37 := Nat.ne_of_lt (Nat.lt_of_lt_of_le f_42.lt sq_b__37)
  have ne_b_30_b__37 : b_30 ≠ b__37 := Nat.ne_of_lt (Nat.lt_of_lt_of_le A_30.lt sq_b__37)
  have z_43 : n0 ≤ T_37.heap.size := Nat.le_trans z_35 K_37.1
  have O_44 : Old Z n0 T_37.heap := O_36.keep K_37 (allS g_b_30 all0)
  show OGo p e below _ (T_37.setTop (mkF m 57 #[.val (.long q1), .second, .val (.long q2), .second, .val (.int p1), .val (.int p2), .val (.int p3), .val (.long q3), .second, .val (.ref b_1), .val (.ref b_8), .unset, .unset, .unset, .unset] [(.ref b_30), (.ref b_19), (.ref b_15), (.ref b_15)]))
  refine OGo.to (fun _ k => XS.iload X_37.here hx rfl (hb hby at_57) rfl k) ?_
  show OGo p e below _ (T_37.setTop (mkF m 59 #[.val (.long q1), .second, .val (.long q2), .second, .val (.int p1), .val (.int p2), .val (.int p3), .val (.long q3), .second, .val (.ref b_1), .val (.ref b_8), .unset, .unset, .unset, .unset] [(.int p1), (.ref b_30), (.ref b_19), (.ref b_15), (.ref b_15)]))
  refine OGo.to (fun _ k => XS.lloadN X_37.here hx rfl (hb hby at_59) rfl k) ?_
  show OGo p e below _ (T_37.setTop (mkF m 60 #[.val (.long q1), .second, .val (.long q2), .second, .val (.int p1), .val (.int p2), .val (.int p3), .val (.long q3), .second, .val (.ref b_1), .val (.ref b_8), .unset, .unset, .unset, .unset] [(.long q2), (.int p1), (.ref b_30), (.ref b_19), (.ref b_15), (.ref b_15)]))
  refine OGo.to (fun _ k => XS.iload X_37.here hx rfl (hb hby at_60) rfl k) ?_
  show OGo p e below _ (T_37.setTop (mkF m 62 #[.val (.long q1), .second, .val (.long q2), .second, .val (.int p1), .val (.int p2), .val (.int p3), .val (.long q3), .second, .val (.ref b_1), .val (.ref b_8), .unset, .unset, .unset, .unset] [(.int p2), (.long q2), (.int p1), (.ref b_30), (.ref b_19), (.ref b_15), (.ref b_15)]))
  have f_46 : Exa Z T_37.heap b_15 "com/example/lahetti/lahetti/protocol/PullRequestHeader" := (f_40.keep K_37)
  have f_47 : Fld Z T_37.heap b_15 "com/example/lahetti/lahetti/protocol/PullRequestHeader" "consumerGroup" "Ljava/lang/String;" .null := ((((F_consumerGroup_b_15.ext E_19).keep K_24 (fun q => ne_b_15_b_19 (List.mem_singleton.mp q))).ext E_30).keep K_37 (fun q => ne_b_15_b_30 (List.mem_singleton.mp q)))
  have f_48 : Fld Z T_37.heap b_15 "com/example/lahetti/lahetti/protocol/PullRequestHeader" "topic" "Ljava/lang/String;" .null := ((((F_topic_b_15.ext E_19).keep K_24 (fun q => ne_b_15_b_19 (List.mem_singleton.mp q))).ext E_30).keep K_37 (fun q => ne_b_15_b_30 (List.mem_singleton.mp q)))
  have f_49 : Fld Z T_37.heap b_15 "com/example/lahetti/lahetti/protocol/PullRequestHeader" "queueId" "I" (.int (0 : Int32)) := ((((F_queueId_b_15.ext E_19).keep K_24 (fun q => ne_b_15_b_19 (List.mem_singleton.mp q))).ext E_30).keep K_37 (fun q => ne_b_15_b_30 (List.mem_singleton.mp q)))
  have f_50 : Fld Z T_37.heap b_15 "com/example/lahetti/lahetti/protocol/PullRequestHeader" "queueOffset" "J" (.long (0 : Int64)) := ((((F_queueOffset_b_15.ext E_19).keep K_24 (fun q => ne_b_15_b_19 (List.mem_singleton.mp q))).ext E_30).keep K_37 (fun q => ne_b_15_b_30 (List.mem_singleton.mp q)))
  have f_51 : Fld Z T_37.heap b_15 "com/example/lahetti/lahetti/protocol/PullRequestHeader" "maxMsgNums" "I" (.int (0 : Int32)) := ((((F_maxMsgNums_b_15.ext E_19).keep K_24 (fun q => ne_b_15_b_19 (List.mem_singleton.mp q))).ext E_30).keep K_37 (fun q => ne_b_15_b_30 (List.mem_singleton.mp q)))
  have f_52 : Fld Z T_37.heap b_15 "com/example/lahetti/lahetti/protocol/PullRequestHeader" "sysFlag" "I" (.int (0 : Int32)) := ((((F_sysFlag_b_15.ext E_19).keep K_24 (fun q => ne_b_15_b_19 (List.mem_singleton.mp q))).ext E_30).keep K_37 (fun q => ne_b_15_b_30 (List.mem_singleton.mp q)))
  have f_53 : Fld Z T_37.heap b_15 "com/example/lahetti/lahetti/protocol/PullRequestHeader" "commitOffset" "J" (.long (0 : Int64)) := ((((F_commitOffset_b_15.ext E_19).keep K_24 (fun q => ne_b_15_b_19 (List.mem_singleton.mp q))).ext E_30).keep K_37 (fun q => ne_b_15_b_30 (List.mem_singleton.mp q)))
  have f_54 : Fld Z T_37.heap b_15 "com/example/lahetti/lahetti/protocol/PullRequestHeader" "suspendTimeoutMillis" "J" (.long (0 : Int64)) := ((((F_suspendTimeoutMillis_b_15.ext E_19).keep K_24 (fun q => ne_b_15_b_19 (List.mem_singleton.mp q))).ext E_30).keep K_37 (fun q => ne_b_15_b_30 (List.mem_singleton.mp q)))
  have f_55 : Fld Z T_37.heap b_15 "com/example/lahetti/lahetti/protocol/PullRequestHeader" "subVersion" "J" (.long (0 : Int64)) := ((((F_subVersion_b_15.ext E_19).keep K_24 (fun q => ne_b_15_b_19 (List.mem_singleton.mp q))).ext E_30).keep K_37 (fun q => ne_b_15_b_30 (List.mem_singleton.mp q)))
  have f_56 : Fld Z T_37.heap b_15 "com/example/lahetti/lahetti/protocol/PullRequestHeader" "expressionType" "Ljava/lang/String;" .null := ((((F_expressionType_b_15.ext E_19).keep K_24 (fun q => ne_b_15_b_19 (List.mem_singleton.mp q))).ext E_30).keep K_37 (fun q => ne_b_15_b_30 (List.mem_singleton.mp q)))
  obtain ⟨_, T_45, Lc_45, X_45, hS_45, hZ, hown, hQ_45, st_45⟩ := own_unS hS0 (Nat.le_trans (Nat.le_trans (Nat.le_trans (Nat.le_trans (Nat.le_trans (Nat.le_trans (Nat.le_trans (Nat.le_trans (Nat.le_trans (Nat.le_refl h0.size) E_1.1) (Keep.of_wr W_5).1) E_8.1) (Keep.of_wr W_12).1) E_15.1) E_19.1) K_24.1) E_30.1) K_37.1) hZ hown X_37 (Q := Qc1 Z b_15 b_19 b_30 p1 q2 p2 T_37.heap n0) (rc := 2) (rs := 16) (W := fun v B => Steps p.tables e below (T_37.setTop (mkF m 62 #[.val (.long q1), .second, .val (.long q2), .second, .val (.int p1), .val (.int p2), .val (.int p3), .val (.long q3), .second, .val (.ref b_1), .val (.ref b_8), .unset, .unset, .unset, .unset] [(.int p2), (.long q2), (.int p1), (.ref b_30), (.ref b_19), (.ref b_15), (.ref b_15)])) (B.setTop { (mkF m 62 #[.val (.long q1), .second, .val (.long q2), .second, .val (.int p1), .val (.int p2), .val (.int p3), .val (.long q3), .second, .val (.ref b_1), .val (.ref b_8), .unset, .unset, .unset, .unset] [(.int p2), (.long q2), (.int p1), (.ref b_30), (.ref b_19), (.ref b_15), (.ref b_15)]) with pc := 65, stack := v.toList ++ [(.ref b_15)] })) <| X_37.specialBackS hx (y := (⟨"com/example/lahetti/lahetti/protocol/PullRequestHeader", "<init>", "(Ljava/lang/String;Ljava/lang/String;IJI)V"⟩ : MethodName)) rfl hown (mvT hZ (hw _ (List.mem_of_getElem? (i := 33) rfl))) (mvT hZ (hw _ (List.mem_of_getElem? (i := 34) rfl))) (mvT hZ (hw _ (List.mem_of_getElem? (i := 35) rfl))) (by decide) (backOfS (W := 1) (rmc1 l Z a0 hw [] b_15 b_19 b_30 p1 q2 p2 T_37.heap n0 z_43 f_46 f_47 f_48 f_49 f_50 f_51 f_52 f_53 f_54 f_55 f_56 g_b_15) hZ (hw _ (List.mem_of_getElem? (i := 35) rfl)) (hw _ (List.mem_of_getElem? (i := 3) rfl)) (by decide) (by decide)) (g := (mkF m 62 #[.val (.long q1), .second, .val (.long q2), .second, .val (.int p1), .val (.int p2), .val (.int p3), .val (.long q3), .second, .val (.ref b_1), .val (.ref b_8), .unset, .unset, .unset, .unset] [(.int p2), (.long q2), (.int p1), (.ref b_30), (.ref b_19), (.ref b_15), (.ref b_15)])) rfl (by rw [hml]; rfl) (Steps.refl _) (a := b_15) (argsL := [(.ref b_19), (.ref b_30), (.int p1), (.long q2), (.int p2)]) (rest := [(.ref b_15)]) (lenOf pd_6 rfl) rfl (by show 2 * 0 + _ ≤ _; exact Nat.le_of_eq rfl) (hb hby at_62) (fun _ _ => ⟨rfl, (rfl : T_37.heap = T_37.heap), (by decide : 7 + 2 ≤ _), (by decide : 22 + 16 ≤ _)⟩)
  obtain ⟨tg__45, rfl, N_45q, K_45, p_45_0, p_45_1, p_45_2, p_45_3, p_45_4, p_45_5, p_45_6, p_45_7, p_45_8, p_45_9⟩ := hQ_45
  have N_45 := Fr.app N_37 N_45q
  refine OGo.to (fun _ k => st_45.trans k) ?_
  have z_57 : n0 ≤ T_45.heap.size := Nat.le_trans z_43 K_45.1
  have O_58 : Old Z n0 T_45.heap := O_44.keep K_45 (allS g_b_15 all0)
  show OGo p e below _ (T_45.setTop (mkF m 65 #[.val (.long q1), .second, .val (.long q2), .second, .val (.int p1), .val (.int p2), .val (.int p3), .val (.long q3), .second, .val (.ref b_1), .val (.ref b_8), .unset, .unset, .unset, .unset] [(.ref b_15)]))
  refine OGo.to (fun _ k => XS.astore X_45.here hx rfl (hb hby at_65) rfl rfl (l' := #[.val (.long q1), .second, .val (.long q2), .second, .val (.int p1), .val (.int p2), .val (.int p3), .val (.long q3), .second, .val (.ref b_1), .val (.ref b_8), .val (.ref b_15), .unset, .unset, .unset]) rfl k) ?_
  show OGo p e below _ (T_45.setTop (mkF m 67 #[.val (.long q1), .second, .val (.long q2), .second, .val (.int p1), .val (.int p2), .val (.int p3), .val (.long q3), .second, .val (.ref b_1), .val (.ref b_8), .val (.ref b_15), .unset, .unset, .unset] []))
  refine OGo.to (fun _ k => XS.aload X_45.here hx rfl (hb hby at_67) rfl rfl k) ?_
  show OGo p e below _ (T_45.setTop (mkF m 69 #[.val (.long q1), .second, .val (.long q2), .second, .val (.int p1), .val (.int p2), .val (.int p3), .val (.long q3), .second, .val (.ref b_1), .val (.ref b_8), .val (.ref b_15), .unset, .unset, .unset] [(.ref b_15)]))
  have f_60 : Exa Z T_45.heap b_15 "com/example/lahetti/lahetti/protocol/PullRequestHeader" := (f_46.keep K_45)
  obtain ⟨cq_59, kq_59, q_59a, q_59b, q_59c⟩ := isOf hZ (rfl : T_45.heap = T_45.heap) f_60
  obtain ⟨_, T_59, Lc_59, X_59, hQ_59, st_59⟩ := own_un X_45 (Q := Qgh Z b_15 (0 : Int32) (15000 : Int64) T_45.heap n0) (rc := 0) (rs := 0) (W := fun v B => Steps p.tables e below (T_45.setTop (mkF m 69 #[.val (.long q1), .second, .val (.long q2), .second, .val (.int p1), .val (.int p2), .val (.int p3), .val (.long q3), .second, .val (.ref b_1), .val (.ref b_8), .val (.ref b_15), .unset, .unset, .unset] [(.ref b_15)])) (B.setTop { (mkF m 69 #[.val (.long q1), .second, .val (.long q2), .second, .val (.int p1), .val (.int p2), .val (.int p3), .val (.long q3), .second, .val (.ref b_1), .val (.ref b_8), .val (.ref b_15), .unset, .unset, .unset] [(.ref b_15)]) with pc := 72, stack := v.toList ++ [] })) <| X_45.virtualBack hx (y := (⟨"com/example/lahetti/lahetti/protocol/PullRequestHeader", "getHoldMillis", "()J"⟩ : MethodName)) (z := (⟨"com/example/lahetti/lahetti/protocol/PullRequestHeader", "getHoldMillis", "()J"⟩ : MethodName)) hown (mvT hZ (hw _ (List.mem_of_getElem? (i := 64) rfl))) (mvT hZ (hw _ (List.mem_of_getElem? (i := 65) rfl))) (notFace_of_selects (args := #[]) (mvT hZ (hw _ (List.mem_of_getElem? (i := 67) rfl)))) (mvT hZ (hw _ (List.mem_of_getElem? (i := 67) rfl))) (mvT hZ (hw _ (List.mem_of_getElem? (i := 66) rfl))) (by decide) (backOf (W := 0) (rmgh l Z a0 hw [] b_15 (0 : Int32) (15000 : Int64) T_45.heap n0 z_57 p_45_5 p_45_7) hZ (hw _ (List.mem_of_getElem? (i := 68) rfl)) (hw _ (List.mem_of_getElem? (i := 3) rfl)) (by decide) (by decide)) q_59a q_59c (g := (mkF m 69 #[.val (.long q1), .second, .val (.long q2), .second, .val (.int p1), .val (.int p2), .val (.int p3), .val (.long q3), .second, .val (.ref b_1), .val (.ref b_8), .val (.ref b_15), .unset, .unset, .unset] [(.ref b_15)])) rfl (by rw [hml]; rfl) (Steps.refl _) (argsL := []) (rest := []) (lenOf pd_7 rfl) rfl (by show 2 * 0 + _ ≤ _; exact Nat.le_of_eq rfl) (hb hby at_69) (fun _ _ => ⟨rfl, (rfl : T_45.heap = T_45.heap), (by decide : 9 + 0 ≤ _), (by decide : 38 + 0 ≤ _)⟩)
  obtain ⟨rfl, N_59q, e_59⟩ := hQ_59
  have N_59 := Fr.app N_45 N_59q
  refine OGo.to (fun _ k => st_59.trans k) ?_
  show OGo p e below _ (T_59.setTop (mkF m 72 #[.val (.long q1), .second, .val (.long q2), .second, .val (.int p1), .val (.int p2), .val (.int p3), .val (.long q3), .second, .val (.ref b_1), .val (.ref b_8), .val (.ref b_15), .unset, .unset, .unset] [(.long (own_hold (0 : Int32) (15000 : Int64)))]))
  refine OGo.to (fun _ k => XS.lconst X_59.here hx rfl (hb hby at_72) k) ?_
  show OGo p e below _ (T_59.setTop (mkF m 73 #[.val (.long q1), .second, .val (.long q2), .second, .val (.int p1), .val (.int p2), .val (.int p3), .val (.long q3), .second, .val (.ref b_1), .val (.ref b_8), .val (.ref b_15), .unset, .unset, .unset] [(.long (0 : Int64)), (.long (own_hold (0 : Int32) (15000 : Int64)))]))
  refine OGo.to (fun _ k => XS.lcmp X_59.here hx rfl (hb hby at_73) rfl k) ?_
  show OGo p e below _ (T_59.setTop (mkF m 74 #[.val (.long q1), .second, .val (.long q2), .second, .val (.int p1), .val (.int p2), .val (.int p3), .val (.long q3), .second, .val (.ref b_1), .val (.ref b_8), .val (.ref b_15), .unset, .unset, .unset] [(.int (lcmpW (own_hold (0 : Int32) (15000 : Int64)) (0 : Int64)))]))
  have hc74__61 : (own_hold (0 : Int32) (15000 : Int64)) = (0 : Int64) := own_h0 _
  refine OGo.to (fun _ k => XS.ifYes X_59.here hx rfl (pc0 := 74) (pc' := 79) rfl (hb hby at_74) rfl ((if0 _ _).trans (teq ((lw_eq (own_hold (0 : Int32) (15000 : Int64)) (0 : Int64)).mpr hc74__61)).1) (by decide) (by decide) k) ?_
  show OGo p e below _ (T_59.setTop (mkF m 79 #[.val (.long q1), .second, .val (.long q2), .second, .val (.int p1), .val (.int p2), .val (.int p3), .val (.long q3), .second, .val (.ref b_1), .val (.ref b_8), .val (.ref b_15), .unset, .unset, .unset] []))
  refine OGo.to (fun _ k => XS.aload X_59.here hx rfl (hb hby at_79) rfl rfl k) ?_
  show OGo p e below _ (T_59.setTop (mkF m 81 #[.val (.long q1), .second, .val (.long q2), .second, .val (.int p1), .val (.int p2), .val (.int p3), .val (.long q3), .second, .val (.ref b_1), .val (.ref b_8), .val (.ref b_15), .unset, .unset, .unset] [(.ref b_15)]))
  refine OGo.to (fun _ k => XS.lload X_59.here hx rfl (hb hby at_81) rfl k) ?_
  show OGo p e below _ (T_59.setTop (mkF m 83 #[.val (.long q1), .second, .val (.long q2), .second, .val (.int p1), .val (.int p2), .val (.int p3), .val (.long q3), .second, .val (.ref b_1), .val (.ref b_8), .val (.ref b_15), .unset, .unset, .unset] [(.long q3), (.ref b_15)]))
  have f_63 : Arv Z T_45.heap b_1 k_1 .char (1 : Int32) [(.int (nar .char ((p3 &&& (255 : Int32)).toUInt32.toUInt16.toUInt32.toInt32)))] (.int (0 : Int32)) := ((f_39.keep K_37 (fun q => ne_b_1_b_30 (List.mem_singleton.mp q))).keep K_45 (fun q => ne_b_1_b_15 (List.mem_singleton.mp q)))
  have f_64 : Arv Z T_45.heap b_8 k_8 .char (1 : Int32) [(.int (nar .char ((((p3.toUInt32 >>> ((8 : Int32) &&& 31).toUInt32).toInt32) &&& (255 : Int32)).toUInt32.toUInt16.toUInt32.toInt32)))] (.int (0 : Int32)) := ((f_38.keep K_37 (fun q => ne_b_8_b_30 (List.mem_singleton.mp q))).keep K_45 (fun q => ne_b_8_b_15 (List.mem_singleton.mp q)))
  have f_65 : Exa Z T_45.heap b_19 "java/lang/String" := ((f_41.keep K_37).keep K_45)
  have f_66 : Arv Z T_45.heap b__24 kb__24 .byte (1 : Int32) [(.int (((nar .char ((p3 &&& (255 : Int32)).toUInt32.toUInt16.toUInt32.toInt32)).toInt8.toInt32)).toInt8.toInt32)] (.int (0 : Int32)) := ((f_42.keep K_37 (fun q => ne_b__24_b_30 (List.mem_singleton.mp q))).keep K_45 (fun q => (Ne.symm ne_b_15_b__24) (List.mem_singleton.mp q)))
  have f_67 : Exa Z T_45.heap b_30 "java/lang/String" := ((A_30.keep K_37).keep K_45)
  have f_68 : Arv Z T_45.heap b__37 kb__37 .byte (1 : Int32) [(.int (((nar .char ((((p3.toUInt32 >>> ((8 : Int32) &&& 31).toUInt32).toInt32) &&& (255 : Int32)).toUInt32.toUInt16.toUInt32.toInt32)).toInt8.toInt32)).toInt8.toInt32)] (.int (0 : Int32)) := (p_37_2.keep K_45 (fun q => (Ne.symm ne_b_15_b__37) (List.mem_singleton.mp q)))
  obtain ⟨cq_62, kq_62, q_62a, q_62b, q_62c⟩ := isOf hZ e_59 f_60
  obtain ⟨_, T_62, Lc_62, X_62, hQ_62, st_62⟩ := own_un X_59 (Q := QwithSubVersion Z b_15 q3 b_19 b_30 p1 q2 p2 (0 : Int32) (0 : Int64) (15000 : Int64) (0 : Int64) tg__45 T_45.heap n0) (rc := 1) (rs := 10) (W := fun v B => Steps p.tables e below (T_59.setTop (mkF m 83 #[.val (.long q1), .second, .val (.long q2), .second, .val (.int p1), .val (.int p2), .val (.int p3), .val (.long q3), .second, .val (.ref b_1), .val (.ref b_8), .val (.ref b_15), .unset, .unset, .unset] [(.long q3), (.ref b_15)])) (B.setTop { (mkF m 83 #[.val (.long q1), .second, .val (.long q2), .second, .val (.int p1), .val (.int p2), .val (.int p3), .val (.long q3), .second, .val (.ref b_1), .val (.ref b_8), .val (.ref b_15), .unset, .unset, .unset] [(.long q3), (.ref b_15)]) with pc := 86, stack := v.toList ++ [] })) <| X_59.virtualBack hx (y := (⟨"com/example/lahetti/lahetti/protocol/PullRequestHeader", "withSubVersion", "(J)Lcom/example/lahetti/lahetti/protocol/PullRequestHeader;"⟩ : MethodName)) (z := (⟨"com/example/lahetti/lahetti/protocol/PullRequestHeader", "withSubVersion", "(J)Lcom/example/lahetti/lahetti/protocol/PullRequestHeader;"⟩ : MethodName)) hown (mvT hZ (hw _ (List.mem_of_getElem? (i := 69) rfl))) (mvT hZ (hw _ (List.mem_of_getElem? (i := 70) rfl))) (notFace_of_selects (args := #[]) (mvT hZ (hw _ (List.mem_of_getElem? (i := 72) rfl)))) (mvT hZ (hw _ (List.mem_of_getElem? (i := 72) rfl))) (mvT hZ (hw _ (List.mem_of_getElem? (i := 71) rfl))) (by decide) (backOf (W := 0) (rmwithSubVersion l Z a0 hw [] b_15 q3 b_19 b_30 p1 q2 p2 (0 : Int32) (0 : Int64) (15000 : Int64) (0 : Int64) tg__45 T_45.heap n0 z_57 p_45_0 p_45_1 p_45_2 p_45_3 p_45_4 p_45_5 p_45_6 p_45_7 p_45_8 p_45_9) hZ (hw _ (List.mem_of_getElem? (i := 73) rfl)) (hw _ (List.mem_of_getElem? (i := 3) rfl)) (by decide) (by decide)) q_62a q_62c (g := (mkF m 83 #[.val (.long q1), .second, .val (.long q2), .second, .val (.int p1), .val (.int p2), .val (.int p3), .val (.long q3), .second, .val (.ref b_1), .val (.ref b_8), .val (.ref b_15), .unset, .unset, .unset] [(.long q3), (.ref b_15)])) rfl (by rw [hml]; rfl) (Steps.refl _) (argsL := [(.long q3)]) (rest := []) (lenOf pd_8 rfl) rfl (by show 2 * 0 + _ ≤ _; exact Nat.le_of_eq rfl) (hb hby at_83) (fun _ _ => ⟨rfl, e_59, (by decide : 9 + 1 ≤ _), (by decide : 38 + 10 ≤ _)⟩)
  obtain ⟨b__62, rfl, N_62q, K_62, gq_b__62, sq_b__62, p_62_0, p_62_1, p_62_2, p_62_3, p_62_4, p_62_5, p_62_6, p_62_7, p_62_8, p_62_9, p_62_10⟩ := hQ_62
  have N_62 := Fr.app N_59 N_62q
  refine OGo.to (fun _ k => st_62.trans k) ?_
  have ne_b_1_b__62 : b_1 ≠ b__62 := Nat.ne_of_lt (Nat.lt_of_lt_of_le f_63.lt sq_b__62)
  have ne_b_8_b__62 : b_8 ≠ b__62 := Nat.ne_of_lt (Nat.lt_of_lt_of_le f_64.lt sq_b__62)
  have ne_b_15_b__62 : b_15 ≠ b__62 := Nat.ne_of_lt (Nat.lt_of_lt_of_le f_60.lt sq_b__62)
  have ne_b_19_b__62 : b_19 ≠ b__62 := Nat.ne_of_lt (Nat.lt_of_lt_of_le f_65.lt sq_b__62)
  have ne_b__24_b__62 : b__24 ≠ b__62 := Nat.ne_of_lt (Nat.lt_of_lt_of_le f_66.lt sq_b__62)
  have ne_b_30_b__62 : b_30 ≠ b__62 := Nat.ne_of_lt (Nat.lt_of_lt_of_le f_67.lt sq_b__62)
  have ne_b__37_b__62 : b__37 ≠ b__62 := Nat.ne_of_lt (Nat.lt_of_lt_of_le f_68.lt sq_b__62)
  have z_69 : n0 ≤ T_62.heap.size := Nat.le_trans z_57 K_62.1
  have O_70 : Old Z n0 T_62.heap := O_58.keep K_62 all0
  show OGo p e below _ (T_62.setTop (mkF m 86 #[.val (.long q1), .second, .val (.long q2), .second, .val (.int p1), .val (.int p2), .val (.int p3), .val (.long q3), .second, .val (.ref b_1), .val (.ref b_8), .val (.ref b_15), .unset, .unset, .unset] [(.ref b__62)]))
  refine OGo.to (fun _ k => XS.astore X_62.here hx rfl (hb hby at_86) rfl rfl (l' := #[.val (.long q1), .second, .val (.long q2), .second, .val (.int p1), .val (.int p2), .val (.int p3), .val (.long q3), .second, .val (.ref b_1), .val (.ref b_8), .val (.ref b_15), .val (.ref b__62), .unset, .unset]) rfl k) ?_
  show OGo p e below _ (T_62.setTop (mkF m 88 #[.val (.long q1), .second, .val (.long q2), .second, .val (.int p1), .val (.int p2), .val (.int p3), .val (.long q3), .second, .val (.ref b_1), .val (.ref b_8), .val (.ref b_15), .val (.ref b__62), .unset, .unset] []))
  refine OGo.to (fun _ k => XS.aload X_62.here hx rfl (hb hby at_88) rfl rfl k) ?_
  show OGo p e below _ (T_62.setTop (mkF m 90 #[.val (.long q1), .second, .val (.long q2), .second, .val (.int p1), .val (.int p2), .val (.int p3), .val (.long q3), .second, .val (.ref b_1), .val (.ref b_8), .val (.ref b_15), .val (.ref b__62), .unset, .unset] [(.ref b__62)]))
  obtain ⟨cq_71, kq_71, q_71a, q_71b, q_71c⟩ := isOf hZ (rfl : T_62.heap = T_62.heap) p_62_0
  obtain ⟨_, T_71, Lc_71, X_71, hQ_71, st_71⟩ := own_un X_62 (Q := Qgh Z b__62 (0 : Int32) (15000 : Int64) T_62.heap n0) (rc := 0) (rs := 0) (W := fun v B => Steps p.tables e below (T_62.setTop (mkF m 90 #[.val (.long q1), .second, .val (.long q2), .second, .val (.int p1), .val (.int p2), .val (.int p3), .val (.long q3), .second, .val (.ref b_1), .val (.ref b_8), .val (.ref b_15), .val (.ref b__62), .unset, .unset] [(.ref b__62)])) (B.setTop { (mkF m 90 #[.val (.long q1), .second, .val (.long q2), .second, .val (.int p1), .val (.int p2), .val (.int p3), .val (.long q3), .second, .val (.ref b_1), .val (.ref b_8), .val (.ref b_15), .val (.ref b__62), .unset, .unset] [(.ref b__62)]) with pc := 93, stack := v.toList ++ [] })) <| X_62.virtualBack hx (y := (⟨"com/example/lahetti/lahetti/protocol/PullRequestHeader", "getHoldMillis", "()J"⟩ : MethodName)) (z := (⟨"com/example/lahetti/lahetti/protocol/PullRequestHeader", "getHoldMillis", "()J"⟩ : MethodName)) hown (mvT hZ (hw _ (List.mem_of_getElem? (i := 64) rfl))) (mvT hZ (hw _ (List.mem_of_getElem? (i := 65) rfl))) (notFace_of_selects (args := #[]) (mvT hZ (hw _ (List.mem_of_getElem? (i := 67) rfl)))) (mvT hZ (hw _ (List.mem_of_getElem? (i := 67) rfl))) (mvT hZ (hw _ (List.mem_of_getElem? (i := 66) rfl))) (by decide) (backOf (W := 0) (rmgh l Z a0 hw [] b__62 (0 : Int32) (15000 : Int64) T_62.heap n0 z_69 p_62_6 p_62_8) hZ (hw _ (List.mem_of_getElem? (i := 68) rfl)) (hw _ (List.mem_of_getElem? (i := 3) rfl)) (by decide) (by decide)) q_71a q_71c (g := (mkF m 90 #[.val (.long q1), .second, .val (.long q2), .second, .val (.int p1), .val (.int p2), .val (.int p3), .val (.long q3), .second, .val (.ref b_1), .val (.ref b_8), .val (.ref b_15), .val (.ref b__62), .unset, .unset] [(.ref b__62)])) rfl (by rw [hml]; rfl) (Steps.refl _) (argsL := []) (rest := []) (lenOf pd_7 rfl) rfl (by show 2 * 0 + _ ≤ _; exact Nat.le_of_eq rfl) (hb hby at_90) (fun _ _ => ⟨rfl, (rfl : T_62.heap = T_62.heap), (by decide : 10 + 0 ≤ _), (by decide : 48 + 0 ≤ _)⟩)
  obtain ⟨rfl, N_71q, e_71⟩ := hQ_71
  have N_71 := Fr.app N_62 N_71q
  refine OGo.to (fun _ k => st_71.trans k) ?_
  show OGo p e below _ (T_71.setTop (mkF m 93 #[.val (.long q1), .second, .val (.long q2), .second, .val (.int p1), .val (.int p2), .val (.int p3), .val (.long q3), .second, .val (.ref b_1), .val (.ref b_8), .val (.ref b_15), .val (.ref b__62), .unset, .unset] [(.long (own_hold (0 : Int32) (15000 : Int64)))]))
  refine OGo.to (fun _ k => XS.lconst X_71.here hx rfl (hb hby at_93) k) ?_
  show OGo p e below _ (T_71.setTop (mkF m 94 #[.val (.long q1), .second, .val (.long q2), .second, .val (.int p1), .val (.int p2), .val (.int p3), .val (.long q3), .second, .val (.ref b_1), .val (.ref b_8), .val (.ref b_15), .val (.ref b__62), .unset, .unset] [(.long (0 : Int64)), (.long (own_hold (0 : Int32) (15000 : Int64)))]))
  refine OGo.to (fun _ k => XS.lcmp X_71.here hx rfl (hb hby at_94) rfl k) ?_
  show OGo p e below _ (T_71.setTop (mkF m 95 #[.val (.long q1), .second, .val (.long q2), .second, .val (.int p1), .val (.int p2), .val (.int p3), .val (.long q3), .second, .val (.ref b_1), .val (.ref b_8), .val (.ref b_15), .val (.ref b__62), .unset, .unset] [(.int (lcmpW (own_hold (0 : Int32) (15000 : Int64)) (0 : Int64)))]))
  have hc95__72 : (own_hold (0 : Int32) (15000 : Int64)) = (0 : Int64) := own_h0 _
  refine OGo.to (fun _ k => XS.ifYes X_71.here hx rfl (pc0 := 95) (pc' := 100) rfl (hb hby at_95) rfl ((if0 _ _).trans (teq ((lw_eq (own_hold (0 : Int32) (15000 : Int64)) (0 : Int64)).mpr hc95__72)).1) (by decide) (by decide) k) ?_
  show OGo p e below _ (T_71.setTop (mkF m 100 #[.val (.long q1), .second, .val (.long q2), .second, .val (.int p1), .val (.int p2), .val (.int p3), .val (.long q3), .second, .val (.ref b_1), .val (.ref b_8), .val (.ref b_15), .val (.ref b__62), .unset, .unset] []))
  refine OGo.to (fun _ k => XS.aload X_71.here hx rfl (hb hby at_100) rfl rfl k) ?_
  show OGo p e below _ (T_71.setTop (mkF m 102 #[.val (.long q1), .second, .val (.long q2), .second, .val (.int p1), .val (.int p2), .val (.int p3), .val (.long q3), .second, .val (.ref b_1), .val (.ref b_8), .val (.ref b_15), .val (.ref b__62), .unset, .unset] [(.ref b_15)]))
  refine OGo.to (fun _ k => XS.lloadN X_71.here hx rfl (hb hby at_102) rfl k) ?_
  show OGo p e below _ (T_71.setTop (mkF m 103 #[.val (.long q1), .second, .val (.long q2), .second, .val (.int p1), .val (.int p2), .val (.int p3), .val (.long q3), .second, .val (.ref b_1), .val (.ref b_8), .val (.ref b_15), .val (.ref b__62), .unset, .unset] [(.long q1), (.ref b_15)]))
  have f_74 : Fld Z T_62.heap b_15 "com/example/lahetti/lahetti/protocol/PullRequestHeader" "consumerGroup" "Ljava/lang/String;" (.ref b_19) := (p_45_0.keep K_62 (List.not_mem_nil))
  have f_75 : Fld Z T_62.heap b_15 "com/example/lahetti/lahetti/protocol/PullRequestHeader" "topic" "Ljava/lang/String;" (.ref b_30) := (p_45_1.keep K_62 (List.not_mem_nil))
  have f_76 : Fld Z T_62.heap b_15 "com/example/lahetti/lahetti/protocol/PullRequestHeader" "queueId" "I" (.int p1) := (p_45_2.keep K_62 (List.not_mem_nil))
  have f_77 : Fld Z T_62.heap b_15 "com/example/lahetti/lahetti/protocol/PullRequestHeader" "queueOffset" "J" (.long q2) := (p_45_3.keep K_62 (List.not_mem_nil))
  have f_78 : Fld Z T_62.heap b_15 "com/example/lahetti/lahetti/protocol/PullRequestHeader" "maxMsgNums" "I" (.int p2) := (p_45_4.keep K_62 (List.not_mem_nil))
  have f_79 : Fld Z T_62.heap b_15 "com/example/lahetti/lahetti/protocol/PullRequestHeader" "sysFlag" "I" (.int (0 : Int32)) := (p_45_5.keep K_62 (List.not_mem_nil))
  have f_80 : Fld Z T_62.heap b_15 "com/example/lahetti/lahetti/protocol/PullRequestHeader" "commitOffset" "J" (.long (0 : Int64)) := (p_45_6.keep K_62 (List.not_mem_nil))
  have f_81 : Fld Z T_62.heap b_15 "com/example/lahetti/lahetti/protocol/PullRequestHeader" "suspendTimeoutMillis" "J" (.long (15000 : Int64)) := (p_45_7.keep K_62 (List.not_mem_nil))
  have f_82 : Fld Z T_62.heap b_15 "com/example/lahetti/lahetti/protocol/PullRequestHeader" "subVersion" "J" (.long (0 : Int64)) := (p_45_8.keep K_62 (List.not_mem_nil))
  have f_83 : Fld Z T_62.heap b_15 "com/example/lahetti/lahetti/protocol/PullRequestHeader" "expressionType" "Ljava/lang/String;" (.ref tg__45) := (p_45_9.keep K_62 (List.not_mem_nil))
  have f_84 : Arv Z T_62.heap b_1 k_1 .char (1 : Int32) [(.int (nar .char ((p3 &&& (255 : Int32)).toUInt32.toUInt16.toUInt32.toInt32)))] (.int (0 : Int32)) := (f_63.keep K_62 (List.not_mem_nil))
  have f_85 : Arv Z T_62.heap b_8 k_8 .char (1 : Int32) [(.int (nar .char ((((p3.toUInt32 >>> ((8 : Int32) &&& 31).toUInt32).toInt32) &&& (255 : Int32)).toUInt32.toUInt16.toUInt32.toInt32)))] (.int (0 : Int32)) := (f_64.keep K_62 (List.not_mem_nil))
  have f_86 : Exa Z T_62.heap b_15 "com/example/lahetti/lahetti/protocol/PullRequestHeader" := (f_60.keep K_62)
  have f_87 : Exa Z T_62.heap b_19 "java/lang/String" := (f_65.keep K_62)
  have f_88 : Arv Z T_62.heap b__24 kb__24 .byte (1 : Int32) [(.int (((nar .char ((p3 &&& (255 : Int32)).toUInt32.toUInt16.toUInt32.toInt32)).toInt8.toInt32)).toInt8.toInt32)] (.int (0 : Int32)) := (f_66.keep K_62 (List.not_mem_nil))
  have f_89 : Exa Z T_62.heap b_30 "java/lang/String" := (f_67.keep K_62)
  have f_90 : Arv Z T_62.heap b__37 kb__37 .byte (1 : Int32) [(.int (((nar .char ((((p3.toUInt32 >>> ((8 : Int32) &&& 31).toUInt32).toInt32) &&& (255 : Int32)).toUInt32.toUInt16.toUInt32.toInt32)).toInt8.toInt32)).toInt8.toInt32)] (.int (0 : Int32)) := (f_68.keep K_62 (List.not_mem_nil))
  obtain ⟨cq_73, kq_73, q_73a, q_73b, q_73c⟩ := isOf hZ e_71 f_86
  obtain ⟨_, T_73, Lc_73, X_73, hQ_73, st_73⟩ := own_un X_71 (Q := QwithHoldMillis Z b_15 q1 b_19 b_30 p1 q2 p2 (0 : Int32) (0 : Int64) (15000 : Int64) (0 : Int64) tg__45 T_62.heap n0) (rc := 1) (rs := 10) (W := fun v B => Steps p.tables e below (T_71.setTop (mkF m 103 #[.val (.long q1), .second, .val (.long q2), .second, .val (.int p1), .val (.int p2), .val (.int p3), .val (.long q3), .second, .val (.ref b_1), .val (.ref b_8), .val (.ref b_15), .val (.ref b__62), .unset, .unset] [(.long q1), (.ref b_15)])) (B.setTop { (mkF m 103 #[.val (.long q1), .second, .val (.long q2), .second, .val (.int p1), .val (.int p2), .val (.int p3), .val (.long q3), .second, .val (.ref b_1), .val (.ref b_8), .val (.ref b_15), .val (.ref b__62), .unset, .unset] [(.long q1), (.ref b_15)]) with pc := 106, stack := v.toList ++ [] })) <| X_71.virtualBack hx (y := (⟨"com/example/lahetti/lahetti/protocol/PullRequestHeader", "withHoldMillis", "(J)Lcom/example/lahetti/lahetti/protocol/PullRequestHeader;"⟩ : MethodName)) (z := (⟨"com/example/lahetti/lahetti/protocol/PullRequestHeader", "withHoldMillis", "(J)Lcom/example/lahetti/lahetti/protocol/PullRequestHeader;"⟩ : MethodName)) hown (mvT hZ (hw _ (List.mem_of_getElem? (i := 75) rfl))) (mvT hZ (hw _ (List.mem_of_getElem? (i := 76) rfl))) (notFace_of_selects (args := #[]) (mvT hZ (hw _ (List.mem_of_getElem? (i := 78) rfl)))) (mvT hZ (hw _ (List.mem_of_getElem? (i := 78) rfl))) (mvT hZ (hw _ (List.mem_of_getElem? (i := 77) rfl))) (by decide) (backOf (W := 0) (rmwithHoldMillis l Z a0 hw [] b_15 q1 b_19 b_30 p1 q2 p2 (0 : Int32) (0 : Int64) (15000 : Int64) (0 : Int64) tg__45 T_62.heap n0 z_69 f_74 f_75 f_76 f_77 f_78 f_79 f_80 f_81 f_82 f_83) hZ (hw _ (List.mem_of_getElem? (i := 79) rfl)) (hw _ (List.mem_of_getElem? (i := 3) rfl)) (by decide) (by decide)) q_73a q_73c (g := (mkF m 103 #[.val (.long q1), .second, .val (.long q2), .second, .val (.int p1), .val (.int p2), .val (.int p3), .val (.long q3), .second, .val (.ref b_1), .val (.ref b_8), .val (.ref b_15), .val (.ref b__62), .unset, .unset] [(.long q1), (.ref b_15)])) rfl (by rw [hml]; rfl) (Steps.refl _) (argsL := [(.long q1)]) (rest := []) (lenOf pd_8 rfl) rfl (by show 2 * 0 + _ ≤ _; exact Nat.le_of_eq rfl) (hb hby at_103) (fun _ _ => ⟨rfl, e_71, (by decide : 10 + 1 ≤ _), (by decide : 48 + 10 ≤ _)⟩)
  obtain ⟨b__73, rfl, N_73q, K_73, gq_b__73, sq_b__73, p_73_0, p_73_1, p_73_2, p_73_3, p_73_4, p_73_5, p_73_6, p_73_7, p_73_8, p_73_9, p_73_10⟩ := hQ_73
  have N_73 := Fr.app N_71 N_73q
  refine OGo.to (fun _ k => st_73.trans k) ?_
  have ne_b_1_b__73 : b_1 ≠ b__73 := Nat.ne_of_lt (Nat.lt_of_lt_of_le f_84.lt sq_b__73)
  have ne_b_8_b__73 : b_8 ≠ b__73 := Nat.ne_of_lt (Nat.lt_of_lt_of_le f_85.lt sq_b__73)
  have ne_b_15_b__73 : b_15 ≠ b__73 := Nat.ne_of_lt (Nat.lt_of_lt_of_le f_86.lt sq_b__73)
  have ne_b_19_b__73 : b_19 ≠ b__73 := Nat.ne_of_lt (Nat.lt_of_lt_of_le f_87.lt sq_b__73)
  have ne_b__24_b__73 : b__24 ≠ b__73 := Nat.ne_of_lt (Nat.lt_of_lt_of_le f_88.lt sq_b__73)
  have ne_b_30_b__73 : b_30 ≠ b__73 := Nat.ne_of_lt (Nat.lt_of_lt_of_le f_89.lt sq_b__73)
  have ne_b__37_b__73 : b__37 ≠ b__73 := Nat.ne_of_lt (Nat.lt_of_lt_of_le f_90.lt sq_b__73)
  have ne_b__62_b__73 : b__62 ≠ b__73 := Nat.ne_of_lt (Nat.lt_of_lt_of_le p_62_0.lt sq_b__73)
  have z_91 : n0 ≤ T_73.heap.size := Nat.le_trans z_69 K_73.1
  have O_92 : Old Z n0 T_73.heap := O_70.keep K_73 all0
  show OGo p e below _ (T_73.setTop (mkF m 106 #[.val (.long q1), .second, .val (.long q2), .second, .val (.int p1), .val (.int p2), .val (.int p3), .val (.long q3), .second, .val (.ref b_1), .val (.ref b_8), .val (.ref b_15), .val (.ref b__62), .unset, .unset] [(.ref b__73)]))
  refine OGo.to (fun _ k => XS.astore X_73.here hx rfl (hb hby at_106) rfl rfl (l' := #[.val (.long q1), .second, .val (.long q2), .second, .val (.int p1), .val (.int p2), .val (.int p3), .val (.long q3), .second, .val (.ref b_1), .val (.ref b_8), .val (.ref b_15), .val (.ref b__62), .val (.ref b__73), .unset]) rfl k) ?_
  show OGo p e below _ (T_73.setTop (mkF m 108 #[.val (.long q1), .second, .val (.long q2), .second, .val (.int p1), .val (.int p2), .val (.int p3), .val (.long q3), .second, .val (.ref b_1), .val (.ref b_8), .val (.ref b_15), .val (.ref b__62), .val (.ref b__73), .unset] []))
  refine OGo.to (fun _ k => XS.aload X_73.here hx rfl (hb hby at_108) rfl rfl k) ?_
  show OGo p e below _ (T_73.setTop (mkF m 110 #[.val (.long q1), .second, .val (.long q2), .second, .val (.int p1), .val (.int p2), .val (.int p3), .val (.long q3), .second, .val (.ref b_1), .val (.ref b_8), .val (.ref b_15), .val (.ref b__62), .val (.ref b__73), .unset] [(.ref b__73)]))
  obtain ⟨cq_93, kq_93, q_93a, q_93b, q_93c⟩ := isOf hZ (rfl : T_73.heap = T_73.heap) p_73_0
  obtain ⟨_, T_93, Lc_93, X_93, hQ_93, st_93⟩ := own_un X_73 (Q := Qgh Z b__73 ((0 : Int32) ||| (2 : Int32)) q1 T_73.heap n0) (rc := 0) (rs := 0) (W := fun v B => Steps p.tables e below (T_73.setTop (mkF m 110 #[.val (.long q1), .second, .val (.long q2), .second, .val (.int p1), .val (.int p2), .val (.int p3), .val (.long q3), .second, .val (.ref b_1), .val (.ref b_8), .val (.ref b_15), .val (.ref b__62), .val (.ref b__73), .unset] [(.ref b__73)])) (B.setTop { (mkF m 110 #[.val (.long q1), .second, .val (.long q2), .second, .val (.int p1), .val (.int p2), .val (.int p3), .val (.long q3), .second, .val (.ref b_1), .val (.ref b_8), .val (.ref b_15), .val (.ref b__62), .val (.ref b__73), .unset] [(.ref b__73)]) with pc := 113, stack := v.toList ++ [] })) <| X_73.virtualBack hx (y := (⟨"com/example/lahetti/lahetti/protocol/PullRequestHeader", "getHoldMillis", "()J"⟩ : MethodName)) (z := (⟨"com/example/lahetti/lahetti/protocol/PullRequestHeader", "getHoldMillis", "()J"⟩ : MethodName)) hown (mvT hZ (hw _ (List.mem_of_getElem? (i := 64) rfl))) (mvT hZ (hw _ (List.mem_of_getElem? (i := 65) rfl))) (notFace_of_selects (args := #[]) (mvT hZ (hw _ (List.mem_of_getElem? (i := 67) rfl)))) (mvT hZ (hw _ (List.mem_of_getElem? (i := 67) rfl))) (mvT hZ (hw _ (List.mem_of_getElem? (i := 66) rfl))) (by decide) (backOf (W := 0) (rmgh l Z a0 hw [] b__73 ((0 : Int32) ||| (2 : Int32)) q1 T_73.heap n0 z_91 p_73_6 p_73_8) hZ (hw _ (List.mem_of_getElem? (i := 68) rfl)) (hw _ (List.mem_of_getElem? (i := 3) rfl)) (by decide) (by decide)) q_93a q_93c (g := (mkF m 110 #[.val (.long q1), .second, .val (.long q2), .second, .val (.int p1), .val (.int p2), .val (.int p3), .val (.long q3), .second, .val (.ref b_1), .val (.ref b_8), .val (.ref b_15), .val (.ref b__62), .val (.ref b__73), .unset] [(.ref b__73)])) rfl (by rw [hml]; rfl) (Steps.refl _) (argsL := []) (rest := []) (lenOf pd_7 rfl) rfl (by show 2 * 0 + _ ≤ _; exact Nat.le_of_eq rfl) (hb hby at_110) (fun _ _ => ⟨rfl, (rfl : T_73.heap = T_73.heap), (by decide : 11 + 0 ≤ _), (by decide : 58 + 0 ≤ _)⟩)
  obtain ⟨rfl, N_93q, e_93⟩ := hQ_93
  have N_93 := Fr.app N_73 N_93q
  refine OGo.to (fun _ k => st_93.trans k) ?_
  show OGo p e below _ (T_93.setTop (mkF m 113 #[.val (.long q1), .second, .val (.long q2), .second, .val (.int p1), .val (.int p2), .val (.int p3), .val (.long q3), .second, .val (.ref b_1), .val (.ref b_8), .val (.ref b_15), .val (.ref b__62), .val (.ref b__73), .unset] [(.long (own_hold ((0 : Int32) ||| (2 : Int32)) q1))]))
  refine OGo.to (fun _ k => XS.lloadN X_93.here hx rfl (hb hby at_113) rfl k) ?_
  show OGo p e below _ (T_93.setTop (mkF m 114 #[.val (.long q1), .second, .val (.long q2), .second, .val (.int p1), .val (.int p2), .val (.int p3), .val (.long q3), .second, .val (.ref b_1), .val (.ref b_8), .val (.ref b_15), .val (.ref b__62), .val (.ref b__73), .unset] [(.long q1), (.long (own_hold ((0 : Int32) ||| (2 : Int32)) q1))]))
  refine OGo.to (fun _ k => XS.lcmp X_93.here hx rfl (hb hby at_114) rfl k) ?_
  show OGo p e below _ (T_93.setTop (mkF m 115 #[.val (.long q1), .second, .val (.long q2), .second, .val (.int p1), .val (.int p2), .val (.int p3), .val (.long q3), .second, .val (.ref b_1), .val (.ref b_8), .val (.ref b_15), .val (.ref b__62), .val (.ref b__73), .unset] [(.int (lcmpW (own_hold ((0 : Int32) ||| (2 : Int32)) q1) q1))]))
  have hc115__94 : (own_hold ((0 : Int32) ||| (2 : Int32)) q1) = q1 := own_h2 _
  refine OGo.to (fun _ k => XS.ifYes X_93.here hx rfl (pc0 := 115) (pc' := 120) rfl (hb hby at_115) rfl ((if0 _ _).trans (teq ((lw_eq (own_hold ((0 : Int32) ||| (2 : Int32)) q1) q1).mpr hc115__94)).1) (by decide) (by decide) k) ?_
  show OGo p e below _ (T_93.setTop (mkF m 120 #[.val (.long q1), .second, .val (.long q2), .second, .val (.int p1), .val (.int p2), .val (.int p3), .val (.long q3), .second, .val (.ref b_1), .val (.ref b_8), .val (.ref b_15), .val (.ref b__62), .val (.ref b__73), .unset] []))
  refine OGo.to (fun _ k => XS.aload X_93.here hx rfl (hb hby at_120) rfl rfl k) ?_
  show OGo p e below _ (T_93.setTop (mkF m 122 #[.val (.long q1), .second, .val (.long q2), .second, .val (.int p1), .val (.int p2), .val (.int p3), .val (.long q3), .second, .val (.ref b_1), .val (.ref b_8), .val (.ref b_15), .val (.ref b__62), .val (.ref b__73), .unset] [(.ref b__73)]))
  refine OGo.to (fun _ k => XS.lload X_93.here hx rfl (hb hby at_122) rfl k) ?_
  show OGo p e below _ (T_93.setTop (mkF m 124 #[.val (.long q1), .second, .val (.long q2), .second, .val (.int p1), .val (.int p2), .val (.int p3), .val (.long q3), .second, .val (.ref b_1), .val (.ref b_8), .val (.ref b_15), .val (.ref b__62), .val (.ref b__73), .unset] [(.long q3), (.ref b__73)]))
  have f_96 : Arv Z T_73.heap b_1 k_1 .char (1 : Int32) [(.int (nar .char ((p3 &&& (255 : Int32)).toUInt32.toUInt16.toUInt32.toInt32)))] (.int (0 : Int32)) := (f_84.keep K_73 (List.not_mem_nil))
  have f_97 : Arv Z T_73.heap b_8 k_8 .char (1 : Int32) [(.int (nar .char ((((p3.toUInt32 >>> ((8 : Int32) &&& 31).toUInt32).toInt32) &&& (255 : Int32)).toUInt32.toUInt16.toUInt32.toInt32)))] (.int (0 : Int32)) := (f_85.keep K_73 (List.not_mem_nil))
  have f_98 : Exa Z T_73.heap b_15 "com/example/lahetti/lahetti/protocol/PullRequestHeader" := (f_86.keep K_73)
  have f_99 : Exa Z T_73.heap b_19 "java/lang/String" := (f_87.keep K_73)
  have f_100 : Arv Z T_73.heap b__24 kb__24 .byte (1 : Int32) [(.int (((nar .char ((p3 &&& (255 : Int32)).toUInt32.toUInt16.toUInt32.toInt32)).toInt8.toInt32)).toInt8.toInt32)] (.int (0 : Int32)) := (f_88.keep K_73 (List.not_mem_nil))
  have f_101 : Exa Z T_73.heap b_30 "java/lang/String" := (f_89.keep K_73)
  have f_102 : Arv Z T_73.heap b__37 kb__37 .byte (1 : Int32) [(.int (((nar .char ((((p3.toUInt32 >>> ((8 : Int32) &&& 31).toUInt32).toInt32) &&& (255 : Int32)).toUInt32.toUInt16.toUInt32.toInt32)).toInt8.toInt32)).toInt8.toInt32)] (.int (0 : Int32)) := (f_90.keep K_73 (List.not_mem_nil))
  have f_103 : Exa Z T_73.heap b__62 "com/example/lahetti/lahetti/protocol/PullRequestHeader" := (p_62_0.keep K_73)
  obtain ⟨cq_95, kq_95, q_95a, q_95b, q_95c⟩ := isOf hZ e_93 p_73_0
  obtain ⟨_, T_95, Lc_95, X_95, hQ_95, st_95⟩ := own_un X_93 (Q := QwithSubVersion Z b__73 q3 b_19 b_30 p1 q2 p2 ((0 : Int32) ||| (2 : Int32)) (0 : Int64) q1 (0 : Int64) tg__45 T_73.heap n0) (rc := 1) (rs := 10) (W := fun v B => Steps p.tables e below (T_93.setTop (mkF m 124 #[.val (.long q1), .second, .val (.long q2), .second, .val (.int p1), .val (.int p2), .val (.int p3), .val (.long q3), .second, .val (.ref b_1), .val (.ref b_8), .val (.ref b_15), .val (.ref b__62), .val (.ref b__73), .unset] [(.long q3), (.ref b__73)])) (B.setTop { (mkF m 124 #[.val (.long q1), .second, .val (.long q2), .second, .val (.int p1), .val (.int p2), .val (.int p3), .val (.long q3), .second, .val (.ref b_1), .val (.ref b_8), .val (.ref b_15), .val (.ref b__62), .val (.ref b__73), .unset] [(.long q3), (.ref b__73)]) with pc := 127, stack := v.toList ++ [] })) <| X_93.virtualBack hx (y := (⟨"com/example/lahetti/lahetti/protocol/PullRequestHeader", "withSubVersion", "(J)Lcom/example/lahetti/lahetti/protocol/PullRequestHeader;"⟩ : MethodName)) (z := (⟨"com/example/lahetti/lahetti/protocol/PullRequestHeader", "withSubVersion", "(J)Lcom/example/lahetti/lahetti/protocol/PullRequestHeader;"⟩ : MethodName)) hown (mvT hZ (hw _ (List.mem_of_getElem? (i := 69) rfl))) (mvT hZ (hw _ (List.mem_of_getElem? (i := 70) rfl))) (notFace_of_selects (args := #[]) (mvT hZ (hw _ (List.mem_of_getElem? (i := 72) rfl)))) (mvT hZ (hw _ (List.mem_of_getElem? (i := 72) rfl))) (mvT hZ (hw _ (List.mem_of_getElem? (i := 71) rfl))) (by decide) (backOf (W := 0) (rmwithSubVersion l Z a0 hw [] b__73 q3 b_19 b_30 p1 q2 p2 ((0 : Int32) ||| (2 : Int32)) (0 : Int64) q1 (0 : Int64) tg__45 T_73.heap n0 z_91 p_73_1 p_73_2 p_73_3 p_73_4 p_73_5 p_73_6 p_73_7 p_73_8 p_73_9 p_73_10) hZ (hw _ (List.mem_of_getElem? (i := 73) rfl)) (hw _ (List.mem_of_getElem? (i := 3) rfl)) (by decide) (by decide)) q_95a q_95c (g := (mkF m 124 #[.val (.long q1), .second, .val (.long q2), .second, .val (.int p1), .val (.int p2), .val (.int p3), .val (.long q3), .second, .val (.ref b_1), .val (.ref b_8), .val (.ref b_15), .val (.ref b__62), .val (.ref b__73), .unset] [(.long q3), (.ref b__73)])) rfl (by rw [hml]; rfl) (Steps.refl _) (argsL := [(.long q3)]) (rest := []) (lenOf pd_8 rfl) rfl (by show 2 * 0 + _ ≤ _; exact Nat.le_of_eq rfl) (hb hby at_124) (fun _ _ => ⟨rfl, e_93, (by decide : 11 + 1 ≤ _), (by decide : 58 + 10 ≤ _)⟩)
  obtain ⟨b__95, rfl, N_95q, K_95, gq_b__95, sq_b__95, p_95_0, p_95_1, p_95_2, p_95_3, p_95_4, p_95_5, p_95_6, p_95_7, p_95_8, p_95_9, p_95_10⟩ := hQ_95
  have N_95 := Fr.app N_93 N_95q
  refine OGo.to (fun _ k => st_95.trans k) ?_
  have ne_b_1_b__95 : b_1 ≠ b__95 := Nat.ne_of_lt (Nat.lt_of_lt_of_le f_96.lt sq_b__95)
  have ne_b_8_b__95 : b_8 ≠ b__95 := Nat.ne_of_lt (Nat.lt_of_lt_of_le f_97.lt sq_b__95)
  have ne_b_15_b__95 : b_15 ≠ b__95 := Nat.ne_of_lt (Nat.lt_of_lt_of_le f_98.lt sq_b__95)
  have ne_b_19_b__95 : b_19 ≠ b__95 := Nat.ne_of_lt (Nat.lt_of_lt_of_le f_99.lt sq_b__95)
  have ne_b__24_b__95 : b__24 ≠ b__95 := Nat.ne_of_lt (Nat.lt_of_lt_of_le f_100.lt sq_b__95)
  have ne_b_30_b__95 : b_30 ≠ b__95 := Nat.ne_of_lt (Nat.lt_of_lt_of_le f_101.lt sq_b__95)
  have ne_b__37_b__95 : b__37 ≠ b__95 := Nat.ne_of_lt (Nat.lt_of_lt_of_le f_102.lt sq_b__95)
  have ne_b__62_b__95 : b__62 ≠ b__95 := Nat.ne_of_lt (Nat.lt_of_lt_of_le f_103.lt sq_b__95)
  have ne_b__73_b__95 : b__73 ≠ b__95 := Nat.ne_of_lt (Nat.lt_of_lt_of_le p_73_0.lt sq_b__95)
  have z_104 : n0 ≤ T_95.heap.size := Nat.le_trans z_91 K_95.1
  have O_105 : Old Z n0 T_95.heap := O_92.keep K_95 all0
  show OGo p e below _ (T_95.setTop (mkF m 127 #[.val (.long q1), .second, .val (.long q2), .second, .val (.int p1), .val (.int p2), .val (.int p3), .val (.long q3), .second, .val (.ref b_1), .val (.ref b_8), .val (.ref b_15), .val (.ref b__62), .val (.ref b__73), .unset] [(.ref b__95)]))
  refine OGo.to (fun _ k => XS.astore X_95.here hx rfl (hb hby at_127) rfl rfl (l' := #[.val (.long q1), .second, .val (.long q2), .second, .val (.int p1), .val (.int p2), .val (.int p3), .val (.long q3), .second, .val (.ref b_1), .val (.ref b_8), .val (.ref b_15), .val (.ref b__62), .val (.ref b__73), .val (.ref b__95)]) rfl k) ?_
  show OGo p e below _ (T_95.setTop (mkF m 129 #[.val (.long q1), .second, .val (.long q2), .second, .val (.int p1), .val (.int p2), .val (.int p3), .val (.long q3), .second, .val (.ref b_1), .val (.ref b_8), .val (.ref b_15), .val (.ref b__62), .val (.ref b__73), .val (.ref b__95)] []))
  refine OGo.to (fun _ k => XS.aload X_95.here hx rfl (hb hby at_129) rfl rfl k) ?_
  show OGo p e below _ (T_95.setTop (mkF m 131 #[.val (.long q1), .second, .val (.long q2), .second, .val (.int p1), .val (.int p2), .val (.int p3), .val (.long q3), .second, .val (.ref b_1), .val (.ref b_8), .val (.ref b_15), .val (.ref b__62), .val (.ref b__73), .val (.ref b__95)] [(.ref b__95)]))
  obtain ⟨cq_106, kq_106, q_106a, q_106b, q_106c⟩ := isOf hZ (rfl : T_95.heap = T_95.heap) p_95_0
  obtain ⟨_, T_106, Lc_106, X_106, hQ_106, st_106⟩ := own_un X_95 (Q := Qgh Z b__95 ((0 : Int32) ||| (2 : Int32)) q1 T_95.heap n0) (rc := 0) (rs := 0) (W := fun v B => Steps p.tables e below (T_95.setTop (mkF m 131 #[.val (.long q1), .second, .val (.long q2), .second, .val (.int p1), .val (.int p2), .val (.int p3), .val (.long q3), .second, .val (.ref b_1), .val (.ref b_8), .val (.ref b_15), .val (.ref b__62), .val (.ref b__73), .val (.ref b__95)] [(.ref b__95)])) (B.setTop { (mkF m 131 #[.val (.long q1), .second, .val (.long q2), .second, .val (.int p1), .val (.int p2), .val (.int p3), .val (.long q3), .second, .val (.ref b_1), .val (.ref b_8), .val (.ref b_15), .val (.ref b__62), .val (.ref b__73), .val (.ref b__95)] [(.ref b__95)]) with pc := 134, stack := v.toList ++ [] })) <| X_95.virtualBack hx (y := (⟨"com/example/lahetti/lahetti/protocol/PullRequestHeader", "getHoldMillis", "()J"⟩ : MethodName)) (z := (⟨"com/example/lahetti/lahetti/protocol/PullRequestHeader", "getHoldMillis", "()J"⟩ : MethodName)) hown (mvT hZ (hw _ (List.mem_of_getElem? (i := 64) rfl))) (mvT hZ (hw _ (List.mem_of_getElem? (i := 65) rfl))) (notFace_of_selects (args := #[]) (mvT hZ (hw _ (List.mem_of_getElem? (i := 67) rfl)))) (mvT hZ (hw _ (List.mem_of_getElem? (i := 67) rfl))) (mvT hZ (hw _ (List.mem_of_getElem? (i := 66) rfl))) (by decide) (backOf (W := 0) (rmgh l Z a0 hw [] b__95 ((0 : Int32) ||| (2 : Int32)) q1 T_95.heap n0 z_104 p_95_6 p_95_8) hZ (hw _ (List.mem_of_getElem? (i := 68) rfl)) (hw _ (List.mem_of_getElem? (i := 3) rfl)) (by decide) (by decide)) q_106a q_106c (g := (mkF m 131 #[.val (.long q1), .second, .val (.long q2), .second, .val (.int p1), .val (.int p2), .val (.int p3), .val (.long q3), .second, .val (.ref b_1), .val (.ref b_8), .val (.ref b_15), .val (.ref b__62), .val (.ref b__73), .val (.ref b__95)] [(.ref b__95)])) rfl (by rw [hml]; rfl) (Steps.refl _) (argsL := []) (rest := []) (lenOf pd_7 rfl) rfl (by show 2 * 0 + _ ≤ _; exact Nat.le_of_eq rfl) (hb hby at_131) (fun _ _ => ⟨rfl, (rfl : T_95.heap = T_95.heap), (by decide : 12 + 0 ≤ _), (by decide : 68 + 0 ≤ _)⟩)
  obtain ⟨rfl, N_106q, e_106⟩ := hQ_106
  have N_106 := Fr.app N_95 N_106q
  refine OGo.to (fun _ k => st_106.trans k) ?_
  show OGo p e below _ (T_106.setTop (mkF m 134 #[.val (.long q1), .second, .val (.long q2), .second, .val (.int p1), .val (.int p2), .val (.int p3), .val (.long q3), .second, .val (.ref b_1), .val (.ref b_8), .val (.ref b_15), .val (.ref b__62), .val (.ref b__73), .val (.ref b__95)] [(.long (own_hold ((0 : Int32) ||| (2 : Int32)) q1))]))
  refine OGo.to (fun _ k => XS.lloadN X_106.here hx rfl (hb hby at_134) rfl k) ?_
  show OGo p e below _ (T_106.setTop (mkF m 135 #[.val (.long q1), .second, .val (.long q2), .second, .val (.int p1), .val (.int p2), .val (.int p3), .val (.long q3), .second, .val (.ref b_1), .val (.ref b_8), .val (.ref b_15), .val (.ref b__62), .val (.ref b__73), .val (.ref b__95)] [(.long q1), (.long (own_hold ((0 : Int32) ||| (2 : Int32)) q1))]))
  refine OGo.to (fun _ k => XS.lcmp X_106.here hx rfl (hb hby at_135) rfl k) ?_
  show OGo p e below _ (T_106.setTop (mkF m 136 #[.val (.long q1), .second, .val (.long q2), .second, .val (.int p1), .val (.int p2), .val (.int p3), .val (.long q3), .second, .val (.ref b_1), .val (.ref b_8), .val (.ref b_15), .val (.ref b__62), .val (.ref b__73), .val (.ref b__95)] [(.int (lcmpW (own_hold ((0 : Int32) ||| (2 : Int32)) q1) q1))]))
  have hc136__107 : (own_hold ((0 : Int32) ||| (2 : Int32)) q1) = q1 := own_h2 _
  refine OGo.to (fun _ k => XS.ifNo X_106.here hx rfl (hb hby at_136) rfl ((if0 _ _).trans (teq ((lw_eq (own_hold ((0 : Int32) ||| (2 : Int32)) q1) q1).mpr hc136__107)).2) k) ?_
  show OGo p e below _ (T_106.setTop (mkF m 139 #[.val (.long q1), .second, .val (.long q2), .second, .val (.int p1), .val (.int p2), .val (.int p3), .val (.long q3), .second, .val (.ref b_1), .val (.ref b_8), .val (.ref b_15), .val (.ref b__62), .val (.ref b__73), .val (.ref b__95)] []))
  refine OGo.to (fun _ k => XS.iconst X_106.here hx rfl (hb hby at_139) k) ?_
  show OGo p e below _ (T_106.setTop (mkF m 140 #[.val (.long q1), .second, .val (.long q2), .second, .val (.int p1), .val (.int p2), .val (.int p3), .val (.long q3), .second, .val (.ref b_1), .val (.ref b_8), .val (.ref b_15), .val (.ref b__62), .val (.ref b__73), .val (.ref b__95)] [(.int (1 : Int32))]))
  refine OGo.to (fun _ k => XS.goto X_106.here hx rfl (pc0 := 140) (pc' := 144) rfl (hb hby at_140) (by decide) (by decide) k) ?_
  show OGo p e below _ (T_106.setTop (mkF m 144 #[.val (.long q1), .second, .val (.long q2), .second, .val (.int p1), .val (.int p2), .val (.int p3), .val (.long q3), .second, .val (.ref b_1), .val (.ref b_8), .val (.ref b_15), .val (.ref b__62), .val (.ref b__73), .val (.ref b__95)] [(.int (1 : Int32))]))
  refine OGo.retW (Q := Q0 Z q1 q2 p1 p2 p3 q3 cs h0 n0) X_106 hS_45 (by rw [e_106]; exact (Nat.le_trans (Nat.le_trans (Nat.le_trans (Nat.le_refl T_45.heap.size) K_62.1) K_73.1) K_95.1)) (some (.int (1 : Int32))) (fun h => by rw [Bd.returns] at h; cases h) Bd.notSynchronized (fun fs hr => retN X_106 hx (t := .boolean) (z := (1 : Int32)) Bd.returns (by simp) (hb hby at_144) hr) ?_ (by decide) (by decide)
  show Q0 Z q1 q2 p1 p2 p3 q3 cs h0 n0 _ T_106.heap _
  rw [e_106]
  exact ⟨rfl, N_106⟩
set_option maxRecDepth 65536 in
set_option maxHeartbeats 40000000 in
theorem comes_1 {Post : Tables → Env → Array Value → State → Outcome → State → Prop} (hpost : ∀ tb e args s v u, (limb_1_1.after args s (.returned v) u = true ∧ limb_1_2.after args s (.returned v) u = true ∧ True) → ReturnedEndW s (.returned v) u (Jvm.fieldLocs frame_1_writes args s ++ Jvm.arrayLocs frame_1_arrays args s ++ Jvm.staticLocs frame_1_statics s) 32 1216 → Post tb e args s (.returned v) u) :
    ArmFor flags0 classFile x code maxLocals ret World_1 tables_1 room_1 Calls_1 rest_1 Pre_1 Post := by
  intro l hfl _ _ p e ha hc hk s m args below hf hA hF happ hP
  obtain ⟨hcalls, hrest, hpre⟩ := hP
  obtain ⟨-, -, -, hnamed, -, -, -, hat⟩ := (Spec.applies_iff hf).mp happ
  obtain ⟨hg, hn⟩ := and_e (Cond.before_iff.mp (show (Jvm.Cond.and given_1 narrow_1).before args s = true from hpre))
  obtain ⟨g1, g2⟩ := and_e hg
  obtain ⟨g3, g4⟩ := and_e g2
  obtain ⟨g5, g6⟩ := and_e g4
  obtain ⟨g7, g8⟩ := and_e g6
  obtain ⟨g9, g10⟩ := and_e g8
  obtain ⟨g11, g12⟩ := and_e g10
  obtain ⟨w0, w1, w2, w3, w4, w5, rfl⟩ : ∃ w0 w1 w2 w3 w4 w5 : Value, args = #[w0, w1, w2, w3, w4, w5] := by
    have hs : args.size = 6 := by simpa [Cond.value, given_1] using g1
    obtain ⟨L⟩ := args
    match L, hs with
    | [w0, w1, w2, w3, w4, w5], _ => exact ⟨w0, w1, w2, w3, w4, w5, rfl⟩
  have hw := fun d (hd : d ∈ tables_1) => atoms_spec (ws := Jvm.Cond.code x code maxLocals ret :: tables_1) hat d (List.mem_cons_of_mem _ hd)
  have hfit : Fit s := fun {y c} hc i hi => by
    obtain ⟨ha, rfl⟩ := Array.getElem?_eq_some_iff.mp hc
    have q := List.all_eq_true.mp ((Array.all_eq_true_iff_forall_mem.mp hF) _ (Array.getElem_mem ha)) i (List.mem_range.mpr hi)
    simpa [Array.getElem?_eq_getElem hi] using q
  obtain ⟨hsets, hown0⟩ := atoms_of _ (rest_1_c_eq ▸ (show rest_1_c.before _ s = true from hrest))
  have hr0 := Cond.before_iff.mp hown0
  obtain ⟨i0, ei0⟩ := isL_v g3
  obtain rfl : w0 = (.long i0) := Option.some.inj ei0
  obtain ⟨i1, ei1⟩ := isL_v g5
  obtain rfl : w1 = (.long i1) := Option.some.inj ei1
  obtain ⟨i2, ei2⟩ := is_v g7
  obtain rfl : w2 = (.int i2) := Option.some.inj ei2
  obtain ⟨i3, ei3⟩ := is_v g9
  obtain rfl : w3 = (.int i3) := Option.some.inj ei3
  obtain ⟨i4, ei4⟩ := is_v g11
  obtain rfl : w4 = (.int i4) := Option.some.inj ei4
  obtain ⟨i5, ei5⟩ := isL_v g12
  obtain rfl : w5 = (.long i5) := Option.some.inj ei5
  obtain ⟨cs, ecs⟩ := is_v (Cond.before_iff.mp (hsets _ (List.mem_of_getElem? (i := 1) rfl)))
  have SC : Sta s s.heap "java/lang/String" "COMPACT_STRINGS" "Z" (.int cs) := Sta.start ecs (Or.inl (hsets _ (List.mem_of_getElem? (i := 0) rfl)))
  have hcs : ¬ (cs = (0 : Int32)) := own_cs ecs (hsets _ (List.mem_of_getElem? (i := 2) rfl))
  obtain ⟨n, o, h1, h2, h3, _, L, rfl, ⟨rfl, N⟩, hq⟩ := rm0 l s _ hw tables_1 i0 i1 i2 i3 i4 i5 cs s.heap s.heap.size (Nat.le_refl _) SC (Old.start s) hcs p e ha hc hk s m _ below hf ((Spec.applies_iff_loose hf).mp happ).1 ⟨rfl, State.Warmed39.refl s, rfl⟩ trivial
  refine ⟨n, _, h1, h2, h3, hpost _ _ _ _ _ _ ⟨Cond.after_iff.mpr rfl, Cond.after_iff.mpr (eq_i res_at (Term.int_eval (1)) rfl), trivial⟩ ⟨hq.1, hq.2.1, hq.2.2.1, (hq.2.2.2.sift fun y hy => Or.inr (N y hy)).mono (by decide) (by decide)⟩⟩
theorem main_1_1 : Claimed_1_1 := comes_1 fun _ _ _ _ _ _ h hF => ⟨h.1, hF⟩
theorem main_1_2 : Claimed_1_2 := comes_1 fun _ _ _ _ _ _ h hF => ⟨h.2.1, hF⟩
end Jvm.Pilot.@@N@@
namespace Jvm.Pilot.@@N@@
open Jvm Jvm.ClassFile Sem Op Lib Jvm.Free Jvm.Stand Jvm.Pilot.@@N@@.Jvm.D
/-! MADE BY PROGRAM (witnessworld.py) out of the Statement's table words and the real class files: 20 classes; the members and pool entries that the words name. The judged class is class 1, her method 1. -/
namespace start1
open Jvm.ClassFile
def u (s : String) : CpInfo := .utf8 (stringToUtf16 s)
/-- a pool by its gaps: so many unusable entries, then the entry; so many at the end -/
def gap : Nat → List CpInfo → List CpInfo
  | 0, r => r
  | n + 1, r => .unusable :: gap n r
def poolList (es : List (Nat × CpInfo)) (last : Nat) : List CpInfo := es.foldr (fun e r => gap e.1 (e.2 :: r)) (gap last [])
def pool (es : List (Nat × CpInfo)) (last : Nat) : Array CpInfo := ⟨poolList es last⟩
def fileOf (pool : Array CpInfo) (this : Nat) (attrs : Array Attribute := #[]) (ms : Array MethodInfo := #[]) (fl : Nat := 33) (sup : Nat := 0) (ifs : Array Nat := #[]) (fds : Array FieldInfo := #[]) : ClassFile where
  minorVersion := 0
  majorVersion := 65
  constantPool := pool
  accessFlags := fl
  thisClass := this
  superClass := sup
  interfaces := ifs
  fields := fds
  methods := ms
  attributes := attrs
def plain (name : String) (sup : Option ClassId) : Class where
  name := name
  kind := .ordinary
  loader := none
  accessFlags := 33
  super := sup
  interfaces := #[]
  cf := none
  fields := #[]
  methods := #[]
  instanceTypes := #[]
  staticTypes := #[]
  resolved := #[]
  callSites := []
  init := .initialized
  statics := none
  mirror := none

def pool0 : Array CpInfo := pool [(5, u "<init>"), (0, u "()V"), (1, .class_ 10), (1, u "java/lang/Object")] 113

def k0c0 : Code := { maxStack := 0, maxLocals := 1, code := object_method_1_code, exceptionTable := #[], attributes := #[] }
def k0m0 : Method := { name := "<init>", desc := "()V", sig := { parameters := [], returnType := none }, accessFlags := 1, code := some k0c0 }
/-- java/lang/Object -/
def k0 : Class := { plain "java/lang/Object" none with
  accessFlags := 33
  interfaces := #[]
  cf := some (fileOf pool0 8 #[] #[{ accessFlags := 1, nameIndex := 5, descriptorIndex := 6, attributes := #[] }] 33 0 #[] #[])
  fields := #[]
  methods := #[k0m0]
  instanceTypes := #[]
  staticTypes := #[]
  resolved := Array.replicate 124 none
  statics := none }

def pool1 : Array CpInfo := pool [(2, .class_ 4), (1, u "java/lang/Object"), (0, u "<init>"), (0, u "()V"), (0, .class_ 8), (0, u "com/example/lahetti/lahetti/protocol/PullRequestHeader"), (0, .class_ 10), (0, u "java/lang/String"), (0, .methodref 9 12), (0, .nameAndType 5 13), (0, u "([C)V"), (0, .methodref 7 15), (0, .nameAndType 5 16), (0, u "(Ljava/lang/String;Ljava/lang/String;IJI)V"), (0, .methodref 7 18), (0, .nameAndType 19 20), (0, u "getHoldMillis"), (0, u "()J"), (0, .methodref 7 22), (0, .nameAndType 23 24), (0, u "withSubVersion"), (0, u "(J)Lcom/example/lahetti/lahetti/protocol/PullRequestHeader;"), (0, .methodref 7 26), (0, .nameAndType 27 24), (0, u "withHoldMillis"), (0, .class_ 29), (0, u "com/example/lahetti/lahetti/protocol/PullRequestHeaderGetHoldMillisPinLaw"), (2, u "law"), (0, u "(JJIIIJ)Z")] 5

def k1m0 : Method := { name := "<init>", desc := "()V", sig := { parameters := [], returnType := none }, accessFlags := 2, code := none }
def k1c1 : Code := { maxStack := 8, maxLocals := 15, code := code, exceptionTable := #[], attributes := #[] }
def k1m1 : Method := { name := "law", desc := "(JJIIIJ)Z", sig := { parameters := [.long, .long, .int, .int, .int, .long], returnType := some .boolean }, accessFlags := 9, code := some k1c1 }
/-- com/example/lahetti/lahetti/protocol/PullRequestHeaderGetHoldMillisPinLaw -/
def k1 : Class := { plain "com/example/lahetti/lahetti/protocol/PullRequestHeaderGetHoldMillisPinLaw" (some 0) with
  accessFlags := 49
  interfaces := #[]
  cf := some (fileOf pool1 28 #[] #[{ accessFlags := 2, nameIndex := 5, descriptorIndex := 6, attributes := #[] }, { accessFlags := 9, nameIndex := 32, descriptorIndex := 33, attributes := #[] }] 49 2 #[] #[])
  fields := #[]
  methods := #[k1m0, k1m1]
  instanceTypes := #[]
  staticTypes := #[]
  resolved := Array.replicate 39 none
  statics := none }

def pool2 : Array CpInfo := pool [(1, .class_ 2), (0, u "com/example/lahetti/lahetti/protocol/PullRequestHeader"), (0, .long 15000), (1, .string 6), (0, u "TAG"), (0, .methodref 1 8), (0, .nameAndType 9 10), (0, u "<init>"), (0, u "(Ljava/lang/String;Ljava/lang/String;IJIIJJJLjava/lang/String;)V"), (0, .methodref 12 13), (0, .class_ 14), (0, .nameAndType 9 15), (0, u "java/lang/Object"), (0, u "()V"), (0, .fieldref 1 17), (0, .nameAndType 18 19), (0, u "consumerGroup"), (0, u "Ljava/lang/String;"), (0, .fieldref 1 21), (0, .nameAndType 22 19), (0, u "topic"), (0, .fieldref 1 24), (0, .nameAndType 25 26), (0, u "queueId"), (0, u "I"), (0, .fieldref 1 28), (0, .nameAndType 29 30), (0, u "queueOffset"), (0, u "J"), (0, .fieldref 1 32), (0, .nameAndType 33 26), (0, u "maxMsgNums"), (0, .fieldref 1 35), (0, .nameAndType 36 26), (0, u "sysFlag"), (0, .fieldref 1 38), (0, .nameAndType 39 30), (0, u "commitOffset"), (0, .fieldref 1 41), (0, .nameAndType 42 30), (0, u "suspendTimeoutMillis"), (0, .fieldref 1 44), (0, .nameAndType 45 30), (0, u "subVersion"), (0, .fieldref 1 47), (0, .nameAndType 48 19), (0, u "expressionType"), (57, u "SYS_FLAG_SUSPEND"), (2, u "DEFAULT_SUSPEND_MILLIS"), (0, u "(Ljava/lang/String;Ljava/lang/String;IJI)V"), (9, u "withHoldMillis"), (0, u "(J)Lcom/example/lahetti/lahetti/protocol/PullRequestHeader;"), (0, u "withSubVersion"), (9, u "()J"), (1, u "getHoldMillis")] 4

def k2c0 : Code := { maxStack := 15, maxLocals := 7, code := prog_31_method_1_code, exceptionTable := #[], attributes := #[] }
def k2m0 : Method := { name := "<init>", desc := "(Ljava/lang/String;Ljava/lang/String;IJI)V", sig := { parameters := [(.object "java/lang/String"), (.object "java/lang/String"), .int, .long, .int], returnType := none }, accessFlags := 1, code := some k2c0 }
def k2c1 : Code := { maxStack := 3, maxLocals := 15, code := prog_31_method_2_code, exceptionTable := #[], attributes := #[] }
def k2m1 : Method := { name := "<init>", desc := "(Ljava/lang/String;Ljava/lang/String;IJIIJJJLjava/lang/String;)V", sig := { parameters := [(.object "java/lang/String"), (.object "java/lang/String"), .int, .long, .int, .int, .long, .long, .long, (.object "java/lang/String")], returnType := none }, accessFlags := 2, code := some k2c1 }
def k2c2 : Code := { maxStack := 16, maxLocals := 3, code := prog_31_method_4_code, exceptionTable := #[], attributes := #[] }
def k2m2 : Method := { name := "withHoldMillis", desc := "(J)Lcom/example/lahetti/lahetti/protocol/PullRequestHeader;", sig := { parameters := [.long], returnType := some (.object "com/example/lahetti/lahetti/protocol/PullRequestHeader") }, accessFlags := 1, code := some k2c2 }
def k2c3 : Code := { maxStack := 16, maxLocals := 3, code := prog_31_method_5_code, exceptionTable := #[], attributes := #[] }
def k2m3 : Method := { name := "withSubVersion", desc := "(J)Lcom/example/lahetti/lahetti/protocol/PullRequestHeader;", sig := { parameters := [.long], returnType := some (.object "com/example/lahetti/lahetti/protocol/PullRequestHeader") }, accessFlags := 1, code := some k2c3 }
def k2c4 : Code := { maxStack := 2, maxLocals := 1, code := prog_31_method_12_code, exceptionTable := #[], attributes := #[] }
def k2m4 : Method := { name := "getHoldMillis", desc := "()J", sig := { parameters := [], returnType := some .long }, accessFlags := 1, code := some k2c4 }
/-- com/example/lahetti/lahetti/protocol/PullRequestHeader -/
def k2 : Class := { plain "com/example/lahetti/lahetti/protocol/PullRequestHeader" (some 0) with
  accessFlags := 49
  interfaces := #[]
  cf := some (fileOf pool2 1 #[] #[{ accessFlags := 1, nameIndex := 9, descriptorIndex := 110, attributes := #[] }, { accessFlags := 2, nameIndex := 9, descriptorIndex := 10, attributes := #[] }, { accessFlags := 1, nameIndex := 120, descriptorIndex := 121, attributes := #[] }, { accessFlags := 1, nameIndex := 122, descriptorIndex := 121, attributes := #[] }, { accessFlags := 1, nameIndex := 134, descriptorIndex := 132, attributes := #[] }] 49 12 #[] #[{ accessFlags := 25, nameIndex := 106, descriptorIndex := 26, attributes := #[] }, { accessFlags := 26, nameIndex := 109, descriptorIndex := 30, attributes := #[] }, { accessFlags := 18, nameIndex := 18, descriptorIndex := 19, attributes := #[] }, { accessFlags := 18, nameIndex := 22, descriptorIndex := 19, attributes := #[] }, { accessFlags := 18, nameIndex := 25, descriptorIndex := 26, attributes := #[] }, { accessFlags := 18, nameIndex := 29, descriptorIndex := 30, attributes := #[] }, { accessFlags := 18, nameIndex := 33, descriptorIndex := 26, attributes := #[] }, { accessFlags := 18, nameIndex := 36, descriptorIndex := 26, attributes := #[] }, { accessFlags := 18, nameIndex := 39, descriptorIndex := 30, attributes := #[] }, { accessFlags := 18, nameIndex := 42, descriptorIndex := 30, attributes := #[] }, { accessFlags := 18, nameIndex := 45, descriptorIndex := 30, attributes := #[] }, { accessFlags := 18, nameIndex := 48, descriptorIndex := 19, attributes := #[] }])
  fields := #[{ name := "SYS_FLAG_SUSPEND", type := .int, accessFlags := 25, slot := 0, constantValue := 0 }, { name := "DEFAULT_SUSPEND_MILLIS", type := .long, accessFlags := 26, slot := 1, constantValue := 0 }, { name := "consumerGroup", type := (.object "java/lang/String"), accessFlags := 18, slot := 0, constantValue := 0 }, { name := "topic", type := (.object "java/lang/String"), accessFlags := 18, slot := 1, constantValue := 0 }, { name := "queueId", type := .int, accessFlags := 18, slot := 2, constantValue := 0 }, { name := "queueOffset", type := .long, accessFlags := 18, slot := 3, constantValue := 0 }, { name := "maxMsgNums", type := .int, accessFlags := 18, slot := 4, constantValue := 0 }, { name := "sysFlag", type := .int, accessFlags := 18, slot := 5, constantValue := 0 }, { name := "commitOffset", type := .long, accessFlags := 18, slot := 6, constantValue := 0 }, { name := "suspendTimeoutMillis", type := .long, accessFlags := 18, slot := 7, constantValue := 0 }, { name := "subVersion", type := .long, accessFlags := 18, slot := 8, constantValue := 0 }, { name := "expressionType", type := (.object "java/lang/String"), accessFlags := 18, slot := 9, constantValue := 0 }]
  methods := #[k2m0, k2m1, k2m2, k2m3, k2m4]
  instanceTypes := #[(.object "java/lang/String"), (.object "java/lang/String"), .int, .long, .int, .int, .long, .long, .long, (.object "java/lang/String")]
  staticTypes := #[.int, .long]
  resolved := Array.replicate 139 none
  statics := none }

def pool3 : Array CpInfo := pool [(1, .class_ 2), (0, u "java/io/Serializable"), (0, .class_ 4), (0, u "java/lang/Object")] 2

/-- java/io/Serializable -/
def k3 : Class := { plain "java/io/Serializable" (some 0) with
  accessFlags := 1537
  interfaces := #[]
  cf := some (fileOf pool3 1 #[] #[] 1537 3 #[] #[])
  fields := #[]
  methods := #[]
  instanceTypes := #[]
  staticTypes := #[]
  resolved := Array.replicate 7 none
  statics := none }

def pool4 : Array CpInfo := pool [(1, .class_ 2), (0, u "java/lang/Comparable"), (0, .class_ 4), (0, u "java/lang/Object")] 7

/-- java/lang/Comparable -/
def k4 : Class := { plain "java/lang/Comparable" (some 0) with
  accessFlags := 1537
  interfaces := #[]
  cf := some (fileOf pool4 1 #[] #[] 1537 3 #[] #[])
  fields := #[]
  methods := #[]
  instanceTypes := #[]
  staticTypes := #[]
  resolved := Array.replicate 12 none
  statics := none }

def pool5 : Array CpInfo := pool [(2, .class_ 4), (1, u "java/lang/CharSequence"), (42, .class_ 48), (0, u "java/lang/CharSequence$1CodePointIterator"), (10, .class_ 60), (0, u "java/lang/CharSequence$1CharIterator"), (5, .class_ 67), (0, u "java/lang/Object")] 63

/-- java/lang/CharSequence -/
def k5 : Class := { plain "java/lang/CharSequence" (some 0) with
  accessFlags := 1537
  interfaces := #[]
  cf := some (fileOf pool5 2 #[.nestMembers #[47, 59]] #[] 1537 66 #[] #[])
  fields := #[]
  methods := #[]
  instanceTypes := #[]
  staticTypes := #[]
  resolved := Array.replicate 131 none
  statics := none }

def pool6 : Array CpInfo := pool [(1, .class_ 2), (0, u "java/lang/constant/Constable"), (0, .class_ 4), (0, u "java/lang/Object")] 6

/-- java/lang/constant/Constable -/
def k6 : Class := { plain "java/lang/constant/Constable" (some 0) with
  accessFlags := 1537
  interfaces := #[]
  cf := some (fileOf pool6 1 #[] #[] 1537 3 #[] #[])
  fields := #[]
  methods := #[]
  instanceTypes := #[]
  staticTypes := #[]
  resolved := Array.replicate 11 none
  statics := none }

def pool7 : Array CpInfo := pool [(1, .class_ 2), (0, u "java/lang/constant/ConstantDesc"), (0, .class_ 4), (0, u "java/lang/Object")] 32

/-- java/lang/constant/ConstantDesc -/
def k7 : Class := { plain "java/lang/constant/ConstantDesc" (some 0) with
  accessFlags := 1537
  interfaces := #[]
  cf := some (fileOf pool7 1 #[] #[] 1537 3 #[] #[])
  fields := #[]
  methods := #[]
  instanceTypes := #[]
  staticTypes := #[]
  resolved := Array.replicate 37 none
  statics := none }

def pool8 : Array CpInfo := pool [(1, .methodref 2 3), (0, .class_ 4), (0, .nameAndType 5 6), (0, u "java/lang/Object"), (0, u "<init>"), (0, u "()V"), (2, .fieldref 10 11), (0, .class_ 12), (0, .nameAndType 13 14), (0, u "java/lang/String"), (0, u "value"), (0, u "[B"), (0, .fieldref 10 16), (0, .nameAndType 17 18), (0, u "coder"), (0, u "B"), (2, u "hash"), (0, u "I"), (2, u "hashIsZero"), (0, u "Z"), (0, .methodref 10 28), (0, .nameAndType 5 29), (0, u "([CIILjava/lang/Void;)V"), (8, .fieldref 10 39), (0, .nameAndType 40 26), (0, u "COMPACT_STRINGS"), (1, .class_ 44), (1, u "java/lang/StringUTF16"), (0, u "compress"), (1, .methodref 42 48), (0, .nameAndType 49 50), (0, u "coderFromArrayLen"), (0, u "([BI)B"), (126, .methodref 42 178), (0, .nameAndType 45 179), (0, u "([CII)[B"), (395, .class_ 576), (0, u "java/lang/CharSequence"), (22, u "CASE_INSENSITIVE_ORDER"), (0, u "Ljava/util/Comparator;"), (409, u "([C)V"), (90, u "serialPersistentFields"), (0, u "[Ljava/io/ObjectStreamField;"), (0, .class_ 1104), (0, u "java/lang/String$CaseInsensitiveComparator"), (1, .class_ 1107), (0, u "java/io/Serializable"), (0, .class_ 1109), (0, u "java/lang/Comparable"), (0, .class_ 1111), (0, u "java/lang/constant/Constable"), (0, .class_ 1113), (0, u "java/lang/constant/ConstantDesc"), (2, u "serialVersionUID"), (0, u "J"), (3, u "REPL"), (0, u "C"), (2, u "LATIN1"), (1, u "UTF16")] 323

def k8m0 : Method := { name := "<init>", desc := "()V", sig := { parameters := [], returnType := none }, accessFlags := 1, code := none }
def k8c1 : Code := { maxStack := 5, maxLocals := 2, code := jdk_42_method_3_code, exceptionTable := #[], attributes := #[] }
def k8m1 : Method := { name := "<init>", desc := "([C)V", sig := { parameters := [(.array .char)], returnType := none }, accessFlags := 1, code := some k8c1 }
def k8c2 : Code := { maxStack := 4, maxLocals := 6, code := jdk_42_method_149_code, exceptionTable := #[], attributes := #[] }
def k8m2 : Method := { name := "<init>", desc := "([CIILjava/lang/Void;)V", sig := { parameters := [(.array .char), .int, .int, (.object "java/lang/Void")], returnType := none }, accessFlags := 2, code := some k8c2 }
/-- java/lang/String -/
def k8 : Class := { plain "java/lang/String" (some 0) with
  accessFlags := 49
  interfaces := #[3, 4, 5, 6, 7]
  cf := some (fileOf pool8 10 #[.nestMembers #[1103]] #[{ accessFlags := 1, nameIndex := 5, descriptorIndex := 6, attributes := #[] }, { accessFlags := 1, nameIndex := 5, descriptorIndex := 1010, attributes := #[] }, { accessFlags := 2, nameIndex := 5, descriptorIndex := 29, attributes := #[] }] 49 2 #[1106, 1108, 575, 1110, 1112] #[{ accessFlags := 18, nameIndex := 13, descriptorIndex := 14, attributes := #[] }, { accessFlags := 18, nameIndex := 17, descriptorIndex := 18, attributes := #[] }, { accessFlags := 2, nameIndex := 21, descriptorIndex := 22, attributes := #[] }, { accessFlags := 2, nameIndex := 25, descriptorIndex := 26, attributes := #[] }, { accessFlags := 26, nameIndex := 1116, descriptorIndex := 1117, attributes := #[] }, { accessFlags := 24, nameIndex := 40, descriptorIndex := 26, attributes := #[] }, { accessFlags := 26, nameIndex := 1101, descriptorIndex := 1102, attributes := #[] }, { accessFlags := 26, nameIndex := 1121, descriptorIndex := 1122, attributes := #[] }, { accessFlags := 25, nameIndex := 599, descriptorIndex := 600, attributes := #[] }, { accessFlags := 24, nameIndex := 1125, descriptorIndex := 18, attributes := #[] }, { accessFlags := 24, nameIndex := 1127, descriptorIndex := 18, attributes := #[] }])
  fields := #[{ name := "value", type := (.array .byte), accessFlags := 18, slot := 0, constantValue := 0 }, { name := "coder", type := .byte, accessFlags := 18, slot := 1, constantValue := 0 }, { name := "hash", type := .int, accessFlags := 2, slot := 2, constantValue := 0 }, { name := "hashIsZero", type := .boolean, accessFlags := 2, slot := 3, constantValue := 0 }, { name := "serialVersionUID", type := .long, accessFlags := 26, slot := 0, constantValue := 0 }, { name := "COMPACT_STRINGS", type := .boolean, accessFlags := 24, slot := 1, constantValue := 0 }, { name := "serialPersistentFields", type := (.array (.object "java/io/ObjectStreamField")), accessFlags := 26, slot := 2, constantValue := 0 }, { name := "REPL", type := .char, accessFlags := 26, slot := 3, constantValue := 0 }, { name := "CASE_INSENSITIVE_ORDER", type := (.object "java/util/Comparator"), accessFlags := 25, slot := 4, constantValue := 0 }, { name := "LATIN1", type := .byte, accessFlags := 24, slot := 5, constantValue := 0 }, { name := "UTF16", type := .byte, accessFlags := 24, slot := 6, constantValue := 0 }]
  methods := #[k8m0, k8m1, k8m2]
  instanceTypes := #[(.array .byte), .byte, .int, .boolean]
  staticTypes := #[.long, .boolean, (.array (.object "java/io/ObjectStreamField")), .char, (.object "java/util/Comparator"), .byte, .byte]
  resolved := Array.replicate 1451 none
  statics := some 0 }

def pool9 : Array CpInfo := pool [(6, .class_ 8), (1, u "java/lang/Object"), (0, u "<init>"), (0, u "()V"), (1, .class_ 14), (1, u "java/lang/StringUTF16"), (31, u "$assertionsDisabled"), (0, u "Z"), (13, u "HI_BYTE_SHIFT"), (0, u "I"), (2, u "LO_BYTE_SHIFT"), (49, .methodref 12 116), (0, .nameAndType 117 118), (0, u "compress"), (0, u "([CI[BII)I"), (3, u "([CII)[B"), (138, u "coderFromArrayLen"), (0, u "([BI)B"), (106, .class_ 371), (1, u "java/lang/StringUTF16$LinesSpliterator"), (58, u "MAX_LENGTH"), (196, .class_ 628), (0, u "java/lang/StringUTF16$CodePointsSpliterator"), (0, .class_ 630), (0, u "java/lang/StringUTF16$CharsSpliterator")] 4

def k9m0 : Method := { name := "<init>", desc := "()V", sig := { parameters := [], returnType := none }, accessFlags := 0, code := none }
def k9c1 : Code := { maxStack := 2, maxLocals := 2, code := jdk_52_method_15_code, exceptionTable := #[], attributes := #[] }
def k9m1 : Method := { name := "coderFromArrayLen", desc := "([BI)B", sig := { parameters := [(.array .byte), .int], returnType := some .byte }, accessFlags := 8, code := some k9c1 }
def k9c2 : Code := { maxStack := 5, maxLocals := 6, code := jdk_52_method_16_code, exceptionTable := #[], attributes := #[] }
def k9m2 : Method := { name := "compress", desc := "([CII)[B", sig := { parameters := [(.array .char), .int, .int], returnType := some (.array .byte) }, accessFlags := 9, code := some k9c2 }
def k9c3 : Code := { maxStack := 3, maxLocals := 7, code := jdk_52_method_21_code, exceptionTable := #[], attributes := #[] }
def k9m3 : Method := { name := "compress", desc := "([CI[BII)I", sig := { parameters := [(.array .char), .int, (.array .byte), .int, .int], returnType := some .int }, accessFlags := 9, code := some k9c3 }
/-- java/lang/StringUTF16 -/
def k9 : Class := { plain "java/lang/StringUTF16" (some 0) with
  accessFlags := 48
  interfaces := #[]
  cf := some (fileOf pool9 12 #[.nestMembers #[627, 629, 369]] #[{ accessFlags := 0, nameIndex := 9, descriptorIndex := 10, attributes := #[] }, { accessFlags := 8, nameIndex := 261, descriptorIndex := 262, attributes := #[] }, { accessFlags := 9, nameIndex := 117, descriptorIndex := 122, attributes := #[] }, { accessFlags := 9, nameIndex := 117, descriptorIndex := 118, attributes := #[] }] 48 6 #[] #[{ accessFlags := 26, nameIndex := 61, descriptorIndex := 62, attributes := #[] }, { accessFlags := 26, nameIndex := 65, descriptorIndex := 62, attributes := #[] }, { accessFlags := 24, nameIndex := 430, descriptorIndex := 62, attributes := #[] }, { accessFlags := 4120, nameIndex := 46, descriptorIndex := 47, attributes := #[] }])
  fields := #[{ name := "HI_BYTE_SHIFT", type := .int, accessFlags := 26, slot := 0, constantValue := 0 }, { name := "LO_BYTE_SHIFT", type := .int, accessFlags := 26, slot := 1, constantValue := 0 }, { name := "MAX_LENGTH", type := .int, accessFlags := 24, slot := 2, constantValue := 0 }, { name := "$assertionsDisabled", type := .boolean, accessFlags := 4120, slot := 3, constantValue := 0 }]
  methods := #[k9m0, k9m1, k9m2, k9m3]
  instanceTypes := #[]
  staticTypes := #[.int, .int, .int, .boolean]
  resolved := Array.replicate 635 none
  statics := none }

def pool10 : Array CpInfo := pool [(4, .class_ 6), (1, u "java/lang/Object"), (0, u "<init>"), (0, u "()V"), (5, .class_ 16), (1, u "java/lang/StringLatin1"), (104, u "$assertionsDisabled"), (0, u "Z"), (98, .class_ 223), (1, u "java/lang/StringLatin1$LinesSpliterator"), (166, .class_ 391), (0, u "java/lang/StringLatin1$CharsSpliterator")] 3

def k10m0 : Method := { name := "<init>", desc := "()V", sig := { parameters := [], returnType := none }, accessFlags := 0, code := none }
/-- java/lang/StringLatin1 -/
def k10 : Class := { plain "java/lang/StringLatin1" (some 0) with
  accessFlags := 48
  interfaces := #[]
  cf := some (fileOf pool10 14 #[.nestMembers #[390, 221]] #[{ accessFlags := 0, nameIndex := 7, descriptorIndex := 8, attributes := #[] }] 48 4 #[] #[{ accessFlags := 4120, nameIndex := 121, descriptorIndex := 122, attributes := #[] }])
  fields := #[{ name := "$assertionsDisabled", type := .boolean, accessFlags := 4120, slot := 0, constantValue := 0 }]
  methods := #[k10m0]
  instanceTypes := #[]
  staticTypes := #[.boolean]
  resolved := Array.replicate 395 none
  statics := none }

def pool11 : Array CpInfo := pool [(2, .class_ 4), (1, u "java/lang/Object"), (0, u "<init>"), (0, u "()V"), (17, .class_ 26), (1, u "jdk/internal/util/Preconditions"), (28, .class_ 56), (0, u "jdk/internal/util/Preconditions$4"), (57, .class_ 115), (0, u "jdk/internal/util/Preconditions$1"), (7, u "SIOOBE_FORMATTER"), (0, u "Ljava/util/function/BiFunction;"), (0, .class_ 126), (0, u "jdk/internal/util/Preconditions$2"), (3, u "AIOOBE_FORMATTER"), (0, .class_ 132), (0, u "jdk/internal/util/Preconditions$3"), (3, u "IOOBE_FORMATTER")] 57

def k11m0 : Method := { name := "<init>", desc := "()V", sig := { parameters := [], returnType := none }, accessFlags := 1, code := none }
/-- jdk/internal/util/Preconditions -/
def k11 : Class := { plain "jdk/internal/util/Preconditions" (some 0) with
  accessFlags := 33
  interfaces := #[]
  cf := some (fileOf pool11 24 #[.nestMembers #[55, 131, 125, 114]] #[{ accessFlags := 1, nameIndex := 5, descriptorIndex := 6, attributes := #[] }] 33 2 #[] #[{ accessFlags := 25, nameIndex := 123, descriptorIndex := 124, attributes := #[] }, { accessFlags := 25, nameIndex := 130, descriptorIndex := 124, attributes := #[] }, { accessFlags := 25, nameIndex := 136, descriptorIndex := 124, attributes := #[] }])
  fields := #[{ name := "SIOOBE_FORMATTER", type := (.object "java/util/function/BiFunction"), accessFlags := 25, slot := 0, constantValue := 0 }, { name := "AIOOBE_FORMATTER", type := (.object "java/util/function/BiFunction"), accessFlags := 25, slot := 1, constantValue := 0 }, { name := "IOOBE_FORMATTER", type := (.object "java/util/function/BiFunction"), accessFlags := 25, slot := 2, constantValue := 0 }]
  methods := #[k11m0]
  instanceTypes := #[]
  staticTypes := #[(.object "java/util/function/BiFunction"), (.object "java/util/function/BiFunction"), (.object "java/util/function/BiFunction")]
  resolved := Array.replicate 194 none
  statics := some 1 }

def pool12 : Array CpInfo := pool [(9, u "<init>"), (6, .class_ 18), (1, u "java/lang/Object"), (0, u "()V"), (1, .class_ 23), (1, u "jdk/internal/util/ArraysSupport"), (0, u "LOG2_ARRAY_LONG_INDEX_SCALE"), (0, u "I"), (2, u "U"), (0, u "Ljdk/internal/misc/Unsafe;"), (8, u "BIG_ENDIAN"), (0, u "Z"), (8, u "LOG2_BYTE_BIT_SIZE"), (4, u "LOG2_ARRAY_INT_INDEX_SCALE"), (54, u "JLA"), (0, u "Ljdk/internal/access/JavaLangAccess;"), (11, u "LOG2_ARRAY_BOOLEAN_INDEX_SCALE"), (9, u "LOG2_ARRAY_BYTE_INDEX_SCALE"), (5, u "LOG2_ARRAY_CHAR_INDEX_SCALE"), (5, u "LOG2_ARRAY_SHORT_INDEX_SCALE"), (18, u "LOG2_ARRAY_FLOAT_INDEX_SCALE"), (24, u "LOG2_ARRAY_DOUBLE_INDEX_SCALE"), (89, u "T_BOOLEAN"), (2, u "T_CHAR"), (1, u "T_FLOAT"), (1, u "T_DOUBLE"), (1, u "T_BYTE"), (1, u "T_SHORT"), (1, u "T_INT"), (1, u "T_LONG"), (1, u "SOFT_MAX_ARRAY_LENGTH")] 83

def k12m0 : Method := { name := "<init>", desc := "()V", sig := { parameters := [], returnType := none }, accessFlags := 2, code := none }
/-- jdk/internal/util/ArraysSupport -/
def k12 : Class := { plain "jdk/internal/util/ArraysSupport" (some 0) with
  accessFlags := 33
  interfaces := #[]
  cf := some (fileOf pool12 21 #[] #[{ accessFlags := 2, nameIndex := 9, descriptorIndex := 19, attributes := #[] }] 33 16 #[] #[{ accessFlags := 24, nameIndex := 28, descriptorIndex := 29, attributes := #[] }, { accessFlags := 26, nameIndex := 38, descriptorIndex := 39, attributes := #[] }, { accessFlags := 25, nameIndex := 121, descriptorIndex := 25, attributes := #[] }, { accessFlags := 25, nameIndex := 131, descriptorIndex := 25, attributes := #[] }, { accessFlags := 25, nameIndex := 137, descriptorIndex := 25, attributes := #[] }, { accessFlags := 25, nameIndex := 143, descriptorIndex := 25, attributes := #[] }, { accessFlags := 25, nameIndex := 53, descriptorIndex := 25, attributes := #[] }, { accessFlags := 25, nameIndex := 24, descriptorIndex := 25, attributes := #[] }, { accessFlags := 25, nameIndex := 162, descriptorIndex := 25, attributes := #[] }, { accessFlags := 25, nameIndex := 187, descriptorIndex := 25, attributes := #[] }, { accessFlags := 26, nameIndex := 48, descriptorIndex := 25, attributes := #[] }, { accessFlags := 25, nameIndex := 277, descriptorIndex := 25, attributes := #[] }, { accessFlags := 25, nameIndex := 280, descriptorIndex := 25, attributes := #[] }, { accessFlags := 25, nameIndex := 282, descriptorIndex := 25, attributes := #[] }, { accessFlags := 25, nameIndex := 284, descriptorIndex := 25, attributes := #[] }, { accessFlags := 25, nameIndex := 286, descriptorIndex := 25, attributes := #[] }, { accessFlags := 25, nameIndex := 288, descriptorIndex := 25, attributes := #[] }, { accessFlags := 25, nameIndex := 290, descriptorIndex := 25, attributes := #[] }, { accessFlags := 25, nameIndex := 292, descriptorIndex := 25, attributes := #[] }, { accessFlags := 26, nameIndex := 108, descriptorIndex := 109, attributes := #[] }, { accessFlags := 25, nameIndex := 294, descriptorIndex := 25, attributes := #[] }])
  fields := #[{ name := "U", type := (.object "jdk/internal/misc/Unsafe"), accessFlags := 24, slot := 0, constantValue := 0 }, { name := "BIG_ENDIAN", type := .boolean, accessFlags := 26, slot := 1, constantValue := 0 }, { name := "LOG2_ARRAY_BOOLEAN_INDEX_SCALE", type := .int, accessFlags := 25, slot := 2, constantValue := 0 }, { name := "LOG2_ARRAY_BYTE_INDEX_SCALE", type := .int, accessFlags := 25, slot := 3, constantValue := 0 }, { name := "LOG2_ARRAY_CHAR_INDEX_SCALE", type := .int, accessFlags := 25, slot := 4, constantValue := 0 }, { name := "LOG2_ARRAY_SHORT_INDEX_SCALE", type := .int, accessFlags := 25, slot := 5, constantValue := 0 }, { name := "LOG2_ARRAY_INT_INDEX_SCALE", type := .int, accessFlags := 25, slot := 6, constantValue := 0 }, { name := "LOG2_ARRAY_LONG_INDEX_SCALE", type := .int, accessFlags := 25, slot := 7, constantValue := 0 }, { name := "LOG2_ARRAY_FLOAT_INDEX_SCALE", type := .int, accessFlags := 25, slot := 8, constantValue := 0 }, { name := "LOG2_ARRAY_DOUBLE_INDEX_SCALE", type := .int, accessFlags := 25, slot := 9, constantValue := 0 }, { name := "LOG2_BYTE_BIT_SIZE", type := .int, accessFlags := 26, slot := 10, constantValue := 0 }, { name := "T_BOOLEAN", type := .int, accessFlags := 25, slot := 11, constantValue := 0 }, { name := "T_CHAR", type := .int, accessFlags := 25, slot := 12, constantValue := 0 }, { name := "T_FLOAT", type := .int, accessFlags := 25, slot := 13, constantValue := 0 }, { name := "T_DOUBLE", type := .int, accessFlags := 25, slot := 14, constantValue := 0 }, { name := "T_BYTE", type := .int, accessFlags := 25, slot := 15, constantValue := 0 }, { name := "T_SHORT", type := .int, accessFlags := 25, slot := 16, constantValue := 0 }, { name := "T_INT", type := .int, accessFlags := 25, slot := 17, constantValue := 0 }, { name := "T_LONG", type := .int, accessFlags := 25, slot := 18, constantValue := 0 }, { name := "JLA", type := (.object "jdk/internal/access/JavaLangAccess"), accessFlags := 26, slot := 19, constantValue := 0 }, { name := "SOFT_MAX_ARRAY_LENGTH", type := .int, accessFlags := 25, slot := 20, constantValue := 0 }]
  methods := #[k12m0]
  instanceTypes := #[]
  staticTypes := #[(.object "jdk/internal/misc/Unsafe"), .boolean, .int, .int, .int, .int, .int, .int, .int, .int, .int, .int, .int, .int, .int, .int, .int, .int, .int, (.object "jdk/internal/access/JavaLangAccess"), .int]
  resolved := Array.replicate 378 none
  statics := none }

def pool13 : Array CpInfo := pool [(1, u "java/lang/Cloneable"), (0, .class_ 1), (0, u "java/lang/Object"), (0, .class_ 3)] 3

/-- java/lang/Cloneable -/
def k13 : Class := { plain "java/lang/Cloneable" (some 0) with
  accessFlags := 1537
  interfaces := #[]
  cf := some (fileOf pool13 2 #[] #[] 1537 4 #[] #[])
  fields := #[]
  methods := #[]
  instanceTypes := #[]
  staticTypes := #[]
  resolved := Array.replicate 8 none
  statics := none }

/-- the primitive byte -/
def k14 : Class := { plain "byte" none with kind := .primitive 'B', accessFlags := 0x411 }
/-- [B -/
def k15 : Class := { plain "[B" (some 0) with kind := .array 14 .byte, interfaces := #[13, 3], accessFlags := 1041 }

/-- the primitive char -/
def k16 : Class := { plain "char" none with kind := .primitive 'C', accessFlags := 0x411 }
/-- [C -/
def k17 : Class := { plain "[C" (some 0) with kind := .array 16 .char, interfaces := #[13, 3], accessFlags := 1041 }

/-- the primitive int -/
def k18 : Class := { plain "int" none with kind := .primitive 'I', accessFlags := 0x411 }
/-- [I -/
def k19 : Class := { plain "[I" (some 0) with kind := .array 18 .int, interfaces := #[13, 3], accessFlags := 1041 }

def heap : Heap := #[{ cls := 8, slots := #[.long 0, .int 1, .null, .int 0, .null, .int 0, .int 0], vm := .statics 8 },
  { cls := 11, slots := #[.null, .null, .null], vm := .statics 11 }]
def classes : Array Class := #[k0, k1, k2, k3, k4, k5, k6, k7, k8, k9, k10, k11, k12, k13, k14, k15, k16, k17, k18, k19]
def interned : List (Array UInt16 × Addr) := []
def slotsUsed : Nat := 10
def theMethod : MethodId := ⟨1, 1⟩
def args0 : Array Value := #[.long 5, .long 7, .int 9, .int 3, .int 2, .long 4]
def aboutOver (below : List Frame) : State where
  vm := { classes := classes, interned := interned.toArray }
  heap := heap
  slotsUsed := slotsUsed
  threads := #[{ frames := .invoking theMethod args0 :: below }]
def below0 : List Frame := [.native { method := ⟨0, 0⟩, args := #[] }]
def about1 : State := aboutOver below0
def p0 : Program := .bare "" "" ""
def e0 : Env := launch0.env 0 0 0
theorem w_frames : about1.frames = Frame.invoking theMethod args0 :: below0 := rfl
set_option maxRecDepth 65536 in
theorem w_args : argsFit about1.vm theMethod args0 = true := by decide +kernel
set_option maxRecDepth 65536 in
theorem w_heap : heapFits about1 = true := by decide +kernel
set_option maxRecDepth 65536 in
theorem w_runnable : about1.curStatus? = some .runnable := by decide +kernel
set_option maxRecDepth 65536 in
theorem w_alone : about1.alone = true := by decide +kernel
set_option maxRecDepth 65536 in
theorem w_named : about1.methodNamed? x = some theMethod := by decide +kernel
set_option maxRecDepth 65536 in
theorem w_hears : about1.hears theMethod below0 = true := by decide +kernel
set_option maxRecDepth 65536 in
theorem w_ripe : about1.ripe theMethod args0 below0 = true := by decide +kernel
theorem w_running : about1.status = .running := rfl
set_option maxRecDepth 65536 in
theorem w_room : about1.hasRoom e0.platform room_1 = true :=
  launch0.hasRoom_least _ room_1 (by decide +kernel) (by decide +kernel) (by decide +kernel) (by decide +kernel) (by decide +kernel) (by decide +kernel)
theorem allAtoms_all (ts : List Jvm.Cond) (a : Array Jvm.Value) (st : Jvm.State) : (allAtoms ts).before a st = ts.all (fun c => c.before a st) := by
  induction ts with
  | nil => rfl
  | cons c t ih =>
    show (Jvm.Cond.and c (allAtoms t)).before a st = _
    rw [Jvm.Cond.before_and, ih, List.all_cons]
def words1 : List Jvm.Cond := Jvm.Cond.code x code maxLocals ret :: tables_1
/-- a 'code' word, met by the world's own term for the bytes: nothing is compared byte by byte -/
theorem code_word {y : MethodName} {bytes : ByteArray} {mx : Nat} {rt : Option FieldType} {a : Array Value} {s : State} {m : MethodId} {meth : Method} {c : Code} (h1 : s.methodNamed? y = some m) (h2 : s.vm.method? m = some meth) (h3 : meth.code = some c) (h4 : c.code = bytes)
    (h5 : (c.maxLocals == mx && c.exceptionTable.isEmpty && decide (c.maxStack ≤ mostOperands) && decide (meth.sig.returnType = rt) && !meth.locks && decide (parseMethodDescriptor y.desc = some meth.sig)) = true) : (Jvm.Cond.code y bytes mx rt).before a s = true := by
  simp only [Bool.and_eq_true, beq_iff_eq, Bool.not_eq_true', decide_eq_true_eq] at h5
  obtain ⟨⟨⟨⟨⟨g1, g2⟩, g3⟩, g4⟩, g5⟩, g6⟩ := h5
  simp [Cond.before, Cond.holds, Cond.value, h1, h2, h3, h4, g1, g2, g3, g4, g5, g6]
def isCode : Jvm.Cond → Bool
  | .code _ _ _ _ => true
  | _ => false
theorem all_split {L : List Jvm.Cond} {P : Jvm.Cond → Bool} (h1 : L.all (fun c => isCode c || P c) = true) (h2 : ∀ c ∈ L.filter isCode, P c = true) : L.all P = true := by
  refine List.all_eq_true.mpr fun c hc => ?_
  have h := List.all_eq_true.mp h1 c hc
  rcases Bool.eq_false_or_eq_true (isCode c) with hi | hi
  · exact h2 c (List.mem_filter.mpr ⟨hc, hi⟩)
  · simpa [hi] using h
set_option maxRecDepth 65536 in
theorem w_c0 : (Jvm.Cond.code x code maxLocals ret).before args0 about1 = true := code_word (m := ⟨1, 1⟩) (meth := k1m1) (c := k1c1) (by decide +kernel) rfl rfl rfl (by decide +kernel)
set_option maxRecDepth 65536 in
theorem w_c1 : (Jvm.Cond.code ({ cls := "java/lang/String", name := "<init>", desc := "([C)V" } : Jvm.MethodName) jdk_42_method_3_code (2 : Nat) (Option.none : Option Jvm.ClassFile.FieldType)).before args0 about1 = true := code_word (m := ⟨8, 1⟩) (meth := k8m1) (c := k8c1) (by decide +kernel) rfl rfl rfl (by decide +kernel)
set_option maxRecDepth 65536 in
theorem w_c2 : (Jvm.Cond.code ({ cls := "java/lang/String", name := "<init>", desc := "([CIILjava/lang/Void;)V" } : Jvm.MethodName) jdk_42_method_149_code (6 : Nat) (Option.none : Option Jvm.ClassFile.FieldType)).before args0 about1 = true := code_word (m := ⟨8, 2⟩) (meth := k8m2) (c := k8c2) (by decide +kernel) rfl rfl rfl (by decide +kernel)
set_option maxRecDepth 65536 in
theorem w_c3 : (Jvm.Cond.code ({ cls := "java/lang/Object", name := "<init>", desc := "()V" } : Jvm.MethodName) object_method_1_code (1 : Nat) (Option.none : Option Jvm.ClassFile.FieldType)).before args0 about1 = true := code_word (m := ⟨0, 0⟩) (meth := k0m0) (c := k0c0) (by decide +kernel) rfl rfl rfl (by decide +kernel)
set_option maxRecDepth 65536 in
theorem w_c4 : (Jvm.Cond.code ({ cls := "java/lang/StringUTF16", name := "compress", desc := "([CII)[B" } : Jvm.MethodName) jdk_52_method_16_code (6 : Nat) (Option.some (Jvm.ClassFile.FieldType.array Jvm.ClassFile.FieldType.byte))).before args0 about1 = true := code_word (m := ⟨9, 2⟩) (meth := k9m2) (c := k9c2) (by decide +kernel) rfl rfl rfl (by decide +kernel)
set_option maxRecDepth 65536 in
theorem w_c5 : (Jvm.Cond.code ({ cls := "java/lang/StringUTF16", name := "compress", desc := "([CI[BII)I" } : Jvm.MethodName) jdk_52_method_21_code (7 : Nat) (Option.some Jvm.ClassFile.FieldType.int)).before args0 about1 = true := code_word (m := ⟨9, 3⟩) (meth := k9m3) (c := k9c3) (by decide +kernel) rfl rfl rfl (by decide +kernel)
set_option maxRecDepth 65536 in
theorem w_c6 : (Jvm.Cond.code ({ cls := "java/lang/StringUTF16", name := "coderFromArrayLen", desc := "([BI)B" } : Jvm.MethodName) jdk_52_method_15_code (2 : Nat) (Option.some Jvm.ClassFile.FieldType.byte)).before args0 about1 = true := code_word (m := ⟨9, 1⟩) (meth := k9m1) (c := k9c1) (by decide +kernel) rfl rfl rfl (by decide +kernel)
set_option maxRecDepth 65536 in
theorem w_c7 : (Jvm.Cond.code ({ cls := "com/example/lahetti/lahetti/protocol/PullRequestHeader", name := "<init>", desc := "(Ljava/lang/String;Ljava/lang/String;IJI)V" } : Jvm.MethodName) prog_31_method_1_code (7 : Nat) (Option.none : Option Jvm.ClassFile.FieldType)).before args0 about1 = true := code_word (m := ⟨2, 0⟩) (meth := k2m0) (c := k2c0) (by decide +kernel) rfl rfl rfl (by decide +kernel)
set_option maxRecDepth 65536 in
theorem w_c8 : (Jvm.Cond.code ({ cls := "com/example/lahetti/lahetti/protocol/PullRequestHeader", name := "<init>", desc := "(Ljava/lang/String;Ljava/lang/String;IJIIJJJLjava/lang/String;)V" } : Jvm.MethodName) prog_31_method_2_code (15 : Nat) (Option.none : Option Jvm.ClassFile.FieldType)).before args0 about1 = true := code_word (m := ⟨2, 1⟩) (meth := k2m1) (c := k2c1) (by decide +kernel) rfl rfl rfl (by decide +kernel)
set_option maxRecDepth 65536 in
theorem w_c9 : (Jvm.Cond.code ({ cls := "com/example/lahetti/lahetti/protocol/PullRequestHeader", name := "getHoldMillis", desc := "()J" } : Jvm.MethodName) prog_31_method_12_code (1 : Nat) (Option.some Jvm.ClassFile.FieldType.long)).before args0 about1 = true := code_word (m := ⟨2, 4⟩) (meth := k2m4) (c := k2c4) (by decide +kernel) rfl rfl rfl (by decide +kernel)
set_option maxRecDepth 65536 in
theorem w_c10 : (Jvm.Cond.code ({ cls := "com/example/lahetti/lahetti/protocol/PullRequestHeader", name := "withSubVersion", desc := "(J)Lcom/example/lahetti/lahetti/protocol/PullRequestHeader;" } : Jvm.MethodName) prog_31_method_5_code (3 : Nat) (Option.some (Jvm.ClassFile.FieldType.object "com/example/lahetti/lahetti/protocol/PullRequestHeader"))).before args0 about1 = true := code_word (m := ⟨2, 3⟩) (meth := k2m3) (c := k2c3) (by decide +kernel) rfl rfl rfl (by decide +kernel)
set_option maxRecDepth 65536 in
theorem w_c11 : (Jvm.Cond.code ({ cls := "com/example/lahetti/lahetti/protocol/PullRequestHeader", name := "withHoldMillis", desc := "(J)Lcom/example/lahetti/lahetti/protocol/PullRequestHeader;" } : Jvm.MethodName) prog_31_method_4_code (3 : Nat) (Option.some (Jvm.ClassFile.FieldType.object "com/example/lahetti/lahetti/protocol/PullRequestHeader"))).before args0 about1 = true := code_word (m := ⟨2, 2⟩) (meth := k2m2) (c := k2c2) (by decide +kernel) rfl rfl rfl (by decide +kernel)
def codes1 : List Jvm.Cond := [Jvm.Cond.code x code maxLocals ret, Jvm.Cond.code ({ cls := "java/lang/String", name := "<init>", desc := "([C)V" } : Jvm.MethodName) jdk_42_method_3_code (2 : Nat) (Option.none : Option Jvm.ClassFile.FieldType), Jvm.Cond.code ({ cls := "java/lang/String", name := "<init>", desc := "([CIILjava/lang/Void;)V" } : Jvm.MethodName) jdk_42_method_149_code (6 : Nat) (Option.none : Option Jvm.ClassFile.FieldType), Jvm.Cond.code ({ cls := "java/lang/Object", name := "<init>", desc := "()V" } : Jvm.MethodName) object_method_1_code (1 : Nat) (Option.none : Option Jvm.ClassFile.FieldType), Jvm.Cond.code ({ cls := "java/lang/StringUTF16", name := "compress", desc := "([CII)[B" } : Jvm.MethodName) jdk_52_method_16_code (6 : Nat) (Option.some (Jvm.ClassFile.FieldType.array Jvm.ClassFile.FieldType.byte)), Jvm.Cond.code ({ cls := "java/lang/StringUTF16", name := "compress", desc := "([CI[BII)I" } : Jvm.MethodName) jdk_52_method_21_code (7 : Nat) (Option.some Jvm.ClassFile.FieldType.int), Jvm.Cond.code ({ cls := "java/lang/StringUTF16", name := "coderFromArrayLen", desc := "([BI)B" } : Jvm.MethodName) jdk_52_method_15_code (2 : Nat) (Option.some Jvm.ClassFile.FieldType.byte), Jvm.Cond.code ({ cls := "com/example/lahetti/lahetti/protocol/PullRequestHeader", name := "<init>", desc := "(Ljava/lang/String;Ljava/lang/String;IJI)V" } : Jvm.MethodName) prog_31_method_1_code (7 : Nat) (Option.none : Option Jvm.ClassFile.FieldType), Jvm.Cond.code ({ cls := "com/example/lahetti/lahetti/protocol/PullRequestHeader", name := "<init>", desc := "(Ljava/lang/String;Ljava/lang/String;IJIIJJJLjava/lang/String;)V" } : Jvm.MethodName) prog_31_method_2_code (15 : Nat) (Option.none : Option Jvm.ClassFile.FieldType), Jvm.Cond.code ({ cls := "com/example/lahetti/lahetti/protocol/PullRequestHeader", name := "getHoldMillis", desc := "()J" } : Jvm.MethodName) prog_31_method_12_code (1 : Nat) (Option.some Jvm.ClassFile.FieldType.long), Jvm.Cond.code ({ cls := "com/example/lahetti/lahetti/protocol/PullRequestHeader", name := "withSubVersion", desc := "(J)Lcom/example/lahetti/lahetti/protocol/PullRequestHeader;" } : Jvm.MethodName) prog_31_method_5_code (3 : Nat) (Option.some (Jvm.ClassFile.FieldType.object "com/example/lahetti/lahetti/protocol/PullRequestHeader")), Jvm.Cond.code ({ cls := "com/example/lahetti/lahetti/protocol/PullRequestHeader", name := "withHoldMillis", desc := "(J)Lcom/example/lahetti/lahetti/protocol/PullRequestHeader;" } : Jvm.MethodName) prog_31_method_4_code (3 : Nat) (Option.some (Jvm.ClassFile.FieldType.object "com/example/lahetti/lahetti/protocol/PullRequestHeader"))]
set_option maxRecDepth 65536 in
theorem codes_eq : words1.filter isCode = codes1 := rfl
theorem w_codes : ∀ c ∈ words1.filter isCode, c.before args0 about1 = true := by
  rw [codes_eq]
  intro c hc
  simp only [codes1, List.mem_cons, List.not_mem_nil, or_false] at hc
  rcases hc with rfl | rfl | rfl | rfl | rfl | rfl | rfl | rfl | rfl | rfl | rfl | rfl
  · exact w_c0
  · exact w_c1
  · exact w_c2
  · exact w_c3
  · exact w_c4
  · exact w_c5
  · exact w_c6
  · exact w_c7
  · exact w_c8
  · exact w_c9
  · exact w_c10
  · exact w_c11
set_option maxRecDepth 65536 in
theorem w_t1 : (words1.take 24).all (fun c => isCode c || c.before args0 about1) = true := by decide +kernel
set_option maxRecDepth 65536 in
theorem w_t2 : ((words1.drop 24).take 24).all (fun c => isCode c || c.before args0 about1) = true := by decide +kernel
set_option maxRecDepth 65536 in
theorem w_t3 : (((words1.drop 24).drop 24).take 24).all (fun c => isCode c || c.before args0 about1) = true := by decide +kernel
set_option maxRecDepth 65536 in
theorem w_t4 : (((words1.drop 24).drop 24).drop 24).all (fun c => isCode c || c.before args0 about1) = true := by decide +kernel
theorem w_tables : (allAtoms (Jvm.Cond.code x code maxLocals ret :: tables_1)).before args0 about1 = true := by
  rw [allAtoms_all]
  show words1.all (fun c => c.before args0 about1) = true
  refine all_split ?_ w_codes
  rw [← List.take_append_drop 24 words1, List.all_append, w_t1, ← List.take_append_drop 24 (words1.drop 24), List.all_append, w_t2, ← List.take_append_drop 24 ((words1.drop 24).drop 24), List.all_append, w_t3, w_t4]
  rfl
set_option maxRecDepth 65536 in
theorem w_rest : rest_1_c.before args0 about1 = true := by decide +kernel
set_option maxRecDepth 65536 in
theorem w_case : (Jvm.Cond.and given_1 narrow_1).before args0 about1 = true := by decide +kernel
theorem w_applies : (headSpec (Jvm.Cond.code x code maxLocals ret :: tables_1) room_1).applies x e0.platform about1 = true :=
  (Spec.applies_iff w_frames).mpr ⟨w_running, w_runnable, w_alone, w_named, w_hears, w_ripe, w_room, w_tables⟩
theorem atStart : AtStart classFile x code maxLocals ret World_1 tables_1 room_1 Calls_1 rest_1 Pre_1 launch0 p0 e0 about1 theMethod args0 below0 :=
  ⟨lists_1, trivial, launch0.admits_env _ _ _, launch0.least_env, fairChoices_fair.cas, fairChoices_fair.clock, w_frames, w_args, w_heap, w_applies, trivial, w_rest, w_case⟩
end start1
theorem witness_1 : WitnessClaimed_1 := ⟨start1.p0, start1.e0, start1.about1, start1.theMethod, start1.args0, start1.below0, start1.atStart⟩
end Jvm.Pilot.@@N@@
