import JvmDerived
import JvmDerived.Pilot.@@N@@Statement
import JvmDerived.Pilot.@@N@@Code
set_option linter.unusedVariables false
set_option linter.unusedSimpArgs false
namespace Jvm.RoadKit
open Sem ClassFile Op Lib Jvm.Stand Jvm.Free Jvm.LawKit
section New
variable {p : Program} {l : Launch} {e : Env} {R : Room} {s : State} {m : MethodId} {args : Array Value} {below : List Frame} {meth : Method} {c : Code} {T : State} {locs : List Loc} {cells slots : Nat}
theorem retI (X : Stand p l e R s m args below meth c T locs cells slots) (hx : p.tables.exec = Jvm.exec) {pc : Nat} {Ls : Array Slot} {z : Int32} {rest : List Value} (hret : meth.sig.returnType = some .int) (hd : decode c.code pc = .ok (.ireturn, 1)) {fs : List Frame}
    (hl : ∀ (f : JFrame) (acts : List Action), f.method = m → f.locked = none → f.entered = [] → (doReturn e (T.setTop f) acts (some (.int z))).1 = T.setFrames fs) : Steps p.tables e below (T.setTop (mkF m pc Ls (.int z :: rest))) (T.setFrames fs) := by
  have hm' : T.vm.method? m = some meth := X.method'
  have hn : narrow .int (.int z) = .int z := rfl
  show Steps p.tables e below (T.setTop { method := m, pc := pc, locals := Ls, stack := _ :: rest, locked := none }) _
  jvm_step X.here [X.here.top, hx, hd, hm', hret, hn]
  first | (intro acts; rw [hl _ acts rfl rfl rfl]) | rw [hl _ _ rfl rfl rfl]
  exact Steps.refl _
end New
end Jvm.RoadKit
namespace Jvm.Pilot.@@N@@
open Jvm Jvm.ClassFile Sem Op Lib Jvm.Free Jvm.Stand Jvm.LawKit Jvm.RoadKit Bundle Jvm.Pilot.@@N@@.Jvm.D
section Own
variable {p : Program} {l : Launch} {e : Env} {R : Room} {s : State} {m : MethodId} {args : Array Value} {below : List Frame} {meth : Method} {c : Code} {T : State} {locs : List Loc} {cells slots : Nat}
theorem own_retL (X : Stand p l e R s m args below meth c T locs cells slots) (hx : p.tables.exec = Jvm.exec) {pc : Nat} {Ls : Array Slot} {z : Int64} {rest : List Value} (hret : meth.sig.returnType = some .long) (hd : decode c.code pc = .ok (.lreturn, 1)) {fs : List Frame}
    (hl : ∀ (f : JFrame) (acts : List Action), f.method = m → f.locked = none → f.entered = [] → (doReturn e (T.setTop f) acts (some (.long z))).1 = T.setFrames fs) : Steps p.tables e below (T.setTop (mkF m pc Ls (.long z :: rest))) (T.setFrames fs) := by
  have hm' : T.vm.method? m = some meth := X.method'
  have hn : narrow .long (.long z) = .long z := rfl
  show Steps p.tables e below (T.setTop { method := m, pc := pc, locals := Ls, stack := _ :: rest, locked := none }) _
  jvm_step X.here [X.here.top, hx, hd, hm', hret, hn]
  first | (intro acts; rw [hl _ acts rfl rfl rfl]) | rw [hl _ _ rfl rfl rfl]
  exact Steps.refl _
theorem own_retA (X : Stand p l e R s m args below meth c T locs cells slots) (hx : p.tables.exec = Jvm.exec) {pc : Nat} {Ls : Array Slot} {v : Value} {t : FieldType} {rest : List Value} (hret : meth.sig.returnType = some t) (ht : t.isReference = true) (hv : v.isRef = true) (hd : decode c.code pc = .ok (.areturn, 1)) {fs : List Frame}
    (hl : ∀ (f : JFrame) (acts : List Action), f.method = m → f.locked = none → f.entered = [] → (doReturn e (T.setTop f) acts (some v)).1 = T.setFrames fs) : Steps p.tables e below (T.setTop (mkF m pc Ls (v :: rest))) (T.setFrames fs) := by
  have hm' : T.vm.method? m = some meth := X.method'
  show Steps p.tables e below (T.setTop { method := m, pc := pc, locals := Ls, stack := _ :: rest, locked := none }) _
  jvm_step X.here [X.here.top, hx, hd, hm', hret, hv, ht]
  first | (intro acts; rw [hl _ acts rfl rfl rfl]) | rw [hl _ _ rfl rfl rfl]
  exact Steps.refl _
def OGo (p : Program) (e : Env) (below : List Frame) (P : State → Outcome → Prop) (S : State) : Prop := ∃ s₂ o, Steps p.tables e below S s₂ ∧ s₂.status = .running ∧ Ended s₂ below o ∧ P s₂ o
theorem OGo.to {P : State → Outcome → Prop} {S S' : State} (h : ∀ t, Steps p.tables e below S' t → Steps p.tables e below S t) (g : OGo p e below P S') : OGo p e below P S := by
  obtain ⟨s₂, o, h1, r⟩ := g
  exact ⟨s₂, o, h _ h1, r⟩
theorem OGo.ret {Q : Option Value → Heap → List Loc → Prop} (X : Stand p l e R s m args below meth c T locs cells slots) {g : JFrame} (v : Option Value) (hv : meth.sig.returnType = none → v = none) (hlocks : meth.locks = false)
    (st : ∀ fs : List Frame, (∀ (f : JFrame) (acts : List Action), f.method = m → f.locked = none → f.entered = [] → (doReturn e (T.setTop f) acts v).1 = T.setFrames fs) → Steps p.tables e below (T.setTop g) (T.setFrames fs)) (hq : Q v T.heap locs) {rc rs : Nat} (h1 : cells ≤ rc) (h2 : slots ≤ rs) :
    OGo p e below (fun s₂ o => ∃ v L, o = .returned v ∧ Q v s₂.heap L ∧ FrameEnd s o s₂ L rc rs) (T.setTop g) := by
  obtain ⟨fs, hr, hrun, hended, hW, hsame⟩ := X.leave (v := v) hv hlocks
  exact ⟨_, _, st fs hr, hrun, hended, _, _, rfl, hq, ⟨_, rfl⟩, hW, hsame.mono h1 h2⟩
theorem own_un (X0 : Stand p l e R s m args below meth c T locs cells slots) {Q : Option Value → Heap → List Loc → Prop} {rc rs : Nat} {W : Option Value → State → Prop}
    (h : ∃ (v : Option Value) (vm₁ : Vm) (B : Pt), s.WarmedH vm₁ ∧ Stand p l e R s m args below meth c B.U B.locs B.cells B.slots ∧ (∃ L, Q v B.U.heap L ∧ B.locs = locs ++ L ∧ B.cells = cells + rc ∧ B.slots = slots + rs) ∧ W v B.U) :
    ∃ (v : Option Value) (T' : State) (Lc : List Loc), Stand p l e R s m args below meth c T' (locs ++ Lc) (cells + rc) (slots + rs) ∧ Q v T'.heap Lc ∧ W v T' := by
  obtain ⟨v, vm₁, ⟨T', L', k', n'⟩, -, X, ⟨Lc, hQ, h1, h2, h3⟩, st⟩ := h
  subst h1 h2 h3
  exact ⟨v, T', Lc, X, hQ, st⟩
theorem own_selP {Z : State} {a0 : Array Value} (hZ : Z.Warmed39 s.vm) {y : MethodName} {n : Nat} (wi : (Jvm.Cond.instantiable y.cls n).before a0 Z = true) (wp : (Jvm.Cond.privateMethod y).before a0 Z = true) (wm : (Jvm.Cond.instanceMethod y).before a0 Z = true) (hy : y.cls ≠ "java/lang/invoke/MethodHandle" ∧ y.cls ≠ "java/lang/invoke/VarHandle") : (Jvm.Cond.selects y.cls y y).before args s = true := by
  obtain ⟨c, k, h1, h2, -, h3, -⟩ := Cond.instantiable_spec (mvT (args := args) hZ wi)
  exact selects_self_of_private h1 h2 ((Bool.or_eq_false_iff.mp h3).1) (Cond.privateMethod_at (mvP hZ wp (args := args))) (mvT hZ wm) hy
end Own
theorem own_b {x : Int32} (h : x = (0 : Int32) ∨ x = (1 : Int32)) : narrow .boolean (.int x) = .int x ∧ fits .boolean (.int x) = true := by
  rcases h with rfl | rfl <;> exact ⟨by decide, by decide⟩
theorem own_01 {P : Prop} [Decidable P] : (if P then (0 : Int32) else (1 : Int32)) = (0 : Int32) ∨ (if P then (0 : Int32) else (1 : Int32)) = (1 : Int32) := by
  by_cases h : P
  · exact Or.inl (if_pos h)
  · exact Or.inr (if_neg h)
theorem own_c255 (x : Int32) : ¬ (255 : Int32) < (x &&& (255 : Int32)) := fun q => by
  have h := c_and x (255 : Int32) (by decide)
  have q2 := Int32.lt_iff_toInt_lt.mp q
  omega
theorem own_cc (x : Int32) : ((x &&& (255 : Int32)).toUInt32.toUInt16.toUInt32.toInt32) = x &&& (255 : Int32) := i2c_mask x
theorem own_cn (x : Int32) : nar .char ((x &&& (255 : Int32)).toUInt32.toUInt16.toUInt32.toInt32) = x &&& (255 : Int32) := by
  rw [own_cc]; exact i2c_mask x
theorem own_cs {args : Array Value} {s : State} {t : Jvm.Term} {cs : Int32} (e : t.eval args s none [] s = some (.int cs)) (h : (Jvm.Cond.not (Jvm.Cond.eq t (Jvm.Term.int (0 : Int32)))).before args s = true) : ¬ (cs = (0 : Int32)) := by
  rintro rfl
  have q := not_v (Cond.before_iff.mp h)
  have r := eq_i (args := args) (first := s) (o := none) (idx := []) (s := s) e (Term.int_eval (0)) rfl
  rw [r] at q
  cases q
def own_mk (x1 x3 : Int32) : Int32 := if x1 = (0 : Int32) then (if x3 = (0 : Int32) then (1 : Int32) else (0 : Int32)) else (0 : Int32)
theorem own_L {a x ex : Int32} (h : ex = (if x = (0 : Int32) then (if a = (0 : Int32) then (1 : Int32) else (0 : Int32)) else (0 : Int32))) : own_mk a x = ex := by
  rw [h]; unfold own_mk
  by_cases h1 : a = (0 : Int32) <;> by_cases h2 : x = (0 : Int32) <;> simp [h1, h2]

theorem pd_0 : parseMethodDescriptor "([CI[BII)I" = some ⟨[(.array .char), .int, (.array .byte), .int, .int], some .int⟩ := by decide +kernel
theorem pd_1 : parseMethodDescriptor "([CII)[B" = some ⟨[(.array .char), .int, .int], some (.array .byte)⟩ := by decide +kernel
theorem pd_2 : parseMethodDescriptor "([BI)B" = some ⟨[(.array .byte), .int], some .byte⟩ := by decide +kernel
theorem pd_3 : parseMethodDescriptor "([CIILjava/lang/Void;)V" = some ⟨[(.array .char), .int, .int, (.object "java/lang/Void")], none⟩ := by decide +kernel
theorem pd_4 : parseMethodDescriptor "(C)Z" = some ⟨[.char], some .boolean⟩ := by decide +kernel
theorem pd_5 : parseMethodDescriptor "(C)[B" = some ⟨[.char], some (.array .byte)⟩ := by decide +kernel
theorem pd_6 : parseMethodDescriptor "([BB)V" = some ⟨[(.array .byte), .byte], none⟩ := by decide +kernel
theorem pd_7 : parseMethodDescriptor "()V" = some ⟨[], none⟩ := by decide +kernel
theorem pd_8 : parseMethodDescriptor "(C)Ljava/lang/String;" = some ⟨[.char], some (.object "java/lang/String")⟩ := by decide +kernel
theorem pd_9 : parseMethodDescriptor "([C)V" = some ⟨[(.array .char)], none⟩ := by decide +kernel
theorem pd_10 : parseMethodDescriptor "(Ljava/lang/String;II)V" = some ⟨[(.object "java/lang/String"), .int, .int], none⟩ := by decide +kernel
theorem pd_11 : parseMethodDescriptor "(Ljava/lang/String;IILcom/example/dromos/dromos/model/Location;Z)V" = some ⟨[(.object "java/lang/String"), .int, .int, (.object "com/example/dromos/dromos/model/Location"), .boolean], none⟩ := by decide +kernel
theorem pd_12 : parseMethodDescriptor "()Z" = some ⟨[], some .boolean⟩ := by decide +kernel
theorem pn_0 : plainName "java/lang/StringUTF16" = true := by first | (simp [plainName, overriddenIn]; done) | decide +kernel
theorem pn_1 : plainName "java/lang/String" = true := by first | (simp [plainName, overriddenIn]; done) | decide +kernel
theorem pn_2 : plainName "java/lang/StringLatin1" = true := by first | (simp [plainName, overriddenIn]; done) | decide +kernel
theorem pn_3 : plainName "java/lang/Record" = true := by first | (simp [plainName, overriddenIn]; done) | decide +kernel
theorem pn_4 : plainName "com/example/dromos/dromos/model/Location" = true := by first | (simp [plainName, overriddenIn]; done) | decide +kernel
theorem pn_5 : plainName "com/example/dromos/dromos/service/Definition" = true := by first | (simp [plainName, overriddenIn]; done) | decide +kernel
theorem pn_6 : plainName "com/example/dromos/dromos/service/DefinitionMayKeepValuePinLaw" = true := by first | (simp [plainName, overriddenIn]; done) | decide +kernel
theorem d9_0 : decode jdk_52_method_21_code 0 = .ok (.iconst 0, 1) := by decide +kernel
theorem d9_1 : decode jdk_52_method_21_code 1 = .ok (.istore 5, 2) := by decide +kernel
theorem d9_3 : decode jdk_52_method_21_code 3 = .ok (.iload 5, 2) := by decide +kernel
theorem d9_5 : decode jdk_52_method_21_code 5 = .ok (.iload 4, 2) := by decide +kernel
theorem d9_7 : decode jdk_52_method_21_code 7 = .ok (.if_icmp .ge 37, 3) := by decide +kernel
theorem d9_10 : decode jdk_52_method_21_code 10 = .ok (.aload_n 0, 1) := by decide +kernel
theorem d9_11 : decode jdk_52_method_21_code 11 = .ok (.iload_n 1, 1) := by decide +kernel
theorem d9_12 : decode jdk_52_method_21_code 12 = .ok (.caload, 1) := by decide +kernel
theorem d9_13 : decode jdk_52_method_21_code 13 = .ok (.istore 6, 2) := by decide +kernel
theorem d9_15 : decode jdk_52_method_21_code 15 = .ok (.iload 6, 2) := by decide +kernel
theorem d9_17 : decode jdk_52_method_21_code 17 = .ok (.sipush 255, 3) := by decide +kernel
theorem d9_20 : decode jdk_52_method_21_code 20 = .ok (.if_icmp .le 6, 3) := by decide +kernel
theorem d9_26 : decode jdk_52_method_21_code 26 = .ok (.aload_n 2, 1) := by decide +kernel
theorem d9_27 : decode jdk_52_method_21_code 27 = .ok (.iload_n 3, 1) := by decide +kernel
theorem d9_28 : decode jdk_52_method_21_code 28 = .ok (.iload 6, 2) := by decide +kernel
theorem d9_30 : decode jdk_52_method_21_code 30 = .ok (.i2b, 1) := by decide +kernel
theorem d9_31 : decode jdk_52_method_21_code 31 = .ok (.bastore, 1) := by decide +kernel
theorem d9_32 : decode jdk_52_method_21_code 32 = .ok (.iinc 1 1, 3) := by decide +kernel
theorem d9_35 : decode jdk_52_method_21_code 35 = .ok (.iinc 3 1, 3) := by decide +kernel
theorem d9_38 : decode jdk_52_method_21_code 38 = .ok (.iinc 5 1, 3) := by decide +kernel
theorem d9_41 : decode jdk_52_method_21_code 41 = .ok (.goto (-38), 3) := by decide +kernel
theorem d9_44 : decode jdk_52_method_21_code 44 = .ok (.iload 4, 2) := by decide +kernel
theorem d9_46 : decode jdk_52_method_21_code 46 = .ok (.ireturn, 1) := by decide +kernel
theorem ef_cp1 (m : MethodId) (x0 : Addr) (x1 : Int32) (x2 : Addr) (x3 : Int32) (x4 : Int32) : entryFrame m #[(.ref x0), (.int x1), (.ref x2), (.int x3), (.int x4)] 7 = mkF m 0 #[.val (.ref x0), .val (.int x1), .val (.ref x2), .val (.int x3), .val (.int x4), .unset, .unset] [] := by first | (simp [entryFrame, mkF, argsToLocals, Value.category]; done) | rfl
def Qcp1 (Z : State) (a1 : Addr) (a2 : Addr) (kc : ClassId) (x0 : Int32) (kb : ClassId) (h0 : Heap) (n0 : Nat) (v : Option Value) (h : Heap) (L : List Loc) : Prop := v = some (.int (1 : Int32)) ∧ Fr n0 L ∧ Keep h0 h [a2] ∧ Arv Z h a2 kb .byte (1 : Int32) [(.int ((x0.toInt8.toInt32)).toInt8.toInt32)] (.int (0 : Int32))
set_option maxRecDepth 65536 in
set_option maxHeartbeats 40000000 in
theorem rmcp1 (l : Launch) (Z : State) (a0 : Array Value) (hw : ∀ d ∈ tables_1, d.before a0 Z = true) (ws : List Jvm.Cond) (a1 : Addr) (a2 : Addr) (kc : ClassId) (x0 : Int32) (kb : ClassId) (h0 : Heap) (n0 : Nat) (Z0 : n0 ≤ h0.size) (VA : Arv Z h0 a1 kc .char (1 : Int32) [(.int x0)] (.int (0 : Int32))) (VB : Arv Z h0 a2 kb .byte (1 : Int32) [(.int (0 : Int32))] (.int (0 : Int32))) (nab : a1 ≠ a2) (g2 : n0 ≤ a2) (hx0 : ¬ ((255 : Int32) < x0)) :
    MetFree l (⟨"java/lang/StringUTF16", "compress", "([CI[BII)I"⟩ : MethodName) (head1 (Jvm.Cond.code (⟨"java/lang/StringUTF16", "compress", "([CI[BII)I"⟩ : MethodName) jdk_52_method_21_code 7 (some .int) :: ws) ({ frames := 0, cells := 0, slots := 0, locals := 0 } : Room)) (fun a U => a = #[(.ref a1), (.int (0 : Int32)), (.ref a2), (.int (0 : Int32)), (.int (1 : Int32))] ∧ Z.Warmed39 U.vm ∧ U.heap = h0) (fun _ _ _ _ _ => True) (fun _ U o U' => ∃ v L, o = .returned v ∧ Qcp1 Z a1 a2 kc x0 kb h0 n0 v U'.heap L ∧ FrameEnd U o U' L ({ frames := 0, cells := 0, slots := 0, locals := 0 } : Room).cells ({ frames := 0, cells := 0, slots := 0, locals := 0 } : Room).slots) := by
  refine MetFree.of_bodySF (plainFor_of_name pn_0) hisR ?_
  intro p e s m args below meth c s₁ Bd hml0 hP hK
  obtain ⟨rfl, hZ, hh⟩ := hP
  have hx := Bd.exec
  have hby := Bd.bytes
  have hml : c.maxLocals = 7 := hml0
  have hown : s.vm.findClass "java/lang/StringUTF16" = some m.cls := findClass_of_methodNamed Bd.named
  have hnm := (name_of_methodNamed Bd.named Bd.method).1
  have X0 : Stand p l e ({ frames := 0, cells := 0, slots := 0, locals := 0 } : Room) s m #[(.ref a1), (.int (0 : Int32)), (.ref a2), (.int (0 : Int32)), (.int (1 : Int32))] below meth c s₁ [] 0 0 := Stand.of_body Bd
  have e0 : s₁.heap = h0 := by rw [← hh, Bd.state]; rfl
  have N0 := Fr.nil n0
  show OGo p e below (fun s₂ o => ∃ v L, o = .returned v ∧ Qcp1 Z a1 a2 kc x0 kb h0 n0 v s₂.heap L ∧ FrameEnd s o s₂ L ({ frames := 0, cells := 0, slots := 0, locals := 0 } : Room).cells ({ frames := 0, cells := 0, slots := 0, locals := 0 } : Room).slots) _
  refine OGo.to (fun _ k => castTop (ef_cp1 m a1 (0 : Int32) a2 (0 : Int32) (1 : Int32)) k) ?_
  refine OGo.to (fun _ k => XS.iconst X0.here hx rfl (hb hby d9_0) k) ?_
  show OGo p e below _ (s₁.setTop (mkF m 1 #[.val (.ref a1), .val (.int (0 : Int32)), .val (.ref a2), .val (.int (0 : Int32)), .val (.int (1 : Int32)), .unset, .unset] [(.int (0 : Int32))]))
  refine OGo.to (fun _ k => XS.istore X0.here hx rfl (hb hby d9_1) rfl (l' := #[.val (.ref a1), .val (.int (0 : Int32)), .val (.ref a2), .val (.int (0 : Int32)), .val (.int (1 : Int32)), .val (.int (0 : Int32)), .unset]) rfl k) ?_
  show OGo p e below _ (s₁.setTop (mkF m 3 #[.val (.ref a1), .val (.int (0 : Int32)), .val (.ref a2), .val (.int (0 : Int32)), .val (.int (1 : Int32)), .val (.int (0 : Int32)), .unset] []))
  refine OGo.to (fun _ k => XS.iload X0.here hx rfl (hb hby d9_3) rfl k) ?_
  show OGo p e below _ (s₁.setTop (mkF m 5 #[.val (.ref a1), .val (.int (0 : Int32)), .val (.ref a2), .val (.int (0 : Int32)), .val (.int (1 : Int32)), .val (.int (0 : Int32)), .unset] [(.int (0 : Int32))]))
  refine OGo.to (fun _ k => XS.iload X0.here hx rfl (hb hby d9_5) rfl k) ?_
  show OGo p e below _ (s₁.setTop (mkF m 7 #[.val (.ref a1), .val (.int (0 : Int32)), .val (.ref a2), .val (.int (0 : Int32)), .val (.int (1 : Int32)), .val (.int (0 : Int32)), .unset] [(.int (1 : Int32)), (.int (0 : Int32))]))
  have hc7__1 : (0 : Int32) < (1 : Int32) := by decide
  refine OGo.to (fun _ k => XS.icmpNo X0.here hx rfl (hb hby d9_7) rfl (tlt hc7__1).2.1 k) ?_
  show OGo p e below _ (s₁.setTop (mkF m 10 #[.val (.ref a1), .val (.int (0 : Int32)), .val (.ref a2), .val (.int (0 : Int32)), .val (.int (1 : Int32)), .val (.int (0 : Int32)), .unset] []))
  refine OGo.to (fun _ k => XS.aloadN X0.here hx rfl (hb hby d9_10) rfl rfl k) ?_
  show OGo p e below _ (s₁.setTop (mkF m 11 #[.val (.ref a1), .val (.int (0 : Int32)), .val (.ref a2), .val (.int (0 : Int32)), .val (.int (1 : Int32)), .val (.int (0 : Int32)), .unset] [(.ref a1)]))
  refine OGo.to (fun _ k => XS.iloadN X0.here hx rfl (hb hby d9_11) rfl k) ?_
  show OGo p e below _ (s₁.setTop (mkF m 12 #[.val (.ref a1), .val (.int (0 : Int32)), .val (.ref a2), .val (.int (0 : Int32)), .val (.int (1 : Int32)), .val (.int (0 : Int32)), .unset] [(.int (0 : Int32)), (.ref a1)]))
  have Vq_2 := VA
  obtain ⟨cl_2, Ar_2, q_2, S_2, M_2, Hs_2, G_2⟩ := Vq_2
  have hin_3 : ¬ ((0 : Int32) < 0 ∨ cl_2.slots.size ≤ ((0 : Int32)).toNatClampNeg) := inb_of S_2 ⟨by decide, by decide⟩
  have hat_3 : cl_2.slots[((0 : Int32)).toNatClampNeg]? = some (.int x0) := Hs_2.at hin_3 (rfl)
  refine OGo.to (fun _ k => X0.caload hx (j := (0 : Int32)) (v := (.int x0)) (by rw [e0]; exact Ar_2.1) (State.isArrayOf_alike hZ.alike Ar_2.2.1) Ar_2.2.2 hin_3 hat_3 (g := (mkF m 12 #[.val (.ref a1), .val (.int (0 : Int32)), .val (.ref a2), .val (.int (0 : Int32)), .val (.int (1 : Int32)), .val (.int (0 : Int32)), .unset] [(.int (0 : Int32)), (.ref a1)])) rfl rfl (hb hby d9_12) _ k) ?_
  show OGo p e below _ (s₁.setTop (mkF m 13 #[.val (.ref a1), .val (.int (0 : Int32)), .val (.ref a2), .val (.int (0 : Int32)), .val (.int (1 : Int32)), .val (.int (0 : Int32)), .unset] [(.int x0)]))
  refine OGo.to (fun _ k => XS.istore X0.here hx rfl (hb hby d9_13) rfl (l' := #[.val (.ref a1), .val (.int (0 : Int32)), .val (.ref a2), .val (.int (0 : Int32)), .val (.int (1 : Int32)), .val (.int (0 : Int32)), .val (.int x0)]) rfl k) ?_
  show OGo p e below _ (s₁.setTop (mkF m 15 #[.val (.ref a1), .val (.int (0 : Int32)), .val (.ref a2), .val (.int (0 : Int32)), .val (.int (1 : Int32)), .val (.int (0 : Int32)), .val (.int x0)] []))
  refine OGo.to (fun _ k => XS.iload X0.here hx rfl (hb hby d9_15) rfl k) ?_
  show OGo p e below _ (s₁.setTop (mkF m 17 #[.val (.ref a1), .val (.int (0 : Int32)), .val (.ref a2), .val (.int (0 : Int32)), .val (.int (1 : Int32)), .val (.int (0 : Int32)), .val (.int x0)] [(.int x0)]))
  refine OGo.to (fun _ k => XS.sipush X0.here hx rfl (hb hby d9_17) k) ?_
  show OGo p e below _ (s₁.setTop (mkF m 20 #[.val (.ref a1), .val (.int (0 : Int32)), .val (.ref a2), .val (.int (0 : Int32)), .val (.int (1 : Int32)), .val (.int (0 : Int32)), .val (.int x0)] [(.int (255 : Int32)), (.int x0)]))
  have hc20__4 : ¬ ((255 : Int32) < x0) := hx0
  refine OGo.to (fun _ k => XS.icmpYes X0.here hx rfl (pc0 := 20) (pc' := 26) rfl (hb hby d9_20) rfl (flt hc20__4).2.2.2 (by decide) (by decide) k) ?_
  show OGo p e below _ (s₁.setTop (mkF m 26 #[.val (.ref a1), .val (.int (0 : Int32)), .val (.ref a2), .val (.int (0 : Int32)), .val (.int (1 : Int32)), .val (.int (0 : Int32)), .val (.int x0)] []))
  refine OGo.to (fun _ k => XS.aloadN X0.here hx rfl (hb hby d9_26) rfl rfl k) ?_
  show OGo p e below _ (s₁.setTop (mkF m 27 #[.val (.ref a1), .val (.int (0 : Int32)), .val (.ref a2), .val (.int (0 : Int32)), .val (.int (1 : Int32)), .val (.int (0 : Int32)), .val (.int x0)] [(.ref a2)]))
  refine OGo.to (fun _ k => XS.iloadN X0.here hx rfl (hb hby d9_27) rfl k) ?_
  show OGo p e below _ (s₁.setTop (mkF m 28 #[.val (.ref a1), .val (.int (0 : Int32)), .val (.ref a2), .val (.int (0 : Int32)), .val (.int (1 : Int32)), .val (.int (0 : Int32)), .val (.int x0)] [(.int (0 : Int32)), (.ref a2)]))
  refine OGo.to (fun _ k => XS.iload X0.here hx rfl (hb hby d9_28) rfl k) ?_
  show OGo p e below _ (s₁.setTop (mkF m 30 #[.val (.ref a1), .val (.int (0 : Int32)), .val (.ref a2), .val (.int (0 : Int32)), .val (.int (1 : Int32)), .val (.int (0 : Int32)), .val (.int x0)] [(.int x0), (.int (0 : Int32)), (.ref a2)]))
  refine OGo.to (fun _ k => XS.i2b X0.here hx rfl (hb hby d9_30) rfl k) ?_
  show OGo p e below _ (s₁.setTop (mkF m 31 #[.val (.ref a1), .val (.int (0 : Int32)), .val (.ref a2), .val (.int (0 : Int32)), .val (.int (1 : Int32)), .val (.int (0 : Int32)), .val (.int x0)] [(.int (x0.toInt8.toInt32)), (.int (0 : Int32)), (.ref a2)]))
  have Vq_5 := VB
  obtain ⟨cl_5, Ar_5, q_5, S_5, M_5, Hs_5, G_5⟩ := Vq_5
  have hin_6 : ¬ ((0 : Int32) < 0 ∨ cl_5.slots.size ≤ ((0 : Int32)).toNatClampNeg) := inb_of S_5 ⟨by decide, by decide⟩
  obtain ⟨T_6, h_6, X_6, e_6, W_6, st_6⟩ := stB X0 hx hZ e0 Ar_5 (j := (0 : Int32)) hin_6 (g := (mkF m 31 #[.val (.ref a1), .val (.int (0 : Int32)), .val (.ref a2), .val (.int (0 : Int32)), .val (.int (1 : Int32)), .val (.int (0 : Int32)), .val (.int x0)] [(.int (x0.toInt8.toInt32)), (.int (0 : Int32)), (.ref a2)])) rfl rfl (hb hby d9_31)
  refine OGo.to st_6 ?_
  have V_6 : Arv Z h_6 a2 kb .byte (1 : Int32) [(.int ((x0.toInt8.toInt32)).toInt8.toInt32)] (.int (0 : Int32)) := Arv.set Ar_5 q_5 S_5 M_5 Hs_5 G_5 (fits_nar_byte _) W_6 0 rfl (Nat.le_of_ble_eq_true rfl)
  have N_6 := Fr.snoc X_6 N0 g2
  have z_7 : n0 ≤ h_6.size := Nat.le_trans Z0 (Keep.of_wr W_6).1
  have K_8 : Keep h0 h_6 [a2] := (Keep.refl h0 [a2]).wr W_6 (Or.inl (List.mem_of_getElem? (i := 0) rfl))
  show OGo p e below _ (T_6.setTop (mkF m 32 #[.val (.ref a1), .val (.int (0 : Int32)), .val (.ref a2), .val (.int (0 : Int32)), .val (.int (1 : Int32)), .val (.int (0 : Int32)), .val (.int x0)] []))
  refine OGo.to (fun _ k => XS.iinc X_6.here hx rfl (hb hby d9_32) rfl (l' := #[.val (.ref a1), .val (.int (1 : Int32)), .val (.ref a2), .val (.int (0 : Int32)), .val (.int (1 : Int32)), .val (.int (0 : Int32)), .val (.int x0)]) rfl k) ?_
  show OGo p e below _ (T_6.setTop (mkF m 35 #[.val (.ref a1), .val (.int (1 : Int32)), .val (.ref a2), .val (.int (0 : Int32)), .val (.int (1 : Int32)), .val (.int (0 : Int32)), .val (.int x0)] []))
  refine OGo.to (fun _ k => XS.iinc X_6.here hx rfl (hb hby d9_35) rfl (l' := #[.val (.ref a1), .val (.int (1 : Int32)), .val (.ref a2), .val (.int (1 : Int32)), .val (.int (1 : Int32)), .val (.int (0 : Int32)), .val (.int x0)]) rfl k) ?_
  show OGo p e below _ (T_6.setTop (mkF m 38 #[.val (.ref a1), .val (.int (1 : Int32)), .val (.ref a2), .val (.int (1 : Int32)), .val (.int (1 : Int32)), .val (.int (0 : Int32)), .val (.int x0)] []))
  refine OGo.to (fun _ k => XS.iinc X_6.here hx rfl (hb hby d9_38) rfl (l' := #[.val (.ref a1), .val (.int (1 : Int32)), .val (.ref a2), .val (.int (1 : Int32)), .val (.int (1 : Int32)), .val (.int (1 : Int32)), .val (.int x0)]) rfl k) ?_
  show OGo p e below _ (T_6.setTop (mkF m 41 #[.val (.ref a1), .val (.int (1 : Int32)), .val (.ref a2), .val (.int (1 : Int32)), .val (.int (1 : Int32)), .val (.int (1 : Int32)), .val (.int x0)] []))
  refine OGo.to (fun _ k => XS.goto X_6.here hx rfl (pc0 := 41) (pc' := 3) rfl (hb hby d9_41) (by decide) (by decide) k) ?_
  show OGo p e below _ (T_6.setTop (mkF m 3 #[.val (.ref a1), .val (.int (1 : Int32)), .val (.ref a2), .val (.int (1 : Int32)), .val (.int (1 : Int32)), .val (.int (1 : Int32)), .val (.int x0)] []))
  refine OGo.to (fun _ k => XS.iload X_6.here hx rfl (hb hby d9_3) rfl k) ?_
  show OGo p e below _ (T_6.setTop (mkF m 5 #[.val (.ref a1), .val (.int (1 : Int32)), .val (.ref a2), .val (.int (1 : Int32)), .val (.int (1 : Int32)), .val (.int (1 : Int32)), .val (.int x0)] [(.int (1 : Int32))]))
  refine OGo.to (fun _ k => XS.iload X_6.here hx rfl (hb hby d9_5) rfl k) ?_
  show OGo p e below _ (T_6.setTop (mkF m 7 #[.val (.ref a1), .val (.int (1 : Int32)), .val (.ref a2), .val (.int (1 : Int32)), .val (.int (1 : Int32)), .val (.int (1 : Int32)), .val (.int x0)] [(.int (1 : Int32)), (.int (1 : Int32))]))
  have hc7__9 : ¬ ((1 : Int32) < (1 : Int32)) := by decide
  refine OGo.to (fun _ k => XS.icmpYes X_6.here hx rfl (pc0 := 7) (pc' := 44) rfl (hb hby d9_7) rfl (flt hc7__9).2.1 (by decide) (by decide) k) ?_
  show OGo p e below _ (T_6.setTop (mkF m 44 #[.val (.ref a1), .val (.int (1 : Int32)), .val (.ref a2), .val (.int (1 : Int32)), .val (.int (1 : Int32)), .val (.int (1 : Int32)), .val (.int x0)] []))
  refine OGo.to (fun _ k => XS.iload X_6.here hx rfl (hb hby d9_44) rfl k) ?_
  show OGo p e below _ (T_6.setTop (mkF m 46 #[.val (.ref a1), .val (.int (1 : Int32)), .val (.ref a2), .val (.int (1 : Int32)), .val (.int (1 : Int32)), .val (.int (1 : Int32)), .val (.int x0)] [(.int (1 : Int32))]))
  refine OGo.ret (Q := Qcp1 Z a1 a2 kc x0 kb h0 n0) X_6 (some (.int (1 : Int32))) (fun h => by rw [Bd.returns] at h; cases h) Bd.notSynchronized (fun fs hr => retI X_6 hx Bd.returns (hb hby d9_46) hr) ?_ (by decide) (by decide)
  show Qcp1 Z a1 a2 kc x0 kb h0 n0 _ T_6.heap _
  rw [e_6]
  exact ⟨rfl, N_6, K_8, V_6⟩
theorem d8_0 : decode jdk_52_method_16_code 0 = .ok (.iload_n 2, 1) := by decide +kernel
theorem d8_1 : decode jdk_52_method_16_code 1 = .ok (.newarray .byte, 2) := by decide +kernel
theorem d8_3 : decode jdk_52_method_16_code 3 = .ok (.astore_n 3, 1) := by decide +kernel
theorem d8_4 : decode jdk_52_method_16_code 4 = .ok (.aload_n 0, 1) := by decide +kernel
theorem d8_5 : decode jdk_52_method_16_code 5 = .ok (.iload_n 1, 1) := by decide +kernel
theorem d8_6 : decode jdk_52_method_16_code 6 = .ok (.aload_n 3, 1) := by decide +kernel
theorem d8_7 : decode jdk_52_method_16_code 7 = .ok (.iconst 0, 1) := by decide +kernel
theorem d8_8 : decode jdk_52_method_16_code 8 = .ok (.iload_n 2, 1) := by decide +kernel
theorem d8_9 : decode jdk_52_method_16_code 9 = .ok (.invokestatic 115, 3) := by decide +kernel
theorem d8_12 : decode jdk_52_method_16_code 12 = .ok (.istore 4, 2) := by decide +kernel
theorem d8_14 : decode jdk_52_method_16_code 14 = .ok (.iload 4, 2) := by decide +kernel
theorem d8_16 : decode jdk_52_method_16_code 16 = .ok (.iload_n 2, 1) := by decide +kernel
theorem d8_17 : decode jdk_52_method_16_code 17 = .ok (.if_icmp .eq 40, 3) := by decide +kernel
theorem d8_57 : decode jdk_52_method_16_code 57 = .ok (.aload_n 3, 1) := by decide +kernel
theorem d8_58 : decode jdk_52_method_16_code 58 = .ok (.areturn, 1) := by decide +kernel
theorem ef_cq1 (m : MethodId) (x0 : Addr) (x1 : Int32) (x2 : Int32) : entryFrame m #[(.ref x0), (.int x1), (.int x2)] 6 = mkF m 0 #[.val (.ref x0), .val (.int x1), .val (.int x2), .unset, .unset, .unset] [] := by first | (simp [entryFrame, mkF, argsToLocals, Value.category]; done) | rfl
def Qcq1 (Z : State) (a1 : Addr) (kc : ClassId) (x0 : Int32) (h0 : Heap) (n0 : Nat) (v : Option Value) (h : Heap) (L : List Loc) : Prop := ∃ (b : Addr), ∃ (kb : ClassId), v = some (.ref b) ∧ Fr n0 L ∧ Keep h0 h [] ∧ n0 ≤ b ∧ h0.size ≤ b ∧ Arv Z h b kb .byte (1 : Int32) [(.int ((x0.toInt8.toInt32)).toInt8.toInt32)] (.int (0 : Int32))
set_option maxRecDepth 65536 in
set_option maxHeartbeats 40000000 in
theorem rmcq1 (l : Launch) (Z : State) (a0 : Array Value) (hw : ∀ d ∈ tables_1, d.before a0 Z = true) (ws : List Jvm.Cond) (a1 : Addr) (kc : ClassId) (x0 : Int32) (h0 : Heap) (n0 : Nat) (Z0 : n0 ≤ h0.size) (VA : Arv Z h0 a1 kc .char (1 : Int32) [(.int x0)] (.int (0 : Int32))) (hx0 : ¬ ((255 : Int32) < x0)) :
    MetFree l (⟨"java/lang/StringUTF16", "compress", "([CII)[B"⟩ : MethodName) (head1 (Jvm.Cond.code (⟨"java/lang/StringUTF16", "compress", "([CII)[B"⟩ : MethodName) jdk_52_method_16_code 6 (some (.array .byte)) :: ws) ({ frames := 1, cells := 1, slots := 1, locals := 18 } : Room)) (fun a U => a = #[(.ref a1), (.int (0 : Int32)), (.int (1 : Int32))] ∧ Z.Warmed39 U.vm ∧ U.heap = h0) (fun _ _ _ _ _ => True) (fun _ U o U' => ∃ v L, o = .returned v ∧ Qcq1 Z a1 kc x0 h0 n0 v U'.heap L ∧ FrameEnd U o U' L ({ frames := 1, cells := 1, slots := 1, locals := 18 } : Room).cells ({ frames := 1, cells := 1, slots := 1, locals := 18 } : Room).slots) := by
  refine MetFree.of_bodySF (plainFor_of_name pn_0) hisR ?_
  intro p e s m args below meth c s₁ Bd hml0 hP hK
  obtain ⟨rfl, hZ, hh⟩ := hP
  have hx := Bd.exec
  have hby := Bd.bytes
  have hml : c.maxLocals = 6 := hml0
  have hown : s.vm.findClass "java/lang/StringUTF16" = some m.cls := findClass_of_methodNamed Bd.named
  have hnm := (name_of_methodNamed Bd.named Bd.method).1
  have X0 : Stand p l e ({ frames := 1, cells := 1, slots := 1, locals := 18 } : Room) s m #[(.ref a1), (.int (0 : Int32)), (.int (1 : Int32))] below meth c s₁ [] 0 0 := Stand.of_body Bd
  have e0 : s₁.heap = h0 := by rw [← hh, Bd.state]; rfl
  have N0 := Fr.nil n0
  show OGo p e below (fun s₂ o => ∃ v L, o = .returned v ∧ Qcq1 Z a1 kc x0 h0 n0 v s₂.heap L ∧ FrameEnd s o s₂ L ({ frames := 1, cells := 1, slots := 1, locals := 18 } : Room).cells ({ frames := 1, cells := 1, slots := 1, locals := 18 } : Room).slots) _
  refine OGo.to (fun _ k => castTop (ef_cq1 m a1 (0 : Int32) (1 : Int32)) k) ?_
  refine OGo.to (fun _ k => XS.iloadN X0.here hx rfl (hb hby d8_0) rfl k) ?_
  show OGo p e below _ (s₁.setTop (mkF m 1 #[.val (.ref a1), .val (.int (0 : Int32)), .val (.int (1 : Int32)), .unset, .unset, .unset] [(.int (1 : Int32))]))
  obtain ⟨T_1, h_1, k_1, X_1, e_1, E_1, A_1, st_1⟩ := newP X0 hx hZ (hw _ (List.mem_of_getElem? (i := 15) rfl)) e0 (g := (mkF m 1 #[.val (.ref a1), .val (.int (0 : Int32)), .val (.int (1 : Int32)), .unset, .unset, .unset] [(.int (1 : Int32))])) rfl (hb hby d8_1) rfl (by decide) (cap := 1) (by decide) (by decide) (by decide) (by decide)
  obtain ⟨b_1, g_1⟩ : ∃ z, z = h0.size := ⟨_, rfl⟩
  rw [← g_1] at A_1 st_1
  have g_b_1 : n0 ≤ b_1 := Nat.le_trans Z0 (Nat.le_of_eq g_1.symm)
  have sz_b_1 : h0.size ≤ b_1 := Nat.le_trans (Keep.refl h0 []).1 (Nat.le_of_eq g_1.symm)
  refine OGo.to st_1 ?_
  have ne_a1_b_1 : a1 ≠ b_1 := Nat.ne_of_lt (Nat.lt_of_lt_of_le VA.lt (Nat.le_of_eq g_1.symm))
  have z_2 : n0 ≤ h_1.size := Nat.le_trans Z0 E_1.1
  have K_3 : Keep h0 h_1 [] := (Keep.refl h0 []).ext E_1
  have V_1 : Arv Z h_1 b_1 k_1 .byte (1 : Int32) [(.int (0 : Int32))] (.int (0 : Int32)) := (Arv.new A_1 (by decide)).pad (pad_rep [] (.int (0 : Int32)) 1)
  show OGo p e below _ (T_1.setTop (mkF m 3 #[.val (.ref a1), .val (.int (0 : Int32)), .val (.int (1 : Int32)), .unset, .unset, .unset] [(.ref b_1)]))
  refine OGo.to (fun _ k => XS.astoreN X_1.here hx rfl (hb hby d8_3) rfl rfl (l' := #[.val (.ref a1), .val (.int (0 : Int32)), .val (.int (1 : Int32)), .val (.ref b_1), .unset, .unset]) rfl k) ?_
  show OGo p e below _ (T_1.setTop (mkF m 4 #[.val (.ref a1), .val (.int (0 : Int32)), .val (.int (1 : Int32)), .val (.ref b_1), .unset, .unset] []))
  refine OGo.to (fun _ k => XS.aloadN X_1.here hx rfl (hb hby d8_4) rfl rfl k) ?_
  show OGo p e below _ (T_1.setTop (mkF m 5 #[.val (.ref a1), .val (.int (0 : Int32)), .val (.int (1 : Int32)), .val (.ref b_1), .unset, .unset] [(.ref a1)]))
  refine OGo.to (fun _ k => XS.iloadN X_1.here hx rfl (hb hby d8_5) rfl k) ?_
  show OGo p e below _ (T_1.setTop (mkF m 6 #[.val (.ref a1), .val (.int (0 : Int32)), .val (.int (1 : Int32)), .val (.ref b_1), .unset, .unset] [(.int (0 : Int32)), (.ref a1)]))
  refine OGo.to (fun _ k => XS.aloadN X_1.here hx rfl (hb hby d8_6) rfl rfl k) ?_
  show OGo p e below _ (T_1.setTop (mkF m 7 #[.val (.ref a1), .val (.int (0 : Int32)), .val (.int (1 : Int32)), .val (.ref b_1), .unset, .unset] [(.ref b_1), (.int (0 : Int32)), (.ref a1)]))
  refine OGo.to (fun _ k => XS.iconst X_1.here hx rfl (hb hby d8_7) k) ?_
  show OGo p e below _ (T_1.setTop (mkF m 8 #[.val (.ref a1), .val (.int (0 : Int32)), .val (.int (1 : Int32)), .val (.ref b_1), .unset, .unset] [(.int (0 : Int32)), (.ref b_1), (.int (0 : Int32)), (.ref a1)]))
  refine OGo.to (fun _ k => XS.iloadN X_1.here hx rfl (hb hby d8_8) rfl k) ?_
  show OGo p e below _ (T_1.setTop (mkF m 9 #[.val (.ref a1), .val (.int (0 : Int32)), .val (.int (1 : Int32)), .val (.ref b_1), .unset, .unset] [(.int (1 : Int32)), (.int (0 : Int32)), (.ref b_1), (.int (0 : Int32)), (.ref a1)]))
  have f_5 : Arv Z h_1 a1 kc .char (1 : Int32) [(.int x0)] (.int (0 : Int32)) := (VA.ext E_1)
  obtain ⟨_, T_4, Lc_4, X_4, hQ_4, st_4⟩ := own_un X_1 (Q := Qcp1 Z a1 b_1 kc x0 k_1 h_1 n0) (rc := 0) (rs := 0) (W := fun v B => ∀ target, Steps p.tables e below (B.setTop { (mkF m 9 #[.val (.ref a1), .val (.int (0 : Int32)), .val (.int (1 : Int32)), .val (.ref b_1), .unset, .unset] [(.int (1 : Int32)), (.int (0 : Int32)), (.ref b_1), (.int (0 : Int32)), (.ref a1)]) with pc := 12, stack := v.toList ++ [] }) target → Steps p.tables e below (T_1.setTop (mkF m 9 #[.val (.ref a1), .val (.int (0 : Int32)), .val (.int (1 : Int32)), .val (.ref b_1), .unset, .unset] [(.int (1 : Int32)), (.int (0 : Int32)), (.ref b_1), (.int (0 : Int32)), (.ref a1)])) target) <| Jvm.LawKit.callS X_1 hx (y := (⟨"java/lang/StringUTF16", "compress", "([CI[BII)I"⟩ : MethodName)) hown (mvT hZ (hw _ (List.mem_of_getElem? (i := 41) rfl))) (mvT hZ (hw _ (List.mem_of_getElem? (i := 42) rfl))) (mvT hZ (hw _ (List.mem_of_getElem? (i := 39) rfl))) (mvT hZ (hw _ (List.mem_of_getElem? (i := 43) rfl))) (by decide) (backOf (W := 0) (rmcp1 l Z a0 hw [] a1 b_1 kc x0 k_1 h_1 n0 z_2 f_5 V_1 ne_a1_b_1 g_b_1 (hx0)) hZ (hw _ (List.mem_of_getElem? (i := 43) rfl)) (hw _ (List.mem_of_getElem? (i := 39) rfl)) (by decide) (by decide)) (g := (mkF m 9 #[.val (.ref a1), .val (.int (0 : Int32)), .val (.int (1 : Int32)), .val (.ref b_1), .unset, .unset] [(.int (1 : Int32)), (.int (0 : Int32)), (.ref b_1), (.int (0 : Int32)), (.ref a1)])) rfl (by rw [hml]; rfl) (argsL := [(.ref a1), (.int (0 : Int32)), (.ref b_1), (.int (0 : Int32)), (.int (1 : Int32))]) (rest := []) (lenOf pd_0 rfl) rfl (by show 2 * 0 + _ ≤ _; exact Nat.le_of_eq rfl) (hb hby d8_9) (fun _ _ => ⟨rfl, e_1, (by decide : 1 + 0 ≤ _), (by decide : 1 + 0 ≤ _)⟩)
  obtain ⟨rfl, N_4q, K_4, p_4_0⟩ := hQ_4
  have N_4 := Fr.app N0 N_4q
  refine OGo.to st_4 ?_
  have z_6 : n0 ≤ T_4.heap.size := Nat.le_trans z_2 K_4.1
  have K_7 : Keep h0 T_4.heap [] := K_3.trans K_4 (by intro x hx'; cases List.mem_singleton.mp hx'; exact (Or.inr sz_b_1))
  show OGo p e below _ (T_4.setTop (mkF m 12 #[.val (.ref a1), .val (.int (0 : Int32)), .val (.int (1 : Int32)), .val (.ref b_1), .unset, .unset] [(.int (1 : Int32))]))
  refine OGo.to (fun _ k => XS.istore X_4.here hx rfl (hb hby d8_12) rfl (l' := #[.val (.ref a1), .val (.int (0 : Int32)), .val (.int (1 : Int32)), .val (.ref b_1), .val (.int (1 : Int32)), .unset]) rfl k) ?_
  show OGo p e below _ (T_4.setTop (mkF m 14 #[.val (.ref a1), .val (.int (0 : Int32)), .val (.int (1 : Int32)), .val (.ref b_1), .val (.int (1 : Int32)), .unset] []))
  refine OGo.to (fun _ k => XS.iload X_4.here hx rfl (hb hby d8_14) rfl k) ?_
  show OGo p e below _ (T_4.setTop (mkF m 16 #[.val (.ref a1), .val (.int (0 : Int32)), .val (.int (1 : Int32)), .val (.ref b_1), .val (.int (1 : Int32)), .unset] [(.int (1 : Int32))]))
  refine OGo.to (fun _ k => XS.iloadN X_4.here hx rfl (hb hby d8_16) rfl k) ?_
  show OGo p e below _ (T_4.setTop (mkF m 17 #[.val (.ref a1), .val (.int (0 : Int32)), .val (.int (1 : Int32)), .val (.ref b_1), .val (.int (1 : Int32)), .unset] [(.int (1 : Int32)), (.int (1 : Int32))]))
  have hc17__8 : (1 : Int32) = (1 : Int32) := by decide
  refine OGo.to (fun _ k => XS.icmpYes X_4.here hx rfl (pc0 := 17) (pc' := 57) rfl (hb hby d8_17) rfl (teq hc17__8).1 (by decide) (by decide) k) ?_
  show OGo p e below _ (T_4.setTop (mkF m 57 #[.val (.ref a1), .val (.int (0 : Int32)), .val (.int (1 : Int32)), .val (.ref b_1), .val (.int (1 : Int32)), .unset] []))
  refine OGo.to (fun _ k => XS.aloadN X_4.here hx rfl (hb hby d8_57) rfl rfl k) ?_
  show OGo p e below _ (T_4.setTop (mkF m 58 #[.val (.ref a1), .val (.int (0 : Int32)), .val (.int (1 : Int32)), .val (.ref b_1), .val (.int (1 : Int32)), .unset] [(.ref b_1)]))
  refine OGo.ret (Q := Qcq1 Z a1 kc x0 h0 n0) X_4 (some (.ref b_1)) (fun h => by rw [Bd.returns] at h; cases h) Bd.notSynchronized (fun fs hr => own_retA X_4 hx Bd.returns rfl rfl (hb hby d8_58) hr) ?_ (by decide) (by decide)
  show Qcq1 Z a1 kc x0 h0 n0 _ T_4.heap _
  exact ⟨b_1, k_1, rfl, N_4, K_7, g_b_1, sz_b_1, p_4_0⟩
theorem d10_0 : decode jdk_52_method_15_code 0 = .ok (.iload_n 1, 1) := by decide +kernel
theorem d10_1 : decode jdk_52_method_15_code 1 = .ok (.aload_n 0, 1) := by decide +kernel
theorem d10_2 : decode jdk_52_method_15_code 2 = .ok (.arraylength, 1) := by decide +kernel
theorem d10_3 : decode jdk_52_method_15_code 3 = .ok (.isub, 1) := by decide +kernel
theorem d10_4 : decode jdk_52_method_15_code 4 = .ok (.bipush 31, 2) := by decide +kernel
theorem d10_6 : decode jdk_52_method_15_code 6 = .ok (.iushr, 1) := by decide +kernel
theorem d10_7 : decode jdk_52_method_15_code 7 = .ok (.i2b, 1) := by decide +kernel
theorem d10_8 : decode jdk_52_method_15_code 8 = .ok (.ireturn, 1) := by decide +kernel
theorem ef_cl1 (m : MethodId) (x0 : Addr) (x1 : Int32) : entryFrame m #[(.ref x0), (.int x1)] 2 = mkF m 0 #[.val (.ref x0), .val (.int x1)] [] := by first | (simp [entryFrame, mkF, argsToLocals, Value.category]; done) | rfl
def Qcl1 (Z : State) (a1 : Addr) (kb : ClassId) (y0 : Int32) (h0 : Heap) (n0 : Nat) (v : Option Value) (h : Heap) (L : List Loc) : Prop := v = some (.int (0 : Int32)) ∧ Fr n0 L ∧ h = h0
set_option maxRecDepth 65536 in
set_option maxHeartbeats 40000000 in
theorem rmcl1 (l : Launch) (Z : State) (a0 : Array Value) (hw : ∀ d ∈ tables_1, d.before a0 Z = true) (ws : List Jvm.Cond) (a1 : Addr) (kb : ClassId) (y0 : Int32) (h0 : Heap) (n0 : Nat) (Z0 : n0 ≤ h0.size) (VB : Arv Z h0 a1 kb .byte (1 : Int32) [(.int y0)] (.int (0 : Int32))) :
    MetFree l (⟨"java/lang/StringUTF16", "coderFromArrayLen", "([BI)B"⟩ : MethodName) (head1 (Jvm.Cond.code (⟨"java/lang/StringUTF16", "coderFromArrayLen", "([BI)B"⟩ : MethodName) jdk_52_method_15_code 2 (some .byte) :: ws) ({ frames := 0, cells := 0, slots := 0, locals := 0 } : Room)) (fun a U => a = #[(.ref a1), (.int (1 : Int32))] ∧ Z.Warmed39 U.vm ∧ U.heap = h0) (fun _ _ _ _ _ => True) (fun _ U o U' => ∃ v L, o = .returned v ∧ Qcl1 Z a1 kb y0 h0 n0 v U'.heap L ∧ FrameEnd U o U' L ({ frames := 0, cells := 0, slots := 0, locals := 0 } : Room).cells ({ frames := 0, cells := 0, slots := 0, locals := 0 } : Room).slots) := by
  refine MetFree.of_bodySF (plainFor_of_name pn_0) hisR ?_
  intro p e s m args below meth c s₁ Bd hml0 hP hK
  obtain ⟨rfl, hZ, hh⟩ := hP
  have hx := Bd.exec
  have hby := Bd.bytes
  have hml : c.maxLocals = 2 := hml0
  have hown : s.vm.findClass "java/lang/StringUTF16" = some m.cls := findClass_of_methodNamed Bd.named
  have hnm := (name_of_methodNamed Bd.named Bd.method).1
  have X0 : Stand p l e ({ frames := 0, cells := 0, slots := 0, locals := 0 } : Room) s m #[(.ref a1), (.int (1 : Int32))] below meth c s₁ [] 0 0 := Stand.of_body Bd
  have e0 : s₁.heap = h0 := by rw [← hh, Bd.state]; rfl
  have N0 := Fr.nil n0
  show OGo p e below (fun s₂ o => ∃ v L, o = .returned v ∧ Qcl1 Z a1 kb y0 h0 n0 v s₂.heap L ∧ FrameEnd s o s₂ L ({ frames := 0, cells := 0, slots := 0, locals := 0 } : Room).cells ({ frames := 0, cells := 0, slots := 0, locals := 0 } : Room).slots) _
  refine OGo.to (fun _ k => castTop (ef_cl1 m a1 (1 : Int32)) k) ?_
  refine OGo.to (fun _ k => XS.iloadN X0.here hx rfl (hb hby d10_0) rfl k) ?_
  show OGo p e below _ (s₁.setTop (mkF m 1 #[.val (.ref a1), .val (.int (1 : Int32))] [(.int (1 : Int32))]))
  refine OGo.to (fun _ k => XS.aloadN X0.here hx rfl (hb hby d10_1) rfl rfl k) ?_
  show OGo p e below _ (s₁.setTop (mkF m 2 #[.val (.ref a1), .val (.int (1 : Int32))] [(.ref a1), (.int (1 : Int32))]))
  have Vq_1 := VB
  obtain ⟨cl_1, Ar_1, q_1, S_1, M_1, Hs_1, G_1⟩ := Vq_1
  refine OGo.to (fun _ k => X0.arraylength hx (by rw [e0]; exact Ar_1.1) (State.isArrayOf_alike hZ.alike Ar_1.2.1) (g := (mkF m 2 #[.val (.ref a1), .val (.int (1 : Int32))] [(.ref a1), (.int (1 : Int32))])) rfl rfl (hb hby d10_2) _ k) ?_
  rw [len_of S_1 M_1]
  show OGo p e below _ (s₁.setTop (mkF m 3 #[.val (.ref a1), .val (.int (1 : Int32))] [(.int (1 : Int32)), (.int (1 : Int32))]))
  refine OGo.to (fun _ k => XS.isub X0.here hx rfl (hb hby d10_3) rfl k) ?_
  show OGo p e below _ (s₁.setTop (mkF m 4 #[.val (.ref a1), .val (.int (1 : Int32))] [(.int (0 : Int32))]))
  refine OGo.to (fun _ k => XS.bipush X0.here hx rfl (hb hby d10_4) k) ?_
  show OGo p e below _ (s₁.setTop (mkF m 6 #[.val (.ref a1), .val (.int (1 : Int32))] [(.int (31 : Int32)), (.int (0 : Int32))]))
  refine OGo.to (fun _ k => XS.iushr X0.here hx rfl (hb hby d10_6) rfl k) ?_
  show OGo p e below _ (s₁.setTop (mkF m 7 #[.val (.ref a1), .val (.int (1 : Int32))] [(.int (0 : Int32))]))
  refine OGo.to (fun _ k => XS.i2b X0.here hx rfl (hb hby d10_7) rfl k) ?_
  show OGo p e below _ (s₁.setTop (mkF m 8 #[.val (.ref a1), .val (.int (1 : Int32))] [(.int (0 : Int32))]))
  refine OGo.ret (Q := Qcl1 Z a1 kb y0 h0 n0) X0 (some (.int (0 : Int32))) (fun h => by rw [Bd.returns] at h; cases h) Bd.notSynchronized (fun fs hr => retN X0 hx (t := .byte) (z := (0 : Int32)) Bd.returns (by simp) (hb hby d10_8) hr) ?_ (by decide) (by decide)
  show Qcl1 Z a1 kb y0 h0 n0 _ s₁.heap _
  rw [e0]
  exact ⟨rfl, N0, rfl⟩
theorem d7_0 : decode jdk_42_method_149_code 0 = .ok (.aload_n 0, 1) := by decide +kernel
theorem d7_1 : decode jdk_42_method_149_code 1 = .ok (.invokespecial 1, 3) := by decide +kernel
theorem d7_4 : decode jdk_42_method_149_code 4 = .ok (.iload_n 3, 1) := by decide +kernel
theorem d7_5 : decode jdk_42_method_149_code 5 = .ok (.ifCond .ne 22, 3) := by decide +kernel
theorem d7_27 : decode jdk_42_method_149_code 27 = .ok (.getstatic 38, 3) := by decide +kernel
theorem d7_30 : decode jdk_42_method_149_code 30 = .ok (.ifCond .eq 28, 3) := by decide +kernel
theorem d7_33 : decode jdk_42_method_149_code 33 = .ok (.aload_n 1, 1) := by decide +kernel
theorem d7_34 : decode jdk_42_method_149_code 34 = .ok (.iload_n 2, 1) := by decide +kernel
theorem d7_35 : decode jdk_42_method_149_code 35 = .ok (.iload_n 3, 1) := by decide +kernel
theorem d7_36 : decode jdk_42_method_149_code 36 = .ok (.invokestatic 177, 3) := by decide +kernel
theorem d7_39 : decode jdk_42_method_149_code 39 = .ok (.astore 5, 2) := by decide +kernel
theorem d7_41 : decode jdk_42_method_149_code 41 = .ok (.aload_n 0, 1) := by decide +kernel
theorem d7_42 : decode jdk_42_method_149_code 42 = .ok (.aload 5, 2) := by decide +kernel
theorem d7_44 : decode jdk_42_method_149_code 44 = .ok (.iload_n 3, 1) := by decide +kernel
theorem d7_45 : decode jdk_42_method_149_code 45 = .ok (.invokestatic 47, 3) := by decide +kernel
theorem d7_48 : decode jdk_42_method_149_code 48 = .ok (.putfield 15, 3) := by decide +kernel
theorem d7_51 : decode jdk_42_method_149_code 51 = .ok (.aload_n 0, 1) := by decide +kernel
theorem d7_52 : decode jdk_42_method_149_code 52 = .ok (.aload 5, 2) := by decide +kernel
theorem d7_54 : decode jdk_42_method_149_code 54 = .ok (.putfield 9, 3) := by decide +kernel
theorem d7_57 : decode jdk_42_method_149_code 57 = .ok (.return_, 1) := by decide +kernel
theorem ef_si1 (m : MethodId) (x0 : Addr) (x1 : Addr) (x2 : Int32) (x3 : Int32) : entryFrame m #[(.ref x0), (.ref x1), (.int x2), (.int x3), .null] 6 = mkF m 0 #[.val (.ref x0), .val (.ref x1), .val (.int x2), .val (.int x3), .val .null, .unset] [] := by first | (simp [entryFrame, mkF, argsToLocals, Value.category]; done) | rfl
def Qsi1 (Z : State) (a1 : Addr) (a2 : Addr) (kc : ClassId) (x0 : Int32) (cs : Int32) (h0 : Heap) (n0 : Nat) (v : Option Value) (h : Heap) (L : List Loc) : Prop := ∃ (b : Addr), ∃ (kb : ClassId), v = none ∧ Fr n0 L ∧ Keep h0 h [a1] ∧ n0 ≤ b ∧ h0.size ≤ b ∧ Fld Z h a1 "java/lang/String" "value" "[B" (.ref b) ∧ Fld Z h a1 "java/lang/String" "coder" "B" (.int (0 : Int32)) ∧ Arv Z h b kb .byte (1 : Int32) [(.int ((x0.toInt8.toInt32)).toInt8.toInt32)] (.int (0 : Int32))
set_option maxRecDepth 65536 in
set_option maxHeartbeats 40000000 in
theorem rmsi1 (l : Launch) (Z : State) (a0 : Array Value) (hw : ∀ d ∈ tables_1, d.before a0 Z = true) (ws : List Jvm.Cond) (a1 : Addr) (a2 : Addr) (kc : ClassId) (x0 : Int32) (cs : Int32) (h0 : Heap) (n0 : Nat) (Z0 : n0 ≤ h0.size) (E1 : Exa Z h0 a1 "java/lang/String") (F1 : Fld Z h0 a1 "java/lang/String" "value" "[B" .null) (F2 : Fld Z h0 a1 "java/lang/String" "coder" "B" (.int (0 : Int32))) (g1 : n0 ≤ a1) (VA : Arv Z h0 a2 kc .char (1 : Int32) [(.int x0)] (.int (0 : Int32))) (n12 : a1 ≠ a2) (SC : Sta Z Z.heap "java/lang/String" "COMPACT_STRINGS" "Z" (.int cs)) (O0 : Old Z n0 h0) (hcs : ¬ (cs = (0 : Int32))) (hx0 : ¬ ((255 : Int32) < x0)) :
    MetFree l (⟨"java/lang/String", "<init>", "([CIILjava/lang/Void;)V"⟩ : MethodName) (head1 (Jvm.Cond.code (⟨"java/lang/String", "<init>", "([CIILjava/lang/Void;)V"⟩ : MethodName) jdk_42_method_149_code 6 none :: ws) ({ frames := 2, cells := 1, slots := 1, locals := 35 } : Room)) (fun a U => a = #[(.ref a1), (.ref a2), (.int (0 : Int32)), (.int (1 : Int32)), .null] ∧ Z.Warmed39 U.vm ∧ U.heap = h0) (fun _ _ _ _ _ => True) (fun _ U o U' => ∃ v L, o = .returned v ∧ Qsi1 Z a1 a2 kc x0 cs h0 n0 v U'.heap L ∧ FrameEnd U o U' L ({ frames := 2, cells := 1, slots := 1, locals := 35 } : Room).cells ({ frames := 2, cells := 1, slots := 1, locals := 35 } : Room).slots) := by
  refine MetFree.of_bodySF (plainFor_of_name pn_1) hisR ?_
  intro p e s m args below meth c s₁ Bd hml0 hP hK
  obtain ⟨rfl, hZ, hh⟩ := hP
  have hx := Bd.exec
  have hby := Bd.bytes
  have hml : c.maxLocals = 6 := hml0
  have hown : s.vm.findClass "java/lang/String" = some m.cls := findClass_of_methodNamed Bd.named
  have hnm := (name_of_methodNamed Bd.named Bd.method).1
  have X0 : Stand p l e ({ frames := 2, cells := 1, slots := 1, locals := 35 } : Room) s m #[(.ref a1), (.ref a2), (.int (0 : Int32)), (.int (1 : Int32)), .null] below meth c s₁ [] 0 0 := Stand.of_body Bd
  have e0 : s₁.heap = h0 := by rw [← hh, Bd.state]; rfl
  have N0 := Fr.nil n0
  show OGo p e below (fun s₂ o => ∃ v L, o = .returned v ∧ Qsi1 Z a1 a2 kc x0 cs h0 n0 v s₂.heap L ∧ FrameEnd s o s₂ L ({ frames := 2, cells := 1, slots := 1, locals := 35 } : Room).cells ({ frames := 2, cells := 1, slots := 1, locals := 35 } : Room).slots) _
  refine OGo.to (fun _ k => castTop (ef_si1 m a1 a2 (0 : Int32) (1 : Int32)) k) ?_
  refine OGo.to (fun _ k => XS.aloadN X0.here hx rfl (hb hby d7_0) rfl rfl k) ?_
  show OGo p e below _ (s₁.setTop (mkF m 1 #[.val (.ref a1), .val (.ref a2), .val (.int (0 : Int32)), .val (.int (1 : Int32)), .val .null, .unset] [(.ref a1)]))
  obtain ⟨T_1, X_1, e_1, st_1⟩ := initO X0 hx hZ hown (hw _ (List.mem_of_getElem? (i := 20) rfl)) (hw _ (List.mem_of_getElem? (i := 21) rfl)) (hw _ (List.mem_of_getElem? (i := 22) rfl)) e0 (g := (mkF m 1 #[.val (.ref a1), .val (.ref a2), .val (.int (0 : Int32)), .val (.int (1 : Int32)), .val .null, .unset] [(.ref a1)])) rfl (by rw [hml]; rfl) rfl (hb hby d7_1) (by decide) (W := 0) (by show 2 * 0 + _ ≤ _; exact Nat.le_of_eq rfl) (by decide)
  refine OGo.to st_1 ?_
  show OGo p e below _ (T_1.setTop (mkF m 4 #[.val (.ref a1), .val (.ref a2), .val (.int (0 : Int32)), .val (.int (1 : Int32)), .val .null, .unset] []))
  refine OGo.to (fun _ k => XS.iloadN X_1.here hx rfl (hb hby d7_4) rfl k) ?_
  show OGo p e below _ (T_1.setTop (mkF m 5 #[.val (.ref a1), .val (.ref a2), .val (.int (0 : Int32)), .val (.int (1 : Int32)), .val .null, .unset] [(.int (1 : Int32))]))
  have hc5__2 : ¬ ((1 : Int32) = (0 : Int32)) := by decide
  refine OGo.to (fun _ k => XS.ifYes X_1.here hx rfl (pc0 := 5) (pc' := 27) rfl (hb hby d7_5) rfl ((if0 _ _).trans (feq hc5__2).2) (by decide) (by decide) k) ?_
  show OGo p e below _ (T_1.setTop (mkF m 27 #[.val (.ref a1), .val (.ref a2), .val (.int (0 : Int32)), .val (.int (1 : Int32)), .val .null, .unset] []))
  have f_3 : Sta Z h0 "java/lang/String" "COMPACT_STRINGS" "Z" (.int cs) := Sta.ext O0.2 SC
  obtain ⟨T_4, X_4, e_4, st_4⟩ := getS2 X_1 hx hZ hown (host := "") (Or.inl (hw _ (List.mem_of_getElem? (i := 5) rfl))) Via.refl e_1 f_3 (g := (mkF m 27 #[.val (.ref a1), .val (.ref a2), .val (.int (0 : Int32)), .val (.int (1 : Int32)), .val .null, .unset] [])) rfl (hb hby d7_27)
  refine OGo.to st_4 ?_
  show OGo p e below _ (T_4.setTop (mkF m 30 #[.val (.ref a1), .val (.ref a2), .val (.int (0 : Int32)), .val (.int (1 : Int32)), .val .null, .unset] [(.int cs)]))
  refine OGo.to (fun _ k => XS.ifNo X_4.here hx rfl (hb hby d7_30) rfl ((if0 _ _).trans (feq hcs).1) k) ?_
  show OGo p e below _ (T_4.setTop (mkF m 33 #[.val (.ref a1), .val (.ref a2), .val (.int (0 : Int32)), .val (.int (1 : Int32)), .val .null, .unset] []))
  refine OGo.to (fun _ k => XS.aloadN X_4.here hx rfl (hb hby d7_33) rfl rfl k) ?_
  show OGo p e below _ (T_4.setTop (mkF m 34 #[.val (.ref a1), .val (.ref a2), .val (.int (0 : Int32)), .val (.int (1 : Int32)), .val .null, .unset] [(.ref a2)]))
  refine OGo.to (fun _ k => XS.iloadN X_4.here hx rfl (hb hby d7_34) rfl k) ?_
  show OGo p e below _ (T_4.setTop (mkF m 35 #[.val (.ref a1), .val (.ref a2), .val (.int (0 : Int32)), .val (.int (1 : Int32)), .val .null, .unset] [(.int (0 : Int32)), (.ref a2)]))
  refine OGo.to (fun _ k => XS.iloadN X_4.here hx rfl (hb hby d7_35) rfl k) ?_
  show OGo p e below _ (T_4.setTop (mkF m 36 #[.val (.ref a1), .val (.ref a2), .val (.int (0 : Int32)), .val (.int (1 : Int32)), .val .null, .unset] [(.int (1 : Int32)), (.int (0 : Int32)), (.ref a2)]))
  obtain ⟨_, T_6, Lc_6, X_6, hQ_6, st_6⟩ := own_un X_4 (Q := Qcq1 Z a2 kc x0 h0 n0) (rc := 1) (rs := 1) (W := fun v B => ∀ target, Steps p.tables e below (B.setTop { (mkF m 36 #[.val (.ref a1), .val (.ref a2), .val (.int (0 : Int32)), .val (.int (1 : Int32)), .val .null, .unset] [(.int (1 : Int32)), (.int (0 : Int32)), (.ref a2)]) with pc := 39, stack := v.toList ++ [] }) target → Steps p.tables e below (T_4.setTop (mkF m 36 #[.val (.ref a1), .val (.ref a2), .val (.int (0 : Int32)), .val (.int (1 : Int32)), .val .null, .unset] [(.int (1 : Int32)), (.int (0 : Int32)), (.ref a2)])) target) <| Jvm.LawKit.callS X_4 hx (y := (⟨"java/lang/StringUTF16", "compress", "([CII)[B"⟩ : MethodName)) hown (mvT hZ (hw _ (List.mem_of_getElem? (i := 37) rfl))) (mvT hZ (hw _ (List.mem_of_getElem? (i := 38) rfl))) (mvT hZ (hw _ (List.mem_of_getElem? (i := 39) rfl))) (mvT hZ (hw _ (List.mem_of_getElem? (i := 40) rfl))) (by decide) (backOf (W := 0) (rmcq1 l Z a0 hw [] a2 kc x0 h0 n0 Z0 VA (hx0)) hZ (hw _ (List.mem_of_getElem? (i := 40) rfl)) (hw _ (List.mem_of_getElem? (i := 39) rfl)) (by decide) (by decide)) (g := (mkF m 36 #[.val (.ref a1), .val (.ref a2), .val (.int (0 : Int32)), .val (.int (1 : Int32)), .val .null, .unset] [(.int (1 : Int32)), (.int (0 : Int32)), (.ref a2)])) rfl (by rw [hml]; rfl) (argsL := [(.ref a2), (.int (0 : Int32)), (.int (1 : Int32))]) (rest := []) (lenOf pd_1 rfl) rfl (by show 2 * 0 + _ ≤ _; exact Nat.le_of_eq rfl) (hb hby d7_36) (fun _ _ => ⟨rfl, e_4, (by decide : 0 + 1 ≤ _), (by decide : 0 + 1 ≤ _)⟩)
  obtain ⟨b__6, kb__6, rfl, N_6q, K_6, gq_b__6, sq_b__6, p_6_0⟩ := hQ_6
  have N_6 := Fr.app N0 N_6q
  refine OGo.to st_6 ?_
  have ne_a1_b__6 : a1 ≠ b__6 := Nat.ne_of_lt (Nat.lt_of_lt_of_le E1.lt sq_b__6)
  have ne_a2_b__6 : a2 ≠ b__6 := Nat.ne_of_lt (Nat.lt_of_lt_of_le VA.lt sq_b__6)
  have sz_b__6 : h0.size ≤ b__6 := Nat.le_trans (Keep.refl h0 [a1]).1 sq_b__6
  have z_7 : n0 ≤ T_6.heap.size := Nat.le_trans Z0 K_6.1
  have O_8 : Old Z n0 T_6.heap := O0.keep K_6 all0
  have K_9 : Keep h0 T_6.heap [a1] := (Keep.refl h0 [a1]).trans K_6 (by simp)
  show OGo p e below _ (T_6.setTop (mkF m 39 #[.val (.ref a1), .val (.ref a2), .val (.int (0 : Int32)), .val (.int (1 : Int32)), .val .null, .unset] [(.ref b__6)]))
  refine OGo.to (fun _ k => XS.astore X_6.here hx rfl (hb hby d7_39) rfl rfl (l' := #[.val (.ref a1), .val (.ref a2), .val (.int (0 : Int32)), .val (.int (1 : Int32)), .val .null, .val (.ref b__6)]) rfl k) ?_
  show OGo p e below _ (T_6.setTop (mkF m 41 #[.val (.ref a1), .val (.ref a2), .val (.int (0 : Int32)), .val (.int (1 : Int32)), .val .null, .val (.ref b__6)] []))
  refine OGo.to (fun _ k => XS.aloadN X_6.here hx rfl (hb hby d7_41) rfl rfl k) ?_
  show OGo p e below _ (T_6.setTop (mkF m 42 #[.val (.ref a1), .val (.ref a2), .val (.int (0 : Int32)), .val (.int (1 : Int32)), .val .null, .val (.ref b__6)] [(.ref a1)]))
  refine OGo.to (fun _ k => XS.aload X_6.here hx rfl (hb hby d7_42) rfl rfl k) ?_
  show OGo p e below _ (T_6.setTop (mkF m 44 #[.val (.ref a1), .val (.ref a2), .val (.int (0 : Int32)), .val (.int (1 : Int32)), .val .null, .val (.ref b__6)] [(.ref b__6), (.ref a1)]))
  refine OGo.to (fun _ k => XS.iloadN X_6.here hx rfl (hb hby d7_44) rfl k) ?_
  show OGo p e below _ (T_6.setTop (mkF m 45 #[.val (.ref a1), .val (.ref a2), .val (.int (0 : Int32)), .val (.int (1 : Int32)), .val .null, .val (.ref b__6)] [(.int (1 : Int32)), (.ref b__6), (.ref a1)]))
  obtain ⟨_, T_10, Lc_10, X_10, hQ_10, st_10⟩ := own_un X_6 (Q := Qcl1 Z b__6 kb__6 ((x0.toInt8.toInt32)).toInt8.toInt32 T_6.heap n0) (rc := 0) (rs := 0) (W := fun v B => ∀ target, Steps p.tables e below (B.setTop { (mkF m 45 #[.val (.ref a1), .val (.ref a2), .val (.int (0 : Int32)), .val (.int (1 : Int32)), .val .null, .val (.ref b__6)] [(.int (1 : Int32)), (.ref b__6), (.ref a1)]) with pc := 48, stack := v.toList ++ [(.ref a1)] }) target → Steps p.tables e below (T_6.setTop (mkF m 45 #[.val (.ref a1), .val (.ref a2), .val (.int (0 : Int32)), .val (.int (1 : Int32)), .val .null, .val (.ref b__6)] [(.int (1 : Int32)), (.ref b__6), (.ref a1)])) target) <| Jvm.LawKit.callS X_6 hx (y := (⟨"java/lang/StringUTF16", "coderFromArrayLen", "([BI)B"⟩ : MethodName)) hown (mvT hZ (hw _ (List.mem_of_getElem? (i := 44) rfl))) (mvT hZ (hw _ (List.mem_of_getElem? (i := 45) rfl))) (mvT hZ (hw _ (List.mem_of_getElem? (i := 39) rfl))) (mvT hZ (hw _ (List.mem_of_getElem? (i := 46) rfl))) (by decide) (backOf (W := 1) (rmcl1 l Z a0 hw [] b__6 kb__6 ((x0.toInt8.toInt32)).toInt8.toInt32 T_6.heap n0 z_7 p_6_0) hZ (hw _ (List.mem_of_getElem? (i := 46) rfl)) (hw _ (List.mem_of_getElem? (i := 39) rfl)) (by decide) (by decide)) (g := (mkF m 45 #[.val (.ref a1), .val (.ref a2), .val (.int (0 : Int32)), .val (.int (1 : Int32)), .val .null, .val (.ref b__6)] [(.int (1 : Int32)), (.ref b__6), (.ref a1)])) rfl (by rw [hml]; rfl) (argsL := [(.ref b__6), (.int (1 : Int32))]) (rest := [(.ref a1)]) (lenOf pd_2 rfl) rfl (by show 2 * 0 + _ ≤ _; exact Nat.le_of_eq rfl) (hb hby d7_45) (fun _ _ => ⟨rfl, (rfl : T_6.heap = T_6.heap), (by decide : 1 + 0 ≤ _), (by decide : 1 + 0 ≤ _)⟩)
  obtain ⟨rfl, N_10q, e_10⟩ := hQ_10
  have N_10 := Fr.app N_6 N_10q
  refine OGo.to st_10 ?_
  show OGo p e below _ (T_10.setTop (mkF m 48 #[.val (.ref a1), .val (.ref a2), .val (.int (0 : Int32)), .val (.int (1 : Int32)), .val .null, .val (.ref b__6)] [(.int (0 : Int32)), (.ref a1)]))
  have f_11 : Exa Z T_6.heap a1 "java/lang/String" := (E1.keep K_6)
  have f_12 : Fld Z T_6.heap a1 "java/lang/String" "coder" "B" (.int (0 : Int32)) := (F2.keep K_6 (List.not_mem_nil))
  obtain ⟨T_13, h_13, X_13, e_13, W_13, st_13⟩ := putF X_10 hx hZ hown (host := "") (Or.inl (hw _ (List.mem_of_getElem? (i := 25) rfl))) Via.refl e_10 f_12 f_11 (Or.inr ⟨(hw _ (List.mem_of_getElem? (i := 26) rfl)), rfl, hnm⟩) (hw _ (List.mem_of_getElem? (i := 11) rfl)) (ty := .byte) (by decide) rfl rfl (g := (mkF m 48 #[.val (.ref a1), .val (.ref a2), .val (.int (0 : Int32)), .val (.int (1 : Int32)), .val .null, .val (.ref b__6)] [(.int (0 : Int32)), (.ref a1)])) rfl rfl (hb hby d7_48)
  refine OGo.to st_13 ?_
  have Fw_13 : Fld Z h_13 a1 "java/lang/String" "coder" "B" (.int (0 : Int32)) := f_12.same W_13
  have N_13 := Fr.snoc X_13 N_10 g1
  have z_14 : n0 ≤ h_13.size := Nat.le_trans z_7 (Keep.of_wr W_13).1
  have O_15 : Old Z n0 h_13 := O_8.wr W_13 g1
  have K_16 : Keep h0 h_13 [a1] := K_9.wr W_13 (Or.inl (List.mem_of_getElem? (i := 0) rfl))
  show OGo p e below _ (T_13.setTop (mkF m 51 #[.val (.ref a1), .val (.ref a2), .val (.int (0 : Int32)), .val (.int (1 : Int32)), .val .null, .val (.ref b__6)] []))
  refine OGo.to (fun _ k => XS.aloadN X_13.here hx rfl (hb hby d7_51) rfl rfl k) ?_
  show OGo p e below _ (T_13.setTop (mkF m 52 #[.val (.ref a1), .val (.ref a2), .val (.int (0 : Int32)), .val (.int (1 : Int32)), .val .null, .val (.ref b__6)] [(.ref a1)]))
  refine OGo.to (fun _ k => XS.aload X_13.here hx rfl (hb hby d7_52) rfl rfl k) ?_
  show OGo p e below _ (T_13.setTop (mkF m 54 #[.val (.ref a1), .val (.ref a2), .val (.int (0 : Int32)), .val (.int (1 : Int32)), .val .null, .val (.ref b__6)] [(.ref b__6), (.ref a1)]))
  have f_17 : Exa Z h_13 a1 "java/lang/String" := (f_11.wr W_13)
  have f_18 : Fld Z h_13 a1 "java/lang/String" "value" "[B" .null := ((F1.keep K_6 (List.not_mem_nil)).other W_13 (Or.inr (slot_ne (Or.inr (hw _ (List.mem_of_getElem? (i := 24) rfl))) (Or.inr (hw _ (List.mem_of_getElem? (i := 26) rfl))) (by decide) (t := (.array .byte)) (t' := .byte) (by decide) (by decide))))
  obtain ⟨T_19, h_19, X_19, e_19, W_19, st_19⟩ := putF X_13 hx hZ hown (host := "") (Or.inl (hw _ (List.mem_of_getElem? (i := 23) rfl))) Via.refl e_13 f_18 f_17 (Or.inr ⟨(hw _ (List.mem_of_getElem? (i := 24) rfl)), rfl, hnm⟩) (hw _ (List.mem_of_getElem? (i := 11) rfl)) (ty := (.array .byte)) (by decide) rfl rfl (g := (mkF m 54 #[.val (.ref a1), .val (.ref a2), .val (.int (0 : Int32)), .val (.int (1 : Int32)), .val .null, .val (.ref b__6)] [(.ref b__6), (.ref a1)])) rfl rfl (hb hby d7_54)
  refine OGo.to st_19 ?_
  have Fw_19 : Fld Z h_19 a1 "java/lang/String" "value" "[B" (.ref b__6) := f_18.same W_19
  have N_19 := Fr.snoc X_19 N_13 g1
  have z_20 : n0 ≤ h_19.size := Nat.le_trans z_14 (Keep.of_wr W_19).1
  have O_21 : Old Z n0 h_19 := O_15.wr W_19 g1
  have K_22 : Keep h0 h_19 [a1] := K_16.wr W_19 (Or.inl (List.mem_of_getElem? (i := 0) rfl))
  show OGo p e below _ (T_19.setTop (mkF m 57 #[.val (.ref a1), .val (.ref a2), .val (.int (0 : Int32)), .val (.int (1 : Int32)), .val .null, .val (.ref b__6)] []))
  refine OGo.ret (Q := Qsi1 Z a1 a2 kc x0 cs h0 n0) X_19 none (fun _ => rfl) Bd.notSynchronized (fun fs hr => X_19.returnOut hx Bd.returns (hb hby d7_57) hr) ?_ (by decide) (by decide)
  have f_23 : Fld Z h_19 a1 "java/lang/String" "coder" "B" (.int (0 : Int32)) := (Fw_13.other W_19 (Or.inr (slot_ne (Or.inr (hw _ (List.mem_of_getElem? (i := 26) rfl))) (Or.inr (hw _ (List.mem_of_getElem? (i := 24) rfl))) (by decide) (t := .byte) (t' := (.array .byte)) (by decide) (by decide))))
  have f_24 : Arv Z h_19 b__6 kb__6 .byte (1 : Int32) [(.int ((x0.toInt8.toInt32)).toInt8.toInt32)] (.int (0 : Int32)) := ((p_6_0.other W_13 (Ne.symm ne_a1_b__6)).other W_19 (Ne.symm ne_a1_b__6))
  show Qsi1 Z a1 a2 kc x0 cs h0 n0 _ T_19.heap _
  rw [e_19]
  exact ⟨b__6, kb__6, rfl, N_19, K_22, gq_b__6, sz_b__6, Fw_19, f_23, f_24⟩
theorem d6_0 : decode jdk_42_method_3_code 0 = .ok (.aload_n 0, 1) := by decide +kernel
theorem d6_1 : decode jdk_42_method_3_code 1 = .ok (.aload_n 1, 1) := by decide +kernel
theorem d6_2 : decode jdk_42_method_3_code 2 = .ok (.iconst 0, 1) := by decide +kernel
theorem d6_3 : decode jdk_42_method_3_code 3 = .ok (.aload_n 1, 1) := by decide +kernel
theorem d6_4 : decode jdk_42_method_3_code 4 = .ok (.arraylength, 1) := by decide +kernel
theorem d6_5 : decode jdk_42_method_3_code 5 = .ok (.aconst_null, 1) := by decide +kernel
theorem d6_6 : decode jdk_42_method_3_code 6 = .ok (.invokespecial 27, 3) := by decide +kernel
theorem d6_9 : decode jdk_42_method_3_code 9 = .ok (.return_, 1) := by decide +kernel
theorem ef_sc1 (m : MethodId) (x0 : Addr) (x1 : Addr) : entryFrame m #[(.ref x0), (.ref x1)] 2 = mkF m 0 #[.val (.ref x0), .val (.ref x1)] [] := by first | (simp [entryFrame, mkF, argsToLocals, Value.category]; done) | rfl
def Qsc1 (Z : State) (a1 : Addr) (a2 : Addr) (kc : ClassId) (x0 : Int32) (cs : Int32) (h0 : Heap) (n0 : Nat) (v : Option Value) (h : Heap) (L : List Loc) : Prop := ∃ (b : Addr), ∃ (kb : ClassId), v = none ∧ Fr n0 L ∧ Keep h0 h [a1] ∧ n0 ≤ b ∧ h0.size ≤ b ∧ Fld Z h a1 "java/lang/String" "value" "[B" (.ref b) ∧ Fld Z h a1 "java/lang/String" "coder" "B" (.int (0 : Int32)) ∧ Arv Z h b kb .byte (1 : Int32) [(.int ((x0.toInt8.toInt32)).toInt8.toInt32)] (.int (0 : Int32))
set_option maxRecDepth 65536 in
set_option maxHeartbeats 40000000 in
theorem rmsc1 (l : Launch) (Z : State) (a0 : Array Value) (hw : ∀ d ∈ tables_1, d.before a0 Z = true) (ws : List Jvm.Cond) (a1 : Addr) (a2 : Addr) (kc : ClassId) (x0 : Int32) (cs : Int32) (h0 : Heap) (n0 : Nat) (Z0 : n0 ≤ h0.size) (E1 : Exa Z h0 a1 "java/lang/String") (F1 : Fld Z h0 a1 "java/lang/String" "value" "[B" .null) (F2 : Fld Z h0 a1 "java/lang/String" "coder" "B" (.int (0 : Int32))) (g1 : n0 ≤ a1) (VA : Arv Z h0 a2 kc .char (1 : Int32) [(.int x0)] (.int (0 : Int32))) (n12 : a1 ≠ a2) (SC : Sta Z Z.heap "java/lang/String" "COMPACT_STRINGS" "Z" (.int cs)) (O0 : Old Z n0 h0) (hcs : ¬ (cs = (0 : Int32))) (hx0 : ¬ ((255 : Int32) < x0)) :
    MetFree l (⟨"java/lang/String", "<init>", "([C)V"⟩ : MethodName) (head1 (Jvm.Cond.code (⟨"java/lang/String", "<init>", "([C)V"⟩ : MethodName) jdk_42_method_3_code 2 none :: ws) ({ frames := 3, cells := 1, slots := 1, locals := 52 } : Room)) (fun a U => a = #[(.ref a1), (.ref a2)] ∧ Z.Warmed39 U.vm ∧ U.heap = h0) (fun _ _ _ _ _ => True) (fun _ U o U' => ∃ v L, o = .returned v ∧ Qsc1 Z a1 a2 kc x0 cs h0 n0 v U'.heap L ∧ FrameEnd U o U' L ({ frames := 3, cells := 1, slots := 1, locals := 52 } : Room).cells ({ frames := 3, cells := 1, slots := 1, locals := 52 } : Room).slots) := by
  refine MetFree.of_bodySF (plainFor_of_name pn_1) hisR ?_
  intro p e s m args below meth c s₁ Bd hml0 hP hK
  obtain ⟨rfl, hZ, hh⟩ := hP
  have hx := Bd.exec
  have hby := Bd.bytes
  have hml : c.maxLocals = 2 := hml0
  have hown : s.vm.findClass "java/lang/String" = some m.cls := findClass_of_methodNamed Bd.named
  have hnm := (name_of_methodNamed Bd.named Bd.method).1
  have X0 : Stand p l e ({ frames := 3, cells := 1, slots := 1, locals := 52 } : Room) s m #[(.ref a1), (.ref a2)] below meth c s₁ [] 0 0 := Stand.of_body Bd
  have e0 : s₁.heap = h0 := by rw [← hh, Bd.state]; rfl
  have N0 := Fr.nil n0
  show OGo p e below (fun s₂ o => ∃ v L, o = .returned v ∧ Qsc1 Z a1 a2 kc x0 cs h0 n0 v s₂.heap L ∧ FrameEnd s o s₂ L ({ frames := 3, cells := 1, slots := 1, locals := 52 } : Room).cells ({ frames := 3, cells := 1, slots := 1, locals := 52 } : Room).slots) _
  refine OGo.to (fun _ k => castTop (ef_sc1 m a1 a2) k) ?_
  refine OGo.to (fun _ k => XS.aloadN X0.here hx rfl (hb hby d6_0) rfl rfl k) ?_
  show OGo p e below _ (s₁.setTop (mkF m 1 #[.val (.ref a1), .val (.ref a2)] [(.ref a1)]))
  refine OGo.to (fun _ k => XS.aloadN X0.here hx rfl (hb hby d6_1) rfl rfl k) ?_
  show OGo p e below _ (s₁.setTop (mkF m 2 #[.val (.ref a1), .val (.ref a2)] [(.ref a2), (.ref a1)]))
  refine OGo.to (fun _ k => XS.iconst X0.here hx rfl (hb hby d6_2) k) ?_
  show OGo p e below _ (s₁.setTop (mkF m 3 #[.val (.ref a1), .val (.ref a2)] [(.int (0 : Int32)), (.ref a2), (.ref a1)]))
  refine OGo.to (fun _ k => XS.aloadN X0.here hx rfl (hb hby d6_3) rfl rfl k) ?_
  show OGo p e below _ (s₁.setTop (mkF m 4 #[.val (.ref a1), .val (.ref a2)] [(.ref a2), (.int (0 : Int32)), (.ref a2), (.ref a1)]))
  have Vq_1 := VA
  obtain ⟨cl_1, Ar_1, q_1, S_1, M_1, Hs_1, G_1⟩ := Vq_1
  refine OGo.to (fun _ k => X0.arraylength hx (by rw [e0]; exact Ar_1.1) (State.isArrayOf_alike hZ.alike Ar_1.2.1) (g := (mkF m 4 #[.val (.ref a1), .val (.ref a2)] [(.ref a2), (.int (0 : Int32)), (.ref a2), (.ref a1)])) rfl rfl (hb hby d6_4) _ k) ?_
  rw [len_of S_1 M_1]
  show OGo p e below _ (s₁.setTop (mkF m 5 #[.val (.ref a1), .val (.ref a2)] [(.int (1 : Int32)), (.int (0 : Int32)), (.ref a2), (.ref a1)]))
  refine OGo.to (fun _ k => XS.aconstNull X0.here hx rfl (hb hby d6_5) k) ?_
  show OGo p e below _ (s₁.setTop (mkF m 6 #[.val (.ref a1), .val (.ref a2)] [.null, (.int (1 : Int32)), (.int (0 : Int32)), (.ref a2), (.ref a1)]))
  obtain ⟨_, T_2, Lc_2, X_2, hQ_2, st_2⟩ := own_un X0 (Q := Qsi1 Z a1 a2 kc x0 cs h0 n0) (rc := 1) (rs := 1) (W := fun v B => Steps p.tables e below (s₁.setTop (mkF m 6 #[.val (.ref a1), .val (.ref a2)] [.null, (.int (1 : Int32)), (.int (0 : Int32)), (.ref a2), (.ref a1)])) (B.setTop { (mkF m 6 #[.val (.ref a1), .val (.ref a2)] [.null, (.int (1 : Int32)), (.int (0 : Int32)), (.ref a2), (.ref a1)]) with pc := 9, stack := v.toList ++ [] })) <| X0.specialBack hx (y := (⟨"java/lang/String", "<init>", "([CIILjava/lang/Void;)V"⟩ : MethodName)) rfl hown (mvT hZ (hw _ (List.mem_of_getElem? (i := 34) rfl))) (mvT hZ (hw _ (List.mem_of_getElem? (i := 35) rfl))) (mvT hZ (hw _ (List.mem_of_getElem? (i := 36) rfl))) (by decide) (backOf (W := 0) (rmsi1 l Z a0 hw [] a1 a2 kc x0 cs h0 n0 Z0 E1 F1 F2 g1 VA n12 SC O0 (hcs) (hx0)) hZ (hw _ (List.mem_of_getElem? (i := 36) rfl)) (hw _ (List.mem_of_getElem? (i := 3) rfl)) (by decide) (by decide)) (g := (mkF m 6 #[.val (.ref a1), .val (.ref a2)] [.null, (.int (1 : Int32)), (.int (0 : Int32)), (.ref a2), (.ref a1)])) rfl (by rw [hml]; rfl) (Steps.refl _) (a := a1) (argsL := [(.ref a2), (.int (0 : Int32)), (.int (1 : Int32)), .null]) (rest := []) (lenOf pd_3 rfl) rfl (by show 2 * 0 + _ ≤ _; exact Nat.le_of_eq rfl) (hb hby d6_6) (fun _ _ => ⟨rfl, e0, (by decide : 0 + 1 ≤ _), (by decide : 0 + 1 ≤ _)⟩)
  obtain ⟨b__2, kb__2, rfl, N_2q, K_2, gq_b__2, sq_b__2, p_2_0, p_2_1, p_2_2⟩ := hQ_2
  have N_2 := Fr.app N0 N_2q
  refine OGo.to (fun _ k => st_2.trans k) ?_
  have ne_a1_b__2 : a1 ≠ b__2 := Nat.ne_of_lt (Nat.lt_of_lt_of_le E1.lt sq_b__2)
  have ne_a2_b__2 : a2 ≠ b__2 := Nat.ne_of_lt (Nat.lt_of_lt_of_le VA.lt sq_b__2)
  have sz_b__2 : h0.size ≤ b__2 := Nat.le_trans (Keep.refl h0 [a1]).1 sq_b__2
  have z_3 : n0 ≤ T_2.heap.size := Nat.le_trans Z0 K_2.1
  have O_4 : Old Z n0 T_2.heap := O0.keep K_2 (allS g1 all0)
  have K_5 : Keep h0 T_2.heap [a1] := (Keep.refl h0 [a1]).trans K_2 (by intro x hx'; cases List.mem_singleton.mp hx'; exact (Or.inl (List.mem_of_getElem? (i := 0) rfl)))
  show OGo p e below _ (T_2.setTop (mkF m 9 #[.val (.ref a1), .val (.ref a2)] []))
  refine OGo.ret (Q := Qsc1 Z a1 a2 kc x0 cs h0 n0) X_2 none (fun _ => rfl) Bd.notSynchronized (fun fs hr => X_2.returnOut hx Bd.returns (hb hby d6_9) hr) ?_ (by decide) (by decide)
  show Qsc1 Z a1 a2 kc x0 cs h0 n0 _ T_2.heap _
  exact ⟨b__2, kb__2, rfl, N_2, K_5, gq_b__2, sz_b__2, p_2_0, p_2_1, p_2_2⟩
theorem d2_0 : decode jdk_43_method_3_code 0 = .ok (.iload_n 0, 1) := by decide +kernel
theorem d2_1 : decode jdk_43_method_3_code 1 = .ok (.sipush 255, 3) := by decide +kernel
theorem d2_4 : decode jdk_43_method_3_code 4 = .ok (.if_icmp .gt 7, 3) := by decide +kernel
theorem d2_7 : decode jdk_43_method_3_code 7 = .ok (.iconst 1, 1) := by decide +kernel
theorem d2_8 : decode jdk_43_method_3_code 8 = .ok (.goto 4, 3) := by decide +kernel
theorem d2_12 : decode jdk_43_method_3_code 12 = .ok (.ireturn, 1) := by decide +kernel
theorem ef_ce (m : MethodId) (x0 : Int32) : entryFrame m #[(.int x0)] 1 = mkF m 0 #[.val (.int x0)] [] := by first | (simp [entryFrame, mkF, argsToLocals, Value.category]; done) | rfl
def Qce (Z : State) (p1 : Int32) (h0 : Heap) (n0 : Nat) (v : Option Value) (h : Heap) (L : List Loc) : Prop := v = some (.int (1 : Int32)) ∧ Fr n0 L ∧ h = h0
set_option maxRecDepth 65536 in
set_option maxHeartbeats 40000000 in
theorem rmce (l : Launch) (Z : State) (a0 : Array Value) (hw : ∀ d ∈ tables_1, d.before a0 Z = true) (ws : List Jvm.Cond) (p1 : Int32) (h0 : Heap) (n0 : Nat) (Z0 : n0 ≤ h0.size) (hx0 : ¬ ((255 : Int32) < p1)) :
    MetFree l (⟨"java/lang/StringLatin1", "canEncode", "(C)Z"⟩ : MethodName) (head1 (Jvm.Cond.code (⟨"java/lang/StringLatin1", "canEncode", "(C)Z"⟩ : MethodName) jdk_43_method_3_code 1 (some .boolean) :: ws) ({ frames := 0, cells := 0, slots := 0, locals := 0 } : Room)) (fun a U => a = #[(.int p1)] ∧ Z.Warmed39 U.vm ∧ U.heap = h0) (fun _ _ _ _ _ => True) (fun _ U o U' => ∃ v L, o = .returned v ∧ Qce Z p1 h0 n0 v U'.heap L ∧ FrameEnd U o U' L ({ frames := 0, cells := 0, slots := 0, locals := 0 } : Room).cells ({ frames := 0, cells := 0, slots := 0, locals := 0 } : Room).slots) := by
  refine MetFree.of_bodySF (plainFor_of_name pn_2) hisR ?_
  intro p e s m args below meth c s₁ Bd hml0 hP hK
  obtain ⟨rfl, hZ, hh⟩ := hP
  have hx := Bd.exec
  have hby := Bd.bytes
  have hml : c.maxLocals = 1 := hml0
  have hown : s.vm.findClass "java/lang/StringLatin1" = some m.cls := findClass_of_methodNamed Bd.named
  have hnm := (name_of_methodNamed Bd.named Bd.method).1
  have X0 : Stand p l e ({ frames := 0, cells := 0, slots := 0, locals := 0 } : Room) s m #[(.int p1)] below meth c s₁ [] 0 0 := Stand.of_body Bd
  have e0 : s₁.heap = h0 := by rw [← hh, Bd.state]; rfl
  have N0 := Fr.nil n0
  show OGo p e below (fun s₂ o => ∃ v L, o = .returned v ∧ Qce Z p1 h0 n0 v s₂.heap L ∧ FrameEnd s o s₂ L ({ frames := 0, cells := 0, slots := 0, locals := 0 } : Room).cells ({ frames := 0, cells := 0, slots := 0, locals := 0 } : Room).slots) _
  refine OGo.to (fun _ k => castTop (ef_ce m p1) k) ?_
  refine OGo.to (fun _ k => XS.iloadN X0.here hx rfl (hb hby d2_0) rfl k) ?_
  show OGo p e below _ (s₁.setTop (mkF m 1 #[.val (.int p1)] [(.int p1)]))
  refine OGo.to (fun _ k => XS.sipush X0.here hx rfl (hb hby d2_1) k) ?_
  show OGo p e below _ (s₁.setTop (mkF m 4 #[.val (.int p1)] [(.int (255 : Int32)), (.int p1)]))
  have hc4__1 : ¬ ((255 : Int32) < p1) := hx0
  refine OGo.to (fun _ k => XS.icmpNo X0.here hx rfl (hb hby d2_4) rfl (flt hc4__1).2.2.1 k) ?_
  show OGo p e below _ (s₁.setTop (mkF m 7 #[.val (.int p1)] []))
  refine OGo.to (fun _ k => XS.iconst X0.here hx rfl (hb hby d2_7) k) ?_
  show OGo p e below _ (s₁.setTop (mkF m 8 #[.val (.int p1)] [(.int (1 : Int32))]))
  refine OGo.to (fun _ k => XS.goto X0.here hx rfl (pc0 := 8) (pc' := 12) rfl (hb hby d2_8) (by decide) (by decide) k) ?_
  show OGo p e below _ (s₁.setTop (mkF m 12 #[.val (.int p1)] [(.int (1 : Int32))]))
  refine OGo.ret (Q := Qce Z p1 h0 n0) X0 (some (.int (1 : Int32))) (fun h => by rw [Bd.returns] at h; cases h) Bd.notSynchronized (fun fs hr => retN X0 hx (t := .boolean) (z := (1 : Int32)) Bd.returns (by simp) (hb hby d2_12) hr) ?_ (by decide) (by decide)
  show Qce Z p1 h0 n0 _ s₁.heap _
  rw [e0]
  exact ⟨rfl, N0, rfl⟩
theorem d3_0 : decode jdk_43_method_46_code 0 = .ok (.iconst 1, 1) := by decide +kernel
theorem d3_1 : decode jdk_43_method_46_code 1 = .ok (.newarray .byte, 2) := by decide +kernel
theorem d3_3 : decode jdk_43_method_46_code 3 = .ok (.dup, 1) := by decide +kernel
theorem d3_4 : decode jdk_43_method_46_code 4 = .ok (.iconst 0, 1) := by decide +kernel
theorem d3_5 : decode jdk_43_method_46_code 5 = .ok (.iload_n 0, 1) := by decide +kernel
theorem d3_6 : decode jdk_43_method_46_code 6 = .ok (.i2b, 1) := by decide +kernel
theorem d3_7 : decode jdk_43_method_46_code 7 = .ok (.bastore, 1) := by decide +kernel
theorem d3_8 : decode jdk_43_method_46_code 8 = .ok (.areturn, 1) := by decide +kernel
theorem ef_tb (m : MethodId) (x0 : Int32) : entryFrame m #[(.int x0)] 1 = mkF m 0 #[.val (.int x0)] [] := by first | (simp [entryFrame, mkF, argsToLocals, Value.category]; done) | rfl
def Qtb (Z : State) (p1 : Int32) (h0 : Heap) (n0 : Nat) (v : Option Value) (h : Heap) (L : List Loc) : Prop := ∃ (b : Addr), ∃ (kb : ClassId), v = some (.ref b) ∧ Fr n0 L ∧ Keep h0 h [] ∧ n0 ≤ b ∧ h0.size ≤ b ∧ Arv Z h b kb .byte (1 : Int32) [(.int ((p1.toInt8.toInt32)).toInt8.toInt32)] (.int (0 : Int32))
set_option maxRecDepth 65536 in
set_option maxHeartbeats 40000000 in
theorem rmtb (l : Launch) (Z : State) (a0 : Array Value) (hw : ∀ d ∈ tables_1, d.before a0 Z = true) (ws : List Jvm.Cond) (p1 : Int32) (h0 : Heap) (n0 : Nat) (Z0 : n0 ≤ h0.size) :
    MetFree l (⟨"java/lang/StringLatin1", "toBytes", "(C)[B"⟩ : MethodName) (head1 (Jvm.Cond.code (⟨"java/lang/StringLatin1", "toBytes", "(C)[B"⟩ : MethodName) jdk_43_method_46_code 1 (some (.array .byte)) :: ws) ({ frames := 0, cells := 1, slots := 1, locals := 0 } : Room)) (fun a U => a = #[(.int p1)] ∧ Z.Warmed39 U.vm ∧ U.heap = h0) (fun _ _ _ _ _ => True) (fun _ U o U' => ∃ v L, o = .returned v ∧ Qtb Z p1 h0 n0 v U'.heap L ∧ FrameEnd U o U' L ({ frames := 0, cells := 1, slots := 1, locals := 0 } : Room).cells ({ frames := 0, cells := 1, slots := 1, locals := 0 } : Room).slots) := by
  refine MetFree.of_bodySF (plainFor_of_name pn_2) hisR ?_
  intro p e s m args below meth c s₁ Bd hml0 hP hK
  obtain ⟨rfl, hZ, hh⟩ := hP
  have hx := Bd.exec
  have hby := Bd.bytes
  have hml : c.maxLocals = 1 := hml0
  have hown : s.vm.findClass "java/lang/StringLatin1" = some m.cls := findClass_of_methodNamed Bd.named
  have hnm := (name_of_methodNamed Bd.named Bd.method).1
  have X0 : Stand p l e ({ frames := 0, cells := 1, slots := 1, locals := 0 } : Room) s m #[(.int p1)] below meth c s₁ [] 0 0 := Stand.of_body Bd
  have e0 : s₁.heap = h0 := by rw [← hh, Bd.state]; rfl
  have N0 := Fr.nil n0
  show OGo p e below (fun s₂ o => ∃ v L, o = .returned v ∧ Qtb Z p1 h0 n0 v s₂.heap L ∧ FrameEnd s o s₂ L ({ frames := 0, cells := 1, slots := 1, locals := 0 } : Room).cells ({ frames := 0, cells := 1, slots := 1, locals := 0 } : Room).slots) _
  refine OGo.to (fun _ k => castTop (ef_tb m p1) k) ?_
  refine OGo.to (fun _ k => XS.iconst X0.here hx rfl (hb hby d3_0) k) ?_
  show OGo p e below _ (s₁.setTop (mkF m 1 #[.val (.int p1)] [(.int (1 : Int32))]))
  obtain ⟨T_1, h_1, k_1, X_1, e_1, E_1, A_1, st_1⟩ := newP X0 hx hZ (hw _ (List.mem_of_getElem? (i := 15) rfl)) e0 (g := (mkF m 1 #[.val (.int p1)] [(.int (1 : Int32))])) rfl (hb hby d3_1) rfl (by decide) (cap := 1) (by decide) (by decide) (by decide) (by decide)
  obtain ⟨b_1, g_1⟩ : ∃ z, z = h0.size := ⟨_, rfl⟩
  rw [← g_1] at A_1 st_1
  have g_b_1 : n0 ≤ b_1 := Nat.le_trans Z0 (Nat.le_of_eq g_1.symm)
  have sz_b_1 : h0.size ≤ b_1 := Nat.le_trans (Keep.refl h0 []).1 (Nat.le_of_eq g_1.symm)
  refine OGo.to st_1 ?_
  have z_2 : n0 ≤ h_1.size := Nat.le_trans Z0 E_1.1
  have K_3 : Keep h0 h_1 [] := (Keep.refl h0 []).ext E_1
  have V_1 : Arv Z h_1 b_1 k_1 .byte (1 : Int32) [(.int (0 : Int32))] (.int (0 : Int32)) := (Arv.new A_1 (by decide)).pad (pad_rep [] (.int (0 : Int32)) 1)
  show OGo p e below _ (T_1.setTop (mkF m 3 #[.val (.int p1)] [(.ref b_1)]))
  refine OGo.to (fun _ k => XS.dup X_1.here hx rfl (hb hby d3_3) rfl rfl k) ?_
  show OGo p e below _ (T_1.setTop (mkF m 4 #[.val (.int p1)] [(.ref b_1), (.ref b_1)]))
  refine OGo.to (fun _ k => XS.iconst X_1.here hx rfl (hb hby d3_4) k) ?_
  show OGo p e below _ (T_1.setTop (mkF m 5 #[.val (.int p1)] [(.int (0 : Int32)), (.ref b_1), (.ref b_1)]))
  refine OGo.to (fun _ k => XS.iloadN X_1.here hx rfl (hb hby d3_5) rfl k) ?_
  show OGo p e below _ (T_1.setTop (mkF m 6 #[.val (.int p1)] [(.int p1), (.int (0 : Int32)), (.ref b_1), (.ref b_1)]))
  refine OGo.to (fun _ k => XS.i2b X_1.here hx rfl (hb hby d3_6) rfl k) ?_
  show OGo p e below _ (T_1.setTop (mkF m 7 #[.val (.int p1)] [(.int (p1.toInt8.toInt32)), (.int (0 : Int32)), (.ref b_1), (.ref b_1)]))
  have Vq_4 := V_1
  obtain ⟨cl_4, Ar_4, q_4, S_4, M_4, Hs_4, G_4⟩ := Vq_4
  have hin_5 : ¬ ((0 : Int32) < 0 ∨ cl_4.slots.size ≤ ((0 : Int32)).toNatClampNeg) := inb_of S_4 ⟨by decide, by decide⟩
  obtain ⟨T_5, h_5, X_5, e_5, W_5, st_5⟩ := stB X_1 hx hZ e_1 Ar_4 (j := (0 : Int32)) hin_5 (g := (mkF m 7 #[.val (.int p1)] [(.int (p1.toInt8.toInt32)), (.int (0 : Int32)), (.ref b_1), (.ref b_1)])) rfl rfl (hb hby d3_7)
  refine OGo.to st_5 ?_
  have V_5 : Arv Z h_5 b_1 k_1 .byte (1 : Int32) [(.int ((p1.toInt8.toInt32)).toInt8.toInt32)] (.int (0 : Int32)) := Arv.set Ar_4 q_4 S_4 M_4 Hs_4 G_4 (fits_nar_byte _) W_5 0 rfl (Nat.le_of_ble_eq_true rfl)
  have N_5 := Fr.snoc X_5 N0 g_b_1
  have z_6 : n0 ≤ h_5.size := Nat.le_trans z_2 (Keep.of_wr W_5).1
  have K_7 : Keep h0 h_5 [] := K_3.wr W_5 (Or.inr sz_b_1)
  show OGo p e below _ (T_5.setTop (mkF m 8 #[.val (.int p1)] [(.ref b_1)]))
  refine OGo.ret (Q := Qtb Z p1 h0 n0) X_5 (some (.ref b_1)) (fun h => by rw [Bd.returns] at h; cases h) Bd.notSynchronized (fun fs hr => own_retA X_5 hx Bd.returns rfl rfl (hb hby d3_8) hr) ?_ (by decide) (by decide)
  show Qtb Z p1 h0 n0 _ T_5.heap _
  rw [e_5]
  exact ⟨b_1, k_1, rfl, N_5, K_7, g_b_1, sz_b_1, V_5⟩
theorem d4_0 : decode jdk_42_method_151_code 0 = .ok (.aload_n 0, 1) := by decide +kernel
theorem d4_1 : decode jdk_42_method_151_code 1 = .ok (.invokespecial 1, 3) := by decide +kernel
theorem d4_4 : decode jdk_42_method_151_code 4 = .ok (.aload_n 0, 1) := by decide +kernel
theorem d4_5 : decode jdk_42_method_151_code 5 = .ok (.aload_n 1, 1) := by decide +kernel
theorem d4_6 : decode jdk_42_method_151_code 6 = .ok (.putfield 9, 3) := by decide +kernel
theorem d4_9 : decode jdk_42_method_151_code 9 = .ok (.aload_n 0, 1) := by decide +kernel
theorem d4_10 : decode jdk_42_method_151_code 10 = .ok (.iload_n 2, 1) := by decide +kernel
theorem d4_11 : decode jdk_42_method_151_code 11 = .ok (.putfield 15, 3) := by decide +kernel
theorem d4_14 : decode jdk_42_method_151_code 14 = .ok (.return_, 1) := by decide +kernel
theorem ef_sb (m : MethodId) (x0 : Addr) (x1 : Addr) (x2 : Int32) : entryFrame m #[(.ref x0), (.ref x1), (.int x2)] 3 = mkF m 0 #[.val (.ref x0), .val (.ref x1), .val (.int x2)] [] := by first | (simp [entryFrame, mkF, argsToLocals, Value.category]; done) | rfl
def Qsb (Z : State) (a1 : Addr) (a2 : Addr) (h0 : Heap) (n0 : Nat) (v : Option Value) (h : Heap) (L : List Loc) : Prop := v = none ∧ Fr n0 L ∧ Keep h0 h [a1] ∧ Fld Z h a1 "java/lang/String" "value" "[B" (.ref a2) ∧ Fld Z h a1 "java/lang/String" "coder" "B" (.int (0 : Int32))
set_option maxRecDepth 65536 in
set_option maxHeartbeats 40000000 in
theorem rmsb (l : Launch) (Z : State) (a0 : Array Value) (hw : ∀ d ∈ tables_1, d.before a0 Z = true) (ws : List Jvm.Cond) (a1 : Addr) (a2 : Addr) (h0 : Heap) (n0 : Nat) (Z0 : n0 ≤ h0.size) (E1 : Exa Z h0 a1 "java/lang/String") (F1 : Fld Z h0 a1 "java/lang/String" "value" "[B" .null) (F2 : Fld Z h0 a1 "java/lang/String" "coder" "B" (.int (0 : Int32))) (g1 : n0 ≤ a1) :
    MetFree l (⟨"java/lang/String", "<init>", "([BB)V"⟩ : MethodName) (head1 (Jvm.Cond.code (⟨"java/lang/String", "<init>", "([BB)V"⟩ : MethodName) jdk_42_method_151_code 3 none :: ws) ({ frames := 1, cells := 0, slots := 0, locals := 12 } : Room)) (fun a U => a = #[(.ref a1), (.ref a2), (.int (0 : Int32))] ∧ Z.Warmed39 U.vm ∧ U.heap = h0) (fun _ _ _ _ _ => True) (fun _ U o U' => ∃ v L, o = .returned v ∧ Qsb Z a1 a2 h0 n0 v U'.heap L ∧ FrameEnd U o U' L ({ frames := 1, cells := 0, slots := 0, locals := 12 } : Room).cells ({ frames := 1, cells := 0, slots := 0, locals := 12 } : Room).slots) := by
  refine MetFree.of_bodySF (plainFor_of_name pn_1) hisR ?_
  intro p e s m args below meth c s₁ Bd hml0 hP hK
  obtain ⟨rfl, hZ, hh⟩ := hP
  have hx := Bd.exec
  have hby := Bd.bytes
  have hml : c.maxLocals = 3 := hml0
  have hown : s.vm.findClass "java/lang/String" = some m.cls := findClass_of_methodNamed Bd.named
  have hnm := (name_of_methodNamed Bd.named Bd.method).1
  have X0 : Stand p l e ({ frames := 1, cells := 0, slots := 0, locals := 12 } : Room) s m #[(.ref a1), (.ref a2), (.int (0 : Int32))] below meth c s₁ [] 0 0 := Stand.of_body Bd
  have e0 : s₁.heap = h0 := by rw [← hh, Bd.state]; rfl
  have N0 := Fr.nil n0
  show OGo p e below (fun s₂ o => ∃ v L, o = .returned v ∧ Qsb Z a1 a2 h0 n0 v s₂.heap L ∧ FrameEnd s o s₂ L ({ frames := 1, cells := 0, slots := 0, locals := 12 } : Room).cells ({ frames := 1, cells := 0, slots := 0, locals := 12 } : Room).slots) _
  refine OGo.to (fun _ k => castTop (ef_sb m a1 a2 (0 : Int32)) k) ?_
  refine OGo.to (fun _ k => XS.aloadN X0.here hx rfl (hb hby d4_0) rfl rfl k) ?_
  show OGo p e below _ (s₁.setTop (mkF m 1 #[.val (.ref a1), .val (.ref a2), .val (.int (0 : Int32))] [(.ref a1)]))
  obtain ⟨T_1, X_1, e_1, st_1⟩ := initO X0 hx hZ hown (hw _ (List.mem_of_getElem? (i := 20) rfl)) (hw _ (List.mem_of_getElem? (i := 21) rfl)) (hw _ (List.mem_of_getElem? (i := 22) rfl)) e0 (g := (mkF m 1 #[.val (.ref a1), .val (.ref a2), .val (.int (0 : Int32))] [(.ref a1)])) rfl (by rw [hml]; rfl) rfl (hb hby d4_1) (by decide) (W := 0) (by show 2 * 0 + _ ≤ _; exact Nat.le_of_eq rfl) (by decide)
  refine OGo.to st_1 ?_
  show OGo p e below _ (T_1.setTop (mkF m 4 #[.val (.ref a1), .val (.ref a2), .val (.int (0 : Int32))] []))
  refine OGo.to (fun _ k => XS.aloadN X_1.here hx rfl (hb hby d4_4) rfl rfl k) ?_
  show OGo p e below _ (T_1.setTop (mkF m 5 #[.val (.ref a1), .val (.ref a2), .val (.int (0 : Int32))] [(.ref a1)]))
  refine OGo.to (fun _ k => XS.aloadN X_1.here hx rfl (hb hby d4_5) rfl rfl k) ?_
  show OGo p e below _ (T_1.setTop (mkF m 6 #[.val (.ref a1), .val (.ref a2), .val (.int (0 : Int32))] [(.ref a2), (.ref a1)]))
  obtain ⟨T_2, h_2, X_2, e_2, W_2, st_2⟩ := putF X_1 hx hZ hown (host := "") (Or.inl (hw _ (List.mem_of_getElem? (i := 23) rfl))) Via.refl e_1 F1 E1 (Or.inr ⟨(hw _ (List.mem_of_getElem? (i := 24) rfl)), rfl, hnm⟩) (hw _ (List.mem_of_getElem? (i := 11) rfl)) (ty := (.array .byte)) (by decide) rfl rfl (g := (mkF m 6 #[.val (.ref a1), .val (.ref a2), .val (.int (0 : Int32))] [(.ref a2), (.ref a1)])) rfl rfl (hb hby d4_6)
  refine OGo.to st_2 ?_
  have Fw_2 : Fld Z h_2 a1 "java/lang/String" "value" "[B" (.ref a2) := F1.same W_2
  have N_2 := Fr.snoc X_2 N0 g1
  have z_3 : n0 ≤ h_2.size := Nat.le_trans Z0 (Keep.of_wr W_2).1
  have K_4 : Keep h0 h_2 [a1] := (Keep.refl h0 [a1]).wr W_2 (Or.inl (List.mem_of_getElem? (i := 0) rfl))
  show OGo p e below _ (T_2.setTop (mkF m 9 #[.val (.ref a1), .val (.ref a2), .val (.int (0 : Int32))] []))
  refine OGo.to (fun _ k => XS.aloadN X_2.here hx rfl (hb hby d4_9) rfl rfl k) ?_
  show OGo p e below _ (T_2.setTop (mkF m 10 #[.val (.ref a1), .val (.ref a2), .val (.int (0 : Int32))] [(.ref a1)]))
  refine OGo.to (fun _ k => XS.iloadN X_2.here hx rfl (hb hby d4_10) rfl k) ?_
  show OGo p e below _ (T_2.setTop (mkF m 11 #[.val (.ref a1), .val (.ref a2), .val (.int (0 : Int32))] [(.int (0 : Int32)), (.ref a1)]))
  have f_5 : Exa Z h_2 a1 "java/lang/String" := (E1.wr W_2)
  have f_6 : Fld Z h_2 a1 "java/lang/String" "coder" "B" (.int (0 : Int32)) := (F2.other W_2 (Or.inr (slot_ne (Or.inr (hw _ (List.mem_of_getElem? (i := 26) rfl))) (Or.inr (hw _ (List.mem_of_getElem? (i := 24) rfl))) (by decide) (t := .byte) (t' := (.array .byte)) (by decide) (by decide))))
  obtain ⟨T_7, h_7, X_7, e_7, W_7, st_7⟩ := putF X_2 hx hZ hown (host := "") (Or.inl (hw _ (List.mem_of_getElem? (i := 25) rfl))) Via.refl e_2 f_6 f_5 (Or.inr ⟨(hw _ (List.mem_of_getElem? (i := 26) rfl)), rfl, hnm⟩) (hw _ (List.mem_of_getElem? (i := 11) rfl)) (ty := .byte) (by decide) rfl rfl (g := (mkF m 11 #[.val (.ref a1), .val (.ref a2), .val (.int (0 : Int32))] [(.int (0 : Int32)), (.ref a1)])) rfl rfl (hb hby d4_11)
  refine OGo.to st_7 ?_
  have Fw_7 : Fld Z h_7 a1 "java/lang/String" "coder" "B" (.int (0 : Int32)) := f_6.same W_7
  have N_7 := Fr.snoc X_7 N_2 g1
  have z_8 : n0 ≤ h_7.size := Nat.le_trans z_3 (Keep.of_wr W_7).1
  have K_9 : Keep h0 h_7 [a1] := K_4.wr W_7 (Or.inl (List.mem_of_getElem? (i := 0) rfl))
  show OGo p e below _ (T_7.setTop (mkF m 14 #[.val (.ref a1), .val (.ref a2), .val (.int (0 : Int32))] []))
  refine OGo.ret (Q := Qsb Z a1 a2 h0 n0) X_7 none (fun _ => rfl) Bd.notSynchronized (fun fs hr => X_7.returnOut hx Bd.returns (hb hby d4_14) hr) ?_ (by decide) (by decide)
  have f_10 : Fld Z h_7 a1 "java/lang/String" "value" "[B" (.ref a2) := (Fw_2.other W_7 (Or.inr (slot_ne (Or.inr (hw _ (List.mem_of_getElem? (i := 24) rfl))) (Or.inr (hw _ (List.mem_of_getElem? (i := 26) rfl))) (by decide) (t := (.array .byte)) (t' := .byte) (by decide) (by decide))))
  show Qsb Z a1 a2 h0 n0 _ T_7.heap _
  rw [e_7]
  exact ⟨rfl, N_7, K_9, f_10, Fw_7⟩
theorem d1_0 : decode jdk_42_method_139_code 0 = .ok (.getstatic 38, 3) := by decide +kernel
theorem d1_3 : decode jdk_42_method_139_code 3 = .ok (.ifCond .eq 23, 3) := by decide +kernel
theorem d1_6 : decode jdk_42_method_139_code 6 = .ok (.iload_n 0, 1) := by decide +kernel
theorem d1_7 : decode jdk_42_method_139_code 7 = .ok (.invokestatic 1015, 3) := by decide +kernel
theorem d1_10 : decode jdk_42_method_139_code 10 = .ok (.ifCond .eq 16, 3) := by decide +kernel
theorem d1_13 : decode jdk_42_method_139_code 13 = .ok (.new 10, 3) := by decide +kernel
theorem d1_16 : decode jdk_42_method_139_code 16 = .ok (.dup, 1) := by decide +kernel
theorem d1_17 : decode jdk_42_method_139_code 17 = .ok (.iload_n 0, 1) := by decide +kernel
theorem d1_18 : decode jdk_42_method_139_code 18 = .ok (.invokestatic 1018, 3) := by decide +kernel
theorem d1_21 : decode jdk_42_method_139_code 21 = .ok (.iconst 0, 1) := by decide +kernel
theorem d1_22 : decode jdk_42_method_139_code 22 = .ok (.invokespecial 209, 3) := by decide +kernel
theorem d1_25 : decode jdk_42_method_139_code 25 = .ok (.areturn, 1) := by decide +kernel
theorem ef_vo (m : MethodId) (x0 : Int32) : entryFrame m #[(.int x0)] 1 = mkF m 0 #[.val (.int x0)] [] := by first | (simp [entryFrame, mkF, argsToLocals, Value.category]; done) | rfl
def Qvo (Z : State) (p1 : Int32) (cs : Int32) (h0 : Heap) (n0 : Nat) (v : Option Value) (h : Heap) (L : List Loc) : Prop := ∃ (o : Addr), ∃ (b : Addr), ∃ (kb : ClassId), v = some (.ref o) ∧ Fr n0 L ∧ Keep h0 h [] ∧ n0 ≤ o ∧ h0.size ≤ o ∧ n0 ≤ b ∧ h0.size ≤ b ∧ Exa Z h o "java/lang/String" ∧ Fld Z h o "java/lang/String" "value" "[B" (.ref b) ∧ Fld Z h o "java/lang/String" "coder" "B" (.int (0 : Int32)) ∧ Arv Z h b kb .byte (1 : Int32) [(.int ((p1.toInt8.toInt32)).toInt8.toInt32)] (.int (0 : Int32)) ∧ o ≠ b
set_option maxRecDepth 65536 in
set_option maxHeartbeats 40000000 in
theorem rmvo (l : Launch) (Z : State) (a0 : Array Value) (hw : ∀ d ∈ tables_1, d.before a0 Z = true) (ws : List Jvm.Cond) (p1 : Int32) (cs : Int32) (h0 : Heap) (n0 : Nat) (Z0 : n0 ≤ h0.size) (SC : Sta Z Z.heap "java/lang/String" "COMPACT_STRINGS" "Z" (.int cs)) (O0 : Old Z n0 h0) (hcs : ¬ (cs = (0 : Int32))) (hx0 : ¬ ((255 : Int32) < p1)) :
    MetFree l (⟨"java/lang/String", "valueOf", "(C)Ljava/lang/String;"⟩ : MethodName) (head1 (Jvm.Cond.code (⟨"java/lang/String", "valueOf", "(C)Ljava/lang/String;"⟩ : MethodName) jdk_42_method_139_code 1 (some (.object "java/lang/String")) :: ws) ({ frames := 2, cells := 2, slots := 5, locals := 27 } : Room)) (fun a U => a = #[(.int p1)] ∧ Z.Warmed39 U.vm ∧ U.heap = h0) (fun _ _ _ _ _ => True) (fun _ U o U' => ∃ v L, o = .returned v ∧ Qvo Z p1 cs h0 n0 v U'.heap L ∧ FrameEnd U o U' L ({ frames := 2, cells := 2, slots := 5, locals := 27 } : Room).cells ({ frames := 2, cells := 2, slots := 5, locals := 27 } : Room).slots) := by
  refine MetFree.of_bodySF (plainFor_of_name pn_1) hisR ?_
  intro p e s m args below meth c s₁ Bd hml0 hP hK
  obtain ⟨rfl, hZ, hh⟩ := hP
  have hx := Bd.exec
  have hby := Bd.bytes
  have hml : c.maxLocals = 1 := hml0
  have hown : s.vm.findClass "java/lang/String" = some m.cls := findClass_of_methodNamed Bd.named
  have hnm := (name_of_methodNamed Bd.named Bd.method).1
  have X0 : Stand p l e ({ frames := 2, cells := 2, slots := 5, locals := 27 } : Room) s m #[(.int p1)] below meth c s₁ [] 0 0 := Stand.of_body Bd
  have e0 : s₁.heap = h0 := by rw [← hh, Bd.state]; rfl
  have N0 := Fr.nil n0
  show OGo p e below (fun s₂ o => ∃ v L, o = .returned v ∧ Qvo Z p1 cs h0 n0 v s₂.heap L ∧ FrameEnd s o s₂ L ({ frames := 2, cells := 2, slots := 5, locals := 27 } : Room).cells ({ frames := 2, cells := 2, slots := 5, locals := 27 } : Room).slots) _
  refine OGo.to (fun _ k => castTop (ef_vo m p1) k) ?_
  have f_1 : Sta Z h0 "java/lang/String" "COMPACT_STRINGS" "Z" (.int cs) := Sta.ext O0.2 SC
  obtain ⟨T_2, X_2, e_2, st_2⟩ := getS2 X0 hx hZ hown (host := "") (Or.inl (hw _ (List.mem_of_getElem? (i := 5) rfl))) Via.refl e0 f_1 (g := (mkF m 0 #[.val (.int p1)] [])) rfl (hb hby d1_0)
  refine OGo.to st_2 ?_
  show OGo p e below _ (T_2.setTop (mkF m 3 #[.val (.int p1)] [(.int cs)]))
  refine OGo.to (fun _ k => XS.ifNo X_2.here hx rfl (hb hby d1_3) rfl ((if0 _ _).trans (feq hcs).1) k) ?_
  show OGo p e below _ (T_2.setTop (mkF m 6 #[.val (.int p1)] []))
  refine OGo.to (fun _ k => XS.iloadN X_2.here hx rfl (hb hby d1_6) rfl k) ?_
  show OGo p e below _ (T_2.setTop (mkF m 7 #[.val (.int p1)] [(.int p1)]))
  obtain ⟨_, T_4, Lc_4, X_4, hQ_4, st_4⟩ := own_un X_2 (Q := Qce Z p1 h0 n0) (rc := 0) (rs := 0) (W := fun v B => ∀ target, Steps p.tables e below (B.setTop { (mkF m 7 #[.val (.int p1)] [(.int p1)]) with pc := 10, stack := v.toList ++ [] }) target → Steps p.tables e below (T_2.setTop (mkF m 7 #[.val (.int p1)] [(.int p1)])) target) <| Jvm.LawKit.callS X_2 hx (y := (⟨"java/lang/StringLatin1", "canEncode", "(C)Z"⟩ : MethodName)) hown (mvT hZ (hw _ (List.mem_of_getElem? (i := 6) rfl))) (mvT hZ (hw _ (List.mem_of_getElem? (i := 7) rfl))) (mvT hZ (hw _ (List.mem_of_getElem? (i := 8) rfl))) (mvT hZ (hw _ (List.mem_of_getElem? (i := 9) rfl))) (by decide) (backOf (W := 0) (rmce l Z a0 hw [] p1 h0 n0 Z0 (hx0)) hZ (hw _ (List.mem_of_getElem? (i := 9) rfl)) (hw _ (List.mem_of_getElem? (i := 8) rfl)) (by decide) (by decide)) (g := (mkF m 7 #[.val (.int p1)] [(.int p1)])) rfl (by rw [hml]; rfl) (argsL := [(.int p1)]) (rest := []) (lenOf pd_4 rfl) rfl (by show 2 * 0 + _ ≤ _; exact Nat.le_of_eq rfl) (hb hby d1_7) (fun _ _ => ⟨rfl, e_2, (by decide : 0 + 0 ≤ _), (by decide : 0 + 0 ≤ _)⟩)
  obtain ⟨rfl, N_4q, e_4⟩ := hQ_4
  have N_4 := Fr.app N0 N_4q
  refine OGo.to st_4 ?_
  show OGo p e below _ (T_4.setTop (mkF m 10 #[.val (.int p1)] [(.int (1 : Int32))]))
  have hc10__5 : ¬ ((1 : Int32) = (0 : Int32)) := by decide
  refine OGo.to (fun _ k => XS.ifNo X_4.here hx rfl (hb hby d1_10) rfl ((if0 _ _).trans (feq hc10__5).1) k) ?_
  show OGo p e below _ (T_4.setTop (mkF m 13 #[.val (.int p1)] []))
  obtain ⟨T_6, h_6, X_6, e_6, E_6, A_6, D_6, -, st_6⟩ := newO X_4 hx hZ hown (hw _ (List.mem_of_getElem? (i := 10) rfl)) (hw _ (List.mem_of_getElem? (i := 11) rfl)) (hw _ (List.mem_of_getElem? (i := 3) rfl)) e_4 (g := (mkF m 13 #[.val (.int p1)] [])) rfl (hb hby d1_13) (by decide) (by decide)
  obtain ⟨b_6, g_6⟩ : ∃ z, z = h0.size := ⟨_, rfl⟩
  rw [← g_6] at A_6 D_6 st_6
  have g_b_6 : n0 ≤ b_6 := Nat.le_trans Z0 (Nat.le_of_eq g_6.symm)
  have sz_b_6 : h0.size ≤ b_6 := Nat.le_trans (Keep.refl h0 []).1 (Nat.le_of_eq g_6.symm)
  refine OGo.to st_6 ?_
  have z_7 : n0 ≤ h_6.size := Nat.le_trans Z0 E_6.1
  have O_8 : Old Z n0 h_6 := O0.ext E_6
  have K_9 : Keep h0 h_6 [] := (Keep.refl h0 []).ext E_6
  have F_value_b_6 : Fld Z h_6 b_6 "java/lang/String" "value" "[B" .null := D_6 (Or.inr (hw _ (List.mem_of_getElem? (i := 24) rfl))) (ty := (.array .byte)) (by decide)
  have F_coder_b_6 : Fld Z h_6 b_6 "java/lang/String" "coder" "B" (.int (0 : Int32)) := D_6 (Or.inr (hw _ (List.mem_of_getElem? (i := 26) rfl))) (ty := .byte) (by decide)
  show OGo p e below _ (T_6.setTop (mkF m 16 #[.val (.int p1)] [(.ref b_6)]))
  refine OGo.to (fun _ k => XS.dup X_6.here hx rfl (hb hby d1_16) rfl rfl k) ?_
  show OGo p e below _ (T_6.setTop (mkF m 17 #[.val (.int p1)] [(.ref b_6), (.ref b_6)]))
  refine OGo.to (fun _ k => XS.iloadN X_6.here hx rfl (hb hby d1_17) rfl k) ?_
  show OGo p e below _ (T_6.setTop (mkF m 18 #[.val (.int p1)] [(.int p1), (.ref b_6), (.ref b_6)]))
  obtain ⟨_, T_10, Lc_10, X_10, hQ_10, st_10⟩ := own_un X_6 (Q := Qtb Z p1 h_6 n0) (rc := 1) (rs := 1) (W := fun v B => ∀ target, Steps p.tables e below (B.setTop { (mkF m 18 #[.val (.int p1)] [(.int p1), (.ref b_6), (.ref b_6)]) with pc := 21, stack := v.toList ++ [(.ref b_6), (.ref b_6)] }) target → Steps p.tables e below (T_6.setTop (mkF m 18 #[.val (.int p1)] [(.int p1), (.ref b_6), (.ref b_6)])) target) <| Jvm.LawKit.callS X_6 hx (y := (⟨"java/lang/StringLatin1", "toBytes", "(C)[B"⟩ : MethodName)) hown (mvT hZ (hw _ (List.mem_of_getElem? (i := 12) rfl))) (mvT hZ (hw _ (List.mem_of_getElem? (i := 13) rfl))) (mvT hZ (hw _ (List.mem_of_getElem? (i := 8) rfl))) (mvT hZ (hw _ (List.mem_of_getElem? (i := 14) rfl))) (by decide) (backOf (W := 2) (rmtb l Z a0 hw [] p1 h_6 n0 z_7 ) hZ (hw _ (List.mem_of_getElem? (i := 14) rfl)) (hw _ (List.mem_of_getElem? (i := 8) rfl)) (by decide) (by decide)) (g := (mkF m 18 #[.val (.int p1)] [(.int p1), (.ref b_6), (.ref b_6)])) rfl (by rw [hml]; rfl) (argsL := [(.int p1)]) (rest := [(.ref b_6), (.ref b_6)]) (lenOf pd_5 rfl) rfl (by show 2 * 0 + _ ≤ _; exact Nat.le_of_eq rfl) (hb hby d1_18) (fun _ _ => ⟨rfl, e_6, (by decide : 1 + 1 ≤ _), (by decide : 4 + 1 ≤ _)⟩)
  obtain ⟨b__10, kb__10, rfl, N_10q, K_10, gq_b__10, sq_b__10, p_10_0⟩ := hQ_10
  have N_10 := Fr.app N_4 N_10q
  refine OGo.to st_10 ?_
  have ne_b_6_b__10 : b_6 ≠ b__10 := Nat.ne_of_lt (Nat.lt_of_lt_of_le A_6.lt sq_b__10)
  have sz_b__10 : h0.size ≤ b__10 := Nat.le_trans K_9.1 sq_b__10
  have z_11 : n0 ≤ T_10.heap.size := Nat.le_trans z_7 K_10.1
  have O_12 : Old Z n0 T_10.heap := O_8.keep K_10 all0
  have K_13 : Keep h0 T_10.heap [] := K_9.trans K_10 (by simp)
  show OGo p e below _ (T_10.setTop (mkF m 21 #[.val (.int p1)] [(.ref b__10), (.ref b_6), (.ref b_6)]))
  refine OGo.to (fun _ k => XS.iconst X_10.here hx rfl (hb hby d1_21) k) ?_
  show OGo p e below _ (T_10.setTop (mkF m 22 #[.val (.int p1)] [(.int (0 : Int32)), (.ref b__10), (.ref b_6), (.ref b_6)]))
  have f_15 : Exa Z T_10.heap b_6 "java/lang/String" := (A_6.keep K_10)
  have f_16 : Fld Z T_10.heap b_6 "java/lang/String" "value" "[B" .null := (F_value_b_6.keep K_10 (List.not_mem_nil))
  have f_17 : Fld Z T_10.heap b_6 "java/lang/String" "coder" "B" (.int (0 : Int32)) := (F_coder_b_6.keep K_10 (List.not_mem_nil))
  obtain ⟨_, T_14, Lc_14, X_14, hQ_14, st_14⟩ := own_un X_10 (Q := Qsb Z b_6 b__10 T_10.heap n0) (rc := 0) (rs := 0) (W := fun v B => Steps p.tables e below (T_10.setTop (mkF m 22 #[.val (.int p1)] [(.int (0 : Int32)), (.ref b__10), (.ref b_6), (.ref b_6)])) (B.setTop { (mkF m 22 #[.val (.int p1)] [(.int (0 : Int32)), (.ref b__10), (.ref b_6), (.ref b_6)]) with pc := 25, stack := v.toList ++ [(.ref b_6)] })) <| X_10.specialBack hx (y := (⟨"java/lang/String", "<init>", "([BB)V"⟩ : MethodName)) rfl hown (mvT hZ (hw _ (List.mem_of_getElem? (i := 16) rfl))) (mvT hZ (hw _ (List.mem_of_getElem? (i := 17) rfl))) (mvT hZ (hw _ (List.mem_of_getElem? (i := 19) rfl))) (by decide) (backOf (W := 1) (rmsb l Z a0 hw [] b_6 b__10 T_10.heap n0 z_11 f_15 f_16 f_17 g_b_6) hZ (hw _ (List.mem_of_getElem? (i := 19) rfl)) (hw _ (List.mem_of_getElem? (i := 3) rfl)) (by decide) (by decide)) (g := (mkF m 22 #[.val (.int p1)] [(.int (0 : Int32)), (.ref b__10), (.ref b_6), (.ref b_6)])) rfl (by rw [hml]; rfl) (Steps.refl _) (a := b_6) (argsL := [(.ref b__10), (.int (0 : Int32))]) (rest := [(.ref b_6)]) (lenOf pd_6 rfl) rfl (by show 2 * 0 + _ ≤ _; exact Nat.le_of_eq rfl) (hb hby d1_22) (fun _ _ => ⟨rfl, (rfl : T_10.heap = T_10.heap), (by decide : 2 + 0 ≤ _), (by decide : 5 + 0 ≤ _)⟩)
  obtain ⟨rfl, N_14q, K_14, p_14_0, p_14_1⟩ := hQ_14
  have N_14 := Fr.app N_10 N_14q
  refine OGo.to (fun _ k => st_14.trans k) ?_
  have z_18 : n0 ≤ T_14.heap.size := Nat.le_trans z_11 K_14.1
  have O_19 : Old Z n0 T_14.heap := O_12.keep K_14 (allS g_b_6 all0)
  have K_20 : Keep h0 T_14.heap [] := K_13.trans K_14 (by intro x hx'; cases List.mem_singleton.mp hx'; exact (Or.inr sz_b_6))
  show OGo p e below _ (T_14.setTop (mkF m 25 #[.val (.int p1)] [(.ref b_6)]))
  refine OGo.ret (Q := Qvo Z p1 cs h0 n0) X_14 (some (.ref b_6)) (fun h => by rw [Bd.returns] at h; cases h) Bd.notSynchronized (fun fs hr => own_retA X_14 hx Bd.returns rfl rfl (hb hby d1_25) hr) ?_ (by decide) (by decide)
  have f_21 : Exa Z T_14.heap b_6 "java/lang/String" := (f_15.keep K_14)
  have f_22 : Arv Z T_14.heap b__10 kb__10 .byte (1 : Int32) [(.int ((p1.toInt8.toInt32)).toInt8.toInt32)] (.int (0 : Int32)) := (p_10_0.keep K_14 (fun q => (Ne.symm ne_b_6_b__10) (List.mem_singleton.mp q)))
  show Qvo Z p1 cs h0 n0 _ T_14.heap _
  exact ⟨b_6, b__10, kb__10, rfl, N_14, K_20, g_b_6, sz_b_6, gq_b__10, sz_b__10, f_21, p_14_0, p_14_1, f_22, ne_b_6_b__10⟩
theorem d12_0 : decode jdk_30_method_1_code 0 = .ok (.aload_n 0, 1) := by decide +kernel
theorem d12_1 : decode jdk_30_method_1_code 1 = .ok (.invokespecial 1, 3) := by decide +kernel
theorem d12_4 : decode jdk_30_method_1_code 4 = .ok (.return_, 1) := by decide +kernel
theorem ef_12 (m : MethodId) (x0 : Addr) : entryFrame m #[(.ref x0)] 1 = mkF m 0 #[.val (.ref x0)] [] := by first | (simp [entryFrame, mkF, argsToLocals, Value.category]; done) | rfl
def Q12 (Z : State) (a1 : Addr) (h0 : Heap) (n0 : Nat) (v : Option Value) (h : Heap) (L : List Loc) : Prop := v = none ∧ Fr n0 L ∧ h = h0
set_option maxRecDepth 65536 in
set_option maxHeartbeats 40000000 in
theorem rm12 (l : Launch) (Z : State) (a0 : Array Value) (hw : ∀ d ∈ tables_1, d.before a0 Z = true) (ws : List Jvm.Cond) (a1 : Addr) (h0 : Heap) (n0 : Nat) (Z0 : n0 ≤ h0.size) :
    MetFree l (⟨"java/lang/Record", "<init>", "()V"⟩ : MethodName) (head1 (Jvm.Cond.code (⟨"java/lang/Record", "<init>", "()V"⟩ : MethodName) jdk_30_method_1_code 1 none :: ws) ({ frames := 1, cells := 0, slots := 0, locals := 12 } : Room)) (fun a U => a = #[(.ref a1)] ∧ Z.Warmed39 U.vm ∧ U.heap = h0) (fun _ _ _ _ _ => True) (fun _ U o U' => ∃ v L, o = .returned v ∧ Q12 Z a1 h0 n0 v U'.heap L ∧ FrameEnd U o U' L ({ frames := 1, cells := 0, slots := 0, locals := 12 } : Room).cells ({ frames := 1, cells := 0, slots := 0, locals := 12 } : Room).slots) := by
  refine MetFree.of_bodySF (plainFor_of_name pn_3) hisR ?_
  intro p e s m args below meth c s₁ Bd hml0 hP hK
  obtain ⟨rfl, hZ, hh⟩ := hP
  have hx := Bd.exec
  have hby := Bd.bytes
  have hml : c.maxLocals = 1 := hml0
  have hown : s.vm.findClass "java/lang/Record" = some m.cls := findClass_of_methodNamed Bd.named
  have hnm := (name_of_methodNamed Bd.named Bd.method).1
  have X0 : Stand p l e ({ frames := 1, cells := 0, slots := 0, locals := 12 } : Room) s m #[(.ref a1)] below meth c s₁ [] 0 0 := Stand.of_body Bd
  have e0 : s₁.heap = h0 := by rw [← hh, Bd.state]; rfl
  have N0 := Fr.nil n0
  show OGo p e below (fun s₂ o => ∃ v L, o = .returned v ∧ Q12 Z a1 h0 n0 v s₂.heap L ∧ FrameEnd s o s₂ L ({ frames := 1, cells := 0, slots := 0, locals := 12 } : Room).cells ({ frames := 1, cells := 0, slots := 0, locals := 12 } : Room).slots) _
  refine OGo.to (fun _ k => castTop (ef_12 m a1) k) ?_
  refine OGo.to (fun _ k => XS.aloadN X0.here hx rfl (hb hby d12_0) rfl rfl k) ?_
  show OGo p e below _ (s₁.setTop (mkF m 1 #[.val (.ref a1)] [(.ref a1)]))
  obtain ⟨T_1, X_1, e_1, st_1⟩ := initO X0 hx hZ hown (hw _ (List.mem_of_getElem? (i := 55) rfl)) (hw _ (List.mem_of_getElem? (i := 21) rfl)) (hw _ (List.mem_of_getElem? (i := 22) rfl)) e0 (g := (mkF m 1 #[.val (.ref a1)] [(.ref a1)])) rfl (by rw [hml]; rfl) rfl (hb hby d12_1) (by decide) (W := 0) (by show 2 * 0 + _ ≤ _; exact Nat.le_of_eq rfl) (by decide)
  refine OGo.to st_1 ?_
  show OGo p e below _ (T_1.setTop (mkF m 4 #[.val (.ref a1)] []))
  refine OGo.ret (Q := Q12 Z a1 h0 n0) X_1 none (fun _ => rfl) Bd.notSynchronized (fun fs hr => X_1.returnOut hx Bd.returns (hb hby d12_4) hr) ?_ (by decide) (by decide)
  show Q12 Z a1 h0 n0 _ T_1.heap _
  rw [e_1]
  exact ⟨rfl, N0, rfl⟩
theorem d11_0 : decode prog_101_method_1_code 0 = .ok (.aload_n 0, 1) := by decide +kernel
theorem d11_1 : decode prog_101_method_1_code 1 = .ok (.invokespecial 1, 3) := by decide +kernel
theorem d11_4 : decode prog_101_method_1_code 4 = .ok (.aload_n 0, 1) := by decide +kernel
theorem d11_5 : decode prog_101_method_1_code 5 = .ok (.aload_n 1, 1) := by decide +kernel
theorem d11_6 : decode prog_101_method_1_code 6 = .ok (.putfield 7, 3) := by decide +kernel
theorem d11_9 : decode prog_101_method_1_code 9 = .ok (.aload_n 0, 1) := by decide +kernel
theorem d11_10 : decode prog_101_method_1_code 10 = .ok (.iload_n 2, 1) := by decide +kernel
theorem d11_11 : decode prog_101_method_1_code 11 = .ok (.putfield 13, 3) := by decide +kernel
theorem d11_14 : decode prog_101_method_1_code 14 = .ok (.aload_n 0, 1) := by decide +kernel
theorem d11_15 : decode prog_101_method_1_code 15 = .ok (.iload_n 3, 1) := by decide +kernel
theorem d11_16 : decode prog_101_method_1_code 16 = .ok (.putfield 17, 3) := by decide +kernel
theorem d11_19 : decode prog_101_method_1_code 19 = .ok (.return_, 1) := by decide +kernel
theorem ef_11 (m : MethodId) (x0 : Addr) (x1 : Addr) (x2 : Int32) (x3 : Int32) : entryFrame m #[(.ref x0), (.ref x1), (.int x2), (.int x3)] 4 = mkF m 0 #[.val (.ref x0), .val (.ref x1), .val (.int x2), .val (.int x3)] [] := by first | (simp [entryFrame, mkF, argsToLocals, Value.category]; done) | rfl
def Q11 (Z : State) (a1 : Addr) (a2 : Addr) (p1 : Int32) (p2 : Int32) (h0 : Heap) (n0 : Nat) (v : Option Value) (h : Heap) (L : List Loc) : Prop := v = none ∧ Fr n0 L ∧ Keep h0 h [a1]
set_option maxRecDepth 65536 in
set_option maxHeartbeats 40000000 in
theorem rm11 (l : Launch) (Z : State) (a0 : Array Value) (hw : ∀ d ∈ tables_1, d.before a0 Z = true) (ws : List Jvm.Cond) (a1 : Addr) (a2 : Addr) (p1 : Int32) (p2 : Int32) (h0 : Heap) (n0 : Nat) (Z0 : n0 ≤ h0.size) (E1 : Exa Z h0 a1 "com/example/dromos/dromos/model/Location") (F1 : Fld Z h0 a1 "com/example/dromos/dromos/model/Location" "file" "Ljava/lang/String;" .null) (F2 : Fld Z h0 a1 "com/example/dromos/dromos/model/Location" "line" "I" (.int (0 : Int32))) (F3 : Fld Z h0 a1 "com/example/dromos/dromos/model/Location" "column" "I" (.int (0 : Int32))) (g1 : n0 ≤ a1) :
    MetFree l (⟨"com/example/dromos/dromos/model/Location", "<init>", "(Ljava/lang/String;II)V"⟩ : MethodName) (head1 (Jvm.Cond.code (⟨"com/example/dromos/dromos/model/Location", "<init>", "(Ljava/lang/String;II)V"⟩ : MethodName) prog_101_method_1_code 4 none :: ws) ({ frames := 2, cells := 0, slots := 0, locals := 24 } : Room)) (fun a U => a = #[(.ref a1), (.ref a2), (.int p1), (.int p2)] ∧ Z.Warmed39 U.vm ∧ U.heap = h0) (fun _ _ _ _ _ => True) (fun _ U o U' => ∃ v L, o = .returned v ∧ Q11 Z a1 a2 p1 p2 h0 n0 v U'.heap L ∧ FrameEnd U o U' L ({ frames := 2, cells := 0, slots := 0, locals := 24 } : Room).cells ({ frames := 2, cells := 0, slots := 0, locals := 24 } : Room).slots) := by
  refine MetFree.of_bodySF (plainFor_of_name pn_4) hisR ?_
  intro p e s m args below meth c s₁ Bd hml0 hP hK
  obtain ⟨rfl, hZ, hh⟩ := hP
  have hx := Bd.exec
  have hby := Bd.bytes
  have hml : c.maxLocals = 4 := hml0
  have hown : s.vm.findClass "com/example/dromos/dromos/model/Location" = some m.cls := findClass_of_methodNamed Bd.named
  have hnm := (name_of_methodNamed Bd.named Bd.method).1
  have X0 : Stand p l e ({ frames := 2, cells := 0, slots := 0, locals := 24 } : Room) s m #[(.ref a1), (.ref a2), (.int p1), (.int p2)] below meth c s₁ [] 0 0 := Stand.of_body Bd
  have e0 : s₁.heap = h0 := by rw [← hh, Bd.state]; rfl
  have N0 := Fr.nil n0
  show OGo p e below (fun s₂ o => ∃ v L, o = .returned v ∧ Q11 Z a1 a2 p1 p2 h0 n0 v s₂.heap L ∧ FrameEnd s o s₂ L ({ frames := 2, cells := 0, slots := 0, locals := 24 } : Room).cells ({ frames := 2, cells := 0, slots := 0, locals := 24 } : Room).slots) _
  refine OGo.to (fun _ k => castTop (ef_11 m a1 a2 p1 p2) k) ?_
  refine OGo.to (fun _ k => XS.aloadN X0.here hx rfl (hb hby d11_0) rfl rfl k) ?_
  show OGo p e below _ (s₁.setTop (mkF m 1 #[.val (.ref a1), .val (.ref a2), .val (.int p1), .val (.int p2)] [(.ref a1)]))
  obtain ⟨_, T_1, Lc_1, X_1, hQ_1, st_1⟩ := own_un X0 (Q := Q12 Z a1 h0 n0) (rc := 0) (rs := 0) (W := fun v B => Steps p.tables e below (s₁.setTop (mkF m 1 #[.val (.ref a1), .val (.ref a2), .val (.int p1), .val (.int p2)] [(.ref a1)])) (B.setTop { (mkF m 1 #[.val (.ref a1), .val (.ref a2), .val (.int p1), .val (.int p2)] [(.ref a1)]) with pc := 4, stack := v.toList ++ [] })) <| X0.specialBack hx (y := (⟨"java/lang/Record", "<init>", "()V"⟩ : MethodName)) rfl hown (mvT hZ (hw _ (List.mem_of_getElem? (i := 50) rfl))) (mvT hZ (hw _ (List.mem_of_getElem? (i := 51) rfl))) (mvT hZ (hw _ (List.mem_of_getElem? (i := 54) rfl))) (by decide) (backOf (W := 0) (rm12 l Z a0 hw [] a1 h0 n0 Z0 ) hZ (hw _ (List.mem_of_getElem? (i := 54) rfl)) (hw _ (List.mem_of_getElem? (i := 53) rfl)) (by decide) (by decide)) (g := (mkF m 1 #[.val (.ref a1), .val (.ref a2), .val (.int p1), .val (.int p2)] [(.ref a1)])) rfl (by rw [hml]; rfl) (Steps.refl _) (a := a1) (argsL := []) (rest := []) (lenOf pd_7 rfl) rfl (by show 2 * 0 + _ ≤ _; exact Nat.le_of_eq rfl) (hb hby d11_1) (fun _ _ => ⟨rfl, e0, (by decide : 0 + 0 ≤ _), (by decide : 0 + 0 ≤ _)⟩)
  obtain ⟨rfl, N_1q, e_1⟩ := hQ_1
  have N_1 := Fr.app N0 N_1q
  refine OGo.to (fun _ k => st_1.trans k) ?_
  show OGo p e below _ (T_1.setTop (mkF m 4 #[.val (.ref a1), .val (.ref a2), .val (.int p1), .val (.int p2)] []))
  refine OGo.to (fun _ k => XS.aloadN X_1.here hx rfl (hb hby d11_4) rfl rfl k) ?_
  show OGo p e below _ (T_1.setTop (mkF m 5 #[.val (.ref a1), .val (.ref a2), .val (.int p1), .val (.int p2)] [(.ref a1)]))
  refine OGo.to (fun _ k => XS.aloadN X_1.here hx rfl (hb hby d11_5) rfl rfl k) ?_
  show OGo p e below _ (T_1.setTop (mkF m 6 #[.val (.ref a1), .val (.ref a2), .val (.int p1), .val (.int p2)] [(.ref a2), (.ref a1)]))
  obtain ⟨T_2, h_2, X_2, e_2, W_2, st_2⟩ := putF X_1 hx hZ hown (host := "") (Or.inl (hw _ (List.mem_of_getElem? (i := 56) rfl))) Via.refl e_1 F1 E1 (Or.inr ⟨(hw _ (List.mem_of_getElem? (i := 57) rfl)), rfl, hnm⟩) (hw _ (List.mem_of_getElem? (i := 28) rfl)) (ty := (.object "java/lang/String")) (by decide) rfl rfl (g := (mkF m 6 #[.val (.ref a1), .val (.ref a2), .val (.int p1), .val (.int p2)] [(.ref a2), (.ref a1)])) rfl rfl (hb hby d11_6)
  refine OGo.to st_2 ?_
  have Fw_2 : Fld Z h_2 a1 "com/example/dromos/dromos/model/Location" "file" "Ljava/lang/String;" (.ref a2) := F1.same W_2
  have N_2 := Fr.snoc X_2 N_1 g1
  have z_3 : n0 ≤ h_2.size := Nat.le_trans Z0 (Keep.of_wr W_2).1
  have K_4 : Keep h0 h_2 [a1] := (Keep.refl h0 [a1]).wr W_2 (Or.inl (List.mem_of_getElem? (i := 0) rfl))
  show OGo p e below _ (T_2.setTop (mkF m 9 #[.val (.ref a1), .val (.ref a2), .val (.int p1), .val (.int p2)] []))
  refine OGo.to (fun _ k => XS.aloadN X_2.here hx rfl (hb hby d11_9) rfl rfl k) ?_
  show OGo p e below _ (T_2.setTop (mkF m 10 #[.val (.ref a1), .val (.ref a2), .val (.int p1), .val (.int p2)] [(.ref a1)]))
  refine OGo.to (fun _ k => XS.iloadN X_2.here hx rfl (hb hby d11_10) rfl k) ?_
  show OGo p e below _ (T_2.setTop (mkF m 11 #[.val (.ref a1), .val (.ref a2), .val (.int p1), .val (.int p2)] [(.int p1), (.ref a1)]))
  have f_5 : Exa Z h_2 a1 "com/example/dromos/dromos/model/Location" := (E1.wr W_2)
  have f_6 : Fld Z h_2 a1 "com/example/dromos/dromos/model/Location" "line" "I" (.int (0 : Int32)) := (F2.other W_2 (Or.inr (slot_ne (Or.inr (hw _ (List.mem_of_getElem? (i := 59) rfl))) (Or.inr (hw _ (List.mem_of_getElem? (i := 57) rfl))) (by decide) (t := .int) (t' := (.object "java/lang/String")) (by decide) (by decide))))
  obtain ⟨T_7, h_7, X_7, e_7, W_7, st_7⟩ := putF X_2 hx hZ hown (host := "") (Or.inl (hw _ (List.mem_of_getElem? (i := 58) rfl))) Via.refl e_2 f_6 f_5 (Or.inr ⟨(hw _ (List.mem_of_getElem? (i := 59) rfl)), rfl, hnm⟩) (hw _ (List.mem_of_getElem? (i := 28) rfl)) (ty := .int) (by decide) rfl rfl (g := (mkF m 11 #[.val (.ref a1), .val (.ref a2), .val (.int p1), .val (.int p2)] [(.int p1), (.ref a1)])) rfl rfl (hb hby d11_11)
  refine OGo.to st_7 ?_
  have Fw_7 : Fld Z h_7 a1 "com/example/dromos/dromos/model/Location" "line" "I" (.int p1) := f_6.same W_7
  have N_7 := Fr.snoc X_7 N_2 g1
  have z_8 : n0 ≤ h_7.size := Nat.le_trans z_3 (Keep.of_wr W_7).1
  have K_9 : Keep h0 h_7 [a1] := K_4.wr W_7 (Or.inl (List.mem_of_getElem? (i := 0) rfl))
  show OGo p e below _ (T_7.setTop (mkF m 14 #[.val (.ref a1), .val (.ref a2), .val (.int p1), .val (.int p2)] []))
  refine OGo.to (fun _ k => XS.aloadN X_7.here hx rfl (hb hby d11_14) rfl rfl k) ?_
  show OGo p e below _ (T_7.setTop (mkF m 15 #[.val (.ref a1), .val (.ref a2), .val (.int p1), .val (.int p2)] [(.ref a1)]))
  refine OGo.to (fun _ k => XS.iloadN X_7.here hx rfl (hb hby d11_15) rfl k) ?_
  show OGo p e below _ (T_7.setTop (mkF m 16 #[.val (.ref a1), .val (.ref a2), .val (.int p1), .val (.int p2)] [(.int p2), (.ref a1)]))
  have f_10 : Exa Z h_7 a1 "com/example/dromos/dromos/model/Location" := (f_5.wr W_7)
  have f_11 : Fld Z h_7 a1 "com/example/dromos/dromos/model/Location" "column" "I" (.int (0 : Int32)) := ((F3.other W_2 (Or.inr (slot_ne (Or.inr (hw _ (List.mem_of_getElem? (i := 61) rfl))) (Or.inr (hw _ (List.mem_of_getElem? (i := 57) rfl))) (by decide) (t := .int) (t' := (.object "java/lang/String")) (by decide) (by decide)))).other W_7 (Or.inr (slot_ne (Or.inr (hw _ (List.mem_of_getElem? (i := 61) rfl))) (Or.inr (hw _ (List.mem_of_getElem? (i := 59) rfl))) (by decide) (t := .int) (t' := .int) (by decide) (by decide))))
  obtain ⟨T_12, h_12, X_12, e_12, W_12, st_12⟩ := putF X_7 hx hZ hown (host := "") (Or.inl (hw _ (List.mem_of_getElem? (i := 60) rfl))) Via.refl e_7 f_11 f_10 (Or.inr ⟨(hw _ (List.mem_of_getElem? (i := 61) rfl)), rfl, hnm⟩) (hw _ (List.mem_of_getElem? (i := 28) rfl)) (ty := .int) (by decide) rfl rfl (g := (mkF m 16 #[.val (.ref a1), .val (.ref a2), .val (.int p1), .val (.int p2)] [(.int p2), (.ref a1)])) rfl rfl (hb hby d11_16)
  refine OGo.to st_12 ?_
  have Fw_12 : Fld Z h_12 a1 "com/example/dromos/dromos/model/Location" "column" "I" (.int p2) := f_11.same W_12
  have N_12 := Fr.snoc X_12 N_7 g1
  have z_13 : n0 ≤ h_12.size := Nat.le_trans z_8 (Keep.of_wr W_12).1
  have K_14 : Keep h0 h_12 [a1] := K_9.wr W_12 (Or.inl (List.mem_of_getElem? (i := 0) rfl))
  show OGo p e below _ (T_12.setTop (mkF m 19 #[.val (.ref a1), .val (.ref a2), .val (.int p1), .val (.int p2)] []))
  refine OGo.ret (Q := Q11 Z a1 a2 p1 p2 h0 n0) X_12 none (fun _ => rfl) Bd.notSynchronized (fun fs hr => X_12.returnOut hx Bd.returns (hb hby d11_19) hr) ?_ (by decide) (by decide)
  show Q11 Z a1 a2 p1 p2 h0 n0 _ T_12.heap _
  rw [e_12]
  exact ⟨rfl, N_12, K_14⟩
theorem d13_0 : decode prog_165_method_2_code 0 = .ok (.aload_n 0, 1) := by decide +kernel
theorem d13_1 : decode prog_165_method_2_code 1 = .ok (.invokespecial 7, 3) := by decide +kernel
theorem d13_4 : decode prog_165_method_2_code 4 = .ok (.aload_n 0, 1) := by decide +kernel
theorem d13_5 : decode prog_165_method_2_code 5 = .ok (.iconst (-1), 1) := by decide +kernel
theorem d13_6 : decode prog_165_method_2_code 6 = .ok (.putfield 12, 3) := by decide +kernel
theorem d13_9 : decode prog_165_method_2_code 9 = .ok (.aload_n 0, 1) := by decide +kernel
theorem d13_10 : decode prog_165_method_2_code 10 = .ok (.iconst (-1), 1) := by decide +kernel
theorem d13_11 : decode prog_165_method_2_code 11 = .ok (.putfield 16, 3) := by decide +kernel
theorem d13_14 : decode prog_165_method_2_code 14 = .ok (.aload_n 0, 1) := by decide +kernel
theorem d13_15 : decode prog_165_method_2_code 15 = .ok (.iconst 0, 1) := by decide +kernel
theorem d13_16 : decode prog_165_method_2_code 16 = .ok (.newarray .int, 2) := by decide +kernel
theorem d13_18 : decode prog_165_method_2_code 18 = .ok (.putfield 19, 3) := by decide +kernel
theorem d13_21 : decode prog_165_method_2_code 21 = .ok (.aload_n 0, 1) := by decide +kernel
theorem d13_22 : decode prog_165_method_2_code 22 = .ok (.aload_n 1, 1) := by decide +kernel
theorem d13_23 : decode prog_165_method_2_code 23 = .ok (.putfield 23, 3) := by decide +kernel
theorem d13_26 : decode prog_165_method_2_code 26 = .ok (.aload_n 0, 1) := by decide +kernel
theorem d13_27 : decode prog_165_method_2_code 27 = .ok (.iload_n 2, 1) := by decide +kernel
theorem d13_28 : decode prog_165_method_2_code 28 = .ok (.putfield 27, 3) := by decide +kernel
theorem d13_31 : decode prog_165_method_2_code 31 = .ok (.aload_n 0, 1) := by decide +kernel
theorem d13_32 : decode prog_165_method_2_code 32 = .ok (.iload_n 3, 1) := by decide +kernel
theorem d13_33 : decode prog_165_method_2_code 33 = .ok (.putfield 30, 3) := by decide +kernel
theorem d13_36 : decode prog_165_method_2_code 36 = .ok (.aload_n 0, 1) := by decide +kernel
theorem d13_37 : decode prog_165_method_2_code 37 = .ok (.aload 4, 2) := by decide +kernel
theorem d13_39 : decode prog_165_method_2_code 39 = .ok (.putfield 33, 3) := by decide +kernel
theorem d13_42 : decode prog_165_method_2_code 42 = .ok (.aload_n 0, 1) := by decide +kernel
theorem d13_43 : decode prog_165_method_2_code 43 = .ok (.iload 5, 2) := by decide +kernel
theorem d13_45 : decode prog_165_method_2_code 45 = .ok (.putfield 37, 3) := by decide +kernel
theorem d13_48 : decode prog_165_method_2_code 48 = .ok (.return_, 1) := by decide +kernel
theorem ef_13 (m : MethodId) (x0 : Addr) (x1 : Addr) (x2 : Int32) (x3 : Int32) (x4 : Addr) (x5 : Int32) : entryFrame m #[(.ref x0), (.ref x1), (.int x2), (.int x3), (.ref x4), (.int x5)] 6 = mkF m 0 #[.val (.ref x0), .val (.ref x1), .val (.int x2), .val (.int x3), .val (.ref x4), .val (.int x5)] [] := by first | (simp [entryFrame, mkF, argsToLocals, Value.category]; done) | rfl
def Q13 (Z : State) (a1 : Addr) (a2 : Addr) (p1 : Int32) (p2 : Int32) (a3 : Addr) (p3 : Int32) (h0 : Heap) (n0 : Nat) (v : Option Value) (h : Heap) (L : List Loc) : Prop := v = none ∧ Fr n0 L ∧ Keep h0 h [a1] ∧ Fld Z h a1 "com/example/dromos/dromos/service/Definition" "arity" "I" (.int p1) ∧ Fld Z h a1 "com/example/dromos/dromos/service/Definition" "lexical" "Z" (.int p3) ∧ Fld Z h a1 "com/example/dromos/dromos/service/Definition" "bound" "I" (.int (-1 : Int32)) ∧ Fld Z h a1 "com/example/dromos/dromos/service/Definition" "free" "I" (.int (-1 : Int32)) ∧ Fld Z h a1 "com/example/dromos/dromos/service/Definition" "slots" "I" (.int (0 : Int32)) ∧ Fld Z h a1 "com/example/dromos/dromos/service/Definition" "recursive" "Z" (.int (0 : Int32)) ∧ Fld Z h a1 "com/example/dromos/dromos/service/Definition" "replacesVariable" "Z" (.int (0 : Int32))
set_option maxRecDepth 65536 in
set_option maxHeartbeats 40000000 in
theorem rm13 (l : Launch) (Z : State) (a0 : Array Value) (hw : ∀ d ∈ tables_1, d.before a0 Z = true) (ws : List Jvm.Cond) (a1 : Addr) (a2 : Addr) (p1 : Int32) (p2 : Int32) (a3 : Addr) (p3 : Int32) (h0 : Heap) (n0 : Nat) (Z0 : n0 ≤ h0.size) (E1 : Exa Z h0 a1 "com/example/dromos/dromos/service/Definition") (F0 : Fld Z h0 a1 "com/example/dromos/dromos/service/Definition" "bound" "I" (.int (0 : Int32))) (F1 : Fld Z h0 a1 "com/example/dromos/dromos/service/Definition" "free" "I" (.int (0 : Int32))) (F2 : Fld Z h0 a1 "com/example/dromos/dromos/service/Definition" "operators" "[I" .null) (F3 : Fld Z h0 a1 "com/example/dromos/dromos/service/Definition" "name" "Ljava/lang/String;" .null) (F4 : Fld Z h0 a1 "com/example/dromos/dromos/service/Definition" "arity" "I" (.int (0 : Int32))) (F5 : Fld Z h0 a1 "com/example/dromos/dromos/service/Definition" "hidden" "I" (.int (0 : Int32))) (F6 : Fld Z h0 a1 "com/example/dromos/dromos/service/Definition" "at" "Lcom/example/dromos/dromos/model/Location;" .null) (F7 : Fld Z h0 a1 "com/example/dromos/dromos/service/Definition" "lexical" "Z" (.int (0 : Int32))) (F8 : Fld Z h0 a1 "com/example/dromos/dromos/service/Definition" "slots" "I" (.int (0 : Int32))) (F9 : Fld Z h0 a1 "com/example/dromos/dromos/service/Definition" "recursive" "Z" (.int (0 : Int32))) (F10 : Fld Z h0 a1 "com/example/dromos/dromos/service/Definition" "replacesVariable" "Z" (.int (0 : Int32))) (g1 : n0 ≤ a1) (hb1 : p3 = (0 : Int32) ∨ p3 = (1 : Int32)) :
    MetFree l (⟨"com/example/dromos/dromos/service/Definition", "<init>", "(Ljava/lang/String;IILcom/example/dromos/dromos/model/Location;Z)V"⟩ : MethodName) (head1 (Jvm.Cond.code (⟨"com/example/dromos/dromos/service/Definition", "<init>", "(Ljava/lang/String;IILcom/example/dromos/dromos/model/Location;Z)V"⟩ : MethodName) prog_165_method_2_code 6 none :: ws) ({ frames := 1, cells := 1, slots := 0, locals := 12 } : Room)) (fun a U => a = #[(.ref a1), (.ref a2), (.int p1), (.int p2), (.ref a3), (.int p3)] ∧ Z.Warmed39 U.vm ∧ U.heap = h0) (fun _ _ _ _ _ => True) (fun _ U o U' => ∃ v L, o = .returned v ∧ Q13 Z a1 a2 p1 p2 a3 p3 h0 n0 v U'.heap L ∧ FrameEnd U o U' L ({ frames := 1, cells := 1, slots := 0, locals := 12 } : Room).cells ({ frames := 1, cells := 1, slots := 0, locals := 12 } : Room).slots) := by
  refine MetFree.of_bodySF (plainFor_of_name pn_5) hisR ?_
  intro p e s m args below meth c s₁ Bd hml0 hP hK
  obtain ⟨rfl, hZ, hh⟩ := hP
  have hx := Bd.exec
  have hby := Bd.bytes
  have hml : c.maxLocals = 6 := hml0
  have hown : s.vm.findClass "com/example/dromos/dromos/service/Definition" = some m.cls := findClass_of_methodNamed Bd.named
  have hnm := (name_of_methodNamed Bd.named Bd.method).1
  have X0 : Stand p l e ({ frames := 1, cells := 1, slots := 0, locals := 12 } : Room) s m #[(.ref a1), (.ref a2), (.int p1), (.int p2), (.ref a3), (.int p3)] below meth c s₁ [] 0 0 := Stand.of_body Bd
  have e0 : s₁.heap = h0 := by rw [← hh, Bd.state]; rfl
  have N0 := Fr.nil n0
  show OGo p e below (fun s₂ o => ∃ v L, o = .returned v ∧ Q13 Z a1 a2 p1 p2 a3 p3 h0 n0 v s₂.heap L ∧ FrameEnd s o s₂ L ({ frames := 1, cells := 1, slots := 0, locals := 12 } : Room).cells ({ frames := 1, cells := 1, slots := 0, locals := 12 } : Room).slots) _
  refine OGo.to (fun _ k => castTop (ef_13 m a1 a2 p1 p2 a3 p3) k) ?_
  refine OGo.to (fun _ k => XS.aloadN X0.here hx rfl (hb hby d13_0) rfl rfl k) ?_
  show OGo p e below _ (s₁.setTop (mkF m 1 #[.val (.ref a1), .val (.ref a2), .val (.int p1), .val (.int p2), .val (.ref a3), .val (.int p3)] [(.ref a1)]))
  obtain ⟨T_1, X_1, e_1, st_1⟩ := initO X0 hx hZ hown (hw _ (List.mem_of_getElem? (i := 68) rfl)) (hw _ (List.mem_of_getElem? (i := 21) rfl)) (hw _ (List.mem_of_getElem? (i := 22) rfl)) e0 (g := (mkF m 1 #[.val (.ref a1), .val (.ref a2), .val (.int p1), .val (.int p2), .val (.ref a3), .val (.int p3)] [(.ref a1)])) rfl (by rw [hml]; rfl) rfl (hb hby d13_1) (by decide) (W := 0) (by show 2 * 0 + _ ≤ _; exact Nat.le_of_eq rfl) (by decide)
  refine OGo.to st_1 ?_
  show OGo p e below _ (T_1.setTop (mkF m 4 #[.val (.ref a1), .val (.ref a2), .val (.int p1), .val (.int p2), .val (.ref a3), .val (.int p3)] []))
  refine OGo.to (fun _ k => XS.aloadN X_1.here hx rfl (hb hby d13_4) rfl rfl k) ?_
  show OGo p e below _ (T_1.setTop (mkF m 5 #[.val (.ref a1), .val (.ref a2), .val (.int p1), .val (.int p2), .val (.ref a3), .val (.int p3)] [(.ref a1)]))
  refine OGo.to (fun _ k => XS.iconst X_1.here hx rfl (hb hby d13_5) k) ?_
  show OGo p e below _ (T_1.setTop (mkF m 6 #[.val (.ref a1), .val (.ref a2), .val (.int p1), .val (.int p2), .val (.ref a3), .val (.int p3)] [(.int (-1 : Int32)), (.ref a1)]))
  obtain ⟨T_2, h_2, X_2, e_2, W_2, st_2⟩ := putF X_1 hx hZ hown (host := "") (Or.inl (hw _ (List.mem_of_getElem? (i := 69) rfl))) Via.refl e_1 F0 E1 (Or.inl (hw _ (List.mem_of_getElem? (i := 70) rfl))) (hw _ (List.mem_of_getElem? (i := 63) rfl)) (ty := .int) (by decide) rfl rfl (g := (mkF m 6 #[.val (.ref a1), .val (.ref a2), .val (.int p1), .val (.int p2), .val (.ref a3), .val (.int p3)] [(.int (-1 : Int32)), (.ref a1)])) rfl rfl (hb hby d13_6)
  refine OGo.to st_2 ?_
  have Fw_2 : Fld Z h_2 a1 "com/example/dromos/dromos/service/Definition" "bound" "I" (.int (-1 : Int32)) := F0.same W_2
  have N_2 := Fr.snoc X_2 N0 g1
  have z_3 : n0 ≤ h_2.size := Nat.le_trans Z0 (Keep.of_wr W_2).1
  have K_4 : Keep h0 h_2 [a1] := (Keep.refl h0 [a1]).wr W_2 (Or.inl (List.mem_of_getElem? (i := 0) rfl))
  show OGo p e below _ (T_2.setTop (mkF m 9 #[.val (.ref a1), .val (.ref a2), .val (.int p1), .val (.int p2), .val (.ref a3), .val (.int p3)] []))
  refine OGo.to (fun _ k => XS.aloadN X_2.here hx rfl (hb hby d13_9) rfl rfl k) ?_
  show OGo p e below _ (T_2.setTop (mkF m 10 #[.val (.ref a1), .val (.ref a2), .val (.int p1), .val (.int p2), .val (.ref a3), .val (.int p3)] [(.ref a1)]))
  refine OGo.to (fun _ k => XS.iconst X_2.here hx rfl (hb hby d13_10) k) ?_
  show OGo p e below _ (T_2.setTop (mkF m 11 #[.val (.ref a1), .val (.ref a2), .val (.int p1), .val (.int p2), .val (.ref a3), .val (.int p3)] [(.int (-1 : Int32)), (.ref a1)]))
  have f_5 : Exa Z h_2 a1 "com/example/dromos/dromos/service/Definition" := (E1.wr W_2)
  have f_6 : Fld Z h_2 a1 "com/example/dromos/dromos/service/Definition" "free" "I" (.int (0 : Int32)) := (F1.other W_2 (Or.inr (slot_ne (Or.inl (hw _ (List.mem_of_getElem? (i := 72) rfl))) (Or.inl (hw _ (List.mem_of_getElem? (i := 70) rfl))) (by decide) (t := .int) (t' := .int) (by decide) (by decide))))
  obtain ⟨T_7, h_7, X_7, e_7, W_7, st_7⟩ := putF X_2 hx hZ hown (host := "") (Or.inl (hw _ (List.mem_of_getElem? (i := 71) rfl))) Via.refl e_2 f_6 f_5 (Or.inl (hw _ (List.mem_of_getElem? (i := 72) rfl))) (hw _ (List.mem_of_getElem? (i := 63) rfl)) (ty := .int) (by decide) rfl rfl (g := (mkF m 11 #[.val (.ref a1), .val (.ref a2), .val (.int p1), .val (.int p2), .val (.ref a3), .val (.int p3)] [(.int (-1 : Int32)), (.ref a1)])) rfl rfl (hb hby d13_11)
  refine OGo.to st_7 ?_
  have Fw_7 : Fld Z h_7 a1 "com/example/dromos/dromos/service/Definition" "free" "I" (.int (-1 : Int32)) := f_6.same W_7
  have N_7 := Fr.snoc X_7 N_2 g1
  have z_8 : n0 ≤ h_7.size := Nat.le_trans z_3 (Keep.of_wr W_7).1
  have K_9 : Keep h0 h_7 [a1] := K_4.wr W_7 (Or.inl (List.mem_of_getElem? (i := 0) rfl))
  show OGo p e below _ (T_7.setTop (mkF m 14 #[.val (.ref a1), .val (.ref a2), .val (.int p1), .val (.int p2), .val (.ref a3), .val (.int p3)] []))
  refine OGo.to (fun _ k => XS.aloadN X_7.here hx rfl (hb hby d13_14) rfl rfl k) ?_
  show OGo p e below _ (T_7.setTop (mkF m 15 #[.val (.ref a1), .val (.ref a2), .val (.int p1), .val (.int p2), .val (.ref a3), .val (.int p3)] [(.ref a1)]))
  refine OGo.to (fun _ k => XS.iconst X_7.here hx rfl (hb hby d13_15) k) ?_
  show OGo p e below _ (T_7.setTop (mkF m 16 #[.val (.ref a1), .val (.ref a2), .val (.int p1), .val (.int p2), .val (.ref a3), .val (.int p3)] [(.int (0 : Int32)), (.ref a1)]))
  have f_11 : Exa Z h_7 a1 "com/example/dromos/dromos/service/Definition" := (f_5.wr W_7)
  obtain ⟨T_10, h_10, k_10, X_10, e_10, E_10, A_10, st_10⟩ := newP X_7 hx hZ (hw _ (List.mem_of_getElem? (i := 73) rfl)) e_7 (g := (mkF m 16 #[.val (.ref a1), .val (.ref a2), .val (.int p1), .val (.int p2), .val (.ref a3), .val (.int p3)] [(.int (0 : Int32)), (.ref a1)])) rfl (hb hby d13_16) rfl (by decide) (cap := 0) (by decide) (by decide) (by decide) (by decide)
  obtain ⟨b_10, g_10⟩ : ∃ z, z = h_7.size := ⟨_, rfl⟩
  rw [← g_10] at A_10 st_10
  have g_b_10 : n0 ≤ b_10 := Nat.le_trans z_8 (Nat.le_of_eq g_10.symm)
  have sz_b_10 : h0.size ≤ b_10 := Nat.le_trans K_9.1 (Nat.le_of_eq g_10.symm)
  refine OGo.to st_10 ?_
  have ne_a1_b_10 : a1 ≠ b_10 := Nat.ne_of_lt (Nat.lt_of_lt_of_le f_11.lt (Nat.le_of_eq g_10.symm))
  have z_12 : n0 ≤ h_10.size := Nat.le_trans z_8 E_10.1
  have K_13 : Keep h0 h_10 [a1] := K_9.ext E_10
  have V_10 : Arv Z h_10 b_10 k_10 .int (0 : Int32) [] (.int (0 : Int32)) := (Arv.new A_10 (by decide)).pad (pad_rep [] (.int (0 : Int32)) 0)
  show OGo p e below _ (T_10.setTop (mkF m 18 #[.val (.ref a1), .val (.ref a2), .val (.int p1), .val (.int p2), .val (.ref a3), .val (.int p3)] [(.ref b_10), (.ref a1)]))
  have f_14 : Exa Z h_10 a1 "com/example/dromos/dromos/service/Definition" := (f_11.ext E_10)
  have f_15 : Fld Z h_10 a1 "com/example/dromos/dromos/service/Definition" "operators" "[I" .null := (((F2.other W_2 (Or.inr (slot_ne (Or.inl (hw _ (List.mem_of_getElem? (i := 75) rfl))) (Or.inl (hw _ (List.mem_of_getElem? (i := 70) rfl))) (by decide) (t := (.array .int)) (t' := .int) (by decide) (by decide)))).other W_7 (Or.inr (slot_ne (Or.inl (hw _ (List.mem_of_getElem? (i := 75) rfl))) (Or.inl (hw _ (List.mem_of_getElem? (i := 72) rfl))) (by decide) (t := (.array .int)) (t' := .int) (by decide) (by decide)))).ext E_10)
  obtain ⟨T_16, h_16, X_16, e_16, W_16, st_16⟩ := putF X_10 hx hZ hown (host := "") (Or.inl (hw _ (List.mem_of_getElem? (i := 74) rfl))) Via.refl e_10 f_15 f_14 (Or.inl (hw _ (List.mem_of_getElem? (i := 75) rfl))) (hw _ (List.mem_of_getElem? (i := 63) rfl)) (ty := (.array .int)) (by decide) rfl rfl (g := (mkF m 18 #[.val (.ref a1), .val (.ref a2), .val (.int p1), .val (.int p2), .val (.ref a3), .val (.int p3)] [(.ref b_10), (.ref a1)])) rfl rfl (hb hby d13_18)
  refine OGo.to st_16 ?_
  have Fw_16 : Fld Z h_16 a1 "com/example/dromos/dromos/service/Definition" "operators" "[I" (.ref b_10) := f_15.same W_16
  have N_16 := Fr.snoc X_16 N_7 g1
  have z_17 : n0 ≤ h_16.size := Nat.le_trans z_12 (Keep.of_wr W_16).1
  have K_18 : Keep h0 h_16 [a1] := K_13.wr W_16 (Or.inl (List.mem_of_getElem? (i := 0) rfl))
  show OGo p e below _ (T_16.setTop (mkF m 21 #[.val (.ref a1), .val (.ref a2), .val (.int p1), .val (.int p2), .val (.ref a3), .val (.int p3)] []))
  refine OGo.to (fun _ k => XS.aloadN X_16.here hx rfl (hb hby d13_21) rfl rfl k) ?_
  show OGo p e below _ (T_16.setTop (mkF m 22 #[.val (.ref a1), .val (.ref a2), .val (.int p1), .val (.int p2), .val (.ref a3), .val (.int p3)] [(.ref a1)]))
  refine OGo.to (fun _ k => XS.aloadN X_16.here hx rfl (hb hby d13_22) rfl rfl k) ?_
  show OGo p e below _ (T_16.setTop (mkF m 23 #[.val (.ref a1), .val (.ref a2), .val (.int p1), .val (.int p2), .val (.ref a3), .val (.int p3)] [(.ref a2), (.ref a1)]))
  have f_19 : Exa Z h_16 a1 "com/example/dromos/dromos/service/Definition" := (f_14.wr W_16)
  have f_20 : Fld Z h_16 a1 "com/example/dromos/dromos/service/Definition" "name" "Ljava/lang/String;" .null := ((((F3.other W_2 (Or.inr (slot_ne (Or.inr (hw _ (List.mem_of_getElem? (i := 77) rfl))) (Or.inl (hw _ (List.mem_of_getElem? (i := 70) rfl))) (by decide) (t := (.object "java/lang/String")) (t' := .int) (by decide) (by decide)))).other W_7 (Or.inr (slot_ne (Or.inr (hw _ (List.mem_of_getElem? (i := 77) rfl))) (Or.inl (hw _ (List.mem_of_getElem? (i := 72) rfl))) (by decide) (t := (.object "java/lang/String")) (t' := .int) (by decide) (by decide)))).ext E_10).other W_16 (Or.inr (slot_ne (Or.inr (hw _ (List.mem_of_getElem? (i := 77) rfl))) (Or.inl (hw _ (List.mem_of_getElem? (i := 75) rfl))) (by decide) (t := (.object "java/lang/String")) (t' := (.array .int)) (by decide) (by decide))))
  obtain ⟨T_21, h_21, X_21, e_21, W_21, st_21⟩ := putF X_16 hx hZ hown (host := "") (Or.inl (hw _ (List.mem_of_getElem? (i := 76) rfl))) Via.refl e_16 f_20 f_19 (Or.inr ⟨(hw _ (List.mem_of_getElem? (i := 77) rfl)), rfl, hnm⟩) (hw _ (List.mem_of_getElem? (i := 63) rfl)) (ty := (.object "java/lang/String")) (by decide) rfl rfl (g := (mkF m 23 #[.val (.ref a1), .val (.ref a2), .val (.int p1), .val (.int p2), .val (.ref a3), .val (.int p3)] [(.ref a2), (.ref a1)])) rfl rfl (hb hby d13_23)
  refine OGo.to st_21 ?_
  have Fw_21 : Fld Z h_21 a1 "com/example/dromos/dromos/service/Definition" "name" "Ljava/lang/String;" (.ref a2) := f_20.same W_21
  have N_21 := Fr.snoc X_21 N_16 g1
  have z_22 : n0 ≤ h_21.size := Nat.le_trans z_17 (Keep.of_wr W_21).1
  have K_23 : Keep h0 h_21 [a1] := K_18.wr W_21 (Or.inl (List.mem_of_getElem? (i := 0) rfl))
  show OGo p e below _ (T_21.setTop (mkF m 26 #[.val (.ref a1), .val (.ref a2), .val (.int p1), .val (.int p2), .val (.ref a3), .val (.int p3)] []))
  refine OGo.to (fun _ k => XS.aloadN X_21.here hx rfl (hb hby d13_26) rfl rfl k) ?_
  show OGo p e below _ (T_21.setTop (mkF m 27 #[.val (.ref a1), .val (.ref a2), .val (.int p1), .val (.int p2), .val (.ref a3), .val (.int p3)] [(.ref a1)]))
  refine OGo.to (fun _ k => XS.iloadN X_21.here hx rfl (hb hby d13_27) rfl k) ?_
  show OGo p e below _ (T_21.setTop (mkF m 28 #[.val (.ref a1), .val (.ref a2), .val (.int p1), .val (.int p2), .val (.ref a3), .val (.int p3)] [(.int p1), (.ref a1)]))
  have f_24 : Exa Z h_21 a1 "com/example/dromos/dromos/service/Definition" := (f_19.wr W_21)
  have f_25 : Fld Z h_21 a1 "com/example/dromos/dromos/service/Definition" "arity" "I" (.int (0 : Int32)) := (((((F4.other W_2 (Or.inr (slot_ne (Or.inr (hw _ (List.mem_of_getElem? (i := 79) rfl))) (Or.inl (hw _ (List.mem_of_getElem? (i := 70) rfl))) (by decide) (t := .int) (t' := .int) (by decide) (by decide)))).other W_7 (Or.inr (slot_ne (Or.inr (hw _ (List.mem_of_getElem? (i := 79) rfl))) (Or.inl (hw _ (List.mem_of_getElem? (i := 72) rfl))) (by decide) (t := .int) (t' := .int) (by decide) (by decide)))).ext E_10).other W_16 (Or.inr (slot_ne (Or.inr (hw _ (List.mem_of_getElem? (i := 79) rfl))) (Or.inl (hw _ (List.mem_of_getElem? (i := 75) rfl))) (by decide) (t := .int) (t' := (.array .int)) (by decide) (by decide)))).other W_21 (Or.inr (slot_ne (Or.inr (hw _ (List.mem_of_getElem? (i := 79) rfl))) (Or.inr (hw _ (List.mem_of_getElem? (i := 77) rfl))) (by decide) (t := .int) (t' := (.object "java/lang/String")) (by decide) (by decide))))
  obtain ⟨T_26, h_26, X_26, e_26, W_26, st_26⟩ := putF X_21 hx hZ hown (host := "") (Or.inl (hw _ (List.mem_of_getElem? (i := 78) rfl))) Via.refl e_21 f_25 f_24 (Or.inr ⟨(hw _ (List.mem_of_getElem? (i := 79) rfl)), rfl, hnm⟩) (hw _ (List.mem_of_getElem? (i := 63) rfl)) (ty := .int) (by decide) rfl rfl (g := (mkF m 28 #[.val (.ref a1), .val (.ref a2), .val (.int p1), .val (.int p2), .val (.ref a3), .val (.int p3)] [(.int p1), (.ref a1)])) rfl rfl (hb hby d13_28)
  refine OGo.to st_26 ?_
  have Fw_26 : Fld Z h_26 a1 "com/example/dromos/dromos/service/Definition" "arity" "I" (.int p1) := f_25.same W_26
  have N_26 := Fr.snoc X_26 N_21 g1
  have z_27 : n0 ≤ h_26.size := Nat.le_trans z_22 (Keep.of_wr W_26).1
  have K_28 : Keep h0 h_26 [a1] := K_23.wr W_26 (Or.inl (List.mem_of_getElem? (i := 0) rfl))
  show OGo p e below _ (T_26.setTop (mkF m 31 #[.val (.ref a1), .val (.ref a2), .val (.int p1), .val (.int p2), .val (.ref a3), .val (.int p3)] []))
  refine OGo.to (fun _ k => XS.aloadN X_26.here hx rfl (hb hby d13_31) rfl rfl k) ?_
  show OGo p e below _ (T_26.setTop (mkF m 32 #[.val (.ref a1), .val (.ref a2), .val (.int p1), .val (.int p2), .val (.ref a3), .val (.int p3)] [(.ref a1)]))
  refine OGo.to (fun _ k => XS.iloadN X_26.here hx rfl (hb hby d13_32) rfl k) ?_
  show OGo p e below _ (T_26.setTop (mkF m 33 #[.val (.ref a1), .val (.ref a2), .val (.int p1), .val (.int p2), .val (.ref a3), .val (.int p3)] [(.int p2), (.ref a1)]))
  have f_29 : Exa Z h_26 a1 "com/example/dromos/dromos/service/Definition" := (f_24.wr W_26)
  have f_30 : Fld Z h_26 a1 "com/example/dromos/dromos/service/Definition" "hidden" "I" (.int (0 : Int32)) := ((((((F5.other W_2 (Or.inr (slot_ne (Or.inr (hw _ (List.mem_of_getElem? (i := 81) rfl))) (Or.inl (hw _ (List.mem_of_getElem? (i := 70) rfl))) (by decide) (t := .int) (t' := .int) (by decide) (by decide)))).other W_7 (Or.inr (slot_ne (Or.inr (hw _ (List.mem_of_getElem? (i := 81) rfl))) (Or.inl (hw _ (List.mem_of_getElem? (i := 72) rfl))) (by decide) (t := .int) (t' := .int) (by decide) (by decide)))).ext E_10).other W_16 (Or.inr (slot_ne (Or.inr (hw _ (List.mem_of_getElem? (i := 81) rfl))) (Or.inl (hw _ (List.mem_of_getElem? (i := 75) rfl))) (by decide) (t := .int) (t' := (.array .int)) (by decide) (by decide)))).other W_21 (Or.inr (slot_ne (Or.inr (hw _ (List.mem_of_getElem? (i := 81) rfl))) (Or.inr (hw _ (List.mem_of_getElem? (i := 77) rfl))) (by decide) (t := .int) (t' := (.object "java/lang/String")) (by decide) (by decide)))).other W_26 (Or.inr (slot_ne (Or.inr (hw _ (List.mem_of_getElem? (i := 81) rfl))) (Or.inr (hw _ (List.mem_of_getElem? (i := 79) rfl))) (by decide) (t := .int) (t' := .int) (by decide) (by decide))))
  obtain ⟨T_31, h_31, X_31, e_31, W_31, st_31⟩ := putF X_26 hx hZ hown (host := "") (Or.inl (hw _ (List.mem_of_getElem? (i := 80) rfl))) Via.refl e_26 f_30 f_29 (Or.inr ⟨(hw _ (List.mem_of_getElem? (i := 81) rfl)), rfl, hnm⟩) (hw _ (List.mem_of_getElem? (i := 63) rfl)) (ty := .int) (by decide) rfl rfl (g := (mkF m 33 #[.val (.ref a1), .val (.ref a2), .val (.int p1), .val (.int p2), .val (.ref a3), .val (.int p3)] [(.int p2), (.ref a1)])) rfl rfl (hb hby d13_33)
  refine OGo.to st_31 ?_
  have Fw_31 : Fld Z h_31 a1 "com/example/dromos/dromos/service/Definition" "hidden" "I" (.int p2) := f_30.same W_31
  have N_31 := Fr.snoc X_31 N_26 g1
  have z_32 : n0 ≤ h_31.size := Nat.le_trans z_27 (Keep.of_wr W_31).1
  have K_33 : Keep h0 h_31 [a1] := K_28.wr W_31 (Or.inl (List.mem_of_getElem? (i := 0) rfl))
  show OGo p e below _ (T_31.setTop (mkF m 36 #[.val (.ref a1), .val (.ref a2), .val (.int p1), .val (.int p2), .val (.ref a3), .val (.int p3)] []))
  refine OGo.to (fun _ k => XS.aloadN X_31.here hx rfl (hb hby d13_36) rfl rfl k) ?_
  show OGo p e below _ (T_31.setTop (mkF m 37 #[.val (.ref a1), .val (.ref a2), .val (.int p1), .val (.int p2), .val (.ref a3), .val (.int p3)] [(.ref a1)]))
  refine OGo.to (fun _ k => XS.aload X_31.here hx rfl (hb hby d13_37) rfl rfl k) ?_
  show OGo p e below _ (T_31.setTop (mkF m 39 #[.val (.ref a1), .val (.ref a2), .val (.int p1), .val (.int p2), .val (.ref a3), .val (.int p3)] [(.ref a3), (.ref a1)]))
  have f_34 : Exa Z h_31 a1 "com/example/dromos/dromos/service/Definition" := (f_29.wr W_31)
  have f_35 : Fld Z h_31 a1 "com/example/dromos/dromos/service/Definition" "at" "Lcom/example/dromos/dromos/model/Location;" .null := (((((((F6.other W_2 (Or.inr (slot_ne (Or.inr (hw _ (List.mem_of_getElem? (i := 83) rfl))) (Or.inl (hw _ (List.mem_of_getElem? (i := 70) rfl))) (by decide) (t := (.object "com/example/dromos/dromos/model/Location")) (t' := .int) (by decide) (by decide)))).other W_7 (Or.inr (slot_ne (Or.inr (hw _ (List.mem_of_getElem? (i := 83) rfl))) (Or.inl (hw _ (List.mem_of_getElem? (i := 72) rfl))) (by decide) (t := (.object "com/example/dromos/dromos/model/Location")) (t' := .int) (by decide) (by decide)))).ext E_10).other W_16 (Or.inr (slot_ne (Or.inr (hw _ (List.mem_of_getElem? (i := 83) rfl))) (Or.inl (hw _ (List.mem_of_getElem? (i := 75) rfl))) (by decide) (t := (.object "com/example/dromos/dromos/model/Location")) (t' := (.array .int)) (by decide) (by decide)))).other W_21 (Or.inr (slot_ne (Or.inr (hw _ (List.mem_of_getElem? (i := 83) rfl))) (Or.inr (hw _ (List.mem_of_getElem? (i := 77) rfl))) (by decide) (t := (.object "com/example/dromos/dromos/model/Location")) (t' := (.object "java/lang/String")) (by decide) (by decide)))).other W_26 (Or.inr (slot_ne (Or.inr (hw _ (List.mem_of_getElem? (i := 83) rfl))) (Or.inr (hw _ (List.mem_of_getElem? (i := 79) rfl))) (by decide) (t := (.object "com/example/dromos/dromos/model/Location")) (t' := .int) (by decide) (by decide)))).other W_31 (Or.inr (slot_ne (Or.inr (hw _ (List.mem_of_getElem? (i := 83) rfl))) (Or.inr (hw _ (List.mem_of_getElem? (i := 81) rfl))) (by decide) (t := (.object "com/example/dromos/dromos/model/Location")) (t' := .int) (by decide) (by decide))))
  obtain ⟨T_36, h_36, X_36, e_36, W_36, st_36⟩ := putF X_31 hx hZ hown (host := "") (Or.inl (hw _ (List.mem_of_getElem? (i := 82) rfl))) Via.refl e_31 f_35 f_34 (Or.inr ⟨(hw _ (List.mem_of_getElem? (i := 83) rfl)), rfl, hnm⟩) (hw _ (List.mem_of_getElem? (i := 63) rfl)) (ty := (.object "com/example/dromos/dromos/model/Location")) (by decide) rfl rfl (g := (mkF m 39 #[.val (.ref a1), .val (.ref a2), .val (.int p1), .val (.int p2), .val (.ref a3), .val (.int p3)] [(.ref a3), (.ref a1)])) rfl rfl (hb hby d13_39)
  refine OGo.to st_36 ?_
  have Fw_36 : Fld Z h_36 a1 "com/example/dromos/dromos/service/Definition" "at" "Lcom/example/dromos/dromos/model/Location;" (.ref a3) := f_35.same W_36
  have N_36 := Fr.snoc X_36 N_31 g1
  have z_37 : n0 ≤ h_36.size := Nat.le_trans z_32 (Keep.of_wr W_36).1
  have K_38 : Keep h0 h_36 [a1] := K_33.wr W_36 (Or.inl (List.mem_of_getElem? (i := 0) rfl))
  show OGo p e below _ (T_36.setTop (mkF m 42 #[.val (.ref a1), .val (.ref a2), .val (.int p1), .val (.int p2), .val (.ref a3), .val (.int p3)] []))
  refine OGo.to (fun _ k => XS.aloadN X_36.here hx rfl (hb hby d13_42) rfl rfl k) ?_
  show OGo p e below _ (T_36.setTop (mkF m 43 #[.val (.ref a1), .val (.ref a2), .val (.int p1), .val (.int p2), .val (.ref a3), .val (.int p3)] [(.ref a1)]))
  refine OGo.to (fun _ k => XS.iload X_36.here hx rfl (hb hby d13_43) rfl k) ?_
  show OGo p e below _ (T_36.setTop (mkF m 45 #[.val (.ref a1), .val (.ref a2), .val (.int p1), .val (.int p2), .val (.ref a3), .val (.int p3)] [(.int p3), (.ref a1)]))
  have f_39 : Exa Z h_36 a1 "com/example/dromos/dromos/service/Definition" := (f_34.wr W_36)
  have f_40 : Fld Z h_36 a1 "com/example/dromos/dromos/service/Definition" "lexical" "Z" (.int (0 : Int32)) := ((((((((F7.other W_2 (Or.inr (slot_ne (Or.inr (hw _ (List.mem_of_getElem? (i := 85) rfl))) (Or.inl (hw _ (List.mem_of_getElem? (i := 70) rfl))) (by decide) (t := .boolean) (t' := .int) (by decide) (by decide)))).other W_7 (Or.inr (slot_ne (Or.inr (hw _ (List.mem_of_getElem? (i := 85) rfl))) (Or.inl (hw _ (List.mem_of_getElem? (i := 72) rfl))) (by decide) (t := .boolean) (t' := .int) (by decide) (by decide)))).ext E_10).other W_16 (Or.inr (slot_ne (Or.inr (hw _ (List.mem_of_getElem? (i := 85) rfl))) (Or.inl (hw _ (List.mem_of_getElem? (i := 75) rfl))) (by decide) (t := .boolean) (t' := (.array .int)) (by decide) (by decide)))).other W_21 (Or.inr (slot_ne (Or.inr (hw _ (List.mem_of_getElem? (i := 85) rfl))) (Or.inr (hw _ (List.mem_of_getElem? (i := 77) rfl))) (by decide) (t := .boolean) (t' := (.object "java/lang/String")) (by decide) (by decide)))).other W_26 (Or.inr (slot_ne (Or.inr (hw _ (List.mem_of_getElem? (i := 85) rfl))) (Or.inr (hw _ (List.mem_of_getElem? (i := 79) rfl))) (by decide) (t := .boolean) (t' := .int) (by decide) (by decide)))).other W_31 (Or.inr (slot_ne (Or.inr (hw _ (List.mem_of_getElem? (i := 85) rfl))) (Or.inr (hw _ (List.mem_of_getElem? (i := 81) rfl))) (by decide) (t := .boolean) (t' := .int) (by decide) (by decide)))).other W_36 (Or.inr (slot_ne (Or.inr (hw _ (List.mem_of_getElem? (i := 85) rfl))) (Or.inr (hw _ (List.mem_of_getElem? (i := 83) rfl))) (by decide) (t := .boolean) (t' := (.object "com/example/dromos/dromos/model/Location")) (by decide) (by decide))))
  obtain ⟨T_41, h_41, X_41, e_41, W_41, st_41⟩ := putF X_36 hx hZ hown (host := "") (Or.inl (hw _ (List.mem_of_getElem? (i := 84) rfl))) Via.refl e_36 f_40 f_39 (Or.inr ⟨(hw _ (List.mem_of_getElem? (i := 85) rfl)), rfl, hnm⟩) (hw _ (List.mem_of_getElem? (i := 63) rfl)) (ty := .boolean) (by decide) (own_b hb1).1 (own_b hb1).2 (g := (mkF m 45 #[.val (.ref a1), .val (.ref a2), .val (.int p1), .val (.int p2), .val (.ref a3), .val (.int p3)] [(.int p3), (.ref a1)])) rfl rfl (hb hby d13_45)
  refine OGo.to st_41 ?_
  have Fw_41 : Fld Z h_41 a1 "com/example/dromos/dromos/service/Definition" "lexical" "Z" (.int p3) := f_40.same W_41
  have N_41 := Fr.snoc X_41 N_36 g1
  have z_42 : n0 ≤ h_41.size := Nat.le_trans z_37 (Keep.of_wr W_41).1
  have K_43 : Keep h0 h_41 [a1] := K_38.wr W_41 (Or.inl (List.mem_of_getElem? (i := 0) rfl))
  show OGo p e below _ (T_41.setTop (mkF m 48 #[.val (.ref a1), .val (.ref a2), .val (.int p1), .val (.int p2), .val (.ref a3), .val (.int p3)] []))
  refine OGo.ret (Q := Q13 Z a1 a2 p1 p2 a3 p3 h0 n0) X_41 none (fun _ => rfl) Bd.notSynchronized (fun fs hr => X_41.returnOut hx Bd.returns (hb hby d13_48) hr) ?_ (by decide) (by decide)
  have f_44 : Fld Z h_41 a1 "com/example/dromos/dromos/service/Definition" "arity" "I" (.int p1) := (((Fw_26.other W_31 (Or.inr (slot_ne (Or.inr (hw _ (List.mem_of_getElem? (i := 79) rfl))) (Or.inr (hw _ (List.mem_of_getElem? (i := 81) rfl))) (by decide) (t := .int) (t' := .int) (by decide) (by decide)))).other W_36 (Or.inr (slot_ne (Or.inr (hw _ (List.mem_of_getElem? (i := 79) rfl))) (Or.inr (hw _ (List.mem_of_getElem? (i := 83) rfl))) (by decide) (t := .int) (t' := (.object "com/example/dromos/dromos/model/Location")) (by decide) (by decide)))).other W_41 (Or.inr (slot_ne (Or.inr (hw _ (List.mem_of_getElem? (i := 79) rfl))) (Or.inr (hw _ (List.mem_of_getElem? (i := 85) rfl))) (by decide) (t := .int) (t' := .boolean) (by decide) (by decide))))
  have f_45 : Fld Z h_41 a1 "com/example/dromos/dromos/service/Definition" "bound" "I" (.int (-1 : Int32)) := ((((((((Fw_2.other W_7 (Or.inr (slot_ne (Or.inl (hw _ (List.mem_of_getElem? (i := 70) rfl))) (Or.inl (hw _ (List.mem_of_getElem? (i := 72) rfl))) (by decide) (t := .int) (t' := .int) (by decide) (by decide)))).ext E_10).other W_16 (Or.inr (slot_ne (Or.inl (hw _ (List.mem_of_getElem? (i := 70) rfl))) (Or.inl (hw _ (List.mem_of_getElem? (i := 75) rfl))) (by decide) (t := .int) (t' := (.array .int)) (by decide) (by decide)))).other W_21 (Or.inr (slot_ne (Or.inl (hw _ (List.mem_of_getElem? (i := 70) rfl))) (Or.inr (hw _ (List.mem_of_getElem? (i := 77) rfl))) (by decide) (t := .int) (t' := (.object "java/lang/String")) (by decide) (by decide)))).other W_26 (Or.inr (slot_ne (Or.inl (hw _ (List.mem_of_getElem? (i := 70) rfl))) (Or.inr (hw _ (List.mem_of_getElem? (i := 79) rfl))) (by decide) (t := .int) (t' := .int) (by decide) (by decide)))).other W_31 (Or.inr (slot_ne (Or.inl (hw _ (List.mem_of_getElem? (i := 70) rfl))) (Or.inr (hw _ (List.mem_of_getElem? (i := 81) rfl))) (by decide) (t := .int) (t' := .int) (by decide) (by decide)))).other W_36 (Or.inr (slot_ne (Or.inl (hw _ (List.mem_of_getElem? (i := 70) rfl))) (Or.inr (hw _ (List.mem_of_getElem? (i := 83) rfl))) (by decide) (t := .int) (t' := (.object "com/example/dromos/dromos/model/Location")) (by decide) (by decide)))).other W_41 (Or.inr (slot_ne (Or.inl (hw _ (List.mem_of_getElem? (i := 70) rfl))) (Or.inr (hw _ (List.mem_of_getElem? (i := 85) rfl))) (by decide) (t := .int) (t' := .boolean) (by decide) (by decide))))
  have f_46 : Fld Z h_41 a1 "com/example/dromos/dromos/service/Definition" "free" "I" (.int (-1 : Int32)) := (((((((Fw_7.ext E_10).other W_16 (Or.inr (slot_ne (Or.inl (hw _ (List.mem_of_getElem? (i := 72) rfl))) (Or.inl (hw _ (List.mem_of_getElem? (i := 75) rfl))) (by decide) (t := .int) (t' := (.array .int)) (by decide) (by decide)))).other W_21 (Or.inr (slot_ne (Or.inl (hw _ (List.mem_of_getElem? (i := 72) rfl))) (Or.inr (hw _ (List.mem_of_getElem? (i := 77) rfl))) (by decide) (t := .int) (t' := (.object "java/lang/String")) (by decide) (by decide)))).other W_26 (Or.inr (slot_ne (Or.inl (hw _ (List.mem_of_getElem? (i := 72) rfl))) (Or.inr (hw _ (List.mem_of_getElem? (i := 79) rfl))) (by decide) (t := .int) (t' := .int) (by decide) (by decide)))).other W_31 (Or.inr (slot_ne (Or.inl (hw _ (List.mem_of_getElem? (i := 72) rfl))) (Or.inr (hw _ (List.mem_of_getElem? (i := 81) rfl))) (by decide) (t := .int) (t' := .int) (by decide) (by decide)))).other W_36 (Or.inr (slot_ne (Or.inl (hw _ (List.mem_of_getElem? (i := 72) rfl))) (Or.inr (hw _ (List.mem_of_getElem? (i := 83) rfl))) (by decide) (t := .int) (t' := (.object "com/example/dromos/dromos/model/Location")) (by decide) (by decide)))).other W_41 (Or.inr (slot_ne (Or.inl (hw _ (List.mem_of_getElem? (i := 72) rfl))) (Or.inr (hw _ (List.mem_of_getElem? (i := 85) rfl))) (by decide) (t := .int) (t' := .boolean) (by decide) (by decide))))
  have f_47 : Fld Z h_41 a1 "com/example/dromos/dromos/service/Definition" "slots" "I" (.int (0 : Int32)) := (((((((((F8.other W_2 (Or.inr (slot_ne (Or.inl (hw _ (List.mem_of_getElem? (i := 87) rfl))) (Or.inl (hw _ (List.mem_of_getElem? (i := 70) rfl))) (by decide) (t := .int) (t' := .int) (by decide) (by decide)))).other W_7 (Or.inr (slot_ne (Or.inl (hw _ (List.mem_of_getElem? (i := 87) rfl))) (Or.inl (hw _ (List.mem_of_getElem? (i := 72) rfl))) (by decide) (t := .int) (t' := .int) (by decide) (by decide)))).ext E_10).other W_16 (Or.inr (slot_ne (Or.inl (hw _ (List.mem_of_getElem? (i := 87) rfl))) (Or.inl (hw _ (List.mem_of_getElem? (i := 75) rfl))) (by decide) (t := .int) (t' := (.array .int)) (by decide) (by decide)))).other W_21 (Or.inr (slot_ne (Or.inl (hw _ (List.mem_of_getElem? (i := 87) rfl))) (Or.inr (hw _ (List.mem_of_getElem? (i := 77) rfl))) (by decide) (t := .int) (t' := (.object "java/lang/String")) (by decide) (by decide)))).other W_26 (Or.inr (slot_ne (Or.inl (hw _ (List.mem_of_getElem? (i := 87) rfl))) (Or.inr (hw _ (List.mem_of_getElem? (i := 79) rfl))) (by decide) (t := .int) (t' := .int) (by decide) (by decide)))).other W_31 (Or.inr (slot_ne (Or.inl (hw _ (List.mem_of_getElem? (i := 87) rfl))) (Or.inr (hw _ (List.mem_of_getElem? (i := 81) rfl))) (by decide) (t := .int) (t' := .int) (by decide) (by decide)))).other W_36 (Or.inr (slot_ne (Or.inl (hw _ (List.mem_of_getElem? (i := 87) rfl))) (Or.inr (hw _ (List.mem_of_getElem? (i := 83) rfl))) (by decide) (t := .int) (t' := (.object "com/example/dromos/dromos/model/Location")) (by decide) (by decide)))).other W_41 (Or.inr (slot_ne (Or.inl (hw _ (List.mem_of_getElem? (i := 87) rfl))) (Or.inr (hw _ (List.mem_of_getElem? (i := 85) rfl))) (by decide) (t := .int) (t' := .boolean) (by decide) (by decide))))
  have f_48 : Fld Z h_41 a1 "com/example/dromos/dromos/service/Definition" "recursive" "Z" (.int (0 : Int32)) := (((((((((F9.other W_2 (Or.inr (slot_ne (Or.inl (hw _ (List.mem_of_getElem? (i := 89) rfl))) (Or.inl (hw _ (List.mem_of_getElem? (i := 70) rfl))) (by decide) (t := .boolean) (t' := .int) (by decide) (by decide)))).other W_7 (Or.inr (slot_ne (Or.inl (hw _ (List.mem_of_getElem? (i := 89) rfl))) (Or.inl (hw _ (List.mem_of_getElem? (i := 72) rfl))) (by decide) (t := .boolean) (t' := .int) (by decide) (by decide)))).ext E_10).other W_16 (Or.inr (slot_ne (Or.inl (hw _ (List.mem_of_getElem? (i := 89) rfl))) (Or.inl (hw _ (List.mem_of_getElem? (i := 75) rfl))) (by decide) (t := .boolean) (t' := (.array .int)) (by decide) (by decide)))).other W_21 (Or.inr (slot_ne (Or.inl (hw _ (List.mem_of_getElem? (i := 89) rfl))) (Or.inr (hw _ (List.mem_of_getElem? (i := 77) rfl))) (by decide) (t := .boolean) (t' := (.object "java/lang/String")) (by decide) (by decide)))).other W_26 (Or.inr (slot_ne (Or.inl (hw _ (List.mem_of_getElem? (i := 89) rfl))) (Or.inr (hw _ (List.mem_of_getElem? (i := 79) rfl))) (by decide) (t := .boolean) (t' := .int) (by decide) (by decide)))).other W_31 (Or.inr (slot_ne (Or.inl (hw _ (List.mem_of_getElem? (i := 89) rfl))) (Or.inr (hw _ (List.mem_of_getElem? (i := 81) rfl))) (by decide) (t := .boolean) (t' := .int) (by decide) (by decide)))).other W_36 (Or.inr (slot_ne (Or.inl (hw _ (List.mem_of_getElem? (i := 89) rfl))) (Or.inr (hw _ (List.mem_of_getElem? (i := 83) rfl))) (by decide) (t := .boolean) (t' := (.object "com/example/dromos/dromos/model/Location")) (by decide) (by decide)))).other W_41 (Or.inr (slot_ne (Or.inl (hw _ (List.mem_of_getElem? (i := 89) rfl))) (Or.inr (hw _ (List.mem_of_getElem? (i := 85) rfl))) (by decide) (t := .boolean) (t' := .boolean) (by decide) (by decide))))
  have f_49 : Fld Z h_41 a1 "com/example/dromos/dromos/service/Definition" "replacesVariable" "Z" (.int (0 : Int32)) := (((((((((F10.other W_2 (Or.inr (slot_ne (Or.inl (hw _ (List.mem_of_getElem? (i := 91) rfl))) (Or.inl (hw _ (List.mem_of_getElem? (i := 70) rfl))) (by decide) (t := .boolean) (t' := .int) (by decide) (by decide)))).other W_7 (Or.inr (slot_ne (Or.inl (hw _ (List.mem_of_getElem? (i := 91) rfl))) (Or.inl (hw _ (List.mem_of_getElem? (i := 72) rfl))) (by decide) (t := .boolean) (t' := .int) (by decide) (by decide)))).ext E_10).other W_16 (Or.inr (slot_ne (Or.inl (hw _ (List.mem_of_getElem? (i := 91) rfl))) (Or.inl (hw _ (List.mem_of_getElem? (i := 75) rfl))) (by decide) (t := .boolean) (t' := (.array .int)) (by decide) (by decide)))).other W_21 (Or.inr (slot_ne (Or.inl (hw _ (List.mem_of_getElem? (i := 91) rfl))) (Or.inr (hw _ (List.mem_of_getElem? (i := 77) rfl))) (by decide) (t := .boolean) (t' := (.object "java/lang/String")) (by decide) (by decide)))).other W_26 (Or.inr (slot_ne (Or.inl (hw _ (List.mem_of_getElem? (i := 91) rfl))) (Or.inr (hw _ (List.mem_of_getElem? (i := 79) rfl))) (by decide) (t := .boolean) (t' := .int) (by decide) (by decide)))).other W_31 (Or.inr (slot_ne (Or.inl (hw _ (List.mem_of_getElem? (i := 91) rfl))) (Or.inr (hw _ (List.mem_of_getElem? (i := 81) rfl))) (by decide) (t := .boolean) (t' := .int) (by decide) (by decide)))).other W_36 (Or.inr (slot_ne (Or.inl (hw _ (List.mem_of_getElem? (i := 91) rfl))) (Or.inr (hw _ (List.mem_of_getElem? (i := 83) rfl))) (by decide) (t := .boolean) (t' := (.object "com/example/dromos/dromos/model/Location")) (by decide) (by decide)))).other W_41 (Or.inr (slot_ne (Or.inl (hw _ (List.mem_of_getElem? (i := 91) rfl))) (Or.inr (hw _ (List.mem_of_getElem? (i := 85) rfl))) (by decide) (t := .boolean) (t' := .boolean) (by decide) (by decide))))
  show Q13 Z a1 a2 p1 p2 a3 p3 h0 n0 _ T_41.heap _
  rw [e_41]
  exact ⟨rfl, N_41, K_43, f_44, Fw_41, f_45, f_46, f_47, f_48, f_49⟩
theorem d14_0 : decode prog_165_method_9_code 0 = .ok (.aload_n 0, 1) := by decide +kernel
theorem d14_1 : decode prog_165_method_9_code 1 = .ok (.getfield 27, 3) := by decide +kernel
theorem d14_4 : decode prog_165_method_9_code 4 = .ok (.ifCond .ne 14, 3) := by decide +kernel
theorem d14_7 : decode prog_165_method_9_code 7 = .ok (.aload_n 0, 1) := by decide +kernel
theorem d14_8 : decode prog_165_method_9_code 8 = .ok (.getfield 37, 3) := by decide +kernel
theorem d14_11 : decode prog_165_method_9_code 11 = .ok (.ifCond .ne 7, 3) := by decide +kernel
theorem d14_14 : decode prog_165_method_9_code 14 = .ok (.iconst 1, 1) := by decide +kernel
theorem d14_15 : decode prog_165_method_9_code 15 = .ok (.goto 4, 3) := by decide +kernel
theorem d14_18 : decode prog_165_method_9_code 18 = .ok (.iconst 0, 1) := by decide +kernel
theorem d14_19 : decode prog_165_method_9_code 19 = .ok (.ireturn, 1) := by decide +kernel
theorem ef_14 (m : MethodId) (x0 : Addr) : entryFrame m #[(.ref x0)] 1 = mkF m 0 #[.val (.ref x0)] [] := by first | (simp [entryFrame, mkF, argsToLocals, Value.category]; done) | rfl
def Q14 (Z : State) (a1 : Addr) (x1 : Int32) (x3 : Int32) (h0 : Heap) (n0 : Nat) (v : Option Value) (h : Heap) (L : List Loc) : Prop := v = some (.int (own_mk x1 x3)) ∧ Fr n0 L ∧ h = h0
set_option maxRecDepth 65536 in
set_option maxHeartbeats 40000000 in
theorem rm14 (l : Launch) (Z : State) (a0 : Array Value) (hw : ∀ d ∈ tables_1, d.before a0 Z = true) (ws : List Jvm.Cond) (a1 : Addr) (x1 : Int32) (x3 : Int32) (h0 : Heap) (n0 : Nat) (Z0 : n0 ≤ h0.size) (G0 : Fld Z h0 a1 "com/example/dromos/dromos/service/Definition" "arity" "I" (.int x1)) (G1 : Fld Z h0 a1 "com/example/dromos/dromos/service/Definition" "lexical" "Z" (.int x3)) :
    MetFree l (⟨"com/example/dromos/dromos/service/Definition", "mayKeepValue", "()Z"⟩ : MethodName) (head1 (Jvm.Cond.code (⟨"com/example/dromos/dromos/service/Definition", "mayKeepValue", "()Z"⟩ : MethodName) prog_165_method_9_code 1 (some .boolean) :: ws) ({ frames := 0, cells := 0, slots := 0, locals := 0 } : Room)) (fun a U => a = #[(.ref a1)] ∧ Z.Warmed39 U.vm ∧ U.heap = h0) (fun _ _ _ _ _ => True) (fun _ U o U' => ∃ v L, o = .returned v ∧ Q14 Z a1 x1 x3 h0 n0 v U'.heap L ∧ FrameEnd U o U' L ({ frames := 0, cells := 0, slots := 0, locals := 0 } : Room).cells ({ frames := 0, cells := 0, slots := 0, locals := 0 } : Room).slots) := by
  refine MetFree.of_bodySF (plainFor_of_name pn_5) hisR ?_
  intro p e s m args below meth c s₁ Bd hml0 hP hK
  obtain ⟨rfl, hZ, hh⟩ := hP
  have hx := Bd.exec
  have hby := Bd.bytes
  have hml : c.maxLocals = 1 := hml0
  have hown : s.vm.findClass "com/example/dromos/dromos/service/Definition" = some m.cls := findClass_of_methodNamed Bd.named
  have hnm := (name_of_methodNamed Bd.named Bd.method).1
  have X0 : Stand p l e ({ frames := 0, cells := 0, slots := 0, locals := 0 } : Room) s m #[(.ref a1)] below meth c s₁ [] 0 0 := Stand.of_body Bd
  have e0 : s₁.heap = h0 := by rw [← hh, Bd.state]; rfl
  have N0 := Fr.nil n0
  show OGo p e below (fun s₂ o => ∃ v L, o = .returned v ∧ Q14 Z a1 x1 x3 h0 n0 v s₂.heap L ∧ FrameEnd s o s₂ L ({ frames := 0, cells := 0, slots := 0, locals := 0 } : Room).cells ({ frames := 0, cells := 0, slots := 0, locals := 0 } : Room).slots) _
  refine OGo.to (fun _ k => castTop (ef_14 m a1) k) ?_
  refine OGo.to (fun _ k => XS.aloadN X0.here hx rfl (hb hby d14_0) rfl rfl k) ?_
  show OGo p e below _ (s₁.setTop (mkF m 1 #[.val (.ref a1)] [(.ref a1)]))
  obtain ⟨T_1, X_1, e_1, st_1⟩ := getF X0 hx hZ hown (host := "") (Or.inl (hw _ (List.mem_of_getElem? (i := 78) rfl))) Via.refl e0 G0 (g := (mkF m 1 #[.val (.ref a1)] [(.ref a1)])) rfl rfl (hb hby d14_1)
  refine OGo.to st_1 ?_
  show OGo p e below _ (T_1.setTop (mkF m 4 #[.val (.ref a1)] [(.int x1)]))
  by_cases hc4__2 : x1 = (0 : Int32)
  ·  -- pc 4: yes
    refine OGo.to (fun _ k => XS.ifNo X_1.here hx rfl (hb hby d14_4) rfl ((if0 _ _).trans (teq hc4__2).2) k) ?_
    show OGo p e below _ (T_1.setTop (mkF m 7 #[.val (.ref a1)] []))
    refine OGo.to (fun _ k => XS.aloadN X_1.here hx rfl (hb hby d14_7) rfl rfl k) ?_
    show OGo p e below _ (T_1.setTop (mkF m 8 #[.val (.ref a1)] [(.ref a1)]))
    obtain ⟨T_3, X_3, e_3, st_3⟩ := getF X_1 hx hZ hown (host := "") (Or.inl (hw _ (List.mem_of_getElem? (i := 84) rfl))) Via.refl e_1 G1 (g := (mkF m 8 #[.val (.ref a1)] [(.ref a1)])) rfl rfl (hb hby d14_8)
    refine OGo.to st_3 ?_
    show OGo p e below _ (T_3.setTop (mkF m 11 #[.val (.ref a1)] [(.int x3)]))
    by_cases hc11__4 : x3 = (0 : Int32)
    ·  -- pc 11: yes
      refine OGo.to (fun _ k => XS.ifNo X_3.here hx rfl (hb hby d14_11) rfl ((if0 _ _).trans (teq hc11__4).2) k) ?_
      show OGo p e below _ (T_3.setTop (mkF m 14 #[.val (.ref a1)] []))
      refine OGo.to (fun _ k => XS.iconst X_3.here hx rfl (hb hby d14_14) k) ?_
      show OGo p e below _ (T_3.setTop (mkF m 15 #[.val (.ref a1)] [(.int (1 : Int32))]))
      refine OGo.to (fun _ k => XS.goto X_3.here hx rfl (pc0 := 15) (pc' := 19) rfl (hb hby d14_15) (by decide) (by decide) k) ?_
      show OGo p e below _ (T_3.setTop (mkF m 19 #[.val (.ref a1)] [(.int (1 : Int32))]))
      refine OGo.ret (Q := Q14 Z a1 x1 x3 h0 n0) X_3 (some (.int (1 : Int32))) (fun h => by rw [Bd.returns] at h; cases h) Bd.notSynchronized (fun fs hr => retN X_3 hx (t := .boolean) (z := (1 : Int32)) Bd.returns (by simp) (hb hby d14_19) hr) ?_ (by decide) (by decide)
      show Q14 Z a1 x1 x3 h0 n0 _ T_3.heap _
      rw [e_3]
      exact ⟨congrArg (fun z => some (Value.int z)) (show (1 : Int32) = (own_mk x1 x3) from by unfold own_mk; rw [if_pos hc4__2, if_pos hc11__4]), N0, rfl⟩
    ·  -- pc 11: no
      refine OGo.to (fun _ k => XS.ifYes X_3.here hx rfl (pc0 := 11) (pc' := 18) rfl (hb hby d14_11) rfl ((if0 _ _).trans (feq hc11__4).2) (by decide) (by decide) k) ?_
      show OGo p e below _ (T_3.setTop (mkF m 18 #[.val (.ref a1)] []))
      refine OGo.to (fun _ k => XS.iconst X_3.here hx rfl (hb hby d14_18) k) ?_
      show OGo p e below _ (T_3.setTop (mkF m 19 #[.val (.ref a1)] [(.int (0 : Int32))]))
      refine OGo.ret (Q := Q14 Z a1 x1 x3 h0 n0) X_3 (some (.int (0 : Int32))) (fun h => by rw [Bd.returns] at h; cases h) Bd.notSynchronized (fun fs hr => retN X_3 hx (t := .boolean) (z := (0 : Int32)) Bd.returns (by simp) (hb hby d14_19) hr) ?_ (by decide) (by decide)
      show Q14 Z a1 x1 x3 h0 n0 _ T_3.heap _
      rw [e_3]
      exact ⟨congrArg (fun z => some (Value.int z)) (show (0 : Int32) = (own_mk x1 x3) from by unfold own_mk; rw [if_pos hc4__2, if_neg hc11__4]), N0, rfl⟩
  ·  -- pc 4: no
    refine OGo.to (fun _ k => XS.ifYes X_1.here hx rfl (pc0 := 4) (pc' := 18) rfl (hb hby d14_4) rfl ((if0 _ _).trans (feq hc4__2).2) (by decide) (by decide) k) ?_
    show OGo p e below _ (T_1.setTop (mkF m 18 #[.val (.ref a1)] []))
    refine OGo.to (fun _ k => XS.iconst X_1.here hx rfl (hb hby d14_18) k) ?_
    show OGo p e below _ (T_1.setTop (mkF m 19 #[.val (.ref a1)] [(.int (0 : Int32))]))
    refine OGo.ret (Q := Q14 Z a1 x1 x3 h0 n0) X_1 (some (.int (0 : Int32))) (fun h => by rw [Bd.returns] at h; cases h) Bd.notSynchronized (fun fs hr => retN X_1 hx (t := .boolean) (z := (0 : Int32)) Bd.returns (by simp) (hb hby d14_19) hr) ?_ (by decide) (by decide)
    show Q14 Z a1 x1 x3 h0 n0 _ T_1.heap _
    rw [e_1]
    exact ⟨congrArg (fun z => some (Value.int z)) (show (0 : Int32) = (own_mk x1 x3) from by unfold own_mk; rw [if_neg hc4__2]), N0, rfl⟩
theorem ef_0 (m : MethodId) (x0 : Int32) (x1 : Int32) (x2 : Int32) (x3 : Int32) (x4 : Int32) (x5 : Int32) : entryFrame m #[(.int x0), (.int x1), (.int x2), (.int x3), (.int x4), (.int x5)] maxLocals = mkF m 0 #[.val (.int x0), .val (.int x1), .val (.int x2), .val (.int x3), .val (.int x4), .val (.int x5), .unset, .unset, .unset, .unset, .unset, .unset, .unset, .unset, .unset, .unset] [] := by first | (simp [entryFrame, mkF, argsToLocals, Value.category, maxLocals]; done) | rfl
def Q0 (Z : State) (p1 : Int32) (p2 : Int32) (p3 : Int32) (p4 : Int32) (p5 : Int32) (p6 : Int32) (cs : Int32) (h0 : Heap) (n0 : Nat) (v : Option Value) (h : Heap) (L : List Loc) : Prop := v = some (.int (1 : Int32)) ∧ Fr n0 L
set_option maxRecDepth 65536 in
set_option maxHeartbeats 40000000 in
theorem rm0 (l : Launch) (Z : State) (a0 : Array Value) (hw : ∀ d ∈ tables_1, d.before a0 Z = true) (ws : List Jvm.Cond) (p1 : Int32) (p2 : Int32) (p3 : Int32) (p4 : Int32) (p5 : Int32) (p6 : Int32) (cs : Int32) (h0 : Heap) (n0 : Nat) (Z0 : n0 ≤ h0.size) (SC : Sta Z Z.heap "java/lang/String" "COMPACT_STRINGS" "Z" (.int cs)) (O0 : Old Z n0 h0) (hcs : ¬ (cs = (0 : Int32))) :
    MetFree l x (head1 (Jvm.Cond.code x code maxLocals ret :: ws) room_1) (fun a U => a = #[(.int p1), (.int p2), (.int p3), (.int p4), (.int p5), (.int p6)] ∧ Z.Warmed39 U.vm ∧ U.heap = h0) (fun _ _ _ _ _ => True) (fun _ U o U' => ∃ v L, o = .returned v ∧ Q0 Z p1 p2 p3 p4 p5 p6 cs h0 n0 v U'.heap L ∧ FrameEnd U o U' L room_1.cells room_1.slots) := by
  refine MetFree.of_bodySF (plainFor_of_name pn_6) hisR ?_
  intro p e s m args below meth c s₁ Bd hml0 hP hK
  obtain ⟨rfl, hZ, hh⟩ := hP
  have hx := Bd.exec
  have hby := Bd.bytes
  have hml : c.maxLocals = 16 := hml0
  have hown : s.vm.findClass "com/example/dromos/dromos/service/DefinitionMayKeepValuePinLaw" = some m.cls := findClass_of_methodNamed Bd.named
  have hnm := (name_of_methodNamed Bd.named Bd.method).1
  have X0 : Stand p l e room_1 s m #[(.int p1), (.int p2), (.int p3), (.int p4), (.int p5), (.int p6)] below meth c s₁ [] 0 0 := Stand.of_body Bd
  have e0 : s₁.heap = h0 := by rw [← hh, Bd.state]; rfl
  have N0 := Fr.nil n0
  show OGo p e below (fun s₂ o => ∃ v L, o = .returned v ∧ Q0 Z p1 p2 p3 p4 p5 p6 cs h0 n0 v s₂.heap L ∧ FrameEnd s o s₂ L room_1.cells room_1.slots) _
  refine OGo.to (fun _ k => castTop (ef_0 m p1 p2 p3 p4 p5 p6) k) ?_
  refine OGo.to (fun _ k => XS.iloadN X0.here hx rfl (hb hby at_0) rfl k) ?_
  show OGo p e below _ (s₁.setTop (mkF m 1 #[.val (.int p1), .val (.int p2), .val (.int p3), .val (.int p4), .val (.int p5), .val (.int p6), .unset, .unset, .unset, .unset, .unset, .unset, .unset, .unset, .unset, .unset] [(.int p4)]))
  refine OGo.to (fun _ k => XS.iconst X0.here hx rfl (hb hby at_1) k) ?_
  show OGo p e below _ (s₁.setTop (mkF m 2 #[.val (.int p1), .val (.int p2), .val (.int p3), .val (.int p4), .val (.int p5), .val (.int p6), .unset, .unset, .unset, .unset, .unset, .unset, .unset, .unset, .unset, .unset] [(.int (1 : Int32)), (.int p4)]))
  refine OGo.to (fun _ k => XS.iand X0.here hx rfl (hb hby at_2) rfl k) ?_
  show OGo p e below _ (s₁.setTop (mkF m 3 #[.val (.int p1), .val (.int p2), .val (.int p3), .val (.int p4), .val (.int p5), .val (.int p6), .unset, .unset, .unset, .unset, .unset, .unset, .unset, .unset, .unset, .unset] [(.int (p4 &&& (1 : Int32)))]))
  obtain ⟨lx, hv_lx⟩ : ∃ z : Int32, z = (if (p4 &&& (1 : Int32)) = (0 : Int32) then (0 : Int32) else (1 : Int32)) := ⟨_, rfl⟩
  refine OGo.to (S' := s₁.setTop (mkF m 11 #[.val (.int p1), .val (.int p2), .val (.int p3), .val (.int p4), .val (.int p5), .val (.int p6), .unset, .unset, .unset, .unset, .unset, .unset, .unset, .unset, .unset, .unset] [(.int lx)])) (fun _ k => ?_) ?_
  ·
    show Steps p.tables e below (s₁.setTop (mkF m 3 #[.val (.int p1), .val (.int p2), .val (.int p3), .val (.int p4), .val (.int p5), .val (.int p6), .unset, .unset, .unset, .unset, .unset, .unset, .unset, .unset, .unset, .unset] [(.int (p4 &&& (1 : Int32)))])) _
    by_cases hc3__2 : (p4 &&& (1 : Int32)) = (0 : Int32)
    ·  -- pc 3: yes
      refine XS.ifYes X0.here hx rfl (pc0 := 3) (pc' := 10) rfl (hb hby at_3) rfl ((if0 _ _).trans (teq hc3__2).1) (by decide) (by decide) ?_
      show Steps p.tables e below (s₁.setTop (mkF m 10 #[.val (.int p1), .val (.int p2), .val (.int p3), .val (.int p4), .val (.int p5), .val (.int p6), .unset, .unset, .unset, .unset, .unset, .unset, .unset, .unset, .unset, .unset] [])) _
      refine XS.iconst X0.here hx rfl (hb hby at_10) ?_
      show Steps p.tables e below (s₁.setTop (mkF m 11 #[.val (.int p1), .val (.int p2), .val (.int p3), .val (.int p4), .val (.int p5), .val (.int p6), .unset, .unset, .unset, .unset, .unset, .unset, .unset, .unset, .unset, .unset] [(.int (0 : Int32))])) _
      have hw_lx := hv_lx
      rw [if_pos hc3__2] at hw_lx
      subst hw_lx
      exact k
    ·  -- pc 3: no
      refine XS.ifNo X0.here hx rfl (hb hby at_3) rfl ((if0 _ _).trans (feq hc3__2).1) ?_
      show Steps p.tables e below (s₁.setTop (mkF m 6 #[.val (.int p1), .val (.int p2), .val (.int p3), .val (.int p4), .val (.int p5), .val (.int p6), .unset, .unset, .unset, .unset, .unset, .unset, .unset, .unset, .unset, .unset] [])) _
      refine XS.iconst X0.here hx rfl (hb hby at_6) ?_
      show Steps p.tables e below (s₁.setTop (mkF m 7 #[.val (.int p1), .val (.int p2), .val (.int p3), .val (.int p4), .val (.int p5), .val (.int p6), .unset, .unset, .unset, .unset, .unset, .unset, .unset, .unset, .unset, .unset] [(.int (1 : Int32))])) _
      refine XS.goto X0.here hx rfl (pc0 := 7) (pc' := 11) rfl (hb hby at_7) (by decide) (by decide) ?_
      show Steps p.tables e below (s₁.setTop (mkF m 11 #[.val (.int p1), .val (.int p2), .val (.int p3), .val (.int p4), .val (.int p5), .val (.int p6), .unset, .unset, .unset, .unset, .unset, .unset, .unset, .unset, .unset, .unset] [(.int (1 : Int32))])) _
      have hw_lx := hv_lx
      rw [if_neg hc3__2] at hw_lx
      subst hw_lx
      exact k
  show OGo p e below _ (s₁.setTop (mkF m 11 #[.val (.int p1), .val (.int p2), .val (.int p3), .val (.int p4), .val (.int p5), .val (.int p6), .unset, .unset, .unset, .unset, .unset, .unset, .unset, .unset, .unset, .unset] [(.int lx)]))
  have b_lx : lx = (0 : Int32) ∨ lx = (1 : Int32) := by rw [hv_lx]; exact own_01
  refine OGo.to (fun _ k => XS.istore X0.here hx rfl (hb hby at_11) rfl (l' := #[.val (.int p1), .val (.int p2), .val (.int p3), .val (.int p4), .val (.int p5), .val (.int p6), .val (.int lx), .unset, .unset, .unset, .unset, .unset, .unset, .unset, .unset, .unset]) rfl k) ?_
  show OGo p e below _ (s₁.setTop (mkF m 13 #[.val (.int p1), .val (.int p2), .val (.int p3), .val (.int p4), .val (.int p5), .val (.int p6), .val (.int lx), .unset, .unset, .unset, .unset, .unset, .unset, .unset, .unset, .unset] []))
  refine OGo.to (fun _ k => XS.iloadN X0.here hx rfl (hb hby at_13) rfl k) ?_
  show OGo p e below _ (s₁.setTop (mkF m 14 #[.val (.int p1), .val (.int p2), .val (.int p3), .val (.int p4), .val (.int p5), .val (.int p6), .val (.int lx), .unset, .unset, .unset, .unset, .unset, .unset, .unset, .unset, .unset] [(.int p4)]))
  refine OGo.to (fun _ k => XS.iconst X0.here hx rfl (hb hby at_14) k) ?_
  show OGo p e below _ (s₁.setTop (mkF m 15 #[.val (.int p1), .val (.int p2), .val (.int p3), .val (.int p4), .val (.int p5), .val (.int p6), .val (.int lx), .unset, .unset, .unset, .unset, .unset, .unset, .unset, .unset, .unset] [(.int (2 : Int32)), (.int p4)]))
  refine OGo.to (fun _ k => XS.iand X0.here hx rfl (hb hby at_15) rfl k) ?_
  show OGo p e below _ (s₁.setTop (mkF m 16 #[.val (.int p1), .val (.int p2), .val (.int p3), .val (.int p4), .val (.int p5), .val (.int p6), .val (.int lx), .unset, .unset, .unset, .unset, .unset, .unset, .unset, .unset, .unset] [(.int (p4 &&& (2 : Int32)))]))
  obtain ⟨rc, hv_rc⟩ : ∃ z : Int32, z = (if (p4 &&& (2 : Int32)) = (0 : Int32) then (0 : Int32) else (1 : Int32)) := ⟨_, rfl⟩
  refine OGo.to (S' := s₁.setTop (mkF m 24 #[.val (.int p1), .val (.int p2), .val (.int p3), .val (.int p4), .val (.int p5), .val (.int p6), .val (.int lx), .unset, .unset, .unset, .unset, .unset, .unset, .unset, .unset, .unset] [(.int rc)])) (fun _ k => ?_) ?_
  ·
    show Steps p.tables e below (s₁.setTop (mkF m 16 #[.val (.int p1), .val (.int p2), .val (.int p3), .val (.int p4), .val (.int p5), .val (.int p6), .val (.int lx), .unset, .unset, .unset, .unset, .unset, .unset, .unset, .unset, .unset] [(.int (p4 &&& (2 : Int32)))])) _
    by_cases hc16__4 : (p4 &&& (2 : Int32)) = (0 : Int32)
    ·  -- pc 16: yes
      refine XS.ifYes X0.here hx rfl (pc0 := 16) (pc' := 23) rfl (hb hby at_16) rfl ((if0 _ _).trans (teq hc16__4).1) (by decide) (by decide) ?_
      show Steps p.tables e below (s₁.setTop (mkF m 23 #[.val (.int p1), .val (.int p2), .val (.int p3), .val (.int p4), .val (.int p5), .val (.int p6), .val (.int lx), .unset, .unset, .unset, .unset, .unset, .unset, .unset, .unset, .unset] [])) _
      refine XS.iconst X0.here hx rfl (hb hby at_23) ?_
      show Steps p.tables e below (s₁.setTop (mkF m 24 #[.val (.int p1), .val (.int p2), .val (.int p3), .val (.int p4), .val (.int p5), .val (.int p6), .val (.int lx), .unset, .unset, .unset, .unset, .unset, .unset, .unset, .unset, .unset] [(.int (0 : Int32))])) _
      have hw_rc := hv_rc
      rw [if_pos hc16__4] at hw_rc
      subst hw_rc
      exact k
    ·  -- pc 16: no
      refine XS.ifNo X0.here hx rfl (hb hby at_16) rfl ((if0 _ _).trans (feq hc16__4).1) ?_
      show Steps p.tables e below (s₁.setTop (mkF m 19 #[.val (.int p1), .val (.int p2), .val (.int p3), .val (.int p4), .val (.int p5), .val (.int p6), .val (.int lx), .unset, .unset, .unset, .unset, .unset, .unset, .unset, .unset, .unset] [])) _
      refine XS.iconst X0.here hx rfl (hb hby at_19) ?_
      show Steps p.tables e below (s₁.setTop (mkF m 20 #[.val (.int p1), .val (.int p2), .val (.int p3), .val (.int p4), .val (.int p5), .val (.int p6), .val (.int lx), .unset, .unset, .unset, .unset, .unset, .unset, .unset, .unset, .unset] [(.int (1 : Int32))])) _
      refine XS.goto X0.here hx rfl (pc0 := 20) (pc' := 24) rfl (hb hby at_20) (by decide) (by decide) ?_
      show Steps p.tables e below (s₁.setTop (mkF m 24 #[.val (.int p1), .val (.int p2), .val (.int p3), .val (.int p4), .val (.int p5), .val (.int p6), .val (.int lx), .unset, .unset, .unset, .unset, .unset, .unset, .unset, .unset, .unset] [(.int (1 : Int32))])) _
      have hw_rc := hv_rc
      rw [if_neg hc16__4] at hw_rc
      subst hw_rc
      exact k
  show OGo p e below _ (s₁.setTop (mkF m 24 #[.val (.int p1), .val (.int p2), .val (.int p3), .val (.int p4), .val (.int p5), .val (.int p6), .val (.int lx), .unset, .unset, .unset, .unset, .unset, .unset, .unset, .unset, .unset] [(.int rc)]))
  have b_rc : rc = (0 : Int32) ∨ rc = (1 : Int32) := by rw [hv_rc]; exact own_01
  refine OGo.to (fun _ k => XS.istore X0.here hx rfl (hb hby at_24) rfl (l' := #[.val (.int p1), .val (.int p2), .val (.int p3), .val (.int p4), .val (.int p5), .val (.int p6), .val (.int lx), .val (.int rc), .unset, .unset, .unset, .unset, .unset, .unset, .unset, .unset]) rfl k) ?_
  show OGo p e below _ (s₁.setTop (mkF m 26 #[.val (.int p1), .val (.int p2), .val (.int p3), .val (.int p4), .val (.int p5), .val (.int p6), .val (.int lx), .val (.int rc), .unset, .unset, .unset, .unset, .unset, .unset, .unset, .unset] []))
  refine OGo.to (fun _ k => XS.iloadN X0.here hx rfl (hb hby at_26) rfl k) ?_
  show OGo p e below _ (s₁.setTop (mkF m 27 #[.val (.int p1), .val (.int p2), .val (.int p3), .val (.int p4), .val (.int p5), .val (.int p6), .val (.int lx), .val (.int rc), .unset, .unset, .unset, .unset, .unset, .unset, .unset, .unset] [(.int p4)]))
  refine OGo.to (fun _ k => XS.iconst X0.here hx rfl (hb hby at_27) k) ?_
  show OGo p e below _ (s₁.setTop (mkF m 28 #[.val (.int p1), .val (.int p2), .val (.int p3), .val (.int p4), .val (.int p5), .val (.int p6), .val (.int lx), .val (.int rc), .unset, .unset, .unset, .unset, .unset, .unset, .unset, .unset] [(.int (4 : Int32)), (.int p4)]))
  refine OGo.to (fun _ k => XS.iand X0.here hx rfl (hb hby at_28) rfl k) ?_
  show OGo p e below _ (s₁.setTop (mkF m 29 #[.val (.int p1), .val (.int p2), .val (.int p3), .val (.int p4), .val (.int p5), .val (.int p6), .val (.int lx), .val (.int rc), .unset, .unset, .unset, .unset, .unset, .unset, .unset, .unset] [(.int (p4 &&& (4 : Int32)))]))
  obtain ⟨rp, hv_rp⟩ : ∃ z : Int32, z = (if (p4 &&& (4 : Int32)) = (0 : Int32) then (0 : Int32) else (1 : Int32)) := ⟨_, rfl⟩
  refine OGo.to (S' := s₁.setTop (mkF m 37 #[.val (.int p1), .val (.int p2), .val (.int p3), .val (.int p4), .val (.int p5), .val (.int p6), .val (.int lx), .val (.int rc), .unset, .unset, .unset, .unset, .unset, .unset, .unset, .unset] [(.int rp)])) (fun _ k => ?_) ?_
  ·
    show Steps p.tables e below (s₁.setTop (mkF m 29 #[.val (.int p1), .val (.int p2), .val (.int p3), .val (.int p4), .val (.int p5), .val (.int p6), .val (.int lx), .val (.int rc), .unset, .unset, .unset, .unset, .unset, .unset, .unset, .unset] [(.int (p4 &&& (4 : Int32)))])) _
    by_cases hc29__6 : (p4 &&& (4 : Int32)) = (0 : Int32)
    ·  -- pc 29: yes
      refine XS.ifYes X0.here hx rfl (pc0 := 29) (pc' := 36) rfl (hb hby at_29) rfl ((if0 _ _).trans (teq hc29__6).1) (by decide) (by decide) ?_
      show Steps p.tables e below (s₁.setTop (mkF m 36 #[.val (.int p1), .val (.int p2), .val (.int p3), .val (.int p4), .val (.int p5), .val (.int p6), .val (.int lx), .val (.int rc), .unset, .unset, .unset, .unset, .unset, .unset, .unset, .unset] [])) _
      refine XS.iconst X0.here hx rfl (hb hby at_36) ?_
      show Steps p.tables e below (s₁.setTop (mkF m 37 #[.val (.int p1), .val (.int p2), .val (.int p3), .val (.int p4), .val (.int p5), .val (.int p6), .val (.int lx), .val (.int rc), .unset, .unset, .unset, .unset, .unset, .unset, .unset, .unset] [(.int (0 : Int32))])) _
      have hw_rp := hv_rp
      rw [if_pos hc29__6] at hw_rp
      subst hw_rp
      exact k
    ·  -- pc 29: no
      refine XS.ifNo X0.here hx rfl (hb hby at_29) rfl ((if0 _ _).trans (feq hc29__6).1) ?_
      show Steps p.tables e below (s₁.setTop (mkF m 32 #[.val (.int p1), .val (.int p2), .val (.int p3), .val (.int p4), .val (.int p5), .val (.int p6), .val (.int lx), .val (.int rc), .unset, .unset, .unset, .unset, .unset, .unset, .unset, .unset] [])) _
      refine XS.iconst X0.here hx rfl (hb hby at_32) ?_
      show Steps p.tables e below (s₁.setTop (mkF m 33 #[.val (.int p1), .val (.int p2), .val (.int p3), .val (.int p4), .val (.int p5), .val (.int p6), .val (.int lx), .val (.int rc), .unset, .unset, .unset, .unset, .unset, .unset, .unset, .unset] [(.int (1 : Int32))])) _
      refine XS.goto X0.here hx rfl (pc0 := 33) (pc' := 37) rfl (hb hby at_33) (by decide) (by decide) ?_
      show Steps p.tables e below (s₁.setTop (mkF m 37 #[.val (.int p1), .val (.int p2), .val (.int p3), .val (.int p4), .val (.int p5), .val (.int p6), .val (.int lx), .val (.int rc), .unset, .unset, .unset, .unset, .unset, .unset, .unset, .unset] [(.int (1 : Int32))])) _
      have hw_rp := hv_rp
      rw [if_neg hc29__6] at hw_rp
      subst hw_rp
      exact k
  show OGo p e below _ (s₁.setTop (mkF m 37 #[.val (.int p1), .val (.int p2), .val (.int p3), .val (.int p4), .val (.int p5), .val (.int p6), .val (.int lx), .val (.int rc), .unset, .unset, .unset, .unset, .unset, .unset, .unset, .unset] [(.int rp)]))
  have b_rp : rp = (0 : Int32) ∨ rp = (1 : Int32) := by rw [hv_rp]; exact own_01
  refine OGo.to (fun _ k => XS.istore X0.here hx rfl (hb hby at_37) rfl (l' := #[.val (.int p1), .val (.int p2), .val (.int p3), .val (.int p4), .val (.int p5), .val (.int p6), .val (.int lx), .val (.int rc), .val (.int rp), .unset, .unset, .unset, .unset, .unset, .unset, .unset]) rfl k) ?_
  show OGo p e below _ (s₁.setTop (mkF m 39 #[.val (.int p1), .val (.int p2), .val (.int p3), .val (.int p4), .val (.int p5), .val (.int p6), .val (.int lx), .val (.int rc), .val (.int rp), .unset, .unset, .unset, .unset, .unset, .unset, .unset] []))
  refine OGo.to (fun _ k => XS.iconst X0.here hx rfl (hb hby at_39) k) ?_
  show OGo p e below _ (s₁.setTop (mkF m 40 #[.val (.int p1), .val (.int p2), .val (.int p3), .val (.int p4), .val (.int p5), .val (.int p6), .val (.int lx), .val (.int rc), .val (.int rp), .unset, .unset, .unset, .unset, .unset, .unset, .unset] [(.int (1 : Int32))]))
  obtain ⟨T_7, h_7, k_7, X_7, e_7, E_7, A_7, st_7⟩ := newP X0 hx hZ (hw _ (List.mem_of_getElem? (i := 0) rfl)) e0 (g := (mkF m 40 #[.val (.int p1), .val (.int p2), .val (.int p3), .val (.int p4), .val (.int p5), .val (.int p6), .val (.int lx), .val (.int rc), .val (.int rp), .unset, .unset, .unset, .unset, .unset, .unset, .unset] [(.int (1 : Int32))])) rfl (hb hby at_40) rfl (by decide) (cap := 1) (by decide) (by decide) (by decide) (by decide)
  obtain ⟨b_7, g_7⟩ : ∃ z, z = h0.size := ⟨_, rfl⟩
  rw [← g_7] at A_7 st_7
  have g_b_7 : n0 ≤ b_7 := Nat.le_trans Z0 (Nat.le_of_eq g_7.symm)
  refine OGo.to st_7 ?_
  have z_8 : n0 ≤ h_7.size := Nat.le_trans Z0 E_7.1
  have O_9 : Old Z n0 h_7 := O0.ext E_7
  have V_7 : Arv Z h_7 b_7 k_7 .char (1 : Int32) [(.int (0 : Int32))] (.int (0 : Int32)) := (Arv.new A_7 (by decide)).pad (pad_rep [] (.int (0 : Int32)) 1)
  show OGo p e below _ (T_7.setTop (mkF m 42 #[.val (.int p1), .val (.int p2), .val (.int p3), .val (.int p4), .val (.int p5), .val (.int p6), .val (.int lx), .val (.int rc), .val (.int rp), .unset, .unset, .unset, .unset, .unset, .unset, .unset] [(.ref b_7)]))
  refine OGo.to (fun _ k => XS.dup X_7.here hx rfl (hb hby at_42) rfl rfl k) ?_
  show OGo p e below _ (T_7.setTop (mkF m 43 #[.val (.int p1), .val (.int p2), .val (.int p3), .val (.int p4), .val (.int p5), .val (.int p6), .val (.int lx), .val (.int rc), .val (.int rp), .unset, .unset, .unset, .unset, .unset, .unset, .unset] [(.ref b_7), (.ref b_7)]))
  refine OGo.to (fun _ k => XS.iconst X_7.here hx rfl (hb hby at_43) k) ?_
  show OGo p e below _ (T_7.setTop (mkF m 44 #[.val (.int p1), .val (.int p2), .val (.int p3), .val (.int p4), .val (.int p5), .val (.int p6), .val (.int lx), .val (.int rc), .val (.int rp), .unset, .unset, .unset, .unset, .unset, .unset, .unset] [(.int (0 : Int32)), (.ref b_7), (.ref b_7)]))
  refine OGo.to (fun _ k => XS.iloadN X_7.here hx rfl (hb hby at_44) rfl k) ?_
  show OGo p e below _ (T_7.setTop (mkF m 45 #[.val (.int p1), .val (.int p2), .val (.int p3), .val (.int p4), .val (.int p5), .val (.int p6), .val (.int lx), .val (.int rc), .val (.int rp), .unset, .unset, .unset, .unset, .unset, .unset, .unset] [(.int p4), (.int (0 : Int32)), (.ref b_7), (.ref b_7)]))
  refine OGo.to (fun _ k => XS.bipush X_7.here hx rfl (hb hby at_45) k) ?_
  show OGo p e below _ (T_7.setTop (mkF m 47 #[.val (.int p1), .val (.int p2), .val (.int p3), .val (.int p4), .val (.int p5), .val (.int p6), .val (.int lx), .val (.int rc), .val (.int rp), .unset, .unset, .unset, .unset, .unset, .unset, .unset] [(.int (8 : Int32)), (.int p4), (.int (0 : Int32)), (.ref b_7), (.ref b_7)]))
  refine OGo.to (fun _ k => XS.iushr X_7.here hx rfl (hb hby at_47) rfl k) ?_
  show OGo p e below _ (T_7.setTop (mkF m 48 #[.val (.int p1), .val (.int p2), .val (.int p3), .val (.int p4), .val (.int p5), .val (.int p6), .val (.int lx), .val (.int rc), .val (.int rp), .unset, .unset, .unset, .unset, .unset, .unset, .unset] [(.int ((p4.toUInt32 >>> ((8 : Int32) &&& 31).toUInt32).toInt32)), (.int (0 : Int32)), (.ref b_7), (.ref b_7)]))
  refine OGo.to (fun _ k => XS.sipush X_7.here hx rfl (hb hby at_48) k) ?_
  show OGo p e below _ (T_7.setTop (mkF m 51 #[.val (.int p1), .val (.int p2), .val (.int p3), .val (.int p4), .val (.int p5), .val (.int p6), .val (.int lx), .val (.int rc), .val (.int rp), .unset, .unset, .unset, .unset, .unset, .unset, .unset] [(.int (255 : Int32)), (.int ((p4.toUInt32 >>> ((8 : Int32) &&& 31).toUInt32).toInt32)), (.int (0 : Int32)), (.ref b_7), (.ref b_7)]))
  refine OGo.to (fun _ k => XS.iand X_7.here hx rfl (hb hby at_51) rfl k) ?_
  show OGo p e below _ (T_7.setTop (mkF m 52 #[.val (.int p1), .val (.int p2), .val (.int p3), .val (.int p4), .val (.int p5), .val (.int p6), .val (.int lx), .val (.int rc), .val (.int rp), .unset, .unset, .unset, .unset, .unset, .unset, .unset] [(.int (((p4.toUInt32 >>> ((8 : Int32) &&& 31).toUInt32).toInt32) &&& (255 : Int32))), (.int (0 : Int32)), (.ref b_7), (.ref b_7)]))
  refine OGo.to (fun _ k => XS.i2c X_7.here hx rfl (hb hby at_52) rfl k) ?_
  show OGo p e below _ (T_7.setTop (mkF m 53 #[.val (.int p1), .val (.int p2), .val (.int p3), .val (.int p4), .val (.int p5), .val (.int p6), .val (.int lx), .val (.int rc), .val (.int rp), .unset, .unset, .unset, .unset, .unset, .unset, .unset] [(.int ((((p4.toUInt32 >>> ((8 : Int32) &&& 31).toUInt32).toInt32) &&& (255 : Int32)).toUInt32.toUInt16.toUInt32.toInt32)), (.int (0 : Int32)), (.ref b_7), (.ref b_7)]))
  have Vq_10 := V_7
  obtain ⟨cl_10, Ar_10, q_10, S_10, M_10, Hs_10, G_10⟩ := Vq_10
  have hin_11 : ¬ ((0 : Int32) < 0 ∨ cl_10.slots.size ≤ ((0 : Int32)).toNatClampNeg) := inb_of S_10 ⟨by decide, by decide⟩
  obtain ⟨T_11, h_11, X_11, e_11, W_11, st_11⟩ := stC X_7 hx hZ e_7 Ar_10 (j := (0 : Int32)) hin_11 (g := (mkF m 53 #[.val (.int p1), .val (.int p2), .val (.int p3), .val (.int p4), .val (.int p5), .val (.int p6), .val (.int lx), .val (.int rc), .val (.int rp), .unset, .unset, .unset, .unset, .unset, .unset, .unset] [(.int ((((p4.toUInt32 >>> ((8 : Int32) &&& 31).toUInt32).toInt32) &&& (255 : Int32)).toUInt32.toUInt16.toUInt32.toInt32)), (.int (0 : Int32)), (.ref b_7), (.ref b_7)])) rfl rfl (hb hby at_53)
  refine OGo.to st_11 ?_
  have V_11 : Arv Z h_11 b_7 k_7 .char (1 : Int32) [(.int (nar .char ((((p4.toUInt32 >>> ((8 : Int32) &&& 31).toUInt32).toInt32) &&& (255 : Int32)).toUInt32.toUInt16.toUInt32.toInt32)))] (.int (0 : Int32)) := Arv.set Ar_10 q_10 S_10 M_10 Hs_10 G_10 (fits_nar_char _) W_11 0 rfl (Nat.le_of_ble_eq_true rfl)
  have N_11 := Fr.snoc X_11 N0 g_b_7
  have z_12 : n0 ≤ h_11.size := Nat.le_trans z_8 (Keep.of_wr W_11).1
  have O_13 : Old Z n0 h_11 := O_9.wr W_11 g_b_7
  show OGo p e below _ (T_11.setTop (mkF m 54 #[.val (.int p1), .val (.int p2), .val (.int p3), .val (.int p4), .val (.int p5), .val (.int p6), .val (.int lx), .val (.int rc), .val (.int rp), .unset, .unset, .unset, .unset, .unset, .unset, .unset] [(.ref b_7)]))
  refine OGo.to (fun _ k => XS.astore X_11.here hx rfl (hb hby at_54) rfl rfl (l' := #[.val (.int p1), .val (.int p2), .val (.int p3), .val (.int p4), .val (.int p5), .val (.int p6), .val (.int lx), .val (.int rc), .val (.int rp), .val (.ref b_7), .unset, .unset, .unset, .unset, .unset, .unset]) rfl k) ?_
  show OGo p e below _ (T_11.setTop (mkF m 56 #[.val (.int p1), .val (.int p2), .val (.int p3), .val (.int p4), .val (.int p5), .val (.int p6), .val (.int lx), .val (.int rc), .val (.int rp), .val (.ref b_7), .unset, .unset, .unset, .unset, .unset, .unset] []))
  refine OGo.to (fun _ k => XS.iloadN X_11.here hx rfl (hb hby at_56) rfl k) ?_
  show OGo p e below _ (T_11.setTop (mkF m 57 #[.val (.int p1), .val (.int p2), .val (.int p3), .val (.int p4), .val (.int p5), .val (.int p6), .val (.int lx), .val (.int rc), .val (.int rp), .val (.ref b_7), .unset, .unset, .unset, .unset, .unset, .unset] [(.int p4)]))
  refine OGo.to (fun _ k => XS.bipush X_11.here hx rfl (hb hby at_57) k) ?_
  show OGo p e below _ (T_11.setTop (mkF m 59 #[.val (.int p1), .val (.int p2), .val (.int p3), .val (.int p4), .val (.int p5), .val (.int p6), .val (.int lx), .val (.int rc), .val (.int rp), .val (.ref b_7), .unset, .unset, .unset, .unset, .unset, .unset] [(.int (16 : Int32)), (.int p4)]))
  refine OGo.to (fun _ k => XS.iushr X_11.here hx rfl (hb hby at_59) rfl k) ?_
  show OGo p e below _ (T_11.setTop (mkF m 60 #[.val (.int p1), .val (.int p2), .val (.int p3), .val (.int p4), .val (.int p5), .val (.int p6), .val (.int lx), .val (.int rc), .val (.int rp), .val (.ref b_7), .unset, .unset, .unset, .unset, .unset, .unset] [(.int ((p4.toUInt32 >>> ((16 : Int32) &&& 31).toUInt32).toInt32))]))
  refine OGo.to (fun _ k => XS.sipush X_11.here hx rfl (hb hby at_60) k) ?_
  show OGo p e below _ (T_11.setTop (mkF m 63 #[.val (.int p1), .val (.int p2), .val (.int p3), .val (.int p4), .val (.int p5), .val (.int p6), .val (.int lx), .val (.int rc), .val (.int rp), .val (.ref b_7), .unset, .unset, .unset, .unset, .unset, .unset] [(.int (255 : Int32)), (.int ((p4.toUInt32 >>> ((16 : Int32) &&& 31).toUInt32).toInt32))]))
  refine OGo.to (fun _ k => XS.iand X_11.here hx rfl (hb hby at_63) rfl k) ?_
  show OGo p e below _ (T_11.setTop (mkF m 64 #[.val (.int p1), .val (.int p2), .val (.int p3), .val (.int p4), .val (.int p5), .val (.int p6), .val (.int lx), .val (.int rc), .val (.int rp), .val (.ref b_7), .unset, .unset, .unset, .unset, .unset, .unset] [(.int (((p4.toUInt32 >>> ((16 : Int32) &&& 31).toUInt32).toInt32) &&& (255 : Int32)))]))
  refine OGo.to (fun _ k => XS.i2c X_11.here hx rfl (hb hby at_64) rfl k) ?_
  show OGo p e below _ (T_11.setTop (mkF m 65 #[.val (.int p1), .val (.int p2), .val (.int p3), .val (.int p4), .val (.int p5), .val (.int p6), .val (.int lx), .val (.int rc), .val (.int rp), .val (.ref b_7), .unset, .unset, .unset, .unset, .unset, .unset] [(.int ((((p4.toUInt32 >>> ((16 : Int32) &&& 31).toUInt32).toInt32) &&& (255 : Int32)).toUInt32.toUInt16.toUInt32.toInt32))]))
  obtain ⟨_, T_14, Lc_14, X_14, hQ_14, st_14⟩ := own_un X_11 (Q := Qvo Z ((((p4.toUInt32 >>> ((16 : Int32) &&& 31).toUInt32).toInt32) &&& (255 : Int32)).toUInt32.toUInt16.toUInt32.toInt32) cs h_11 n0) (rc := 2) (rs := 5) (W := fun v B => ∀ target, Steps p.tables e below (B.setTop { (mkF m 65 #[.val (.int p1), .val (.int p2), .val (.int p3), .val (.int p4), .val (.int p5), .val (.int p6), .val (.int lx), .val (.int rc), .val (.int rp), .val (.ref b_7), .unset, .unset, .unset, .unset, .unset, .unset] [(.int ((((p4.toUInt32 >>> ((16 : Int32) &&& 31).toUInt32).toInt32) &&& (255 : Int32)).toUInt32.toUInt16.toUInt32.toInt32))]) with pc := 68, stack := v.toList ++ [] }) target → Steps p.tables e below (T_11.setTop (mkF m 65 #[.val (.int p1), .val (.int p2), .val (.int p3), .val (.int p4), .val (.int p5), .val (.int p6), .val (.int lx), .val (.int rc), .val (.int rp), .val (.ref b_7), .unset, .unset, .unset, .unset, .unset, .unset] [(.int ((((p4.toUInt32 >>> ((16 : Int32) &&& 31).toUInt32).toInt32) &&& (255 : Int32)).toUInt32.toUInt16.toUInt32.toInt32))])) target) <| Jvm.LawKit.callS X_11 hx (y := (⟨"java/lang/String", "valueOf", "(C)Ljava/lang/String;"⟩ : MethodName)) hown (mvT hZ (hw _ (List.mem_of_getElem? (i := 1) rfl))) (mvT hZ (hw _ (List.mem_of_getElem? (i := 2) rfl))) (mvT hZ (hw _ (List.mem_of_getElem? (i := 3) rfl))) (mvT hZ (hw _ (List.mem_of_getElem? (i := 4) rfl))) (by decide) (backOf (W := 0) (rmvo l Z a0 hw [] ((((p4.toUInt32 >>> ((16 : Int32) &&& 31).toUInt32).toInt32) &&& (255 : Int32)).toUInt32.toUInt16.toUInt32.toInt32) cs h_11 n0 z_12 SC O_13 (hcs) (by rw [own_cc]; exact own_c255 _)) hZ (hw _ (List.mem_of_getElem? (i := 4) rfl)) (hw _ (List.mem_of_getElem? (i := 3) rfl)) (by decide) (by decide)) (g := (mkF m 65 #[.val (.int p1), .val (.int p2), .val (.int p3), .val (.int p4), .val (.int p5), .val (.int p6), .val (.int lx), .val (.int rc), .val (.int rp), .val (.ref b_7), .unset, .unset, .unset, .unset, .unset, .unset] [(.int ((((p4.toUInt32 >>> ((16 : Int32) &&& 31).toUInt32).toInt32) &&& (255 : Int32)).toUInt32.toUInt16.toUInt32.toInt32))])) rfl (by rw [hml]; rfl) (argsL := [(.int ((((p4.toUInt32 >>> ((16 : Int32) &&& 31).toUInt32).toInt32) &&& (255 : Int32)).toUInt32.toUInt16.toUInt32.toInt32))]) (rest := []) (lenOf pd_8 rfl) rfl (by show 2 * 0 + _ ≤ _; exact Nat.le_of_eq rfl) (hb hby at_65) (fun _ _ => ⟨rfl, e_11, (by decide : 1 + 2 ≤ _), (by decide : 1 + 5 ≤ _)⟩)
  obtain ⟨o__14, b__14, kb__14, rfl, N_14q, K_14, gq_o__14, sq_o__14, gq_b__14, sq_b__14, p_14_0, p_14_1, p_14_2, p_14_3, p_14_4⟩ := hQ_14
  have N_14 := Fr.app N_11 N_14q
  refine OGo.to st_14 ?_
  have ne_b_7_o__14 : b_7 ≠ o__14 := Nat.ne_of_lt (Nat.lt_of_lt_of_le V_11.lt sq_o__14)
  have ne_b_7_b__14 : b_7 ≠ b__14 := Nat.ne_of_lt (Nat.lt_of_lt_of_le V_11.lt sq_b__14)
  have z_15 : n0 ≤ T_14.heap.size := Nat.le_trans z_12 K_14.1
  have O_16 : Old Z n0 T_14.heap := O_13.keep K_14 all0
  show OGo p e below _ (T_14.setTop (mkF m 68 #[.val (.int p1), .val (.int p2), .val (.int p3), .val (.int p4), .val (.int p5), .val (.int p6), .val (.int lx), .val (.int rc), .val (.int rp), .val (.ref b_7), .unset, .unset, .unset, .unset, .unset, .unset] [(.ref o__14)]))
  refine OGo.to (fun _ k => XS.astore X_14.here hx rfl (hb hby at_68) rfl rfl (l' := #[.val (.int p1), .val (.int p2), .val (.int p3), .val (.int p4), .val (.int p5), .val (.int p6), .val (.int lx), .val (.int rc), .val (.int rp), .val (.ref b_7), .val (.ref o__14), .unset, .unset, .unset, .unset, .unset]) rfl k) ?_
  show OGo p e below _ (T_14.setTop (mkF m 70 #[.val (.int p1), .val (.int p2), .val (.int p3), .val (.int p4), .val (.int p5), .val (.int p6), .val (.int lx), .val (.int rc), .val (.int rp), .val (.ref b_7), .val (.ref o__14), .unset, .unset, .unset, .unset, .unset] []))
  have f_18 : Arv Z T_14.heap b_7 k_7 .char (1 : Int32) [(.int (nar .char ((((p4.toUInt32 >>> ((8 : Int32) &&& 31).toUInt32).toInt32) &&& (255 : Int32)).toUInt32.toUInt16.toUInt32.toInt32)))] (.int (0 : Int32)) := (V_11.keep K_14 (List.not_mem_nil))
  obtain ⟨T_17, h_17, X_17, e_17, E_17, A_17, D_17, -, st_17⟩ := newO X_14 hx hZ hown (hw _ (List.mem_of_getElem? (i := 27) rfl)) (hw _ (List.mem_of_getElem? (i := 28) rfl)) (hw _ (List.mem_of_getElem? (i := 29) rfl)) (rfl : T_14.heap = T_14.heap) (g := (mkF m 70 #[.val (.int p1), .val (.int p2), .val (.int p3), .val (.int p4), .val (.int p5), .val (.int p6), .val (.int lx), .val (.int rc), .val (.int rp), .val (.ref b_7), .val (.ref o__14), .unset, .unset, .unset, .unset, .unset] [])) rfl (hb hby at_70) (by decide) (by decide)
  obtain ⟨b_17, g_17⟩ : ∃ z, z = T_14.heap.size := ⟨_, rfl⟩
  rw [← g_17] at A_17 D_17 st_17
  have g_b_17 : n0 ≤ b_17 := Nat.le_trans z_15 (Nat.le_of_eq g_17.symm)
  refine OGo.to st_17 ?_
  have ne_b_7_b_17 : b_7 ≠ b_17 := Nat.ne_of_lt (Nat.lt_of_lt_of_le f_18.lt (Nat.le_of_eq g_17.symm))
  have ne_o__14_b_17 : o__14 ≠ b_17 := Nat.ne_of_lt (Nat.lt_of_lt_of_le p_14_0.lt (Nat.le_of_eq g_17.symm))
  have ne_b__14_b_17 : b__14 ≠ b_17 := Nat.ne_of_lt (Nat.lt_of_lt_of_le p_14_3.lt (Nat.le_of_eq g_17.symm))
  have z_19 : n0 ≤ h_17.size := Nat.le_trans z_15 E_17.1
  have O_20 : Old Z n0 h_17 := O_16.ext E_17
  have F_file_b_17 : Fld Z h_17 b_17 "com/example/dromos/dromos/model/Location" "file" "Ljava/lang/String;" .null := D_17 (Or.inr (hw _ (List.mem_of_getElem? (i := 57) rfl))) (ty := (.object "java/lang/String")) (by decide)
  have F_line_b_17 : Fld Z h_17 b_17 "com/example/dromos/dromos/model/Location" "line" "I" (.int (0 : Int32)) := D_17 (Or.inr (hw _ (List.mem_of_getElem? (i := 59) rfl))) (ty := .int) (by decide)
  have F_column_b_17 : Fld Z h_17 b_17 "com/example/dromos/dromos/model/Location" "column" "I" (.int (0 : Int32)) := D_17 (Or.inr (hw _ (List.mem_of_getElem? (i := 61) rfl))) (ty := .int) (by decide)
  show OGo p e below _ (T_17.setTop (mkF m 73 #[.val (.int p1), .val (.int p2), .val (.int p3), .val (.int p4), .val (.int p5), .val (.int p6), .val (.int lx), .val (.int rc), .val (.int rp), .val (.ref b_7), .val (.ref o__14), .unset, .unset, .unset, .unset, .unset] [(.ref b_17)]))
  refine OGo.to (fun _ k => XS.dup X_17.here hx rfl (hb hby at_73) rfl rfl k) ?_
  show OGo p e below _ (T_17.setTop (mkF m 74 #[.val (.int p1), .val (.int p2), .val (.int p3), .val (.int p4), .val (.int p5), .val (.int p6), .val (.int lx), .val (.int rc), .val (.int rp), .val (.ref b_7), .val (.ref o__14), .unset, .unset, .unset, .unset, .unset] [(.ref b_17), (.ref b_17)]))
  have f_22 : Arv Z h_17 b_7 k_7 .char (1 : Int32) [(.int (nar .char ((((p4.toUInt32 >>> ((8 : Int32) &&& 31).toUInt32).toInt32) &&& (255 : Int32)).toUInt32.toUInt16.toUInt32.toInt32)))] (.int (0 : Int32)) := (f_18.ext E_17)
  have f_23 : Exa Z h_17 o__14 "java/lang/String" := (p_14_0.ext E_17)
  have f_24 : Arv Z h_17 b__14 kb__14 .byte (1 : Int32) [(.int ((((((p4.toUInt32 >>> ((16 : Int32) &&& 31).toUInt32).toInt32) &&& (255 : Int32)).toUInt32.toUInt16.toUInt32.toInt32).toInt8.toInt32)).toInt8.toInt32)] (.int (0 : Int32)) := (p_14_3.ext E_17)
  obtain ⟨T_21, h_21, X_21, e_21, E_21, A_21, D_21, -, st_21⟩ := newO X_17 hx hZ hown (hw _ (List.mem_of_getElem? (i := 30) rfl)) (hw _ (List.mem_of_getElem? (i := 11) rfl)) (hw _ (List.mem_of_getElem? (i := 3) rfl)) e_17 (g := (mkF m 74 #[.val (.int p1), .val (.int p2), .val (.int p3), .val (.int p4), .val (.int p5), .val (.int p6), .val (.int lx), .val (.int rc), .val (.int rp), .val (.ref b_7), .val (.ref o__14), .unset, .unset, .unset, .unset, .unset] [(.ref b_17), (.ref b_17)])) rfl (hb hby at_74) (by decide) (by decide)
  obtain ⟨b_21, g_21⟩ : ∃ z, z = h_17.size := ⟨_, rfl⟩
  rw [← g_21] at A_21 D_21 st_21
  have g_b_21 : n0 ≤ b_21 := Nat.le_trans z_19 (Nat.le_of_eq g_21.symm)
  refine OGo.to st_21 ?_
  have ne_b_7_b_21 : b_7 ≠ b_21 := Nat.ne_of_lt (Nat.lt_of_lt_of_le f_22.lt (Nat.le_of_eq g_21.symm))
  have ne_o__14_b_21 : o__14 ≠ b_21 := Nat.ne_of_lt (Nat.lt_of_lt_of_le f_23.lt (Nat.le_of_eq g_21.symm))
  have ne_b__14_b_21 : b__14 ≠ b_21 := Nat.ne_of_lt (Nat.lt_of_lt_of_le f_24.lt (Nat.le_of_eq g_21.symm))
  have ne_b_17_b_21 : b_17 ≠ b_21 := Nat.ne_of_lt (Nat.lt_of_lt_of_le A_17.lt (Nat.le_of_eq g_21.symm))
  have z_25 : n0 ≤ h_21.size := Nat.le_trans z_19 E_21.1
  have O_26 : Old Z n0 h_21 := O_20.ext E_21
  have F_value_b_21 : Fld Z h_21 b_21 "java/lang/String" "value" "[B" .null := D_21 (Or.inr (hw _ (List.mem_of_getElem? (i := 24) rfl))) (ty := (.array .byte)) (by decide)
  have F_coder_b_21 : Fld Z h_21 b_21 "java/lang/String" "coder" "B" (.int (0 : Int32)) := D_21 (Or.inr (hw _ (List.mem_of_getElem? (i := 26) rfl))) (ty := .byte) (by decide)
  show OGo p e below _ (T_21.setTop (mkF m 77 #[.val (.int p1), .val (.int p2), .val (.int p3), .val (.int p4), .val (.int p5), .val (.int p6), .val (.int lx), .val (.int rc), .val (.int rp), .val (.ref b_7), .val (.ref o__14), .unset, .unset, .unset, .unset, .unset] [(.ref b_21), (.ref b_17), (.ref b_17)]))
  refine OGo.to (fun _ k => XS.dup X_21.here hx rfl (hb hby at_77) rfl rfl k) ?_
  show OGo p e below _ (T_21.setTop (mkF m 78 #[.val (.int p1), .val (.int p2), .val (.int p3), .val (.int p4), .val (.int p5), .val (.int p6), .val (.int lx), .val (.int rc), .val (.int rp), .val (.ref b_7), .val (.ref o__14), .unset, .unset, .unset, .unset, .unset] [(.ref b_21), (.ref b_21), (.ref b_17), (.ref b_17)]))
  refine OGo.to (fun _ k => XS.aload X_21.here hx rfl (hb hby at_78) rfl rfl k) ?_
  show OGo p e below _ (T_21.setTop (mkF m 80 #[.val (.int p1), .val (.int p2), .val (.int p3), .val (.int p4), .val (.int p5), .val (.int p6), .val (.int lx), .val (.int rc), .val (.int rp), .val (.ref b_7), .val (.ref o__14), .unset, .unset, .unset, .unset, .unset] [(.ref b_7), (.ref b_21), (.ref b_21), (.ref b_17), (.ref b_17)]))
  have f_28 : Arv Z h_21 b_7 k_7 .char (1 : Int32) [(.int (nar .char ((((p4.toUInt32 >>> ((8 : Int32) &&& 31).toUInt32).toInt32) &&& (255 : Int32)).toUInt32.toUInt16.toUInt32.toInt32)))] (.int (0 : Int32)) := (f_22.ext E_21)
  have f_29 : Exa Z h_21 o__14 "java/lang/String" := (f_23.ext E_21)
  have f_30 : Arv Z h_21 b__14 kb__14 .byte (1 : Int32) [(.int ((((((p4.toUInt32 >>> ((16 : Int32) &&& 31).toUInt32).toInt32) &&& (255 : Int32)).toUInt32.toUInt16.toUInt32.toInt32).toInt8.toInt32)).toInt8.toInt32)] (.int (0 : Int32)) := (f_24.ext E_21)
  have f_31 : Exa Z h_21 b_17 "com/example/dromos/dromos/model/Location" := (A_17.ext E_21)
  obtain ⟨_, T_27, Lc_27, X_27, hQ_27, st_27⟩ := own_un X_21 (Q := Qsc1 Z b_21 b_7 k_7 (nar .char ((((p4.toUInt32 >>> ((8 : Int32) &&& 31).toUInt32).toInt32) &&& (255 : Int32)).toUInt32.toUInt16.toUInt32.toInt32)) cs h_21 n0) (rc := 1) (rs := 1) (W := fun v B => Steps p.tables e below (T_21.setTop (mkF m 80 #[.val (.int p1), .val (.int p2), .val (.int p3), .val (.int p4), .val (.int p5), .val (.int p6), .val (.int lx), .val (.int rc), .val (.int rp), .val (.ref b_7), .val (.ref o__14), .unset, .unset, .unset, .unset, .unset] [(.ref b_7), (.ref b_21), (.ref b_21), (.ref b_17), (.ref b_17)])) (B.setTop { (mkF m 80 #[.val (.int p1), .val (.int p2), .val (.int p3), .val (.int p4), .val (.int p5), .val (.int p6), .val (.int lx), .val (.int rc), .val (.int rp), .val (.ref b_7), .val (.ref o__14), .unset, .unset, .unset, .unset, .unset] [(.ref b_7), (.ref b_21), (.ref b_21), (.ref b_17), (.ref b_17)]) with pc := 83, stack := v.toList ++ [(.ref b_21), (.ref b_17), (.ref b_17)] })) <| X_21.specialBack hx (y := (⟨"java/lang/String", "<init>", "([C)V"⟩ : MethodName)) rfl hown (mvT hZ (hw _ (List.mem_of_getElem? (i := 31) rfl))) (mvT hZ (hw _ (List.mem_of_getElem? (i := 32) rfl))) (mvT hZ (hw _ (List.mem_of_getElem? (i := 33) rfl))) (by decide) (backOf (W := 3) (rmsc1 l Z a0 hw [] b_21 b_7 k_7 (nar .char ((((p4.toUInt32 >>> ((8 : Int32) &&& 31).toUInt32).toInt32) &&& (255 : Int32)).toUInt32.toUInt16.toUInt32.toInt32)) cs h_21 n0 z_25 A_21 F_value_b_21 F_coder_b_21 g_b_21 f_28 (Ne.symm ne_b_7_b_21) SC O_26 (hcs) (by rw [own_cn]; exact own_c255 _)) hZ (hw _ (List.mem_of_getElem? (i := 33) rfl)) (hw _ (List.mem_of_getElem? (i := 3) rfl)) (by decide) (by decide)) (g := (mkF m 80 #[.val (.int p1), .val (.int p2), .val (.int p3), .val (.int p4), .val (.int p5), .val (.int p6), .val (.int lx), .val (.int rc), .val (.int rp), .val (.ref b_7), .val (.ref o__14), .unset, .unset, .unset, .unset, .unset] [(.ref b_7), (.ref b_21), (.ref b_21), (.ref b_17), (.ref b_17)])) rfl (by rw [hml]; rfl) (Steps.refl _) (a := b_21) (argsL := [(.ref b_7)]) (rest := [(.ref b_21), (.ref b_17), (.ref b_17)]) (lenOf pd_9 rfl) rfl (by show 2 * 0 + _ ≤ _; exact Nat.le_of_eq rfl) (hb hby at_80) (fun _ _ => ⟨rfl, e_21, (by decide : 5 + 1 ≤ _), (by decide : 13 + 1 ≤ _)⟩)
  obtain ⟨b__27, kb__27, rfl, N_27q, K_27, gq_b__27, sq_b__27, p_27_0, p_27_1, p_27_2⟩ := hQ_27
  have N_27 := Fr.app N_14 N_27q
  refine OGo.to (fun _ k => st_27.trans k) ?_
  have ne_b_7_b__27 : b_7 ≠ b__27 := Nat.ne_of_lt (Nat.lt_of_lt_of_le f_28.lt sq_b__27)
  have ne_o__14_b__27 : o__14 ≠ b__27 := Nat.ne_of_lt (Nat.lt_of_lt_of_le f_29.lt sq_b__27)
  have ne_b__14_b__27 : b__14 ≠ b__27 := Nat.ne_of_lt (Nat.lt_of_lt_of_le f_30.lt sq_b__27)
  have ne_b_17_b__27 : b_17 ≠ b__27 := Nat.ne_of_lt (Nat.lt_of_lt_of_le f_31.lt sq_b__27)
  have ne_b_21_b__27 : b_21 ≠ b__27 := Nat.ne_of_lt (Nat.lt_of_lt_of_le A_21.lt sq_b__27)
  have z_32 : n0 ≤ T_27.heap.size := Nat.le_trans z_25 K_27.1
  have O_33 : Old Z n0 T_27.heap := O_26.keep K_27 (allS g_b_21 all0)
  show OGo p e below _ (T_27.setTop (mkF m 83 #[.val (.int p1), .val (.int p2), .val (.int p3), .val (.int p4), .val (.int p5), .val (.int p6), .val (.int lx), .val (.int rc), .val (.int rp), .val (.ref b_7), .val (.ref o__14), .unset, .unset, .unset, .unset, .unset] [(.ref b_21), (.ref b_17), (.ref b_17)]))
  refine OGo.to (fun _ k => XS.iloadN X_27.here hx rfl (hb hby at_83) rfl k) ?_
  show OGo p e below _ (T_27.setTop (mkF m 84 #[.val (.int p1), .val (.int p2), .val (.int p3), .val (.int p4), .val (.int p5), .val (.int p6), .val (.int lx), .val (.int rc), .val (.int rp), .val (.ref b_7), .val (.ref o__14), .unset, .unset, .unset, .unset, .unset] [(.int p3), (.ref b_21), (.ref b_17), (.ref b_17)]))
  refine OGo.to (fun _ k => XS.iload X_27.here hx rfl (hb hby at_84) rfl k) ?_
  show OGo p e below _ (T_27.setTop (mkF m 86 #[.val (.int p1), .val (.int p2), .val (.int p3), .val (.int p4), .val (.int p5), .val (.int p6), .val (.int lx), .val (.int rc), .val (.int rp), .val (.ref b_7), .val (.ref o__14), .unset, .unset, .unset, .unset, .unset] [(.int p5), (.int p3), (.ref b_21), (.ref b_17), (.ref b_17)]))
  have f_35 : Exa Z T_27.heap b_17 "com/example/dromos/dromos/model/Location" := (f_31.keep K_27)
  have f_36 : Fld Z T_27.heap b_17 "com/example/dromos/dromos/model/Location" "file" "Ljava/lang/String;" .null := ((F_file_b_17.ext E_21).keep K_27 (fun q => ne_b_17_b_21 (List.mem_singleton.mp q)))
  have f_37 : Fld Z T_27.heap b_17 "com/example/dromos/dromos/model/Location" "line" "I" (.int (0 : Int32)) := ((F_line_b_17.ext E_21).keep K_27 (fun q => ne_b_17_b_21 (List.mem_singleton.mp q)))
  have f_38 : Fld Z T_27.heap b_17 "com/example/dromos/dromos/model/Location" "column" "I" (.int (0 : Int32)) := ((F_column_b_17.ext E_21).keep K_27 (fun q => ne_b_17_b_21 (List.mem_singleton.mp q)))
  obtain ⟨_, T_34, Lc_34, X_34, hQ_34, st_34⟩ := own_un X_27 (Q := Q11 Z b_17 b_21 p3 p5 T_27.heap n0) (rc := 0) (rs := 0) (W := fun v B => Steps p.tables e below (T_27.setTop (mkF m 86 #[.val (.int p1), .val (.int p2), .val (.int p3), .val (.int p4), .val (.int p5), .val (.int p6), .val (.int lx), .val (.int rc), .val (.int rp), .val (.ref b_7), .val (.ref o__14), .unset, .unset, .unset, .unset, .unset] [(.int p5), (.int p3), (.ref b_21), (.ref b_17), (.ref b_17)])) (B.setTop { (mkF m 86 #[.val (.int p1), .val (.int p2), .val (.int p3), .val (.int p4), .val (.int p5), .val (.int p6), .val (.int lx), .val (.int rc), .val (.int rp), .val (.ref b_7), .val (.ref o__14), .unset, .unset, .unset, .unset, .unset] [(.int p5), (.int p3), (.ref b_21), (.ref b_17), (.ref b_17)]) with pc := 89, stack := v.toList ++ [(.ref b_17)] })) <| X_27.specialBack hx (y := (⟨"com/example/dromos/dromos/model/Location", "<init>", "(Ljava/lang/String;II)V"⟩ : MethodName)) rfl hown (mvT hZ (hw _ (List.mem_of_getElem? (i := 47) rfl))) (mvT hZ (hw _ (List.mem_of_getElem? (i := 48) rfl))) (mvT hZ (hw _ (List.mem_of_getElem? (i := 49) rfl))) (by decide) (backOf (W := 1) (rm11 l Z a0 hw [] b_17 b_21 p3 p5 T_27.heap n0 z_32 f_35 f_36 f_37 f_38 g_b_17) hZ (hw _ (List.mem_of_getElem? (i := 49) rfl)) (hw _ (List.mem_of_getElem? (i := 29) rfl)) (by decide) (by decide)) (g := (mkF m 86 #[.val (.int p1), .val (.int p2), .val (.int p3), .val (.int p4), .val (.int p5), .val (.int p6), .val (.int lx), .val (.int rc), .val (.int rp), .val (.ref b_7), .val (.ref o__14), .unset, .unset, .unset, .unset, .unset] [(.int p5), (.int p3), (.ref b_21), (.ref b_17), (.ref b_17)])) rfl (by rw [hml]; rfl) (Steps.refl _) (a := b_17) (argsL := [(.ref b_21), (.int p3), (.int p5)]) (rest := [(.ref b_17)]) (lenOf pd_10 rfl) rfl (by show 2 * 0 + _ ≤ _; exact Nat.le_of_eq rfl) (hb hby at_86) (fun _ _ => ⟨rfl, (rfl : T_27.heap = T_27.heap), (by decide : 6 + 0 ≤ _), (by decide : 14 + 0 ≤ _)⟩)
  obtain ⟨rfl, N_34q, K_34⟩ := hQ_34
  have N_34 := Fr.app N_27 N_34q
  refine OGo.to (fun _ k => st_34.trans k) ?_
  have z_39 : n0 ≤ T_34.heap.size := Nat.le_trans z_32 K_34.1
  have O_40 : Old Z n0 T_34.heap := O_33.keep K_34 (allS g_b_17 all0)
  show OGo p e below _ (T_34.setTop (mkF m 89 #[.val (.int p1), .val (.int p2), .val (.int p3), .val (.int p4), .val (.int p5), .val (.int p6), .val (.int lx), .val (.int rc), .val (.int rp), .val (.ref b_7), .val (.ref o__14), .unset, .unset, .unset, .unset, .unset] [(.ref b_17)]))
  refine OGo.to (fun _ k => XS.astore X_34.here hx rfl (hb hby at_89) rfl rfl (l' := #[.val (.int p1), .val (.int p2), .val (.int p3), .val (.int p4), .val (.int p5), .val (.int p6), .val (.int lx), .val (.int rc), .val (.int rp), .val (.ref b_7), .val (.ref o__14), .val (.ref b_17), .unset, .unset, .unset, .unset]) rfl k) ?_
  show OGo p e below _ (T_34.setTop (mkF m 91 #[.val (.int p1), .val (.int p2), .val (.int p3), .val (.int p4), .val (.int p5), .val (.int p6), .val (.int lx), .val (.int rc), .val (.int rp), .val (.ref b_7), .val (.ref o__14), .val (.ref b_17), .unset, .unset, .unset, .unset] []))
  have f_42 : Arv Z T_34.heap b_7 k_7 .char (1 : Int32) [(.int (nar .char ((((p4.toUInt32 >>> ((8 : Int32) &&& 31).toUInt32).toInt32) &&& (255 : Int32)).toUInt32.toUInt16.toUInt32.toInt32)))] (.int (0 : Int32)) := ((f_28.keep K_27 (fun q => ne_b_7_b_21 (List.mem_singleton.mp q))).keep K_34 (fun q => ne_b_7_b_17 (List.mem_singleton.mp q)))
  have f_43 : Exa Z T_34.heap o__14 "java/lang/String" := ((f_29.keep K_27).keep K_34)
  have f_44 : Arv Z T_34.heap b__14 kb__14 .byte (1 : Int32) [(.int ((((((p4.toUInt32 >>> ((16 : Int32) &&& 31).toUInt32).toInt32) &&& (255 : Int32)).toUInt32.toUInt16.toUInt32.toInt32).toInt8.toInt32)).toInt8.toInt32)] (.int (0 : Int32)) := ((f_30.keep K_27 (fun q => ne_b__14_b_21 (List.mem_singleton.mp q))).keep K_34 (fun q => ne_b__14_b_17 (List.mem_singleton.mp q)))
  have f_45 : Exa Z T_34.heap b_17 "com/example/dromos/dromos/model/Location" := (f_35.keep K_34)
  have f_46 : Exa Z T_34.heap b_21 "java/lang/String" := ((A_21.keep K_27).keep K_34)
  have f_47 : Arv Z T_34.heap b__27 kb__27 .byte (1 : Int32) [(.int (((nar .char ((((p4.toUInt32 >>> ((8 : Int32) &&& 31).toUInt32).toInt32) &&& (255 : Int32)).toUInt32.toUInt16.toUInt32.toInt32)).toInt8.toInt32)).toInt8.toInt32)] (.int (0 : Int32)) := (p_27_2.keep K_34 (fun q => (Ne.symm ne_b_17_b__27) (List.mem_singleton.mp q)))
  obtain ⟨T_41, h_41, X_41, e_41, E_41, A_41, D_41, -, st_41⟩ := newO X_34 hx hZ hown (hw _ (List.mem_of_getElem? (i := 62) rfl)) (hw _ (List.mem_of_getElem? (i := 63) rfl)) (hw _ (List.mem_of_getElem? (i := 64) rfl)) (rfl : T_34.heap = T_34.heap) (g := (mkF m 91 #[.val (.int p1), .val (.int p2), .val (.int p3), .val (.int p4), .val (.int p5), .val (.int p6), .val (.int lx), .val (.int rc), .val (.int rp), .val (.ref b_7), .val (.ref o__14), .val (.ref b_17), .unset, .unset, .unset, .unset] [])) rfl (hb hby at_91) (by decide) (by decide)
  obtain ⟨b_41, g_41⟩ : ∃ z, z = T_34.heap.size := ⟨_, rfl⟩
  rw [← g_41] at A_41 D_41 st_41
  have g_b_41 : n0 ≤ b_41 := Nat.le_trans z_39 (Nat.le_of_eq g_41.symm)
  refine OGo.to st_41 ?_
  have ne_b_7_b_41 : b_7 ≠ b_41 := Nat.ne_of_lt (Nat.lt_of_lt_of_le f_42.lt (Nat.le_of_eq g_41.symm))
  have ne_o__14_b_41 : o__14 ≠ b_41 := Nat.ne_of_lt (Nat.lt_of_lt_of_le f_43.lt (Nat.le_of_eq g_41.symm))
  have ne_b__14_b_41 : b__14 ≠ b_41 := Nat.ne_of_lt (Nat.lt_of_lt_of_le f_44.lt (Nat.le_of_eq g_41.symm))
  have ne_b_17_b_41 : b_17 ≠ b_41 := Nat.ne_of_lt (Nat.lt_of_lt_of_le f_45.lt (Nat.le_of_eq g_41.symm))
  have ne_b_21_b_41 : b_21 ≠ b_41 := Nat.ne_of_lt (Nat.lt_of_lt_of_le f_46.lt (Nat.le_of_eq g_41.symm))
  have ne_b__27_b_41 : b__27 ≠ b_41 := Nat.ne_of_lt (Nat.lt_of_lt_of_le f_47.lt (Nat.le_of_eq g_41.symm))
  have z_48 : n0 ≤ h_41.size := Nat.le_trans z_39 E_41.1
  have O_49 : Old Z n0 h_41 := O_40.ext E_41
  have F_bound_b_41 : Fld Z h_41 b_41 "com/example/dromos/dromos/service/Definition" "bound" "I" (.int (0 : Int32)) := D_41 (Or.inl (hw _ (List.mem_of_getElem? (i := 70) rfl))) (ty := .int) (by decide)
  have F_free_b_41 : Fld Z h_41 b_41 "com/example/dromos/dromos/service/Definition" "free" "I" (.int (0 : Int32)) := D_41 (Or.inl (hw _ (List.mem_of_getElem? (i := 72) rfl))) (ty := .int) (by decide)
  have F_operators_b_41 : Fld Z h_41 b_41 "com/example/dromos/dromos/service/Definition" "operators" "[I" .null := D_41 (Or.inl (hw _ (List.mem_of_getElem? (i := 75) rfl))) (ty := (.array .int)) (by decide)
  have F_name_b_41 : Fld Z h_41 b_41 "com/example/dromos/dromos/service/Definition" "name" "Ljava/lang/String;" .null := D_41 (Or.inr (hw _ (List.mem_of_getElem? (i := 77) rfl))) (ty := (.object "java/lang/String")) (by decide)
  have F_arity_b_41 : Fld Z h_41 b_41 "com/example/dromos/dromos/service/Definition" "arity" "I" (.int (0 : Int32)) := D_41 (Or.inr (hw _ (List.mem_of_getElem? (i := 79) rfl))) (ty := .int) (by decide)
  have F_hidden_b_41 : Fld Z h_41 b_41 "com/example/dromos/dromos/service/Definition" "hidden" "I" (.int (0 : Int32)) := D_41 (Or.inr (hw _ (List.mem_of_getElem? (i := 81) rfl))) (ty := .int) (by decide)
  have F_at_b_41 : Fld Z h_41 b_41 "com/example/dromos/dromos/service/Definition" "at" "Lcom/example/dromos/dromos/model/Location;" .null := D_41 (Or.inr (hw _ (List.mem_of_getElem? (i := 83) rfl))) (ty := (.object "com/example/dromos/dromos/model/Location")) (by decide)
  have F_lexical_b_41 : Fld Z h_41 b_41 "com/example/dromos/dromos/service/Definition" "lexical" "Z" (.int (0 : Int32)) := D_41 (Or.inr (hw _ (List.mem_of_getElem? (i := 85) rfl))) (ty := .boolean) (by decide)
  have F_slots_b_41 : Fld Z h_41 b_41 "com/example/dromos/dromos/service/Definition" "slots" "I" (.int (0 : Int32)) := D_41 (Or.inl (hw _ (List.mem_of_getElem? (i := 87) rfl))) (ty := .int) (by decide)
  have F_recursive_b_41 : Fld Z h_41 b_41 "com/example/dromos/dromos/service/Definition" "recursive" "Z" (.int (0 : Int32)) := D_41 (Or.inl (hw _ (List.mem_of_getElem? (i := 89) rfl))) (ty := .boolean) (by decide)
  have F_replacesVariable_b_41 : Fld Z h_41 b_41 "com/example/dromos/dromos/service/Definition" "replacesVariable" "Z" (.int (0 : Int32)) := D_41 (Or.inl (hw _ (List.mem_of_getElem? (i := 91) rfl))) (ty := .boolean) (by decide)
  show OGo p e below _ (T_41.setTop (mkF m 94 #[.val (.int p1), .val (.int p2), .val (.int p3), .val (.int p4), .val (.int p5), .val (.int p6), .val (.int lx), .val (.int rc), .val (.int rp), .val (.ref b_7), .val (.ref o__14), .val (.ref b_17), .unset, .unset, .unset, .unset] [(.ref b_41)]))
  refine OGo.to (fun _ k => XS.dup X_41.here hx rfl (hb hby at_94) rfl rfl k) ?_
  show OGo p e below _ (T_41.setTop (mkF m 95 #[.val (.int p1), .val (.int p2), .val (.int p3), .val (.int p4), .val (.int p5), .val (.int p6), .val (.int lx), .val (.int rc), .val (.int rp), .val (.ref b_7), .val (.ref o__14), .val (.ref b_17), .unset, .unset, .unset, .unset] [(.ref b_41), (.ref b_41)]))
  refine OGo.to (fun _ k => XS.aload X_41.here hx rfl (hb hby at_95) rfl rfl k) ?_
  show OGo p e below _ (T_41.setTop (mkF m 97 #[.val (.int p1), .val (.int p2), .val (.int p3), .val (.int p4), .val (.int p5), .val (.int p6), .val (.int lx), .val (.int rc), .val (.int rp), .val (.ref b_7), .val (.ref o__14), .val (.ref b_17), .unset, .unset, .unset, .unset] [(.ref o__14), (.ref b_41), (.ref b_41)]))
  refine OGo.to (fun _ k => XS.iloadN X_41.here hx rfl (hb hby at_97) rfl k) ?_
  show OGo p e below _ (T_41.setTop (mkF m 98 #[.val (.int p1), .val (.int p2), .val (.int p3), .val (.int p4), .val (.int p5), .val (.int p6), .val (.int lx), .val (.int rc), .val (.int rp), .val (.ref b_7), .val (.ref o__14), .val (.ref b_17), .unset, .unset, .unset, .unset] [(.int p1), (.ref o__14), (.ref b_41), (.ref b_41)]))
  refine OGo.to (fun _ k => XS.iloadN X_41.here hx rfl (hb hby at_98) rfl k) ?_
  show OGo p e below _ (T_41.setTop (mkF m 99 #[.val (.int p1), .val (.int p2), .val (.int p3), .val (.int p4), .val (.int p5), .val (.int p6), .val (.int lx), .val (.int rc), .val (.int rp), .val (.ref b_7), .val (.ref o__14), .val (.ref b_17), .unset, .unset, .unset, .unset] [(.int p2), (.int p1), (.ref o__14), (.ref b_41), (.ref b_41)]))
  refine OGo.to (fun _ k => XS.aload X_41.here hx rfl (hb hby at_99) rfl rfl k) ?_
  show OGo p e below _ (T_41.setTop (mkF m 101 #[.val (.int p1), .val (.int p2), .val (.int p3), .val (.int p4), .val (.int p5), .val (.int p6), .val (.int lx), .val (.int rc), .val (.int rp), .val (.ref b_7), .val (.ref o__14), .val (.ref b_17), .unset, .unset, .unset, .unset] [(.ref b_17), (.int p2), (.int p1), (.ref o__14), (.ref b_41), (.ref b_41)]))
  refine OGo.to (fun _ k => XS.iload X_41.here hx rfl (hb hby at_101) rfl k) ?_
  show OGo p e below _ (T_41.setTop (mkF m 103 #[.val (.int p1), .val (.int p2), .val (.int p3), .val (.int p4), .val (.int p5), .val (.int p6), .val (.int lx), .val (.int rc), .val (.int rp), .val (.ref b_7), .val (.ref o__14), .val (.ref b_17), .unset, .unset, .unset, .unset] [(.int lx), (.ref b_17), (.int p2), (.int p1), (.ref o__14), (.ref b_41), (.ref b_41)]))
  obtain ⟨_, T_50, Lc_50, X_50, hQ_50, st_50⟩ := own_un X_41 (Q := Q13 Z b_41 o__14 p1 p2 b_17 lx h_41 n0) (rc := 1) (rs := 0) (W := fun v B => Steps p.tables e below (T_41.setTop (mkF m 103 #[.val (.int p1), .val (.int p2), .val (.int p3), .val (.int p4), .val (.int p5), .val (.int p6), .val (.int lx), .val (.int rc), .val (.int rp), .val (.ref b_7), .val (.ref o__14), .val (.ref b_17), .unset, .unset, .unset, .unset] [(.int lx), (.ref b_17), (.int p2), (.int p1), (.ref o__14), (.ref b_41), (.ref b_41)])) (B.setTop { (mkF m 103 #[.val (.int p1), .val (.int p2), .val (.int p3), .val (.int p4), .val (.int p5), .val (.int p6), .val (.int lx), .val (.int rc), .val (.int rp), .val (.ref b_7), .val (.ref o__14), .val (.ref b_17), .unset, .unset, .unset, .unset] [(.int lx), (.ref b_17), (.int p2), (.int p1), (.ref o__14), (.ref b_41), (.ref b_41)]) with pc := 106, stack := v.toList ++ [(.ref b_41)] })) <| X_41.specialBack hx (y := (⟨"com/example/dromos/dromos/service/Definition", "<init>", "(Ljava/lang/String;IILcom/example/dromos/dromos/model/Location;Z)V"⟩ : MethodName)) rfl hown (mvT hZ (hw _ (List.mem_of_getElem? (i := 65) rfl))) (mvT hZ (hw _ (List.mem_of_getElem? (i := 66) rfl))) (mvT hZ (hw _ (List.mem_of_getElem? (i := 67) rfl))) (by decide) (backOf (W := 1) (rm13 l Z a0 hw [] b_41 o__14 p1 p2 b_17 lx h_41 n0 z_48 A_41 F_bound_b_41 F_free_b_41 F_operators_b_41 F_name_b_41 F_arity_b_41 F_hidden_b_41 F_at_b_41 F_lexical_b_41 F_slots_b_41 F_recursive_b_41 F_replacesVariable_b_41 g_b_41 (b_lx)) hZ (hw _ (List.mem_of_getElem? (i := 67) rfl)) (hw _ (List.mem_of_getElem? (i := 64) rfl)) (by decide) (by decide)) (g := (mkF m 103 #[.val (.int p1), .val (.int p2), .val (.int p3), .val (.int p4), .val (.int p5), .val (.int p6), .val (.int lx), .val (.int rc), .val (.int rp), .val (.ref b_7), .val (.ref o__14), .val (.ref b_17), .unset, .unset, .unset, .unset] [(.int lx), (.ref b_17), (.int p2), (.int p1), (.ref o__14), (.ref b_41), (.ref b_41)])) rfl (by rw [hml]; rfl) (Steps.refl _) (a := b_41) (argsL := [(.ref o__14), (.int p1), (.int p2), (.ref b_17), (.int lx)]) (rest := [(.ref b_41)]) (lenOf pd_11 rfl) rfl (by show 2 * 0 + _ ≤ _; exact Nat.le_of_eq rfl) (hb hby at_103) (fun _ _ => ⟨rfl, e_41, (by decide : 7 + 1 ≤ _), (by decide : 29 + 0 ≤ _)⟩)
  obtain ⟨rfl, N_50q, K_50, p_50_0, p_50_1, p_50_2, p_50_3, p_50_4, p_50_5, p_50_6⟩ := hQ_50
  have N_50 := Fr.app N_34 N_50q
  refine OGo.to (fun _ k => st_50.trans k) ?_
  have z_51 : n0 ≤ T_50.heap.size := Nat.le_trans z_48 K_50.1
  have O_52 : Old Z n0 T_50.heap := O_49.keep K_50 (allS g_b_41 all0)
  show OGo p e below _ (T_50.setTop (mkF m 106 #[.val (.int p1), .val (.int p2), .val (.int p3), .val (.int p4), .val (.int p5), .val (.int p6), .val (.int lx), .val (.int rc), .val (.int rp), .val (.ref b_7), .val (.ref o__14), .val (.ref b_17), .unset, .unset, .unset, .unset] [(.ref b_41)]))
  refine OGo.to (fun _ k => XS.astore X_50.here hx rfl (hb hby at_106) rfl rfl (l' := #[.val (.int p1), .val (.int p2), .val (.int p3), .val (.int p4), .val (.int p5), .val (.int p6), .val (.int lx), .val (.int rc), .val (.int rp), .val (.ref b_7), .val (.ref o__14), .val (.ref b_17), .val (.ref b_41), .unset, .unset, .unset]) rfl k) ?_
  show OGo p e below _ (T_50.setTop (mkF m 108 #[.val (.int p1), .val (.int p2), .val (.int p3), .val (.int p4), .val (.int p5), .val (.int p6), .val (.int lx), .val (.int rc), .val (.int rp), .val (.ref b_7), .val (.ref o__14), .val (.ref b_17), .val (.ref b_41), .unset, .unset, .unset] []))
  refine OGo.to (fun _ k => XS.aload X_50.here hx rfl (hb hby at_108) rfl rfl k) ?_
  show OGo p e below _ (T_50.setTop (mkF m 110 #[.val (.int p1), .val (.int p2), .val (.int p3), .val (.int p4), .val (.int p5), .val (.int p6), .val (.int lx), .val (.int rc), .val (.int rp), .val (.ref b_7), .val (.ref o__14), .val (.ref b_17), .val (.ref b_41), .unset, .unset, .unset] [(.ref b_41)]))
  refine OGo.to (fun _ k => XS.iload X_50.here hx rfl (hb hby at_110) rfl k) ?_
  show OGo p e below _ (T_50.setTop (mkF m 112 #[.val (.int p1), .val (.int p2), .val (.int p3), .val (.int p4), .val (.int p5), .val (.int p6), .val (.int lx), .val (.int rc), .val (.int rp), .val (.ref b_7), .val (.ref o__14), .val (.ref b_17), .val (.ref b_41), .unset, .unset, .unset] [(.int p5), (.ref b_41)]))
  have f_53 : Exa Z T_50.heap b_41 "com/example/dromos/dromos/service/Definition" := (A_41.keep K_50)
  obtain ⟨T_54, h_54, X_54, e_54, W_54, st_54⟩ := putF X_50 hx hZ hown (host := "") (Or.inl (hw _ (List.mem_of_getElem? (i := 86) rfl))) Via.refl (rfl : T_50.heap = T_50.heap) p_50_4 f_53 (Or.inl (hw _ (List.mem_of_getElem? (i := 87) rfl))) (hw _ (List.mem_of_getElem? (i := 63) rfl)) (ty := .int) (by decide) rfl rfl (g := (mkF m 112 #[.val (.int p1), .val (.int p2), .val (.int p3), .val (.int p4), .val (.int p5), .val (.int p6), .val (.int lx), .val (.int rc), .val (.int rp), .val (.ref b_7), .val (.ref o__14), .val (.ref b_17), .val (.ref b_41), .unset, .unset, .unset] [(.int p5), (.ref b_41)])) rfl rfl (hb hby at_112)
  refine OGo.to st_54 ?_
  have Fw_54 : Fld Z h_54 b_41 "com/example/dromos/dromos/service/Definition" "slots" "I" (.int p5) := p_50_4.same W_54
  have N_54 := Fr.snoc X_54 N_50 g_b_41
  have z_55 : n0 ≤ h_54.size := Nat.le_trans z_51 (Keep.of_wr W_54).1
  have O_56 : Old Z n0 h_54 := O_52.wr W_54 g_b_41
  show OGo p e below _ (T_54.setTop (mkF m 115 #[.val (.int p1), .val (.int p2), .val (.int p3), .val (.int p4), .val (.int p5), .val (.int p6), .val (.int lx), .val (.int rc), .val (.int rp), .val (.ref b_7), .val (.ref o__14), .val (.ref b_17), .val (.ref b_41), .unset, .unset, .unset] []))
  refine OGo.to (fun _ k => XS.aload X_54.here hx rfl (hb hby at_115) rfl rfl k) ?_
  show OGo p e below _ (T_54.setTop (mkF m 117 #[.val (.int p1), .val (.int p2), .val (.int p3), .val (.int p4), .val (.int p5), .val (.int p6), .val (.int lx), .val (.int rc), .val (.int rp), .val (.ref b_7), .val (.ref o__14), .val (.ref b_17), .val (.ref b_41), .unset, .unset, .unset] [(.ref b_41)]))
  refine OGo.to (fun _ k => XS.iload X_54.here hx rfl (hb hby at_117) rfl k) ?_
  show OGo p e below _ (T_54.setTop (mkF m 119 #[.val (.int p1), .val (.int p2), .val (.int p3), .val (.int p4), .val (.int p5), .val (.int p6), .val (.int lx), .val (.int rc), .val (.int rp), .val (.ref b_7), .val (.ref o__14), .val (.ref b_17), .val (.ref b_41), .unset, .unset, .unset] [(.int rc), (.ref b_41)]))
  have f_57 : Exa Z h_54 b_41 "com/example/dromos/dromos/service/Definition" := (f_53.wr W_54)
  have f_58 : Fld Z h_54 b_41 "com/example/dromos/dromos/service/Definition" "recursive" "Z" (.int (0 : Int32)) := (p_50_5.other W_54 (Or.inr (slot_ne (Or.inl (hw _ (List.mem_of_getElem? (i := 89) rfl))) (Or.inl (hw _ (List.mem_of_getElem? (i := 87) rfl))) (by decide) (t := .boolean) (t' := .int) (by decide) (by decide))))
  obtain ⟨T_59, h_59, X_59, e_59, W_59, st_59⟩ := putF X_54 hx hZ hown (host := "") (Or.inl (hw _ (List.mem_of_getElem? (i := 88) rfl))) Via.refl e_54 f_58 f_57 (Or.inl (hw _ (List.mem_of_getElem? (i := 89) rfl))) (hw _ (List.mem_of_getElem? (i := 63) rfl)) (ty := .boolean) (by decide) (own_b b_rc).1 (own_b b_rc).2 (g := (mkF m 119 #[.val (.int p1), .val (.int p2), .val (.int p3), .val (.int p4), .val (.int p5), .val (.int p6), .val (.int lx), .val (.int rc), .val (.int rp), .val (.ref b_7), .val (.ref o__14), .val (.ref b_17), .val (.ref b_41), .unset, .unset, .unset] [(.int rc), (.ref b_41)])) rfl rfl (hb hby at_119)
  refine OGo.to st_59 ?_
  have Fw_59 : Fld Z h_59 b_41 "com/example/dromos/dromos/service/Definition" "recursive" "Z" (.int rc) := f_58.same W_59
  have N_59 := Fr.snoc X_59 N_54 g_b_41
  have z_60 : n0 ≤ h_59.size := Nat.le_trans z_55 (Keep.of_wr W_59).1
  have O_61 : Old Z n0 h_59 := O_56.wr W_59 g_b_41
  show OGo p e below _ (T_59.setTop (mkF m 122 #[.val (.int p1), .val (.int p2), .val (.int p3), .val (.int p4), .val (.int p5), .val (.int p6), .val (.int lx), .val (.int rc), .val (.int rp), .val (.ref b_7), .val (.ref o__14), .val (.ref b_17), .val (.ref b_41), .unset, .unset, .unset] []))
  refine OGo.to (fun _ k => XS.aload X_59.here hx rfl (hb hby at_122) rfl rfl k) ?_
  show OGo p e below _ (T_59.setTop (mkF m 124 #[.val (.int p1), .val (.int p2), .val (.int p3), .val (.int p4), .val (.int p5), .val (.int p6), .val (.int lx), .val (.int rc), .val (.int rp), .val (.ref b_7), .val (.ref o__14), .val (.ref b_17), .val (.ref b_41), .unset, .unset, .unset] [(.ref b_41)]))
  refine OGo.to (fun _ k => XS.iload X_59.here hx rfl (hb hby at_124) rfl k) ?_
  show OGo p e below _ (T_59.setTop (mkF m 126 #[.val (.int p1), .val (.int p2), .val (.int p3), .val (.int p4), .val (.int p5), .val (.int p6), .val (.int lx), .val (.int rc), .val (.int rp), .val (.ref b_7), .val (.ref o__14), .val (.ref b_17), .val (.ref b_41), .unset, .unset, .unset] [(.int rp), (.ref b_41)]))
  have f_62 : Exa Z h_59 b_41 "com/example/dromos/dromos/service/Definition" := (f_57.wr W_59)
  have f_63 : Fld Z h_59 b_41 "com/example/dromos/dromos/service/Definition" "replacesVariable" "Z" (.int (0 : Int32)) := ((p_50_6.other W_54 (Or.inr (slot_ne (Or.inl (hw _ (List.mem_of_getElem? (i := 91) rfl))) (Or.inl (hw _ (List.mem_of_getElem? (i := 87) rfl))) (by decide) (t := .boolean) (t' := .int) (by decide) (by decide)))).other W_59 (Or.inr (slot_ne (Or.inl (hw _ (List.mem_of_getElem? (i := 91) rfl))) (Or.inl (hw _ (List.mem_of_getElem? (i := 89) rfl))) (by decide) (t := .boolean) (t' := .boolean) (by decide) (by decide))))
  obtain ⟨T_64, h_64, X_64, e_64, W_64, st_64⟩ := putF X_59 hx hZ hown (host := "") (Or.inl (hw _ (List.mem_of_getElem? (i := 90) rfl))) Via.refl e_59 f_63 f_62 (Or.inl (hw _ (List.mem_of_getElem? (i := 91) rfl))) (hw _ (List.mem_of_getElem? (i := 63) rfl)) (ty := .boolean) (by decide) (own_b b_rp).1 (own_b b_rp).2 (g := (mkF m 126 #[.val (.int p1), .val (.int p2), .val (.int p3), .val (.int p4), .val (.int p5), .val (.int p6), .val (.int lx), .val (.int rc), .val (.int rp), .val (.ref b_7), .val (.ref o__14), .val (.ref b_17), .val (.ref b_41), .unset, .unset, .unset] [(.int rp), (.ref b_41)])) rfl rfl (hb hby at_126)
  refine OGo.to st_64 ?_
  have Fw_64 : Fld Z h_64 b_41 "com/example/dromos/dromos/service/Definition" "replacesVariable" "Z" (.int rp) := f_63.same W_64
  have N_64 := Fr.snoc X_64 N_59 g_b_41
  have z_65 : n0 ≤ h_64.size := Nat.le_trans z_60 (Keep.of_wr W_64).1
  have O_66 : Old Z n0 h_64 := O_61.wr W_64 g_b_41
  show OGo p e below _ (T_64.setTop (mkF m 129 #[.val (.int p1), .val (.int p2), .val (.int p3), .val (.int p4), .val (.int p5), .val (.int p6), .val (.int lx), .val (.int rc), .val (.int rp), .val (.ref b_7), .val (.ref o__14), .val (.ref b_17), .val (.ref b_41), .unset, .unset, .unset] []))
  refine OGo.to (fun _ k => XS.aload X_64.here hx rfl (hb hby at_129) rfl rfl k) ?_
  show OGo p e below _ (T_64.setTop (mkF m 131 #[.val (.int p1), .val (.int p2), .val (.int p3), .val (.int p4), .val (.int p5), .val (.int p6), .val (.int lx), .val (.int rc), .val (.int rp), .val (.ref b_7), .val (.ref o__14), .val (.ref b_17), .val (.ref b_41), .unset, .unset, .unset] [(.ref b_41)]))
  refine OGo.to (fun _ k => XS.iload X_64.here hx rfl (hb hby at_131) rfl k) ?_
  show OGo p e below _ (T_64.setTop (mkF m 133 #[.val (.int p1), .val (.int p2), .val (.int p3), .val (.int p4), .val (.int p5), .val (.int p6), .val (.int lx), .val (.int rc), .val (.int rp), .val (.ref b_7), .val (.ref o__14), .val (.ref b_17), .val (.ref b_41), .unset, .unset, .unset] [(.int p6), (.ref b_41)]))
  have f_67 : Exa Z h_64 b_41 "com/example/dromos/dromos/service/Definition" := (f_62.wr W_64)
  have f_68 : Fld Z h_64 b_41 "com/example/dromos/dromos/service/Definition" "bound" "I" (.int (-1 : Int32)) := (((p_50_2.other W_54 (Or.inr (slot_ne (Or.inl (hw _ (List.mem_of_getElem? (i := 70) rfl))) (Or.inl (hw _ (List.mem_of_getElem? (i := 87) rfl))) (by decide) (t := .int) (t' := .int) (by decide) (by decide)))).other W_59 (Or.inr (slot_ne (Or.inl (hw _ (List.mem_of_getElem? (i := 70) rfl))) (Or.inl (hw _ (List.mem_of_getElem? (i := 89) rfl))) (by decide) (t := .int) (t' := .boolean) (by decide) (by decide)))).other W_64 (Or.inr (slot_ne (Or.inl (hw _ (List.mem_of_getElem? (i := 70) rfl))) (Or.inl (hw _ (List.mem_of_getElem? (i := 91) rfl))) (by decide) (t := .int) (t' := .boolean) (by decide) (by decide))))
  obtain ⟨T_69, h_69, X_69, e_69, W_69, st_69⟩ := putF X_64 hx hZ hown (host := "") (Or.inl (hw _ (List.mem_of_getElem? (i := 92) rfl))) Via.refl e_64 f_68 f_67 (Or.inl (hw _ (List.mem_of_getElem? (i := 70) rfl))) (hw _ (List.mem_of_getElem? (i := 63) rfl)) (ty := .int) (by decide) rfl rfl (g := (mkF m 133 #[.val (.int p1), .val (.int p2), .val (.int p3), .val (.int p4), .val (.int p5), .val (.int p6), .val (.int lx), .val (.int rc), .val (.int rp), .val (.ref b_7), .val (.ref o__14), .val (.ref b_17), .val (.ref b_41), .unset, .unset, .unset] [(.int p6), (.ref b_41)])) rfl rfl (hb hby at_133)
  refine OGo.to st_69 ?_
  have Fw_69 : Fld Z h_69 b_41 "com/example/dromos/dromos/service/Definition" "bound" "I" (.int p6) := f_68.same W_69
  have N_69 := Fr.snoc X_69 N_64 g_b_41
  have z_70 : n0 ≤ h_69.size := Nat.le_trans z_65 (Keep.of_wr W_69).1
  have O_71 : Old Z n0 h_69 := O_66.wr W_69 g_b_41
  show OGo p e below _ (T_69.setTop (mkF m 136 #[.val (.int p1), .val (.int p2), .val (.int p3), .val (.int p4), .val (.int p5), .val (.int p6), .val (.int lx), .val (.int rc), .val (.int rp), .val (.ref b_7), .val (.ref o__14), .val (.ref b_17), .val (.ref b_41), .unset, .unset, .unset] []))
  refine OGo.to (fun _ k => XS.aload X_69.here hx rfl (hb hby at_136) rfl rfl k) ?_
  show OGo p e below _ (T_69.setTop (mkF m 138 #[.val (.int p1), .val (.int p2), .val (.int p3), .val (.int p4), .val (.int p5), .val (.int p6), .val (.int lx), .val (.int rc), .val (.int rp), .val (.ref b_7), .val (.ref o__14), .val (.ref b_17), .val (.ref b_41), .unset, .unset, .unset] [(.ref b_41)]))
  refine OGo.to (fun _ k => XS.iloadN X_69.here hx rfl (hb hby at_138) rfl k) ?_
  show OGo p e below _ (T_69.setTop (mkF m 139 #[.val (.int p1), .val (.int p2), .val (.int p3), .val (.int p4), .val (.int p5), .val (.int p6), .val (.int lx), .val (.int rc), .val (.int rp), .val (.ref b_7), .val (.ref o__14), .val (.ref b_17), .val (.ref b_41), .unset, .unset, .unset] [(.int p3), (.ref b_41)]))
  have f_72 : Exa Z h_69 b_41 "com/example/dromos/dromos/service/Definition" := (f_67.wr W_69)
  have f_73 : Fld Z h_69 b_41 "com/example/dromos/dromos/service/Definition" "free" "I" (.int (-1 : Int32)) := ((((p_50_3.other W_54 (Or.inr (slot_ne (Or.inl (hw _ (List.mem_of_getElem? (i := 72) rfl))) (Or.inl (hw _ (List.mem_of_getElem? (i := 87) rfl))) (by decide) (t := .int) (t' := .int) (by decide) (by decide)))).other W_59 (Or.inr (slot_ne (Or.inl (hw _ (List.mem_of_getElem? (i := 72) rfl))) (Or.inl (hw _ (List.mem_of_getElem? (i := 89) rfl))) (by decide) (t := .int) (t' := .boolean) (by decide) (by decide)))).other W_64 (Or.inr (slot_ne (Or.inl (hw _ (List.mem_of_getElem? (i := 72) rfl))) (Or.inl (hw _ (List.mem_of_getElem? (i := 91) rfl))) (by decide) (t := .int) (t' := .boolean) (by decide) (by decide)))).other W_69 (Or.inr (slot_ne (Or.inl (hw _ (List.mem_of_getElem? (i := 72) rfl))) (Or.inl (hw _ (List.mem_of_getElem? (i := 70) rfl))) (by decide) (t := .int) (t' := .int) (by decide) (by decide))))
  obtain ⟨T_74, h_74, X_74, e_74, W_74, st_74⟩ := putF X_69 hx hZ hown (host := "") (Or.inl (hw _ (List.mem_of_getElem? (i := 93) rfl))) Via.refl e_69 f_73 f_72 (Or.inl (hw _ (List.mem_of_getElem? (i := 72) rfl))) (hw _ (List.mem_of_getElem? (i := 63) rfl)) (ty := .int) (by decide) rfl rfl (g := (mkF m 139 #[.val (.int p1), .val (.int p2), .val (.int p3), .val (.int p4), .val (.int p5), .val (.int p6), .val (.int lx), .val (.int rc), .val (.int rp), .val (.ref b_7), .val (.ref o__14), .val (.ref b_17), .val (.ref b_41), .unset, .unset, .unset] [(.int p3), (.ref b_41)])) rfl rfl (hb hby at_139)
  refine OGo.to st_74 ?_
  have Fw_74 : Fld Z h_74 b_41 "com/example/dromos/dromos/service/Definition" "free" "I" (.int p3) := f_73.same W_74
  have N_74 := Fr.snoc X_74 N_69 g_b_41
  have z_75 : n0 ≤ h_74.size := Nat.le_trans z_70 (Keep.of_wr W_74).1
  have O_76 : Old Z n0 h_74 := O_71.wr W_74 g_b_41
  show OGo p e below _ (T_74.setTop (mkF m 142 #[.val (.int p1), .val (.int p2), .val (.int p3), .val (.int p4), .val (.int p5), .val (.int p6), .val (.int lx), .val (.int rc), .val (.int rp), .val (.ref b_7), .val (.ref o__14), .val (.ref b_17), .val (.ref b_41), .unset, .unset, .unset] []))
  refine OGo.to (fun _ k => XS.iload X_74.here hx rfl (hb hby at_142) rfl k) ?_
  show OGo p e below _ (T_74.setTop (mkF m 144 #[.val (.int p1), .val (.int p2), .val (.int p3), .val (.int p4), .val (.int p5), .val (.int p6), .val (.int lx), .val (.int rc), .val (.int rp), .val (.ref b_7), .val (.ref o__14), .val (.ref b_17), .val (.ref b_41), .unset, .unset, .unset] [(.int lx)]))
  obtain ⟨ex, hv_ex⟩ : ∃ z : Int32, z = (if lx = (0 : Int32) then (if p1 = (0 : Int32) then (1 : Int32) else (0 : Int32)) else (0 : Int32)) := ⟨_, rfl⟩
  refine OGo.to (S' := T_74.setTop (mkF m 166 #[.val (.int p1), .val (.int p2), .val (.int p3), .val (.int p4), .val (.int p5), .val (.int p6), .val (.int lx), .val (.int rc), .val (.int rp), .val (.ref b_7), .val (.ref o__14), .val (.ref b_17), .val (.ref b_41), .val (.int ex), .unset, .unset] [])) (fun _ k => ?_) ?_
  ·
    show Steps p.tables e below (T_74.setTop (mkF m 144 #[.val (.int p1), .val (.int p2), .val (.int p3), .val (.int p4), .val (.int p5), .val (.int p6), .val (.int lx), .val (.int rc), .val (.int rp), .val (.ref b_7), .val (.ref o__14), .val (.ref b_17), .val (.ref b_41), .unset, .unset, .unset] [(.int lx)])) _
    by_cases hc144__78 : lx = (0 : Int32)
    ·  -- pc 144: yes
      refine XS.ifYes X_74.here hx rfl (pc0 := 144) (pc' := 153) rfl (hb hby at_144) rfl ((if0 _ _).trans (teq hc144__78).1) (by decide) (by decide) ?_
      show Steps p.tables e below (T_74.setTop (mkF m 153 #[.val (.int p1), .val (.int p2), .val (.int p3), .val (.int p4), .val (.int p5), .val (.int p6), .val (.int lx), .val (.int rc), .val (.int rp), .val (.ref b_7), .val (.ref o__14), .val (.ref b_17), .val (.ref b_41), .unset, .unset, .unset] [])) _
      refine XS.iloadN X_74.here hx rfl (hb hby at_153) rfl ?_
      show Steps p.tables e below (T_74.setTop (mkF m 154 #[.val (.int p1), .val (.int p2), .val (.int p3), .val (.int p4), .val (.int p5), .val (.int p6), .val (.int lx), .val (.int rc), .val (.int rp), .val (.ref b_7), .val (.ref o__14), .val (.ref b_17), .val (.ref b_41), .unset, .unset, .unset] [(.int p1)])) _
      by_cases hc154__79 : p1 = (0 : Int32)
      ·  -- pc 154: yes
        refine XS.ifYes X_74.here hx rfl (pc0 := 154) (pc' := 163) rfl (hb hby at_154) rfl ((if0 _ _).trans (teq hc154__79).1) (by decide) (by decide) ?_
        show Steps p.tables e below (T_74.setTop (mkF m 163 #[.val (.int p1), .val (.int p2), .val (.int p3), .val (.int p4), .val (.int p5), .val (.int p6), .val (.int lx), .val (.int rc), .val (.int rp), .val (.ref b_7), .val (.ref o__14), .val (.ref b_17), .val (.ref b_41), .unset, .unset, .unset] [])) _
        refine XS.iconst X_74.here hx rfl (hb hby at_163) ?_
        show Steps p.tables e below (T_74.setTop (mkF m 164 #[.val (.int p1), .val (.int p2), .val (.int p3), .val (.int p4), .val (.int p5), .val (.int p6), .val (.int lx), .val (.int rc), .val (.int rp), .val (.ref b_7), .val (.ref o__14), .val (.ref b_17), .val (.ref b_41), .unset, .unset, .unset] [(.int (1 : Int32))])) _
        refine XS.istore X_74.here hx rfl (hb hby at_164) rfl (l' := #[.val (.int p1), .val (.int p2), .val (.int p3), .val (.int p4), .val (.int p5), .val (.int p6), .val (.int lx), .val (.int rc), .val (.int rp), .val (.ref b_7), .val (.ref o__14), .val (.ref b_17), .val (.ref b_41), .val (.int (1 : Int32)), .unset, .unset]) rfl ?_
        show Steps p.tables e below (T_74.setTop (mkF m 166 #[.val (.int p1), .val (.int p2), .val (.int p3), .val (.int p4), .val (.int p5), .val (.int p6), .val (.int lx), .val (.int rc), .val (.int rp), .val (.ref b_7), .val (.ref o__14), .val (.ref b_17), .val (.ref b_41), .val (.int (1 : Int32)), .unset, .unset] [])) _
        have hw_ex := hv_ex
        rw [if_pos hc144__78, if_pos hc154__79] at hw_ex
        subst hw_ex
        exact k
      ·  -- pc 154: no
        refine XS.ifNo X_74.here hx rfl (hb hby at_154) rfl ((if0 _ _).trans (feq hc154__79).1) ?_
        show Steps p.tables e below (T_74.setTop (mkF m 157 #[.val (.int p1), .val (.int p2), .val (.int p3), .val (.int p4), .val (.int p5), .val (.int p6), .val (.int lx), .val (.int rc), .val (.int rp), .val (.ref b_7), .val (.ref o__14), .val (.ref b_17), .val (.ref b_41), .unset, .unset, .unset] [])) _
        refine XS.iconst X_74.here hx rfl (hb hby at_157) ?_
        show Steps p.tables e below (T_74.setTop (mkF m 158 #[.val (.int p1), .val (.int p2), .val (.int p3), .val (.int p4), .val (.int p5), .val (.int p6), .val (.int lx), .val (.int rc), .val (.int rp), .val (.ref b_7), .val (.ref o__14), .val (.ref b_17), .val (.ref b_41), .unset, .unset, .unset] [(.int (0 : Int32))])) _
        refine XS.istore X_74.here hx rfl (hb hby at_158) rfl (l' := #[.val (.int p1), .val (.int p2), .val (.int p3), .val (.int p4), .val (.int p5), .val (.int p6), .val (.int lx), .val (.int rc), .val (.int rp), .val (.ref b_7), .val (.ref o__14), .val (.ref b_17), .val (.ref b_41), .val (.int (0 : Int32)), .unset, .unset]) rfl ?_
        show Steps p.tables e below (T_74.setTop (mkF m 160 #[.val (.int p1), .val (.int p2), .val (.int p3), .val (.int p4), .val (.int p5), .val (.int p6), .val (.int lx), .val (.int rc), .val (.int rp), .val (.ref b_7), .val (.ref o__14), .val (.ref b_17), .val (.ref b_41), .val (.int (0 : Int32)), .unset, .unset] [])) _
        refine XS.goto X_74.here hx rfl (pc0 := 160) (pc' := 166) rfl (hb hby at_160) (by decide) (by decide) ?_
        show Steps p.tables e below (T_74.setTop (mkF m 166 #[.val (.int p1), .val (.int p2), .val (.int p3), .val (.int p4), .val (.int p5), .val (.int p6), .val (.int lx), .val (.int rc), .val (.int rp), .val (.ref b_7), .val (.ref o__14), .val (.ref b_17), .val (.ref b_41), .val (.int (0 : Int32)), .unset, .unset] [])) _
        have hw_ex := hv_ex
        rw [if_pos hc144__78, if_neg hc154__79] at hw_ex
        subst hw_ex
        exact k
    ·  -- pc 144: no
      refine XS.ifNo X_74.here hx rfl (hb hby at_144) rfl ((if0 _ _).trans (feq hc144__78).1) ?_
      show Steps p.tables e below (T_74.setTop (mkF m 147 #[.val (.int p1), .val (.int p2), .val (.int p3), .val (.int p4), .val (.int p5), .val (.int p6), .val (.int lx), .val (.int rc), .val (.int rp), .val (.ref b_7), .val (.ref o__14), .val (.ref b_17), .val (.ref b_41), .unset, .unset, .unset] [])) _
      refine XS.iconst X_74.here hx rfl (hb hby at_147) ?_
      show Steps p.tables e below (T_74.setTop (mkF m 148 #[.val (.int p1), .val (.int p2), .val (.int p3), .val (.int p4), .val (.int p5), .val (.int p6), .val (.int lx), .val (.int rc), .val (.int rp), .val (.ref b_7), .val (.ref o__14), .val (.ref b_17), .val (.ref b_41), .unset, .unset, .unset] [(.int (0 : Int32))])) _
      refine XS.istore X_74.here hx rfl (hb hby at_148) rfl (l' := #[.val (.int p1), .val (.int p2), .val (.int p3), .val (.int p4), .val (.int p5), .val (.int p6), .val (.int lx), .val (.int rc), .val (.int rp), .val (.ref b_7), .val (.ref o__14), .val (.ref b_17), .val (.ref b_41), .val (.int (0 : Int32)), .unset, .unset]) rfl ?_
      show Steps p.tables e below (T_74.setTop (mkF m 150 #[.val (.int p1), .val (.int p2), .val (.int p3), .val (.int p4), .val (.int p5), .val (.int p6), .val (.int lx), .val (.int rc), .val (.int rp), .val (.ref b_7), .val (.ref o__14), .val (.ref b_17), .val (.ref b_41), .val (.int (0 : Int32)), .unset, .unset] [])) _
      refine XS.goto X_74.here hx rfl (pc0 := 150) (pc' := 166) rfl (hb hby at_150) (by decide) (by decide) ?_
      show Steps p.tables e below (T_74.setTop (mkF m 166 #[.val (.int p1), .val (.int p2), .val (.int p3), .val (.int p4), .val (.int p5), .val (.int p6), .val (.int lx), .val (.int rc), .val (.int rp), .val (.ref b_7), .val (.ref o__14), .val (.ref b_17), .val (.ref b_41), .val (.int (0 : Int32)), .unset, .unset] [])) _
      have hw_ex := hv_ex
      rw [if_neg hc144__78] at hw_ex
      subst hw_ex
      exact k
  show OGo p e below _ (T_74.setTop (mkF m 166 #[.val (.int p1), .val (.int p2), .val (.int p3), .val (.int p4), .val (.int p5), .val (.int p6), .val (.int lx), .val (.int rc), .val (.int rp), .val (.ref b_7), .val (.ref o__14), .val (.ref b_17), .val (.ref b_41), .val (.int ex), .unset, .unset] []))
  refine OGo.to (fun _ k => XS.aload X_74.here hx rfl (hb hby at_166) rfl rfl k) ?_
  show OGo p e below _ (T_74.setTop (mkF m 168 #[.val (.int p1), .val (.int p2), .val (.int p3), .val (.int p4), .val (.int p5), .val (.int p6), .val (.int lx), .val (.int rc), .val (.int rp), .val (.ref b_7), .val (.ref o__14), .val (.ref b_17), .val (.ref b_41), .val (.int ex), .unset, .unset] [(.ref b_41)]))
  have f_81 : Fld Z h_74 b_41 "com/example/dromos/dromos/service/Definition" "arity" "I" (.int p1) := (((((p_50_0.other W_54 (Or.inr (slot_ne (Or.inr (hw _ (List.mem_of_getElem? (i := 79) rfl))) (Or.inl (hw _ (List.mem_of_getElem? (i := 87) rfl))) (by decide) (t := .int) (t' := .int) (by decide) (by decide)))).other W_59 (Or.inr (slot_ne (Or.inr (hw _ (List.mem_of_getElem? (i := 79) rfl))) (Or.inl (hw _ (List.mem_of_getElem? (i := 89) rfl))) (by decide) (t := .int) (t' := .boolean) (by decide) (by decide)))).other W_64 (Or.inr (slot_ne (Or.inr (hw _ (List.mem_of_getElem? (i := 79) rfl))) (Or.inl (hw _ (List.mem_of_getElem? (i := 91) rfl))) (by decide) (t := .int) (t' := .boolean) (by decide) (by decide)))).other W_69 (Or.inr (slot_ne (Or.inr (hw _ (List.mem_of_getElem? (i := 79) rfl))) (Or.inl (hw _ (List.mem_of_getElem? (i := 70) rfl))) (by decide) (t := .int) (t' := .int) (by decide) (by decide)))).other W_74 (Or.inr (slot_ne (Or.inr (hw _ (List.mem_of_getElem? (i := 79) rfl))) (Or.inl (hw _ (List.mem_of_getElem? (i := 72) rfl))) (by decide) (t := .int) (t' := .int) (by decide) (by decide))))
  have f_82 : Fld Z h_74 b_41 "com/example/dromos/dromos/service/Definition" "lexical" "Z" (.int lx) := (((((p_50_1.other W_54 (Or.inr (slot_ne (Or.inr (hw _ (List.mem_of_getElem? (i := 85) rfl))) (Or.inl (hw _ (List.mem_of_getElem? (i := 87) rfl))) (by decide) (t := .boolean) (t' := .int) (by decide) (by decide)))).other W_59 (Or.inr (slot_ne (Or.inr (hw _ (List.mem_of_getElem? (i := 85) rfl))) (Or.inl (hw _ (List.mem_of_getElem? (i := 89) rfl))) (by decide) (t := .boolean) (t' := .boolean) (by decide) (by decide)))).other W_64 (Or.inr (slot_ne (Or.inr (hw _ (List.mem_of_getElem? (i := 85) rfl))) (Or.inl (hw _ (List.mem_of_getElem? (i := 91) rfl))) (by decide) (t := .boolean) (t' := .boolean) (by decide) (by decide)))).other W_69 (Or.inr (slot_ne (Or.inr (hw _ (List.mem_of_getElem? (i := 85) rfl))) (Or.inl (hw _ (List.mem_of_getElem? (i := 70) rfl))) (by decide) (t := .boolean) (t' := .int) (by decide) (by decide)))).other W_74 (Or.inr (slot_ne (Or.inr (hw _ (List.mem_of_getElem? (i := 85) rfl))) (Or.inl (hw _ (List.mem_of_getElem? (i := 72) rfl))) (by decide) (t := .boolean) (t' := .int) (by decide) (by decide))))
  have f_83 : Exa Z h_74 b_41 "com/example/dromos/dromos/service/Definition" := (f_72.wr W_74)
  obtain ⟨cq_80, kq_80, q_80a, q_80b, q_80c⟩ := isOf hZ e_74 f_83
  obtain ⟨_, T_80, Lc_80, X_80, hQ_80, st_80⟩ := own_un X_74 (Q := Q14 Z b_41 p1 lx h_74 n0) (rc := 0) (rs := 0) (W := fun v B => Steps p.tables e below (T_74.setTop (mkF m 168 #[.val (.int p1), .val (.int p2), .val (.int p3), .val (.int p4), .val (.int p5), .val (.int p6), .val (.int lx), .val (.int rc), .val (.int rp), .val (.ref b_7), .val (.ref o__14), .val (.ref b_17), .val (.ref b_41), .val (.int ex), .unset, .unset] [(.ref b_41)])) (B.setTop { (mkF m 168 #[.val (.int p1), .val (.int p2), .val (.int p3), .val (.int p4), .val (.int p5), .val (.int p6), .val (.int lx), .val (.int rc), .val (.int rp), .val (.ref b_7), .val (.ref o__14), .val (.ref b_17), .val (.ref b_41), .val (.int ex), .unset, .unset] [(.ref b_41)]) with pc := 171, stack := v.toList ++ [] })) <| X_74.virtualBack hx (y := (⟨"com/example/dromos/dromos/service/Definition", "mayKeepValue", "()Z"⟩ : MethodName)) (z := (⟨"com/example/dromos/dromos/service/Definition", "mayKeepValue", "()Z"⟩ : MethodName)) hown (mvT hZ (hw _ (List.mem_of_getElem? (i := 94) rfl))) (mvT hZ (hw _ (List.mem_of_getElem? (i := 95) rfl))) (notFace_of_selects (args := #[]) (mvT hZ (hw _ (List.mem_of_getElem? (i := 97) rfl)))) (mvT hZ (hw _ (List.mem_of_getElem? (i := 97) rfl))) (mvT hZ (hw _ (List.mem_of_getElem? (i := 96) rfl))) (by decide) (backOf (W := 0) (rm14 l Z a0 hw [] b_41 p1 lx h_74 n0 z_75 f_81 f_82) hZ (hw _ (List.mem_of_getElem? (i := 98) rfl)) (hw _ (List.mem_of_getElem? (i := 64) rfl)) (by decide) (by decide)) q_80a q_80c (g := (mkF m 168 #[.val (.int p1), .val (.int p2), .val (.int p3), .val (.int p4), .val (.int p5), .val (.int p6), .val (.int lx), .val (.int rc), .val (.int rp), .val (.ref b_7), .val (.ref o__14), .val (.ref b_17), .val (.ref b_41), .val (.int ex), .unset, .unset] [(.ref b_41)])) rfl (by rw [hml]; rfl) (Steps.refl _) (argsL := []) (rest := []) (lenOf pd_12 rfl) rfl (by show 2 * 0 + _ ≤ _; exact Nat.le_of_eq rfl) (hb hby at_168) (fun _ _ => ⟨rfl, e_74, (by decide : 8 + 0 ≤ _), (by decide : 29 + 0 ≤ _)⟩)
  obtain ⟨rfl, N_80q, e_80⟩ := hQ_80
  have N_80 := Fr.app N_74 N_80q
  refine OGo.to (fun _ k => st_80.trans k) ?_
  show OGo p e below _ (T_80.setTop (mkF m 171 #[.val (.int p1), .val (.int p2), .val (.int p3), .val (.int p4), .val (.int p5), .val (.int p6), .val (.int lx), .val (.int rc), .val (.int rp), .val (.ref b_7), .val (.ref o__14), .val (.ref b_17), .val (.ref b_41), .val (.int ex), .unset, .unset] [(.int (own_mk p1 lx))]))
  refine OGo.to (fun _ k => XS.istore X_80.here hx rfl (hb hby at_171) rfl (l' := #[.val (.int p1), .val (.int p2), .val (.int p3), .val (.int p4), .val (.int p5), .val (.int p6), .val (.int lx), .val (.int rc), .val (.int rp), .val (.ref b_7), .val (.ref o__14), .val (.ref b_17), .val (.ref b_41), .val (.int ex), .val (.int (own_mk p1 lx)), .unset]) rfl k) ?_
  show OGo p e below _ (T_80.setTop (mkF m 173 #[.val (.int p1), .val (.int p2), .val (.int p3), .val (.int p4), .val (.int p5), .val (.int p6), .val (.int lx), .val (.int rc), .val (.int rp), .val (.ref b_7), .val (.ref o__14), .val (.ref b_17), .val (.ref b_41), .val (.int ex), .val (.int (own_mk p1 lx)), .unset] []))
  refine OGo.to (fun _ k => XS.aload X_80.here hx rfl (hb hby at_173) rfl rfl k) ?_
  show OGo p e below _ (T_80.setTop (mkF m 175 #[.val (.int p1), .val (.int p2), .val (.int p3), .val (.int p4), .val (.int p5), .val (.int p6), .val (.int lx), .val (.int rc), .val (.int rp), .val (.ref b_7), .val (.ref o__14), .val (.ref b_17), .val (.ref b_41), .val (.int ex), .val (.int (own_mk p1 lx)), .unset] [(.ref b_41)]))
  obtain ⟨cq_84, kq_84, q_84a, q_84b, q_84c⟩ := isOf hZ e_80 f_83
  obtain ⟨_, T_84, Lc_84, X_84, hQ_84, st_84⟩ := own_un X_80 (Q := Q14 Z b_41 p1 lx h_74 n0) (rc := 0) (rs := 0) (W := fun v B => Steps p.tables e below (T_80.setTop (mkF m 175 #[.val (.int p1), .val (.int p2), .val (.int p3), .val (.int p4), .val (.int p5), .val (.int p6), .val (.int lx), .val (.int rc), .val (.int rp), .val (.ref b_7), .val (.ref o__14), .val (.ref b_17), .val (.ref b_41), .val (.int ex), .val (.int (own_mk p1 lx)), .unset] [(.ref b_41)])) (B.setTop { (mkF m 175 #[.val (.int p1), .val (.int p2), .val (.int p3), .val (.int p4), .val (.int p5), .val (.int p6), .val (.int lx), .val (.int rc), .val (.int rp), .val (.ref b_7), .val (.ref o__14), .val (.ref b_17), .val (.ref b_41), .val (.int ex), .val (.int (own_mk p1 lx)), .unset] [(.ref b_41)]) with pc := 178, stack := v.toList ++ [] })) <| X_80.virtualBack hx (y := (⟨"com/example/dromos/dromos/service/Definition", "mayKeepValue", "()Z"⟩ : MethodName)) (z := (⟨"com/example/dromos/dromos/service/Definition", "mayKeepValue", "()Z"⟩ : MethodName)) hown (mvT hZ (hw _ (List.mem_of_getElem? (i := 94) rfl))) (mvT hZ (hw _ (List.mem_of_getElem? (i := 95) rfl))) (notFace_of_selects (args := #[]) (mvT hZ (hw _ (List.mem_of_getElem? (i := 97) rfl)))) (mvT hZ (hw _ (List.mem_of_getElem? (i := 97) rfl))) (mvT hZ (hw _ (List.mem_of_getElem? (i := 96) rfl))) (by decide) (backOf (W := 0) (rm14 l Z a0 hw [] b_41 p1 lx h_74 n0 z_75 f_81 f_82) hZ (hw _ (List.mem_of_getElem? (i := 98) rfl)) (hw _ (List.mem_of_getElem? (i := 64) rfl)) (by decide) (by decide)) q_84a q_84c (g := (mkF m 175 #[.val (.int p1), .val (.int p2), .val (.int p3), .val (.int p4), .val (.int p5), .val (.int p6), .val (.int lx), .val (.int rc), .val (.int rp), .val (.ref b_7), .val (.ref o__14), .val (.ref b_17), .val (.ref b_41), .val (.int ex), .val (.int (own_mk p1 lx)), .unset] [(.ref b_41)])) rfl (by rw [hml]; rfl) (Steps.refl _) (argsL := []) (rest := []) (lenOf pd_12 rfl) rfl (by show 2 * 0 + _ ≤ _; exact Nat.le_of_eq rfl) (hb hby at_175) (fun _ _ => ⟨rfl, e_80, (by decide : 8 + 0 ≤ _), (by decide : 29 + 0 ≤ _)⟩)
  obtain ⟨rfl, N_84q, e_84⟩ := hQ_84
  have N_84 := Fr.app N_80 N_84q
  refine OGo.to (fun _ k => st_84.trans k) ?_
  show OGo p e below _ (T_84.setTop (mkF m 178 #[.val (.int p1), .val (.int p2), .val (.int p3), .val (.int p4), .val (.int p5), .val (.int p6), .val (.int lx), .val (.int rc), .val (.int rp), .val (.ref b_7), .val (.ref o__14), .val (.ref b_17), .val (.ref b_41), .val (.int ex), .val (.int (own_mk p1 lx)), .unset] [(.int (own_mk p1 lx))]))
  refine OGo.to (fun _ k => XS.istore X_84.here hx rfl (hb hby at_178) rfl (l' := #[.val (.int p1), .val (.int p2), .val (.int p3), .val (.int p4), .val (.int p5), .val (.int p6), .val (.int lx), .val (.int rc), .val (.int rp), .val (.ref b_7), .val (.ref o__14), .val (.ref b_17), .val (.ref b_41), .val (.int ex), .val (.int (own_mk p1 lx)), .val (.int (own_mk p1 lx))]) rfl k) ?_
  show OGo p e below _ (T_84.setTop (mkF m 180 #[.val (.int p1), .val (.int p2), .val (.int p3), .val (.int p4), .val (.int p5), .val (.int p6), .val (.int lx), .val (.int rc), .val (.int rp), .val (.ref b_7), .val (.ref o__14), .val (.ref b_17), .val (.ref b_41), .val (.int ex), .val (.int (own_mk p1 lx)), .val (.int (own_mk p1 lx))] []))
  refine OGo.to (fun _ k => XS.iload X_84.here hx rfl (hb hby at_180) rfl k) ?_
  show OGo p e below _ (T_84.setTop (mkF m 182 #[.val (.int p1), .val (.int p2), .val (.int p3), .val (.int p4), .val (.int p5), .val (.int p6), .val (.int lx), .val (.int rc), .val (.int rp), .val (.ref b_7), .val (.ref o__14), .val (.ref b_17), .val (.ref b_41), .val (.int ex), .val (.int (own_mk p1 lx)), .val (.int (own_mk p1 lx))] [(.int (own_mk p1 lx))]))
  refine OGo.to (fun _ k => XS.iload X_84.here hx rfl (hb hby at_182) rfl k) ?_
  show OGo p e below _ (T_84.setTop (mkF m 184 #[.val (.int p1), .val (.int p2), .val (.int p3), .val (.int p4), .val (.int p5), .val (.int p6), .val (.int lx), .val (.int rc), .val (.int rp), .val (.ref b_7), .val (.ref o__14), .val (.ref b_17), .val (.ref b_41), .val (.int ex), .val (.int (own_mk p1 lx)), .val (.int (own_mk p1 lx))] [(.int ex), (.int (own_mk p1 lx))]))
  have hc184__85 : (own_mk p1 lx) = ex := own_L hv_ex
  refine OGo.to (fun _ k => XS.icmpNo X_84.here hx rfl (hb hby at_184) rfl (teq hc184__85).2 k) ?_
  show OGo p e below _ (T_84.setTop (mkF m 187 #[.val (.int p1), .val (.int p2), .val (.int p3), .val (.int p4), .val (.int p5), .val (.int p6), .val (.int lx), .val (.int rc), .val (.int rp), .val (.ref b_7), .val (.ref o__14), .val (.ref b_17), .val (.ref b_41), .val (.int ex), .val (.int (own_mk p1 lx)), .val (.int (own_mk p1 lx))] []))
  refine OGo.to (fun _ k => XS.iload X_84.here hx rfl (hb hby at_187) rfl k) ?_
  show OGo p e below _ (T_84.setTop (mkF m 189 #[.val (.int p1), .val (.int p2), .val (.int p3), .val (.int p4), .val (.int p5), .val (.int p6), .val (.int lx), .val (.int rc), .val (.int rp), .val (.ref b_7), .val (.ref o__14), .val (.ref b_17), .val (.ref b_41), .val (.int ex), .val (.int (own_mk p1 lx)), .val (.int (own_mk p1 lx))] [(.int (own_mk p1 lx))]))
  refine OGo.to (fun _ k => XS.iload X_84.here hx rfl (hb hby at_189) rfl k) ?_
  show OGo p e below _ (T_84.setTop (mkF m 191 #[.val (.int p1), .val (.int p2), .val (.int p3), .val (.int p4), .val (.int p5), .val (.int p6), .val (.int lx), .val (.int rc), .val (.int rp), .val (.ref b_7), .val (.ref o__14), .val (.ref b_17), .val (.ref b_41), .val (.int ex), .val (.int (own_mk p1 lx)), .val (.int (own_mk p1 lx))] [(.int ex), (.int (own_mk p1 lx))]))
  have hc191__86 : (own_mk p1 lx) = ex := own_L hv_ex
  refine OGo.to (fun _ k => XS.icmpNo X_84.here hx rfl (hb hby at_191) rfl (teq hc191__86).2 k) ?_
  show OGo p e below _ (T_84.setTop (mkF m 194 #[.val (.int p1), .val (.int p2), .val (.int p3), .val (.int p4), .val (.int p5), .val (.int p6), .val (.int lx), .val (.int rc), .val (.int rp), .val (.ref b_7), .val (.ref o__14), .val (.ref b_17), .val (.ref b_41), .val (.int ex), .val (.int (own_mk p1 lx)), .val (.int (own_mk p1 lx))] []))
  refine OGo.to (fun _ k => XS.iconst X_84.here hx rfl (hb hby at_194) k) ?_
  show OGo p e below _ (T_84.setTop (mkF m 195 #[.val (.int p1), .val (.int p2), .val (.int p3), .val (.int p4), .val (.int p5), .val (.int p6), .val (.int lx), .val (.int rc), .val (.int rp), .val (.ref b_7), .val (.ref o__14), .val (.ref b_17), .val (.ref b_41), .val (.int ex), .val (.int (own_mk p1 lx)), .val (.int (own_mk p1 lx))] [(.int (1 : Int32))]))
  refine OGo.to (fun _ k => XS.goto X_84.here hx rfl (pc0 := 195) (pc' := 199) rfl (hb hby at_195) (by decide) (by decide) k) ?_
  show OGo p e below _ (T_84.setTop (mkF m 199 #[.val (.int p1), .val (.int p2), .val (.int p3), .val (.int p4), .val (.int p5), .val (.int p6), .val (.int lx), .val (.int rc), .val (.int rp), .val (.ref b_7), .val (.ref o__14), .val (.ref b_17), .val (.ref b_41), .val (.int ex), .val (.int (own_mk p1 lx)), .val (.int (own_mk p1 lx))] [(.int (1 : Int32))]))
  refine OGo.ret (Q := Q0 Z p1 p2 p3 p4 p5 p6 cs h0 n0) X_84 (some (.int (1 : Int32))) (fun h => by rw [Bd.returns] at h; cases h) Bd.notSynchronized (fun fs hr => retN X_84 hx (t := .boolean) (z := (1 : Int32)) Bd.returns (by simp) (hb hby at_199) hr) ?_ (by decide) (by decide)
  show Q0 Z p1 p2 p3 p4 p5 p6 cs h0 n0 _ T_84.heap _
  rw [e_84]
  exact ⟨rfl, N_84⟩
set_option maxRecDepth 65536 in
set_option maxHeartbeats 40000000 in
theorem comes_1 {Post : Tables → Env → Array Value → State → Outcome → State → Prop} (hpost : ∀ tb e args s v u, (limb_1_1.after args s (.returned v) u = true ∧ limb_1_2.after args s (.returned v) u = true ∧ True) → FrameEnd s (.returned v) u (Jvm.fieldLocs frame_1_writes args s ++ Jvm.arrayLocs frame_1_arrays args s ++ Jvm.staticLocs frame_1_statics s) 24 128 → Post tb e args s (.returned v) u) :
    ArmFor flags0 classFile x code maxLocals ret World_1 tables_1 room_1 Calls_1 rest_1 Pre_1 Post := by
  intro l hfl _ _ p e ha hc hk s m args below hf hA hF happ hP
  obtain ⟨hcalls, hrest, hpre⟩ := hP
  obtain ⟨-, -, -, hnamed, -, -, -, hat⟩ := (Spec.applies_iff hf).mp happ
  obtain ⟨hg, hn⟩ := and_e (Cond.before_iff.mp (show (Jvm.Cond.and given_1 narrow_1).before args s = true from hpre))
  obtain ⟨g1, g2⟩ := and_e hg
  obtain ⟨g3, g4⟩ := and_e g2
  obtain ⟨g5, g6⟩ := and_e g4
  obtain ⟨g7, g8⟩ := and_e g6
  obtain ⟨g9, g10⟩ := and_e g8
  obtain ⟨g11, g12⟩ := and_e g10
  obtain ⟨w0, w1, w2, w3, w4, w5, rfl⟩ : ∃ w0 w1 w2 w3 w4 w5 : Value, args = #[w0, w1, w2, w3, w4, w5] := by
    have hs : args.size = 6 := by simpa [Cond.value, given_1] using g1
    obtain ⟨L⟩ := args
    match L, hs with
    | [w0, w1, w2, w3, w4, w5], _ => exact ⟨w0, w1, w2, w3, w4, w5, rfl⟩
  have hw := fun d (hd : d ∈ tables_1) => atoms_spec (ws := Jvm.Cond.code x code maxLocals ret :: tables_1) hat d (List.mem_cons_of_mem _ hd)
  have hfit : Fit s := fun {y c} hc i hi => by
    obtain ⟨ha, rfl⟩ := Array.getElem?_eq_some_iff.mp hc
    have q := List.all_eq_true.mp ((Array.all_eq_true_iff_forall_mem.mp hF) _ (Array.getElem_mem ha)) i (List.mem_range.mpr hi)
    simpa [Array.getElem?_eq_getElem hi] using q
  obtain ⟨hsets, hown0⟩ := atoms_of _ (rest_1_c_eq ▸ (show rest_1_c.before _ s = true from hrest))
  have hr0 := Cond.before_iff.mp hown0
  obtain ⟨i0, ei0⟩ := is_v g3
  obtain rfl : w0 = (.int i0) := Option.some.inj ei0
  obtain ⟨i1, ei1⟩ := is_v g5
  obtain rfl : w1 = (.int i1) := Option.some.inj ei1
  obtain ⟨i2, ei2⟩ := is_v g7
  obtain rfl : w2 = (.int i2) := Option.some.inj ei2
  obtain ⟨i3, ei3⟩ := is_v g9
  obtain rfl : w3 = (.int i3) := Option.some.inj ei3
  obtain ⟨i4, ei4⟩ := is_v g11
  obtain rfl : w4 = (.int i4) := Option.some.inj ei4
  obtain ⟨i5, ei5⟩ := is_v g12
  obtain rfl : w5 = (.int i5) := Option.some.inj ei5
  obtain ⟨cs, ecs⟩ := is_v (Cond.before_iff.mp (hsets _ (List.mem_of_getElem? (i := 1) rfl)))
  have SC : Sta s s.heap "java/lang/String" "COMPACT_STRINGS" "Z" (.int cs) := Sta.start ecs (Or.inl (hsets _ (List.mem_of_getElem? (i := 0) rfl)))
  have hcs : ¬ (cs = (0 : Int32)) := own_cs ecs (hsets _ (List.mem_of_getElem? (i := 2) rfl))
  obtain ⟨n, o, h1, h2, h3, _, L, rfl, ⟨rfl, N⟩, hq⟩ := rm0 l s _ hw tables_1 i0 i1 i2 i3 i4 i5 cs s.heap s.heap.size (Nat.le_refl _) SC (Old.start s) hcs p e ha hc hk s m _ below hf ((Spec.applies_iff_loose hf).mp happ).1 ⟨rfl, State.Warmed39.refl s, rfl⟩ trivial
  refine ⟨n, _, h1, h2, h3, hpost _ _ _ _ _ _ ⟨Cond.after_iff.mpr rfl, Cond.after_iff.mpr (eq_i res_at (Term.int_eval (1)) rfl), trivial⟩ ⟨hq.1, hq.2.1, (hq.2.2.sift fun y hy => Or.inr (N y hy)).mono (by decide) (by decide)⟩⟩
theorem main_1_1 : Claimed_1_1 := comes_1 fun _ _ _ _ _ _ h hF => ⟨h.1, hF⟩
theorem main_1_2 : Claimed_1_2 := comes_1 fun _ _ _ _ _ _ h hF => ⟨h.2.1, hF⟩
end Jvm.Pilot.@@N@@
namespace Jvm.Pilot.@@N@@
open Jvm Jvm.ClassFile Sem Op Lib Jvm.Free Jvm.Stand Jvm.Pilot.@@N@@.Jvm.D
/-! MADE BY PROGRAM (witnessworld.py) out of the Statement's table words and the real class files: 22 classes; the members and pool entries that the words name. The judged class is class 1, her method 1. -/
namespace start1
open Jvm.ClassFile
def u (s : String) : CpInfo := .utf8 (stringToUtf16 s)
/-- a pool by its gaps: so many unusable entries, then the entry; so many at the end -/
def gap : Nat → List CpInfo → List CpInfo
  | 0, r => r
  | n + 1, r => .unusable :: gap n r
def poolList (es : List (Nat × CpInfo)) (last : Nat) : List CpInfo := es.foldr (fun e r => gap e.1 (e.2 :: r)) (gap last [])
def pool (es : List (Nat × CpInfo)) (last : Nat) : Array CpInfo := ⟨poolList es last⟩
def fileOf (pool : Array CpInfo) (this : Nat) (attrs : Array Attribute := #[]) (ms : Array MethodInfo := #[]) (fl : Nat := 33) (sup : Nat := 0) (ifs : Array Nat := #[]) (fds : Array FieldInfo := #[]) : ClassFile where
  minorVersion := 0
  majorVersion := 65
  constantPool := pool
  accessFlags := fl
  thisClass := this
  superClass := sup
  interfaces := ifs
  fields := fds
  methods := ms
  attributes := attrs
def plain (name : String) (sup : Option ClassId) : Class where
  name := name
  kind := .ordinary
  loader := none
  accessFlags := 33
  super := sup
  interfaces := #[]
  cf := none
  fields := #[]
  methods := #[]
  instanceTypes := #[]
  staticTypes := #[]
  resolved := #[]
  callSites := []
  init := .initialized
  statics := none
  mirror := none

def pool0 : Array CpInfo := pool [(5, u "<init>"), (0, u "()V"), (1, .class_ 10), (1, u "java/lang/Object")] 113

def k0c0 : Code := { maxStack := 0, maxLocals := 1, code := object_method_1_code, exceptionTable := #[], attributes := #[] }
def k0m0 : Method := { name := "<init>", desc := "()V", sig := { parameters := [], returnType := none }, accessFlags := 1, code := some k0c0 }
/-- java/lang/Object -/
def k0 : Class := { plain "java/lang/Object" none with
  accessFlags := 33
  interfaces := #[]
  cf := some (fileOf pool0 8 #[] #[{ accessFlags := 1, nameIndex := 5, descriptorIndex := 6, attributes := #[] }] 33 0 #[] #[])
  fields := #[]
  methods := #[k0m0]
  instanceTypes := #[]
  staticTypes := #[]
  resolved := Array.replicate 124 none
  statics := none }

def pool1 : Array CpInfo := pool [(2, .class_ 4), (1, u "java/lang/Object"), (0, u "<init>"), (0, u "()V"), (0, .methodref 8 9), (0, .class_ 10), (0, .nameAndType 11 12), (0, u "java/lang/String"), (0, u "valueOf"), (0, u "(C)Ljava/lang/String;"), (0, .class_ 14), (0, u "com/example/dromos/dromos/model/Location"), (0, .methodref 8 16), (0, .nameAndType 5 17), (0, u "([C)V"), (0, .methodref 13 19), (0, .nameAndType 5 20), (0, u "(Ljava/lang/String;II)V"), (0, .class_ 22), (0, u "com/example/dromos/dromos/service/Definition"), (0, .methodref 21 24), (0, .nameAndType 5 25), (0, u "(Ljava/lang/String;IILcom/example/dromos/dromos/model/Location;Z)V"), (0, .fieldref 21 27), (0, .nameAndType 28 29), (0, u "slots"), (0, u "I"), (0, .fieldref 21 31), (0, .nameAndType 32 33), (0, u "recursive"), (0, u "Z"), (0, .fieldref 21 35), (0, .nameAndType 36 33), (0, u "replacesVariable"), (0, .fieldref 21 38), (0, .nameAndType 39 29), (0, u "bound"), (0, .fieldref 21 41), (0, .nameAndType 42 29), (0, u "free"), (0, .methodref 21 44), (0, .nameAndType 45 46), (0, u "mayKeepValue"), (0, u "()Z"), (0, .class_ 48), (0, u "com/example/dromos/dromos/service/DefinitionMayKeepValuePinLaw"), (2, u "law"), (0, u "(IIIIII)Z")] 5

def k1m0 : Method := { name := "<init>", desc := "()V", sig := { parameters := [], returnType := none }, accessFlags := 2, code := none }
def k1c1 : Code := { maxStack := 7, maxLocals := 16, code := code, exceptionTable := #[], attributes := #[] }
def k1m1 : Method := { name := "law", desc := "(IIIIII)Z", sig := { parameters := [.int, .int, .int, .int, .int, .int], returnType := some .boolean }, accessFlags := 9, code := some k1c1 }
/-- com/example/dromos/dromos/service/DefinitionMayKeepValuePinLaw -/
def k1 : Class := { plain "com/example/dromos/dromos/service/DefinitionMayKeepValuePinLaw" (some 0) with
  accessFlags := 49
  interfaces := #[]
  cf := some (fileOf pool1 47 #[] #[{ accessFlags := 2, nameIndex := 5, descriptorIndex := 6, attributes := #[] }, { accessFlags := 9, nameIndex := 51, descriptorIndex := 52, attributes := #[] }] 49 2 #[] #[])
  fields := #[]
  methods := #[k1m0, k1m1]
  instanceTypes := #[]
  staticTypes := #[]
  resolved := Array.replicate 58 none
  statics := none }

def pool2 : Array CpInfo := pool [(1, .class_ 2), (0, u "java/io/Serializable"), (0, .class_ 4), (0, u "java/lang/Object")] 2

/-- java/io/Serializable -/
def k2 : Class := { plain "java/io/Serializable" (some 0) with
  accessFlags := 1537
  interfaces := #[]
  cf := some (fileOf pool2 1 #[] #[] 1537 3 #[] #[])
  fields := #[]
  methods := #[]
  instanceTypes := #[]
  staticTypes := #[]
  resolved := Array.replicate 7 none
  statics := none }

def pool3 : Array CpInfo := pool [(1, .class_ 2), (0, u "java/lang/Comparable"), (0, .class_ 4), (0, u "java/lang/Object")] 7

/-- java/lang/Comparable -/
def k3 : Class := { plain "java/lang/Comparable" (some 0) with
  accessFlags := 1537
  interfaces := #[]
  cf := some (fileOf pool3 1 #[] #[] 1537 3 #[] #[])
  fields := #[]
  methods := #[]
  instanceTypes := #[]
  staticTypes := #[]
  resolved := Array.replicate 12 none
  statics := none }

def pool4 : Array CpInfo := pool [(2, .class_ 4), (1, u "java/lang/CharSequence"), (42, .class_ 48), (0, u "java/lang/CharSequence$1CodePointIterator"), (10, .class_ 60), (0, u "java/lang/CharSequence$1CharIterator"), (5, .class_ 67), (0, u "java/lang/Object")] 63

/-- java/lang/CharSequence -/
def k4 : Class := { plain "java/lang/CharSequence" (some 0) with
  accessFlags := 1537
  interfaces := #[]
  cf := some (fileOf pool4 2 #[.nestMembers #[47, 59]] #[] 1537 66 #[] #[])
  fields := #[]
  methods := #[]
  instanceTypes := #[]
  staticTypes := #[]
  resolved := Array.replicate 131 none
  statics := none }

def pool5 : Array CpInfo := pool [(1, .class_ 2), (0, u "java/lang/constant/Constable"), (0, .class_ 4), (0, u "java/lang/Object")] 6

/-- java/lang/constant/Constable -/
def k5 : Class := { plain "java/lang/constant/Constable" (some 0) with
  accessFlags := 1537
  interfaces := #[]
  cf := some (fileOf pool5 1 #[] #[] 1537 3 #[] #[])
  fields := #[]
  methods := #[]
  instanceTypes := #[]
  staticTypes := #[]
  resolved := Array.replicate 11 none
  statics := none }

def pool6 : Array CpInfo := pool [(1, .class_ 2), (0, u "java/lang/constant/ConstantDesc"), (0, .class_ 4), (0, u "java/lang/Object")] 32

/-- java/lang/constant/ConstantDesc -/
def k6 : Class := { plain "java/lang/constant/ConstantDesc" (some 0) with
  accessFlags := 1537
  interfaces := #[]
  cf := some (fileOf pool6 1 #[] #[] 1537 3 #[] #[])
  fields := #[]
  methods := #[]
  instanceTypes := #[]
  staticTypes := #[]
  resolved := Array.replicate 37 none
  statics := none }

def pool7 : Array CpInfo := pool [(1, .methodref 2 3), (0, .class_ 4), (0, .nameAndType 5 6), (0, u "java/lang/Object"), (0, u "<init>"), (0, u "()V"), (2, .fieldref 10 11), (0, .class_ 12), (0, .nameAndType 13 14), (0, u "java/lang/String"), (0, u "value"), (0, u "[B"), (0, .fieldref 10 16), (0, .nameAndType 17 18), (0, u "coder"), (0, u "B"), (2, u "hash"), (0, u "I"), (2, u "hashIsZero"), (0, u "Z"), (0, .methodref 10 28), (0, .nameAndType 5 29), (0, u "([CIILjava/lang/Void;)V"), (8, .fieldref 10 39), (0, .nameAndType 40 26), (0, u "COMPACT_STRINGS"), (1, .class_ 44), (1, u "java/lang/StringUTF16"), (0, u "compress"), (1, .methodref 42 48), (0, .nameAndType 49 50), (0, u "coderFromArrayLen"), (0, u "([BI)B"), (2, u "toBytes"), (53, .class_ 109), (1, u "java/lang/StringLatin1"), (67, .methodref 42 178), (0, .nameAndType 45 179), (0, u "([CII)[B"), (29, .methodref 10 210), (0, .nameAndType 5 211), (0, u "([BB)V"), (157, u "(C)Z"), (205, .class_ 576), (0, u "java/lang/CharSequence"), (22, u "CASE_INSENSITIVE_ORDER"), (0, u "Ljava/util/Comparator;"), (181, u "valueOf"), (0, u "(C)Ljava/lang/String;"), (226, u "([C)V"), (4, .methodref 107 1016), (0, .nameAndType 1017 369), (0, u "canEncode"), (0, .methodref 107 1019), (0, .nameAndType 53 1020), (0, u "(C)[B"), (80, u "serialPersistentFields"), (0, u "[Ljava/io/ObjectStreamField;"), (0, .class_ 1104), (0, u "java/lang/String$CaseInsensitiveComparator"), (1, .class_ 1107), (0, u "java/io/Serializable"), (0, .class_ 1109), (0, u "java/lang/Comparable"), (0, .class_ 1111), (0, u "java/lang/constant/Constable"), (0, .class_ 1113), (0, u "java/lang/constant/ConstantDesc"), (2, u "serialVersionUID"), (0, u "J"), (3, u "REPL"), (0, u "C"), (2, u "LATIN1"), (1, u "UTF16")] 323

def k7m0 : Method := { name := "<init>", desc := "()V", sig := { parameters := [], returnType := none }, accessFlags := 1, code := none }
def k7c1 : Code := { maxStack := 5, maxLocals := 2, code := jdk_42_method_3_code, exceptionTable := #[], attributes := #[] }
def k7m1 : Method := { name := "<init>", desc := "([C)V", sig := { parameters := [(.array .char)], returnType := none }, accessFlags := 1, code := some k7c1 }
def k7c2 : Code := { maxStack := 4, maxLocals := 1, code := jdk_42_method_139_code, exceptionTable := #[], attributes := #[] }
def k7m2 : Method := { name := "valueOf", desc := "(C)Ljava/lang/String;", sig := { parameters := [.char], returnType := some (.object "java/lang/String") }, accessFlags := 9, code := some k7c2 }
def k7c3 : Code := { maxStack := 4, maxLocals := 6, code := jdk_42_method_149_code, exceptionTable := #[], attributes := #[] }
def k7m3 : Method := { name := "<init>", desc := "([CIILjava/lang/Void;)V", sig := { parameters := [(.array .char), .int, .int, (.object "java/lang/Void")], returnType := none }, accessFlags := 2, code := some k7c3 }
def k7c4 : Code := { maxStack := 2, maxLocals := 3, code := jdk_42_method_151_code, exceptionTable := #[], attributes := #[] }
def k7m4 : Method := { name := "<init>", desc := "([BB)V", sig := { parameters := [(.array .byte), .byte], returnType := none }, accessFlags := 0, code := some k7c4 }
/-- java/lang/String -/
def k7 : Class := { plain "java/lang/String" (some 0) with
  accessFlags := 49
  interfaces := #[2, 3, 4, 5, 6]
  cf := some (fileOf pool7 10 #[.nestMembers #[1103]] #[{ accessFlags := 1, nameIndex := 5, descriptorIndex := 6, attributes := #[] }, { accessFlags := 1, nameIndex := 5, descriptorIndex := 1010, attributes := #[] }, { accessFlags := 9, nameIndex := 782, descriptorIndex := 783, attributes := #[] }, { accessFlags := 2, nameIndex := 5, descriptorIndex := 29, attributes := #[] }, { accessFlags := 0, nameIndex := 5, descriptorIndex := 211, attributes := #[] }] 49 2 #[1106, 1108, 575, 1110, 1112] #[{ accessFlags := 18, nameIndex := 13, descriptorIndex := 14, attributes := #[] }, { accessFlags := 18, nameIndex := 17, descriptorIndex := 18, attributes := #[] }, { accessFlags := 2, nameIndex := 21, descriptorIndex := 22, attributes := #[] }, { accessFlags := 2, nameIndex := 25, descriptorIndex := 26, attributes := #[] }, { accessFlags := 26, nameIndex := 1116, descriptorIndex := 1117, attributes := #[] }, { accessFlags := 24, nameIndex := 40, descriptorIndex := 26, attributes := #[] }, { accessFlags := 26, nameIndex := 1101, descriptorIndex := 1102, attributes := #[] }, { accessFlags := 26, nameIndex := 1121, descriptorIndex := 1122, attributes := #[] }, { accessFlags := 25, nameIndex := 599, descriptorIndex := 600, attributes := #[] }, { accessFlags := 24, nameIndex := 1125, descriptorIndex := 18, attributes := #[] }, { accessFlags := 24, nameIndex := 1127, descriptorIndex := 18, attributes := #[] }])
  fields := #[{ name := "value", type := (.array .byte), accessFlags := 18, slot := 0, constantValue := 0 }, { name := "coder", type := .byte, accessFlags := 18, slot := 1, constantValue := 0 }, { name := "hash", type := .int, accessFlags := 2, slot := 2, constantValue := 0 }, { name := "hashIsZero", type := .boolean, accessFlags := 2, slot := 3, constantValue := 0 }, { name := "serialVersionUID", type := .long, accessFlags := 26, slot := 0, constantValue := 0 }, { name := "COMPACT_STRINGS", type := .boolean, accessFlags := 24, slot := 1, constantValue := 0 }, { name := "serialPersistentFields", type := (.array (.object "java/io/ObjectStreamField")), accessFlags := 26, slot := 2, constantValue := 0 }, { name := "REPL", type := .char, accessFlags := 26, slot := 3, constantValue := 0 }, { name := "CASE_INSENSITIVE_ORDER", type := (.object "java/util/Comparator"), accessFlags := 25, slot := 4, constantValue := 0 }, { name := "LATIN1", type := .byte, accessFlags := 24, slot := 5, constantValue := 0 }, { name := "UTF16", type := .byte, accessFlags := 24, slot := 6, constantValue := 0 }]
  methods := #[k7m0, k7m1, k7m2, k7m3, k7m4]
  instanceTypes := #[(.array .byte), .byte, .int, .boolean]
  staticTypes := #[.long, .boolean, (.array (.object "java/io/ObjectStreamField")), .char, (.object "java/util/Comparator"), .byte, .byte]
  resolved := Array.replicate 1451 none
  statics := some 0 }

def pool8 : Array CpInfo := pool [(4, .class_ 6), (1, u "java/lang/Object"), (0, u "<init>"), (0, u "()V"), (5, .class_ 16), (1, u "java/lang/StringLatin1"), (73, u "canEncode"), (14, u "(C)Z"), (15, u "$assertionsDisabled"), (0, u "Z"), (98, .class_ 223), (1, u "java/lang/StringLatin1$LinesSpliterator"), (156, u "toBytes"), (1, u "(C)[B"), (7, .class_ 391), (0, u "java/lang/StringLatin1$CharsSpliterator")] 3

def k8m0 : Method := { name := "<init>", desc := "()V", sig := { parameters := [], returnType := none }, accessFlags := 0, code := none }
def k8c1 : Code := { maxStack := 2, maxLocals := 1, code := jdk_43_method_3_code, exceptionTable := #[], attributes := #[] }
def k8m1 : Method := { name := "canEncode", desc := "(C)Z", sig := { parameters := [.char], returnType := some .boolean }, accessFlags := 9, code := some k8c1 }
def k8c2 : Code := { maxStack := 4, maxLocals := 1, code := jdk_43_method_46_code, exceptionTable := #[], attributes := #[] }
def k8m2 : Method := { name := "toBytes", desc := "(C)[B", sig := { parameters := [.char], returnType := some (.array .byte) }, accessFlags := 9, code := some k8c2 }
/-- java/lang/StringLatin1 -/
def k8 : Class := { plain "java/lang/StringLatin1" (some 0) with
  accessFlags := 48
  interfaces := #[]
  cf := some (fileOf pool8 14 #[.nestMembers #[390, 221]] #[{ accessFlags := 0, nameIndex := 7, descriptorIndex := 8, attributes := #[] }, { accessFlags := 9, nameIndex := 90, descriptorIndex := 105, attributes := #[] }, { accessFlags := 9, nameIndex := 380, descriptorIndex := 382, attributes := #[] }] 48 4 #[] #[{ accessFlags := 4120, nameIndex := 121, descriptorIndex := 122, attributes := #[] }])
  fields := #[{ name := "$assertionsDisabled", type := .boolean, accessFlags := 4120, slot := 0, constantValue := 0 }]
  methods := #[k8m0, k8m1, k8m2]
  instanceTypes := #[]
  staticTypes := #[.boolean]
  resolved := Array.replicate 395 none
  statics := none }

def pool9 : Array CpInfo := pool [(1, .methodref 2 3), (0, .class_ 4), (0, .nameAndType 5 6), (0, u "java/lang/Object"), (0, u "<init>"), (0, u "()V"), (0, .class_ 8), (0, u "java/lang/Record")] 13

def k9c0 : Code := { maxStack := 1, maxLocals := 1, code := jdk_30_method_1_code, exceptionTable := #[], attributes := #[] }
def k9m0 : Method := { name := "<init>", desc := "()V", sig := { parameters := [], returnType := none }, accessFlags := 4, code := some k9c0 }
/-- java/lang/Record -/
def k9 : Class := { plain "java/lang/Record" (some 0) with
  accessFlags := 1057
  interfaces := #[]
  cf := some (fileOf pool9 7 #[] #[{ accessFlags := 4, nameIndex := 5, descriptorIndex := 6, attributes := #[] }] 1057 2 #[] #[])
  fields := #[]
  methods := #[k9m0]
  instanceTypes := #[]
  staticTypes := #[]
  resolved := Array.replicate 22 none
  statics := none }

def pool10 : Array CpInfo := pool [(1, .methodref 2 3), (0, .class_ 4), (0, .nameAndType 5 6), (0, u "java/lang/Record"), (0, u "<init>"), (0, u "()V"), (0, .fieldref 8 9), (0, .class_ 10), (0, .nameAndType 11 12), (0, u "com/example/dromos/dromos/model/Location"), (0, u "file"), (0, u "Ljava/lang/String;"), (0, .fieldref 8 14), (0, .nameAndType 15 16), (0, u "line"), (0, u "I"), (0, .fieldref 8 18), (0, .nameAndType 19 16), (0, u "column"), (2, u "(Ljava/lang/String;II)V")] 54

def k10c0 : Code := { maxStack := 2, maxLocals := 4, code := prog_101_method_1_code, exceptionTable := #[], attributes := #[] }
def k10m0 : Method := { name := "<init>", desc := "(Ljava/lang/String;II)V", sig := { parameters := [(.object "java/lang/String"), .int, .int], returnType := none }, accessFlags := 1, code := some k10c0 }
/-- com/example/dromos/dromos/model/Location -/
def k10 : Class := { plain "com/example/dromos/dromos/model/Location" (some 9) with
  accessFlags := 49
  interfaces := #[]
  cf := some (fileOf pool10 8 #[] #[{ accessFlags := 1, nameIndex := 5, descriptorIndex := 22, attributes := #[] }] 49 2 #[] #[{ accessFlags := 18, nameIndex := 11, descriptorIndex := 12, attributes := #[] }, { accessFlags := 18, nameIndex := 15, descriptorIndex := 16, attributes := #[] }, { accessFlags := 18, nameIndex := 19, descriptorIndex := 16, attributes := #[] }])
  fields := #[{ name := "file", type := (.object "java/lang/String"), accessFlags := 18, slot := 0, constantValue := 0 }, { name := "line", type := .int, accessFlags := 18, slot := 1, constantValue := 0 }, { name := "column", type := .int, accessFlags := 18, slot := 2, constantValue := 0 }]
  methods := #[k10m0]
  instanceTypes := #[(.object "java/lang/String"), .int, .int]
  staticTypes := #[]
  resolved := Array.replicate 77 none
  statics := none }

def pool11 : Array CpInfo := pool [(6, .class_ 8), (1, u "java/lang/Object"), (0, u "<init>"), (0, u "()V"), (1, .class_ 14), (1, u "java/lang/StringUTF16"), (31, u "$assertionsDisabled"), (0, u "Z"), (13, u "HI_BYTE_SHIFT"), (0, u "I"), (2, u "LO_BYTE_SHIFT"), (49, .methodref 12 116), (0, .nameAndType 117 118), (0, u "compress"), (0, u "([CI[BII)I"), (3, u "([CII)[B"), (138, u "coderFromArrayLen"), (0, u "([BI)B"), (106, .class_ 371), (1, u "java/lang/StringUTF16$LinesSpliterator"), (58, u "MAX_LENGTH"), (196, .class_ 628), (0, u "java/lang/StringUTF16$CodePointsSpliterator"), (0, .class_ 630), (0, u "java/lang/StringUTF16$CharsSpliterator")] 4

def k11m0 : Method := { name := "<init>", desc := "()V", sig := { parameters := [], returnType := none }, accessFlags := 0, code := none }
def k11c1 : Code := { maxStack := 2, maxLocals := 2, code := jdk_52_method_15_code, exceptionTable := #[], attributes := #[] }
def k11m1 : Method := { name := "coderFromArrayLen", desc := "([BI)B", sig := { parameters := [(.array .byte), .int], returnType := some .byte }, accessFlags := 8, code := some k11c1 }
def k11c2 : Code := { maxStack := 5, maxLocals := 6, code := jdk_52_method_16_code, exceptionTable := #[], attributes := #[] }
def k11m2 : Method := { name := "compress", desc := "([CII)[B", sig := { parameters := [(.array .char), .int, .int], returnType := some (.array .byte) }, accessFlags := 9, code := some k11c2 }
def k11c3 : Code := { maxStack := 3, maxLocals := 7, code := jdk_52_method_21_code, exceptionTable := #[], attributes := #[] }
def k11m3 : Method := { name := "compress", desc := "([CI[BII)I", sig := { parameters := [(.array .char), .int, (.array .byte), .int, .int], returnType := some .int }, accessFlags := 9, code := some k11c3 }
/-- java/lang/StringUTF16 -/
def k11 : Class := { plain "java/lang/StringUTF16" (some 0) with
  accessFlags := 48
  interfaces := #[]
  cf := some (fileOf pool11 12 #[.nestMembers #[627, 629, 369]] #[{ accessFlags := 0, nameIndex := 9, descriptorIndex := 10, attributes := #[] }, { accessFlags := 8, nameIndex := 261, descriptorIndex := 262, attributes := #[] }, { accessFlags := 9, nameIndex := 117, descriptorIndex := 122, attributes := #[] }, { accessFlags := 9, nameIndex := 117, descriptorIndex := 118, attributes := #[] }] 48 6 #[] #[{ accessFlags := 26, nameIndex := 61, descriptorIndex := 62, attributes := #[] }, { accessFlags := 26, nameIndex := 65, descriptorIndex := 62, attributes := #[] }, { accessFlags := 24, nameIndex := 430, descriptorIndex := 62, attributes := #[] }, { accessFlags := 4120, nameIndex := 46, descriptorIndex := 47, attributes := #[] }])
  fields := #[{ name := "HI_BYTE_SHIFT", type := .int, accessFlags := 26, slot := 0, constantValue := 0 }, { name := "LO_BYTE_SHIFT", type := .int, accessFlags := 26, slot := 1, constantValue := 0 }, { name := "MAX_LENGTH", type := .int, accessFlags := 24, slot := 2, constantValue := 0 }, { name := "$assertionsDisabled", type := .boolean, accessFlags := 4120, slot := 3, constantValue := 0 }]
  methods := #[k11m0, k11m1, k11m2, k11m3]
  instanceTypes := #[]
  staticTypes := #[.int, .int, .int, .boolean]
  resolved := Array.replicate 635 none
  statics := none }

def pool12 : Array CpInfo := pool [(2, .class_ 4), (1, u "com/example/dromos/dromos/service/Definition"), (0, u "<init>"), (0, u "(Ljava/lang/String;IILcom/example/dromos/dromos/model/Location;Z)V"), (0, .methodref 8 9), (0, .class_ 10), (0, .nameAndType 5 11), (0, u "java/lang/Object"), (0, u "()V"), (0, .fieldref 2 13), (0, .nameAndType 14 15), (0, u "bound"), (0, u "I"), (0, .fieldref 2 17), (0, .nameAndType 18 15), (0, u "free"), (0, .fieldref 2 20), (0, .nameAndType 21 22), (0, u "operators"), (0, u "[I"), (0, .fieldref 2 24), (0, .nameAndType 25 26), (0, u "name"), (0, u "Ljava/lang/String;"), (0, .fieldref 2 28), (0, .nameAndType 29 15), (0, u "arity"), (0, .fieldref 2 31), (0, .nameAndType 32 15), (0, u "hidden"), (0, .fieldref 2 34), (0, .nameAndType 35 36), (0, u "at"), (0, u "Lcom/example/dromos/dromos/model/Location;"), (0, .fieldref 2 38), (0, .nameAndType 39 40), (0, u "lexical"), (0, u "Z"), (2, u "body"), (0, u "Lcom/example/dromos/dromos/service/Node;"), (2, u "slots"), (16, u "results"), (0, u "Ljava/util/Map;"), (16, u "recursive"), (2, u "replacesVariable"), (0, u "source"), (0, u "Lcom/example/dromos/dromos/service/Definition$Source;"), (0, u "value"), (0, u "Lcom/example/dromos/dromos/model/Value;"), (14, u "()Z"), (7, u "mayKeepValue"), (5, .class_ 119), (0, u "com/example/dromos/dromos/service/Definition$Source")] 4

def k12c0 : Code := { maxStack := 2, maxLocals := 6, code := prog_165_method_2_code, exceptionTable := #[], attributes := #[] }
def k12m0 : Method := { name := "<init>", desc := "(Ljava/lang/String;IILcom/example/dromos/dromos/model/Location;Z)V", sig := { parameters := [(.object "java/lang/String"), .int, .int, (.object "com/example/dromos/dromos/model/Location"), .boolean], returnType := none }, accessFlags := 0, code := some k12c0 }
def k12c1 : Code := { maxStack := 1, maxLocals := 1, code := prog_165_method_9_code, exceptionTable := #[], attributes := #[] }
def k12m1 : Method := { name := "mayKeepValue", desc := "()Z", sig := { parameters := [], returnType := some .boolean }, accessFlags := 0, code := some k12c1 }
/-- com/example/dromos/dromos/service/Definition -/
def k12 : Class := { plain "com/example/dromos/dromos/service/Definition" (some 0) with
  accessFlags := 48
  interfaces := #[]
  cf := some (fileOf pool12 2 #[.nestMembers #[118]] #[{ accessFlags := 0, nameIndex := 5, descriptorIndex := 6, attributes := #[] }, { accessFlags := 0, nameIndex := 112, descriptorIndex := 104, attributes := #[] }] 48 8 #[] #[{ accessFlags := 16, nameIndex := 25, descriptorIndex := 26, attributes := #[] }, { accessFlags := 16, nameIndex := 29, descriptorIndex := 15, attributes := #[] }, { accessFlags := 16, nameIndex := 32, descriptorIndex := 15, attributes := #[] }, { accessFlags := 16, nameIndex := 35, descriptorIndex := 36, attributes := #[] }, { accessFlags := 16, nameIndex := 39, descriptorIndex := 40, attributes := #[] }, { accessFlags := 0, nameIndex := 43, descriptorIndex := 44, attributes := #[] }, { accessFlags := 0, nameIndex := 47, descriptorIndex := 15, attributes := #[] }, { accessFlags := 0, nameIndex := 82, descriptorIndex := 40, attributes := #[] }, { accessFlags := 0, nameIndex := 86, descriptorIndex := 87, attributes := #[] }, { accessFlags := 0, nameIndex := 14, descriptorIndex := 15, attributes := #[] }, { accessFlags := 0, nameIndex := 85, descriptorIndex := 40, attributes := #[] }, { accessFlags := 0, nameIndex := 88, descriptorIndex := 89, attributes := #[] }, { accessFlags := 0, nameIndex := 18, descriptorIndex := 15, attributes := #[] }, { accessFlags := 2, nameIndex := 21, descriptorIndex := 22, attributes := #[] }, { accessFlags := 66, nameIndex := 64, descriptorIndex := 65, attributes := #[] }])
  fields := #[{ name := "name", type := (.object "java/lang/String"), accessFlags := 16, slot := 0, constantValue := 0 }, { name := "arity", type := .int, accessFlags := 16, slot := 1, constantValue := 0 }, { name := "hidden", type := .int, accessFlags := 16, slot := 2, constantValue := 0 }, { name := "at", type := (.object "com/example/dromos/dromos/model/Location"), accessFlags := 16, slot := 3, constantValue := 0 }, { name := "lexical", type := .boolean, accessFlags := 16, slot := 4, constantValue := 0 }, { name := "body", type := (.object "com/example/dromos/dromos/service/Node"), accessFlags := 0, slot := 5, constantValue := 0 }, { name := "slots", type := .int, accessFlags := 0, slot := 6, constantValue := 0 }, { name := "recursive", type := .boolean, accessFlags := 0, slot := 7, constantValue := 0 }, { name := "source", type := (.object "com/example/dromos/dromos/service/Definition$Source"), accessFlags := 0, slot := 8, constantValue := 0 }, { name := "bound", type := .int, accessFlags := 0, slot := 9, constantValue := 0 }, { name := "replacesVariable", type := .boolean, accessFlags := 0, slot := 10, constantValue := 0 }, { name := "value", type := (.object "com/example/dromos/dromos/model/Value"), accessFlags := 0, slot := 11, constantValue := 0 }, { name := "free", type := .int, accessFlags := 0, slot := 12, constantValue := 0 }, { name := "operators", type := (.array .int), accessFlags := 2, slot := 13, constantValue := 0 }, { name := "results", type := (.object "java/util/Map"), accessFlags := 66, slot := 14, constantValue := 0 }]
  methods := #[k12m0, k12m1]
  instanceTypes := #[(.object "java/lang/String"), .int, .int, (.object "com/example/dromos/dromos/model/Location"), .boolean, (.object "com/example/dromos/dromos/service/Node"), .int, .boolean, (.object "com/example/dromos/dromos/service/Definition$Source"), .int, .boolean, (.object "com/example/dromos/dromos/model/Value"), .int, (.array .int), (.object "java/util/Map")]
  staticTypes := #[]
  resolved := Array.replicate 124 none
  statics := none }

def pool13 : Array CpInfo := pool [(2, .class_ 4), (1, u "java/lang/Object"), (0, u "<init>"), (0, u "()V"), (17, .class_ 26), (1, u "jdk/internal/util/Preconditions"), (28, .class_ 56), (0, u "jdk/internal/util/Preconditions$4"), (57, .class_ 115), (0, u "jdk/internal/util/Preconditions$1"), (7, u "SIOOBE_FORMATTER"), (0, u "Ljava/util/function/BiFunction;"), (0, .class_ 126), (0, u "jdk/internal/util/Preconditions$2"), (3, u "AIOOBE_FORMATTER"), (0, .class_ 132), (0, u "jdk/internal/util/Preconditions$3"), (3, u "IOOBE_FORMATTER")] 57

def k13m0 : Method := { name := "<init>", desc := "()V", sig := { parameters := [], returnType := none }, accessFlags := 1, code := none }
/-- jdk/internal/util/Preconditions -/
def k13 : Class := { plain "jdk/internal/util/Preconditions" (some 0) with
  accessFlags := 33
  interfaces := #[]
  cf := some (fileOf pool13 24 #[.nestMembers #[55, 131, 125, 114]] #[{ accessFlags := 1, nameIndex := 5, descriptorIndex := 6, attributes := #[] }] 33 2 #[] #[{ accessFlags := 25, nameIndex := 123, descriptorIndex := 124, attributes := #[] }, { accessFlags := 25, nameIndex := 130, descriptorIndex := 124, attributes := #[] }, { accessFlags := 25, nameIndex := 136, descriptorIndex := 124, attributes := #[] }])
  fields := #[{ name := "SIOOBE_FORMATTER", type := (.object "java/util/function/BiFunction"), accessFlags := 25, slot := 0, constantValue := 0 }, { name := "AIOOBE_FORMATTER", type := (.object "java/util/function/BiFunction"), accessFlags := 25, slot := 1, constantValue := 0 }, { name := "IOOBE_FORMATTER", type := (.object "java/util/function/BiFunction"), accessFlags := 25, slot := 2, constantValue := 0 }]
  methods := #[k13m0]
  instanceTypes := #[]
  staticTypes := #[(.object "java/util/function/BiFunction"), (.object "java/util/function/BiFunction"), (.object "java/util/function/BiFunction")]
  resolved := Array.replicate 194 none
  statics := some 1 }

def pool14 : Array CpInfo := pool [(9, u "<init>"), (6, .class_ 18), (1, u "java/lang/Object"), (0, u "()V"), (1, .class_ 23), (1, u "jdk/internal/util/ArraysSupport"), (0, u "LOG2_ARRAY_LONG_INDEX_SCALE"), (0, u "I"), (2, u "U"), (0, u "Ljdk/internal/misc/Unsafe;"), (8, u "BIG_ENDIAN"), (0, u "Z"), (8, u "LOG2_BYTE_BIT_SIZE"), (4, u "LOG2_ARRAY_INT_INDEX_SCALE"), (54, u "JLA"), (0, u "Ljdk/internal/access/JavaLangAccess;"), (11, u "LOG2_ARRAY_BOOLEAN_INDEX_SCALE"), (9, u "LOG2_ARRAY_BYTE_INDEX_SCALE"), (5, u "LOG2_ARRAY_CHAR_INDEX_SCALE"), (5, u "LOG2_ARRAY_SHORT_INDEX_SCALE"), (18, u "LOG2_ARRAY_FLOAT_INDEX_SCALE"), (24, u "LOG2_ARRAY_DOUBLE_INDEX_SCALE"), (89, u "T_BOOLEAN"), (2, u "T_CHAR"), (1, u "T_FLOAT"), (1, u "T_DOUBLE"), (1, u "T_BYTE"), (1, u "T_SHORT"), (1, u "T_INT"), (1, u "T_LONG"), (1, u "SOFT_MAX_ARRAY_LENGTH")] 83

def k14m0 : Method := { name := "<init>", desc := "()V", sig := { parameters := [], returnType := none }, accessFlags := 2, code := none }
/-- jdk/internal/util/ArraysSupport -/
def k14 : Class := { plain "jdk/internal/util/ArraysSupport" (some 0) with
  accessFlags := 33
  interfaces := #[]
  cf := some (fileOf pool14 21 #[] #[{ accessFlags := 2, nameIndex := 9, descriptorIndex := 19, attributes := #[] }] 33 16 #[] #[{ accessFlags := 24, nameIndex := 28, descriptorIndex := 29, attributes := #[] }, { accessFlags := 26, nameIndex := 38, descriptorIndex := 39, attributes := #[] }, { accessFlags := 25, nameIndex := 121, descriptorIndex := 25, attributes := #[] }, { accessFlags := 25, nameIndex := 131, descriptorIndex := 25, attributes := #[] }, { accessFlags := 25, nameIndex := 137, descriptorIndex := 25, attributes := #[] }, { accessFlags := 25, nameIndex := 143, descriptorIndex := 25, attributes := #[] }, { accessFlags := 25, nameIndex := 53, descriptorIndex := 25, attributes := #[] }, { accessFlags := 25, nameIndex := 24, descriptorIndex := 25, attributes := #[] }, { accessFlags := 25, nameIndex := 162, descriptorIndex := 25, attributes := #[] }, { accessFlags := 25, nameIndex := 187, descriptorIndex := 25, attributes := #[] }, { accessFlags := 26, nameIndex := 48, descriptorIndex := 25, attributes := #[] }, { accessFlags := 25, nameIndex := 277, descriptorIndex := 25, attributes := #[] }, { accessFlags := 25, nameIndex := 280, descriptorIndex := 25, attributes := #[] }, { accessFlags := 25, nameIndex := 282, descriptorIndex := 25, attributes := #[] }, { accessFlags := 25, nameIndex := 284, descriptorIndex := 25, attributes := #[] }, { accessFlags := 25, nameIndex := 286, descriptorIndex := 25, attributes := #[] }, { accessFlags := 25, nameIndex := 288, descriptorIndex := 25, attributes := #[] }, { accessFlags := 25, nameIndex := 290, descriptorIndex := 25, attributes := #[] }, { accessFlags := 25, nameIndex := 292, descriptorIndex := 25, attributes := #[] }, { accessFlags := 26, nameIndex := 108, descriptorIndex := 109, attributes := #[] }, { accessFlags := 25, nameIndex := 294, descriptorIndex := 25, attributes := #[] }])
  fields := #[{ name := "U", type := (.object "jdk/internal/misc/Unsafe"), accessFlags := 24, slot := 0, constantValue := 0 }, { name := "BIG_ENDIAN", type := .boolean, accessFlags := 26, slot := 1, constantValue := 0 }, { name := "LOG2_ARRAY_BOOLEAN_INDEX_SCALE", type := .int, accessFlags := 25, slot := 2, constantValue := 0 }, { name := "LOG2_ARRAY_BYTE_INDEX_SCALE", type := .int, accessFlags := 25, slot := 3, constantValue := 0 }, { name := "LOG2_ARRAY_CHAR_INDEX_SCALE", type := .int, accessFlags := 25, slot := 4, constantValue := 0 }, { name := "LOG2_ARRAY_SHORT_INDEX_SCALE", type := .int, accessFlags := 25, slot := 5, constantValue := 0 }, { name := "LOG2_ARRAY_INT_INDEX_SCALE", type := .int, accessFlags := 25, slot := 6, constantValue := 0 }, { name := "LOG2_ARRAY_LONG_INDEX_SCALE", type := .int, accessFlags := 25, slot := 7, constantValue := 0 }, { name := "LOG2_ARRAY_FLOAT_INDEX_SCALE", type := .int, accessFlags := 25, slot := 8, constantValue := 0 }, { name := "LOG2_ARRAY_DOUBLE_INDEX_SCALE", type := .int, accessFlags := 25, slot := 9, constantValue := 0 }, { name := "LOG2_BYTE_BIT_SIZE", type := .int, accessFlags := 26, slot := 10, constantValue := 0 }, { name := "T_BOOLEAN", type := .int, accessFlags := 25, slot := 11, constantValue := 0 }, { name := "T_CHAR", type := .int, accessFlags := 25, slot := 12, constantValue := 0 }, { name := "T_FLOAT", type := .int, accessFlags := 25, slot := 13, constantValue := 0 }, { name := "T_DOUBLE", type := .int, accessFlags := 25, slot := 14, constantValue := 0 }, { name := "T_BYTE", type := .int, accessFlags := 25, slot := 15, constantValue := 0 }, { name := "T_SHORT", type := .int, accessFlags := 25, slot := 16, constantValue := 0 }, { name := "T_INT", type := .int, accessFlags := 25, slot := 17, constantValue := 0 }, { name := "T_LONG", type := .int, accessFlags := 25, slot := 18, constantValue := 0 }, { name := "JLA", type := (.object "jdk/internal/access/JavaLangAccess"), accessFlags := 26, slot := 19, constantValue := 0 }, { name := "SOFT_MAX_ARRAY_LENGTH", type := .int, accessFlags := 25, slot := 20, constantValue := 0 }]
  methods := #[k14m0]
  instanceTypes := #[]
  staticTypes := #[(.object "jdk/internal/misc/Unsafe"), .boolean, .int, .int, .int, .int, .int, .int, .int, .int, .int, .int, .int, .int, .int, .int, .int, .int, .int, (.object "jdk/internal/access/JavaLangAccess"), .int]
  resolved := Array.replicate 378 none
  statics := none }

def pool15 : Array CpInfo := pool [(1, u "java/lang/Cloneable"), (0, .class_ 1), (0, u "java/lang/Object"), (0, .class_ 3)] 3

/-- java/lang/Cloneable -/
def k15 : Class := { plain "java/lang/Cloneable" (some 0) with
  accessFlags := 1537
  interfaces := #[]
  cf := some (fileOf pool15 2 #[] #[] 1537 4 #[] #[])
  fields := #[]
  methods := #[]
  instanceTypes := #[]
  staticTypes := #[]
  resolved := Array.replicate 8 none
  statics := none }

/-- the primitive byte -/
def k16 : Class := { plain "byte" none with kind := .primitive 'B', accessFlags := 0x411 }
/-- [B -/
def k17 : Class := { plain "[B" (some 0) with kind := .array 16 .byte, interfaces := #[15, 2], accessFlags := 1041 }

/-- the primitive char -/
def k18 : Class := { plain "char" none with kind := .primitive 'C', accessFlags := 0x411 }
/-- [C -/
def k19 : Class := { plain "[C" (some 0) with kind := .array 18 .char, interfaces := #[15, 2], accessFlags := 1041 }

/-- the primitive int -/
def k20 : Class := { plain "int" none with kind := .primitive 'I', accessFlags := 0x411 }
/-- [I -/
def k21 : Class := { plain "[I" (some 0) with kind := .array 20 .int, interfaces := #[15, 2], accessFlags := 1041 }

def heap : Heap := #[{ cls := 7, slots := #[.long 0, .int 1, .null, .int 0, .null, .int 0, .int 0], vm := .statics 7 },
  { cls := 13, slots := #[.null, .null, .null], vm := .statics 13 }]
def classes : Array Class := #[k0, k1, k2, k3, k4, k5, k6, k7, k8, k9, k10, k11, k12, k13, k14, k15, k16, k17, k18, k19, k20, k21]
def interned : List (Array UInt16 × Addr) := []
def slotsUsed : Nat := 10
def theMethod : MethodId := ⟨1, 1⟩
def args0 : Array Value := #[.int 5, .int 7, .int 9, .int 3, .int 2, .int 4]
def aboutOver (below : List Frame) : State where
  vm := { classes := classes, interned := interned.toArray }
  heap := heap
  slotsUsed := slotsUsed
  threads := #[{ frames := .invoking theMethod args0 :: below }]
def below0 : List Frame := [.native { method := ⟨0, 0⟩, args := #[] }]
def about1 : State := aboutOver below0
def p0 : Program := .bare "" "" ""
def e0 : Env := launch0.env 0 0 0
theorem w_frames : about1.frames = Frame.invoking theMethod args0 :: below0 := rfl
set_option maxRecDepth 65536 in
theorem w_args : argsFit about1.vm theMethod args0 = true := by decide +kernel
set_option maxRecDepth 65536 in
theorem w_heap : heapFits about1 = true := by decide +kernel
set_option maxRecDepth 65536 in
theorem w_runnable : about1.curStatus? = some .runnable := by decide +kernel
set_option maxRecDepth 65536 in
theorem w_alone : about1.alone = true := by decide +kernel
set_option maxRecDepth 65536 in
theorem w_named : about1.methodNamed? x = some theMethod := by decide +kernel
set_option maxRecDepth 65536 in
theorem w_hears : about1.hears theMethod below0 = true := by decide +kernel
set_option maxRecDepth 65536 in
theorem w_ripe : about1.ripe theMethod args0 below0 = true := by decide +kernel
theorem w_running : about1.status = .running := rfl
set_option maxRecDepth 65536 in
theorem w_room : about1.hasRoom e0.platform room_1 = true :=
  launch0.hasRoom_least _ room_1 (by decide +kernel) (by decide +kernel) (by decide +kernel) (by decide +kernel) (by decide +kernel) (by decide +kernel)
theorem allAtoms_all (ts : List Jvm.Cond) (a : Array Jvm.Value) (st : Jvm.State) : (allAtoms ts).before a st = ts.all (fun c => c.before a st) := by
  induction ts with
  | nil => rfl
  | cons c t ih =>
    show (Jvm.Cond.and c (allAtoms t)).before a st = _
    rw [Jvm.Cond.before_and, ih, List.all_cons]
def words1 : List Jvm.Cond := Jvm.Cond.code x code maxLocals ret :: tables_1
/-- a 'code' word, met by the world's own term for the bytes: nothing is compared byte by byte -/
theorem code_word {y : MethodName} {bytes : ByteArray} {mx : Nat} {rt : Option FieldType} {a : Array Value} {s : State} {m : MethodId} {meth : Method} {c : Code} (h1 : s.methodNamed? y = some m) (h2 : s.vm.method? m = some meth) (h3 : meth.code = some c) (h4 : c.code = bytes)
    (h5 : (c.maxLocals == mx && c.exceptionTable.isEmpty && decide (c.maxStack ≤ mostOperands) && decide (meth.sig.returnType = rt) && !meth.locks && decide (parseMethodDescriptor y.desc = some meth.sig)) = true) : (Jvm.Cond.code y bytes mx rt).before a s = true := by
  simp only [Bool.and_eq_true, beq_iff_eq, Bool.not_eq_true', decide_eq_true_eq] at h5
  obtain ⟨⟨⟨⟨⟨g1, g2⟩, g3⟩, g4⟩, g5⟩, g6⟩ := h5
  simp [Cond.before, Cond.holds, Cond.value, h1, h2, h3, h4, g1, g2, g3, g4, g5, g6]
def isCode : Jvm.Cond → Bool
  | .code _ _ _ _ => true
  | _ => false
theorem all_split {L : List Jvm.Cond} {P : Jvm.Cond → Bool} (h1 : L.all (fun c => isCode c || P c) = true) (h2 : ∀ c ∈ L.filter isCode, P c = true) : L.all P = true := by
  refine List.all_eq_true.mpr fun c hc => ?_
  have h := List.all_eq_true.mp h1 c hc
  rcases Bool.eq_false_or_eq_true (isCode c) with hi | hi
  · exact h2 c (List.mem_filter.mpr ⟨hc, hi⟩)
  · simpa [hi] using h
set_option maxRecDepth 65536 in
theorem w_c0 : (Jvm.Cond.code x code maxLocals ret).before args0 about1 = true := code_word (m := ⟨1, 1⟩) (meth := k1m1) (c := k1c1) (by decide +kernel) rfl rfl rfl (by decide +kernel)
set_option maxRecDepth 65536 in
theorem w_c1 : (Jvm.Cond.code ({ cls := "java/lang/String", name := "valueOf", desc := "(C)Ljava/lang/String;" } : Jvm.MethodName) jdk_42_method_139_code (1 : Nat) (Option.some (Jvm.ClassFile.FieldType.object "java/lang/String"))).before args0 about1 = true := code_word (m := ⟨7, 2⟩) (meth := k7m2) (c := k7c2) (by decide +kernel) rfl rfl rfl (by decide +kernel)
set_option maxRecDepth 65536 in
theorem w_c2 : (Jvm.Cond.code ({ cls := "java/lang/StringLatin1", name := "canEncode", desc := "(C)Z" } : Jvm.MethodName) jdk_43_method_3_code (1 : Nat) (Option.some Jvm.ClassFile.FieldType.boolean)).before args0 about1 = true := code_word (m := ⟨8, 1⟩) (meth := k8m1) (c := k8c1) (by decide +kernel) rfl rfl rfl (by decide +kernel)
set_option maxRecDepth 65536 in
theorem w_c3 : (Jvm.Cond.code ({ cls := "java/lang/StringLatin1", name := "toBytes", desc := "(C)[B" } : Jvm.MethodName) jdk_43_method_46_code (1 : Nat) (Option.some (Jvm.ClassFile.FieldType.array Jvm.ClassFile.FieldType.byte))).before args0 about1 = true := code_word (m := ⟨8, 2⟩) (meth := k8m2) (c := k8c2) (by decide +kernel) rfl rfl rfl (by decide +kernel)
set_option maxRecDepth 65536 in
theorem w_c4 : (Jvm.Cond.code ({ cls := "java/lang/String", name := "<init>", desc := "([BB)V" } : Jvm.MethodName) jdk_42_method_151_code (3 : Nat) (Option.none : Option Jvm.ClassFile.FieldType)).before args0 about1 = true := code_word (m := ⟨7, 4⟩) (meth := k7m4) (c := k7c4) (by decide +kernel) rfl rfl rfl (by decide +kernel)
set_option maxRecDepth 65536 in
theorem w_c5 : (Jvm.Cond.code ({ cls := "java/lang/Object", name := "<init>", desc := "()V" } : Jvm.MethodName) object_method_1_code (1 : Nat) (Option.none : Option Jvm.ClassFile.FieldType)).before args0 about1 = true := code_word (m := ⟨0, 0⟩) (meth := k0m0) (c := k0c0) (by decide +kernel) rfl rfl rfl (by decide +kernel)
set_option maxRecDepth 65536 in
theorem w_c6 : (Jvm.Cond.code ({ cls := "java/lang/String", name := "<init>", desc := "([C)V" } : Jvm.MethodName) jdk_42_method_3_code (2 : Nat) (Option.none : Option Jvm.ClassFile.FieldType)).before args0 about1 = true := code_word (m := ⟨7, 1⟩) (meth := k7m1) (c := k7c1) (by decide +kernel) rfl rfl rfl (by decide +kernel)
set_option maxRecDepth 65536 in
theorem w_c7 : (Jvm.Cond.code ({ cls := "java/lang/String", name := "<init>", desc := "([CIILjava/lang/Void;)V" } : Jvm.MethodName) jdk_42_method_149_code (6 : Nat) (Option.none : Option Jvm.ClassFile.FieldType)).before args0 about1 = true := code_word (m := ⟨7, 3⟩) (meth := k7m3) (c := k7c3) (by decide +kernel) rfl rfl rfl (by decide +kernel)
set_option maxRecDepth 65536 in
theorem w_c8 : (Jvm.Cond.code ({ cls := "java/lang/StringUTF16", name := "compress", desc := "([CII)[B" } : Jvm.MethodName) jdk_52_method_16_code (6 : Nat) (Option.some (Jvm.ClassFile.FieldType.array Jvm.ClassFile.FieldType.byte))).before args0 about1 = true := code_word (m := ⟨11, 2⟩) (meth := k11m2) (c := k11c2) (by decide +kernel) rfl rfl rfl (by decide +kernel)
set_option maxRecDepth 65536 in
theorem w_c9 : (Jvm.Cond.code ({ cls := "java/lang/StringUTF16", name := "compress", desc := "([CI[BII)I" } : Jvm.MethodName) jdk_52_method_21_code (7 : Nat) (Option.some Jvm.ClassFile.FieldType.int)).before args0 about1 = true := code_word (m := ⟨11, 3⟩) (meth := k11m3) (c := k11c3) (by decide +kernel) rfl rfl rfl (by decide +kernel)
set_option maxRecDepth 65536 in
theorem w_c10 : (Jvm.Cond.code ({ cls := "java/lang/StringUTF16", name := "coderFromArrayLen", desc := "([BI)B" } : Jvm.MethodName) jdk_52_method_15_code (2 : Nat) (Option.some Jvm.ClassFile.FieldType.byte)).before args0 about1 = true := code_word (m := ⟨11, 1⟩) (meth := k11m1) (c := k11c1) (by decide +kernel) rfl rfl rfl (by decide +kernel)
set_option maxRecDepth 65536 in
theorem w_c11 : (Jvm.Cond.code ({ cls := "com/example/dromos/dromos/model/Location", name := "<init>", desc := "(Ljava/lang/String;II)V" } : Jvm.MethodName) prog_101_method_1_code (4 : Nat) (Option.none : Option Jvm.ClassFile.FieldType)).before args0 about1 = true := code_word (m := ⟨10, 0⟩) (meth := k10m0) (c := k10c0) (by decide +kernel) rfl rfl rfl (by decide +kernel)
set_option maxRecDepth 65536 in
theorem w_c12 : (Jvm.Cond.code ({ cls := "java/lang/Record", name := "<init>", desc := "()V" } : Jvm.MethodName) jdk_30_method_1_code (1 : Nat) (Option.none : Option Jvm.ClassFile.FieldType)).before args0 about1 = true := code_word (m := ⟨9, 0⟩) (meth := k9m0) (c := k9c0) (by decide +kernel) rfl rfl rfl (by decide +kernel)
set_option maxRecDepth 65536 in
theorem w_c13 : (Jvm.Cond.code ({ cls := "com/example/dromos/dromos/service/Definition", name := "<init>", desc := "(Ljava/lang/String;IILcom/example/dromos/dromos/model/Location;Z)V" } : Jvm.MethodName) prog_165_method_2_code (6 : Nat) (Option.none : Option Jvm.ClassFile.FieldType)).before args0 about1 = true := code_word (m := ⟨12, 0⟩) (meth := k12m0) (c := k12c0) (by decide +kernel) rfl rfl rfl (by decide +kernel)
set_option maxRecDepth 65536 in
theorem w_c14 : (Jvm.Cond.code ({ cls := "com/example/dromos/dromos/service/Definition", name := "mayKeepValue", desc := "()Z" } : Jvm.MethodName) prog_165_method_9_code (1 : Nat) (Option.some Jvm.ClassFile.FieldType.boolean)).before args0 about1 = true := code_word (m := ⟨12, 1⟩) (meth := k12m1) (c := k12c1) (by decide +kernel) rfl rfl rfl (by decide +kernel)
def codes1 : List Jvm.Cond := [Jvm.Cond.code x code maxLocals ret, Jvm.Cond.code ({ cls := "java/lang/String", name := "valueOf", desc := "(C)Ljava/lang/String;" } : Jvm.MethodName) jdk_42_method_139_code (1 : Nat) (Option.some (Jvm.ClassFile.FieldType.object "java/lang/String")), Jvm.Cond.code ({ cls := "java/lang/StringLatin1", name := "canEncode", desc := "(C)Z" } : Jvm.MethodName) jdk_43_method_3_code (1 : Nat) (Option.some Jvm.ClassFile.FieldType.boolean), Jvm.Cond.code ({ cls := "java/lang/StringLatin1", name := "toBytes", desc := "(C)[B" } : Jvm.MethodName) jdk_43_method_46_code (1 : Nat) (Option.some (Jvm.ClassFile.FieldType.array Jvm.ClassFile.FieldType.byte)), Jvm.Cond.code ({ cls := "java/lang/String", name := "<init>", desc := "([BB)V" } : Jvm.MethodName) jdk_42_method_151_code (3 : Nat) (Option.none : Option Jvm.ClassFile.FieldType), Jvm.Cond.code ({ cls := "java/lang/Object", name := "<init>", desc := "()V" } : Jvm.MethodName) object_method_1_code (1 : Nat) (Option.none : Option Jvm.ClassFile.FieldType), Jvm.Cond.code ({ cls := "java/lang/String", name := "<init>", desc := "([C)V" } : Jvm.MethodName) jdk_42_method_3_code (2 : Nat) (Option.none : Option Jvm.ClassFile.FieldType), Jvm.Cond.code ({ cls := "java/lang/String", name := "<init>", desc := "([CIILjava/lang/Void;)V" } : Jvm.MethodName) jdk_42_method_149_code (6 : Nat) (Option.none : Option Jvm.ClassFile.FieldType), Jvm.Cond.code ({ cls := "java/lang/StringUTF16", name := "compress", desc := "([CII)[B" } : Jvm.MethodName) jdk_52_method_16_code (6 : Nat) (Option.some (Jvm.ClassFile.FieldType.array Jvm.ClassFile.FieldType.byte)), Jvm.Cond.code ({ cls := "java/lang/StringUTF16", name := "compress", desc := "([CI[BII)I" } : Jvm.MethodName) jdk_52_method_21_code (7 : Nat) (Option.some Jvm.ClassFile.FieldType.int), Jvm.Cond.code ({ cls := "java/lang/StringUTF16", name := "coderFromArrayLen", desc := "([BI)B" } : Jvm.MethodName) jdk_52_method_15_code (2 : Nat) (Option.some Jvm.ClassFile.FieldType.byte), Jvm.Cond.code ({ cls := "com/example/dromos/dromos/model/Location", name := "<init>", desc := "(Ljava/lang/String;II)V" } : Jvm.MethodName) prog_101_method_1_code (4 : Nat) (Option.none : Option Jvm.ClassFile.FieldType), Jvm.Cond.code ({ cls := "java/lang/Record", name := "<init>", desc := "()V" } : Jvm.MethodName) jdk_30_method_1_code (1 : Nat) (Option.none : Option Jvm.ClassFile.FieldType), Jvm.Cond.code ({ cls := "com/example/dromos/dromos/service/Definition", name := "<init>", desc := "(Ljava/lang/String;IILcom/example/dromos/dromos/model/Location;Z)V" } : Jvm.MethodName) prog_165_method_2_code (6 : Nat) (Option.none : Option Jvm.ClassFile.FieldType), Jvm.Cond.code ({ cls := "com/example/dromos/dromos/service/Definition", name := "mayKeepValue", desc := "()Z" } : Jvm.MethodName) prog_165_method_9_code (1 : Nat) (Option.some Jvm.ClassFile.FieldType.boolean)]
set_option maxRecDepth 65536 in
theorem codes_eq : words1.filter isCode = codes1 := rfl
theorem w_codes : ∀ c ∈ words1.filter isCode, c.before args0 about1 = true := by
  rw [codes_eq]
  intro c hc
  simp only [codes1, List.mem_cons, List.not_mem_nil, or_false] at hc
  rcases hc with rfl | rfl | rfl | rfl | rfl | rfl | rfl | rfl | rfl | rfl | rfl | rfl | rfl | rfl | rfl
  · exact w_c0
  · exact w_c1
  · exact w_c2
  · exact w_c3
  · exact w_c4
  · exact w_c5
  · exact w_c6
  · exact w_c7
  · exact w_c8
  · exact w_c9
  · exact w_c10
  · exact w_c11
  · exact w_c12
  · exact w_c13
  · exact w_c14
set_option maxRecDepth 65536 in
theorem w_t1 : (words1.take 24).all (fun c => isCode c || c.before args0 about1) = true := by decide +kernel
set_option maxRecDepth 65536 in
theorem w_t2 : ((words1.drop 24).take 24).all (fun c => isCode c || c.before args0 about1) = true := by decide +kernel
set_option maxRecDepth 65536 in
theorem w_t3 : (((words1.drop 24).drop 24).take 24).all (fun c => isCode c || c.before args0 about1) = true := by decide +kernel
set_option maxRecDepth 65536 in
theorem w_t4 : ((((words1.drop 24).drop 24).drop 24).take 24).all (fun c => isCode c || c.before args0 about1) = true := by decide +kernel
set_option maxRecDepth 65536 in
theorem w_t5 : ((((words1.drop 24).drop 24).drop 24).drop 24).all (fun c => isCode c || c.before args0 about1) = true := by decide +kernel
theorem w_tables : (allAtoms (Jvm.Cond.code x code maxLocals ret :: tables_1)).before args0 about1 = true := by
  rw [allAtoms_all]
  show words1.all (fun c => c.before args0 about1) = true
  refine all_split ?_ w_codes
  rw [← List.take_append_drop 24 words1, List.all_append, w_t1, ← List.take_append_drop 24 (words1.drop 24), List.all_append, w_t2, ← List.take_append_drop 24 ((words1.drop 24).drop 24), List.all_append, w_t3, ← List.take_append_drop 24 (((words1.drop 24).drop 24).drop 24), List.all_append, w_t4, w_t5]
  rfl
set_option maxRecDepth 65536 in
theorem w_rest : rest_1_c.before args0 about1 = true := by decide +kernel
set_option maxRecDepth 65536 in
theorem w_case : (Jvm.Cond.and given_1 narrow_1).before args0 about1 = true := by decide +kernel
theorem w_applies : (headSpec (Jvm.Cond.code x code maxLocals ret :: tables_1) room_1).applies x e0.platform about1 = true :=
  (Spec.applies_iff w_frames).mpr ⟨w_running, w_runnable, w_alone, w_named, w_hears, w_ripe, w_room, w_tables⟩
theorem atStart : AtStart classFile x code maxLocals ret World_1 tables_1 room_1 Calls_1 rest_1 Pre_1 launch0 p0 e0 about1 theMethod args0 below0 :=
  ⟨lists_1, trivial, launch0.admits_env _ _ _, launch0.least_env, fairChoices_fair.cas, fairChoices_fair.clock, w_frames, w_args, w_heap, w_applies, trivial, w_rest, w_case⟩
end start1
theorem witness_1 : WitnessClaimed_1 := ⟨start1.p0, start1.e0, start1.about1, start1.theMethod, start1.args0, start1.below0, start1.atStart⟩
end Jvm.Pilot.@@N@@
