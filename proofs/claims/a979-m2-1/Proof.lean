import JvmDerived
import JvmDerived.Pilot.@@N@@Statement
import JvmDerived.Pilot.@@N@@Code
set_option linter.unusedVariables false
set_option linter.unusedSimpArgs false
namespace Jvm.RoadKit
open Sem ClassFile Op Lib Jvm.Stand Jvm.Free Jvm.LawKit
section New
variable {p : Program} {l : Launch} {e : Env} {R : Room} {s : State} {m : MethodId} {args : Array Value} {below : List Frame} {meth : Method} {c : Code} {T : State} {locs : List Loc} {cells slots : Nat}
theorem retI (X : Stand p l e R s m args below meth c T locs cells slots) (hx : p.tables.exec = Jvm.exec) {pc : Nat} {Ls : Array Slot} {z : Int32} {rest : List Value} (hret : meth.sig.returnType = some .int) (hd : decode c.code pc = .ok (.ireturn, 1)) {fs : List Frame}
    (hl : ∀ (f : JFrame) (acts : List Action), f.method = m → f.locked = none → f.entered = [] → (doReturn e (T.setTop f) acts (some (.int z))).1 = T.setFrames fs) : Steps p.tables e below (T.setTop (mkF m pc Ls (.int z :: rest))) (T.setFrames fs) := by
  have hm' : T.vm.method? m = some meth := X.method'
  have hn : narrow .int (.int z) = .int z := rfl
  show Steps p.tables e below (T.setTop { method := m, pc := pc, locals := Ls, stack := _ :: rest, locked := none }) _
  jvm_step X.here [X.here.top, hx, hd, hm', hret, hn]
  first | (intro acts; rw [hl _ acts rfl rfl rfl]) | rw [hl _ _ rfl rfl rfl]
  exact Steps.refl _
end New
end Jvm.RoadKit
namespace Jvm.Pilot.@@N@@
open Jvm Jvm.ClassFile Sem Op Lib Jvm.Free Jvm.Stand Jvm.LawKit Jvm.RoadKit Bundle Jvm.Pilot.@@N@@.Jvm.D
section Own
variable {p : Program} {l : Launch} {e : Env} {R : Room} {s : State} {m : MethodId} {args : Array Value} {below : List Frame} {meth : Method} {c : Code} {T : State} {locs : List Loc} {cells slots : Nat}
theorem own_retL (X : Stand p l e R s m args below meth c T locs cells slots) (hx : p.tables.exec = Jvm.exec) {pc : Nat} {Ls : Array Slot} {z : Int64} {rest : List Value} (hret : meth.sig.returnType = some .long) (hd : decode c.code pc = .ok (.lreturn, 1)) {fs : List Frame}
    (hl : ∀ (f : JFrame) (acts : List Action), f.method = m → f.locked = none → f.entered = [] → (doReturn e (T.setTop f) acts (some (.long z))).1 = T.setFrames fs) : Steps p.tables e below (T.setTop (mkF m pc Ls (.long z :: rest))) (T.setFrames fs) := by
  have hm' : T.vm.method? m = some meth := X.method'
  have hn : narrow .long (.long z) = .long z := rfl
  show Steps p.tables e below (T.setTop { method := m, pc := pc, locals := Ls, stack := _ :: rest, locked := none }) _
  jvm_step X.here [X.here.top, hx, hd, hm', hret, hn]
  first | (intro acts; rw [hl _ acts rfl rfl rfl]) | rw [hl _ _ rfl rfl rfl]
  exact Steps.refl _
theorem own_retA (X : Stand p l e R s m args below meth c T locs cells slots) (hx : p.tables.exec = Jvm.exec) {pc : Nat} {Ls : Array Slot} {v : Value} {t : FieldType} {rest : List Value} (hret : meth.sig.returnType = some t) (ht : t.isReference = true) (hv : v.isRef = true) (hd : decode c.code pc = .ok (.areturn, 1)) {fs : List Frame}
    (hl : ∀ (f : JFrame) (acts : List Action), f.method = m → f.locked = none → f.entered = [] → (doReturn e (T.setTop f) acts (some v)).1 = T.setFrames fs) : Steps p.tables e below (T.setTop (mkF m pc Ls (v :: rest))) (T.setFrames fs) := by
  have hm' : T.vm.method? m = some meth := X.method'
  show Steps p.tables e below (T.setTop { method := m, pc := pc, locals := Ls, stack := _ :: rest, locked := none }) _
  jvm_step X.here [X.here.top, hx, hd, hm', hret, hv, ht]
  first | (intro acts; rw [hl _ acts rfl rfl rfl]) | rw [hl _ _ rfl rfl rfl]
  exact Steps.refl _
def OGo (p : Program) (e : Env) (below : List Frame) (P : State → Outcome → Prop) (S : State) : Prop := ∃ s₂ o, Steps p.tables e below S s₂ ∧ s₂.status = .running ∧ Ended s₂ below o ∧ P s₂ o
theorem OGo.to {P : State → Outcome → Prop} {S S' : State} (h : ∀ t, Steps p.tables e below S' t → Steps p.tables e below S t) (g : OGo p e below P S') : OGo p e below P S := by
  obtain ⟨s₂, o, h1, r⟩ := g
  exact ⟨s₂, o, h _ h1, r⟩
theorem OGo.ret {Q : Option Value → Heap → List Loc → Prop} (X : Stand p l e R s m args below meth c T locs cells slots) {g : JFrame} (v : Option Value) (hv : meth.sig.returnType = none → v = none) (hlocks : meth.locks = false)
    (st : ∀ fs : List Frame, (∀ (f : JFrame) (acts : List Action), f.method = m → f.locked = none → f.entered = [] → (doReturn e (T.setTop f) acts v).1 = T.setFrames fs) → Steps p.tables e below (T.setTop g) (T.setFrames fs)) (hq : Q v T.heap locs) {rc rs : Nat} (h1 : cells ≤ rc) (h2 : slots ≤ rs) :
    OGo p e below (fun s₂ o => ∃ v L, o = .returned v ∧ Q v s₂.heap L ∧ FrameEnd s o s₂ L rc rs) (T.setTop g) := by
  obtain ⟨fs, hr, hrun, hended, hW, hsame⟩ := X.leave (v := v) hv hlocks
  exact ⟨_, _, st fs hr, hrun, hended, _, _, rfl, hq, ⟨_, rfl⟩, hW, hsame.mono h1 h2⟩
theorem own_selP {Z : State} {a0 : Array Value} (hZ : Z.Warmed39 s.vm) {y : MethodName} {n : Nat} (wi : (Jvm.Cond.instantiable y.cls n).before a0 Z = true) (wp : (Jvm.Cond.privateMethod y).before a0 Z = true) (wm : (Jvm.Cond.instanceMethod y).before a0 Z = true) (hy : y.cls ≠ "java/lang/invoke/MethodHandle" ∧ y.cls ≠ "java/lang/invoke/VarHandle") : (Jvm.Cond.selects y.cls y y).before args s = true := by
  obtain ⟨c, k, h1, h2, -, h3, -⟩ := Cond.instantiable_spec (mvT (args := args) hZ wi)
  exact selects_self_of_private h1 h2 ((Bool.or_eq_false_iff.mp h3).1) (Cond.privateMethod_at (mvP hZ wp (args := args))) (mvT hZ wm) hy
end Own
theorem own_ieq {a b : Int32} (h : a = b) : a.toInt = b.toInt := congrArg _ h
theorem own_ine {a b : Int32} (h : ¬ a = b) : a.toInt ≠ b.toInt := fun q => h (Int32.toInt_inj.mp q)
theorem own_ilt {a b : Int32} (h : a < b) : a.toInt < b.toInt := Int32.lt_iff_toInt_lt.mp h
theorem own_inlt {a b : Int32} (h : ¬ a < b) : b.toInt ≤ a.toInt := Int.not_lt.mp fun q => h (Int32.lt_iff_toInt_lt.mpr q)
theorem own_eqi {a b : Int32} (h : a.toInt = b.toInt) : a = b := Int32.toInt_inj.mp h
theorem own_lti {a b : Int32} (h : a.toInt < b.toInt) : a < b := Int32.lt_iff_toInt_lt.mpr h
theorem own_nlti {a b : Int32} (h : b.toInt ≤ a.toInt) : ¬ a < b := fun q => absurd (Int32.lt_iff_toInt_lt.mp q) (Int.not_lt.mpr h)
theorem own_nnL (q : Int64) : ¬ (q &&& (9223372036854775807 : Int64)) < 0 := by
  have h := c_maskL q (9223372036854775807 : Int64) 63 (by decide) (by decide)
  rw [Int64.lt_iff_toInt_lt]
  have : (0 : Int64).toInt = 0 := rfl
  omega
theorem own_nn (q : Int32) : ¬ (q &&& (2147483647 : Int32)) < 0 := own_nlti (c_and q (2147483647 : Int32) (by decide)).1
def own_max (a b : Int32) : Int32 := if a < b then b else a
theorem own_max1 (b : Int32) : (0 : Int32) < own_max (1 : Int32) b := by
  unfold own_max
  split
  · rename_i h; have := own_ilt h; exact own_lti (Int.lt_trans (by decide) this)
  · decide
def own_lh (q : Int64) : Int32 := (q ^^^ ((q.toUInt64 >>> ((32 : Int32) &&& 0x3f).toInt64.toUInt64).toInt64)).toInt32
def own_h (t : Int64) (c k : Int32) : Int32 := (own_lh t * (31 : Int32) + c) * (31 : Int32) + k
def own_eq (t1 : Int64) (c1 k1 : Int32) (t2 : Int64) (c2 k2 : Int32) : Int32 := if t1 = t2 then (if c1 = c2 then (if k1 = k2 then (1 : Int32) else 0) else 0) else 0
theorem own_eq_yes {t1 t2 : Int64} {c1 k1 c2 k2 : Int32} (h : ¬ own_eq t1 c1 k1 t2 c2 k2 = (0 : Int32)) : t1 = t2 ∧ c1 = c2 ∧ k1 = k2 := by
  unfold own_eq at h
  by_cases h1 : t1 = t2
  · by_cases h2 : c1 = c2
    · by_cases h3 : k1 = k2
      · exact ⟨h1, h2, h3⟩
      · rw [if_pos h1, if_pos h2, if_neg h3] at h; exact absurd rfl h
    · rw [if_pos h1, if_neg h2] at h; exact absurd rfl h
  · rw [if_neg h1] at h; exact absurd rfl h
theorem own_eq_no {t1 t2 : Int64} {c1 k1 c2 k2 : Int32} (h : own_eq t1 c1 k1 t2 c2 k2 = (0 : Int32)) : ¬ (t1 = t2 ∧ c1 = c2 ∧ k1 = k2) := by
  rintro ⟨h1, h2, h3⟩
  unfold own_eq at h
  rw [if_pos h1, if_pos h2, if_pos h3] at h
  exact absurd h (by decide)

theorem own_A {t1 t2 : Int64} {c1 k1 c2 k2 : Int32} (h : ¬ own_eq t1 c1 k1 t2 c2 k2 = (0 : Int32)) : own_h t1 c1 k1 = own_h t2 c2 k2 := by
  obtain ⟨rfl, rfl, rfl⟩ := own_eq_yes h; rfl
theorem own_B1 {t1 t2 : Int64} {c1 k1 c2 k2 : Int32} (e1 : t2 = t1) (e2 : c2 = c1) (h : own_eq t1 c1 k1 t2 c2 k2 = (0 : Int32)) : ¬ own_h t1 c1 k1 = own_h t2 c2 k2 := by
  subst e1 e2
  intro q
  exact own_eq_no h ⟨rfl, rfl, (Int32.add_right_inj _).mp q⟩
theorem own_31 {a b : Int32} (h : a * (31 : Int32) = b * (31 : Int32)) : a = b := by
  have e := congrArg (fun z : Int32 => z * (-1108378657 : Int32)) h
  have u : ((31 : Int32) * (-1108378657 : Int32)) = 1 := by decide
  simp only [Int32.mul_assoc, u, Int32.mul_one] at e
  exact e
theorem own_B2 {t1 t2 : Int64} {c1 k1 c2 k2 : Int32} (e1 : t2 = t1) (e2 : k2 = k1) (h : own_eq t1 c1 k1 t2 c2 k2 = (0 : Int32)) : ¬ own_h t1 c1 k1 = own_h t2 c2 k2 := by
  subst e1 e2
  intro q
  exact own_eq_no h ⟨rfl, (Int32.add_right_inj _).mp (own_31 ((Int32.add_left_inj _).mp q)), rfl⟩
theorem own_C1 {P Q S : Prop} [Decidable P] [Decidable Q] [Decidable S] {a b : Int64} (h1 : ¬ a < (0 : Int64)) (h2 : ¬ b < (0 : Int64)) : ¬ (if P then a else (if Q then a else (if S then b else a))) < (0 : Int64) := by
  by_cases hp : P <;> by_cases hq : Q <;> by_cases hs : S <;> simp only [hp, hq, hs, if_true, if_false] <;> assumption
theorem own_C2 {P Q S : Prop} [Decidable P] [Decidable Q] [Decidable S] {a b : Int32} (h1 : ¬ a < (0 : Int32)) (h2 : ¬ b < (0 : Int32)) : ¬ (if P then a else (if Q then b else (if S then b else a))) < (0 : Int32) := by
  by_cases hp : P <;> by_cases hq : Q <;> by_cases hs : S <;> simp only [hp, hq, hs, if_true, if_false] <;> assumption
theorem own_C3 {P Q S : Prop} [Decidable P] [Decidable Q] [Decidable S] {a b : Int32} (h1 : (0 : Int32) < a) (h2 : (0 : Int32) < b) : (0 : Int32) < (if P then b else (if Q then a else (if S then b else a))) := by
  by_cases hp : P <;> by_cases hq : Q <;> by_cases hs : S <;> simp only [hp, hq, hs, if_true, if_false] <;> assumption
theorem pd_0 : parseMethodDescriptor "()V" = some ⟨[], none⟩ := by decide +kernel
theorem pd_1 : parseMethodDescriptor "(J)I" = some ⟨[.long], some .int⟩ := by decide +kernel
theorem pd_2 : parseMethodDescriptor "(II)I" = some ⟨[.int, .int], some .int⟩ := by decide +kernel
theorem pd_3 : parseMethodDescriptor "(JII)V" = some ⟨[.long, .int, .int], none⟩ := by decide +kernel
theorem pd_4 : parseMethodDescriptor "()I" = some ⟨[], some .int⟩ := by decide +kernel
theorem pd_5 : parseMethodDescriptor "(Ljava/lang/Object;)Z" = some ⟨[(.object "java/lang/Object")], some .boolean⟩ := by decide +kernel
theorem pn_0 : plainName "java/lang/Record" = true := by first | (simp [plainName, overriddenIn]; done) | decide +kernel
theorem pn_1 : plainName "com/example/heartwood/heartwood/Revision" = true := by first | (simp [plainName, overriddenIn]; done) | decide +kernel
theorem pn_2 : plainName "java/lang/Long" = true := by first | (simp [plainName, overriddenIn]; done) | decide +kernel
theorem pn_3 : plainName "com/example/heartwood/heartwood/RevisionHashCodePinLaw" = true := by first | (simp [plainName, overriddenIn]; done) | decide +kernel
theorem d1_0 : decode jdk_29_method_65_code 0 = .ok (.iload_n 0, 1) := by decide +kernel
theorem d1_1 : decode jdk_29_method_65_code 1 = .ok (.iload_n 1, 1) := by decide +kernel
theorem d1_2 : decode jdk_29_method_65_code 2 = .ok (.if_icmp .lt 7, 3) := by decide +kernel
theorem d1_5 : decode jdk_29_method_65_code 5 = .ok (.iload_n 0, 1) := by decide +kernel
theorem d1_6 : decode jdk_29_method_65_code 6 = .ok (.goto 4, 3) := by decide +kernel
theorem d1_9 : decode jdk_29_method_65_code 9 = .ok (.iload_n 1, 1) := by decide +kernel
theorem d1_10 : decode jdk_29_method_65_code 10 = .ok (.ireturn, 1) := by decide +kernel
theorem ef_1 (m : MethodId) (x0 : Int32) (x1 : Int32) : entryFrame m #[(.int x0), (.int x1)] 2 = mkF m 0 #[.val (.int x0), .val (.int x1)] [] := by first | (simp [entryFrame, mkF, argsToLocals, Value.category]; done) | rfl
def Q1 (Z : State) (p1 : Int32) (p2 : Int32) (h0 : Heap) (n0 : Nat) (v : Option Value) (h : Heap) (L : List Loc) : Prop := v = some (.int (own_max p1 p2)) ∧ Fr n0 L ∧ h = h0
set_option maxRecDepth 65536 in
set_option maxHeartbeats 40000000 in
theorem rm1 (l : Launch) (Z : State) (a0 : Array Value) (hw : ∀ d ∈ tables_1, d.before a0 Z = true) (ws : List Jvm.Cond) (p1 : Int32) (p2 : Int32) (h0 : Heap) (n0 : Nat) (Z0 : n0 ≤ h0.size) :
    MetFree l (⟨"java/lang/Math", "max", "(II)I"⟩ : MethodName) (head1 (Jvm.Cond.code (⟨"java/lang/Math", "max", "(II)I"⟩ : MethodName) jdk_29_method_65_code 2 (some .int) :: ws) ({ frames := 0, cells := 0, slots := 0, locals := 0 } : Room)) (fun a U => a = #[(.int p1), (.int p2)] ∧ Z.Warmed39 U.vm ∧ U.heap = h0) (fun _ _ _ _ _ => True) (fun _ U o U' => ∃ v L, o = .returned v ∧ Q1 Z p1 p2 h0 n0 v U'.heap L ∧ FrameEnd U o U' L ({ frames := 0, cells := 0, slots := 0, locals := 0 } : Room).cells ({ frames := 0, cells := 0, slots := 0, locals := 0 } : Room).slots) := by
  refine MetFree.of_bodySF (Jvm.Free.JP.mathPlain rfl (by decide +kernel)) hisR ?_
  intro p e s m args below meth c s₁ Bd hml0 hP hK
  obtain ⟨rfl, hZ, hh⟩ := hP
  have hx := Bd.exec
  have hby := Bd.bytes
  have hml : c.maxLocals = 2 := hml0
  have hown : s.vm.findClass "java/lang/Math" = some m.cls := findClass_of_methodNamed Bd.named
  have hnm := (name_of_methodNamed Bd.named Bd.method).1
  have X0 : Stand p l e ({ frames := 0, cells := 0, slots := 0, locals := 0 } : Room) s m #[(.int p1), (.int p2)] below meth c s₁ [] 0 0 := Stand.of_body Bd
  have e0 : s₁.heap = h0 := by rw [← hh, Bd.state]; rfl
  have N0 := Fr.nil n0
  show OGo p e below (fun s₂ o => ∃ v L, o = .returned v ∧ Q1 Z p1 p2 h0 n0 v s₂.heap L ∧ FrameEnd s o s₂ L ({ frames := 0, cells := 0, slots := 0, locals := 0 } : Room).cells ({ frames := 0, cells := 0, slots := 0, locals := 0 } : Room).slots) _
  refine OGo.to (fun _ k => castTop (ef_1 m p1 p2) k) ?_
  refine OGo.to (fun _ k => XS.iloadN X0.here hx rfl (hb hby d1_0) rfl k) ?_
  show OGo p e below _ (s₁.setTop (mkF m 1 #[.val (.int p1), .val (.int p2)] [(.int p1)]))
  refine OGo.to (fun _ k => XS.iloadN X0.here hx rfl (hb hby d1_1) rfl k) ?_
  show OGo p e below _ (s₁.setTop (mkF m 2 #[.val (.int p1), .val (.int p2)] [(.int p2), (.int p1)]))
  by_cases hc2_1 : p1 < p2
  ·  -- pc 2: yes
    refine OGo.to (fun _ k => XS.icmpYes X0.here hx rfl (pc0 := 2) (pc' := 9) rfl (hb hby d1_2) rfl (tlt hc2_1).1 (by decide) (by decide) k) ?_
    show OGo p e below _ (s₁.setTop (mkF m 9 #[.val (.int p1), .val (.int p2)] []))
    refine OGo.to (fun _ k => XS.iloadN X0.here hx rfl (hb hby d1_9) rfl k) ?_
    show OGo p e below _ (s₁.setTop (mkF m 10 #[.val (.int p1), .val (.int p2)] [(.int p2)]))
    refine OGo.ret (Q := Q1 Z p1 p2 h0 n0) X0 (some (.int p2)) (fun h => by rw [Bd.returns] at h; cases h) Bd.notSynchronized (fun fs hr => retI X0 hx Bd.returns (hb hby d1_10) hr) ?_ (by decide) (by decide)
    show Q1 Z p1 p2 h0 n0 _ s₁.heap _
    rw [e0]
    exact ⟨congrArg (fun z => some (Value.int z)) (show p2 = (own_max p1 p2) from by unfold own_max; rw [if_pos hc2_1]), N0, rfl⟩
  ·  -- pc 2: no
    refine OGo.to (fun _ k => XS.icmpNo X0.here hx rfl (hb hby d1_2) rfl (flt hc2_1).1 k) ?_
    show OGo p e below _ (s₁.setTop (mkF m 5 #[.val (.int p1), .val (.int p2)] []))
    refine OGo.to (fun _ k => XS.iloadN X0.here hx rfl (hb hby d1_5) rfl k) ?_
    show OGo p e below _ (s₁.setTop (mkF m 6 #[.val (.int p1), .val (.int p2)] [(.int p1)]))
    refine OGo.to (fun _ k => XS.goto X0.here hx rfl (pc0 := 6) (pc' := 10) rfl (hb hby d1_6) (by decide) (by decide) k) ?_
    show OGo p e below _ (s₁.setTop (mkF m 10 #[.val (.int p1), .val (.int p2)] [(.int p1)]))
    refine OGo.ret (Q := Q1 Z p1 p2 h0 n0) X0 (some (.int p1)) (fun h => by rw [Bd.returns] at h; cases h) Bd.notSynchronized (fun fs hr => retI X0 hx Bd.returns (hb hby d1_10) hr) ?_ (by decide) (by decide)
    show Q1 Z p1 p2 h0 n0 _ s₁.heap _
    rw [e0]
    exact ⟨congrArg (fun z => some (Value.int z)) (show p1 = (own_max p1 p2) from by unfold own_max; rw [if_neg hc2_1]), N0, rfl⟩
theorem d3_0 : decode jdk_30_method_1_code 0 = .ok (.aload_n 0, 1) := by decide +kernel
theorem d3_1 : decode jdk_30_method_1_code 1 = .ok (.invokespecial 1, 3) := by decide +kernel
theorem d3_4 : decode jdk_30_method_1_code 4 = .ok (.return_, 1) := by decide +kernel
theorem ef_3 (m : MethodId) (x0 : Addr) : entryFrame m #[(.ref x0)] 1 = mkF m 0 #[.val (.ref x0)] [] := by first | (simp [entryFrame, mkF, argsToLocals, Value.category]; done) | rfl
def Q3 (Z : State) (a1 : Addr) (h0 : Heap) (n0 : Nat) (v : Option Value) (h : Heap) (L : List Loc) : Prop := v = none ∧ Fr n0 L ∧ h = h0
set_option maxRecDepth 65536 in
set_option maxHeartbeats 40000000 in
theorem rm3 (l : Launch) (Z : State) (a0 : Array Value) (hw : ∀ d ∈ tables_1, d.before a0 Z = true) (ws : List Jvm.Cond) (a1 : Addr) (h0 : Heap) (n0 : Nat) (Z0 : n0 ≤ h0.size) :
    MetFree l (⟨"java/lang/Record", "<init>", "()V"⟩ : MethodName) (head1 (Jvm.Cond.code (⟨"java/lang/Record", "<init>", "()V"⟩ : MethodName) jdk_30_method_1_code 1 none :: ws) ({ frames := 1, cells := 0, slots := 0, locals := 12 } : Room)) (fun a U => a = #[(.ref a1)] ∧ Z.Warmed39 U.vm ∧ U.heap = h0) (fun _ _ _ _ _ => True) (fun _ U o U' => ∃ v L, o = .returned v ∧ Q3 Z a1 h0 n0 v U'.heap L ∧ FrameEnd U o U' L ({ frames := 1, cells := 0, slots := 0, locals := 12 } : Room).cells ({ frames := 1, cells := 0, slots := 0, locals := 12 } : Room).slots) := by
  refine MetFree.of_bodySF (plainFor_of_name pn_0) hisR ?_
  intro p e s m args below meth c s₁ Bd hml0 hP hK
  obtain ⟨rfl, hZ, hh⟩ := hP
  have hx := Bd.exec
  have hby := Bd.bytes
  have hml : c.maxLocals = 1 := hml0
  have hown : s.vm.findClass "java/lang/Record" = some m.cls := findClass_of_methodNamed Bd.named
  have hnm := (name_of_methodNamed Bd.named Bd.method).1
  have X0 : Stand p l e ({ frames := 1, cells := 0, slots := 0, locals := 12 } : Room) s m #[(.ref a1)] below meth c s₁ [] 0 0 := Stand.of_body Bd
  have e0 : s₁.heap = h0 := by rw [← hh, Bd.state]; rfl
  have N0 := Fr.nil n0
  show OGo p e below (fun s₂ o => ∃ v L, o = .returned v ∧ Q3 Z a1 h0 n0 v s₂.heap L ∧ FrameEnd s o s₂ L ({ frames := 1, cells := 0, slots := 0, locals := 12 } : Room).cells ({ frames := 1, cells := 0, slots := 0, locals := 12 } : Room).slots) _
  refine OGo.to (fun _ k => castTop (ef_3 m a1) k) ?_
  refine OGo.to (fun _ k => XS.aloadN X0.here hx rfl (hb hby d3_0) rfl rfl k) ?_
  show OGo p e below _ (s₁.setTop (mkF m 1 #[.val (.ref a1)] [(.ref a1)]))
  obtain ⟨T1, X1, e1, st1⟩ := initO X0 hx hZ hown (hw _ (List.mem_of_getElem? (i := 18) rfl)) (hw _ (List.mem_of_getElem? (i := 19) rfl)) (hw _ (List.mem_of_getElem? (i := 20) rfl)) e0 (g := (mkF m 1 #[.val (.ref a1)] [(.ref a1)])) rfl (by rw [hml]; rfl) rfl (hb hby d3_1) (by decide) (W := 0) (by show 2 * 0 + _ ≤ _; exact Nat.le_of_eq rfl) (by decide)
  refine OGo.to st1 ?_
  show OGo p e below _ (T1.setTop (mkF m 4 #[.val (.ref a1)] []))
  refine OGo.ret (Q := Q3 Z a1 h0 n0) X1 none (fun _ => rfl) Bd.notSynchronized (fun fs hr => X1.returnOut hx Bd.returns (hb hby d3_4) hr) ?_ (by decide) (by decide)
  show Q3 Z a1 h0 n0 _ T1.heap _
  rw [e1]
  exact ⟨rfl, N0, rfl⟩
theorem d2_0 : decode prog_16_method_1_code 0 = .ok (.aload_n 0, 1) := by decide +kernel
theorem d2_1 : decode prog_16_method_1_code 1 = .ok (.invokespecial 1, 3) := by decide +kernel
theorem d2_4 : decode prog_16_method_1_code 4 = .ok (.lload_n 1, 1) := by decide +kernel
theorem d2_5 : decode prog_16_method_1_code 5 = .ok (.lconst 0, 1) := by decide +kernel
theorem d2_6 : decode prog_16_method_1_code 6 = .ok (.lcmp, 1) := by decide +kernel
theorem d2_7 : decode prog_16_method_1_code 7 = .ok (.ifCond .lt 12, 3) := by decide +kernel
theorem d2_10 : decode prog_16_method_1_code 10 = .ok (.iload_n 3, 1) := by decide +kernel
theorem d2_11 : decode prog_16_method_1_code 11 = .ok (.ifCond .lt 8, 3) := by decide +kernel
theorem d2_14 : decode prog_16_method_1_code 14 = .ok (.iload 4, 2) := by decide +kernel
theorem d2_16 : decode prog_16_method_1_code 16 = .ok (.ifCond .gt 20, 3) := by decide +kernel
theorem d2_36 : decode prog_16_method_1_code 36 = .ok (.aload_n 0, 1) := by decide +kernel
theorem d2_37 : decode prog_16_method_1_code 37 = .ok (.lload_n 1, 1) := by decide +kernel
theorem d2_38 : decode prog_16_method_1_code 38 = .ok (.putfield 16, 3) := by decide +kernel
theorem d2_41 : decode prog_16_method_1_code 41 = .ok (.aload_n 0, 1) := by decide +kernel
theorem d2_42 : decode prog_16_method_1_code 42 = .ok (.iload_n 3, 1) := by decide +kernel
theorem d2_43 : decode prog_16_method_1_code 43 = .ok (.putfield 22, 3) := by decide +kernel
theorem d2_46 : decode prog_16_method_1_code 46 = .ok (.aload_n 0, 1) := by decide +kernel
theorem d2_47 : decode prog_16_method_1_code 47 = .ok (.iload 4, 2) := by decide +kernel
theorem d2_49 : decode prog_16_method_1_code 49 = .ok (.putfield 26, 3) := by decide +kernel
theorem d2_52 : decode prog_16_method_1_code 52 = .ok (.return_, 1) := by decide +kernel
theorem ef_2 (m : MethodId) (x0 : Addr) (x1 : Int64) (x2 : Int32) (x3 : Int32) : entryFrame m #[(.ref x0), (.long x1), (.int x2), (.int x3)] 5 = mkF m 0 #[.val (.ref x0), .val (.long x1), .second, .val (.int x2), .val (.int x3)] [] := by first | (simp [entryFrame, mkF, argsToLocals, Value.category]; done) | rfl
def Q2 (Z : State) (a1 : Addr) (q1 : Int64) (p1 : Int32) (p2 : Int32) (u0 : Value) (u1 : Value) (u2 : Value) (h0 : Heap) (n0 : Nat) (v : Option Value) (h : Heap) (L : List Loc) : Prop := v = none ∧ Fr n0 L ∧ Keep h0 h [a1] ∧ Fld Z h a1 "com/example/heartwood/heartwood/Revision" "timestamp" "J" (.long q1) ∧ Fld Z h a1 "com/example/heartwood/heartwood/Revision" "counter" "I" (.int p1) ∧ Fld Z h a1 "com/example/heartwood/heartwood/Revision" "clusterId" "I" (.int p2)
set_option maxRecDepth 65536 in
set_option maxHeartbeats 40000000 in
theorem rm2 (l : Launch) (Z : State) (a0 : Array Value) (hw : ∀ d ∈ tables_1, d.before a0 Z = true) (ws : List Jvm.Cond) (a1 : Addr) (q1 : Int64) (p1 : Int32) (p2 : Int32) (u0 : Value) (u1 : Value) (u2 : Value) (h0 : Heap) (n0 : Nat) (Z0 : n0 ≤ h0.size) (E1 : Exa Z h0 a1 "com/example/heartwood/heartwood/Revision") (F0 : Fld Z h0 a1 "com/example/heartwood/heartwood/Revision" "timestamp" "J" u0) (F1 : Fld Z h0 a1 "com/example/heartwood/heartwood/Revision" "counter" "I" u1) (F2 : Fld Z h0 a1 "com/example/heartwood/heartwood/Revision" "clusterId" "I" u2) (g1 : n0 ≤ a1) (hq : ¬ (q1 < (0 : Int64))) (hp : ¬ (p1 < (0 : Int32))) (hk : (0 : Int32) < p2) :
    MetFree l (⟨"com/example/heartwood/heartwood/Revision", "<init>", "(JII)V"⟩ : MethodName) (head1 (Jvm.Cond.code (⟨"com/example/heartwood/heartwood/Revision", "<init>", "(JII)V"⟩ : MethodName) prog_16_method_1_code 5 none :: ws) ({ frames := 2, cells := 0, slots := 0, locals := 24 } : Room)) (fun a U => a = #[(.ref a1), (.long q1), (.int p1), (.int p2)] ∧ Z.Warmed39 U.vm ∧ U.heap = h0) (fun _ _ _ _ _ => True) (fun _ U o U' => ∃ v L, o = .returned v ∧ Q2 Z a1 q1 p1 p2 u0 u1 u2 h0 n0 v U'.heap L ∧ FrameEnd U o U' L ({ frames := 2, cells := 0, slots := 0, locals := 24 } : Room).cells ({ frames := 2, cells := 0, slots := 0, locals := 24 } : Room).slots) := by
  refine MetFree.of_bodySF (plainFor_of_name pn_1) hisR ?_
  intro p e s m args below meth c s₁ Bd hml0 hP hK
  obtain ⟨rfl, hZ, hh⟩ := hP
  have hx := Bd.exec
  have hby := Bd.bytes
  have hml : c.maxLocals = 5 := hml0
  have hown : s.vm.findClass "com/example/heartwood/heartwood/Revision" = some m.cls := findClass_of_methodNamed Bd.named
  have hnm := (name_of_methodNamed Bd.named Bd.method).1
  have X0 : Stand p l e ({ frames := 2, cells := 0, slots := 0, locals := 24 } : Room) s m #[(.ref a1), (.long q1), (.int p1), (.int p2)] below meth c s₁ [] 0 0 := Stand.of_body Bd
  have e0 : s₁.heap = h0 := by rw [← hh, Bd.state]; rfl
  have N0 := Fr.nil n0
  show OGo p e below (fun s₂ o => ∃ v L, o = .returned v ∧ Q2 Z a1 q1 p1 p2 u0 u1 u2 h0 n0 v s₂.heap L ∧ FrameEnd s o s₂ L ({ frames := 2, cells := 0, slots := 0, locals := 24 } : Room).cells ({ frames := 2, cells := 0, slots := 0, locals := 24 } : Room).slots) _
  refine OGo.to (fun _ k => castTop (ef_2 m a1 q1 p1 p2) k) ?_
  refine OGo.to (fun _ k => XS.aloadN X0.here hx rfl (hb hby d2_0) rfl rfl k) ?_
  show OGo p e below _ (s₁.setTop (mkF m 1 #[.val (.ref a1), .val (.long q1), .second, .val (.int p1), .val (.int p2)] [(.ref a1)]))
  obtain ⟨_, _, ⟨T1, L1, k1, n1⟩, -, X1, ⟨Lc1, hQ1, l1, y1, z1⟩, st1⟩ := X0.specialBack hx (y := (⟨"java/lang/Record", "<init>", "()V"⟩ : MethodName)) rfl hown (mvT hZ (hw _ (List.mem_of_getElem? (i := 13) rfl))) (mvT hZ (hw _ (List.mem_of_getElem? (i := 14) rfl))) (mvT hZ (hw _ (List.mem_of_getElem? (i := 17) rfl))) (by decide) (backOf (W := 0) (rm3 l Z a0 hw [] a1 h0 n0 Z0 ) hZ (hw _ (List.mem_of_getElem? (i := 17) rfl)) (hw _ (List.mem_of_getElem? (i := 16) rfl)) (by decide) (by decide)) (g := (mkF m 1 #[.val (.ref a1), .val (.long q1), .second, .val (.int p1), .val (.int p2)] [(.ref a1)])) rfl (by rw [hml]; rfl) (Steps.refl _) (a := a1) (argsL := []) (rest := []) (lenOf pd_0 rfl) rfl (by show 2 * 0 + _ ≤ _; exact Nat.le_of_eq rfl) (hb hby d2_1) (fun _ _ => ⟨rfl, e0, (by decide : 0 + 0 ≤ _), (by decide : 0 + 0 ≤ _)⟩)
  dsimp only [Pt.U, Pt.locs, Pt.cells, Pt.slots] at X1 l1 y1 z1 st1 hQ1
  subst l1 y1 z1
  obtain ⟨rfl, N1q, e1⟩ := hQ1
  have N1 := Fr.app N0 N1q
  refine OGo.to (fun _ k => st1.trans k) ?_
  show OGo p e below _ (T1.setTop (mkF m 4 #[.val (.ref a1), .val (.long q1), .second, .val (.int p1), .val (.int p2)] []))
  refine OGo.to (fun _ k => XS.lloadN X1.here hx rfl (hb hby d2_4) rfl k) ?_
  show OGo p e below _ (T1.setTop (mkF m 5 #[.val (.ref a1), .val (.long q1), .second, .val (.int p1), .val (.int p2)] [(.long q1)]))
  refine OGo.to (fun _ k => XS.lconst X1.here hx rfl (hb hby d2_5) k) ?_
  show OGo p e below _ (T1.setTop (mkF m 6 #[.val (.ref a1), .val (.long q1), .second, .val (.int p1), .val (.int p2)] [(.long (0 : Int64)), (.long q1)]))
  refine OGo.to (fun _ k => XS.lcmp X1.here hx rfl (hb hby d2_6) rfl k) ?_
  show OGo p e below _ (T1.setTop (mkF m 7 #[.val (.ref a1), .val (.long q1), .second, .val (.int p1), .val (.int p2)] [(.int (lcmpW q1 (0 : Int64)))]))
  have hc7_2 : ¬ (q1 < (0 : Int64)) := hq
  refine OGo.to (fun _ k => XS.ifNo X1.here hx rfl (hb hby d2_7) rfl ((if0 _ _).trans (flt (mt (lw_lt q1 (0 : Int64)).mp hc7_2)).1) k) ?_
  show OGo p e below _ (T1.setTop (mkF m 10 #[.val (.ref a1), .val (.long q1), .second, .val (.int p1), .val (.int p2)] []))
  refine OGo.to (fun _ k => XS.iloadN X1.here hx rfl (hb hby d2_10) rfl k) ?_
  show OGo p e below _ (T1.setTop (mkF m 11 #[.val (.ref a1), .val (.long q1), .second, .val (.int p1), .val (.int p2)] [(.int p1)]))
  have hc11_3 : ¬ (p1 < (0 : Int32)) := hp
  refine OGo.to (fun _ k => XS.ifNo X1.here hx rfl (hb hby d2_11) rfl ((if0 _ _).trans (flt hc11_3).1) k) ?_
  show OGo p e below _ (T1.setTop (mkF m 14 #[.val (.ref a1), .val (.long q1), .second, .val (.int p1), .val (.int p2)] []))
  refine OGo.to (fun _ k => XS.iload X1.here hx rfl (hb hby d2_14) rfl k) ?_
  show OGo p e below _ (T1.setTop (mkF m 16 #[.val (.ref a1), .val (.long q1), .second, .val (.int p1), .val (.int p2)] [(.int p2)]))
  have hc16_4 : (0 : Int32) < p2 := hk
  refine OGo.to (fun _ k => XS.ifYes X1.here hx rfl (pc0 := 16) (pc' := 36) rfl (hb hby d2_16) rfl ((if0 _ _).trans (tlt hc16_4).2.2.1) (by decide) (by decide) k) ?_
  show OGo p e below _ (T1.setTop (mkF m 36 #[.val (.ref a1), .val (.long q1), .second, .val (.int p1), .val (.int p2)] []))
  refine OGo.to (fun _ k => XS.aloadN X1.here hx rfl (hb hby d2_36) rfl rfl k) ?_
  show OGo p e below _ (T1.setTop (mkF m 37 #[.val (.ref a1), .val (.long q1), .second, .val (.int p1), .val (.int p2)] [(.ref a1)]))
  refine OGo.to (fun _ k => XS.lloadN X1.here hx rfl (hb hby d2_37) rfl k) ?_
  show OGo p e below _ (T1.setTop (mkF m 38 #[.val (.ref a1), .val (.long q1), .second, .val (.int p1), .val (.int p2)] [(.long q1), (.ref a1)]))
  obtain ⟨T5, h5, X5, e5, W5, st5⟩ := putF X1 hx hZ hown (host := "") (Or.inl (hw _ (List.mem_of_getElem? (i := 21) rfl))) Via.refl e1 F0 E1 (Or.inr ⟨(hw _ (List.mem_of_getElem? (i := 22) rfl)), rfl, hnm⟩) (hw _ (List.mem_of_getElem? (i := 8) rfl)) (ty := .long) (by decide) rfl rfl (g := (mkF m 38 #[.val (.ref a1), .val (.long q1), .second, .val (.int p1), .val (.int p2)] [(.long q1), (.ref a1)])) rfl rfl (hb hby d2_38)
  refine OGo.to st5 ?_
  have Fw5 : Fld Z h5 a1 "com/example/heartwood/heartwood/Revision" "timestamp" "J" (.long q1) := F0.same W5
  have N5 := Fr.snoc X5 N1 g1
  have z6 : n0 ≤ h5.size := Nat.le_trans Z0 (Keep.of_wr W5).1
  have K7 : Keep h0 h5 [a1] := (Keep.refl h0 [a1]).wr W5 (Or.inl (List.mem_of_getElem? (i := 0) rfl))
  show OGo p e below _ (T5.setTop (mkF m 41 #[.val (.ref a1), .val (.long q1), .second, .val (.int p1), .val (.int p2)] []))
  refine OGo.to (fun _ k => XS.aloadN X5.here hx rfl (hb hby d2_41) rfl rfl k) ?_
  show OGo p e below _ (T5.setTop (mkF m 42 #[.val (.ref a1), .val (.long q1), .second, .val (.int p1), .val (.int p2)] [(.ref a1)]))
  refine OGo.to (fun _ k => XS.iloadN X5.here hx rfl (hb hby d2_42) rfl k) ?_
  show OGo p e below _ (T5.setTop (mkF m 43 #[.val (.ref a1), .val (.long q1), .second, .val (.int p1), .val (.int p2)] [(.int p1), (.ref a1)]))
  have f8 : Exa Z h5 a1 "com/example/heartwood/heartwood/Revision" := (E1.wr W5)
  have f9 : Fld Z h5 a1 "com/example/heartwood/heartwood/Revision" "counter" "I" u1 := (F1.other W5 (Or.inr (slot_ne (Or.inr (hw _ (List.mem_of_getElem? (i := 24) rfl))) (Or.inr (hw _ (List.mem_of_getElem? (i := 22) rfl))) (by decide) (t := .int) (t' := .long) (by decide) (by decide))))
  obtain ⟨T10, h10, X10, e10, W10, st10⟩ := putF X5 hx hZ hown (host := "") (Or.inl (hw _ (List.mem_of_getElem? (i := 23) rfl))) Via.refl e5 f9 f8 (Or.inr ⟨(hw _ (List.mem_of_getElem? (i := 24) rfl)), rfl, hnm⟩) (hw _ (List.mem_of_getElem? (i := 8) rfl)) (ty := .int) (by decide) rfl rfl (g := (mkF m 43 #[.val (.ref a1), .val (.long q1), .second, .val (.int p1), .val (.int p2)] [(.int p1), (.ref a1)])) rfl rfl (hb hby d2_43)
  refine OGo.to st10 ?_
  have Fw10 : Fld Z h10 a1 "com/example/heartwood/heartwood/Revision" "counter" "I" (.int p1) := f9.same W10
  have N10 := Fr.snoc X10 N5 g1
  have z11 : n0 ≤ h10.size := Nat.le_trans z6 (Keep.of_wr W10).1
  have K12 : Keep h0 h10 [a1] := K7.wr W10 (Or.inl (List.mem_of_getElem? (i := 0) rfl))
  show OGo p e below _ (T10.setTop (mkF m 46 #[.val (.ref a1), .val (.long q1), .second, .val (.int p1), .val (.int p2)] []))
  refine OGo.to (fun _ k => XS.aloadN X10.here hx rfl (hb hby d2_46) rfl rfl k) ?_
  show OGo p e below _ (T10.setTop (mkF m 47 #[.val (.ref a1), .val (.long q1), .second, .val (.int p1), .val (.int p2)] [(.ref a1)]))
  refine OGo.to (fun _ k => XS.iload X10.here hx rfl (hb hby d2_47) rfl k) ?_
  show OGo p e below _ (T10.setTop (mkF m 49 #[.val (.ref a1), .val (.long q1), .second, .val (.int p1), .val (.int p2)] [(.int p2), (.ref a1)]))
  have f13 : Exa Z h10 a1 "com/example/heartwood/heartwood/Revision" := (f8.wr W10)
  have f14 : Fld Z h10 a1 "com/example/heartwood/heartwood/Revision" "clusterId" "I" u2 := ((F2.other W5 (Or.inr (slot_ne (Or.inr (hw _ (List.mem_of_getElem? (i := 26) rfl))) (Or.inr (hw _ (List.mem_of_getElem? (i := 22) rfl))) (by decide) (t := .int) (t' := .long) (by decide) (by decide)))).other W10 (Or.inr (slot_ne (Or.inr (hw _ (List.mem_of_getElem? (i := 26) rfl))) (Or.inr (hw _ (List.mem_of_getElem? (i := 24) rfl))) (by decide) (t := .int) (t' := .int) (by decide) (by decide))))
  obtain ⟨T15, h15, X15, e15, W15, st15⟩ := putF X10 hx hZ hown (host := "") (Or.inl (hw _ (List.mem_of_getElem? (i := 25) rfl))) Via.refl e10 f14 f13 (Or.inr ⟨(hw _ (List.mem_of_getElem? (i := 26) rfl)), rfl, hnm⟩) (hw _ (List.mem_of_getElem? (i := 8) rfl)) (ty := .int) (by decide) rfl rfl (g := (mkF m 49 #[.val (.ref a1), .val (.long q1), .second, .val (.int p1), .val (.int p2)] [(.int p2), (.ref a1)])) rfl rfl (hb hby d2_49)
  refine OGo.to st15 ?_
  have Fw15 : Fld Z h15 a1 "com/example/heartwood/heartwood/Revision" "clusterId" "I" (.int p2) := f14.same W15
  have N15 := Fr.snoc X15 N10 g1
  have z16 : n0 ≤ h15.size := Nat.le_trans z11 (Keep.of_wr W15).1
  have K17 : Keep h0 h15 [a1] := K12.wr W15 (Or.inl (List.mem_of_getElem? (i := 0) rfl))
  show OGo p e below _ (T15.setTop (mkF m 52 #[.val (.ref a1), .val (.long q1), .second, .val (.int p1), .val (.int p2)] []))
  refine OGo.ret (Q := Q2 Z a1 q1 p1 p2 u0 u1 u2 h0 n0) X15 none (fun _ => rfl) Bd.notSynchronized (fun fs hr => X15.returnOut hx Bd.returns (hb hby d2_52) hr) ?_ (by decide) (by decide)
  have f18 : Fld Z h15 a1 "com/example/heartwood/heartwood/Revision" "timestamp" "J" (.long q1) := ((Fw5.other W10 (Or.inr (slot_ne (Or.inr (hw _ (List.mem_of_getElem? (i := 22) rfl))) (Or.inr (hw _ (List.mem_of_getElem? (i := 24) rfl))) (by decide) (t := .long) (t' := .int) (by decide) (by decide)))).other W15 (Or.inr (slot_ne (Or.inr (hw _ (List.mem_of_getElem? (i := 22) rfl))) (Or.inr (hw _ (List.mem_of_getElem? (i := 26) rfl))) (by decide) (t := .long) (t' := .int) (by decide) (by decide))))
  have f19 : Fld Z h15 a1 "com/example/heartwood/heartwood/Revision" "counter" "I" (.int p1) := (Fw10.other W15 (Or.inr (slot_ne (Or.inr (hw _ (List.mem_of_getElem? (i := 24) rfl))) (Or.inr (hw _ (List.mem_of_getElem? (i := 26) rfl))) (by decide) (t := .int) (t' := .int) (by decide) (by decide))))
  show Q2 Z a1 q1 p1 p2 u0 u1 u2 h0 n0 _ T15.heap _
  rw [e15]
  exact ⟨rfl, N15, K17, f18, f19, Fw15⟩
theorem d6_0 : decode jdk_35_method_36_code 0 = .ok (.lload_n 0, 1) := by decide +kernel
theorem d6_1 : decode jdk_35_method_36_code 1 = .ok (.lload_n 0, 1) := by decide +kernel
theorem d6_2 : decode jdk_35_method_36_code 2 = .ok (.bipush 32, 2) := by decide +kernel
theorem d6_4 : decode jdk_35_method_36_code 4 = .ok (.lushr, 1) := by decide +kernel
theorem d6_5 : decode jdk_35_method_36_code 5 = .ok (.lxor, 1) := by decide +kernel
theorem d6_6 : decode jdk_35_method_36_code 6 = .ok (.l2i, 1) := by decide +kernel
theorem d6_7 : decode jdk_35_method_36_code 7 = .ok (.ireturn, 1) := by decide +kernel
theorem ef_6 (m : MethodId) (x0 : Int64) : entryFrame m #[(.long x0)] 2 = mkF m 0 #[.val (.long x0), .second] [] := by first | (simp [entryFrame, mkF, argsToLocals, Value.category]; done) | rfl
def Q6 (Z : State) (q1 : Int64) (h0 : Heap) (n0 : Nat) (v : Option Value) (h : Heap) (L : List Loc) : Prop := v = some (.int (own_lh q1)) ∧ Fr n0 L ∧ h = h0
set_option maxRecDepth 65536 in
set_option maxHeartbeats 40000000 in
theorem rm6 (l : Launch) (Z : State) (a0 : Array Value) (hw : ∀ d ∈ tables_1, d.before a0 Z = true) (ws : List Jvm.Cond) (q1 : Int64) (h0 : Heap) (n0 : Nat) (Z0 : n0 ≤ h0.size) :
    MetFree l (⟨"java/lang/Long", "hashCode", "(J)I"⟩ : MethodName) (head1 (Jvm.Cond.code (⟨"java/lang/Long", "hashCode", "(J)I"⟩ : MethodName) jdk_35_method_36_code 2 (some .int) :: ws) ({ frames := 0, cells := 0, slots := 0, locals := 0 } : Room)) (fun a U => a = #[(.long q1)] ∧ Z.Warmed39 U.vm ∧ U.heap = h0) (fun _ _ _ _ _ => True) (fun _ U o U' => ∃ v L, o = .returned v ∧ Q6 Z q1 h0 n0 v U'.heap L ∧ FrameEnd U o U' L ({ frames := 0, cells := 0, slots := 0, locals := 0 } : Room).cells ({ frames := 0, cells := 0, slots := 0, locals := 0 } : Room).slots) := by
  refine MetFree.of_bodySF (plainFor_of_name pn_2) hisR ?_
  intro p e s m args below meth c s₁ Bd hml0 hP hK
  obtain ⟨rfl, hZ, hh⟩ := hP
  have hx := Bd.exec
  have hby := Bd.bytes
  have hml : c.maxLocals = 2 := hml0
  have hown : s.vm.findClass "java/lang/Long" = some m.cls := findClass_of_methodNamed Bd.named
  have hnm := (name_of_methodNamed Bd.named Bd.method).1
  have X0 : Stand p l e ({ frames := 0, cells := 0, slots := 0, locals := 0 } : Room) s m #[(.long q1)] below meth c s₁ [] 0 0 := Stand.of_body Bd
  have e0 : s₁.heap = h0 := by rw [← hh, Bd.state]; rfl
  have N0 := Fr.nil n0
  show OGo p e below (fun s₂ o => ∃ v L, o = .returned v ∧ Q6 Z q1 h0 n0 v s₂.heap L ∧ FrameEnd s o s₂ L ({ frames := 0, cells := 0, slots := 0, locals := 0 } : Room).cells ({ frames := 0, cells := 0, slots := 0, locals := 0 } : Room).slots) _
  refine OGo.to (fun _ k => castTop (ef_6 m q1) k) ?_
  refine OGo.to (fun _ k => XS.lloadN X0.here hx rfl (hb hby d6_0) rfl k) ?_
  show OGo p e below _ (s₁.setTop (mkF m 1 #[.val (.long q1), .second] [(.long q1)]))
  refine OGo.to (fun _ k => XS.lloadN X0.here hx rfl (hb hby d6_1) rfl k) ?_
  show OGo p e below _ (s₁.setTop (mkF m 2 #[.val (.long q1), .second] [(.long q1), (.long q1)]))
  refine OGo.to (fun _ k => XS.bipush X0.here hx rfl (hb hby d6_2) k) ?_
  show OGo p e below _ (s₁.setTop (mkF m 4 #[.val (.long q1), .second] [(.int (32 : Int32)), (.long q1), (.long q1)]))
  refine OGo.to (fun _ k => XS.lushr X0.here hx rfl (hb hby d6_4) rfl k) ?_
  show OGo p e below _ (s₁.setTop (mkF m 5 #[.val (.long q1), .second] [(.long ((q1.toUInt64 >>> ((32 : Int32) &&& 0x3f).toInt64.toUInt64).toInt64)), (.long q1)]))
  refine OGo.to (fun _ k => XS.lxor X0.here hx rfl (hb hby d6_5) rfl k) ?_
  show OGo p e below _ (s₁.setTop (mkF m 6 #[.val (.long q1), .second] [(.long (q1 ^^^ ((q1.toUInt64 >>> ((32 : Int32) &&& 0x3f).toInt64.toUInt64).toInt64)))]))
  refine OGo.to (fun _ k => XS.l2i X0.here hx rfl (hb hby d6_6) rfl k) ?_
  show OGo p e below _ (s₁.setTop (mkF m 7 #[.val (.long q1), .second] [(.int ((q1 ^^^ ((q1.toUInt64 >>> ((32 : Int32) &&& 0x3f).toInt64.toUInt64).toInt64)).toInt32))]))
  refine OGo.ret (Q := Q6 Z q1 h0 n0) X0 (some (.int ((q1 ^^^ ((q1.toUInt64 >>> ((32 : Int32) &&& 0x3f).toInt64.toUInt64).toInt64)).toInt32))) (fun h => by rw [Bd.returns] at h; cases h) Bd.notSynchronized (fun fs hr => retI X0 hx Bd.returns (hb hby d6_7) hr) ?_ (by decide) (by decide)
  show Q6 Z q1 h0 n0 _ s₁.heap _
  rw [e0]
  exact ⟨rfl, N0, rfl⟩
theorem d5_0 : decode prog_16_method_5_code 0 = .ok (.aload_n 0, 1) := by decide +kernel
theorem d5_1 : decode prog_16_method_5_code 1 = .ok (.getfield 16, 3) := by decide +kernel
theorem d5_4 : decode prog_16_method_5_code 4 = .ok (.invokestatic 81, 3) := by decide +kernel
theorem d5_7 : decode prog_16_method_5_code 7 = .ok (.bipush 31, 2) := by decide +kernel
theorem d5_9 : decode prog_16_method_5_code 9 = .ok (.imul, 1) := by decide +kernel
theorem d5_10 : decode prog_16_method_5_code 10 = .ok (.aload_n 0, 1) := by decide +kernel
theorem d5_11 : decode prog_16_method_5_code 11 = .ok (.getfield 22, 3) := by decide +kernel
theorem d5_14 : decode prog_16_method_5_code 14 = .ok (.iadd, 1) := by decide +kernel
theorem d5_15 : decode prog_16_method_5_code 15 = .ok (.bipush 31, 2) := by decide +kernel
theorem d5_17 : decode prog_16_method_5_code 17 = .ok (.imul, 1) := by decide +kernel
theorem d5_18 : decode prog_16_method_5_code 18 = .ok (.aload_n 0, 1) := by decide +kernel
theorem d5_19 : decode prog_16_method_5_code 19 = .ok (.getfield 26, 3) := by decide +kernel
theorem d5_22 : decode prog_16_method_5_code 22 = .ok (.iadd, 1) := by decide +kernel
theorem d5_23 : decode prog_16_method_5_code 23 = .ok (.ireturn, 1) := by decide +kernel
theorem ef_5 (m : MethodId) (x0 : Addr) : entryFrame m #[(.ref x0)] 1 = mkF m 0 #[.val (.ref x0)] [] := by first | (simp [entryFrame, mkF, argsToLocals, Value.category]; done) | rfl
def Q5 (Z : State) (a1 : Addr) (t1 : Int64) (c1 : Int32) (k1 : Int32) (h0 : Heap) (n0 : Nat) (v : Option Value) (h : Heap) (L : List Loc) : Prop := v = some (.int (own_h t1 c1 k1)) ∧ Fr n0 L ∧ h = h0
set_option maxRecDepth 65536 in
set_option maxHeartbeats 40000000 in
theorem rm5 (l : Launch) (Z : State) (a0 : Array Value) (hw : ∀ d ∈ tables_1, d.before a0 Z = true) (ws : List Jvm.Cond) (a1 : Addr) (t1 : Int64) (c1 : Int32) (k1 : Int32) (h0 : Heap) (n0 : Nat) (Z0 : n0 ≤ h0.size) (G0 : Fld Z h0 a1 "com/example/heartwood/heartwood/Revision" "timestamp" "J" (.long t1)) (G1 : Fld Z h0 a1 "com/example/heartwood/heartwood/Revision" "counter" "I" (.int c1)) (G2 : Fld Z h0 a1 "com/example/heartwood/heartwood/Revision" "clusterId" "I" (.int k1)) :
    MetFree l (⟨"com/example/heartwood/heartwood/Revision", "hashCode", "()I"⟩ : MethodName) (head1 (Jvm.Cond.code (⟨"com/example/heartwood/heartwood/Revision", "hashCode", "()I"⟩ : MethodName) prog_16_method_5_code 1 (some .int) :: ws) ({ frames := 1, cells := 0, slots := 0, locals := 13 } : Room)) (fun a U => a = #[(.ref a1)] ∧ Z.Warmed39 U.vm ∧ U.heap = h0) (fun _ _ _ _ _ => True) (fun _ U o U' => ∃ v L, o = .returned v ∧ Q5 Z a1 t1 c1 k1 h0 n0 v U'.heap L ∧ FrameEnd U o U' L ({ frames := 1, cells := 0, slots := 0, locals := 13 } : Room).cells ({ frames := 1, cells := 0, slots := 0, locals := 13 } : Room).slots) := by
  refine MetFree.of_bodySF (plainFor_of_name pn_1) hisR ?_
  intro p e s m args below meth c s₁ Bd hml0 hP hK
  obtain ⟨rfl, hZ, hh⟩ := hP
  have hx := Bd.exec
  have hby := Bd.bytes
  have hml : c.maxLocals = 1 := hml0
  have hown : s.vm.findClass "com/example/heartwood/heartwood/Revision" = some m.cls := findClass_of_methodNamed Bd.named
  have hnm := (name_of_methodNamed Bd.named Bd.method).1
  have X0 : Stand p l e ({ frames := 1, cells := 0, slots := 0, locals := 13 } : Room) s m #[(.ref a1)] below meth c s₁ [] 0 0 := Stand.of_body Bd
  have e0 : s₁.heap = h0 := by rw [← hh, Bd.state]; rfl
  have N0 := Fr.nil n0
  show OGo p e below (fun s₂ o => ∃ v L, o = .returned v ∧ Q5 Z a1 t1 c1 k1 h0 n0 v s₂.heap L ∧ FrameEnd s o s₂ L ({ frames := 1, cells := 0, slots := 0, locals := 13 } : Room).cells ({ frames := 1, cells := 0, slots := 0, locals := 13 } : Room).slots) _
  refine OGo.to (fun _ k => castTop (ef_5 m a1) k) ?_
  refine OGo.to (fun _ k => XS.aloadN X0.here hx rfl (hb hby d5_0) rfl rfl k) ?_
  show OGo p e below _ (s₁.setTop (mkF m 1 #[.val (.ref a1)] [(.ref a1)]))
  obtain ⟨T1, X1, e1, st1⟩ := getF X0 hx hZ hown (host := "") (Or.inl (hw _ (List.mem_of_getElem? (i := 21) rfl))) Via.refl e0 G0 (g := (mkF m 1 #[.val (.ref a1)] [(.ref a1)])) rfl rfl (hb hby d5_1)
  refine OGo.to st1 ?_
  show OGo p e below _ (T1.setTop (mkF m 4 #[.val (.ref a1)] [(.long t1)]))
  obtain ⟨_, _, ⟨T2, L2, k2, n2⟩, -, X2, ⟨Lc2, hQ2, l2, y2, z2⟩, st2⟩ := Jvm.LawKit.callS X1 hx (y := (⟨"java/lang/Long", "hashCode", "(J)I"⟩ : MethodName)) hown (mvT hZ (hw _ (List.mem_of_getElem? (i := 32) rfl))) (mvT hZ (hw _ (List.mem_of_getElem? (i := 33) rfl))) (mvT hZ (hw _ (List.mem_of_getElem? (i := 34) rfl))) (mvT hZ (hw _ (List.mem_of_getElem? (i := 35) rfl))) (by decide) (backOf (W := 0) (rm6 l Z a0 hw [] t1 h0 n0 Z0 ) hZ (hw _ (List.mem_of_getElem? (i := 35) rfl)) (hw _ (List.mem_of_getElem? (i := 34) rfl)) (by decide) (by decide)) (g := (mkF m 4 #[.val (.ref a1)] [(.long t1)])) rfl (by rw [hml]; rfl) (argsL := [(.long t1)]) (rest := []) (lenOf pd_1 rfl) rfl (by show 2 * 0 + _ ≤ _; exact Nat.le_of_eq rfl) (hb hby d5_4) (fun _ _ => ⟨rfl, e1, (by decide : 0 + 0 ≤ _), (by decide : 0 + 0 ≤ _)⟩)
  dsimp only [Pt.U, Pt.locs, Pt.cells, Pt.slots] at X2 l2 y2 z2 st2 hQ2
  subst l2 y2 z2
  obtain ⟨rfl, N2q, e2⟩ := hQ2
  have N2 := Fr.app N0 N2q
  refine OGo.to st2 ?_
  show OGo p e below _ (T2.setTop (mkF m 7 #[.val (.ref a1)] [(.int (own_lh t1))]))
  refine OGo.to (fun _ k => XS.bipush X2.here hx rfl (hb hby d5_7) k) ?_
  show OGo p e below _ (T2.setTop (mkF m 9 #[.val (.ref a1)] [(.int (31 : Int32)), (.int (own_lh t1))]))
  refine OGo.to (fun _ k => XS.imul X2.here hx rfl (hb hby d5_9) rfl k) ?_
  show OGo p e below _ (T2.setTop (mkF m 10 #[.val (.ref a1)] [(.int ((own_lh t1) * (31 : Int32)))]))
  refine OGo.to (fun _ k => XS.aloadN X2.here hx rfl (hb hby d5_10) rfl rfl k) ?_
  show OGo p e below _ (T2.setTop (mkF m 11 #[.val (.ref a1)] [(.ref a1), (.int ((own_lh t1) * (31 : Int32)))]))
  obtain ⟨T3, X3, e3, st3⟩ := getF X2 hx hZ hown (host := "") (Or.inl (hw _ (List.mem_of_getElem? (i := 23) rfl))) Via.refl e2 G1 (g := (mkF m 11 #[.val (.ref a1)] [(.ref a1), (.int ((own_lh t1) * (31 : Int32)))])) rfl rfl (hb hby d5_11)
  refine OGo.to st3 ?_
  show OGo p e below _ (T3.setTop (mkF m 14 #[.val (.ref a1)] [(.int c1), (.int ((own_lh t1) * (31 : Int32)))]))
  refine OGo.to (fun _ k => XS.iadd X3.here hx rfl (hb hby d5_14) rfl k) ?_
  show OGo p e below _ (T3.setTop (mkF m 15 #[.val (.ref a1)] [(.int (((own_lh t1) * (31 : Int32)) + c1))]))
  refine OGo.to (fun _ k => XS.bipush X3.here hx rfl (hb hby d5_15) k) ?_
  show OGo p e below _ (T3.setTop (mkF m 17 #[.val (.ref a1)] [(.int (31 : Int32)), (.int (((own_lh t1) * (31 : Int32)) + c1))]))
  refine OGo.to (fun _ k => XS.imul X3.here hx rfl (hb hby d5_17) rfl k) ?_
  show OGo p e below _ (T3.setTop (mkF m 18 #[.val (.ref a1)] [(.int ((((own_lh t1) * (31 : Int32)) + c1) * (31 : Int32)))]))
  refine OGo.to (fun _ k => XS.aloadN X3.here hx rfl (hb hby d5_18) rfl rfl k) ?_
  show OGo p e below _ (T3.setTop (mkF m 19 #[.val (.ref a1)] [(.ref a1), (.int ((((own_lh t1) * (31 : Int32)) + c1) * (31 : Int32)))]))
  obtain ⟨T4, X4, e4, st4⟩ := getF X3 hx hZ hown (host := "") (Or.inl (hw _ (List.mem_of_getElem? (i := 25) rfl))) Via.refl e3 G2 (g := (mkF m 19 #[.val (.ref a1)] [(.ref a1), (.int ((((own_lh t1) * (31 : Int32)) + c1) * (31 : Int32)))])) rfl rfl (hb hby d5_19)
  refine OGo.to st4 ?_
  show OGo p e below _ (T4.setTop (mkF m 22 #[.val (.ref a1)] [(.int k1), (.int ((((own_lh t1) * (31 : Int32)) + c1) * (31 : Int32)))]))
  refine OGo.to (fun _ k => XS.iadd X4.here hx rfl (hb hby d5_22) rfl k) ?_
  show OGo p e below _ (T4.setTop (mkF m 23 #[.val (.ref a1)] [(.int (((((own_lh t1) * (31 : Int32)) + c1) * (31 : Int32)) + k1))]))
  refine OGo.ret (Q := Q5 Z a1 t1 c1 k1 h0 n0) X4 (some (.int (((((own_lh t1) * (31 : Int32)) + c1) * (31 : Int32)) + k1))) (fun h => by rw [Bd.returns] at h; cases h) Bd.notSynchronized (fun fs hr => retI X4 hx Bd.returns (hb hby d5_23) hr) ?_ (by decide) (by decide)
  show Q5 Z a1 t1 c1 k1 h0 n0 _ T4.heap _
  rw [e4]
  exact ⟨rfl, N2, rfl⟩
theorem d7_0 : decode prog_16_method_4_code 0 = .ok (.aload_n 1, 1) := by decide +kernel
theorem d7_1 : decode prog_16_method_4_code 1 = .ok (.instanceof 17, 3) := by decide +kernel
theorem d7_4 : decode prog_16_method_4_code 4 = .ok (.ifCond .eq 46, 3) := by decide +kernel
theorem d7_7 : decode prog_16_method_4_code 7 = .ok (.aload_n 1, 1) := by decide +kernel
theorem d7_8 : decode prog_16_method_4_code 8 = .ok (.checkcast 17, 3) := by decide +kernel
theorem d7_11 : decode prog_16_method_4_code 11 = .ok (.astore_n 2, 1) := by decide +kernel
theorem d7_12 : decode prog_16_method_4_code 12 = .ok (.aload_n 0, 1) := by decide +kernel
theorem d7_13 : decode prog_16_method_4_code 13 = .ok (.getfield 16, 3) := by decide +kernel
theorem d7_16 : decode prog_16_method_4_code 16 = .ok (.aload_n 2, 1) := by decide +kernel
theorem d7_17 : decode prog_16_method_4_code 17 = .ok (.getfield 16, 3) := by decide +kernel
theorem d7_20 : decode prog_16_method_4_code 20 = .ok (.lcmp, 1) := by decide +kernel
theorem d7_21 : decode prog_16_method_4_code 21 = .ok (.ifCond .ne 29, 3) := by decide +kernel
theorem d7_24 : decode prog_16_method_4_code 24 = .ok (.aload_n 0, 1) := by decide +kernel
theorem d7_25 : decode prog_16_method_4_code 25 = .ok (.getfield 22, 3) := by decide +kernel
theorem d7_28 : decode prog_16_method_4_code 28 = .ok (.aload_n 2, 1) := by decide +kernel
theorem d7_29 : decode prog_16_method_4_code 29 = .ok (.getfield 22, 3) := by decide +kernel
theorem d7_32 : decode prog_16_method_4_code 32 = .ok (.if_icmp .ne 18, 3) := by decide +kernel
theorem d7_35 : decode prog_16_method_4_code 35 = .ok (.aload_n 0, 1) := by decide +kernel
theorem d7_36 : decode prog_16_method_4_code 36 = .ok (.getfield 26, 3) := by decide +kernel
theorem d7_39 : decode prog_16_method_4_code 39 = .ok (.aload_n 2, 1) := by decide +kernel
theorem d7_40 : decode prog_16_method_4_code 40 = .ok (.getfield 26, 3) := by decide +kernel
theorem d7_43 : decode prog_16_method_4_code 43 = .ok (.if_icmp .ne 7, 3) := by decide +kernel
theorem d7_46 : decode prog_16_method_4_code 46 = .ok (.iconst 1, 1) := by decide +kernel
theorem d7_47 : decode prog_16_method_4_code 47 = .ok (.goto 4, 3) := by decide +kernel
theorem d7_50 : decode prog_16_method_4_code 50 = .ok (.iconst 0, 1) := by decide +kernel
theorem d7_51 : decode prog_16_method_4_code 51 = .ok (.ireturn, 1) := by decide +kernel
theorem ef_7 (m : MethodId) (x0 : Addr) (x1 : Addr) : entryFrame m #[(.ref x0), (.ref x1)] 3 = mkF m 0 #[.val (.ref x0), .val (.ref x1), .unset] [] := by first | (simp [entryFrame, mkF, argsToLocals, Value.category]; done) | rfl
def Q7 (Z : State) (a1 : Addr) (a2 : Addr) (t1 : Int64) (c1 : Int32) (k1 : Int32) (t2 : Int64) (c2 : Int32) (k2 : Int32) (h0 : Heap) (n0 : Nat) (v : Option Value) (h : Heap) (L : List Loc) : Prop := v = some (.int (own_eq t1 c1 k1 t2 c2 k2)) ∧ Fr n0 L ∧ h = h0
set_option maxRecDepth 65536 in
set_option maxHeartbeats 40000000 in
theorem rm7 (l : Launch) (Z : State) (a0 : Array Value) (hw : ∀ d ∈ tables_1, d.before a0 Z = true) (ws : List Jvm.Cond) (a1 : Addr) (a2 : Addr) (t1 : Int64) (c1 : Int32) (k1 : Int32) (t2 : Int64) (c2 : Int32) (k2 : Int32) (h0 : Heap) (n0 : Nat) (Z0 : n0 ≤ h0.size) (E2 : Exa Z h0 a2 "com/example/heartwood/heartwood/Revision") (G0 : Fld Z h0 a1 "com/example/heartwood/heartwood/Revision" "timestamp" "J" (.long t1)) (G1 : Fld Z h0 a1 "com/example/heartwood/heartwood/Revision" "counter" "I" (.int c1)) (G2 : Fld Z h0 a1 "com/example/heartwood/heartwood/Revision" "clusterId" "I" (.int k1)) (J0 : Fld Z h0 a2 "com/example/heartwood/heartwood/Revision" "timestamp" "J" (.long t2)) (J1 : Fld Z h0 a2 "com/example/heartwood/heartwood/Revision" "counter" "I" (.int c2)) (J2 : Fld Z h0 a2 "com/example/heartwood/heartwood/Revision" "clusterId" "I" (.int k2)) :
    MetFree l (⟨"com/example/heartwood/heartwood/Revision", "equals", "(Ljava/lang/Object;)Z"⟩ : MethodName) (head1 (Jvm.Cond.code (⟨"com/example/heartwood/heartwood/Revision", "equals", "(Ljava/lang/Object;)Z"⟩ : MethodName) prog_16_method_4_code 3 (some .boolean) :: ws) ({ frames := 0, cells := 0, slots := 0, locals := 0 } : Room)) (fun a U => a = #[(.ref a1), (.ref a2)] ∧ Z.Warmed39 U.vm ∧ U.heap = h0) (fun _ _ _ _ _ => True) (fun _ U o U' => ∃ v L, o = .returned v ∧ Q7 Z a1 a2 t1 c1 k1 t2 c2 k2 h0 n0 v U'.heap L ∧ FrameEnd U o U' L ({ frames := 0, cells := 0, slots := 0, locals := 0 } : Room).cells ({ frames := 0, cells := 0, slots := 0, locals := 0 } : Room).slots) := by
  refine MetFree.of_bodySF (plainFor_of_name pn_1) hisR ?_
  intro p e s m args below meth c s₁ Bd hml0 hP hK
  obtain ⟨rfl, hZ, hh⟩ := hP
  have hx := Bd.exec
  have hby := Bd.bytes
  have hml : c.maxLocals = 3 := hml0
  have hown : s.vm.findClass "com/example/heartwood/heartwood/Revision" = some m.cls := findClass_of_methodNamed Bd.named
  have hnm := (name_of_methodNamed Bd.named Bd.method).1
  have X0 : Stand p l e ({ frames := 0, cells := 0, slots := 0, locals := 0 } : Room) s m #[(.ref a1), (.ref a2)] below meth c s₁ [] 0 0 := Stand.of_body Bd
  have e0 : s₁.heap = h0 := by rw [← hh, Bd.state]; rfl
  have N0 := Fr.nil n0
  show OGo p e below (fun s₂ o => ∃ v L, o = .returned v ∧ Q7 Z a1 a2 t1 c1 k1 t2 c2 k2 h0 n0 v s₂.heap L ∧ FrameEnd s o s₂ L ({ frames := 0, cells := 0, slots := 0, locals := 0 } : Room).cells ({ frames := 0, cells := 0, slots := 0, locals := 0 } : Room).slots) _
  refine OGo.to (fun _ k => castTop (ef_7 m a1 a2) k) ?_
  refine OGo.to (fun _ k => XS.aloadN X0.here hx rfl (hb hby d7_0) rfl rfl k) ?_
  show OGo p e below _ (s₁.setTop (mkF m 1 #[.val (.ref a1), .val (.ref a2), .unset] [(.ref a2)]))
  obtain ⟨T1, X1, e1, st1⟩ := instY X0 hx hZ hown (hw _ (List.mem_of_getElem? (i := 41) rfl)) e0 (Ins.self E2) (g := (mkF m 1 #[.val (.ref a1), .val (.ref a2), .unset] [(.ref a2)])) rfl rfl (hb hby d7_1)
  refine OGo.to st1 ?_
  show OGo p e below _ (T1.setTop (mkF m 4 #[.val (.ref a1), .val (.ref a2), .unset] [(.int (1 : Int32))]))
  have hc4_2 : ¬ ((1 : Int32) = (0 : Int32)) := by decide
  refine OGo.to (fun _ k => XS.ifNo X1.here hx rfl (hb hby d7_4) rfl ((if0 _ _).trans (feq hc4_2).1) k) ?_
  show OGo p e below _ (T1.setTop (mkF m 7 #[.val (.ref a1), .val (.ref a2), .unset] []))
  refine OGo.to (fun _ k => XS.aloadN X1.here hx rfl (hb hby d7_7) rfl rfl k) ?_
  show OGo p e below _ (T1.setTop (mkF m 8 #[.val (.ref a1), .val (.ref a2), .unset] [(.ref a2)]))
  obtain ⟨T3, X3, e3, st3⟩ := castY X1 hx hZ hown (hw _ (List.mem_of_getElem? (i := 41) rfl)) e1 (Ins.self E2) (g := (mkF m 8 #[.val (.ref a1), .val (.ref a2), .unset] [(.ref a2)])) rfl rfl (hb hby d7_8)
  refine OGo.to st3 ?_
  show OGo p e below _ (T3.setTop (mkF m 11 #[.val (.ref a1), .val (.ref a2), .unset] [(.ref a2)]))
  refine OGo.to (fun _ k => XS.astoreN X3.here hx rfl (hb hby d7_11) rfl rfl (l' := #[.val (.ref a1), .val (.ref a2), .val (.ref a2)]) rfl k) ?_
  show OGo p e below _ (T3.setTop (mkF m 12 #[.val (.ref a1), .val (.ref a2), .val (.ref a2)] []))
  refine OGo.to (fun _ k => XS.aloadN X3.here hx rfl (hb hby d7_12) rfl rfl k) ?_
  show OGo p e below _ (T3.setTop (mkF m 13 #[.val (.ref a1), .val (.ref a2), .val (.ref a2)] [(.ref a1)]))
  obtain ⟨T4, X4, e4, st4⟩ := getF X3 hx hZ hown (host := "") (Or.inl (hw _ (List.mem_of_getElem? (i := 21) rfl))) Via.refl e3 G0 (g := (mkF m 13 #[.val (.ref a1), .val (.ref a2), .val (.ref a2)] [(.ref a1)])) rfl rfl (hb hby d7_13)
  refine OGo.to st4 ?_
  show OGo p e below _ (T4.setTop (mkF m 16 #[.val (.ref a1), .val (.ref a2), .val (.ref a2)] [(.long t1)]))
  refine OGo.to (fun _ k => XS.aloadN X4.here hx rfl (hb hby d7_16) rfl rfl k) ?_
  show OGo p e below _ (T4.setTop (mkF m 17 #[.val (.ref a1), .val (.ref a2), .val (.ref a2)] [(.ref a2), (.long t1)]))
  obtain ⟨T5, X5, e5, st5⟩ := getF X4 hx hZ hown (host := "") (Or.inl (hw _ (List.mem_of_getElem? (i := 21) rfl))) Via.refl e4 J0 (g := (mkF m 17 #[.val (.ref a1), .val (.ref a2), .val (.ref a2)] [(.ref a2), (.long t1)])) rfl rfl (hb hby d7_17)
  refine OGo.to st5 ?_
  show OGo p e below _ (T5.setTop (mkF m 20 #[.val (.ref a1), .val (.ref a2), .val (.ref a2)] [(.long t2), (.long t1)]))
  refine OGo.to (fun _ k => XS.lcmp X5.here hx rfl (hb hby d7_20) rfl k) ?_
  show OGo p e below _ (T5.setTop (mkF m 21 #[.val (.ref a1), .val (.ref a2), .val (.ref a2)] [(.int (lcmpW t1 t2))]))
  by_cases hc21_6 : t1 = t2
  ·  -- pc 21: yes
    refine OGo.to (fun _ k => XS.ifNo X5.here hx rfl (hb hby d7_21) rfl ((if0 _ _).trans (teq ((lw_eq t1 t2).mpr hc21_6)).2) k) ?_
    show OGo p e below _ (T5.setTop (mkF m 24 #[.val (.ref a1), .val (.ref a2), .val (.ref a2)] []))
    refine OGo.to (fun _ k => XS.aloadN X5.here hx rfl (hb hby d7_24) rfl rfl k) ?_
    show OGo p e below _ (T5.setTop (mkF m 25 #[.val (.ref a1), .val (.ref a2), .val (.ref a2)] [(.ref a1)]))
    obtain ⟨T7, X7, e7, st7⟩ := getF X5 hx hZ hown (host := "") (Or.inl (hw _ (List.mem_of_getElem? (i := 23) rfl))) Via.refl e5 G1 (g := (mkF m 25 #[.val (.ref a1), .val (.ref a2), .val (.ref a2)] [(.ref a1)])) rfl rfl (hb hby d7_25)
    refine OGo.to st7 ?_
    show OGo p e below _ (T7.setTop (mkF m 28 #[.val (.ref a1), .val (.ref a2), .val (.ref a2)] [(.int c1)]))
    refine OGo.to (fun _ k => XS.aloadN X7.here hx rfl (hb hby d7_28) rfl rfl k) ?_
    show OGo p e below _ (T7.setTop (mkF m 29 #[.val (.ref a1), .val (.ref a2), .val (.ref a2)] [(.ref a2), (.int c1)]))
    obtain ⟨T8, X8, e8, st8⟩ := getF X7 hx hZ hown (host := "") (Or.inl (hw _ (List.mem_of_getElem? (i := 23) rfl))) Via.refl e7 J1 (g := (mkF m 29 #[.val (.ref a1), .val (.ref a2), .val (.ref a2)] [(.ref a2), (.int c1)])) rfl rfl (hb hby d7_29)
    refine OGo.to st8 ?_
    show OGo p e below _ (T8.setTop (mkF m 32 #[.val (.ref a1), .val (.ref a2), .val (.ref a2)] [(.int c2), (.int c1)]))
    by_cases hc32_9 : c1 = c2
    ·  -- pc 32: yes
      refine OGo.to (fun _ k => XS.icmpNo X8.here hx rfl (hb hby d7_32) rfl (teq hc32_9).2 k) ?_
      show OGo p e below _ (T8.setTop (mkF m 35 #[.val (.ref a1), .val (.ref a2), .val (.ref a2)] []))
      refine OGo.to (fun _ k => XS.aloadN X8.here hx rfl (hb hby d7_35) rfl rfl k) ?_
      show OGo p e below _ (T8.setTop (mkF m 36 #[.val (.ref a1), .val (.ref a2), .val (.ref a2)] [(.ref a1)]))
      obtain ⟨T10, X10, e10, st10⟩ := getF X8 hx hZ hown (host := "") (Or.inl (hw _ (List.mem_of_getElem? (i := 25) rfl))) Via.refl e8 G2 (g := (mkF m 36 #[.val (.ref a1), .val (.ref a2), .val (.ref a2)] [(.ref a1)])) rfl rfl (hb hby d7_36)
      refine OGo.to st10 ?_
      show OGo p e below _ (T10.setTop (mkF m 39 #[.val (.ref a1), .val (.ref a2), .val (.ref a2)] [(.int k1)]))
      refine OGo.to (fun _ k => XS.aloadN X10.here hx rfl (hb hby d7_39) rfl rfl k) ?_
      show OGo p e below _ (T10.setTop (mkF m 40 #[.val (.ref a1), .val (.ref a2), .val (.ref a2)] [(.ref a2), (.int k1)]))
      obtain ⟨T11, X11, e11, st11⟩ := getF X10 hx hZ hown (host := "") (Or.inl (hw _ (List.mem_of_getElem? (i := 25) rfl))) Via.refl e10 J2 (g := (mkF m 40 #[.val (.ref a1), .val (.ref a2), .val (.ref a2)] [(.ref a2), (.int k1)])) rfl rfl (hb hby d7_40)
      refine OGo.to st11 ?_
      show OGo p e below _ (T11.setTop (mkF m 43 #[.val (.ref a1), .val (.ref a2), .val (.ref a2)] [(.int k2), (.int k1)]))
      by_cases hc43_12 : k1 = k2
      ·  -- pc 43: yes
        refine OGo.to (fun _ k => XS.icmpNo X11.here hx rfl (hb hby d7_43) rfl (teq hc43_12).2 k) ?_
        show OGo p e below _ (T11.setTop (mkF m 46 #[.val (.ref a1), .val (.ref a2), .val (.ref a2)] []))
        refine OGo.to (fun _ k => XS.iconst X11.here hx rfl (hb hby d7_46) k) ?_
        show OGo p e below _ (T11.setTop (mkF m 47 #[.val (.ref a1), .val (.ref a2), .val (.ref a2)] [(.int (1 : Int32))]))
        refine OGo.to (fun _ k => XS.goto X11.here hx rfl (pc0 := 47) (pc' := 51) rfl (hb hby d7_47) (by decide) (by decide) k) ?_
        show OGo p e below _ (T11.setTop (mkF m 51 #[.val (.ref a1), .val (.ref a2), .val (.ref a2)] [(.int (1 : Int32))]))
        refine OGo.ret (Q := Q7 Z a1 a2 t1 c1 k1 t2 c2 k2 h0 n0) X11 (some (.int (1 : Int32))) (fun h => by rw [Bd.returns] at h; cases h) Bd.notSynchronized (fun fs hr => retN X11 hx (t := .boolean) (z := (1 : Int32)) Bd.returns (by simp) (hb hby d7_51) hr) ?_ (by decide) (by decide)
        show Q7 Z a1 a2 t1 c1 k1 t2 c2 k2 h0 n0 _ T11.heap _
        rw [e11]
        exact ⟨congrArg (fun z => some (Value.int z)) (show (1 : Int32) = (own_eq t1 c1 k1 t2 c2 k2) from by unfold own_eq; rw [if_pos hc21_6, if_pos hc32_9, if_pos hc43_12]), N0, rfl⟩
      ·  -- pc 43: no
        refine OGo.to (fun _ k => XS.icmpYes X11.here hx rfl (pc0 := 43) (pc' := 50) rfl (hb hby d7_43) rfl (feq hc43_12).2 (by decide) (by decide) k) ?_
        show OGo p e below _ (T11.setTop (mkF m 50 #[.val (.ref a1), .val (.ref a2), .val (.ref a2)] []))
        refine OGo.to (fun _ k => XS.iconst X11.here hx rfl (hb hby d7_50) k) ?_
        show OGo p e below _ (T11.setTop (mkF m 51 #[.val (.ref a1), .val (.ref a2), .val (.ref a2)] [(.int (0 : Int32))]))
        refine OGo.ret (Q := Q7 Z a1 a2 t1 c1 k1 t2 c2 k2 h0 n0) X11 (some (.int (0 : Int32))) (fun h => by rw [Bd.returns] at h; cases h) Bd.notSynchronized (fun fs hr => retN X11 hx (t := .boolean) (z := (0 : Int32)) Bd.returns (by simp) (hb hby d7_51) hr) ?_ (by decide) (by decide)
        show Q7 Z a1 a2 t1 c1 k1 t2 c2 k2 h0 n0 _ T11.heap _
        rw [e11]
        exact ⟨congrArg (fun z => some (Value.int z)) (show (0 : Int32) = (own_eq t1 c1 k1 t2 c2 k2) from by unfold own_eq; rw [if_pos hc21_6, if_pos hc32_9, if_neg hc43_12]), N0, rfl⟩
    ·  -- pc 32: no
      refine OGo.to (fun _ k => XS.icmpYes X8.here hx rfl (pc0 := 32) (pc' := 50) rfl (hb hby d7_32) rfl (feq hc32_9).2 (by decide) (by decide) k) ?_
      show OGo p e below _ (T8.setTop (mkF m 50 #[.val (.ref a1), .val (.ref a2), .val (.ref a2)] []))
      refine OGo.to (fun _ k => XS.iconst X8.here hx rfl (hb hby d7_50) k) ?_
      show OGo p e below _ (T8.setTop (mkF m 51 #[.val (.ref a1), .val (.ref a2), .val (.ref a2)] [(.int (0 : Int32))]))
      refine OGo.ret (Q := Q7 Z a1 a2 t1 c1 k1 t2 c2 k2 h0 n0) X8 (some (.int (0 : Int32))) (fun h => by rw [Bd.returns] at h; cases h) Bd.notSynchronized (fun fs hr => retN X8 hx (t := .boolean) (z := (0 : Int32)) Bd.returns (by simp) (hb hby d7_51) hr) ?_ (by decide) (by decide)
      show Q7 Z a1 a2 t1 c1 k1 t2 c2 k2 h0 n0 _ T8.heap _
      rw [e8]
      exact ⟨congrArg (fun z => some (Value.int z)) (show (0 : Int32) = (own_eq t1 c1 k1 t2 c2 k2) from by unfold own_eq; rw [if_pos hc21_6, if_neg hc32_9]), N0, rfl⟩
  ·  -- pc 21: no
    refine OGo.to (fun _ k => XS.ifYes X5.here hx rfl (pc0 := 21) (pc' := 50) rfl (hb hby d7_21) rfl ((if0 _ _).trans (feq (mt (lw_eq t1 t2).mp hc21_6)).2) (by decide) (by decide) k) ?_
    show OGo p e below _ (T5.setTop (mkF m 50 #[.val (.ref a1), .val (.ref a2), .val (.ref a2)] []))
    refine OGo.to (fun _ k => XS.iconst X5.here hx rfl (hb hby d7_50) k) ?_
    show OGo p e below _ (T5.setTop (mkF m 51 #[.val (.ref a1), .val (.ref a2), .val (.ref a2)] [(.int (0 : Int32))]))
    refine OGo.ret (Q := Q7 Z a1 a2 t1 c1 k1 t2 c2 k2 h0 n0) X5 (some (.int (0 : Int32))) (fun h => by rw [Bd.returns] at h; cases h) Bd.notSynchronized (fun fs hr => retN X5 hx (t := .boolean) (z := (0 : Int32)) Bd.returns (by simp) (hb hby d7_51) hr) ?_ (by decide) (by decide)
    show Q7 Z a1 a2 t1 c1 k1 t2 c2 k2 h0 n0 _ T5.heap _
    rw [e5]
    exact ⟨congrArg (fun z => some (Value.int z)) (show (0 : Int32) = (own_eq t1 c1 k1 t2 c2 k2) from by unfold own_eq; rw [if_neg hc21_6]), N0, rfl⟩
theorem ef_0 (m : MethodId) (x0 : Int64) (x1 : Int32) (x2 : Int32) (x3 : Int64) (x4 : Int32) (x5 : Int32) : entryFrame m #[(.long x0), (.int x1), (.int x2), (.long x3), (.int x4), (.int x5)] maxLocals = mkF m 0 #[.val (.long x0), .second, .val (.int x1), .val (.int x2), .val (.long x3), .second, .val (.int x4), .val (.int x5), .unset, .unset, .unset, .unset, .unset, .unset, .unset, .unset, .unset, .unset, .unset, .unset, .unset, .unset, .unset, .unset] [] := by first | (simp [entryFrame, mkF, argsToLocals, Value.category, maxLocals]; done) | rfl
def Q0 (Z : State) (q1 : Int64) (p1 : Int32) (p2 : Int32) (q2 : Int64) (p3 : Int32) (p4 : Int32) (h0 : Heap) (n0 : Nat) (v : Option Value) (h : Heap) (L : List Loc) : Prop := v = some (.int (1 : Int32)) ∧ Fr n0 L
set_option maxRecDepth 65536 in
set_option maxHeartbeats 40000000 in
theorem rm0 (l : Launch) (Z : State) (a0 : Array Value) (hw : ∀ d ∈ tables_1, d.before a0 Z = true) (ws : List Jvm.Cond) (q1 : Int64) (p1 : Int32) (p2 : Int32) (q2 : Int64) (p3 : Int32) (p4 : Int32) (h0 : Heap) (n0 : Nat) (Z0 : n0 ≤ h0.size) :
    MetFree l x (head1 (Jvm.Cond.code x code maxLocals ret :: ws) room_1) (fun a U => a = #[(.long q1), (.int p1), (.int p2), (.long q2), (.int p3), (.int p4)] ∧ Z.Warmed39 U.vm ∧ U.heap = h0) (fun _ _ _ _ _ => True) (fun _ U o U' => ∃ v L, o = .returned v ∧ Q0 Z q1 p1 p2 q2 p3 p4 h0 n0 v U'.heap L ∧ FrameEnd U o U' L room_1.cells room_1.slots) := by
  refine MetFree.of_bodySF (plainFor_of_name pn_3) hisR ?_
  intro p e s m args below meth c s₁ Bd hml0 hP hK
  obtain ⟨rfl, hZ, hh⟩ := hP
  have hx := Bd.exec
  have hby := Bd.bytes
  have hml : c.maxLocals = 24 := hml0
  have hown : s.vm.findClass "com/example/heartwood/heartwood/RevisionHashCodePinLaw" = some m.cls := findClass_of_methodNamed Bd.named
  have hnm := (name_of_methodNamed Bd.named Bd.method).1
  have X0 : Stand p l e room_1 s m #[(.long q1), (.int p1), (.int p2), (.long q2), (.int p3), (.int p4)] below meth c s₁ [] 0 0 := Stand.of_body Bd
  have e0 : s₁.heap = h0 := by rw [← hh, Bd.state]; rfl
  have N0 := Fr.nil n0
  show OGo p e below (fun s₂ o => ∃ v L, o = .returned v ∧ Q0 Z q1 p1 p2 q2 p3 p4 h0 n0 v s₂.heap L ∧ FrameEnd s o s₂ L room_1.cells room_1.slots) _
  refine OGo.to (fun _ k => castTop (ef_0 m q1 p1 p2 q2 p3 p4) k) ?_
  refine OGo.to (fun _ k => XS.lloadN X0.here hx rfl (hb hby at_0) rfl k) ?_
  show OGo p e below _ (s₁.setTop (mkF m 1 #[.val (.long q1), .second, .val (.int p1), .val (.int p2), .val (.long q2), .second, .val (.int p3), .val (.int p4), .unset, .unset, .unset, .unset, .unset, .unset, .unset, .unset, .unset, .unset, .unset, .unset, .unset, .unset, .unset, .unset] [(.long q1)]))
  refine OGo.to (fun _ k => X0.ldc2Long hx hown (mvT hZ (hw _ (List.mem_of_getElem? (i := 0) rfl))) (g := (mkF m 1 #[.val (.long q1), .second, .val (.int p1), .val (.int p2), .val (.long q2), .second, .val (.int p3), .val (.int p4), .unset, .unset, .unset, .unset, .unset, .unset, .unset, .unset, .unset, .unset, .unset, .unset, .unset, .unset, .unset, .unset] [(.long q1)])) rfl (hb hby at_1) _ k) ?_
  show OGo p e below _ (s₁.setTop (mkF m 4 #[.val (.long q1), .second, .val (.int p1), .val (.int p2), .val (.long q2), .second, .val (.int p3), .val (.int p4), .unset, .unset, .unset, .unset, .unset, .unset, .unset, .unset, .unset, .unset, .unset, .unset, .unset, .unset, .unset, .unset] [(.long (9223372036854775807 : Int64)), (.long q1)]))
  refine OGo.to (fun _ k => XS.land X0.here hx rfl (hb hby at_4) rfl k) ?_
  show OGo p e below _ (s₁.setTop (mkF m 5 #[.val (.long q1), .second, .val (.int p1), .val (.int p2), .val (.long q2), .second, .val (.int p3), .val (.int p4), .unset, .unset, .unset, .unset, .unset, .unset, .unset, .unset, .unset, .unset, .unset, .unset, .unset, .unset, .unset, .unset] [(.long (q1 &&& (9223372036854775807 : Int64)))]))
  obtain ⟨ta, hv_ta⟩ : ∃ z : Int64, z = (q1 &&& (9223372036854775807 : Int64)) := ⟨_, rfl⟩
  rw [← hv_ta]
  refine OGo.to (fun _ k => XS.lstore X0.here hx rfl (hb hby at_5) rfl (l' := #[.val (.long q1), .second, .val (.int p1), .val (.int p2), .val (.long q2), .second, .val (.int p3), .val (.int p4), .val (.long ta), .second, .unset, .unset, .unset, .unset, .unset, .unset, .unset, .unset, .unset, .unset, .unset, .unset, .unset, .unset]) rfl k) ?_
  show OGo p e below _ (s₁.setTop (mkF m 7 #[.val (.long q1), .second, .val (.int p1), .val (.int p2), .val (.long q2), .second, .val (.int p3), .val (.int p4), .val (.long ta), .second, .unset, .unset, .unset, .unset, .unset, .unset, .unset, .unset, .unset, .unset, .unset, .unset, .unset, .unset] []))
  refine OGo.to (fun _ k => XS.iloadN X0.here hx rfl (hb hby at_7) rfl k) ?_
  show OGo p e below _ (s₁.setTop (mkF m 8 #[.val (.long q1), .second, .val (.int p1), .val (.int p2), .val (.long q2), .second, .val (.int p3), .val (.int p4), .val (.long ta), .second, .unset, .unset, .unset, .unset, .unset, .unset, .unset, .unset, .unset, .unset, .unset, .unset, .unset, .unset] [(.int p1)]))
  refine OGo.to (fun _ k => X0.ldcInt hx hown (mvT hZ (hw _ (List.mem_of_getElem? (i := 1) rfl))) (g := (mkF m 8 #[.val (.long q1), .second, .val (.int p1), .val (.int p2), .val (.long q2), .second, .val (.int p3), .val (.int p4), .val (.long ta), .second, .unset, .unset, .unset, .unset, .unset, .unset, .unset, .unset, .unset, .unset, .unset, .unset, .unset, .unset] [(.int p1)])) rfl (hb hby at_8) _ k) ?_
  show OGo p e below _ (s₁.setTop (mkF m 10 #[.val (.long q1), .second, .val (.int p1), .val (.int p2), .val (.long q2), .second, .val (.int p3), .val (.int p4), .val (.long ta), .second, .unset, .unset, .unset, .unset, .unset, .unset, .unset, .unset, .unset, .unset, .unset, .unset, .unset, .unset] [(.int (2147483647 : Int32)), (.int p1)]))
  refine OGo.to (fun _ k => XS.iand X0.here hx rfl (hb hby at_10) rfl k) ?_
  show OGo p e below _ (s₁.setTop (mkF m 11 #[.val (.long q1), .second, .val (.int p1), .val (.int p2), .val (.long q2), .second, .val (.int p3), .val (.int p4), .val (.long ta), .second, .unset, .unset, .unset, .unset, .unset, .unset, .unset, .unset, .unset, .unset, .unset, .unset, .unset, .unset] [(.int (p1 &&& (2147483647 : Int32)))]))
  obtain ⟨ca, hv_ca⟩ : ∃ z : Int32, z = (p1 &&& (2147483647 : Int32)) := ⟨_, rfl⟩
  rw [← hv_ca]
  refine OGo.to (fun _ k => XS.istore X0.here hx rfl (hb hby at_11) rfl (l' := #[.val (.long q1), .second, .val (.int p1), .val (.int p2), .val (.long q2), .second, .val (.int p3), .val (.int p4), .val (.long ta), .second, .val (.int ca), .unset, .unset, .unset, .unset, .unset, .unset, .unset, .unset, .unset, .unset, .unset, .unset, .unset]) rfl k) ?_
  show OGo p e below _ (s₁.setTop (mkF m 13 #[.val (.long q1), .second, .val (.int p1), .val (.int p2), .val (.long q2), .second, .val (.int p3), .val (.int p4), .val (.long ta), .second, .val (.int ca), .unset, .unset, .unset, .unset, .unset, .unset, .unset, .unset, .unset, .unset, .unset, .unset, .unset] []))
  refine OGo.to (fun _ k => XS.iconst X0.here hx rfl (hb hby at_13) k) ?_
  show OGo p e below _ (s₁.setTop (mkF m 14 #[.val (.long q1), .second, .val (.int p1), .val (.int p2), .val (.long q2), .second, .val (.int p3), .val (.int p4), .val (.long ta), .second, .val (.int ca), .unset, .unset, .unset, .unset, .unset, .unset, .unset, .unset, .unset, .unset, .unset, .unset, .unset] [(.int (1 : Int32))]))
  refine OGo.to (fun _ k => XS.iloadN X0.here hx rfl (hb hby at_14) rfl k) ?_
  show OGo p e below _ (s₁.setTop (mkF m 15 #[.val (.long q1), .second, .val (.int p1), .val (.int p2), .val (.long q2), .second, .val (.int p3), .val (.int p4), .val (.long ta), .second, .val (.int ca), .unset, .unset, .unset, .unset, .unset, .unset, .unset, .unset, .unset, .unset, .unset, .unset, .unset] [(.int p2), (.int (1 : Int32))]))
  refine OGo.to (fun _ k => X0.ldcInt hx hown (mvT hZ (hw _ (List.mem_of_getElem? (i := 1) rfl))) (g := (mkF m 15 #[.val (.long q1), .second, .val (.int p1), .val (.int p2), .val (.long q2), .second, .val (.int p3), .val (.int p4), .val (.long ta), .second, .val (.int ca), .unset, .unset, .unset, .unset, .unset, .unset, .unset, .unset, .unset, .unset, .unset, .unset, .unset] [(.int p2), (.int (1 : Int32))])) rfl (hb hby at_15) _ k) ?_
  show OGo p e below _ (s₁.setTop (mkF m 17 #[.val (.long q1), .second, .val (.int p1), .val (.int p2), .val (.long q2), .second, .val (.int p3), .val (.int p4), .val (.long ta), .second, .val (.int ca), .unset, .unset, .unset, .unset, .unset, .unset, .unset, .unset, .unset, .unset, .unset, .unset, .unset] [(.int (2147483647 : Int32)), (.int p2), (.int (1 : Int32))]))
  refine OGo.to (fun _ k => XS.iand X0.here hx rfl (hb hby at_17) rfl k) ?_
  show OGo p e below _ (s₁.setTop (mkF m 18 #[.val (.long q1), .second, .val (.int p1), .val (.int p2), .val (.long q2), .second, .val (.int p3), .val (.int p4), .val (.long ta), .second, .val (.int ca), .unset, .unset, .unset, .unset, .unset, .unset, .unset, .unset, .unset, .unset, .unset, .unset, .unset] [(.int (p2 &&& (2147483647 : Int32))), (.int (1 : Int32))]))
  obtain ⟨_, _, ⟨T1, L1, k1, n1⟩, -, X1, ⟨Lc1, hQ1, l1, y1, z1⟩, st1⟩ := Jvm.LawKit.callS X0 hx (y := (⟨"java/lang/Math", "max", "(II)I"⟩ : MethodName)) hown (mvT hZ (hw _ (List.mem_of_getElem? (i := 2) rfl))) (mvT hZ (hw _ (List.mem_of_getElem? (i := 3) rfl))) (mvT hZ (hw _ (List.mem_of_getElem? (i := 4) rfl))) (mvT hZ (hw _ (List.mem_of_getElem? (i := 5) rfl))) (by decide) (backOf (W := 0) (rm1 l Z a0 hw [] (1 : Int32) (p2 &&& (2147483647 : Int32)) h0 n0 Z0 ) hZ (hw _ (List.mem_of_getElem? (i := 5) rfl)) (hw _ (List.mem_of_getElem? (i := 4) rfl)) (by decide) (by decide)) (g := (mkF m 18 #[.val (.long q1), .second, .val (.int p1), .val (.int p2), .val (.long q2), .second, .val (.int p3), .val (.int p4), .val (.long ta), .second, .val (.int ca), .unset, .unset, .unset, .unset, .unset, .unset, .unset, .unset, .unset, .unset, .unset, .unset, .unset] [(.int (p2 &&& (2147483647 : Int32))), (.int (1 : Int32))])) rfl (by rw [hml]; rfl) (argsL := [(.int (1 : Int32)), (.int (p2 &&& (2147483647 : Int32)))]) (rest := []) (lenOf pd_2 rfl) rfl (by show 2 * 0 + _ ≤ _; exact Nat.le_of_eq rfl) (hb hby at_18) (fun _ _ => ⟨rfl, e0, (by decide : 0 + 0 ≤ _), (by decide : 0 + 0 ≤ _)⟩)
  dsimp only [Pt.U, Pt.locs, Pt.cells, Pt.slots] at X1 l1 y1 z1 st1 hQ1
  subst l1 y1 z1
  obtain ⟨rfl, N1q, e1⟩ := hQ1
  have N1 := Fr.app N0 N1q
  refine OGo.to st1 ?_
  show OGo p e below _ (T1.setTop (mkF m 21 #[.val (.long q1), .second, .val (.int p1), .val (.int p2), .val (.long q2), .second, .val (.int p3), .val (.int p4), .val (.long ta), .second, .val (.int ca), .unset, .unset, .unset, .unset, .unset, .unset, .unset, .unset, .unset, .unset, .unset, .unset, .unset] [(.int (own_max (1 : Int32) (p2 &&& (2147483647 : Int32))))]))
  obtain ⟨ka, hv_ka⟩ : ∃ z : Int32, z = (own_max (1 : Int32) (p2 &&& (2147483647 : Int32))) := ⟨_, rfl⟩
  rw [← hv_ka]
  refine OGo.to (fun _ k => XS.istore X1.here hx rfl (hb hby at_21) rfl (l' := #[.val (.long q1), .second, .val (.int p1), .val (.int p2), .val (.long q2), .second, .val (.int p3), .val (.int p4), .val (.long ta), .second, .val (.int ca), .val (.int ka), .unset, .unset, .unset, .unset, .unset, .unset, .unset, .unset, .unset, .unset, .unset, .unset]) rfl k) ?_
  show OGo p e below _ (T1.setTop (mkF m 23 #[.val (.long q1), .second, .val (.int p1), .val (.int p2), .val (.long q2), .second, .val (.int p3), .val (.int p4), .val (.long ta), .second, .val (.int ca), .val (.int ka), .unset, .unset, .unset, .unset, .unset, .unset, .unset, .unset, .unset, .unset, .unset, .unset] []))
  refine OGo.to (fun _ k => XS.iload X1.here hx rfl (hb hby at_23) rfl k) ?_
  show OGo p e below _ (T1.setTop (mkF m 25 #[.val (.long q1), .second, .val (.int p1), .val (.int p2), .val (.long q2), .second, .val (.int p3), .val (.int p4), .val (.long ta), .second, .val (.int ca), .val (.int ka), .unset, .unset, .unset, .unset, .unset, .unset, .unset, .unset, .unset, .unset, .unset, .unset] [(.int p3)]))
  refine OGo.to (fun _ k => X1.ldcInt hx hown (mvT hZ (hw _ (List.mem_of_getElem? (i := 1) rfl))) (g := (mkF m 25 #[.val (.long q1), .second, .val (.int p1), .val (.int p2), .val (.long q2), .second, .val (.int p3), .val (.int p4), .val (.long ta), .second, .val (.int ca), .val (.int ka), .unset, .unset, .unset, .unset, .unset, .unset, .unset, .unset, .unset, .unset, .unset, .unset] [(.int p3)])) rfl (hb hby at_25) _ k) ?_
  show OGo p e below _ (T1.setTop (mkF m 27 #[.val (.long q1), .second, .val (.int p1), .val (.int p2), .val (.long q2), .second, .val (.int p3), .val (.int p4), .val (.long ta), .second, .val (.int ca), .val (.int ka), .unset, .unset, .unset, .unset, .unset, .unset, .unset, .unset, .unset, .unset, .unset, .unset] [(.int (2147483647 : Int32)), (.int p3)]))
  refine OGo.to (fun _ k => XS.iand X1.here hx rfl (hb hby at_27) rfl k) ?_
  show OGo p e below _ (T1.setTop (mkF m 28 #[.val (.long q1), .second, .val (.int p1), .val (.int p2), .val (.long q2), .second, .val (.int p3), .val (.int p4), .val (.long ta), .second, .val (.int ca), .val (.int ka), .unset, .unset, .unset, .unset, .unset, .unset, .unset, .unset, .unset, .unset, .unset, .unset] [(.int (p3 &&& (2147483647 : Int32)))]))
  obtain ⟨cb, hv_cb⟩ : ∃ z : Int32, z = (p3 &&& (2147483647 : Int32)) := ⟨_, rfl⟩
  rw [← hv_cb]
  refine OGo.to (fun _ k => XS.istore X1.here hx rfl (hb hby at_28) rfl (l' := #[.val (.long q1), .second, .val (.int p1), .val (.int p2), .val (.long q2), .second, .val (.int p3), .val (.int p4), .val (.long ta), .second, .val (.int ca), .val (.int ka), .val (.int cb), .unset, .unset, .unset, .unset, .unset, .unset, .unset, .unset, .unset, .unset, .unset]) rfl k) ?_
  show OGo p e below _ (T1.setTop (mkF m 30 #[.val (.long q1), .second, .val (.int p1), .val (.int p2), .val (.long q2), .second, .val (.int p3), .val (.int p4), .val (.long ta), .second, .val (.int ca), .val (.int ka), .val (.int cb), .unset, .unset, .unset, .unset, .unset, .unset, .unset, .unset, .unset, .unset, .unset] []))
  refine OGo.to (fun _ k => XS.iconst X1.here hx rfl (hb hby at_30) k) ?_
  show OGo p e below _ (T1.setTop (mkF m 31 #[.val (.long q1), .second, .val (.int p1), .val (.int p2), .val (.long q2), .second, .val (.int p3), .val (.int p4), .val (.long ta), .second, .val (.int ca), .val (.int ka), .val (.int cb), .unset, .unset, .unset, .unset, .unset, .unset, .unset, .unset, .unset, .unset, .unset] [(.int (1 : Int32))]))
  refine OGo.to (fun _ k => XS.iload X1.here hx rfl (hb hby at_31) rfl k) ?_
  show OGo p e below _ (T1.setTop (mkF m 33 #[.val (.long q1), .second, .val (.int p1), .val (.int p2), .val (.long q2), .second, .val (.int p3), .val (.int p4), .val (.long ta), .second, .val (.int ca), .val (.int ka), .val (.int cb), .unset, .unset, .unset, .unset, .unset, .unset, .unset, .unset, .unset, .unset, .unset] [(.int p4), (.int (1 : Int32))]))
  refine OGo.to (fun _ k => X1.ldcInt hx hown (mvT hZ (hw _ (List.mem_of_getElem? (i := 1) rfl))) (g := (mkF m 33 #[.val (.long q1), .second, .val (.int p1), .val (.int p2), .val (.long q2), .second, .val (.int p3), .val (.int p4), .val (.long ta), .second, .val (.int ca), .val (.int ka), .val (.int cb), .unset, .unset, .unset, .unset, .unset, .unset, .unset, .unset, .unset, .unset, .unset] [(.int p4), (.int (1 : Int32))])) rfl (hb hby at_33) _ k) ?_
  show OGo p e below _ (T1.setTop (mkF m 35 #[.val (.long q1), .second, .val (.int p1), .val (.int p2), .val (.long q2), .second, .val (.int p3), .val (.int p4), .val (.long ta), .second, .val (.int ca), .val (.int ka), .val (.int cb), .unset, .unset, .unset, .unset, .unset, .unset, .unset, .unset, .unset, .unset, .unset] [(.int (2147483647 : Int32)), (.int p4), (.int (1 : Int32))]))
  refine OGo.to (fun _ k => XS.iand X1.here hx rfl (hb hby at_35) rfl k) ?_
  show OGo p e below _ (T1.setTop (mkF m 36 #[.val (.long q1), .second, .val (.int p1), .val (.int p2), .val (.long q2), .second, .val (.int p3), .val (.int p4), .val (.long ta), .second, .val (.int ca), .val (.int ka), .val (.int cb), .unset, .unset, .unset, .unset, .unset, .unset, .unset, .unset, .unset, .unset, .unset] [(.int (p4 &&& (2147483647 : Int32))), (.int (1 : Int32))]))
  obtain ⟨_, _, ⟨T2, L2, k2, n2⟩, -, X2, ⟨Lc2, hQ2, l2, y2, z2⟩, st2⟩ := Jvm.LawKit.callS X1 hx (y := (⟨"java/lang/Math", "max", "(II)I"⟩ : MethodName)) hown (mvT hZ (hw _ (List.mem_of_getElem? (i := 2) rfl))) (mvT hZ (hw _ (List.mem_of_getElem? (i := 3) rfl))) (mvT hZ (hw _ (List.mem_of_getElem? (i := 4) rfl))) (mvT hZ (hw _ (List.mem_of_getElem? (i := 5) rfl))) (by decide) (backOf (W := 0) (rm1 l Z a0 hw [] (1 : Int32) (p4 &&& (2147483647 : Int32)) h0 n0 Z0 ) hZ (hw _ (List.mem_of_getElem? (i := 5) rfl)) (hw _ (List.mem_of_getElem? (i := 4) rfl)) (by decide) (by decide)) (g := (mkF m 36 #[.val (.long q1), .second, .val (.int p1), .val (.int p2), .val (.long q2), .second, .val (.int p3), .val (.int p4), .val (.long ta), .second, .val (.int ca), .val (.int ka), .val (.int cb), .unset, .unset, .unset, .unset, .unset, .unset, .unset, .unset, .unset, .unset, .unset] [(.int (p4 &&& (2147483647 : Int32))), (.int (1 : Int32))])) rfl (by rw [hml]; rfl) (argsL := [(.int (1 : Int32)), (.int (p4 &&& (2147483647 : Int32)))]) (rest := []) (lenOf pd_2 rfl) rfl (by show 2 * 0 + _ ≤ _; exact Nat.le_of_eq rfl) (hb hby at_36) (fun _ _ => ⟨rfl, e1, (by decide : 0 + 0 ≤ _), (by decide : 0 + 0 ≤ _)⟩)
  dsimp only [Pt.U, Pt.locs, Pt.cells, Pt.slots] at X2 l2 y2 z2 st2 hQ2
  subst l2 y2 z2
  obtain ⟨rfl, N2q, e2⟩ := hQ2
  have N2 := Fr.app N1 N2q
  refine OGo.to st2 ?_
  show OGo p e below _ (T2.setTop (mkF m 39 #[.val (.long q1), .second, .val (.int p1), .val (.int p2), .val (.long q2), .second, .val (.int p3), .val (.int p4), .val (.long ta), .second, .val (.int ca), .val (.int ka), .val (.int cb), .unset, .unset, .unset, .unset, .unset, .unset, .unset, .unset, .unset, .unset, .unset] [(.int (own_max (1 : Int32) (p4 &&& (2147483647 : Int32))))]))
  obtain ⟨kb, hv_kb⟩ : ∃ z : Int32, z = (own_max (1 : Int32) (p4 &&& (2147483647 : Int32))) := ⟨_, rfl⟩
  rw [← hv_kb]
  refine OGo.to (fun _ k => XS.istore X2.here hx rfl (hb hby at_39) rfl (l' := #[.val (.long q1), .second, .val (.int p1), .val (.int p2), .val (.long q2), .second, .val (.int p3), .val (.int p4), .val (.long ta), .second, .val (.int ca), .val (.int ka), .val (.int cb), .val (.int kb), .unset, .unset, .unset, .unset, .unset, .unset, .unset, .unset, .unset, .unset]) rfl k) ?_
  show OGo p e below _ (T2.setTop (mkF m 41 #[.val (.long q1), .second, .val (.int p1), .val (.int p2), .val (.long q2), .second, .val (.int p3), .val (.int p4), .val (.long ta), .second, .val (.int ca), .val (.int ka), .val (.int cb), .val (.int kb), .unset, .unset, .unset, .unset, .unset, .unset, .unset, .unset, .unset, .unset] []))
  refine OGo.to (fun _ k => XS.lload X2.here hx rfl (hb hby at_41) rfl k) ?_
  show OGo p e below _ (T2.setTop (mkF m 43 #[.val (.long q1), .second, .val (.int p1), .val (.int p2), .val (.long q2), .second, .val (.int p3), .val (.int p4), .val (.long ta), .second, .val (.int ca), .val (.int ka), .val (.int cb), .val (.int kb), .unset, .unset, .unset, .unset, .unset, .unset, .unset, .unset, .unset, .unset] [(.long q2)]))
  refine OGo.to (fun _ k => X2.ldc2Long hx hown (mvT hZ (hw _ (List.mem_of_getElem? (i := 6) rfl))) (g := (mkF m 43 #[.val (.long q1), .second, .val (.int p1), .val (.int p2), .val (.long q2), .second, .val (.int p3), .val (.int p4), .val (.long ta), .second, .val (.int ca), .val (.int ka), .val (.int cb), .val (.int kb), .unset, .unset, .unset, .unset, .unset, .unset, .unset, .unset, .unset, .unset] [(.long q2)])) rfl (hb hby at_43) _ k) ?_
  show OGo p e below _ (T2.setTop (mkF m 46 #[.val (.long q1), .second, .val (.int p1), .val (.int p2), .val (.long q2), .second, .val (.int p3), .val (.int p4), .val (.long ta), .second, .val (.int ca), .val (.int ka), .val (.int cb), .val (.int kb), .unset, .unset, .unset, .unset, .unset, .unset, .unset, .unset, .unset, .unset] [(.long (3 : Int64)), (.long q2)]))
  refine OGo.to (fun _ k => XS.land X2.here hx rfl (hb hby at_46) rfl k) ?_
  show OGo p e below _ (T2.setTop (mkF m 47 #[.val (.long q1), .second, .val (.int p1), .val (.int p2), .val (.long q2), .second, .val (.int p3), .val (.int p4), .val (.long ta), .second, .val (.int ca), .val (.int ka), .val (.int cb), .val (.int kb), .unset, .unset, .unset, .unset, .unset, .unset, .unset, .unset, .unset, .unset] [(.long (q2 &&& (3 : Int64)))]))
  refine OGo.to (fun _ k => XS.l2i X2.here hx rfl (hb hby at_47) rfl k) ?_
  show OGo p e below _ (T2.setTop (mkF m 48 #[.val (.long q1), .second, .val (.int p1), .val (.int p2), .val (.long q2), .second, .val (.int p3), .val (.int p4), .val (.long ta), .second, .val (.int ca), .val (.int ka), .val (.int cb), .val (.int kb), .unset, .unset, .unset, .unset, .unset, .unset, .unset, .unset, .unset, .unset] [(.int ((q2 &&& (3 : Int64)).toInt32))]))
  obtain ⟨mode, hv_mode⟩ : ∃ z : Int32, z = ((q2 &&& (3 : Int64)).toInt32) := ⟨_, rfl⟩
  rw [← hv_mode]
  refine OGo.to (fun _ k => XS.istore X2.here hx rfl (hb hby at_48) rfl (l' := #[.val (.long q1), .second, .val (.int p1), .val (.int p2), .val (.long q2), .second, .val (.int p3), .val (.int p4), .val (.long ta), .second, .val (.int ca), .val (.int ka), .val (.int cb), .val (.int kb), .val (.int mode), .unset, .unset, .unset, .unset, .unset, .unset, .unset, .unset, .unset]) rfl k) ?_
  show OGo p e below _ (T2.setTop (mkF m 50 #[.val (.long q1), .second, .val (.int p1), .val (.int p2), .val (.long q2), .second, .val (.int p3), .val (.int p4), .val (.long ta), .second, .val (.int ca), .val (.int ka), .val (.int cb), .val (.int kb), .val (.int mode), .unset, .unset, .unset, .unset, .unset, .unset, .unset, .unset, .unset] []))
  refine OGo.to (fun _ k => XS.lload X2.here hx rfl (hb hby at_50) rfl k) ?_
  show OGo p e below _ (T2.setTop (mkF m 52 #[.val (.long q1), .second, .val (.int p1), .val (.int p2), .val (.long q2), .second, .val (.int p3), .val (.int p4), .val (.long ta), .second, .val (.int ca), .val (.int ka), .val (.int cb), .val (.int kb), .val (.int mode), .unset, .unset, .unset, .unset, .unset, .unset, .unset, .unset, .unset] [(.long ta)]))
  refine OGo.to (fun _ k => XS.lstore X2.here hx rfl (hb hby at_52) rfl (l' := #[.val (.long q1), .second, .val (.int p1), .val (.int p2), .val (.long q2), .second, .val (.int p3), .val (.int p4), .val (.long ta), .second, .val (.int ca), .val (.int ka), .val (.int cb), .val (.int kb), .val (.int mode), .val (.long ta), .second, .unset, .unset, .unset, .unset, .unset, .unset, .unset]) rfl k) ?_
  show OGo p e below _ (T2.setTop (mkF m 54 #[.val (.long q1), .second, .val (.int p1), .val (.int p2), .val (.long q2), .second, .val (.int p3), .val (.int p4), .val (.long ta), .second, .val (.int ca), .val (.int ka), .val (.int cb), .val (.int kb), .val (.int mode), .val (.long ta), .second, .unset, .unset, .unset, .unset, .unset, .unset, .unset] []))
  refine OGo.to (fun _ k => XS.iload X2.here hx rfl (hb hby at_54) rfl k) ?_
  show OGo p e below _ (T2.setTop (mkF m 56 #[.val (.long q1), .second, .val (.int p1), .val (.int p2), .val (.long q2), .second, .val (.int p3), .val (.int p4), .val (.long ta), .second, .val (.int ca), .val (.int ka), .val (.int cb), .val (.int kb), .val (.int mode), .val (.long ta), .second, .unset, .unset, .unset, .unset, .unset, .unset, .unset] [(.int ca)]))
  refine OGo.to (fun _ k => XS.istore X2.here hx rfl (hb hby at_56) rfl (l' := #[.val (.long q1), .second, .val (.int p1), .val (.int p2), .val (.long q2), .second, .val (.int p3), .val (.int p4), .val (.long ta), .second, .val (.int ca), .val (.int ka), .val (.int cb), .val (.int kb), .val (.int mode), .val (.long ta), .second, .val (.int ca), .unset, .unset, .unset, .unset, .unset, .unset]) rfl k) ?_
  show OGo p e below _ (T2.setTop (mkF m 58 #[.val (.long q1), .second, .val (.int p1), .val (.int p2), .val (.long q2), .second, .val (.int p3), .val (.int p4), .val (.long ta), .second, .val (.int ca), .val (.int ka), .val (.int cb), .val (.int kb), .val (.int mode), .val (.long ta), .second, .val (.int ca), .unset, .unset, .unset, .unset, .unset, .unset] []))
  refine OGo.to (fun _ k => XS.iload X2.here hx rfl (hb hby at_58) rfl k) ?_
  show OGo p e below _ (T2.setTop (mkF m 60 #[.val (.long q1), .second, .val (.int p1), .val (.int p2), .val (.long q2), .second, .val (.int p3), .val (.int p4), .val (.long ta), .second, .val (.int ca), .val (.int ka), .val (.int cb), .val (.int kb), .val (.int mode), .val (.long ta), .second, .val (.int ca), .unset, .unset, .unset, .unset, .unset, .unset] [(.int ka)]))
  refine OGo.to (fun _ k => XS.istore X2.here hx rfl (hb hby at_60) rfl (l' := #[.val (.long q1), .second, .val (.int p1), .val (.int p2), .val (.long q2), .second, .val (.int p3), .val (.int p4), .val (.long ta), .second, .val (.int ca), .val (.int ka), .val (.int cb), .val (.int kb), .val (.int mode), .val (.long ta), .second, .val (.int ca), .val (.int ka), .unset, .unset, .unset, .unset, .unset]) rfl k) ?_
  show OGo p e below _ (T2.setTop (mkF m 62 #[.val (.long q1), .second, .val (.int p1), .val (.int p2), .val (.long q2), .second, .val (.int p3), .val (.int p4), .val (.long ta), .second, .val (.int ca), .val (.int ka), .val (.int cb), .val (.int kb), .val (.int mode), .val (.long ta), .second, .val (.int ca), .val (.int ka), .unset, .unset, .unset, .unset, .unset] []))
  refine OGo.to (fun _ k => XS.iload X2.here hx rfl (hb hby at_62) rfl k) ?_
  show OGo p e below _ (T2.setTop (mkF m 64 #[.val (.long q1), .second, .val (.int p1), .val (.int p2), .val (.long q2), .second, .val (.int p3), .val (.int p4), .val (.long ta), .second, .val (.int ca), .val (.int ka), .val (.int cb), .val (.int kb), .val (.int mode), .val (.long ta), .second, .val (.int ca), .val (.int ka), .unset, .unset, .unset, .unset, .unset] [(.int mode)]))
  refine OGo.to (fun _ k => XS.iconst X2.here hx rfl (hb hby at_64) k) ?_
  show OGo p e below _ (T2.setTop (mkF m 65 #[.val (.long q1), .second, .val (.int p1), .val (.int p2), .val (.long q2), .second, .val (.int p3), .val (.int p4), .val (.long ta), .second, .val (.int ca), .val (.int ka), .val (.int cb), .val (.int kb), .val (.int mode), .val (.long ta), .second, .val (.int ca), .val (.int ka), .unset, .unset, .unset, .unset, .unset] [(.int (1 : Int32)), (.int mode)]))
  obtain ⟨tb, hv_tb⟩ : ∃ z : Int64, z = (if mode = (1 : Int32) then ta else (if mode = (2 : Int32) then ta else (if mode = (3 : Int32) then (q2 &&& (9223372036854775807 : Int64)) else ta))) := ⟨_, rfl⟩
  obtain ⟨cc, hv_cc⟩ : ∃ z : Int32, z = (if mode = (1 : Int32) then ca else (if mode = (2 : Int32) then cb else (if mode = (3 : Int32) then cb else ca))) := ⟨_, rfl⟩
  obtain ⟨kk, hv_kk⟩ : ∃ z : Int32, z = (if mode = (1 : Int32) then kb else (if mode = (2 : Int32) then ka else (if mode = (3 : Int32) then kb else ka))) := ⟨_, rfl⟩
  refine OGo.to (S' := T2.setTop (mkF m 110 #[.val (.long q1), .second, .val (.int p1), .val (.int p2), .val (.long q2), .second, .val (.int p3), .val (.int p4), .val (.long ta), .second, .val (.int ca), .val (.int ka), .val (.int cb), .val (.int kb), .val (.int mode), .val (.long tb), .second, .val (.int cc), .val (.int kk), .unset, .unset, .unset, .unset, .unset] [])) (fun _ k => ?_) ?_
  ·
    show Steps p.tables e below (T2.setTop (mkF m 65 #[.val (.long q1), .second, .val (.int p1), .val (.int p2), .val (.long q2), .second, .val (.int p3), .val (.int p4), .val (.long ta), .second, .val (.int ca), .val (.int ka), .val (.int cb), .val (.int kb), .val (.int mode), .val (.long ta), .second, .val (.int ca), .val (.int ka), .unset, .unset, .unset, .unset, .unset] [(.int (1 : Int32)), (.int mode)])) _
    by_cases hc65_6 : mode = (1 : Int32)
    ·  -- pc 65: yes
      refine XS.icmpNo X2.here hx rfl (hb hby at_65) rfl (teq hc65_6).2 ?_
      show Steps p.tables e below (T2.setTop (mkF m 68 #[.val (.long q1), .second, .val (.int p1), .val (.int p2), .val (.long q2), .second, .val (.int p3), .val (.int p4), .val (.long ta), .second, .val (.int ca), .val (.int ka), .val (.int cb), .val (.int kb), .val (.int mode), .val (.long ta), .second, .val (.int ca), .val (.int ka), .unset, .unset, .unset, .unset, .unset] [])) _
      refine XS.iload X2.here hx rfl (hb hby at_68) rfl ?_
      show Steps p.tables e below (T2.setTop (mkF m 70 #[.val (.long q1), .second, .val (.int p1), .val (.int p2), .val (.long q2), .second, .val (.int p3), .val (.int p4), .val (.long ta), .second, .val (.int ca), .val (.int ka), .val (.int cb), .val (.int kb), .val (.int mode), .val (.long ta), .second, .val (.int ca), .val (.int ka), .unset, .unset, .unset, .unset, .unset] [(.int kb)])) _
      refine XS.istore X2.here hx rfl (hb hby at_70) rfl (l' := #[.val (.long q1), .second, .val (.int p1), .val (.int p2), .val (.long q2), .second, .val (.int p3), .val (.int p4), .val (.long ta), .second, .val (.int ca), .val (.int ka), .val (.int cb), .val (.int kb), .val (.int mode), .val (.long ta), .second, .val (.int ca), .val (.int kb), .unset, .unset, .unset, .unset, .unset]) rfl ?_
      show Steps p.tables e below (T2.setTop (mkF m 72 #[.val (.long q1), .second, .val (.int p1), .val (.int p2), .val (.long q2), .second, .val (.int p3), .val (.int p4), .val (.long ta), .second, .val (.int ca), .val (.int ka), .val (.int cb), .val (.int kb), .val (.int mode), .val (.long ta), .second, .val (.int ca), .val (.int kb), .unset, .unset, .unset, .unset, .unset] [])) _
      refine XS.goto X2.here hx rfl (pc0 := 72) (pc' := 110) rfl (hb hby at_72) (by decide) (by decide) ?_
      show Steps p.tables e below (T2.setTop (mkF m 110 #[.val (.long q1), .second, .val (.int p1), .val (.int p2), .val (.long q2), .second, .val (.int p3), .val (.int p4), .val (.long ta), .second, .val (.int ca), .val (.int ka), .val (.int cb), .val (.int kb), .val (.int mode), .val (.long ta), .second, .val (.int ca), .val (.int kb), .unset, .unset, .unset, .unset, .unset] [])) _
      have hw_tb := hv_tb
      rw [if_pos hc65_6] at hw_tb
      subst hw_tb
      have hw_cc := hv_cc
      rw [if_pos hc65_6] at hw_cc
      subst hw_cc
      have hw_kk := hv_kk
      rw [if_pos hc65_6] at hw_kk
      subst hw_kk
      exact k
    ·  -- pc 65: no
      refine XS.icmpYes X2.here hx rfl (pc0 := 65) (pc' := 75) rfl (hb hby at_65) rfl (feq hc65_6).2 (by decide) (by decide) ?_
      show Steps p.tables e below (T2.setTop (mkF m 75 #[.val (.long q1), .second, .val (.int p1), .val (.int p2), .val (.long q2), .second, .val (.int p3), .val (.int p4), .val (.long ta), .second, .val (.int ca), .val (.int ka), .val (.int cb), .val (.int kb), .val (.int mode), .val (.long ta), .second, .val (.int ca), .val (.int ka), .unset, .unset, .unset, .unset, .unset] [])) _
      refine XS.iload X2.here hx rfl (hb hby at_75) rfl ?_
      show Steps p.tables e below (T2.setTop (mkF m 77 #[.val (.long q1), .second, .val (.int p1), .val (.int p2), .val (.long q2), .second, .val (.int p3), .val (.int p4), .val (.long ta), .second, .val (.int ca), .val (.int ka), .val (.int cb), .val (.int kb), .val (.int mode), .val (.long ta), .second, .val (.int ca), .val (.int ka), .unset, .unset, .unset, .unset, .unset] [(.int mode)])) _
      refine XS.iconst X2.here hx rfl (hb hby at_77) ?_
      show Steps p.tables e below (T2.setTop (mkF m 78 #[.val (.long q1), .second, .val (.int p1), .val (.int p2), .val (.long q2), .second, .val (.int p3), .val (.int p4), .val (.long ta), .second, .val (.int ca), .val (.int ka), .val (.int cb), .val (.int kb), .val (.int mode), .val (.long ta), .second, .val (.int ca), .val (.int ka), .unset, .unset, .unset, .unset, .unset] [(.int (2 : Int32)), (.int mode)])) _
      by_cases hc78_7 : mode = (2 : Int32)
      ·  -- pc 78: yes
        refine XS.icmpNo X2.here hx rfl (hb hby at_78) rfl (teq hc78_7).2 ?_
        show Steps p.tables e below (T2.setTop (mkF m 81 #[.val (.long q1), .second, .val (.int p1), .val (.int p2), .val (.long q2), .second, .val (.int p3), .val (.int p4), .val (.long ta), .second, .val (.int ca), .val (.int ka), .val (.int cb), .val (.int kb), .val (.int mode), .val (.long ta), .second, .val (.int ca), .val (.int ka), .unset, .unset, .unset, .unset, .unset] [])) _
        refine XS.iload X2.here hx rfl (hb hby at_81) rfl ?_
        show Steps p.tables e below (T2.setTop (mkF m 83 #[.val (.long q1), .second, .val (.int p1), .val (.int p2), .val (.long q2), .second, .val (.int p3), .val (.int p4), .val (.long ta), .second, .val (.int ca), .val (.int ka), .val (.int cb), .val (.int kb), .val (.int mode), .val (.long ta), .second, .val (.int ca), .val (.int ka), .unset, .unset, .unset, .unset, .unset] [(.int cb)])) _
        refine XS.istore X2.here hx rfl (hb hby at_83) rfl (l' := #[.val (.long q1), .second, .val (.int p1), .val (.int p2), .val (.long q2), .second, .val (.int p3), .val (.int p4), .val (.long ta), .second, .val (.int ca), .val (.int ka), .val (.int cb), .val (.int kb), .val (.int mode), .val (.long ta), .second, .val (.int cb), .val (.int ka), .unset, .unset, .unset, .unset, .unset]) rfl ?_
        show Steps p.tables e below (T2.setTop (mkF m 85 #[.val (.long q1), .second, .val (.int p1), .val (.int p2), .val (.long q2), .second, .val (.int p3), .val (.int p4), .val (.long ta), .second, .val (.int ca), .val (.int ka), .val (.int cb), .val (.int kb), .val (.int mode), .val (.long ta), .second, .val (.int cb), .val (.int ka), .unset, .unset, .unset, .unset, .unset] [])) _
        refine XS.goto X2.here hx rfl (pc0 := 85) (pc' := 110) rfl (hb hby at_85) (by decide) (by decide) ?_
        show Steps p.tables e below (T2.setTop (mkF m 110 #[.val (.long q1), .second, .val (.int p1), .val (.int p2), .val (.long q2), .second, .val (.int p3), .val (.int p4), .val (.long ta), .second, .val (.int ca), .val (.int ka), .val (.int cb), .val (.int kb), .val (.int mode), .val (.long ta), .second, .val (.int cb), .val (.int ka), .unset, .unset, .unset, .unset, .unset] [])) _
        have hw_tb := hv_tb
        rw [if_neg hc65_6, if_pos hc78_7] at hw_tb
        subst hw_tb
        have hw_cc := hv_cc
        rw [if_neg hc65_6, if_pos hc78_7] at hw_cc
        subst hw_cc
        have hw_kk := hv_kk
        rw [if_neg hc65_6, if_pos hc78_7] at hw_kk
        subst hw_kk
        exact k
      ·  -- pc 78: no
        refine XS.icmpYes X2.here hx rfl (pc0 := 78) (pc' := 88) rfl (hb hby at_78) rfl (feq hc78_7).2 (by decide) (by decide) ?_
        show Steps p.tables e below (T2.setTop (mkF m 88 #[.val (.long q1), .second, .val (.int p1), .val (.int p2), .val (.long q2), .second, .val (.int p3), .val (.int p4), .val (.long ta), .second, .val (.int ca), .val (.int ka), .val (.int cb), .val (.int kb), .val (.int mode), .val (.long ta), .second, .val (.int ca), .val (.int ka), .unset, .unset, .unset, .unset, .unset] [])) _
        refine XS.iload X2.here hx rfl (hb hby at_88) rfl ?_
        show Steps p.tables e below (T2.setTop (mkF m 90 #[.val (.long q1), .second, .val (.int p1), .val (.int p2), .val (.long q2), .second, .val (.int p3), .val (.int p4), .val (.long ta), .second, .val (.int ca), .val (.int ka), .val (.int cb), .val (.int kb), .val (.int mode), .val (.long ta), .second, .val (.int ca), .val (.int ka), .unset, .unset, .unset, .unset, .unset] [(.int mode)])) _
        refine XS.iconst X2.here hx rfl (hb hby at_90) ?_
        show Steps p.tables e below (T2.setTop (mkF m 91 #[.val (.long q1), .second, .val (.int p1), .val (.int p2), .val (.long q2), .second, .val (.int p3), .val (.int p4), .val (.long ta), .second, .val (.int ca), .val (.int ka), .val (.int cb), .val (.int kb), .val (.int mode), .val (.long ta), .second, .val (.int ca), .val (.int ka), .unset, .unset, .unset, .unset, .unset] [(.int (3 : Int32)), (.int mode)])) _
        by_cases hc91_8 : mode = (3 : Int32)
        ·  -- pc 91: yes
          refine XS.icmpNo X2.here hx rfl (hb hby at_91) rfl (teq hc91_8).2 ?_
          show Steps p.tables e below (T2.setTop (mkF m 94 #[.val (.long q1), .second, .val (.int p1), .val (.int p2), .val (.long q2), .second, .val (.int p3), .val (.int p4), .val (.long ta), .second, .val (.int ca), .val (.int ka), .val (.int cb), .val (.int kb), .val (.int mode), .val (.long ta), .second, .val (.int ca), .val (.int ka), .unset, .unset, .unset, .unset, .unset] [])) _
          refine XS.lload X2.here hx rfl (hb hby at_94) rfl ?_
          show Steps p.tables e below (T2.setTop (mkF m 96 #[.val (.long q1), .second, .val (.int p1), .val (.int p2), .val (.long q2), .second, .val (.int p3), .val (.int p4), .val (.long ta), .second, .val (.int ca), .val (.int ka), .val (.int cb), .val (.int kb), .val (.int mode), .val (.long ta), .second, .val (.int ca), .val (.int ka), .unset, .unset, .unset, .unset, .unset] [(.long q2)])) _
          refine X2.ldc2Long hx hown (mvT hZ (hw _ (List.mem_of_getElem? (i := 0) rfl))) (g := (mkF m 96 #[.val (.long q1), .second, .val (.int p1), .val (.int p2), .val (.long q2), .second, .val (.int p3), .val (.int p4), .val (.long ta), .second, .val (.int ca), .val (.int ka), .val (.int cb), .val (.int kb), .val (.int mode), .val (.long ta), .second, .val (.int ca), .val (.int ka), .unset, .unset, .unset, .unset, .unset] [(.long q2)])) rfl (hb hby at_96) _ ?_
          show Steps p.tables e below (T2.setTop (mkF m 99 #[.val (.long q1), .second, .val (.int p1), .val (.int p2), .val (.long q2), .second, .val (.int p3), .val (.int p4), .val (.long ta), .second, .val (.int ca), .val (.int ka), .val (.int cb), .val (.int kb), .val (.int mode), .val (.long ta), .second, .val (.int ca), .val (.int ka), .unset, .unset, .unset, .unset, .unset] [(.long (9223372036854775807 : Int64)), (.long q2)])) _
          refine XS.land X2.here hx rfl (hb hby at_99) rfl ?_
          show Steps p.tables e below (T2.setTop (mkF m 100 #[.val (.long q1), .second, .val (.int p1), .val (.int p2), .val (.long q2), .second, .val (.int p3), .val (.int p4), .val (.long ta), .second, .val (.int ca), .val (.int ka), .val (.int cb), .val (.int kb), .val (.int mode), .val (.long ta), .second, .val (.int ca), .val (.int ka), .unset, .unset, .unset, .unset, .unset] [(.long (q2 &&& (9223372036854775807 : Int64)))])) _
          refine XS.lstore X2.here hx rfl (hb hby at_100) rfl (l' := #[.val (.long q1), .second, .val (.int p1), .val (.int p2), .val (.long q2), .second, .val (.int p3), .val (.int p4), .val (.long ta), .second, .val (.int ca), .val (.int ka), .val (.int cb), .val (.int kb), .val (.int mode), .val (.long (q2 &&& (9223372036854775807 : Int64))), .second, .val (.int ca), .val (.int ka), .unset, .unset, .unset, .unset, .unset]) rfl ?_
          show Steps p.tables e below (T2.setTop (mkF m 102 #[.val (.long q1), .second, .val (.int p1), .val (.int p2), .val (.long q2), .second, .val (.int p3), .val (.int p4), .val (.long ta), .second, .val (.int ca), .val (.int ka), .val (.int cb), .val (.int kb), .val (.int mode), .val (.long (q2 &&& (9223372036854775807 : Int64))), .second, .val (.int ca), .val (.int ka), .unset, .unset, .unset, .unset, .unset] [])) _
          refine XS.iload X2.here hx rfl (hb hby at_102) rfl ?_
          show Steps p.tables e below (T2.setTop (mkF m 104 #[.val (.long q1), .second, .val (.int p1), .val (.int p2), .val (.long q2), .second, .val (.int p3), .val (.int p4), .val (.long ta), .second, .val (.int ca), .val (.int ka), .val (.int cb), .val (.int kb), .val (.int mode), .val (.long (q2 &&& (9223372036854775807 : Int64))), .second, .val (.int ca), .val (.int ka), .unset, .unset, .unset, .unset, .unset] [(.int cb)])) _
          refine XS.istore X2.here hx rfl (hb hby at_104) rfl (l' := #[.val (.long q1), .second, .val (.int p1), .val (.int p2), .val (.long q2), .second, .val (.int p3), .val (.int p4), .val (.long ta), .second, .val (.int ca), .val (.int ka), .val (.int cb), .val (.int kb), .val (.int mode), .val (.long (q2 &&& (9223372036854775807 : Int64))), .second, .val (.int cb), .val (.int ka), .unset, .unset, .unset, .unset, .unset]) rfl ?_
          show Steps p.tables e below (T2.setTop (mkF m 106 #[.val (.long q1), .second, .val (.int p1), .val (.int p2), .val (.long q2), .second, .val (.int p3), .val (.int p4), .val (.long ta), .second, .val (.int ca), .val (.int ka), .val (.int cb), .val (.int kb), .val (.int mode), .val (.long (q2 &&& (9223372036854775807 : Int64))), .second, .val (.int cb), .val (.int ka), .unset, .unset, .unset, .unset, .unset] [])) _
          refine XS.iload X2.here hx rfl (hb hby at_106) rfl ?_
          show Steps p.tables e below (T2.setTop (mkF m 108 #[.val (.long q1), .second, .val (.int p1), .val (.int p2), .val (.long q2), .second, .val (.int p3), .val (.int p4), .val (.long ta), .second, .val (.int ca), .val (.int ka), .val (.int cb), .val (.int kb), .val (.int mode), .val (.long (q2 &&& (9223372036854775807 : Int64))), .second, .val (.int cb), .val (.int ka), .unset, .unset, .unset, .unset, .unset] [(.int kb)])) _
          refine XS.istore X2.here hx rfl (hb hby at_108) rfl (l' := #[.val (.long q1), .second, .val (.int p1), .val (.int p2), .val (.long q2), .second, .val (.int p3), .val (.int p4), .val (.long ta), .second, .val (.int ca), .val (.int ka), .val (.int cb), .val (.int kb), .val (.int mode), .val (.long (q2 &&& (9223372036854775807 : Int64))), .second, .val (.int cb), .val (.int kb), .unset, .unset, .unset, .unset, .unset]) rfl ?_
          show Steps p.tables e below (T2.setTop (mkF m 110 #[.val (.long q1), .second, .val (.int p1), .val (.int p2), .val (.long q2), .second, .val (.int p3), .val (.int p4), .val (.long ta), .second, .val (.int ca), .val (.int ka), .val (.int cb), .val (.int kb), .val (.int mode), .val (.long (q2 &&& (9223372036854775807 : Int64))), .second, .val (.int cb), .val (.int kb), .unset, .unset, .unset, .unset, .unset] [])) _
          have hw_tb := hv_tb
          rw [if_neg hc65_6, if_neg hc78_7, if_pos hc91_8] at hw_tb
          subst hw_tb
          have hw_cc := hv_cc
          rw [if_neg hc65_6, if_neg hc78_7, if_pos hc91_8] at hw_cc
          subst hw_cc
          have hw_kk := hv_kk
          rw [if_neg hc65_6, if_neg hc78_7, if_pos hc91_8] at hw_kk
          subst hw_kk
          exact k
        ·  -- pc 91: no
          refine XS.icmpYes X2.here hx rfl (pc0 := 91) (pc' := 110) rfl (hb hby at_91) rfl (feq hc91_8).2 (by decide) (by decide) ?_
          show Steps p.tables e below (T2.setTop (mkF m 110 #[.val (.long q1), .second, .val (.int p1), .val (.int p2), .val (.long q2), .second, .val (.int p3), .val (.int p4), .val (.long ta), .second, .val (.int ca), .val (.int ka), .val (.int cb), .val (.int kb), .val (.int mode), .val (.long ta), .second, .val (.int ca), .val (.int ka), .unset, .unset, .unset, .unset, .unset] [])) _
          have hw_tb := hv_tb
          rw [if_neg hc65_6, if_neg hc78_7, if_neg hc91_8] at hw_tb
          subst hw_tb
          have hw_cc := hv_cc
          rw [if_neg hc65_6, if_neg hc78_7, if_neg hc91_8] at hw_cc
          subst hw_cc
          have hw_kk := hv_kk
          rw [if_neg hc65_6, if_neg hc78_7, if_neg hc91_8] at hw_kk
          subst hw_kk
          exact k
  show OGo p e below _ (T2.setTop (mkF m 110 #[.val (.long q1), .second, .val (.int p1), .val (.int p2), .val (.long q2), .second, .val (.int p3), .val (.int p4), .val (.long ta), .second, .val (.int ca), .val (.int ka), .val (.int cb), .val (.int kb), .val (.int mode), .val (.long tb), .second, .val (.int cc), .val (.int kk), .unset, .unset, .unset, .unset, .unset] []))
  obtain ⟨T9, h9, X9, e9, E9, A9, D9, -, st9⟩ := newO X2 hx hZ hown (hw _ (List.mem_of_getElem? (i := 7) rfl)) (hw _ (List.mem_of_getElem? (i := 8) rfl)) (hw _ (List.mem_of_getElem? (i := 9) rfl)) e2 (g := (mkF m 110 #[.val (.long q1), .second, .val (.int p1), .val (.int p2), .val (.long q2), .second, .val (.int p3), .val (.int p4), .val (.long ta), .second, .val (.int ca), .val (.int ka), .val (.int cb), .val (.int kb), .val (.int mode), .val (.long tb), .second, .val (.int cc), .val (.int kk), .unset, .unset, .unset, .unset, .unset] [])) rfl (hb hby at_110) (by decide) (by decide)
  obtain ⟨b9, g9⟩ : ∃ z, z = h0.size := ⟨_, rfl⟩
  rw [← g9] at A9 D9 st9
  have g_b9 : n0 ≤ b9 := Nat.le_trans Z0 (Nat.le_of_eq g9.symm)
  refine OGo.to st9 ?_
  have z10 : n0 ≤ h9.size := Nat.le_trans Z0 E9.1
  have F_timestamp_b9 : Fld Z h9 b9 "com/example/heartwood/heartwood/Revision" "timestamp" "J" (.long (0 : Int64)) := D9 (Or.inr (hw _ (List.mem_of_getElem? (i := 22) rfl))) (ty := .long) (by decide)
  have F_counter_b9 : Fld Z h9 b9 "com/example/heartwood/heartwood/Revision" "counter" "I" (.int (0 : Int32)) := D9 (Or.inr (hw _ (List.mem_of_getElem? (i := 24) rfl))) (ty := .int) (by decide)
  have F_clusterId_b9 : Fld Z h9 b9 "com/example/heartwood/heartwood/Revision" "clusterId" "I" (.int (0 : Int32)) := D9 (Or.inr (hw _ (List.mem_of_getElem? (i := 26) rfl))) (ty := .int) (by decide)
  show OGo p e below _ (T9.setTop (mkF m 113 #[.val (.long q1), .second, .val (.int p1), .val (.int p2), .val (.long q2), .second, .val (.int p3), .val (.int p4), .val (.long ta), .second, .val (.int ca), .val (.int ka), .val (.int cb), .val (.int kb), .val (.int mode), .val (.long tb), .second, .val (.int cc), .val (.int kk), .unset, .unset, .unset, .unset, .unset] [(.ref b9)]))
  refine OGo.to (fun _ k => XS.dup X9.here hx rfl (hb hby at_113) rfl rfl k) ?_
  show OGo p e below _ (T9.setTop (mkF m 114 #[.val (.long q1), .second, .val (.int p1), .val (.int p2), .val (.long q2), .second, .val (.int p3), .val (.int p4), .val (.long ta), .second, .val (.int ca), .val (.int ka), .val (.int cb), .val (.int kb), .val (.int mode), .val (.long tb), .second, .val (.int cc), .val (.int kk), .unset, .unset, .unset, .unset, .unset] [(.ref b9), (.ref b9)]))
  refine OGo.to (fun _ k => XS.lload X9.here hx rfl (hb hby at_114) rfl k) ?_
  show OGo p e below _ (T9.setTop (mkF m 116 #[.val (.long q1), .second, .val (.int p1), .val (.int p2), .val (.long q2), .second, .val (.int p3), .val (.int p4), .val (.long ta), .second, .val (.int ca), .val (.int ka), .val (.int cb), .val (.int kb), .val (.int mode), .val (.long tb), .second, .val (.int cc), .val (.int kk), .unset, .unset, .unset, .unset, .unset] [(.long ta), (.ref b9), (.ref b9)]))
  refine OGo.to (fun _ k => XS.iload X9.here hx rfl (hb hby at_116) rfl k) ?_
  show OGo p e below _ (T9.setTop (mkF m 118 #[.val (.long q1), .second, .val (.int p1), .val (.int p2), .val (.long q2), .second, .val (.int p3), .val (.int p4), .val (.long ta), .second, .val (.int ca), .val (.int ka), .val (.int cb), .val (.int kb), .val (.int mode), .val (.long tb), .second, .val (.int cc), .val (.int kk), .unset, .unset, .unset, .unset, .unset] [(.int ca), (.long ta), (.ref b9), (.ref b9)]))
  refine OGo.to (fun _ k => XS.iload X9.here hx rfl (hb hby at_118) rfl k) ?_
  show OGo p e below _ (T9.setTop (mkF m 120 #[.val (.long q1), .second, .val (.int p1), .val (.int p2), .val (.long q2), .second, .val (.int p3), .val (.int p4), .val (.long ta), .second, .val (.int ca), .val (.int ka), .val (.int cb), .val (.int kb), .val (.int mode), .val (.long tb), .second, .val (.int cc), .val (.int kk), .unset, .unset, .unset, .unset, .unset] [(.int ka), (.int ca), (.long ta), (.ref b9), (.ref b9)]))
  obtain ⟨_, _, ⟨T11, L11, k11, n11⟩, -, X11, ⟨Lc11, hQ11, l11, y11, z11⟩, st11⟩ := X9.specialBack hx (y := (⟨"com/example/heartwood/heartwood/Revision", "<init>", "(JII)V"⟩ : MethodName)) rfl hown (mvT hZ (hw _ (List.mem_of_getElem? (i := 10) rfl))) (mvT hZ (hw _ (List.mem_of_getElem? (i := 11) rfl))) (mvT hZ (hw _ (List.mem_of_getElem? (i := 12) rfl))) (by decide) (backOf (W := 1) (rm2 l Z a0 hw [] b9 ta ca ka (.long (0 : Int64)) (.int (0 : Int32)) (.int (0 : Int32)) h9 n0 z10 A9 F_timestamp_b9 F_counter_b9 F_clusterId_b9 g_b9 (by rw [hv_ta]; exact own_nnL q1) (by rw [hv_ca]; exact own_nn p1) (by rw [hv_ka]; exact own_max1 _)) hZ (hw _ (List.mem_of_getElem? (i := 12) rfl)) (hw _ (List.mem_of_getElem? (i := 9) rfl)) (by decide) (by decide)) (g := (mkF m 120 #[.val (.long q1), .second, .val (.int p1), .val (.int p2), .val (.long q2), .second, .val (.int p3), .val (.int p4), .val (.long ta), .second, .val (.int ca), .val (.int ka), .val (.int cb), .val (.int kb), .val (.int mode), .val (.long tb), .second, .val (.int cc), .val (.int kk), .unset, .unset, .unset, .unset, .unset] [(.int ka), (.int ca), (.long ta), (.ref b9), (.ref b9)])) rfl (by rw [hml]; rfl) (Steps.refl _) (a := b9) (argsL := [(.long ta), (.int ca), (.int ka)]) (rest := [(.ref b9)]) (lenOf pd_3 rfl) rfl (by show 2 * 0 + _ ≤ _; exact Nat.le_of_eq rfl) (hb hby at_120) (fun _ _ => ⟨rfl, e9, (by decide : 1 + 0 ≤ _), (by decide : 3 + 0 ≤ _)⟩)
  dsimp only [Pt.U, Pt.locs, Pt.cells, Pt.slots] at X11 l11 y11 z11 st11 hQ11
  subst l11 y11 z11
  obtain ⟨rfl, N11q, K11, p11_0, p11_1, p11_2⟩ := hQ11
  have N11 := Fr.app N2 N11q
  refine OGo.to (fun _ k => st11.trans k) ?_
  have z12 : n0 ≤ T11.heap.size := Nat.le_trans z10 K11.1
  show OGo p e below _ (T11.setTop (mkF m 123 #[.val (.long q1), .second, .val (.int p1), .val (.int p2), .val (.long q2), .second, .val (.int p3), .val (.int p4), .val (.long ta), .second, .val (.int ca), .val (.int ka), .val (.int cb), .val (.int kb), .val (.int mode), .val (.long tb), .second, .val (.int cc), .val (.int kk), .unset, .unset, .unset, .unset, .unset] [(.ref b9)]))
  refine OGo.to (fun _ k => XS.astore X11.here hx rfl (hb hby at_123) rfl rfl (l' := #[.val (.long q1), .second, .val (.int p1), .val (.int p2), .val (.long q2), .second, .val (.int p3), .val (.int p4), .val (.long ta), .second, .val (.int ca), .val (.int ka), .val (.int cb), .val (.int kb), .val (.int mode), .val (.long tb), .second, .val (.int cc), .val (.int kk), .val (.ref b9), .unset, .unset, .unset, .unset]) rfl k) ?_
  show OGo p e below _ (T11.setTop (mkF m 125 #[.val (.long q1), .second, .val (.int p1), .val (.int p2), .val (.long q2), .second, .val (.int p3), .val (.int p4), .val (.long ta), .second, .val (.int ca), .val (.int ka), .val (.int cb), .val (.int kb), .val (.int mode), .val (.long tb), .second, .val (.int cc), .val (.int kk), .val (.ref b9), .unset, .unset, .unset, .unset] []))
  have f14 : Exa Z T11.heap b9 "com/example/heartwood/heartwood/Revision" := (A9.keep K11)
  obtain ⟨T13, h13, X13, e13, E13, A13, D13, -, st13⟩ := newO X11 hx hZ hown (hw _ (List.mem_of_getElem? (i := 7) rfl)) (hw _ (List.mem_of_getElem? (i := 8) rfl)) (hw _ (List.mem_of_getElem? (i := 9) rfl)) (rfl : T11.heap = T11.heap) (g := (mkF m 125 #[.val (.long q1), .second, .val (.int p1), .val (.int p2), .val (.long q2), .second, .val (.int p3), .val (.int p4), .val (.long ta), .second, .val (.int ca), .val (.int ka), .val (.int cb), .val (.int kb), .val (.int mode), .val (.long tb), .second, .val (.int cc), .val (.int kk), .val (.ref b9), .unset, .unset, .unset, .unset] [])) rfl (hb hby at_125) (by decide) (by decide)
  obtain ⟨b13, g13⟩ : ∃ z, z = T11.heap.size := ⟨_, rfl⟩
  rw [← g13] at A13 D13 st13
  have g_b13 : n0 ≤ b13 := Nat.le_trans z12 (Nat.le_of_eq g13.symm)
  refine OGo.to st13 ?_
  have ne_b9_b13 : b9 ≠ b13 := Nat.ne_of_lt (Nat.lt_of_lt_of_le f14.lt (Nat.le_of_eq g13.symm))
  have z15 : n0 ≤ h13.size := Nat.le_trans z12 E13.1
  have F_timestamp_b13 : Fld Z h13 b13 "com/example/heartwood/heartwood/Revision" "timestamp" "J" (.long (0 : Int64)) := D13 (Or.inr (hw _ (List.mem_of_getElem? (i := 22) rfl))) (ty := .long) (by decide)
  have F_counter_b13 : Fld Z h13 b13 "com/example/heartwood/heartwood/Revision" "counter" "I" (.int (0 : Int32)) := D13 (Or.inr (hw _ (List.mem_of_getElem? (i := 24) rfl))) (ty := .int) (by decide)
  have F_clusterId_b13 : Fld Z h13 b13 "com/example/heartwood/heartwood/Revision" "clusterId" "I" (.int (0 : Int32)) := D13 (Or.inr (hw _ (List.mem_of_getElem? (i := 26) rfl))) (ty := .int) (by decide)
  show OGo p e below _ (T13.setTop (mkF m 128 #[.val (.long q1), .second, .val (.int p1), .val (.int p2), .val (.long q2), .second, .val (.int p3), .val (.int p4), .val (.long ta), .second, .val (.int ca), .val (.int ka), .val (.int cb), .val (.int kb), .val (.int mode), .val (.long tb), .second, .val (.int cc), .val (.int kk), .val (.ref b9), .unset, .unset, .unset, .unset] [(.ref b13)]))
  refine OGo.to (fun _ k => XS.dup X13.here hx rfl (hb hby at_128) rfl rfl k) ?_
  show OGo p e below _ (T13.setTop (mkF m 129 #[.val (.long q1), .second, .val (.int p1), .val (.int p2), .val (.long q2), .second, .val (.int p3), .val (.int p4), .val (.long ta), .second, .val (.int ca), .val (.int ka), .val (.int cb), .val (.int kb), .val (.int mode), .val (.long tb), .second, .val (.int cc), .val (.int kk), .val (.ref b9), .unset, .unset, .unset, .unset] [(.ref b13), (.ref b13)]))
  refine OGo.to (fun _ k => XS.lload X13.here hx rfl (hb hby at_129) rfl k) ?_
  show OGo p e below _ (T13.setTop (mkF m 131 #[.val (.long q1), .second, .val (.int p1), .val (.int p2), .val (.long q2), .second, .val (.int p3), .val (.int p4), .val (.long ta), .second, .val (.int ca), .val (.int ka), .val (.int cb), .val (.int kb), .val (.int mode), .val (.long tb), .second, .val (.int cc), .val (.int kk), .val (.ref b9), .unset, .unset, .unset, .unset] [(.long tb), (.ref b13), (.ref b13)]))
  refine OGo.to (fun _ k => XS.iload X13.here hx rfl (hb hby at_131) rfl k) ?_
  show OGo p e below _ (T13.setTop (mkF m 133 #[.val (.long q1), .second, .val (.int p1), .val (.int p2), .val (.long q2), .second, .val (.int p3), .val (.int p4), .val (.long ta), .second, .val (.int ca), .val (.int ka), .val (.int cb), .val (.int kb), .val (.int mode), .val (.long tb), .second, .val (.int cc), .val (.int kk), .val (.ref b9), .unset, .unset, .unset, .unset] [(.int cc), (.long tb), (.ref b13), (.ref b13)]))
  refine OGo.to (fun _ k => XS.iload X13.here hx rfl (hb hby at_133) rfl k) ?_
  show OGo p e below _ (T13.setTop (mkF m 135 #[.val (.long q1), .second, .val (.int p1), .val (.int p2), .val (.long q2), .second, .val (.int p3), .val (.int p4), .val (.long ta), .second, .val (.int ca), .val (.int ka), .val (.int cb), .val (.int kb), .val (.int mode), .val (.long tb), .second, .val (.int cc), .val (.int kk), .val (.ref b9), .unset, .unset, .unset, .unset] [(.int kk), (.int cc), (.long tb), (.ref b13), (.ref b13)]))
  obtain ⟨_, _, ⟨T16, L16, k16, n16⟩, -, X16, ⟨Lc16, hQ16, l16, y16, z16⟩, st16⟩ := X13.specialBack hx (y := (⟨"com/example/heartwood/heartwood/Revision", "<init>", "(JII)V"⟩ : MethodName)) rfl hown (mvT hZ (hw _ (List.mem_of_getElem? (i := 10) rfl))) (mvT hZ (hw _ (List.mem_of_getElem? (i := 11) rfl))) (mvT hZ (hw _ (List.mem_of_getElem? (i := 12) rfl))) (by decide) (backOf (W := 1) (rm2 l Z a0 hw [] b13 tb cc kk (.long (0 : Int64)) (.int (0 : Int32)) (.int (0 : Int32)) h13 n0 z15 A13 F_timestamp_b13 F_counter_b13 F_clusterId_b13 g_b13 (by rw [hv_tb]; exact own_C1 (hv_ta ▸ own_nnL q1) (own_nnL q2)) (by rw [hv_cc]; exact own_C2 (hv_ca ▸ own_nn p1) (hv_cb ▸ own_nn p3)) (by rw [hv_kk]; exact own_C3 (hv_ka ▸ own_max1 _) (hv_kb ▸ own_max1 _))) hZ (hw _ (List.mem_of_getElem? (i := 12) rfl)) (hw _ (List.mem_of_getElem? (i := 9) rfl)) (by decide) (by decide)) (g := (mkF m 135 #[.val (.long q1), .second, .val (.int p1), .val (.int p2), .val (.long q2), .second, .val (.int p3), .val (.int p4), .val (.long ta), .second, .val (.int ca), .val (.int ka), .val (.int cb), .val (.int kb), .val (.int mode), .val (.long tb), .second, .val (.int cc), .val (.int kk), .val (.ref b9), .unset, .unset, .unset, .unset] [(.int kk), (.int cc), (.long tb), (.ref b13), (.ref b13)])) rfl (by rw [hml]; rfl) (Steps.refl _) (a := b13) (argsL := [(.long tb), (.int cc), (.int kk)]) (rest := [(.ref b13)]) (lenOf pd_3 rfl) rfl (by show 2 * 0 + _ ≤ _; exact Nat.le_of_eq rfl) (hb hby at_135) (fun _ _ => ⟨rfl, e13, (by decide : 2 + 0 ≤ _), (by decide : 6 + 0 ≤ _)⟩)
  dsimp only [Pt.U, Pt.locs, Pt.cells, Pt.slots] at X16 l16 y16 z16 st16 hQ16
  subst l16 y16 z16
  obtain ⟨rfl, N16q, K16, p16_0, p16_1, p16_2⟩ := hQ16
  have N16 := Fr.app N11 N16q
  refine OGo.to (fun _ k => st16.trans k) ?_
  have z17 : n0 ≤ T16.heap.size := Nat.le_trans z15 K16.1
  show OGo p e below _ (T16.setTop (mkF m 138 #[.val (.long q1), .second, .val (.int p1), .val (.int p2), .val (.long q2), .second, .val (.int p3), .val (.int p4), .val (.long ta), .second, .val (.int ca), .val (.int ka), .val (.int cb), .val (.int kb), .val (.int mode), .val (.long tb), .second, .val (.int cc), .val (.int kk), .val (.ref b9), .unset, .unset, .unset, .unset] [(.ref b13)]))
  refine OGo.to (fun _ k => XS.astore X16.here hx rfl (hb hby at_138) rfl rfl (l' := #[.val (.long q1), .second, .val (.int p1), .val (.int p2), .val (.long q2), .second, .val (.int p3), .val (.int p4), .val (.long ta), .second, .val (.int ca), .val (.int ka), .val (.int cb), .val (.int kb), .val (.int mode), .val (.long tb), .second, .val (.int cc), .val (.int kk), .val (.ref b9), .val (.ref b13), .unset, .unset, .unset]) rfl k) ?_
  show OGo p e below _ (T16.setTop (mkF m 140 #[.val (.long q1), .second, .val (.int p1), .val (.int p2), .val (.long q2), .second, .val (.int p3), .val (.int p4), .val (.long ta), .second, .val (.int ca), .val (.int ka), .val (.int cb), .val (.int kb), .val (.int mode), .val (.long tb), .second, .val (.int cc), .val (.int kk), .val (.ref b9), .val (.ref b13), .unset, .unset, .unset] []))
  refine OGo.to (fun _ k => XS.aload X16.here hx rfl (hb hby at_140) rfl rfl k) ?_
  show OGo p e below _ (T16.setTop (mkF m 142 #[.val (.long q1), .second, .val (.int p1), .val (.int p2), .val (.long q2), .second, .val (.int p3), .val (.int p4), .val (.long ta), .second, .val (.int ca), .val (.int ka), .val (.int cb), .val (.int kb), .val (.int mode), .val (.long tb), .second, .val (.int cc), .val (.int kk), .val (.ref b9), .val (.ref b13), .unset, .unset, .unset] [(.ref b9)]))
  have f19 : Fld Z T16.heap b9 "com/example/heartwood/heartwood/Revision" "timestamp" "J" (.long ta) := ((p11_0.ext E13).keep K16 (fun q => ne_b9_b13 (List.mem_singleton.mp q)))
  have f20 : Fld Z T16.heap b9 "com/example/heartwood/heartwood/Revision" "counter" "I" (.int ca) := ((p11_1.ext E13).keep K16 (fun q => ne_b9_b13 (List.mem_singleton.mp q)))
  have f21 : Fld Z T16.heap b9 "com/example/heartwood/heartwood/Revision" "clusterId" "I" (.int ka) := ((p11_2.ext E13).keep K16 (fun q => ne_b9_b13 (List.mem_singleton.mp q)))
  have f22 : Exa Z T16.heap b9 "com/example/heartwood/heartwood/Revision" := ((f14.ext E13).keep K16)
  obtain ⟨cq18, kq18, q18a, q18b, q18c⟩ := isOf hZ (rfl : T16.heap = T16.heap) f22
  obtain ⟨_, _, ⟨T18, L18, k18, n18⟩, -, X18, ⟨Lc18, hQ18, l18, y18, z18⟩, st18⟩ := X16.virtualBack hx (y := (⟨"com/example/heartwood/heartwood/Revision", "hashCode", "()I"⟩ : MethodName)) (z := (⟨"com/example/heartwood/heartwood/Revision", "hashCode", "()I"⟩ : MethodName)) hown (mvT hZ (hw _ (List.mem_of_getElem? (i := 27) rfl))) (mvT hZ (hw _ (List.mem_of_getElem? (i := 28) rfl))) (notFace_of_selects (args := #[]) (mvT hZ (hw _ (List.mem_of_getElem? (i := 30) rfl)))) (mvT hZ (hw _ (List.mem_of_getElem? (i := 30) rfl))) (mvT hZ (hw _ (List.mem_of_getElem? (i := 29) rfl))) (by decide) (backOf (W := 0) (rm5 l Z a0 hw [] b9 ta ca ka T16.heap n0 z17 f19 f20 f21) hZ (hw _ (List.mem_of_getElem? (i := 31) rfl)) (hw _ (List.mem_of_getElem? (i := 9) rfl)) (by decide) (by decide)) q18a q18c (g := (mkF m 142 #[.val (.long q1), .second, .val (.int p1), .val (.int p2), .val (.long q2), .second, .val (.int p3), .val (.int p4), .val (.long ta), .second, .val (.int ca), .val (.int ka), .val (.int cb), .val (.int kb), .val (.int mode), .val (.long tb), .second, .val (.int cc), .val (.int kk), .val (.ref b9), .val (.ref b13), .unset, .unset, .unset] [(.ref b9)])) rfl (by rw [hml]; rfl) (Steps.refl _) (argsL := []) (rest := []) (lenOf pd_4 rfl) rfl (by show 2 * 0 + _ ≤ _; exact Nat.le_of_eq rfl) (hb hby at_142) (fun _ _ => ⟨rfl, (rfl : T16.heap = T16.heap), (by decide : 2 + 0 ≤ _), (by decide : 6 + 0 ≤ _)⟩)
  dsimp only [Pt.U, Pt.locs, Pt.cells, Pt.slots] at X18 l18 y18 z18 st18 hQ18
  subst l18 y18 z18
  obtain ⟨rfl, N18q, e18⟩ := hQ18
  have N18 := Fr.app N16 N18q
  refine OGo.to (fun _ k => st18.trans k) ?_
  show OGo p e below _ (T18.setTop (mkF m 145 #[.val (.long q1), .second, .val (.int p1), .val (.int p2), .val (.long q2), .second, .val (.int p3), .val (.int p4), .val (.long ta), .second, .val (.int ca), .val (.int ka), .val (.int cb), .val (.int kb), .val (.int mode), .val (.long tb), .second, .val (.int cc), .val (.int kk), .val (.ref b9), .val (.ref b13), .unset, .unset, .unset] [(.int (own_h ta ca ka))]))
  refine OGo.to (fun _ k => XS.istore X18.here hx rfl (hb hby at_145) rfl (l' := #[.val (.long q1), .second, .val (.int p1), .val (.int p2), .val (.long q2), .second, .val (.int p3), .val (.int p4), .val (.long ta), .second, .val (.int ca), .val (.int ka), .val (.int cb), .val (.int kb), .val (.int mode), .val (.long tb), .second, .val (.int cc), .val (.int kk), .val (.ref b9), .val (.ref b13), .val (.int (own_h ta ca ka)), .unset, .unset]) rfl k) ?_
  show OGo p e below _ (T18.setTop (mkF m 147 #[.val (.long q1), .second, .val (.int p1), .val (.int p2), .val (.long q2), .second, .val (.int p3), .val (.int p4), .val (.long ta), .second, .val (.int ca), .val (.int ka), .val (.int cb), .val (.int kb), .val (.int mode), .val (.long tb), .second, .val (.int cc), .val (.int kk), .val (.ref b9), .val (.ref b13), .val (.int (own_h ta ca ka)), .unset, .unset] []))
  refine OGo.to (fun _ k => XS.aload X18.here hx rfl (hb hby at_147) rfl rfl k) ?_
  show OGo p e below _ (T18.setTop (mkF m 149 #[.val (.long q1), .second, .val (.int p1), .val (.int p2), .val (.long q2), .second, .val (.int p3), .val (.int p4), .val (.long ta), .second, .val (.int ca), .val (.int ka), .val (.int cb), .val (.int kb), .val (.int mode), .val (.long tb), .second, .val (.int cc), .val (.int kk), .val (.ref b9), .val (.ref b13), .val (.int (own_h ta ca ka)), .unset, .unset] [(.ref b13)]))
  have f24 : Exa Z T16.heap b13 "com/example/heartwood/heartwood/Revision" := (A13.keep K16)
  obtain ⟨cq23, kq23, q23a, q23b, q23c⟩ := isOf hZ e18 f24
  obtain ⟨_, _, ⟨T23, L23, k23, n23⟩, -, X23, ⟨Lc23, hQ23, l23, y23, z23⟩, st23⟩ := X18.virtualBack hx (y := (⟨"com/example/heartwood/heartwood/Revision", "hashCode", "()I"⟩ : MethodName)) (z := (⟨"com/example/heartwood/heartwood/Revision", "hashCode", "()I"⟩ : MethodName)) hown (mvT hZ (hw _ (List.mem_of_getElem? (i := 27) rfl))) (mvT hZ (hw _ (List.mem_of_getElem? (i := 28) rfl))) (notFace_of_selects (args := #[]) (mvT hZ (hw _ (List.mem_of_getElem? (i := 30) rfl)))) (mvT hZ (hw _ (List.mem_of_getElem? (i := 30) rfl))) (mvT hZ (hw _ (List.mem_of_getElem? (i := 29) rfl))) (by decide) (backOf (W := 0) (rm5 l Z a0 hw [] b13 tb cc kk T16.heap n0 z17 p16_0 p16_1 p16_2) hZ (hw _ (List.mem_of_getElem? (i := 31) rfl)) (hw _ (List.mem_of_getElem? (i := 9) rfl)) (by decide) (by decide)) q23a q23c (g := (mkF m 149 #[.val (.long q1), .second, .val (.int p1), .val (.int p2), .val (.long q2), .second, .val (.int p3), .val (.int p4), .val (.long ta), .second, .val (.int ca), .val (.int ka), .val (.int cb), .val (.int kb), .val (.int mode), .val (.long tb), .second, .val (.int cc), .val (.int kk), .val (.ref b9), .val (.ref b13), .val (.int (own_h ta ca ka)), .unset, .unset] [(.ref b13)])) rfl (by rw [hml]; rfl) (Steps.refl _) (argsL := []) (rest := []) (lenOf pd_4 rfl) rfl (by show 2 * 0 + _ ≤ _; exact Nat.le_of_eq rfl) (hb hby at_149) (fun _ _ => ⟨rfl, e18, (by decide : 2 + 0 ≤ _), (by decide : 6 + 0 ≤ _)⟩)
  dsimp only [Pt.U, Pt.locs, Pt.cells, Pt.slots] at X23 l23 y23 z23 st23 hQ23
  subst l23 y23 z23
  obtain ⟨rfl, N23q, e23⟩ := hQ23
  have N23 := Fr.app N18 N23q
  refine OGo.to (fun _ k => st23.trans k) ?_
  show OGo p e below _ (T23.setTop (mkF m 152 #[.val (.long q1), .second, .val (.int p1), .val (.int p2), .val (.long q2), .second, .val (.int p3), .val (.int p4), .val (.long ta), .second, .val (.int ca), .val (.int ka), .val (.int cb), .val (.int kb), .val (.int mode), .val (.long tb), .second, .val (.int cc), .val (.int kk), .val (.ref b9), .val (.ref b13), .val (.int (own_h ta ca ka)), .unset, .unset] [(.int (own_h tb cc kk))]))
  refine OGo.to (fun _ k => XS.istore X23.here hx rfl (hb hby at_152) rfl (l' := #[.val (.long q1), .second, .val (.int p1), .val (.int p2), .val (.long q2), .second, .val (.int p3), .val (.int p4), .val (.long ta), .second, .val (.int ca), .val (.int ka), .val (.int cb), .val (.int kb), .val (.int mode), .val (.long tb), .second, .val (.int cc), .val (.int kk), .val (.ref b9), .val (.ref b13), .val (.int (own_h ta ca ka)), .val (.int (own_h tb cc kk)), .unset]) rfl k) ?_
  show OGo p e below _ (T23.setTop (mkF m 154 #[.val (.long q1), .second, .val (.int p1), .val (.int p2), .val (.long q2), .second, .val (.int p3), .val (.int p4), .val (.long ta), .second, .val (.int ca), .val (.int ka), .val (.int cb), .val (.int kb), .val (.int mode), .val (.long tb), .second, .val (.int cc), .val (.int kk), .val (.ref b9), .val (.ref b13), .val (.int (own_h ta ca ka)), .val (.int (own_h tb cc kk)), .unset] []))
  refine OGo.to (fun _ k => XS.aload X23.here hx rfl (hb hby at_154) rfl rfl k) ?_
  show OGo p e below _ (T23.setTop (mkF m 156 #[.val (.long q1), .second, .val (.int p1), .val (.int p2), .val (.long q2), .second, .val (.int p3), .val (.int p4), .val (.long ta), .second, .val (.int ca), .val (.int ka), .val (.int cb), .val (.int kb), .val (.int mode), .val (.long tb), .second, .val (.int cc), .val (.int kk), .val (.ref b9), .val (.ref b13), .val (.int (own_h ta ca ka)), .val (.int (own_h tb cc kk)), .unset] [(.ref b9)]))
  refine OGo.to (fun _ k => XS.aload X23.here hx rfl (hb hby at_156) rfl rfl k) ?_
  show OGo p e below _ (T23.setTop (mkF m 158 #[.val (.long q1), .second, .val (.int p1), .val (.int p2), .val (.long q2), .second, .val (.int p3), .val (.int p4), .val (.long ta), .second, .val (.int ca), .val (.int ka), .val (.int cb), .val (.int kb), .val (.int mode), .val (.long tb), .second, .val (.int cc), .val (.int kk), .val (.ref b9), .val (.ref b13), .val (.int (own_h ta ca ka)), .val (.int (own_h tb cc kk)), .unset] [(.ref b13), (.ref b9)]))
  obtain ⟨cq25, kq25, q25a, q25b, q25c⟩ := isOf hZ e23 f22
  obtain ⟨_, _, ⟨T25, L25, k25, n25⟩, -, X25, ⟨Lc25, hQ25, l25, y25, z25⟩, st25⟩ := X23.virtualBack hx (y := (⟨"com/example/heartwood/heartwood/Revision", "equals", "(Ljava/lang/Object;)Z"⟩ : MethodName)) (z := (⟨"com/example/heartwood/heartwood/Revision", "equals", "(Ljava/lang/Object;)Z"⟩ : MethodName)) hown (mvT hZ (hw _ (List.mem_of_getElem? (i := 36) rfl))) (mvT hZ (hw _ (List.mem_of_getElem? (i := 37) rfl))) (notFace_of_selects (args := #[]) (mvT hZ (hw _ (List.mem_of_getElem? (i := 39) rfl)))) (mvT hZ (hw _ (List.mem_of_getElem? (i := 39) rfl))) (mvT hZ (hw _ (List.mem_of_getElem? (i := 38) rfl))) (by decide) (backOf (W := 0) (rm7 l Z a0 hw [] b9 b13 ta ca ka tb cc kk T16.heap n0 z17 f24 f19 f20 f21 p16_0 p16_1 p16_2) hZ (hw _ (List.mem_of_getElem? (i := 40) rfl)) (hw _ (List.mem_of_getElem? (i := 9) rfl)) (by decide) (by decide)) q25a q25c (g := (mkF m 158 #[.val (.long q1), .second, .val (.int p1), .val (.int p2), .val (.long q2), .second, .val (.int p3), .val (.int p4), .val (.long ta), .second, .val (.int ca), .val (.int ka), .val (.int cb), .val (.int kb), .val (.int mode), .val (.long tb), .second, .val (.int cc), .val (.int kk), .val (.ref b9), .val (.ref b13), .val (.int (own_h ta ca ka)), .val (.int (own_h tb cc kk)), .unset] [(.ref b13), (.ref b9)])) rfl (by rw [hml]; rfl) (Steps.refl _) (argsL := [(.ref b13)]) (rest := []) (lenOf pd_5 rfl) rfl (by show 2 * 0 + _ ≤ _; exact Nat.le_of_eq rfl) (hb hby at_158) (fun _ _ => ⟨rfl, e23, (by decide : 2 + 0 ≤ _), (by decide : 6 + 0 ≤ _)⟩)
  dsimp only [Pt.U, Pt.locs, Pt.cells, Pt.slots] at X25 l25 y25 z25 st25 hQ25
  subst l25 y25 z25
  obtain ⟨rfl, N25q, e25⟩ := hQ25
  have N25 := Fr.app N23 N25q
  refine OGo.to (fun _ k => st25.trans k) ?_
  show OGo p e below _ (T25.setTop (mkF m 161 #[.val (.long q1), .second, .val (.int p1), .val (.int p2), .val (.long q2), .second, .val (.int p3), .val (.int p4), .val (.long ta), .second, .val (.int ca), .val (.int ka), .val (.int cb), .val (.int kb), .val (.int mode), .val (.long tb), .second, .val (.int cc), .val (.int kk), .val (.ref b9), .val (.ref b13), .val (.int (own_h ta ca ka)), .val (.int (own_h tb cc kk)), .unset] [(.int (own_eq ta ca ka tb cc kk))]))
  refine OGo.to (fun _ k => XS.istore X25.here hx rfl (hb hby at_161) rfl (l' := #[.val (.long q1), .second, .val (.int p1), .val (.int p2), .val (.long q2), .second, .val (.int p3), .val (.int p4), .val (.long ta), .second, .val (.int ca), .val (.int ka), .val (.int cb), .val (.int kb), .val (.int mode), .val (.long tb), .second, .val (.int cc), .val (.int kk), .val (.ref b9), .val (.ref b13), .val (.int (own_h ta ca ka)), .val (.int (own_h tb cc kk)), .val (.int (own_eq ta ca ka tb cc kk))]) rfl k) ?_
  show OGo p e below _ (T25.setTop (mkF m 163 #[.val (.long q1), .second, .val (.int p1), .val (.int p2), .val (.long q2), .second, .val (.int p3), .val (.int p4), .val (.long ta), .second, .val (.int ca), .val (.int ka), .val (.int cb), .val (.int kb), .val (.int mode), .val (.long tb), .second, .val (.int cc), .val (.int kk), .val (.ref b9), .val (.ref b13), .val (.int (own_h ta ca ka)), .val (.int (own_h tb cc kk)), .val (.int (own_eq ta ca ka tb cc kk))] []))
  refine OGo.to (fun _ k => XS.iload X25.here hx rfl (hb hby at_163) rfl k) ?_
  show OGo p e below _ (T25.setTop (mkF m 165 #[.val (.long q1), .second, .val (.int p1), .val (.int p2), .val (.long q2), .second, .val (.int p3), .val (.int p4), .val (.long ta), .second, .val (.int ca), .val (.int ka), .val (.int cb), .val (.int kb), .val (.int mode), .val (.long tb), .second, .val (.int cc), .val (.int kk), .val (.ref b9), .val (.ref b13), .val (.int (own_h ta ca ka)), .val (.int (own_h tb cc kk)), .val (.int (own_eq ta ca ka tb cc kk))] [(.int (own_eq ta ca ka tb cc kk))]))
  by_cases hc165_26 : (own_eq ta ca ka tb cc kk) = (0 : Int32)
  ·  -- pc 165: yes
    refine OGo.to (fun _ k => XS.ifYes X25.here hx rfl (pc0 := 165) (pc' := 181) rfl (hb hby at_165) rfl ((if0 _ _).trans (teq hc165_26).1) (by decide) (by decide) k) ?_
    show OGo p e below _ (T25.setTop (mkF m 181 #[.val (.long q1), .second, .val (.int p1), .val (.int p2), .val (.long q2), .second, .val (.int p3), .val (.int p4), .val (.long ta), .second, .val (.int ca), .val (.int ka), .val (.int cb), .val (.int kb), .val (.int mode), .val (.long tb), .second, .val (.int cc), .val (.int kk), .val (.ref b9), .val (.ref b13), .val (.int (own_h ta ca ka)), .val (.int (own_h tb cc kk)), .val (.int (own_eq ta ca ka tb cc kk))] []))
    refine OGo.to (fun _ k => XS.iload X25.here hx rfl (hb hby at_181) rfl k) ?_
    show OGo p e below _ (T25.setTop (mkF m 183 #[.val (.long q1), .second, .val (.int p1), .val (.int p2), .val (.long q2), .second, .val (.int p3), .val (.int p4), .val (.long ta), .second, .val (.int ca), .val (.int ka), .val (.int cb), .val (.int kb), .val (.int mode), .val (.long tb), .second, .val (.int cc), .val (.int kk), .val (.ref b9), .val (.ref b13), .val (.int (own_h ta ca ka)), .val (.int (own_h tb cc kk)), .val (.int (own_eq ta ca ka tb cc kk))] [(.int mode)]))
    refine OGo.to (fun _ k => XS.iconst X25.here hx rfl (hb hby at_183) k) ?_
    show OGo p e below _ (T25.setTop (mkF m 184 #[.val (.long q1), .second, .val (.int p1), .val (.int p2), .val (.long q2), .second, .val (.int p3), .val (.int p4), .val (.long ta), .second, .val (.int ca), .val (.int ka), .val (.int cb), .val (.int kb), .val (.int mode), .val (.long tb), .second, .val (.int cc), .val (.int kk), .val (.ref b9), .val (.ref b13), .val (.int (own_h ta ca ka)), .val (.int (own_h tb cc kk)), .val (.int (own_eq ta ca ka tb cc kk))] [(.int (1 : Int32)), (.int mode)]))
    by_cases hc184_27 : mode = (1 : Int32)
    ·  -- pc 184: yes
      refine OGo.to (fun _ k => XS.icmpYes X25.here hx rfl (pc0 := 184) (pc' := 193) rfl (hb hby at_184) rfl (teq hc184_27).1 (by decide) (by decide) k) ?_
      show OGo p e below _ (T25.setTop (mkF m 193 #[.val (.long q1), .second, .val (.int p1), .val (.int p2), .val (.long q2), .second, .val (.int p3), .val (.int p4), .val (.long ta), .second, .val (.int ca), .val (.int ka), .val (.int cb), .val (.int kb), .val (.int mode), .val (.long tb), .second, .val (.int cc), .val (.int kk), .val (.ref b9), .val (.ref b13), .val (.int (own_h ta ca ka)), .val (.int (own_h tb cc kk)), .val (.int (own_eq ta ca ka tb cc kk))] []))
      refine OGo.to (fun _ k => XS.iload X25.here hx rfl (hb hby at_193) rfl k) ?_
      show OGo p e below _ (T25.setTop (mkF m 195 #[.val (.long q1), .second, .val (.int p1), .val (.int p2), .val (.long q2), .second, .val (.int p3), .val (.int p4), .val (.long ta), .second, .val (.int ca), .val (.int ka), .val (.int cb), .val (.int kb), .val (.int mode), .val (.long tb), .second, .val (.int cc), .val (.int kk), .val (.ref b9), .val (.ref b13), .val (.int (own_h ta ca ka)), .val (.int (own_h tb cc kk)), .val (.int (own_eq ta ca ka tb cc kk))] [(.int (own_h ta ca ka))]))
      refine OGo.to (fun _ k => XS.iload X25.here hx rfl (hb hby at_195) rfl k) ?_
      show OGo p e below _ (T25.setTop (mkF m 197 #[.val (.long q1), .second, .val (.int p1), .val (.int p2), .val (.long q2), .second, .val (.int p3), .val (.int p4), .val (.long ta), .second, .val (.int ca), .val (.int ka), .val (.int cb), .val (.int kb), .val (.int mode), .val (.long tb), .second, .val (.int cc), .val (.int kk), .val (.ref b9), .val (.ref b13), .val (.int (own_h ta ca ka)), .val (.int (own_h tb cc kk)), .val (.int (own_eq ta ca ka tb cc kk))] [(.int (own_h tb cc kk)), (.int (own_h ta ca ka))]))
      have hc197_28 : ¬ ((own_h ta ca ka) = (own_h tb cc kk)) := own_B1 (hv_tb.trans (if_pos hc184_27)) (hv_cc.trans (if_pos hc184_27)) hc165_26
      refine OGo.to (fun _ k => XS.icmpNo X25.here hx rfl (hb hby at_197) rfl (feq hc197_28).1 k) ?_
      show OGo p e below _ (T25.setTop (mkF m 200 #[.val (.long q1), .second, .val (.int p1), .val (.int p2), .val (.long q2), .second, .val (.int p3), .val (.int p4), .val (.long ta), .second, .val (.int ca), .val (.int ka), .val (.int cb), .val (.int kb), .val (.int mode), .val (.long tb), .second, .val (.int cc), .val (.int kk), .val (.ref b9), .val (.ref b13), .val (.int (own_h ta ca ka)), .val (.int (own_h tb cc kk)), .val (.int (own_eq ta ca ka tb cc kk))] []))
      refine OGo.to (fun _ k => XS.iconst X25.here hx rfl (hb hby at_200) k) ?_
      show OGo p e below _ (T25.setTop (mkF m 201 #[.val (.long q1), .second, .val (.int p1), .val (.int p2), .val (.long q2), .second, .val (.int p3), .val (.int p4), .val (.long ta), .second, .val (.int ca), .val (.int ka), .val (.int cb), .val (.int kb), .val (.int mode), .val (.long tb), .second, .val (.int cc), .val (.int kk), .val (.ref b9), .val (.ref b13), .val (.int (own_h ta ca ka)), .val (.int (own_h tb cc kk)), .val (.int (own_eq ta ca ka tb cc kk))] [(.int (1 : Int32))]))
      refine OGo.to (fun _ k => XS.goto X25.here hx rfl (pc0 := 201) (pc' := 205) rfl (hb hby at_201) (by decide) (by decide) k) ?_
      show OGo p e below _ (T25.setTop (mkF m 205 #[.val (.long q1), .second, .val (.int p1), .val (.int p2), .val (.long q2), .second, .val (.int p3), .val (.int p4), .val (.long ta), .second, .val (.int ca), .val (.int ka), .val (.int cb), .val (.int kb), .val (.int mode), .val (.long tb), .second, .val (.int cc), .val (.int kk), .val (.ref b9), .val (.ref b13), .val (.int (own_h ta ca ka)), .val (.int (own_h tb cc kk)), .val (.int (own_eq ta ca ka tb cc kk))] [(.int (1 : Int32))]))
      refine OGo.ret (Q := Q0 Z q1 p1 p2 q2 p3 p4 h0 n0) X25 (some (.int (1 : Int32))) (fun h => by rw [Bd.returns] at h; cases h) Bd.notSynchronized (fun fs hr => retN X25 hx (t := .boolean) (z := (1 : Int32)) Bd.returns (by simp) (hb hby at_205) hr) ?_ (by decide) (by decide)
      show Q0 Z q1 p1 p2 q2 p3 p4 h0 n0 _ T25.heap _
      rw [e25]
      exact ⟨rfl, N25⟩
    ·  -- pc 184: no
      refine OGo.to (fun _ k => XS.icmpNo X25.here hx rfl (hb hby at_184) rfl (feq hc184_27).1 k) ?_
      show OGo p e below _ (T25.setTop (mkF m 187 #[.val (.long q1), .second, .val (.int p1), .val (.int p2), .val (.long q2), .second, .val (.int p3), .val (.int p4), .val (.long ta), .second, .val (.int ca), .val (.int ka), .val (.int cb), .val (.int kb), .val (.int mode), .val (.long tb), .second, .val (.int cc), .val (.int kk), .val (.ref b9), .val (.ref b13), .val (.int (own_h ta ca ka)), .val (.int (own_h tb cc kk)), .val (.int (own_eq ta ca ka tb cc kk))] []))
      refine OGo.to (fun _ k => XS.iload X25.here hx rfl (hb hby at_187) rfl k) ?_
      show OGo p e below _ (T25.setTop (mkF m 189 #[.val (.long q1), .second, .val (.int p1), .val (.int p2), .val (.long q2), .second, .val (.int p3), .val (.int p4), .val (.long ta), .second, .val (.int ca), .val (.int ka), .val (.int cb), .val (.int kb), .val (.int mode), .val (.long tb), .second, .val (.int cc), .val (.int kk), .val (.ref b9), .val (.ref b13), .val (.int (own_h ta ca ka)), .val (.int (own_h tb cc kk)), .val (.int (own_eq ta ca ka tb cc kk))] [(.int mode)]))
      refine OGo.to (fun _ k => XS.iconst X25.here hx rfl (hb hby at_189) k) ?_
      show OGo p e below _ (T25.setTop (mkF m 190 #[.val (.long q1), .second, .val (.int p1), .val (.int p2), .val (.long q2), .second, .val (.int p3), .val (.int p4), .val (.long ta), .second, .val (.int ca), .val (.int ka), .val (.int cb), .val (.int kb), .val (.int mode), .val (.long tb), .second, .val (.int cc), .val (.int kk), .val (.ref b9), .val (.ref b13), .val (.int (own_h ta ca ka)), .val (.int (own_h tb cc kk)), .val (.int (own_eq ta ca ka tb cc kk))] [(.int (2 : Int32)), (.int mode)]))
      by_cases hc190_29 : mode = (2 : Int32)
      ·  -- pc 190: yes
        refine OGo.to (fun _ k => XS.icmpNo X25.here hx rfl (hb hby at_190) rfl (teq hc190_29).2 k) ?_
        show OGo p e below _ (T25.setTop (mkF m 193 #[.val (.long q1), .second, .val (.int p1), .val (.int p2), .val (.long q2), .second, .val (.int p3), .val (.int p4), .val (.long ta), .second, .val (.int ca), .val (.int ka), .val (.int cb), .val (.int kb), .val (.int mode), .val (.long tb), .second, .val (.int cc), .val (.int kk), .val (.ref b9), .val (.ref b13), .val (.int (own_h ta ca ka)), .val (.int (own_h tb cc kk)), .val (.int (own_eq ta ca ka tb cc kk))] []))
        refine OGo.to (fun _ k => XS.iload X25.here hx rfl (hb hby at_193) rfl k) ?_
        show OGo p e below _ (T25.setTop (mkF m 195 #[.val (.long q1), .second, .val (.int p1), .val (.int p2), .val (.long q2), .second, .val (.int p3), .val (.int p4), .val (.long ta), .second, .val (.int ca), .val (.int ka), .val (.int cb), .val (.int kb), .val (.int mode), .val (.long tb), .second, .val (.int cc), .val (.int kk), .val (.ref b9), .val (.ref b13), .val (.int (own_h ta ca ka)), .val (.int (own_h tb cc kk)), .val (.int (own_eq ta ca ka tb cc kk))] [(.int (own_h ta ca ka))]))
        refine OGo.to (fun _ k => XS.iload X25.here hx rfl (hb hby at_195) rfl k) ?_
        show OGo p e below _ (T25.setTop (mkF m 197 #[.val (.long q1), .second, .val (.int p1), .val (.int p2), .val (.long q2), .second, .val (.int p3), .val (.int p4), .val (.long ta), .second, .val (.int ca), .val (.int ka), .val (.int cb), .val (.int kb), .val (.int mode), .val (.long tb), .second, .val (.int cc), .val (.int kk), .val (.ref b9), .val (.ref b13), .val (.int (own_h ta ca ka)), .val (.int (own_h tb cc kk)), .val (.int (own_eq ta ca ka tb cc kk))] [(.int (own_h tb cc kk)), (.int (own_h ta ca ka))]))
        have hc197_30 : ¬ ((own_h ta ca ka) = (own_h tb cc kk)) := own_B2 (hv_tb.trans ((if_neg hc184_27).trans (if_pos hc190_29))) (hv_kk.trans ((if_neg hc184_27).trans (if_pos hc190_29))) hc165_26
        refine OGo.to (fun _ k => XS.icmpNo X25.here hx rfl (hb hby at_197) rfl (feq hc197_30).1 k) ?_
        show OGo p e below _ (T25.setTop (mkF m 200 #[.val (.long q1), .second, .val (.int p1), .val (.int p2), .val (.long q2), .second, .val (.int p3), .val (.int p4), .val (.long ta), .second, .val (.int ca), .val (.int ka), .val (.int cb), .val (.int kb), .val (.int mode), .val (.long tb), .second, .val (.int cc), .val (.int kk), .val (.ref b9), .val (.ref b13), .val (.int (own_h ta ca ka)), .val (.int (own_h tb cc kk)), .val (.int (own_eq ta ca ka tb cc kk))] []))
        refine OGo.to (fun _ k => XS.iconst X25.here hx rfl (hb hby at_200) k) ?_
        show OGo p e below _ (T25.setTop (mkF m 201 #[.val (.long q1), .second, .val (.int p1), .val (.int p2), .val (.long q2), .second, .val (.int p3), .val (.int p4), .val (.long ta), .second, .val (.int ca), .val (.int ka), .val (.int cb), .val (.int kb), .val (.int mode), .val (.long tb), .second, .val (.int cc), .val (.int kk), .val (.ref b9), .val (.ref b13), .val (.int (own_h ta ca ka)), .val (.int (own_h tb cc kk)), .val (.int (own_eq ta ca ka tb cc kk))] [(.int (1 : Int32))]))
        refine OGo.to (fun _ k => XS.goto X25.here hx rfl (pc0 := 201) (pc' := 205) rfl (hb hby at_201) (by decide) (by decide) k) ?_
        show OGo p e below _ (T25.setTop (mkF m 205 #[.val (.long q1), .second, .val (.int p1), .val (.int p2), .val (.long q2), .second, .val (.int p3), .val (.int p4), .val (.long ta), .second, .val (.int ca), .val (.int ka), .val (.int cb), .val (.int kb), .val (.int mode), .val (.long tb), .second, .val (.int cc), .val (.int kk), .val (.ref b9), .val (.ref b13), .val (.int (own_h ta ca ka)), .val (.int (own_h tb cc kk)), .val (.int (own_eq ta ca ka tb cc kk))] [(.int (1 : Int32))]))
        refine OGo.ret (Q := Q0 Z q1 p1 p2 q2 p3 p4 h0 n0) X25 (some (.int (1 : Int32))) (fun h => by rw [Bd.returns] at h; cases h) Bd.notSynchronized (fun fs hr => retN X25 hx (t := .boolean) (z := (1 : Int32)) Bd.returns (by simp) (hb hby at_205) hr) ?_ (by decide) (by decide)
        show Q0 Z q1 p1 p2 q2 p3 p4 h0 n0 _ T25.heap _
        rw [e25]
        exact ⟨rfl, N25⟩
      ·  -- pc 190: no
        refine OGo.to (fun _ k => XS.icmpYes X25.here hx rfl (pc0 := 190) (pc' := 206) rfl (hb hby at_190) rfl (feq hc190_29).2 (by decide) (by decide) k) ?_
        show OGo p e below _ (T25.setTop (mkF m 206 #[.val (.long q1), .second, .val (.int p1), .val (.int p2), .val (.long q2), .second, .val (.int p3), .val (.int p4), .val (.long ta), .second, .val (.int ca), .val (.int ka), .val (.int cb), .val (.int kb), .val (.int mode), .val (.long tb), .second, .val (.int cc), .val (.int kk), .val (.ref b9), .val (.ref b13), .val (.int (own_h ta ca ka)), .val (.int (own_h tb cc kk)), .val (.int (own_eq ta ca ka tb cc kk))] []))
        refine OGo.to (fun _ k => XS.iconst X25.here hx rfl (hb hby at_206) k) ?_
        show OGo p e below _ (T25.setTop (mkF m 207 #[.val (.long q1), .second, .val (.int p1), .val (.int p2), .val (.long q2), .second, .val (.int p3), .val (.int p4), .val (.long ta), .second, .val (.int ca), .val (.int ka), .val (.int cb), .val (.int kb), .val (.int mode), .val (.long tb), .second, .val (.int cc), .val (.int kk), .val (.ref b9), .val (.ref b13), .val (.int (own_h ta ca ka)), .val (.int (own_h tb cc kk)), .val (.int (own_eq ta ca ka tb cc kk))] [(.int (1 : Int32))]))
        refine OGo.ret (Q := Q0 Z q1 p1 p2 q2 p3 p4 h0 n0) X25 (some (.int (1 : Int32))) (fun h => by rw [Bd.returns] at h; cases h) Bd.notSynchronized (fun fs hr => retN X25 hx (t := .boolean) (z := (1 : Int32)) Bd.returns (by simp) (hb hby at_207) hr) ?_ (by decide) (by decide)
        show Q0 Z q1 p1 p2 q2 p3 p4 h0 n0 _ T25.heap _
        rw [e25]
        exact ⟨rfl, N25⟩
  ·  -- pc 165: no
    refine OGo.to (fun _ k => XS.ifNo X25.here hx rfl (hb hby at_165) rfl ((if0 _ _).trans (feq hc165_26).1) k) ?_
    show OGo p e below _ (T25.setTop (mkF m 168 #[.val (.long q1), .second, .val (.int p1), .val (.int p2), .val (.long q2), .second, .val (.int p3), .val (.int p4), .val (.long ta), .second, .val (.int ca), .val (.int ka), .val (.int cb), .val (.int kb), .val (.int mode), .val (.long tb), .second, .val (.int cc), .val (.int kk), .val (.ref b9), .val (.ref b13), .val (.int (own_h ta ca ka)), .val (.int (own_h tb cc kk)), .val (.int (own_eq ta ca ka tb cc kk))] []))
    refine OGo.to (fun _ k => XS.iload X25.here hx rfl (hb hby at_168) rfl k) ?_
    show OGo p e below _ (T25.setTop (mkF m 170 #[.val (.long q1), .second, .val (.int p1), .val (.int p2), .val (.long q2), .second, .val (.int p3), .val (.int p4), .val (.long ta), .second, .val (.int ca), .val (.int ka), .val (.int cb), .val (.int kb), .val (.int mode), .val (.long tb), .second, .val (.int cc), .val (.int kk), .val (.ref b9), .val (.ref b13), .val (.int (own_h ta ca ka)), .val (.int (own_h tb cc kk)), .val (.int (own_eq ta ca ka tb cc kk))] [(.int (own_h ta ca ka))]))
    refine OGo.to (fun _ k => XS.iload X25.here hx rfl (hb hby at_170) rfl k) ?_
    show OGo p e below _ (T25.setTop (mkF m 172 #[.val (.long q1), .second, .val (.int p1), .val (.int p2), .val (.long q2), .second, .val (.int p3), .val (.int p4), .val (.long ta), .second, .val (.int ca), .val (.int ka), .val (.int cb), .val (.int kb), .val (.int mode), .val (.long tb), .second, .val (.int cc), .val (.int kk), .val (.ref b9), .val (.ref b13), .val (.int (own_h ta ca ka)), .val (.int (own_h tb cc kk)), .val (.int (own_eq ta ca ka tb cc kk))] [(.int (own_h tb cc kk)), (.int (own_h ta ca ka))]))
    have hc172_31 : (own_h ta ca ka) = (own_h tb cc kk) := own_A hc165_26
    refine OGo.to (fun _ k => XS.icmpNo X25.here hx rfl (hb hby at_172) rfl (teq hc172_31).2 k) ?_
    show OGo p e below _ (T25.setTop (mkF m 175 #[.val (.long q1), .second, .val (.int p1), .val (.int p2), .val (.long q2), .second, .val (.int p3), .val (.int p4), .val (.long ta), .second, .val (.int ca), .val (.int ka), .val (.int cb), .val (.int kb), .val (.int mode), .val (.long tb), .second, .val (.int cc), .val (.int kk), .val (.ref b9), .val (.ref b13), .val (.int (own_h ta ca ka)), .val (.int (own_h tb cc kk)), .val (.int (own_eq ta ca ka tb cc kk))] []))
    refine OGo.to (fun _ k => XS.iconst X25.here hx rfl (hb hby at_175) k) ?_
    show OGo p e below _ (T25.setTop (mkF m 176 #[.val (.long q1), .second, .val (.int p1), .val (.int p2), .val (.long q2), .second, .val (.int p3), .val (.int p4), .val (.long ta), .second, .val (.int ca), .val (.int ka), .val (.int cb), .val (.int kb), .val (.int mode), .val (.long tb), .second, .val (.int cc), .val (.int kk), .val (.ref b9), .val (.ref b13), .val (.int (own_h ta ca ka)), .val (.int (own_h tb cc kk)), .val (.int (own_eq ta ca ka tb cc kk))] [(.int (1 : Int32))]))
    refine OGo.to (fun _ k => XS.goto X25.here hx rfl (pc0 := 176) (pc' := 180) rfl (hb hby at_176) (by decide) (by decide) k) ?_
    show OGo p e below _ (T25.setTop (mkF m 180 #[.val (.long q1), .second, .val (.int p1), .val (.int p2), .val (.long q2), .second, .val (.int p3), .val (.int p4), .val (.long ta), .second, .val (.int ca), .val (.int ka), .val (.int cb), .val (.int kb), .val (.int mode), .val (.long tb), .second, .val (.int cc), .val (.int kk), .val (.ref b9), .val (.ref b13), .val (.int (own_h ta ca ka)), .val (.int (own_h tb cc kk)), .val (.int (own_eq ta ca ka tb cc kk))] [(.int (1 : Int32))]))
    refine OGo.ret (Q := Q0 Z q1 p1 p2 q2 p3 p4 h0 n0) X25 (some (.int (1 : Int32))) (fun h => by rw [Bd.returns] at h; cases h) Bd.notSynchronized (fun fs hr => retN X25 hx (t := .boolean) (z := (1 : Int32)) Bd.returns (by simp) (hb hby at_180) hr) ?_ (by decide) (by decide)
    show Q0 Z q1 p1 p2 q2 p3 p4 h0 n0 _ T25.heap _
    rw [e25]
    exact ⟨rfl, N25⟩
set_option maxRecDepth 65536 in
set_option maxHeartbeats 40000000 in
theorem comes_1 {Post : Tables → Env → Array Value → State → Outcome → State → Prop} (hpost : ∀ tb e args s v u, (limb_1_1.after args s (.returned v) u = true ∧ limb_1_2.after args s (.returned v) u = true ∧ True) → FrameEnd s (.returned v) u (Jvm.fieldLocs frame_1_writes args s ++ Jvm.arrayLocs frame_1_arrays args s ++ Jvm.staticLocs frame_1_statics s) 16 128 → Post tb e args s (.returned v) u) :
    ArmFor flags0 classFile x code maxLocals ret World_1 tables_1 room_1 Calls_1 rest_1 Pre_1 Post := by
  intro l hfl _ _ p e ha hc hk s m args below hf hA hF happ hP
  obtain ⟨hcalls, hrest, hpre⟩ := hP
  obtain ⟨-, -, -, hnamed, -, -, -, hat⟩ := (Spec.applies_iff hf).mp happ
  obtain ⟨hg, hn⟩ := and_e (Cond.before_iff.mp (show (Jvm.Cond.and given_1 narrow_1).before args s = true from hpre))
  obtain ⟨g1, g2⟩ := and_e hg
  obtain ⟨g3, g4⟩ := and_e g2
  obtain ⟨g5, g6⟩ := and_e g4
  obtain ⟨g7, g8⟩ := and_e g6
  obtain ⟨g9, g10⟩ := and_e g8
  obtain ⟨g11, g12⟩ := and_e g10
  obtain ⟨w0, w1, w2, w3, w4, w5, rfl⟩ : ∃ w0 w1 w2 w3 w4 w5 : Value, args = #[w0, w1, w2, w3, w4, w5] := by
    have hs : args.size = 6 := by simpa [Cond.value, given_1] using g1
    obtain ⟨L⟩ := args
    match L, hs with
    | [w0, w1, w2, w3, w4, w5], _ => exact ⟨w0, w1, w2, w3, w4, w5, rfl⟩
  have hw := fun d (hd : d ∈ tables_1) => atoms_spec (ws := Jvm.Cond.code x code maxLocals ret :: tables_1) hat d (List.mem_cons_of_mem _ hd)
  have hfit : Fit s := fun {y c} hc i hi => by
    obtain ⟨ha, rfl⟩ := Array.getElem?_eq_some_iff.mp hc
    have q := List.all_eq_true.mp ((Array.all_eq_true_iff_forall_mem.mp hF) _ (Array.getElem_mem ha)) i (List.mem_range.mpr hi)
    simpa [Array.getElem?_eq_getElem hi] using q
  obtain ⟨i0, ei0⟩ := isL_v g3
  obtain rfl : w0 = (.long i0) := Option.some.inj ei0
  obtain ⟨i1, ei1⟩ := is_v g5
  obtain rfl : w1 = (.int i1) := Option.some.inj ei1
  obtain ⟨i2, ei2⟩ := is_v g7
  obtain rfl : w2 = (.int i2) := Option.some.inj ei2
  obtain ⟨i3, ei3⟩ := isL_v g9
  obtain rfl : w3 = (.long i3) := Option.some.inj ei3
  obtain ⟨i4, ei4⟩ := is_v g11
  obtain rfl : w4 = (.int i4) := Option.some.inj ei4
  obtain ⟨i5, ei5⟩ := is_v g12
  obtain rfl : w5 = (.int i5) := Option.some.inj ei5
  obtain ⟨n, o, h1, h2, h3, _, L, rfl, ⟨rfl, N⟩, hq⟩ := rm0 l s _ hw tables_1 i0 i1 i2 i3 i4 i5 s.heap s.heap.size (Nat.le_refl _)  p e ha hc hk s m _ below hf ((Spec.applies_iff_loose hf).mp happ).1 ⟨rfl, State.Warmed39.refl s, rfl⟩ trivial
  refine ⟨n, _, h1, h2, h3, hpost _ _ _ _ _ _ ⟨Cond.after_iff.mpr rfl, Cond.after_iff.mpr (eq_i res_at (Term.int_eval (1)) rfl), trivial⟩ ⟨hq.1, hq.2.1, (hq.2.2.sift fun y hy => Or.inr (N y hy)).mono (by decide) (by decide)⟩⟩
theorem main_1_1 : Claimed_1_1 := comes_1 fun _ _ _ _ _ _ h hF => ⟨h.1, hF⟩
theorem main_1_2 : Claimed_1_2 := comes_1 fun _ _ _ _ _ _ h hF => ⟨h.2.1, hF⟩
end Jvm.Pilot.@@N@@
namespace Jvm.Pilot.@@N@@
open Jvm Jvm.ClassFile Sem Op Lib Jvm.Free Jvm.Stand Jvm.Pilot.@@N@@.Jvm.D
/-! MADE BY PROGRAM (witnessworld.py) out of the Statement's table words and the real class files: 16 classes; the members and pool entries that the words name. The judged class is class 1, her method 1. -/
namespace start1
open Jvm.ClassFile
def u (s : String) : CpInfo := .utf8 (stringToUtf16 s)
/-- a pool by its gaps: so many unusable entries, then the entry; so many at the end -/
def gap : Nat → List CpInfo → List CpInfo
  | 0, r => r
  | n + 1, r => .unusable :: gap n r
def poolList (es : List (Nat × CpInfo)) (last : Nat) : List CpInfo := es.foldr (fun e r => gap e.1 (e.2 :: r)) (gap last [])
def pool (es : List (Nat × CpInfo)) (last : Nat) : Array CpInfo := ⟨poolList es last⟩
def fileOf (pool : Array CpInfo) (this : Nat) (attrs : Array Attribute := #[]) (ms : Array MethodInfo := #[]) (fl : Nat := 33) (sup : Nat := 0) (ifs : Array Nat := #[]) (fds : Array FieldInfo := #[]) : ClassFile where
  minorVersion := 0
  majorVersion := 65
  constantPool := pool
  accessFlags := fl
  thisClass := this
  superClass := sup
  interfaces := ifs
  fields := fds
  methods := ms
  attributes := attrs
def plain (name : String) (sup : Option ClassId) : Class where
  name := name
  kind := .ordinary
  loader := none
  accessFlags := 33
  super := sup
  interfaces := #[]
  cf := none
  fields := #[]
  methods := #[]
  instanceTypes := #[]
  staticTypes := #[]
  resolved := #[]
  callSites := []
  init := .initialized
  statics := none
  mirror := none

def pool0 : Array CpInfo := pool [(5, u "<init>"), (0, u "()V"), (1, .class_ 10), (1, u "java/lang/Object")] 113

def k0c0 : Code := { maxStack := 0, maxLocals := 1, code := object_method_1_code, exceptionTable := #[], attributes := #[] }
def k0m0 : Method := { name := "<init>", desc := "()V", sig := { parameters := [], returnType := none }, accessFlags := 1, code := some k0c0 }
/-- java/lang/Object -/
def k0 : Class := { plain "java/lang/Object" none with
  accessFlags := 33
  interfaces := #[]
  cf := some (fileOf pool0 8 #[] #[{ accessFlags := 1, nameIndex := 5, descriptorIndex := 6, attributes := #[] }] 33 0 #[] #[])
  fields := #[]
  methods := #[k0m0]
  instanceTypes := #[]
  staticTypes := #[]
  resolved := Array.replicate 124 none
  statics := none }

def pool1 : Array CpInfo := pool [(2, .class_ 4), (1, u "java/lang/Object"), (0, u "<init>"), (0, u "()V"), (2, .long 9223372036854775807), (1, .integer 2147483647), (0, .methodref 13 14), (0, .class_ 15), (0, .nameAndType 16 17), (0, u "java/lang/Math"), (0, u "max"), (0, u "(II)I"), (0, .long 3), (1, .class_ 21), (0, u "com/example/heartwood/heartwood/Revision"), (0, .methodref 20 23), (0, .nameAndType 5 24), (0, u "(JII)V"), (0, .methodref 20 26), (0, .nameAndType 27 28), (0, u "hashCode"), (0, u "()I"), (0, .methodref 20 30), (0, .nameAndType 31 32), (0, u "equals"), (0, u "(Ljava/lang/Object;)Z"), (0, .class_ 34), (0, u "com/example/heartwood/heartwood/RevisionHashCodePinLaw"), (2, u "law"), (0, u "(JIIJII)Z")] 3

def k1m0 : Method := { name := "<init>", desc := "()V", sig := { parameters := [], returnType := none }, accessFlags := 1, code := none }
def k1c1 : Code := { maxStack := 6, maxLocals := 24, code := code, exceptionTable := #[], attributes := #[] }
def k1m1 : Method := { name := "law", desc := "(JIIJII)Z", sig := { parameters := [.long, .int, .int, .long, .int, .int], returnType := some .boolean }, accessFlags := 9, code := some k1c1 }
/-- com/example/heartwood/heartwood/RevisionHashCodePinLaw -/
def k1 : Class := { plain "com/example/heartwood/heartwood/RevisionHashCodePinLaw" (some 0) with
  accessFlags := 49
  interfaces := #[]
  cf := some (fileOf pool1 33 #[] #[{ accessFlags := 1, nameIndex := 5, descriptorIndex := 6, attributes := #[] }, { accessFlags := 9, nameIndex := 37, descriptorIndex := 38, attributes := #[] }] 49 2 #[] #[])
  fields := #[]
  methods := #[k1m0, k1m1]
  instanceTypes := #[]
  staticTypes := #[]
  resolved := Array.replicate 42 none
  statics := none }

def pool2 : Array CpInfo := pool [(1, .class_ 2), (0, u "java/lang/Math"), (1, .class_ 6), (1, u "java/lang/Object"), (0, u "<init>"), (0, u "()V"), (89, .class_ 100), (1, u "java/lang/Math$RandomNumberGeneratorHolder"), (71, u "negativeZeroFloatBits"), (0, u "J"), (2, u "negativeZeroDoubleBits"), (21, u "max"), (46, u "$assertionsDisabled"), (0, u "Z"), (88, u "(II)I"), (2, u "twoToTheDoubleScaleDown"), (0, u "D"), (4, u "twoToTheDoubleScaleUp"), (9, u "E"), (3, u "PI"), (2, u "TAU"), (2, u "DEGREES_TO_RADIANS"), (0, u "RADIANS_TO_DEGREES")] 94

def k2m0 : Method := { name := "<init>", desc := "()V", sig := { parameters := [], returnType := none }, accessFlags := 2, code := none }
def k2c1 : Code := { maxStack := 2, maxLocals := 2, code := jdk_29_method_65_code, exceptionTable := #[], attributes := #[] }
def k2m1 : Method := { name := "max", desc := "(II)I", sig := { parameters := [.int, .int], returnType := some .int }, accessFlags := 9, code := some k2c1 }
/-- java/lang/Math -/
def k2 : Class := { plain "java/lang/Math" (some 0) with
  accessFlags := 49
  interfaces := #[]
  cf := some (fileOf pool2 1 #[.nestMembers #[98]] #[{ accessFlags := 2, nameIndex := 7, descriptorIndex := 8, attributes := #[] }, { accessFlags := 9, nameIndex := 198, descriptorIndex := 335, attributes := #[] }] 49 4 #[] #[{ accessFlags := 25, nameIndex := 354, descriptorIndex := 339, attributes := #[] }, { accessFlags := 25, nameIndex := 358, descriptorIndex := 339, attributes := #[] }, { accessFlags := 25, nameIndex := 361, descriptorIndex := 339, attributes := #[] }, { accessFlags := 26, nameIndex := 364, descriptorIndex := 339, attributes := #[] }, { accessFlags := 26, nameIndex := 365, descriptorIndex := 339, attributes := #[] }, { accessFlags := 26, nameIndex := 172, descriptorIndex := 173, attributes := #[] }, { accessFlags := 26, nameIndex := 176, descriptorIndex := 173, attributes := #[] }, { accessFlags := 8, nameIndex := 344, descriptorIndex := 339, attributes := #[] }, { accessFlags := 8, nameIndex := 338, descriptorIndex := 339, attributes := #[] }, { accessFlags := 4120, nameIndex := 245, descriptorIndex := 246, attributes := #[] }])
  fields := #[{ name := "E", type := .double, accessFlags := 25, slot := 0, constantValue := 0 }, { name := "PI", type := .double, accessFlags := 25, slot := 1, constantValue := 0 }, { name := "TAU", type := .double, accessFlags := 25, slot := 2, constantValue := 0 }, { name := "DEGREES_TO_RADIANS", type := .double, accessFlags := 26, slot := 3, constantValue := 0 }, { name := "RADIANS_TO_DEGREES", type := .double, accessFlags := 26, slot := 4, constantValue := 0 }, { name := "negativeZeroFloatBits", type := .long, accessFlags := 26, slot := 5, constantValue := 0 }, { name := "negativeZeroDoubleBits", type := .long, accessFlags := 26, slot := 6, constantValue := 0 }, { name := "twoToTheDoubleScaleUp", type := .double, accessFlags := 8, slot := 7, constantValue := 0 }, { name := "twoToTheDoubleScaleDown", type := .double, accessFlags := 8, slot := 8, constantValue := 0 }, { name := "$assertionsDisabled", type := .boolean, accessFlags := 4120, slot := 9, constantValue := 0 }]
  methods := #[k2m0, k2m1]
  instanceTypes := #[]
  staticTypes := #[.double, .double, .double, .double, .double, .long, .long, .double, .double, .boolean]
  resolved := Array.replicate 460 none
  statics := none }

def pool3 : Array CpInfo := pool [(1, .methodref 2 3), (0, .class_ 4), (0, .nameAndType 5 6), (0, u "java/lang/Object"), (0, u "<init>"), (0, u "()V"), (0, .class_ 8), (0, u "java/lang/Record")] 13

def k3c0 : Code := { maxStack := 1, maxLocals := 1, code := jdk_30_method_1_code, exceptionTable := #[], attributes := #[] }
def k3m0 : Method := { name := "<init>", desc := "()V", sig := { parameters := [], returnType := none }, accessFlags := 4, code := some k3c0 }
/-- java/lang/Record -/
def k3 : Class := { plain "java/lang/Record" (some 0) with
  accessFlags := 1057
  interfaces := #[]
  cf := some (fileOf pool3 7 #[] #[{ accessFlags := 4, nameIndex := 5, descriptorIndex := 6, attributes := #[] }] 1057 2 #[] #[])
  fields := #[]
  methods := #[k3m0]
  instanceTypes := #[]
  staticTypes := #[]
  resolved := Array.replicate 22 none
  statics := none }

def pool4 : Array CpInfo := pool [(1, .class_ 2), (0, u "java/lang/Comparable"), (0, .class_ 4), (0, u "java/lang/Object")] 7

/-- java/lang/Comparable -/
def k4 : Class := { plain "java/lang/Comparable" (some 0) with
  accessFlags := 1537
  interfaces := #[]
  cf := some (fileOf pool4 1 #[] #[] 1537 3 #[] #[])
  fields := #[]
  methods := #[]
  instanceTypes := #[]
  staticTypes := #[]
  resolved := Array.replicate 12 none
  statics := none }

def pool5 : Array CpInfo := pool [(1, .methodref 2 3), (0, .class_ 4), (0, .nameAndType 5 6), (0, u "java/lang/Record"), (0, u "<init>"), (0, u "()V"), (9, .fieldref 17 18), (0, .class_ 19), (0, .nameAndType 20 21), (0, u "com/example/heartwood/heartwood/Revision"), (0, u "timestamp"), (0, u "J"), (0, .fieldref 17 23), (0, .nameAndType 24 25), (0, u "counter"), (0, u "I"), (0, .fieldref 17 27), (0, .nameAndType 28 25), (0, u "clusterId"), (30, .class_ 60), (0, u "java/lang/Long"), (12, u "(JII)V"), (7, .methodref 59 82), (0, .nameAndType 83 84), (0, u "hashCode"), (0, u "(J)I"), (20, u "()I"), (9, .class_ 116), (0, u "java/lang/Comparable"), (8, u "equals"), (0, u "(Ljava/lang/Object;)Z")] 30

def k5c0 : Code := { maxStack := 6, maxLocals := 5, code := prog_16_method_1_code, exceptionTable := #[], attributes := #[] }
def k5m0 : Method := { name := "<init>", desc := "(JII)V", sig := { parameters := [.long, .int, .int], returnType := none }, accessFlags := 1, code := some k5c0 }
def k5c1 : Code := { maxStack := 4, maxLocals := 3, code := prog_16_method_4_code, exceptionTable := #[], attributes := #[] }
def k5m1 : Method := { name := "equals", desc := "(Ljava/lang/Object;)Z", sig := { parameters := [(.object "java/lang/Object")], returnType := some .boolean }, accessFlags := 1, code := some k5c1 }
def k5c2 : Code := { maxStack := 2, maxLocals := 1, code := prog_16_method_5_code, exceptionTable := #[], attributes := #[] }
def k5m2 : Method := { name := "hashCode", desc := "()I", sig := { parameters := [], returnType := some .int }, accessFlags := 1, code := some k5c2 }
/-- com/example/heartwood/heartwood/Revision -/
def k5 : Class := { plain "com/example/heartwood/heartwood/Revision" (some 3) with
  accessFlags := 49
  interfaces := #[4]
  cf := some (fileOf pool5 17 #[] #[{ accessFlags := 1, nameIndex := 5, descriptorIndex := 73, attributes := #[] }, { accessFlags := 1, nameIndex := 125, descriptorIndex := 126, attributes := #[] }, { accessFlags := 1, nameIndex := 83, descriptorIndex := 105, attributes := #[] }] 49 2 #[115] #[{ accessFlags := 18, nameIndex := 20, descriptorIndex := 21, attributes := #[] }, { accessFlags := 18, nameIndex := 24, descriptorIndex := 25, attributes := #[] }, { accessFlags := 18, nameIndex := 28, descriptorIndex := 25, attributes := #[] }])
  fields := #[{ name := "timestamp", type := .long, accessFlags := 18, slot := 0, constantValue := 0 }, { name := "counter", type := .int, accessFlags := 18, slot := 1, constantValue := 0 }, { name := "clusterId", type := .int, accessFlags := 18, slot := 2, constantValue := 0 }]
  methods := #[k5m0, k5m1, k5m2]
  instanceTypes := #[.long, .int, .int]
  staticTypes := #[]
  resolved := Array.replicate 157 none
  statics := none }

def pool6 : Array CpInfo := pool [(1, .class_ 2), (0, u "java/io/Serializable"), (0, .class_ 4), (0, u "java/lang/Object")] 2

/-- java/io/Serializable -/
def k6 : Class := { plain "java/io/Serializable" (some 0) with
  accessFlags := 1537
  interfaces := #[]
  cf := some (fileOf pool6 1 #[] #[] 1537 3 #[] #[])
  fields := #[]
  methods := #[]
  instanceTypes := #[]
  staticTypes := #[]
  resolved := Array.replicate 7 none
  statics := none }

def pool7 : Array CpInfo := pool [(2, .class_ 4), (1, u "java/lang/Object"), (0, u "<init>"), (0, u "()V"), (1, .class_ 10), (1, u "java/lang/Number"), (2, .class_ 14), (0, u "java/io/Serializable"), (0, u "serialVersionUID"), (0, u "J")] 20

def k7m0 : Method := { name := "<init>", desc := "()V", sig := { parameters := [], returnType := none }, accessFlags := 1, code := none }
/-- java/lang/Number -/
def k7 : Class := { plain "java/lang/Number" (some 0) with
  accessFlags := 1057
  interfaces := #[6]
  cf := some (fileOf pool7 8 #[] #[{ accessFlags := 1, nameIndex := 5, descriptorIndex := 6, attributes := #[] }] 1057 2 #[13] #[{ accessFlags := 26, nameIndex := 15, descriptorIndex := 16, attributes := #[] }])
  fields := #[{ name := "serialVersionUID", type := .long, accessFlags := 26, slot := 0, constantValue := 0 }]
  methods := #[k7m0]
  instanceTypes := #[]
  staticTypes := #[.long]
  resolved := Array.replicate 37 none
  statics := none }

def pool8 : Array CpInfo := pool [(1, .class_ 2), (0, u "java/lang/constant/Constable"), (0, .class_ 4), (0, u "java/lang/Object")] 6

/-- java/lang/constant/Constable -/
def k8 : Class := { plain "java/lang/constant/Constable" (some 0) with
  accessFlags := 1537
  interfaces := #[]
  cf := some (fileOf pool8 1 #[] #[] 1537 3 #[] #[])
  fields := #[]
  methods := #[]
  instanceTypes := #[]
  staticTypes := #[]
  resolved := Array.replicate 11 none
  statics := none }

def pool9 : Array CpInfo := pool [(1, .class_ 2), (0, u "java/lang/constant/ConstantDesc"), (0, .class_ 4), (0, u "java/lang/Object")] 32

/-- java/lang/constant/ConstantDesc -/
def k9 : Class := { plain "java/lang/constant/ConstantDesc" (some 0) with
  accessFlags := 1537
  interfaces := #[]
  cf := some (fileOf pool9 1 #[] #[] 1537 3 #[] #[])
  fields := #[]
  methods := #[]
  instanceTypes := #[]
  staticTypes := #[]
  resolved := Array.replicate 37 none
  statics := none }

def pool10 : Array CpInfo := pool [(1, .class_ 2), (0, u "java/lang/Long"), (98, u "(J)I"), (133, .class_ 237), (1, u "java/lang/Long$LongCache"), (33, .class_ 272), (0, u "java/lang/Number"), (2, u "value"), (0, u "J"), (2, u "hashCode"), (81, u "TYPE"), (0, u "Ljava/lang/Class;"), (0, .class_ 364), (0, u "java/lang/Comparable"), (0, .class_ 366), (0, u "java/lang/constant/Constable"), (0, .class_ 368), (0, u "java/lang/constant/ConstantDesc"), (0, u "MIN_VALUE"), (1, u "MAX_VALUE"), (4, u "SIZE"), (0, u "I"), (1, u "BYTES"), (1, u "serialVersionUID")] 142

def k10c0 : Code := { maxStack := 5, maxLocals := 2, code := jdk_35_method_36_code, exceptionTable := #[], attributes := #[] }
def k10m0 : Method := { name := "hashCode", desc := "(J)I", sig := { parameters := [.long], returnType := some .int }, accessFlags := 9, code := some k10c0 }
/-- java/lang/Long -/
def k10 : Class := { plain "java/lang/Long" (some 7) with
  accessFlags := 49
  interfaces := #[4, 8, 9]
  cf := some (fileOf pool10 1 #[.nestMembers #[235]] #[{ accessFlags := 9, nameIndex := 279, descriptorIndex := 101, attributes := #[] }] 49 271 #[363, 365, 367] #[{ accessFlags := 25, nameIndex := 369, descriptorIndex := 276, attributes := #[] }, { accessFlags := 25, nameIndex := 371, descriptorIndex := 276, attributes := #[] }, { accessFlags := 25, nameIndex := 361, descriptorIndex := 362, attributes := #[] }, { accessFlags := 18, nameIndex := 275, descriptorIndex := 276, attributes := #[] }, { accessFlags := 25, nameIndex := 376, descriptorIndex := 377, attributes := #[] }, { accessFlags := 25, nameIndex := 379, descriptorIndex := 377, attributes := #[] }, { accessFlags := 26, nameIndex := 381, descriptorIndex := 276, attributes := #[] }])
  fields := #[{ name := "MIN_VALUE", type := .long, accessFlags := 25, slot := 0, constantValue := 0 }, { name := "MAX_VALUE", type := .long, accessFlags := 25, slot := 1, constantValue := 0 }, { name := "TYPE", type := (.object "java/lang/Class"), accessFlags := 25, slot := 2, constantValue := 0 }, { name := "value", type := .long, accessFlags := 18, slot := 0, constantValue := 0 }, { name := "SIZE", type := .int, accessFlags := 25, slot := 3, constantValue := 0 }, { name := "BYTES", type := .int, accessFlags := 25, slot := 4, constantValue := 0 }, { name := "serialVersionUID", type := .long, accessFlags := 26, slot := 5, constantValue := 0 }]
  methods := #[k10m0]
  instanceTypes := #[.long]
  staticTypes := #[.long, .long, (.object "java/lang/Class"), .int, .int, .long]
  resolved := Array.replicate 524 none
  statics := none }

def pool11 : Array CpInfo := pool [(1, u "java/lang/Cloneable"), (0, .class_ 1), (0, u "java/lang/Object"), (0, .class_ 3)] 3

/-- java/lang/Cloneable -/
def k11 : Class := { plain "java/lang/Cloneable" (some 0) with
  accessFlags := 1537
  interfaces := #[]
  cf := some (fileOf pool11 2 #[] #[] 1537 4 #[] #[])
  fields := #[]
  methods := #[]
  instanceTypes := #[]
  staticTypes := #[]
  resolved := Array.replicate 8 none
  statics := none }

/-- the primitive byte -/
def k12 : Class := { plain "byte" none with kind := .primitive 'B', accessFlags := 0x411 }
/-- [B -/
def k13 : Class := { plain "[B" (some 0) with kind := .array 12 .byte, interfaces := #[11, 6], accessFlags := 1041 }

/-- the primitive int -/
def k14 : Class := { plain "int" none with kind := .primitive 'I', accessFlags := 0x411 }
/-- [I -/
def k15 : Class := { plain "[I" (some 0) with kind := .array 14 .int, interfaces := #[11, 6], accessFlags := 1041 }

def heap : Heap := #[]
def classes : Array Class := #[k0, k1, k2, k3, k4, k5, k6, k7, k8, k9, k10, k11, k12, k13, k14, k15]
def interned : List (Array UInt16 × Addr) := []
def slotsUsed : Nat := 0
def theMethod : MethodId := ⟨1, 1⟩
def args0 : Array Value := #[.long 5, .int 7, .int 9, .long 3, .int 2, .int 4]
def aboutOver (below : List Frame) : State where
  vm := { classes := classes, interned := interned.toArray }
  heap := heap
  slotsUsed := slotsUsed
  threads := #[{ frames := .invoking theMethod args0 :: below }]
def below0 : List Frame := [.native { method := ⟨0, 0⟩, args := #[] }]
def about1 : State := aboutOver below0
def p0 : Program := .bare "" "" ""
def e0 : Env := launch0.env 0 0 0
theorem w_frames : about1.frames = Frame.invoking theMethod args0 :: below0 := rfl
set_option maxRecDepth 65536 in
theorem w_args : argsFit about1.vm theMethod args0 = true := by decide +kernel
set_option maxRecDepth 65536 in
theorem w_heap : heapFits about1 = true := by decide +kernel
set_option maxRecDepth 65536 in
theorem w_runnable : about1.curStatus? = some .runnable := by decide +kernel
set_option maxRecDepth 65536 in
theorem w_alone : about1.alone = true := by decide +kernel
set_option maxRecDepth 65536 in
theorem w_named : about1.methodNamed? x = some theMethod := by decide +kernel
set_option maxRecDepth 65536 in
theorem w_hears : about1.hears theMethod below0 = true := by decide +kernel
set_option maxRecDepth 65536 in
theorem w_ripe : about1.ripe theMethod args0 below0 = true := by decide +kernel
theorem w_running : about1.status = .running := rfl
set_option maxRecDepth 65536 in
theorem w_room : about1.hasRoom e0.platform room_1 = true :=
  launch0.hasRoom_least _ room_1 (by decide +kernel) (by decide +kernel) (by decide +kernel) (by decide +kernel) (by decide +kernel) (by decide +kernel)
theorem allAtoms_all (ts : List Jvm.Cond) (a : Array Jvm.Value) (st : Jvm.State) : (allAtoms ts).before a st = ts.all (fun c => c.before a st) := by
  induction ts with
  | nil => rfl
  | cons c t ih =>
    show (Jvm.Cond.and c (allAtoms t)).before a st = _
    rw [Jvm.Cond.before_and, ih, List.all_cons]
def words1 : List Jvm.Cond := Jvm.Cond.code x code maxLocals ret :: tables_1
/-- a 'code' word, met by the world's own term for the bytes: nothing is compared byte by byte -/
theorem code_word {y : MethodName} {bytes : ByteArray} {mx : Nat} {rt : Option FieldType} {a : Array Value} {s : State} {m : MethodId} {meth : Method} {c : Code} (h1 : s.methodNamed? y = some m) (h2 : s.vm.method? m = some meth) (h3 : meth.code = some c) (h4 : c.code = bytes)
    (h5 : (c.maxLocals == mx && c.exceptionTable.isEmpty && decide (c.maxStack ≤ mostOperands) && decide (meth.sig.returnType = rt) && !meth.locks && decide (parseMethodDescriptor y.desc = some meth.sig)) = true) : (Jvm.Cond.code y bytes mx rt).before a s = true := by
  simp only [Bool.and_eq_true, beq_iff_eq, Bool.not_eq_true', decide_eq_true_eq] at h5
  obtain ⟨⟨⟨⟨⟨g1, g2⟩, g3⟩, g4⟩, g5⟩, g6⟩ := h5
  simp [Cond.before, Cond.holds, Cond.value, h1, h2, h3, h4, g1, g2, g3, g4, g5, g6]
def isCode : Jvm.Cond → Bool
  | .code _ _ _ _ => true
  | _ => false
theorem all_split {L : List Jvm.Cond} {P : Jvm.Cond → Bool} (h1 : L.all (fun c => isCode c || P c) = true) (h2 : ∀ c ∈ L.filter isCode, P c = true) : L.all P = true := by
  refine List.all_eq_true.mpr fun c hc => ?_
  have h := List.all_eq_true.mp h1 c hc
  rcases Bool.eq_false_or_eq_true (isCode c) with hi | hi
  · exact h2 c (List.mem_filter.mpr ⟨hc, hi⟩)
  · simpa [hi] using h
set_option maxRecDepth 65536 in
theorem w_c0 : (Jvm.Cond.code x code maxLocals ret).before args0 about1 = true := code_word (m := ⟨1, 1⟩) (meth := k1m1) (c := k1c1) (by decide +kernel) rfl rfl rfl (by decide +kernel)
set_option maxRecDepth 65536 in
theorem w_c1 : (Jvm.Cond.code ({ cls := "java/lang/Math", name := "max", desc := "(II)I" } : Jvm.MethodName) jdk_29_method_65_code (2 : Nat) (Option.some Jvm.ClassFile.FieldType.int)).before args0 about1 = true := code_word (m := ⟨2, 1⟩) (meth := k2m1) (c := k2c1) (by decide +kernel) rfl rfl rfl (by decide +kernel)
set_option maxRecDepth 65536 in
theorem w_c2 : (Jvm.Cond.code ({ cls := "com/example/heartwood/heartwood/Revision", name := "<init>", desc := "(JII)V" } : Jvm.MethodName) prog_16_method_1_code (5 : Nat) (Option.none : Option Jvm.ClassFile.FieldType)).before args0 about1 = true := code_word (m := ⟨5, 0⟩) (meth := k5m0) (c := k5c0) (by decide +kernel) rfl rfl rfl (by decide +kernel)
set_option maxRecDepth 65536 in
theorem w_c3 : (Jvm.Cond.code ({ cls := "java/lang/Record", name := "<init>", desc := "()V" } : Jvm.MethodName) jdk_30_method_1_code (1 : Nat) (Option.none : Option Jvm.ClassFile.FieldType)).before args0 about1 = true := code_word (m := ⟨3, 0⟩) (meth := k3m0) (c := k3c0) (by decide +kernel) rfl rfl rfl (by decide +kernel)
set_option maxRecDepth 65536 in
theorem w_c4 : (Jvm.Cond.code ({ cls := "java/lang/Object", name := "<init>", desc := "()V" } : Jvm.MethodName) object_method_1_code (1 : Nat) (Option.none : Option Jvm.ClassFile.FieldType)).before args0 about1 = true := code_word (m := ⟨0, 0⟩) (meth := k0m0) (c := k0c0) (by decide +kernel) rfl rfl rfl (by decide +kernel)
set_option maxRecDepth 65536 in
theorem w_c5 : (Jvm.Cond.code ({ cls := "com/example/heartwood/heartwood/Revision", name := "hashCode", desc := "()I" } : Jvm.MethodName) prog_16_method_5_code (1 : Nat) (Option.some Jvm.ClassFile.FieldType.int)).before args0 about1 = true := code_word (m := ⟨5, 2⟩) (meth := k5m2) (c := k5c2) (by decide +kernel) rfl rfl rfl (by decide +kernel)
set_option maxRecDepth 65536 in
theorem w_c6 : (Jvm.Cond.code ({ cls := "java/lang/Long", name := "hashCode", desc := "(J)I" } : Jvm.MethodName) jdk_35_method_36_code (2 : Nat) (Option.some Jvm.ClassFile.FieldType.int)).before args0 about1 = true := code_word (m := ⟨10, 0⟩) (meth := k10m0) (c := k10c0) (by decide +kernel) rfl rfl rfl (by decide +kernel)
set_option maxRecDepth 65536 in
theorem w_c7 : (Jvm.Cond.code ({ cls := "com/example/heartwood/heartwood/Revision", name := "equals", desc := "(Ljava/lang/Object;)Z" } : Jvm.MethodName) prog_16_method_4_code (3 : Nat) (Option.some Jvm.ClassFile.FieldType.boolean)).before args0 about1 = true := code_word (m := ⟨5, 1⟩) (meth := k5m1) (c := k5c1) (by decide +kernel) rfl rfl rfl (by decide +kernel)
def codes1 : List Jvm.Cond := [Jvm.Cond.code x code maxLocals ret, Jvm.Cond.code ({ cls := "java/lang/Math", name := "max", desc := "(II)I" } : Jvm.MethodName) jdk_29_method_65_code (2 : Nat) (Option.some Jvm.ClassFile.FieldType.int), Jvm.Cond.code ({ cls := "com/example/heartwood/heartwood/Revision", name := "<init>", desc := "(JII)V" } : Jvm.MethodName) prog_16_method_1_code (5 : Nat) (Option.none : Option Jvm.ClassFile.FieldType), Jvm.Cond.code ({ cls := "java/lang/Record", name := "<init>", desc := "()V" } : Jvm.MethodName) jdk_30_method_1_code (1 : Nat) (Option.none : Option Jvm.ClassFile.FieldType), Jvm.Cond.code ({ cls := "java/lang/Object", name := "<init>", desc := "()V" } : Jvm.MethodName) object_method_1_code (1 : Nat) (Option.none : Option Jvm.ClassFile.FieldType), Jvm.Cond.code ({ cls := "com/example/heartwood/heartwood/Revision", name := "hashCode", desc := "()I" } : Jvm.MethodName) prog_16_method_5_code (1 : Nat) (Option.some Jvm.ClassFile.FieldType.int), Jvm.Cond.code ({ cls := "java/lang/Long", name := "hashCode", desc := "(J)I" } : Jvm.MethodName) jdk_35_method_36_code (2 : Nat) (Option.some Jvm.ClassFile.FieldType.int), Jvm.Cond.code ({ cls := "com/example/heartwood/heartwood/Revision", name := "equals", desc := "(Ljava/lang/Object;)Z" } : Jvm.MethodName) prog_16_method_4_code (3 : Nat) (Option.some Jvm.ClassFile.FieldType.boolean)]
set_option maxRecDepth 65536 in
theorem codes_eq : words1.filter isCode = codes1 := rfl
theorem w_codes : ∀ c ∈ words1.filter isCode, c.before args0 about1 = true := by
  rw [codes_eq]
  intro c hc
  simp only [codes1, List.mem_cons, List.not_mem_nil, or_false] at hc
  rcases hc with rfl | rfl | rfl | rfl | rfl | rfl | rfl | rfl
  · exact w_c0
  · exact w_c1
  · exact w_c2
  · exact w_c3
  · exact w_c4
  · exact w_c5
  · exact w_c6
  · exact w_c7
set_option maxRecDepth 65536 in
theorem w_t1 : (words1.take 24).all (fun c => isCode c || c.before args0 about1) = true := by decide +kernel
set_option maxRecDepth 65536 in
theorem w_t2 : (words1.drop 24).all (fun c => isCode c || c.before args0 about1) = true := by decide +kernel
theorem w_tables : (allAtoms (Jvm.Cond.code x code maxLocals ret :: tables_1)).before args0 about1 = true := by
  rw [allAtoms_all]
  show words1.all (fun c => c.before args0 about1) = true
  refine all_split ?_ w_codes
  rw [← List.take_append_drop 24 words1, List.all_append, w_t1, w_t2]
  rfl
set_option maxRecDepth 65536 in
theorem w_case : (Jvm.Cond.and given_1 narrow_1).before args0 about1 = true := by decide +kernel
theorem w_applies : (headSpec (Jvm.Cond.code x code maxLocals ret :: tables_1) room_1).applies x e0.platform about1 = true :=
  (Spec.applies_iff w_frames).mpr ⟨w_running, w_runnable, w_alone, w_named, w_hears, w_ripe, w_room, w_tables⟩
theorem atStart : AtStart classFile x code maxLocals ret World_1 tables_1 room_1 Calls_1 rest_1 Pre_1 launch0 p0 e0 about1 theMethod args0 below0 :=
  ⟨lists_1, trivial, launch0.admits_env _ _ _, launch0.least_env, fairChoices_fair.cas, fairChoices_fair.clock, w_frames, w_args, w_heap, w_applies, trivial, trivial, w_case⟩
end start1
theorem witness_1 : WitnessClaimed_1 := ⟨start1.p0, start1.e0, start1.about1, start1.theMethod, start1.args0, start1.below0, start1.atStart⟩
end Jvm.Pilot.@@N@@
