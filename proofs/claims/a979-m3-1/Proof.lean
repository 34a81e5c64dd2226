import JvmDerived
import JvmDerived.Pilot.@@N@@Statement
import JvmDerived.Pilot.@@N@@Code
set_option linter.unusedVariables false
set_option linter.unusedSimpArgs false
namespace Jvm.RoadKit
open Sem ClassFile Op Lib Jvm.Stand Jvm.Free Jvm.LawKit
section New
variable {p : Program} {l : Launch} {e : Env} {R : Room} {s : State} {m : MethodId} {args : Array Value} {below : List Frame} {meth : Method} {c : Code} {T : State} {locs : List Loc} {cells slots : Nat}
theorem retI (X : Stand p l e R s m args below meth c T locs cells slots) (hx : p.tables.exec = Jvm.exec) {pc : Nat} {Ls : Array Slot} {z : Int32} {rest : List Value} (hret : meth.sig.returnType = some .int) (hd : decode c.code pc = .ok (.ireturn, 1)) {fs : List Frame}
    (hl : ∀ (f : JFrame) (acts : List Action), f.method = m → f.locked = none → f.entered = [] → (doReturn e (T.setTop f) acts (some (.int z))).1 = T.setFrames fs) : Steps p.tables e below (T.setTop (mkF m pc Ls (.int z :: rest))) (T.setFrames fs) := by
  have hm' : T.vm.method? m = some meth := X.method'
  have hn : narrow .int (.int z) = .int z := rfl
  show Steps p.tables e below (T.setTop { method := m, pc := pc, locals := Ls, stack := _ :: rest, locked := none }) _
  jvm_step X.here [X.here.top, hx, hd, hm', hret, hn]
  first | (intro acts; rw [hl _ acts rfl rfl rfl]) | rw [hl _ _ rfl rfl rfl]
  exact Steps.refl _
end New
end Jvm.RoadKit
namespace Jvm.Pilot.@@N@@
open Jvm Jvm.ClassFile Sem Op Lib Jvm.Free Jvm.Stand Jvm.LawKit Jvm.RoadKit Bundle Jvm.Pilot.@@N@@.Jvm.D
section Own
variable {p : Program} {l : Launch} {e : Env} {R : Room} {s : State} {m : MethodId} {args : Array Value} {below : List Frame} {meth : Method} {c : Code} {T : State} {locs : List Loc} {cells slots : Nat}
theorem own_retL (X : Stand p l e R s m args below meth c T locs cells slots) (hx : p.tables.exec = Jvm.exec) {pc : Nat} {Ls : Array Slot} {z : Int64} {rest : List Value} (hret : meth.sig.returnType = some .long) (hd : decode c.code pc = .ok (.lreturn, 1)) {fs : List Frame}
    (hl : ∀ (f : JFrame) (acts : List Action), f.method = m → f.locked = none → f.entered = [] → (doReturn e (T.setTop f) acts (some (.long z))).1 = T.setFrames fs) : Steps p.tables e below (T.setTop (mkF m pc Ls (.long z :: rest))) (T.setFrames fs) := by
  have hm' : T.vm.method? m = some meth := X.method'
  have hn : narrow .long (.long z) = .long z := rfl
  show Steps p.tables e below (T.setTop { method := m, pc := pc, locals := Ls, stack := _ :: rest, locked := none }) _
  jvm_step X.here [X.here.top, hx, hd, hm', hret, hn]
  first | (intro acts; rw [hl _ acts rfl rfl rfl]) | rw [hl _ _ rfl rfl rfl]
  exact Steps.refl _
theorem own_retA (X : Stand p l e R s m args below meth c T locs cells slots) (hx : p.tables.exec = Jvm.exec) {pc : Nat} {Ls : Array Slot} {v : Value} {t : FieldType} {rest : List Value} (hret : meth.sig.returnType = some t) (ht : t.isReference = true) (hv : v.isRef = true) (hd : decode c.code pc = .ok (.areturn, 1)) {fs : List Frame}
    (hl : ∀ (f : JFrame) (acts : List Action), f.method = m → f.locked = none → f.entered = [] → (doReturn e (T.setTop f) acts (some v)).1 = T.setFrames fs) : Steps p.tables e below (T.setTop (mkF m pc Ls (v :: rest))) (T.setFrames fs) := by
  have hm' : T.vm.method? m = some meth := X.method'
  show Steps p.tables e below (T.setTop { method := m, pc := pc, locals := Ls, stack := _ :: rest, locked := none }) _
  jvm_step X.here [X.here.top, hx, hd, hm', hret, hv, ht]
  first | (intro acts; rw [hl _ acts rfl rfl rfl]) | rw [hl _ _ rfl rfl rfl]
  exact Steps.refl _
def OGo (p : Program) (e : Env) (below : List Frame) (P : State → Outcome → Prop) (S : State) : Prop := ∃ s₂ o, Steps p.tables e below S s₂ ∧ s₂.status = .running ∧ Ended s₂ below o ∧ P s₂ o
theorem OGo.to {P : State → Outcome → Prop} {S S' : State} (h : ∀ t, Steps p.tables e below S' t → Steps p.tables e below S t) (g : OGo p e below P S') : OGo p e below P S := by
  obtain ⟨s₂, o, h1, r⟩ := g
  exact ⟨s₂, o, h _ h1, r⟩
theorem OGo.ret {Q : Option Value → Heap → List Loc → Prop} (X : Stand p l e R s m args below meth c T locs cells slots) {g : JFrame} (v : Option Value) (hv : meth.sig.returnType = none → v = none) (hlocks : meth.locks = false)
    (st : ∀ fs : List Frame, (∀ (f : JFrame) (acts : List Action), f.method = m → f.locked = none → f.entered = [] → (doReturn e (T.setTop f) acts v).1 = T.setFrames fs) → Steps p.tables e below (T.setTop g) (T.setFrames fs)) (hq : Q v T.heap locs) {rc rs : Nat} (h1 : cells ≤ rc) (h2 : slots ≤ rs) :
    OGo p e below (fun s₂ o => ∃ v L, o = .returned v ∧ Q v s₂.heap L ∧ FrameEnd s o s₂ L rc rs) (T.setTop g) := by
  obtain ⟨fs, hr, hrun, hended, hW, hsame⟩ := X.leave (v := v) hv hlocks
  exact ⟨_, _, st fs hr, hrun, hended, _, _, rfl, hq, ⟨_, rfl⟩, hW, hsame.mono h1 h2⟩
theorem own_selP {Z : State} {a0 : Array Value} (hZ : Z.Warmed39 s.vm) {y : MethodName} {n : Nat} (wi : (Jvm.Cond.instantiable y.cls n).before a0 Z = true) (wp : (Jvm.Cond.privateMethod y).before a0 Z = true) (wm : (Jvm.Cond.instanceMethod y).before a0 Z = true) (hy : y.cls ≠ "java/lang/invoke/MethodHandle" ∧ y.cls ≠ "java/lang/invoke/VarHandle") : (Jvm.Cond.selects y.cls y y).before args s = true := by
  obtain ⟨c, k, h1, h2, -, h3, -⟩ := Cond.instantiable_spec (mvT (args := args) hZ wi)
  exact selects_self_of_private h1 h2 ((Bool.or_eq_false_iff.mp h3).1) (Cond.privateMethod_at (mvP hZ wp (args := args))) (mvT hZ wm) hy
end Own
theorem own_ieq {a b : Int32} (h : a = b) : a.toInt = b.toInt := congrArg _ h
theorem own_ine {a b : Int32} (h : ¬ a = b) : a.toInt ≠ b.toInt := fun q => h (Int32.toInt_inj.mp q)
theorem own_ilt {a b : Int32} (h : a < b) : a.toInt < b.toInt := Int32.lt_iff_toInt_lt.mp h
theorem own_inlt {a b : Int32} (h : ¬ a < b) : b.toInt ≤ a.toInt := Int.not_lt.mp fun q => h (Int32.lt_iff_toInt_lt.mpr q)
theorem own_eqi {a b : Int32} (h : a.toInt = b.toInt) : a = b := Int32.toInt_inj.mp h
theorem own_lti {a b : Int32} (h : a.toInt < b.toInt) : a < b := Int32.lt_iff_toInt_lt.mpr h
theorem own_nlti {a b : Int32} (h : b.toInt ≤ a.toInt) : ¬ a < b := fun q => absurd (Int32.lt_iff_toInt_lt.mp q) (Int.not_lt.mpr h)
theorem own_nnL (q : Int64) : ¬ (q &&& (9223372036854775807 : Int64)) < 0 := by
  have h := c_maskL q (9223372036854775807 : Int64) 63 (by decide) (by decide)
  rw [Int64.lt_iff_toInt_lt]
  have : (0 : Int64).toInt = 0 := rfl
  omega
theorem own_nn (q : Int32) : ¬ (q &&& (2147483647 : Int32)) < 0 := own_nlti (c_and q (2147483647 : Int32) (by decide)).1
def own_max (a b : Int32) : Int32 := if a < b then b else a
theorem own_max1 (b : Int32) : (0 : Int32) < own_max (1 : Int32) b := by
  unfold own_max
  split
  · rename_i h; have := own_ilt h; exact own_lti (Int.lt_trans (by decide) this)
  · decide
def own_lh (q : Int64) : Int32 := (q ^^^ ((q.toUInt64 >>> ((32 : Int32) &&& 0x3f).toInt64.toUInt64).toInt64)).toInt32
def own_h (t : Int64) (c k : Int32) : Int32 := (own_lh t * (31 : Int32) + c) * (31 : Int32) + k
def own_eq (t1 : Int64) (c1 k1 : Int32) (t2 : Int64) (c2 k2 : Int32) : Int32 := if t1 = t2 then (if c1 = c2 then (if k1 = k2 then (1 : Int32) else 0) else 0) else 0
theorem own_eq_yes {t1 t2 : Int64} {c1 k1 c2 k2 : Int32} (h : ¬ own_eq t1 c1 k1 t2 c2 k2 = (0 : Int32)) : t1 = t2 ∧ c1 = c2 ∧ k1 = k2 := by
  unfold own_eq at h
  by_cases h1 : t1 = t2
  · by_cases h2 : c1 = c2
    · by_cases h3 : k1 = k2
      · exact ⟨h1, h2, h3⟩
      · rw [if_pos h1, if_pos h2, if_neg h3] at h; exact absurd rfl h
    · rw [if_pos h1, if_neg h2] at h; exact absurd rfl h
  · rw [if_neg h1] at h; exact absurd rfl h
theorem own_eq_no {t1 t2 : Int64} {c1 k1 c2 k2 : Int32} (h : own_eq t1 c1 k1 t2 c2 k2 = (0 : Int32)) : ¬ (t1 = t2 ∧ c1 = c2 ∧ k1 = k2) := by
  rintro ⟨h1, h2, h3⟩
  unfold own_eq at h
  rw [if_pos h1, if_pos h2, if_pos h3] at h
  exact absurd h (by decide)

def own_lcmp (x y : Int64) : Int32 := if x < y then (-1 : Int32) else if x = y then 0 else 1
def own_icmp (x y : Int32) : Int32 := if x < y then (-1 : Int32) else if x = y then 0 else 1
def own_cmp (t1 : Int64) (c1 k1 : Int32) (t2 : Int64) (c2 k2 : Int32) : Int32 := if t1 = t2 then (if c1 = c2 then own_icmp k1 k2 else own_icmp c1 c2) else own_lcmp t1 t2
def own_ref (t1 : Int64) (c1 k1 : Int32) (t2 : Int64) (c2 k2 : Int32) : Int32 := if t1 < t2 then (-1 : Int32) else if t2 < t1 then (1 : Int32) else if c1 < c2 then (-1 : Int32) else if c2 < c1 then (1 : Int32) else if k1 < k2 then (-1 : Int32) else if k2 < k1 then (1 : Int32) else (0 : Int32)
def own_sign (x : Int32) : Int32 := if x < (0 : Int32) then (-1 : Int32) else if (0 : Int32) < x then (1 : Int32) else (0 : Int32)
theorem own_tri (x y : Int32) : (x < y ∧ ¬ x = y ∧ ¬ y = x ∧ ¬ y < x) ∨ (x = y ∧ y = x ∧ ¬ x < y ∧ ¬ y < x) ∨ (y < x ∧ ¬ x = y ∧ ¬ y = x ∧ ¬ x < y) := by
  simp only [Int32.lt_iff_toInt_lt, ← Int32.toInt_inj]; omega
theorem own_triL (x y : Int64) : (x < y ∧ ¬ x = y ∧ ¬ y = x ∧ ¬ y < x) ∨ (x = y ∧ y = x ∧ ¬ x < y ∧ ¬ y < x) ∨ (y < x ∧ ¬ x = y ∧ ¬ y = x ∧ ¬ x < y) := by
  simp only [Int64.lt_iff_toInt_lt, ← Int64.toInt_inj]; omega
theorem own_sg : own_sign (-1 : Int32) = -1 ∧ own_sign 0 = 0 ∧ own_sign 1 = 1 := by decide
theorem own_L (t1 : Int64) (c1 k1 : Int32) (t2 : Int64) (c2 k2 : Int32) : own_sign (own_cmp t1 c1 k1 t2 c2 k2) = own_ref t1 c1 k1 t2 c2 k2 ∧ own_sign (own_cmp t2 c2 k2 t1 c1 k1) = -own_ref t1 c1 k1 t2 c2 k2 := by
  unfold own_cmp own_ref own_lcmp own_icmp
  rcases own_triL t1 t2 with ⟨a1, a2, a3, a4⟩ | ⟨a1, a2, a3, a4⟩ | ⟨a1, a2, a3, a4⟩
  · rw [if_neg a2, if_pos a1, if_pos a1, if_neg a3, if_neg a4, if_neg a3]; decide
  · rw [if_pos a1, if_neg a3, if_neg a4, if_pos a2]
    rcases own_tri c1 c2 with ⟨b1, b2, b3, b4⟩ | ⟨b1, b2, b3, b4⟩ | ⟨b1, b2, b3, b4⟩
    · rw [if_neg b2, if_pos b1, if_pos b1, if_neg b3, if_neg b4, if_neg b3]; decide
    · rw [if_pos b1, if_neg b3, if_neg b4, if_pos b2]
      rcases own_tri k1 k2 with ⟨d1, d2, d3, d4⟩ | ⟨d1, d2, d3, d4⟩ | ⟨d1, d2, d3, d4⟩
      · rw [if_pos d1, if_pos d1, if_neg d4, if_neg d3]; decide
      · rw [if_neg d3, if_pos d1, if_neg d3, if_neg d4, if_neg d4, if_pos d2]; decide
      · rw [if_neg d4, if_neg d2, if_neg d4, if_pos d1, if_pos d1]; decide
    · rw [if_neg b2, if_neg b4, if_neg b2, if_neg b4, if_pos b1, if_neg b3, if_pos b1]; decide
  · rw [if_neg a2, if_neg a4, if_neg a2, if_neg a4, if_pos a1, if_neg a3, if_pos a1]; decide
theorem own_L1 (t1 : Int64) (c1 k1 : Int32) (t2 : Int64) (c2 k2 : Int32) : own_sign (own_cmp t1 c1 k1 t2 c2 k2) = own_ref t1 c1 k1 t2 c2 k2 := (own_L t1 c1 k1 t2 c2 k2).1
theorem own_L2 (t1 : Int64) (c1 k1 : Int32) (t2 : Int64) (c2 k2 : Int32) : own_sign (own_cmp t2 c2 k2 t1 c1 k1) = -own_ref t1 c1 k1 t2 c2 k2 := (own_L t1 c1 k1 t2 c2 k2).2
theorem own_L3 (t1 : Int64) (c1 k1 : Int32) : own_cmp t1 c1 k1 t1 c1 k1 = (0 : Int32) := by
  unfold own_cmp own_icmp
  rcases own_tri k1 k1 with ⟨d1, d2, d3, d4⟩ | ⟨d1, d2, d3, d4⟩ | ⟨d1, d2, d3, d4⟩
  · exact absurd rfl d2
  · rw [if_pos rfl, if_pos rfl, if_neg d3, if_pos rfl]
  · exact absurd rfl d2
theorem pd_0 : parseMethodDescriptor "()V" = some ⟨[], none⟩ := by decide +kernel
theorem pd_1 : parseMethodDescriptor "(II)I" = some ⟨[.int, .int], some .int⟩ := by decide +kernel
theorem pd_2 : parseMethodDescriptor "(JJ)I" = some ⟨[.long, .long], some .int⟩ := by decide +kernel
theorem pd_3 : parseMethodDescriptor "(JII)V" = some ⟨[.long, .int, .int], none⟩ := by decide +kernel
theorem pd_4 : parseMethodDescriptor "(JIIJII)I" = some ⟨[.long, .int, .int, .long, .int, .int], some .int⟩ := by decide +kernel
theorem pd_5 : parseMethodDescriptor "(Lcom/example/heartwood/heartwood/Revision;)I" = some ⟨[(.object "com/example/heartwood/heartwood/Revision")], some .int⟩ := by decide +kernel
theorem pd_6 : parseMethodDescriptor "(I)I" = some ⟨[.int], some .int⟩ := by decide +kernel
theorem pn_0 : plainName "java/lang/Record" = true := by first | (simp [plainName, overriddenIn]; done) | decide +kernel
theorem pn_1 : plainName "com/example/heartwood/heartwood/Revision" = true := by first | (simp [plainName, overriddenIn]; done) | decide +kernel
theorem pn_2 : plainName "java/lang/Long" = true := by first | (simp [plainName, overriddenIn]; done) | decide +kernel
theorem pn_3 : plainName "java/lang/Integer" = true := by first | (simp [plainName, overriddenIn]; done) | decide +kernel
theorem pn_4 : plainName "com/example/heartwood/heartwood/RevisionCompareToPinLaw" = true := by first | (simp [plainName, overriddenIn]; done) | decide +kernel
theorem d1_0 : decode jdk_29_method_65_code 0 = .ok (.iload_n 0, 1) := by decide +kernel
theorem d1_1 : decode jdk_29_method_65_code 1 = .ok (.iload_n 1, 1) := by decide +kernel
theorem d1_2 : decode jdk_29_method_65_code 2 = .ok (.if_icmp .lt 7, 3) := by decide +kernel
theorem d1_5 : decode jdk_29_method_65_code 5 = .ok (.iload_n 0, 1) := by decide +kernel
theorem d1_6 : decode jdk_29_method_65_code 6 = .ok (.goto 4, 3) := by decide +kernel
theorem d1_9 : decode jdk_29_method_65_code 9 = .ok (.iload_n 1, 1) := by decide +kernel
theorem d1_10 : decode jdk_29_method_65_code 10 = .ok (.ireturn, 1) := by decide +kernel
theorem ef_1 (m : MethodId) (x0 : Int32) (x1 : Int32) : entryFrame m #[(.int x0), (.int x1)] 2 = mkF m 0 #[.val (.int x0), .val (.int x1)] [] := by first | (simp [entryFrame, mkF, argsToLocals, Value.category]; done) | rfl
def Q1 (Z : State) (p1 : Int32) (p2 : Int32) (h0 : Heap) (n0 : Nat) (v : Option Value) (h : Heap) (L : List Loc) : Prop := v = some (.int (own_max p1 p2)) ∧ Fr n0 L ∧ h = h0
set_option maxRecDepth 65536 in
set_option maxHeartbeats 40000000 in
theorem rm1 (l : Launch) (Z : State) (a0 : Array Value) (hw : ∀ d ∈ tables_1, d.before a0 Z = true) (ws : List Jvm.Cond) (p1 : Int32) (p2 : Int32) (h0 : Heap) (n0 : Nat) (Z0 : n0 ≤ h0.size) :
    MetFree l (⟨"java/lang/Math", "max", "(II)I"⟩ : MethodName) (head1 (Jvm.Cond.code (⟨"java/lang/Math", "max", "(II)I"⟩ : MethodName) jdk_29_method_65_code 2 (some .int) :: ws) ({ frames := 0, cells := 0, slots := 0, locals := 0 } : Room)) (fun a U => a = #[(.int p1), (.int p2)] ∧ Z.Warmed39 U.vm ∧ U.heap = h0) (fun _ _ _ _ _ => True) (fun _ U o U' => ∃ v L, o = .returned v ∧ Q1 Z p1 p2 h0 n0 v U'.heap L ∧ FrameEnd U o U' L ({ frames := 0, cells := 0, slots := 0, locals := 0 } : Room).cells ({ frames := 0, cells := 0, slots := 0, locals := 0 } : Room).slots) := by
  refine MetFree.of_bodySF (Jvm.Free.JP.mathPlain rfl (by decide +kernel)) hisR ?_
  intro p e s m args below meth c s₁ Bd hml0 hP hK
  obtain ⟨rfl, hZ, hh⟩ := hP
  have hx := Bd.exec
  have hby := Bd.bytes
  have hml : c.maxLocals = 2 := hml0
  have hown : s.vm.findClass "java/lang/Math" = some m.cls := findClass_of_methodNamed Bd.named
  have hnm := (name_of_methodNamed Bd.named Bd.method).1
  have X0 : Stand p l e ({ frames := 0, cells := 0, slots := 0, locals := 0 } : Room) s m #[(.int p1), (.int p2)] below meth c s₁ [] 0 0 := Stand.of_body Bd
  have e0 : s₁.heap = h0 := by rw [← hh, Bd.state]; rfl
  have N0 := Fr.nil n0
  show OGo p e below (fun s₂ o => ∃ v L, o = .returned v ∧ Q1 Z p1 p2 h0 n0 v s₂.heap L ∧ FrameEnd s o s₂ L ({ frames := 0, cells := 0, slots := 0, locals := 0 } : Room).cells ({ frames := 0, cells := 0, slots := 0, locals := 0 } : Room).slots) _
  refine OGo.to (fun _ k => castTop (ef_1 m p1 p2) k) ?_
  refine OGo.to (fun _ k => XS.iloadN X0.here hx rfl (hb hby d1_0) rfl k) ?_
  show OGo p e below _ (s₁.setTop (mkF m 1 #[.val (.int p1), .val (.int p2)] [(.int p1)]))
  refine OGo.to (fun _ k => XS.iloadN X0.here hx rfl (hb hby d1_1) rfl k) ?_
  show OGo p e below _ (s₁.setTop (mkF m 2 #[.val (.int p1), .val (.int p2)] [(.int p2), (.int p1)]))
  by_cases hc2_1 : p1 < p2
  ·  -- pc 2: yes
    refine OGo.to (fun _ k => XS.icmpYes X0.here hx rfl (pc0 := 2) (pc' := 9) rfl (hb hby d1_2) rfl (tlt hc2_1).1 (by decide) (by decide) k) ?_
    show OGo p e below _ (s₁.setTop (mkF m 9 #[.val (.int p1), .val (.int p2)] []))
    refine OGo.to (fun _ k => XS.iloadN X0.here hx rfl (hb hby d1_9) rfl k) ?_
    show OGo p e below _ (s₁.setTop (mkF m 10 #[.val (.int p1), .val (.int p2)] [(.int p2)]))
    refine OGo.ret (Q := Q1 Z p1 p2 h0 n0) X0 (some (.int p2)) (fun h => by rw [Bd.returns] at h; cases h) Bd.notSynchronized (fun fs hr => retI X0 hx Bd.returns (hb hby d1_10) hr) ?_ (by decide) (by decide)
    show Q1 Z p1 p2 h0 n0 _ s₁.heap _
    rw [e0]
    exact ⟨congrArg (fun z => some (Value.int z)) (show p2 = (own_max p1 p2) from by unfold own_max; rw [if_pos hc2_1]), N0, rfl⟩
  ·  -- pc 2: no
    refine OGo.to (fun _ k => XS.icmpNo X0.here hx rfl (hb hby d1_2) rfl (flt hc2_1).1 k) ?_
    show OGo p e below _ (s₁.setTop (mkF m 5 #[.val (.int p1), .val (.int p2)] []))
    refine OGo.to (fun _ k => XS.iloadN X0.here hx rfl (hb hby d1_5) rfl k) ?_
    show OGo p e below _ (s₁.setTop (mkF m 6 #[.val (.int p1), .val (.int p2)] [(.int p1)]))
    refine OGo.to (fun _ k => XS.goto X0.here hx rfl (pc0 := 6) (pc' := 10) rfl (hb hby d1_6) (by decide) (by decide) k) ?_
    show OGo p e below _ (s₁.setTop (mkF m 10 #[.val (.int p1), .val (.int p2)] [(.int p1)]))
    refine OGo.ret (Q := Q1 Z p1 p2 h0 n0) X0 (some (.int p1)) (fun h => by rw [Bd.returns] at h; cases h) Bd.notSynchronized (fun fs hr => retI X0 hx Bd.returns (hb hby d1_10) hr) ?_ (by decide) (by decide)
    show Q1 Z p1 p2 h0 n0 _ s₁.heap _
    rw [e0]
    exact ⟨congrArg (fun z => some (Value.int z)) (show p1 = (own_max p1 p2) from by unfold own_max; rw [if_neg hc2_1]), N0, rfl⟩
theorem d3_0 : decode jdk_30_method_1_code 0 = .ok (.aload_n 0, 1) := by decide +kernel
theorem d3_1 : decode jdk_30_method_1_code 1 = .ok (.invokespecial 1, 3) := by decide +kernel
theorem d3_4 : decode jdk_30_method_1_code 4 = .ok (.return_, 1) := by decide +kernel
theorem ef_3 (m : MethodId) (x0 : Addr) : entryFrame m #[(.ref x0)] 1 = mkF m 0 #[.val (.ref x0)] [] := by first | (simp [entryFrame, mkF, argsToLocals, Value.category]; done) | rfl
def Q3 (Z : State) (a1 : Addr) (h0 : Heap) (n0 : Nat) (v : Option Value) (h : Heap) (L : List Loc) : Prop := v = none ∧ Fr n0 L ∧ h = h0
set_option maxRecDepth 65536 in
set_option maxHeartbeats 40000000 in
theorem rm3 (l : Launch) (Z : State) (a0 : Array Value) (hw : ∀ d ∈ tables_1, d.before a0 Z = true) (ws : List Jvm.Cond) (a1 : Addr) (h0 : Heap) (n0 : Nat) (Z0 : n0 ≤ h0.size) :
    MetFree l (⟨"java/lang/Record", "<init>", "()V"⟩ : MethodName) (head1 (Jvm.Cond.code (⟨"java/lang/Record", "<init>", "()V"⟩ : MethodName) jdk_30_method_1_code 1 none :: ws) ({ frames := 1, cells := 0, slots := 0, locals := 12 } : Room)) (fun a U => a = #[(.ref a1)] ∧ Z.Warmed39 U.vm ∧ U.heap = h0) (fun _ _ _ _ _ => True) (fun _ U o U' => ∃ v L, o = .returned v ∧ Q3 Z a1 h0 n0 v U'.heap L ∧ FrameEnd U o U' L ({ frames := 1, cells := 0, slots := 0, locals := 12 } : Room).cells ({ frames := 1, cells := 0, slots := 0, locals := 12 } : Room).slots) := by
  refine MetFree.of_bodySF (plainFor_of_name pn_0) hisR ?_
  intro p e s m args below meth c s₁ Bd hml0 hP hK
  obtain ⟨rfl, hZ, hh⟩ := hP
  have hx := Bd.exec
  have hby := Bd.bytes
  have hml : c.maxLocals = 1 := hml0
  have hown : s.vm.findClass "java/lang/Record" = some m.cls := findClass_of_methodNamed Bd.named
  have hnm := (name_of_methodNamed Bd.named Bd.method).1
  have X0 : Stand p l e ({ frames := 1, cells := 0, slots := 0, locals := 12 } : Room) s m #[(.ref a1)] below meth c s₁ [] 0 0 := Stand.of_body Bd
  have e0 : s₁.heap = h0 := by rw [← hh, Bd.state]; rfl
  have N0 := Fr.nil n0
  show OGo p e below (fun s₂ o => ∃ v L, o = .returned v ∧ Q3 Z a1 h0 n0 v s₂.heap L ∧ FrameEnd s o s₂ L ({ frames := 1, cells := 0, slots := 0, locals := 12 } : Room).cells ({ frames := 1, cells := 0, slots := 0, locals := 12 } : Room).slots) _
  refine OGo.to (fun _ k => castTop (ef_3 m a1) k) ?_
  refine OGo.to (fun _ k => XS.aloadN X0.here hx rfl (hb hby d3_0) rfl rfl k) ?_
  show OGo p e below _ (s₁.setTop (mkF m 1 #[.val (.ref a1)] [(.ref a1)]))
  obtain ⟨T1, X1, e1, st1⟩ := initO X0 hx hZ hown (hw _ (List.mem_of_getElem? (i := 17) rfl)) (hw _ (List.mem_of_getElem? (i := 18) rfl)) (hw _ (List.mem_of_getElem? (i := 19) rfl)) e0 (g := (mkF m 1 #[.val (.ref a1)] [(.ref a1)])) rfl (by rw [hml]; rfl) rfl (hb hby d3_1) (by decide) (W := 0) (by show 2 * 0 + _ ≤ _; exact Nat.le_of_eq rfl) (by decide)
  refine OGo.to st1 ?_
  show OGo p e below _ (T1.setTop (mkF m 4 #[.val (.ref a1)] []))
  refine OGo.ret (Q := Q3 Z a1 h0 n0) X1 none (fun _ => rfl) Bd.notSynchronized (fun fs hr => X1.returnOut hx Bd.returns (hb hby d3_4) hr) ?_ (by decide) (by decide)
  show Q3 Z a1 h0 n0 _ T1.heap _
  rw [e1]
  exact ⟨rfl, N0, rfl⟩
theorem d2_0 : decode prog_16_method_1_code 0 = .ok (.aload_n 0, 1) := by decide +kernel
theorem d2_1 : decode prog_16_method_1_code 1 = .ok (.invokespecial 1, 3) := by decide +kernel
theorem d2_4 : decode prog_16_method_1_code 4 = .ok (.lload_n 1, 1) := by decide +kernel
theorem d2_5 : decode prog_16_method_1_code 5 = .ok (.lconst 0, 1) := by decide +kernel
theorem d2_6 : decode prog_16_method_1_code 6 = .ok (.lcmp, 1) := by decide +kernel
theorem d2_7 : decode prog_16_method_1_code 7 = .ok (.ifCond .lt 12, 3) := by decide +kernel
theorem d2_10 : decode prog_16_method_1_code 10 = .ok (.iload_n 3, 1) := by decide +kernel
theorem d2_11 : decode prog_16_method_1_code 11 = .ok (.ifCond .lt 8, 3) := by decide +kernel
theorem d2_14 : decode prog_16_method_1_code 14 = .ok (.iload 4, 2) := by decide +kernel
theorem d2_16 : decode prog_16_method_1_code 16 = .ok (.ifCond .gt 20, 3) := by decide +kernel
theorem d2_36 : decode prog_16_method_1_code 36 = .ok (.aload_n 0, 1) := by decide +kernel
theorem d2_37 : decode prog_16_method_1_code 37 = .ok (.lload_n 1, 1) := by decide +kernel
theorem d2_38 : decode prog_16_method_1_code 38 = .ok (.putfield 16, 3) := by decide +kernel
theorem d2_41 : decode prog_16_method_1_code 41 = .ok (.aload_n 0, 1) := by decide +kernel
theorem d2_42 : decode prog_16_method_1_code 42 = .ok (.iload_n 3, 1) := by decide +kernel
theorem d2_43 : decode prog_16_method_1_code 43 = .ok (.putfield 22, 3) := by decide +kernel
theorem d2_46 : decode prog_16_method_1_code 46 = .ok (.aload_n 0, 1) := by decide +kernel
theorem d2_47 : decode prog_16_method_1_code 47 = .ok (.iload 4, 2) := by decide +kernel
theorem d2_49 : decode prog_16_method_1_code 49 = .ok (.putfield 26, 3) := by decide +kernel
theorem d2_52 : decode prog_16_method_1_code 52 = .ok (.return_, 1) := by decide +kernel
theorem ef_2 (m : MethodId) (x0 : Addr) (x1 : Int64) (x2 : Int32) (x3 : Int32) : entryFrame m #[(.ref x0), (.long x1), (.int x2), (.int x3)] 5 = mkF m 0 #[.val (.ref x0), .val (.long x1), .second, .val (.int x2), .val (.int x3)] [] := by first | (simp [entryFrame, mkF, argsToLocals, Value.category]; done) | rfl
def Q2 (Z : State) (a1 : Addr) (q1 : Int64) (p1 : Int32) (p2 : Int32) (u0 : Value) (u1 : Value) (u2 : Value) (h0 : Heap) (n0 : Nat) (v : Option Value) (h : Heap) (L : List Loc) : Prop := v = none ∧ Fr n0 L ∧ Keep h0 h [a1] ∧ Fld Z h a1 "com/example/heartwood/heartwood/Revision" "timestamp" "J" (.long q1) ∧ Fld Z h a1 "com/example/heartwood/heartwood/Revision" "counter" "I" (.int p1) ∧ Fld Z h a1 "com/example/heartwood/heartwood/Revision" "clusterId" "I" (.int p2)
set_option maxRecDepth 65536 in
set_option maxHeartbeats 40000000 in
theorem rm2 (l : Launch) (Z : State) (a0 : Array Value) (hw : ∀ d ∈ tables_1, d.before a0 Z = true) (ws : List Jvm.Cond) (a1 : Addr) (q1 : Int64) (p1 : Int32) (p2 : Int32) (u0 : Value) (u1 : Value) (u2 : Value) (h0 : Heap) (n0 : Nat) (Z0 : n0 ≤ h0.size) (E1 : Exa Z h0 a1 "com/example/heartwood/heartwood/Revision") (F0 : Fld Z h0 a1 "com/example/heartwood/heartwood/Revision" "timestamp" "J" u0) (F1 : Fld Z h0 a1 "com/example/heartwood/heartwood/Revision" "counter" "I" u1) (F2 : Fld Z h0 a1 "com/example/heartwood/heartwood/Revision" "clusterId" "I" u2) (g1 : n0 ≤ a1) (hq : ¬ (q1 < (0 : Int64))) (hp : ¬ (p1 < (0 : Int32))) (hk : (0 : Int32) < p2) :
    MetFree l (⟨"com/example/heartwood/heartwood/Revision", "<init>", "(JII)V"⟩ : MethodName) (head1 (Jvm.Cond.code (⟨"com/example/heartwood/heartwood/Revision", "<init>", "(JII)V"⟩ : MethodName) prog_16_method_1_code 5 none :: ws) ({ frames := 2, cells := 0, slots := 0, locals := 24 } : Room)) (fun a U => a = #[(.ref a1), (.long q1), (.int p1), (.int p2)] ∧ Z.Warmed39 U.vm ∧ U.heap = h0) (fun _ _ _ _ _ => True) (fun _ U o U' => ∃ v L, o = .returned v ∧ Q2 Z a1 q1 p1 p2 u0 u1 u2 h0 n0 v U'.heap L ∧ FrameEnd U o U' L ({ frames := 2, cells := 0, slots := 0, locals := 24 } : Room).cells ({ frames := 2, cells := 0, slots := 0, locals := 24 } : Room).slots) := by
  refine MetFree.of_bodySF (plainFor_of_name pn_1) hisR ?_
  intro p e s m args below meth c s₁ Bd hml0 hP hK
  obtain ⟨rfl, hZ, hh⟩ := hP
  have hx := Bd.exec
  have hby := Bd.bytes
  have hml : c.maxLocals = 5 := hml0
  have hown : s.vm.findClass "com/example/heartwood/heartwood/Revision" = some m.cls := findClass_of_methodNamed Bd.named
  have hnm := (name_of_methodNamed Bd.named Bd.method).1
  have X0 : Stand p l e ({ frames := 2, cells := 0, slots := 0, locals := 24 } : Room) s m #[(.ref a1), (.long q1), (.int p1), (.int p2)] below meth c s₁ [] 0 0 := Stand.of_body Bd
  have e0 : s₁.heap = h0 := by rw [← hh, Bd.state]; rfl
  have N0 := Fr.nil n0
  show OGo p e below (fun s₂ o => ∃ v L, o = .returned v ∧ Q2 Z a1 q1 p1 p2 u0 u1 u2 h0 n0 v s₂.heap L ∧ FrameEnd s o s₂ L ({ frames := 2, cells := 0, slots := 0, locals := 24 } : Room).cells ({ frames := 2, cells := 0, slots := 0, locals := 24 } : Room).slots) _
  refine OGo.to (fun _ k => castTop (ef_2 m a1 q1 p1 p2) k) ?_
  refine OGo.to (fun _ k => XS.aloadN X0.here hx rfl (hb hby d2_0) rfl rfl k) ?_
  show OGo p e below _ (s₁.setTop (mkF m 1 #[.val (.ref a1), .val (.long q1), .second, .val (.int p1), .val (.int p2)] [(.ref a1)]))
  obtain ⟨_, _, ⟨T1, L1, k1, n1⟩, -, X1, ⟨Lc1, hQ1, l1, y1, z1⟩, st1⟩ := X0.specialBack hx (y := (⟨"java/lang/Record", "<init>", "()V"⟩ : MethodName)) rfl hown (mvT hZ (hw _ (List.mem_of_getElem? (i := 12) rfl))) (mvT hZ (hw _ (List.mem_of_getElem? (i := 13) rfl))) (mvT hZ (hw _ (List.mem_of_getElem? (i := 16) rfl))) (by decide) (backOf (W := 0) (rm3 l Z a0 hw [] a1 h0 n0 Z0 ) hZ (hw _ (List.mem_of_getElem? (i := 16) rfl)) (hw _ (List.mem_of_getElem? (i := 15) rfl)) (by decide) (by decide)) (g := (mkF m 1 #[.val (.ref a1), .val (.long q1), .second, .val (.int p1), .val (.int p2)] [(.ref a1)])) rfl (by rw [hml]; rfl) (Steps.refl _) (a := a1) (argsL := []) (rest := []) (lenOf pd_0 rfl) rfl (by show 2 * 0 + _ ≤ _; exact Nat.le_of_eq rfl) (hb hby d2_1) (fun _ _ => ⟨rfl, e0, (by decide : 0 + 0 ≤ _), (by decide : 0 + 0 ≤ _)⟩)
  dsimp only [Pt.U, Pt.locs, Pt.cells, Pt.slots] at X1 l1 y1 z1 st1 hQ1
  subst l1 y1 z1
  obtain ⟨rfl, N1q, e1⟩ := hQ1
  have N1 := Fr.app N0 N1q
  refine OGo.to (fun _ k => st1.trans k) ?_
  show OGo p e below _ (T1.setTop (mkF m 4 #[.val (.ref a1), .val (.long q1), .second, .val (.int p1), .val (.int p2)] []))
  refine OGo.to (fun _ k => XS.lloadN X1.here hx rfl (hb hby d2_4) rfl k) ?_
  show OGo p e below _ (T1.setTop (mkF m 5 #[.val (.ref a1), .val (.long q1), .second, .val (.int p1), .val (.int p2)] [(.long q1)]))
  refine OGo.to (fun _ k => XS.lconst X1.here hx rfl (hb hby d2_5) k) ?_
  show OGo p e below _ (T1.setTop (mkF m 6 #[.val (.ref a1), .val (.long q1), .second, .val (.int p1), .val (.int p2)] [(.long (0 : Int64)), (.long q1)]))
  refine OGo.to (fun _ k => XS.lcmp X1.here hx rfl (hb hby d2_6) rfl k) ?_
  show OGo p e below _ (T1.setTop (mkF m 7 #[.val (.ref a1), .val (.long q1), .second, .val (.int p1), .val (.int p2)] [(.int (lcmpW q1 (0 : Int64)))]))
  have hc7_2 : ¬ (q1 < (0 : Int64)) := hq
  refine OGo.to (fun _ k => XS.ifNo X1.here hx rfl (hb hby d2_7) rfl ((if0 _ _).trans (flt (mt (lw_lt q1 (0 : Int64)).mp hc7_2)).1) k) ?_
  show OGo p e below _ (T1.setTop (mkF m 10 #[.val (.ref a1), .val (.long q1), .second, .val (.int p1), .val (.int p2)] []))
  refine OGo.to (fun _ k => XS.iloadN X1.here hx rfl (hb hby d2_10) rfl k) ?_
  show OGo p e below _ (T1.setTop (mkF m 11 #[.val (.ref a1), .val (.long q1), .second, .val (.int p1), .val (.int p2)] [(.int p1)]))
  have hc11_3 : ¬ (p1 < (0 : Int32)) := hp
  refine OGo.to (fun _ k => XS.ifNo X1.here hx rfl (hb hby d2_11) rfl ((if0 _ _).trans (flt hc11_3).1) k) ?_
  show OGo p e below _ (T1.setTop (mkF m 14 #[.val (.ref a1), .val (.long q1), .second, .val (.int p1), .val (.int p2)] []))
  refine OGo.to (fun _ k => XS.iload X1.here hx rfl (hb hby d2_14) rfl k) ?_
  show OGo p e below _ (T1.setTop (mkF m 16 #[.val (.ref a1), .val (.long q1), .second, .val (.int p1), .val (.int p2)] [(.int p2)]))
  have hc16_4 : (0 : Int32) < p2 := hk
  refine OGo.to (fun _ k => XS.ifYes X1.here hx rfl (pc0 := 16) (pc' := 36) rfl (hb hby d2_16) rfl ((if0 _ _).trans (tlt hc16_4).2.2.1) (by decide) (by decide) k) ?_
  show OGo p e below _ (T1.setTop (mkF m 36 #[.val (.ref a1), .val (.long q1), .second, .val (.int p1), .val (.int p2)] []))
  refine OGo.to (fun _ k => XS.aloadN X1.here hx rfl (hb hby d2_36) rfl rfl k) ?_
  show OGo p e below _ (T1.setTop (mkF m 37 #[.val (.ref a1), .val (.long q1), .second, .val (.int p1), .val (.int p2)] [(.ref a1)]))
  refine OGo.to (fun _ k => XS.lloadN X1.here hx rfl (hb hby d2_37) rfl k) ?_
  show OGo p e below _ (T1.setTop (mkF m 38 #[.val (.ref a1), .val (.long q1), .second, .val (.int p1), .val (.int p2)] [(.long q1), (.ref a1)]))
  obtain ⟨T5, h5, X5, e5, W5, st5⟩ := putF X1 hx hZ hown (host := "") (Or.inl (hw _ (List.mem_of_getElem? (i := 20) rfl))) Via.refl e1 F0 E1 (Or.inr ⟨(hw _ (List.mem_of_getElem? (i := 21) rfl)), rfl, hnm⟩) (hw _ (List.mem_of_getElem? (i := 7) rfl)) (ty := .long) (by decide) rfl rfl (g := (mkF m 38 #[.val (.ref a1), .val (.long q1), .second, .val (.int p1), .val (.int p2)] [(.long q1), (.ref a1)])) rfl rfl (hb hby d2_38)
  refine OGo.to st5 ?_
  have Fw5 : Fld Z h5 a1 "com/example/heartwood/heartwood/Revision" "timestamp" "J" (.long q1) := F0.same W5
  have N5 := Fr.snoc X5 N1 g1
  have z6 : n0 ≤ h5.size := Nat.le_trans Z0 (Keep.of_wr W5).1
  have K7 : Keep h0 h5 [a1] := (Keep.refl h0 [a1]).wr W5 (Or.inl (List.mem_of_getElem? (i := 0) rfl))
  show OGo p e below _ (T5.setTop (mkF m 41 #[.val (.ref a1), .val (.long q1), .second, .val (.int p1), .val (.int p2)] []))
  refine OGo.to (fun _ k => XS.aloadN X5.here hx rfl (hb hby d2_41) rfl rfl k) ?_
  show OGo p e below _ (T5.setTop (mkF m 42 #[.val (.ref a1), .val (.long q1), .second, .val (.int p1), .val (.int p2)] [(.ref a1)]))
  refine OGo.to (fun _ k => XS.iloadN X5.here hx rfl (hb hby d2_42) rfl k) ?_
  show OGo p e below _ (T5.setTop (mkF m 43 #[.val (.ref a1), .val (.long q1), .second, .val (.int p1), .val (.int p2)] [(.int p1), (.ref a1)]))
  have f8 : Exa Z h5 a1 "com/example/heartwood/heartwood/Revision" := (E1.wr W5)
  have f9 : Fld Z h5 a1 "com/example/heartwood/heartwood/Revision" "counter" "I" u1 := (F1.other W5 (Or.inr (slot_ne (Or.inr (hw _ (List.mem_of_getElem? (i := 23) rfl))) (Or.inr (hw _ (List.mem_of_getElem? (i := 21) rfl))) (by decide) (t := .int) (t' := .long) (by decide) (by decide))))
  obtain ⟨T10, h10, X10, e10, W10, st10⟩ := putF X5 hx hZ hown (host := "") (Or.inl (hw _ (List.mem_of_getElem? (i := 22) rfl))) Via.refl e5 f9 f8 (Or.inr ⟨(hw _ (List.mem_of_getElem? (i := 23) rfl)), rfl, hnm⟩) (hw _ (List.mem_of_getElem? (i := 7) rfl)) (ty := .int) (by decide) rfl rfl (g := (mkF m 43 #[.val (.ref a1), .val (.long q1), .second, .val (.int p1), .val (.int p2)] [(.int p1), (.ref a1)])) rfl rfl (hb hby d2_43)
  refine OGo.to st10 ?_
  have Fw10 : Fld Z h10 a1 "com/example/heartwood/heartwood/Revision" "counter" "I" (.int p1) := f9.same W10
  have N10 := Fr.snoc X10 N5 g1
  have z11 : n0 ≤ h10.size := Nat.le_trans z6 (Keep.of_wr W10).1
  have K12 : Keep h0 h10 [a1] := K7.wr W10 (Or.inl (List.mem_of_getElem? (i := 0) rfl))
  show OGo p e below _ (T10.setTop (mkF m 46 #[.val (.ref a1), .val (.long q1), .second, .val (.int p1), .val (.int p2)] []))
  refine OGo.to (fun _ k => XS.aloadN X10.here hx rfl (hb hby d2_46) rfl rfl k) ?_
  show OGo p e below _ (T10.setTop (mkF m 47 #[.val (.ref a1), .val (.long q1), .second, .val (.int p1), .val (.int p2)] [(.ref a1)]))
  refine OGo.to (fun _ k => XS.iload X10.here hx rfl (hb hby d2_47) rfl k) ?_
  show OGo p e below _ (T10.setTop (mkF m 49 #[.val (.ref a1), .val (.long q1), .second, .val (.int p1), .val (.int p2)] [(.int p2), (.ref a1)]))
  have f13 : Exa Z h10 a1 "com/example/heartwood/heartwood/Revision" := (f8.wr W10)
  have f14 : Fld Z h10 a1 "com/example/heartwood/heartwood/Revision" "clusterId" "I" u2 := ((F2.other W5 (Or.inr (slot_ne (Or.inr (hw _ (List.mem_of_getElem? (i := 25) rfl))) (Or.inr (hw _ (List.mem_of_getElem? (i := 21) rfl))) (by decide) (t := .int) (t' := .long) (by decide) (by decide)))).other W10 (Or.inr (slot_ne (Or.inr (hw _ (List.mem_of_getElem? (i := 25) rfl))) (Or.inr (hw _ (List.mem_of_getElem? (i := 23) rfl))) (by decide) (t := .int) (t' := .int) (by decide) (by decide))))
  obtain ⟨T15, h15, X15, e15, W15, st15⟩ := putF X10 hx hZ hown (host := "") (Or.inl (hw _ (List.mem_of_getElem? (i := 24) rfl))) Via.refl e10 f14 f13 (Or.inr ⟨(hw _ (List.mem_of_getElem? (i := 25) rfl)), rfl, hnm⟩) (hw _ (List.mem_of_getElem? (i := 7) rfl)) (ty := .int) (by decide) rfl rfl (g := (mkF m 49 #[.val (.ref a1), .val (.long q1), .second, .val (.int p1), .val (.int p2)] [(.int p2), (.ref a1)])) rfl rfl (hb hby d2_49)
  refine OGo.to st15 ?_
  have Fw15 : Fld Z h15 a1 "com/example/heartwood/heartwood/Revision" "clusterId" "I" (.int p2) := f14.same W15
  have N15 := Fr.snoc X15 N10 g1
  have z16 : n0 ≤ h15.size := Nat.le_trans z11 (Keep.of_wr W15).1
  have K17 : Keep h0 h15 [a1] := K12.wr W15 (Or.inl (List.mem_of_getElem? (i := 0) rfl))
  show OGo p e below _ (T15.setTop (mkF m 52 #[.val (.ref a1), .val (.long q1), .second, .val (.int p1), .val (.int p2)] []))
  refine OGo.ret (Q := Q2 Z a1 q1 p1 p2 u0 u1 u2 h0 n0) X15 none (fun _ => rfl) Bd.notSynchronized (fun fs hr => X15.returnOut hx Bd.returns (hb hby d2_52) hr) ?_ (by decide) (by decide)
  have f18 : Fld Z h15 a1 "com/example/heartwood/heartwood/Revision" "timestamp" "J" (.long q1) := ((Fw5.other W10 (Or.inr (slot_ne (Or.inr (hw _ (List.mem_of_getElem? (i := 21) rfl))) (Or.inr (hw _ (List.mem_of_getElem? (i := 23) rfl))) (by decide) (t := .long) (t' := .int) (by decide) (by decide)))).other W15 (Or.inr (slot_ne (Or.inr (hw _ (List.mem_of_getElem? (i := 21) rfl))) (Or.inr (hw _ (List.mem_of_getElem? (i := 25) rfl))) (by decide) (t := .long) (t' := .int) (by decide) (by decide))))
  have f19 : Fld Z h15 a1 "com/example/heartwood/heartwood/Revision" "counter" "I" (.int p1) := (Fw10.other W15 (Or.inr (slot_ne (Or.inr (hw _ (List.mem_of_getElem? (i := 23) rfl))) (Or.inr (hw _ (List.mem_of_getElem? (i := 25) rfl))) (by decide) (t := .int) (t' := .int) (by decide) (by decide))))
  show Q2 Z a1 q1 p1 p2 u0 u1 u2 h0 n0 _ T15.heap _
  rw [e15]
  exact ⟨rfl, N15, K17, f18, f19, Fw15⟩
theorem d7_0 : decode jdk_35_method_42_code 0 = .ok (.lload_n 0, 1) := by decide +kernel
theorem d7_1 : decode jdk_35_method_42_code 1 = .ok (.lload_n 2, 1) := by decide +kernel
theorem d7_2 : decode jdk_35_method_42_code 2 = .ok (.lcmp, 1) := by decide +kernel
theorem d7_3 : decode jdk_35_method_42_code 3 = .ok (.ifCond .ge 7, 3) := by decide +kernel
theorem d7_6 : decode jdk_35_method_42_code 6 = .ok (.iconst (-1), 1) := by decide +kernel
theorem d7_7 : decode jdk_35_method_42_code 7 = .ok (.goto 14, 3) := by decide +kernel
theorem d7_10 : decode jdk_35_method_42_code 10 = .ok (.lload_n 0, 1) := by decide +kernel
theorem d7_11 : decode jdk_35_method_42_code 11 = .ok (.lload_n 2, 1) := by decide +kernel
theorem d7_12 : decode jdk_35_method_42_code 12 = .ok (.lcmp, 1) := by decide +kernel
theorem d7_13 : decode jdk_35_method_42_code 13 = .ok (.ifCond .ne 7, 3) := by decide +kernel
theorem d7_16 : decode jdk_35_method_42_code 16 = .ok (.iconst 0, 1) := by decide +kernel
theorem d7_17 : decode jdk_35_method_42_code 17 = .ok (.goto 4, 3) := by decide +kernel
theorem d7_20 : decode jdk_35_method_42_code 20 = .ok (.iconst 1, 1) := by decide +kernel
theorem d7_21 : decode jdk_35_method_42_code 21 = .ok (.ireturn, 1) := by decide +kernel
theorem ef_7 (m : MethodId) (x0 : Int64) (x1 : Int64) : entryFrame m #[(.long x0), (.long x1)] 4 = mkF m 0 #[.val (.long x0), .second, .val (.long x1), .second] [] := by first | (simp [entryFrame, mkF, argsToLocals, Value.category]; done) | rfl
def Q7 (Z : State) (q1 : Int64) (q2 : Int64) (h0 : Heap) (n0 : Nat) (v : Option Value) (h : Heap) (L : List Loc) : Prop := v = some (.int (own_lcmp q1 q2)) ∧ Fr n0 L ∧ h = h0
set_option maxRecDepth 65536 in
set_option maxHeartbeats 40000000 in
theorem rm7 (l : Launch) (Z : State) (a0 : Array Value) (hw : ∀ d ∈ tables_1, d.before a0 Z = true) (ws : List Jvm.Cond) (q1 : Int64) (q2 : Int64) (h0 : Heap) (n0 : Nat) (Z0 : n0 ≤ h0.size) :
    MetFree l (⟨"java/lang/Long", "compare", "(JJ)I"⟩ : MethodName) (head1 (Jvm.Cond.code (⟨"java/lang/Long", "compare", "(JJ)I"⟩ : MethodName) jdk_35_method_42_code 4 (some .int) :: ws) ({ frames := 0, cells := 0, slots := 0, locals := 0 } : Room)) (fun a U => a = #[(.long q1), (.long q2)] ∧ Z.Warmed39 U.vm ∧ U.heap = h0) (fun _ _ _ _ _ => True) (fun _ U o U' => ∃ v L, o = .returned v ∧ Q7 Z q1 q2 h0 n0 v U'.heap L ∧ FrameEnd U o U' L ({ frames := 0, cells := 0, slots := 0, locals := 0 } : Room).cells ({ frames := 0, cells := 0, slots := 0, locals := 0 } : Room).slots) := by
  refine MetFree.of_bodySF (plainFor_of_name pn_2) hisR ?_
  intro p e s m args below meth c s₁ Bd hml0 hP hK
  obtain ⟨rfl, hZ, hh⟩ := hP
  have hx := Bd.exec
  have hby := Bd.bytes
  have hml : c.maxLocals = 4 := hml0
  have hown : s.vm.findClass "java/lang/Long" = some m.cls := findClass_of_methodNamed Bd.named
  have hnm := (name_of_methodNamed Bd.named Bd.method).1
  have X0 : Stand p l e ({ frames := 0, cells := 0, slots := 0, locals := 0 } : Room) s m #[(.long q1), (.long q2)] below meth c s₁ [] 0 0 := Stand.of_body Bd
  have e0 : s₁.heap = h0 := by rw [← hh, Bd.state]; rfl
  have N0 := Fr.nil n0
  show OGo p e below (fun s₂ o => ∃ v L, o = .returned v ∧ Q7 Z q1 q2 h0 n0 v s₂.heap L ∧ FrameEnd s o s₂ L ({ frames := 0, cells := 0, slots := 0, locals := 0 } : Room).cells ({ frames := 0, cells := 0, slots := 0, locals := 0 } : Room).slots) _
  refine OGo.to (fun _ k => castTop (ef_7 m q1 q2) k) ?_
  refine OGo.to (fun _ k => XS.lloadN X0.here hx rfl (hb hby d7_0) rfl k) ?_
  show OGo p e below _ (s₁.setTop (mkF m 1 #[.val (.long q1), .second, .val (.long q2), .second] [(.long q1)]))
  refine OGo.to (fun _ k => XS.lloadN X0.here hx rfl (hb hby d7_1) rfl k) ?_
  show OGo p e below _ (s₁.setTop (mkF m 2 #[.val (.long q1), .second, .val (.long q2), .second] [(.long q2), (.long q1)]))
  refine OGo.to (fun _ k => XS.lcmp X0.here hx rfl (hb hby d7_2) rfl k) ?_
  show OGo p e below _ (s₁.setTop (mkF m 3 #[.val (.long q1), .second, .val (.long q2), .second] [(.int (lcmpW q1 q2))]))
  by_cases hc3_1 : q1 < q2
  ·  -- pc 3: yes
    refine OGo.to (fun _ k => XS.ifNo X0.here hx rfl (hb hby d7_3) rfl ((if0 _ _).trans (tlt ((lw_lt q1 q2).mpr hc3_1)).2.1) k) ?_
    show OGo p e below _ (s₁.setTop (mkF m 6 #[.val (.long q1), .second, .val (.long q2), .second] []))
    refine OGo.to (fun _ k => XS.iconst X0.here hx rfl (hb hby d7_6) k) ?_
    show OGo p e below _ (s₁.setTop (mkF m 7 #[.val (.long q1), .second, .val (.long q2), .second] [(.int (-1 : Int32))]))
    refine OGo.to (fun _ k => XS.goto X0.here hx rfl (pc0 := 7) (pc' := 21) rfl (hb hby d7_7) (by decide) (by decide) k) ?_
    show OGo p e below _ (s₁.setTop (mkF m 21 #[.val (.long q1), .second, .val (.long q2), .second] [(.int (-1 : Int32))]))
    refine OGo.ret (Q := Q7 Z q1 q2 h0 n0) X0 (some (.int (-1 : Int32))) (fun h => by rw [Bd.returns] at h; cases h) Bd.notSynchronized (fun fs hr => retI X0 hx Bd.returns (hb hby d7_21) hr) ?_ (by decide) (by decide)
    show Q7 Z q1 q2 h0 n0 _ s₁.heap _
    rw [e0]
    exact ⟨congrArg (fun z => some (Value.int z)) (show (-1 : Int32) = (own_lcmp q1 q2) from by unfold own_lcmp; rw [if_pos hc3_1]), N0, rfl⟩
  ·  -- pc 3: no
    refine OGo.to (fun _ k => XS.ifYes X0.here hx rfl (pc0 := 3) (pc' := 10) rfl (hb hby d7_3) rfl ((if0 _ _).trans (flt (mt (lw_lt q1 q2).mp hc3_1)).2.1) (by decide) (by decide) k) ?_
    show OGo p e below _ (s₁.setTop (mkF m 10 #[.val (.long q1), .second, .val (.long q2), .second] []))
    refine OGo.to (fun _ k => XS.lloadN X0.here hx rfl (hb hby d7_10) rfl k) ?_
    show OGo p e below _ (s₁.setTop (mkF m 11 #[.val (.long q1), .second, .val (.long q2), .second] [(.long q1)]))
    refine OGo.to (fun _ k => XS.lloadN X0.here hx rfl (hb hby d7_11) rfl k) ?_
    show OGo p e below _ (s₁.setTop (mkF m 12 #[.val (.long q1), .second, .val (.long q2), .second] [(.long q2), (.long q1)]))
    refine OGo.to (fun _ k => XS.lcmp X0.here hx rfl (hb hby d7_12) rfl k) ?_
    show OGo p e below _ (s₁.setTop (mkF m 13 #[.val (.long q1), .second, .val (.long q2), .second] [(.int (lcmpW q1 q2))]))
    by_cases hc13_2 : q1 = q2
    ·  -- pc 13: yes
      refine OGo.to (fun _ k => XS.ifNo X0.here hx rfl (hb hby d7_13) rfl ((if0 _ _).trans (teq ((lw_eq q1 q2).mpr hc13_2)).2) k) ?_
      show OGo p e below _ (s₁.setTop (mkF m 16 #[.val (.long q1), .second, .val (.long q2), .second] []))
      refine OGo.to (fun _ k => XS.iconst X0.here hx rfl (hb hby d7_16) k) ?_
      show OGo p e below _ (s₁.setTop (mkF m 17 #[.val (.long q1), .second, .val (.long q2), .second] [(.int (0 : Int32))]))
      refine OGo.to (fun _ k => XS.goto X0.here hx rfl (pc0 := 17) (pc' := 21) rfl (hb hby d7_17) (by decide) (by decide) k) ?_
      show OGo p e below _ (s₁.setTop (mkF m 21 #[.val (.long q1), .second, .val (.long q2), .second] [(.int (0 : Int32))]))
      refine OGo.ret (Q := Q7 Z q1 q2 h0 n0) X0 (some (.int (0 : Int32))) (fun h => by rw [Bd.returns] at h; cases h) Bd.notSynchronized (fun fs hr => retI X0 hx Bd.returns (hb hby d7_21) hr) ?_ (by decide) (by decide)
      show Q7 Z q1 q2 h0 n0 _ s₁.heap _
      rw [e0]
      exact ⟨congrArg (fun z => some (Value.int z)) (show (0 : Int32) = (own_lcmp q1 q2) from by unfold own_lcmp; rw [if_neg hc3_1, if_pos hc13_2]), N0, rfl⟩
    ·  -- pc 13: no
      refine OGo.to (fun _ k => XS.ifYes X0.here hx rfl (pc0 := 13) (pc' := 20) rfl (hb hby d7_13) rfl ((if0 _ _).trans (feq (mt (lw_eq q1 q2).mp hc13_2)).2) (by decide) (by decide) k) ?_
      show OGo p e below _ (s₁.setTop (mkF m 20 #[.val (.long q1), .second, .val (.long q2), .second] []))
      refine OGo.to (fun _ k => XS.iconst X0.here hx rfl (hb hby d7_20) k) ?_
      show OGo p e below _ (s₁.setTop (mkF m 21 #[.val (.long q1), .second, .val (.long q2), .second] [(.int (1 : Int32))]))
      refine OGo.ret (Q := Q7 Z q1 q2 h0 n0) X0 (some (.int (1 : Int32))) (fun h => by rw [Bd.returns] at h; cases h) Bd.notSynchronized (fun fs hr => retI X0 hx Bd.returns (hb hby d7_21) hr) ?_ (by decide) (by decide)
      show Q7 Z q1 q2 h0 n0 _ s₁.heap _
      rw [e0]
      exact ⟨congrArg (fun z => some (Value.int z)) (show (1 : Int32) = (own_lcmp q1 q2) from by unfold own_lcmp; rw [if_neg hc3_1, if_neg hc13_2]), N0, rfl⟩
theorem d9_0 : decode jdk_33_method_40_code 0 = .ok (.iload_n 0, 1) := by decide +kernel
theorem d9_1 : decode jdk_33_method_40_code 1 = .ok (.iload_n 1, 1) := by decide +kernel
theorem d9_2 : decode jdk_33_method_40_code 2 = .ok (.if_icmp .ge 7, 3) := by decide +kernel
theorem d9_5 : decode jdk_33_method_40_code 5 = .ok (.iconst (-1), 1) := by decide +kernel
theorem d9_6 : decode jdk_33_method_40_code 6 = .ok (.goto 13, 3) := by decide +kernel
theorem d9_9 : decode jdk_33_method_40_code 9 = .ok (.iload_n 0, 1) := by decide +kernel
theorem d9_10 : decode jdk_33_method_40_code 10 = .ok (.iload_n 1, 1) := by decide +kernel
theorem d9_11 : decode jdk_33_method_40_code 11 = .ok (.if_icmp .ne 7, 3) := by decide +kernel
theorem d9_14 : decode jdk_33_method_40_code 14 = .ok (.iconst 0, 1) := by decide +kernel
theorem d9_15 : decode jdk_33_method_40_code 15 = .ok (.goto 4, 3) := by decide +kernel
theorem d9_18 : decode jdk_33_method_40_code 18 = .ok (.iconst 1, 1) := by decide +kernel
theorem d9_19 : decode jdk_33_method_40_code 19 = .ok (.ireturn, 1) := by decide +kernel
theorem ef_9 (m : MethodId) (x0 : Int32) (x1 : Int32) : entryFrame m #[(.int x0), (.int x1)] 2 = mkF m 0 #[.val (.int x0), .val (.int x1)] [] := by first | (simp [entryFrame, mkF, argsToLocals, Value.category]; done) | rfl
def Q9 (Z : State) (p1 : Int32) (p2 : Int32) (h0 : Heap) (n0 : Nat) (v : Option Value) (h : Heap) (L : List Loc) : Prop := v = some (.int (own_icmp p1 p2)) ∧ Fr n0 L ∧ h = h0
set_option maxRecDepth 65536 in
set_option maxHeartbeats 40000000 in
theorem rm9 (l : Launch) (Z : State) (a0 : Array Value) (hw : ∀ d ∈ tables_1, d.before a0 Z = true) (ws : List Jvm.Cond) (p1 : Int32) (p2 : Int32) (h0 : Heap) (n0 : Nat) (Z0 : n0 ≤ h0.size) :
    MetFree l (⟨"java/lang/Integer", "compare", "(II)I"⟩ : MethodName) (head1 (Jvm.Cond.code (⟨"java/lang/Integer", "compare", "(II)I"⟩ : MethodName) jdk_33_method_40_code 2 (some .int) :: ws) ({ frames := 0, cells := 0, slots := 0, locals := 0 } : Room)) (fun a U => a = #[(.int p1), (.int p2)] ∧ Z.Warmed39 U.vm ∧ U.heap = h0) (fun _ _ _ _ _ => True) (fun _ U o U' => ∃ v L, o = .returned v ∧ Q9 Z p1 p2 h0 n0 v U'.heap L ∧ FrameEnd U o U' L ({ frames := 0, cells := 0, slots := 0, locals := 0 } : Room).cells ({ frames := 0, cells := 0, slots := 0, locals := 0 } : Room).slots) := by
  refine MetFree.of_bodySF (plainFor_of_name pn_3) hisR ?_
  intro p e s m args below meth c s₁ Bd hml0 hP hK
  obtain ⟨rfl, hZ, hh⟩ := hP
  have hx := Bd.exec
  have hby := Bd.bytes
  have hml : c.maxLocals = 2 := hml0
  have hown : s.vm.findClass "java/lang/Integer" = some m.cls := findClass_of_methodNamed Bd.named
  have hnm := (name_of_methodNamed Bd.named Bd.method).1
  have X0 : Stand p l e ({ frames := 0, cells := 0, slots := 0, locals := 0 } : Room) s m #[(.int p1), (.int p2)] below meth c s₁ [] 0 0 := Stand.of_body Bd
  have e0 : s₁.heap = h0 := by rw [← hh, Bd.state]; rfl
  have N0 := Fr.nil n0
  show OGo p e below (fun s₂ o => ∃ v L, o = .returned v ∧ Q9 Z p1 p2 h0 n0 v s₂.heap L ∧ FrameEnd s o s₂ L ({ frames := 0, cells := 0, slots := 0, locals := 0 } : Room).cells ({ frames := 0, cells := 0, slots := 0, locals := 0 } : Room).slots) _
  refine OGo.to (fun _ k => castTop (ef_9 m p1 p2) k) ?_
  refine OGo.to (fun _ k => XS.iloadN X0.here hx rfl (hb hby d9_0) rfl k) ?_
  show OGo p e below _ (s₁.setTop (mkF m 1 #[.val (.int p1), .val (.int p2)] [(.int p1)]))
  refine OGo.to (fun _ k => XS.iloadN X0.here hx rfl (hb hby d9_1) rfl k) ?_
  show OGo p e below _ (s₁.setTop (mkF m 2 #[.val (.int p1), .val (.int p2)] [(.int p2), (.int p1)]))
  by_cases hc2_1 : p1 < p2
  ·  -- pc 2: yes
    refine OGo.to (fun _ k => XS.icmpNo X0.here hx rfl (hb hby d9_2) rfl (tlt hc2_1).2.1 k) ?_
    show OGo p e below _ (s₁.setTop (mkF m 5 #[.val (.int p1), .val (.int p2)] []))
    refine OGo.to (fun _ k => XS.iconst X0.here hx rfl (hb hby d9_5) k) ?_
    show OGo p e below _ (s₁.setTop (mkF m 6 #[.val (.int p1), .val (.int p2)] [(.int (-1 : Int32))]))
    refine OGo.to (fun _ k => XS.goto X0.here hx rfl (pc0 := 6) (pc' := 19) rfl (hb hby d9_6) (by decide) (by decide) k) ?_
    show OGo p e below _ (s₁.setTop (mkF m 19 #[.val (.int p1), .val (.int p2)] [(.int (-1 : Int32))]))
    refine OGo.ret (Q := Q9 Z p1 p2 h0 n0) X0 (some (.int (-1 : Int32))) (fun h => by rw [Bd.returns] at h; cases h) Bd.notSynchronized (fun fs hr => retI X0 hx Bd.returns (hb hby d9_19) hr) ?_ (by decide) (by decide)
    show Q9 Z p1 p2 h0 n0 _ s₁.heap _
    rw [e0]
    exact ⟨congrArg (fun z => some (Value.int z)) (show (-1 : Int32) = (own_icmp p1 p2) from by unfold own_icmp; rw [if_pos hc2_1]), N0, rfl⟩
  ·  -- pc 2: no
    refine OGo.to (fun _ k => XS.icmpYes X0.here hx rfl (pc0 := 2) (pc' := 9) rfl (hb hby d9_2) rfl (flt hc2_1).2.1 (by decide) (by decide) k) ?_
    show OGo p e below _ (s₁.setTop (mkF m 9 #[.val (.int p1), .val (.int p2)] []))
    refine OGo.to (fun _ k => XS.iloadN X0.here hx rfl (hb hby d9_9) rfl k) ?_
    show OGo p e below _ (s₁.setTop (mkF m 10 #[.val (.int p1), .val (.int p2)] [(.int p1)]))
    refine OGo.to (fun _ k => XS.iloadN X0.here hx rfl (hb hby d9_10) rfl k) ?_
    show OGo p e below _ (s₁.setTop (mkF m 11 #[.val (.int p1), .val (.int p2)] [(.int p2), (.int p1)]))
    by_cases hc11_2 : p1 = p2
    ·  -- pc 11: yes
      refine OGo.to (fun _ k => XS.icmpNo X0.here hx rfl (hb hby d9_11) rfl (teq hc11_2).2 k) ?_
      show OGo p e below _ (s₁.setTop (mkF m 14 #[.val (.int p1), .val (.int p2)] []))
      refine OGo.to (fun _ k => XS.iconst X0.here hx rfl (hb hby d9_14) k) ?_
      show OGo p e below _ (s₁.setTop (mkF m 15 #[.val (.int p1), .val (.int p2)] [(.int (0 : Int32))]))
      refine OGo.to (fun _ k => XS.goto X0.here hx rfl (pc0 := 15) (pc' := 19) rfl (hb hby d9_15) (by decide) (by decide) k) ?_
      show OGo p e below _ (s₁.setTop (mkF m 19 #[.val (.int p1), .val (.int p2)] [(.int (0 : Int32))]))
      refine OGo.ret (Q := Q9 Z p1 p2 h0 n0) X0 (some (.int (0 : Int32))) (fun h => by rw [Bd.returns] at h; cases h) Bd.notSynchronized (fun fs hr => retI X0 hx Bd.returns (hb hby d9_19) hr) ?_ (by decide) (by decide)
      show Q9 Z p1 p2 h0 n0 _ s₁.heap _
      rw [e0]
      exact ⟨congrArg (fun z => some (Value.int z)) (show (0 : Int32) = (own_icmp p1 p2) from by unfold own_icmp; rw [if_neg hc2_1, if_pos hc11_2]), N0, rfl⟩
    ·  -- pc 11: no
      refine OGo.to (fun _ k => XS.icmpYes X0.here hx rfl (pc0 := 11) (pc' := 18) rfl (hb hby d9_11) rfl (feq hc11_2).2 (by decide) (by decide) k) ?_
      show OGo p e below _ (s₁.setTop (mkF m 18 #[.val (.int p1), .val (.int p2)] []))
      refine OGo.to (fun _ k => XS.iconst X0.here hx rfl (hb hby d9_18) k) ?_
      show OGo p e below _ (s₁.setTop (mkF m 19 #[.val (.int p1), .val (.int p2)] [(.int (1 : Int32))]))
      refine OGo.ret (Q := Q9 Z p1 p2 h0 n0) X0 (some (.int (1 : Int32))) (fun h => by rw [Bd.returns] at h; cases h) Bd.notSynchronized (fun fs hr => retI X0 hx Bd.returns (hb hby d9_19) hr) ?_ (by decide) (by decide)
      show Q9 Z p1 p2 h0 n0 _ s₁.heap _
      rw [e0]
      exact ⟨congrArg (fun z => some (Value.int z)) (show (1 : Int32) = (own_icmp p1 p2) from by unfold own_icmp; rw [if_neg hc2_1, if_neg hc11_2]), N0, rfl⟩
theorem d6_0 : decode prog_16_method_3_code 0 = .ok (.aload_n 0, 1) := by decide +kernel
theorem d6_1 : decode prog_16_method_3_code 1 = .ok (.getfield 16, 3) := by decide +kernel
theorem d6_4 : decode prog_16_method_3_code 4 = .ok (.aload_n 1, 1) := by decide +kernel
theorem d6_5 : decode prog_16_method_3_code 5 = .ok (.getfield 16, 3) := by decide +kernel
theorem d6_8 : decode prog_16_method_3_code 8 = .ok (.lcmp, 1) := by decide +kernel
theorem d6_9 : decode prog_16_method_3_code 9 = .ok (.ifCond .eq 15, 3) := by decide +kernel
theorem d6_12 : decode prog_16_method_3_code 12 = .ok (.aload_n 0, 1) := by decide +kernel
theorem d6_13 : decode prog_16_method_3_code 13 = .ok (.getfield 16, 3) := by decide +kernel
theorem d6_16 : decode prog_16_method_3_code 16 = .ok (.aload_n 1, 1) := by decide +kernel
theorem d6_17 : decode prog_16_method_3_code 17 = .ok (.getfield 16, 3) := by decide +kernel
theorem d6_20 : decode prog_16_method_3_code 20 = .ok (.invokestatic 74, 3) := by decide +kernel
theorem d6_23 : decode prog_16_method_3_code 23 = .ok (.ireturn, 1) := by decide +kernel
theorem d6_24 : decode prog_16_method_3_code 24 = .ok (.aload_n 0, 1) := by decide +kernel
theorem d6_25 : decode prog_16_method_3_code 25 = .ok (.getfield 22, 3) := by decide +kernel
theorem d6_28 : decode prog_16_method_3_code 28 = .ok (.aload_n 1, 1) := by decide +kernel
theorem d6_29 : decode prog_16_method_3_code 29 = .ok (.getfield 22, 3) := by decide +kernel
theorem d6_32 : decode prog_16_method_3_code 32 = .ok (.if_icmp .eq 15, 3) := by decide +kernel
theorem d6_35 : decode prog_16_method_3_code 35 = .ok (.aload_n 0, 1) := by decide +kernel
theorem d6_36 : decode prog_16_method_3_code 36 = .ok (.getfield 22, 3) := by decide +kernel
theorem d6_39 : decode prog_16_method_3_code 39 = .ok (.aload_n 1, 1) := by decide +kernel
theorem d6_40 : decode prog_16_method_3_code 40 = .ok (.getfield 22, 3) := by decide +kernel
theorem d6_43 : decode prog_16_method_3_code 43 = .ok (.invokestatic 78, 3) := by decide +kernel
theorem d6_46 : decode prog_16_method_3_code 46 = .ok (.ireturn, 1) := by decide +kernel
theorem d6_47 : decode prog_16_method_3_code 47 = .ok (.aload_n 0, 1) := by decide +kernel
theorem d6_48 : decode prog_16_method_3_code 48 = .ok (.getfield 26, 3) := by decide +kernel
theorem d6_51 : decode prog_16_method_3_code 51 = .ok (.aload_n 1, 1) := by decide +kernel
theorem d6_52 : decode prog_16_method_3_code 52 = .ok (.getfield 26, 3) := by decide +kernel
theorem d6_55 : decode prog_16_method_3_code 55 = .ok (.invokestatic 78, 3) := by decide +kernel
theorem d6_58 : decode prog_16_method_3_code 58 = .ok (.ireturn, 1) := by decide +kernel
theorem ef_6 (m : MethodId) (x0 : Addr) (x1 : Addr) : entryFrame m #[(.ref x0), (.ref x1)] 2 = mkF m 0 #[.val (.ref x0), .val (.ref x1)] [] := by first | (simp [entryFrame, mkF, argsToLocals, Value.category]; done) | rfl
def Q6 (Z : State) (a1 : Addr) (a2 : Addr) (t1 : Int64) (c1 : Int32) (k1 : Int32) (t2 : Int64) (c2 : Int32) (k2 : Int32) (h0 : Heap) (n0 : Nat) (v : Option Value) (h : Heap) (L : List Loc) : Prop := v = some (.int (own_cmp t1 c1 k1 t2 c2 k2)) ∧ Fr n0 L ∧ h = h0
set_option maxRecDepth 65536 in
set_option maxHeartbeats 40000000 in
theorem rm6 (l : Launch) (Z : State) (a0 : Array Value) (hw : ∀ d ∈ tables_1, d.before a0 Z = true) (ws : List Jvm.Cond) (a1 : Addr) (a2 : Addr) (t1 : Int64) (c1 : Int32) (k1 : Int32) (t2 : Int64) (c2 : Int32) (k2 : Int32) (h0 : Heap) (n0 : Nat) (Z0 : n0 ≤ h0.size) (G0 : Fld Z h0 a1 "com/example/heartwood/heartwood/Revision" "timestamp" "J" (.long t1)) (G1 : Fld Z h0 a1 "com/example/heartwood/heartwood/Revision" "counter" "I" (.int c1)) (G2 : Fld Z h0 a1 "com/example/heartwood/heartwood/Revision" "clusterId" "I" (.int k1)) (J0 : Fld Z h0 a2 "com/example/heartwood/heartwood/Revision" "timestamp" "J" (.long t2)) (J1 : Fld Z h0 a2 "com/example/heartwood/heartwood/Revision" "counter" "I" (.int c2)) (J2 : Fld Z h0 a2 "com/example/heartwood/heartwood/Revision" "clusterId" "I" (.int k2)) :
    MetFree l (⟨"com/example/heartwood/heartwood/Revision", "compareTo", "(Lcom/example/heartwood/heartwood/Revision;)I"⟩ : MethodName) (head1 (Jvm.Cond.code (⟨"com/example/heartwood/heartwood/Revision", "compareTo", "(Lcom/example/heartwood/heartwood/Revision;)I"⟩ : MethodName) prog_16_method_3_code 2 (some .int) :: ws) ({ frames := 1, cells := 0, slots := 0, locals := 15 } : Room)) (fun a U => a = #[(.ref a1), (.ref a2)] ∧ Z.Warmed39 U.vm ∧ U.heap = h0) (fun _ _ _ _ _ => True) (fun _ U o U' => ∃ v L, o = .returned v ∧ Q6 Z a1 a2 t1 c1 k1 t2 c2 k2 h0 n0 v U'.heap L ∧ FrameEnd U o U' L ({ frames := 1, cells := 0, slots := 0, locals := 15 } : Room).cells ({ frames := 1, cells := 0, slots := 0, locals := 15 } : Room).slots) := by
  refine MetFree.of_bodySF (plainFor_of_name pn_1) hisR ?_
  intro p e s m args below meth c s₁ Bd hml0 hP hK
  obtain ⟨rfl, hZ, hh⟩ := hP
  have hx := Bd.exec
  have hby := Bd.bytes
  have hml : c.maxLocals = 2 := hml0
  have hown : s.vm.findClass "com/example/heartwood/heartwood/Revision" = some m.cls := findClass_of_methodNamed Bd.named
  have hnm := (name_of_methodNamed Bd.named Bd.method).1
  have X0 : Stand p l e ({ frames := 1, cells := 0, slots := 0, locals := 15 } : Room) s m #[(.ref a1), (.ref a2)] below meth c s₁ [] 0 0 := Stand.of_body Bd
  have e0 : s₁.heap = h0 := by rw [← hh, Bd.state]; rfl
  have N0 := Fr.nil n0
  show OGo p e below (fun s₂ o => ∃ v L, o = .returned v ∧ Q6 Z a1 a2 t1 c1 k1 t2 c2 k2 h0 n0 v s₂.heap L ∧ FrameEnd s o s₂ L ({ frames := 1, cells := 0, slots := 0, locals := 15 } : Room).cells ({ frames := 1, cells := 0, slots := 0, locals := 15 } : Room).slots) _
  refine OGo.to (fun _ k => castTop (ef_6 m a1 a2) k) ?_
  refine OGo.to (fun _ k => XS.aloadN X0.here hx rfl (hb hby d6_0) rfl rfl k) ?_
  show OGo p e below _ (s₁.setTop (mkF m 1 #[.val (.ref a1), .val (.ref a2)] [(.ref a1)]))
  obtain ⟨T1, X1, e1, st1⟩ := getF X0 hx hZ hown (host := "") (Or.inl (hw _ (List.mem_of_getElem? (i := 20) rfl))) Via.refl e0 G0 (g := (mkF m 1 #[.val (.ref a1), .val (.ref a2)] [(.ref a1)])) rfl rfl (hb hby d6_1)
  refine OGo.to st1 ?_
  show OGo p e below _ (T1.setTop (mkF m 4 #[.val (.ref a1), .val (.ref a2)] [(.long t1)]))
  refine OGo.to (fun _ k => XS.aloadN X1.here hx rfl (hb hby d6_4) rfl rfl k) ?_
  show OGo p e below _ (T1.setTop (mkF m 5 #[.val (.ref a1), .val (.ref a2)] [(.ref a2), (.long t1)]))
  obtain ⟨T2, X2, e2, st2⟩ := getF X1 hx hZ hown (host := "") (Or.inl (hw _ (List.mem_of_getElem? (i := 20) rfl))) Via.refl e1 J0 (g := (mkF m 5 #[.val (.ref a1), .val (.ref a2)] [(.ref a2), (.long t1)])) rfl rfl (hb hby d6_5)
  refine OGo.to st2 ?_
  show OGo p e below _ (T2.setTop (mkF m 8 #[.val (.ref a1), .val (.ref a2)] [(.long t2), (.long t1)]))
  refine OGo.to (fun _ k => XS.lcmp X2.here hx rfl (hb hby d6_8) rfl k) ?_
  show OGo p e below _ (T2.setTop (mkF m 9 #[.val (.ref a1), .val (.ref a2)] [(.int (lcmpW t1 t2))]))
  by_cases hc9_3 : t1 = t2
  ·  -- pc 9: yes
    refine OGo.to (fun _ k => XS.ifYes X2.here hx rfl (pc0 := 9) (pc' := 24) rfl (hb hby d6_9) rfl ((if0 _ _).trans (teq ((lw_eq t1 t2).mpr hc9_3)).1) (by decide) (by decide) k) ?_
    show OGo p e below _ (T2.setTop (mkF m 24 #[.val (.ref a1), .val (.ref a2)] []))
    refine OGo.to (fun _ k => XS.aloadN X2.here hx rfl (hb hby d6_24) rfl rfl k) ?_
    show OGo p e below _ (T2.setTop (mkF m 25 #[.val (.ref a1), .val (.ref a2)] [(.ref a1)]))
    obtain ⟨T4, X4, e4, st4⟩ := getF X2 hx hZ hown (host := "") (Or.inl (hw _ (List.mem_of_getElem? (i := 22) rfl))) Via.refl e2 G1 (g := (mkF m 25 #[.val (.ref a1), .val (.ref a2)] [(.ref a1)])) rfl rfl (hb hby d6_25)
    refine OGo.to st4 ?_
    show OGo p e below _ (T4.setTop (mkF m 28 #[.val (.ref a1), .val (.ref a2)] [(.int c1)]))
    refine OGo.to (fun _ k => XS.aloadN X4.here hx rfl (hb hby d6_28) rfl rfl k) ?_
    show OGo p e below _ (T4.setTop (mkF m 29 #[.val (.ref a1), .val (.ref a2)] [(.ref a2), (.int c1)]))
    obtain ⟨T5, X5, e5, st5⟩ := getF X4 hx hZ hown (host := "") (Or.inl (hw _ (List.mem_of_getElem? (i := 22) rfl))) Via.refl e4 J1 (g := (mkF m 29 #[.val (.ref a1), .val (.ref a2)] [(.ref a2), (.int c1)])) rfl rfl (hb hby d6_29)
    refine OGo.to st5 ?_
    show OGo p e below _ (T5.setTop (mkF m 32 #[.val (.ref a1), .val (.ref a2)] [(.int c2), (.int c1)]))
    by_cases hc32_6 : c1 = c2
    ·  -- pc 32: yes
      refine OGo.to (fun _ k => XS.icmpYes X5.here hx rfl (pc0 := 32) (pc' := 47) rfl (hb hby d6_32) rfl (teq hc32_6).1 (by decide) (by decide) k) ?_
      show OGo p e below _ (T5.setTop (mkF m 47 #[.val (.ref a1), .val (.ref a2)] []))
      refine OGo.to (fun _ k => XS.aloadN X5.here hx rfl (hb hby d6_47) rfl rfl k) ?_
      show OGo p e below _ (T5.setTop (mkF m 48 #[.val (.ref a1), .val (.ref a2)] [(.ref a1)]))
      obtain ⟨T7, X7, e7, st7⟩ := getF X5 hx hZ hown (host := "") (Or.inl (hw _ (List.mem_of_getElem? (i := 24) rfl))) Via.refl e5 G2 (g := (mkF m 48 #[.val (.ref a1), .val (.ref a2)] [(.ref a1)])) rfl rfl (hb hby d6_48)
      refine OGo.to st7 ?_
      show OGo p e below _ (T7.setTop (mkF m 51 #[.val (.ref a1), .val (.ref a2)] [(.int k1)]))
      refine OGo.to (fun _ k => XS.aloadN X7.here hx rfl (hb hby d6_51) rfl rfl k) ?_
      show OGo p e below _ (T7.setTop (mkF m 52 #[.val (.ref a1), .val (.ref a2)] [(.ref a2), (.int k1)]))
      obtain ⟨T8, X8, e8, st8⟩ := getF X7 hx hZ hown (host := "") (Or.inl (hw _ (List.mem_of_getElem? (i := 24) rfl))) Via.refl e7 J2 (g := (mkF m 52 #[.val (.ref a1), .val (.ref a2)] [(.ref a2), (.int k1)])) rfl rfl (hb hby d6_52)
      refine OGo.to st8 ?_
      show OGo p e below _ (T8.setTop (mkF m 55 #[.val (.ref a1), .val (.ref a2)] [(.int k2), (.int k1)]))
      obtain ⟨_, _, ⟨T9, L9, k9, n9⟩, -, X9, ⟨Lc9, hQ9, l9, y9, z9⟩, st9⟩ := Jvm.LawKit.callS X8 hx (y := (⟨"java/lang/Integer", "compare", "(II)I"⟩ : MethodName)) hown (mvT hZ (hw _ (List.mem_of_getElem? (i := 42) rfl))) (mvT hZ (hw _ (List.mem_of_getElem? (i := 43) rfl))) (mvT hZ (hw _ (List.mem_of_getElem? (i := 44) rfl))) (mvT hZ (hw _ (List.mem_of_getElem? (i := 45) rfl))) (by decide) (backOf (W := 0) (rm9 l Z a0 hw [] k1 k2 h0 n0 Z0 ) hZ (hw _ (List.mem_of_getElem? (i := 45) rfl)) (hw _ (List.mem_of_getElem? (i := 44) rfl)) (by decide) (by decide)) (g := (mkF m 55 #[.val (.ref a1), .val (.ref a2)] [(.int k2), (.int k1)])) rfl (by rw [hml]; rfl) (argsL := [(.int k1), (.int k2)]) (rest := []) (lenOf pd_1 rfl) rfl (by show 2 * 0 + _ ≤ _; exact Nat.le_of_eq rfl) (hb hby d6_55) (fun _ _ => ⟨rfl, e8, (by decide : 0 + 0 ≤ _), (by decide : 0 + 0 ≤ _)⟩)
      dsimp only [Pt.U, Pt.locs, Pt.cells, Pt.slots] at X9 l9 y9 z9 st9 hQ9
      subst l9 y9 z9
      obtain ⟨rfl, N9q, e9⟩ := hQ9
      have N9 := Fr.app N0 N9q
      refine OGo.to st9 ?_
      show OGo p e below _ (T9.setTop (mkF m 58 #[.val (.ref a1), .val (.ref a2)] [(.int (own_icmp k1 k2))]))
      refine OGo.ret (Q := Q6 Z a1 a2 t1 c1 k1 t2 c2 k2 h0 n0) X9 (some (.int (own_icmp k1 k2))) (fun h => by rw [Bd.returns] at h; cases h) Bd.notSynchronized (fun fs hr => retI X9 hx Bd.returns (hb hby d6_58) hr) ?_ (by decide) (by decide)
      show Q6 Z a1 a2 t1 c1 k1 t2 c2 k2 h0 n0 _ T9.heap _
      rw [e9]
      exact ⟨congrArg (fun z => some (Value.int z)) (show (own_icmp k1 k2) = (own_cmp t1 c1 k1 t2 c2 k2) from by unfold own_cmp; rw [if_pos hc9_3, if_pos hc32_6]), N9, rfl⟩
    ·  -- pc 32: no
      refine OGo.to (fun _ k => XS.icmpNo X5.here hx rfl (hb hby d6_32) rfl (feq hc32_6).1 k) ?_
      show OGo p e below _ (T5.setTop (mkF m 35 #[.val (.ref a1), .val (.ref a2)] []))
      refine OGo.to (fun _ k => XS.aloadN X5.here hx rfl (hb hby d6_35) rfl rfl k) ?_
      show OGo p e below _ (T5.setTop (mkF m 36 #[.val (.ref a1), .val (.ref a2)] [(.ref a1)]))
      obtain ⟨T10, X10, e10, st10⟩ := getF X5 hx hZ hown (host := "") (Or.inl (hw _ (List.mem_of_getElem? (i := 22) rfl))) Via.refl e5 G1 (g := (mkF m 36 #[.val (.ref a1), .val (.ref a2)] [(.ref a1)])) rfl rfl (hb hby d6_36)
      refine OGo.to st10 ?_
      show OGo p e below _ (T10.setTop (mkF m 39 #[.val (.ref a1), .val (.ref a2)] [(.int c1)]))
      refine OGo.to (fun _ k => XS.aloadN X10.here hx rfl (hb hby d6_39) rfl rfl k) ?_
      show OGo p e below _ (T10.setTop (mkF m 40 #[.val (.ref a1), .val (.ref a2)] [(.ref a2), (.int c1)]))
      obtain ⟨T11, X11, e11, st11⟩ := getF X10 hx hZ hown (host := "") (Or.inl (hw _ (List.mem_of_getElem? (i := 22) rfl))) Via.refl e10 J1 (g := (mkF m 40 #[.val (.ref a1), .val (.ref a2)] [(.ref a2), (.int c1)])) rfl rfl (hb hby d6_40)
      refine OGo.to st11 ?_
      show OGo p e below _ (T11.setTop (mkF m 43 #[.val (.ref a1), .val (.ref a2)] [(.int c2), (.int c1)]))
      obtain ⟨_, _, ⟨T12, L12, k12, n12⟩, -, X12, ⟨Lc12, hQ12, l12, y12, z12⟩, st12⟩ := Jvm.LawKit.callS X11 hx (y := (⟨"java/lang/Integer", "compare", "(II)I"⟩ : MethodName)) hown (mvT hZ (hw _ (List.mem_of_getElem? (i := 42) rfl))) (mvT hZ (hw _ (List.mem_of_getElem? (i := 43) rfl))) (mvT hZ (hw _ (List.mem_of_getElem? (i := 44) rfl))) (mvT hZ (hw _ (List.mem_of_getElem? (i := 45) rfl))) (by decide) (backOf (W := 0) (rm9 l Z a0 hw [] c1 c2 h0 n0 Z0 ) hZ (hw _ (List.mem_of_getElem? (i := 45) rfl)) (hw _ (List.mem_of_getElem? (i := 44) rfl)) (by decide) (by decide)) (g := (mkF m 43 #[.val (.ref a1), .val (.ref a2)] [(.int c2), (.int c1)])) rfl (by rw [hml]; rfl) (argsL := [(.int c1), (.int c2)]) (rest := []) (lenOf pd_1 rfl) rfl (by show 2 * 0 + _ ≤ _; exact Nat.le_of_eq rfl) (hb hby d6_43) (fun _ _ => ⟨rfl, e11, (by decide : 0 + 0 ≤ _), (by decide : 0 + 0 ≤ _)⟩)
      dsimp only [Pt.U, Pt.locs, Pt.cells, Pt.slots] at X12 l12 y12 z12 st12 hQ12
      subst l12 y12 z12
      obtain ⟨rfl, N12q, e12⟩ := hQ12
      have N12 := Fr.app N0 N12q
      refine OGo.to st12 ?_
      show OGo p e below _ (T12.setTop (mkF m 46 #[.val (.ref a1), .val (.ref a2)] [(.int (own_icmp c1 c2))]))
      refine OGo.ret (Q := Q6 Z a1 a2 t1 c1 k1 t2 c2 k2 h0 n0) X12 (some (.int (own_icmp c1 c2))) (fun h => by rw [Bd.returns] at h; cases h) Bd.notSynchronized (fun fs hr => retI X12 hx Bd.returns (hb hby d6_46) hr) ?_ (by decide) (by decide)
      show Q6 Z a1 a2 t1 c1 k1 t2 c2 k2 h0 n0 _ T12.heap _
      rw [e12]
      exact ⟨congrArg (fun z => some (Value.int z)) (show (own_icmp c1 c2) = (own_cmp t1 c1 k1 t2 c2 k2) from by unfold own_cmp; rw [if_pos hc9_3, if_neg hc32_6]), N12, rfl⟩
  ·  -- pc 9: no
    refine OGo.to (fun _ k => XS.ifNo X2.here hx rfl (hb hby d6_9) rfl ((if0 _ _).trans (feq (mt (lw_eq t1 t2).mp hc9_3)).1) k) ?_
    show OGo p e below _ (T2.setTop (mkF m 12 #[.val (.ref a1), .val (.ref a2)] []))
    refine OGo.to (fun _ k => XS.aloadN X2.here hx rfl (hb hby d6_12) rfl rfl k) ?_
    show OGo p e below _ (T2.setTop (mkF m 13 #[.val (.ref a1), .val (.ref a2)] [(.ref a1)]))
    obtain ⟨T13, X13, e13, st13⟩ := getF X2 hx hZ hown (host := "") (Or.inl (hw _ (List.mem_of_getElem? (i := 20) rfl))) Via.refl e2 G0 (g := (mkF m 13 #[.val (.ref a1), .val (.ref a2)] [(.ref a1)])) rfl rfl (hb hby d6_13)
    refine OGo.to st13 ?_
    show OGo p e below _ (T13.setTop (mkF m 16 #[.val (.ref a1), .val (.ref a2)] [(.long t1)]))
    refine OGo.to (fun _ k => XS.aloadN X13.here hx rfl (hb hby d6_16) rfl rfl k) ?_
    show OGo p e below _ (T13.setTop (mkF m 17 #[.val (.ref a1), .val (.ref a2)] [(.ref a2), (.long t1)]))
    obtain ⟨T14, X14, e14, st14⟩ := getF X13 hx hZ hown (host := "") (Or.inl (hw _ (List.mem_of_getElem? (i := 20) rfl))) Via.refl e13 J0 (g := (mkF m 17 #[.val (.ref a1), .val (.ref a2)] [(.ref a2), (.long t1)])) rfl rfl (hb hby d6_17)
    refine OGo.to st14 ?_
    show OGo p e below _ (T14.setTop (mkF m 20 #[.val (.ref a1), .val (.ref a2)] [(.long t2), (.long t1)]))
    obtain ⟨_, _, ⟨T15, L15, k15, n15⟩, -, X15, ⟨Lc15, hQ15, l15, y15, z15⟩, st15⟩ := Jvm.LawKit.callS X14 hx (y := (⟨"java/lang/Long", "compare", "(JJ)I"⟩ : MethodName)) hown (mvT hZ (hw _ (List.mem_of_getElem? (i := 35) rfl))) (mvT hZ (hw _ (List.mem_of_getElem? (i := 36) rfl))) (mvT hZ (hw _ (List.mem_of_getElem? (i := 37) rfl))) (mvT hZ (hw _ (List.mem_of_getElem? (i := 38) rfl))) (by decide) (backOf (W := 0) (rm7 l Z a0 hw [] t1 t2 h0 n0 Z0 ) hZ (hw _ (List.mem_of_getElem? (i := 38) rfl)) (hw _ (List.mem_of_getElem? (i := 37) rfl)) (by decide) (by decide)) (g := (mkF m 20 #[.val (.ref a1), .val (.ref a2)] [(.long t2), (.long t1)])) rfl (by rw [hml]; rfl) (argsL := [(.long t1), (.long t2)]) (rest := []) (lenOf pd_2 rfl) rfl (by show 2 * 0 + _ ≤ _; exact Nat.le_of_eq rfl) (hb hby d6_20) (fun _ _ => ⟨rfl, e14, (by decide : 0 + 0 ≤ _), (by decide : 0 + 0 ≤ _)⟩)
    dsimp only [Pt.U, Pt.locs, Pt.cells, Pt.slots] at X15 l15 y15 z15 st15 hQ15
    subst l15 y15 z15
    obtain ⟨rfl, N15q, e15⟩ := hQ15
    have N15 := Fr.app N0 N15q
    refine OGo.to st15 ?_
    show OGo p e below _ (T15.setTop (mkF m 23 #[.val (.ref a1), .val (.ref a2)] [(.int (own_lcmp t1 t2))]))
    refine OGo.ret (Q := Q6 Z a1 a2 t1 c1 k1 t2 c2 k2 h0 n0) X15 (some (.int (own_lcmp t1 t2))) (fun h => by rw [Bd.returns] at h; cases h) Bd.notSynchronized (fun fs hr => retI X15 hx Bd.returns (hb hby d6_23) hr) ?_ (by decide) (by decide)
    show Q6 Z a1 a2 t1 c1 k1 t2 c2 k2 h0 n0 _ T15.heap _
    rw [e15]
    exact ⟨congrArg (fun z => some (Value.int z)) (show (own_lcmp t1 t2) = (own_cmp t1 c1 k1 t2 c2 k2) from by unfold own_cmp; rw [if_neg hc9_3]), N15, rfl⟩
theorem d5_0 : decode method_3_code 0 = .ok (.lload_n 0, 1) := by decide +kernel
theorem d5_1 : decode method_3_code 1 = .ok (.lload 4, 2) := by decide +kernel
theorem d5_3 : decode method_3_code 3 = .ok (.lcmp, 1) := by decide +kernel
theorem d5_4 : decode method_3_code 4 = .ok (.ifCond .ge 5, 3) := by decide +kernel
theorem d5_7 : decode method_3_code 7 = .ok (.iconst (-1), 1) := by decide +kernel
theorem d5_8 : decode method_3_code 8 = .ok (.ireturn, 1) := by decide +kernel
theorem d5_9 : decode method_3_code 9 = .ok (.lload_n 0, 1) := by decide +kernel
theorem d5_10 : decode method_3_code 10 = .ok (.lload 4, 2) := by decide +kernel
theorem d5_12 : decode method_3_code 12 = .ok (.lcmp, 1) := by decide +kernel
theorem d5_13 : decode method_3_code 13 = .ok (.ifCond .le 5, 3) := by decide +kernel
theorem d5_16 : decode method_3_code 16 = .ok (.iconst 1, 1) := by decide +kernel
theorem d5_17 : decode method_3_code 17 = .ok (.ireturn, 1) := by decide +kernel
theorem d5_18 : decode method_3_code 18 = .ok (.iload_n 2, 1) := by decide +kernel
theorem d5_19 : decode method_3_code 19 = .ok (.iload 6, 2) := by decide +kernel
theorem d5_21 : decode method_3_code 21 = .ok (.if_icmp .ge 5, 3) := by decide +kernel
theorem d5_24 : decode method_3_code 24 = .ok (.iconst (-1), 1) := by decide +kernel
theorem d5_25 : decode method_3_code 25 = .ok (.ireturn, 1) := by decide +kernel
theorem d5_26 : decode method_3_code 26 = .ok (.iload_n 2, 1) := by decide +kernel
theorem d5_27 : decode method_3_code 27 = .ok (.iload 6, 2) := by decide +kernel
theorem d5_29 : decode method_3_code 29 = .ok (.if_icmp .le 5, 3) := by decide +kernel
theorem d5_32 : decode method_3_code 32 = .ok (.iconst 1, 1) := by decide +kernel
theorem d5_33 : decode method_3_code 33 = .ok (.ireturn, 1) := by decide +kernel
theorem d5_34 : decode method_3_code 34 = .ok (.iload_n 3, 1) := by decide +kernel
theorem d5_35 : decode method_3_code 35 = .ok (.iload 7, 2) := by decide +kernel
theorem d5_37 : decode method_3_code 37 = .ok (.if_icmp .ge 5, 3) := by decide +kernel
theorem d5_40 : decode method_3_code 40 = .ok (.iconst (-1), 1) := by decide +kernel
theorem d5_41 : decode method_3_code 41 = .ok (.ireturn, 1) := by decide +kernel
theorem d5_42 : decode method_3_code 42 = .ok (.iload_n 3, 1) := by decide +kernel
theorem d5_43 : decode method_3_code 43 = .ok (.iload 7, 2) := by decide +kernel
theorem d5_45 : decode method_3_code 45 = .ok (.if_icmp .le 5, 3) := by decide +kernel
theorem d5_48 : decode method_3_code 48 = .ok (.iconst 1, 1) := by decide +kernel
theorem d5_49 : decode method_3_code 49 = .ok (.ireturn, 1) := by decide +kernel
theorem d5_50 : decode method_3_code 50 = .ok (.iconst 0, 1) := by decide +kernel
theorem d5_51 : decode method_3_code 51 = .ok (.ireturn, 1) := by decide +kernel
theorem ef_5 (m : MethodId) (x0 : Int64) (x1 : Int32) (x2 : Int32) (x3 : Int64) (x4 : Int32) (x5 : Int32) : entryFrame m #[(.long x0), (.int x1), (.int x2), (.long x3), (.int x4), (.int x5)] 8 = mkF m 0 #[.val (.long x0), .second, .val (.int x1), .val (.int x2), .val (.long x3), .second, .val (.int x4), .val (.int x5)] [] := by first | (simp [entryFrame, mkF, argsToLocals, Value.category]; done) | rfl
def Q5 (Z : State) (q1 : Int64) (p1 : Int32) (p2 : Int32) (q2 : Int64) (p3 : Int32) (p4 : Int32) (h0 : Heap) (n0 : Nat) (v : Option Value) (h : Heap) (L : List Loc) : Prop := v = some (.int (own_ref q1 p1 p2 q2 p3 p4)) ∧ Fr n0 L ∧ h = h0
set_option maxRecDepth 65536 in
set_option maxHeartbeats 40000000 in
theorem rm5 (l : Launch) (Z : State) (a0 : Array Value) (hw : ∀ d ∈ tables_1, d.before a0 Z = true) (ws : List Jvm.Cond) (q1 : Int64) (p1 : Int32) (p2 : Int32) (q2 : Int64) (p3 : Int32) (p4 : Int32) (h0 : Heap) (n0 : Nat) (Z0 : n0 ≤ h0.size) :
    MetFree l (⟨"com/example/heartwood/heartwood/RevisionCompareToPinLaw", "reference", "(JIIJII)I"⟩ : MethodName) (head1 (Jvm.Cond.code (⟨"com/example/heartwood/heartwood/RevisionCompareToPinLaw", "reference", "(JIIJII)I"⟩ : MethodName) method_3_code 8 (some .int) :: ws) ({ frames := 0, cells := 0, slots := 0, locals := 0 } : Room)) (fun a U => a = #[(.long q1), (.int p1), (.int p2), (.long q2), (.int p3), (.int p4)] ∧ Z.Warmed39 U.vm ∧ U.heap = h0) (fun _ _ _ _ _ => True) (fun _ U o U' => ∃ v L, o = .returned v ∧ Q5 Z q1 p1 p2 q2 p3 p4 h0 n0 v U'.heap L ∧ FrameEnd U o U' L ({ frames := 0, cells := 0, slots := 0, locals := 0 } : Room).cells ({ frames := 0, cells := 0, slots := 0, locals := 0 } : Room).slots) := by
  refine MetFree.of_bodySF (plainFor_of_name pn_4) hisR ?_
  intro p e s m args below meth c s₁ Bd hml0 hP hK
  obtain ⟨rfl, hZ, hh⟩ := hP
  have hx := Bd.exec
  have hby := Bd.bytes
  have hml : c.maxLocals = 8 := hml0
  have hown : s.vm.findClass "com/example/heartwood/heartwood/RevisionCompareToPinLaw" = some m.cls := findClass_of_methodNamed Bd.named
  have hnm := (name_of_methodNamed Bd.named Bd.method).1
  have X0 : Stand p l e ({ frames := 0, cells := 0, slots := 0, locals := 0 } : Room) s m #[(.long q1), (.int p1), (.int p2), (.long q2), (.int p3), (.int p4)] below meth c s₁ [] 0 0 := Stand.of_body Bd
  have e0 : s₁.heap = h0 := by rw [← hh, Bd.state]; rfl
  have N0 := Fr.nil n0
  show OGo p e below (fun s₂ o => ∃ v L, o = .returned v ∧ Q5 Z q1 p1 p2 q2 p3 p4 h0 n0 v s₂.heap L ∧ FrameEnd s o s₂ L ({ frames := 0, cells := 0, slots := 0, locals := 0 } : Room).cells ({ frames := 0, cells := 0, slots := 0, locals := 0 } : Room).slots) _
  refine OGo.to (fun _ k => castTop (ef_5 m q1 p1 p2 q2 p3 p4) k) ?_
  refine OGo.to (fun _ k => XS.lloadN X0.here hx rfl (hb hby d5_0) rfl k) ?_
  show OGo p e below _ (s₁.setTop (mkF m 1 #[.val (.long q1), .second, .val (.int p1), .val (.int p2), .val (.long q2), .second, .val (.int p3), .val (.int p4)] [(.long q1)]))
  refine OGo.to (fun _ k => XS.lload X0.here hx rfl (hb hby d5_1) rfl k) ?_
  show OGo p e below _ (s₁.setTop (mkF m 3 #[.val (.long q1), .second, .val (.int p1), .val (.int p2), .val (.long q2), .second, .val (.int p3), .val (.int p4)] [(.long q2), (.long q1)]))
  refine OGo.to (fun _ k => XS.lcmp X0.here hx rfl (hb hby d5_3) rfl k) ?_
  show OGo p e below _ (s₁.setTop (mkF m 4 #[.val (.long q1), .second, .val (.int p1), .val (.int p2), .val (.long q2), .second, .val (.int p3), .val (.int p4)] [(.int (lcmpW q1 q2))]))
  by_cases hc4_1 : q1 < q2
  ·  -- pc 4: yes
    refine OGo.to (fun _ k => XS.ifNo X0.here hx rfl (hb hby d5_4) rfl ((if0 _ _).trans (tlt ((lw_lt q1 q2).mpr hc4_1)).2.1) k) ?_
    show OGo p e below _ (s₁.setTop (mkF m 7 #[.val (.long q1), .second, .val (.int p1), .val (.int p2), .val (.long q2), .second, .val (.int p3), .val (.int p4)] []))
    refine OGo.to (fun _ k => XS.iconst X0.here hx rfl (hb hby d5_7) k) ?_
    show OGo p e below _ (s₁.setTop (mkF m 8 #[.val (.long q1), .second, .val (.int p1), .val (.int p2), .val (.long q2), .second, .val (.int p3), .val (.int p4)] [(.int (-1 : Int32))]))
    refine OGo.ret (Q := Q5 Z q1 p1 p2 q2 p3 p4 h0 n0) X0 (some (.int (-1 : Int32))) (fun h => by rw [Bd.returns] at h; cases h) Bd.notSynchronized (fun fs hr => retI X0 hx Bd.returns (hb hby d5_8) hr) ?_ (by decide) (by decide)
    show Q5 Z q1 p1 p2 q2 p3 p4 h0 n0 _ s₁.heap _
    rw [e0]
    exact ⟨congrArg (fun z => some (Value.int z)) (show (-1 : Int32) = (own_ref q1 p1 p2 q2 p3 p4) from by unfold own_ref; rw [if_pos hc4_1]), N0, rfl⟩
  ·  -- pc 4: no
    refine OGo.to (fun _ k => XS.ifYes X0.here hx rfl (pc0 := 4) (pc' := 9) rfl (hb hby d5_4) rfl ((if0 _ _).trans (flt (mt (lw_lt q1 q2).mp hc4_1)).2.1) (by decide) (by decide) k) ?_
    show OGo p e below _ (s₁.setTop (mkF m 9 #[.val (.long q1), .second, .val (.int p1), .val (.int p2), .val (.long q2), .second, .val (.int p3), .val (.int p4)] []))
    refine OGo.to (fun _ k => XS.lloadN X0.here hx rfl (hb hby d5_9) rfl k) ?_
    show OGo p e below _ (s₁.setTop (mkF m 10 #[.val (.long q1), .second, .val (.int p1), .val (.int p2), .val (.long q2), .second, .val (.int p3), .val (.int p4)] [(.long q1)]))
    refine OGo.to (fun _ k => XS.lload X0.here hx rfl (hb hby d5_10) rfl k) ?_
    show OGo p e below _ (s₁.setTop (mkF m 12 #[.val (.long q1), .second, .val (.int p1), .val (.int p2), .val (.long q2), .second, .val (.int p3), .val (.int p4)] [(.long q2), (.long q1)]))
    refine OGo.to (fun _ k => XS.lcmp X0.here hx rfl (hb hby d5_12) rfl k) ?_
    show OGo p e below _ (s₁.setTop (mkF m 13 #[.val (.long q1), .second, .val (.int p1), .val (.int p2), .val (.long q2), .second, .val (.int p3), .val (.int p4)] [(.int (lcmpW q1 q2))]))
    by_cases hc13_2 : q2 < q1
    ·  -- pc 13: yes
      refine OGo.to (fun _ k => XS.ifNo X0.here hx rfl (hb hby d5_13) rfl ((if0 _ _).trans (tlt ((lw_gt q1 q2).mpr hc13_2)).2.2.2) k) ?_
      show OGo p e below _ (s₁.setTop (mkF m 16 #[.val (.long q1), .second, .val (.int p1), .val (.int p2), .val (.long q2), .second, .val (.int p3), .val (.int p4)] []))
      refine OGo.to (fun _ k => XS.iconst X0.here hx rfl (hb hby d5_16) k) ?_
      show OGo p e below _ (s₁.setTop (mkF m 17 #[.val (.long q1), .second, .val (.int p1), .val (.int p2), .val (.long q2), .second, .val (.int p3), .val (.int p4)] [(.int (1 : Int32))]))
      refine OGo.ret (Q := Q5 Z q1 p1 p2 q2 p3 p4 h0 n0) X0 (some (.int (1 : Int32))) (fun h => by rw [Bd.returns] at h; cases h) Bd.notSynchronized (fun fs hr => retI X0 hx Bd.returns (hb hby d5_17) hr) ?_ (by decide) (by decide)
      show Q5 Z q1 p1 p2 q2 p3 p4 h0 n0 _ s₁.heap _
      rw [e0]
      exact ⟨congrArg (fun z => some (Value.int z)) (show (1 : Int32) = (own_ref q1 p1 p2 q2 p3 p4) from by unfold own_ref; rw [if_neg hc4_1, if_pos hc13_2]), N0, rfl⟩
    ·  -- pc 13: no
      refine OGo.to (fun _ k => XS.ifYes X0.here hx rfl (pc0 := 13) (pc' := 18) rfl (hb hby d5_13) rfl ((if0 _ _).trans (flt (mt (lw_gt q1 q2).mp hc13_2)).2.2.2) (by decide) (by decide) k) ?_
      show OGo p e below _ (s₁.setTop (mkF m 18 #[.val (.long q1), .second, .val (.int p1), .val (.int p2), .val (.long q2), .second, .val (.int p3), .val (.int p4)] []))
      refine OGo.to (fun _ k => XS.iloadN X0.here hx rfl (hb hby d5_18) rfl k) ?_
      show OGo p e below _ (s₁.setTop (mkF m 19 #[.val (.long q1), .second, .val (.int p1), .val (.int p2), .val (.long q2), .second, .val (.int p3), .val (.int p4)] [(.int p1)]))
      refine OGo.to (fun _ k => XS.iload X0.here hx rfl (hb hby d5_19) rfl k) ?_
      show OGo p e below _ (s₁.setTop (mkF m 21 #[.val (.long q1), .second, .val (.int p1), .val (.int p2), .val (.long q2), .second, .val (.int p3), .val (.int p4)] [(.int p3), (.int p1)]))
      by_cases hc21_3 : p1 < p3
      ·  -- pc 21: yes
        refine OGo.to (fun _ k => XS.icmpNo X0.here hx rfl (hb hby d5_21) rfl (tlt hc21_3).2.1 k) ?_
        show OGo p e below _ (s₁.setTop (mkF m 24 #[.val (.long q1), .second, .val (.int p1), .val (.int p2), .val (.long q2), .second, .val (.int p3), .val (.int p4)] []))
        refine OGo.to (fun _ k => XS.iconst X0.here hx rfl (hb hby d5_24) k) ?_
        show OGo p e below _ (s₁.setTop (mkF m 25 #[.val (.long q1), .second, .val (.int p1), .val (.int p2), .val (.long q2), .second, .val (.int p3), .val (.int p4)] [(.int (-1 : Int32))]))
        refine OGo.ret (Q := Q5 Z q1 p1 p2 q2 p3 p4 h0 n0) X0 (some (.int (-1 : Int32))) (fun h => by rw [Bd.returns] at h; cases h) Bd.notSynchronized (fun fs hr => retI X0 hx Bd.returns (hb hby d5_25) hr) ?_ (by decide) (by decide)
        show Q5 Z q1 p1 p2 q2 p3 p4 h0 n0 _ s₁.heap _
        rw [e0]
        exact ⟨congrArg (fun z => some (Value.int z)) (show (-1 : Int32) = (own_ref q1 p1 p2 q2 p3 p4) from by unfold own_ref; rw [if_neg hc4_1, if_neg hc13_2, if_pos hc21_3]), N0, rfl⟩
      ·  -- pc 21: no
        refine OGo.to (fun _ k => XS.icmpYes X0.here hx rfl (pc0 := 21) (pc' := 26) rfl (hb hby d5_21) rfl (flt hc21_3).2.1 (by decide) (by decide) k) ?_
        show OGo p e below _ (s₁.setTop (mkF m 26 #[.val (.long q1), .second, .val (.int p1), .val (.int p2), .val (.long q2), .second, .val (.int p3), .val (.int p4)] []))
        refine OGo.to (fun _ k => XS.iloadN X0.here hx rfl (hb hby d5_26) rfl k) ?_
        show OGo p e below _ (s₁.setTop (mkF m 27 #[.val (.long q1), .second, .val (.int p1), .val (.int p2), .val (.long q2), .second, .val (.int p3), .val (.int p4)] [(.int p1)]))
        refine OGo.to (fun _ k => XS.iload X0.here hx rfl (hb hby d5_27) rfl k) ?_
        show OGo p e below _ (s₁.setTop (mkF m 29 #[.val (.long q1), .second, .val (.int p1), .val (.int p2), .val (.long q2), .second, .val (.int p3), .val (.int p4)] [(.int p3), (.int p1)]))
        by_cases hc29_4 : p3 < p1
        ·  -- pc 29: yes
          refine OGo.to (fun _ k => XS.icmpNo X0.here hx rfl (hb hby d5_29) rfl (tlt hc29_4).2.2.2 k) ?_
          show OGo p e below _ (s₁.setTop (mkF m 32 #[.val (.long q1), .second, .val (.int p1), .val (.int p2), .val (.long q2), .second, .val (.int p3), .val (.int p4)] []))
          refine OGo.to (fun _ k => XS.iconst X0.here hx rfl (hb hby d5_32) k) ?_
          show OGo p e below _ (s₁.setTop (mkF m 33 #[.val (.long q1), .second, .val (.int p1), .val (.int p2), .val (.long q2), .second, .val (.int p3), .val (.int p4)] [(.int (1 : Int32))]))
          refine OGo.ret (Q := Q5 Z q1 p1 p2 q2 p3 p4 h0 n0) X0 (some (.int (1 : Int32))) (fun h => by rw [Bd.returns] at h; cases h) Bd.notSynchronized (fun fs hr => retI X0 hx Bd.returns (hb hby d5_33) hr) ?_ (by decide) (by decide)
          show Q5 Z q1 p1 p2 q2 p3 p4 h0 n0 _ s₁.heap _
          rw [e0]
          exact ⟨congrArg (fun z => some (Value.int z)) (show (1 : Int32) = (own_ref q1 p1 p2 q2 p3 p4) from by unfold own_ref; rw [if_neg hc4_1, if_neg hc13_2, if_neg hc21_3, if_pos hc29_4]), N0, rfl⟩
        ·  -- pc 29: no
          refine OGo.to (fun _ k => XS.icmpYes X0.here hx rfl (pc0 := 29) (pc' := 34) rfl (hb hby d5_29) rfl (flt hc29_4).2.2.2 (by decide) (by decide) k) ?_
          show OGo p e below _ (s₁.setTop (mkF m 34 #[.val (.long q1), .second, .val (.int p1), .val (.int p2), .val (.long q2), .second, .val (.int p3), .val (.int p4)] []))
          refine OGo.to (fun _ k => XS.iloadN X0.here hx rfl (hb hby d5_34) rfl k) ?_
          show OGo p e below _ (s₁.setTop (mkF m 35 #[.val (.long q1), .second, .val (.int p1), .val (.int p2), .val (.long q2), .second, .val (.int p3), .val (.int p4)] [(.int p2)]))
          refine OGo.to (fun _ k => XS.iload X0.here hx rfl (hb hby d5_35) rfl k) ?_
          show OGo p e below _ (s₁.setTop (mkF m 37 #[.val (.long q1), .second, .val (.int p1), .val (.int p2), .val (.long q2), .second, .val (.int p3), .val (.int p4)] [(.int p4), (.int p2)]))
          by_cases hc37_5 : p2 < p4
          ·  -- pc 37: yes
            refine OGo.to (fun _ k => XS.icmpNo X0.here hx rfl (hb hby d5_37) rfl (tlt hc37_5).2.1 k) ?_
            show OGo p e below _ (s₁.setTop (mkF m 40 #[.val (.long q1), .second, .val (.int p1), .val (.int p2), .val (.long q2), .second, .val (.int p3), .val (.int p4)] []))
            refine OGo.to (fun _ k => XS.iconst X0.here hx rfl (hb hby d5_40) k) ?_
            show OGo p e below _ (s₁.setTop (mkF m 41 #[.val (.long q1), .second, .val (.int p1), .val (.int p2), .val (.long q2), .second, .val (.int p3), .val (.int p4)] [(.int (-1 : Int32))]))
            refine OGo.ret (Q := Q5 Z q1 p1 p2 q2 p3 p4 h0 n0) X0 (some (.int (-1 : Int32))) (fun h => by rw [Bd.returns] at h; cases h) Bd.notSynchronized (fun fs hr => retI X0 hx Bd.returns (hb hby d5_41) hr) ?_ (by decide) (by decide)
            show Q5 Z q1 p1 p2 q2 p3 p4 h0 n0 _ s₁.heap _
            rw [e0]
            exact ⟨congrArg (fun z => some (Value.int z)) (show (-1 : Int32) = (own_ref q1 p1 p2 q2 p3 p4) from by unfold own_ref; rw [if_neg hc4_1, if_neg hc13_2, if_neg hc21_3, if_neg hc29_4, if_pos hc37_5]), N0, rfl⟩
          ·  -- pc 37: no
            refine OGo.to (fun _ k => XS.icmpYes X0.here hx rfl (pc0 := 37) (pc' := 42) rfl (hb hby d5_37) rfl (flt hc37_5).2.1 (by decide) (by decide) k) ?_
            show OGo p e below _ (s₁.setTop (mkF m 42 #[.val (.long q1), .second, .val (.int p1), .val (.int p2), .val (.long q2), .second, .val (.int p3), .val (.int p4)] []))
            refine OGo.to (fun _ k => XS.iloadN X0.here hx rfl (hb hby d5_42) rfl k) ?_
            show OGo p e below _ (s₁.setTop (mkF m 43 #[.val (.long q1), .second, .val (.int p1), .val (.int p2), .val (.long q2), .second, .val (.int p3), .val (.int p4)] [(.int p2)]))
            refine OGo.to (fun _ k => XS.iload X0.here hx rfl (hb hby d5_43) rfl k) ?_
            show OGo p e below _ (s₁.setTop (mkF m 45 #[.val (.long q1), .second, .val (.int p1), .val (.int p2), .val (.long q2), .second, .val (.int p3), .val (.int p4)] [(.int p4), (.int p2)]))
            by_cases hc45_6 : p4 < p2
            ·  -- pc 45: yes
              refine OGo.to (fun _ k => XS.icmpNo X0.here hx rfl (hb hby d5_45) rfl (tlt hc45_6).2.2.2 k) ?_
              show OGo p e below _ (s₁.setTop (mkF m 48 #[.val (.long q1), .second, .val (.int p1), .val (.int p2), .val (.long q2), .second, .val (.int p3), .val (.int p4)] []))
              refine OGo.to (fun _ k => XS.iconst X0.here hx rfl (hb hby d5_48) k) ?_
              show OGo p e below _ (s₁.setTop (mkF m 49 #[.val (.long q1), .second, .val (.int p1), .val (.int p2), .val (.long q2), .second, .val (.int p3), .val (.int p4)] [(.int (1 : Int32))]))
              refine OGo.ret (Q := Q5 Z q1 p1 p2 q2 p3 p4 h0 n0) X0 (some (.int (1 : Int32))) (fun h => by rw [Bd.returns] at h; cases h) Bd.notSynchronized (fun fs hr => retI X0 hx Bd.returns (hb hby d5_49) hr) ?_ (by decide) (by decide)
              show Q5 Z q1 p1 p2 q2 p3 p4 h0 n0 _ s₁.heap _
              rw [e0]
              exact ⟨congrArg (fun z => some (Value.int z)) (show (1 : Int32) = (own_ref q1 p1 p2 q2 p3 p4) from by unfold own_ref; rw [if_neg hc4_1, if_neg hc13_2, if_neg hc21_3, if_neg hc29_4, if_neg hc37_5, if_pos hc45_6]), N0, rfl⟩
            ·  -- pc 45: no
              refine OGo.to (fun _ k => XS.icmpYes X0.here hx rfl (pc0 := 45) (pc' := 50) rfl (hb hby d5_45) rfl (flt hc45_6).2.2.2 (by decide) (by decide) k) ?_
              show OGo p e below _ (s₁.setTop (mkF m 50 #[.val (.long q1), .second, .val (.int p1), .val (.int p2), .val (.long q2), .second, .val (.int p3), .val (.int p4)] []))
              refine OGo.to (fun _ k => XS.iconst X0.here hx rfl (hb hby d5_50) k) ?_
              show OGo p e below _ (s₁.setTop (mkF m 51 #[.val (.long q1), .second, .val (.int p1), .val (.int p2), .val (.long q2), .second, .val (.int p3), .val (.int p4)] [(.int (0 : Int32))]))
              refine OGo.ret (Q := Q5 Z q1 p1 p2 q2 p3 p4 h0 n0) X0 (some (.int (0 : Int32))) (fun h => by rw [Bd.returns] at h; cases h) Bd.notSynchronized (fun fs hr => retI X0 hx Bd.returns (hb hby d5_51) hr) ?_ (by decide) (by decide)
              show Q5 Z q1 p1 p2 q2 p3 p4 h0 n0 _ s₁.heap _
              rw [e0]
              exact ⟨congrArg (fun z => some (Value.int z)) (show (0 : Int32) = (own_ref q1 p1 p2 q2 p3 p4) from by unfold own_ref; rw [if_neg hc4_1, if_neg hc13_2, if_neg hc21_3, if_neg hc29_4, if_neg hc37_5, if_neg hc45_6]), N0, rfl⟩
theorem d8_0 : decode method_4_code 0 = .ok (.iload_n 0, 1) := by decide +kernel
theorem d8_1 : decode method_4_code 1 = .ok (.ifCond .ge 5, 3) := by decide +kernel
theorem d8_4 : decode method_4_code 4 = .ok (.iconst (-1), 1) := by decide +kernel
theorem d8_5 : decode method_4_code 5 = .ok (.ireturn, 1) := by decide +kernel
theorem d8_6 : decode method_4_code 6 = .ok (.iload_n 0, 1) := by decide +kernel
theorem d8_7 : decode method_4_code 7 = .ok (.ifCond .le 5, 3) := by decide +kernel
theorem d8_10 : decode method_4_code 10 = .ok (.iconst 1, 1) := by decide +kernel
theorem d8_11 : decode method_4_code 11 = .ok (.ireturn, 1) := by decide +kernel
theorem d8_12 : decode method_4_code 12 = .ok (.iconst 0, 1) := by decide +kernel
theorem d8_13 : decode method_4_code 13 = .ok (.ireturn, 1) := by decide +kernel
theorem ef_8 (m : MethodId) (x0 : Int32) : entryFrame m #[(.int x0)] 1 = mkF m 0 #[.val (.int x0)] [] := by first | (simp [entryFrame, mkF, argsToLocals, Value.category]; done) | rfl
def Q8 (Z : State) (p1 : Int32) (h0 : Heap) (n0 : Nat) (v : Option Value) (h : Heap) (L : List Loc) : Prop := v = some (.int (own_sign p1)) ∧ Fr n0 L ∧ h = h0
set_option maxRecDepth 65536 in
set_option maxHeartbeats 40000000 in
theorem rm8 (l : Launch) (Z : State) (a0 : Array Value) (hw : ∀ d ∈ tables_1, d.before a0 Z = true) (ws : List Jvm.Cond) (p1 : Int32) (h0 : Heap) (n0 : Nat) (Z0 : n0 ≤ h0.size) :
    MetFree l (⟨"com/example/heartwood/heartwood/RevisionCompareToPinLaw", "sign", "(I)I"⟩ : MethodName) (head1 (Jvm.Cond.code (⟨"com/example/heartwood/heartwood/RevisionCompareToPinLaw", "sign", "(I)I"⟩ : MethodName) method_4_code 1 (some .int) :: ws) ({ frames := 0, cells := 0, slots := 0, locals := 0 } : Room)) (fun a U => a = #[(.int p1)] ∧ Z.Warmed39 U.vm ∧ U.heap = h0) (fun _ _ _ _ _ => True) (fun _ U o U' => ∃ v L, o = .returned v ∧ Q8 Z p1 h0 n0 v U'.heap L ∧ FrameEnd U o U' L ({ frames := 0, cells := 0, slots := 0, locals := 0 } : Room).cells ({ frames := 0, cells := 0, slots := 0, locals := 0 } : Room).slots) := by
  refine MetFree.of_bodySF (plainFor_of_name pn_4) hisR ?_
  intro p e s m args below meth c s₁ Bd hml0 hP hK
  obtain ⟨rfl, hZ, hh⟩ := hP
  have hx := Bd.exec
  have hby := Bd.bytes
  have hml : c.maxLocals = 1 := hml0
  have hown : s.vm.findClass "com/example/heartwood/heartwood/RevisionCompareToPinLaw" = some m.cls := findClass_of_methodNamed Bd.named
  have hnm := (name_of_methodNamed Bd.named Bd.method).1
  have X0 : Stand p l e ({ frames := 0, cells := 0, slots := 0, locals := 0 } : Room) s m #[(.int p1)] below meth c s₁ [] 0 0 := Stand.of_body Bd
  have e0 : s₁.heap = h0 := by rw [← hh, Bd.state]; rfl
  have N0 := Fr.nil n0
  show OGo p e below (fun s₂ o => ∃ v L, o = .returned v ∧ Q8 Z p1 h0 n0 v s₂.heap L ∧ FrameEnd s o s₂ L ({ frames := 0, cells := 0, slots := 0, locals := 0 } : Room).cells ({ frames := 0, cells := 0, slots := 0, locals := 0 } : Room).slots) _
  refine OGo.to (fun _ k => castTop (ef_8 m p1) k) ?_
  refine OGo.to (fun _ k => XS.iloadN X0.here hx rfl (hb hby d8_0) rfl k) ?_
  show OGo p e below _ (s₁.setTop (mkF m 1 #[.val (.int p1)] [(.int p1)]))
  by_cases hc1_1 : p1 < (0 : Int32)
  ·  -- pc 1: yes
    refine OGo.to (fun _ k => XS.ifNo X0.here hx rfl (hb hby d8_1) rfl ((if0 _ _).trans (tlt hc1_1).2.1) k) ?_
    show OGo p e below _ (s₁.setTop (mkF m 4 #[.val (.int p1)] []))
    refine OGo.to (fun _ k => XS.iconst X0.here hx rfl (hb hby d8_4) k) ?_
    show OGo p e below _ (s₁.setTop (mkF m 5 #[.val (.int p1)] [(.int (-1 : Int32))]))
    refine OGo.ret (Q := Q8 Z p1 h0 n0) X0 (some (.int (-1 : Int32))) (fun h => by rw [Bd.returns] at h; cases h) Bd.notSynchronized (fun fs hr => retI X0 hx Bd.returns (hb hby d8_5) hr) ?_ (by decide) (by decide)
    show Q8 Z p1 h0 n0 _ s₁.heap _
    rw [e0]
    exact ⟨congrArg (fun z => some (Value.int z)) (show (-1 : Int32) = (own_sign p1) from by unfold own_sign; rw [if_pos hc1_1]), N0, rfl⟩
  ·  -- pc 1: no
    refine OGo.to (fun _ k => XS.ifYes X0.here hx rfl (pc0 := 1) (pc' := 6) rfl (hb hby d8_1) rfl ((if0 _ _).trans (flt hc1_1).2.1) (by decide) (by decide) k) ?_
    show OGo p e below _ (s₁.setTop (mkF m 6 #[.val (.int p1)] []))
    refine OGo.to (fun _ k => XS.iloadN X0.here hx rfl (hb hby d8_6) rfl k) ?_
    show OGo p e below _ (s₁.setTop (mkF m 7 #[.val (.int p1)] [(.int p1)]))
    by_cases hc7_2 : (0 : Int32) < p1
    ·  -- pc 7: yes
      refine OGo.to (fun _ k => XS.ifNo X0.here hx rfl (hb hby d8_7) rfl ((if0 _ _).trans (tlt hc7_2).2.2.2) k) ?_
      show OGo p e below _ (s₁.setTop (mkF m 10 #[.val (.int p1)] []))
      refine OGo.to (fun _ k => XS.iconst X0.here hx rfl (hb hby d8_10) k) ?_
      show OGo p e below _ (s₁.setTop (mkF m 11 #[.val (.int p1)] [(.int (1 : Int32))]))
      refine OGo.ret (Q := Q8 Z p1 h0 n0) X0 (some (.int (1 : Int32))) (fun h => by rw [Bd.returns] at h; cases h) Bd.notSynchronized (fun fs hr => retI X0 hx Bd.returns (hb hby d8_11) hr) ?_ (by decide) (by decide)
      show Q8 Z p1 h0 n0 _ s₁.heap _
      rw [e0]
      exact ⟨congrArg (fun z => some (Value.int z)) (show (1 : Int32) = (own_sign p1) from by unfold own_sign; rw [if_neg hc1_1, if_pos hc7_2]), N0, rfl⟩
    ·  -- pc 7: no
      refine OGo.to (fun _ k => XS.ifYes X0.here hx rfl (pc0 := 7) (pc' := 12) rfl (hb hby d8_7) rfl ((if0 _ _).trans (flt hc7_2).2.2.2) (by decide) (by decide) k) ?_
      show OGo p e below _ (s₁.setTop (mkF m 12 #[.val (.int p1)] []))
      refine OGo.to (fun _ k => XS.iconst X0.here hx rfl (hb hby d8_12) k) ?_
      show OGo p e below _ (s₁.setTop (mkF m 13 #[.val (.int p1)] [(.int (0 : Int32))]))
      refine OGo.ret (Q := Q8 Z p1 h0 n0) X0 (some (.int (0 : Int32))) (fun h => by rw [Bd.returns] at h; cases h) Bd.notSynchronized (fun fs hr => retI X0 hx Bd.returns (hb hby d8_13) hr) ?_ (by decide) (by decide)
      show Q8 Z p1 h0 n0 _ s₁.heap _
      rw [e0]
      exact ⟨congrArg (fun z => some (Value.int z)) (show (0 : Int32) = (own_sign p1) from by unfold own_sign; rw [if_neg hc1_1, if_neg hc7_2]), N0, rfl⟩
theorem ef_0 (m : MethodId) (x0 : Int64) (x1 : Int64) (x2 : Int32) (x3 : Int32) (x4 : Int32) (x5 : Int32) : entryFrame m #[(.long x0), (.long x1), (.int x2), (.int x3), (.int x4), (.int x5)] maxLocals = mkF m 0 #[.val (.long x0), .second, .val (.long x1), .second, .val (.int x2), .val (.int x3), .val (.int x4), .val (.int x5), .unset, .unset, .unset, .unset, .unset, .unset, .unset, .unset, .unset, .unset, .unset, .unset, .unset, .unset] [] := by first | (simp [entryFrame, mkF, argsToLocals, Value.category, maxLocals]; done) | rfl
def Q0 (Z : State) (q1 : Int64) (q2 : Int64) (p1 : Int32) (p2 : Int32) (p3 : Int32) (p4 : Int32) (h0 : Heap) (n0 : Nat) (v : Option Value) (h : Heap) (L : List Loc) : Prop := v = some (.int (1 : Int32)) ∧ Fr n0 L
set_option maxRecDepth 65536 in
set_option maxHeartbeats 40000000 in
theorem rm0 (l : Launch) (Z : State) (a0 : Array Value) (hw : ∀ d ∈ tables_1, d.before a0 Z = true) (ws : List Jvm.Cond) (q1 : Int64) (q2 : Int64) (p1 : Int32) (p2 : Int32) (p3 : Int32) (p4 : Int32) (h0 : Heap) (n0 : Nat) (Z0 : n0 ≤ h0.size) :
    MetFree l x (head1 (Jvm.Cond.code x code maxLocals ret :: ws) room_1) (fun a U => a = #[(.long q1), (.long q2), (.int p1), (.int p2), (.int p3), (.int p4)] ∧ Z.Warmed39 U.vm ∧ U.heap = h0) (fun _ _ _ _ _ => True) (fun _ U o U' => ∃ v L, o = .returned v ∧ Q0 Z q1 q2 p1 p2 p3 p4 h0 n0 v U'.heap L ∧ FrameEnd U o U' L room_1.cells room_1.slots) := by
  refine MetFree.of_bodySF (plainFor_of_name pn_4) hisR ?_
  intro p e s m args below meth c s₁ Bd hml0 hP hK
  obtain ⟨rfl, hZ, hh⟩ := hP
  have hx := Bd.exec
  have hby := Bd.bytes
  have hml : c.maxLocals = 22 := hml0
  have hown : s.vm.findClass "com/example/heartwood/heartwood/RevisionCompareToPinLaw" = some m.cls := findClass_of_methodNamed Bd.named
  have hnm := (name_of_methodNamed Bd.named Bd.method).1
  have X0 : Stand p l e room_1 s m #[(.long q1), (.long q2), (.int p1), (.int p2), (.int p3), (.int p4)] below meth c s₁ [] 0 0 := Stand.of_body Bd
  have e0 : s₁.heap = h0 := by rw [← hh, Bd.state]; rfl
  have N0 := Fr.nil n0
  show OGo p e below (fun s₂ o => ∃ v L, o = .returned v ∧ Q0 Z q1 q2 p1 p2 p3 p4 h0 n0 v s₂.heap L ∧ FrameEnd s o s₂ L room_1.cells room_1.slots) _
  refine OGo.to (fun _ k => castTop (ef_0 m q1 q2 p1 p2 p3 p4) k) ?_
  refine OGo.to (fun _ k => XS.lloadN X0.here hx rfl (hb hby at_0) rfl k) ?_
  show OGo p e below _ (s₁.setTop (mkF m 1 #[.val (.long q1), .second, .val (.long q2), .second, .val (.int p1), .val (.int p2), .val (.int p3), .val (.int p4), .unset, .unset, .unset, .unset, .unset, .unset, .unset, .unset, .unset, .unset, .unset, .unset, .unset, .unset] [(.long q1)]))
  refine OGo.to (fun _ k => X0.ldc2Long hx hown (mvT hZ (hw _ (List.mem_of_getElem? (i := 0) rfl))) (g := (mkF m 1 #[.val (.long q1), .second, .val (.long q2), .second, .val (.int p1), .val (.int p2), .val (.int p3), .val (.int p4), .unset, .unset, .unset, .unset, .unset, .unset, .unset, .unset, .unset, .unset, .unset, .unset, .unset, .unset] [(.long q1)])) rfl (hb hby at_1) _ k) ?_
  show OGo p e below _ (s₁.setTop (mkF m 4 #[.val (.long q1), .second, .val (.long q2), .second, .val (.int p1), .val (.int p2), .val (.int p3), .val (.int p4), .unset, .unset, .unset, .unset, .unset, .unset, .unset, .unset, .unset, .unset, .unset, .unset, .unset, .unset] [(.long (9223372036854775807 : Int64)), (.long q1)]))
  refine OGo.to (fun _ k => XS.land X0.here hx rfl (hb hby at_4) rfl k) ?_
  show OGo p e below _ (s₁.setTop (mkF m 5 #[.val (.long q1), .second, .val (.long q2), .second, .val (.int p1), .val (.int p2), .val (.int p3), .val (.int p4), .unset, .unset, .unset, .unset, .unset, .unset, .unset, .unset, .unset, .unset, .unset, .unset, .unset, .unset] [(.long (q1 &&& (9223372036854775807 : Int64)))]))
  obtain ⟨ta, hv_ta⟩ : ∃ z : Int64, z = (q1 &&& (9223372036854775807 : Int64)) := ⟨_, rfl⟩
  rw [← hv_ta]
  refine OGo.to (fun _ k => XS.lstore X0.here hx rfl (hb hby at_5) rfl (l' := #[.val (.long q1), .second, .val (.long q2), .second, .val (.int p1), .val (.int p2), .val (.int p3), .val (.int p4), .val (.long ta), .second, .unset, .unset, .unset, .unset, .unset, .unset, .unset, .unset, .unset, .unset, .unset, .unset]) rfl k) ?_
  show OGo p e below _ (s₁.setTop (mkF m 7 #[.val (.long q1), .second, .val (.long q2), .second, .val (.int p1), .val (.int p2), .val (.int p3), .val (.int p4), .val (.long ta), .second, .unset, .unset, .unset, .unset, .unset, .unset, .unset, .unset, .unset, .unset, .unset, .unset] []))
  refine OGo.to (fun _ k => XS.lloadN X0.here hx rfl (hb hby at_7) rfl k) ?_
  show OGo p e below _ (s₁.setTop (mkF m 8 #[.val (.long q1), .second, .val (.long q2), .second, .val (.int p1), .val (.int p2), .val (.int p3), .val (.int p4), .val (.long ta), .second, .unset, .unset, .unset, .unset, .unset, .unset, .unset, .unset, .unset, .unset, .unset, .unset] [(.long q2)]))
  refine OGo.to (fun _ k => X0.ldc2Long hx hown (mvT hZ (hw _ (List.mem_of_getElem? (i := 0) rfl))) (g := (mkF m 8 #[.val (.long q1), .second, .val (.long q2), .second, .val (.int p1), .val (.int p2), .val (.int p3), .val (.int p4), .val (.long ta), .second, .unset, .unset, .unset, .unset, .unset, .unset, .unset, .unset, .unset, .unset, .unset, .unset] [(.long q2)])) rfl (hb hby at_8) _ k) ?_
  show OGo p e below _ (s₁.setTop (mkF m 11 #[.val (.long q1), .second, .val (.long q2), .second, .val (.int p1), .val (.int p2), .val (.int p3), .val (.int p4), .val (.long ta), .second, .unset, .unset, .unset, .unset, .unset, .unset, .unset, .unset, .unset, .unset, .unset, .unset] [(.long (9223372036854775807 : Int64)), (.long q2)]))
  refine OGo.to (fun _ k => XS.land X0.here hx rfl (hb hby at_11) rfl k) ?_
  show OGo p e below _ (s₁.setTop (mkF m 12 #[.val (.long q1), .second, .val (.long q2), .second, .val (.int p1), .val (.int p2), .val (.int p3), .val (.int p4), .val (.long ta), .second, .unset, .unset, .unset, .unset, .unset, .unset, .unset, .unset, .unset, .unset, .unset, .unset] [(.long (q2 &&& (9223372036854775807 : Int64)))]))
  obtain ⟨tb, hv_tb⟩ : ∃ z : Int64, z = (q2 &&& (9223372036854775807 : Int64)) := ⟨_, rfl⟩
  rw [← hv_tb]
  refine OGo.to (fun _ k => XS.lstore X0.here hx rfl (hb hby at_12) rfl (l' := #[.val (.long q1), .second, .val (.long q2), .second, .val (.int p1), .val (.int p2), .val (.int p3), .val (.int p4), .val (.long ta), .second, .val (.long tb), .second, .unset, .unset, .unset, .unset, .unset, .unset, .unset, .unset, .unset, .unset]) rfl k) ?_
  show OGo p e below _ (s₁.setTop (mkF m 14 #[.val (.long q1), .second, .val (.long q2), .second, .val (.int p1), .val (.int p2), .val (.int p3), .val (.int p4), .val (.long ta), .second, .val (.long tb), .second, .unset, .unset, .unset, .unset, .unset, .unset, .unset, .unset, .unset, .unset] []))
  refine OGo.to (fun _ k => XS.iload X0.here hx rfl (hb hby at_14) rfl k) ?_
  show OGo p e below _ (s₁.setTop (mkF m 16 #[.val (.long q1), .second, .val (.long q2), .second, .val (.int p1), .val (.int p2), .val (.int p3), .val (.int p4), .val (.long ta), .second, .val (.long tb), .second, .unset, .unset, .unset, .unset, .unset, .unset, .unset, .unset, .unset, .unset] [(.int p1)]))
  refine OGo.to (fun _ k => X0.ldcInt hx hown (mvT hZ (hw _ (List.mem_of_getElem? (i := 1) rfl))) (g := (mkF m 16 #[.val (.long q1), .second, .val (.long q2), .second, .val (.int p1), .val (.int p2), .val (.int p3), .val (.int p4), .val (.long ta), .second, .val (.long tb), .second, .unset, .unset, .unset, .unset, .unset, .unset, .unset, .unset, .unset, .unset] [(.int p1)])) rfl (hb hby at_16) _ k) ?_
  show OGo p e below _ (s₁.setTop (mkF m 18 #[.val (.long q1), .second, .val (.long q2), .second, .val (.int p1), .val (.int p2), .val (.int p3), .val (.int p4), .val (.long ta), .second, .val (.long tb), .second, .unset, .unset, .unset, .unset, .unset, .unset, .unset, .unset, .unset, .unset] [(.int (2147483647 : Int32)), (.int p1)]))
  refine OGo.to (fun _ k => XS.iand X0.here hx rfl (hb hby at_18) rfl k) ?_
  show OGo p e below _ (s₁.setTop (mkF m 19 #[.val (.long q1), .second, .val (.long q2), .second, .val (.int p1), .val (.int p2), .val (.int p3), .val (.int p4), .val (.long ta), .second, .val (.long tb), .second, .unset, .unset, .unset, .unset, .unset, .unset, .unset, .unset, .unset, .unset] [(.int (p1 &&& (2147483647 : Int32)))]))
  obtain ⟨na, hv_na⟩ : ∃ z : Int32, z = (p1 &&& (2147483647 : Int32)) := ⟨_, rfl⟩
  rw [← hv_na]
  refine OGo.to (fun _ k => XS.istore X0.here hx rfl (hb hby at_19) rfl (l' := #[.val (.long q1), .second, .val (.long q2), .second, .val (.int p1), .val (.int p2), .val (.int p3), .val (.int p4), .val (.long ta), .second, .val (.long tb), .second, .val (.int na), .unset, .unset, .unset, .unset, .unset, .unset, .unset, .unset, .unset]) rfl k) ?_
  show OGo p e below _ (s₁.setTop (mkF m 21 #[.val (.long q1), .second, .val (.long q2), .second, .val (.int p1), .val (.int p2), .val (.int p3), .val (.int p4), .val (.long ta), .second, .val (.long tb), .second, .val (.int na), .unset, .unset, .unset, .unset, .unset, .unset, .unset, .unset, .unset] []))
  refine OGo.to (fun _ k => XS.iload X0.here hx rfl (hb hby at_21) rfl k) ?_
  show OGo p e below _ (s₁.setTop (mkF m 23 #[.val (.long q1), .second, .val (.long q2), .second, .val (.int p1), .val (.int p2), .val (.int p3), .val (.int p4), .val (.long ta), .second, .val (.long tb), .second, .val (.int na), .unset, .unset, .unset, .unset, .unset, .unset, .unset, .unset, .unset] [(.int p2)]))
  refine OGo.to (fun _ k => X0.ldcInt hx hown (mvT hZ (hw _ (List.mem_of_getElem? (i := 1) rfl))) (g := (mkF m 23 #[.val (.long q1), .second, .val (.long q2), .second, .val (.int p1), .val (.int p2), .val (.int p3), .val (.int p4), .val (.long ta), .second, .val (.long tb), .second, .val (.int na), .unset, .unset, .unset, .unset, .unset, .unset, .unset, .unset, .unset] [(.int p2)])) rfl (hb hby at_23) _ k) ?_
  show OGo p e below _ (s₁.setTop (mkF m 25 #[.val (.long q1), .second, .val (.long q2), .second, .val (.int p1), .val (.int p2), .val (.int p3), .val (.int p4), .val (.long ta), .second, .val (.long tb), .second, .val (.int na), .unset, .unset, .unset, .unset, .unset, .unset, .unset, .unset, .unset] [(.int (2147483647 : Int32)), (.int p2)]))
  refine OGo.to (fun _ k => XS.iand X0.here hx rfl (hb hby at_25) rfl k) ?_
  show OGo p e below _ (s₁.setTop (mkF m 26 #[.val (.long q1), .second, .val (.long q2), .second, .val (.int p1), .val (.int p2), .val (.int p3), .val (.int p4), .val (.long ta), .second, .val (.long tb), .second, .val (.int na), .unset, .unset, .unset, .unset, .unset, .unset, .unset, .unset, .unset] [(.int (p2 &&& (2147483647 : Int32)))]))
  obtain ⟨nb, hv_nb⟩ : ∃ z : Int32, z = (p2 &&& (2147483647 : Int32)) := ⟨_, rfl⟩
  rw [← hv_nb]
  refine OGo.to (fun _ k => XS.istore X0.here hx rfl (hb hby at_26) rfl (l' := #[.val (.long q1), .second, .val (.long q2), .second, .val (.int p1), .val (.int p2), .val (.int p3), .val (.int p4), .val (.long ta), .second, .val (.long tb), .second, .val (.int na), .val (.int nb), .unset, .unset, .unset, .unset, .unset, .unset, .unset, .unset]) rfl k) ?_
  show OGo p e below _ (s₁.setTop (mkF m 28 #[.val (.long q1), .second, .val (.long q2), .second, .val (.int p1), .val (.int p2), .val (.int p3), .val (.int p4), .val (.long ta), .second, .val (.long tb), .second, .val (.int na), .val (.int nb), .unset, .unset, .unset, .unset, .unset, .unset, .unset, .unset] []))
  refine OGo.to (fun _ k => XS.iconst X0.here hx rfl (hb hby at_28) k) ?_
  show OGo p e below _ (s₁.setTop (mkF m 29 #[.val (.long q1), .second, .val (.long q2), .second, .val (.int p1), .val (.int p2), .val (.int p3), .val (.int p4), .val (.long ta), .second, .val (.long tb), .second, .val (.int na), .val (.int nb), .unset, .unset, .unset, .unset, .unset, .unset, .unset, .unset] [(.int (1 : Int32))]))
  refine OGo.to (fun _ k => XS.iload X0.here hx rfl (hb hby at_29) rfl k) ?_
  show OGo p e below _ (s₁.setTop (mkF m 31 #[.val (.long q1), .second, .val (.long q2), .second, .val (.int p1), .val (.int p2), .val (.int p3), .val (.int p4), .val (.long ta), .second, .val (.long tb), .second, .val (.int na), .val (.int nb), .unset, .unset, .unset, .unset, .unset, .unset, .unset, .unset] [(.int p3), (.int (1 : Int32))]))
  refine OGo.to (fun _ k => X0.ldcInt hx hown (mvT hZ (hw _ (List.mem_of_getElem? (i := 1) rfl))) (g := (mkF m 31 #[.val (.long q1), .second, .val (.long q2), .second, .val (.int p1), .val (.int p2), .val (.int p3), .val (.int p4), .val (.long ta), .second, .val (.long tb), .second, .val (.int na), .val (.int nb), .unset, .unset, .unset, .unset, .unset, .unset, .unset, .unset] [(.int p3), (.int (1 : Int32))])) rfl (hb hby at_31) _ k) ?_
  show OGo p e below _ (s₁.setTop (mkF m 33 #[.val (.long q1), .second, .val (.long q2), .second, .val (.int p1), .val (.int p2), .val (.int p3), .val (.int p4), .val (.long ta), .second, .val (.long tb), .second, .val (.int na), .val (.int nb), .unset, .unset, .unset, .unset, .unset, .unset, .unset, .unset] [(.int (2147483647 : Int32)), (.int p3), (.int (1 : Int32))]))
  refine OGo.to (fun _ k => XS.iand X0.here hx rfl (hb hby at_33) rfl k) ?_
  show OGo p e below _ (s₁.setTop (mkF m 34 #[.val (.long q1), .second, .val (.long q2), .second, .val (.int p1), .val (.int p2), .val (.int p3), .val (.int p4), .val (.long ta), .second, .val (.long tb), .second, .val (.int na), .val (.int nb), .unset, .unset, .unset, .unset, .unset, .unset, .unset, .unset] [(.int (p3 &&& (2147483647 : Int32))), (.int (1 : Int32))]))
  obtain ⟨_, _, ⟨T1, L1, k1, n1⟩, -, X1, ⟨Lc1, hQ1, l1, y1, z1⟩, st1⟩ := Jvm.LawKit.callS X0 hx (y := (⟨"java/lang/Math", "max", "(II)I"⟩ : MethodName)) hown (mvT hZ (hw _ (List.mem_of_getElem? (i := 2) rfl))) (mvT hZ (hw _ (List.mem_of_getElem? (i := 3) rfl))) (mvT hZ (hw _ (List.mem_of_getElem? (i := 4) rfl))) (mvT hZ (hw _ (List.mem_of_getElem? (i := 5) rfl))) (by decide) (backOf (W := 0) (rm1 l Z a0 hw [] (1 : Int32) (p3 &&& (2147483647 : Int32)) h0 n0 Z0 ) hZ (hw _ (List.mem_of_getElem? (i := 5) rfl)) (hw _ (List.mem_of_getElem? (i := 4) rfl)) (by decide) (by decide)) (g := (mkF m 34 #[.val (.long q1), .second, .val (.long q2), .second, .val (.int p1), .val (.int p2), .val (.int p3), .val (.int p4), .val (.long ta), .second, .val (.long tb), .second, .val (.int na), .val (.int nb), .unset, .unset, .unset, .unset, .unset, .unset, .unset, .unset] [(.int (p3 &&& (2147483647 : Int32))), (.int (1 : Int32))])) rfl (by rw [hml]; rfl) (argsL := [(.int (1 : Int32)), (.int (p3 &&& (2147483647 : Int32)))]) (rest := []) (lenOf pd_1 rfl) rfl (by show 2 * 0 + _ ≤ _; exact Nat.le_of_eq rfl) (hb hby at_34) (fun _ _ => ⟨rfl, e0, (by decide : 0 + 0 ≤ _), (by decide : 0 + 0 ≤ _)⟩)
  dsimp only [Pt.U, Pt.locs, Pt.cells, Pt.slots] at X1 l1 y1 z1 st1 hQ1
  subst l1 y1 z1
  obtain ⟨rfl, N1q, e1⟩ := hQ1
  have N1 := Fr.app N0 N1q
  refine OGo.to st1 ?_
  show OGo p e below _ (T1.setTop (mkF m 37 #[.val (.long q1), .second, .val (.long q2), .second, .val (.int p1), .val (.int p2), .val (.int p3), .val (.int p4), .val (.long ta), .second, .val (.long tb), .second, .val (.int na), .val (.int nb), .unset, .unset, .unset, .unset, .unset, .unset, .unset, .unset] [(.int (own_max (1 : Int32) (p3 &&& (2147483647 : Int32))))]))
  obtain ⟨ca, hv_ca⟩ : ∃ z : Int32, z = (own_max (1 : Int32) (p3 &&& (2147483647 : Int32))) := ⟨_, rfl⟩
  rw [← hv_ca]
  refine OGo.to (fun _ k => XS.istore X1.here hx rfl (hb hby at_37) rfl (l' := #[.val (.long q1), .second, .val (.long q2), .second, .val (.int p1), .val (.int p2), .val (.int p3), .val (.int p4), .val (.long ta), .second, .val (.long tb), .second, .val (.int na), .val (.int nb), .val (.int ca), .unset, .unset, .unset, .unset, .unset, .unset, .unset]) rfl k) ?_
  show OGo p e below _ (T1.setTop (mkF m 39 #[.val (.long q1), .second, .val (.long q2), .second, .val (.int p1), .val (.int p2), .val (.int p3), .val (.int p4), .val (.long ta), .second, .val (.long tb), .second, .val (.int na), .val (.int nb), .val (.int ca), .unset, .unset, .unset, .unset, .unset, .unset, .unset] []))
  refine OGo.to (fun _ k => XS.iconst X1.here hx rfl (hb hby at_39) k) ?_
  show OGo p e below _ (T1.setTop (mkF m 40 #[.val (.long q1), .second, .val (.long q2), .second, .val (.int p1), .val (.int p2), .val (.int p3), .val (.int p4), .val (.long ta), .second, .val (.long tb), .second, .val (.int na), .val (.int nb), .val (.int ca), .unset, .unset, .unset, .unset, .unset, .unset, .unset] [(.int (1 : Int32))]))
  refine OGo.to (fun _ k => XS.iload X1.here hx rfl (hb hby at_40) rfl k) ?_
  show OGo p e below _ (T1.setTop (mkF m 42 #[.val (.long q1), .second, .val (.long q2), .second, .val (.int p1), .val (.int p2), .val (.int p3), .val (.int p4), .val (.long ta), .second, .val (.long tb), .second, .val (.int na), .val (.int nb), .val (.int ca), .unset, .unset, .unset, .unset, .unset, .unset, .unset] [(.int p4), (.int (1 : Int32))]))
  refine OGo.to (fun _ k => X1.ldcInt hx hown (mvT hZ (hw _ (List.mem_of_getElem? (i := 1) rfl))) (g := (mkF m 42 #[.val (.long q1), .second, .val (.long q2), .second, .val (.int p1), .val (.int p2), .val (.int p3), .val (.int p4), .val (.long ta), .second, .val (.long tb), .second, .val (.int na), .val (.int nb), .val (.int ca), .unset, .unset, .unset, .unset, .unset, .unset, .unset] [(.int p4), (.int (1 : Int32))])) rfl (hb hby at_42) _ k) ?_
  show OGo p e below _ (T1.setTop (mkF m 44 #[.val (.long q1), .second, .val (.long q2), .second, .val (.int p1), .val (.int p2), .val (.int p3), .val (.int p4), .val (.long ta), .second, .val (.long tb), .second, .val (.int na), .val (.int nb), .val (.int ca), .unset, .unset, .unset, .unset, .unset, .unset, .unset] [(.int (2147483647 : Int32)), (.int p4), (.int (1 : Int32))]))
  refine OGo.to (fun _ k => XS.iand X1.here hx rfl (hb hby at_44) rfl k) ?_
  show OGo p e below _ (T1.setTop (mkF m 45 #[.val (.long q1), .second, .val (.long q2), .second, .val (.int p1), .val (.int p2), .val (.int p3), .val (.int p4), .val (.long ta), .second, .val (.long tb), .second, .val (.int na), .val (.int nb), .val (.int ca), .unset, .unset, .unset, .unset, .unset, .unset, .unset] [(.int (p4 &&& (2147483647 : Int32))), (.int (1 : Int32))]))
  obtain ⟨_, _, ⟨T2, L2, k2, n2⟩, -, X2, ⟨Lc2, hQ2, l2, y2, z2⟩, st2⟩ := Jvm.LawKit.callS X1 hx (y := (⟨"java/lang/Math", "max", "(II)I"⟩ : MethodName)) hown (mvT hZ (hw _ (List.mem_of_getElem? (i := 2) rfl))) (mvT hZ (hw _ (List.mem_of_getElem? (i := 3) rfl))) (mvT hZ (hw _ (List.mem_of_getElem? (i := 4) rfl))) (mvT hZ (hw _ (List.mem_of_getElem? (i := 5) rfl))) (by decide) (backOf (W := 0) (rm1 l Z a0 hw [] (1 : Int32) (p4 &&& (2147483647 : Int32)) h0 n0 Z0 ) hZ (hw _ (List.mem_of_getElem? (i := 5) rfl)) (hw _ (List.mem_of_getElem? (i := 4) rfl)) (by decide) (by decide)) (g := (mkF m 45 #[.val (.long q1), .second, .val (.long q2), .second, .val (.int p1), .val (.int p2), .val (.int p3), .val (.int p4), .val (.long ta), .second, .val (.long tb), .second, .val (.int na), .val (.int nb), .val (.int ca), .unset, .unset, .unset, .unset, .unset, .unset, .unset] [(.int (p4 &&& (2147483647 : Int32))), (.int (1 : Int32))])) rfl (by rw [hml]; rfl) (argsL := [(.int (1 : Int32)), (.int (p4 &&& (2147483647 : Int32)))]) (rest := []) (lenOf pd_1 rfl) rfl (by show 2 * 0 + _ ≤ _; exact Nat.le_of_eq rfl) (hb hby at_45) (fun _ _ => ⟨rfl, e1, (by decide : 0 + 0 ≤ _), (by decide : 0 + 0 ≤ _)⟩)
  dsimp only [Pt.U, Pt.locs, Pt.cells, Pt.slots] at X2 l2 y2 z2 st2 hQ2
  subst l2 y2 z2
  obtain ⟨rfl, N2q, e2⟩ := hQ2
  have N2 := Fr.app N1 N2q
  refine OGo.to st2 ?_
  show OGo p e below _ (T2.setTop (mkF m 48 #[.val (.long q1), .second, .val (.long q2), .second, .val (.int p1), .val (.int p2), .val (.int p3), .val (.int p4), .val (.long ta), .second, .val (.long tb), .second, .val (.int na), .val (.int nb), .val (.int ca), .unset, .unset, .unset, .unset, .unset, .unset, .unset] [(.int (own_max (1 : Int32) (p4 &&& (2147483647 : Int32))))]))
  obtain ⟨cb, hv_cb⟩ : ∃ z : Int32, z = (own_max (1 : Int32) (p4 &&& (2147483647 : Int32))) := ⟨_, rfl⟩
  rw [← hv_cb]
  refine OGo.to (fun _ k => XS.istore X2.here hx rfl (hb hby at_48) rfl (l' := #[.val (.long q1), .second, .val (.long q2), .second, .val (.int p1), .val (.int p2), .val (.int p3), .val (.int p4), .val (.long ta), .second, .val (.long tb), .second, .val (.int na), .val (.int nb), .val (.int ca), .val (.int cb), .unset, .unset, .unset, .unset, .unset, .unset]) rfl k) ?_
  show OGo p e below _ (T2.setTop (mkF m 50 #[.val (.long q1), .second, .val (.long q2), .second, .val (.int p1), .val (.int p2), .val (.int p3), .val (.int p4), .val (.long ta), .second, .val (.long tb), .second, .val (.int na), .val (.int nb), .val (.int ca), .val (.int cb), .unset, .unset, .unset, .unset, .unset, .unset] []))
  obtain ⟨T3, h3, X3, e3, E3, A3, D3, -, st3⟩ := newO X2 hx hZ hown (hw _ (List.mem_of_getElem? (i := 6) rfl)) (hw _ (List.mem_of_getElem? (i := 7) rfl)) (hw _ (List.mem_of_getElem? (i := 8) rfl)) e2 (g := (mkF m 50 #[.val (.long q1), .second, .val (.long q2), .second, .val (.int p1), .val (.int p2), .val (.int p3), .val (.int p4), .val (.long ta), .second, .val (.long tb), .second, .val (.int na), .val (.int nb), .val (.int ca), .val (.int cb), .unset, .unset, .unset, .unset, .unset, .unset] [])) rfl (hb hby at_50) (by decide) (by decide)
  obtain ⟨b3, g3⟩ : ∃ z, z = h0.size := ⟨_, rfl⟩
  rw [← g3] at A3 D3 st3
  have g_b3 : n0 ≤ b3 := Nat.le_trans Z0 (Nat.le_of_eq g3.symm)
  refine OGo.to st3 ?_
  have z4 : n0 ≤ h3.size := Nat.le_trans Z0 E3.1
  have F_timestamp_b3 : Fld Z h3 b3 "com/example/heartwood/heartwood/Revision" "timestamp" "J" (.long (0 : Int64)) := D3 (Or.inr (hw _ (List.mem_of_getElem? (i := 21) rfl))) (ty := .long) (by decide)
  have F_counter_b3 : Fld Z h3 b3 "com/example/heartwood/heartwood/Revision" "counter" "I" (.int (0 : Int32)) := D3 (Or.inr (hw _ (List.mem_of_getElem? (i := 23) rfl))) (ty := .int) (by decide)
  have F_clusterId_b3 : Fld Z h3 b3 "com/example/heartwood/heartwood/Revision" "clusterId" "I" (.int (0 : Int32)) := D3 (Or.inr (hw _ (List.mem_of_getElem? (i := 25) rfl))) (ty := .int) (by decide)
  show OGo p e below _ (T3.setTop (mkF m 53 #[.val (.long q1), .second, .val (.long q2), .second, .val (.int p1), .val (.int p2), .val (.int p3), .val (.int p4), .val (.long ta), .second, .val (.long tb), .second, .val (.int na), .val (.int nb), .val (.int ca), .val (.int cb), .unset, .unset, .unset, .unset, .unset, .unset] [(.ref b3)]))
  refine OGo.to (fun _ k => XS.dup X3.here hx rfl (hb hby at_53) rfl rfl k) ?_
  show OGo p e below _ (T3.setTop (mkF m 54 #[.val (.long q1), .second, .val (.long q2), .second, .val (.int p1), .val (.int p2), .val (.int p3), .val (.int p4), .val (.long ta), .second, .val (.long tb), .second, .val (.int na), .val (.int nb), .val (.int ca), .val (.int cb), .unset, .unset, .unset, .unset, .unset, .unset] [(.ref b3), (.ref b3)]))
  refine OGo.to (fun _ k => XS.lload X3.here hx rfl (hb hby at_54) rfl k) ?_
  show OGo p e below _ (T3.setTop (mkF m 56 #[.val (.long q1), .second, .val (.long q2), .second, .val (.int p1), .val (.int p2), .val (.int p3), .val (.int p4), .val (.long ta), .second, .val (.long tb), .second, .val (.int na), .val (.int nb), .val (.int ca), .val (.int cb), .unset, .unset, .unset, .unset, .unset, .unset] [(.long ta), (.ref b3), (.ref b3)]))
  refine OGo.to (fun _ k => XS.iload X3.here hx rfl (hb hby at_56) rfl k) ?_
  show OGo p e below _ (T3.setTop (mkF m 58 #[.val (.long q1), .second, .val (.long q2), .second, .val (.int p1), .val (.int p2), .val (.int p3), .val (.int p4), .val (.long ta), .second, .val (.long tb), .second, .val (.int na), .val (.int nb), .val (.int ca), .val (.int cb), .unset, .unset, .unset, .unset, .unset, .unset] [(.int na), (.long ta), (.ref b3), (.ref b3)]))
  refine OGo.to (fun _ k => XS.iload X3.here hx rfl (hb hby at_58) rfl k) ?_
  show OGo p e below _ (T3.setTop (mkF m 60 #[.val (.long q1), .second, .val (.long q2), .second, .val (.int p1), .val (.int p2), .val (.int p3), .val (.int p4), .val (.long ta), .second, .val (.long tb), .second, .val (.int na), .val (.int nb), .val (.int ca), .val (.int cb), .unset, .unset, .unset, .unset, .unset, .unset] [(.int ca), (.int na), (.long ta), (.ref b3), (.ref b3)]))
  obtain ⟨_, _, ⟨T5, L5, k5, n5⟩, -, X5, ⟨Lc5, hQ5, l5, y5, z5⟩, st5⟩ := X3.specialBack hx (y := (⟨"com/example/heartwood/heartwood/Revision", "<init>", "(JII)V"⟩ : MethodName)) rfl hown (mvT hZ (hw _ (List.mem_of_getElem? (i := 9) rfl))) (mvT hZ (hw _ (List.mem_of_getElem? (i := 10) rfl))) (mvT hZ (hw _ (List.mem_of_getElem? (i := 11) rfl))) (by decide) (backOf (W := 1) (rm2 l Z a0 hw [] b3 ta na ca (.long (0 : Int64)) (.int (0 : Int32)) (.int (0 : Int32)) h3 n0 z4 A3 F_timestamp_b3 F_counter_b3 F_clusterId_b3 g_b3 (by rw [hv_ta]; exact own_nnL q1) (by rw [hv_na]; exact own_nn p1) (by rw [hv_ca]; exact own_max1 _)) hZ (hw _ (List.mem_of_getElem? (i := 11) rfl)) (hw _ (List.mem_of_getElem? (i := 8) rfl)) (by decide) (by decide)) (g := (mkF m 60 #[.val (.long q1), .second, .val (.long q2), .second, .val (.int p1), .val (.int p2), .val (.int p3), .val (.int p4), .val (.long ta), .second, .val (.long tb), .second, .val (.int na), .val (.int nb), .val (.int ca), .val (.int cb), .unset, .unset, .unset, .unset, .unset, .unset] [(.int ca), (.int na), (.long ta), (.ref b3), (.ref b3)])) rfl (by rw [hml]; rfl) (Steps.refl _) (a := b3) (argsL := [(.long ta), (.int na), (.int ca)]) (rest := [(.ref b3)]) (lenOf pd_3 rfl) rfl (by show 2 * 0 + _ ≤ _; exact Nat.le_of_eq rfl) (hb hby at_60) (fun _ _ => ⟨rfl, e3, (by decide : 1 + 0 ≤ _), (by decide : 3 + 0 ≤ _)⟩)
  dsimp only [Pt.U, Pt.locs, Pt.cells, Pt.slots] at X5 l5 y5 z5 st5 hQ5
  subst l5 y5 z5
  obtain ⟨rfl, N5q, K5, p5_0, p5_1, p5_2⟩ := hQ5
  have N5 := Fr.app N2 N5q
  refine OGo.to (fun _ k => st5.trans k) ?_
  have z6 : n0 ≤ T5.heap.size := Nat.le_trans z4 K5.1
  show OGo p e below _ (T5.setTop (mkF m 63 #[.val (.long q1), .second, .val (.long q2), .second, .val (.int p1), .val (.int p2), .val (.int p3), .val (.int p4), .val (.long ta), .second, .val (.long tb), .second, .val (.int na), .val (.int nb), .val (.int ca), .val (.int cb), .unset, .unset, .unset, .unset, .unset, .unset] [(.ref b3)]))
  refine OGo.to (fun _ k => XS.astore X5.here hx rfl (hb hby at_63) rfl rfl (l' := #[.val (.long q1), .second, .val (.long q2), .second, .val (.int p1), .val (.int p2), .val (.int p3), .val (.int p4), .val (.long ta), .second, .val (.long tb), .second, .val (.int na), .val (.int nb), .val (.int ca), .val (.int cb), .val (.ref b3), .unset, .unset, .unset, .unset, .unset]) rfl k) ?_
  show OGo p e below _ (T5.setTop (mkF m 65 #[.val (.long q1), .second, .val (.long q2), .second, .val (.int p1), .val (.int p2), .val (.int p3), .val (.int p4), .val (.long ta), .second, .val (.long tb), .second, .val (.int na), .val (.int nb), .val (.int ca), .val (.int cb), .val (.ref b3), .unset, .unset, .unset, .unset, .unset] []))
  have f8 : Exa Z T5.heap b3 "com/example/heartwood/heartwood/Revision" := (A3.keep K5)
  obtain ⟨T7, h7, X7, e7, E7, A7, D7, -, st7⟩ := newO X5 hx hZ hown (hw _ (List.mem_of_getElem? (i := 6) rfl)) (hw _ (List.mem_of_getElem? (i := 7) rfl)) (hw _ (List.mem_of_getElem? (i := 8) rfl)) (rfl : T5.heap = T5.heap) (g := (mkF m 65 #[.val (.long q1), .second, .val (.long q2), .second, .val (.int p1), .val (.int p2), .val (.int p3), .val (.int p4), .val (.long ta), .second, .val (.long tb), .second, .val (.int na), .val (.int nb), .val (.int ca), .val (.int cb), .val (.ref b3), .unset, .unset, .unset, .unset, .unset] [])) rfl (hb hby at_65) (by decide) (by decide)
  obtain ⟨b7, g7⟩ : ∃ z, z = T5.heap.size := ⟨_, rfl⟩
  rw [← g7] at A7 D7 st7
  have g_b7 : n0 ≤ b7 := Nat.le_trans z6 (Nat.le_of_eq g7.symm)
  refine OGo.to st7 ?_
  have ne_b3_b7 : b3 ≠ b7 := Nat.ne_of_lt (Nat.lt_of_lt_of_le f8.lt (Nat.le_of_eq g7.symm))
  have z9 : n0 ≤ h7.size := Nat.le_trans z6 E7.1
  have F_timestamp_b7 : Fld Z h7 b7 "com/example/heartwood/heartwood/Revision" "timestamp" "J" (.long (0 : Int64)) := D7 (Or.inr (hw _ (List.mem_of_getElem? (i := 21) rfl))) (ty := .long) (by decide)
  have F_counter_b7 : Fld Z h7 b7 "com/example/heartwood/heartwood/Revision" "counter" "I" (.int (0 : Int32)) := D7 (Or.inr (hw _ (List.mem_of_getElem? (i := 23) rfl))) (ty := .int) (by decide)
  have F_clusterId_b7 : Fld Z h7 b7 "com/example/heartwood/heartwood/Revision" "clusterId" "I" (.int (0 : Int32)) := D7 (Or.inr (hw _ (List.mem_of_getElem? (i := 25) rfl))) (ty := .int) (by decide)
  show OGo p e below _ (T7.setTop (mkF m 68 #[.val (.long q1), .second, .val (.long q2), .second, .val (.int p1), .val (.int p2), .val (.int p3), .val (.int p4), .val (.long ta), .second, .val (.long tb), .second, .val (.int na), .val (.int nb), .val (.int ca), .val (.int cb), .val (.ref b3), .unset, .unset, .unset, .unset, .unset] [(.ref b7)]))
  refine OGo.to (fun _ k => XS.dup X7.here hx rfl (hb hby at_68) rfl rfl k) ?_
  show OGo p e below _ (T7.setTop (mkF m 69 #[.val (.long q1), .second, .val (.long q2), .second, .val (.int p1), .val (.int p2), .val (.int p3), .val (.int p4), .val (.long ta), .second, .val (.long tb), .second, .val (.int na), .val (.int nb), .val (.int ca), .val (.int cb), .val (.ref b3), .unset, .unset, .unset, .unset, .unset] [(.ref b7), (.ref b7)]))
  refine OGo.to (fun _ k => XS.lload X7.here hx rfl (hb hby at_69) rfl k) ?_
  show OGo p e below _ (T7.setTop (mkF m 71 #[.val (.long q1), .second, .val (.long q2), .second, .val (.int p1), .val (.int p2), .val (.int p3), .val (.int p4), .val (.long ta), .second, .val (.long tb), .second, .val (.int na), .val (.int nb), .val (.int ca), .val (.int cb), .val (.ref b3), .unset, .unset, .unset, .unset, .unset] [(.long tb), (.ref b7), (.ref b7)]))
  refine OGo.to (fun _ k => XS.iload X7.here hx rfl (hb hby at_71) rfl k) ?_
  show OGo p e below _ (T7.setTop (mkF m 73 #[.val (.long q1), .second, .val (.long q2), .second, .val (.int p1), .val (.int p2), .val (.int p3), .val (.int p4), .val (.long ta), .second, .val (.long tb), .second, .val (.int na), .val (.int nb), .val (.int ca), .val (.int cb), .val (.ref b3), .unset, .unset, .unset, .unset, .unset] [(.int nb), (.long tb), (.ref b7), (.ref b7)]))
  refine OGo.to (fun _ k => XS.iload X7.here hx rfl (hb hby at_73) rfl k) ?_
  show OGo p e below _ (T7.setTop (mkF m 75 #[.val (.long q1), .second, .val (.long q2), .second, .val (.int p1), .val (.int p2), .val (.int p3), .val (.int p4), .val (.long ta), .second, .val (.long tb), .second, .val (.int na), .val (.int nb), .val (.int ca), .val (.int cb), .val (.ref b3), .unset, .unset, .unset, .unset, .unset] [(.int cb), (.int nb), (.long tb), (.ref b7), (.ref b7)]))
  obtain ⟨_, _, ⟨T10, L10, k10, n10⟩, -, X10, ⟨Lc10, hQ10, l10, y10, z10⟩, st10⟩ := X7.specialBack hx (y := (⟨"com/example/heartwood/heartwood/Revision", "<init>", "(JII)V"⟩ : MethodName)) rfl hown (mvT hZ (hw _ (List.mem_of_getElem? (i := 9) rfl))) (mvT hZ (hw _ (List.mem_of_getElem? (i := 10) rfl))) (mvT hZ (hw _ (List.mem_of_getElem? (i := 11) rfl))) (by decide) (backOf (W := 1) (rm2 l Z a0 hw [] b7 tb nb cb (.long (0 : Int64)) (.int (0 : Int32)) (.int (0 : Int32)) h7 n0 z9 A7 F_timestamp_b7 F_counter_b7 F_clusterId_b7 g_b7 (by rw [hv_tb]; exact own_nnL q2) (by rw [hv_nb]; exact own_nn p2) (by rw [hv_cb]; exact own_max1 _)) hZ (hw _ (List.mem_of_getElem? (i := 11) rfl)) (hw _ (List.mem_of_getElem? (i := 8) rfl)) (by decide) (by decide)) (g := (mkF m 75 #[.val (.long q1), .second, .val (.long q2), .second, .val (.int p1), .val (.int p2), .val (.int p3), .val (.int p4), .val (.long ta), .second, .val (.long tb), .second, .val (.int na), .val (.int nb), .val (.int ca), .val (.int cb), .val (.ref b3), .unset, .unset, .unset, .unset, .unset] [(.int cb), (.int nb), (.long tb), (.ref b7), (.ref b7)])) rfl (by rw [hml]; rfl) (Steps.refl _) (a := b7) (argsL := [(.long tb), (.int nb), (.int cb)]) (rest := [(.ref b7)]) (lenOf pd_3 rfl) rfl (by show 2 * 0 + _ ≤ _; exact Nat.le_of_eq rfl) (hb hby at_75) (fun _ _ => ⟨rfl, e7, (by decide : 2 + 0 ≤ _), (by decide : 6 + 0 ≤ _)⟩)
  dsimp only [Pt.U, Pt.locs, Pt.cells, Pt.slots] at X10 l10 y10 z10 st10 hQ10
  subst l10 y10 z10
  obtain ⟨rfl, N10q, K10, p10_0, p10_1, p10_2⟩ := hQ10
  have N10 := Fr.app N5 N10q
  refine OGo.to (fun _ k => st10.trans k) ?_
  have z11 : n0 ≤ T10.heap.size := Nat.le_trans z9 K10.1
  show OGo p e below _ (T10.setTop (mkF m 78 #[.val (.long q1), .second, .val (.long q2), .second, .val (.int p1), .val (.int p2), .val (.int p3), .val (.int p4), .val (.long ta), .second, .val (.long tb), .second, .val (.int na), .val (.int nb), .val (.int ca), .val (.int cb), .val (.ref b3), .unset, .unset, .unset, .unset, .unset] [(.ref b7)]))
  refine OGo.to (fun _ k => XS.astore X10.here hx rfl (hb hby at_78) rfl rfl (l' := #[.val (.long q1), .second, .val (.long q2), .second, .val (.int p1), .val (.int p2), .val (.int p3), .val (.int p4), .val (.long ta), .second, .val (.long tb), .second, .val (.int na), .val (.int nb), .val (.int ca), .val (.int cb), .val (.ref b3), .val (.ref b7), .unset, .unset, .unset, .unset]) rfl k) ?_
  show OGo p e below _ (T10.setTop (mkF m 80 #[.val (.long q1), .second, .val (.long q2), .second, .val (.int p1), .val (.int p2), .val (.int p3), .val (.int p4), .val (.long ta), .second, .val (.long tb), .second, .val (.int na), .val (.int nb), .val (.int ca), .val (.int cb), .val (.ref b3), .val (.ref b7), .unset, .unset, .unset, .unset] []))
  refine OGo.to (fun _ k => XS.lload X10.here hx rfl (hb hby at_80) rfl k) ?_
  show OGo p e below _ (T10.setTop (mkF m 82 #[.val (.long q1), .second, .val (.long q2), .second, .val (.int p1), .val (.int p2), .val (.int p3), .val (.int p4), .val (.long ta), .second, .val (.long tb), .second, .val (.int na), .val (.int nb), .val (.int ca), .val (.int cb), .val (.ref b3), .val (.ref b7), .unset, .unset, .unset, .unset] [(.long ta)]))
  refine OGo.to (fun _ k => XS.iload X10.here hx rfl (hb hby at_82) rfl k) ?_
  show OGo p e below _ (T10.setTop (mkF m 84 #[.val (.long q1), .second, .val (.long q2), .second, .val (.int p1), .val (.int p2), .val (.int p3), .val (.int p4), .val (.long ta), .second, .val (.long tb), .second, .val (.int na), .val (.int nb), .val (.int ca), .val (.int cb), .val (.ref b3), .val (.ref b7), .unset, .unset, .unset, .unset] [(.int na), (.long ta)]))
  refine OGo.to (fun _ k => XS.iload X10.here hx rfl (hb hby at_84) rfl k) ?_
  show OGo p e below _ (T10.setTop (mkF m 86 #[.val (.long q1), .second, .val (.long q2), .second, .val (.int p1), .val (.int p2), .val (.int p3), .val (.int p4), .val (.long ta), .second, .val (.long tb), .second, .val (.int na), .val (.int nb), .val (.int ca), .val (.int cb), .val (.ref b3), .val (.ref b7), .unset, .unset, .unset, .unset] [(.int ca), (.int na), (.long ta)]))
  refine OGo.to (fun _ k => XS.lload X10.here hx rfl (hb hby at_86) rfl k) ?_
  show OGo p e below _ (T10.setTop (mkF m 88 #[.val (.long q1), .second, .val (.long q2), .second, .val (.int p1), .val (.int p2), .val (.int p3), .val (.int p4), .val (.long ta), .second, .val (.long tb), .second, .val (.int na), .val (.int nb), .val (.int ca), .val (.int cb), .val (.ref b3), .val (.ref b7), .unset, .unset, .unset, .unset] [(.long tb), (.int ca), (.int na), (.long ta)]))
  refine OGo.to (fun _ k => XS.iload X10.here hx rfl (hb hby at_88) rfl k) ?_
  show OGo p e below _ (T10.setTop (mkF m 90 #[.val (.long q1), .second, .val (.long q2), .second, .val (.int p1), .val (.int p2), .val (.int p3), .val (.int p4), .val (.long ta), .second, .val (.long tb), .second, .val (.int na), .val (.int nb), .val (.int ca), .val (.int cb), .val (.ref b3), .val (.ref b7), .unset, .unset, .unset, .unset] [(.int nb), (.long tb), (.int ca), (.int na), (.long ta)]))
  refine OGo.to (fun _ k => XS.iload X10.here hx rfl (hb hby at_90) rfl k) ?_
  show OGo p e below _ (T10.setTop (mkF m 92 #[.val (.long q1), .second, .val (.long q2), .second, .val (.int p1), .val (.int p2), .val (.int p3), .val (.int p4), .val (.long ta), .second, .val (.long tb), .second, .val (.int na), .val (.int nb), .val (.int ca), .val (.int cb), .val (.ref b3), .val (.ref b7), .unset, .unset, .unset, .unset] [(.int cb), (.int nb), (.long tb), (.int ca), (.int na), (.long ta)]))
  obtain ⟨_, _, ⟨T12, L12, k12, n12⟩, -, X12, ⟨Lc12, hQ12, l12, y12, z12⟩, st12⟩ := Jvm.LawKit.callS X10 hx (y := (⟨"com/example/heartwood/heartwood/RevisionCompareToPinLaw", "reference", "(JIIJII)I"⟩ : MethodName)) hown (mvT hZ (hw _ (List.mem_of_getElem? (i := 26) rfl))) (mvT hZ (hw _ (List.mem_of_getElem? (i := 27) rfl))) (mvT hZ (hw _ (List.mem_of_getElem? (i := 28) rfl))) (mvT hZ (hw _ (List.mem_of_getElem? (i := 29) rfl))) (by decide) (backOf (W := 0) (rm5 l Z a0 hw [] ta na ca tb nb cb T10.heap n0 z11 ) hZ (hw _ (List.mem_of_getElem? (i := 29) rfl)) (hw _ (List.mem_of_getElem? (i := 28) rfl)) (by decide) (by decide)) (g := (mkF m 92 #[.val (.long q1), .second, .val (.long q2), .second, .val (.int p1), .val (.int p2), .val (.int p3), .val (.int p4), .val (.long ta), .second, .val (.long tb), .second, .val (.int na), .val (.int nb), .val (.int ca), .val (.int cb), .val (.ref b3), .val (.ref b7), .unset, .unset, .unset, .unset] [(.int cb), (.int nb), (.long tb), (.int ca), (.int na), (.long ta)])) rfl (by rw [hml]; rfl) (argsL := [(.long ta), (.int na), (.int ca), (.long tb), (.int nb), (.int cb)]) (rest := []) (lenOf pd_4 rfl) rfl (by show 2 * 0 + _ ≤ _; exact Nat.le_of_eq rfl) (hb hby at_92) (fun _ _ => ⟨rfl, (rfl : T10.heap = T10.heap), (by decide : 2 + 0 ≤ _), (by decide : 6 + 0 ≤ _)⟩)
  dsimp only [Pt.U, Pt.locs, Pt.cells, Pt.slots] at X12 l12 y12 z12 st12 hQ12
  subst l12 y12 z12
  obtain ⟨rfl, N12q, e12⟩ := hQ12
  have N12 := Fr.app N10 N12q
  refine OGo.to st12 ?_
  show OGo p e below _ (T12.setTop (mkF m 95 #[.val (.long q1), .second, .val (.long q2), .second, .val (.int p1), .val (.int p2), .val (.int p3), .val (.int p4), .val (.long ta), .second, .val (.long tb), .second, .val (.int na), .val (.int nb), .val (.int ca), .val (.int cb), .val (.ref b3), .val (.ref b7), .unset, .unset, .unset, .unset] [(.int (own_ref ta na ca tb nb cb))]))
  refine OGo.to (fun _ k => XS.istore X12.here hx rfl (hb hby at_95) rfl (l' := #[.val (.long q1), .second, .val (.long q2), .second, .val (.int p1), .val (.int p2), .val (.int p3), .val (.int p4), .val (.long ta), .second, .val (.long tb), .second, .val (.int na), .val (.int nb), .val (.int ca), .val (.int cb), .val (.ref b3), .val (.ref b7), .val (.int (own_ref ta na ca tb nb cb)), .unset, .unset, .unset]) rfl k) ?_
  show OGo p e below _ (T12.setTop (mkF m 97 #[.val (.long q1), .second, .val (.long q2), .second, .val (.int p1), .val (.int p2), .val (.int p3), .val (.int p4), .val (.long ta), .second, .val (.long tb), .second, .val (.int na), .val (.int nb), .val (.int ca), .val (.int cb), .val (.ref b3), .val (.ref b7), .val (.int (own_ref ta na ca tb nb cb)), .unset, .unset, .unset] []))
  refine OGo.to (fun _ k => XS.aload X12.here hx rfl (hb hby at_97) rfl rfl k) ?_
  show OGo p e below _ (T12.setTop (mkF m 99 #[.val (.long q1), .second, .val (.long q2), .second, .val (.int p1), .val (.int p2), .val (.int p3), .val (.int p4), .val (.long ta), .second, .val (.long tb), .second, .val (.int na), .val (.int nb), .val (.int ca), .val (.int cb), .val (.ref b3), .val (.ref b7), .val (.int (own_ref ta na ca tb nb cb)), .unset, .unset, .unset] [(.ref b3)]))
  refine OGo.to (fun _ k => XS.aload X12.here hx rfl (hb hby at_99) rfl rfl k) ?_
  show OGo p e below _ (T12.setTop (mkF m 101 #[.val (.long q1), .second, .val (.long q2), .second, .val (.int p1), .val (.int p2), .val (.int p3), .val (.int p4), .val (.long ta), .second, .val (.long tb), .second, .val (.int na), .val (.int nb), .val (.int ca), .val (.int cb), .val (.ref b3), .val (.ref b7), .val (.int (own_ref ta na ca tb nb cb)), .unset, .unset, .unset] [(.ref b7), (.ref b3)]))
  have f14 : Fld Z T10.heap b3 "com/example/heartwood/heartwood/Revision" "timestamp" "J" (.long ta) := ((p5_0.ext E7).keep K10 (fun q => ne_b3_b7 (List.mem_singleton.mp q)))
  have f15 : Fld Z T10.heap b3 "com/example/heartwood/heartwood/Revision" "counter" "I" (.int na) := ((p5_1.ext E7).keep K10 (fun q => ne_b3_b7 (List.mem_singleton.mp q)))
  have f16 : Fld Z T10.heap b3 "com/example/heartwood/heartwood/Revision" "clusterId" "I" (.int ca) := ((p5_2.ext E7).keep K10 (fun q => ne_b3_b7 (List.mem_singleton.mp q)))
  have f17 : Exa Z T10.heap b3 "com/example/heartwood/heartwood/Revision" := ((f8.ext E7).keep K10)
  obtain ⟨cq13, kq13, q13a, q13b, q13c⟩ := isOf hZ e12 f17
  obtain ⟨_, _, ⟨T13, L13, k13, n13⟩, -, X13, ⟨Lc13, hQ13, l13, y13, z13⟩, st13⟩ := X12.virtualBack hx (y := (⟨"com/example/heartwood/heartwood/Revision", "compareTo", "(Lcom/example/heartwood/heartwood/Revision;)I"⟩ : MethodName)) (z := (⟨"com/example/heartwood/heartwood/Revision", "compareTo", "(Lcom/example/heartwood/heartwood/Revision;)I"⟩ : MethodName)) hown (mvT hZ (hw _ (List.mem_of_getElem? (i := 30) rfl))) (mvT hZ (hw _ (List.mem_of_getElem? (i := 31) rfl))) (notFace_of_selects (args := #[]) (mvT hZ (hw _ (List.mem_of_getElem? (i := 33) rfl)))) (mvT hZ (hw _ (List.mem_of_getElem? (i := 33) rfl))) (mvT hZ (hw _ (List.mem_of_getElem? (i := 32) rfl))) (by decide) (backOf (W := 0) (rm6 l Z a0 hw [] b3 b7 ta na ca tb nb cb T10.heap n0 z11 f14 f15 f16 p10_0 p10_1 p10_2) hZ (hw _ (List.mem_of_getElem? (i := 34) rfl)) (hw _ (List.mem_of_getElem? (i := 8) rfl)) (by decide) (by decide)) q13a q13c (g := (mkF m 101 #[.val (.long q1), .second, .val (.long q2), .second, .val (.int p1), .val (.int p2), .val (.int p3), .val (.int p4), .val (.long ta), .second, .val (.long tb), .second, .val (.int na), .val (.int nb), .val (.int ca), .val (.int cb), .val (.ref b3), .val (.ref b7), .val (.int (own_ref ta na ca tb nb cb)), .unset, .unset, .unset] [(.ref b7), (.ref b3)])) rfl (by rw [hml]; rfl) (Steps.refl _) (argsL := [(.ref b7)]) (rest := []) (lenOf pd_5 rfl) rfl (by show 2 * 0 + _ ≤ _; exact Nat.le_of_eq rfl) (hb hby at_101) (fun _ _ => ⟨rfl, e12, (by decide : 2 + 0 ≤ _), (by decide : 6 + 0 ≤ _)⟩)
  dsimp only [Pt.U, Pt.locs, Pt.cells, Pt.slots] at X13 l13 y13 z13 st13 hQ13
  subst l13 y13 z13
  obtain ⟨rfl, N13q, e13⟩ := hQ13
  have N13 := Fr.app N12 N13q
  refine OGo.to (fun _ k => st13.trans k) ?_
  show OGo p e below _ (T13.setTop (mkF m 104 #[.val (.long q1), .second, .val (.long q2), .second, .val (.int p1), .val (.int p2), .val (.int p3), .val (.int p4), .val (.long ta), .second, .val (.long tb), .second, .val (.int na), .val (.int nb), .val (.int ca), .val (.int cb), .val (.ref b3), .val (.ref b7), .val (.int (own_ref ta na ca tb nb cb)), .unset, .unset, .unset] [(.int (own_cmp ta na ca tb nb cb))]))
  obtain ⟨_, _, ⟨T18, L18, k18, n18⟩, -, X18, ⟨Lc18, hQ18, l18, y18, z18⟩, st18⟩ := Jvm.LawKit.callS X13 hx (y := (⟨"com/example/heartwood/heartwood/RevisionCompareToPinLaw", "sign", "(I)I"⟩ : MethodName)) hown (mvT hZ (hw _ (List.mem_of_getElem? (i := 39) rfl))) (mvT hZ (hw _ (List.mem_of_getElem? (i := 40) rfl))) (mvT hZ (hw _ (List.mem_of_getElem? (i := 28) rfl))) (mvT hZ (hw _ (List.mem_of_getElem? (i := 41) rfl))) (by decide) (backOf (W := 0) (rm8 l Z a0 hw [] (own_cmp ta na ca tb nb cb) T10.heap n0 z11 ) hZ (hw _ (List.mem_of_getElem? (i := 41) rfl)) (hw _ (List.mem_of_getElem? (i := 28) rfl)) (by decide) (by decide)) (g := (mkF m 104 #[.val (.long q1), .second, .val (.long q2), .second, .val (.int p1), .val (.int p2), .val (.int p3), .val (.int p4), .val (.long ta), .second, .val (.long tb), .second, .val (.int na), .val (.int nb), .val (.int ca), .val (.int cb), .val (.ref b3), .val (.ref b7), .val (.int (own_ref ta na ca tb nb cb)), .unset, .unset, .unset] [(.int (own_cmp ta na ca tb nb cb))])) rfl (by rw [hml]; rfl) (argsL := [(.int (own_cmp ta na ca tb nb cb))]) (rest := []) (lenOf pd_6 rfl) rfl (by show 2 * 0 + _ ≤ _; exact Nat.le_of_eq rfl) (hb hby at_104) (fun _ _ => ⟨rfl, e13, (by decide : 2 + 0 ≤ _), (by decide : 6 + 0 ≤ _)⟩)
  dsimp only [Pt.U, Pt.locs, Pt.cells, Pt.slots] at X18 l18 y18 z18 st18 hQ18
  subst l18 y18 z18
  obtain ⟨rfl, N18q, e18⟩ := hQ18
  have N18 := Fr.app N13 N18q
  refine OGo.to st18 ?_
  show OGo p e below _ (T18.setTop (mkF m 107 #[.val (.long q1), .second, .val (.long q2), .second, .val (.int p1), .val (.int p2), .val (.int p3), .val (.int p4), .val (.long ta), .second, .val (.long tb), .second, .val (.int na), .val (.int nb), .val (.int ca), .val (.int cb), .val (.ref b3), .val (.ref b7), .val (.int (own_ref ta na ca tb nb cb)), .unset, .unset, .unset] [(.int (own_sign (own_cmp ta na ca tb nb cb)))]))
  refine OGo.to (fun _ k => XS.istore X18.here hx rfl (hb hby at_107) rfl (l' := #[.val (.long q1), .second, .val (.long q2), .second, .val (.int p1), .val (.int p2), .val (.int p3), .val (.int p4), .val (.long ta), .second, .val (.long tb), .second, .val (.int na), .val (.int nb), .val (.int ca), .val (.int cb), .val (.ref b3), .val (.ref b7), .val (.int (own_ref ta na ca tb nb cb)), .val (.int (own_sign (own_cmp ta na ca tb nb cb))), .unset, .unset]) rfl k) ?_
  show OGo p e below _ (T18.setTop (mkF m 109 #[.val (.long q1), .second, .val (.long q2), .second, .val (.int p1), .val (.int p2), .val (.int p3), .val (.int p4), .val (.long ta), .second, .val (.long tb), .second, .val (.int na), .val (.int nb), .val (.int ca), .val (.int cb), .val (.ref b3), .val (.ref b7), .val (.int (own_ref ta na ca tb nb cb)), .val (.int (own_sign (own_cmp ta na ca tb nb cb))), .unset, .unset] []))
  refine OGo.to (fun _ k => XS.aload X18.here hx rfl (hb hby at_109) rfl rfl k) ?_
  show OGo p e below _ (T18.setTop (mkF m 111 #[.val (.long q1), .second, .val (.long q2), .second, .val (.int p1), .val (.int p2), .val (.int p3), .val (.int p4), .val (.long ta), .second, .val (.long tb), .second, .val (.int na), .val (.int nb), .val (.int ca), .val (.int cb), .val (.ref b3), .val (.ref b7), .val (.int (own_ref ta na ca tb nb cb)), .val (.int (own_sign (own_cmp ta na ca tb nb cb))), .unset, .unset] [(.ref b7)]))
  refine OGo.to (fun _ k => XS.aload X18.here hx rfl (hb hby at_111) rfl rfl k) ?_
  show OGo p e below _ (T18.setTop (mkF m 113 #[.val (.long q1), .second, .val (.long q2), .second, .val (.int p1), .val (.int p2), .val (.int p3), .val (.int p4), .val (.long ta), .second, .val (.long tb), .second, .val (.int na), .val (.int nb), .val (.int ca), .val (.int cb), .val (.ref b3), .val (.ref b7), .val (.int (own_ref ta na ca tb nb cb)), .val (.int (own_sign (own_cmp ta na ca tb nb cb))), .unset, .unset] [(.ref b3), (.ref b7)]))
  have f20 : Exa Z T10.heap b7 "com/example/heartwood/heartwood/Revision" := (A7.keep K10)
  obtain ⟨cq19, kq19, q19a, q19b, q19c⟩ := isOf hZ e18 f20
  obtain ⟨_, _, ⟨T19, L19, k19, n19⟩, -, X19, ⟨Lc19, hQ19, l19, y19, z19⟩, st19⟩ := X18.virtualBack hx (y := (⟨"com/example/heartwood/heartwood/Revision", "compareTo", "(Lcom/example/heartwood/heartwood/Revision;)I"⟩ : MethodName)) (z := (⟨"com/example/heartwood/heartwood/Revision", "compareTo", "(Lcom/example/heartwood/heartwood/Revision;)I"⟩ : MethodName)) hown (mvT hZ (hw _ (List.mem_of_getElem? (i := 30) rfl))) (mvT hZ (hw _ (List.mem_of_getElem? (i := 31) rfl))) (notFace_of_selects (args := #[]) (mvT hZ (hw _ (List.mem_of_getElem? (i := 33) rfl)))) (mvT hZ (hw _ (List.mem_of_getElem? (i := 33) rfl))) (mvT hZ (hw _ (List.mem_of_getElem? (i := 32) rfl))) (by decide) (backOf (W := 0) (rm6 l Z a0 hw [] b7 b3 tb nb cb ta na ca T10.heap n0 z11 p10_0 p10_1 p10_2 f14 f15 f16) hZ (hw _ (List.mem_of_getElem? (i := 34) rfl)) (hw _ (List.mem_of_getElem? (i := 8) rfl)) (by decide) (by decide)) q19a q19c (g := (mkF m 113 #[.val (.long q1), .second, .val (.long q2), .second, .val (.int p1), .val (.int p2), .val (.int p3), .val (.int p4), .val (.long ta), .second, .val (.long tb), .second, .val (.int na), .val (.int nb), .val (.int ca), .val (.int cb), .val (.ref b3), .val (.ref b7), .val (.int (own_ref ta na ca tb nb cb)), .val (.int (own_sign (own_cmp ta na ca tb nb cb))), .unset, .unset] [(.ref b3), (.ref b7)])) rfl (by rw [hml]; rfl) (Steps.refl _) (argsL := [(.ref b3)]) (rest := []) (lenOf pd_5 rfl) rfl (by show 2 * 0 + _ ≤ _; exact Nat.le_of_eq rfl) (hb hby at_113) (fun _ _ => ⟨rfl, e18, (by decide : 2 + 0 ≤ _), (by decide : 6 + 0 ≤ _)⟩)
  dsimp only [Pt.U, Pt.locs, Pt.cells, Pt.slots] at X19 l19 y19 z19 st19 hQ19
  subst l19 y19 z19
  obtain ⟨rfl, N19q, e19⟩ := hQ19
  have N19 := Fr.app N18 N19q
  refine OGo.to (fun _ k => st19.trans k) ?_
  show OGo p e below _ (T19.setTop (mkF m 116 #[.val (.long q1), .second, .val (.long q2), .second, .val (.int p1), .val (.int p2), .val (.int p3), .val (.int p4), .val (.long ta), .second, .val (.long tb), .second, .val (.int na), .val (.int nb), .val (.int ca), .val (.int cb), .val (.ref b3), .val (.ref b7), .val (.int (own_ref ta na ca tb nb cb)), .val (.int (own_sign (own_cmp ta na ca tb nb cb))), .unset, .unset] [(.int (own_cmp tb nb cb ta na ca))]))
  obtain ⟨_, _, ⟨T21, L21, k21, n21⟩, -, X21, ⟨Lc21, hQ21, l21, y21, z21⟩, st21⟩ := Jvm.LawKit.callS X19 hx (y := (⟨"com/example/heartwood/heartwood/RevisionCompareToPinLaw", "sign", "(I)I"⟩ : MethodName)) hown (mvT hZ (hw _ (List.mem_of_getElem? (i := 39) rfl))) (mvT hZ (hw _ (List.mem_of_getElem? (i := 40) rfl))) (mvT hZ (hw _ (List.mem_of_getElem? (i := 28) rfl))) (mvT hZ (hw _ (List.mem_of_getElem? (i := 41) rfl))) (by decide) (backOf (W := 0) (rm8 l Z a0 hw [] (own_cmp tb nb cb ta na ca) T10.heap n0 z11 ) hZ (hw _ (List.mem_of_getElem? (i := 41) rfl)) (hw _ (List.mem_of_getElem? (i := 28) rfl)) (by decide) (by decide)) (g := (mkF m 116 #[.val (.long q1), .second, .val (.long q2), .second, .val (.int p1), .val (.int p2), .val (.int p3), .val (.int p4), .val (.long ta), .second, .val (.long tb), .second, .val (.int na), .val (.int nb), .val (.int ca), .val (.int cb), .val (.ref b3), .val (.ref b7), .val (.int (own_ref ta na ca tb nb cb)), .val (.int (own_sign (own_cmp ta na ca tb nb cb))), .unset, .unset] [(.int (own_cmp tb nb cb ta na ca))])) rfl (by rw [hml]; rfl) (argsL := [(.int (own_cmp tb nb cb ta na ca))]) (rest := []) (lenOf pd_6 rfl) rfl (by show 2 * 0 + _ ≤ _; exact Nat.le_of_eq rfl) (hb hby at_116) (fun _ _ => ⟨rfl, e19, (by decide : 2 + 0 ≤ _), (by decide : 6 + 0 ≤ _)⟩)
  dsimp only [Pt.U, Pt.locs, Pt.cells, Pt.slots] at X21 l21 y21 z21 st21 hQ21
  subst l21 y21 z21
  obtain ⟨rfl, N21q, e21⟩ := hQ21
  have N21 := Fr.app N19 N21q
  refine OGo.to st21 ?_
  show OGo p e below _ (T21.setTop (mkF m 119 #[.val (.long q1), .second, .val (.long q2), .second, .val (.int p1), .val (.int p2), .val (.int p3), .val (.int p4), .val (.long ta), .second, .val (.long tb), .second, .val (.int na), .val (.int nb), .val (.int ca), .val (.int cb), .val (.ref b3), .val (.ref b7), .val (.int (own_ref ta na ca tb nb cb)), .val (.int (own_sign (own_cmp ta na ca tb nb cb))), .unset, .unset] [(.int (own_sign (own_cmp tb nb cb ta na ca)))]))
  refine OGo.to (fun _ k => XS.istore X21.here hx rfl (hb hby at_119) rfl (l' := #[.val (.long q1), .second, .val (.long q2), .second, .val (.int p1), .val (.int p2), .val (.int p3), .val (.int p4), .val (.long ta), .second, .val (.long tb), .second, .val (.int na), .val (.int nb), .val (.int ca), .val (.int cb), .val (.ref b3), .val (.ref b7), .val (.int (own_ref ta na ca tb nb cb)), .val (.int (own_sign (own_cmp ta na ca tb nb cb))), .val (.int (own_sign (own_cmp tb nb cb ta na ca))), .unset]) rfl k) ?_
  show OGo p e below _ (T21.setTop (mkF m 121 #[.val (.long q1), .second, .val (.long q2), .second, .val (.int p1), .val (.int p2), .val (.int p3), .val (.int p4), .val (.long ta), .second, .val (.long tb), .second, .val (.int na), .val (.int nb), .val (.int ca), .val (.int cb), .val (.ref b3), .val (.ref b7), .val (.int (own_ref ta na ca tb nb cb)), .val (.int (own_sign (own_cmp ta na ca tb nb cb))), .val (.int (own_sign (own_cmp tb nb cb ta na ca))), .unset] []))
  refine OGo.to (fun _ k => XS.aload X21.here hx rfl (hb hby at_121) rfl rfl k) ?_
  show OGo p e below _ (T21.setTop (mkF m 123 #[.val (.long q1), .second, .val (.long q2), .second, .val (.int p1), .val (.int p2), .val (.int p3), .val (.int p4), .val (.long ta), .second, .val (.long tb), .second, .val (.int na), .val (.int nb), .val (.int ca), .val (.int cb), .val (.ref b3), .val (.ref b7), .val (.int (own_ref ta na ca tb nb cb)), .val (.int (own_sign (own_cmp ta na ca tb nb cb))), .val (.int (own_sign (own_cmp tb nb cb ta na ca))), .unset] [(.ref b3)]))
  refine OGo.to (fun _ k => XS.aload X21.here hx rfl (hb hby at_123) rfl rfl k) ?_
  show OGo p e below _ (T21.setTop (mkF m 125 #[.val (.long q1), .second, .val (.long q2), .second, .val (.int p1), .val (.int p2), .val (.int p3), .val (.int p4), .val (.long ta), .second, .val (.long tb), .second, .val (.int na), .val (.int nb), .val (.int ca), .val (.int cb), .val (.ref b3), .val (.ref b7), .val (.int (own_ref ta na ca tb nb cb)), .val (.int (own_sign (own_cmp ta na ca tb nb cb))), .val (.int (own_sign (own_cmp tb nb cb ta na ca))), .unset] [(.ref b3), (.ref b3)]))
  obtain ⟨cq22, kq22, q22a, q22b, q22c⟩ := isOf hZ e21 f17
  obtain ⟨_, _, ⟨T22, L22, k22, n22⟩, -, X22, ⟨Lc22, hQ22, l22, y22, z22⟩, st22⟩ := X21.virtualBack hx (y := (⟨"com/example/heartwood/heartwood/Revision", "compareTo", "(Lcom/example/heartwood/heartwood/Revision;)I"⟩ : MethodName)) (z := (⟨"com/example/heartwood/heartwood/Revision", "compareTo", "(Lcom/example/heartwood/heartwood/Revision;)I"⟩ : MethodName)) hown (mvT hZ (hw _ (List.mem_of_getElem? (i := 30) rfl))) (mvT hZ (hw _ (List.mem_of_getElem? (i := 31) rfl))) (notFace_of_selects (args := #[]) (mvT hZ (hw _ (List.mem_of_getElem? (i := 33) rfl)))) (mvT hZ (hw _ (List.mem_of_getElem? (i := 33) rfl))) (mvT hZ (hw _ (List.mem_of_getElem? (i := 32) rfl))) (by decide) (backOf (W := 0) (rm6 l Z a0 hw [] b3 b3 ta na ca ta na ca T10.heap n0 z11 f14 f15 f16 f14 f15 f16) hZ (hw _ (List.mem_of_getElem? (i := 34) rfl)) (hw _ (List.mem_of_getElem? (i := 8) rfl)) (by decide) (by decide)) q22a q22c (g := (mkF m 125 #[.val (.long q1), .second, .val (.long q2), .second, .val (.int p1), .val (.int p2), .val (.int p3), .val (.int p4), .val (.long ta), .second, .val (.long tb), .second, .val (.int na), .val (.int nb), .val (.int ca), .val (.int cb), .val (.ref b3), .val (.ref b7), .val (.int (own_ref ta na ca tb nb cb)), .val (.int (own_sign (own_cmp ta na ca tb nb cb))), .val (.int (own_sign (own_cmp tb nb cb ta na ca))), .unset] [(.ref b3), (.ref b3)])) rfl (by rw [hml]; rfl) (Steps.refl _) (argsL := [(.ref b3)]) (rest := []) (lenOf pd_5 rfl) rfl (by show 2 * 0 + _ ≤ _; exact Nat.le_of_eq rfl) (hb hby at_125) (fun _ _ => ⟨rfl, e21, (by decide : 2 + 0 ≤ _), (by decide : 6 + 0 ≤ _)⟩)
  dsimp only [Pt.U, Pt.locs, Pt.cells, Pt.slots] at X22 l22 y22 z22 st22 hQ22
  subst l22 y22 z22
  obtain ⟨rfl, N22q, e22⟩ := hQ22
  have N22 := Fr.app N21 N22q
  refine OGo.to (fun _ k => st22.trans k) ?_
  show OGo p e below _ (T22.setTop (mkF m 128 #[.val (.long q1), .second, .val (.long q2), .second, .val (.int p1), .val (.int p2), .val (.int p3), .val (.int p4), .val (.long ta), .second, .val (.long tb), .second, .val (.int na), .val (.int nb), .val (.int ca), .val (.int cb), .val (.ref b3), .val (.ref b7), .val (.int (own_ref ta na ca tb nb cb)), .val (.int (own_sign (own_cmp ta na ca tb nb cb))), .val (.int (own_sign (own_cmp tb nb cb ta na ca))), .unset] [(.int (own_cmp ta na ca ta na ca))]))
  refine OGo.to (fun _ k => XS.istore X22.here hx rfl (hb hby at_128) rfl (l' := #[.val (.long q1), .second, .val (.long q2), .second, .val (.int p1), .val (.int p2), .val (.int p3), .val (.int p4), .val (.long ta), .second, .val (.long tb), .second, .val (.int na), .val (.int nb), .val (.int ca), .val (.int cb), .val (.ref b3), .val (.ref b7), .val (.int (own_ref ta na ca tb nb cb)), .val (.int (own_sign (own_cmp ta na ca tb nb cb))), .val (.int (own_sign (own_cmp tb nb cb ta na ca))), .val (.int (own_cmp ta na ca ta na ca))]) rfl k) ?_
  show OGo p e below _ (T22.setTop (mkF m 130 #[.val (.long q1), .second, .val (.long q2), .second, .val (.int p1), .val (.int p2), .val (.int p3), .val (.int p4), .val (.long ta), .second, .val (.long tb), .second, .val (.int na), .val (.int nb), .val (.int ca), .val (.int cb), .val (.ref b3), .val (.ref b7), .val (.int (own_ref ta na ca tb nb cb)), .val (.int (own_sign (own_cmp ta na ca tb nb cb))), .val (.int (own_sign (own_cmp tb nb cb ta na ca))), .val (.int (own_cmp ta na ca ta na ca))] []))
  refine OGo.to (fun _ k => XS.iload X22.here hx rfl (hb hby at_130) rfl k) ?_
  show OGo p e below _ (T22.setTop (mkF m 132 #[.val (.long q1), .second, .val (.long q2), .second, .val (.int p1), .val (.int p2), .val (.int p3), .val (.int p4), .val (.long ta), .second, .val (.long tb), .second, .val (.int na), .val (.int nb), .val (.int ca), .val (.int cb), .val (.ref b3), .val (.ref b7), .val (.int (own_ref ta na ca tb nb cb)), .val (.int (own_sign (own_cmp ta na ca tb nb cb))), .val (.int (own_sign (own_cmp tb nb cb ta na ca))), .val (.int (own_cmp ta na ca ta na ca))] [(.int (own_sign (own_cmp ta na ca tb nb cb)))]))
  refine OGo.to (fun _ k => XS.iload X22.here hx rfl (hb hby at_132) rfl k) ?_
  show OGo p e below _ (T22.setTop (mkF m 134 #[.val (.long q1), .second, .val (.long q2), .second, .val (.int p1), .val (.int p2), .val (.int p3), .val (.int p4), .val (.long ta), .second, .val (.long tb), .second, .val (.int na), .val (.int nb), .val (.int ca), .val (.int cb), .val (.ref b3), .val (.ref b7), .val (.int (own_ref ta na ca tb nb cb)), .val (.int (own_sign (own_cmp ta na ca tb nb cb))), .val (.int (own_sign (own_cmp tb nb cb ta na ca))), .val (.int (own_cmp ta na ca ta na ca))] [(.int (own_ref ta na ca tb nb cb)), (.int (own_sign (own_cmp ta na ca tb nb cb)))]))
  have hc134_23 : (own_sign (own_cmp ta na ca tb nb cb)) = (own_ref ta na ca tb nb cb) := own_L1 ta na ca tb nb cb
  refine OGo.to (fun _ k => XS.icmpNo X22.here hx rfl (hb hby at_134) rfl (teq hc134_23).2 k) ?_
  show OGo p e below _ (T22.setTop (mkF m 137 #[.val (.long q1), .second, .val (.long q2), .second, .val (.int p1), .val (.int p2), .val (.int p3), .val (.int p4), .val (.long ta), .second, .val (.long tb), .second, .val (.int na), .val (.int nb), .val (.int ca), .val (.int cb), .val (.ref b3), .val (.ref b7), .val (.int (own_ref ta na ca tb nb cb)), .val (.int (own_sign (own_cmp ta na ca tb nb cb))), .val (.int (own_sign (own_cmp tb nb cb ta na ca))), .val (.int (own_cmp ta na ca ta na ca))] []))
  refine OGo.to (fun _ k => XS.iload X22.here hx rfl (hb hby at_137) rfl k) ?_
  show OGo p e below _ (T22.setTop (mkF m 139 #[.val (.long q1), .second, .val (.long q2), .second, .val (.int p1), .val (.int p2), .val (.int p3), .val (.int p4), .val (.long ta), .second, .val (.long tb), .second, .val (.int na), .val (.int nb), .val (.int ca), .val (.int cb), .val (.ref b3), .val (.ref b7), .val (.int (own_ref ta na ca tb nb cb)), .val (.int (own_sign (own_cmp ta na ca tb nb cb))), .val (.int (own_sign (own_cmp tb nb cb ta na ca))), .val (.int (own_cmp ta na ca ta na ca))] [(.int (own_sign (own_cmp tb nb cb ta na ca)))]))
  refine OGo.to (fun _ k => XS.iload X22.here hx rfl (hb hby at_139) rfl k) ?_
  show OGo p e below _ (T22.setTop (mkF m 141 #[.val (.long q1), .second, .val (.long q2), .second, .val (.int p1), .val (.int p2), .val (.int p3), .val (.int p4), .val (.long ta), .second, .val (.long tb), .second, .val (.int na), .val (.int nb), .val (.int ca), .val (.int cb), .val (.ref b3), .val (.ref b7), .val (.int (own_ref ta na ca tb nb cb)), .val (.int (own_sign (own_cmp ta na ca tb nb cb))), .val (.int (own_sign (own_cmp tb nb cb ta na ca))), .val (.int (own_cmp ta na ca ta na ca))] [(.int (own_ref ta na ca tb nb cb)), (.int (own_sign (own_cmp tb nb cb ta na ca)))]))
  refine OGo.to (fun _ k => XS.ineg X22.here hx rfl (hb hby at_141) rfl k) ?_
  show OGo p e below _ (T22.setTop (mkF m 142 #[.val (.long q1), .second, .val (.long q2), .second, .val (.int p1), .val (.int p2), .val (.int p3), .val (.int p4), .val (.long ta), .second, .val (.long tb), .second, .val (.int na), .val (.int nb), .val (.int ca), .val (.int cb), .val (.ref b3), .val (.ref b7), .val (.int (own_ref ta na ca tb nb cb)), .val (.int (own_sign (own_cmp ta na ca tb nb cb))), .val (.int (own_sign (own_cmp tb nb cb ta na ca))), .val (.int (own_cmp ta na ca ta na ca))] [(.int ((-(own_ref ta na ca tb nb cb)))), (.int (own_sign (own_cmp tb nb cb ta na ca)))]))
  have hc142_24 : (own_sign (own_cmp tb nb cb ta na ca)) = ((-(own_ref ta na ca tb nb cb))) := own_L2 ta na ca tb nb cb
  refine OGo.to (fun _ k => XS.icmpNo X22.here hx rfl (hb hby at_142) rfl (teq hc142_24).2 k) ?_
  show OGo p e below _ (T22.setTop (mkF m 145 #[.val (.long q1), .second, .val (.long q2), .second, .val (.int p1), .val (.int p2), .val (.int p3), .val (.int p4), .val (.long ta), .second, .val (.long tb), .second, .val (.int na), .val (.int nb), .val (.int ca), .val (.int cb), .val (.ref b3), .val (.ref b7), .val (.int (own_ref ta na ca tb nb cb)), .val (.int (own_sign (own_cmp ta na ca tb nb cb))), .val (.int (own_sign (own_cmp tb nb cb ta na ca))), .val (.int (own_cmp ta na ca ta na ca))] []))
  refine OGo.to (fun _ k => XS.iload X22.here hx rfl (hb hby at_145) rfl k) ?_
  show OGo p e below _ (T22.setTop (mkF m 147 #[.val (.long q1), .second, .val (.long q2), .second, .val (.int p1), .val (.int p2), .val (.int p3), .val (.int p4), .val (.long ta), .second, .val (.long tb), .second, .val (.int na), .val (.int nb), .val (.int ca), .val (.int cb), .val (.ref b3), .val (.ref b7), .val (.int (own_ref ta na ca tb nb cb)), .val (.int (own_sign (own_cmp ta na ca tb nb cb))), .val (.int (own_sign (own_cmp tb nb cb ta na ca))), .val (.int (own_cmp ta na ca ta na ca))] [(.int (own_cmp ta na ca ta na ca))]))
  have hc147_25 : (own_cmp ta na ca ta na ca) = (0 : Int32) := own_L3 ta na ca
  refine OGo.to (fun _ k => XS.ifNo X22.here hx rfl (hb hby at_147) rfl ((if0 _ _).trans (teq hc147_25).2) k) ?_
  show OGo p e below _ (T22.setTop (mkF m 150 #[.val (.long q1), .second, .val (.long q2), .second, .val (.int p1), .val (.int p2), .val (.int p3), .val (.int p4), .val (.long ta), .second, .val (.long tb), .second, .val (.int na), .val (.int nb), .val (.int ca), .val (.int cb), .val (.ref b3), .val (.ref b7), .val (.int (own_ref ta na ca tb nb cb)), .val (.int (own_sign (own_cmp ta na ca tb nb cb))), .val (.int (own_sign (own_cmp tb nb cb ta na ca))), .val (.int (own_cmp ta na ca ta na ca))] []))
  refine OGo.to (fun _ k => XS.iconst X22.here hx rfl (hb hby at_150) k) ?_
  show OGo p e below _ (T22.setTop (mkF m 151 #[.val (.long q1), .second, .val (.long q2), .second, .val (.int p1), .val (.int p2), .val (.int p3), .val (.int p4), .val (.long ta), .second, .val (.long tb), .second, .val (.int na), .val (.int nb), .val (.int ca), .val (.int cb), .val (.ref b3), .val (.ref b7), .val (.int (own_ref ta na ca tb nb cb)), .val (.int (own_sign (own_cmp ta na ca tb nb cb))), .val (.int (own_sign (own_cmp tb nb cb ta na ca))), .val (.int (own_cmp ta na ca ta na ca))] [(.int (1 : Int32))]))
  refine OGo.to (fun _ k => XS.goto X22.here hx rfl (pc0 := 151) (pc' := 155) rfl (hb hby at_151) (by decide) (by decide) k) ?_
  show OGo p e below _ (T22.setTop (mkF m 155 #[.val (.long q1), .second, .val (.long q2), .second, .val (.int p1), .val (.int p2), .val (.int p3), .val (.int p4), .val (.long ta), .second, .val (.long tb), .second, .val (.int na), .val (.int nb), .val (.int ca), .val (.int cb), .val (.ref b3), .val (.ref b7), .val (.int (own_ref ta na ca tb nb cb)), .val (.int (own_sign (own_cmp ta na ca tb nb cb))), .val (.int (own_sign (own_cmp tb nb cb ta na ca))), .val (.int (own_cmp ta na ca ta na ca))] [(.int (1 : Int32))]))
  refine OGo.ret (Q := Q0 Z q1 q2 p1 p2 p3 p4 h0 n0) X22 (some (.int (1 : Int32))) (fun h => by rw [Bd.returns] at h; cases h) Bd.notSynchronized (fun fs hr => retN X22 hx (t := .boolean) (z := (1 : Int32)) Bd.returns (by simp) (hb hby at_155) hr) ?_ (by decide) (by decide)
  show Q0 Z q1 q2 p1 p2 p3 p4 h0 n0 _ T22.heap _
  rw [e22]
  exact ⟨rfl, N22⟩
set_option maxRecDepth 65536 in
set_option maxHeartbeats 40000000 in
theorem comes_1 {Post : Tables → Env → Array Value → State → Outcome → State → Prop} (hpost : ∀ tb e args s v u, (limb_1_1.after args s (.returned v) u = true ∧ limb_1_2.after args s (.returned v) u = true ∧ True) → FrameEnd s (.returned v) u (Jvm.fieldLocs frame_1_writes args s ++ Jvm.arrayLocs frame_1_arrays args s ++ Jvm.staticLocs frame_1_statics s) 16 128 → Post tb e args s (.returned v) u) :
    ArmFor flags0 classFile x code maxLocals ret World_1 tables_1 room_1 Calls_1 rest_1 Pre_1 Post := by
  intro l hfl _ _ p e ha hc hk s m args below hf hA hF happ hP
  obtain ⟨hcalls, hrest, hpre⟩ := hP
  obtain ⟨-, -, -, hnamed, -, -, -, hat⟩ := (Spec.applies_iff hf).mp happ
  obtain ⟨hg, hn⟩ := and_e (Cond.before_iff.mp (show (Jvm.Cond.and given_1 narrow_1).before args s = true from hpre))
  obtain ⟨g1, g2⟩ := and_e hg
  obtain ⟨g3, g4⟩ := and_e g2
  obtain ⟨g5, g6⟩ := and_e g4
  obtain ⟨g7, g8⟩ := and_e g6
  obtain ⟨g9, g10⟩ := and_e g8
  obtain ⟨g11, g12⟩ := and_e g10
  obtain ⟨w0, w1, w2, w3, w4, w5, rfl⟩ : ∃ w0 w1 w2 w3 w4 w5 : Value, args = #[w0, w1, w2, w3, w4, w5] := by
    have hs : args.size = 6 := by simpa [Cond.value, given_1] using g1
    obtain ⟨L⟩ := args
    match L, hs with
    | [w0, w1, w2, w3, w4, w5], _ => exact ⟨w0, w1, w2, w3, w4, w5, rfl⟩
  have hw := fun d (hd : d ∈ tables_1) => atoms_spec (ws := Jvm.Cond.code x code maxLocals ret :: tables_1) hat d (List.mem_cons_of_mem _ hd)
  have hfit : Fit s := fun {y c} hc i hi => by
    obtain ⟨ha, rfl⟩ := Array.getElem?_eq_some_iff.mp hc
    have q := List.all_eq_true.mp ((Array.all_eq_true_iff_forall_mem.mp hF) _ (Array.getElem_mem ha)) i (List.mem_range.mpr hi)
    simpa [Array.getElem?_eq_getElem hi] using q
  obtain ⟨i0, ei0⟩ := isL_v g3
  obtain rfl : w0 = (.long i0) := Option.some.inj ei0
  obtain ⟨i1, ei1⟩ := isL_v g5
  obtain rfl : w1 = (.long i1) := Option.some.inj ei1
  obtain ⟨i2, ei2⟩ := is_v g7
  obtain rfl : w2 = (.int i2) := Option.some.inj ei2
  obtain ⟨i3, ei3⟩ := is_v g9
  obtain rfl : w3 = (.int i3) := Option.some.inj ei3
  obtain ⟨i4, ei4⟩ := is_v g11
  obtain rfl : w4 = (.int i4) := Option.some.inj ei4
  obtain ⟨i5, ei5⟩ := is_v g12
  obtain rfl : w5 = (.int i5) := Option.some.inj ei5
  obtain ⟨n, o, h1, h2, h3, _, L, rfl, ⟨rfl, N⟩, hq⟩ := rm0 l s _ hw tables_1 i0 i1 i2 i3 i4 i5 s.heap s.heap.size (Nat.le_refl _)  p e ha hc hk s m _ below hf ((Spec.applies_iff_loose hf).mp happ).1 ⟨rfl, State.Warmed39.refl s, rfl⟩ trivial
  refine ⟨n, _, h1, h2, h3, hpost _ _ _ _ _ _ ⟨Cond.after_iff.mpr rfl, Cond.after_iff.mpr (eq_i res_at (Term.int_eval (1)) rfl), trivial⟩ ⟨hq.1, hq.2.1, (hq.2.2.sift fun y hy => Or.inr (N y hy)).mono (by decide) (by decide)⟩⟩
theorem main_1_1 : Claimed_1_1 := comes_1 fun _ _ _ _ _ _ h hF => ⟨h.1, hF⟩
theorem main_1_2 : Claimed_1_2 := comes_1 fun _ _ _ _ _ _ h hF => ⟨h.2.1, hF⟩
end Jvm.Pilot.@@N@@
namespace Jvm.Pilot.@@N@@
open Jvm Jvm.ClassFile Sem Op Lib Jvm.Free Jvm.Stand Jvm.Pilot.@@N@@.Jvm.D
/-! MADE BY PROGRAM (witnessworld.py) out of the Statement's table words and the real class files: 17 classes; the members and pool entries that the words name. The judged class is class 1, her method 1. -/
namespace start1
open Jvm.ClassFile
def u (s : String) : CpInfo := .utf8 (stringToUtf16 s)
/-- a pool by its gaps: so many unusable entries, then the entry; so many at the end -/
def gap : Nat → List CpInfo → List CpInfo
  | 0, r => r
  | n + 1, r => .unusable :: gap n r
def poolList (es : List (Nat × CpInfo)) (last : Nat) : List CpInfo := es.foldr (fun e r => gap e.1 (e.2 :: r)) (gap last [])
def pool (es : List (Nat × CpInfo)) (last : Nat) : Array CpInfo := ⟨poolList es last⟩
def fileOf (pool : Array CpInfo) (this : Nat) (attrs : Array Attribute := #[]) (ms : Array MethodInfo := #[]) (fl : Nat := 33) (sup : Nat := 0) (ifs : Array Nat := #[]) (fds : Array FieldInfo := #[]) : ClassFile where
  minorVersion := 0
  majorVersion := 65
  constantPool := pool
  accessFlags := fl
  thisClass := this
  superClass := sup
  interfaces := ifs
  fields := fds
  methods := ms
  attributes := attrs
def plain (name : String) (sup : Option ClassId) : Class where
  name := name
  kind := .ordinary
  loader := none
  accessFlags := 33
  super := sup
  interfaces := #[]
  cf := none
  fields := #[]
  methods := #[]
  instanceTypes := #[]
  staticTypes := #[]
  resolved := #[]
  callSites := []
  init := .initialized
  statics := none
  mirror := none

def pool0 : Array CpInfo := pool [(5, u "<init>"), (0, u "()V"), (1, .class_ 10), (1, u "java/lang/Object")] 113

def k0c0 : Code := { maxStack := 0, maxLocals := 1, code := object_method_1_code, exceptionTable := #[], attributes := #[] }
def k0m0 : Method := { name := "<init>", desc := "()V", sig := { parameters := [], returnType := none }, accessFlags := 1, code := some k0c0 }
/-- java/lang/Object -/
def k0 : Class := { plain "java/lang/Object" none with
  accessFlags := 33
  interfaces := #[]
  cf := some (fileOf pool0 8 #[] #[{ accessFlags := 1, nameIndex := 5, descriptorIndex := 6, attributes := #[] }] 33 0 #[] #[])
  fields := #[]
  methods := #[k0m0]
  instanceTypes := #[]
  staticTypes := #[]
  resolved := Array.replicate 124 none
  statics := none }

def pool1 : Array CpInfo := pool [(2, .class_ 4), (1, u "java/lang/Object"), (0, u "<init>"), (0, u "()V"), (2, .long 9223372036854775807), (1, .integer 2147483647), (0, .methodref 13 14), (0, .class_ 15), (0, .nameAndType 16 17), (0, u "java/lang/Math"), (0, u "max"), (0, u "(II)I"), (0, .class_ 19), (0, u "com/example/heartwood/heartwood/Revision"), (0, .methodref 18 21), (0, .nameAndType 5 22), (0, u "(JII)V"), (0, .methodref 24 25), (0, .class_ 26), (0, .nameAndType 27 28), (0, u "com/example/heartwood/heartwood/RevisionCompareToPinLaw"), (0, u "reference"), (0, u "(JIIJII)I"), (0, .methodref 18 30), (0, .nameAndType 31 32), (0, u "compareTo"), (0, u "(Lcom/example/heartwood/heartwood/Revision;)I"), (0, .methodref 24 34), (0, .nameAndType 35 36), (0, u "sign"), (0, u "(I)I"), (2, u "law"), (0, u "(JJIIII)Z")] 3

def k1m0 : Method := { name := "<init>", desc := "()V", sig := { parameters := [], returnType := none }, accessFlags := 1, code := none }
def k1c1 : Code := { maxStack := 8, maxLocals := 22, code := code, exceptionTable := #[], attributes := #[] }
def k1m1 : Method := { name := "law", desc := "(JJIIII)Z", sig := { parameters := [.long, .long, .int, .int, .int, .int], returnType := some .boolean }, accessFlags := 9, code := some k1c1 }
def k1c2 : Code := { maxStack := 4, maxLocals := 8, code := method_3_code, exceptionTable := #[], attributes := #[] }
def k1m2 : Method := { name := "reference", desc := "(JIIJII)I", sig := { parameters := [.long, .int, .int, .long, .int, .int], returnType := some .int }, accessFlags := 10, code := some k1c2 }
def k1c3 : Code := { maxStack := 1, maxLocals := 1, code := method_4_code, exceptionTable := #[], attributes := #[] }
def k1m3 : Method := { name := "sign", desc := "(I)I", sig := { parameters := [.int], returnType := some .int }, accessFlags := 10, code := some k1c3 }
/-- com/example/heartwood/heartwood/RevisionCompareToPinLaw -/
def k1 : Class := { plain "com/example/heartwood/heartwood/RevisionCompareToPinLaw" (some 0) with
  accessFlags := 49
  interfaces := #[]
  cf := some (fileOf pool1 24 #[] #[{ accessFlags := 1, nameIndex := 5, descriptorIndex := 6, attributes := #[] }, { accessFlags := 9, nameIndex := 39, descriptorIndex := 40, attributes := #[] }, { accessFlags := 10, nameIndex := 27, descriptorIndex := 28, attributes := #[] }, { accessFlags := 10, nameIndex := 35, descriptorIndex := 36, attributes := #[] }] 49 2 #[] #[])
  fields := #[]
  methods := #[k1m0, k1m1, k1m2, k1m3]
  instanceTypes := #[]
  staticTypes := #[]
  resolved := Array.replicate 44 none
  statics := none }

def pool2 : Array CpInfo := pool [(1, .class_ 2), (0, u "java/lang/Math"), (1, .class_ 6), (1, u "java/lang/Object"), (0, u "<init>"), (0, u "()V"), (89, .class_ 100), (1, u "java/lang/Math$RandomNumberGeneratorHolder"), (71, u "negativeZeroFloatBits"), (0, u "J"), (2, u "negativeZeroDoubleBits"), (21, u "max"), (46, u "$assertionsDisabled"), (0, u "Z"), (88, u "(II)I"), (2, u "twoToTheDoubleScaleDown"), (0, u "D"), (4, u "twoToTheDoubleScaleUp"), (9, u "E"), (3, u "PI"), (2, u "TAU"), (2, u "DEGREES_TO_RADIANS"), (0, u "RADIANS_TO_DEGREES")] 94

def k2m0 : Method := { name := "<init>", desc := "()V", sig := { parameters := [], returnType := none }, accessFlags := 2, code := none }
def k2c1 : Code := { maxStack := 2, maxLocals := 2, code := jdk_29_method_65_code, exceptionTable := #[], attributes := #[] }
def k2m1 : Method := { name := "max", desc := "(II)I", sig := { parameters := [.int, .int], returnType := some .int }, accessFlags := 9, code := some k2c1 }
/-- java/lang/Math -/
def k2 : Class := { plain "java/lang/Math" (some 0) with
  accessFlags := 49
  interfaces := #[]
  cf := some (fileOf pool2 1 #[.nestMembers #[98]] #[{ accessFlags := 2, nameIndex := 7, descriptorIndex := 8, attributes := #[] }, { accessFlags := 9, nameIndex := 198, descriptorIndex := 335, attributes := #[] }] 49 4 #[] #[{ accessFlags := 25, nameIndex := 354, descriptorIndex := 339, attributes := #[] }, { accessFlags := 25, nameIndex := 358, descriptorIndex := 339, attributes := #[] }, { accessFlags := 25, nameIndex := 361, descriptorIndex := 339, attributes := #[] }, { accessFlags := 26, nameIndex := 364, descriptorIndex := 339, attributes := #[] }, { accessFlags := 26, nameIndex := 365, descriptorIndex := 339, attributes := #[] }, { accessFlags := 26, nameIndex := 172, descriptorIndex := 173, attributes := #[] }, { accessFlags := 26, nameIndex := 176, descriptorIndex := 173, attributes := #[] }, { accessFlags := 8, nameIndex := 344, descriptorIndex := 339, attributes := #[] }, { accessFlags := 8, nameIndex := 338, descriptorIndex := 339, attributes := #[] }, { accessFlags := 4120, nameIndex := 245, descriptorIndex := 246, attributes := #[] }])
  fields := #[{ name := "E", type := .double, accessFlags := 25, slot := 0, constantValue := 0 }, { name := "PI", type := .double, accessFlags := 25, slot := 1, constantValue := 0 }, { name := "TAU", type := .double, accessFlags := 25, slot := 2, constantValue := 0 }, { name := "DEGREES_TO_RADIANS", type := .double, accessFlags := 26, slot := 3, constantValue := 0 }, { name := "RADIANS_TO_DEGREES", type := .double, accessFlags := 26, slot := 4, constantValue := 0 }, { name := "negativeZeroFloatBits", type := .long, accessFlags := 26, slot := 5, constantValue := 0 }, { name := "negativeZeroDoubleBits", type := .long, accessFlags := 26, slot := 6, constantValue := 0 }, { name := "twoToTheDoubleScaleUp", type := .double, accessFlags := 8, slot := 7, constantValue := 0 }, { name := "twoToTheDoubleScaleDown", type := .double, accessFlags := 8, slot := 8, constantValue := 0 }, { name := "$assertionsDisabled", type := .boolean, accessFlags := 4120, slot := 9, constantValue := 0 }]
  methods := #[k2m0, k2m1]
  instanceTypes := #[]
  staticTypes := #[.double, .double, .double, .double, .double, .long, .long, .double, .double, .boolean]
  resolved := Array.replicate 460 none
  statics := none }

def pool3 : Array CpInfo := pool [(1, .methodref 2 3), (0, .class_ 4), (0, .nameAndType 5 6), (0, u "java/lang/Object"), (0, u "<init>"), (0, u "()V"), (0, .class_ 8), (0, u "java/lang/Record")] 13

def k3c0 : Code := { maxStack := 1, maxLocals := 1, code := jdk_30_method_1_code, exceptionTable := #[], attributes := #[] }
def k3m0 : Method := { name := "<init>", desc := "()V", sig := { parameters := [], returnType := none }, accessFlags := 4, code := some k3c0 }
/-- java/lang/Record -/
def k3 : Class := { plain "java/lang/Record" (some 0) with
  accessFlags := 1057
  interfaces := #[]
  cf := some (fileOf pool3 7 #[] #[{ accessFlags := 4, nameIndex := 5, descriptorIndex := 6, attributes := #[] }] 1057 2 #[] #[])
  fields := #[]
  methods := #[k3m0]
  instanceTypes := #[]
  staticTypes := #[]
  resolved := Array.replicate 22 none
  statics := none }

def pool4 : Array CpInfo := pool [(1, .class_ 2), (0, u "java/lang/Comparable"), (0, .class_ 4), (0, u "java/lang/Object")] 7

/-- java/lang/Comparable -/
def k4 : Class := { plain "java/lang/Comparable" (some 0) with
  accessFlags := 1537
  interfaces := #[]
  cf := some (fileOf pool4 1 #[] #[] 1537 3 #[] #[])
  fields := #[]
  methods := #[]
  instanceTypes := #[]
  staticTypes := #[]
  resolved := Array.replicate 12 none
  statics := none }

def pool5 : Array CpInfo := pool [(1, .methodref 2 3), (0, .class_ 4), (0, .nameAndType 5 6), (0, u "java/lang/Record"), (0, u "<init>"), (0, u "()V"), (9, .fieldref 17 18), (0, .class_ 19), (0, .nameAndType 20 21), (0, u "com/example/heartwood/heartwood/Revision"), (0, u "timestamp"), (0, u "J"), (0, .fieldref 17 23), (0, .nameAndType 24 25), (0, u "counter"), (0, u "I"), (0, .fieldref 17 27), (0, .nameAndType 28 25), (0, u "clusterId"), (30, .class_ 60), (0, u "java/lang/Long"), (6, .class_ 68), (0, u "java/lang/Integer"), (4, u "(JII)V"), (0, .methodref 59 75), (0, .nameAndType 76 77), (0, u "compare"), (0, u "(JJ)I"), (0, .methodref 67 79), (0, .nameAndType 76 80), (0, u "(II)I"), (6, u "compareTo"), (0, u "(Lcom/example/heartwood/heartwood/Revision;)I"), (26, .class_ 116), (0, u "java/lang/Comparable")] 40

def k5c0 : Code := { maxStack := 6, maxLocals := 5, code := prog_16_method_1_code, exceptionTable := #[], attributes := #[] }
def k5m0 : Method := { name := "<init>", desc := "(JII)V", sig := { parameters := [.long, .int, .int], returnType := none }, accessFlags := 1, code := some k5c0 }
def k5c1 : Code := { maxStack := 4, maxLocals := 2, code := prog_16_method_3_code, exceptionTable := #[], attributes := #[] }
def k5m1 : Method := { name := "compareTo", desc := "(Lcom/example/heartwood/heartwood/Revision;)I", sig := { parameters := [(.object "com/example/heartwood/heartwood/Revision")], returnType := some .int }, accessFlags := 1, code := some k5c1 }
/-- com/example/heartwood/heartwood/Revision -/
def k5 : Class := { plain "com/example/heartwood/heartwood/Revision" (some 3) with
  accessFlags := 49
  interfaces := #[4]
  cf := some (fileOf pool5 17 #[] #[{ accessFlags := 1, nameIndex := 5, descriptorIndex := 73, attributes := #[] }, { accessFlags := 1, nameIndex := 87, descriptorIndex := 88, attributes := #[] }] 49 2 #[115] #[{ accessFlags := 18, nameIndex := 20, descriptorIndex := 21, attributes := #[] }, { accessFlags := 18, nameIndex := 24, descriptorIndex := 25, attributes := #[] }, { accessFlags := 18, nameIndex := 28, descriptorIndex := 25, attributes := #[] }])
  fields := #[{ name := "timestamp", type := .long, accessFlags := 18, slot := 0, constantValue := 0 }, { name := "counter", type := .int, accessFlags := 18, slot := 1, constantValue := 0 }, { name := "clusterId", type := .int, accessFlags := 18, slot := 2, constantValue := 0 }]
  methods := #[k5m0, k5m1]
  instanceTypes := #[.long, .int, .int]
  staticTypes := #[]
  resolved := Array.replicate 157 none
  statics := none }

def pool6 : Array CpInfo := pool [(1, .class_ 2), (0, u "java/io/Serializable"), (0, .class_ 4), (0, u "java/lang/Object")] 2

/-- java/io/Serializable -/
def k6 : Class := { plain "java/io/Serializable" (some 0) with
  accessFlags := 1537
  interfaces := #[]
  cf := some (fileOf pool6 1 #[] #[] 1537 3 #[] #[])
  fields := #[]
  methods := #[]
  instanceTypes := #[]
  staticTypes := #[]
  resolved := Array.replicate 7 none
  statics := none }

def pool7 : Array CpInfo := pool [(2, .class_ 4), (1, u "java/lang/Object"), (0, u "<init>"), (0, u "()V"), (1, .class_ 10), (1, u "java/lang/Number"), (2, .class_ 14), (0, u "java/io/Serializable"), (0, u "serialVersionUID"), (0, u "J")] 20

def k7m0 : Method := { name := "<init>", desc := "()V", sig := { parameters := [], returnType := none }, accessFlags := 1, code := none }
/-- java/lang/Number -/
def k7 : Class := { plain "java/lang/Number" (some 0) with
  accessFlags := 1057
  interfaces := #[6]
  cf := some (fileOf pool7 8 #[] #[{ accessFlags := 1, nameIndex := 5, descriptorIndex := 6, attributes := #[] }] 1057 2 #[13] #[{ accessFlags := 26, nameIndex := 15, descriptorIndex := 16, attributes := #[] }])
  fields := #[{ name := "serialVersionUID", type := .long, accessFlags := 26, slot := 0, constantValue := 0 }]
  methods := #[k7m0]
  instanceTypes := #[]
  staticTypes := #[.long]
  resolved := Array.replicate 37 none
  statics := none }

def pool8 : Array CpInfo := pool [(1, .class_ 2), (0, u "java/lang/constant/Constable"), (0, .class_ 4), (0, u "java/lang/Object")] 6

/-- java/lang/constant/Constable -/
def k8 : Class := { plain "java/lang/constant/Constable" (some 0) with
  accessFlags := 1537
  interfaces := #[]
  cf := some (fileOf pool8 1 #[] #[] 1537 3 #[] #[])
  fields := #[]
  methods := #[]
  instanceTypes := #[]
  staticTypes := #[]
  resolved := Array.replicate 11 none
  statics := none }

def pool9 : Array CpInfo := pool [(1, .class_ 2), (0, u "java/lang/constant/ConstantDesc"), (0, .class_ 4), (0, u "java/lang/Object")] 32

/-- java/lang/constant/ConstantDesc -/
def k9 : Class := { plain "java/lang/constant/ConstantDesc" (some 0) with
  accessFlags := 1537
  interfaces := #[]
  cf := some (fileOf pool9 1 #[] #[] 1537 3 #[] #[])
  fields := #[]
  methods := #[]
  instanceTypes := #[]
  staticTypes := #[]
  resolved := Array.replicate 37 none
  statics := none }

def pool10 : Array CpInfo := pool [(1, .class_ 2), (0, u "java/lang/Long"), (232, .class_ 237), (1, u "java/lang/Long$LongCache"), (33, .class_ 272), (0, u "java/lang/Number"), (2, u "value"), (0, u "J"), (27, u "compare"), (0, u "(JJ)I"), (55, u "TYPE"), (0, u "Ljava/lang/Class;"), (0, .class_ 364), (0, u "java/lang/Comparable"), (0, .class_ 366), (0, u "java/lang/constant/Constable"), (0, .class_ 368), (0, u "java/lang/constant/ConstantDesc"), (0, u "MIN_VALUE"), (1, u "MAX_VALUE"), (4, u "SIZE"), (0, u "I"), (1, u "BYTES"), (1, u "serialVersionUID")] 142

def k10c0 : Code := { maxStack := 4, maxLocals := 4, code := jdk_35_method_42_code, exceptionTable := #[], attributes := #[] }
def k10m0 : Method := { name := "compare", desc := "(JJ)I", sig := { parameters := [.long, .long], returnType := some .int }, accessFlags := 9, code := some k10c0 }
/-- java/lang/Long -/
def k10 : Class := { plain "java/lang/Long" (some 7) with
  accessFlags := 49
  interfaces := #[4, 8, 9]
  cf := some (fileOf pool10 1 #[.nestMembers #[235]] #[{ accessFlags := 9, nameIndex := 304, descriptorIndex := 305, attributes := #[] }] 49 271 #[363, 365, 367] #[{ accessFlags := 25, nameIndex := 369, descriptorIndex := 276, attributes := #[] }, { accessFlags := 25, nameIndex := 371, descriptorIndex := 276, attributes := #[] }, { accessFlags := 25, nameIndex := 361, descriptorIndex := 362, attributes := #[] }, { accessFlags := 18, nameIndex := 275, descriptorIndex := 276, attributes := #[] }, { accessFlags := 25, nameIndex := 376, descriptorIndex := 377, attributes := #[] }, { accessFlags := 25, nameIndex := 379, descriptorIndex := 377, attributes := #[] }, { accessFlags := 26, nameIndex := 381, descriptorIndex := 276, attributes := #[] }])
  fields := #[{ name := "MIN_VALUE", type := .long, accessFlags := 25, slot := 0, constantValue := 0 }, { name := "MAX_VALUE", type := .long, accessFlags := 25, slot := 1, constantValue := 0 }, { name := "TYPE", type := (.object "java/lang/Class"), accessFlags := 25, slot := 2, constantValue := 0 }, { name := "value", type := .long, accessFlags := 18, slot := 0, constantValue := 0 }, { name := "SIZE", type := .int, accessFlags := 25, slot := 3, constantValue := 0 }, { name := "BYTES", type := .int, accessFlags := 25, slot := 4, constantValue := 0 }, { name := "serialVersionUID", type := .long, accessFlags := 26, slot := 5, constantValue := 0 }]
  methods := #[k10m0]
  instanceTypes := #[.long]
  staticTypes := #[.long, .long, (.object "java/lang/Class"), .int, .int, .long]
  resolved := Array.replicate 524 none
  statics := none }

def pool11 : Array CpInfo := pool [(1, .class_ 2), (0, u "java/lang/Integer"), (16, u "digits"), (0, u "[C"), (39, u "(II)I"), (24, u "DigitOnes"), (0, u "[B"), (2, u "DigitTens"), (99, .class_ 190), (0, u "java/lang/Integer$IntegerCache"), (3, u "I"), (8, .class_ 204), (0, u "java/lang/Number"), (2, u "value"), (53, u "compare"), (40, u "TYPE"), (0, u "Ljava/lang/Class;"), (0, .class_ 305), (0, u "java/lang/Comparable"), (0, .class_ 307), (0, u "java/lang/constant/Constable"), (0, .class_ 309), (0, u "java/lang/constant/ConstantDesc"), (0, u "MIN_VALUE"), (1, u "MAX_VALUE"), (3, u "SIZE"), (1, u "BYTES"), (1, u "serialVersionUID"), (0, u "J")] 131

def k11c0 : Code := { maxStack := 2, maxLocals := 2, code := jdk_33_method_40_code, exceptionTable := #[], attributes := #[] }
def k11m0 : Method := { name := "compare", desc := "(II)I", sig := { parameters := [.int, .int], returnType := some .int }, accessFlags := 9, code := some k11c0 }
/-- java/lang/Integer -/
def k11 : Class := { plain "java/lang/Integer" (some 7) with
  accessFlags := 49
  interfaces := #[4, 8, 9]
  cf := some (fileOf pool11 1 #[.nestMembers #[189]] #[{ accessFlags := 9, nameIndex := 261, descriptorIndex := 60, attributes := #[] }] 49 203 #[304, 306, 308] #[{ accessFlags := 25, nameIndex := 310, descriptorIndex := 194, attributes := #[] }, { accessFlags := 25, nameIndex := 312, descriptorIndex := 194, attributes := #[] }, { accessFlags := 25, nameIndex := 302, descriptorIndex := 303, attributes := #[] }, { accessFlags := 24, nameIndex := 19, descriptorIndex := 20, attributes := #[] }, { accessFlags := 24, nameIndex := 89, descriptorIndex := 86, attributes := #[] }, { accessFlags := 24, nameIndex := 85, descriptorIndex := 86, attributes := #[] }, { accessFlags := 18, nameIndex := 207, descriptorIndex := 194, attributes := #[] }, { accessFlags := 25, nameIndex := 316, descriptorIndex := 194, attributes := #[] }, { accessFlags := 25, nameIndex := 318, descriptorIndex := 194, attributes := #[] }, { accessFlags := 26, nameIndex := 320, descriptorIndex := 321, attributes := #[] }])
  fields := #[{ name := "MIN_VALUE", type := .int, accessFlags := 25, slot := 0, constantValue := 0 }, { name := "MAX_VALUE", type := .int, accessFlags := 25, slot := 1, constantValue := 0 }, { name := "TYPE", type := (.object "java/lang/Class"), accessFlags := 25, slot := 2, constantValue := 0 }, { name := "digits", type := (.array .char), accessFlags := 24, slot := 3, constantValue := 0 }, { name := "DigitTens", type := (.array .byte), accessFlags := 24, slot := 4, constantValue := 0 }, { name := "DigitOnes", type := (.array .byte), accessFlags := 24, slot := 5, constantValue := 0 }, { name := "value", type := .int, accessFlags := 18, slot := 0, constantValue := 0 }, { name := "SIZE", type := .int, accessFlags := 25, slot := 6, constantValue := 0 }, { name := "BYTES", type := .int, accessFlags := 25, slot := 7, constantValue := 0 }, { name := "serialVersionUID", type := .long, accessFlags := 26, slot := 8, constantValue := 0 }]
  methods := #[k11m0]
  instanceTypes := #[.int]
  staticTypes := #[.int, .int, (.object "java/lang/Class"), (.array .char), (.array .byte), (.array .byte), .int, .int, .long]
  resolved := Array.replicate 453 none
  statics := none }

def pool12 : Array CpInfo := pool [(1, u "java/lang/Cloneable"), (0, .class_ 1), (0, u "java/lang/Object"), (0, .class_ 3)] 3

/-- java/lang/Cloneable -/
def k12 : Class := { plain "java/lang/Cloneable" (some 0) with
  accessFlags := 1537
  interfaces := #[]
  cf := some (fileOf pool12 2 #[] #[] 1537 4 #[] #[])
  fields := #[]
  methods := #[]
  instanceTypes := #[]
  staticTypes := #[]
  resolved := Array.replicate 8 none
  statics := none }

/-- the primitive byte -/
def k13 : Class := { plain "byte" none with kind := .primitive 'B', accessFlags := 0x411 }
/-- [B -/
def k14 : Class := { plain "[B" (some 0) with kind := .array 13 .byte, interfaces := #[12, 6], accessFlags := 1041 }

/-- the primitive int -/
def k15 : Class := { plain "int" none with kind := .primitive 'I', accessFlags := 0x411 }
/-- [I -/
def k16 : Class := { plain "[I" (some 0) with kind := .array 15 .int, interfaces := #[12, 6], accessFlags := 1041 }

def heap : Heap := #[]
def classes : Array Class := #[k0, k1, k2, k3, k4, k5, k6, k7, k8, k9, k10, k11, k12, k13, k14, k15, k16]
def interned : List (Array UInt16 × Addr) := []
def slotsUsed : Nat := 0
def theMethod : MethodId := ⟨1, 1⟩
def args0 : Array Value := #[.long 5, .long 7, .int 9, .int 3, .int 2, .int 4]
def aboutOver (below : List Frame) : State where
  vm := { classes := classes, interned := interned.toArray }
  heap := heap
  slotsUsed := slotsUsed
  threads := #[{ frames := .invoking theMethod args0 :: below }]
def below0 : List Frame := [.native { method := ⟨0, 0⟩, args := #[] }]
def about1 : State := aboutOver below0
def p0 : Program := .bare "" "" ""
def e0 : Env := launch0.env 0 0 0
theorem w_frames : about1.frames = Frame.invoking theMethod args0 :: below0 := rfl
set_option maxRecDepth 65536 in
theorem w_args : argsFit about1.vm theMethod args0 = true := by decide +kernel
set_option maxRecDepth 65536 in
theorem w_heap : heapFits about1 = true := by decide +kernel
set_option maxRecDepth 65536 in
theorem w_runnable : about1.curStatus? = some .runnable := by decide +kernel
set_option maxRecDepth 65536 in
theorem w_alone : about1.alone = true := by decide +kernel
set_option maxRecDepth 65536 in
theorem w_named : about1.methodNamed? x = some theMethod := by decide +kernel
set_option maxRecDepth 65536 in
theorem w_hears : about1.hears theMethod below0 = true := by decide +kernel
set_option maxRecDepth 65536 in
theorem w_ripe : about1.ripe theMethod args0 below0 = true := by decide +kernel
theorem w_running : about1.status = .running := rfl
set_option maxRecDepth 65536 in
theorem w_room : about1.hasRoom e0.platform room_1 = true :=
  launch0.hasRoom_least _ room_1 (by decide +kernel) (by decide +kernel) (by decide +kernel) (by decide +kernel) (by decide +kernel) (by decide +kernel)
theorem allAtoms_all (ts : List Jvm.Cond) (a : Array Jvm.Value) (st : Jvm.State) : (allAtoms ts).before a st = ts.all (fun c => c.before a st) := by
  induction ts with
  | nil => rfl
  | cons c t ih =>
    show (Jvm.Cond.and c (allAtoms t)).before a st = _
    rw [Jvm.Cond.before_and, ih, List.all_cons]
def words1 : List Jvm.Cond := Jvm.Cond.code x code maxLocals ret :: tables_1
/-- a 'code' word, met by the world's own term for the bytes: nothing is compared byte by byte -/
theorem code_word {y : MethodName} {bytes : ByteArray} {mx : Nat} {rt : Option FieldType} {a : Array Value} {s : State} {m : MethodId} {meth : Method} {c : Code} (h1 : s.methodNamed? y = some m) (h2 : s.vm.method? m = some meth) (h3 : meth.code = some c) (h4 : c.code = bytes)
    (h5 : (c.maxLocals == mx && c.exceptionTable.isEmpty && decide (c.maxStack ≤ mostOperands) && decide (meth.sig.returnType = rt) && !meth.locks && decide (parseMethodDescriptor y.desc = some meth.sig)) = true) : (Jvm.Cond.code y bytes mx rt).before a s = true := by
  simp only [Bool.and_eq_true, beq_iff_eq, Bool.not_eq_true', decide_eq_true_eq] at h5
  obtain ⟨⟨⟨⟨⟨g1, g2⟩, g3⟩, g4⟩, g5⟩, g6⟩ := h5
  simp [Cond.before, Cond.holds, Cond.value, h1, h2, h3, h4, g1, g2, g3, g4, g5, g6]
def isCode : Jvm.Cond → Bool
  | .code _ _ _ _ => true
  | _ => false
theorem all_split {L : List Jvm.Cond} {P : Jvm.Cond → Bool} (h1 : L.all (fun c => isCode c || P c) = true) (h2 : ∀ c ∈ L.filter isCode, P c = true) : L.all P = true := by
  refine List.all_eq_true.mpr fun c hc => ?_
  have h := List.all_eq_true.mp h1 c hc
  rcases Bool.eq_false_or_eq_true (isCode c) with hi | hi
  · exact h2 c (List.mem_filter.mpr ⟨hc, hi⟩)
  · simpa [hi] using h
set_option maxRecDepth 65536 in
theorem w_c0 : (Jvm.Cond.code x code maxLocals ret).before args0 about1 = true := code_word (m := ⟨1, 1⟩) (meth := k1m1) (c := k1c1) (by decide +kernel) rfl rfl rfl (by decide +kernel)
set_option maxRecDepth 65536 in
theorem w_c1 : (Jvm.Cond.code ({ cls := "java/lang/Math", name := "max", desc := "(II)I" } : Jvm.MethodName) jdk_29_method_65_code (2 : Nat) (Option.some Jvm.ClassFile.FieldType.int)).before args0 about1 = true := code_word (m := ⟨2, 1⟩) (meth := k2m1) (c := k2c1) (by decide +kernel) rfl rfl rfl (by decide +kernel)
set_option maxRecDepth 65536 in
theorem w_c2 : (Jvm.Cond.code ({ cls := "com/example/heartwood/heartwood/Revision", name := "<init>", desc := "(JII)V" } : Jvm.MethodName) prog_16_method_1_code (5 : Nat) (Option.none : Option Jvm.ClassFile.FieldType)).before args0 about1 = true := code_word (m := ⟨5, 0⟩) (meth := k5m0) (c := k5c0) (by decide +kernel) rfl rfl rfl (by decide +kernel)
set_option maxRecDepth 65536 in
theorem w_c3 : (Jvm.Cond.code ({ cls := "java/lang/Record", name := "<init>", desc := "()V" } : Jvm.MethodName) jdk_30_method_1_code (1 : Nat) (Option.none : Option Jvm.ClassFile.FieldType)).before args0 about1 = true := code_word (m := ⟨3, 0⟩) (meth := k3m0) (c := k3c0) (by decide +kernel) rfl rfl rfl (by decide +kernel)
set_option maxRecDepth 65536 in
theorem w_c4 : (Jvm.Cond.code ({ cls := "java/lang/Object", name := "<init>", desc := "()V" } : Jvm.MethodName) object_method_1_code (1 : Nat) (Option.none : Option Jvm.ClassFile.FieldType)).before args0 about1 = true := code_word (m := ⟨0, 0⟩) (meth := k0m0) (c := k0c0) (by decide +kernel) rfl rfl rfl (by decide +kernel)
set_option maxRecDepth 65536 in
theorem w_c5 : (Jvm.Cond.code ({ cls := "com/example/heartwood/heartwood/RevisionCompareToPinLaw", name := "reference", desc := "(JIIJII)I" } : Jvm.MethodName) method_3_code (8 : Nat) (Option.some Jvm.ClassFile.FieldType.int)).before args0 about1 = true := code_word (m := ⟨1, 2⟩) (meth := k1m2) (c := k1c2) (by decide +kernel) rfl rfl rfl (by decide +kernel)
set_option maxRecDepth 65536 in
theorem w_c6 : (Jvm.Cond.code ({ cls := "com/example/heartwood/heartwood/Revision", name := "compareTo", desc := "(Lcom/example/heartwood/heartwood/Revision;)I" } : Jvm.MethodName) prog_16_method_3_code (2 : Nat) (Option.some Jvm.ClassFile.FieldType.int)).before args0 about1 = true := code_word (m := ⟨5, 1⟩) (meth := k5m1) (c := k5c1) (by decide +kernel) rfl rfl rfl (by decide +kernel)
set_option maxRecDepth 65536 in
theorem w_c7 : (Jvm.Cond.code ({ cls := "java/lang/Long", name := "compare", desc := "(JJ)I" } : Jvm.MethodName) jdk_35_method_42_code (4 : Nat) (Option.some Jvm.ClassFile.FieldType.int)).before args0 about1 = true := code_word (m := ⟨10, 0⟩) (meth := k10m0) (c := k10c0) (by decide +kernel) rfl rfl rfl (by decide +kernel)
set_option maxRecDepth 65536 in
theorem w_c8 : (Jvm.Cond.code ({ cls := "com/example/heartwood/heartwood/RevisionCompareToPinLaw", name := "sign", desc := "(I)I" } : Jvm.MethodName) method_4_code (1 : Nat) (Option.some Jvm.ClassFile.FieldType.int)).before args0 about1 = true := code_word (m := ⟨1, 3⟩) (meth := k1m3) (c := k1c3) (by decide +kernel) rfl rfl rfl (by decide +kernel)
set_option maxRecDepth 65536 in
theorem w_c9 : (Jvm.Cond.code ({ cls := "java/lang/Integer", name := "compare", desc := "(II)I" } : Jvm.MethodName) jdk_33_method_40_code (2 : Nat) (Option.some Jvm.ClassFile.FieldType.int)).before args0 about1 = true := code_word (m := ⟨11, 0⟩) (meth := k11m0) (c := k11c0) (by decide +kernel) rfl rfl rfl (by decide +kernel)
def codes1 : List Jvm.Cond := [Jvm.Cond.code x code maxLocals ret, Jvm.Cond.code ({ cls := "java/lang/Math", name := "max", desc := "(II)I" } : Jvm.MethodName) jdk_29_method_65_code (2 : Nat) (Option.some Jvm.ClassFile.FieldType.int), Jvm.Cond.code ({ cls := "com/example/heartwood/heartwood/Revision", name := "<init>", desc := "(JII)V" } : Jvm.MethodName) prog_16_method_1_code (5 : Nat) (Option.none : Option Jvm.ClassFile.FieldType), Jvm.Cond.code ({ cls := "java/lang/Record", name := "<init>", desc := "()V" } : Jvm.MethodName) jdk_30_method_1_code (1 : Nat) (Option.none : Option Jvm.ClassFile.FieldType), Jvm.Cond.code ({ cls := "java/lang/Object", name := "<init>", desc := "()V" } : Jvm.MethodName) object_method_1_code (1 : Nat) (Option.none : Option Jvm.ClassFile.FieldType), Jvm.Cond.code ({ cls := "com/example/heartwood/heartwood/RevisionCompareToPinLaw", name := "reference", desc := "(JIIJII)I" } : Jvm.MethodName) method_3_code (8 : Nat) (Option.some Jvm.ClassFile.FieldType.int), Jvm.Cond.code ({ cls := "com/example/heartwood/heartwood/Revision", name := "compareTo", desc := "(Lcom/example/heartwood/heartwood/Revision;)I" } : Jvm.MethodName) prog_16_method_3_code (2 : Nat) (Option.some Jvm.ClassFile.FieldType.int), Jvm.Cond.code ({ cls := "java/lang/Long", name := "compare", desc := "(JJ)I" } : Jvm.MethodName) jdk_35_method_42_code (4 : Nat) (Option.some Jvm.ClassFile.FieldType.int), Jvm.Cond.code ({ cls := "com/example/heartwood/heartwood/RevisionCompareToPinLaw", name := "sign", desc := "(I)I" } : Jvm.MethodName) method_4_code (1 : Nat) (Option.some Jvm.ClassFile.FieldType.int), Jvm.Cond.code ({ cls := "java/lang/Integer", name := "compare", desc := "(II)I" } : Jvm.MethodName) jdk_33_method_40_code (2 : Nat) (Option.some Jvm.ClassFile.FieldType.int)]
set_option maxRecDepth 65536 in
theorem codes_eq : words1.filter isCode = codes1 := rfl
theorem w_codes : ∀ c ∈ words1.filter isCode, c.before args0 about1 = true := by
  rw [codes_eq]
  intro c hc
  simp only [codes1, List.mem_cons, List.not_mem_nil, or_false] at hc
  rcases hc with rfl | rfl | rfl | rfl | rfl | rfl | rfl | rfl | rfl | rfl
  · exact w_c0
  · exact w_c1
  · exact w_c2
  · exact w_c3
  · exact w_c4
  · exact w_c5
  · exact w_c6
  · exact w_c7
  · exact w_c8
  · exact w_c9
set_option maxRecDepth 65536 in
theorem w_t1 : (words1.take 24).all (fun c => isCode c || c.before args0 about1) = true := by decide +kernel
set_option maxRecDepth 65536 in
theorem w_t2 : (words1.drop 24).all (fun c => isCode c || c.before args0 about1) = true := by decide +kernel
theorem w_tables : (allAtoms (Jvm.Cond.code x code maxLocals ret :: tables_1)).before args0 about1 = true := by
  rw [allAtoms_all]
  show words1.all (fun c => c.before args0 about1) = true
  refine all_split ?_ w_codes
  rw [← List.take_append_drop 24 words1, List.all_append, w_t1, w_t2]
  rfl
set_option maxRecDepth 65536 in
theorem w_case : (Jvm.Cond.and given_1 narrow_1).before args0 about1 = true := by decide +kernel
theorem w_applies : (headSpec (Jvm.Cond.code x code maxLocals ret :: tables_1) room_1).applies x e0.platform about1 = true :=
  (Spec.applies_iff w_frames).mpr ⟨w_running, w_runnable, w_alone, w_named, w_hears, w_ripe, w_room, w_tables⟩
theorem atStart : AtStart classFile x code maxLocals ret World_1 tables_1 room_1 Calls_1 rest_1 Pre_1 launch0 p0 e0 about1 theMethod args0 below0 :=
  ⟨lists_1, trivial, launch0.admits_env _ _ _, launch0.least_env, fairChoices_fair.cas, fairChoices_fair.clock, w_frames, w_args, w_heap, w_applies, trivial, trivial, w_case⟩
end start1
theorem witness_1 : WitnessClaimed_1 := ⟨start1.p0, start1.e0, start1.about1, start1.theMethod, start1.args0, start1.below0, start1.atStart⟩
end Jvm.Pilot.@@N@@
