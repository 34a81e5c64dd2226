import JvmDerived
import JvmDerived.Pilot.@@N@@Statement
import JvmDerived.Pilot.@@N@@Code
set_option linter.unusedVariables false
set_option linter.unusedSimpArgs false
namespace Jvm.RoadKit
open Sem ClassFile Op Lib Jvm.Stand Jvm.Free Jvm.LawKit
section New
variable {p : Program} {l : Launch} {e : Env} {R : Room} {s : State} {m : MethodId} {args : Array Value} {below : List Frame} {meth : Method} {c : Code} {T : State} {locs : List Loc} {cells slots : Nat}
theorem retI (X : Stand p l e R s m args below meth c T locs cells slots) (hx : p.tables.exec = Jvm.exec) {pc : Nat} {Ls : Array Slot} {z : Int32} {rest : List Value} (hret : meth.sig.returnType = some .int) (hd : decode c.code pc = .ok (.ireturn, 1)) {fs : List Frame}
    (hl : ∀ (f : JFrame) (acts : List Action), f.method = m → f.locked = none → f.entered = [] → (doReturn e (T.setTop f) acts (some (.int z))).1 = T.setFrames fs) : Steps p.tables e below (T.setTop (mkF m pc Ls (.int z :: rest))) (T.setFrames fs) := by
  have hm' : T.vm.method? m = some meth := X.method'
  have hn : narrow .int (.int z) = .int z := rfl
  show Steps p.tables e below (T.setTop { method := m, pc := pc, locals := Ls, stack := _ :: rest, locked := none }) _
  jvm_step X.here [X.here.top, hx, hd, hm', hret, hn]
  first | (intro acts; rw [hl _ acts rfl rfl rfl]) | rw [hl _ _ rfl rfl rfl]
  exact Steps.refl _
end New
end Jvm.RoadKit
namespace Jvm.Pilot.@@N@@
open Jvm Jvm.ClassFile Sem Op Lib Jvm.Free Jvm.Stand Jvm.LawKit Jvm.RoadKit Bundle Jvm.Pilot.@@N@@.Jvm.D
section Own
variable {p : Program} {l : Launch} {e : Env} {R : Room} {s : State} {m : MethodId} {args : Array Value} {below : List Frame} {meth : Method} {c : Code} {T : State} {locs : List Loc} {cells slots : Nat}
theorem own_retL (X : Stand p l e R s m args below meth c T locs cells slots) (hx : p.tables.exec = Jvm.exec) {pc : Nat} {Ls : Array Slot} {z : Int64} {rest : List Value} (hret : meth.sig.returnType = some .long) (hd : decode c.code pc = .ok (.lreturn, 1)) {fs : List Frame}
    (hl : ∀ (f : JFrame) (acts : List Action), f.method = m → f.locked = none → f.entered = [] → (doReturn e (T.setTop f) acts (some (.long z))).1 = T.setFrames fs) : Steps p.tables e below (T.setTop (mkF m pc Ls (.long z :: rest))) (T.setFrames fs) := by
  have hm' : T.vm.method? m = some meth := X.method'
  have hn : narrow .long (.long z) = .long z := rfl
  show Steps p.tables e below (T.setTop { method := m, pc := pc, locals := Ls, stack := _ :: rest, locked := none }) _
  jvm_step X.here [X.here.top, hx, hd, hm', hret, hn]
  first | (intro acts; rw [hl _ acts rfl rfl rfl]) | rw [hl _ _ rfl rfl rfl]
  exact Steps.refl _
theorem own_retA (X : Stand p l e R s m args below meth c T locs cells slots) (hx : p.tables.exec = Jvm.exec) {pc : Nat} {Ls : Array Slot} {v : Value} {t : FieldType} {rest : List Value} (hret : meth.sig.returnType = some t) (ht : t.isReference = true) (hv : v.isRef = true) (hd : decode c.code pc = .ok (.areturn, 1)) {fs : List Frame}
    (hl : ∀ (f : JFrame) (acts : List Action), f.method = m → f.locked = none → f.entered = [] → (doReturn e (T.setTop f) acts (some v)).1 = T.setFrames fs) : Steps p.tables e below (T.setTop (mkF m pc Ls (v :: rest))) (T.setFrames fs) := by
  have hm' : T.vm.method? m = some meth := X.method'
  show Steps p.tables e below (T.setTop { method := m, pc := pc, locals := Ls, stack := _ :: rest, locked := none }) _
  jvm_step X.here [X.here.top, hx, hd, hm', hret, hv, ht]
  first | (intro acts; rw [hl _ acts rfl rfl rfl]) | rw [hl _ _ rfl rfl rfl]
  exact Steps.refl _
def OGo (p : Program) (e : Env) (below : List Frame) (P : State → Outcome → Prop) (S : State) : Prop := ∃ s₂ o, Steps p.tables e below S s₂ ∧ s₂.status = .running ∧ Ended s₂ below o ∧ P s₂ o
theorem OGo.to {P : State → Outcome → Prop} {S S' : State} (h : ∀ t, Steps p.tables e below S' t → Steps p.tables e below S t) (g : OGo p e below P S') : OGo p e below P S := by
  obtain ⟨s₂, o, h1, r⟩ := g
  exact ⟨s₂, o, h _ h1, r⟩
theorem OGo.ret {Q : Option Value → Heap → List Loc → Prop} (X : Stand p l e R s m args below meth c T locs cells slots) {g : JFrame} (v : Option Value) (hv : meth.sig.returnType = none → v = none) (hlocks : meth.locks = false)
    (st : ∀ fs : List Frame, (∀ (f : JFrame) (acts : List Action), f.method = m → f.locked = none → f.entered = [] → (doReturn e (T.setTop f) acts v).1 = T.setFrames fs) → Steps p.tables e below (T.setTop g) (T.setFrames fs)) (hq : Q v T.heap locs) {rc rs : Nat} (h1 : cells ≤ rc) (h2 : slots ≤ rs) :
    OGo p e below (fun s₂ o => ∃ v L, o = .returned v ∧ Q v s₂.heap L ∧ FrameEnd s o s₂ L rc rs) (T.setTop g) := by
  obtain ⟨fs, hr, hrun, hended, hW, hsame⟩ := X.leave (v := v) hv hlocks
  exact ⟨_, _, st fs hr, hrun, hended, _, _, rfl, hq, ⟨_, rfl⟩, hW, hsame.mono h1 h2⟩
theorem own_un (X0 : Stand p l e R s m args below meth c T locs cells slots) {Q : Option Value → Heap → List Loc → Prop} {rc rs : Nat} {W : Option Value → State → Prop}
    (h : ∃ (v : Option Value) (vm₁ : Vm) (B : Pt), s.WarmedH vm₁ ∧ Stand p l e R s m args below meth c B.U B.locs B.cells B.slots ∧ (∃ L, Q v B.U.heap L ∧ B.locs = locs ++ L ∧ B.cells = cells + rc ∧ B.slots = slots + rs) ∧ W v B.U) :
    ∃ (v : Option Value) (T' : State) (Lc : List Loc), Stand p l e R s m args below meth c T' (locs ++ Lc) (cells + rc) (slots + rs) ∧ Q v T'.heap Lc ∧ W v T' := by
  obtain ⟨v, vm₁, ⟨T', L', k', n'⟩, -, X, ⟨Lc, hQ, h1, h2, h3⟩, st⟩ := h
  subst h1 h2 h3
  exact ⟨v, T', Lc, X, hQ, st⟩
theorem own_selP {Z : State} {a0 : Array Value} (hZ : Z.Warmed39 s.vm) {y : MethodName} {n : Nat} (wi : (Jvm.Cond.instantiable y.cls n).before a0 Z = true) (wp : (Jvm.Cond.privateMethod y).before a0 Z = true) (wm : (Jvm.Cond.instanceMethod y).before a0 Z = true) (hy : y.cls ≠ "java/lang/invoke/MethodHandle" ∧ y.cls ≠ "java/lang/invoke/VarHandle") : (Jvm.Cond.selects y.cls y y).before args s = true := by
  obtain ⟨c, k, h1, h2, -, h3, -⟩ := Cond.instantiable_spec (mvT (args := args) hZ wi)
  exact selects_self_of_private h1 h2 ((Bool.or_eq_false_iff.mp h3).1) (Cond.privateMethod_at (mvP hZ wp (args := args))) (mvT hZ wm) hy
end Own
theorem own_ieq {a b : Int32} (h : a = b) : a.toInt = b.toInt := congrArg _ h
theorem own_ine {a b : Int32} (h : ¬ a = b) : a.toInt ≠ b.toInt := fun q => h (Int32.toInt_inj.mp q)
theorem own_ilt {a b : Int32} (h : a < b) : a.toInt < b.toInt := Int32.lt_iff_toInt_lt.mp h
theorem own_inlt {a b : Int32} (h : ¬ a < b) : b.toInt ≤ a.toInt := Int.not_lt.mp fun q => h (Int32.lt_iff_toInt_lt.mpr q)
theorem own_eqi {a b : Int32} (h : a.toInt = b.toInt) : a = b := Int32.toInt_inj.mp h
theorem own_lti {a b : Int32} (h : a.toInt < b.toInt) : a < b := Int32.lt_iff_toInt_lt.mpr h
theorem own_nlti {a b : Int32} (h : b.toInt ≤ a.toInt) : ¬ a < b := fun q => absurd (Int32.lt_iff_toInt_lt.mp q) (Int.not_lt.mpr h)
theorem own_pos {a b : Int} (h : a < b) : 0 < b - a := by omega
theorem own_ne0 {y : Int32} (h : 0 < y.toInt) : y ≠ (0 : Int32) := fun q => by subst q; exact absurd h (by decide)
theorem own_rem (x y : Int32) (hy : 0 < y.toInt) : 0 ≤ ((x &&& (2147483647 : Int32)) % y).toInt ∧ ((x &&& (2147483647 : Int32)) % y).toInt < y.toInt := by
  have h1 := c_and x (2147483647 : Int32) (by decide)
  have h2 := (c_iremV (x &&& (2147483647 : Int32)) y).1 h1.1 hy
  exact ⟨h2.1, h2.2.1⟩
theorem own_sub (a b : Int32) (ha : 0 ≤ a.toInt) (hb : 0 ≤ b.toInt) (hab : b.toInt ≤ a.toInt) : (a - b).toInt = a.toInt - b.toInt := by
  have h1 := c_isub a b
  have h2 := rng32 a
  have h3 := rng32 (a - b)
  omega
def own_rng (s e : Int32) : Prop := 0 ≤ s.toInt ∧ s.toInt ≤ e.toInt ∧ e.toInt ≤ 4
theorem own_rng1 {s ln : Int32} (b0 : 0 ≤ s.toInt ∧ s.toInt < (5 : Int32).toInt) (d0 : ((5 : Int32) - s).toInt = (5 : Int32).toInt - s.toInt) (b1 : 0 ≤ ln.toInt ∧ ln.toInt < ((5 : Int32) - s).toInt) : own_rng s (s + ln) := by
  have h := c_iadd s ln
  have h2 := rng32 (s + ln)
  have e5 : (5 : Int32).toInt = 5 := by decide
  unfold own_rng
  omega
theorem own_at {x : Int32} (n : Int32) (k : Int) (e : n.toInt = k) (h : x.toInt = k) : x = n := Int32.toInt_inj.mp (h.trans e.symm)
theorem own_combos {s e : Int32} (h : own_rng s e) : (s = (0 : Int32) ∧ e = (0 : Int32)) ∨ (s = (0 : Int32) ∧ e = (1 : Int32)) ∨ (s = (0 : Int32) ∧ e = (2 : Int32)) ∨ (s = (0 : Int32) ∧ e = (3 : Int32)) ∨ (s = (0 : Int32) ∧ e = (4 : Int32)) ∨ (s = (1 : Int32) ∧ e = (1 : Int32)) ∨ (s = (1 : Int32) ∧ e = (2 : Int32)) ∨ (s = (1 : Int32) ∧ e = (3 : Int32)) ∨ (s = (1 : Int32) ∧ e = (4 : Int32)) ∨ (s = (2 : Int32) ∧ e = (2 : Int32)) ∨ (s = (2 : Int32) ∧ e = (3 : Int32)) ∨ (s = (2 : Int32) ∧ e = (4 : Int32)) ∨ (s = (3 : Int32) ∧ e = (3 : Int32)) ∨ (s = (3 : Int32) ∧ e = (4 : Int32)) ∨ (s = (4 : Int32) ∧ e = (4 : Int32)) := by
  have f : ∀ x : Int32, 0 ≤ x.toInt ∧ x.toInt ≤ 4 → x = (0 : Int32) ∨ x = (1 : Int32) ∨ x = (2 : Int32) ∨ x = (3 : Int32) ∨ x = (4 : Int32) := by
    intro x hx
    simp only [← Int32.toInt_inj]
    have e0 : (0 : Int32).toInt = 0 := by decide
    have e1 : (1 : Int32).toInt = 1 := by decide
    have e2 : (2 : Int32).toInt = 2 := by decide
    have e3 : (3 : Int32).toInt = 3 := by decide
    have e4 : (4 : Int32).toInt = 4 := by decide
    omega
  have h1 : 0 ≤ s.toInt ∧ s.toInt ≤ 4 := ⟨h.1, Int.le_trans h.2.1 h.2.2⟩
  have h2 : 0 ≤ e.toInt ∧ e.toInt ≤ 4 := ⟨Int.le_trans h.1 h.2.1, h.2.2⟩
  rcases f s h1 with rfl | rfl | rfl | rfl | rfl <;> rcases f e h2 with rfl | rfl | rfl | rfl | rfl <;> first | decide | exact absurd h (by unfold own_rng; decide)
def own_pow (k : Int32) : Int32 := if k = (0 : Int32) then (1 : Int32) else if k = (1 : Int32) then (31 : Int32) else if k = (2 : Int32) then (961 : Int32) else (29791 : Int32)
def own_term (b i s e : Int32) : Int32 := if i < s then (0 : Int32) else if i < e then b * own_pow ((e - (1 : Int32)) - i) else (0 : Int32)
def own_mix (x : Int32) : Int32 := (x * (-1640531527 : Int32)) ^^^ (((x * (-1640531527 : Int32)).toUInt32 >>> ((16 : Int32) &&& 31).toUInt32).toInt32)
def own_hash (b0 b1 b2 b3 s e : Int32) : Int32 := own_mix ((([b0, b1, b2, b3].take e.toNatClampNeg).drop s.toNatClampNeg).foldl (fun h b => (31 : Int32) * h + b) (0 : Int32))
theorem own_main (b0 b1 b2 b3 : Int32) {s e : Int32} (h : own_rng s e) : own_hash b0 b1 b2 b3 s e = own_mix (((own_term b0 (0 : Int32) s e + own_term b1 (1 : Int32) s e) + own_term b2 (2 : Int32) s e) + own_term b3 (3 : Int32) s e) := by
  rcases own_combos h with ⟨rfl, rfl⟩ | ⟨rfl, rfl⟩ | ⟨rfl, rfl⟩ | ⟨rfl, rfl⟩ | ⟨rfl, rfl⟩ | ⟨rfl, rfl⟩ | ⟨rfl, rfl⟩ | ⟨rfl, rfl⟩ | ⟨rfl, rfl⟩ | ⟨rfl, rfl⟩ | ⟨rfl, rfl⟩ | ⟨rfl, rfl⟩ | ⟨rfl, rfl⟩ | ⟨rfl, rfl⟩ | ⟨rfl, rfl⟩
  · refine congrArg own_mix (?_ : (((0 : Int32))) = ((((0 : Int32)) + (0 : Int32)) + (0 : Int32)) + (0 : Int32))
    grind
  · refine congrArg own_mix (?_ : (((31 : Int32) * ((0 : Int32)) + b0)) = (((b0 * (1 : Int32)) + (0 : Int32)) + (0 : Int32)) + (0 : Int32))
    grind
  · refine congrArg own_mix (?_ : (((31 : Int32) * ((31 : Int32) * ((0 : Int32)) + b0) + b1)) = (((b0 * (31 : Int32)) + b1 * (1 : Int32)) + (0 : Int32)) + (0 : Int32))
    grind
  · refine congrArg own_mix (?_ : (((31 : Int32) * ((31 : Int32) * ((31 : Int32) * ((0 : Int32)) + b0) + b1) + b2)) = (((b0 * (961 : Int32)) + b1 * (31 : Int32)) + b2 * (1 : Int32)) + (0 : Int32))
    grind
  · refine congrArg own_mix (?_ : (((31 : Int32) * ((31 : Int32) * ((31 : Int32) * ((31 : Int32) * ((0 : Int32)) + b0) + b1) + b2) + b3)) = (((b0 * (29791 : Int32)) + b1 * (961 : Int32)) + b2 * (31 : Int32)) + b3 * (1 : Int32))
    grind
  · refine congrArg own_mix (?_ : (((0 : Int32))) = ((((0 : Int32)) + (0 : Int32)) + (0 : Int32)) + (0 : Int32))
    grind
  · refine congrArg own_mix (?_ : (((31 : Int32) * ((0 : Int32)) + b1)) = ((((0 : Int32)) + b1 * (1 : Int32)) + (0 : Int32)) + (0 : Int32))
    grind
  · refine congrArg own_mix (?_ : (((31 : Int32) * ((31 : Int32) * ((0 : Int32)) + b1) + b2)) = ((((0 : Int32)) + b1 * (31 : Int32)) + b2 * (1 : Int32)) + (0 : Int32))
    grind
  · refine congrArg own_mix (?_ : (((31 : Int32) * ((31 : Int32) * ((31 : Int32) * ((0 : Int32)) + b1) + b2) + b3)) = ((((0 : Int32)) + b1 * (961 : Int32)) + b2 * (31 : Int32)) + b3 * (1 : Int32))
    grind
  · refine congrArg own_mix (?_ : (((0 : Int32))) = ((((0 : Int32)) + (0 : Int32)) + (0 : Int32)) + (0 : Int32))
    grind
  · refine congrArg own_mix (?_ : (((31 : Int32) * ((0 : Int32)) + b2)) = ((((0 : Int32)) + (0 : Int32)) + b2 * (1 : Int32)) + (0 : Int32))
    grind
  · refine congrArg own_mix (?_ : (((31 : Int32) * ((31 : Int32) * ((0 : Int32)) + b2) + b3)) = ((((0 : Int32)) + (0 : Int32)) + b2 * (31 : Int32)) + b3 * (1 : Int32))
    grind
  · refine congrArg own_mix (?_ : (((0 : Int32))) = ((((0 : Int32)) + (0 : Int32)) + (0 : Int32)) + (0 : Int32))
    grind
  · refine congrArg own_mix (?_ : (((31 : Int32) * ((0 : Int32)) + b3)) = ((((0 : Int32)) + (0 : Int32)) + (0 : Int32)) + b3 * (1 : Int32))
    grind
  · refine congrArg own_mix (?_ : (((0 : Int32))) = ((((0 : Int32)) + (0 : Int32)) + (0 : Int32)) + (0 : Int32))
    grind
theorem pd_0 : parseMethodDescriptor "(I)I" = some ⟨[.int], some .int⟩ := by decide +kernel
theorem pd_1 : parseMethodDescriptor "([BIII)I" = some ⟨[(.array .byte), .int, .int, .int], some .int⟩ := by decide +kernel
theorem pd_2 : parseMethodDescriptor "([BII)I" = some ⟨[(.array .byte), .int, .int], some .int⟩ := by decide +kernel
theorem pn_0 : plainName "com/example/querytrail/querytrail/trec/IndexTableHashPinLaw" = true := by first | (simp [plainName, overriddenIn]; done) | decide +kernel
theorem pn_1 : plainName "com/example/querytrail/querytrail/trec/IndexTable" = true := by first | (simp [plainName, overriddenIn]; done) | decide +kernel
theorem d2_0 : decode method_2_code 0 = .ok (.iload_n 0, 1) := by decide +kernel
theorem d2_1 : decode method_2_code 1 = .ok (.ifCond .ne 5, 3) := by decide +kernel
theorem d2_4 : decode method_2_code 4 = .ok (.iconst 1, 1) := by decide +kernel
theorem d2_5 : decode method_2_code 5 = .ok (.ireturn, 1) := by decide +kernel
theorem d2_6 : decode method_2_code 6 = .ok (.iload_n 0, 1) := by decide +kernel
theorem d2_7 : decode method_2_code 7 = .ok (.iconst 1, 1) := by decide +kernel
theorem d2_8 : decode method_2_code 8 = .ok (.if_icmp .ne 6, 3) := by decide +kernel
theorem d2_11 : decode method_2_code 11 = .ok (.bipush 31, 2) := by decide +kernel
theorem d2_13 : decode method_2_code 13 = .ok (.ireturn, 1) := by decide +kernel
theorem d2_14 : decode method_2_code 14 = .ok (.iload_n 0, 1) := by decide +kernel
theorem d2_15 : decode method_2_code 15 = .ok (.iconst 2, 1) := by decide +kernel
theorem d2_16 : decode method_2_code 16 = .ok (.if_icmp .ne 7, 3) := by decide +kernel
theorem d2_19 : decode method_2_code 19 = .ok (.sipush 961, 3) := by decide +kernel
theorem d2_22 : decode method_2_code 22 = .ok (.ireturn, 1) := by decide +kernel
theorem d2_23 : decode method_2_code 23 = .ok (.sipush 29791, 3) := by decide +kernel
theorem d2_26 : decode method_2_code 26 = .ok (.ireturn, 1) := by decide +kernel
theorem ef_2 (m : MethodId) (x0 : Int32) : entryFrame m #[(.int x0)] 1 = mkF m 0 #[.val (.int x0)] [] := by first | (simp [entryFrame, mkF, argsToLocals, Value.category]; done) | rfl
def Q2 (Z : State) (p1 : Int32) (h0 : Heap) (n0 : Nat) (v : Option Value) (h : Heap) (L : List Loc) : Prop := v = some (.int (own_pow p1)) ∧ Fr n0 L ∧ h = h0
set_option maxRecDepth 65536 in
set_option maxHeartbeats 40000000 in
theorem rm2 (l : Launch) (Z : State) (a0 : Array Value) (hw : ∀ d ∈ tables_1, d.before a0 Z = true) (ws : List Jvm.Cond) (p1 : Int32) (h0 : Heap) (n0 : Nat) (Z0 : n0 ≤ h0.size) :
    MetFree l (⟨"com/example/querytrail/querytrail/trec/IndexTableHashPinLaw", "pow31", "(I)I"⟩ : MethodName) (head1 (Jvm.Cond.code (⟨"com/example/querytrail/querytrail/trec/IndexTableHashPinLaw", "pow31", "(I)I"⟩ : MethodName) method_2_code 1 (some .int) :: ws) ({ frames := 0, cells := 0, slots := 0, locals := 0 } : Room)) (fun a U => a = #[(.int p1)] ∧ Z.Warmed39 U.vm ∧ U.heap = h0) (fun _ _ _ _ _ => True) (fun _ U o U' => ∃ v L, o = .returned v ∧ Q2 Z p1 h0 n0 v U'.heap L ∧ FrameEnd U o U' L ({ frames := 0, cells := 0, slots := 0, locals := 0 } : Room).cells ({ frames := 0, cells := 0, slots := 0, locals := 0 } : Room).slots) := by
  refine MetFree.of_bodySF (plainFor_of_name pn_0) hisR ?_
  intro p e s m args below meth c s₁ Bd hml0 hP hK
  obtain ⟨rfl, hZ, hh⟩ := hP
  have hx := Bd.exec
  have hby := Bd.bytes
  have hml : c.maxLocals = 1 := hml0
  have hown : s.vm.findClass "com/example/querytrail/querytrail/trec/IndexTableHashPinLaw" = some m.cls := findClass_of_methodNamed Bd.named
  have hnm := (name_of_methodNamed Bd.named Bd.method).1
  have X0 : Stand p l e ({ frames := 0, cells := 0, slots := 0, locals := 0 } : Room) s m #[(.int p1)] below meth c s₁ [] 0 0 := Stand.of_body Bd
  have e0 : s₁.heap = h0 := by rw [← hh, Bd.state]; rfl
  have N0 := Fr.nil n0
  show OGo p e below (fun s₂ o => ∃ v L, o = .returned v ∧ Q2 Z p1 h0 n0 v s₂.heap L ∧ FrameEnd s o s₂ L ({ frames := 0, cells := 0, slots := 0, locals := 0 } : Room).cells ({ frames := 0, cells := 0, slots := 0, locals := 0 } : Room).slots) _
  refine OGo.to (fun _ k => castTop (ef_2 m p1) k) ?_
  refine OGo.to (fun _ k => XS.iloadN X0.here hx rfl (hb hby d2_0) rfl k) ?_
  show OGo p e below _ (s₁.setTop (mkF m 1 #[.val (.int p1)] [(.int p1)]))
  by_cases hc1_1 : p1 = (0 : Int32)
  ·  -- pc 1: yes
    refine OGo.to (fun _ k => XS.ifNo X0.here hx rfl (hb hby d2_1) rfl ((if0 _ _).trans (teq hc1_1).2) k) ?_
    show OGo p e below _ (s₁.setTop (mkF m 4 #[.val (.int p1)] []))
    refine OGo.to (fun _ k => XS.iconst X0.here hx rfl (hb hby d2_4) k) ?_
    show OGo p e below _ (s₁.setTop (mkF m 5 #[.val (.int p1)] [(.int (1 : Int32))]))
    refine OGo.ret (Q := Q2 Z p1 h0 n0) X0 (some (.int (1 : Int32))) (fun h => by rw [Bd.returns] at h; cases h) Bd.notSynchronized (fun fs hr => retI X0 hx Bd.returns (hb hby d2_5) hr) ?_ (by decide) (by decide)
    show Q2 Z p1 h0 n0 _ s₁.heap _
    rw [e0]
    exact ⟨congrArg (fun z => some (Value.int z)) (show (1 : Int32) = (own_pow p1) from by unfold own_pow; rw [if_pos hc1_1]), N0, rfl⟩
  ·  -- pc 1: no
    refine OGo.to (fun _ k => XS.ifYes X0.here hx rfl (pc0 := 1) (pc' := 6) rfl (hb hby d2_1) rfl ((if0 _ _).trans (feq hc1_1).2) (by decide) (by decide) k) ?_
    show OGo p e below _ (s₁.setTop (mkF m 6 #[.val (.int p1)] []))
    refine OGo.to (fun _ k => XS.iloadN X0.here hx rfl (hb hby d2_6) rfl k) ?_
    show OGo p e below _ (s₁.setTop (mkF m 7 #[.val (.int p1)] [(.int p1)]))
    refine OGo.to (fun _ k => XS.iconst X0.here hx rfl (hb hby d2_7) k) ?_
    show OGo p e below _ (s₁.setTop (mkF m 8 #[.val (.int p1)] [(.int (1 : Int32)), (.int p1)]))
    by_cases hc8_2 : p1 = (1 : Int32)
    ·  -- pc 8: yes
      refine OGo.to (fun _ k => XS.icmpNo X0.here hx rfl (hb hby d2_8) rfl (teq hc8_2).2 k) ?_
      show OGo p e below _ (s₁.setTop (mkF m 11 #[.val (.int p1)] []))
      refine OGo.to (fun _ k => XS.bipush X0.here hx rfl (hb hby d2_11) k) ?_
      show OGo p e below _ (s₁.setTop (mkF m 13 #[.val (.int p1)] [(.int (31 : Int32))]))
      refine OGo.ret (Q := Q2 Z p1 h0 n0) X0 (some (.int (31 : Int32))) (fun h => by rw [Bd.returns] at h; cases h) Bd.notSynchronized (fun fs hr => retI X0 hx Bd.returns (hb hby d2_13) hr) ?_ (by decide) (by decide)
      show Q2 Z p1 h0 n0 _ s₁.heap _
      rw [e0]
      exact ⟨congrArg (fun z => some (Value.int z)) (show (31 : Int32) = (own_pow p1) from by unfold own_pow; rw [if_neg hc1_1, if_pos hc8_2]), N0, rfl⟩
    ·  -- pc 8: no
      refine OGo.to (fun _ k => XS.icmpYes X0.here hx rfl (pc0 := 8) (pc' := 14) rfl (hb hby d2_8) rfl (feq hc8_2).2 (by decide) (by decide) k) ?_
      show OGo p e below _ (s₁.setTop (mkF m 14 #[.val (.int p1)] []))
      refine OGo.to (fun _ k => XS.iloadN X0.here hx rfl (hb hby d2_14) rfl k) ?_
      show OGo p e below _ (s₁.setTop (mkF m 15 #[.val (.int p1)] [(.int p1)]))
      refine OGo.to (fun _ k => XS.iconst X0.here hx rfl (hb hby d2_15) k) ?_
      show OGo p e below _ (s₁.setTop (mkF m 16 #[.val (.int p1)] [(.int (2 : Int32)), (.int p1)]))
      by_cases hc16_3 : p1 = (2 : Int32)
      ·  -- pc 16: yes
        refine OGo.to (fun _ k => XS.icmpNo X0.here hx rfl (hb hby d2_16) rfl (teq hc16_3).2 k) ?_
        show OGo p e below _ (s₁.setTop (mkF m 19 #[.val (.int p1)] []))
        refine OGo.to (fun _ k => XS.sipush X0.here hx rfl (hb hby d2_19) k) ?_
        show OGo p e below _ (s₁.setTop (mkF m 22 #[.val (.int p1)] [(.int (961 : Int32))]))
        refine OGo.ret (Q := Q2 Z p1 h0 n0) X0 (some (.int (961 : Int32))) (fun h => by rw [Bd.returns] at h; cases h) Bd.notSynchronized (fun fs hr => retI X0 hx Bd.returns (hb hby d2_22) hr) ?_ (by decide) (by decide)
        show Q2 Z p1 h0 n0 _ s₁.heap _
        rw [e0]
        exact ⟨congrArg (fun z => some (Value.int z)) (show (961 : Int32) = (own_pow p1) from by unfold own_pow; rw [if_neg hc1_1, if_neg hc8_2, if_pos hc16_3]), N0, rfl⟩
      ·  -- pc 16: no
        refine OGo.to (fun _ k => XS.icmpYes X0.here hx rfl (pc0 := 16) (pc' := 23) rfl (hb hby d2_16) rfl (feq hc16_3).2 (by decide) (by decide) k) ?_
        show OGo p e below _ (s₁.setTop (mkF m 23 #[.val (.int p1)] []))
        refine OGo.to (fun _ k => XS.sipush X0.here hx rfl (hb hby d2_23) k) ?_
        show OGo p e below _ (s₁.setTop (mkF m 26 #[.val (.int p1)] [(.int (29791 : Int32))]))
        refine OGo.ret (Q := Q2 Z p1 h0 n0) X0 (some (.int (29791 : Int32))) (fun h => by rw [Bd.returns] at h; cases h) Bd.notSynchronized (fun fs hr => retI X0 hx Bd.returns (hb hby d2_26) hr) ?_ (by decide) (by decide)
        show Q2 Z p1 h0 n0 _ s₁.heap _
        rw [e0]
        exact ⟨congrArg (fun z => some (Value.int z)) (show (29791 : Int32) = (own_pow p1) from by unfold own_pow; rw [if_neg hc1_1, if_neg hc8_2, if_neg hc16_3]), N0, rfl⟩
theorem d1_0 : decode method_3_code 0 = .ok (.iload_n 2, 1) := by decide +kernel
theorem d1_1 : decode method_3_code 1 = .ok (.iload_n 1, 1) := by decide +kernel
theorem d1_2 : decode method_3_code 2 = .ok (.if_icmp .gt 21, 3) := by decide +kernel
theorem d1_5 : decode method_3_code 5 = .ok (.iload_n 1, 1) := by decide +kernel
theorem d1_6 : decode method_3_code 6 = .ok (.iload_n 3, 1) := by decide +kernel
theorem d1_7 : decode method_3_code 7 = .ok (.if_icmp .ge 16, 3) := by decide +kernel
theorem d1_10 : decode method_3_code 10 = .ok (.aload_n 0, 1) := by decide +kernel
theorem d1_11 : decode method_3_code 11 = .ok (.iload_n 1, 1) := by decide +kernel
theorem d1_12 : decode method_3_code 12 = .ok (.baload, 1) := by decide +kernel
theorem d1_13 : decode method_3_code 13 = .ok (.iload_n 3, 1) := by decide +kernel
theorem d1_14 : decode method_3_code 14 = .ok (.iconst 1, 1) := by decide +kernel
theorem d1_15 : decode method_3_code 15 = .ok (.isub, 1) := by decide +kernel
theorem d1_16 : decode method_3_code 16 = .ok (.iload_n 1, 1) := by decide +kernel
theorem d1_17 : decode method_3_code 17 = .ok (.isub, 1) := by decide +kernel
theorem d1_18 : decode method_3_code 18 = .ok (.invokestatic 7, 3) := by decide +kernel
theorem d1_21 : decode method_3_code 21 = .ok (.imul, 1) := by decide +kernel
theorem d1_22 : decode method_3_code 22 = .ok (.ireturn, 1) := by decide +kernel
theorem d1_23 : decode method_3_code 23 = .ok (.iconst 0, 1) := by decide +kernel
theorem d1_24 : decode method_3_code 24 = .ok (.ireturn, 1) := by decide +kernel
theorem ef_t0 (m : MethodId) (x0 : Addr) (x1 : Int32) (x2 : Int32) (x3 : Int32) : entryFrame m #[(.ref x0), (.int x1), (.int x2), (.int x3)] 4 = mkF m 0 #[.val (.ref x0), .val (.int x1), .val (.int x2), .val (.int x3)] [] := by first | (simp [entryFrame, mkF, argsToLocals, Value.category]; done) | rfl
def Qt0 (Z : State) (a1 : Addr) (p1 : Int32) (p2 : Int32) (kc : ClassId) (b0 : Int32) (b1 : Int32) (b2 : Int32) (b3 : Int32) (h0 : Heap) (n0 : Nat) (v : Option Value) (h : Heap) (L : List Loc) : Prop := v = some (.int (own_term b0 (0 : Int32) p1 p2)) ∧ Fr n0 L ∧ h = h0
set_option maxRecDepth 65536 in
set_option maxHeartbeats 40000000 in
theorem rmt0 (l : Launch) (Z : State) (a0 : Array Value) (hw : ∀ d ∈ tables_1, d.before a0 Z = true) (ws : List Jvm.Cond) (a1 : Addr) (p1 : Int32) (p2 : Int32) (kc : ClassId) (b0 : Int32) (b1 : Int32) (b2 : Int32) (b3 : Int32) (h0 : Heap) (n0 : Nat) (Z0 : n0 ≤ h0.size) (V1 : Arv Z h0 a1 kc .byte (4 : Int32) [(.int b0), (.int b1), (.int b2), (.int b3)] (.int (0 : Int32))) :
    MetFree l (⟨"com/example/querytrail/querytrail/trec/IndexTableHashPinLaw", "term", "([BIII)I"⟩ : MethodName) (head1 (Jvm.Cond.code (⟨"com/example/querytrail/querytrail/trec/IndexTableHashPinLaw", "term", "([BIII)I"⟩ : MethodName) method_3_code 4 (some .int) :: ws) ({ frames := 1, cells := 0, slots := 0, locals := 13 } : Room)) (fun a U => a = #[(.ref a1), (.int (0 : Int32)), (.int p1), (.int p2)] ∧ Z.Warmed39 U.vm ∧ U.heap = h0) (fun _ _ _ _ _ => True) (fun _ U o U' => ∃ v L, o = .returned v ∧ Qt0 Z a1 p1 p2 kc b0 b1 b2 b3 h0 n0 v U'.heap L ∧ FrameEnd U o U' L ({ frames := 1, cells := 0, slots := 0, locals := 13 } : Room).cells ({ frames := 1, cells := 0, slots := 0, locals := 13 } : Room).slots) := by
  refine MetFree.of_bodySF (plainFor_of_name pn_0) hisR ?_
  intro p e s m args below meth c s₁ Bd hml0 hP hK
  obtain ⟨rfl, hZ, hh⟩ := hP
  have hx := Bd.exec
  have hby := Bd.bytes
  have hml : c.maxLocals = 4 := hml0
  have hown : s.vm.findClass "com/example/querytrail/querytrail/trec/IndexTableHashPinLaw" = some m.cls := findClass_of_methodNamed Bd.named
  have hnm := (name_of_methodNamed Bd.named Bd.method).1
  have X0 : Stand p l e ({ frames := 1, cells := 0, slots := 0, locals := 13 } : Room) s m #[(.ref a1), (.int (0 : Int32)), (.int p1), (.int p2)] below meth c s₁ [] 0 0 := Stand.of_body Bd
  have e0 : s₁.heap = h0 := by rw [← hh, Bd.state]; rfl
  have N0 := Fr.nil n0
  show OGo p e below (fun s₂ o => ∃ v L, o = .returned v ∧ Qt0 Z a1 p1 p2 kc b0 b1 b2 b3 h0 n0 v s₂.heap L ∧ FrameEnd s o s₂ L ({ frames := 1, cells := 0, slots := 0, locals := 13 } : Room).cells ({ frames := 1, cells := 0, slots := 0, locals := 13 } : Room).slots) _
  refine OGo.to (fun _ k => castTop (ef_t0 m a1 (0 : Int32) p1 p2) k) ?_
  refine OGo.to (fun _ k => XS.iloadN X0.here hx rfl (hb hby d1_0) rfl k) ?_
  show OGo p e below _ (s₁.setTop (mkF m 1 #[.val (.ref a1), .val (.int (0 : Int32)), .val (.int p1), .val (.int p2)] [(.int p1)]))
  refine OGo.to (fun _ k => XS.iloadN X0.here hx rfl (hb hby d1_1) rfl k) ?_
  show OGo p e below _ (s₁.setTop (mkF m 2 #[.val (.ref a1), .val (.int (0 : Int32)), .val (.int p1), .val (.int p2)] [(.int (0 : Int32)), (.int p1)]))
  by_cases hc2_1 : (0 : Int32) < p1
  ·  -- pc 2: yes
    refine OGo.to (fun _ k => XS.icmpYes X0.here hx rfl (pc0 := 2) (pc' := 23) rfl (hb hby d1_2) rfl (tlt hc2_1).2.2.1 (by decide) (by decide) k) ?_
    show OGo p e below _ (s₁.setTop (mkF m 23 #[.val (.ref a1), .val (.int (0 : Int32)), .val (.int p1), .val (.int p2)] []))
    refine OGo.to (fun _ k => XS.iconst X0.here hx rfl (hb hby d1_23) k) ?_
    show OGo p e below _ (s₁.setTop (mkF m 24 #[.val (.ref a1), .val (.int (0 : Int32)), .val (.int p1), .val (.int p2)] [(.int (0 : Int32))]))
    refine OGo.ret (Q := Qt0 Z a1 p1 p2 kc b0 b1 b2 b3 h0 n0) X0 (some (.int (0 : Int32))) (fun h => by rw [Bd.returns] at h; cases h) Bd.notSynchronized (fun fs hr => retI X0 hx Bd.returns (hb hby d1_24) hr) ?_ (by decide) (by decide)
    show Qt0 Z a1 p1 p2 kc b0 b1 b2 b3 h0 n0 _ s₁.heap _
    rw [e0]
    exact ⟨congrArg (fun z => some (Value.int z)) (show (0 : Int32) = (own_term b0 (0 : Int32) p1 p2) from by unfold own_term; rw [if_pos hc2_1]), N0, rfl⟩
  ·  -- pc 2: no
    refine OGo.to (fun _ k => XS.icmpNo X0.here hx rfl (hb hby d1_2) rfl (flt hc2_1).2.2.1 k) ?_
    show OGo p e below _ (s₁.setTop (mkF m 5 #[.val (.ref a1), .val (.int (0 : Int32)), .val (.int p1), .val (.int p2)] []))
    refine OGo.to (fun _ k => XS.iloadN X0.here hx rfl (hb hby d1_5) rfl k) ?_
    show OGo p e below _ (s₁.setTop (mkF m 6 #[.val (.ref a1), .val (.int (0 : Int32)), .val (.int p1), .val (.int p2)] [(.int (0 : Int32))]))
    refine OGo.to (fun _ k => XS.iloadN X0.here hx rfl (hb hby d1_6) rfl k) ?_
    show OGo p e below _ (s₁.setTop (mkF m 7 #[.val (.ref a1), .val (.int (0 : Int32)), .val (.int p1), .val (.int p2)] [(.int p2), (.int (0 : Int32))]))
    by_cases hc7_2 : (0 : Int32) < p2
    ·  -- pc 7: yes
      refine OGo.to (fun _ k => XS.icmpNo X0.here hx rfl (hb hby d1_7) rfl (tlt hc7_2).2.1 k) ?_
      show OGo p e below _ (s₁.setTop (mkF m 10 #[.val (.ref a1), .val (.int (0 : Int32)), .val (.int p1), .val (.int p2)] []))
      refine OGo.to (fun _ k => XS.aloadN X0.here hx rfl (hb hby d1_10) rfl rfl k) ?_
      show OGo p e below _ (s₁.setTop (mkF m 11 #[.val (.ref a1), .val (.int (0 : Int32)), .val (.int p1), .val (.int p2)] [(.ref a1)]))
      refine OGo.to (fun _ k => XS.iloadN X0.here hx rfl (hb hby d1_11) rfl k) ?_
      show OGo p e below _ (s₁.setTop (mkF m 12 #[.val (.ref a1), .val (.int (0 : Int32)), .val (.int p1), .val (.int p2)] [(.int (0 : Int32)), (.ref a1)]))
      have Vq3 := V1
      obtain ⟨cl3, Ar3, q3, S3, M3, Hs3, G3⟩ := Vq3
      have hin4 : ¬ ((0 : Int32) < 0 ∨ cl3.slots.size ≤ ((0 : Int32)).toNatClampNeg) := inb_of S3 ⟨by decide, by decide⟩
      have hat4 : cl3.slots[((0 : Int32)).toNatClampNeg]? = some (.int b0) := Hs3.at hin4 (rfl)
      refine OGo.to (fun _ k => X0.baloadBytes hx (j := (0 : Int32)) (v := (.int b0)) (by rw [e0]; exact Ar3.1) (State.isArrayOf_alike hZ.alike Ar3.2.1) Ar3.2.2 hin4 hat4 (g := (mkF m 12 #[.val (.ref a1), .val (.int (0 : Int32)), .val (.int p1), .val (.int p2)] [(.int (0 : Int32)), (.ref a1)])) rfl rfl (hb hby d1_12) _ k) ?_
      show OGo p e below _ (s₁.setTop (mkF m 13 #[.val (.ref a1), .val (.int (0 : Int32)), .val (.int p1), .val (.int p2)] [(.int b0)]))
      refine OGo.to (fun _ k => XS.iloadN X0.here hx rfl (hb hby d1_13) rfl k) ?_
      show OGo p e below _ (s₁.setTop (mkF m 14 #[.val (.ref a1), .val (.int (0 : Int32)), .val (.int p1), .val (.int p2)] [(.int p2), (.int b0)]))
      refine OGo.to (fun _ k => XS.iconst X0.here hx rfl (hb hby d1_14) k) ?_
      show OGo p e below _ (s₁.setTop (mkF m 15 #[.val (.ref a1), .val (.int (0 : Int32)), .val (.int p1), .val (.int p2)] [(.int (1 : Int32)), (.int p2), (.int b0)]))
      refine OGo.to (fun _ k => XS.isub X0.here hx rfl (hb hby d1_15) rfl k) ?_
      show OGo p e below _ (s₁.setTop (mkF m 16 #[.val (.ref a1), .val (.int (0 : Int32)), .val (.int p1), .val (.int p2)] [(.int (p2 - (1 : Int32))), (.int b0)]))
      refine OGo.to (fun _ k => XS.iloadN X0.here hx rfl (hb hby d1_16) rfl k) ?_
      show OGo p e below _ (s₁.setTop (mkF m 17 #[.val (.ref a1), .val (.int (0 : Int32)), .val (.int p1), .val (.int p2)] [(.int (0 : Int32)), (.int (p2 - (1 : Int32))), (.int b0)]))
      refine OGo.to (fun _ k => XS.isub X0.here hx rfl (hb hby d1_17) rfl k) ?_
      show OGo p e below _ (s₁.setTop (mkF m 18 #[.val (.ref a1), .val (.int (0 : Int32)), .val (.int p1), .val (.int p2)] [(.int ((p2 - (1 : Int32)) - (0 : Int32))), (.int b0)]))
      obtain ⟨_, T5, Lc5, X5, hQ5, st5⟩ := own_un X0 (Q := Q2 Z ((p2 - (1 : Int32)) - (0 : Int32)) h0 n0) (rc := 0) (rs := 0) (W := fun v B => ∀ target, Steps p.tables e below (B.setTop { (mkF m 18 #[.val (.ref a1), .val (.int (0 : Int32)), .val (.int p1), .val (.int p2)] [(.int ((p2 - (1 : Int32)) - (0 : Int32))), (.int b0)]) with pc := 21, stack := v.toList ++ [(.int b0)] }) target → Steps p.tables e below (s₁.setTop (mkF m 18 #[.val (.ref a1), .val (.int (0 : Int32)), .val (.int p1), .val (.int p2)] [(.int ((p2 - (1 : Int32)) - (0 : Int32))), (.int b0)])) target) <| Jvm.LawKit.callS X0 hx (y := (⟨"com/example/querytrail/querytrail/trec/IndexTableHashPinLaw", "pow31", "(I)I"⟩ : MethodName)) hown (mvT hZ (hw _ (List.mem_of_getElem? (i := 6) rfl))) (mvT hZ (hw _ (List.mem_of_getElem? (i := 7) rfl))) (mvT hZ (hw _ (List.mem_of_getElem? (i := 4) rfl))) (mvT hZ (hw _ (List.mem_of_getElem? (i := 8) rfl))) (by decide) (backOf (W := 1) (rm2 l Z a0 hw [] ((p2 - (1 : Int32)) - (0 : Int32)) h0 n0 Z0 ) hZ (hw _ (List.mem_of_getElem? (i := 8) rfl)) (hw _ (List.mem_of_getElem? (i := 4) rfl)) (by decide) (by decide)) (g := (mkF m 18 #[.val (.ref a1), .val (.int (0 : Int32)), .val (.int p1), .val (.int p2)] [(.int ((p2 - (1 : Int32)) - (0 : Int32))), (.int b0)])) rfl (by rw [hml]; rfl) (argsL := [(.int ((p2 - (1 : Int32)) - (0 : Int32)))]) (rest := [(.int b0)]) (lenOf pd_0 rfl) rfl (by show 2 * 0 + _ ≤ _; exact Nat.le_of_eq rfl) (hb hby d1_18) (fun _ _ => ⟨rfl, e0, (by decide : 0 + 0 ≤ _), (by decide : 0 + 0 ≤ _)⟩)
      obtain ⟨rfl, N5q, e5⟩ := hQ5
      have N5 := Fr.app N0 N5q
      refine OGo.to st5 ?_
      show OGo p e below _ (T5.setTop (mkF m 21 #[.val (.ref a1), .val (.int (0 : Int32)), .val (.int p1), .val (.int p2)] [(.int (own_pow ((p2 - (1 : Int32)) - (0 : Int32)))), (.int b0)]))
      refine OGo.to (fun _ k => XS.imul X5.here hx rfl (hb hby d1_21) rfl k) ?_
      show OGo p e below _ (T5.setTop (mkF m 22 #[.val (.ref a1), .val (.int (0 : Int32)), .val (.int p1), .val (.int p2)] [(.int (b0 * (own_pow ((p2 - (1 : Int32)) - (0 : Int32)))))]))
      refine OGo.ret (Q := Qt0 Z a1 p1 p2 kc b0 b1 b2 b3 h0 n0) X5 (some (.int (b0 * (own_pow ((p2 - (1 : Int32)) - (0 : Int32)))))) (fun h => by rw [Bd.returns] at h; cases h) Bd.notSynchronized (fun fs hr => retI X5 hx Bd.returns (hb hby d1_22) hr) ?_ (by decide) (by decide)
      show Qt0 Z a1 p1 p2 kc b0 b1 b2 b3 h0 n0 _ T5.heap _
      rw [e5]
      exact ⟨congrArg (fun z => some (Value.int z)) (show (b0 * (own_pow ((p2 - (1 : Int32)) - (0 : Int32)))) = (own_term b0 (0 : Int32) p1 p2) from by unfold own_term; rw [if_neg hc2_1, if_pos hc7_2]), N5, rfl⟩
    ·  -- pc 7: no
      refine OGo.to (fun _ k => XS.icmpYes X0.here hx rfl (pc0 := 7) (pc' := 23) rfl (hb hby d1_7) rfl (flt hc7_2).2.1 (by decide) (by decide) k) ?_
      show OGo p e below _ (s₁.setTop (mkF m 23 #[.val (.ref a1), .val (.int (0 : Int32)), .val (.int p1), .val (.int p2)] []))
      refine OGo.to (fun _ k => XS.iconst X0.here hx rfl (hb hby d1_23) k) ?_
      show OGo p e below _ (s₁.setTop (mkF m 24 #[.val (.ref a1), .val (.int (0 : Int32)), .val (.int p1), .val (.int p2)] [(.int (0 : Int32))]))
      refine OGo.ret (Q := Qt0 Z a1 p1 p2 kc b0 b1 b2 b3 h0 n0) X0 (some (.int (0 : Int32))) (fun h => by rw [Bd.returns] at h; cases h) Bd.notSynchronized (fun fs hr => retI X0 hx Bd.returns (hb hby d1_24) hr) ?_ (by decide) (by decide)
      show Qt0 Z a1 p1 p2 kc b0 b1 b2 b3 h0 n0 _ s₁.heap _
      rw [e0]
      exact ⟨congrArg (fun z => some (Value.int z)) (show (0 : Int32) = (own_term b0 (0 : Int32) p1 p2) from by unfold own_term; rw [if_neg hc2_1, if_neg hc7_2]), N0, rfl⟩
theorem ef_t1 (m : MethodId) (x0 : Addr) (x1 : Int32) (x2 : Int32) (x3 : Int32) : entryFrame m #[(.ref x0), (.int x1), (.int x2), (.int x3)] 4 = mkF m 0 #[.val (.ref x0), .val (.int x1), .val (.int x2), .val (.int x3)] [] := by first | (simp [entryFrame, mkF, argsToLocals, Value.category]; done) | rfl
def Qt1 (Z : State) (a1 : Addr) (p1 : Int32) (p2 : Int32) (kc : ClassId) (b0 : Int32) (b1 : Int32) (b2 : Int32) (b3 : Int32) (h0 : Heap) (n0 : Nat) (v : Option Value) (h : Heap) (L : List Loc) : Prop := v = some (.int (own_term b1 (1 : Int32) p1 p2)) ∧ Fr n0 L ∧ h = h0
set_option maxRecDepth 65536 in
set_option maxHeartbeats 40000000 in
theorem rmt1 (l : Launch) (Z : State) (a0 : Array Value) (hw : ∀ d ∈ tables_1, d.before a0 Z = true) (ws : List Jvm.Cond) (a1 : Addr) (p1 : Int32) (p2 : Int32) (kc : ClassId) (b0 : Int32) (b1 : Int32) (b2 : Int32) (b3 : Int32) (h0 : Heap) (n0 : Nat) (Z0 : n0 ≤ h0.size) (V1 : Arv Z h0 a1 kc .byte (4 : Int32) [(.int b0), (.int b1), (.int b2), (.int b3)] (.int (0 : Int32))) :
    MetFree l (⟨"com/example/querytrail/querytrail/trec/IndexTableHashPinLaw", "term", "([BIII)I"⟩ : MethodName) (head1 (Jvm.Cond.code (⟨"com/example/querytrail/querytrail/trec/IndexTableHashPinLaw", "term", "([BIII)I"⟩ : MethodName) method_3_code 4 (some .int) :: ws) ({ frames := 1, cells := 0, slots := 0, locals := 13 } : Room)) (fun a U => a = #[(.ref a1), (.int (1 : Int32)), (.int p1), (.int p2)] ∧ Z.Warmed39 U.vm ∧ U.heap = h0) (fun _ _ _ _ _ => True) (fun _ U o U' => ∃ v L, o = .returned v ∧ Qt1 Z a1 p1 p2 kc b0 b1 b2 b3 h0 n0 v U'.heap L ∧ FrameEnd U o U' L ({ frames := 1, cells := 0, slots := 0, locals := 13 } : Room).cells ({ frames := 1, cells := 0, slots := 0, locals := 13 } : Room).slots) := by
  refine MetFree.of_bodySF (plainFor_of_name pn_0) hisR ?_
  intro p e s m args below meth c s₁ Bd hml0 hP hK
  obtain ⟨rfl, hZ, hh⟩ := hP
  have hx := Bd.exec
  have hby := Bd.bytes
  have hml : c.maxLocals = 4 := hml0
  have hown : s.vm.findClass "com/example/querytrail/querytrail/trec/IndexTableHashPinLaw" = some m.cls := findClass_of_methodNamed Bd.named
  have hnm := (name_of_methodNamed Bd.named Bd.method).1
  have X0 : Stand p l e ({ frames := 1, cells := 0, slots := 0, locals := 13 } : Room) s m #[(.ref a1), (.int (1 : Int32)), (.int p1), (.int p2)] below meth c s₁ [] 0 0 := Stand.of_body Bd
  have e0 : s₁.heap = h0 := by rw [← hh, Bd.state]; rfl
  have N0 := Fr.nil n0
  show OGo p e below (fun s₂ o => ∃ v L, o = .returned v ∧ Qt1 Z a1 p1 p2 kc b0 b1 b2 b3 h0 n0 v s₂.heap L ∧ FrameEnd s o s₂ L ({ frames := 1, cells := 0, slots := 0, locals := 13 } : Room).cells ({ frames := 1, cells := 0, slots := 0, locals := 13 } : Room).slots) _
  refine OGo.to (fun _ k => castTop (ef_t1 m a1 (1 : Int32) p1 p2) k) ?_
  refine OGo.to (fun _ k => XS.iloadN X0.here hx rfl (hb hby d1_0) rfl k) ?_
  show OGo p e below _ (s₁.setTop (mkF m 1 #[.val (.ref a1), .val (.int (1 : Int32)), .val (.int p1), .val (.int p2)] [(.int p1)]))
  refine OGo.to (fun _ k => XS.iloadN X0.here hx rfl (hb hby d1_1) rfl k) ?_
  show OGo p e below _ (s₁.setTop (mkF m 2 #[.val (.ref a1), .val (.int (1 : Int32)), .val (.int p1), .val (.int p2)] [(.int (1 : Int32)), (.int p1)]))
  by_cases hc2_1 : (1 : Int32) < p1
  ·  -- pc 2: yes
    refine OGo.to (fun _ k => XS.icmpYes X0.here hx rfl (pc0 := 2) (pc' := 23) rfl (hb hby d1_2) rfl (tlt hc2_1).2.2.1 (by decide) (by decide) k) ?_
    show OGo p e below _ (s₁.setTop (mkF m 23 #[.val (.ref a1), .val (.int (1 : Int32)), .val (.int p1), .val (.int p2)] []))
    refine OGo.to (fun _ k => XS.iconst X0.here hx rfl (hb hby d1_23) k) ?_
    show OGo p e below _ (s₁.setTop (mkF m 24 #[.val (.ref a1), .val (.int (1 : Int32)), .val (.int p1), .val (.int p2)] [(.int (0 : Int32))]))
    refine OGo.ret (Q := Qt1 Z a1 p1 p2 kc b0 b1 b2 b3 h0 n0) X0 (some (.int (0 : Int32))) (fun h => by rw [Bd.returns] at h; cases h) Bd.notSynchronized (fun fs hr => retI X0 hx Bd.returns (hb hby d1_24) hr) ?_ (by decide) (by decide)
    show Qt1 Z a1 p1 p2 kc b0 b1 b2 b3 h0 n0 _ s₁.heap _
    rw [e0]
    exact ⟨congrArg (fun z => some (Value.int z)) (show (0 : Int32) = (own_term b1 (1 : Int32) p1 p2) from by unfold own_term; rw [if_pos hc2_1]), N0, rfl⟩
  ·  -- pc 2: no
    refine OGo.to (fun _ k => XS.icmpNo X0.here hx rfl (hb hby d1_2) rfl (flt hc2_1).2.2.1 k) ?_
    show OGo p e below _ (s₁.setTop (mkF m 5 #[.val (.ref a1), .val (.int (1 : Int32)), .val (.int p1), .val (.int p2)] []))
    refine OGo.to (fun _ k => XS.iloadN X0.here hx rfl (hb hby d1_5) rfl k) ?_
    show OGo p e below _ (s₁.setTop (mkF m 6 #[.val (.ref a1), .val (.int (1 : Int32)), .val (.int p1), .val (.int p2)] [(.int (1 : Int32))]))
    refine OGo.to (fun _ k => XS.iloadN X0.here hx rfl (hb hby d1_6) rfl k) ?_
    show OGo p e below _ (s₁.setTop (mkF m 7 #[.val (.ref a1), .val (.int (1 : Int32)), .val (.int p1), .val (.int p2)] [(.int p2), (.int (1 : Int32))]))
    by_cases hc7_2 : (1 : Int32) < p2
    ·  -- pc 7: yes
      refine OGo.to (fun _ k => XS.icmpNo X0.here hx rfl (hb hby d1_7) rfl (tlt hc7_2).2.1 k) ?_
      show OGo p e below _ (s₁.setTop (mkF m 10 #[.val (.ref a1), .val (.int (1 : Int32)), .val (.int p1), .val (.int p2)] []))
      refine OGo.to (fun _ k => XS.aloadN X0.here hx rfl (hb hby d1_10) rfl rfl k) ?_
      show OGo p e below _ (s₁.setTop (mkF m 11 #[.val (.ref a1), .val (.int (1 : Int32)), .val (.int p1), .val (.int p2)] [(.ref a1)]))
      refine OGo.to (fun _ k => XS.iloadN X0.here hx rfl (hb hby d1_11) rfl k) ?_
      show OGo p e below _ (s₁.setTop (mkF m 12 #[.val (.ref a1), .val (.int (1 : Int32)), .val (.int p1), .val (.int p2)] [(.int (1 : Int32)), (.ref a1)]))
      have Vq3 := V1
      obtain ⟨cl3, Ar3, q3, S3, M3, Hs3, G3⟩ := Vq3
      have hin4 : ¬ ((1 : Int32) < 0 ∨ cl3.slots.size ≤ ((1 : Int32)).toNatClampNeg) := inb_of S3 ⟨by decide, by decide⟩
      have hat4 : cl3.slots[((1 : Int32)).toNatClampNeg]? = some (.int b1) := Hs3.at hin4 (rfl)
      refine OGo.to (fun _ k => X0.baloadBytes hx (j := (1 : Int32)) (v := (.int b1)) (by rw [e0]; exact Ar3.1) (State.isArrayOf_alike hZ.alike Ar3.2.1) Ar3.2.2 hin4 hat4 (g := (mkF m 12 #[.val (.ref a1), .val (.int (1 : Int32)), .val (.int p1), .val (.int p2)] [(.int (1 : Int32)), (.ref a1)])) rfl rfl (hb hby d1_12) _ k) ?_
      show OGo p e below _ (s₁.setTop (mkF m 13 #[.val (.ref a1), .val (.int (1 : Int32)), .val (.int p1), .val (.int p2)] [(.int b1)]))
      refine OGo.to (fun _ k => XS.iloadN X0.here hx rfl (hb hby d1_13) rfl k) ?_
      show OGo p e below _ (s₁.setTop (mkF m 14 #[.val (.ref a1), .val (.int (1 : Int32)), .val (.int p1), .val (.int p2)] [(.int p2), (.int b1)]))
      refine OGo.to (fun _ k => XS.iconst X0.here hx rfl (hb hby d1_14) k) ?_
      show OGo p e below _ (s₁.setTop (mkF m 15 #[.val (.ref a1), .val (.int (1 : Int32)), .val (.int p1), .val (.int p2)] [(.int (1 : Int32)), (.int p2), (.int b1)]))
      refine OGo.to (fun _ k => XS.isub X0.here hx rfl (hb hby d1_15) rfl k) ?_
      show OGo p e below _ (s₁.setTop (mkF m 16 #[.val (.ref a1), .val (.int (1 : Int32)), .val (.int p1), .val (.int p2)] [(.int (p2 - (1 : Int32))), (.int b1)]))
      refine OGo.to (fun _ k => XS.iloadN X0.here hx rfl (hb hby d1_16) rfl k) ?_
      show OGo p e below _ (s₁.setTop (mkF m 17 #[.val (.ref a1), .val (.int (1 : Int32)), .val (.int p1), .val (.int p2)] [(.int (1 : Int32)), (.int (p2 - (1 : Int32))), (.int b1)]))
      refine OGo.to (fun _ k => XS.isub X0.here hx rfl (hb hby d1_17) rfl k) ?_
      show OGo p e below _ (s₁.setTop (mkF m 18 #[.val (.ref a1), .val (.int (1 : Int32)), .val (.int p1), .val (.int p2)] [(.int ((p2 - (1 : Int32)) - (1 : Int32))), (.int b1)]))
      obtain ⟨_, T5, Lc5, X5, hQ5, st5⟩ := own_un X0 (Q := Q2 Z ((p2 - (1 : Int32)) - (1 : Int32)) h0 n0) (rc := 0) (rs := 0) (W := fun v B => ∀ target, Steps p.tables e below (B.setTop { (mkF m 18 #[.val (.ref a1), .val (.int (1 : Int32)), .val (.int p1), .val (.int p2)] [(.int ((p2 - (1 : Int32)) - (1 : Int32))), (.int b1)]) with pc := 21, stack := v.toList ++ [(.int b1)] }) target → Steps p.tables e below (s₁.setTop (mkF m 18 #[.val (.ref a1), .val (.int (1 : Int32)), .val (.int p1), .val (.int p2)] [(.int ((p2 - (1 : Int32)) - (1 : Int32))), (.int b1)])) target) <| Jvm.LawKit.callS X0 hx (y := (⟨"com/example/querytrail/querytrail/trec/IndexTableHashPinLaw", "pow31", "(I)I"⟩ : MethodName)) hown (mvT hZ (hw _ (List.mem_of_getElem? (i := 6) rfl))) (mvT hZ (hw _ (List.mem_of_getElem? (i := 7) rfl))) (mvT hZ (hw _ (List.mem_of_getElem? (i := 4) rfl))) (mvT hZ (hw _ (List.mem_of_getElem? (i := 8) rfl))) (by decide) (backOf (W := 1) (rm2 l Z a0 hw [] ((p2 - (1 : Int32)) - (1 : Int32)) h0 n0 Z0 ) hZ (hw _ (List.mem_of_getElem? (i := 8) rfl)) (hw _ (List.mem_of_getElem? (i := 4) rfl)) (by decide) (by decide)) (g := (mkF m 18 #[.val (.ref a1), .val (.int (1 : Int32)), .val (.int p1), .val (.int p2)] [(.int ((p2 - (1 : Int32)) - (1 : Int32))), (.int b1)])) rfl (by rw [hml]; rfl) (argsL := [(.int ((p2 - (1 : Int32)) - (1 : Int32)))]) (rest := [(.int b1)]) (lenOf pd_0 rfl) rfl (by show 2 * 0 + _ ≤ _; exact Nat.le_of_eq rfl) (hb hby d1_18) (fun _ _ => ⟨rfl, e0, (by decide : 0 + 0 ≤ _), (by decide : 0 + 0 ≤ _)⟩)
      obtain ⟨rfl, N5q, e5⟩ := hQ5
      have N5 := Fr.app N0 N5q
      refine OGo.to st5 ?_
      show OGo p e below _ (T5.setTop (mkF m 21 #[.val (.ref a1), .val (.int (1 : Int32)), .val (.int p1), .val (.int p2)] [(.int (own_pow ((p2 - (1 : Int32)) - (1 : Int32)))), (.int b1)]))
      refine OGo.to (fun _ k => XS.imul X5.here hx rfl (hb hby d1_21) rfl k) ?_
      show OGo p e below _ (T5.setTop (mkF m 22 #[.val (.ref a1), .val (.int (1 : Int32)), .val (.int p1), .val (.int p2)] [(.int (b1 * (own_pow ((p2 - (1 : Int32)) - (1 : Int32)))))]))
      refine OGo.ret (Q := Qt1 Z a1 p1 p2 kc b0 b1 b2 b3 h0 n0) X5 (some (.int (b1 * (own_pow ((p2 - (1 : Int32)) - (1 : Int32)))))) (fun h => by rw [Bd.returns] at h; cases h) Bd.notSynchronized (fun fs hr => retI X5 hx Bd.returns (hb hby d1_22) hr) ?_ (by decide) (by decide)
      show Qt1 Z a1 p1 p2 kc b0 b1 b2 b3 h0 n0 _ T5.heap _
      rw [e5]
      exact ⟨congrArg (fun z => some (Value.int z)) (show (b1 * (own_pow ((p2 - (1 : Int32)) - (1 : Int32)))) = (own_term b1 (1 : Int32) p1 p2) from by unfold own_term; rw [if_neg hc2_1, if_pos hc7_2]), N5, rfl⟩
    ·  -- pc 7: no
      refine OGo.to (fun _ k => XS.icmpYes X0.here hx rfl (pc0 := 7) (pc' := 23) rfl (hb hby d1_7) rfl (flt hc7_2).2.1 (by decide) (by decide) k) ?_
      show OGo p e below _ (s₁.setTop (mkF m 23 #[.val (.ref a1), .val (.int (1 : Int32)), .val (.int p1), .val (.int p2)] []))
      refine OGo.to (fun _ k => XS.iconst X0.here hx rfl (hb hby d1_23) k) ?_
      show OGo p e below _ (s₁.setTop (mkF m 24 #[.val (.ref a1), .val (.int (1 : Int32)), .val (.int p1), .val (.int p2)] [(.int (0 : Int32))]))
      refine OGo.ret (Q := Qt1 Z a1 p1 p2 kc b0 b1 b2 b3 h0 n0) X0 (some (.int (0 : Int32))) (fun h => by rw [Bd.returns] at h; cases h) Bd.notSynchronized (fun fs hr => retI X0 hx Bd.returns (hb hby d1_24) hr) ?_ (by decide) (by decide)
      show Qt1 Z a1 p1 p2 kc b0 b1 b2 b3 h0 n0 _ s₁.heap _
      rw [e0]
      exact ⟨congrArg (fun z => some (Value.int z)) (show (0 : Int32) = (own_term b1 (1 : Int32) p1 p2) from by unfold own_term; rw [if_neg hc2_1, if_neg hc7_2]), N0, rfl⟩
theorem ef_t2 (m : MethodId) (x0 : Addr) (x1 : Int32) (x2 : Int32) (x3 : Int32) : entryFrame m #[(.ref x0), (.int x1), (.int x2), (.int x3)] 4 = mkF m 0 #[.val (.ref x0), .val (.int x1), .val (.int x2), .val (.int x3)] [] := by first | (simp [entryFrame, mkF, argsToLocals, Value.category]; done) | rfl
def Qt2 (Z : State) (a1 : Addr) (p1 : Int32) (p2 : Int32) (kc : ClassId) (b0 : Int32) (b1 : Int32) (b2 : Int32) (b3 : Int32) (h0 : Heap) (n0 : Nat) (v : Option Value) (h : Heap) (L : List Loc) : Prop := v = some (.int (own_term b2 (2 : Int32) p1 p2)) ∧ Fr n0 L ∧ h = h0
set_option maxRecDepth 65536 in
set_option maxHeartbeats 40000000 in
theorem rmt2 (l : Launch) (Z : State) (a0 : Array Value) (hw : ∀ d ∈ tables_1, d.before a0 Z = true) (ws : List Jvm.Cond) (a1 : Addr) (p1 : Int32) (p2 : Int32) (kc : ClassId) (b0 : Int32) (b1 : Int32) (b2 : Int32) (b3 : Int32) (h0 : Heap) (n0 : Nat) (Z0 : n0 ≤ h0.size) (V1 : Arv Z h0 a1 kc .byte (4 : Int32) [(.int b0), (.int b1), (.int b2), (.int b3)] (.int (0 : Int32))) :
    MetFree l (⟨"com/example/querytrail/querytrail/trec/IndexTableHashPinLaw", "term", "([BIII)I"⟩ : MethodName) (head1 (Jvm.Cond.code (⟨"com/example/querytrail/querytrail/trec/IndexTableHashPinLaw", "term", "([BIII)I"⟩ : MethodName) method_3_code 4 (some .int) :: ws) ({ frames := 1, cells := 0, slots := 0, locals := 13 } : Room)) (fun a U => a = #[(.ref a1), (.int (2 : Int32)), (.int p1), (.int p2)] ∧ Z.Warmed39 U.vm ∧ U.heap = h0) (fun _ _ _ _ _ => True) (fun _ U o U' => ∃ v L, o = .returned v ∧ Qt2 Z a1 p1 p2 kc b0 b1 b2 b3 h0 n0 v U'.heap L ∧ FrameEnd U o U' L ({ frames := 1, cells := 0, slots := 0, locals := 13 } : Room).cells ({ frames := 1, cells := 0, slots := 0, locals := 13 } : Room).slots) := by
  refine MetFree.of_bodySF (plainFor_of_name pn_0) hisR ?_
  intro p e s m args below meth c s₁ Bd hml0 hP hK
  obtain ⟨rfl, hZ, hh⟩ := hP
  have hx := Bd.exec
  have hby := Bd.bytes
  have hml : c.maxLocals = 4 := hml0
  have hown : s.vm.findClass "com/example/querytrail/querytrail/trec/IndexTableHashPinLaw" = some m.cls := findClass_of_methodNamed Bd.named
  have hnm := (name_of_methodNamed Bd.named Bd.method).1
  have X0 : Stand p l e ({ frames := 1, cells := 0, slots := 0, locals := 13 } : Room) s m #[(.ref a1), (.int (2 : Int32)), (.int p1), (.int p2)] below meth c s₁ [] 0 0 := Stand.of_body Bd
  have e0 : s₁.heap = h0 := by rw [← hh, Bd.state]; rfl
  have N0 := Fr.nil n0
  show OGo p e below (fun s₂ o => ∃ v L, o = .returned v ∧ Qt2 Z a1 p1 p2 kc b0 b1 b2 b3 h0 n0 v s₂.heap L ∧ FrameEnd s o s₂ L ({ frames := 1, cells := 0, slots := 0, locals := 13 } : Room).cells ({ frames := 1, cells := 0, slots := 0, locals := 13 } : Room).slots) _
  refine OGo.to (fun _ k => castTop (ef_t2 m a1 (2 : Int32) p1 p2) k) ?_
  refine OGo.to (fun _ k => XS.iloadN X0.here hx rfl (hb hby d1_0) rfl k) ?_
  show OGo p e below _ (s₁.setTop (mkF m 1 #[.val (.ref a1), .val (.int (2 : Int32)), .val (.int p1), .val (.int p2)] [(.int p1)]))
  refine OGo.to (fun _ k => XS.iloadN X0.here hx rfl (hb hby d1_1) rfl k) ?_
  show OGo p e below _ (s₁.setTop (mkF m 2 #[.val (.ref a1), .val (.int (2 : Int32)), .val (.int p1), .val (.int p2)] [(.int (2 : Int32)), (.int p1)]))
  by_cases hc2_1 : (2 : Int32) < p1
  ·  -- pc 2: yes
    refine OGo.to (fun _ k => XS.icmpYes X0.here hx rfl (pc0 := 2) (pc' := 23) rfl (hb hby d1_2) rfl (tlt hc2_1).2.2.1 (by decide) (by decide) k) ?_
    show OGo p e below _ (s₁.setTop (mkF m 23 #[.val (.ref a1), .val (.int (2 : Int32)), .val (.int p1), .val (.int p2)] []))
    refine OGo.to (fun _ k => XS.iconst X0.here hx rfl (hb hby d1_23) k) ?_
    show OGo p e below _ (s₁.setTop (mkF m 24 #[.val (.ref a1), .val (.int (2 : Int32)), .val (.int p1), .val (.int p2)] [(.int (0 : Int32))]))
    refine OGo.ret (Q := Qt2 Z a1 p1 p2 kc b0 b1 b2 b3 h0 n0) X0 (some (.int (0 : Int32))) (fun h => by rw [Bd.returns] at h; cases h) Bd.notSynchronized (fun fs hr => retI X0 hx Bd.returns (hb hby d1_24) hr) ?_ (by decide) (by decide)
    show Qt2 Z a1 p1 p2 kc b0 b1 b2 b3 h0 n0 _ s₁.heap _
    rw [e0]
    exact ⟨congrArg (fun z => some (Value.int z)) (show (0 : Int32) = (own_term b2 (2 : Int32) p1 p2) from by unfold own_term; rw [if_pos hc2_1]), N0, rfl⟩
  ·  -- pc 2: no
    refine OGo.to (fun _ k => XS.icmpNo X0.here hx rfl (hb hby d1_2) rfl (flt hc2_1).2.2.1 k) ?_
    show OGo p e below _ (s₁.setTop (mkF m 5 #[.val (.ref a1), .val (.int (2 : Int32)), .val (.int p1), .val (.int p2)] []))
    refine OGo.to (fun _ k => XS.iloadN X0.here hx rfl (hb hby d1_5) rfl k) ?_
    show OGo p e below _ (s₁.setTop (mkF m 6 #[.val (.ref a1), .val (.int (2 : Int32)), .val (.int p1), .val (.int p2)] [(.int (2 : Int32))]))
    refine OGo.to (fun _ k => XS.iloadN X0.here hx rfl (hb hby d1_6) rfl k) ?_
    show OGo p e below _ (s₁.setTop (mkF m 7 #[.val (.ref a1), .val (.int (2 : Int32)), .val (.int p1), .val (.int p2)] [(.int p2), (.int (2 : Int32))]))
    by_cases hc7_2 : (2 : Int32) < p2
    ·  -- pc 7: yes
      refine OGo.to (fun _ k => XS.icmpNo X0.here hx rfl (hb hby d1_7) rfl (tlt hc7_2).2.1 k) ?_
      show OGo p e below _ (s₁.setTop (mkF m 10 #[.val (.ref a1), .val (.int (2 : Int32)), .val (.int p1), .val (.int p2)] []))
      refine OGo.to (fun _ k => XS.aloadN X0.here hx rfl (hb hby d1_10) rfl rfl k) ?_
      show OGo p e below _ (s₁.setTop (mkF m 11 #[.val (.ref a1), .val (.int (2 : Int32)), .val (.int p1), .val (.int p2)] [(.ref a1)]))
      refine OGo.to (fun _ k => XS.iloadN X0.here hx rfl (hb hby d1_11) rfl k) ?_
      show OGo p e below _ (s₁.setTop (mkF m 12 #[.val (.ref a1), .val (.int (2 : Int32)), .val (.int p1), .val (.int p2)] [(.int (2 : Int32)), (.ref a1)]))
      have Vq3 := V1
      obtain ⟨cl3, Ar3, q3, S3, M3, Hs3, G3⟩ := Vq3
      have hin4 : ¬ ((2 : Int32) < 0 ∨ cl3.slots.size ≤ ((2 : Int32)).toNatClampNeg) := inb_of S3 ⟨by decide, by decide⟩
      have hat4 : cl3.slots[((2 : Int32)).toNatClampNeg]? = some (.int b2) := Hs3.at hin4 (rfl)
      refine OGo.to (fun _ k => X0.baloadBytes hx (j := (2 : Int32)) (v := (.int b2)) (by rw [e0]; exact Ar3.1) (State.isArrayOf_alike hZ.alike Ar3.2.1) Ar3.2.2 hin4 hat4 (g := (mkF m 12 #[.val (.ref a1), .val (.int (2 : Int32)), .val (.int p1), .val (.int p2)] [(.int (2 : Int32)), (.ref a1)])) rfl rfl (hb hby d1_12) _ k) ?_
      show OGo p e below _ (s₁.setTop (mkF m 13 #[.val (.ref a1), .val (.int (2 : Int32)), .val (.int p1), .val (.int p2)] [(.int b2)]))
      refine OGo.to (fun _ k => XS.iloadN X0.here hx rfl (hb hby d1_13) rfl k) ?_
      show OGo p e below _ (s₁.setTop (mkF m 14 #[.val (.ref a1), .val (.int (2 : Int32)), .val (.int p1), .val (.int p2)] [(.int p2), (.int b2)]))
      refine OGo.to (fun _ k => XS.iconst X0.here hx rfl (hb hby d1_14) k) ?_
      show OGo p e below _ (s₁.setTop (mkF m 15 #[.val (.ref a1), .val (.int (2 : Int32)), .val (.int p1), .val (.int p2)] [(.int (1 : Int32)), (.int p2), (.int b2)]))
      refine OGo.to (fun _ k => XS.isub X0.here hx rfl (hb hby d1_15) rfl k) ?_
      show OGo p e below _ (s₁.setTop (mkF m 16 #[.val (.ref a1), .val (.int (2 : Int32)), .val (.int p1), .val (.int p2)] [(.int (p2 - (1 : Int32))), (.int b2)]))
      refine OGo.to (fun _ k => XS.iloadN X0.here hx rfl (hb hby d1_16) rfl k) ?_
      show OGo p e below _ (s₁.setTop (mkF m 17 #[.val (.ref a1), .val (.int (2 : Int32)), .val (.int p1), .val (.int p2)] [(.int (2 : Int32)), (.int (p2 - (1 : Int32))), (.int b2)]))
      refine OGo.to (fun _ k => XS.isub X0.here hx rfl (hb hby d1_17) rfl k) ?_
      show OGo p e below _ (s₁.setTop (mkF m 18 #[.val (.ref a1), .val (.int (2 : Int32)), .val (.int p1), .val (.int p2)] [(.int ((p2 - (1 : Int32)) - (2 : Int32))), (.int b2)]))
      obtain ⟨_, T5, Lc5, X5, hQ5, st5⟩ := own_un X0 (Q := Q2 Z ((p2 - (1 : Int32)) - (2 : Int32)) h0 n0) (rc := 0) (rs := 0) (W := fun v B => ∀ target, Steps p.tables e below (B.setTop { (mkF m 18 #[.val (.ref a1), .val (.int (2 : Int32)), .val (.int p1), .val (.int p2)] [(.int ((p2 - (1 : Int32)) - (2 : Int32))), (.int b2)]) with pc := 21, stack := v.toList ++ [(.int b2)] }) target → Steps p.tables e below (s₁.setTop (mkF m 18 #[.val (.ref a1), .val (.int (2 : Int32)), .val (.int p1), .val (.int p2)] [(.int ((p2 - (1 : Int32)) - (2 : Int32))), (.int b2)])) target) <| Jvm.LawKit.callS X0 hx (y := (⟨"com/example/querytrail/querytrail/trec/IndexTableHashPinLaw", "pow31", "(I)I"⟩ : MethodName)) hown (mvT hZ (hw _ (List.mem_of_getElem? (i := 6) rfl))) (mvT hZ (hw _ (List.mem_of_getElem? (i := 7) rfl))) (mvT hZ (hw _ (List.mem_of_getElem? (i := 4) rfl))) (mvT hZ (hw _ (List.mem_of_getElem? (i := 8) rfl))) (by decide) (backOf (W := 1) (rm2 l Z a0 hw [] ((p2 - (1 : Int32)) - (2 : Int32)) h0 n0 Z0 ) hZ (hw _ (List.mem_of_getElem? (i := 8) rfl)) (hw _ (List.mem_of_getElem? (i := 4) rfl)) (by decide) (by decide)) (g := (mkF m 18 #[.val (.ref a1), .val (.int (2 : Int32)), .val (.int p1), .val (.int p2)] [(.int ((p2 - (1 : Int32)) - (2 : Int32))), (.int b2)])) rfl (by rw [hml]; rfl) (argsL := [(.int ((p2 - (1 : Int32)) - (2 : Int32)))]) (rest := [(.int b2)]) (lenOf pd_0 rfl) rfl (by show 2 * 0 + _ ≤ _; exact Nat.le_of_eq rfl) (hb hby d1_18) (fun _ _ => ⟨rfl, e0, (by decide : 0 + 0 ≤ _), (by decide : 0 + 0 ≤ _)⟩)
      obtain ⟨rfl, N5q, e5⟩ := hQ5
      have N5 := Fr.app N0 N5q
      refine OGo.to st5 ?_
      show OGo p e below _ (T5.setTop (mkF m 21 #[.val (.ref a1), .val (.int (2 : Int32)), .val (.int p1), .val (.int p2)] [(.int (own_pow ((p2 - (1 : Int32)) - (2 : Int32)))), (.int b2)]))
      refine OGo.to (fun _ k => XS.imul X5.here hx rfl (hb hby d1_21) rfl k) ?_
      show OGo p e below _ (T5.setTop (mkF m 22 #[.val (.ref a1), .val (.int (2 : Int32)), .val (.int p1), .val (.int p2)] [(.int (b2 * (own_pow ((p2 - (1 : Int32)) - (2 : Int32)))))]))
      refine OGo.ret (Q := Qt2 Z a1 p1 p2 kc b0 b1 b2 b3 h0 n0) X5 (some (.int (b2 * (own_pow ((p2 - (1 : Int32)) - (2 : Int32)))))) (fun h => by rw [Bd.returns] at h; cases h) Bd.notSynchronized (fun fs hr => retI X5 hx Bd.returns (hb hby d1_22) hr) ?_ (by decide) (by decide)
      show Qt2 Z a1 p1 p2 kc b0 b1 b2 b3 h0 n0 _ T5.heap _
      rw [e5]
      exact ⟨congrArg (fun z => some (Value.int z)) (show (b2 * (own_pow ((p2 - (1 : Int32)) - (2 : Int32)))) = (own_term b2 (2 : Int32) p1 p2) from by unfold own_term; rw [if_neg hc2_1, if_pos hc7_2]), N5, rfl⟩
    ·  -- pc 7: no
      refine OGo.to (fun _ k => XS.icmpYes X0.here hx rfl (pc0 := 7) (pc' := 23) rfl (hb hby d1_7) rfl (flt hc7_2).2.1 (by decide) (by decide) k) ?_
      show OGo p e below _ (s₁.setTop (mkF m 23 #[.val (.ref a1), .val (.int (2 : Int32)), .val (.int p1), .val (.int p2)] []))
      refine OGo.to (fun _ k => XS.iconst X0.here hx rfl (hb hby d1_23) k) ?_
      show OGo p e below _ (s₁.setTop (mkF m 24 #[.val (.ref a1), .val (.int (2 : Int32)), .val (.int p1), .val (.int p2)] [(.int (0 : Int32))]))
      refine OGo.ret (Q := Qt2 Z a1 p1 p2 kc b0 b1 b2 b3 h0 n0) X0 (some (.int (0 : Int32))) (fun h => by rw [Bd.returns] at h; cases h) Bd.notSynchronized (fun fs hr => retI X0 hx Bd.returns (hb hby d1_24) hr) ?_ (by decide) (by decide)
      show Qt2 Z a1 p1 p2 kc b0 b1 b2 b3 h0 n0 _ s₁.heap _
      rw [e0]
      exact ⟨congrArg (fun z => some (Value.int z)) (show (0 : Int32) = (own_term b2 (2 : Int32) p1 p2) from by unfold own_term; rw [if_neg hc2_1, if_neg hc7_2]), N0, rfl⟩
theorem ef_t3 (m : MethodId) (x0 : Addr) (x1 : Int32) (x2 : Int32) (x3 : Int32) : entryFrame m #[(.ref x0), (.int x1), (.int x2), (.int x3)] 4 = mkF m 0 #[.val (.ref x0), .val (.int x1), .val (.int x2), .val (.int x3)] [] := by first | (simp [entryFrame, mkF, argsToLocals, Value.category]; done) | rfl
def Qt3 (Z : State) (a1 : Addr) (p1 : Int32) (p2 : Int32) (kc : ClassId) (b0 : Int32) (b1 : Int32) (b2 : Int32) (b3 : Int32) (h0 : Heap) (n0 : Nat) (v : Option Value) (h : Heap) (L : List Loc) : Prop := v = some (.int (own_term b3 (3 : Int32) p1 p2)) ∧ Fr n0 L ∧ h = h0
set_option maxRecDepth 65536 in
set_option maxHeartbeats 40000000 in
theorem rmt3 (l : Launch) (Z : State) (a0 : Array Value) (hw : ∀ d ∈ tables_1, d.before a0 Z = true) (ws : List Jvm.Cond) (a1 : Addr) (p1 : Int32) (p2 : Int32) (kc : ClassId) (b0 : Int32) (b1 : Int32) (b2 : Int32) (b3 : Int32) (h0 : Heap) (n0 : Nat) (Z0 : n0 ≤ h0.size) (V1 : Arv Z h0 a1 kc .byte (4 : Int32) [(.int b0), (.int b1), (.int b2), (.int b3)] (.int (0 : Int32))) :
    MetFree l (⟨"com/example/querytrail/querytrail/trec/IndexTableHashPinLaw", "term", "([BIII)I"⟩ : MethodName) (head1 (Jvm.Cond.code (⟨"com/example/querytrail/querytrail/trec/IndexTableHashPinLaw", "term", "([BIII)I"⟩ : MethodName) method_3_code 4 (some .int) :: ws) ({ frames := 1, cells := 0, slots := 0, locals := 13 } : Room)) (fun a U => a = #[(.ref a1), (.int (3 : Int32)), (.int p1), (.int p2)] ∧ Z.Warmed39 U.vm ∧ U.heap = h0) (fun _ _ _ _ _ => True) (fun _ U o U' => ∃ v L, o = .returned v ∧ Qt3 Z a1 p1 p2 kc b0 b1 b2 b3 h0 n0 v U'.heap L ∧ FrameEnd U o U' L ({ frames := 1, cells := 0, slots := 0, locals := 13 } : Room).cells ({ frames := 1, cells := 0, slots := 0, locals := 13 } : Room).slots) := by
  refine MetFree.of_bodySF (plainFor_of_name pn_0) hisR ?_
  intro p e s m args below meth c s₁ Bd hml0 hP hK
  obtain ⟨rfl, hZ, hh⟩ := hP
  have hx := Bd.exec
  have hby := Bd.bytes
  have hml : c.maxLocals = 4 := hml0
  have hown : s.vm.findClass "com/example/querytrail/querytrail/trec/IndexTableHashPinLaw" = some m.cls := findClass_of_methodNamed Bd.named
  have hnm := (name_of_methodNamed Bd.named Bd.method).1
  have X0 : Stand p l e ({ frames := 1, cells := 0, slots := 0, locals := 13 } : Room) s m #[(.ref a1), (.int (3 : Int32)), (.int p1), (.int p2)] below meth c s₁ [] 0 0 := Stand.of_body Bd
  have e0 : s₁.heap = h0 := by rw [← hh, Bd.state]; rfl
  have N0 := Fr.nil n0
  show OGo p e below (fun s₂ o => ∃ v L, o = .returned v ∧ Qt3 Z a1 p1 p2 kc b0 b1 b2 b3 h0 n0 v s₂.heap L ∧ FrameEnd s o s₂ L ({ frames := 1, cells := 0, slots := 0, locals := 13 } : Room).cells ({ frames := 1, cells := 0, slots := 0, locals := 13 } : Room).slots) _
  refine OGo.to (fun _ k => castTop (ef_t3 m a1 (3 : Int32) p1 p2) k) ?_
  refine OGo.to (fun _ k => XS.iloadN X0.here hx rfl (hb hby d1_0) rfl k) ?_
  show OGo p e below _ (s₁.setTop (mkF m 1 #[.val (.ref a1), .val (.int (3 : Int32)), .val (.int p1), .val (.int p2)] [(.int p1)]))
  refine OGo.to (fun _ k => XS.iloadN X0.here hx rfl (hb hby d1_1) rfl k) ?_
  show OGo p e below _ (s₁.setTop (mkF m 2 #[.val (.ref a1), .val (.int (3 : Int32)), .val (.int p1), .val (.int p2)] [(.int (3 : Int32)), (.int p1)]))
  by_cases hc2_1 : (3 : Int32) < p1
  ·  -- pc 2: yes
    refine OGo.to (fun _ k => XS.icmpYes X0.here hx rfl (pc0 := 2) (pc' := 23) rfl (hb hby d1_2) rfl (tlt hc2_1).2.2.1 (by decide) (by decide) k) ?_
    show OGo p e below _ (s₁.setTop (mkF m 23 #[.val (.ref a1), .val (.int (3 : Int32)), .val (.int p1), .val (.int p2)] []))
    refine OGo.to (fun _ k => XS.iconst X0.here hx rfl (hb hby d1_23) k) ?_
    show OGo p e below _ (s₁.setTop (mkF m 24 #[.val (.ref a1), .val (.int (3 : Int32)), .val (.int p1), .val (.int p2)] [(.int (0 : Int32))]))
    refine OGo.ret (Q := Qt3 Z a1 p1 p2 kc b0 b1 b2 b3 h0 n0) X0 (some (.int (0 : Int32))) (fun h => by rw [Bd.returns] at h; cases h) Bd.notSynchronized (fun fs hr => retI X0 hx Bd.returns (hb hby d1_24) hr) ?_ (by decide) (by decide)
    show Qt3 Z a1 p1 p2 kc b0 b1 b2 b3 h0 n0 _ s₁.heap _
    rw [e0]
    exact ⟨congrArg (fun z => some (Value.int z)) (show (0 : Int32) = (own_term b3 (3 : Int32) p1 p2) from by unfold own_term; rw [if_pos hc2_1]), N0, rfl⟩
  ·  -- pc 2: no
    refine OGo.to (fun _ k => XS.icmpNo X0.here hx rfl (hb hby d1_2) rfl (flt hc2_1).2.2.1 k) ?_
    show OGo p e below _ (s₁.setTop (mkF m 5 #[.val (.ref a1), .val (.int (3 : Int32)), .val (.int p1), .val (.int p2)] []))
    refine OGo.to (fun _ k => XS.iloadN X0.here hx rfl (hb hby d1_5) rfl k) ?_
    show OGo p e below _ (s₁.setTop (mkF m 6 #[.val (.ref a1), .val (.int (3 : Int32)), .val (.int p1), .val (.int p2)] [(.int (3 : Int32))]))
    refine OGo.to (fun _ k => XS.iloadN X0.here hx rfl (hb hby d1_6) rfl k) ?_
    show OGo p e below _ (s₁.setTop (mkF m 7 #[.val (.ref a1), .val (.int (3 : Int32)), .val (.int p1), .val (.int p2)] [(.int p2), (.int (3 : Int32))]))
    by_cases hc7_2 : (3 : Int32) < p2
    ·  -- pc 7: yes
      refine OGo.to (fun _ k => XS.icmpNo X0.here hx rfl (hb hby d1_7) rfl (tlt hc7_2).2.1 k) ?_
      show OGo p e below _ (s₁.setTop (mkF m 10 #[.val (.ref a1), .val (.int (3 : Int32)), .val (.int p1), .val (.int p2)] []))
      refine OGo.to (fun _ k => XS.aloadN X0.here hx rfl (hb hby d1_10) rfl rfl k) ?_
      show OGo p e below _ (s₁.setTop (mkF m 11 #[.val (.ref a1), .val (.int (3 : Int32)), .val (.int p1), .val (.int p2)] [(.ref a1)]))
      refine OGo.to (fun _ k => XS.iloadN X0.here hx rfl (hb hby d1_11) rfl k) ?_
      show OGo p e below _ (s₁.setTop (mkF m 12 #[.val (.ref a1), .val (.int (3 : Int32)), .val (.int p1), .val (.int p2)] [(.int (3 : Int32)), (.ref a1)]))
      have Vq3 := V1
      obtain ⟨cl3, Ar3, q3, S3, M3, Hs3, G3⟩ := Vq3
      have hin4 : ¬ ((3 : Int32) < 0 ∨ cl3.slots.size ≤ ((3 : Int32)).toNatClampNeg) := inb_of S3 ⟨by decide, by decide⟩
      have hat4 : cl3.slots[((3 : Int32)).toNatClampNeg]? = some (.int b3) := Hs3.at hin4 (rfl)
      refine OGo.to (fun _ k => X0.baloadBytes hx (j := (3 : Int32)) (v := (.int b3)) (by rw [e0]; exact Ar3.1) (State.isArrayOf_alike hZ.alike Ar3.2.1) Ar3.2.2 hin4 hat4 (g := (mkF m 12 #[.val (.ref a1), .val (.int (3 : Int32)), .val (.int p1), .val (.int p2)] [(.int (3 : Int32)), (.ref a1)])) rfl rfl (hb hby d1_12) _ k) ?_
      show OGo p e below _ (s₁.setTop (mkF m 13 #[.val (.ref a1), .val (.int (3 : Int32)), .val (.int p1), .val (.int p2)] [(.int b3)]))
      refine OGo.to (fun _ k => XS.iloadN X0.here hx rfl (hb hby d1_13) rfl k) ?_
      show OGo p e below _ (s₁.setTop (mkF m 14 #[.val (.ref a1), .val (.int (3 : Int32)), .val (.int p1), .val (.int p2)] [(.int p2), (.int b3)]))
      refine OGo.to (fun _ k => XS.iconst X0.here hx rfl (hb hby d1_14) k) ?_
      show OGo p e below _ (s₁.setTop (mkF m 15 #[.val (.ref a1), .val (.int (3 : Int32)), .val (.int p1), .val (.int p2)] [(.int (1 : Int32)), (.int p2), (.int b3)]))
      refine OGo.to (fun _ k => XS.isub X0.here hx rfl (hb hby d1_15) rfl k) ?_
      show OGo p e below _ (s₁.setTop (mkF m 16 #[.val (.ref a1), .val (.int (3 : Int32)), .val (.int p1), .val (.int p2)] [(.int (p2 - (1 : Int32))), (.int b3)]))
      refine OGo.to (fun _ k => XS.iloadN X0.here hx rfl (hb hby d1_16) rfl k) ?_
      show OGo p e below _ (s₁.setTop (mkF m 17 #[.val (.ref a1), .val (.int (3 : Int32)), .val (.int p1), .val (.int p2)] [(.int (3 : Int32)), (.int (p2 - (1 : Int32))), (.int b3)]))
      refine OGo.to (fun _ k => XS.isub X0.here hx rfl (hb hby d1_17) rfl k) ?_
      show OGo p e below _ (s₁.setTop (mkF m 18 #[.val (.ref a1), .val (.int (3 : Int32)), .val (.int p1), .val (.int p2)] [(.int ((p2 - (1 : Int32)) - (3 : Int32))), (.int b3)]))
      obtain ⟨_, T5, Lc5, X5, hQ5, st5⟩ := own_un X0 (Q := Q2 Z ((p2 - (1 : Int32)) - (3 : Int32)) h0 n0) (rc := 0) (rs := 0) (W := fun v B => ∀ target, Steps p.tables e below (B.setTop { (mkF m 18 #[.val (.ref a1), .val (.int (3 : Int32)), .val (.int p1), .val (.int p2)] [(.int ((p2 - (1 : Int32)) - (3 : Int32))), (.int b3)]) with pc := 21, stack := v.toList ++ [(.int b3)] }) target → Steps p.tables e below (s₁.setTop (mkF m 18 #[.val (.ref a1), .val (.int (3 : Int32)), .val (.int p1), .val (.int p2)] [(.int ((p2 - (1 : Int32)) - (3 : Int32))), (.int b3)])) target) <| Jvm.LawKit.callS X0 hx (y := (⟨"com/example/querytrail/querytrail/trec/IndexTableHashPinLaw", "pow31", "(I)I"⟩ : MethodName)) hown (mvT hZ (hw _ (List.mem_of_getElem? (i := 6) rfl))) (mvT hZ (hw _ (List.mem_of_getElem? (i := 7) rfl))) (mvT hZ (hw _ (List.mem_of_getElem? (i := 4) rfl))) (mvT hZ (hw _ (List.mem_of_getElem? (i := 8) rfl))) (by decide) (backOf (W := 1) (rm2 l Z a0 hw [] ((p2 - (1 : Int32)) - (3 : Int32)) h0 n0 Z0 ) hZ (hw _ (List.mem_of_getElem? (i := 8) rfl)) (hw _ (List.mem_of_getElem? (i := 4) rfl)) (by decide) (by decide)) (g := (mkF m 18 #[.val (.ref a1), .val (.int (3 : Int32)), .val (.int p1), .val (.int p2)] [(.int ((p2 - (1 : Int32)) - (3 : Int32))), (.int b3)])) rfl (by rw [hml]; rfl) (argsL := [(.int ((p2 - (1 : Int32)) - (3 : Int32)))]) (rest := [(.int b3)]) (lenOf pd_0 rfl) rfl (by show 2 * 0 + _ ≤ _; exact Nat.le_of_eq rfl) (hb hby d1_18) (fun _ _ => ⟨rfl, e0, (by decide : 0 + 0 ≤ _), (by decide : 0 + 0 ≤ _)⟩)
      obtain ⟨rfl, N5q, e5⟩ := hQ5
      have N5 := Fr.app N0 N5q
      refine OGo.to st5 ?_
      show OGo p e below _ (T5.setTop (mkF m 21 #[.val (.ref a1), .val (.int (3 : Int32)), .val (.int p1), .val (.int p2)] [(.int (own_pow ((p2 - (1 : Int32)) - (3 : Int32)))), (.int b3)]))
      refine OGo.to (fun _ k => XS.imul X5.here hx rfl (hb hby d1_21) rfl k) ?_
      show OGo p e below _ (T5.setTop (mkF m 22 #[.val (.ref a1), .val (.int (3 : Int32)), .val (.int p1), .val (.int p2)] [(.int (b3 * (own_pow ((p2 - (1 : Int32)) - (3 : Int32)))))]))
      refine OGo.ret (Q := Qt3 Z a1 p1 p2 kc b0 b1 b2 b3 h0 n0) X5 (some (.int (b3 * (own_pow ((p2 - (1 : Int32)) - (3 : Int32)))))) (fun h => by rw [Bd.returns] at h; cases h) Bd.notSynchronized (fun fs hr => retI X5 hx Bd.returns (hb hby d1_22) hr) ?_ (by decide) (by decide)
      show Qt3 Z a1 p1 p2 kc b0 b1 b2 b3 h0 n0 _ T5.heap _
      rw [e5]
      exact ⟨congrArg (fun z => some (Value.int z)) (show (b3 * (own_pow ((p2 - (1 : Int32)) - (3 : Int32)))) = (own_term b3 (3 : Int32) p1 p2) from by unfold own_term; rw [if_neg hc2_1, if_pos hc7_2]), N5, rfl⟩
    ·  -- pc 7: no
      refine OGo.to (fun _ k => XS.icmpYes X0.here hx rfl (pc0 := 7) (pc' := 23) rfl (hb hby d1_7) rfl (flt hc7_2).2.1 (by decide) (by decide) k) ?_
      show OGo p e below _ (s₁.setTop (mkF m 23 #[.val (.ref a1), .val (.int (3 : Int32)), .val (.int p1), .val (.int p2)] []))
      refine OGo.to (fun _ k => XS.iconst X0.here hx rfl (hb hby d1_23) k) ?_
      show OGo p e below _ (s₁.setTop (mkF m 24 #[.val (.ref a1), .val (.int (3 : Int32)), .val (.int p1), .val (.int p2)] [(.int (0 : Int32))]))
      refine OGo.ret (Q := Qt3 Z a1 p1 p2 kc b0 b1 b2 b3 h0 n0) X0 (some (.int (0 : Int32))) (fun h => by rw [Bd.returns] at h; cases h) Bd.notSynchronized (fun fs hr => retI X0 hx Bd.returns (hb hby d1_24) hr) ?_ (by decide) (by decide)
      show Qt3 Z a1 p1 p2 kc b0 b1 b2 b3 h0 n0 _ s₁.heap _
      rw [e0]
      exact ⟨congrArg (fun z => some (Value.int z)) (show (0 : Int32) = (own_term b3 (3 : Int32) p1 p2) from by unfold own_term; rw [if_neg hc2_1, if_neg hc7_2]), N0, rfl⟩
theorem d3_0 : decode prog_55_method_3_code 0 = .ok (.iconst 0, 1) := by decide +kernel
theorem d3_1 : decode prog_55_method_3_code 1 = .ok (.istore_n 3, 1) := by decide +kernel
theorem d3_2 : decode prog_55_method_3_code 2 = .ok (.iload_n 1, 1) := by decide +kernel
theorem d3_3 : decode prog_55_method_3_code 3 = .ok (.istore 4, 2) := by decide +kernel
theorem d3_5 : decode prog_55_method_3_code 5 = .ok (.iload 4, 2) := by decide +kernel
theorem d3_7 : decode prog_55_method_3_code 7 = .ok (.iload_n 2, 1) := by decide +kernel
theorem d3_8 : decode prog_55_method_3_code 8 = .ok (.if_icmp .ge 19, 3) := by decide +kernel
theorem d3_11 : decode prog_55_method_3_code 11 = .ok (.bipush 31, 2) := by decide +kernel
theorem d3_13 : decode prog_55_method_3_code 13 = .ok (.iload_n 3, 1) := by decide +kernel
theorem d3_14 : decode prog_55_method_3_code 14 = .ok (.imul, 1) := by decide +kernel
theorem d3_15 : decode prog_55_method_3_code 15 = .ok (.aload_n 0, 1) := by decide +kernel
theorem d3_16 : decode prog_55_method_3_code 16 = .ok (.iload 4, 2) := by decide +kernel
theorem d3_18 : decode prog_55_method_3_code 18 = .ok (.baload, 1) := by decide +kernel
theorem d3_19 : decode prog_55_method_3_code 19 = .ok (.iadd, 1) := by decide +kernel
theorem d3_20 : decode prog_55_method_3_code 20 = .ok (.istore_n 3, 1) := by decide +kernel
theorem d3_21 : decode prog_55_method_3_code 21 = .ok (.iinc 4 1, 3) := by decide +kernel
theorem d3_24 : decode prog_55_method_3_code 24 = .ok (.goto (-19), 3) := by decide +kernel
theorem d3_27 : decode prog_55_method_3_code 27 = .ok (.iload_n 3, 1) := by decide +kernel
theorem d3_28 : decode prog_55_method_3_code 28 = .ok (.ldc 21, 2) := by decide +kernel
theorem d3_30 : decode prog_55_method_3_code 30 = .ok (.imul, 1) := by decide +kernel
theorem d3_31 : decode prog_55_method_3_code 31 = .ok (.istore 4, 2) := by decide +kernel
theorem d3_33 : decode prog_55_method_3_code 33 = .ok (.iload 4, 2) := by decide +kernel
theorem d3_35 : decode prog_55_method_3_code 35 = .ok (.iload 4, 2) := by decide +kernel
theorem d3_37 : decode prog_55_method_3_code 37 = .ok (.bipush 16, 2) := by decide +kernel
theorem d3_39 : decode prog_55_method_3_code 39 = .ok (.iushr, 1) := by decide +kernel
theorem d3_40 : decode prog_55_method_3_code 40 = .ok (.ixor, 1) := by decide +kernel
theorem d3_41 : decode prog_55_method_3_code 41 = .ok (.ireturn, 1) := by decide +kernel
theorem ef_h (m : MethodId) (x0 : Addr) (x1 : Int32) (x2 : Int32) : entryFrame m #[(.ref x0), (.int x1), (.int x2)] 5 = mkF m 0 #[.val (.ref x0), .val (.int x1), .val (.int x2), .unset, .unset] [] := by first | (simp [entryFrame, mkF, argsToLocals, Value.category]; done) | rfl
def Qh (Z : State) (a1 : Addr) (p1 : Int32) (p2 : Int32) (kc : ClassId) (b0 : Int32) (b1 : Int32) (b2 : Int32) (b3 : Int32) (h0 : Heap) (n0 : Nat) (v : Option Value) (h : Heap) (L : List Loc) : Prop := v = some (.int (own_hash b0 b1 b2 b3 p1 p2)) ∧ Fr n0 L ∧ h = h0
set_option maxRecDepth 65536 in
set_option maxHeartbeats 40000000 in
theorem rmh (l : Launch) (Z : State) (a0 : Array Value) (hw : ∀ d ∈ tables_1, d.before a0 Z = true) (ws : List Jvm.Cond) (a1 : Addr) (p1 : Int32) (p2 : Int32) (kc : ClassId) (b0 : Int32) (b1 : Int32) (b2 : Int32) (b3 : Int32) (h0 : Heap) (n0 : Nat) (Z0 : n0 ≤ h0.size) (V1 : Arv Z h0 a1 kc .byte (4 : Int32) [(.int b0), (.int b1), (.int b2), (.int b3)] (.int (0 : Int32))) (hr : own_rng p1 p2) :
    MetFree l (⟨"com/example/querytrail/querytrail/trec/IndexTable", "hash", "([BII)I"⟩ : MethodName) (head1 (Jvm.Cond.code (⟨"com/example/querytrail/querytrail/trec/IndexTable", "hash", "([BII)I"⟩ : MethodName) prog_55_method_3_code 5 (some .int) :: ws) ({ frames := 0, cells := 0, slots := 0, locals := 0 } : Room)) (fun a U => a = #[(.ref a1), (.int p1), (.int p2)] ∧ Z.Warmed39 U.vm ∧ U.heap = h0) (fun _ _ _ _ _ => True) (fun _ U o U' => ∃ v L, o = .returned v ∧ Qh Z a1 p1 p2 kc b0 b1 b2 b3 h0 n0 v U'.heap L ∧ FrameEnd U o U' L ({ frames := 0, cells := 0, slots := 0, locals := 0 } : Room).cells ({ frames := 0, cells := 0, slots := 0, locals := 0 } : Room).slots) := by
  refine MetFree.of_bodySF (plainFor_of_name pn_1) hisR ?_
  intro p e s m args below meth c s₁ Bd hml0 hP hK
  obtain ⟨rfl, hZ, hh⟩ := hP
  have hx := Bd.exec
  have hby := Bd.bytes
  have hml : c.maxLocals = 5 := hml0
  have hown : s.vm.findClass "com/example/querytrail/querytrail/trec/IndexTable" = some m.cls := findClass_of_methodNamed Bd.named
  have hnm := (name_of_methodNamed Bd.named Bd.method).1
  have X0 : Stand p l e ({ frames := 0, cells := 0, slots := 0, locals := 0 } : Room) s m #[(.ref a1), (.int p1), (.int p2)] below meth c s₁ [] 0 0 := Stand.of_body Bd
  have e0 : s₁.heap = h0 := by rw [← hh, Bd.state]; rfl
  have N0 := Fr.nil n0
  show OGo p e below (fun s₂ o => ∃ v L, o = .returned v ∧ Qh Z a1 p1 p2 kc b0 b1 b2 b3 h0 n0 v s₂.heap L ∧ FrameEnd s o s₂ L ({ frames := 0, cells := 0, slots := 0, locals := 0 } : Room).cells ({ frames := 0, cells := 0, slots := 0, locals := 0 } : Room).slots) _
  refine OGo.to (fun _ k => castTop (ef_h m a1 p1 p2) k) ?_
  rcases own_combos hr with ⟨rfl, rfl⟩ | ⟨rfl, rfl⟩ | ⟨rfl, rfl⟩ | ⟨rfl, rfl⟩ | ⟨rfl, rfl⟩ | ⟨rfl, rfl⟩ | ⟨rfl, rfl⟩ | ⟨rfl, rfl⟩ | ⟨rfl, rfl⟩ | ⟨rfl, rfl⟩ | ⟨rfl, rfl⟩ | ⟨rfl, rfl⟩ | ⟨rfl, rfl⟩ | ⟨rfl, rfl⟩ | ⟨rfl, rfl⟩
  ·
    show OGo p e below _ (s₁.setTop (mkF m 0 #[.val (.ref a1), .val (.int (0 : Int32)), .val (.int (0 : Int32)), .unset, .unset] []))
    refine OGo.to (fun _ k => XS.iconst X0.here hx rfl (hb hby d3_0) k) ?_
    show OGo p e below _ (s₁.setTop (mkF m 1 #[.val (.ref a1), .val (.int (0 : Int32)), .val (.int (0 : Int32)), .unset, .unset] [(.int (0 : Int32))]))
    refine OGo.to (fun _ k => XS.istoreN X0.here hx rfl (hb hby d3_1) rfl (l' := #[.val (.ref a1), .val (.int (0 : Int32)), .val (.int (0 : Int32)), .val (.int (0 : Int32)), .unset]) rfl k) ?_
    show OGo p e below _ (s₁.setTop (mkF m 2 #[.val (.ref a1), .val (.int (0 : Int32)), .val (.int (0 : Int32)), .val (.int (0 : Int32)), .unset] []))
    refine OGo.to (fun _ k => XS.iloadN X0.here hx rfl (hb hby d3_2) rfl k) ?_
    show OGo p e below _ (s₁.setTop (mkF m 3 #[.val (.ref a1), .val (.int (0 : Int32)), .val (.int (0 : Int32)), .val (.int (0 : Int32)), .unset] [(.int (0 : Int32))]))
    refine OGo.to (fun _ k => XS.istore X0.here hx rfl (hb hby d3_3) rfl (l' := #[.val (.ref a1), .val (.int (0 : Int32)), .val (.int (0 : Int32)), .val (.int (0 : Int32)), .val (.int (0 : Int32))]) rfl k) ?_
    show OGo p e below _ (s₁.setTop (mkF m 5 #[.val (.ref a1), .val (.int (0 : Int32)), .val (.int (0 : Int32)), .val (.int (0 : Int32)), .val (.int (0 : Int32))] []))
    refine OGo.to (fun _ k => XS.iload X0.here hx rfl (hb hby d3_5) rfl k) ?_
    show OGo p e below _ (s₁.setTop (mkF m 7 #[.val (.ref a1), .val (.int (0 : Int32)), .val (.int (0 : Int32)), .val (.int (0 : Int32)), .val (.int (0 : Int32))] [(.int (0 : Int32))]))
    refine OGo.to (fun _ k => XS.iloadN X0.here hx rfl (hb hby d3_7) rfl k) ?_
    show OGo p e below _ (s₁.setTop (mkF m 8 #[.val (.ref a1), .val (.int (0 : Int32)), .val (.int (0 : Int32)), .val (.int (0 : Int32)), .val (.int (0 : Int32))] [(.int (0 : Int32)), (.int (0 : Int32))]))
    have hc8_1 : ¬ ((0 : Int32) < (0 : Int32)) := by decide
    refine OGo.to (fun _ k => XS.icmpYes X0.here hx rfl (pc0 := 8) (pc' := 27) rfl (hb hby d3_8) rfl (flt hc8_1).2.1 (by decide) (by decide) k) ?_
    show OGo p e below _ (s₁.setTop (mkF m 27 #[.val (.ref a1), .val (.int (0 : Int32)), .val (.int (0 : Int32)), .val (.int (0 : Int32)), .val (.int (0 : Int32))] []))
    refine OGo.to (fun _ k => XS.iloadN X0.here hx rfl (hb hby d3_27) rfl k) ?_
    show OGo p e below _ (s₁.setTop (mkF m 28 #[.val (.ref a1), .val (.int (0 : Int32)), .val (.int (0 : Int32)), .val (.int (0 : Int32)), .val (.int (0 : Int32))] [(.int (0 : Int32))]))
    refine OGo.to (fun _ k => X0.ldcInt hx hown (mvT hZ (hw _ (List.mem_of_getElem? (i := 14) rfl))) (g := (mkF m 28 #[.val (.ref a1), .val (.int (0 : Int32)), .val (.int (0 : Int32)), .val (.int (0 : Int32)), .val (.int (0 : Int32))] [(.int (0 : Int32))])) rfl (hb hby d3_28) _ k) ?_
    show OGo p e below _ (s₁.setTop (mkF m 30 #[.val (.ref a1), .val (.int (0 : Int32)), .val (.int (0 : Int32)), .val (.int (0 : Int32)), .val (.int (0 : Int32))] [(.int (-1640531527 : Int32)), (.int (0 : Int32))]))
    refine OGo.to (fun _ k => XS.imul X0.here hx rfl (hb hby d3_30) rfl k) ?_
    show OGo p e below _ (s₁.setTop (mkF m 31 #[.val (.ref a1), .val (.int (0 : Int32)), .val (.int (0 : Int32)), .val (.int (0 : Int32)), .val (.int (0 : Int32))] [(.int (0 : Int32))]))
    refine OGo.to (fun _ k => XS.istore X0.here hx rfl (hb hby d3_31) rfl (l' := #[.val (.ref a1), .val (.int (0 : Int32)), .val (.int (0 : Int32)), .val (.int (0 : Int32)), .val (.int (0 : Int32))]) rfl k) ?_
    show OGo p e below _ (s₁.setTop (mkF m 33 #[.val (.ref a1), .val (.int (0 : Int32)), .val (.int (0 : Int32)), .val (.int (0 : Int32)), .val (.int (0 : Int32))] []))
    refine OGo.to (fun _ k => XS.iload X0.here hx rfl (hb hby d3_33) rfl k) ?_
    show OGo p e below _ (s₁.setTop (mkF m 35 #[.val (.ref a1), .val (.int (0 : Int32)), .val (.int (0 : Int32)), .val (.int (0 : Int32)), .val (.int (0 : Int32))] [(.int (0 : Int32))]))
    refine OGo.to (fun _ k => XS.iload X0.here hx rfl (hb hby d3_35) rfl k) ?_
    show OGo p e below _ (s₁.setTop (mkF m 37 #[.val (.ref a1), .val (.int (0 : Int32)), .val (.int (0 : Int32)), .val (.int (0 : Int32)), .val (.int (0 : Int32))] [(.int (0 : Int32)), (.int (0 : Int32))]))
    refine OGo.to (fun _ k => XS.bipush X0.here hx rfl (hb hby d3_37) k) ?_
    show OGo p e below _ (s₁.setTop (mkF m 39 #[.val (.ref a1), .val (.int (0 : Int32)), .val (.int (0 : Int32)), .val (.int (0 : Int32)), .val (.int (0 : Int32))] [(.int (16 : Int32)), (.int (0 : Int32)), (.int (0 : Int32))]))
    refine OGo.to (fun _ k => XS.iushr X0.here hx rfl (hb hby d3_39) rfl k) ?_
    show OGo p e below _ (s₁.setTop (mkF m 40 #[.val (.ref a1), .val (.int (0 : Int32)), .val (.int (0 : Int32)), .val (.int (0 : Int32)), .val (.int (0 : Int32))] [(.int (((0 : Int32).toUInt32 >>> ((16 : Int32) &&& 31).toUInt32).toInt32)), (.int (0 : Int32))]))
    refine OGo.to (fun _ k => XS.ixor X0.here hx rfl (hb hby d3_40) rfl k) ?_
    show OGo p e below _ (s₁.setTop (mkF m 41 #[.val (.ref a1), .val (.int (0 : Int32)), .val (.int (0 : Int32)), .val (.int (0 : Int32)), .val (.int (0 : Int32))] [(.int ((0 : Int32) ^^^ (((0 : Int32).toUInt32 >>> ((16 : Int32) &&& 31).toUInt32).toInt32)))]))
    refine OGo.ret (Q := Qh Z a1 (0 : Int32) (0 : Int32) kc b0 b1 b2 b3 h0 n0) X0 (some (.int ((0 : Int32) ^^^ (((0 : Int32).toUInt32 >>> ((16 : Int32) &&& 31).toUInt32).toInt32)))) (fun h => by rw [Bd.returns] at h; cases h) Bd.notSynchronized (fun fs hr => retI X0 hx Bd.returns (hb hby d3_41) hr) ?_ (by decide) (by decide)
    show Qh Z a1 (0 : Int32) (0 : Int32) kc b0 b1 b2 b3 h0 n0 _ s₁.heap _
    rw [e0]
    exact ⟨congrArg (fun z => some (Value.int z)) (show ((0 : Int32) ^^^ (((0 : Int32).toUInt32 >>> ((16 : Int32) &&& 31).toUInt32).toInt32)) = (own_hash b0 b1 b2 b3 (0 : Int32) (0 : Int32)) from by show _ = own_mix (0 : Int32); decide), N0, rfl⟩
  ·
    show OGo p e below _ (s₁.setTop (mkF m 0 #[.val (.ref a1), .val (.int (0 : Int32)), .val (.int (1 : Int32)), .unset, .unset] []))
    refine OGo.to (fun _ k => XS.iconst X0.here hx rfl (hb hby d3_0) k) ?_
    show OGo p e below _ (s₁.setTop (mkF m 1 #[.val (.ref a1), .val (.int (0 : Int32)), .val (.int (1 : Int32)), .unset, .unset] [(.int (0 : Int32))]))
    refine OGo.to (fun _ k => XS.istoreN X0.here hx rfl (hb hby d3_1) rfl (l' := #[.val (.ref a1), .val (.int (0 : Int32)), .val (.int (1 : Int32)), .val (.int (0 : Int32)), .unset]) rfl k) ?_
    show OGo p e below _ (s₁.setTop (mkF m 2 #[.val (.ref a1), .val (.int (0 : Int32)), .val (.int (1 : Int32)), .val (.int (0 : Int32)), .unset] []))
    refine OGo.to (fun _ k => XS.iloadN X0.here hx rfl (hb hby d3_2) rfl k) ?_
    show OGo p e below _ (s₁.setTop (mkF m 3 #[.val (.ref a1), .val (.int (0 : Int32)), .val (.int (1 : Int32)), .val (.int (0 : Int32)), .unset] [(.int (0 : Int32))]))
    refine OGo.to (fun _ k => XS.istore X0.here hx rfl (hb hby d3_3) rfl (l' := #[.val (.ref a1), .val (.int (0 : Int32)), .val (.int (1 : Int32)), .val (.int (0 : Int32)), .val (.int (0 : Int32))]) rfl k) ?_
    show OGo p e below _ (s₁.setTop (mkF m 5 #[.val (.ref a1), .val (.int (0 : Int32)), .val (.int (1 : Int32)), .val (.int (0 : Int32)), .val (.int (0 : Int32))] []))
    refine OGo.to (fun _ k => XS.iload X0.here hx rfl (hb hby d3_5) rfl k) ?_
    show OGo p e below _ (s₁.setTop (mkF m 7 #[.val (.ref a1), .val (.int (0 : Int32)), .val (.int (1 : Int32)), .val (.int (0 : Int32)), .val (.int (0 : Int32))] [(.int (0 : Int32))]))
    refine OGo.to (fun _ k => XS.iloadN X0.here hx rfl (hb hby d3_7) rfl k) ?_
    show OGo p e below _ (s₁.setTop (mkF m 8 #[.val (.ref a1), .val (.int (0 : Int32)), .val (.int (1 : Int32)), .val (.int (0 : Int32)), .val (.int (0 : Int32))] [(.int (1 : Int32)), (.int (0 : Int32))]))
    have hc8_2 : (0 : Int32) < (1 : Int32) := by decide
    refine OGo.to (fun _ k => XS.icmpNo X0.here hx rfl (hb hby d3_8) rfl (tlt hc8_2).2.1 k) ?_
    show OGo p e below _ (s₁.setTop (mkF m 11 #[.val (.ref a1), .val (.int (0 : Int32)), .val (.int (1 : Int32)), .val (.int (0 : Int32)), .val (.int (0 : Int32))] []))
    refine OGo.to (fun _ k => XS.bipush X0.here hx rfl (hb hby d3_11) k) ?_
    show OGo p e below _ (s₁.setTop (mkF m 13 #[.val (.ref a1), .val (.int (0 : Int32)), .val (.int (1 : Int32)), .val (.int (0 : Int32)), .val (.int (0 : Int32))] [(.int (31 : Int32))]))
    refine OGo.to (fun _ k => XS.iloadN X0.here hx rfl (hb hby d3_13) rfl k) ?_
    show OGo p e below _ (s₁.setTop (mkF m 14 #[.val (.ref a1), .val (.int (0 : Int32)), .val (.int (1 : Int32)), .val (.int (0 : Int32)), .val (.int (0 : Int32))] [(.int (0 : Int32)), (.int (31 : Int32))]))
    refine OGo.to (fun _ k => XS.imul X0.here hx rfl (hb hby d3_14) rfl k) ?_
    show OGo p e below _ (s₁.setTop (mkF m 15 #[.val (.ref a1), .val (.int (0 : Int32)), .val (.int (1 : Int32)), .val (.int (0 : Int32)), .val (.int (0 : Int32))] [(.int (0 : Int32))]))
    refine OGo.to (fun _ k => XS.aloadN X0.here hx rfl (hb hby d3_15) rfl rfl k) ?_
    show OGo p e below _ (s₁.setTop (mkF m 16 #[.val (.ref a1), .val (.int (0 : Int32)), .val (.int (1 : Int32)), .val (.int (0 : Int32)), .val (.int (0 : Int32))] [(.ref a1), (.int (0 : Int32))]))
    refine OGo.to (fun _ k => XS.iload X0.here hx rfl (hb hby d3_16) rfl k) ?_
    show OGo p e below _ (s₁.setTop (mkF m 18 #[.val (.ref a1), .val (.int (0 : Int32)), .val (.int (1 : Int32)), .val (.int (0 : Int32)), .val (.int (0 : Int32))] [(.int (0 : Int32)), (.ref a1), (.int (0 : Int32))]))
    have Vq3 := V1
    obtain ⟨cl3, Ar3, q3, S3, M3, Hs3, G3⟩ := Vq3
    have hin4 : ¬ ((0 : Int32) < 0 ∨ cl3.slots.size ≤ ((0 : Int32)).toNatClampNeg) := inb_of S3 ⟨by decide, by decide⟩
    have hat4 : cl3.slots[((0 : Int32)).toNatClampNeg]? = some (.int b0) := Hs3.at hin4 (rfl)
    refine OGo.to (fun _ k => X0.baloadBytes hx (j := (0 : Int32)) (v := (.int b0)) (by rw [e0]; exact Ar3.1) (State.isArrayOf_alike hZ.alike Ar3.2.1) Ar3.2.2 hin4 hat4 (g := (mkF m 18 #[.val (.ref a1), .val (.int (0 : Int32)), .val (.int (1 : Int32)), .val (.int (0 : Int32)), .val (.int (0 : Int32))] [(.int (0 : Int32)), (.ref a1), (.int (0 : Int32))])) rfl rfl (hb hby d3_18) _ k) ?_
    show OGo p e below _ (s₁.setTop (mkF m 19 #[.val (.ref a1), .val (.int (0 : Int32)), .val (.int (1 : Int32)), .val (.int (0 : Int32)), .val (.int (0 : Int32))] [(.int b0), (.int (0 : Int32))]))
    refine OGo.to (fun _ k => XS.iadd X0.here hx rfl (hb hby d3_19) rfl k) ?_
    show OGo p e below _ (s₁.setTop (mkF m 20 #[.val (.ref a1), .val (.int (0 : Int32)), .val (.int (1 : Int32)), .val (.int (0 : Int32)), .val (.int (0 : Int32))] [(.int ((0 : Int32) + b0))]))
    refine OGo.to (fun _ k => XS.istoreN X0.here hx rfl (hb hby d3_20) rfl (l' := #[.val (.ref a1), .val (.int (0 : Int32)), .val (.int (1 : Int32)), .val (.int ((0 : Int32) + b0)), .val (.int (0 : Int32))]) rfl k) ?_
    show OGo p e below _ (s₁.setTop (mkF m 21 #[.val (.ref a1), .val (.int (0 : Int32)), .val (.int (1 : Int32)), .val (.int ((0 : Int32) + b0)), .val (.int (0 : Int32))] []))
    refine OGo.to (fun _ k => XS.iinc X0.here hx rfl (hb hby d3_21) rfl (l' := #[.val (.ref a1), .val (.int (0 : Int32)), .val (.int (1 : Int32)), .val (.int ((0 : Int32) + b0)), .val (.int (1 : Int32))]) rfl k) ?_
    show OGo p e below _ (s₁.setTop (mkF m 24 #[.val (.ref a1), .val (.int (0 : Int32)), .val (.int (1 : Int32)), .val (.int ((0 : Int32) + b0)), .val (.int (1 : Int32))] []))
    refine OGo.to (fun _ k => XS.goto X0.here hx rfl (pc0 := 24) (pc' := 5) rfl (hb hby d3_24) (by decide) (by decide) k) ?_
    show OGo p e below _ (s₁.setTop (mkF m 5 #[.val (.ref a1), .val (.int (0 : Int32)), .val (.int (1 : Int32)), .val (.int ((0 : Int32) + b0)), .val (.int (1 : Int32))] []))
    refine OGo.to (fun _ k => XS.iload X0.here hx rfl (hb hby d3_5) rfl k) ?_
    show OGo p e below _ (s₁.setTop (mkF m 7 #[.val (.ref a1), .val (.int (0 : Int32)), .val (.int (1 : Int32)), .val (.int ((0 : Int32) + b0)), .val (.int (1 : Int32))] [(.int (1 : Int32))]))
    refine OGo.to (fun _ k => XS.iloadN X0.here hx rfl (hb hby d3_7) rfl k) ?_
    show OGo p e below _ (s₁.setTop (mkF m 8 #[.val (.ref a1), .val (.int (0 : Int32)), .val (.int (1 : Int32)), .val (.int ((0 : Int32) + b0)), .val (.int (1 : Int32))] [(.int (1 : Int32)), (.int (1 : Int32))]))
    have hc8_5 : ¬ ((1 : Int32) < (1 : Int32)) := by decide
    refine OGo.to (fun _ k => XS.icmpYes X0.here hx rfl (pc0 := 8) (pc' := 27) rfl (hb hby d3_8) rfl (flt hc8_5).2.1 (by decide) (by decide) k) ?_
    show OGo p e below _ (s₁.setTop (mkF m 27 #[.val (.ref a1), .val (.int (0 : Int32)), .val (.int (1 : Int32)), .val (.int ((0 : Int32) + b0)), .val (.int (1 : Int32))] []))
    refine OGo.to (fun _ k => XS.iloadN X0.here hx rfl (hb hby d3_27) rfl k) ?_
    show OGo p e below _ (s₁.setTop (mkF m 28 #[.val (.ref a1), .val (.int (0 : Int32)), .val (.int (1 : Int32)), .val (.int ((0 : Int32) + b0)), .val (.int (1 : Int32))] [(.int ((0 : Int32) + b0))]))
    refine OGo.to (fun _ k => X0.ldcInt hx hown (mvT hZ (hw _ (List.mem_of_getElem? (i := 14) rfl))) (g := (mkF m 28 #[.val (.ref a1), .val (.int (0 : Int32)), .val (.int (1 : Int32)), .val (.int ((0 : Int32) + b0)), .val (.int (1 : Int32))] [(.int ((0 : Int32) + b0))])) rfl (hb hby d3_28) _ k) ?_
    show OGo p e below _ (s₁.setTop (mkF m 30 #[.val (.ref a1), .val (.int (0 : Int32)), .val (.int (1 : Int32)), .val (.int ((0 : Int32) + b0)), .val (.int (1 : Int32))] [(.int (-1640531527 : Int32)), (.int ((0 : Int32) + b0))]))
    refine OGo.to (fun _ k => XS.imul X0.here hx rfl (hb hby d3_30) rfl k) ?_
    show OGo p e below _ (s₁.setTop (mkF m 31 #[.val (.ref a1), .val (.int (0 : Int32)), .val (.int (1 : Int32)), .val (.int ((0 : Int32) + b0)), .val (.int (1 : Int32))] [(.int (((0 : Int32) + b0) * (-1640531527 : Int32)))]))
    refine OGo.to (fun _ k => XS.istore X0.here hx rfl (hb hby d3_31) rfl (l' := #[.val (.ref a1), .val (.int (0 : Int32)), .val (.int (1 : Int32)), .val (.int ((0 : Int32) + b0)), .val (.int (((0 : Int32) + b0) * (-1640531527 : Int32)))]) rfl k) ?_
    show OGo p e below _ (s₁.setTop (mkF m 33 #[.val (.ref a1), .val (.int (0 : Int32)), .val (.int (1 : Int32)), .val (.int ((0 : Int32) + b0)), .val (.int (((0 : Int32) + b0) * (-1640531527 : Int32)))] []))
    refine OGo.to (fun _ k => XS.iload X0.here hx rfl (hb hby d3_33) rfl k) ?_
    show OGo p e below _ (s₁.setTop (mkF m 35 #[.val (.ref a1), .val (.int (0 : Int32)), .val (.int (1 : Int32)), .val (.int ((0 : Int32) + b0)), .val (.int (((0 : Int32) + b0) * (-1640531527 : Int32)))] [(.int (((0 : Int32) + b0) * (-1640531527 : Int32)))]))
    refine OGo.to (fun _ k => XS.iload X0.here hx rfl (hb hby d3_35) rfl k) ?_
    show OGo p e below _ (s₁.setTop (mkF m 37 #[.val (.ref a1), .val (.int (0 : Int32)), .val (.int (1 : Int32)), .val (.int ((0 : Int32) + b0)), .val (.int (((0 : Int32) + b0) * (-1640531527 : Int32)))] [(.int (((0 : Int32) + b0) * (-1640531527 : Int32))), (.int (((0 : Int32) + b0) * (-1640531527 : Int32)))]))
    refine OGo.to (fun _ k => XS.bipush X0.here hx rfl (hb hby d3_37) k) ?_
    show OGo p e below _ (s₁.setTop (mkF m 39 #[.val (.ref a1), .val (.int (0 : Int32)), .val (.int (1 : Int32)), .val (.int ((0 : Int32) + b0)), .val (.int (((0 : Int32) + b0) * (-1640531527 : Int32)))] [(.int (16 : Int32)), (.int (((0 : Int32) + b0) * (-1640531527 : Int32))), (.int (((0 : Int32) + b0) * (-1640531527 : Int32)))]))
    refine OGo.to (fun _ k => XS.iushr X0.here hx rfl (hb hby d3_39) rfl k) ?_
    show OGo p e below _ (s₁.setTop (mkF m 40 #[.val (.ref a1), .val (.int (0 : Int32)), .val (.int (1 : Int32)), .val (.int ((0 : Int32) + b0)), .val (.int (((0 : Int32) + b0) * (-1640531527 : Int32)))] [(.int (((((0 : Int32) + b0) * (-1640531527 : Int32)).toUInt32 >>> ((16 : Int32) &&& 31).toUInt32).toInt32)), (.int (((0 : Int32) + b0) * (-1640531527 : Int32)))]))
    refine OGo.to (fun _ k => XS.ixor X0.here hx rfl (hb hby d3_40) rfl k) ?_
    show OGo p e below _ (s₁.setTop (mkF m 41 #[.val (.ref a1), .val (.int (0 : Int32)), .val (.int (1 : Int32)), .val (.int ((0 : Int32) + b0)), .val (.int (((0 : Int32) + b0) * (-1640531527 : Int32)))] [(.int ((((0 : Int32) + b0) * (-1640531527 : Int32)) ^^^ (((((0 : Int32) + b0) * (-1640531527 : Int32)).toUInt32 >>> ((16 : Int32) &&& 31).toUInt32).toInt32)))]))
    refine OGo.ret (Q := Qh Z a1 (0 : Int32) (1 : Int32) kc b0 b1 b2 b3 h0 n0) X0 (some (.int ((((0 : Int32) + b0) * (-1640531527 : Int32)) ^^^ (((((0 : Int32) + b0) * (-1640531527 : Int32)).toUInt32 >>> ((16 : Int32) &&& 31).toUInt32).toInt32)))) (fun h => by rw [Bd.returns] at h; cases h) Bd.notSynchronized (fun fs hr => retI X0 hx Bd.returns (hb hby d3_41) hr) ?_ (by decide) (by decide)
    show Qh Z a1 (0 : Int32) (1 : Int32) kc b0 b1 b2 b3 h0 n0 _ s₁.heap _
    rw [e0]
    exact ⟨congrArg (fun z => some (Value.int z)) (show ((((0 : Int32) + b0) * (-1640531527 : Int32)) ^^^ (((((0 : Int32) + b0) * (-1640531527 : Int32)).toUInt32 >>> ((16 : Int32) &&& 31).toUInt32).toInt32)) = (own_hash b0 b1 b2 b3 (0 : Int32) (1 : Int32)) from by rfl), N0, rfl⟩
  ·
    show OGo p e below _ (s₁.setTop (mkF m 0 #[.val (.ref a1), .val (.int (0 : Int32)), .val (.int (2 : Int32)), .unset, .unset] []))
    refine OGo.to (fun _ k => XS.iconst X0.here hx rfl (hb hby d3_0) k) ?_
    show OGo p e below _ (s₁.setTop (mkF m 1 #[.val (.ref a1), .val (.int (0 : Int32)), .val (.int (2 : Int32)), .unset, .unset] [(.int (0 : Int32))]))
    refine OGo.to (fun _ k => XS.istoreN X0.here hx rfl (hb hby d3_1) rfl (l' := #[.val (.ref a1), .val (.int (0 : Int32)), .val (.int (2 : Int32)), .val (.int (0 : Int32)), .unset]) rfl k) ?_
    show OGo p e below _ (s₁.setTop (mkF m 2 #[.val (.ref a1), .val (.int (0 : Int32)), .val (.int (2 : Int32)), .val (.int (0 : Int32)), .unset] []))
    refine OGo.to (fun _ k => XS.iloadN X0.here hx rfl (hb hby d3_2) rfl k) ?_
    show OGo p e below _ (s₁.setTop (mkF m 3 #[.val (.ref a1), .val (.int (0 : Int32)), .val (.int (2 : Int32)), .val (.int (0 : Int32)), .unset] [(.int (0 : Int32))]))
    refine OGo.to (fun _ k => XS.istore X0.here hx rfl (hb hby d3_3) rfl (l' := #[.val (.ref a1), .val (.int (0 : Int32)), .val (.int (2 : Int32)), .val (.int (0 : Int32)), .val (.int (0 : Int32))]) rfl k) ?_
    show OGo p e below _ (s₁.setTop (mkF m 5 #[.val (.ref a1), .val (.int (0 : Int32)), .val (.int (2 : Int32)), .val (.int (0 : Int32)), .val (.int (0 : Int32))] []))
    refine OGo.to (fun _ k => XS.iload X0.here hx rfl (hb hby d3_5) rfl k) ?_
    show OGo p e below _ (s₁.setTop (mkF m 7 #[.val (.ref a1), .val (.int (0 : Int32)), .val (.int (2 : Int32)), .val (.int (0 : Int32)), .val (.int (0 : Int32))] [(.int (0 : Int32))]))
    refine OGo.to (fun _ k => XS.iloadN X0.here hx rfl (hb hby d3_7) rfl k) ?_
    show OGo p e below _ (s₁.setTop (mkF m 8 #[.val (.ref a1), .val (.int (0 : Int32)), .val (.int (2 : Int32)), .val (.int (0 : Int32)), .val (.int (0 : Int32))] [(.int (2 : Int32)), (.int (0 : Int32))]))
    have hc8_6 : (0 : Int32) < (2 : Int32) := by decide
    refine OGo.to (fun _ k => XS.icmpNo X0.here hx rfl (hb hby d3_8) rfl (tlt hc8_6).2.1 k) ?_
    show OGo p e below _ (s₁.setTop (mkF m 11 #[.val (.ref a1), .val (.int (0 : Int32)), .val (.int (2 : Int32)), .val (.int (0 : Int32)), .val (.int (0 : Int32))] []))
    refine OGo.to (fun _ k => XS.bipush X0.here hx rfl (hb hby d3_11) k) ?_
    show OGo p e below _ (s₁.setTop (mkF m 13 #[.val (.ref a1), .val (.int (0 : Int32)), .val (.int (2 : Int32)), .val (.int (0 : Int32)), .val (.int (0 : Int32))] [(.int (31 : Int32))]))
    refine OGo.to (fun _ k => XS.iloadN X0.here hx rfl (hb hby d3_13) rfl k) ?_
    show OGo p e below _ (s₁.setTop (mkF m 14 #[.val (.ref a1), .val (.int (0 : Int32)), .val (.int (2 : Int32)), .val (.int (0 : Int32)), .val (.int (0 : Int32))] [(.int (0 : Int32)), (.int (31 : Int32))]))
    refine OGo.to (fun _ k => XS.imul X0.here hx rfl (hb hby d3_14) rfl k) ?_
    show OGo p e below _ (s₁.setTop (mkF m 15 #[.val (.ref a1), .val (.int (0 : Int32)), .val (.int (2 : Int32)), .val (.int (0 : Int32)), .val (.int (0 : Int32))] [(.int (0 : Int32))]))
    refine OGo.to (fun _ k => XS.aloadN X0.here hx rfl (hb hby d3_15) rfl rfl k) ?_
    show OGo p e below _ (s₁.setTop (mkF m 16 #[.val (.ref a1), .val (.int (0 : Int32)), .val (.int (2 : Int32)), .val (.int (0 : Int32)), .val (.int (0 : Int32))] [(.ref a1), (.int (0 : Int32))]))
    refine OGo.to (fun _ k => XS.iload X0.here hx rfl (hb hby d3_16) rfl k) ?_
    show OGo p e below _ (s₁.setTop (mkF m 18 #[.val (.ref a1), .val (.int (0 : Int32)), .val (.int (2 : Int32)), .val (.int (0 : Int32)), .val (.int (0 : Int32))] [(.int (0 : Int32)), (.ref a1), (.int (0 : Int32))]))
    have Vq7 := V1
    obtain ⟨cl7, Ar7, q7, S7, M7, Hs7, G7⟩ := Vq7
    have hin8 : ¬ ((0 : Int32) < 0 ∨ cl7.slots.size ≤ ((0 : Int32)).toNatClampNeg) := inb_of S7 ⟨by decide, by decide⟩
    have hat8 : cl7.slots[((0 : Int32)).toNatClampNeg]? = some (.int b0) := Hs7.at hin8 (rfl)
    refine OGo.to (fun _ k => X0.baloadBytes hx (j := (0 : Int32)) (v := (.int b0)) (by rw [e0]; exact Ar7.1) (State.isArrayOf_alike hZ.alike Ar7.2.1) Ar7.2.2 hin8 hat8 (g := (mkF m 18 #[.val (.ref a1), .val (.int (0 : Int32)), .val (.int (2 : Int32)), .val (.int (0 : Int32)), .val (.int (0 : Int32))] [(.int (0 : Int32)), (.ref a1), (.int (0 : Int32))])) rfl rfl (hb hby d3_18) _ k) ?_
    show OGo p e below _ (s₁.setTop (mkF m 19 #[.val (.ref a1), .val (.int (0 : Int32)), .val (.int (2 : Int32)), .val (.int (0 : Int32)), .val (.int (0 : Int32))] [(.int b0), (.int (0 : Int32))]))
    refine OGo.to (fun _ k => XS.iadd X0.here hx rfl (hb hby d3_19) rfl k) ?_
    show OGo p e below _ (s₁.setTop (mkF m 20 #[.val (.ref a1), .val (.int (0 : Int32)), .val (.int (2 : Int32)), .val (.int (0 : Int32)), .val (.int (0 : Int32))] [(.int ((0 : Int32) + b0))]))
    refine OGo.to (fun _ k => XS.istoreN X0.here hx rfl (hb hby d3_20) rfl (l' := #[.val (.ref a1), .val (.int (0 : Int32)), .val (.int (2 : Int32)), .val (.int ((0 : Int32) + b0)), .val (.int (0 : Int32))]) rfl k) ?_
    show OGo p e below _ (s₁.setTop (mkF m 21 #[.val (.ref a1), .val (.int (0 : Int32)), .val (.int (2 : Int32)), .val (.int ((0 : Int32) + b0)), .val (.int (0 : Int32))] []))
    refine OGo.to (fun _ k => XS.iinc X0.here hx rfl (hb hby d3_21) rfl (l' := #[.val (.ref a1), .val (.int (0 : Int32)), .val (.int (2 : Int32)), .val (.int ((0 : Int32) + b0)), .val (.int (1 : Int32))]) rfl k) ?_
    show OGo p e below _ (s₁.setTop (mkF m 24 #[.val (.ref a1), .val (.int (0 : Int32)), .val (.int (2 : Int32)), .val (.int ((0 : Int32) + b0)), .val (.int (1 : Int32))] []))
    refine OGo.to (fun _ k => XS.goto X0.here hx rfl (pc0 := 24) (pc' := 5) rfl (hb hby d3_24) (by decide) (by decide) k) ?_
    show OGo p e below _ (s₁.setTop (mkF m 5 #[.val (.ref a1), .val (.int (0 : Int32)), .val (.int (2 : Int32)), .val (.int ((0 : Int32) + b0)), .val (.int (1 : Int32))] []))
    refine OGo.to (fun _ k => XS.iload X0.here hx rfl (hb hby d3_5) rfl k) ?_
    show OGo p e below _ (s₁.setTop (mkF m 7 #[.val (.ref a1), .val (.int (0 : Int32)), .val (.int (2 : Int32)), .val (.int ((0 : Int32) + b0)), .val (.int (1 : Int32))] [(.int (1 : Int32))]))
    refine OGo.to (fun _ k => XS.iloadN X0.here hx rfl (hb hby d3_7) rfl k) ?_
    show OGo p e below _ (s₁.setTop (mkF m 8 #[.val (.ref a1), .val (.int (0 : Int32)), .val (.int (2 : Int32)), .val (.int ((0 : Int32) + b0)), .val (.int (1 : Int32))] [(.int (2 : Int32)), (.int (1 : Int32))]))
    have hc8_9 : (1 : Int32) < (2 : Int32) := by decide
    refine OGo.to (fun _ k => XS.icmpNo X0.here hx rfl (hb hby d3_8) rfl (tlt hc8_9).2.1 k) ?_
    show OGo p e below _ (s₁.setTop (mkF m 11 #[.val (.ref a1), .val (.int (0 : Int32)), .val (.int (2 : Int32)), .val (.int ((0 : Int32) + b0)), .val (.int (1 : Int32))] []))
    refine OGo.to (fun _ k => XS.bipush X0.here hx rfl (hb hby d3_11) k) ?_
    show OGo p e below _ (s₁.setTop (mkF m 13 #[.val (.ref a1), .val (.int (0 : Int32)), .val (.int (2 : Int32)), .val (.int ((0 : Int32) + b0)), .val (.int (1 : Int32))] [(.int (31 : Int32))]))
    refine OGo.to (fun _ k => XS.iloadN X0.here hx rfl (hb hby d3_13) rfl k) ?_
    show OGo p e below _ (s₁.setTop (mkF m 14 #[.val (.ref a1), .val (.int (0 : Int32)), .val (.int (2 : Int32)), .val (.int ((0 : Int32) + b0)), .val (.int (1 : Int32))] [(.int ((0 : Int32) + b0)), (.int (31 : Int32))]))
    refine OGo.to (fun _ k => XS.imul X0.here hx rfl (hb hby d3_14) rfl k) ?_
    show OGo p e below _ (s₁.setTop (mkF m 15 #[.val (.ref a1), .val (.int (0 : Int32)), .val (.int (2 : Int32)), .val (.int ((0 : Int32) + b0)), .val (.int (1 : Int32))] [(.int ((31 : Int32) * ((0 : Int32) + b0)))]))
    refine OGo.to (fun _ k => XS.aloadN X0.here hx rfl (hb hby d3_15) rfl rfl k) ?_
    show OGo p e below _ (s₁.setTop (mkF m 16 #[.val (.ref a1), .val (.int (0 : Int32)), .val (.int (2 : Int32)), .val (.int ((0 : Int32) + b0)), .val (.int (1 : Int32))] [(.ref a1), (.int ((31 : Int32) * ((0 : Int32) + b0)))]))
    refine OGo.to (fun _ k => XS.iload X0.here hx rfl (hb hby d3_16) rfl k) ?_
    show OGo p e below _ (s₁.setTop (mkF m 18 #[.val (.ref a1), .val (.int (0 : Int32)), .val (.int (2 : Int32)), .val (.int ((0 : Int32) + b0)), .val (.int (1 : Int32))] [(.int (1 : Int32)), (.ref a1), (.int ((31 : Int32) * ((0 : Int32) + b0)))]))
    have Vq10 := V1
    obtain ⟨cl10, Ar10, q10, S10, M10, Hs10, G10⟩ := Vq10
    have hin11 : ¬ ((1 : Int32) < 0 ∨ cl10.slots.size ≤ ((1 : Int32)).toNatClampNeg) := inb_of S10 ⟨by decide, by decide⟩
    have hat11 : cl10.slots[((1 : Int32)).toNatClampNeg]? = some (.int b1) := Hs10.at hin11 (rfl)
    refine OGo.to (fun _ k => X0.baloadBytes hx (j := (1 : Int32)) (v := (.int b1)) (by rw [e0]; exact Ar10.1) (State.isArrayOf_alike hZ.alike Ar10.2.1) Ar10.2.2 hin11 hat11 (g := (mkF m 18 #[.val (.ref a1), .val (.int (0 : Int32)), .val (.int (2 : Int32)), .val (.int ((0 : Int32) + b0)), .val (.int (1 : Int32))] [(.int (1 : Int32)), (.ref a1), (.int ((31 : Int32) * ((0 : Int32) + b0)))])) rfl rfl (hb hby d3_18) _ k) ?_
    show OGo p e below _ (s₁.setTop (mkF m 19 #[.val (.ref a1), .val (.int (0 : Int32)), .val (.int (2 : Int32)), .val (.int ((0 : Int32) + b0)), .val (.int (1 : Int32))] [(.int b1), (.int ((31 : Int32) * ((0 : Int32) + b0)))]))
    refine OGo.to (fun _ k => XS.iadd X0.here hx rfl (hb hby d3_19) rfl k) ?_
    show OGo p e below _ (s₁.setTop (mkF m 20 #[.val (.ref a1), .val (.int (0 : Int32)), .val (.int (2 : Int32)), .val (.int ((0 : Int32) + b0)), .val (.int (1 : Int32))] [(.int (((31 : Int32) * ((0 : Int32) + b0)) + b1))]))
    refine OGo.to (fun _ k => XS.istoreN X0.here hx rfl (hb hby d3_20) rfl (l' := #[.val (.ref a1), .val (.int (0 : Int32)), .val (.int (2 : Int32)), .val (.int (((31 : Int32) * ((0 : Int32) + b0)) + b1)), .val (.int (1 : Int32))]) rfl k) ?_
    show OGo p e below _ (s₁.setTop (mkF m 21 #[.val (.ref a1), .val (.int (0 : Int32)), .val (.int (2 : Int32)), .val (.int (((31 : Int32) * ((0 : Int32) + b0)) + b1)), .val (.int (1 : Int32))] []))
    refine OGo.to (fun _ k => XS.iinc X0.here hx rfl (hb hby d3_21) rfl (l' := #[.val (.ref a1), .val (.int (0 : Int32)), .val (.int (2 : Int32)), .val (.int (((31 : Int32) * ((0 : Int32) + b0)) + b1)), .val (.int (2 : Int32))]) rfl k) ?_
    show OGo p e below _ (s₁.setTop (mkF m 24 #[.val (.ref a1), .val (.int (0 : Int32)), .val (.int (2 : Int32)), .val (.int (((31 : Int32) * ((0 : Int32) + b0)) + b1)), .val (.int (2 : Int32))] []))
    refine OGo.to (fun _ k => XS.goto X0.here hx rfl (pc0 := 24) (pc' := 5) rfl (hb hby d3_24) (by decide) (by decide) k) ?_
    show OGo p e below _ (s₁.setTop (mkF m 5 #[.val (.ref a1), .val (.int (0 : Int32)), .val (.int (2 : Int32)), .val (.int (((31 : Int32) * ((0 : Int32) + b0)) + b1)), .val (.int (2 : Int32))] []))
    refine OGo.to (fun _ k => XS.iload X0.here hx rfl (hb hby d3_5) rfl k) ?_
    show OGo p e below _ (s₁.setTop (mkF m 7 #[.val (.ref a1), .val (.int (0 : Int32)), .val (.int (2 : Int32)), .val (.int (((31 : Int32) * ((0 : Int32) + b0)) + b1)), .val (.int (2 : Int32))] [(.int (2 : Int32))]))
    refine OGo.to (fun _ k => XS.iloadN X0.here hx rfl (hb hby d3_7) rfl k) ?_
    show OGo p e below _ (s₁.setTop (mkF m 8 #[.val (.ref a1), .val (.int (0 : Int32)), .val (.int (2 : Int32)), .val (.int (((31 : Int32) * ((0 : Int32) + b0)) + b1)), .val (.int (2 : Int32))] [(.int (2 : Int32)), (.int (2 : Int32))]))
    have hc8_12 : ¬ ((2 : Int32) < (2 : Int32)) := by decide
    refine OGo.to (fun _ k => XS.icmpYes X0.here hx rfl (pc0 := 8) (pc' := 27) rfl (hb hby d3_8) rfl (flt hc8_12).2.1 (by decide) (by decide) k) ?_
    show OGo p e below _ (s₁.setTop (mkF m 27 #[.val (.ref a1), .val (.int (0 : Int32)), .val (.int (2 : Int32)), .val (.int (((31 : Int32) * ((0 : Int32) + b0)) + b1)), .val (.int (2 : Int32))] []))
    refine OGo.to (fun _ k => XS.iloadN X0.here hx rfl (hb hby d3_27) rfl k) ?_
    show OGo p e below _ (s₁.setTop (mkF m 28 #[.val (.ref a1), .val (.int (0 : Int32)), .val (.int (2 : Int32)), .val (.int (((31 : Int32) * ((0 : Int32) + b0)) + b1)), .val (.int (2 : Int32))] [(.int (((31 : Int32) * ((0 : Int32) + b0)) + b1))]))
    refine OGo.to (fun _ k => X0.ldcInt hx hown (mvT hZ (hw _ (List.mem_of_getElem? (i := 14) rfl))) (g := (mkF m 28 #[.val (.ref a1), .val (.int (0 : Int32)), .val (.int (2 : Int32)), .val (.int (((31 : Int32) * ((0 : Int32) + b0)) + b1)), .val (.int (2 : Int32))] [(.int (((31 : Int32) * ((0 : Int32) + b0)) + b1))])) rfl (hb hby d3_28) _ k) ?_
    show OGo p e below _ (s₁.setTop (mkF m 30 #[.val (.ref a1), .val (.int (0 : Int32)), .val (.int (2 : Int32)), .val (.int (((31 : Int32) * ((0 : Int32) + b0)) + b1)), .val (.int (2 : Int32))] [(.int (-1640531527 : Int32)), (.int (((31 : Int32) * ((0 : Int32) + b0)) + b1))]))
    refine OGo.to (fun _ k => XS.imul X0.here hx rfl (hb hby d3_30) rfl k) ?_
    show OGo p e below _ (s₁.setTop (mkF m 31 #[.val (.ref a1), .val (.int (0 : Int32)), .val (.int (2 : Int32)), .val (.int (((31 : Int32) * ((0 : Int32) + b0)) + b1)), .val (.int (2 : Int32))] [(.int ((((31 : Int32) * ((0 : Int32) + b0)) + b1) * (-1640531527 : Int32)))]))
    refine OGo.to (fun _ k => XS.istore X0.here hx rfl (hb hby d3_31) rfl (l' := #[.val (.ref a1), .val (.int (0 : Int32)), .val (.int (2 : Int32)), .val (.int (((31 : Int32) * ((0 : Int32) + b0)) + b1)), .val (.int ((((31 : Int32) * ((0 : Int32) + b0)) + b1) * (-1640531527 : Int32)))]) rfl k) ?_
    show OGo p e below _ (s₁.setTop (mkF m 33 #[.val (.ref a1), .val (.int (0 : Int32)), .val (.int (2 : Int32)), .val (.int (((31 : Int32) * ((0 : Int32) + b0)) + b1)), .val (.int ((((31 : Int32) * ((0 : Int32) + b0)) + b1) * (-1640531527 : Int32)))] []))
    refine OGo.to (fun _ k => XS.iload X0.here hx rfl (hb hby d3_33) rfl k) ?_
    show OGo p e below _ (s₁.setTop (mkF m 35 #[.val (.ref a1), .val (.int (0 : Int32)), .val (.int (2 : Int32)), .val (.int (((31 : Int32) * ((0 : Int32) + b0)) + b1)), .val (.int ((((31 : Int32) * ((0 : Int32) + b0)) + b1) * (-1640531527 : Int32)))] [(.int ((((31 : Int32) * ((0 : Int32) + b0)) + b1) * (-1640531527 : Int32)))]))
    refine OGo.to (fun _ k => XS.iload X0.here hx rfl (hb hby d3_35) rfl k) ?_
    show OGo p e below _ (s₁.setTop (mkF m 37 #[.val (.ref a1), .val (.int (0 : Int32)), .val (.int (2 : Int32)), .val (.int (((31 : Int32) * ((0 : Int32) + b0)) + b1)), .val (.int ((((31 : Int32) * ((0 : Int32) + b0)) + b1) * (-1640531527 : Int32)))] [(.int ((((31 : Int32) * ((0 : Int32) + b0)) + b1) * (-1640531527 : Int32))), (.int ((((31 : Int32) * ((0 : Int32) + b0)) + b1) * (-1640531527 : Int32)))]))
    refine OGo.to (fun _ k => XS.bipush X0.here hx rfl (hb hby d3_37) k) ?_
    show OGo p e below _ (s₁.setTop (mkF m 39 #[.val (.ref a1), .val (.int (0 : Int32)), .val (.int (2 : Int32)), .val (.int (((31 : Int32) * ((0 : Int32) + b0)) + b1)), .val (.int ((((31 : Int32) * ((0 : Int32) + b0)) + b1) * (-1640531527 : Int32)))] [(.int (16 : Int32)), (.int ((((31 : Int32) * ((0 : Int32) + b0)) + b1) * (-1640531527 : Int32))), (.int ((((31 : Int32) * ((0 : Int32) + b0)) + b1) * (-1640531527 : Int32)))]))
    refine OGo.to (fun _ k => XS.iushr X0.here hx rfl (hb hby d3_39) rfl k) ?_
    show OGo p e below _ (s₁.setTop (mkF m 40 #[.val (.ref a1), .val (.int (0 : Int32)), .val (.int (2 : Int32)), .val (.int (((31 : Int32) * ((0 : Int32) + b0)) + b1)), .val (.int ((((31 : Int32) * ((0 : Int32) + b0)) + b1) * (-1640531527 : Int32)))] [(.int ((((((31 : Int32) * ((0 : Int32) + b0)) + b1) * (-1640531527 : Int32)).toUInt32 >>> ((16 : Int32) &&& 31).toUInt32).toInt32)), (.int ((((31 : Int32) * ((0 : Int32) + b0)) + b1) * (-1640531527 : Int32)))]))
    refine OGo.to (fun _ k => XS.ixor X0.here hx rfl (hb hby d3_40) rfl k) ?_
    show OGo p e below _ (s₁.setTop (mkF m 41 #[.val (.ref a1), .val (.int (0 : Int32)), .val (.int (2 : Int32)), .val (.int (((31 : Int32) * ((0 : Int32) + b0)) + b1)), .val (.int ((((31 : Int32) * ((0 : Int32) + b0)) + b1) * (-1640531527 : Int32)))] [(.int (((((31 : Int32) * ((0 : Int32) + b0)) + b1) * (-1640531527 : Int32)) ^^^ ((((((31 : Int32) * ((0 : Int32) + b0)) + b1) * (-1640531527 : Int32)).toUInt32 >>> ((16 : Int32) &&& 31).toUInt32).toInt32)))]))
    refine OGo.ret (Q := Qh Z a1 (0 : Int32) (2 : Int32) kc b0 b1 b2 b3 h0 n0) X0 (some (.int (((((31 : Int32) * ((0 : Int32) + b0)) + b1) * (-1640531527 : Int32)) ^^^ ((((((31 : Int32) * ((0 : Int32) + b0)) + b1) * (-1640531527 : Int32)).toUInt32 >>> ((16 : Int32) &&& 31).toUInt32).toInt32)))) (fun h => by rw [Bd.returns] at h; cases h) Bd.notSynchronized (fun fs hr => retI X0 hx Bd.returns (hb hby d3_41) hr) ?_ (by decide) (by decide)
    show Qh Z a1 (0 : Int32) (2 : Int32) kc b0 b1 b2 b3 h0 n0 _ s₁.heap _
    rw [e0]
    exact ⟨congrArg (fun z => some (Value.int z)) (show (((((31 : Int32) * ((0 : Int32) + b0)) + b1) * (-1640531527 : Int32)) ^^^ ((((((31 : Int32) * ((0 : Int32) + b0)) + b1) * (-1640531527 : Int32)).toUInt32 >>> ((16 : Int32) &&& 31).toUInt32).toInt32)) = (own_hash b0 b1 b2 b3 (0 : Int32) (2 : Int32)) from by rfl), N0, rfl⟩
  ·
    show OGo p e below _ (s₁.setTop (mkF m 0 #[.val (.ref a1), .val (.int (0 : Int32)), .val (.int (3 : Int32)), .unset, .unset] []))
    refine OGo.to (fun _ k => XS.iconst X0.here hx rfl (hb hby d3_0) k) ?_
    show OGo p e below _ (s₁.setTop (mkF m 1 #[.val (.ref a1), .val (.int (0 : Int32)), .val (.int (3 : Int32)), .unset, .unset] [(.int (0 : Int32))]))
    refine OGo.to (fun _ k => XS.istoreN X0.here hx rfl (hb hby d3_1) rfl (l' := #[.val (.ref a1), .val (.int (0 : Int32)), .val (.int (3 : Int32)), .val (.int (0 : Int32)), .unset]) rfl k) ?_
    show OGo p e below _ (s₁.setTop (mkF m 2 #[.val (.ref a1), .val (.int (0 : Int32)), .val (.int (3 : Int32)), .val (.int (0 : Int32)), .unset] []))
    refine OGo.to (fun _ k => XS.iloadN X0.here hx rfl (hb hby d3_2) rfl k) ?_
    show OGo p e below _ (s₁.setTop (mkF m 3 #[.val (.ref a1), .val (.int (0 : Int32)), .val (.int (3 : Int32)), .val (.int (0 : Int32)), .unset] [(.int (0 : Int32))]))
    refine OGo.to (fun _ k => XS.istore X0.here hx rfl (hb hby d3_3) rfl (l' := #[.val (.ref a1), .val (.int (0 : Int32)), .val (.int (3 : Int32)), .val (.int (0 : Int32)), .val (.int (0 : Int32))]) rfl k) ?_
    show OGo p e below _ (s₁.setTop (mkF m 5 #[.val (.ref a1), .val (.int (0 : Int32)), .val (.int (3 : Int32)), .val (.int (0 : Int32)), .val (.int (0 : Int32))] []))
    refine OGo.to (fun _ k => XS.iload X0.here hx rfl (hb hby d3_5) rfl k) ?_
    show OGo p e below _ (s₁.setTop (mkF m 7 #[.val (.ref a1), .val (.int (0 : Int32)), .val (.int (3 : Int32)), .val (.int (0 : Int32)), .val (.int (0 : Int32))] [(.int (0 : Int32))]))
    refine OGo.to (fun _ k => XS.iloadN X0.here hx rfl (hb hby d3_7) rfl k) ?_
    show OGo p e below _ (s₁.setTop (mkF m 8 #[.val (.ref a1), .val (.int (0 : Int32)), .val (.int (3 : Int32)), .val (.int (0 : Int32)), .val (.int (0 : Int32))] [(.int (3 : Int32)), (.int (0 : Int32))]))
    have hc8_13 : (0 : Int32) < (3 : Int32) := by decide
    refine OGo.to (fun _ k => XS.icmpNo X0.here hx rfl (hb hby d3_8) rfl (tlt hc8_13).2.1 k) ?_
    show OGo p e below _ (s₁.setTop (mkF m 11 #[.val (.ref a1), .val (.int (0 : Int32)), .val (.int (3 : Int32)), .val (.int (0 : Int32)), .val (.int (0 : Int32))] []))
    refine OGo.to (fun _ k => XS.bipush X0.here hx rfl (hb hby d3_11) k) ?_
    show OGo p e below _ (s₁.setTop (mkF m 13 #[.val (.ref a1), .val (.int (0 : Int32)), .val (.int (3 : Int32)), .val (.int (0 : Int32)), .val (.int (0 : Int32))] [(.int (31 : Int32))]))
    refine OGo.to (fun _ k => XS.iloadN X0.here hx rfl (hb hby d3_13) rfl k) ?_
    show OGo p e below _ (s₁.setTop (mkF m 14 #[.val (.ref a1), .val (.int (0 : Int32)), .val (.int (3 : Int32)), .val (.int (0 : Int32)), .val (.int (0 : Int32))] [(.int (0 : Int32)), (.int (31 : Int32))]))
    refine OGo.to (fun _ k => XS.imul X0.here hx rfl (hb hby d3_14) rfl k) ?_
    show OGo p e below _ (s₁.setTop (mkF m 15 #[.val (.ref a1), .val (.int (0 : Int32)), .val (.int (3 : Int32)), .val (.int (0 : Int32)), .val (.int (0 : Int32))] [(.int (0 : Int32))]))
    refine OGo.to (fun _ k => XS.aloadN X0.here hx rfl (hb hby d3_15) rfl rfl k) ?_
    show OGo p e below _ (s₁.setTop (mkF m 16 #[.val (.ref a1), .val (.int (0 : Int32)), .val (.int (3 : Int32)), .val (.int (0 : Int32)), .val (.int (0 : Int32))] [(.ref a1), (.int (0 : Int32))]))
    refine OGo.to (fun _ k => XS.iload X0.here hx rfl (hb hby d3_16) rfl k) ?_
    show OGo p e below _ (s₁.setTop (mkF m 18 #[.val (.ref a1), .val (.int (0 : Int32)), .val (.int (3 : Int32)), .val (.int (0 : Int32)), .val (.int (0 : Int32))] [(.int (0 : Int32)), (.ref a1), (.int (0 : Int32))]))
    have Vq14 := V1
    obtain ⟨cl14, Ar14, q14, S14, M14, Hs14, G14⟩ := Vq14
    have hin15 : ¬ ((0 : Int32) < 0 ∨ cl14.slots.size ≤ ((0 : Int32)).toNatClampNeg) := inb_of S14 ⟨by decide, by decide⟩
    have hat15 : cl14.slots[((0 : Int32)).toNatClampNeg]? = some (.int b0) := Hs14.at hin15 (rfl)
    refine OGo.to (fun _ k => X0.baloadBytes hx (j := (0 : Int32)) (v := (.int b0)) (by rw [e0]; exact Ar14.1) (State.isArrayOf_alike hZ.alike Ar14.2.1) Ar14.2.2 hin15 hat15 (g := (mkF m 18 #[.val (.ref a1), .val (.int (0 : Int32)), .val (.int (3 : Int32)), .val (.int (0 : Int32)), .val (.int (0 : Int32))] [(.int (0 : Int32)), (.ref a1), (.int (0 : Int32))])) rfl rfl (hb hby d3_18) _ k) ?_
    show OGo p e below _ (s₁.setTop (mkF m 19 #[.val (.ref a1), .val (.int (0 : Int32)), .val (.int (3 : Int32)), .val (.int (0 : Int32)), .val (.int (0 : Int32))] [(.int b0), (.int (0 : Int32))]))
    refine OGo.to (fun _ k => XS.iadd X0.here hx rfl (hb hby d3_19) rfl k) ?_
    show OGo p e below _ (s₁.setTop (mkF m 20 #[.val (.ref a1), .val (.int (0 : Int32)), .val (.int (3 : Int32)), .val (.int (0 : Int32)), .val (.int (0 : Int32))] [(.int ((0 : Int32) + b0))]))
    refine OGo.to (fun _ k => XS.istoreN X0.here hx rfl (hb hby d3_20) rfl (l' := #[.val (.ref a1), .val (.int (0 : Int32)), .val (.int (3 : Int32)), .val (.int ((0 : Int32) + b0)), .val (.int (0 : Int32))]) rfl k) ?_
    show OGo p e below _ (s₁.setTop (mkF m 21 #[.val (.ref a1), .val (.int (0 : Int32)), .val (.int (3 : Int32)), .val (.int ((0 : Int32) + b0)), .val (.int (0 : Int32))] []))
    refine OGo.to (fun _ k => XS.iinc X0.here hx rfl (hb hby d3_21) rfl (l' := #[.val (.ref a1), .val (.int (0 : Int32)), .val (.int (3 : Int32)), .val (.int ((0 : Int32) + b0)), .val (.int (1 : Int32))]) rfl k) ?_
    show OGo p e below _ (s₁.setTop (mkF m 24 #[.val (.ref a1), .val (.int (0 : Int32)), .val (.int (3 : Int32)), .val (.int ((0 : Int32) + b0)), .val (.int (1 : Int32))] []))
    refine OGo.to (fun _ k => XS.goto X0.here hx rfl (pc0 := 24) (pc' := 5) rfl (hb hby d3_24) (by decide) (by decide) k) ?_
    show OGo p e below _ (s₁.setTop (mkF m 5 #[.val (.ref a1), .val (.int (0 : Int32)), .val (.int (3 : Int32)), .val (.int ((0 : Int32) + b0)), .val (.int (1 : Int32))] []))
    refine OGo.to (fun _ k => XS.iload X0.here hx rfl (hb hby d3_5) rfl k) ?_
    show OGo p e below _ (s₁.setTop (mkF m 7 #[.val (.ref a1), .val (.int (0 : Int32)), .val (.int (3 : Int32)), .val (.int ((0 : Int32) + b0)), .val (.int (1 : Int32))] [(.int (1 : Int32))]))
    refine OGo.to (fun _ k => XS.iloadN X0.here hx rfl (hb hby d3_7) rfl k) ?_
    show OGo p e below _ (s₁.setTop (mkF m 8 #[.val (.ref a1), .val (.int (0 : Int32)), .val (.int (3 : Int32)), .val (.int ((0 : Int32) + b0)), .val (.int (1 : Int32))] [(.int (3 : Int32)), (.int (1 : Int32))]))
    have hc8_16 : (1 : Int32) < (3 : Int32) := by decide
    refine OGo.to (fun _ k => XS.icmpNo X0.here hx rfl (hb hby d3_8) rfl (tlt hc8_16).2.1 k) ?_
    show OGo p e below _ (s₁.setTop (mkF m 11 #[.val (.ref a1), .val (.int (0 : Int32)), .val (.int (3 : Int32)), .val (.int ((0 : Int32) + b0)), .val (.int (1 : Int32))] []))
    refine OGo.to (fun _ k => XS.bipush X0.here hx rfl (hb hby d3_11) k) ?_
    show OGo p e below _ (s₁.setTop (mkF m 13 #[.val (.ref a1), .val (.int (0 : Int32)), .val (.int (3 : Int32)), .val (.int ((0 : Int32) + b0)), .val (.int (1 : Int32))] [(.int (31 : Int32))]))
    refine OGo.to (fun _ k => XS.iloadN X0.here hx rfl (hb hby d3_13) rfl k) ?_
    show OGo p e below _ (s₁.setTop (mkF m 14 #[.val (.ref a1), .val (.int (0 : Int32)), .val (.int (3 : Int32)), .val (.int ((0 : Int32) + b0)), .val (.int (1 : Int32))] [(.int ((0 : Int32) + b0)), (.int (31 : Int32))]))
    refine OGo.to (fun _ k => XS.imul X0.here hx rfl (hb hby d3_14) rfl k) ?_
    show OGo p e below _ (s₁.setTop (mkF m 15 #[.val (.ref a1), .val (.int (0 : Int32)), .val (.int (3 : Int32)), .val (.int ((0 : Int32) + b0)), .val (.int (1 : Int32))] [(.int ((31 : Int32) * ((0 : Int32) + b0)))]))
    refine OGo.to (fun _ k => XS.aloadN X0.here hx rfl (hb hby d3_15) rfl rfl k) ?_
    show OGo p e below _ (s₁.setTop (mkF m 16 #[.val (.ref a1), .val (.int (0 : Int32)), .val (.int (3 : Int32)), .val (.int ((0 : Int32) + b0)), .val (.int (1 : Int32))] [(.ref a1), (.int ((31 : Int32) * ((0 : Int32) + b0)))]))
    refine OGo.to (fun _ k => XS.iload X0.here hx rfl (hb hby d3_16) rfl k) ?_
    show OGo p e below _ (s₁.setTop (mkF m 18 #[.val (.ref a1), .val (.int (0 : Int32)), .val (.int (3 : Int32)), .val (.int ((0 : Int32) + b0)), .val (.int (1 : Int32))] [(.int (1 : Int32)), (.ref a1), (.int ((31 : Int32) * ((0 : Int32) + b0)))]))
    have Vq17 := V1
    obtain ⟨cl17, Ar17, q17, S17, M17, Hs17, G17⟩ := Vq17
    have hin18 : ¬ ((1 : Int32) < 0 ∨ cl17.slots.size ≤ ((1 : Int32)).toNatClampNeg) := inb_of S17 ⟨by decide, by decide⟩
    have hat18 : cl17.slots[((1 : Int32)).toNatClampNeg]? = some (.int b1) := Hs17.at hin18 (rfl)
    refine OGo.to (fun _ k => X0.baloadBytes hx (j := (1 : Int32)) (v := (.int b1)) (by rw [e0]; exact Ar17.1) (State.isArrayOf_alike hZ.alike Ar17.2.1) Ar17.2.2 hin18 hat18 (g := (mkF m 18 #[.val (.ref a1), .val (.int (0 : Int32)), .val (.int (3 : Int32)), .val (.int ((0 : Int32) + b0)), .val (.int (1 : Int32))] [(.int (1 : Int32)), (.ref a1), (.int ((31 : Int32) * ((0 : Int32) + b0)))])) rfl rfl (hb hby d3_18) _ k) ?_
    show OGo p e below _ (s₁.setTop (mkF m 19 #[.val (.ref a1), .val (.int (0 : Int32)), .val (.int (3 : Int32)), .val (.int ((0 : Int32) + b0)), .val (.int (1 : Int32))] [(.int b1), (.int ((31 : Int32) * ((0 : Int32) + b0)))]))
    refine OGo.to (fun _ k => XS.iadd X0.here hx rfl (hb hby d3_19) rfl k) ?_
    show OGo p e below _ (s₁.setTop (mkF m 20 #[.val (.ref a1), .val (.int (0 : Int32)), .val (.int (3 : Int32)), .val (.int ((0 : Int32) + b0)), .val (.int (1 : Int32))] [(.int (((31 : Int32) * ((0 : Int32) + b0)) + b1))]))
    refine OGo.to (fun _ k => XS.istoreN X0.here hx rfl (hb hby d3_20) rfl (l' := #[.val (.ref a1), .val (.int (0 : Int32)), .val (.int (3 : Int32)), .val (.int (((31 : Int32) * ((0 : Int32) + b0)) + b1)), .val (.int (1 : Int32))]) rfl k) ?_
    show OGo p e below _ (s₁.setTop (mkF m 21 #[.val (.ref a1), .val (.int (0 : Int32)), .val (.int (3 : Int32)), .val (.int (((31 : Int32) * ((0 : Int32) + b0)) + b1)), .val (.int (1 : Int32))] []))
    refine OGo.to (fun _ k => XS.iinc X0.here hx rfl (hb hby d3_21) rfl (l' := #[.val (.ref a1), .val (.int (0 : Int32)), .val (.int (3 : Int32)), .val (.int (((31 : Int32) * ((0 : Int32) + b0)) + b1)), .val (.int (2 : Int32))]) rfl k) ?_
    show OGo p e below _ (s₁.setTop (mkF m 24 #[.val (.ref a1), .val (.int (0 : Int32)), .val (.int (3 : Int32)), .val (.int (((31 : Int32) * ((0 : Int32) + b0)) + b1)), .val (.int (2 : Int32))] []))
    refine OGo.to (fun _ k => XS.goto X0.here hx rfl (pc0 := 24) (pc' := 5) rfl (hb hby d3_24) (by decide) (by decide) k) ?_
    show OGo p e below _ (s₁.setTop (mkF m 5 #[.val (.ref a1), .val (.int (0 : Int32)), .val (.int (3 : Int32)), .val (.int (((31 : Int32) * ((0 : Int32) + b0)) + b1)), .val (.int (2 : Int32))] []))
    refine OGo.to (fun _ k => XS.iload X0.here hx rfl (hb hby d3_5) rfl k) ?_
    show OGo p e below _ (s₁.setTop (mkF m 7 #[.val (.ref a1), .val (.int (0 : Int32)), .val (.int (3 : Int32)), .val (.int (((31 : Int32) * ((0 : Int32) + b0)) + b1)), .val (.int (2 : Int32))] [(.int (2 : Int32))]))
    refine OGo.to (fun _ k => XS.iloadN X0.here hx rfl (hb hby d3_7) rfl k) ?_
    show OGo p e below _ (s₁.setTop (mkF m 8 #[.val (.ref a1), .val (.int (0 : Int32)), .val (.int (3 : Int32)), .val (.int (((31 : Int32) * ((0 : Int32) + b0)) + b1)), .val (.int (2 : Int32))] [(.int (3 : Int32)), (.int (2 : Int32))]))
    have hc8_19 : (2 : Int32) < (3 : Int32) := by decide
    refine OGo.to (fun _ k => XS.icmpNo X0.here hx rfl (hb hby d3_8) rfl (tlt hc8_19).2.1 k) ?_
    show OGo p e below _ (s₁.setTop (mkF m 11 #[.val (.ref a1), .val (.int (0 : Int32)), .val (.int (3 : Int32)), .val (.int (((31 : Int32) * ((0 : Int32) + b0)) + b1)), .val (.int (2 : Int32))] []))
    refine OGo.to (fun _ k => XS.bipush X0.here hx rfl (hb hby d3_11) k) ?_
    show OGo p e below _ (s₁.setTop (mkF m 13 #[.val (.ref a1), .val (.int (0 : Int32)), .val (.int (3 : Int32)), .val (.int (((31 : Int32) * ((0 : Int32) + b0)) + b1)), .val (.int (2 : Int32))] [(.int (31 : Int32))]))
    refine OGo.to (fun _ k => XS.iloadN X0.here hx rfl (hb hby d3_13) rfl k) ?_
    show OGo p e below _ (s₁.setTop (mkF m 14 #[.val (.ref a1), .val (.int (0 : Int32)), .val (.int (3 : Int32)), .val (.int (((31 : Int32) * ((0 : Int32) + b0)) + b1)), .val (.int (2 : Int32))] [(.int (((31 : Int32) * ((0 : Int32) + b0)) + b1)), (.int (31 : Int32))]))
    refine OGo.to (fun _ k => XS.imul X0.here hx rfl (hb hby d3_14) rfl k) ?_
    show OGo p e below _ (s₁.setTop (mkF m 15 #[.val (.ref a1), .val (.int (0 : Int32)), .val (.int (3 : Int32)), .val (.int (((31 : Int32) * ((0 : Int32) + b0)) + b1)), .val (.int (2 : Int32))] [(.int ((31 : Int32) * (((31 : Int32) * ((0 : Int32) + b0)) + b1)))]))
    refine OGo.to (fun _ k => XS.aloadN X0.here hx rfl (hb hby d3_15) rfl rfl k) ?_
    show OGo p e below _ (s₁.setTop (mkF m 16 #[.val (.ref a1), .val (.int (0 : Int32)), .val (.int (3 : Int32)), .val (.int (((31 : Int32) * ((0 : Int32) + b0)) + b1)), .val (.int (2 : Int32))] [(.ref a1), (.int ((31 : Int32) * (((31 : Int32) * ((0 : Int32) + b0)) + b1)))]))
    refine OGo.to (fun _ k => XS.iload X0.here hx rfl (hb hby d3_16) rfl k) ?_
    show OGo p e below _ (s₁.setTop (mkF m 18 #[.val (.ref a1), .val (.int (0 : Int32)), .val (.int (3 : Int32)), .val (.int (((31 : Int32) * ((0 : Int32) + b0)) + b1)), .val (.int (2 : Int32))] [(.int (2 : Int32)), (.ref a1), (.int ((31 : Int32) * (((31 : Int32) * ((0 : Int32) + b0)) + b1)))]))
    have Vq20 := V1
    obtain ⟨cl20, Ar20, q20, S20, M20, Hs20, G20⟩ := Vq20
    have hin21 : ¬ ((2 : Int32) < 0 ∨ cl20.slots.size ≤ ((2 : Int32)).toNatClampNeg) := inb_of S20 ⟨by decide, by decide⟩
    have hat21 : cl20.slots[((2 : Int32)).toNatClampNeg]? = some (.int b2) := Hs20.at hin21 (rfl)
    refine OGo.to (fun _ k => X0.baloadBytes hx (j := (2 : Int32)) (v := (.int b2)) (by rw [e0]; exact Ar20.1) (State.isArrayOf_alike hZ.alike Ar20.2.1) Ar20.2.2 hin21 hat21 (g := (mkF m 18 #[.val (.ref a1), .val (.int (0 : Int32)), .val (.int (3 : Int32)), .val (.int (((31 : Int32) * ((0 : Int32) + b0)) + b1)), .val (.int (2 : Int32))] [(.int (2 : Int32)), (.ref a1), (.int ((31 : Int32) * (((31 : Int32) * ((0 : Int32) + b0)) + b1)))])) rfl rfl (hb hby d3_18) _ k) ?_
    show OGo p e below _ (s₁.setTop (mkF m 19 #[.val (.ref a1), .val (.int (0 : Int32)), .val (.int (3 : Int32)), .val (.int (((31 : Int32) * ((0 : Int32) + b0)) + b1)), .val (.int (2 : Int32))] [(.int b2), (.int ((31 : Int32) * (((31 : Int32) * ((0 : Int32) + b0)) + b1)))]))
    refine OGo.to (fun _ k => XS.iadd X0.here hx rfl (hb hby d3_19) rfl k) ?_
    show OGo p e below _ (s₁.setTop (mkF m 20 #[.val (.ref a1), .val (.int (0 : Int32)), .val (.int (3 : Int32)), .val (.int (((31 : Int32) * ((0 : Int32) + b0)) + b1)), .val (.int (2 : Int32))] [(.int (((31 : Int32) * (((31 : Int32) * ((0 : Int32) + b0)) + b1)) + b2))]))
    refine OGo.to (fun _ k => XS.istoreN X0.here hx rfl (hb hby d3_20) rfl (l' := #[.val (.ref a1), .val (.int (0 : Int32)), .val (.int (3 : Int32)), .val (.int (((31 : Int32) * (((31 : Int32) * ((0 : Int32) + b0)) + b1)) + b2)), .val (.int (2 : Int32))]) rfl k) ?_
    show OGo p e below _ (s₁.setTop (mkF m 21 #[.val (.ref a1), .val (.int (0 : Int32)), .val (.int (3 : Int32)), .val (.int (((31 : Int32) * (((31 : Int32) * ((0 : Int32) + b0)) + b1)) + b2)), .val (.int (2 : Int32))] []))
    refine OGo.to (fun _ k => XS.iinc X0.here hx rfl (hb hby d3_21) rfl (l' := #[.val (.ref a1), .val (.int (0 : Int32)), .val (.int (3 : Int32)), .val (.int (((31 : Int32) * (((31 : Int32) * ((0 : Int32) + b0)) + b1)) + b2)), .val (.int (3 : Int32))]) rfl k) ?_
    show OGo p e below _ (s₁.setTop (mkF m 24 #[.val (.ref a1), .val (.int (0 : Int32)), .val (.int (3 : Int32)), .val (.int (((31 : Int32) * (((31 : Int32) * ((0 : Int32) + b0)) + b1)) + b2)), .val (.int (3 : Int32))] []))
    refine OGo.to (fun _ k => XS.goto X0.here hx rfl (pc0 := 24) (pc' := 5) rfl (hb hby d3_24) (by decide) (by decide) k) ?_
    show OGo p e below _ (s₁.setTop (mkF m 5 #[.val (.ref a1), .val (.int (0 : Int32)), .val (.int (3 : Int32)), .val (.int (((31 : Int32) * (((31 : Int32) * ((0 : Int32) + b0)) + b1)) + b2)), .val (.int (3 : Int32))] []))
    refine OGo.to (fun _ k => XS.iload X0.here hx rfl (hb hby d3_5) rfl k) ?_
    show OGo p e below _ (s₁.setTop (mkF m 7 #[.val (.ref a1), .val (.int (0 : Int32)), .val (.int (3 : Int32)), .val (.int (((31 : Int32) * (((31 : Int32) * ((0 : Int32) + b0)) + b1)) + b2)), .val (.int (3 : Int32))] [(.int (3 : Int32))]))
    refine OGo.to (fun _ k => XS.iloadN X0.here hx rfl (hb hby d3_7) rfl k) ?_
    show OGo p e below _ (s₁.setTop (mkF m 8 #[.val (.ref a1), .val (.int (0 : Int32)), .val (.int (3 : Int32)), .val (.int (((31 : Int32) * (((31 : Int32) * ((0 : Int32) + b0)) + b1)) + b2)), .val (.int (3 : Int32))] [(.int (3 : Int32)), (.int (3 : Int32))]))
    have hc8_22 : ¬ ((3 : Int32) < (3 : Int32)) := by decide
    refine OGo.to (fun _ k => XS.icmpYes X0.here hx rfl (pc0 := 8) (pc' := 27) rfl (hb hby d3_8) rfl (flt hc8_22).2.1 (by decide) (by decide) k) ?_
    show OGo p e below _ (s₁.setTop (mkF m 27 #[.val (.ref a1), .val (.int (0 : Int32)), .val (.int (3 : Int32)), .val (.int (((31 : Int32) * (((31 : Int32) * ((0 : Int32) + b0)) + b1)) + b2)), .val (.int (3 : Int32))] []))
    refine OGo.to (fun _ k => XS.iloadN X0.here hx rfl (hb hby d3_27) rfl k) ?_
    show OGo p e below _ (s₁.setTop (mkF m 28 #[.val (.ref a1), .val (.int (0 : Int32)), .val (.int (3 : Int32)), .val (.int (((31 : Int32) * (((31 : Int32) * ((0 : Int32) + b0)) + b1)) + b2)), .val (.int (3 : Int32))] [(.int (((31 : Int32) * (((31 : Int32) * ((0 : Int32) + b0)) + b1)) + b2))]))
    refine OGo.to (fun _ k => X0.ldcInt hx hown (mvT hZ (hw _ (List.mem_of_getElem? (i := 14) rfl))) (g := (mkF m 28 #[.val (.ref a1), .val (.int (0 : Int32)), .val (.int (3 : Int32)), .val (.int (((31 : Int32) * (((31 : Int32) * ((0 : Int32) + b0)) + b1)) + b2)), .val (.int (3 : Int32))] [(.int (((31 : Int32) * (((31 : Int32) * ((0 : Int32) + b0)) + b1)) + b2))])) rfl (hb hby d3_28) _ k) ?_
    show OGo p e below _ (s₁.setTop (mkF m 30 #[.val (.ref a1), .val (.int (0 : Int32)), .val (.int (3 : Int32)), .val (.int (((31 : Int32) * (((31 : Int32) * ((0 : Int32) + b0)) + b1)) + b2)), .val (.int (3 : Int32))] [(.int (-1640531527 : Int32)), (.int (((31 : Int32) * (((31 : Int32) * ((0 : Int32) + b0)) + b1)) + b2))]))
    refine OGo.to (fun _ k => XS.imul X0.here hx rfl (hb hby d3_30) rfl k) ?_
    show OGo p e below _ (s₁.setTop (mkF m 31 #[.val (.ref a1), .val (.int (0 : Int32)), .val (.int (3 : Int32)), .val (.int (((31 : Int32) * (((31 : Int32) * ((0 : Int32) + b0)) + b1)) + b2)), .val (.int (3 : Int32))] [(.int ((((31 : Int32) * (((31 : Int32) * ((0 : Int32) + b0)) + b1)) + b2) * (-1640531527 : Int32)))]))
    refine OGo.to (fun _ k => XS.istore X0.here hx rfl (hb hby d3_31) rfl (l' := #[.val (.ref a1), .val (.int (0 : Int32)), .val (.int (3 : Int32)), .val (.int (((31 : Int32) * (((31 : Int32) * ((0 : Int32) + b0)) + b1)) + b2)), .val (.int ((((31 : Int32) * (((31 : Int32) * ((0 : Int32) + b0)) + b1)) + b2) * (-1640531527 : Int32)))]) rfl k) ?_
    show OGo p e below _ (s₁.setTop (mkF m 33 #[.val (.ref a1), .val (.int (0 : Int32)), .val (.int (3 : Int32)), .val (.int (((31 : Int32) * (((31 : Int32) * ((0 : Int32) + b0)) + b1)) + b2)), .val (.int ((((31 : Int32) * (((31 : Int32) * ((0 : Int32) + b0)) + b1)) + b2) * (-1640531527 : Int32)))] []))
    refine OGo.to (fun _ k => XS.iload X0.here hx rfl (hb hby d3_33) rfl k) ?_
    show OGo p e below _ (s₁.setTop (mkF m 35 #[.val (.ref a1), .val (.int (0 : Int32)), .val (.int (3 : Int32)), .val (.int (((31 : Int32) * (((31 : Int32) * ((0 : Int32) + b0)) + b1)) + b2)), .val (.int ((((31 : Int32) * (((31 : Int32) * ((0 : Int32) + b0)) + b1)) + b2) * (-1640531527 : Int32)))] [(.int ((((31 : Int32) * (((31 : Int32) * ((0 : Int32) + b0)) + b1)) + b2) * (-1640531527 : Int32)))]))
    refine OGo.to (fun _ k => XS.iload X0.here hx rfl (hb hby d3_35) rfl k) ?_
    show OGo p e below _ (s₁.setTop (mkF m 37 #[.val (.ref a1), .val (.int (0 : Int32)), .val (.int (3 : Int32)), .val (.int (((31 : Int32) * (((31 : Int32) * ((0 : Int32) + b0)) + b1)) + b2)), .val (.int ((((31 : Int32) * (((31 : Int32) * ((0 : Int32) + b0)) + b1)) + b2) * (-1640531527 : Int32)))] [(.int ((((31 : Int32) * (((31 : Int32) * ((0 : Int32) + b0)) + b1)) + b2) * (-1640531527 : Int32))), (.int ((((31 : Int32) * (((31 : Int32) * ((0 : Int32) + b0)) + b1)) + b2) * (-1640531527 : Int32)))]))
    refine OGo.to (fun _ k => XS.bipush X0.here hx rfl (hb hby d3_37) k) ?_
    show OGo p e below _ (s₁.setTop (mkF m 39 #[.val (.ref a1), .val (.int (0 : Int32)), .val (.int (3 : Int32)), .val (.int (((31 : Int32) * (((31 : Int32) * ((0 : Int32) + b0)) + b1)) + b2)), .val (.int ((((31 : Int32) * (((31 : Int32) * ((0 : Int32) + b0)) + b1)) + b2) * (-1640531527 : Int32)))] [(.int (16 : Int32)), (.int ((((31 : Int32) * (((31 : Int32) * ((0 : Int32) + b0)) + b1)) + b2) * (-1640531527 : Int32))), (.int ((((31 : Int32) * (((31 : Int32) * ((0 : Int32) + b0)) + b1)) + b2) * (-1640531527 : Int32)))]))
    refine OGo.to (fun _ k => XS.iushr X0.here hx rfl (hb hby d3_39) rfl k) ?_
    show OGo p e below _ (s₁.setTop (mkF m 40 #[.val (.ref a1), .val (.int (0 : Int32)), .val (.int (3 : Int32)), .val (.int (((31 : Int32) * (((31 : Int32) * ((0 : Int32) + b0)) + b1)) + b2)), .val (.int ((((31 : Int32) * (((31 : Int32) * ((0 : Int32) + b0)) + b1)) + b2) * (-1640531527 : Int32)))] [(.int ((((((31 : Int32) * (((31 : Int32) * ((0 : Int32) + b0)) + b1)) + b2) * (-1640531527 : Int32)).toUInt32 >>> ((16 : Int32) &&& 31).toUInt32).toInt32)), (.int ((((31 : Int32) * (((31 : Int32) * ((0 : Int32) + b0)) + b1)) + b2) * (-1640531527 : Int32)))]))
    refine OGo.to (fun _ k => XS.ixor X0.here hx rfl (hb hby d3_40) rfl k) ?_
    show OGo p e below _ (s₁.setTop (mkF m 41 #[.val (.ref a1), .val (.int (0 : Int32)), .val (.int (3 : Int32)), .val (.int (((31 : Int32) * (((31 : Int32) * ((0 : Int32) + b0)) + b1)) + b2)), .val (.int ((((31 : Int32) * (((31 : Int32) * ((0 : Int32) + b0)) + b1)) + b2) * (-1640531527 : Int32)))] [(.int (((((31 : Int32) * (((31 : Int32) * ((0 : Int32) + b0)) + b1)) + b2) * (-1640531527 : Int32)) ^^^ ((((((31 : Int32) * (((31 : Int32) * ((0 : Int32) + b0)) + b1)) + b2) * (-1640531527 : Int32)).toUInt32 >>> ((16 : Int32) &&& 31).toUInt32).toInt32)))]))
    refine OGo.ret (Q := Qh Z a1 (0 : Int32) (3 : Int32) kc b0 b1 b2 b3 h0 n0) X0 (some (.int (((((31 : Int32) * (((31 : Int32) * ((0 : Int32) + b0)) + b1)) + b2) * (-1640531527 : Int32)) ^^^ ((((((31 : Int32) * (((31 : Int32) * ((0 : Int32) + b0)) + b1)) + b2) * (-1640531527 : Int32)).toUInt32 >>> ((16 : Int32) &&& 31).toUInt32).toInt32)))) (fun h => by rw [Bd.returns] at h; cases h) Bd.notSynchronized (fun fs hr => retI X0 hx Bd.returns (hb hby d3_41) hr) ?_ (by decide) (by decide)
    show Qh Z a1 (0 : Int32) (3 : Int32) kc b0 b1 b2 b3 h0 n0 _ s₁.heap _
    rw [e0]
    exact ⟨congrArg (fun z => some (Value.int z)) (show (((((31 : Int32) * (((31 : Int32) * ((0 : Int32) + b0)) + b1)) + b2) * (-1640531527 : Int32)) ^^^ ((((((31 : Int32) * (((31 : Int32) * ((0 : Int32) + b0)) + b1)) + b2) * (-1640531527 : Int32)).toUInt32 >>> ((16 : Int32) &&& 31).toUInt32).toInt32)) = (own_hash b0 b1 b2 b3 (0 : Int32) (3 : Int32)) from by rfl), N0, rfl⟩
  ·
    show OGo p e below _ (s₁.setTop (mkF m 0 #[.val (.ref a1), .val (.int (0 : Int32)), .val (.int (4 : Int32)), .unset, .unset] []))
    refine OGo.to (fun _ k => XS.iconst X0.here hx rfl (hb hby d3_0) k) ?_
    show OGo p e below _ (s₁.setTop (mkF m 1 #[.val (.ref a1), .val (.int (0 : Int32)), .val (.int (4 : Int32)), .unset, .unset] [(.int (0 : Int32))]))
    refine OGo.to (fun _ k => XS.istoreN X0.here hx rfl (hb hby d3_1) rfl (l' := #[.val (.ref a1), .val (.int (0 : Int32)), .val (.int (4 : Int32)), .val (.int (0 : Int32)), .unset]) rfl k) ?_
    show OGo p e below _ (s₁.setTop (mkF m 2 #[.val (.ref a1), .val (.int (0 : Int32)), .val (.int (4 : Int32)), .val (.int (0 : Int32)), .unset] []))
    refine OGo.to (fun _ k => XS.iloadN X0.here hx rfl (hb hby d3_2) rfl k) ?_
    show OGo p e below _ (s₁.setTop (mkF m 3 #[.val (.ref a1), .val (.int (0 : Int32)), .val (.int (4 : Int32)), .val (.int (0 : Int32)), .unset] [(.int (0 : Int32))]))
    refine OGo.to (fun _ k => XS.istore X0.here hx rfl (hb hby d3_3) rfl (l' := #[.val (.ref a1), .val (.int (0 : Int32)), .val (.int (4 : Int32)), .val (.int (0 : Int32)), .val (.int (0 : Int32))]) rfl k) ?_
    show OGo p e below _ (s₁.setTop (mkF m 5 #[.val (.ref a1), .val (.int (0 : Int32)), .val (.int (4 : Int32)), .val (.int (0 : Int32)), .val (.int (0 : Int32))] []))
    refine OGo.to (fun _ k => XS.iload X0.here hx rfl (hb hby d3_5) rfl k) ?_
    show OGo p e below _ (s₁.setTop (mkF m 7 #[.val (.ref a1), .val (.int (0 : Int32)), .val (.int (4 : Int32)), .val (.int (0 : Int32)), .val (.int (0 : Int32))] [(.int (0 : Int32))]))
    refine OGo.to (fun _ k => XS.iloadN X0.here hx rfl (hb hby d3_7) rfl k) ?_
    show OGo p e below _ (s₁.setTop (mkF m 8 #[.val (.ref a1), .val (.int (0 : Int32)), .val (.int (4 : Int32)), .val (.int (0 : Int32)), .val (.int (0 : Int32))] [(.int (4 : Int32)), (.int (0 : Int32))]))
    have hc8_23 : (0 : Int32) < (4 : Int32) := by decide
    refine OGo.to (fun _ k => XS.icmpNo X0.here hx rfl (hb hby d3_8) rfl (tlt hc8_23).2.1 k) ?_
    show OGo p e below _ (s₁.setTop (mkF m 11 #[.val (.ref a1), .val (.int (0 : Int32)), .val (.int (4 : Int32)), .val (.int (0 : Int32)), .val (.int (0 : Int32))] []))
    refine OGo.to (fun _ k => XS.bipush X0.here hx rfl (hb hby d3_11) k) ?_
    show OGo p e below _ (s₁.setTop (mkF m 13 #[.val (.ref a1), .val (.int (0 : Int32)), .val (.int (4 : Int32)), .val (.int (0 : Int32)), .val (.int (0 : Int32))] [(.int (31 : Int32))]))
    refine OGo.to (fun _ k => XS.iloadN X0.here hx rfl (hb hby d3_13) rfl k) ?_
    show OGo p e below _ (s₁.setTop (mkF m 14 #[.val (.ref a1), .val (.int (0 : Int32)), .val (.int (4 : Int32)), .val (.int (0 : Int32)), .val (.int (0 : Int32))] [(.int (0 : Int32)), (.int (31 : Int32))]))
    refine OGo.to (fun _ k => XS.imul X0.here hx rfl (hb hby d3_14) rfl k) ?_
    show OGo p e below _ (s₁.setTop (mkF m 15 #[.val (.ref a1), .val (.int (0 : Int32)), .val (.int (4 : Int32)), .val (.int (0 : Int32)), .val (.int (0 : Int32))] [(.int (0 : Int32))]))
    refine OGo.to (fun _ k => XS.aloadN X0.here hx rfl (hb hby d3_15) rfl rfl k) ?_
    show OGo p e below _ (s₁.setTop (mkF m 16 #[.val (.ref a1), .val (.int (0 : Int32)), .val (.int (4 : Int32)), .val (.int (0 : Int32)), .val (.int (0 : Int32))] [(.ref a1), (.int (0 : Int32))]))
    refine OGo.to (fun _ k => XS.iload X0.here hx rfl (hb hby d3_16) rfl k) ?_
    show OGo p e below _ (s₁.setTop (mkF m 18 #[.val (.ref a1), .val (.int (0 : Int32)), .val (.int (4 : Int32)), .val (.int (0 : Int32)), .val (.int (0 : Int32))] [(.int (0 : Int32)), (.ref a1), (.int (0 : Int32))]))
    have Vq24 := V1
    obtain ⟨cl24, Ar24, q24, S24, M24, Hs24, G24⟩ := Vq24
    have hin25 : ¬ ((0 : Int32) < 0 ∨ cl24.slots.size ≤ ((0 : Int32)).toNatClampNeg) := inb_of S24 ⟨by decide, by decide⟩
    have hat25 : cl24.slots[((0 : Int32)).toNatClampNeg]? = some (.int b0) := Hs24.at hin25 (rfl)
    refine OGo.to (fun _ k => X0.baloadBytes hx (j := (0 : Int32)) (v := (.int b0)) (by rw [e0]; exact Ar24.1) (State.isArrayOf_alike hZ.alike Ar24.2.1) Ar24.2.2 hin25 hat25 (g := (mkF m 18 #[.val (.ref a1), .val (.int (0 : Int32)), .val (.int (4 : Int32)), .val (.int (0 : Int32)), .val (.int (0 : Int32))] [(.int (0 : Int32)), (.ref a1), (.int (0 : Int32))])) rfl rfl (hb hby d3_18) _ k) ?_
    show OGo p e below _ (s₁.setTop (mkF m 19 #[.val (.ref a1), .val (.int (0 : Int32)), .val (.int (4 : Int32)), .val (.int (0 : Int32)), .val (.int (0 : Int32))] [(.int b0), (.int (0 : Int32))]))
    refine OGo.to (fun _ k => XS.iadd X0.here hx rfl (hb hby d3_19) rfl k) ?_
    show OGo p e below _ (s₁.setTop (mkF m 20 #[.val (.ref a1), .val (.int (0 : Int32)), .val (.int (4 : Int32)), .val (.int (0 : Int32)), .val (.int (0 : Int32))] [(.int ((0 : Int32) + b0))]))
    refine OGo.to (fun _ k => XS.istoreN X0.here hx rfl (hb hby d3_20) rfl (l' := #[.val (.ref a1), .val (.int (0 : Int32)), .val (.int (4 : Int32)), .val (.int ((0 : Int32) + b0)), .val (.int (0 : Int32))]) rfl k) ?_
    show OGo p e below _ (s₁.setTop (mkF m 21 #[.val (.ref a1), .val (.int (0 : Int32)), .val (.int (4 : Int32)), .val (.int ((0 : Int32) + b0)), .val (.int (0 : Int32))] []))
    refine OGo.to (fun _ k => XS.iinc X0.here hx rfl (hb hby d3_21) rfl (l' := #[.val (.ref a1), .val (.int (0 : Int32)), .val (.int (4 : Int32)), .val (.int ((0 : Int32) + b0)), .val (.int (1 : Int32))]) rfl k) ?_
    show OGo p e below _ (s₁.setTop (mkF m 24 #[.val (.ref a1), .val (.int (0 : Int32)), .val (.int (4 : Int32)), .val (.int ((0 : Int32) + b0)), .val (.int (1 : Int32))] []))
    refine OGo.to (fun _ k => XS.goto X0.here hx rfl (pc0 := 24) (pc' := 5) rfl (hb hby d3_24) (by decide) (by decide) k) ?_
    show OGo p e below _ (s₁.setTop (mkF m 5 #[.val (.ref a1), .val (.int (0 : Int32)), .val (.int (4 : Int32)), .val (.int ((0 : Int32) + b0)), .val (.int (1 : Int32))] []))
    refine OGo.to (fun _ k => XS.iload X0.here hx rfl (hb hby d3_5) rfl k) ?_
    show OGo p e below _ (s₁.setTop (mkF m 7 #[.val (.ref a1), .val (.int (0 : Int32)), .val (.int (4 : Int32)), .val (.int ((0 : Int32) + b0)), .val (.int (1 : Int32))] [(.int (1 : Int32))]))
    refine OGo.to (fun _ k => XS.iloadN X0.here hx rfl (hb hby d3_7) rfl k) ?_
    show OGo p e below _ (s₁.setTop (mkF m 8 #[.val (.ref a1), .val (.int (0 : Int32)), .val (.int (4 : Int32)), .val (.int ((0 : Int32) + b0)), .val (.int (1 : Int32))] [(.int (4 : Int32)), (.int (1 : Int32))]))
    have hc8_26 : (1 : Int32) < (4 : Int32) := by decide
    refine OGo.to (fun _ k => XS.icmpNo X0.here hx rfl (hb hby d3_8) rfl (tlt hc8_26).2.1 k) ?_
    show OGo p e below _ (s₁.setTop (mkF m 11 #[.val (.ref a1), .val (.int (0 : Int32)), .val (.int (4 : Int32)), .val (.int ((0 : Int32) + b0)), .val (.int (1 : Int32))] []))
    refine OGo.to (fun _ k => XS.bipush X0.here hx rfl (hb hby d3_11) k) ?_
    show OGo p e below _ (s₁.setTop (mkF m 13 #[.val (.ref a1), .val (.int (0 : Int32)), .val (.int (4 : Int32)), .val (.int ((0 : Int32) + b0)), .val (.int (1 : Int32))] [(.int (31 : Int32))]))
    refine OGo.to (fun _ k => XS.iloadN X0.here hx rfl (hb hby d3_13) rfl k) ?_
    show OGo p e below _ (s₁.setTop (mkF m 14 #[.val (.ref a1), .val (.int (0 : Int32)), .val (.int (4 : Int32)), .val (.int ((0 : Int32) + b0)), .val (.int (1 : Int32))] [(.int ((0 : Int32) + b0)), (.int (31 : Int32))]))
    refine OGo.to (fun _ k => XS.imul X0.here hx rfl (hb hby d3_14) rfl k) ?_
    show OGo p e below _ (s₁.setTop (mkF m 15 #[.val (.ref a1), .val (.int (0 : Int32)), .val (.int (4 : Int32)), .val (.int ((0 : Int32) + b0)), .val (.int (1 : Int32))] [(.int ((31 : Int32) * ((0 : Int32) + b0)))]))
    refine OGo.to (fun _ k => XS.aloadN X0.here hx rfl (hb hby d3_15) rfl rfl k) ?_
    show OGo p e below _ (s₁.setTop (mkF m 16 #[.val (.ref a1), .val (.int (0 : Int32)), .val (.int (4 : Int32)), .val (.int ((0 : Int32) + b0)), .val (.int (1 : Int32))] [(.ref a1), (.int ((31 : Int32) * ((0 : Int32) + b0)))]))
    refine OGo.to (fun _ k => XS.iload X0.here hx rfl (hb hby d3_16) rfl k) ?_
    show OGo p e below _ (s₁.setTop (mkF m 18 #[.val (.ref a1), .val (.int (0 : Int32)), .val (.int (4 : Int32)), .val (.int ((0 : Int32) + b0)), .val (.int (1 : Int32))] [(.int (1 : Int32)), (.ref a1), (.int ((31 : Int32) * ((0 : Int32) + b0)))]))
    have Vq27 := V1
    obtain ⟨cl27, Ar27, q27, S27, M27, Hs27, G27⟩ := Vq27
    have hin28 : ¬ ((1 : Int32) < 0 ∨ cl27.slots.size ≤ ((1 : Int32)).toNatClampNeg) := inb_of S27 ⟨by decide, by decide⟩
    have hat28 : cl27.slots[((1 : Int32)).toNatClampNeg]? = some (.int b1) := Hs27.at hin28 (rfl)
    refine OGo.to (fun _ k => X0.baloadBytes hx (j := (1 : Int32)) (v := (.int b1)) (by rw [e0]; exact Ar27.1) (State.isArrayOf_alike hZ.alike Ar27.2.1) Ar27.2.2 hin28 hat28 (g := (mkF m 18 #[.val (.ref a1), .val (.int (0 : Int32)), .val (.int (4 : Int32)), .val (.int ((0 : Int32) + b0)), .val (.int (1 : Int32))] [(.int (1 : Int32)), (.ref a1), (.int ((31 : Int32) * ((0 : Int32) + b0)))])) rfl rfl (hb hby d3_18) _ k) ?_
    show OGo p e below _ (s₁.setTop (mkF m 19 #[.val (.ref a1), .val (.int (0 : Int32)), .val (.int (4 : Int32)), .val (.int ((0 : Int32) + b0)), .val (.int (1 : Int32))] [(.int b1), (.int ((31 : Int32) * ((0 : Int32) + b0)))]))
    refine OGo.to (fun _ k => XS.iadd X0.here hx rfl (hb hby d3_19) rfl k) ?_
    show OGo p e below _ (s₁.setTop (mkF m 20 #[.val (.ref a1), .val (.int (0 : Int32)), .val (.int (4 : Int32)), .val (.int ((0 : Int32) + b0)), .val (.int (1 : Int32))] [(.int (((31 : Int32) * ((0 : Int32) + b0)) + b1))]))
    refine OGo.to (fun _ k => XS.istoreN X0.here hx rfl (hb hby d3_20) rfl (l' := #[.val (.ref a1), .val (.int (0 : Int32)), .val (.int (4 : Int32)), .val (.int (((31 : Int32) * ((0 : Int32) + b0)) + b1)), .val (.int (1 : Int32))]) rfl k) ?_
    show OGo p e below _ (s₁.setTop (mkF m 21 #[.val (.ref a1), .val (.int (0 : Int32)), .val (.int (4 : Int32)), .val (.int (((31 : Int32) * ((0 : Int32) + b0)) + b1)), .val (.int (1 : Int32))] []))
    refine OGo.to (fun _ k => XS.iinc X0.here hx rfl (hb hby d3_21) rfl (l' := #[.val (.ref a1), .val (.int (0 : Int32)), .val (.int (4 : Int32)), .val (.int (((31 : Int32) * ((0 : Int32) + b0)) + b1)), .val (.int (2 : Int32))]) rfl k) ?_
    show OGo p e below _ (s₁.setTop (mkF m 24 #[.val (.ref a1), .val (.int (0 : Int32)), .val (.int (4 : Int32)), .val (.int (((31 : Int32) * ((0 : Int32) + b0)) + b1)), .val (.int (2 : Int32))] []))
    refine OGo.to (fun _ k => XS.goto X0.here hx rfl (pc0 := 24) (pc' := 5) rfl (hb hby d3_24) (by decide) (by decide) k) ?_
    show OGo p e below _ (s₁.setTop (mkF m 5 #[.val (.ref a1), .val (.int (0 : Int32)), .val (.int (4 : Int32)), .val (.int (((31 : Int32) * ((0 : Int32) + b0)) + b1)), .val (.int (2 : Int32))] []))
    refine OGo.to (fun _ k => XS.iload X0.here hx rfl (hb hby d3_5) rfl k) ?_
    show OGo p e below _ (s₁.setTop (mkF m 7 #[.val (.ref a1), .val (.int (0 : Int32)), .val (.int (4 : Int32)), .val (.int (((31 : Int32) * ((0 : Int32) + b0)) + b1)), .val (.int (2 : Int32))] [(.int (2 : Int32))]))
    refine OGo.to (fun _ k => XS.iloadN X0.here hx rfl (hb hby d3_7) rfl k) ?_
    show OGo p e below _ (s₁.setTop (mkF m 8 #[.val (.ref a1), .val (.int (0 : Int32)), .val (.int (4 : Int32)), .val (.int (((31 : Int32) * ((0 : Int32) + b0)) + b1)), .val (.int (2 : Int32))] [(.int (4 : Int32)), (.int (2 : Int32))]))
    have hc8_29 : (2 : Int32) < (4 : Int32) := by decide
    refine OGo.to (fun _ k => XS.icmpNo X0.here hx rfl (hb hby d3_8) rfl (tlt hc8_29).2.1 k) ?_
    show OGo p e below _ (s₁.setTop (mkF m 11 #[.val (.ref a1), .val (.int (0 : Int32)), .val (.int (4 : Int32)), .val (.int (((31 : Int32) * ((0 : Int32) + b0)) + b1)), .val (.int (2 : Int32))] []))
    refine OGo.to (fun _ k => XS.bipush X0.here hx rfl (hb hby d3_11) k) ?_
    show OGo p e below _ (s₁.setTop (mkF m 13 #[.val (.ref a1), .val (.int (0 : Int32)), .val (.int (4 : Int32)), .val (.int (((31 : Int32) * ((0 : Int32) + b0)) + b1)), .val (.int (2 : Int32))] [(.int (31 : Int32))]))
    refine OGo.to (fun _ k => XS.iloadN X0.here hx rfl (hb hby d3_13) rfl k) ?_
    show OGo p e below _ (s₁.setTop (mkF m 14 #[.val (.ref a1), .val (.int (0 : Int32)), .val (.int (4 : Int32)), .val (.int (((31 : Int32) * ((0 : Int32) + b0)) + b1)), .val (.int (2 : Int32))] [(.int (((31 : Int32) * ((0 : Int32) + b0)) + b1)), (.int (31 : Int32))]))
    refine OGo.to (fun _ k => XS.imul X0.here hx rfl (hb hby d3_14) rfl k) ?_
    show OGo p e below _ (s₁.setTop (mkF m 15 #[.val (.ref a1), .val (.int (0 : Int32)), .val (.int (4 : Int32)), .val (.int (((31 : Int32) * ((0 : Int32) + b0)) + b1)), .val (.int (2 : Int32))] [(.int ((31 : Int32) * (((31 : Int32) * ((0 : Int32) + b0)) + b1)))]))
    refine OGo.to (fun _ k => XS.aloadN X0.here hx rfl (hb hby d3_15) rfl rfl k) ?_
    show OGo p e below _ (s₁.setTop (mkF m 16 #[.val (.ref a1), .val (.int (0 : Int32)), .val (.int (4 : Int32)), .val (.int (((31 : Int32) * ((0 : Int32) + b0)) + b1)), .val (.int (2 : Int32))] [(.ref a1), (.int ((31 : Int32) * (((31 : Int32) * ((0 : Int32) + b0)) + b1)))]))
    refine OGo.to (fun _ k => XS.iload X0.here hx rfl (hb hby d3_16) rfl k) ?_
    show OGo p e below _ (s₁.setTop (mkF m 18 #[.val (.ref a1), .val (.int (0 : Int32)), .val (.int (4 : Int32)), .val (.int (((31 : Int32) * ((0 : Int32) + b0)) + b1)), .val (.int (2 : Int32))] [(.int (2 : Int32)), (.ref a1), (.int ((31 : Int32) * (((31 : Int32) * ((0 : Int32) + b0)) + b1)))]))
    have Vq30 := V1
    obtain ⟨cl30, Ar30, q30, S30, M30, Hs30, G30⟩ := Vq30
    have hin31 : ¬ ((2 : Int32) < 0 ∨ cl30.slots.size ≤ ((2 : Int32)).toNatClampNeg) := inb_of S30 ⟨by decide, by decide⟩
    have hat31 : cl30.slots[((2 : Int32)).toNatClampNeg]? = some (.int b2) := Hs30.at hin31 (rfl)
    refine OGo.to (fun _ k => X0.baloadBytes hx (j := (2 : Int32)) (v := (.int b2)) (by rw [e0]; exact Ar30.1) (State.isArrayOf_alike hZ.alike Ar30.2.1) Ar30.2.2 hin31 hat31 (g := (mkF m 18 #[.val (.ref a1), .val (.int (0 : Int32)), .val (.int (4 : Int32)), .val (.int (((31 : Int32) * ((0 : Int32) + b0)) + b1)), .val (.int (2 : Int32))] [(.int (2 : Int32)), (.ref a1), (.int ((31 : Int32) * (((31 : Int32) * ((0 : Int32) + b0)) + b1)))])) rfl rfl (hb hby d3_18) _ k) ?_
    show OGo p e below _ (s₁.setTop (mkF m 19 #[.val (.ref a1), .val (.int (0 : Int32)), .val (.int (4 : Int32)), .val (.int (((31 : Int32) * ((0 : Int32) + b0)) + b1)), .val (.int (2 : Int32))] [(.int b2), (.int ((31 : Int32) * (((31 : Int32) * ((0 : Int32) + b0)) + b1)))]))
    refine OGo.to (fun _ k => XS.iadd X0.here hx rfl (hb hby d3_19) rfl k) ?_
    show OGo p e below _ (s₁.setTop (mkF m 20 #[.val (.ref a1), .val (.int (0 : Int32)), .val (.int (4 : Int32)), .val (.int (((31 : Int32) * ((0 : Int32) + b0)) + b1)), .val (.int (2 : Int32))] [(.int (((31 : Int32) * (((31 : Int32) * ((0 : Int32) + b0)) + b1)) + b2))]))
    refine OGo.to (fun _ k => XS.istoreN X0.here hx rfl (hb hby d3_20) rfl (l' := #[.val (.ref a1), .val (.int (0 : Int32)), .val (.int (4 : Int32)), .val (.int (((31 : Int32) * (((31 : Int32) * ((0 : Int32) + b0)) + b1)) + b2)), .val (.int (2 : Int32))]) rfl k) ?_
    show OGo p e below _ (s₁.setTop (mkF m 21 #[.val (.ref a1), .val (.int (0 : Int32)), .val (.int (4 : Int32)), .val (.int (((31 : Int32) * (((31 : Int32) * ((0 : Int32) + b0)) + b1)) + b2)), .val (.int (2 : Int32))] []))
    refine OGo.to (fun _ k => XS.iinc X0.here hx rfl (hb hby d3_21) rfl (l' := #[.val (.ref a1), .val (.int (0 : Int32)), .val (.int (4 : Int32)), .val (.int (((31 : Int32) * (((31 : Int32) * ((0 : Int32) + b0)) + b1)) + b2)), .val (.int (3 : Int32))]) rfl k) ?_
    show OGo p e below _ (s₁.setTop (mkF m 24 #[.val (.ref a1), .val (.int (0 : Int32)), .val (.int (4 : Int32)), .val (.int (((31 : Int32) * (((31 : Int32) * ((0 : Int32) + b0)) + b1)) + b2)), .val (.int (3 : Int32))] []))
    refine OGo.to (fun _ k => XS.goto X0.here hx rfl (pc0 := 24) (pc' := 5) rfl (hb hby d3_24) (by decide) (by decide) k) ?_
    show OGo p e below _ (s₁.setTop (mkF m 5 #[.val (.ref a1), .val (.int (0 : Int32)), .val (.int (4 : Int32)), .val (.int (((31 : Int32) * (((31 : Int32) * ((0 : Int32) + b0)) + b1)) + b2)), .val (.int (3 : Int32))] []))
    refine OGo.to (fun _ k => XS.iload X0.here hx rfl (hb hby d3_5) rfl k) ?_
    show OGo p e below _ (s₁.setTop (mkF m 7 #[.val (.ref a1), .val (.int (0 : Int32)), .val (.int (4 : Int32)), .val (.int (((31 : Int32) * (((31 : Int32) * ((0 : Int32) + b0)) + b1)) + b2)), .val (.int (3 : Int32))] [(.int (3 : Int32))]))
    refine OGo.to (fun _ k => XS.iloadN X0.here hx rfl (hb hby d3_7) rfl k) ?_
    show OGo p e below _ (s₁.setTop (mkF m 8 #[.val (.ref a1), .val (.int (0 : Int32)), .val (.int (4 : Int32)), .val (.int (((31 : Int32) * (((31 : Int32) * ((0 : Int32) + b0)) + b1)) + b2)), .val (.int (3 : Int32))] [(.int (4 : Int32)), (.int (3 : Int32))]))
    have hc8_32 : (3 : Int32) < (4 : Int32) := by decide
    refine OGo.to (fun _ k => XS.icmpNo X0.here hx rfl (hb hby d3_8) rfl (tlt hc8_32).2.1 k) ?_
    show OGo p e below _ (s₁.setTop (mkF m 11 #[.val (.ref a1), .val (.int (0 : Int32)), .val (.int (4 : Int32)), .val (.int (((31 : Int32) * (((31 : Int32) * ((0 : Int32) + b0)) + b1)) + b2)), .val (.int (3 : Int32))] []))
    refine OGo.to (fun _ k => XS.bipush X0.here hx rfl (hb hby d3_11) k) ?_
    show OGo p e below _ (s₁.setTop (mkF m 13 #[.val (.ref a1), .val (.int (0 : Int32)), .val (.int (4 : Int32)), .val (.int (((31 : Int32) * (((31 : Int32) * ((0 : Int32) + b0)) + b1)) + b2)), .val (.int (3 : Int32))] [(.int (31 : Int32))]))
    refine OGo.to (fun _ k => XS.iloadN X0.here hx rfl (hb hby d3_13) rfl k) ?_
    show OGo p e below _ (s₁.setTop (mkF m 14 #[.val (.ref a1), .val (.int (0 : Int32)), .val (.int (4 : Int32)), .val (.int (((31 : Int32) * (((31 : Int32) * ((0 : Int32) + b0)) + b1)) + b2)), .val (.int (3 : Int32))] [(.int (((31 : Int32) * (((31 : Int32) * ((0 : Int32) + b0)) + b1)) + b2)), (.int (31 : Int32))]))
    refine OGo.to (fun _ k => XS.imul X0.here hx rfl (hb hby d3_14) rfl k) ?_
    show OGo p e below _ (s₁.setTop (mkF m 15 #[.val (.ref a1), .val (.int (0 : Int32)), .val (.int (4 : Int32)), .val (.int (((31 : Int32) * (((31 : Int32) * ((0 : Int32) + b0)) + b1)) + b2)), .val (.int (3 : Int32))] [(.int ((31 : Int32) * (((31 : Int32) * (((31 : Int32) * ((0 : Int32) + b0)) + b1)) + b2)))]))
    refine OGo.to (fun _ k => XS.aloadN X0.here hx rfl (hb hby d3_15) rfl rfl k) ?_
    show OGo p e below _ (s₁.setTop (mkF m 16 #[.val (.ref a1), .val (.int (0 : Int32)), .val (.int (4 : Int32)), .val (.int (((31 : Int32) * (((31 : Int32) * ((0 : Int32) + b0)) + b1)) + b2)), .val (.int (3 : Int32))] [(.ref a1), (.int ((31 : Int32) * (((31 : Int32) * (((31 : Int32) * ((0 : Int32) + b0)) + b1)) + b2)))]))
    refine OGo.to (fun _ k => XS.iload X0.here hx rfl (hb hby d3_16) rfl k) ?_
    show OGo p e below _ (s₁.setTop (mkF m 18 #[.val (.ref a1), .val (.int (0 : Int32)), .val (.int (4 : Int32)), .val (.int (((31 : Int32) * (((31 : Int32) * ((0 : Int32) + b0)) + b1)) + b2)), .val (.int (3 : Int32))] [(.int (3 : Int32)), (.ref a1), (.int ((31 : Int32) * (((31 : Int32) * (((31 : Int32) * ((0 : Int32) + b0)) + b1)) + b2)))]))
    have Vq33 := V1
    obtain ⟨cl33, Ar33, q33, S33, M33, Hs33, G33⟩ := Vq33
    have hin34 : ¬ ((3 : Int32) < 0 ∨ cl33.slots.size ≤ ((3 : Int32)).toNatClampNeg) := inb_of S33 ⟨by decide, by decide⟩
    have hat34 : cl33.slots[((3 : Int32)).toNatClampNeg]? = some (.int b3) := Hs33.at hin34 (rfl)
    refine OGo.to (fun _ k => X0.baloadBytes hx (j := (3 : Int32)) (v := (.int b3)) (by rw [e0]; exact Ar33.1) (State.isArrayOf_alike hZ.alike Ar33.2.1) Ar33.2.2 hin34 hat34 (g := (mkF m 18 #[.val (.ref a1), .val (.int (0 : Int32)), .val (.int (4 : Int32)), .val (.int (((31 : Int32) * (((31 : Int32) * ((0 : Int32) + b0)) + b1)) + b2)), .val (.int (3 : Int32))] [(.int (3 : Int32)), (.ref a1), (.int ((31 : Int32) * (((31 : Int32) * (((31 : Int32) * ((0 : Int32) + b0)) + b1)) + b2)))])) rfl rfl (hb hby d3_18) _ k) ?_
    show OGo p e below _ (s₁.setTop (mkF m 19 #[.val (.ref a1), .val (.int (0 : Int32)), .val (.int (4 : Int32)), .val (.int (((31 : Int32) * (((31 : Int32) * ((0 : Int32) + b0)) + b1)) + b2)), .val (.int (3 : Int32))] [(.int b3), (.int ((31 : Int32) * (((31 : Int32) * (((31 : Int32) * ((0 : Int32) + b0)) + b1)) + b2)))]))
    refine OGo.to (fun _ k => XS.iadd X0.here hx rfl (hb hby d3_19) rfl k) ?_
    show OGo p e below _ (s₁.setTop (mkF m 20 #[.val (.ref a1), .val (.int (0 : Int32)), .val (.int (4 : Int32)), .val (.int (((31 : Int32) * (((31 : Int32) * ((0 : Int32) + b0)) + b1)) + b2)), .val (.int (3 : Int32))] [(.int (((31 : Int32) * (((31 : Int32) * (((31 : Int32) * ((0 : Int32) + b0)) + b1)) + b2)) + b3))]))
    refine OGo.to (fun _ k => XS.istoreN X0.here hx rfl (hb hby d3_20) rfl (l' := #[.val (.ref a1), .val (.int (0 : Int32)), .val (.int (4 : Int32)), .val (.int (((31 : Int32) * (((31 : Int32) * (((31 : Int32) * ((0 : Int32) + b0)) + b1)) + b2)) + b3)), .val (.int (3 : Int32))]) rfl k) ?_
    show OGo p e below _ (s₁.setTop (mkF m 21 #[.val (.ref a1), .val (.int (0 : Int32)), .val (.int (4 : Int32)), .val (.int (((31 : Int32) * (((31 : Int32) * (((31 : Int32) * ((0 : Int32) + b0)) + b1)) + b2)) + b3)), .val (.int (3 : Int32))] []))
    refine OGo.to (fun _ k => XS.iinc X0.here hx rfl (hb hby d3_21) rfl (l' := #[.val (.ref a1), .val (.int (0 : Int32)), .val (.int (4 : Int32)), .val (.int (((31 : Int32) * (((31 : Int32) * (((31 : Int32) * ((0 : Int32) + b0)) + b1)) + b2)) + b3)), .val (.int (4 : Int32))]) rfl k) ?_
    show OGo p e below _ (s₁.setTop (mkF m 24 #[.val (.ref a1), .val (.int (0 : Int32)), .val (.int (4 : Int32)), .val (.int (((31 : Int32) * (((31 : Int32) * (((31 : Int32) * ((0 : Int32) + b0)) + b1)) + b2)) + b3)), .val (.int (4 : Int32))] []))
    refine OGo.to (fun _ k => XS.goto X0.here hx rfl (pc0 := 24) (pc' := 5) rfl (hb hby d3_24) (by decide) (by decide) k) ?_
    show OGo p e below _ (s₁.setTop (mkF m 5 #[.val (.ref a1), .val (.int (0 : Int32)), .val (.int (4 : Int32)), .val (.int (((31 : Int32) * (((31 : Int32) * (((31 : Int32) * ((0 : Int32) + b0)) + b1)) + b2)) + b3)), .val (.int (4 : Int32))] []))
    refine OGo.to (fun _ k => XS.iload X0.here hx rfl (hb hby d3_5) rfl k) ?_
    show OGo p e below _ (s₁.setTop (mkF m 7 #[.val (.ref a1), .val (.int (0 : Int32)), .val (.int (4 : Int32)), .val (.int (((31 : Int32) * (((31 : Int32) * (((31 : Int32) * ((0 : Int32) + b0)) + b1)) + b2)) + b3)), .val (.int (4 : Int32))] [(.int (4 : Int32))]))
    refine OGo.to (fun _ k => XS.iloadN X0.here hx rfl (hb hby d3_7) rfl k) ?_
    show OGo p e below _ (s₁.setTop (mkF m 8 #[.val (.ref a1), .val (.int (0 : Int32)), .val (.int (4 : Int32)), .val (.int (((31 : Int32) * (((31 : Int32) * (((31 : Int32) * ((0 : Int32) + b0)) + b1)) + b2)) + b3)), .val (.int (4 : Int32))] [(.int (4 : Int32)), (.int (4 : Int32))]))
    have hc8_35 : ¬ ((4 : Int32) < (4 : Int32)) := by decide
    refine OGo.to (fun _ k => XS.icmpYes X0.here hx rfl (pc0 := 8) (pc' := 27) rfl (hb hby d3_8) rfl (flt hc8_35).2.1 (by decide) (by decide) k) ?_
    show OGo p e below _ (s₁.setTop (mkF m 27 #[.val (.ref a1), .val (.int (0 : Int32)), .val (.int (4 : Int32)), .val (.int (((31 : Int32) * (((31 : Int32) * (((31 : Int32) * ((0 : Int32) + b0)) + b1)) + b2)) + b3)), .val (.int (4 : Int32))] []))
    refine OGo.to (fun _ k => XS.iloadN X0.here hx rfl (hb hby d3_27) rfl k) ?_
    show OGo p e below _ (s₁.setTop (mkF m 28 #[.val (.ref a1), .val (.int (0 : Int32)), .val (.int (4 : Int32)), .val (.int (((31 : Int32) * (((31 : Int32) * (((31 : Int32) * ((0 : Int32) + b0)) + b1)) + b2)) + b3)), .val (.int (4 : Int32))] [(.int (((31 : Int32) * (((31 : Int32) * (((31 : Int32) * ((0 : Int32) + b0)) + b1)) + b2)) + b3))]))
    refine OGo.to (fun _ k => X0.ldcInt hx hown (mvT hZ (hw _ (List.mem_of_getElem? (i := 14) rfl))) (g := (mkF m 28 #[.val (.ref a1), .val (.int (0 : Int32)), .val (.int (4 : Int32)), .val (.int (((31 : Int32) * (((31 : Int32) * (((31 : Int32) * ((0 : Int32) + b0)) + b1)) + b2)) + b3)), .val (.int (4 : Int32))] [(.int (((31 : Int32) * (((31 : Int32) * (((31 : Int32) * ((0 : Int32) + b0)) + b1)) + b2)) + b3))])) rfl (hb hby d3_28) _ k) ?_
    show OGo p e below _ (s₁.setTop (mkF m 30 #[.val (.ref a1), .val (.int (0 : Int32)), .val (.int (4 : Int32)), .val (.int (((31 : Int32) * (((31 : Int32) * (((31 : Int32) * ((0 : Int32) + b0)) + b1)) + b2)) + b3)), .val (.int (4 : Int32))] [(.int (-1640531527 : Int32)), (.int (((31 : Int32) * (((31 : Int32) * (((31 : Int32) * ((0 : Int32) + b0)) + b1)) + b2)) + b3))]))
    refine OGo.to (fun _ k => XS.imul X0.here hx rfl (hb hby d3_30) rfl k) ?_
    show OGo p e below _ (s₁.setTop (mkF m 31 #[.val (.ref a1), .val (.int (0 : Int32)), .val (.int (4 : Int32)), .val (.int (((31 : Int32) * (((31 : Int32) * (((31 : Int32) * ((0 : Int32) + b0)) + b1)) + b2)) + b3)), .val (.int (4 : Int32))] [(.int ((((31 : Int32) * (((31 : Int32) * (((31 : Int32) * ((0 : Int32) + b0)) + b1)) + b2)) + b3) * (-1640531527 : Int32)))]))
    refine OGo.to (fun _ k => XS.istore X0.here hx rfl (hb hby d3_31) rfl (l' := #[.val (.ref a1), .val (.int (0 : Int32)), .val (.int (4 : Int32)), .val (.int (((31 : Int32) * (((31 : Int32) * (((31 : Int32) * ((0 : Int32) + b0)) + b1)) + b2)) + b3)), .val (.int ((((31 : Int32) * (((31 : Int32) * (((31 : Int32) * ((0 : Int32) + b0)) + b1)) + b2)) + b3) * (-1640531527 : Int32)))]) rfl k) ?_
    show OGo p e below _ (s₁.setTop (mkF m 33 #[.val (.ref a1), .val (.int (0 : Int32)), .val (.int (4 : Int32)), .val (.int (((31 : Int32) * (((31 : Int32) * (((31 : Int32) * ((0 : Int32) + b0)) + b1)) + b2)) + b3)), .val (.int ((((31 : Int32) * (((31 : Int32) * (((31 : Int32) * ((0 : Int32) + b0)) + b1)) + b2)) + b3) * (-1640531527 : Int32)))] []))
    refine OGo.to (fun _ k => XS.iload X0.here hx rfl (hb hby d3_33) rfl k) ?_
    show OGo p e below _ (s₁.setTop (mkF m 35 #[.val (.ref a1), .val (.int (0 : Int32)), .val (.int (4 : Int32)), .val (.int (((31 : Int32) * (((31 : Int32) * (((31 : Int32) * ((0 : Int32) + b0)) + b1)) + b2)) + b3)), .val (.int ((((31 : Int32) * (((31 : Int32) * (((31 : Int32) * ((0 : Int32) + b0)) + b1)) + b2)) + b3) * (-1640531527 : Int32)))] [(.int ((((31 : Int32) * (((31 : Int32) * (((31 : Int32) * ((0 : Int32) + b0)) + b1)) + b2)) + b3) * (-1640531527 : Int32)))]))
    refine OGo.to (fun _ k => XS.iload X0.here hx rfl (hb hby d3_35) rfl k) ?_
    show OGo p e below _ (s₁.setTop (mkF m 37 #[.val (.ref a1), .val (.int (0 : Int32)), .val (.int (4 : Int32)), .val (.int (((31 : Int32) * (((31 : Int32) * (((31 : Int32) * ((0 : Int32) + b0)) + b1)) + b2)) + b3)), .val (.int ((((31 : Int32) * (((31 : Int32) * (((31 : Int32) * ((0 : Int32) + b0)) + b1)) + b2)) + b3) * (-1640531527 : Int32)))] [(.int ((((31 : Int32) * (((31 : Int32) * (((31 : Int32) * ((0 : Int32) + b0)) + b1)) + b2)) + b3) * (-1640531527 : Int32))), (.int ((((31 : Int32) * (((31 : Int32) * (((31 : Int32) * ((0 : Int32) + b0)) + b1)) + b2)) + b3) * (-1640531527 : Int32)))]))
    refine OGo.to (fun _ k => XS.bipush X0.here hx rfl (hb hby d3_37) k) ?_
    show OGo p e below _ (s₁.setTop (mkF m 39 #[.val (.ref a1), .val (.int (0 : Int32)), .val (.int (4 : Int32)), .val (.int (((31 : Int32) * (((31 : Int32) * (((31 : Int32) * ((0 : Int32) + b0)) + b1)) + b2)) + b3)), .val (.int ((((31 : Int32) * (((31 : Int32) * (((31 : Int32) * ((0 : Int32) + b0)) + b1)) + b2)) + b3) * (-1640531527 : Int32)))] [(.int (16 : Int32)), (.int ((((31 : Int32) * (((31 : Int32) * (((31 : Int32) * ((0 : Int32) + b0)) + b1)) + b2)) + b3) * (-1640531527 : Int32))), (.int ((((31 : Int32) * (((31 : Int32) * (((31 : Int32) * ((0 : Int32) + b0)) + b1)) + b2)) + b3) * (-1640531527 : Int32)))]))
    refine OGo.to (fun _ k => XS.iushr X0.here hx rfl (hb hby d3_39) rfl k) ?_
    show OGo p e below _ (s₁.setTop (mkF m 40 #[.val (.ref a1), .val (.int (0 : Int32)), .val (.int (4 : Int32)), .val (.int (((31 : Int32) * (((31 : Int32) * (((31 : Int32) * ((0 : Int32) + b0)) + b1)) + b2)) + b3)), .val (.int ((((31 : Int32) * (((31 : Int32) * (((31 : Int32) * ((0 : Int32) + b0)) + b1)) + b2)) + b3) * (-1640531527 : Int32)))] [(.int ((((((31 : Int32) * (((31 : Int32) * (((31 : Int32) * ((0 : Int32) + b0)) + b1)) + b2)) + b3) * (-1640531527 : Int32)).toUInt32 >>> ((16 : Int32) &&& 31).toUInt32).toInt32)), (.int ((((31 : Int32) * (((31 : Int32) * (((31 : Int32) * ((0 : Int32) + b0)) + b1)) + b2)) + b3) * (-1640531527 : Int32)))]))
    refine OGo.to (fun _ k => XS.ixor X0.here hx rfl (hb hby d3_40) rfl k) ?_
    show OGo p e below _ (s₁.setTop (mkF m 41 #[.val (.ref a1), .val (.int (0 : Int32)), .val (.int (4 : Int32)), .val (.int (((31 : Int32) * (((31 : Int32) * (((31 : Int32) * ((0 : Int32) + b0)) + b1)) + b2)) + b3)), .val (.int ((((31 : Int32) * (((31 : Int32) * (((31 : Int32) * ((0 : Int32) + b0)) + b1)) + b2)) + b3) * (-1640531527 : Int32)))] [(.int (((((31 : Int32) * (((31 : Int32) * (((31 : Int32) * ((0 : Int32) + b0)) + b1)) + b2)) + b3) * (-1640531527 : Int32)) ^^^ ((((((31 : Int32) * (((31 : Int32) * (((31 : Int32) * ((0 : Int32) + b0)) + b1)) + b2)) + b3) * (-1640531527 : Int32)).toUInt32 >>> ((16 : Int32) &&& 31).toUInt32).toInt32)))]))
    refine OGo.ret (Q := Qh Z a1 (0 : Int32) (4 : Int32) kc b0 b1 b2 b3 h0 n0) X0 (some (.int (((((31 : Int32) * (((31 : Int32) * (((31 : Int32) * ((0 : Int32) + b0)) + b1)) + b2)) + b3) * (-1640531527 : Int32)) ^^^ ((((((31 : Int32) * (((31 : Int32) * (((31 : Int32) * ((0 : Int32) + b0)) + b1)) + b2)) + b3) * (-1640531527 : Int32)).toUInt32 >>> ((16 : Int32) &&& 31).toUInt32).toInt32)))) (fun h => by rw [Bd.returns] at h; cases h) Bd.notSynchronized (fun fs hr => retI X0 hx Bd.returns (hb hby d3_41) hr) ?_ (by decide) (by decide)
    show Qh Z a1 (0 : Int32) (4 : Int32) kc b0 b1 b2 b3 h0 n0 _ s₁.heap _
    rw [e0]
    exact ⟨congrArg (fun z => some (Value.int z)) (show (((((31 : Int32) * (((31 : Int32) * (((31 : Int32) * ((0 : Int32) + b0)) + b1)) + b2)) + b3) * (-1640531527 : Int32)) ^^^ ((((((31 : Int32) * (((31 : Int32) * (((31 : Int32) * ((0 : Int32) + b0)) + b1)) + b2)) + b3) * (-1640531527 : Int32)).toUInt32 >>> ((16 : Int32) &&& 31).toUInt32).toInt32)) = (own_hash b0 b1 b2 b3 (0 : Int32) (4 : Int32)) from by rfl), N0, rfl⟩
  ·
    show OGo p e below _ (s₁.setTop (mkF m 0 #[.val (.ref a1), .val (.int (1 : Int32)), .val (.int (1 : Int32)), .unset, .unset] []))
    refine OGo.to (fun _ k => XS.iconst X0.here hx rfl (hb hby d3_0) k) ?_
    show OGo p e below _ (s₁.setTop (mkF m 1 #[.val (.ref a1), .val (.int (1 : Int32)), .val (.int (1 : Int32)), .unset, .unset] [(.int (0 : Int32))]))
    refine OGo.to (fun _ k => XS.istoreN X0.here hx rfl (hb hby d3_1) rfl (l' := #[.val (.ref a1), .val (.int (1 : Int32)), .val (.int (1 : Int32)), .val (.int (0 : Int32)), .unset]) rfl k) ?_
    show OGo p e below _ (s₁.setTop (mkF m 2 #[.val (.ref a1), .val (.int (1 : Int32)), .val (.int (1 : Int32)), .val (.int (0 : Int32)), .unset] []))
    refine OGo.to (fun _ k => XS.iloadN X0.here hx rfl (hb hby d3_2) rfl k) ?_
    show OGo p e below _ (s₁.setTop (mkF m 3 #[.val (.ref a1), .val (.int (1 : Int32)), .val (.int (1 : Int32)), .val (.int (0 : Int32)), .unset] [(.int (1 : Int32))]))
    refine OGo.to (fun _ k => XS.istore X0.here hx rfl (hb hby d3_3) rfl (l' := #[.val (.ref a1), .val (.int (1 : Int32)), .val (.int (1 : Int32)), .val (.int (0 : Int32)), .val (.int (1 : Int32))]) rfl k) ?_
    show OGo p e below _ (s₁.setTop (mkF m 5 #[.val (.ref a1), .val (.int (1 : Int32)), .val (.int (1 : Int32)), .val (.int (0 : Int32)), .val (.int (1 : Int32))] []))
    refine OGo.to (fun _ k => XS.iload X0.here hx rfl (hb hby d3_5) rfl k) ?_
    show OGo p e below _ (s₁.setTop (mkF m 7 #[.val (.ref a1), .val (.int (1 : Int32)), .val (.int (1 : Int32)), .val (.int (0 : Int32)), .val (.int (1 : Int32))] [(.int (1 : Int32))]))
    refine OGo.to (fun _ k => XS.iloadN X0.here hx rfl (hb hby d3_7) rfl k) ?_
    show OGo p e below _ (s₁.setTop (mkF m 8 #[.val (.ref a1), .val (.int (1 : Int32)), .val (.int (1 : Int32)), .val (.int (0 : Int32)), .val (.int (1 : Int32))] [(.int (1 : Int32)), (.int (1 : Int32))]))
    have hc8_36 : ¬ ((1 : Int32) < (1 : Int32)) := by decide
    refine OGo.to (fun _ k => XS.icmpYes X0.here hx rfl (pc0 := 8) (pc' := 27) rfl (hb hby d3_8) rfl (flt hc8_36).2.1 (by decide) (by decide) k) ?_
    show OGo p e below _ (s₁.setTop (mkF m 27 #[.val (.ref a1), .val (.int (1 : Int32)), .val (.int (1 : Int32)), .val (.int (0 : Int32)), .val (.int (1 : Int32))] []))
    refine OGo.to (fun _ k => XS.iloadN X0.here hx rfl (hb hby d3_27) rfl k) ?_
    show OGo p e below _ (s₁.setTop (mkF m 28 #[.val (.ref a1), .val (.int (1 : Int32)), .val (.int (1 : Int32)), .val (.int (0 : Int32)), .val (.int (1 : Int32))] [(.int (0 : Int32))]))
    refine OGo.to (fun _ k => X0.ldcInt hx hown (mvT hZ (hw _ (List.mem_of_getElem? (i := 14) rfl))) (g := (mkF m 28 #[.val (.ref a1), .val (.int (1 : Int32)), .val (.int (1 : Int32)), .val (.int (0 : Int32)), .val (.int (1 : Int32))] [(.int (0 : Int32))])) rfl (hb hby d3_28) _ k) ?_
    show OGo p e below _ (s₁.setTop (mkF m 30 #[.val (.ref a1), .val (.int (1 : Int32)), .val (.int (1 : Int32)), .val (.int (0 : Int32)), .val (.int (1 : Int32))] [(.int (-1640531527 : Int32)), (.int (0 : Int32))]))
    refine OGo.to (fun _ k => XS.imul X0.here hx rfl (hb hby d3_30) rfl k) ?_
    show OGo p e below _ (s₁.setTop (mkF m 31 #[.val (.ref a1), .val (.int (1 : Int32)), .val (.int (1 : Int32)), .val (.int (0 : Int32)), .val (.int (1 : Int32))] [(.int (0 : Int32))]))
    refine OGo.to (fun _ k => XS.istore X0.here hx rfl (hb hby d3_31) rfl (l' := #[.val (.ref a1), .val (.int (1 : Int32)), .val (.int (1 : Int32)), .val (.int (0 : Int32)), .val (.int (0 : Int32))]) rfl k) ?_
    show OGo p e below _ (s₁.setTop (mkF m 33 #[.val (.ref a1), .val (.int (1 : Int32)), .val (.int (1 : Int32)), .val (.int (0 : Int32)), .val (.int (0 : Int32))] []))
    refine OGo.to (fun _ k => XS.iload X0.here hx rfl (hb hby d3_33) rfl k) ?_
    show OGo p e below _ (s₁.setTop (mkF m 35 #[.val (.ref a1), .val (.int (1 : Int32)), .val (.int (1 : Int32)), .val (.int (0 : Int32)), .val (.int (0 : Int32))] [(.int (0 : Int32))]))
    refine OGo.to (fun _ k => XS.iload X0.here hx rfl (hb hby d3_35) rfl k) ?_
    show OGo p e below _ (s₁.setTop (mkF m 37 #[.val (.ref a1), .val (.int (1 : Int32)), .val (.int (1 : Int32)), .val (.int (0 : Int32)), .val (.int (0 : Int32))] [(.int (0 : Int32)), (.int (0 : Int32))]))
    refine OGo.to (fun _ k => XS.bipush X0.here hx rfl (hb hby d3_37) k) ?_
    show OGo p e below _ (s₁.setTop (mkF m 39 #[.val (.ref a1), .val (.int (1 : Int32)), .val (.int (1 : Int32)), .val (.int (0 : Int32)), .val (.int (0 : Int32))] [(.int (16 : Int32)), (.int (0 : Int32)), (.int (0 : Int32))]))
    refine OGo.to (fun _ k => XS.iushr X0.here hx rfl (hb hby d3_39) rfl k) ?_
    show OGo p e below _ (s₁.setTop (mkF m 40 #[.val (.ref a1), .val (.int (1 : Int32)), .val (.int (1 : Int32)), .val (.int (0 : Int32)), .val (.int (0 : Int32))] [(.int (((0 : Int32).toUInt32 >>> ((16 : Int32) &&& 31).toUInt32).toInt32)), (.int (0 : Int32))]))
    refine OGo.to (fun _ k => XS.ixor X0.here hx rfl (hb hby d3_40) rfl k) ?_
    show OGo p e below _ (s₁.setTop (mkF m 41 #[.val (.ref a1), .val (.int (1 : Int32)), .val (.int (1 : Int32)), .val (.int (0 : Int32)), .val (.int (0 : Int32))] [(.int ((0 : Int32) ^^^ (((0 : Int32).toUInt32 >>> ((16 : Int32) &&& 31).toUInt32).toInt32)))]))
    refine OGo.ret (Q := Qh Z a1 (1 : Int32) (1 : Int32) kc b0 b1 b2 b3 h0 n0) X0 (some (.int ((0 : Int32) ^^^ (((0 : Int32).toUInt32 >>> ((16 : Int32) &&& 31).toUInt32).toInt32)))) (fun h => by rw [Bd.returns] at h; cases h) Bd.notSynchronized (fun fs hr => retI X0 hx Bd.returns (hb hby d3_41) hr) ?_ (by decide) (by decide)
    show Qh Z a1 (1 : Int32) (1 : Int32) kc b0 b1 b2 b3 h0 n0 _ s₁.heap _
    rw [e0]
    exact ⟨congrArg (fun z => some (Value.int z)) (show ((0 : Int32) ^^^ (((0 : Int32).toUInt32 >>> ((16 : Int32) &&& 31).toUInt32).toInt32)) = (own_hash b0 b1 b2 b3 (1 : Int32) (1 : Int32)) from by show _ = own_mix (0 : Int32); decide), N0, rfl⟩
  ·
    show OGo p e below _ (s₁.setTop (mkF m 0 #[.val (.ref a1), .val (.int (1 : Int32)), .val (.int (2 : Int32)), .unset, .unset] []))
    refine OGo.to (fun _ k => XS.iconst X0.here hx rfl (hb hby d3_0) k) ?_
    show OGo p e below _ (s₁.setTop (mkF m 1 #[.val (.ref a1), .val (.int (1 : Int32)), .val (.int (2 : Int32)), .unset, .unset] [(.int (0 : Int32))]))
    refine OGo.to (fun _ k => XS.istoreN X0.here hx rfl (hb hby d3_1) rfl (l' := #[.val (.ref a1), .val (.int (1 : Int32)), .val (.int (2 : Int32)), .val (.int (0 : Int32)), .unset]) rfl k) ?_
    show OGo p e below _ (s₁.setTop (mkF m 2 #[.val (.ref a1), .val (.int (1 : Int32)), .val (.int (2 : Int32)), .val (.int (0 : Int32)), .unset] []))
    refine OGo.to (fun _ k => XS.iloadN X0.here hx rfl (hb hby d3_2) rfl k) ?_
    show OGo p e below _ (s₁.setTop (mkF m 3 #[.val (.ref a1), .val (.int (1 : Int32)), .val (.int (2 : Int32)), .val (.int (0 : Int32)), .unset] [(.int (1 : Int32))]))
    refine OGo.to (fun _ k => XS.istore X0.here hx rfl (hb hby d3_3) rfl (l' := #[.val (.ref a1), .val (.int (1 : Int32)), .val (.int (2 : Int32)), .val (.int (0 : Int32)), .val (.int (1 : Int32))]) rfl k) ?_
    show OGo p e below _ (s₁.setTop (mkF m 5 #[.val (.ref a1), .val (.int (1 : Int32)), .val (.int (2 : Int32)), .val (.int (0 : Int32)), .val (.int (1 : Int32))] []))
    refine OGo.to (fun _ k => XS.iload X0.here hx rfl (hb hby d3_5) rfl k) ?_
    show OGo p e below _ (s₁.setTop (mkF m 7 #[.val (.ref a1), .val (.int (1 : Int32)), .val (.int (2 : Int32)), .val (.int (0 : Int32)), .val (.int (1 : Int32))] [(.int (1 : Int32))]))
    refine OGo.to (fun _ k => XS.iloadN X0.here hx rfl (hb hby d3_7) rfl k) ?_
    show OGo p e below _ (s₁.setTop (mkF m 8 #[.val (.ref a1), .val (.int (1 : Int32)), .val (.int (2 : Int32)), .val (.int (0 : Int32)), .val (.int (1 : Int32))] [(.int (2 : Int32)), (.int (1 : Int32))]))
    have hc8_37 : (1 : Int32) < (2 : Int32) := by decide
    refine OGo.to (fun _ k => XS.icmpNo X0.here hx rfl (hb hby d3_8) rfl (tlt hc8_37).2.1 k) ?_
    show OGo p e below _ (s₁.setTop (mkF m 11 #[.val (.ref a1), .val (.int (1 : Int32)), .val (.int (2 : Int32)), .val (.int (0 : Int32)), .val (.int (1 : Int32))] []))
    refine OGo.to (fun _ k => XS.bipush X0.here hx rfl (hb hby d3_11) k) ?_
    show OGo p e below _ (s₁.setTop (mkF m 13 #[.val (.ref a1), .val (.int (1 : Int32)), .val (.int (2 : Int32)), .val (.int (0 : Int32)), .val (.int (1 : Int32))] [(.int (31 : Int32))]))
    refine OGo.to (fun _ k => XS.iloadN X0.here hx rfl (hb hby d3_13) rfl k) ?_
    show OGo p e below _ (s₁.setTop (mkF m 14 #[.val (.ref a1), .val (.int (1 : Int32)), .val (.int (2 : Int32)), .val (.int (0 : Int32)), .val (.int (1 : Int32))] [(.int (0 : Int32)), (.int (31 : Int32))]))
    refine OGo.to (fun _ k => XS.imul X0.here hx rfl (hb hby d3_14) rfl k) ?_
    show OGo p e below _ (s₁.setTop (mkF m 15 #[.val (.ref a1), .val (.int (1 : Int32)), .val (.int (2 : Int32)), .val (.int (0 : Int32)), .val (.int (1 : Int32))] [(.int (0 : Int32))]))
    refine OGo.to (fun _ k => XS.aloadN X0.here hx rfl (hb hby d3_15) rfl rfl k) ?_
    show OGo p e below _ (s₁.setTop (mkF m 16 #[.val (.ref a1), .val (.int (1 : Int32)), .val (.int (2 : Int32)), .val (.int (0 : Int32)), .val (.int (1 : Int32))] [(.ref a1), (.int (0 : Int32))]))
    refine OGo.to (fun _ k => XS.iload X0.here hx rfl (hb hby d3_16) rfl k) ?_
    show OGo p e below _ (s₁.setTop (mkF m 18 #[.val (.ref a1), .val (.int (1 : Int32)), .val (.int (2 : Int32)), .val (.int (0 : Int32)), .val (.int (1 : Int32))] [(.int (1 : Int32)), (.ref a1), (.int (0 : Int32))]))
    have Vq38 := V1
    obtain ⟨cl38, Ar38, q38, S38, M38, Hs38, G38⟩ := Vq38
    have hin39 : ¬ ((1 : Int32) < 0 ∨ cl38.slots.size ≤ ((1 : Int32)).toNatClampNeg) := inb_of S38 ⟨by decide, by decide⟩
    have hat39 : cl38.slots[((1 : Int32)).toNatClampNeg]? = some (.int b1) := Hs38.at hin39 (rfl)
    refine OGo.to (fun _ k => X0.baloadBytes hx (j := (1 : Int32)) (v := (.int b1)) (by rw [e0]; exact Ar38.1) (State.isArrayOf_alike hZ.alike Ar38.2.1) Ar38.2.2 hin39 hat39 (g := (mkF m 18 #[.val (.ref a1), .val (.int (1 : Int32)), .val (.int (2 : Int32)), .val (.int (0 : Int32)), .val (.int (1 : Int32))] [(.int (1 : Int32)), (.ref a1), (.int (0 : Int32))])) rfl rfl (hb hby d3_18) _ k) ?_
    show OGo p e below _ (s₁.setTop (mkF m 19 #[.val (.ref a1), .val (.int (1 : Int32)), .val (.int (2 : Int32)), .val (.int (0 : Int32)), .val (.int (1 : Int32))] [(.int b1), (.int (0 : Int32))]))
    refine OGo.to (fun _ k => XS.iadd X0.here hx rfl (hb hby d3_19) rfl k) ?_
    show OGo p e below _ (s₁.setTop (mkF m 20 #[.val (.ref a1), .val (.int (1 : Int32)), .val (.int (2 : Int32)), .val (.int (0 : Int32)), .val (.int (1 : Int32))] [(.int ((0 : Int32) + b1))]))
    refine OGo.to (fun _ k => XS.istoreN X0.here hx rfl (hb hby d3_20) rfl (l' := #[.val (.ref a1), .val (.int (1 : Int32)), .val (.int (2 : Int32)), .val (.int ((0 : Int32) + b1)), .val (.int (1 : Int32))]) rfl k) ?_
    show OGo p e below _ (s₁.setTop (mkF m 21 #[.val (.ref a1), .val (.int (1 : Int32)), .val (.int (2 : Int32)), .val (.int ((0 : Int32) + b1)), .val (.int (1 : Int32))] []))
    refine OGo.to (fun _ k => XS.iinc X0.here hx rfl (hb hby d3_21) rfl (l' := #[.val (.ref a1), .val (.int (1 : Int32)), .val (.int (2 : Int32)), .val (.int ((0 : Int32) + b1)), .val (.int (2 : Int32))]) rfl k) ?_
    show OGo p e below _ (s₁.setTop (mkF m 24 #[.val (.ref a1), .val (.int (1 : Int32)), .val (.int (2 : Int32)), .val (.int ((0 : Int32) + b1)), .val (.int (2 : Int32))] []))
    refine OGo.to (fun _ k => XS.goto X0.here hx rfl (pc0 := 24) (pc' := 5) rfl (hb hby d3_24) (by decide) (by decide) k) ?_
    show OGo p e below _ (s₁.setTop (mkF m 5 #[.val (.ref a1), .val (.int (1 : Int32)), .val (.int (2 : Int32)), .val (.int ((0 : Int32) + b1)), .val (.int (2 : Int32))] []))
    refine OGo.to (fun _ k => XS.iload X0.here hx rfl (hb hby d3_5) rfl k) ?_
    show OGo p e below _ (s₁.setTop (mkF m 7 #[.val (.ref a1), .val (.int (1 : Int32)), .val (.int (2 : Int32)), .val (.int ((0 : Int32) + b1)), .val (.int (2 : Int32))] [(.int (2 : Int32))]))
    refine OGo.to (fun _ k => XS.iloadN X0.here hx rfl (hb hby d3_7) rfl k) ?_
    show OGo p e below _ (s₁.setTop (mkF m 8 #[.val (.ref a1), .val (.int (1 : Int32)), .val (.int (2 : Int32)), .val (.int ((0 : Int32) + b1)), .val (.int (2 : Int32))] [(.int (2 : Int32)), (.int (2 : Int32))]))
    have hc8_40 : ¬ ((2 : Int32) < (2 : Int32)) := by decide
    refine OGo.to (fun _ k => XS.icmpYes X0.here hx rfl (pc0 := 8) (pc' := 27) rfl (hb hby d3_8) rfl (flt hc8_40).2.1 (by decide) (by decide) k) ?_
    show OGo p e below _ (s₁.setTop (mkF m 27 #[.val (.ref a1), .val (.int (1 : Int32)), .val (.int (2 : Int32)), .val (.int ((0 : Int32) + b1)), .val (.int (2 : Int32))] []))
    refine OGo.to (fun _ k => XS.iloadN X0.here hx rfl (hb hby d3_27) rfl k) ?_
    show OGo p e below _ (s₁.setTop (mkF m 28 #[.val (.ref a1), .val (.int (1 : Int32)), .val (.int (2 : Int32)), .val (.int ((0 : Int32) + b1)), .val (.int (2 : Int32))] [(.int ((0 : Int32) + b1))]))
    refine OGo.to (fun _ k => X0.ldcInt hx hown (mvT hZ (hw _ (List.mem_of_getElem? (i := 14) rfl))) (g := (mkF m 28 #[.val (.ref a1), .val (.int (1 : Int32)), .val (.int (2 : Int32)), .val (.int ((0 : Int32) + b1)), .val (.int (2 : Int32))] [(.int ((0 : Int32) + b1))])) rfl (hb hby d3_28) _ k) ?_
    show OGo p e below _ (s₁.setTop (mkF m 30 #[.val (.ref a1), .val (.int (1 : Int32)), .val (.int (2 : Int32)), .val (.int ((0 : Int32) + b1)), .val (.int (2 : Int32))] [(.int (-1640531527 : Int32)), (.int ((0 : Int32) + b1))]))
    refine OGo.to (fun _ k => XS.imul X0.here hx rfl (hb hby d3_30) rfl k) ?_
    show OGo p e below _ (s₁.setTop (mkF m 31 #[.val (.ref a1), .val (.int (1 : Int32)), .val (.int (2 : Int32)), .val (.int ((0 : Int32) + b1)), .val (.int (2 : Int32))] [(.int (((0 : Int32) + b1) * (-1640531527 : Int32)))]))
    refine OGo.to (fun _ k => XS.istore X0.here hx rfl (hb hby d3_31) rfl (l' := #[.val (.ref a1), .val (.int (1 : Int32)), .val (.int (2 : Int32)), .val (.int ((0 : Int32) + b1)), .val (.int (((0 : Int32) + b1) * (-1640531527 : Int32)))]) rfl k) ?_
    show OGo p e below _ (s₁.setTop (mkF m 33 #[.val (.ref a1), .val (.int (1 : Int32)), .val (.int (2 : Int32)), .val (.int ((0 : Int32) + b1)), .val (.int (((0 : Int32) + b1) * (-1640531527 : Int32)))] []))
    refine OGo.to (fun _ k => XS.iload X0.here hx rfl (hb hby d3_33) rfl k) ?_
    show OGo p e below _ (s₁.setTop (mkF m 35 #[.val (.ref a1), .val (.int (1 : Int32)), .val (.int (2 : Int32)), .val (.int ((0 : Int32) + b1)), .val (.int (((0 : Int32) + b1) * (-1640531527 : Int32)))] [(.int (((0 : Int32) + b1) * (-1640531527 : Int32)))]))
    refine OGo.to (fun _ k => XS.iload X0.here hx rfl (hb hby d3_35) rfl k) ?_
    show OGo p e below _ (s₁.setTop (mkF m 37 #[.val (.ref a1), .val (.int (1 : Int32)), .val (.int (2 : Int32)), .val (.int ((0 : Int32) + b1)), .val (.int (((0 : Int32) + b1) * (-1640531527 : Int32)))] [(.int (((0 : Int32) + b1) * (-1640531527 : Int32))), (.int (((0 : Int32) + b1) * (-1640531527 : Int32)))]))
    refine OGo.to (fun _ k => XS.bipush X0.here hx rfl (hb hby d3_37) k) ?_
    show OGo p e below _ (s₁.setTop (mkF m 39 #[.val (.ref a1), .val (.int (1 : Int32)), .val (.int (2 : Int32)), .val (.int ((0 : Int32) + b1)), .val (.int (((0 : Int32) + b1) * (-1640531527 : Int32)))] [(.int (16 : Int32)), (.int (((0 : Int32) + b1) * (-1640531527 : Int32))), (.int (((0 : Int32) + b1) * (-1640531527 : Int32)))]))
    refine OGo.to (fun _ k => XS.iushr X0.here hx rfl (hb hby d3_39) rfl k) ?_
    show OGo p e below _ (s₁.setTop (mkF m 40 #[.val (.ref a1), .val (.int (1 : Int32)), .val (.int (2 : Int32)), .val (.int ((0 : Int32) + b1)), .val (.int (((0 : Int32) + b1) * (-1640531527 : Int32)))] [(.int (((((0 : Int32) + b1) * (-1640531527 : Int32)).toUInt32 >>> ((16 : Int32) &&& 31).toUInt32).toInt32)), (.int (((0 : Int32) + b1) * (-1640531527 : Int32)))]))
    refine OGo.to (fun _ k => XS.ixor X0.here hx rfl (hb hby d3_40) rfl k) ?_
    show OGo p e below _ (s₁.setTop (mkF m 41 #[.val (.ref a1), .val (.int (1 : Int32)), .val (.int (2 : Int32)), .val (.int ((0 : Int32) + b1)), .val (.int (((0 : Int32) + b1) * (-1640531527 : Int32)))] [(.int ((((0 : Int32) + b1) * (-1640531527 : Int32)) ^^^ (((((0 : Int32) + b1) * (-1640531527 : Int32)).toUInt32 >>> ((16 : Int32) &&& 31).toUInt32).toInt32)))]))
    refine OGo.ret (Q := Qh Z a1 (1 : Int32) (2 : Int32) kc b0 b1 b2 b3 h0 n0) X0 (some (.int ((((0 : Int32) + b1) * (-1640531527 : Int32)) ^^^ (((((0 : Int32) + b1) * (-1640531527 : Int32)).toUInt32 >>> ((16 : Int32) &&& 31).toUInt32).toInt32)))) (fun h => by rw [Bd.returns] at h; cases h) Bd.notSynchronized (fun fs hr => retI X0 hx Bd.returns (hb hby d3_41) hr) ?_ (by decide) (by decide)
    show Qh Z a1 (1 : Int32) (2 : Int32) kc b0 b1 b2 b3 h0 n0 _ s₁.heap _
    rw [e0]
    exact ⟨congrArg (fun z => some (Value.int z)) (show ((((0 : Int32) + b1) * (-1640531527 : Int32)) ^^^ (((((0 : Int32) + b1) * (-1640531527 : Int32)).toUInt32 >>> ((16 : Int32) &&& 31).toUInt32).toInt32)) = (own_hash b0 b1 b2 b3 (1 : Int32) (2 : Int32)) from by rfl), N0, rfl⟩
  ·
    show OGo p e below _ (s₁.setTop (mkF m 0 #[.val (.ref a1), .val (.int (1 : Int32)), .val (.int (3 : Int32)), .unset, .unset] []))
    refine OGo.to (fun _ k => XS.iconst X0.here hx rfl (hb hby d3_0) k) ?_
    show OGo p e below _ (s₁.setTop (mkF m 1 #[.val (.ref a1), .val (.int (1 : Int32)), .val (.int (3 : Int32)), .unset, .unset] [(.int (0 : Int32))]))
    refine OGo.to (fun _ k => XS.istoreN X0.here hx rfl (hb hby d3_1) rfl (l' := #[.val (.ref a1), .val (.int (1 : Int32)), .val (.int (3 : Int32)), .val (.int (0 : Int32)), .unset]) rfl k) ?_
    show OGo p e below _ (s₁.setTop (mkF m 2 #[.val (.ref a1), .val (.int (1 : Int32)), .val (.int (3 : Int32)), .val (.int (0 : Int32)), .unset] []))
    refine OGo.to (fun _ k => XS.iloadN X0.here hx rfl (hb hby d3_2) rfl k) ?_
    show OGo p e below _ (s₁.setTop (mkF m 3 #[.val (.ref a1), .val (.int (1 : Int32)), .val (.int (3 : Int32)), .val (.int (0 : Int32)), .unset] [(.int (1 : Int32))]))
    refine OGo.to (fun _ k => XS.istore X0.here hx rfl (hb hby d3_3) rfl (l' := #[.val (.ref a1), .val (.int (1 : Int32)), .val (.int (3 : Int32)), .val (.int (0 : Int32)), .val (.int (1 : Int32))]) rfl k) ?_
    show OGo p e below _ (s₁.setTop (mkF m 5 #[.val (.ref a1), .val (.int (1 : Int32)), .val (.int (3 : Int32)), .val (.int (0 : Int32)), .val (.int (1 : Int32))] []))
    refine OGo.to (fun _ k => XS.iload X0.here hx rfl (hb hby d3_5) rfl k) ?_
    show OGo p e below _ (s₁.setTop (mkF m 7 #[.val (.ref a1), .val (.int (1 : Int32)), .val (.int (3 : Int32)), .val (.int (0 : Int32)), .val (.int (1 : Int32))] [(.int (1 : Int32))]))
    refine OGo.to (fun _ k => XS.iloadN X0.here hx rfl (hb hby d3_7) rfl k) ?_
    show OGo p e below _ (s₁.setTop (mkF m 8 #[.val (.ref a1), .val (.int (1 : Int32)), .val (.int (3 : Int32)), .val (.int (0 : Int32)), .val (.int (1 : Int32))] [(.int (3 : Int32)), (.int (1 : Int32))]))
    have hc8_41 : (1 : Int32) < (3 : Int32) := by decide
    refine OGo.to (fun _ k => XS.icmpNo X0.here hx rfl (hb hby d3_8) rfl (tlt hc8_41).2.1 k) ?_
    show OGo p e below _ (s₁.setTop (mkF m 11 #[.val (.ref a1), .val (.int (1 : Int32)), .val (.int (3 : Int32)), .val (.int (0 : Int32)), .val (.int (1 : Int32))] []))
    refine OGo.to (fun _ k => XS.bipush X0.here hx rfl (hb hby d3_11) k) ?_
    show OGo p e below _ (s₁.setTop (mkF m 13 #[.val (.ref a1), .val (.int (1 : Int32)), .val (.int (3 : Int32)), .val (.int (0 : Int32)), .val (.int (1 : Int32))] [(.int (31 : Int32))]))
    refine OGo.to (fun _ k => XS.iloadN X0.here hx rfl (hb hby d3_13) rfl k) ?_
    show OGo p e below _ (s₁.setTop (mkF m 14 #[.val (.ref a1), .val (.int (1 : Int32)), .val (.int (3 : Int32)), .val (.int (0 : Int32)), .val (.int (1 : Int32))] [(.int (0 : Int32)), (.int (31 : Int32))]))
    refine OGo.to (fun _ k => XS.imul X0.here hx rfl (hb hby d3_14) rfl k) ?_
    show OGo p e below _ (s₁.setTop (mkF m 15 #[.val (.ref a1), .val (.int (1 : Int32)), .val (.int (3 : Int32)), .val (.int (0 : Int32)), .val (.int (1 : Int32))] [(.int (0 : Int32))]))
    refine OGo.to (fun _ k => XS.aloadN X0.here hx rfl (hb hby d3_15) rfl rfl k) ?_
    show OGo p e below _ (s₁.setTop (mkF m 16 #[.val (.ref a1), .val (.int (1 : Int32)), .val (.int (3 : Int32)), .val (.int (0 : Int32)), .val (.int (1 : Int32))] [(.ref a1), (.int (0 : Int32))]))
    refine OGo.to (fun _ k => XS.iload X0.here hx rfl (hb hby d3_16) rfl k) ?_
    show OGo p e below _ (s₁.setTop (mkF m 18 #[.val (.ref a1), .val (.int (1 : Int32)), .val (.int (3 : Int32)), .val (.int (0 : Int32)), .val (.int (1 : Int32))] [(.int (1 : Int32)), (.ref a1), (.int (0 : Int32))]))
    have Vq42 := V1
    obtain ⟨cl42, Ar42, q42, S42, M42, Hs42, G42⟩ := Vq42
    have hin43 : ¬ ((1 : Int32) < 0 ∨ cl42.slots.size ≤ ((1 : Int32)).toNatClampNeg) := inb_of S42 ⟨by decide, by decide⟩
    have hat43 : cl42.slots[((1 : Int32)).toNatClampNeg]? = some (.int b1) := Hs42.at hin43 (rfl)
    refine OGo.to (fun _ k => X0.baloadBytes hx (j := (1 : Int32)) (v := (.int b1)) (by rw [e0]; exact Ar42.1) (State.isArrayOf_alike hZ.alike Ar42.2.1) Ar42.2.2 hin43 hat43 (g := (mkF m 18 #[.val (.ref a1), .val (.int (1 : Int32)), .val (.int (3 : Int32)), .val (.int (0 : Int32)), .val (.int (1 : Int32))] [(.int (1 : Int32)), (.ref a1), (.int (0 : Int32))])) rfl rfl (hb hby d3_18) _ k) ?_
    show OGo p e below _ (s₁.setTop (mkF m 19 #[.val (.ref a1), .val (.int (1 : Int32)), .val (.int (3 : Int32)), .val (.int (0 : Int32)), .val (.int (1 : Int32))] [(.int b1), (.int (0 : Int32))]))
    refine OGo.to (fun _ k => XS.iadd X0.here hx rfl (hb hby d3_19) rfl k) ?_
    show OGo p e below _ (s₁.setTop (mkF m 20 #[.val (.ref a1), .val (.int (1 : Int32)), .val (.int (3 : Int32)), .val (.int (0 : Int32)), .val (.int (1 : Int32))] [(.int ((0 : Int32) + b1))]))
    refine OGo.to (fun _ k => XS.istoreN X0.here hx rfl (hb hby d3_20) rfl (l' := #[.val (.ref a1), .val (.int (1 : Int32)), .val (.int (3 : Int32)), .val (.int ((0 : Int32) + b1)), .val (.int (1 : Int32))]) rfl k) ?_
    show OGo p e below _ (s₁.setTop (mkF m 21 #[.val (.ref a1), .val (.int (1 : Int32)), .val (.int (3 : Int32)), .val (.int ((0 : Int32) + b1)), .val (.int (1 : Int32))] []))
    refine OGo.to (fun _ k => XS.iinc X0.here hx rfl (hb hby d3_21) rfl (l' := #[.val (.ref a1), .val (.int (1 : Int32)), .val (.int (3 : Int32)), .val (.int ((0 : Int32) + b1)), .val (.int (2 : Int32))]) rfl k) ?_
    show OGo p e below _ (s₁.setTop (mkF m 24 #[.val (.ref a1), .val (.int (1 : Int32)), .val (.int (3 : Int32)), .val (.int ((0 : Int32) + b1)), .val (.int (2 : Int32))] []))
    refine OGo.to (fun _ k => XS.goto X0.here hx rfl (pc0 := 24) (pc' := 5) rfl (hb hby d3_24) (by decide) (by decide) k) ?_
    show OGo p e below _ (s₁.setTop (mkF m 5 #[.val (.ref a1), .val (.int (1 : Int32)), .val (.int (3 : Int32)), .val (.int ((0 : Int32) + b1)), .val (.int (2 : Int32))] []))
    refine OGo.to (fun _ k => XS.iload X0.here hx rfl (hb hby d3_5) rfl k) ?_
    show OGo p e below _ (s₁.setTop (mkF m 7 #[.val (.ref a1), .val (.int (1 : Int32)), .val (.int (3 : Int32)), .val (.int ((0 : Int32) + b1)), .val (.int (2 : Int32))] [(.int (2 : Int32))]))
    refine OGo.to (fun _ k => XS.iloadN X0.here hx rfl (hb hby d3_7) rfl k) ?_
    show OGo p e below _ (s₁.setTop (mkF m 8 #[.val (.ref a1), .val (.int (1 : Int32)), .val (.int (3 : Int32)), .val (.int ((0 : Int32) + b1)), .val (.int (2 : Int32))] [(.int (3 : Int32)), (.int (2 : Int32))]))
    have hc8_44 : (2 : Int32) < (3 : Int32) := by decide
    refine OGo.to (fun _ k => XS.icmpNo X0.here hx rfl (hb hby d3_8) rfl (tlt hc8_44).2.1 k) ?_
    show OGo p e below _ (s₁.setTop (mkF m 11 #[.val (.ref a1), .val (.int (1 : Int32)), .val (.int (3 : Int32)), .val (.int ((0 : Int32) + b1)), .val (.int (2 : Int32))] []))
    refine OGo.to (fun _ k => XS.bipush X0.here hx rfl (hb hby d3_11) k) ?_
    show OGo p e below _ (s₁.setTop (mkF m 13 #[.val (.ref a1), .val (.int (1 : Int32)), .val (.int (3 : Int32)), .val (.int ((0 : Int32) + b1)), .val (.int (2 : Int32))] [(.int (31 : Int32))]))
    refine OGo.to (fun _ k => XS.iloadN X0.here hx rfl (hb hby d3_13) rfl k) ?_
    show OGo p e below _ (s₁.setTop (mkF m 14 #[.val (.ref a1), .val (.int (1 : Int32)), .val (.int (3 : Int32)), .val (.int ((0 : Int32) + b1)), .val (.int (2 : Int32))] [(.int ((0 : Int32) + b1)), (.int (31 : Int32))]))
    refine OGo.to (fun _ k => XS.imul X0.here hx rfl (hb hby d3_14) rfl k) ?_
    show OGo p e below _ (s₁.setTop (mkF m 15 #[.val (.ref a1), .val (.int (1 : Int32)), .val (.int (3 : Int32)), .val (.int ((0 : Int32) + b1)), .val (.int (2 : Int32))] [(.int ((31 : Int32) * ((0 : Int32) + b1)))]))
    refine OGo.to (fun _ k => XS.aloadN X0.here hx rfl (hb hby d3_15) rfl rfl k) ?_
    show OGo p e below _ (s₁.setTop (mkF m 16 #[.val (.ref a1), .val (.int (1 : Int32)), .val (.int (3 : Int32)), .val (.int ((0 : Int32) + b1)), .val (.int (2 : Int32))] [(.ref a1), (.int ((31 : Int32) * ((0 : Int32) + b1)))]))
    refine OGo.to (fun _ k => XS.iload X0.here hx rfl (hb hby d3_16) rfl k) ?_
    show OGo p e below _ (s₁.setTop (mkF m 18 #[.val (.ref a1), .val (.int (1 : Int32)), .val (.int (3 : Int32)), .val (.int ((0 : Int32) + b1)), .val (.int (2 : Int32))] [(.int (2 : Int32)), (.ref a1), (.int ((31 : Int32) * ((0 : Int32) + b1)))]))
    have Vq45 := V1
    obtain ⟨cl45, Ar45, q45, S45, M45, Hs45, G45⟩ := Vq45
    have hin46 : ¬ ((2 : Int32) < 0 ∨ cl45.slots.size ≤ ((2 : Int32)).toNatClampNeg) := inb_of S45 ⟨by decide, by decide⟩
    have hat46 : cl45.slots[((2 : Int32)).toNatClampNeg]? = some (.int b2) := Hs45.at hin46 (rfl)
    refine OGo.to (fun _ k => X0.baloadBytes hx (j := (2 : Int32)) (v := (.int b2)) (by rw [e0]; exact Ar45.1) (State.isArrayOf_alike hZ.alike Ar45.2.1) Ar45.2.2 hin46 hat46 (g := (mkF m 18 #[.val (.ref a1), .val (.int (1 : Int32)), .val (.int (3 : Int32)), .val (.int ((0 : Int32) + b1)), .val (.int (2 : Int32))] [(.int (2 : Int32)), (.ref a1), (.int ((31 : Int32) * ((0 : Int32) + b1)))])) rfl rfl (hb hby d3_18) _ k) ?_
    show OGo p e below _ (s₁.setTop (mkF m 19 #[.val (.ref a1), .val (.int (1 : Int32)), .val (.int (3 : Int32)), .val (.int ((0 : Int32) + b1)), .val (.int (2 : Int32))] [(.int b2), (.int ((31 : Int32) * ((0 : Int32) + b1)))]))
    refine OGo.to (fun _ k => XS.iadd X0.here hx rfl (hb hby d3_19) rfl k) ?_
    show OGo p e below _ (s₁.setTop (mkF m 20 #[.val (.ref a1), .val (.int (1 : Int32)), .val (.int (3 : Int32)), .val (.int ((0 : Int32) + b1)), .val (.int (2 : Int32))] [(.int (((31 : Int32) * ((0 : Int32) + b1)) + b2))]))
    refine OGo.to (fun _ k => XS.istoreN X0.here hx rfl (hb hby d3_20) rfl (l' := #[.val (.ref a1), .val (.int (1 : Int32)), .val (.int (3 : Int32)), .val (.int (((31 : Int32) * ((0 : Int32) + b1)) + b2)), .val (.int (2 : Int32))]) rfl k) ?_
    show OGo p e below _ (s₁.setTop (mkF m 21 #[.val (.ref a1), .val (.int (1 : Int32)), .val (.int (3 : Int32)), .val (.int (((31 : Int32) * ((0 : Int32) + b1)) + b2)), .val (.int (2 : Int32))] []))
    refine OGo.to (fun _ k => XS.iinc X0.here hx rfl (hb hby d3_21) rfl (l' := #[.val (.ref a1), .val (.int (1 : Int32)), .val (.int (3 : Int32)), .val (.int (((31 : Int32) * ((0 : Int32) + b1)) + b2)), .val (.int (3 : Int32))]) rfl k) ?_
    show OGo p e below _ (s₁.setTop (mkF m 24 #[.val (.ref a1), .val (.int (1 : Int32)), .val (.int (3 : Int32)), .val (.int (((31 : Int32) * ((0 : Int32) + b1)) + b2)), .val (.int (3 : Int32))] []))
    refine OGo.to (fun _ k => XS.goto X0.here hx rfl (pc0 := 24) (pc' := 5) rfl (hb hby d3_24) (by decide) (by decide) k) ?_
    show OGo p e below _ (s₁.setTop (mkF m 5 #[.val (.ref a1), .val (.int (1 : Int32)), .val (.int (3 : Int32)), .val (.int (((31 : Int32) * ((0 : Int32) + b1)) + b2)), .val (.int (3 : Int32))] []))
    refine OGo.to (fun _ k => XS.iload X0.here hx rfl (hb hby d3_5) rfl k) ?_
    show OGo p e below _ (s₁.setTop (mkF m 7 #[.val (.ref a1), .val (.int (1 : Int32)), .val (.int (3 : Int32)), .val (.int (((31 : Int32) * ((0 : Int32) + b1)) + b2)), .val (.int (3 : Int32))] [(.int (3 : Int32))]))
    refine OGo.to (fun _ k => XS.iloadN X0.here hx rfl (hb hby d3_7) rfl k) ?_
    show OGo p e below _ (s₁.setTop (mkF m 8 #[.val (.ref a1), .val (.int (1 : Int32)), .val (.int (3 : Int32)), .val (.int (((31 : Int32) * ((0 : Int32) + b1)) + b2)), .val (.int (3 : Int32))] [(.int (3 : Int32)), (.int (3 : Int32))]))
    have hc8_47 : ¬ ((3 : Int32) < (3 : Int32)) := by decide
    refine OGo.to (fun _ k => XS.icmpYes X0.here hx rfl (pc0 := 8) (pc' := 27) rfl (hb hby d3_8) rfl (flt hc8_47).2.1 (by decide) (by decide) k) ?_
    show OGo p e below _ (s₁.setTop (mkF m 27 #[.val (.ref a1), .val (.int (1 : Int32)), .val (.int (3 : Int32)), .val (.int (((31 : Int32) * ((0 : Int32) + b1)) + b2)), .val (.int (3 : Int32))] []))
    refine OGo.to (fun _ k => XS.iloadN X0.here hx rfl (hb hby d3_27) rfl k) ?_
    show OGo p e below _ (s₁.setTop (mkF m 28 #[.val (.ref a1), .val (.int (1 : Int32)), .val (.int (3 : Int32)), .val (.int (((31 : Int32) * ((0 : Int32) + b1)) + b2)), .val (.int (3 : Int32))] [(.int (((31 : Int32) * ((0 : Int32) + b1)) + b2))]))
    refine OGo.to (fun _ k => X0.ldcInt hx hown (mvT hZ (hw _ (List.mem_of_getElem? (i := 14) rfl))) (g := (mkF m 28 #[.val (.ref a1), .val (.int (1 : Int32)), .val (.int (3 : Int32)), .val (.int (((31 : Int32) * ((0 : Int32) + b1)) + b2)), .val (.int (3 : Int32))] [(.int (((31 : Int32) * ((0 : Int32) + b1)) + b2))])) rfl (hb hby d3_28) _ k) ?_
    show OGo p e below _ (s₁.setTop (mkF m 30 #[.val (.ref a1), .val (.int (1 : Int32)), .val (.int (3 : Int32)), .val (.int (((31 : Int32) * ((0 : Int32) + b1)) + b2)), .val (.int (3 : Int32))] [(.int (-1640531527 : Int32)), (.int (((31 : Int32) * ((0 : Int32) + b1)) + b2))]))
    refine OGo.to (fun _ k => XS.imul X0.here hx rfl (hb hby d3_30) rfl k) ?_
    show OGo p e below _ (s₁.setTop (mkF m 31 #[.val (.ref a1), .val (.int (1 : Int32)), .val (.int (3 : Int32)), .val (.int (((31 : Int32) * ((0 : Int32) + b1)) + b2)), .val (.int (3 : Int32))] [(.int ((((31 : Int32) * ((0 : Int32) + b1)) + b2) * (-1640531527 : Int32)))]))
    refine OGo.to (fun _ k => XS.istore X0.here hx rfl (hb hby d3_31) rfl (l' := #[.val (.ref a1), .val (.int (1 : Int32)), .val (.int (3 : Int32)), .val (.int (((31 : Int32) * ((0 : Int32) + b1)) + b2)), .val (.int ((((31 : Int32) * ((0 : Int32) + b1)) + b2) * (-1640531527 : Int32)))]) rfl k) ?_
    show OGo p e below _ (s₁.setTop (mkF m 33 #[.val (.ref a1), .val (.int (1 : Int32)), .val (.int (3 : Int32)), .val (.int (((31 : Int32) * ((0 : Int32) + b1)) + b2)), .val (.int ((((31 : Int32) * ((0 : Int32) + b1)) + b2) * (-1640531527 : Int32)))] []))
    refine OGo.to (fun _ k => XS.iload X0.here hx rfl (hb hby d3_33) rfl k) ?_
    show OGo p e below _ (s₁.setTop (mkF m 35 #[.val (.ref a1), .val (.int (1 : Int32)), .val (.int (3 : Int32)), .val (.int (((31 : Int32) * ((0 : Int32) + b1)) + b2)), .val (.int ((((31 : Int32) * ((0 : Int32) + b1)) + b2) * (-1640531527 : Int32)))] [(.int ((((31 : Int32) * ((0 : Int32) + b1)) + b2) * (-1640531527 : Int32)))]))
    refine OGo.to (fun _ k => XS.iload X0.here hx rfl (hb hby d3_35) rfl k) ?_
    show OGo p e below _ (s₁.setTop (mkF m 37 #[.val (.ref a1), .val (.int (1 : Int32)), .val (.int (3 : Int32)), .val (.int (((31 : Int32) * ((0 : Int32) + b1)) + b2)), .val (.int ((((31 : Int32) * ((0 : Int32) + b1)) + b2) * (-1640531527 : Int32)))] [(.int ((((31 : Int32) * ((0 : Int32) + b1)) + b2) * (-1640531527 : Int32))), (.int ((((31 : Int32) * ((0 : Int32) + b1)) + b2) * (-1640531527 : Int32)))]))
    refine OGo.to (fun _ k => XS.bipush X0.here hx rfl (hb hby d3_37) k) ?_
    show OGo p e below _ (s₁.setTop (mkF m 39 #[.val (.ref a1), .val (.int (1 : Int32)), .val (.int (3 : Int32)), .val (.int (((31 : Int32) * ((0 : Int32) + b1)) + b2)), .val (.int ((((31 : Int32) * ((0 : Int32) + b1)) + b2) * (-1640531527 : Int32)))] [(.int (16 : Int32)), (.int ((((31 : Int32) * ((0 : Int32) + b1)) + b2) * (-1640531527 : Int32))), (.int ((((31 : Int32) * ((0 : Int32) + b1)) + b2) * (-1640531527 : Int32)))]))
    refine OGo.to (fun _ k => XS.iushr X0.here hx rfl (hb hby d3_39) rfl k) ?_
    show OGo p e below _ (s₁.setTop (mkF m 40 #[.val (.ref a1), .val (.int (1 : Int32)), .val (.int (3 : Int32)), .val (.int (((31 : Int32) * ((0 : Int32) + b1)) + b2)), .val (.int ((((31 : Int32) * ((0 : Int32) + b1)) + b2) * (-1640531527 : Int32)))] [(.int ((((((31 : Int32) * ((0 : Int32) + b1)) + b2) * (-1640531527 : Int32)).toUInt32 >>> ((16 : Int32) &&& 31).toUInt32).toInt32)), (.int ((((31 : Int32) * ((0 : Int32) + b1)) + b2) * (-1640531527 : Int32)))]))
    refine OGo.to (fun _ k => XS.ixor X0.here hx rfl (hb hby d3_40) rfl k) ?_
    show OGo p e below _ (s₁.setTop (mkF m 41 #[.val (.ref a1), .val (.int (1 : Int32)), .val (.int (3 : Int32)), .val (.int (((31 : Int32) * ((0 : Int32) + b1)) + b2)), .val (.int ((((31 : Int32) * ((0 : Int32) + b1)) + b2) * (-1640531527 : Int32)))] [(.int (((((31 : Int32) * ((0 : Int32) + b1)) + b2) * (-1640531527 : Int32)) ^^^ ((((((31 : Int32) * ((0 : Int32) + b1)) + b2) * (-1640531527 : Int32)).toUInt32 >>> ((16 : Int32) &&& 31).toUInt32).toInt32)))]))
    refine OGo.ret (Q := Qh Z a1 (1 : Int32) (3 : Int32) kc b0 b1 b2 b3 h0 n0) X0 (some (.int (((((31 : Int32) * ((0 : Int32) + b1)) + b2) * (-1640531527 : Int32)) ^^^ ((((((31 : Int32) * ((0 : Int32) + b1)) + b2) * (-1640531527 : Int32)).toUInt32 >>> ((16 : Int32) &&& 31).toUInt32).toInt32)))) (fun h => by rw [Bd.returns] at h; cases h) Bd.notSynchronized (fun fs hr => retI X0 hx Bd.returns (hb hby d3_41) hr) ?_ (by decide) (by decide)
    show Qh Z a1 (1 : Int32) (3 : Int32) kc b0 b1 b2 b3 h0 n0 _ s₁.heap _
    rw [e0]
    exact ⟨congrArg (fun z => some (Value.int z)) (show (((((31 : Int32) * ((0 : Int32) + b1)) + b2) * (-1640531527 : Int32)) ^^^ ((((((31 : Int32) * ((0 : Int32) + b1)) + b2) * (-1640531527 : Int32)).toUInt32 >>> ((16 : Int32) &&& 31).toUInt32).toInt32)) = (own_hash b0 b1 b2 b3 (1 : Int32) (3 : Int32)) from by rfl), N0, rfl⟩
  ·
    show OGo p e below _ (s₁.setTop (mkF m 0 #[.val (.ref a1), .val (.int (1 : Int32)), .val (.int (4 : Int32)), .unset, .unset] []))
    refine OGo.to (fun _ k => XS.iconst X0.here hx rfl (hb hby d3_0) k) ?_
    show OGo p e below _ (s₁.setTop (mkF m 1 #[.val (.ref a1), .val (.int (1 : Int32)), .val (.int (4 : Int32)), .unset, .unset] [(.int (0 : Int32))]))
    refine OGo.to (fun _ k => XS.istoreN X0.here hx rfl (hb hby d3_1) rfl (l' := #[.val (.ref a1), .val (.int (1 : Int32)), .val (.int (4 : Int32)), .val (.int (0 : Int32)), .unset]) rfl k) ?_
    show OGo p e below _ (s₁.setTop (mkF m 2 #[.val (.ref a1), .val (.int (1 : Int32)), .val (.int (4 : Int32)), .val (.int (0 : Int32)), .unset] []))
    refine OGo.to (fun _ k => XS.iloadN X0.here hx rfl (hb hby d3_2) rfl k) ?_
    show OGo p e below _ (s₁.setTop (mkF m 3 #[.val (.ref a1), .val (.int (1 : Int32)), .val (.int (4 : Int32)), .val (.int (0 : Int32)), .unset] [(.int (1 : Int32))]))
    refine OGo.to (fun _ k => XS.istore X0.here hx rfl (hb hby d3_3) rfl (l' := #[.val (.ref a1), .val (.int (1 : Int32)), .val (.int (4 : Int32)), .val (.int (0 : Int32)), .val (.int (1 : Int32))]) rfl k) ?_
    show OGo p e below _ (s₁.setTop (mkF m 5 #[.val (.ref a1), .val (.int (1 : Int32)), .val (.int (4 : Int32)), .val (.int (0 : Int32)), .val (.int (1 : Int32))] []))
    refine OGo.to (fun _ k => XS.iload X0.here hx rfl (hb hby d3_5) rfl k) ?_
    show OGo p e below _ (s₁.setTop (mkF m 7 #[.val (.ref a1), .val (.int (1 : Int32)), .val (.int (4 : Int32)), .val (.int (0 : Int32)), .val (.int (1 : Int32))] [(.int (1 : Int32))]))
    refine OGo.to (fun _ k => XS.iloadN X0.here hx rfl (hb hby d3_7) rfl k) ?_
    show OGo p e below _ (s₁.setTop (mkF m 8 #[.val (.ref a1), .val (.int (1 : Int32)), .val (.int (4 : Int32)), .val (.int (0 : Int32)), .val (.int (1 : Int32))] [(.int (4 : Int32)), (.int (1 : Int32))]))
    have hc8_48 : (1 : Int32) < (4 : Int32) := by decide
    refine OGo.to (fun _ k => XS.icmpNo X0.here hx rfl (hb hby d3_8) rfl (tlt hc8_48).2.1 k) ?_
    show OGo p e below _ (s₁.setTop (mkF m 11 #[.val (.ref a1), .val (.int (1 : Int32)), .val (.int (4 : Int32)), .val (.int (0 : Int32)), .val (.int (1 : Int32))] []))
    refine OGo.to (fun _ k => XS.bipush X0.here hx rfl (hb hby d3_11) k) ?_
    show OGo p e below _ (s₁.setTop (mkF m 13 #[.val (.ref a1), .val (.int (1 : Int32)), .val (.int (4 : Int32)), .val (.int (0 : Int32)), .val (.int (1 : Int32))] [(.int (31 : Int32))]))
    refine OGo.to (fun _ k => XS.iloadN X0.here hx rfl (hb hby d3_13) rfl k) ?_
    show OGo p e below _ (s₁.setTop (mkF m 14 #[.val (.ref a1), .val (.int (1 : Int32)), .val (.int (4 : Int32)), .val (.int (0 : Int32)), .val (.int (1 : Int32))] [(.int (0 : Int32)), (.int (31 : Int32))]))
    refine OGo.to (fun _ k => XS.imul X0.here hx rfl (hb hby d3_14) rfl k) ?_
    show OGo p e below _ (s₁.setTop (mkF m 15 #[.val (.ref a1), .val (.int (1 : Int32)), .val (.int (4 : Int32)), .val (.int (0 : Int32)), .val (.int (1 : Int32))] [(.int (0 : Int32))]))
    refine OGo.to (fun _ k => XS.aloadN X0.here hx rfl (hb hby d3_15) rfl rfl k) ?_
    show OGo p e below _ (s₁.setTop (mkF m 16 #[.val (.ref a1), .val (.int (1 : Int32)), .val (.int (4 : Int32)), .val (.int (0 : Int32)), .val (.int (1 : Int32))] [(.ref a1), (.int (0 : Int32))]))
    refine OGo.to (fun _ k => XS.iload X0.here hx rfl (hb hby d3_16) rfl k) ?_
    show OGo p e below _ (s₁.setTop (mkF m 18 #[.val (.ref a1), .val (.int (1 : Int32)), .val (.int (4 : Int32)), .val (.int (0 : Int32)), .val (.int (1 : Int32))] [(.int (1 : Int32)), (.ref a1), (.int (0 : Int32))]))
    have Vq49 := V1
    obtain ⟨cl49, Ar49, q49, S49, M49, Hs49, G49⟩ := Vq49
    have hin50 : ¬ ((1 : Int32) < 0 ∨ cl49.slots.size ≤ ((1 : Int32)).toNatClampNeg) := inb_of S49 ⟨by decide, by decide⟩
    have hat50 : cl49.slots[((1 : Int32)).toNatClampNeg]? = some (.int b1) := Hs49.at hin50 (rfl)
    refine OGo.to (fun _ k => X0.baloadBytes hx (j := (1 : Int32)) (v := (.int b1)) (by rw [e0]; exact Ar49.1) (State.isArrayOf_alike hZ.alike Ar49.2.1) Ar49.2.2 hin50 hat50 (g := (mkF m 18 #[.val (.ref a1), .val (.int (1 : Int32)), .val (.int (4 : Int32)), .val (.int (0 : Int32)), .val (.int (1 : Int32))] [(.int (1 : Int32)), (.ref a1), (.int (0 : Int32))])) rfl rfl (hb hby d3_18) _ k) ?_
    show OGo p e below _ (s₁.setTop (mkF m 19 #[.val (.ref a1), .val (.int (1 : Int32)), .val (.int (4 : Int32)), .val (.int (0 : Int32)), .val (.int (1 : Int32))] [(.int b1), (.int (0 : Int32))]))
    refine OGo.to (fun _ k => XS.iadd X0.here hx rfl (hb hby d3_19) rfl k) ?_
    show OGo p e below _ (s₁.setTop (mkF m 20 #[.val (.ref a1), .val (.int (1 : Int32)), .val (.int (4 : Int32)), .val (.int (0 : Int32)), .val (.int (1 : Int32))] [(.int ((0 : Int32) + b1))]))
    refine OGo.to (fun _ k => XS.istoreN X0.here hx rfl (hb hby d3_20) rfl (l' := #[.val (.ref a1), .val (.int (1 : Int32)), .val (.int (4 : Int32)), .val (.int ((0 : Int32) + b1)), .val (.int (1 : Int32))]) rfl k) ?_
    show OGo p e below _ (s₁.setTop (mkF m 21 #[.val (.ref a1), .val (.int (1 : Int32)), .val (.int (4 : Int32)), .val (.int ((0 : Int32) + b1)), .val (.int (1 : Int32))] []))
    refine OGo.to (fun _ k => XS.iinc X0.here hx rfl (hb hby d3_21) rfl (l' := #[.val (.ref a1), .val (.int (1 : Int32)), .val (.int (4 : Int32)), .val (.int ((0 : Int32) + b1)), .val (.int (2 : Int32))]) rfl k) ?_
    show OGo p e below _ (s₁.setTop (mkF m 24 #[.val (.ref a1), .val (.int (1 : Int32)), .val (.int (4 : Int32)), .val (.int ((0 : Int32) + b1)), .val (.int (2 : Int32))] []))
    refine OGo.to (fun _ k => XS.goto X0.here hx rfl (pc0 := 24) (pc' := 5) rfl (hb hby d3_24) (by decide) (by decide) k) ?_
    show OGo p e below _ (s₁.setTop (mkF m 5 #[.val (.ref a1), .val (.int (1 : Int32)), .val (.int (4 : Int32)), .val (.int ((0 : Int32) + b1)), .val (.int (2 : Int32))] []))
    refine OGo.to (fun _ k => XS.iload X0.here hx rfl (hb hby d3_5) rfl k) ?_
    show OGo p e below _ (s₁.setTop (mkF m 7 #[.val (.ref a1), .val (.int (1 : Int32)), .val (.int (4 : Int32)), .val (.int ((0 : Int32) + b1)), .val (.int (2 : Int32))] [(.int (2 : Int32))]))
    refine OGo.to (fun _ k => XS.iloadN X0.here hx rfl (hb hby d3_7) rfl k) ?_
    show OGo p e below _ (s₁.setTop (mkF m 8 #[.val (.ref a1), .val (.int (1 : Int32)), .val (.int (4 : Int32)), .val (.int ((0 : Int32) + b1)), .val (.int (2 : Int32))] [(.int (4 : Int32)), (.int (2 : Int32))]))
    have hc8_51 : (2 : Int32) < (4 : Int32) := by decide
    refine OGo.to (fun _ k => XS.icmpNo X0.here hx rfl (hb hby d3_8) rfl (tlt hc8_51).2.1 k) ?_
    show OGo p e below _ (s₁.setTop (mkF m 11 #[.val (.ref a1), .val (.int (1 : Int32)), .val (.int (4 : Int32)), .val (.int ((0 : Int32) + b1)), .val (.int (2 : Int32))] []))
    refine OGo.to (fun _ k => XS.bipush X0.here hx rfl (hb hby d3_11) k) ?_
    show OGo p e below _ (s₁.setTop (mkF m 13 #[.val (.ref a1), .val (.int (1 : Int32)), .val (.int (4 : Int32)), .val (.int ((0 : Int32) + b1)), .val (.int (2 : Int32))] [(.int (31 : Int32))]))
    refine OGo.to (fun _ k => XS.iloadN X0.here hx rfl (hb hby d3_13) rfl k) ?_
    show OGo p e below _ (s₁.setTop (mkF m 14 #[.val (.ref a1), .val (.int (1 : Int32)), .val (.int (4 : Int32)), .val (.int ((0 : Int32) + b1)), .val (.int (2 : Int32))] [(.int ((0 : Int32) + b1)), (.int (31 : Int32))]))
    refine OGo.to (fun _ k => XS.imul X0.here hx rfl (hb hby d3_14) rfl k) ?_
    show OGo p e below _ (s₁.setTop (mkF m 15 #[.val (.ref a1), .val (.int (1 : Int32)), .val (.int (4 : Int32)), .val (.int ((0 : Int32) + b1)), .val (.int (2 : Int32))] [(.int ((31 : Int32) * ((0 : Int32) + b1)))]))
    refine OGo.to (fun _ k => XS.aloadN X0.here hx rfl (hb hby d3_15) rfl rfl k) ?_
    show OGo p e below _ (s₁.setTop (mkF m 16 #[.val (.ref a1), .val (.int (1 : Int32)), .val (.int (4 : Int32)), .val (.int ((0 : Int32) + b1)), .val (.int (2 : Int32))] [(.ref a1), (.int ((31 : Int32) * ((0 : Int32) + b1)))]))
    refine OGo.to (fun _ k => XS.iload X0.here hx rfl (hb hby d3_16) rfl k) ?_
    show OGo p e below _ (s₁.setTop (mkF m 18 #[.val (.ref a1), .val (.int (1 : Int32)), .val (.int (4 : Int32)), .val (.int ((0 : Int32) + b1)), .val (.int (2 : Int32))] [(.int (2 : Int32)), (.ref a1), (.int ((31 : Int32) * ((0 : Int32) + b1)))]))
    have Vq52 := V1
    obtain ⟨cl52, Ar52, q52, S52, M52, Hs52, G52⟩ := Vq52
    have hin53 : ¬ ((2 : Int32) < 0 ∨ cl52.slots.size ≤ ((2 : Int32)).toNatClampNeg) := inb_of S52 ⟨by decide, by decide⟩
    have hat53 : cl52.slots[((2 : Int32)).toNatClampNeg]? = some (.int b2) := Hs52.at hin53 (rfl)
    refine OGo.to (fun _ k => X0.baloadBytes hx (j := (2 : Int32)) (v := (.int b2)) (by rw [e0]; exact Ar52.1) (State.isArrayOf_alike hZ.alike Ar52.2.1) Ar52.2.2 hin53 hat53 (g := (mkF m 18 #[.val (.ref a1), .val (.int (1 : Int32)), .val (.int (4 : Int32)), .val (.int ((0 : Int32) + b1)), .val (.int (2 : Int32))] [(.int (2 : Int32)), (.ref a1), (.int ((31 : Int32) * ((0 : Int32) + b1)))])) rfl rfl (hb hby d3_18) _ k) ?_
    show OGo p e below _ (s₁.setTop (mkF m 19 #[.val (.ref a1), .val (.int (1 : Int32)), .val (.int (4 : Int32)), .val (.int ((0 : Int32) + b1)), .val (.int (2 : Int32))] [(.int b2), (.int ((31 : Int32) * ((0 : Int32) + b1)))]))
    refine OGo.to (fun _ k => XS.iadd X0.here hx rfl (hb hby d3_19) rfl k) ?_
    show OGo p e below _ (s₁.setTop (mkF m 20 #[.val (.ref a1), .val (.int (1 : Int32)), .val (.int (4 : Int32)), .val (.int ((0 : Int32) + b1)), .val (.int (2 : Int32))] [(.int (((31 : Int32) * ((0 : Int32) + b1)) + b2))]))
    refine OGo.to (fun _ k => XS.istoreN X0.here hx rfl (hb hby d3_20) rfl (l' := #[.val (.ref a1), .val (.int (1 : Int32)), .val (.int (4 : Int32)), .val (.int (((31 : Int32) * ((0 : Int32) + b1)) + b2)), .val (.int (2 : Int32))]) rfl k) ?_
    show OGo p e below _ (s₁.setTop (mkF m 21 #[.val (.ref a1), .val (.int (1 : Int32)), .val (.int (4 : Int32)), .val (.int (((31 : Int32) * ((0 : Int32) + b1)) + b2)), .val (.int (2 : Int32))] []))
    refine OGo.to (fun _ k => XS.iinc X0.here hx rfl (hb hby d3_21) rfl (l' := #[.val (.ref a1), .val (.int (1 : Int32)), .val (.int (4 : Int32)), .val (.int (((31 : Int32) * ((0 : Int32) + b1)) + b2)), .val (.int (3 : Int32))]) rfl k) ?_
    show OGo p e below _ (s₁.setTop (mkF m 24 #[.val (.ref a1), .val (.int (1 : Int32)), .val (.int (4 : Int32)), .val (.int (((31 : Int32) * ((0 : Int32) + b1)) + b2)), .val (.int (3 : Int32))] []))
    refine OGo.to (fun _ k => XS.goto X0.here hx rfl (pc0 := 24) (pc' := 5) rfl (hb hby d3_24) (by decide) (by decide) k) ?_
    show OGo p e below _ (s₁.setTop (mkF m 5 #[.val (.ref a1), .val (.int (1 : Int32)), .val (.int (4 : Int32)), .val (.int (((31 : Int32) * ((0 : Int32) + b1)) + b2)), .val (.int (3 : Int32))] []))
    refine OGo.to (fun _ k => XS.iload X0.here hx rfl (hb hby d3_5) rfl k) ?_
    show OGo p e below _ (s₁.setTop (mkF m 7 #[.val (.ref a1), .val (.int (1 : Int32)), .val (.int (4 : Int32)), .val (.int (((31 : Int32) * ((0 : Int32) + b1)) + b2)), .val (.int (3 : Int32))] [(.int (3 : Int32))]))
    refine OGo.to (fun _ k => XS.iloadN X0.here hx rfl (hb hby d3_7) rfl k) ?_
    show OGo p e below _ (s₁.setTop (mkF m 8 #[.val (.ref a1), .val (.int (1 : Int32)), .val (.int (4 : Int32)), .val (.int (((31 : Int32) * ((0 : Int32) + b1)) + b2)), .val (.int (3 : Int32))] [(.int (4 : Int32)), (.int (3 : Int32))]))
    have hc8_54 : (3 : Int32) < (4 : Int32) := by decide
    refine OGo.to (fun _ k => XS.icmpNo X0.here hx rfl (hb hby d3_8) rfl (tlt hc8_54).2.1 k) ?_
    show OGo p e below _ (s₁.setTop (mkF m 11 #[.val (.ref a1), .val (.int (1 : Int32)), .val (.int (4 : Int32)), .val (.int (((31 : Int32) * ((0 : Int32) + b1)) + b2)), .val (.int (3 : Int32))] []))
    refine OGo.to (fun _ k => XS.bipush X0.here hx rfl (hb hby d3_11) k) ?_
    show OGo p e below _ (s₁.setTop (mkF m 13 #[.val (.ref a1), .val (.int (1 : Int32)), .val (.int (4 : Int32)), .val (.int (((31 : Int32) * ((0 : Int32) + b1)) + b2)), .val (.int (3 : Int32))] [(.int (31 : Int32))]))
    refine OGo.to (fun _ k => XS.iloadN X0.here hx rfl (hb hby d3_13) rfl k) ?_
    show OGo p e below _ (s₁.setTop (mkF m 14 #[.val (.ref a1), .val (.int (1 : Int32)), .val (.int (4 : Int32)), .val (.int (((31 : Int32) * ((0 : Int32) + b1)) + b2)), .val (.int (3 : Int32))] [(.int (((31 : Int32) * ((0 : Int32) + b1)) + b2)), (.int (31 : Int32))]))
    refine OGo.to (fun _ k => XS.imul X0.here hx rfl (hb hby d3_14) rfl k) ?_
    show OGo p e below _ (s₁.setTop (mkF m 15 #[.val (.ref a1), .val (.int (1 : Int32)), .val (.int (4 : Int32)), .val (.int (((31 : Int32) * ((0 : Int32) + b1)) + b2)), .val (.int (3 : Int32))] [(.int ((31 : Int32) * (((31 : Int32) * ((0 : Int32) + b1)) + b2)))]))
    refine OGo.to (fun _ k => XS.aloadN X0.here hx rfl (hb hby d3_15) rfl rfl k) ?_
    show OGo p e below _ (s₁.setTop (mkF m 16 #[.val (.ref a1), .val (.int (1 : Int32)), .val (.int (4 : Int32)), .val (.int (((31 : Int32) * ((0 : Int32) + b1)) + b2)), .val (.int (3 : Int32))] [(.ref a1), (.int ((31 : Int32) * (((31 : Int32) * ((0 : Int32) + b1)) + b2)))]))
    refine OGo.to (fun _ k => XS.iload X0.here hx rfl (hb hby d3_16) rfl k) ?_
    show OGo p e below _ (s₁.setTop (mkF m 18 #[.val (.ref a1), .val (.int (1 : Int32)), .val (.int (4 : Int32)), .val (.int (((31 : Int32) * ((0 : Int32) + b1)) + b2)), .val (.int (3 : Int32))] [(.int (3 : Int32)), (.ref a1), (.int ((31 : Int32) * (((31 : Int32) * ((0 : Int32) + b1)) + b2)))]))
    have Vq55 := V1
    obtain ⟨cl55, Ar55, q55, S55, M55, Hs55, G55⟩ := Vq55
    have hin56 : ¬ ((3 : Int32) < 0 ∨ cl55.slots.size ≤ ((3 : Int32)).toNatClampNeg) := inb_of S55 ⟨by decide, by decide⟩
    have hat56 : cl55.slots[((3 : Int32)).toNatClampNeg]? = some (.int b3) := Hs55.at hin56 (rfl)
    refine OGo.to (fun _ k => X0.baloadBytes hx (j := (3 : Int32)) (v := (.int b3)) (by rw [e0]; exact Ar55.1) (State.isArrayOf_alike hZ.alike Ar55.2.1) Ar55.2.2 hin56 hat56 (g := (mkF m 18 #[.val (.ref a1), .val (.int (1 : Int32)), .val (.int (4 : Int32)), .val (.int (((31 : Int32) * ((0 : Int32) + b1)) + b2)), .val (.int (3 : Int32))] [(.int (3 : Int32)), (.ref a1), (.int ((31 : Int32) * (((31 : Int32) * ((0 : Int32) + b1)) + b2)))])) rfl rfl (hb hby d3_18) _ k) ?_
    show OGo p e below _ (s₁.setTop (mkF m 19 #[.val (.ref a1), .val (.int (1 : Int32)), .val (.int (4 : Int32)), .val (.int (((31 : Int32) * ((0 : Int32) + b1)) + b2)), .val (.int (3 : Int32))] [(.int b3), (.int ((31 : Int32) * (((31 : Int32) * ((0 : Int32) + b1)) + b2)))]))
    refine OGo.to (fun _ k => XS.iadd X0.here hx rfl (hb hby d3_19) rfl k) ?_
    show OGo p e below _ (s₁.setTop (mkF m 20 #[.val (.ref a1), .val (.int (1 : Int32)), .val (.int (4 : Int32)), .val (.int (((31 : Int32) * ((0 : Int32) + b1)) + b2)), .val (.int (3 : Int32))] [(.int (((31 : Int32) * (((31 : Int32) * ((0 : Int32) + b1)) + b2)) + b3))]))
    refine OGo.to (fun _ k => XS.istoreN X0.here hx rfl (hb hby d3_20) rfl (l' := #[.val (.ref a1), .val (.int (1 : Int32)), .val (.int (4 : Int32)), .val (.int (((31 : Int32) * (((31 : Int32) * ((0 : Int32) + b1)) + b2)) + b3)), .val (.int (3 : Int32))]) rfl k) ?_
    show OGo p e below _ (s₁.setTop (mkF m 21 #[.val (.ref a1), .val (.int (1 : Int32)), .val (.int (4 : Int32)), .val (.int (((31 : Int32) * (((31 : Int32) * ((0 : Int32) + b1)) + b2)) + b3)), .val (.int (3 : Int32))] []))
    refine OGo.to (fun _ k => XS.iinc X0.here hx rfl (hb hby d3_21) rfl (l' := #[.val (.ref a1), .val (.int (1 : Int32)), .val (.int (4 : Int32)), .val (.int (((31 : Int32) * (((31 : Int32) * ((0 : Int32) + b1)) + b2)) + b3)), .val (.int (4 : Int32))]) rfl k) ?_
    show OGo p e below _ (s₁.setTop (mkF m 24 #[.val (.ref a1), .val (.int (1 : Int32)), .val (.int (4 : Int32)), .val (.int (((31 : Int32) * (((31 : Int32) * ((0 : Int32) + b1)) + b2)) + b3)), .val (.int (4 : Int32))] []))
    refine OGo.to (fun _ k => XS.goto X0.here hx rfl (pc0 := 24) (pc' := 5) rfl (hb hby d3_24) (by decide) (by decide) k) ?_
    show OGo p e below _ (s₁.setTop (mkF m 5 #[.val (.ref a1), .val (.int (1 : Int32)), .val (.int (4 : Int32)), .val (.int (((31 : Int32) * (((31 : Int32) * ((0 : Int32) + b1)) + b2)) + b3)), .val (.int (4 : Int32))] []))
    refine OGo.to (fun _ k => XS.iload X0.here hx rfl (hb hby d3_5) rfl k) ?_
    show OGo p e below _ (s₁.setTop (mkF m 7 #[.val (.ref a1), .val (.int (1 : Int32)), .val (.int (4 : Int32)), .val (.int (((31 : Int32) * (((31 : Int32) * ((0 : Int32) + b1)) + b2)) + b3)), .val (.int (4 : Int32))] [(.int (4 : Int32))]))
    refine OGo.to (fun _ k => XS.iloadN X0.here hx rfl (hb hby d3_7) rfl k) ?_
    show OGo p e below _ (s₁.setTop (mkF m 8 #[.val (.ref a1), .val (.int (1 : Int32)), .val (.int (4 : Int32)), .val (.int (((31 : Int32) * (((31 : Int32) * ((0 : Int32) + b1)) + b2)) + b3)), .val (.int (4 : Int32))] [(.int (4 : Int32)), (.int (4 : Int32))]))
    have hc8_57 : ¬ ((4 : Int32) < (4 : Int32)) := by decide
    refine OGo.to (fun _ k => XS.icmpYes X0.here hx rfl (pc0 := 8) (pc' := 27) rfl (hb hby d3_8) rfl (flt hc8_57).2.1 (by decide) (by decide) k) ?_
    show OGo p e below _ (s₁.setTop (mkF m 27 #[.val (.ref a1), .val (.int (1 : Int32)), .val (.int (4 : Int32)), .val (.int (((31 : Int32) * (((31 : Int32) * ((0 : Int32) + b1)) + b2)) + b3)), .val (.int (4 : Int32))] []))
    refine OGo.to (fun _ k => XS.iloadN X0.here hx rfl (hb hby d3_27) rfl k) ?_
    show OGo p e below _ (s₁.setTop (mkF m 28 #[.val (.ref a1), .val (.int (1 : Int32)), .val (.int (4 : Int32)), .val (.int (((31 : Int32) * (((31 : Int32) * ((0 : Int32) + b1)) + b2)) + b3)), .val (.int (4 : Int32))] [(.int (((31 : Int32) * (((31 : Int32) * ((0 : Int32) + b1)) + b2)) + b3))]))
    refine OGo.to (fun _ k => X0.ldcInt hx hown (mvT hZ (hw _ (List.mem_of_getElem? (i := 14) rfl))) (g := (mkF m 28 #[.val (.ref a1), .val (.int (1 : Int32)), .val (.int (4 : Int32)), .val (.int (((31 : Int32) * (((31 : Int32) * ((0 : Int32) + b1)) + b2)) + b3)), .val (.int (4 : Int32))] [(.int (((31 : Int32) * (((31 : Int32) * ((0 : Int32) + b1)) + b2)) + b3))])) rfl (hb hby d3_28) _ k) ?_
    show OGo p e below _ (s₁.setTop (mkF m 30 #[.val (.ref a1), .val (.int (1 : Int32)), .val (.int (4 : Int32)), .val (.int (((31 : Int32) * (((31 : Int32) * ((0 : Int32) + b1)) + b2)) + b3)), .val (.int (4 : Int32))] [(.int (-1640531527 : Int32)), (.int (((31 : Int32) * (((31 : Int32) * ((0 : Int32) + b1)) + b2)) + b3))]))
    refine OGo.to (fun _ k => XS.imul X0.here hx rfl (hb hby d3_30) rfl k) ?_
    show OGo p e below _ (s₁.setTop (mkF m 31 #[.val (.ref a1), .val (.int (1 : Int32)), .val (.int (4 : Int32)), .val (.int (((31 : Int32) * (((31 : Int32) * ((0 : Int32) + b1)) + b2)) + b3)), .val (.int (4 : Int32))] [(.int ((((31 : Int32) * (((31 : Int32) * ((0 : Int32) + b1)) + b2)) + b3) * (-1640531527 : Int32)))]))
    refine OGo.to (fun _ k => XS.istore X0.here hx rfl (hb hby d3_31) rfl (l' := #[.val (.ref a1), .val (.int (1 : Int32)), .val (.int (4 : Int32)), .val (.int (((31 : Int32) * (((31 : Int32) * ((0 : Int32) + b1)) + b2)) + b3)), .val (.int ((((31 : Int32) * (((31 : Int32) * ((0 : Int32) + b1)) + b2)) + b3) * (-1640531527 : Int32)))]) rfl k) ?_
    show OGo p e below _ (s₁.setTop (mkF m 33 #[.val (.ref a1), .val (.int (1 : Int32)), .val (.int (4 : Int32)), .val (.int (((31 : Int32) * (((31 : Int32) * ((0 : Int32) + b1)) + b2)) + b3)), .val (.int ((((31 : Int32) * (((31 : Int32) * ((0 : Int32) + b1)) + b2)) + b3) * (-1640531527 : Int32)))] []))
    refine OGo.to (fun _ k => XS.iload X0.here hx rfl (hb hby d3_33) rfl k) ?_
    show OGo p e below _ (s₁.setTop (mkF m 35 #[.val (.ref a1), .val (.int (1 : Int32)), .val (.int (4 : Int32)), .val (.int (((31 : Int32) * (((31 : Int32) * ((0 : Int32) + b1)) + b2)) + b3)), .val (.int ((((31 : Int32) * (((31 : Int32) * ((0 : Int32) + b1)) + b2)) + b3) * (-1640531527 : Int32)))] [(.int ((((31 : Int32) * (((31 : Int32) * ((0 : Int32) + b1)) + b2)) + b3) * (-1640531527 : Int32)))]))
    refine OGo.to (fun _ k => XS.iload X0.here hx rfl (hb hby d3_35) rfl k) ?_
    show OGo p e below _ (s₁.setTop (mkF m 37 #[.val (.ref a1), .val (.int (1 : Int32)), .val (.int (4 : Int32)), .val (.int (((31 : Int32) * (((31 : Int32) * ((0 : Int32) + b1)) + b2)) + b3)), .val (.int ((((31 : Int32) * (((31 : Int32) * ((0 : Int32) + b1)) + b2)) + b3) * (-1640531527 : Int32)))] [(.int ((((31 : Int32) * (((31 : Int32) * ((0 : Int32) + b1)) + b2)) + b3) * (-1640531527 : Int32))), (.int ((((31 : Int32) * (((31 : Int32) * ((0 : Int32) + b1)) + b2)) + b3) * (-1640531527 : Int32)))]))
    refine OGo.to (fun _ k => XS.bipush X0.here hx rfl (hb hby d3_37) k) ?_
    show OGo p e below _ (s₁.setTop (mkF m 39 #[.val (.ref a1), .val (.int (1 : Int32)), .val (.int (4 : Int32)), .val (.int (((31 : Int32) * (((31 : Int32) * ((0 : Int32) + b1)) + b2)) + b3)), .val (.int ((((31 : Int32) * (((31 : Int32) * ((0 : Int32) + b1)) + b2)) + b3) * (-1640531527 : Int32)))] [(.int (16 : Int32)), (.int ((((31 : Int32) * (((31 : Int32) * ((0 : Int32) + b1)) + b2)) + b3) * (-1640531527 : Int32))), (.int ((((31 : Int32) * (((31 : Int32) * ((0 : Int32) + b1)) + b2)) + b3) * (-1640531527 : Int32)))]))
    refine OGo.to (fun _ k => XS.iushr X0.here hx rfl (hb hby d3_39) rfl k) ?_
    show OGo p e below _ (s₁.setTop (mkF m 40 #[.val (.ref a1), .val (.int (1 : Int32)), .val (.int (4 : Int32)), .val (.int (((31 : Int32) * (((31 : Int32) * ((0 : Int32) + b1)) + b2)) + b3)), .val (.int ((((31 : Int32) * (((31 : Int32) * ((0 : Int32) + b1)) + b2)) + b3) * (-1640531527 : Int32)))] [(.int ((((((31 : Int32) * (((31 : Int32) * ((0 : Int32) + b1)) + b2)) + b3) * (-1640531527 : Int32)).toUInt32 >>> ((16 : Int32) &&& 31).toUInt32).toInt32)), (.int ((((31 : Int32) * (((31 : Int32) * ((0 : Int32) + b1)) + b2)) + b3) * (-1640531527 : Int32)))]))
    refine OGo.to (fun _ k => XS.ixor X0.here hx rfl (hb hby d3_40) rfl k) ?_
    show OGo p e below _ (s₁.setTop (mkF m 41 #[.val (.ref a1), .val (.int (1 : Int32)), .val (.int (4 : Int32)), .val (.int (((31 : Int32) * (((31 : Int32) * ((0 : Int32) + b1)) + b2)) + b3)), .val (.int ((((31 : Int32) * (((31 : Int32) * ((0 : Int32) + b1)) + b2)) + b3) * (-1640531527 : Int32)))] [(.int (((((31 : Int32) * (((31 : Int32) * ((0 : Int32) + b1)) + b2)) + b3) * (-1640531527 : Int32)) ^^^ ((((((31 : Int32) * (((31 : Int32) * ((0 : Int32) + b1)) + b2)) + b3) * (-1640531527 : Int32)).toUInt32 >>> ((16 : Int32) &&& 31).toUInt32).toInt32)))]))
    refine OGo.ret (Q := Qh Z a1 (1 : Int32) (4 : Int32) kc b0 b1 b2 b3 h0 n0) X0 (some (.int (((((31 : Int32) * (((31 : Int32) * ((0 : Int32) + b1)) + b2)) + b3) * (-1640531527 : Int32)) ^^^ ((((((31 : Int32) * (((31 : Int32) * ((0 : Int32) + b1)) + b2)) + b3) * (-1640531527 : Int32)).toUInt32 >>> ((16 : Int32) &&& 31).toUInt32).toInt32)))) (fun h => by rw [Bd.returns] at h; cases h) Bd.notSynchronized (fun fs hr => retI X0 hx Bd.returns (hb hby d3_41) hr) ?_ (by decide) (by decide)
    show Qh Z a1 (1 : Int32) (4 : Int32) kc b0 b1 b2 b3 h0 n0 _ s₁.heap _
    rw [e0]
    exact ⟨congrArg (fun z => some (Value.int z)) (show (((((31 : Int32) * (((31 : Int32) * ((0 : Int32) + b1)) + b2)) + b3) * (-1640531527 : Int32)) ^^^ ((((((31 : Int32) * (((31 : Int32) * ((0 : Int32) + b1)) + b2)) + b3) * (-1640531527 : Int32)).toUInt32 >>> ((16 : Int32) &&& 31).toUInt32).toInt32)) = (own_hash b0 b1 b2 b3 (1 : Int32) (4 : Int32)) from by rfl), N0, rfl⟩
  ·
    show OGo p e below _ (s₁.setTop (mkF m 0 #[.val (.ref a1), .val (.int (2 : Int32)), .val (.int (2 : Int32)), .unset, .unset] []))
    refine OGo.to (fun _ k => XS.iconst X0.here hx rfl (hb hby d3_0) k) ?_
    show OGo p e below _ (s₁.setTop (mkF m 1 #[.val (.ref a1), .val (.int (2 : Int32)), .val (.int (2 : Int32)), .unset, .unset] [(.int (0 : Int32))]))
    refine OGo.to (fun _ k => XS.istoreN X0.here hx rfl (hb hby d3_1) rfl (l' := #[.val (.ref a1), .val (.int (2 : Int32)), .val (.int (2 : Int32)), .val (.int (0 : Int32)), .unset]) rfl k) ?_
    show OGo p e below _ (s₁.setTop (mkF m 2 #[.val (.ref a1), .val (.int (2 : Int32)), .val (.int (2 : Int32)), .val (.int (0 : Int32)), .unset] []))
    refine OGo.to (fun _ k => XS.iloadN X0.here hx rfl (hb hby d3_2) rfl k) ?_
    show OGo p e below _ (s₁.setTop (mkF m 3 #[.val (.ref a1), .val (.int (2 : Int32)), .val (.int (2 : Int32)), .val (.int (0 : Int32)), .unset] [(.int (2 : Int32))]))
    refine OGo.to (fun _ k => XS.istore X0.here hx rfl (hb hby d3_3) rfl (l' := #[.val (.ref a1), .val (.int (2 : Int32)), .val (.int (2 : Int32)), .val (.int (0 : Int32)), .val (.int (2 : Int32))]) rfl k) ?_
    show OGo p e below _ (s₁.setTop (mkF m 5 #[.val (.ref a1), .val (.int (2 : Int32)), .val (.int (2 : Int32)), .val (.int (0 : Int32)), .val (.int (2 : Int32))] []))
    refine OGo.to (fun _ k => XS.iload X0.here hx rfl (hb hby d3_5) rfl k) ?_
    show OGo p e below _ (s₁.setTop (mkF m 7 #[.val (.ref a1), .val (.int (2 : Int32)), .val (.int (2 : Int32)), .val (.int (0 : Int32)), .val (.int (2 : Int32))] [(.int (2 : Int32))]))
    refine OGo.to (fun _ k => XS.iloadN X0.here hx rfl (hb hby d3_7) rfl k) ?_
    show OGo p e below _ (s₁.setTop (mkF m 8 #[.val (.ref a1), .val (.int (2 : Int32)), .val (.int (2 : Int32)), .val (.int (0 : Int32)), .val (.int (2 : Int32))] [(.int (2 : Int32)), (.int (2 : Int32))]))
    have hc8_58 : ¬ ((2 : Int32) < (2 : Int32)) := by decide
    refine OGo.to (fun _ k => XS.icmpYes X0.here hx rfl (pc0 := 8) (pc' := 27) rfl (hb hby d3_8) rfl (flt hc8_58).2.1 (by decide) (by decide) k) ?_
    show OGo p e below _ (s₁.setTop (mkF m 27 #[.val (.ref a1), .val (.int (2 : Int32)), .val (.int (2 : Int32)), .val (.int (0 : Int32)), .val (.int (2 : Int32))] []))
    refine OGo.to (fun _ k => XS.iloadN X0.here hx rfl (hb hby d3_27) rfl k) ?_
    show OGo p e below _ (s₁.setTop (mkF m 28 #[.val (.ref a1), .val (.int (2 : Int32)), .val (.int (2 : Int32)), .val (.int (0 : Int32)), .val (.int (2 : Int32))] [(.int (0 : Int32))]))
    refine OGo.to (fun _ k => X0.ldcInt hx hown (mvT hZ (hw _ (List.mem_of_getElem? (i := 14) rfl))) (g := (mkF m 28 #[.val (.ref a1), .val (.int (2 : Int32)), .val (.int (2 : Int32)), .val (.int (0 : Int32)), .val (.int (2 : Int32))] [(.int (0 : Int32))])) rfl (hb hby d3_28) _ k) ?_
    show OGo p e below _ (s₁.setTop (mkF m 30 #[.val (.ref a1), .val (.int (2 : Int32)), .val (.int (2 : Int32)), .val (.int (0 : Int32)), .val (.int (2 : Int32))] [(.int (-1640531527 : Int32)), (.int (0 : Int32))]))
    refine OGo.to (fun _ k => XS.imul X0.here hx rfl (hb hby d3_30) rfl k) ?_
    show OGo p e below _ (s₁.setTop (mkF m 31 #[.val (.ref a1), .val (.int (2 : Int32)), .val (.int (2 : Int32)), .val (.int (0 : Int32)), .val (.int (2 : Int32))] [(.int (0 : Int32))]))
    refine OGo.to (fun _ k => XS.istore X0.here hx rfl (hb hby d3_31) rfl (l' := #[.val (.ref a1), .val (.int (2 : Int32)), .val (.int (2 : Int32)), .val (.int (0 : Int32)), .val (.int (0 : Int32))]) rfl k) ?_
    show OGo p e below _ (s₁.setTop (mkF m 33 #[.val (.ref a1), .val (.int (2 : Int32)), .val (.int (2 : Int32)), .val (.int (0 : Int32)), .val (.int (0 : Int32))] []))
    refine OGo.to (fun _ k => XS.iload X0.here hx rfl (hb hby d3_33) rfl k) ?_
    show OGo p e below _ (s₁.setTop (mkF m 35 #[.val (.ref a1), .val (.int (2 : Int32)), .val (.int (2 : Int32)), .val (.int (0 : Int32)), .val (.int (0 : Int32))] [(.int (0 : Int32))]))
    refine OGo.to (fun _ k => XS.iload X0.here hx rfl (hb hby d3_35) rfl k) ?_
    show OGo p e below _ (s₁.setTop (mkF m 37 #[.val (.ref a1), .val (.int (2 : Int32)), .val (.int (2 : Int32)), .val (.int (0 : Int32)), .val (.int (0 : Int32))] [(.int (0 : Int32)), (.int (0 : Int32))]))
    refine OGo.to (fun _ k => XS.bipush X0.here hx rfl (hb hby d3_37) k) ?_
    show OGo p e below _ (s₁.setTop (mkF m 39 #[.val (.ref a1), .val (.int (2 : Int32)), .val (.int (2 : Int32)), .val (.int (0 : Int32)), .val (.int (0 : Int32))] [(.int (16 : Int32)), (.int (0 : Int32)), (.int (0 : Int32))]))
    refine OGo.to (fun _ k => XS.iushr X0.here hx rfl (hb hby d3_39) rfl k) ?_
    show OGo p e below _ (s₁.setTop (mkF m 40 #[.val (.ref a1), .val (.int (2 : Int32)), .val (.int (2 : Int32)), .val (.int (0 : Int32)), .val (.int (0 : Int32))] [(.int (((0 : Int32).toUInt32 >>> ((16 : Int32) &&& 31).toUInt32).toInt32)), (.int (0 : Int32))]))
    refine OGo.to (fun _ k => XS.ixor X0.here hx rfl (hb hby d3_40) rfl k) ?_
    show OGo p e below _ (s₁.setTop (mkF m 41 #[.val (.ref a1), .val (.int (2 : Int32)), .val (.int (2 : Int32)), .val (.int (0 : Int32)), .val (.int (0 : Int32))] [(.int ((0 : Int32) ^^^ (((0 : Int32).toUInt32 >>> ((16 : Int32) &&& 31).toUInt32).toInt32)))]))
    refine OGo.ret (Q := Qh Z a1 (2 : Int32) (2 : Int32) kc b0 b1 b2 b3 h0 n0) X0 (some (.int ((0 : Int32) ^^^ (((0 : Int32).toUInt32 >>> ((16 : Int32) &&& 31).toUInt32).toInt32)))) (fun h => by rw [Bd.returns] at h; cases h) Bd.notSynchronized (fun fs hr => retI X0 hx Bd.returns (hb hby d3_41) hr) ?_ (by decide) (by decide)
    show Qh Z a1 (2 : Int32) (2 : Int32) kc b0 b1 b2 b3 h0 n0 _ s₁.heap _
    rw [e0]
    exact ⟨congrArg (fun z => some (Value.int z)) (show ((0 : Int32) ^^^ (((0 : Int32).toUInt32 >>> ((16 : Int32) &&& 31).toUInt32).toInt32)) = (own_hash b0 b1 b2 b3 (2 : Int32) (2 : Int32)) from by show _ = own_mix (0 : Int32); decide), N0, rfl⟩
  ·
    show OGo p e below _ (s₁.setTop (mkF m 0 #[.val (.ref a1), .val (.int (2 : Int32)), .val (.int (3 : Int32)), .unset, .unset] []))
    refine OGo.to (fun _ k => XS.iconst X0.here hx rfl (hb hby d3_0) k) ?_
    show OGo p e below _ (s₁.setTop (mkF m 1 #[.val (.ref a1), .val (.int (2 : Int32)), .val (.int (3 : Int32)), .unset, .unset] [(.int (0 : Int32))]))
    refine OGo.to (fun _ k => XS.istoreN X0.here hx rfl (hb hby d3_1) rfl (l' := #[.val (.ref a1), .val (.int (2 : Int32)), .val (.int (3 : Int32)), .val (.int (0 : Int32)), .unset]) rfl k) ?_
    show OGo p e below _ (s₁.setTop (mkF m 2 #[.val (.ref a1), .val (.int (2 : Int32)), .val (.int (3 : Int32)), .val (.int (0 : Int32)), .unset] []))
    refine OGo.to (fun _ k => XS.iloadN X0.here hx rfl (hb hby d3_2) rfl k) ?_
    show OGo p e below _ (s₁.setTop (mkF m 3 #[.val (.ref a1), .val (.int (2 : Int32)), .val (.int (3 : Int32)), .val (.int (0 : Int32)), .unset] [(.int (2 : Int32))]))
    refine OGo.to (fun _ k => XS.istore X0.here hx rfl (hb hby d3_3) rfl (l' := #[.val (.ref a1), .val (.int (2 : Int32)), .val (.int (3 : Int32)), .val (.int (0 : Int32)), .val (.int (2 : Int32))]) rfl k) ?_
    show OGo p e below _ (s₁.setTop (mkF m 5 #[.val (.ref a1), .val (.int (2 : Int32)), .val (.int (3 : Int32)), .val (.int (0 : Int32)), .val (.int (2 : Int32))] []))
    refine OGo.to (fun _ k => XS.iload X0.here hx rfl (hb hby d3_5) rfl k) ?_
    show OGo p e below _ (s₁.setTop (mkF m 7 #[.val (.ref a1), .val (.int (2 : Int32)), .val (.int (3 : Int32)), .val (.int (0 : Int32)), .val (.int (2 : Int32))] [(.int (2 : Int32))]))
    refine OGo.to (fun _ k => XS.iloadN X0.here hx rfl (hb hby d3_7) rfl k) ?_
    show OGo p e below _ (s₁.setTop (mkF m 8 #[.val (.ref a1), .val (.int (2 : Int32)), .val (.int (3 : Int32)), .val (.int (0 : Int32)), .val (.int (2 : Int32))] [(.int (3 : Int32)), (.int (2 : Int32))]))
    have hc8_59 : (2 : Int32) < (3 : Int32) := by decide
    refine OGo.to (fun _ k => XS.icmpNo X0.here hx rfl (hb hby d3_8) rfl (tlt hc8_59).2.1 k) ?_
    show OGo p e below _ (s₁.setTop (mkF m 11 #[.val (.ref a1), .val (.int (2 : Int32)), .val (.int (3 : Int32)), .val (.int (0 : Int32)), .val (.int (2 : Int32))] []))
    refine OGo.to (fun _ k => XS.bipush X0.here hx rfl (hb hby d3_11) k) ?_
    show OGo p e below _ (s₁.setTop (mkF m 13 #[.val (.ref a1), .val (.int (2 : Int32)), .val (.int (3 : Int32)), .val (.int (0 : Int32)), .val (.int (2 : Int32))] [(.int (31 : Int32))]))
    refine OGo.to (fun _ k => XS.iloadN X0.here hx rfl (hb hby d3_13) rfl k) ?_
    show OGo p e below _ (s₁.setTop (mkF m 14 #[.val (.ref a1), .val (.int (2 : Int32)), .val (.int (3 : Int32)), .val (.int (0 : Int32)), .val (.int (2 : Int32))] [(.int (0 : Int32)), (.int (31 : Int32))]))
    refine OGo.to (fun _ k => XS.imul X0.here hx rfl (hb hby d3_14) rfl k) ?_
    show OGo p e below _ (s₁.setTop (mkF m 15 #[.val (.ref a1), .val (.int (2 : Int32)), .val (.int (3 : Int32)), .val (.int (0 : Int32)), .val (.int (2 : Int32))] [(.int (0 : Int32))]))
    refine OGo.to (fun _ k => XS.aloadN X0.here hx rfl (hb hby d3_15) rfl rfl k) ?_
    show OGo p e below _ (s₁.setTop (mkF m 16 #[.val (.ref a1), .val (.int (2 : Int32)), .val (.int (3 : Int32)), .val (.int (0 : Int32)), .val (.int (2 : Int32))] [(.ref a1), (.int (0 : Int32))]))
    refine OGo.to (fun _ k => XS.iload X0.here hx rfl (hb hby d3_16) rfl k) ?_
    show OGo p e below _ (s₁.setTop (mkF m 18 #[.val (.ref a1), .val (.int (2 : Int32)), .val (.int (3 : Int32)), .val (.int (0 : Int32)), .val (.int (2 : Int32))] [(.int (2 : Int32)), (.ref a1), (.int (0 : Int32))]))
    have Vq60 := V1
    obtain ⟨cl60, Ar60, q60, S60, M60, Hs60, G60⟩ := Vq60
    have hin61 : ¬ ((2 : Int32) < 0 ∨ cl60.slots.size ≤ ((2 : Int32)).toNatClampNeg) := inb_of S60 ⟨by decide, by decide⟩
    have hat61 : cl60.slots[((2 : Int32)).toNatClampNeg]? = some (.int b2) := Hs60.at hin61 (rfl)
    refine OGo.to (fun _ k => X0.baloadBytes hx (j := (2 : Int32)) (v := (.int b2)) (by rw [e0]; exact Ar60.1) (State.isArrayOf_alike hZ.alike Ar60.2.1) Ar60.2.2 hin61 hat61 (g := (mkF m 18 #[.val (.ref a1), .val (.int (2 : Int32)), .val (.int (3 : Int32)), .val (.int (0 : Int32)), .val (.int (2 : Int32))] [(.int (2 : Int32)), (.ref a1), (.int (0 : Int32))])) rfl rfl (hb hby d3_18) _ k) ?_
    show OGo p e below _ (s₁.setTop (mkF m 19 #[.val (.ref a1), .val (.int (2 : Int32)), .val (.int (3 : Int32)), .val (.int (0 : Int32)), .val (.int (2 : Int32))] [(.int b2), (.int (0 : Int32))]))
    refine OGo.to (fun _ k => XS.iadd X0.here hx rfl (hb hby d3_19) rfl k) ?_
    show OGo p e below _ (s₁.setTop (mkF m 20 #[.val (.ref a1), .val (.int (2 : Int32)), .val (.int (3 : Int32)), .val (.int (0 : Int32)), .val (.int (2 : Int32))] [(.int ((0 : Int32) + b2))]))
    refine OGo.to (fun _ k => XS.istoreN X0.here hx rfl (hb hby d3_20) rfl (l' := #[.val (.ref a1), .val (.int (2 : Int32)), .val (.int (3 : Int32)), .val (.int ((0 : Int32) + b2)), .val (.int (2 : Int32))]) rfl k) ?_
    show OGo p e below _ (s₁.setTop (mkF m 21 #[.val (.ref a1), .val (.int (2 : Int32)), .val (.int (3 : Int32)), .val (.int ((0 : Int32) + b2)), .val (.int (2 : Int32))] []))
    refine OGo.to (fun _ k => XS.iinc X0.here hx rfl (hb hby d3_21) rfl (l' := #[.val (.ref a1), .val (.int (2 : Int32)), .val (.int (3 : Int32)), .val (.int ((0 : Int32) + b2)), .val (.int (3 : Int32))]) rfl k) ?_
    show OGo p e below _ (s₁.setTop (mkF m 24 #[.val (.ref a1), .val (.int (2 : Int32)), .val (.int (3 : Int32)), .val (.int ((0 : Int32) + b2)), .val (.int (3 : Int32))] []))
    refine OGo.to (fun _ k => XS.goto X0.here hx rfl (pc0 := 24) (pc' := 5) rfl (hb hby d3_24) (by decide) (by decide) k) ?_
    show OGo p e below _ (s₁.setTop (mkF m 5 #[.val (.ref a1), .val (.int (2 : Int32)), .val (.int (3 : Int32)), .val (.int ((0 : Int32) + b2)), .val (.int (3 : Int32))] []))
    refine OGo.to (fun _ k => XS.iload X0.here hx rfl (hb hby d3_5) rfl k) ?_
    show OGo p e below _ (s₁.setTop (mkF m 7 #[.val (.ref a1), .val (.int (2 : Int32)), .val (.int (3 : Int32)), .val (.int ((0 : Int32) + b2)), .val (.int (3 : Int32))] [(.int (3 : Int32))]))
    refine OGo.to (fun _ k => XS.iloadN X0.here hx rfl (hb hby d3_7) rfl k) ?_
    show OGo p e below _ (s₁.setTop (mkF m 8 #[.val (.ref a1), .val (.int (2 : Int32)), .val (.int (3 : Int32)), .val (.int ((0 : Int32) + b2)), .val (.int (3 : Int32))] [(.int (3 : Int32)), (.int (3 : Int32))]))
    have hc8_62 : ¬ ((3 : Int32) < (3 : Int32)) := by decide
    refine OGo.to (fun _ k => XS.icmpYes X0.here hx rfl (pc0 := 8) (pc' := 27) rfl (hb hby d3_8) rfl (flt hc8_62).2.1 (by decide) (by decide) k) ?_
    show OGo p e below _ (s₁.setTop (mkF m 27 #[.val (.ref a1), .val (.int (2 : Int32)), .val (.int (3 : Int32)), .val (.int ((0 : Int32) + b2)), .val (.int (3 : Int32))] []))
    refine OGo.to (fun _ k => XS.iloadN X0.here hx rfl (hb hby d3_27) rfl k) ?_
    show OGo p e below _ (s₁.setTop (mkF m 28 #[.val (.ref a1), .val (.int (2 : Int32)), .val (.int (3 : Int32)), .val (.int ((0 : Int32) + b2)), .val (.int (3 : Int32))] [(.int ((0 : Int32) + b2))]))
    refine OGo.to (fun _ k => X0.ldcInt hx hown (mvT hZ (hw _ (List.mem_of_getElem? (i := 14) rfl))) (g := (mkF m 28 #[.val (.ref a1), .val (.int (2 : Int32)), .val (.int (3 : Int32)), .val (.int ((0 : Int32) + b2)), .val (.int (3 : Int32))] [(.int ((0 : Int32) + b2))])) rfl (hb hby d3_28) _ k) ?_
    show OGo p e below _ (s₁.setTop (mkF m 30 #[.val (.ref a1), .val (.int (2 : Int32)), .val (.int (3 : Int32)), .val (.int ((0 : Int32) + b2)), .val (.int (3 : Int32))] [(.int (-1640531527 : Int32)), (.int ((0 : Int32) + b2))]))
    refine OGo.to (fun _ k => XS.imul X0.here hx rfl (hb hby d3_30) rfl k) ?_
    show OGo p e below _ (s₁.setTop (mkF m 31 #[.val (.ref a1), .val (.int (2 : Int32)), .val (.int (3 : Int32)), .val (.int ((0 : Int32) + b2)), .val (.int (3 : Int32))] [(.int (((0 : Int32) + b2) * (-1640531527 : Int32)))]))
    refine OGo.to (fun _ k => XS.istore X0.here hx rfl (hb hby d3_31) rfl (l' := #[.val (.ref a1), .val (.int (2 : Int32)), .val (.int (3 : Int32)), .val (.int ((0 : Int32) + b2)), .val (.int (((0 : Int32) + b2) * (-1640531527 : Int32)))]) rfl k) ?_
    show OGo p e below _ (s₁.setTop (mkF m 33 #[.val (.ref a1), .val (.int (2 : Int32)), .val (.int (3 : Int32)), .val (.int ((0 : Int32) + b2)), .val (.int (((0 : Int32) + b2) * (-1640531527 : Int32)))] []))
    refine OGo.to (fun _ k => XS.iload X0.here hx rfl (hb hby d3_33) rfl k) ?_
    show OGo p e below _ (s₁.setTop (mkF m 35 #[.val (.ref a1), .val (.int (2 : Int32)), .val (.int (3 : Int32)), .val (.int ((0 : Int32) + b2)), .val (.int (((0 : Int32) + b2) * (-1640531527 : Int32)))] [(.int (((0 : Int32) + b2) * (-1640531527 : Int32)))]))
    refine OGo.to (fun _ k => XS.iload X0.here hx rfl (hb hby d3_35) rfl k) ?_
    show OGo p e below _ (s₁.setTop (mkF m 37 #[.val (.ref a1), .val (.int (2 : Int32)), .val (.int (3 : Int32)), .val (.int ((0 : Int32) + b2)), .val (.int (((0 : Int32) + b2) * (-1640531527 : Int32)))] [(.int (((0 : Int32) + b2) * (-1640531527 : Int32))), (.int (((0 : Int32) + b2) * (-1640531527 : Int32)))]))
    refine OGo.to (fun _ k => XS.bipush X0.here hx rfl (hb hby d3_37) k) ?_
    show OGo p e below _ (s₁.setTop (mkF m 39 #[.val (.ref a1), .val (.int (2 : Int32)), .val (.int (3 : Int32)), .val (.int ((0 : Int32) + b2)), .val (.int (((0 : Int32) + b2) * (-1640531527 : Int32)))] [(.int (16 : Int32)), (.int (((0 : Int32) + b2) * (-1640531527 : Int32))), (.int (((0 : Int32) + b2) * (-1640531527 : Int32)))]))
    refine OGo.to (fun _ k => XS.iushr X0.here hx rfl (hb hby d3_39) rfl k) ?_
    show OGo p e below _ (s₁.setTop (mkF m 40 #[.val (.ref a1), .val (.int (2 : Int32)), .val (.int (3 : Int32)), .val (.int ((0 : Int32) + b2)), .val (.int (((0 : Int32) + b2) * (-1640531527 : Int32)))] [(.int (((((0 : Int32) + b2) * (-1640531527 : Int32)).toUInt32 >>> ((16 : Int32) &&& 31).toUInt32).toInt32)), (.int (((0 : Int32) + b2) * (-1640531527 : Int32)))]))
    refine OGo.to (fun _ k => XS.ixor X0.here hx rfl (hb hby d3_40) rfl k) ?_
    show OGo p e below _ (s₁.setTop (mkF m 41 #[.val (.ref a1), .val (.int (2 : Int32)), .val (.int (3 : Int32)), .val (.int ((0 : Int32) + b2)), .val (.int (((0 : Int32) + b2) * (-1640531527 : Int32)))] [(.int ((((0 : Int32) + b2) * (-1640531527 : Int32)) ^^^ (((((0 : Int32) + b2) * (-1640531527 : Int32)).toUInt32 >>> ((16 : Int32) &&& 31).toUInt32).toInt32)))]))
    refine OGo.ret (Q := Qh Z a1 (2 : Int32) (3 : Int32) kc b0 b1 b2 b3 h0 n0) X0 (some (.int ((((0 : Int32) + b2) * (-1640531527 : Int32)) ^^^ (((((0 : Int32) + b2) * (-1640531527 : Int32)).toUInt32 >>> ((16 : Int32) &&& 31).toUInt32).toInt32)))) (fun h => by rw [Bd.returns] at h; cases h) Bd.notSynchronized (fun fs hr => retI X0 hx Bd.returns (hb hby d3_41) hr) ?_ (by decide) (by decide)
    show Qh Z a1 (2 : Int32) (3 : Int32) kc b0 b1 b2 b3 h0 n0 _ s₁.heap _
    rw [e0]
    exact ⟨congrArg (fun z => some (Value.int z)) (show ((((0 : Int32) + b2) * (-1640531527 : Int32)) ^^^ (((((0 : Int32) + b2) * (-1640531527 : Int32)).toUInt32 >>> ((16 : Int32) &&& 31).toUInt32).toInt32)) = (own_hash b0 b1 b2 b3 (2 : Int32) (3 : Int32)) from by rfl), N0, rfl⟩
  ·
    show OGo p e below _ (s₁.setTop (mkF m 0 #[.val (.ref a1), .val (.int (2 : Int32)), .val (.int (4 : Int32)), .unset, .unset] []))
    refine OGo.to (fun _ k => XS.iconst X0.here hx rfl (hb hby d3_0) k) ?_
    show OGo p e below _ (s₁.setTop (mkF m 1 #[.val (.ref a1), .val (.int (2 : Int32)), .val (.int (4 : Int32)), .unset, .unset] [(.int (0 : Int32))]))
    refine OGo.to (fun _ k => XS.istoreN X0.here hx rfl (hb hby d3_1) rfl (l' := #[.val (.ref a1), .val (.int (2 : Int32)), .val (.int (4 : Int32)), .val (.int (0 : Int32)), .unset]) rfl k) ?_
    show OGo p e below _ (s₁.setTop (mkF m 2 #[.val (.ref a1), .val (.int (2 : Int32)), .val (.int (4 : Int32)), .val (.int (0 : Int32)), .unset] []))
    refine OGo.to (fun _ k => XS.iloadN X0.here hx rfl (hb hby d3_2) rfl k) ?_
    show OGo p e below _ (s₁.setTop (mkF m 3 #[.val (.ref a1), .val (.int (2 : Int32)), .val (.int (4 : Int32)), .val (.int (0 : Int32)), .unset] [(.int (2 : Int32))]))
    refine OGo.to (fun _ k => XS.istore X0.here hx rfl (hb hby d3_3) rfl (l' := #[.val (.ref a1), .val (.int (2 : Int32)), .val (.int (4 : Int32)), .val (.int (0 : Int32)), .val (.int (2 : Int32))]) rfl k) ?_
    show OGo p e below _ (s₁.setTop (mkF m 5 #[.val (.ref a1), .val (.int (2 : Int32)), .val (.int (4 : Int32)), .val (.int (0 : Int32)), .val (.int (2 : Int32))] []))
    refine OGo.to (fun _ k => XS.iload X0.here hx rfl (hb hby d3_5) rfl k) ?_
    show OGo p e below _ (s₁.setTop (mkF m 7 #[.val (.ref a1), .val (.int (2 : Int32)), .val (.int (4 : Int32)), .val (.int (0 : Int32)), .val (.int (2 : Int32))] [(.int (2 : Int32))]))
    refine OGo.to (fun _ k => XS.iloadN X0.here hx rfl (hb hby d3_7) rfl k) ?_
    show OGo p e below _ (s₁.setTop (mkF m 8 #[.val (.ref a1), .val (.int (2 : Int32)), .val (.int (4 : Int32)), .val (.int (0 : Int32)), .val (.int (2 : Int32))] [(.int (4 : Int32)), (.int (2 : Int32))]))
    have hc8_63 : (2 : Int32) < (4 : Int32) := by decide
    refine OGo.to (fun _ k => XS.icmpNo X0.here hx rfl (hb hby d3_8) rfl (tlt hc8_63).2.1 k) ?_
    show OGo p e below _ (s₁.setTop (mkF m 11 #[.val (.ref a1), .val (.int (2 : Int32)), .val (.int (4 : Int32)), .val (.int (0 : Int32)), .val (.int (2 : Int32))] []))
    refine OGo.to (fun _ k => XS.bipush X0.here hx rfl (hb hby d3_11) k) ?_
    show OGo p e below _ (s₁.setTop (mkF m 13 #[.val (.ref a1), .val (.int (2 : Int32)), .val (.int (4 : Int32)), .val (.int (0 : Int32)), .val (.int (2 : Int32))] [(.int (31 : Int32))]))
    refine OGo.to (fun _ k => XS.iloadN X0.here hx rfl (hb hby d3_13) rfl k) ?_
    show OGo p e below _ (s₁.setTop (mkF m 14 #[.val (.ref a1), .val (.int (2 : Int32)), .val (.int (4 : Int32)), .val (.int (0 : Int32)), .val (.int (2 : Int32))] [(.int (0 : Int32)), (.int (31 : Int32))]))
    refine OGo.to (fun _ k => XS.imul X0.here hx rfl (hb hby d3_14) rfl k) ?_
    show OGo p e below _ (s₁.setTop (mkF m 15 #[.val (.ref a1), .val (.int (2 : Int32)), .val (.int (4 : Int32)), .val (.int (0 : Int32)), .val (.int (2 : Int32))] [(.int (0 : Int32))]))
    refine OGo.to (fun _ k => XS.aloadN X0.here hx rfl (hb hby d3_15) rfl rfl k) ?_
    show OGo p e below _ (s₁.setTop (mkF m 16 #[.val (.ref a1), .val (.int (2 : Int32)), .val (.int (4 : Int32)), .val (.int (0 : Int32)), .val (.int (2 : Int32))] [(.ref a1), (.int (0 : Int32))]))
    refine OGo.to (fun _ k => XS.iload X0.here hx rfl (hb hby d3_16) rfl k) ?_
    show OGo p e below _ (s₁.setTop (mkF m 18 #[.val (.ref a1), .val (.int (2 : Int32)), .val (.int (4 : Int32)), .val (.int (0 : Int32)), .val (.int (2 : Int32))] [(.int (2 : Int32)), (.ref a1), (.int (0 : Int32))]))
    have Vq64 := V1
    obtain ⟨cl64, Ar64, q64, S64, M64, Hs64, G64⟩ := Vq64
    have hin65 : ¬ ((2 : Int32) < 0 ∨ cl64.slots.size ≤ ((2 : Int32)).toNatClampNeg) := inb_of S64 ⟨by decide, by decide⟩
    have hat65 : cl64.slots[((2 : Int32)).toNatClampNeg]? = some (.int b2) := Hs64.at hin65 (rfl)
    refine OGo.to (fun _ k => X0.baloadBytes hx (j := (2 : Int32)) (v := (.int b2)) (by rw [e0]; exact Ar64.1) (State.isArrayOf_alike hZ.alike Ar64.2.1) Ar64.2.2 hin65 hat65 (g := (mkF m 18 #[.val (.ref a1), .val (.int (2 : Int32)), .val (.int (4 : Int32)), .val (.int (0 : Int32)), .val (.int (2 : Int32))] [(.int (2 : Int32)), (.ref a1), (.int (0 : Int32))])) rfl rfl (hb hby d3_18) _ k) ?_
    show OGo p e below _ (s₁.setTop (mkF m 19 #[.val (.ref a1), .val (.int (2 : Int32)), .val (.int (4 : Int32)), .val (.int (0 : Int32)), .val (.int (2 : Int32))] [(.int b2), (.int (0 : Int32))]))
    refine OGo.to (fun _ k => XS.iadd X0.here hx rfl (hb hby d3_19) rfl k) ?_
    show OGo p e below _ (s₁.setTop (mkF m 20 #[.val (.ref a1), .val (.int (2 : Int32)), .val (.int (4 : Int32)), .val (.int (0 : Int32)), .val (.int (2 : Int32))] [(.int ((0 : Int32) + b2))]))
    refine OGo.to (fun _ k => XS.istoreN X0.here hx rfl (hb hby d3_20) rfl (l' := #[.val (.ref a1), .val (.int (2 : Int32)), .val (.int (4 : Int32)), .val (.int ((0 : Int32) + b2)), .val (.int (2 : Int32))]) rfl k) ?_
    show OGo p e below _ (s₁.setTop (mkF m 21 #[.val (.ref a1), .val (.int (2 : Int32)), .val (.int (4 : Int32)), .val (.int ((0 : Int32) + b2)), .val (.int (2 : Int32))] []))
    refine OGo.to (fun _ k => XS.iinc X0.here hx rfl (hb hby d3_21) rfl (l' := #[.val (.ref a1), .val (.int (2 : Int32)), .val (.int (4 : Int32)), .val (.int ((0 : Int32) + b2)), .val (.int (3 : Int32))]) rfl k) ?_
    show OGo p e below _ (s₁.setTop (mkF m 24 #[.val (.ref a1), .val (.int (2 : Int32)), .val (.int (4 : Int32)), .val (.int ((0 : Int32) + b2)), .val (.int (3 : Int32))] []))
    refine OGo.to (fun _ k => XS.goto X0.here hx rfl (pc0 := 24) (pc' := 5) rfl (hb hby d3_24) (by decide) (by decide) k) ?_
    show OGo p e below _ (s₁.setTop (mkF m 5 #[.val (.ref a1), .val (.int (2 : Int32)), .val (.int (4 : Int32)), .val (.int ((0 : Int32) + b2)), .val (.int (3 : Int32))] []))
    refine OGo.to (fun _ k => XS.iload X0.here hx rfl (hb hby d3_5) rfl k) ?_
    show OGo p e below _ (s₁.setTop (mkF m 7 #[.val (.ref a1), .val (.int (2 : Int32)), .val (.int (4 : Int32)), .val (.int ((0 : Int32) + b2)), .val (.int (3 : Int32))] [(.int (3 : Int32))]))
    refine OGo.to (fun _ k => XS.iloadN X0.here hx rfl (hb hby d3_7) rfl k) ?_
    show OGo p e below _ (s₁.setTop (mkF m 8 #[.val (.ref a1), .val (.int (2 : Int32)), .val (.int (4 : Int32)), .val (.int ((0 : Int32) + b2)), .val (.int (3 : Int32))] [(.int (4 : Int32)), (.int (3 : Int32))]))
    have hc8_66 : (3 : Int32) < (4 : Int32) := by decide
    refine OGo.to (fun _ k => XS.icmpNo X0.here hx rfl (hb hby d3_8) rfl (tlt hc8_66).2.1 k) ?_
    show OGo p e below _ (s₁.setTop (mkF m 11 #[.val (.ref a1), .val (.int (2 : Int32)), .val (.int (4 : Int32)), .val (.int ((0 : Int32) + b2)), .val (.int (3 : Int32))] []))
    refine OGo.to (fun _ k => XS.bipush X0.here hx rfl (hb hby d3_11) k) ?_
    show OGo p e below _ (s₁.setTop (mkF m 13 #[.val (.ref a1), .val (.int (2 : Int32)), .val (.int (4 : Int32)), .val (.int ((0 : Int32) + b2)), .val (.int (3 : Int32))] [(.int (31 : Int32))]))
    refine OGo.to (fun _ k => XS.iloadN X0.here hx rfl (hb hby d3_13) rfl k) ?_
    show OGo p e below _ (s₁.setTop (mkF m 14 #[.val (.ref a1), .val (.int (2 : Int32)), .val (.int (4 : Int32)), .val (.int ((0 : Int32) + b2)), .val (.int (3 : Int32))] [(.int ((0 : Int32) + b2)), (.int (31 : Int32))]))
    refine OGo.to (fun _ k => XS.imul X0.here hx rfl (hb hby d3_14) rfl k) ?_
    show OGo p e below _ (s₁.setTop (mkF m 15 #[.val (.ref a1), .val (.int (2 : Int32)), .val (.int (4 : Int32)), .val (.int ((0 : Int32) + b2)), .val (.int (3 : Int32))] [(.int ((31 : Int32) * ((0 : Int32) + b2)))]))
    refine OGo.to (fun _ k => XS.aloadN X0.here hx rfl (hb hby d3_15) rfl rfl k) ?_
    show OGo p e below _ (s₁.setTop (mkF m 16 #[.val (.ref a1), .val (.int (2 : Int32)), .val (.int (4 : Int32)), .val (.int ((0 : Int32) + b2)), .val (.int (3 : Int32))] [(.ref a1), (.int ((31 : Int32) * ((0 : Int32) + b2)))]))
    refine OGo.to (fun _ k => XS.iload X0.here hx rfl (hb hby d3_16) rfl k) ?_
    show OGo p e below _ (s₁.setTop (mkF m 18 #[.val (.ref a1), .val (.int (2 : Int32)), .val (.int (4 : Int32)), .val (.int ((0 : Int32) + b2)), .val (.int (3 : Int32))] [(.int (3 : Int32)), (.ref a1), (.int ((31 : Int32) * ((0 : Int32) + b2)))]))
    have Vq67 := V1
    obtain ⟨cl67, Ar67, q67, S67, M67, Hs67, G67⟩ := Vq67
    have hin68 : ¬ ((3 : Int32) < 0 ∨ cl67.slots.size ≤ ((3 : Int32)).toNatClampNeg) := inb_of S67 ⟨by decide, by decide⟩
    have hat68 : cl67.slots[((3 : Int32)).toNatClampNeg]? = some (.int b3) := Hs67.at hin68 (rfl)
    refine OGo.to (fun _ k => X0.baloadBytes hx (j := (3 : Int32)) (v := (.int b3)) (by rw [e0]; exact Ar67.1) (State.isArrayOf_alike hZ.alike Ar67.2.1) Ar67.2.2 hin68 hat68 (g := (mkF m 18 #[.val (.ref a1), .val (.int (2 : Int32)), .val (.int (4 : Int32)), .val (.int ((0 : Int32) + b2)), .val (.int (3 : Int32))] [(.int (3 : Int32)), (.ref a1), (.int ((31 : Int32) * ((0 : Int32) + b2)))])) rfl rfl (hb hby d3_18) _ k) ?_
    show OGo p e below _ (s₁.setTop (mkF m 19 #[.val (.ref a1), .val (.int (2 : Int32)), .val (.int (4 : Int32)), .val (.int ((0 : Int32) + b2)), .val (.int (3 : Int32))] [(.int b3), (.int ((31 : Int32) * ((0 : Int32) + b2)))]))
    refine OGo.to (fun _ k => XS.iadd X0.here hx rfl (hb hby d3_19) rfl k) ?_
    show OGo p e below _ (s₁.setTop (mkF m 20 #[.val (.ref a1), .val (.int (2 : Int32)), .val (.int (4 : Int32)), .val (.int ((0 : Int32) + b2)), .val (.int (3 : Int32))] [(.int (((31 : Int32) * ((0 : Int32) + b2)) + b3))]))
    refine OGo.to (fun _ k => XS.istoreN X0.here hx rfl (hb hby d3_20) rfl (l' := #[.val (.ref a1), .val (.int (2 : Int32)), .val (.int (4 : Int32)), .val (.int (((31 : Int32) * ((0 : Int32) + b2)) + b3)), .val (.int (3 : Int32))]) rfl k) ?_
    show OGo p e below _ (s₁.setTop (mkF m 21 #[.val (.ref a1), .val (.int (2 : Int32)), .val (.int (4 : Int32)), .val (.int (((31 : Int32) * ((0 : Int32) + b2)) + b3)), .val (.int (3 : Int32))] []))
    refine OGo.to (fun _ k => XS.iinc X0.here hx rfl (hb hby d3_21) rfl (l' := #[.val (.ref a1), .val (.int (2 : Int32)), .val (.int (4 : Int32)), .val (.int (((31 : Int32) * ((0 : Int32) + b2)) + b3)), .val (.int (4 : Int32))]) rfl k) ?_
    show OGo p e below _ (s₁.setTop (mkF m 24 #[.val (.ref a1), .val (.int (2 : Int32)), .val (.int (4 : Int32)), .val (.int (((31 : Int32) * ((0 : Int32) + b2)) + b3)), .val (.int (4 : Int32))] []))
    refine OGo.to (fun _ k => XS.goto X0.here hx rfl (pc0 := 24) (pc' := 5) rfl (hb hby d3_24) (by decide) (by decide) k) ?_
    show OGo p e below _ (s₁.setTop (mkF m 5 #[.val (.ref a1), .val (.int (2 : Int32)), .val (.int (4 : Int32)), .val (.int (((31 : Int32) * ((0 : Int32) + b2)) + b3)), .val (.int (4 : Int32))] []))
    refine OGo.to (fun _ k => XS.iload X0.here hx rfl (hb hby d3_5) rfl k) ?_
    show OGo p e below _ (s₁.setTop (mkF m 7 #[.val (.ref a1), .val (.int (2 : Int32)), .val (.int (4 : Int32)), .val (.int (((31 : Int32) * ((0 : Int32) + b2)) + b3)), .val (.int (4 : Int32))] [(.int (4 : Int32))]))
    refine OGo.to (fun _ k => XS.iloadN X0.here hx rfl (hb hby d3_7) rfl k) ?_
    show OGo p e below _ (s₁.setTop (mkF m 8 #[.val (.ref a1), .val (.int (2 : Int32)), .val (.int (4 : Int32)), .val (.int (((31 : Int32) * ((0 : Int32) + b2)) + b3)), .val (.int (4 : Int32))] [(.int (4 : Int32)), (.int (4 : Int32))]))
    have hc8_69 : ¬ ((4 : Int32) < (4 : Int32)) := by decide
    refine OGo.to (fun _ k => XS.icmpYes X0.here hx rfl (pc0 := 8) (pc' := 27) rfl (hb hby d3_8) rfl (flt hc8_69).2.1 (by decide) (by decide) k) ?_
    show OGo p e below _ (s₁.setTop (mkF m 27 #[.val (.ref a1), .val (.int (2 : Int32)), .val (.int (4 : Int32)), .val (.int (((31 : Int32) * ((0 : Int32) + b2)) + b3)), .val (.int (4 : Int32))] []))
    refine OGo.to (fun _ k => XS.iloadN X0.here hx rfl (hb hby d3_27) rfl k) ?_
    show OGo p e below _ (s₁.setTop (mkF m 28 #[.val (.ref a1), .val (.int (2 : Int32)), .val (.int (4 : Int32)), .val (.int (((31 : Int32) * ((0 : Int32) + b2)) + b3)), .val (.int (4 : Int32))] [(.int (((31 : Int32) * ((0 : Int32) + b2)) + b3))]))
    refine OGo.to (fun _ k => X0.ldcInt hx hown (mvT hZ (hw _ (List.mem_of_getElem? (i := 14) rfl))) (g := (mkF m 28 #[.val (.ref a1), .val (.int (2 : Int32)), .val (.int (4 : Int32)), .val (.int (((31 : Int32) * ((0 : Int32) + b2)) + b3)), .val (.int (4 : Int32))] [(.int (((31 : Int32) * ((0 : Int32) + b2)) + b3))])) rfl (hb hby d3_28) _ k) ?_
    show OGo p e below _ (s₁.setTop (mkF m 30 #[.val (.ref a1), .val (.int (2 : Int32)), .val (.int (4 : Int32)), .val (.int (((31 : Int32) * ((0 : Int32) + b2)) + b3)), .val (.int (4 : Int32))] [(.int (-1640531527 : Int32)), (.int (((31 : Int32) * ((0 : Int32) + b2)) + b3))]))
    refine OGo.to (fun _ k => XS.imul X0.here hx rfl (hb hby d3_30) rfl k) ?_
    show OGo p e below _ (s₁.setTop (mkF m 31 #[.val (.ref a1), .val (.int (2 : Int32)), .val (.int (4 : Int32)), .val (.int (((31 : Int32) * ((0 : Int32) + b2)) + b3)), .val (.int (4 : Int32))] [(.int ((((31 : Int32) * ((0 : Int32) + b2)) + b3) * (-1640531527 : Int32)))]))
    refine OGo.to (fun _ k => XS.istore X0.here hx rfl (hb hby d3_31) rfl (l' := #[.val (.ref a1), .val (.int (2 : Int32)), .val (.int (4 : Int32)), .val (.int (((31 : Int32) * ((0 : Int32) + b2)) + b3)), .val (.int ((((31 : Int32) * ((0 : Int32) + b2)) + b3) * (-1640531527 : Int32)))]) rfl k) ?_
    show OGo p e below _ (s₁.setTop (mkF m 33 #[.val (.ref a1), .val (.int (2 : Int32)), .val (.int (4 : Int32)), .val (.int (((31 : Int32) * ((0 : Int32) + b2)) + b3)), .val (.int ((((31 : Int32) * ((0 : Int32) + b2)) + b3) * (-1640531527 : Int32)))] []))
    refine OGo.to (fun _ k => XS.iload X0.here hx rfl (hb hby d3_33) rfl k) ?_
    show OGo p e below _ (s₁.setTop (mkF m 35 #[.val (.ref a1), .val (.int (2 : Int32)), .val (.int (4 : Int32)), .val (.int (((31 : Int32) * ((0 : Int32) + b2)) + b3)), .val (.int ((((31 : Int32) * ((0 : Int32) + b2)) + b3) * (-1640531527 : Int32)))] [(.int ((((31 : Int32) * ((0 : Int32) + b2)) + b3) * (-1640531527 : Int32)))]))
    refine OGo.to (fun _ k => XS.iload X0.here hx rfl (hb hby d3_35) rfl k) ?_
    show OGo p e below _ (s₁.setTop (mkF m 37 #[.val (.ref a1), .val (.int (2 : Int32)), .val (.int (4 : Int32)), .val (.int (((31 : Int32) * ((0 : Int32) + b2)) + b3)), .val (.int ((((31 : Int32) * ((0 : Int32) + b2)) + b3) * (-1640531527 : Int32)))] [(.int ((((31 : Int32) * ((0 : Int32) + b2)) + b3) * (-1640531527 : Int32))), (.int ((((31 : Int32) * ((0 : Int32) + b2)) + b3) * (-1640531527 : Int32)))]))
    refine OGo.to (fun _ k => XS.bipush X0.here hx rfl (hb hby d3_37) k) ?_
    show OGo p e below _ (s₁.setTop (mkF m 39 #[.val (.ref a1), .val (.int (2 : Int32)), .val (.int (4 : Int32)), .val (.int (((31 : Int32) * ((0 : Int32) + b2)) + b3)), .val (.int ((((31 : Int32) * ((0 : Int32) + b2)) + b3) * (-1640531527 : Int32)))] [(.int (16 : Int32)), (.int ((((31 : Int32) * ((0 : Int32) + b2)) + b3) * (-1640531527 : Int32))), (.int ((((31 : Int32) * ((0 : Int32) + b2)) + b3) * (-1640531527 : Int32)))]))
    refine OGo.to (fun _ k => XS.iushr X0.here hx rfl (hb hby d3_39) rfl k) ?_
    show OGo p e below _ (s₁.setTop (mkF m 40 #[.val (.ref a1), .val (.int (2 : Int32)), .val (.int (4 : Int32)), .val (.int (((31 : Int32) * ((0 : Int32) + b2)) + b3)), .val (.int ((((31 : Int32) * ((0 : Int32) + b2)) + b3) * (-1640531527 : Int32)))] [(.int ((((((31 : Int32) * ((0 : Int32) + b2)) + b3) * (-1640531527 : Int32)).toUInt32 >>> ((16 : Int32) &&& 31).toUInt32).toInt32)), (.int ((((31 : Int32) * ((0 : Int32) + b2)) + b3) * (-1640531527 : Int32)))]))
    refine OGo.to (fun _ k => XS.ixor X0.here hx rfl (hb hby d3_40) rfl k) ?_
    show OGo p e below _ (s₁.setTop (mkF m 41 #[.val (.ref a1), .val (.int (2 : Int32)), .val (.int (4 : Int32)), .val (.int (((31 : Int32) * ((0 : Int32) + b2)) + b3)), .val (.int ((((31 : Int32) * ((0 : Int32) + b2)) + b3) * (-1640531527 : Int32)))] [(.int (((((31 : Int32) * ((0 : Int32) + b2)) + b3) * (-1640531527 : Int32)) ^^^ ((((((31 : Int32) * ((0 : Int32) + b2)) + b3) * (-1640531527 : Int32)).toUInt32 >>> ((16 : Int32) &&& 31).toUInt32).toInt32)))]))
    refine OGo.ret (Q := Qh Z a1 (2 : Int32) (4 : Int32) kc b0 b1 b2 b3 h0 n0) X0 (some (.int (((((31 : Int32) * ((0 : Int32) + b2)) + b3) * (-1640531527 : Int32)) ^^^ ((((((31 : Int32) * ((0 : Int32) + b2)) + b3) * (-1640531527 : Int32)).toUInt32 >>> ((16 : Int32) &&& 31).toUInt32).toInt32)))) (fun h => by rw [Bd.returns] at h; cases h) Bd.notSynchronized (fun fs hr => retI X0 hx Bd.returns (hb hby d3_41) hr) ?_ (by decide) (by decide)
    show Qh Z a1 (2 : Int32) (4 : Int32) kc b0 b1 b2 b3 h0 n0 _ s₁.heap _
    rw [e0]
    exact ⟨congrArg (fun z => some (Value.int z)) (show (((((31 : Int32) * ((0 : Int32) + b2)) + b3) * (-1640531527 : Int32)) ^^^ ((((((31 : Int32) * ((0 : Int32) + b2)) + b3) * (-1640531527 : Int32)).toUInt32 >>> ((16 : Int32) &&& 31).toUInt32).toInt32)) = (own_hash b0 b1 b2 b3 (2 : Int32) (4 : Int32)) from by rfl), N0, rfl⟩
  ·
    show OGo p e below _ (s₁.setTop (mkF m 0 #[.val (.ref a1), .val (.int (3 : Int32)), .val (.int (3 : Int32)), .unset, .unset] []))
    refine OGo.to (fun _ k => XS.iconst X0.here hx rfl (hb hby d3_0) k) ?_
    show OGo p e below _ (s₁.setTop (mkF m 1 #[.val (.ref a1), .val (.int (3 : Int32)), .val (.int (3 : Int32)), .unset, .unset] [(.int (0 : Int32))]))
    refine OGo.to (fun _ k => XS.istoreN X0.here hx rfl (hb hby d3_1) rfl (l' := #[.val (.ref a1), .val (.int (3 : Int32)), .val (.int (3 : Int32)), .val (.int (0 : Int32)), .unset]) rfl k) ?_
    show OGo p e below _ (s₁.setTop (mkF m 2 #[.val (.ref a1), .val (.int (3 : Int32)), .val (.int (3 : Int32)), .val (.int (0 : Int32)), .unset] []))
    refine OGo.to (fun _ k => XS.iloadN X0.here hx rfl (hb hby d3_2) rfl k) ?_
    show OGo p e below _ (s₁.setTop (mkF m 3 #[.val (.ref a1), .val (.int (3 : Int32)), .val (.int (3 : Int32)), .val (.int (0 : Int32)), .unset] [(.int (3 : Int32))]))
    refine OGo.to (fun _ k => XS.istore X0.here hx rfl (hb hby d3_3) rfl (l' := #[.val (.ref a1), .val (.int (3 : Int32)), .val (.int (3 : Int32)), .val (.int (0 : Int32)), .val (.int (3 : Int32))]) rfl k) ?_
    show OGo p e below _ (s₁.setTop (mkF m 5 #[.val (.ref a1), .val (.int (3 : Int32)), .val (.int (3 : Int32)), .val (.int (0 : Int32)), .val (.int (3 : Int32))] []))
    refine OGo.to (fun _ k => XS.iload X0.here hx rfl (hb hby d3_5) rfl k) ?_
    show OGo p e below _ (s₁.setTop (mkF m 7 #[.val (.ref a1), .val (.int (3 : Int32)), .val (.int (3 : Int32)), .val (.int (0 : Int32)), .val (.int (3 : Int32))] [(.int (3 : Int32))]))
    refine OGo.to (fun _ k => XS.iloadN X0.here hx rfl (hb hby d3_7) rfl k) ?_
    show OGo p e below _ (s₁.setTop (mkF m 8 #[.val (.ref a1), .val (.int (3 : Int32)), .val (.int (3 : Int32)), .val (.int (0 : Int32)), .val (.int (3 : Int32))] [(.int (3 : Int32)), (.int (3 : Int32))]))
    have hc8_70 : ¬ ((3 : Int32) < (3 : Int32)) := by decide
    refine OGo.to (fun _ k => XS.icmpYes X0.here hx rfl (pc0 := 8) (pc' := 27) rfl (hb hby d3_8) rfl (flt hc8_70).2.1 (by decide) (by decide) k) ?_
    show OGo p e below _ (s₁.setTop (mkF m 27 #[.val (.ref a1), .val (.int (3 : Int32)), .val (.int (3 : Int32)), .val (.int (0 : Int32)), .val (.int (3 : Int32))] []))
    refine OGo.to (fun _ k => XS.iloadN X0.here hx rfl (hb hby d3_27) rfl k) ?_
    show OGo p e below _ (s₁.setTop (mkF m 28 #[.val (.ref a1), .val (.int (3 : Int32)), .val (.int (3 : Int32)), .val (.int (0 : Int32)), .val (.int (3 : Int32))] [(.int (0 : Int32))]))
    refine OGo.to (fun _ k => X0.ldcInt hx hown (mvT hZ (hw _ (List.mem_of_getElem? (i := 14) rfl))) (g := (mkF m 28 #[.val (.ref a1), .val (.int (3 : Int32)), .val (.int (3 : Int32)), .val (.int (0 : Int32)), .val (.int (3 : Int32))] [(.int (0 : Int32))])) rfl (hb hby d3_28) _ k) ?_
    show OGo p e below _ (s₁.setTop (mkF m 30 #[.val (.ref a1), .val (.int (3 : Int32)), .val (.int (3 : Int32)), .val (.int (0 : Int32)), .val (.int (3 : Int32))] [(.int (-1640531527 : Int32)), (.int (0 : Int32))]))
    refine OGo.to (fun _ k => XS.imul X0.here hx rfl (hb hby d3_30) rfl k) ?_
    show OGo p e below _ (s₁.setTop (mkF m 31 #[.val (.ref a1), .val (.int (3 : Int32)), .val (.int (3 : Int32)), .val (.int (0 : Int32)), .val (.int (3 : Int32))] [(.int (0 : Int32))]))
    refine OGo.to (fun _ k => XS.istore X0.here hx rfl (hb hby d3_31) rfl (l' := #[.val (.ref a1), .val (.int (3 : Int32)), .val (.int (3 : Int32)), .val (.int (0 : Int32)), .val (.int (0 : Int32))]) rfl k) ?_
    show OGo p e below _ (s₁.setTop (mkF m 33 #[.val (.ref a1), .val (.int (3 : Int32)), .val (.int (3 : Int32)), .val (.int (0 : Int32)), .val (.int (0 : Int32))] []))
    refine OGo.to (fun _ k => XS.iload X0.here hx rfl (hb hby d3_33) rfl k) ?_
    show OGo p e below _ (s₁.setTop (mkF m 35 #[.val (.ref a1), .val (.int (3 : Int32)), .val (.int (3 : Int32)), .val (.int (0 : Int32)), .val (.int (0 : Int32))] [(.int (0 : Int32))]))
    refine OGo.to (fun _ k => XS.iload X0.here hx rfl (hb hby d3_35) rfl k) ?_
    show OGo p e below _ (s₁.setTop (mkF m 37 #[.val (.ref a1), .val (.int (3 : Int32)), .val (.int (3 : Int32)), .val (.int (0 : Int32)), .val (.int (0 : Int32))] [(.int (0 : Int32)), (.int (0 : Int32))]))
    refine OGo.to (fun _ k => XS.bipush X0.here hx rfl (hb hby d3_37) k) ?_
    show OGo p e below _ (s₁.setTop (mkF m 39 #[.val (.ref a1), .val (.int (3 : Int32)), .val (.int (3 : Int32)), .val (.int (0 : Int32)), .val (.int (0 : Int32))] [(.int (16 : Int32)), (.int (0 : Int32)), (.int (0 : Int32))]))
    refine OGo.to (fun _ k => XS.iushr X0.here hx rfl (hb hby d3_39) rfl k) ?_
    show OGo p e below _ (s₁.setTop (mkF m 40 #[.val (.ref a1), .val (.int (3 : Int32)), .val (.int (3 : Int32)), .val (.int (0 : Int32)), .val (.int (0 : Int32))] [(.int (((0 : Int32).toUInt32 >>> ((16 : Int32) &&& 31).toUInt32).toInt32)), (.int (0 : Int32))]))
    refine OGo.to (fun _ k => XS.ixor X0.here hx rfl (hb hby d3_40) rfl k) ?_
    show OGo p e below _ (s₁.setTop (mkF m 41 #[.val (.ref a1), .val (.int (3 : Int32)), .val (.int (3 : Int32)), .val (.int (0 : Int32)), .val (.int (0 : Int32))] [(.int ((0 : Int32) ^^^ (((0 : Int32).toUInt32 >>> ((16 : Int32) &&& 31).toUInt32).toInt32)))]))
    refine OGo.ret (Q := Qh Z a1 (3 : Int32) (3 : Int32) kc b0 b1 b2 b3 h0 n0) X0 (some (.int ((0 : Int32) ^^^ (((0 : Int32).toUInt32 >>> ((16 : Int32) &&& 31).toUInt32).toInt32)))) (fun h => by rw [Bd.returns] at h; cases h) Bd.notSynchronized (fun fs hr => retI X0 hx Bd.returns (hb hby d3_41) hr) ?_ (by decide) (by decide)
    show Qh Z a1 (3 : Int32) (3 : Int32) kc b0 b1 b2 b3 h0 n0 _ s₁.heap _
    rw [e0]
    exact ⟨congrArg (fun z => some (Value.int z)) (show ((0 : Int32) ^^^ (((0 : Int32).toUInt32 >>> ((16 : Int32) &&& 31).toUInt32).toInt32)) = (own_hash b0 b1 b2 b3 (3 : Int32) (3 : Int32)) from by show _ = own_mix (0 : Int32); decide), N0, rfl⟩
  ·
    show OGo p e below _ (s₁.setTop (mkF m 0 #[.val (.ref a1), .val (.int (3 : Int32)), .val (.int (4 : Int32)), .unset, .unset] []))
    refine OGo.to (fun _ k => XS.iconst X0.here hx rfl (hb hby d3_0) k) ?_
    show OGo p e below _ (s₁.setTop (mkF m 1 #[.val (.ref a1), .val (.int (3 : Int32)), .val (.int (4 : Int32)), .unset, .unset] [(.int (0 : Int32))]))
    refine OGo.to (fun _ k => XS.istoreN X0.here hx rfl (hb hby d3_1) rfl (l' := #[.val (.ref a1), .val (.int (3 : Int32)), .val (.int (4 : Int32)), .val (.int (0 : Int32)), .unset]) rfl k) ?_
    show OGo p e below _ (s₁.setTop (mkF m 2 #[.val (.ref a1), .val (.int (3 : Int32)), .val (.int (4 : Int32)), .val (.int (0 : Int32)), .unset] []))
    refine OGo.to (fun _ k => XS.iloadN X0.here hx rfl (hb hby d3_2) rfl k) ?_
    show OGo p e below _ (s₁.setTop (mkF m 3 #[.val (.ref a1), .val (.int (3 : Int32)), .val (.int (4 : Int32)), .val (.int (0 : Int32)), .unset] [(.int (3 : Int32))]))
    refine OGo.to (fun _ k => XS.istore X0.here hx rfl (hb hby d3_3) rfl (l' := #[.val (.ref a1), .val (.int (3 : Int32)), .val (.int (4 : Int32)), .val (.int (0 : Int32)), .val (.int (3 : Int32))]) rfl k) ?_
    show OGo p e below _ (s₁.setTop (mkF m 5 #[.val (.ref a1), .val (.int (3 : Int32)), .val (.int (4 : Int32)), .val (.int (0 : Int32)), .val (.int (3 : Int32))] []))
    refine OGo.to (fun _ k => XS.iload X0.here hx rfl (hb hby d3_5) rfl k) ?_
    show OGo p e below _ (s₁.setTop (mkF m 7 #[.val (.ref a1), .val (.int (3 : Int32)), .val (.int (4 : Int32)), .val (.int (0 : Int32)), .val (.int (3 : Int32))] [(.int (3 : Int32))]))
    refine OGo.to (fun _ k => XS.iloadN X0.here hx rfl (hb hby d3_7) rfl k) ?_
    show OGo p e below _ (s₁.setTop (mkF m 8 #[.val (.ref a1), .val (.int (3 : Int32)), .val (.int (4 : Int32)), .val (.int (0 : Int32)), .val (.int (3 : Int32))] [(.int (4 : Int32)), (.int (3 : Int32))]))
    have hc8_71 : (3 : Int32) < (4 : Int32) := by decide
    refine OGo.to (fun _ k => XS.icmpNo X0.here hx rfl (hb hby d3_8) rfl (tlt hc8_71).2.1 k) ?_
    show OGo p e below _ (s₁.setTop (mkF m 11 #[.val (.ref a1), .val (.int (3 : Int32)), .val (.int (4 : Int32)), .val (.int (0 : Int32)), .val (.int (3 : Int32))] []))
    refine OGo.to (fun _ k => XS.bipush X0.here hx rfl (hb hby d3_11) k) ?_
    show OGo p e below _ (s₁.setTop (mkF m 13 #[.val (.ref a1), .val (.int (3 : Int32)), .val (.int (4 : Int32)), .val (.int (0 : Int32)), .val (.int (3 : Int32))] [(.int (31 : Int32))]))
    refine OGo.to (fun _ k => XS.iloadN X0.here hx rfl (hb hby d3_13) rfl k) ?_
    show OGo p e below _ (s₁.setTop (mkF m 14 #[.val (.ref a1), .val (.int (3 : Int32)), .val (.int (4 : Int32)), .val (.int (0 : Int32)), .val (.int (3 : Int32))] [(.int (0 : Int32)), (.int (31 : Int32))]))
    refine OGo.to (fun _ k => XS.imul X0.here hx rfl (hb hby d3_14) rfl k) ?_
    show OGo p e below _ (s₁.setTop (mkF m 15 #[.val (.ref a1), .val (.int (3 : Int32)), .val (.int (4 : Int32)), .val (.int (0 : Int32)), .val (.int (3 : Int32))] [(.int (0 : Int32))]))
    refine OGo.to (fun _ k => XS.aloadN X0.here hx rfl (hb hby d3_15) rfl rfl k) ?_
    show OGo p e below _ (s₁.setTop (mkF m 16 #[.val (.ref a1), .val (.int (3 : Int32)), .val (.int (4 : Int32)), .val (.int (0 : Int32)), .val (.int (3 : Int32))] [(.ref a1), (.int (0 : Int32))]))
    refine OGo.to (fun _ k => XS.iload X0.here hx rfl (hb hby d3_16) rfl k) ?_
    show OGo p e below _ (s₁.setTop (mkF m 18 #[.val (.ref a1), .val (.int (3 : Int32)), .val (.int (4 : Int32)), .val (.int (0 : Int32)), .val (.int (3 : Int32))] [(.int (3 : Int32)), (.ref a1), (.int (0 : Int32))]))
    have Vq72 := V1
    obtain ⟨cl72, Ar72, q72, S72, M72, Hs72, G72⟩ := Vq72
    have hin73 : ¬ ((3 : Int32) < 0 ∨ cl72.slots.size ≤ ((3 : Int32)).toNatClampNeg) := inb_of S72 ⟨by decide, by decide⟩
    have hat73 : cl72.slots[((3 : Int32)).toNatClampNeg]? = some (.int b3) := Hs72.at hin73 (rfl)
    refine OGo.to (fun _ k => X0.baloadBytes hx (j := (3 : Int32)) (v := (.int b3)) (by rw [e0]; exact Ar72.1) (State.isArrayOf_alike hZ.alike Ar72.2.1) Ar72.2.2 hin73 hat73 (g := (mkF m 18 #[.val (.ref a1), .val (.int (3 : Int32)), .val (.int (4 : Int32)), .val (.int (0 : Int32)), .val (.int (3 : Int32))] [(.int (3 : Int32)), (.ref a1), (.int (0 : Int32))])) rfl rfl (hb hby d3_18) _ k) ?_
    show OGo p e below _ (s₁.setTop (mkF m 19 #[.val (.ref a1), .val (.int (3 : Int32)), .val (.int (4 : Int32)), .val (.int (0 : Int32)), .val (.int (3 : Int32))] [(.int b3), (.int (0 : Int32))]))
    refine OGo.to (fun _ k => XS.iadd X0.here hx rfl (hb hby d3_19) rfl k) ?_
    show OGo p e below _ (s₁.setTop (mkF m 20 #[.val (.ref a1), .val (.int (3 : Int32)), .val (.int (4 : Int32)), .val (.int (0 : Int32)), .val (.int (3 : Int32))] [(.int ((0 : Int32) + b3))]))
    refine OGo.to (fun _ k => XS.istoreN X0.here hx rfl (hb hby d3_20) rfl (l' := #[.val (.ref a1), .val (.int (3 : Int32)), .val (.int (4 : Int32)), .val (.int ((0 : Int32) + b3)), .val (.int (3 : Int32))]) rfl k) ?_
    show OGo p e below _ (s₁.setTop (mkF m 21 #[.val (.ref a1), .val (.int (3 : Int32)), .val (.int (4 : Int32)), .val (.int ((0 : Int32) + b3)), .val (.int (3 : Int32))] []))
    refine OGo.to (fun _ k => XS.iinc X0.here hx rfl (hb hby d3_21) rfl (l' := #[.val (.ref a1), .val (.int (3 : Int32)), .val (.int (4 : Int32)), .val (.int ((0 : Int32) + b3)), .val (.int (4 : Int32))]) rfl k) ?_
    show OGo p e below _ (s₁.setTop (mkF m 24 #[.val (.ref a1), .val (.int (3 : Int32)), .val (.int (4 : Int32)), .val (.int ((0 : Int32) + b3)), .val (.int (4 : Int32))] []))
    refine OGo.to (fun _ k => XS.goto X0.here hx rfl (pc0 := 24) (pc' := 5) rfl (hb hby d3_24) (by decide) (by decide) k) ?_
    show OGo p e below _ (s₁.setTop (mkF m 5 #[.val (.ref a1), .val (.int (3 : Int32)), .val (.int (4 : Int32)), .val (.int ((0 : Int32) + b3)), .val (.int (4 : Int32))] []))
    refine OGo.to (fun _ k => XS.iload X0.here hx rfl (hb hby d3_5) rfl k) ?_
    show OGo p e below _ (s₁.setTop (mkF m 7 #[.val (.ref a1), .val (.int (3 : Int32)), .val (.int (4 : Int32)), .val (.int ((0 : Int32) + b3)), .val (.int (4 : Int32))] [(.int (4 : Int32))]))
    refine OGo.to (fun _ k => XS.iloadN X0.here hx rfl (hb hby d3_7) rfl k) ?_
    show OGo p e below _ (s₁.setTop (mkF m 8 #[.val (.ref a1), .val (.int (3 : Int32)), .val (.int (4 : Int32)), .val (.int ((0 : Int32) + b3)), .val (.int (4 : Int32))] [(.int (4 : Int32)), (.int (4 : Int32))]))
    have hc8_74 : ¬ ((4 : Int32) < (4 : Int32)) := by decide
    refine OGo.to (fun _ k => XS.icmpYes X0.here hx rfl (pc0 := 8) (pc' := 27) rfl (hb hby d3_8) rfl (flt hc8_74).2.1 (by decide) (by decide) k) ?_
    show OGo p e below _ (s₁.setTop (mkF m 27 #[.val (.ref a1), .val (.int (3 : Int32)), .val (.int (4 : Int32)), .val (.int ((0 : Int32) + b3)), .val (.int (4 : Int32))] []))
    refine OGo.to (fun _ k => XS.iloadN X0.here hx rfl (hb hby d3_27) rfl k) ?_
    show OGo p e below _ (s₁.setTop (mkF m 28 #[.val (.ref a1), .val (.int (3 : Int32)), .val (.int (4 : Int32)), .val (.int ((0 : Int32) + b3)), .val (.int (4 : Int32))] [(.int ((0 : Int32) + b3))]))
    refine OGo.to (fun _ k => X0.ldcInt hx hown (mvT hZ (hw _ (List.mem_of_getElem? (i := 14) rfl))) (g := (mkF m 28 #[.val (.ref a1), .val (.int (3 : Int32)), .val (.int (4 : Int32)), .val (.int ((0 : Int32) + b3)), .val (.int (4 : Int32))] [(.int ((0 : Int32) + b3))])) rfl (hb hby d3_28) _ k) ?_
    show OGo p e below _ (s₁.setTop (mkF m 30 #[.val (.ref a1), .val (.int (3 : Int32)), .val (.int (4 : Int32)), .val (.int ((0 : Int32) + b3)), .val (.int (4 : Int32))] [(.int (-1640531527 : Int32)), (.int ((0 : Int32) + b3))]))
    refine OGo.to (fun _ k => XS.imul X0.here hx rfl (hb hby d3_30) rfl k) ?_
    show OGo p e below _ (s₁.setTop (mkF m 31 #[.val (.ref a1), .val (.int (3 : Int32)), .val (.int (4 : Int32)), .val (.int ((0 : Int32) + b3)), .val (.int (4 : Int32))] [(.int (((0 : Int32) + b3) * (-1640531527 : Int32)))]))
    refine OGo.to (fun _ k => XS.istore X0.here hx rfl (hb hby d3_31) rfl (l' := #[.val (.ref a1), .val (.int (3 : Int32)), .val (.int (4 : Int32)), .val (.int ((0 : Int32) + b3)), .val (.int (((0 : Int32) + b3) * (-1640531527 : Int32)))]) rfl k) ?_
    show OGo p e below _ (s₁.setTop (mkF m 33 #[.val (.ref a1), .val (.int (3 : Int32)), .val (.int (4 : Int32)), .val (.int ((0 : Int32) + b3)), .val (.int (((0 : Int32) + b3) * (-1640531527 : Int32)))] []))
    refine OGo.to (fun _ k => XS.iload X0.here hx rfl (hb hby d3_33) rfl k) ?_
    show OGo p e below _ (s₁.setTop (mkF m 35 #[.val (.ref a1), .val (.int (3 : Int32)), .val (.int (4 : Int32)), .val (.int ((0 : Int32) + b3)), .val (.int (((0 : Int32) + b3) * (-1640531527 : Int32)))] [(.int (((0 : Int32) + b3) * (-1640531527 : Int32)))]))
    refine OGo.to (fun _ k => XS.iload X0.here hx rfl (hb hby d3_35) rfl k) ?_
    show OGo p e below _ (s₁.setTop (mkF m 37 #[.val (.ref a1), .val (.int (3 : Int32)), .val (.int (4 : Int32)), .val (.int ((0 : Int32) + b3)), .val (.int (((0 : Int32) + b3) * (-1640531527 : Int32)))] [(.int (((0 : Int32) + b3) * (-1640531527 : Int32))), (.int (((0 : Int32) + b3) * (-1640531527 : Int32)))]))
    refine OGo.to (fun _ k => XS.bipush X0.here hx rfl (hb hby d3_37) k) ?_
    show OGo p e below _ (s₁.setTop (mkF m 39 #[.val (.ref a1), .val (.int (3 : Int32)), .val (.int (4 : Int32)), .val (.int ((0 : Int32) + b3)), .val (.int (((0 : Int32) + b3) * (-1640531527 : Int32)))] [(.int (16 : Int32)), (.int (((0 : Int32) + b3) * (-1640531527 : Int32))), (.int (((0 : Int32) + b3) * (-1640531527 : Int32)))]))
    refine OGo.to (fun _ k => XS.iushr X0.here hx rfl (hb hby d3_39) rfl k) ?_
    show OGo p e below _ (s₁.setTop (mkF m 40 #[.val (.ref a1), .val (.int (3 : Int32)), .val (.int (4 : Int32)), .val (.int ((0 : Int32) + b3)), .val (.int (((0 : Int32) + b3) * (-1640531527 : Int32)))] [(.int (((((0 : Int32) + b3) * (-1640531527 : Int32)).toUInt32 >>> ((16 : Int32) &&& 31).toUInt32).toInt32)), (.int (((0 : Int32) + b3) * (-1640531527 : Int32)))]))
    refine OGo.to (fun _ k => XS.ixor X0.here hx rfl (hb hby d3_40) rfl k) ?_
    show OGo p e below _ (s₁.setTop (mkF m 41 #[.val (.ref a1), .val (.int (3 : Int32)), .val (.int (4 : Int32)), .val (.int ((0 : Int32) + b3)), .val (.int (((0 : Int32) + b3) * (-1640531527 : Int32)))] [(.int ((((0 : Int32) + b3) * (-1640531527 : Int32)) ^^^ (((((0 : Int32) + b3) * (-1640531527 : Int32)).toUInt32 >>> ((16 : Int32) &&& 31).toUInt32).toInt32)))]))
    refine OGo.ret (Q := Qh Z a1 (3 : Int32) (4 : Int32) kc b0 b1 b2 b3 h0 n0) X0 (some (.int ((((0 : Int32) + b3) * (-1640531527 : Int32)) ^^^ (((((0 : Int32) + b3) * (-1640531527 : Int32)).toUInt32 >>> ((16 : Int32) &&& 31).toUInt32).toInt32)))) (fun h => by rw [Bd.returns] at h; cases h) Bd.notSynchronized (fun fs hr => retI X0 hx Bd.returns (hb hby d3_41) hr) ?_ (by decide) (by decide)
    show Qh Z a1 (3 : Int32) (4 : Int32) kc b0 b1 b2 b3 h0 n0 _ s₁.heap _
    rw [e0]
    exact ⟨congrArg (fun z => some (Value.int z)) (show ((((0 : Int32) + b3) * (-1640531527 : Int32)) ^^^ (((((0 : Int32) + b3) * (-1640531527 : Int32)).toUInt32 >>> ((16 : Int32) &&& 31).toUInt32).toInt32)) = (own_hash b0 b1 b2 b3 (3 : Int32) (4 : Int32)) from by rfl), N0, rfl⟩
  ·
    show OGo p e below _ (s₁.setTop (mkF m 0 #[.val (.ref a1), .val (.int (4 : Int32)), .val (.int (4 : Int32)), .unset, .unset] []))
    refine OGo.to (fun _ k => XS.iconst X0.here hx rfl (hb hby d3_0) k) ?_
    show OGo p e below _ (s₁.setTop (mkF m 1 #[.val (.ref a1), .val (.int (4 : Int32)), .val (.int (4 : Int32)), .unset, .unset] [(.int (0 : Int32))]))
    refine OGo.to (fun _ k => XS.istoreN X0.here hx rfl (hb hby d3_1) rfl (l' := #[.val (.ref a1), .val (.int (4 : Int32)), .val (.int (4 : Int32)), .val (.int (0 : Int32)), .unset]) rfl k) ?_
    show OGo p e below _ (s₁.setTop (mkF m 2 #[.val (.ref a1), .val (.int (4 : Int32)), .val (.int (4 : Int32)), .val (.int (0 : Int32)), .unset] []))
    refine OGo.to (fun _ k => XS.iloadN X0.here hx rfl (hb hby d3_2) rfl k) ?_
    show OGo p e below _ (s₁.setTop (mkF m 3 #[.val (.ref a1), .val (.int (4 : Int32)), .val (.int (4 : Int32)), .val (.int (0 : Int32)), .unset] [(.int (4 : Int32))]))
    refine OGo.to (fun _ k => XS.istore X0.here hx rfl (hb hby d3_3) rfl (l' := #[.val (.ref a1), .val (.int (4 : Int32)), .val (.int (4 : Int32)), .val (.int (0 : Int32)), .val (.int (4 : Int32))]) rfl k) ?_
    show OGo p e below _ (s₁.setTop (mkF m 5 #[.val (.ref a1), .val (.int (4 : Int32)), .val (.int (4 : Int32)), .val (.int (0 : Int32)), .val (.int (4 : Int32))] []))
    refine OGo.to (fun _ k => XS.iload X0.here hx rfl (hb hby d3_5) rfl k) ?_
    show OGo p e below _ (s₁.setTop (mkF m 7 #[.val (.ref a1), .val (.int (4 : Int32)), .val (.int (4 : Int32)), .val (.int (0 : Int32)), .val (.int (4 : Int32))] [(.int (4 : Int32))]))
    refine OGo.to (fun _ k => XS.iloadN X0.here hx rfl (hb hby d3_7) rfl k) ?_
    show OGo p e below _ (s₁.setTop (mkF m 8 #[.val (.ref a1), .val (.int (4 : Int32)), .val (.int (4 : Int32)), .val (.int (0 : Int32)), .val (.int (4 : Int32))] [(.int (4 : Int32)), (.int (4 : Int32))]))
    have hc8_75 : ¬ ((4 : Int32) < (4 : Int32)) := by decide
    refine OGo.to (fun _ k => XS.icmpYes X0.here hx rfl (pc0 := 8) (pc' := 27) rfl (hb hby d3_8) rfl (flt hc8_75).2.1 (by decide) (by decide) k) ?_
    show OGo p e below _ (s₁.setTop (mkF m 27 #[.val (.ref a1), .val (.int (4 : Int32)), .val (.int (4 : Int32)), .val (.int (0 : Int32)), .val (.int (4 : Int32))] []))
    refine OGo.to (fun _ k => XS.iloadN X0.here hx rfl (hb hby d3_27) rfl k) ?_
    show OGo p e below _ (s₁.setTop (mkF m 28 #[.val (.ref a1), .val (.int (4 : Int32)), .val (.int (4 : Int32)), .val (.int (0 : Int32)), .val (.int (4 : Int32))] [(.int (0 : Int32))]))
    refine OGo.to (fun _ k => X0.ldcInt hx hown (mvT hZ (hw _ (List.mem_of_getElem? (i := 14) rfl))) (g := (mkF m 28 #[.val (.ref a1), .val (.int (4 : Int32)), .val (.int (4 : Int32)), .val (.int (0 : Int32)), .val (.int (4 : Int32))] [(.int (0 : Int32))])) rfl (hb hby d3_28) _ k) ?_
    show OGo p e below _ (s₁.setTop (mkF m 30 #[.val (.ref a1), .val (.int (4 : Int32)), .val (.int (4 : Int32)), .val (.int (0 : Int32)), .val (.int (4 : Int32))] [(.int (-1640531527 : Int32)), (.int (0 : Int32))]))
    refine OGo.to (fun _ k => XS.imul X0.here hx rfl (hb hby d3_30) rfl k) ?_
    show OGo p e below _ (s₁.setTop (mkF m 31 #[.val (.ref a1), .val (.int (4 : Int32)), .val (.int (4 : Int32)), .val (.int (0 : Int32)), .val (.int (4 : Int32))] [(.int (0 : Int32))]))
    refine OGo.to (fun _ k => XS.istore X0.here hx rfl (hb hby d3_31) rfl (l' := #[.val (.ref a1), .val (.int (4 : Int32)), .val (.int (4 : Int32)), .val (.int (0 : Int32)), .val (.int (0 : Int32))]) rfl k) ?_
    show OGo p e below _ (s₁.setTop (mkF m 33 #[.val (.ref a1), .val (.int (4 : Int32)), .val (.int (4 : Int32)), .val (.int (0 : Int32)), .val (.int (0 : Int32))] []))
    refine OGo.to (fun _ k => XS.iload X0.here hx rfl (hb hby d3_33) rfl k) ?_
    show OGo p e below _ (s₁.setTop (mkF m 35 #[.val (.ref a1), .val (.int (4 : Int32)), .val (.int (4 : Int32)), .val (.int (0 : Int32)), .val (.int (0 : Int32))] [(.int (0 : Int32))]))
    refine OGo.to (fun _ k => XS.iload X0.here hx rfl (hb hby d3_35) rfl k) ?_
    show OGo p e below _ (s₁.setTop (mkF m 37 #[.val (.ref a1), .val (.int (4 : Int32)), .val (.int (4 : Int32)), .val (.int (0 : Int32)), .val (.int (0 : Int32))] [(.int (0 : Int32)), (.int (0 : Int32))]))
    refine OGo.to (fun _ k => XS.bipush X0.here hx rfl (hb hby d3_37) k) ?_
    show OGo p e below _ (s₁.setTop (mkF m 39 #[.val (.ref a1), .val (.int (4 : Int32)), .val (.int (4 : Int32)), .val (.int (0 : Int32)), .val (.int (0 : Int32))] [(.int (16 : Int32)), (.int (0 : Int32)), (.int (0 : Int32))]))
    refine OGo.to (fun _ k => XS.iushr X0.here hx rfl (hb hby d3_39) rfl k) ?_
    show OGo p e below _ (s₁.setTop (mkF m 40 #[.val (.ref a1), .val (.int (4 : Int32)), .val (.int (4 : Int32)), .val (.int (0 : Int32)), .val (.int (0 : Int32))] [(.int (((0 : Int32).toUInt32 >>> ((16 : Int32) &&& 31).toUInt32).toInt32)), (.int (0 : Int32))]))
    refine OGo.to (fun _ k => XS.ixor X0.here hx rfl (hb hby d3_40) rfl k) ?_
    show OGo p e below _ (s₁.setTop (mkF m 41 #[.val (.ref a1), .val (.int (4 : Int32)), .val (.int (4 : Int32)), .val (.int (0 : Int32)), .val (.int (0 : Int32))] [(.int ((0 : Int32) ^^^ (((0 : Int32).toUInt32 >>> ((16 : Int32) &&& 31).toUInt32).toInt32)))]))
    refine OGo.ret (Q := Qh Z a1 (4 : Int32) (4 : Int32) kc b0 b1 b2 b3 h0 n0) X0 (some (.int ((0 : Int32) ^^^ (((0 : Int32).toUInt32 >>> ((16 : Int32) &&& 31).toUInt32).toInt32)))) (fun h => by rw [Bd.returns] at h; cases h) Bd.notSynchronized (fun fs hr => retI X0 hx Bd.returns (hb hby d3_41) hr) ?_ (by decide) (by decide)
    show Qh Z a1 (4 : Int32) (4 : Int32) kc b0 b1 b2 b3 h0 n0 _ s₁.heap _
    rw [e0]
    exact ⟨congrArg (fun z => some (Value.int z)) (show ((0 : Int32) ^^^ (((0 : Int32).toUInt32 >>> ((16 : Int32) &&& 31).toUInt32).toInt32)) = (own_hash b0 b1 b2 b3 (4 : Int32) (4 : Int32)) from by show _ = own_mix (0 : Int32); decide), N0, rfl⟩
theorem ef_0 (m : MethodId) (x0 : Int32) (x1 : Int32) (x2 : Int32) (x3 : Int32) (x4 : Int32) (x5 : Int32) : entryFrame m #[(.int x0), (.int x1), (.int x2), (.int x3), (.int x4), (.int x5)] maxLocals = mkF m 0 #[.val (.int x0), .val (.int x1), .val (.int x2), .val (.int x3), .val (.int x4), .val (.int x5), .unset, .unset, .unset, .unset, .unset, .unset, .unset] [] := by first | (simp [entryFrame, mkF, argsToLocals, Value.category, maxLocals]; done) | rfl
def Q0 (Z : State) (p1 : Int32) (p2 : Int32) (p3 : Int32) (p4 : Int32) (p5 : Int32) (p6 : Int32) (h0 : Heap) (n0 : Nat) (v : Option Value) (h : Heap) (L : List Loc) : Prop := v = some (.int (1 : Int32)) ∧ Fr n0 L
set_option maxRecDepth 65536 in
set_option maxHeartbeats 40000000 in
theorem rm0 (l : Launch) (Z : State) (a0 : Array Value) (hw : ∀ d ∈ tables_1, d.before a0 Z = true) (ws : List Jvm.Cond) (p1 : Int32) (p2 : Int32) (p3 : Int32) (p4 : Int32) (p5 : Int32) (p6 : Int32) (h0 : Heap) (n0 : Nat) (Z0 : n0 ≤ h0.size) :
    MetFree l x (head1 (Jvm.Cond.code x code maxLocals ret :: ws) room_1) (fun a U => a = #[(.int p1), (.int p2), (.int p3), (.int p4), (.int p5), (.int p6)] ∧ Z.Warmed39 U.vm ∧ U.heap = h0) (fun _ _ _ _ _ => True) (fun _ U o U' => ∃ v L, o = .returned v ∧ Q0 Z p1 p2 p3 p4 p5 p6 h0 n0 v U'.heap L ∧ FrameEnd U o U' L room_1.cells room_1.slots) := by
  refine MetFree.of_bodySF (plainFor_of_name pn_0) hisR ?_
  intro p e s m args below meth c s₁ Bd hml0 hP hK
  obtain ⟨rfl, hZ, hh⟩ := hP
  have hx := Bd.exec
  have hby := Bd.bytes
  have hml : c.maxLocals = 13 := hml0
  have hown : s.vm.findClass "com/example/querytrail/querytrail/trec/IndexTableHashPinLaw" = some m.cls := findClass_of_methodNamed Bd.named
  have hnm := (name_of_methodNamed Bd.named Bd.method).1
  have X0 : Stand p l e room_1 s m #[(.int p1), (.int p2), (.int p3), (.int p4), (.int p5), (.int p6)] below meth c s₁ [] 0 0 := Stand.of_body Bd
  have e0 : s₁.heap = h0 := by rw [← hh, Bd.state]; rfl
  have N0 := Fr.nil n0
  show OGo p e below (fun s₂ o => ∃ v L, o = .returned v ∧ Q0 Z p1 p2 p3 p4 p5 p6 h0 n0 v s₂.heap L ∧ FrameEnd s o s₂ L room_1.cells room_1.slots) _
  refine OGo.to (fun _ k => castTop (ef_0 m p1 p2 p3 p4 p5 p6) k) ?_
  refine OGo.to (fun _ k => XS.iconst X0.here hx rfl (hb hby at_0) k) ?_
  show OGo p e below _ (s₁.setTop (mkF m 1 #[.val (.int p1), .val (.int p2), .val (.int p3), .val (.int p4), .val (.int p5), .val (.int p6), .unset, .unset, .unset, .unset, .unset, .unset, .unset] [(.int (4 : Int32))]))
  obtain ⟨T1, h1, k1, X1, e1, E1, A1, st1⟩ := newP X0 hx hZ (hw _ (List.mem_of_getElem? (i := 0) rfl)) e0 (g := (mkF m 1 #[.val (.int p1), .val (.int p2), .val (.int p3), .val (.int p4), .val (.int p5), .val (.int p6), .unset, .unset, .unset, .unset, .unset, .unset, .unset] [(.int (4 : Int32))])) rfl (hb hby at_1) rfl (by decide) (cap := 4) (by decide) (by decide) (by decide) (by decide)
  obtain ⟨b1, g1⟩ : ∃ z, z = h0.size := ⟨_, rfl⟩
  rw [← g1] at A1 st1
  have g_b1 : n0 ≤ b1 := Nat.le_trans Z0 (Nat.le_of_eq g1.symm)
  refine OGo.to st1 ?_
  have z2 : n0 ≤ h1.size := Nat.le_trans Z0 E1.1
  have V1 : Arv Z h1 b1 k1 .byte (4 : Int32) [(.int (0 : Int32)), (.int (0 : Int32)), (.int (0 : Int32)), (.int (0 : Int32))] (.int (0 : Int32)) := (Arv.new A1 (by decide)).pad (pad_rep [] (.int (0 : Int32)) 4)
  show OGo p e below _ (T1.setTop (mkF m 3 #[.val (.int p1), .val (.int p2), .val (.int p3), .val (.int p4), .val (.int p5), .val (.int p6), .unset, .unset, .unset, .unset, .unset, .unset, .unset] [(.ref b1)]))
  refine OGo.to (fun _ k => XS.astore X1.here hx rfl (hb hby at_3) rfl rfl (l' := #[.val (.int p1), .val (.int p2), .val (.int p3), .val (.int p4), .val (.int p5), .val (.int p6), .val (.ref b1), .unset, .unset, .unset, .unset, .unset, .unset]) rfl k) ?_
  show OGo p e below _ (T1.setTop (mkF m 5 #[.val (.int p1), .val (.int p2), .val (.int p3), .val (.int p4), .val (.int p5), .val (.int p6), .val (.ref b1), .unset, .unset, .unset, .unset, .unset, .unset] []))
  refine OGo.to (fun _ k => XS.aload X1.here hx rfl (hb hby at_5) rfl rfl k) ?_
  show OGo p e below _ (T1.setTop (mkF m 7 #[.val (.int p1), .val (.int p2), .val (.int p3), .val (.int p4), .val (.int p5), .val (.int p6), .val (.ref b1), .unset, .unset, .unset, .unset, .unset, .unset] [(.ref b1)]))
  refine OGo.to (fun _ k => XS.iconst X1.here hx rfl (hb hby at_7) k) ?_
  show OGo p e below _ (T1.setTop (mkF m 8 #[.val (.int p1), .val (.int p2), .val (.int p3), .val (.int p4), .val (.int p5), .val (.int p6), .val (.ref b1), .unset, .unset, .unset, .unset, .unset, .unset] [(.int (0 : Int32)), (.ref b1)]))
  refine OGo.to (fun _ k => XS.iloadN X1.here hx rfl (hb hby at_8) rfl k) ?_
  show OGo p e below _ (T1.setTop (mkF m 9 #[.val (.int p1), .val (.int p2), .val (.int p3), .val (.int p4), .val (.int p5), .val (.int p6), .val (.ref b1), .unset, .unset, .unset, .unset, .unset, .unset] [(.int p1), (.int (0 : Int32)), (.ref b1)]))
  refine OGo.to (fun _ k => XS.i2b X1.here hx rfl (hb hby at_9) rfl k) ?_
  show OGo p e below _ (T1.setTop (mkF m 10 #[.val (.int p1), .val (.int p2), .val (.int p3), .val (.int p4), .val (.int p5), .val (.int p6), .val (.ref b1), .unset, .unset, .unset, .unset, .unset, .unset] [(.int (p1.toInt8.toInt32)), (.int (0 : Int32)), (.ref b1)]))
  have Vq3 := V1
  obtain ⟨cl3, Ar3, q3, S3, M3, Hs3, G3⟩ := Vq3
  have hin4 : ¬ ((0 : Int32) < 0 ∨ cl3.slots.size ≤ ((0 : Int32)).toNatClampNeg) := inb_of S3 ⟨by decide, by decide⟩
  obtain ⟨T4, h4, X4, e4, W4, st4⟩ := stB X1 hx hZ e1 Ar3 (j := (0 : Int32)) hin4 (g := (mkF m 10 #[.val (.int p1), .val (.int p2), .val (.int p3), .val (.int p4), .val (.int p5), .val (.int p6), .val (.ref b1), .unset, .unset, .unset, .unset, .unset, .unset] [(.int (p1.toInt8.toInt32)), (.int (0 : Int32)), (.ref b1)])) rfl rfl (hb hby at_10)
  refine OGo.to st4 ?_
  have V4 : Arv Z h4 b1 k1 .byte (4 : Int32) [(.int ((p1.toInt8.toInt32)).toInt8.toInt32), (.int (0 : Int32)), (.int (0 : Int32)), (.int (0 : Int32))] (.int (0 : Int32)) := Arv.set Ar3 q3 S3 M3 Hs3 G3 (fits_nar_byte _) W4 0 rfl (Nat.le_of_ble_eq_true rfl)
  have N4 := Fr.snoc X4 N0 g_b1
  have z5 : n0 ≤ h4.size := Nat.le_trans z2 (Keep.of_wr W4).1
  show OGo p e below _ (T4.setTop (mkF m 11 #[.val (.int p1), .val (.int p2), .val (.int p3), .val (.int p4), .val (.int p5), .val (.int p6), .val (.ref b1), .unset, .unset, .unset, .unset, .unset, .unset] []))
  refine OGo.to (fun _ k => XS.aload X4.here hx rfl (hb hby at_11) rfl rfl k) ?_
  show OGo p e below _ (T4.setTop (mkF m 13 #[.val (.int p1), .val (.int p2), .val (.int p3), .val (.int p4), .val (.int p5), .val (.int p6), .val (.ref b1), .unset, .unset, .unset, .unset, .unset, .unset] [(.ref b1)]))
  refine OGo.to (fun _ k => XS.iconst X4.here hx rfl (hb hby at_13) k) ?_
  show OGo p e below _ (T4.setTop (mkF m 14 #[.val (.int p1), .val (.int p2), .val (.int p3), .val (.int p4), .val (.int p5), .val (.int p6), .val (.ref b1), .unset, .unset, .unset, .unset, .unset, .unset] [(.int (1 : Int32)), (.ref b1)]))
  refine OGo.to (fun _ k => XS.iloadN X4.here hx rfl (hb hby at_14) rfl k) ?_
  show OGo p e below _ (T4.setTop (mkF m 15 #[.val (.int p1), .val (.int p2), .val (.int p3), .val (.int p4), .val (.int p5), .val (.int p6), .val (.ref b1), .unset, .unset, .unset, .unset, .unset, .unset] [(.int p2), (.int (1 : Int32)), (.ref b1)]))
  refine OGo.to (fun _ k => XS.i2b X4.here hx rfl (hb hby at_15) rfl k) ?_
  show OGo p e below _ (T4.setTop (mkF m 16 #[.val (.int p1), .val (.int p2), .val (.int p3), .val (.int p4), .val (.int p5), .val (.int p6), .val (.ref b1), .unset, .unset, .unset, .unset, .unset, .unset] [(.int (p2.toInt8.toInt32)), (.int (1 : Int32)), (.ref b1)]))
  have Vq6 := V4
  obtain ⟨cl6, Ar6, q6, S6, M6, Hs6, G6⟩ := Vq6
  have hin7 : ¬ ((1 : Int32) < 0 ∨ cl6.slots.size ≤ ((1 : Int32)).toNatClampNeg) := inb_of S6 ⟨by decide, by decide⟩
  obtain ⟨T7, h7, X7, e7, W7, st7⟩ := stB X4 hx hZ e4 Ar6 (j := (1 : Int32)) hin7 (g := (mkF m 16 #[.val (.int p1), .val (.int p2), .val (.int p3), .val (.int p4), .val (.int p5), .val (.int p6), .val (.ref b1), .unset, .unset, .unset, .unset, .unset, .unset] [(.int (p2.toInt8.toInt32)), (.int (1 : Int32)), (.ref b1)])) rfl rfl (hb hby at_16)
  refine OGo.to st7 ?_
  have V7 : Arv Z h7 b1 k1 .byte (4 : Int32) [(.int ((p1.toInt8.toInt32)).toInt8.toInt32), (.int ((p2.toInt8.toInt32)).toInt8.toInt32), (.int (0 : Int32)), (.int (0 : Int32))] (.int (0 : Int32)) := Arv.set Ar6 q6 S6 M6 Hs6 G6 (fits_nar_byte _) W7 1 rfl (Nat.le_of_ble_eq_true rfl)
  have N7 := Fr.snoc X7 N4 g_b1
  have z8 : n0 ≤ h7.size := Nat.le_trans z5 (Keep.of_wr W7).1
  show OGo p e below _ (T7.setTop (mkF m 17 #[.val (.int p1), .val (.int p2), .val (.int p3), .val (.int p4), .val (.int p5), .val (.int p6), .val (.ref b1), .unset, .unset, .unset, .unset, .unset, .unset] []))
  refine OGo.to (fun _ k => XS.aload X7.here hx rfl (hb hby at_17) rfl rfl k) ?_
  show OGo p e below _ (T7.setTop (mkF m 19 #[.val (.int p1), .val (.int p2), .val (.int p3), .val (.int p4), .val (.int p5), .val (.int p6), .val (.ref b1), .unset, .unset, .unset, .unset, .unset, .unset] [(.ref b1)]))
  refine OGo.to (fun _ k => XS.iconst X7.here hx rfl (hb hby at_19) k) ?_
  show OGo p e below _ (T7.setTop (mkF m 20 #[.val (.int p1), .val (.int p2), .val (.int p3), .val (.int p4), .val (.int p5), .val (.int p6), .val (.ref b1), .unset, .unset, .unset, .unset, .unset, .unset] [(.int (2 : Int32)), (.ref b1)]))
  refine OGo.to (fun _ k => XS.iloadN X7.here hx rfl (hb hby at_20) rfl k) ?_
  show OGo p e below _ (T7.setTop (mkF m 21 #[.val (.int p1), .val (.int p2), .val (.int p3), .val (.int p4), .val (.int p5), .val (.int p6), .val (.ref b1), .unset, .unset, .unset, .unset, .unset, .unset] [(.int p3), (.int (2 : Int32)), (.ref b1)]))
  refine OGo.to (fun _ k => XS.i2b X7.here hx rfl (hb hby at_21) rfl k) ?_
  show OGo p e below _ (T7.setTop (mkF m 22 #[.val (.int p1), .val (.int p2), .val (.int p3), .val (.int p4), .val (.int p5), .val (.int p6), .val (.ref b1), .unset, .unset, .unset, .unset, .unset, .unset] [(.int (p3.toInt8.toInt32)), (.int (2 : Int32)), (.ref b1)]))
  have Vq9 := V7
  obtain ⟨cl9, Ar9, q9, S9, M9, Hs9, G9⟩ := Vq9
  have hin10 : ¬ ((2 : Int32) < 0 ∨ cl9.slots.size ≤ ((2 : Int32)).toNatClampNeg) := inb_of S9 ⟨by decide, by decide⟩
  obtain ⟨T10, h10, X10, e10, W10, st10⟩ := stB X7 hx hZ e7 Ar9 (j := (2 : Int32)) hin10 (g := (mkF m 22 #[.val (.int p1), .val (.int p2), .val (.int p3), .val (.int p4), .val (.int p5), .val (.int p6), .val (.ref b1), .unset, .unset, .unset, .unset, .unset, .unset] [(.int (p3.toInt8.toInt32)), (.int (2 : Int32)), (.ref b1)])) rfl rfl (hb hby at_22)
  refine OGo.to st10 ?_
  have V10 : Arv Z h10 b1 k1 .byte (4 : Int32) [(.int ((p1.toInt8.toInt32)).toInt8.toInt32), (.int ((p2.toInt8.toInt32)).toInt8.toInt32), (.int ((p3.toInt8.toInt32)).toInt8.toInt32), (.int (0 : Int32))] (.int (0 : Int32)) := Arv.set Ar9 q9 S9 M9 Hs9 G9 (fits_nar_byte _) W10 2 rfl (Nat.le_of_ble_eq_true rfl)
  have N10 := Fr.snoc X10 N7 g_b1
  have z11 : n0 ≤ h10.size := Nat.le_trans z8 (Keep.of_wr W10).1
  show OGo p e below _ (T10.setTop (mkF m 23 #[.val (.int p1), .val (.int p2), .val (.int p3), .val (.int p4), .val (.int p5), .val (.int p6), .val (.ref b1), .unset, .unset, .unset, .unset, .unset, .unset] []))
  refine OGo.to (fun _ k => XS.aload X10.here hx rfl (hb hby at_23) rfl rfl k) ?_
  show OGo p e below _ (T10.setTop (mkF m 25 #[.val (.int p1), .val (.int p2), .val (.int p3), .val (.int p4), .val (.int p5), .val (.int p6), .val (.ref b1), .unset, .unset, .unset, .unset, .unset, .unset] [(.ref b1)]))
  refine OGo.to (fun _ k => XS.iconst X10.here hx rfl (hb hby at_25) k) ?_
  show OGo p e below _ (T10.setTop (mkF m 26 #[.val (.int p1), .val (.int p2), .val (.int p3), .val (.int p4), .val (.int p5), .val (.int p6), .val (.ref b1), .unset, .unset, .unset, .unset, .unset, .unset] [(.int (3 : Int32)), (.ref b1)]))
  refine OGo.to (fun _ k => XS.iloadN X10.here hx rfl (hb hby at_26) rfl k) ?_
  show OGo p e below _ (T10.setTop (mkF m 27 #[.val (.int p1), .val (.int p2), .val (.int p3), .val (.int p4), .val (.int p5), .val (.int p6), .val (.ref b1), .unset, .unset, .unset, .unset, .unset, .unset] [(.int p4), (.int (3 : Int32)), (.ref b1)]))
  refine OGo.to (fun _ k => XS.i2b X10.here hx rfl (hb hby at_27) rfl k) ?_
  show OGo p e below _ (T10.setTop (mkF m 28 #[.val (.int p1), .val (.int p2), .val (.int p3), .val (.int p4), .val (.int p5), .val (.int p6), .val (.ref b1), .unset, .unset, .unset, .unset, .unset, .unset] [(.int (p4.toInt8.toInt32)), (.int (3 : Int32)), (.ref b1)]))
  have Vq12 := V10
  obtain ⟨cl12, Ar12, q12, S12, M12, Hs12, G12⟩ := Vq12
  have hin13 : ¬ ((3 : Int32) < 0 ∨ cl12.slots.size ≤ ((3 : Int32)).toNatClampNeg) := inb_of S12 ⟨by decide, by decide⟩
  obtain ⟨T13, h13, X13, e13, W13, st13⟩ := stB X10 hx hZ e10 Ar12 (j := (3 : Int32)) hin13 (g := (mkF m 28 #[.val (.int p1), .val (.int p2), .val (.int p3), .val (.int p4), .val (.int p5), .val (.int p6), .val (.ref b1), .unset, .unset, .unset, .unset, .unset, .unset] [(.int (p4.toInt8.toInt32)), (.int (3 : Int32)), (.ref b1)])) rfl rfl (hb hby at_28)
  refine OGo.to st13 ?_
  have V13 : Arv Z h13 b1 k1 .byte (4 : Int32) [(.int ((p1.toInt8.toInt32)).toInt8.toInt32), (.int ((p2.toInt8.toInt32)).toInt8.toInt32), (.int ((p3.toInt8.toInt32)).toInt8.toInt32), (.int ((p4.toInt8.toInt32)).toInt8.toInt32)] (.int (0 : Int32)) := Arv.set Ar12 q12 S12 M12 Hs12 G12 (fits_nar_byte _) W13 3 rfl (Nat.le_of_ble_eq_true rfl)
  have N13 := Fr.snoc X13 N10 g_b1
  have z14 : n0 ≤ h13.size := Nat.le_trans z11 (Keep.of_wr W13).1
  show OGo p e below _ (T13.setTop (mkF m 29 #[.val (.int p1), .val (.int p2), .val (.int p3), .val (.int p4), .val (.int p5), .val (.int p6), .val (.ref b1), .unset, .unset, .unset, .unset, .unset, .unset] []))
  refine OGo.to (fun _ k => XS.iload X13.here hx rfl (hb hby at_29) rfl k) ?_
  show OGo p e below _ (T13.setTop (mkF m 31 #[.val (.int p1), .val (.int p2), .val (.int p3), .val (.int p4), .val (.int p5), .val (.int p6), .val (.ref b1), .unset, .unset, .unset, .unset, .unset, .unset] [(.int p5)]))
  refine OGo.to (fun _ k => X13.ldcInt hx hown (mvT hZ (hw _ (List.mem_of_getElem? (i := 1) rfl))) (g := (mkF m 31 #[.val (.int p1), .val (.int p2), .val (.int p3), .val (.int p4), .val (.int p5), .val (.int p6), .val (.ref b1), .unset, .unset, .unset, .unset, .unset, .unset] [(.int p5)])) rfl (hb hby at_31) _ k) ?_
  show OGo p e below _ (T13.setTop (mkF m 33 #[.val (.int p1), .val (.int p2), .val (.int p3), .val (.int p4), .val (.int p5), .val (.int p6), .val (.ref b1), .unset, .unset, .unset, .unset, .unset, .unset] [(.int (2147483647 : Int32)), (.int p5)]))
  refine OGo.to (fun _ k => XS.iand X13.here hx rfl (hb hby at_33) rfl k) ?_
  show OGo p e below _ (T13.setTop (mkF m 34 #[.val (.int p1), .val (.int p2), .val (.int p3), .val (.int p4), .val (.int p5), .val (.int p6), .val (.ref b1), .unset, .unset, .unset, .unset, .unset, .unset] [(.int (p5 &&& (2147483647 : Int32)))]))
  refine OGo.to (fun _ k => XS.iconst X13.here hx rfl (hb hby at_34) k) ?_
  show OGo p e below _ (T13.setTop (mkF m 35 #[.val (.int p1), .val (.int p2), .val (.int p3), .val (.int p4), .val (.int p5), .val (.int p6), .val (.ref b1), .unset, .unset, .unset, .unset, .unset, .unset] [(.int (5 : Int32)), (.int (p5 &&& (2147483647 : Int32)))]))
  have hnz35_15 : (5 : Int32) ≠ (0 : Int32) := by decide
  refine OGo.to (fun _ k => iremM X13 hx rfl (hb hby at_35) rfl hnz35_15 k) ?_
  show OGo p e below _ (T13.setTop (mkF m 36 #[.val (.int p1), .val (.int p2), .val (.int p3), .val (.int p4), .val (.int p5), .val (.int p6), .val (.ref b1), .unset, .unset, .unset, .unset, .unset, .unset] [(.int ((p5 &&& (2147483647 : Int32)) % (5 : Int32)))]))
  obtain ⟨sv, hv_sv⟩ : ∃ z : Int32, z = ((p5 &&& (2147483647 : Int32)) % (5 : Int32)) := ⟨_, rfl⟩
  rw [← hv_sv]
  refine OGo.to (fun _ k => XS.istore X13.here hx rfl (hb hby at_36) rfl (l' := #[.val (.int p1), .val (.int p2), .val (.int p3), .val (.int p4), .val (.int p5), .val (.int p6), .val (.ref b1), .val (.int sv), .unset, .unset, .unset, .unset, .unset]) rfl k) ?_
  show OGo p e below _ (T13.setTop (mkF m 38 #[.val (.int p1), .val (.int p2), .val (.int p3), .val (.int p4), .val (.int p5), .val (.int p6), .val (.ref b1), .val (.int sv), .unset, .unset, .unset, .unset, .unset] []))
  have bd0 := own_rem p5 (5 : Int32) (by decide)
  rw [← hv_sv] at bd0
  have d0 := own_sub (5 : Int32) sv (by decide) bd0.1 (Int.le_of_lt bd0.2)
  refine OGo.to (fun _ k => XS.iload X13.here hx rfl (hb hby at_38) rfl k) ?_
  show OGo p e below _ (T13.setTop (mkF m 40 #[.val (.int p1), .val (.int p2), .val (.int p3), .val (.int p4), .val (.int p5), .val (.int p6), .val (.ref b1), .val (.int sv), .unset, .unset, .unset, .unset, .unset] [(.int p6)]))
  refine OGo.to (fun _ k => X13.ldcInt hx hown (mvT hZ (hw _ (List.mem_of_getElem? (i := 1) rfl))) (g := (mkF m 40 #[.val (.int p1), .val (.int p2), .val (.int p3), .val (.int p4), .val (.int p5), .val (.int p6), .val (.ref b1), .val (.int sv), .unset, .unset, .unset, .unset, .unset] [(.int p6)])) rfl (hb hby at_40) _ k) ?_
  show OGo p e below _ (T13.setTop (mkF m 42 #[.val (.int p1), .val (.int p2), .val (.int p3), .val (.int p4), .val (.int p5), .val (.int p6), .val (.ref b1), .val (.int sv), .unset, .unset, .unset, .unset, .unset] [(.int (2147483647 : Int32)), (.int p6)]))
  refine OGo.to (fun _ k => XS.iand X13.here hx rfl (hb hby at_42) rfl k) ?_
  show OGo p e below _ (T13.setTop (mkF m 43 #[.val (.int p1), .val (.int p2), .val (.int p3), .val (.int p4), .val (.int p5), .val (.int p6), .val (.ref b1), .val (.int sv), .unset, .unset, .unset, .unset, .unset] [(.int (p6 &&& (2147483647 : Int32)))]))
  refine OGo.to (fun _ k => XS.iconst X13.here hx rfl (hb hby at_43) k) ?_
  show OGo p e below _ (T13.setTop (mkF m 44 #[.val (.int p1), .val (.int p2), .val (.int p3), .val (.int p4), .val (.int p5), .val (.int p6), .val (.ref b1), .val (.int sv), .unset, .unset, .unset, .unset, .unset] [(.int (5 : Int32)), (.int (p6 &&& (2147483647 : Int32)))]))
  refine OGo.to (fun _ k => XS.iload X13.here hx rfl (hb hby at_44) rfl k) ?_
  show OGo p e below _ (T13.setTop (mkF m 46 #[.val (.int p1), .val (.int p2), .val (.int p3), .val (.int p4), .val (.int p5), .val (.int p6), .val (.ref b1), .val (.int sv), .unset, .unset, .unset, .unset, .unset] [(.int sv), (.int (5 : Int32)), (.int (p6 &&& (2147483647 : Int32)))]))
  refine OGo.to (fun _ k => XS.isub X13.here hx rfl (hb hby at_46) rfl k) ?_
  show OGo p e below _ (T13.setTop (mkF m 47 #[.val (.int p1), .val (.int p2), .val (.int p3), .val (.int p4), .val (.int p5), .val (.int p6), .val (.ref b1), .val (.int sv), .unset, .unset, .unset, .unset, .unset] [(.int ((5 : Int32) - sv)), (.int (p6 &&& (2147483647 : Int32)))]))
  have hnz47_16 : ((5 : Int32) - sv) ≠ (0 : Int32) := own_ne0 (by rw [d0]; exact own_pos bd0.2)
  refine OGo.to (fun _ k => iremM X13 hx rfl (hb hby at_47) rfl hnz47_16 k) ?_
  show OGo p e below _ (T13.setTop (mkF m 48 #[.val (.int p1), .val (.int p2), .val (.int p3), .val (.int p4), .val (.int p5), .val (.int p6), .val (.ref b1), .val (.int sv), .unset, .unset, .unset, .unset, .unset] [(.int ((p6 &&& (2147483647 : Int32)) % ((5 : Int32) - sv)))]))
  obtain ⟨ln, hv_ln⟩ : ∃ z : Int32, z = ((p6 &&& (2147483647 : Int32)) % ((5 : Int32) - sv)) := ⟨_, rfl⟩
  rw [← hv_ln]
  refine OGo.to (fun _ k => XS.istore X13.here hx rfl (hb hby at_48) rfl (l' := #[.val (.int p1), .val (.int p2), .val (.int p3), .val (.int p4), .val (.int p5), .val (.int p6), .val (.ref b1), .val (.int sv), .val (.int ln), .unset, .unset, .unset, .unset]) rfl k) ?_
  show OGo p e below _ (T13.setTop (mkF m 50 #[.val (.int p1), .val (.int p2), .val (.int p3), .val (.int p4), .val (.int p5), .val (.int p6), .val (.ref b1), .val (.int sv), .val (.int ln), .unset, .unset, .unset, .unset] []))
  refine OGo.to (fun _ k => XS.iload X13.here hx rfl (hb hby at_50) rfl k) ?_
  show OGo p e below _ (T13.setTop (mkF m 52 #[.val (.int p1), .val (.int p2), .val (.int p3), .val (.int p4), .val (.int p5), .val (.int p6), .val (.ref b1), .val (.int sv), .val (.int ln), .unset, .unset, .unset, .unset] [(.int sv)]))
  refine OGo.to (fun _ k => XS.iload X13.here hx rfl (hb hby at_52) rfl k) ?_
  show OGo p e below _ (T13.setTop (mkF m 54 #[.val (.int p1), .val (.int p2), .val (.int p3), .val (.int p4), .val (.int p5), .val (.int p6), .val (.ref b1), .val (.int sv), .val (.int ln), .unset, .unset, .unset, .unset] [(.int ln), (.int sv)]))
  refine OGo.to (fun _ k => XS.iadd X13.here hx rfl (hb hby at_54) rfl k) ?_
  show OGo p e below _ (T13.setTop (mkF m 55 #[.val (.int p1), .val (.int p2), .val (.int p3), .val (.int p4), .val (.int p5), .val (.int p6), .val (.ref b1), .val (.int sv), .val (.int ln), .unset, .unset, .unset, .unset] [(.int (sv + ln))]))
  obtain ⟨en, hv_en⟩ : ∃ z : Int32, z = (sv + ln) := ⟨_, rfl⟩
  rw [← hv_en]
  refine OGo.to (fun _ k => XS.istore X13.here hx rfl (hb hby at_55) rfl (l' := #[.val (.int p1), .val (.int p2), .val (.int p3), .val (.int p4), .val (.int p5), .val (.int p6), .val (.ref b1), .val (.int sv), .val (.int ln), .val (.int en), .unset, .unset, .unset]) rfl k) ?_
  show OGo p e below _ (T13.setTop (mkF m 57 #[.val (.int p1), .val (.int p2), .val (.int p3), .val (.int p4), .val (.int p5), .val (.int p6), .val (.ref b1), .val (.int sv), .val (.int ln), .val (.int en), .unset, .unset, .unset] []))
  have bd1 := own_rem p6 ((5 : Int32) - sv) (by rw [d0]; exact own_pos bd0.2)
  rw [← hv_ln] at bd1
  have r1 : own_rng sv en := by rw [hv_en]; exact own_rng1 bd0 d0 bd1
  refine OGo.to (fun _ k => XS.aload X13.here hx rfl (hb hby at_57) rfl rfl k) ?_
  show OGo p e below _ (T13.setTop (mkF m 59 #[.val (.int p1), .val (.int p2), .val (.int p3), .val (.int p4), .val (.int p5), .val (.int p6), .val (.ref b1), .val (.int sv), .val (.int ln), .val (.int en), .unset, .unset, .unset] [(.ref b1)]))
  refine OGo.to (fun _ k => XS.iconst X13.here hx rfl (hb hby at_59) k) ?_
  show OGo p e below _ (T13.setTop (mkF m 60 #[.val (.int p1), .val (.int p2), .val (.int p3), .val (.int p4), .val (.int p5), .val (.int p6), .val (.ref b1), .val (.int sv), .val (.int ln), .val (.int en), .unset, .unset, .unset] [(.int (0 : Int32)), (.ref b1)]))
  refine OGo.to (fun _ k => XS.iload X13.here hx rfl (hb hby at_60) rfl k) ?_
  show OGo p e below _ (T13.setTop (mkF m 62 #[.val (.int p1), .val (.int p2), .val (.int p3), .val (.int p4), .val (.int p5), .val (.int p6), .val (.ref b1), .val (.int sv), .val (.int ln), .val (.int en), .unset, .unset, .unset] [(.int sv), (.int (0 : Int32)), (.ref b1)]))
  refine OGo.to (fun _ k => XS.iload X13.here hx rfl (hb hby at_62) rfl k) ?_
  show OGo p e below _ (T13.setTop (mkF m 64 #[.val (.int p1), .val (.int p2), .val (.int p3), .val (.int p4), .val (.int p5), .val (.int p6), .val (.ref b1), .val (.int sv), .val (.int ln), .val (.int en), .unset, .unset, .unset] [(.int en), (.int sv), (.int (0 : Int32)), (.ref b1)]))
  obtain ⟨_, T17, Lc17, X17, hQ17, st17⟩ := own_un X13 (Q := Qt0 Z b1 sv en k1 ((p1.toInt8.toInt32)).toInt8.toInt32 ((p2.toInt8.toInt32)).toInt8.toInt32 ((p3.toInt8.toInt32)).toInt8.toInt32 ((p4.toInt8.toInt32)).toInt8.toInt32 h13 n0) (rc := 0) (rs := 0) (W := fun v B => ∀ target, Steps p.tables e below (B.setTop { (mkF m 64 #[.val (.int p1), .val (.int p2), .val (.int p3), .val (.int p4), .val (.int p5), .val (.int p6), .val (.ref b1), .val (.int sv), .val (.int ln), .val (.int en), .unset, .unset, .unset] [(.int en), (.int sv), (.int (0 : Int32)), (.ref b1)]) with pc := 67, stack := v.toList ++ [] }) target → Steps p.tables e below (T13.setTop (mkF m 64 #[.val (.int p1), .val (.int p2), .val (.int p3), .val (.int p4), .val (.int p5), .val (.int p6), .val (.ref b1), .val (.int sv), .val (.int ln), .val (.int en), .unset, .unset, .unset] [(.int en), (.int sv), (.int (0 : Int32)), (.ref b1)])) target) <| Jvm.LawKit.callS X13 hx (y := (⟨"com/example/querytrail/querytrail/trec/IndexTableHashPinLaw", "term", "([BIII)I"⟩ : MethodName)) hown (mvT hZ (hw _ (List.mem_of_getElem? (i := 2) rfl))) (mvT hZ (hw _ (List.mem_of_getElem? (i := 3) rfl))) (mvT hZ (hw _ (List.mem_of_getElem? (i := 4) rfl))) (mvT hZ (hw _ (List.mem_of_getElem? (i := 5) rfl))) (by decide) (backOf (W := 0) (rmt0 l Z a0 hw [] b1 sv en k1 ((p1.toInt8.toInt32)).toInt8.toInt32 ((p2.toInt8.toInt32)).toInt8.toInt32 ((p3.toInt8.toInt32)).toInt8.toInt32 ((p4.toInt8.toInt32)).toInt8.toInt32 h13 n0 z14 V13) hZ (hw _ (List.mem_of_getElem? (i := 5) rfl)) (hw _ (List.mem_of_getElem? (i := 4) rfl)) (by decide) (by decide)) (g := (mkF m 64 #[.val (.int p1), .val (.int p2), .val (.int p3), .val (.int p4), .val (.int p5), .val (.int p6), .val (.ref b1), .val (.int sv), .val (.int ln), .val (.int en), .unset, .unset, .unset] [(.int en), (.int sv), (.int (0 : Int32)), (.ref b1)])) rfl (by rw [hml]; rfl) (argsL := [(.ref b1), (.int (0 : Int32)), (.int sv), (.int en)]) (rest := []) (lenOf pd_1 rfl) rfl (by show 2 * 0 + _ ≤ _; exact Nat.le_of_eq rfl) (hb hby at_64) (fun _ _ => ⟨rfl, e13, (by decide : 1 + 0 ≤ _), (by decide : 4 + 0 ≤ _)⟩)
  obtain ⟨rfl, N17q, e17⟩ := hQ17
  have N17 := Fr.app N13 N17q
  refine OGo.to st17 ?_
  show OGo p e below _ (T17.setTop (mkF m 67 #[.val (.int p1), .val (.int p2), .val (.int p3), .val (.int p4), .val (.int p5), .val (.int p6), .val (.ref b1), .val (.int sv), .val (.int ln), .val (.int en), .unset, .unset, .unset] [(.int (own_term ((p1.toInt8.toInt32)).toInt8.toInt32 (0 : Int32) sv en))]))
  refine OGo.to (fun _ k => XS.aload X17.here hx rfl (hb hby at_67) rfl rfl k) ?_
  show OGo p e below _ (T17.setTop (mkF m 69 #[.val (.int p1), .val (.int p2), .val (.int p3), .val (.int p4), .val (.int p5), .val (.int p6), .val (.ref b1), .val (.int sv), .val (.int ln), .val (.int en), .unset, .unset, .unset] [(.ref b1), (.int (own_term ((p1.toInt8.toInt32)).toInt8.toInt32 (0 : Int32) sv en))]))
  refine OGo.to (fun _ k => XS.iconst X17.here hx rfl (hb hby at_69) k) ?_
  show OGo p e below _ (T17.setTop (mkF m 70 #[.val (.int p1), .val (.int p2), .val (.int p3), .val (.int p4), .val (.int p5), .val (.int p6), .val (.ref b1), .val (.int sv), .val (.int ln), .val (.int en), .unset, .unset, .unset] [(.int (1 : Int32)), (.ref b1), (.int (own_term ((p1.toInt8.toInt32)).toInt8.toInt32 (0 : Int32) sv en))]))
  refine OGo.to (fun _ k => XS.iload X17.here hx rfl (hb hby at_70) rfl k) ?_
  show OGo p e below _ (T17.setTop (mkF m 72 #[.val (.int p1), .val (.int p2), .val (.int p3), .val (.int p4), .val (.int p5), .val (.int p6), .val (.ref b1), .val (.int sv), .val (.int ln), .val (.int en), .unset, .unset, .unset] [(.int sv), (.int (1 : Int32)), (.ref b1), (.int (own_term ((p1.toInt8.toInt32)).toInt8.toInt32 (0 : Int32) sv en))]))
  refine OGo.to (fun _ k => XS.iload X17.here hx rfl (hb hby at_72) rfl k) ?_
  show OGo p e below _ (T17.setTop (mkF m 74 #[.val (.int p1), .val (.int p2), .val (.int p3), .val (.int p4), .val (.int p5), .val (.int p6), .val (.ref b1), .val (.int sv), .val (.int ln), .val (.int en), .unset, .unset, .unset] [(.int en), (.int sv), (.int (1 : Int32)), (.ref b1), (.int (own_term ((p1.toInt8.toInt32)).toInt8.toInt32 (0 : Int32) sv en))]))
  obtain ⟨_, T18, Lc18, X18, hQ18, st18⟩ := own_un X17 (Q := Qt1 Z b1 sv en k1 ((p1.toInt8.toInt32)).toInt8.toInt32 ((p2.toInt8.toInt32)).toInt8.toInt32 ((p3.toInt8.toInt32)).toInt8.toInt32 ((p4.toInt8.toInt32)).toInt8.toInt32 h13 n0) (rc := 0) (rs := 0) (W := fun v B => ∀ target, Steps p.tables e below (B.setTop { (mkF m 74 #[.val (.int p1), .val (.int p2), .val (.int p3), .val (.int p4), .val (.int p5), .val (.int p6), .val (.ref b1), .val (.int sv), .val (.int ln), .val (.int en), .unset, .unset, .unset] [(.int en), (.int sv), (.int (1 : Int32)), (.ref b1), (.int (own_term ((p1.toInt8.toInt32)).toInt8.toInt32 (0 : Int32) sv en))]) with pc := 77, stack := v.toList ++ [(.int (own_term ((p1.toInt8.toInt32)).toInt8.toInt32 (0 : Int32) sv en))] }) target → Steps p.tables e below (T17.setTop (mkF m 74 #[.val (.int p1), .val (.int p2), .val (.int p3), .val (.int p4), .val (.int p5), .val (.int p6), .val (.ref b1), .val (.int sv), .val (.int ln), .val (.int en), .unset, .unset, .unset] [(.int en), (.int sv), (.int (1 : Int32)), (.ref b1), (.int (own_term ((p1.toInt8.toInt32)).toInt8.toInt32 (0 : Int32) sv en))])) target) <| Jvm.LawKit.callS X17 hx (y := (⟨"com/example/querytrail/querytrail/trec/IndexTableHashPinLaw", "term", "([BIII)I"⟩ : MethodName)) hown (mvT hZ (hw _ (List.mem_of_getElem? (i := 2) rfl))) (mvT hZ (hw _ (List.mem_of_getElem? (i := 3) rfl))) (mvT hZ (hw _ (List.mem_of_getElem? (i := 4) rfl))) (mvT hZ (hw _ (List.mem_of_getElem? (i := 5) rfl))) (by decide) (backOf (W := 1) (rmt1 l Z a0 hw [] b1 sv en k1 ((p1.toInt8.toInt32)).toInt8.toInt32 ((p2.toInt8.toInt32)).toInt8.toInt32 ((p3.toInt8.toInt32)).toInt8.toInt32 ((p4.toInt8.toInt32)).toInt8.toInt32 h13 n0 z14 V13) hZ (hw _ (List.mem_of_getElem? (i := 5) rfl)) (hw _ (List.mem_of_getElem? (i := 4) rfl)) (by decide) (by decide)) (g := (mkF m 74 #[.val (.int p1), .val (.int p2), .val (.int p3), .val (.int p4), .val (.int p5), .val (.int p6), .val (.ref b1), .val (.int sv), .val (.int ln), .val (.int en), .unset, .unset, .unset] [(.int en), (.int sv), (.int (1 : Int32)), (.ref b1), (.int (own_term ((p1.toInt8.toInt32)).toInt8.toInt32 (0 : Int32) sv en))])) rfl (by rw [hml]; rfl) (argsL := [(.ref b1), (.int (1 : Int32)), (.int sv), (.int en)]) (rest := [(.int (own_term ((p1.toInt8.toInt32)).toInt8.toInt32 (0 : Int32) sv en))]) (lenOf pd_1 rfl) rfl (by show 2 * 0 + _ ≤ _; exact Nat.le_of_eq rfl) (hb hby at_74) (fun _ _ => ⟨rfl, e17, (by decide : 1 + 0 ≤ _), (by decide : 4 + 0 ≤ _)⟩)
  obtain ⟨rfl, N18q, e18⟩ := hQ18
  have N18 := Fr.app N17 N18q
  refine OGo.to st18 ?_
  show OGo p e below _ (T18.setTop (mkF m 77 #[.val (.int p1), .val (.int p2), .val (.int p3), .val (.int p4), .val (.int p5), .val (.int p6), .val (.ref b1), .val (.int sv), .val (.int ln), .val (.int en), .unset, .unset, .unset] [(.int (own_term ((p2.toInt8.toInt32)).toInt8.toInt32 (1 : Int32) sv en)), (.int (own_term ((p1.toInt8.toInt32)).toInt8.toInt32 (0 : Int32) sv en))]))
  refine OGo.to (fun _ k => XS.iadd X18.here hx rfl (hb hby at_77) rfl k) ?_
  show OGo p e below _ (T18.setTop (mkF m 78 #[.val (.int p1), .val (.int p2), .val (.int p3), .val (.int p4), .val (.int p5), .val (.int p6), .val (.ref b1), .val (.int sv), .val (.int ln), .val (.int en), .unset, .unset, .unset] [(.int ((own_term ((p1.toInt8.toInt32)).toInt8.toInt32 (0 : Int32) sv en) + (own_term ((p2.toInt8.toInt32)).toInt8.toInt32 (1 : Int32) sv en)))]))
  refine OGo.to (fun _ k => XS.aload X18.here hx rfl (hb hby at_78) rfl rfl k) ?_
  show OGo p e below _ (T18.setTop (mkF m 80 #[.val (.int p1), .val (.int p2), .val (.int p3), .val (.int p4), .val (.int p5), .val (.int p6), .val (.ref b1), .val (.int sv), .val (.int ln), .val (.int en), .unset, .unset, .unset] [(.ref b1), (.int ((own_term ((p1.toInt8.toInt32)).toInt8.toInt32 (0 : Int32) sv en) + (own_term ((p2.toInt8.toInt32)).toInt8.toInt32 (1 : Int32) sv en)))]))
  refine OGo.to (fun _ k => XS.iconst X18.here hx rfl (hb hby at_80) k) ?_
  show OGo p e below _ (T18.setTop (mkF m 81 #[.val (.int p1), .val (.int p2), .val (.int p3), .val (.int p4), .val (.int p5), .val (.int p6), .val (.ref b1), .val (.int sv), .val (.int ln), .val (.int en), .unset, .unset, .unset] [(.int (2 : Int32)), (.ref b1), (.int ((own_term ((p1.toInt8.toInt32)).toInt8.toInt32 (0 : Int32) sv en) + (own_term ((p2.toInt8.toInt32)).toInt8.toInt32 (1 : Int32) sv en)))]))
  refine OGo.to (fun _ k => XS.iload X18.here hx rfl (hb hby at_81) rfl k) ?_
  show OGo p e below _ (T18.setTop (mkF m 83 #[.val (.int p1), .val (.int p2), .val (.int p3), .val (.int p4), .val (.int p5), .val (.int p6), .val (.ref b1), .val (.int sv), .val (.int ln), .val (.int en), .unset, .unset, .unset] [(.int sv), (.int (2 : Int32)), (.ref b1), (.int ((own_term ((p1.toInt8.toInt32)).toInt8.toInt32 (0 : Int32) sv en) + (own_term ((p2.toInt8.toInt32)).toInt8.toInt32 (1 : Int32) sv en)))]))
  refine OGo.to (fun _ k => XS.iload X18.here hx rfl (hb hby at_83) rfl k) ?_
  show OGo p e below _ (T18.setTop (mkF m 85 #[.val (.int p1), .val (.int p2), .val (.int p3), .val (.int p4), .val (.int p5), .val (.int p6), .val (.ref b1), .val (.int sv), .val (.int ln), .val (.int en), .unset, .unset, .unset] [(.int en), (.int sv), (.int (2 : Int32)), (.ref b1), (.int ((own_term ((p1.toInt8.toInt32)).toInt8.toInt32 (0 : Int32) sv en) + (own_term ((p2.toInt8.toInt32)).toInt8.toInt32 (1 : Int32) sv en)))]))
  obtain ⟨_, T19, Lc19, X19, hQ19, st19⟩ := own_un X18 (Q := Qt2 Z b1 sv en k1 ((p1.toInt8.toInt32)).toInt8.toInt32 ((p2.toInt8.toInt32)).toInt8.toInt32 ((p3.toInt8.toInt32)).toInt8.toInt32 ((p4.toInt8.toInt32)).toInt8.toInt32 h13 n0) (rc := 0) (rs := 0) (W := fun v B => ∀ target, Steps p.tables e below (B.setTop { (mkF m 85 #[.val (.int p1), .val (.int p2), .val (.int p3), .val (.int p4), .val (.int p5), .val (.int p6), .val (.ref b1), .val (.int sv), .val (.int ln), .val (.int en), .unset, .unset, .unset] [(.int en), (.int sv), (.int (2 : Int32)), (.ref b1), (.int ((own_term ((p1.toInt8.toInt32)).toInt8.toInt32 (0 : Int32) sv en) + (own_term ((p2.toInt8.toInt32)).toInt8.toInt32 (1 : Int32) sv en)))]) with pc := 88, stack := v.toList ++ [(.int ((own_term ((p1.toInt8.toInt32)).toInt8.toInt32 (0 : Int32) sv en) + (own_term ((p2.toInt8.toInt32)).toInt8.toInt32 (1 : Int32) sv en)))] }) target → Steps p.tables e below (T18.setTop (mkF m 85 #[.val (.int p1), .val (.int p2), .val (.int p3), .val (.int p4), .val (.int p5), .val (.int p6), .val (.ref b1), .val (.int sv), .val (.int ln), .val (.int en), .unset, .unset, .unset] [(.int en), (.int sv), (.int (2 : Int32)), (.ref b1), (.int ((own_term ((p1.toInt8.toInt32)).toInt8.toInt32 (0 : Int32) sv en) + (own_term ((p2.toInt8.toInt32)).toInt8.toInt32 (1 : Int32) sv en)))])) target) <| Jvm.LawKit.callS X18 hx (y := (⟨"com/example/querytrail/querytrail/trec/IndexTableHashPinLaw", "term", "([BIII)I"⟩ : MethodName)) hown (mvT hZ (hw _ (List.mem_of_getElem? (i := 2) rfl))) (mvT hZ (hw _ (List.mem_of_getElem? (i := 3) rfl))) (mvT hZ (hw _ (List.mem_of_getElem? (i := 4) rfl))) (mvT hZ (hw _ (List.mem_of_getElem? (i := 5) rfl))) (by decide) (backOf (W := 1) (rmt2 l Z a0 hw [] b1 sv en k1 ((p1.toInt8.toInt32)).toInt8.toInt32 ((p2.toInt8.toInt32)).toInt8.toInt32 ((p3.toInt8.toInt32)).toInt8.toInt32 ((p4.toInt8.toInt32)).toInt8.toInt32 h13 n0 z14 V13) hZ (hw _ (List.mem_of_getElem? (i := 5) rfl)) (hw _ (List.mem_of_getElem? (i := 4) rfl)) (by decide) (by decide)) (g := (mkF m 85 #[.val (.int p1), .val (.int p2), .val (.int p3), .val (.int p4), .val (.int p5), .val (.int p6), .val (.ref b1), .val (.int sv), .val (.int ln), .val (.int en), .unset, .unset, .unset] [(.int en), (.int sv), (.int (2 : Int32)), (.ref b1), (.int ((own_term ((p1.toInt8.toInt32)).toInt8.toInt32 (0 : Int32) sv en) + (own_term ((p2.toInt8.toInt32)).toInt8.toInt32 (1 : Int32) sv en)))])) rfl (by rw [hml]; rfl) (argsL := [(.ref b1), (.int (2 : Int32)), (.int sv), (.int en)]) (rest := [(.int ((own_term ((p1.toInt8.toInt32)).toInt8.toInt32 (0 : Int32) sv en) + (own_term ((p2.toInt8.toInt32)).toInt8.toInt32 (1 : Int32) sv en)))]) (lenOf pd_1 rfl) rfl (by show 2 * 0 + _ ≤ _; exact Nat.le_of_eq rfl) (hb hby at_85) (fun _ _ => ⟨rfl, e18, (by decide : 1 + 0 ≤ _), (by decide : 4 + 0 ≤ _)⟩)
  obtain ⟨rfl, N19q, e19⟩ := hQ19
  have N19 := Fr.app N18 N19q
  refine OGo.to st19 ?_
  show OGo p e below _ (T19.setTop (mkF m 88 #[.val (.int p1), .val (.int p2), .val (.int p3), .val (.int p4), .val (.int p5), .val (.int p6), .val (.ref b1), .val (.int sv), .val (.int ln), .val (.int en), .unset, .unset, .unset] [(.int (own_term ((p3.toInt8.toInt32)).toInt8.toInt32 (2 : Int32) sv en)), (.int ((own_term ((p1.toInt8.toInt32)).toInt8.toInt32 (0 : Int32) sv en) + (own_term ((p2.toInt8.toInt32)).toInt8.toInt32 (1 : Int32) sv en)))]))
  refine OGo.to (fun _ k => XS.iadd X19.here hx rfl (hb hby at_88) rfl k) ?_
  show OGo p e below _ (T19.setTop (mkF m 89 #[.val (.int p1), .val (.int p2), .val (.int p3), .val (.int p4), .val (.int p5), .val (.int p6), .val (.ref b1), .val (.int sv), .val (.int ln), .val (.int en), .unset, .unset, .unset] [(.int (((own_term ((p1.toInt8.toInt32)).toInt8.toInt32 (0 : Int32) sv en) + (own_term ((p2.toInt8.toInt32)).toInt8.toInt32 (1 : Int32) sv en)) + (own_term ((p3.toInt8.toInt32)).toInt8.toInt32 (2 : Int32) sv en)))]))
  refine OGo.to (fun _ k => XS.aload X19.here hx rfl (hb hby at_89) rfl rfl k) ?_
  show OGo p e below _ (T19.setTop (mkF m 91 #[.val (.int p1), .val (.int p2), .val (.int p3), .val (.int p4), .val (.int p5), .val (.int p6), .val (.ref b1), .val (.int sv), .val (.int ln), .val (.int en), .unset, .unset, .unset] [(.ref b1), (.int (((own_term ((p1.toInt8.toInt32)).toInt8.toInt32 (0 : Int32) sv en) + (own_term ((p2.toInt8.toInt32)).toInt8.toInt32 (1 : Int32) sv en)) + (own_term ((p3.toInt8.toInt32)).toInt8.toInt32 (2 : Int32) sv en)))]))
  refine OGo.to (fun _ k => XS.iconst X19.here hx rfl (hb hby at_91) k) ?_
  show OGo p e below _ (T19.setTop (mkF m 92 #[.val (.int p1), .val (.int p2), .val (.int p3), .val (.int p4), .val (.int p5), .val (.int p6), .val (.ref b1), .val (.int sv), .val (.int ln), .val (.int en), .unset, .unset, .unset] [(.int (3 : Int32)), (.ref b1), (.int (((own_term ((p1.toInt8.toInt32)).toInt8.toInt32 (0 : Int32) sv en) + (own_term ((p2.toInt8.toInt32)).toInt8.toInt32 (1 : Int32) sv en)) + (own_term ((p3.toInt8.toInt32)).toInt8.toInt32 (2 : Int32) sv en)))]))
  refine OGo.to (fun _ k => XS.iload X19.here hx rfl (hb hby at_92) rfl k) ?_
  show OGo p e below _ (T19.setTop (mkF m 94 #[.val (.int p1), .val (.int p2), .val (.int p3), .val (.int p4), .val (.int p5), .val (.int p6), .val (.ref b1), .val (.int sv), .val (.int ln), .val (.int en), .unset, .unset, .unset] [(.int sv), (.int (3 : Int32)), (.ref b1), (.int (((own_term ((p1.toInt8.toInt32)).toInt8.toInt32 (0 : Int32) sv en) + (own_term ((p2.toInt8.toInt32)).toInt8.toInt32 (1 : Int32) sv en)) + (own_term ((p3.toInt8.toInt32)).toInt8.toInt32 (2 : Int32) sv en)))]))
  refine OGo.to (fun _ k => XS.iload X19.here hx rfl (hb hby at_94) rfl k) ?_
  show OGo p e below _ (T19.setTop (mkF m 96 #[.val (.int p1), .val (.int p2), .val (.int p3), .val (.int p4), .val (.int p5), .val (.int p6), .val (.ref b1), .val (.int sv), .val (.int ln), .val (.int en), .unset, .unset, .unset] [(.int en), (.int sv), (.int (3 : Int32)), (.ref b1), (.int (((own_term ((p1.toInt8.toInt32)).toInt8.toInt32 (0 : Int32) sv en) + (own_term ((p2.toInt8.toInt32)).toInt8.toInt32 (1 : Int32) sv en)) + (own_term ((p3.toInt8.toInt32)).toInt8.toInt32 (2 : Int32) sv en)))]))
  obtain ⟨_, T20, Lc20, X20, hQ20, st20⟩ := own_un X19 (Q := Qt3 Z b1 sv en k1 ((p1.toInt8.toInt32)).toInt8.toInt32 ((p2.toInt8.toInt32)).toInt8.toInt32 ((p3.toInt8.toInt32)).toInt8.toInt32 ((p4.toInt8.toInt32)).toInt8.toInt32 h13 n0) (rc := 0) (rs := 0) (W := fun v B => ∀ target, Steps p.tables e below (B.setTop { (mkF m 96 #[.val (.int p1), .val (.int p2), .val (.int p3), .val (.int p4), .val (.int p5), .val (.int p6), .val (.ref b1), .val (.int sv), .val (.int ln), .val (.int en), .unset, .unset, .unset] [(.int en), (.int sv), (.int (3 : Int32)), (.ref b1), (.int (((own_term ((p1.toInt8.toInt32)).toInt8.toInt32 (0 : Int32) sv en) + (own_term ((p2.toInt8.toInt32)).toInt8.toInt32 (1 : Int32) sv en)) + (own_term ((p3.toInt8.toInt32)).toInt8.toInt32 (2 : Int32) sv en)))]) with pc := 99, stack := v.toList ++ [(.int (((own_term ((p1.toInt8.toInt32)).toInt8.toInt32 (0 : Int32) sv en) + (own_term ((p2.toInt8.toInt32)).toInt8.toInt32 (1 : Int32) sv en)) + (own_term ((p3.toInt8.toInt32)).toInt8.toInt32 (2 : Int32) sv en)))] }) target → Steps p.tables e below (T19.setTop (mkF m 96 #[.val (.int p1), .val (.int p2), .val (.int p3), .val (.int p4), .val (.int p5), .val (.int p6), .val (.ref b1), .val (.int sv), .val (.int ln), .val (.int en), .unset, .unset, .unset] [(.int en), (.int sv), (.int (3 : Int32)), (.ref b1), (.int (((own_term ((p1.toInt8.toInt32)).toInt8.toInt32 (0 : Int32) sv en) + (own_term ((p2.toInt8.toInt32)).toInt8.toInt32 (1 : Int32) sv en)) + (own_term ((p3.toInt8.toInt32)).toInt8.toInt32 (2 : Int32) sv en)))])) target) <| Jvm.LawKit.callS X19 hx (y := (⟨"com/example/querytrail/querytrail/trec/IndexTableHashPinLaw", "term", "([BIII)I"⟩ : MethodName)) hown (mvT hZ (hw _ (List.mem_of_getElem? (i := 2) rfl))) (mvT hZ (hw _ (List.mem_of_getElem? (i := 3) rfl))) (mvT hZ (hw _ (List.mem_of_getElem? (i := 4) rfl))) (mvT hZ (hw _ (List.mem_of_getElem? (i := 5) rfl))) (by decide) (backOf (W := 1) (rmt3 l Z a0 hw [] b1 sv en k1 ((p1.toInt8.toInt32)).toInt8.toInt32 ((p2.toInt8.toInt32)).toInt8.toInt32 ((p3.toInt8.toInt32)).toInt8.toInt32 ((p4.toInt8.toInt32)).toInt8.toInt32 h13 n0 z14 V13) hZ (hw _ (List.mem_of_getElem? (i := 5) rfl)) (hw _ (List.mem_of_getElem? (i := 4) rfl)) (by decide) (by decide)) (g := (mkF m 96 #[.val (.int p1), .val (.int p2), .val (.int p3), .val (.int p4), .val (.int p5), .val (.int p6), .val (.ref b1), .val (.int sv), .val (.int ln), .val (.int en), .unset, .unset, .unset] [(.int en), (.int sv), (.int (3 : Int32)), (.ref b1), (.int (((own_term ((p1.toInt8.toInt32)).toInt8.toInt32 (0 : Int32) sv en) + (own_term ((p2.toInt8.toInt32)).toInt8.toInt32 (1 : Int32) sv en)) + (own_term ((p3.toInt8.toInt32)).toInt8.toInt32 (2 : Int32) sv en)))])) rfl (by rw [hml]; rfl) (argsL := [(.ref b1), (.int (3 : Int32)), (.int sv), (.int en)]) (rest := [(.int (((own_term ((p1.toInt8.toInt32)).toInt8.toInt32 (0 : Int32) sv en) + (own_term ((p2.toInt8.toInt32)).toInt8.toInt32 (1 : Int32) sv en)) + (own_term ((p3.toInt8.toInt32)).toInt8.toInt32 (2 : Int32) sv en)))]) (lenOf pd_1 rfl) rfl (by show 2 * 0 + _ ≤ _; exact Nat.le_of_eq rfl) (hb hby at_96) (fun _ _ => ⟨rfl, e19, (by decide : 1 + 0 ≤ _), (by decide : 4 + 0 ≤ _)⟩)
  obtain ⟨rfl, N20q, e20⟩ := hQ20
  have N20 := Fr.app N19 N20q
  refine OGo.to st20 ?_
  show OGo p e below _ (T20.setTop (mkF m 99 #[.val (.int p1), .val (.int p2), .val (.int p3), .val (.int p4), .val (.int p5), .val (.int p6), .val (.ref b1), .val (.int sv), .val (.int ln), .val (.int en), .unset, .unset, .unset] [(.int (own_term ((p4.toInt8.toInt32)).toInt8.toInt32 (3 : Int32) sv en)), (.int (((own_term ((p1.toInt8.toInt32)).toInt8.toInt32 (0 : Int32) sv en) + (own_term ((p2.toInt8.toInt32)).toInt8.toInt32 (1 : Int32) sv en)) + (own_term ((p3.toInt8.toInt32)).toInt8.toInt32 (2 : Int32) sv en)))]))
  refine OGo.to (fun _ k => XS.iadd X20.here hx rfl (hb hby at_99) rfl k) ?_
  show OGo p e below _ (T20.setTop (mkF m 100 #[.val (.int p1), .val (.int p2), .val (.int p3), .val (.int p4), .val (.int p5), .val (.int p6), .val (.ref b1), .val (.int sv), .val (.int ln), .val (.int en), .unset, .unset, .unset] [(.int ((((own_term ((p1.toInt8.toInt32)).toInt8.toInt32 (0 : Int32) sv en) + (own_term ((p2.toInt8.toInt32)).toInt8.toInt32 (1 : Int32) sv en)) + (own_term ((p3.toInt8.toInt32)).toInt8.toInt32 (2 : Int32) sv en)) + (own_term ((p4.toInt8.toInt32)).toInt8.toInt32 (3 : Int32) sv en)))]))
  refine OGo.to (fun _ k => XS.istore X20.here hx rfl (hb hby at_100) rfl (l' := #[.val (.int p1), .val (.int p2), .val (.int p3), .val (.int p4), .val (.int p5), .val (.int p6), .val (.ref b1), .val (.int sv), .val (.int ln), .val (.int en), .val (.int ((((own_term ((p1.toInt8.toInt32)).toInt8.toInt32 (0 : Int32) sv en) + (own_term ((p2.toInt8.toInt32)).toInt8.toInt32 (1 : Int32) sv en)) + (own_term ((p3.toInt8.toInt32)).toInt8.toInt32 (2 : Int32) sv en)) + (own_term ((p4.toInt8.toInt32)).toInt8.toInt32 (3 : Int32) sv en))), .unset, .unset]) rfl k) ?_
  show OGo p e below _ (T20.setTop (mkF m 102 #[.val (.int p1), .val (.int p2), .val (.int p3), .val (.int p4), .val (.int p5), .val (.int p6), .val (.ref b1), .val (.int sv), .val (.int ln), .val (.int en), .val (.int ((((own_term ((p1.toInt8.toInt32)).toInt8.toInt32 (0 : Int32) sv en) + (own_term ((p2.toInt8.toInt32)).toInt8.toInt32 (1 : Int32) sv en)) + (own_term ((p3.toInt8.toInt32)).toInt8.toInt32 (2 : Int32) sv en)) + (own_term ((p4.toInt8.toInt32)).toInt8.toInt32 (3 : Int32) sv en))), .unset, .unset] []))
  refine OGo.to (fun _ k => XS.iload X20.here hx rfl (hb hby at_102) rfl k) ?_
  show OGo p e below _ (T20.setTop (mkF m 104 #[.val (.int p1), .val (.int p2), .val (.int p3), .val (.int p4), .val (.int p5), .val (.int p6), .val (.ref b1), .val (.int sv), .val (.int ln), .val (.int en), .val (.int ((((own_term ((p1.toInt8.toInt32)).toInt8.toInt32 (0 : Int32) sv en) + (own_term ((p2.toInt8.toInt32)).toInt8.toInt32 (1 : Int32) sv en)) + (own_term ((p3.toInt8.toInt32)).toInt8.toInt32 (2 : Int32) sv en)) + (own_term ((p4.toInt8.toInt32)).toInt8.toInt32 (3 : Int32) sv en))), .unset, .unset] [(.int ((((own_term ((p1.toInt8.toInt32)).toInt8.toInt32 (0 : Int32) sv en) + (own_term ((p2.toInt8.toInt32)).toInt8.toInt32 (1 : Int32) sv en)) + (own_term ((p3.toInt8.toInt32)).toInt8.toInt32 (2 : Int32) sv en)) + (own_term ((p4.toInt8.toInt32)).toInt8.toInt32 (3 : Int32) sv en)))]))
  refine OGo.to (fun _ k => X20.ldcInt hx hown (mvT hZ (hw _ (List.mem_of_getElem? (i := 9) rfl))) (g := (mkF m 104 #[.val (.int p1), .val (.int p2), .val (.int p3), .val (.int p4), .val (.int p5), .val (.int p6), .val (.ref b1), .val (.int sv), .val (.int ln), .val (.int en), .val (.int ((((own_term ((p1.toInt8.toInt32)).toInt8.toInt32 (0 : Int32) sv en) + (own_term ((p2.toInt8.toInt32)).toInt8.toInt32 (1 : Int32) sv en)) + (own_term ((p3.toInt8.toInt32)).toInt8.toInt32 (2 : Int32) sv en)) + (own_term ((p4.toInt8.toInt32)).toInt8.toInt32 (3 : Int32) sv en))), .unset, .unset] [(.int ((((own_term ((p1.toInt8.toInt32)).toInt8.toInt32 (0 : Int32) sv en) + (own_term ((p2.toInt8.toInt32)).toInt8.toInt32 (1 : Int32) sv en)) + (own_term ((p3.toInt8.toInt32)).toInt8.toInt32 (2 : Int32) sv en)) + (own_term ((p4.toInt8.toInt32)).toInt8.toInt32 (3 : Int32) sv en)))])) rfl (hb hby at_104) _ k) ?_
  show OGo p e below _ (T20.setTop (mkF m 106 #[.val (.int p1), .val (.int p2), .val (.int p3), .val (.int p4), .val (.int p5), .val (.int p6), .val (.ref b1), .val (.int sv), .val (.int ln), .val (.int en), .val (.int ((((own_term ((p1.toInt8.toInt32)).toInt8.toInt32 (0 : Int32) sv en) + (own_term ((p2.toInt8.toInt32)).toInt8.toInt32 (1 : Int32) sv en)) + (own_term ((p3.toInt8.toInt32)).toInt8.toInt32 (2 : Int32) sv en)) + (own_term ((p4.toInt8.toInt32)).toInt8.toInt32 (3 : Int32) sv en))), .unset, .unset] [(.int (-1640531527 : Int32)), (.int ((((own_term ((p1.toInt8.toInt32)).toInt8.toInt32 (0 : Int32) sv en) + (own_term ((p2.toInt8.toInt32)).toInt8.toInt32 (1 : Int32) sv en)) + (own_term ((p3.toInt8.toInt32)).toInt8.toInt32 (2 : Int32) sv en)) + (own_term ((p4.toInt8.toInt32)).toInt8.toInt32 (3 : Int32) sv en)))]))
  refine OGo.to (fun _ k => XS.imul X20.here hx rfl (hb hby at_106) rfl k) ?_
  show OGo p e below _ (T20.setTop (mkF m 107 #[.val (.int p1), .val (.int p2), .val (.int p3), .val (.int p4), .val (.int p5), .val (.int p6), .val (.ref b1), .val (.int sv), .val (.int ln), .val (.int en), .val (.int ((((own_term ((p1.toInt8.toInt32)).toInt8.toInt32 (0 : Int32) sv en) + (own_term ((p2.toInt8.toInt32)).toInt8.toInt32 (1 : Int32) sv en)) + (own_term ((p3.toInt8.toInt32)).toInt8.toInt32 (2 : Int32) sv en)) + (own_term ((p4.toInt8.toInt32)).toInt8.toInt32 (3 : Int32) sv en))), .unset, .unset] [(.int (((((own_term ((p1.toInt8.toInt32)).toInt8.toInt32 (0 : Int32) sv en) + (own_term ((p2.toInt8.toInt32)).toInt8.toInt32 (1 : Int32) sv en)) + (own_term ((p3.toInt8.toInt32)).toInt8.toInt32 (2 : Int32) sv en)) + (own_term ((p4.toInt8.toInt32)).toInt8.toInt32 (3 : Int32) sv en)) * (-1640531527 : Int32)))]))
  refine OGo.to (fun _ k => XS.istore X20.here hx rfl (hb hby at_107) rfl (l' := #[.val (.int p1), .val (.int p2), .val (.int p3), .val (.int p4), .val (.int p5), .val (.int p6), .val (.ref b1), .val (.int sv), .val (.int ln), .val (.int en), .val (.int ((((own_term ((p1.toInt8.toInt32)).toInt8.toInt32 (0 : Int32) sv en) + (own_term ((p2.toInt8.toInt32)).toInt8.toInt32 (1 : Int32) sv en)) + (own_term ((p3.toInt8.toInt32)).toInt8.toInt32 (2 : Int32) sv en)) + (own_term ((p4.toInt8.toInt32)).toInt8.toInt32 (3 : Int32) sv en))), .val (.int (((((own_term ((p1.toInt8.toInt32)).toInt8.toInt32 (0 : Int32) sv en) + (own_term ((p2.toInt8.toInt32)).toInt8.toInt32 (1 : Int32) sv en)) + (own_term ((p3.toInt8.toInt32)).toInt8.toInt32 (2 : Int32) sv en)) + (own_term ((p4.toInt8.toInt32)).toInt8.toInt32 (3 : Int32) sv en)) * (-1640531527 : Int32))), .unset]) rfl k) ?_
  show OGo p e below _ (T20.setTop (mkF m 109 #[.val (.int p1), .val (.int p2), .val (.int p3), .val (.int p4), .val (.int p5), .val (.int p6), .val (.ref b1), .val (.int sv), .val (.int ln), .val (.int en), .val (.int ((((own_term ((p1.toInt8.toInt32)).toInt8.toInt32 (0 : Int32) sv en) + (own_term ((p2.toInt8.toInt32)).toInt8.toInt32 (1 : Int32) sv en)) + (own_term ((p3.toInt8.toInt32)).toInt8.toInt32 (2 : Int32) sv en)) + (own_term ((p4.toInt8.toInt32)).toInt8.toInt32 (3 : Int32) sv en))), .val (.int (((((own_term ((p1.toInt8.toInt32)).toInt8.toInt32 (0 : Int32) sv en) + (own_term ((p2.toInt8.toInt32)).toInt8.toInt32 (1 : Int32) sv en)) + (own_term ((p3.toInt8.toInt32)).toInt8.toInt32 (2 : Int32) sv en)) + (own_term ((p4.toInt8.toInt32)).toInt8.toInt32 (3 : Int32) sv en)) * (-1640531527 : Int32))), .unset] []))
  refine OGo.to (fun _ k => XS.iload X20.here hx rfl (hb hby at_109) rfl k) ?_
  show OGo p e below _ (T20.setTop (mkF m 111 #[.val (.int p1), .val (.int p2), .val (.int p3), .val (.int p4), .val (.int p5), .val (.int p6), .val (.ref b1), .val (.int sv), .val (.int ln), .val (.int en), .val (.int ((((own_term ((p1.toInt8.toInt32)).toInt8.toInt32 (0 : Int32) sv en) + (own_term ((p2.toInt8.toInt32)).toInt8.toInt32 (1 : Int32) sv en)) + (own_term ((p3.toInt8.toInt32)).toInt8.toInt32 (2 : Int32) sv en)) + (own_term ((p4.toInt8.toInt32)).toInt8.toInt32 (3 : Int32) sv en))), .val (.int (((((own_term ((p1.toInt8.toInt32)).toInt8.toInt32 (0 : Int32) sv en) + (own_term ((p2.toInt8.toInt32)).toInt8.toInt32 (1 : Int32) sv en)) + (own_term ((p3.toInt8.toInt32)).toInt8.toInt32 (2 : Int32) sv en)) + (own_term ((p4.toInt8.toInt32)).toInt8.toInt32 (3 : Int32) sv en)) * (-1640531527 : Int32))), .unset] [(.int (((((own_term ((p1.toInt8.toInt32)).toInt8.toInt32 (0 : Int32) sv en) + (own_term ((p2.toInt8.toInt32)).toInt8.toInt32 (1 : Int32) sv en)) + (own_term ((p3.toInt8.toInt32)).toInt8.toInt32 (2 : Int32) sv en)) + (own_term ((p4.toInt8.toInt32)).toInt8.toInt32 (3 : Int32) sv en)) * (-1640531527 : Int32)))]))
  refine OGo.to (fun _ k => XS.iload X20.here hx rfl (hb hby at_111) rfl k) ?_
  show OGo p e below _ (T20.setTop (mkF m 113 #[.val (.int p1), .val (.int p2), .val (.int p3), .val (.int p4), .val (.int p5), .val (.int p6), .val (.ref b1), .val (.int sv), .val (.int ln), .val (.int en), .val (.int ((((own_term ((p1.toInt8.toInt32)).toInt8.toInt32 (0 : Int32) sv en) + (own_term ((p2.toInt8.toInt32)).toInt8.toInt32 (1 : Int32) sv en)) + (own_term ((p3.toInt8.toInt32)).toInt8.toInt32 (2 : Int32) sv en)) + (own_term ((p4.toInt8.toInt32)).toInt8.toInt32 (3 : Int32) sv en))), .val (.int (((((own_term ((p1.toInt8.toInt32)).toInt8.toInt32 (0 : Int32) sv en) + (own_term ((p2.toInt8.toInt32)).toInt8.toInt32 (1 : Int32) sv en)) + (own_term ((p3.toInt8.toInt32)).toInt8.toInt32 (2 : Int32) sv en)) + (own_term ((p4.toInt8.toInt32)).toInt8.toInt32 (3 : Int32) sv en)) * (-1640531527 : Int32))), .unset] [(.int (((((own_term ((p1.toInt8.toInt32)).toInt8.toInt32 (0 : Int32) sv en) + (own_term ((p2.toInt8.toInt32)).toInt8.toInt32 (1 : Int32) sv en)) + (own_term ((p3.toInt8.toInt32)).toInt8.toInt32 (2 : Int32) sv en)) + (own_term ((p4.toInt8.toInt32)).toInt8.toInt32 (3 : Int32) sv en)) * (-1640531527 : Int32))), (.int (((((own_term ((p1.toInt8.toInt32)).toInt8.toInt32 (0 : Int32) sv en) + (own_term ((p2.toInt8.toInt32)).toInt8.toInt32 (1 : Int32) sv en)) + (own_term ((p3.toInt8.toInt32)).toInt8.toInt32 (2 : Int32) sv en)) + (own_term ((p4.toInt8.toInt32)).toInt8.toInt32 (3 : Int32) sv en)) * (-1640531527 : Int32)))]))
  refine OGo.to (fun _ k => XS.bipush X20.here hx rfl (hb hby at_113) k) ?_
  show OGo p e below _ (T20.setTop (mkF m 115 #[.val (.int p1), .val (.int p2), .val (.int p3), .val (.int p4), .val (.int p5), .val (.int p6), .val (.ref b1), .val (.int sv), .val (.int ln), .val (.int en), .val (.int ((((own_term ((p1.toInt8.toInt32)).toInt8.toInt32 (0 : Int32) sv en) + (own_term ((p2.toInt8.toInt32)).toInt8.toInt32 (1 : Int32) sv en)) + (own_term ((p3.toInt8.toInt32)).toInt8.toInt32 (2 : Int32) sv en)) + (own_term ((p4.toInt8.toInt32)).toInt8.toInt32 (3 : Int32) sv en))), .val (.int (((((own_term ((p1.toInt8.toInt32)).toInt8.toInt32 (0 : Int32) sv en) + (own_term ((p2.toInt8.toInt32)).toInt8.toInt32 (1 : Int32) sv en)) + (own_term ((p3.toInt8.toInt32)).toInt8.toInt32 (2 : Int32) sv en)) + (own_term ((p4.toInt8.toInt32)).toInt8.toInt32 (3 : Int32) sv en)) * (-1640531527 : Int32))), .unset] [(.int (16 : Int32)), (.int (((((own_term ((p1.toInt8.toInt32)).toInt8.toInt32 (0 : Int32) sv en) + (own_term ((p2.toInt8.toInt32)).toInt8.toInt32 (1 : Int32) sv en)) + (own_term ((p3.toInt8.toInt32)).toInt8.toInt32 (2 : Int32) sv en)) + (own_term ((p4.toInt8.toInt32)).toInt8.toInt32 (3 : Int32) sv en)) * (-1640531527 : Int32))), (.int (((((own_term ((p1.toInt8.toInt32)).toInt8.toInt32 (0 : Int32) sv en) + (own_term ((p2.toInt8.toInt32)).toInt8.toInt32 (1 : Int32) sv en)) + (own_term ((p3.toInt8.toInt32)).toInt8.toInt32 (2 : Int32) sv en)) + (own_term ((p4.toInt8.toInt32)).toInt8.toInt32 (3 : Int32) sv en)) * (-1640531527 : Int32)))]))
  refine OGo.to (fun _ k => XS.iushr X20.here hx rfl (hb hby at_115) rfl k) ?_
  show OGo p e below _ (T20.setTop (mkF m 116 #[.val (.int p1), .val (.int p2), .val (.int p3), .val (.int p4), .val (.int p5), .val (.int p6), .val (.ref b1), .val (.int sv), .val (.int ln), .val (.int en), .val (.int ((((own_term ((p1.toInt8.toInt32)).toInt8.toInt32 (0 : Int32) sv en) + (own_term ((p2.toInt8.toInt32)).toInt8.toInt32 (1 : Int32) sv en)) + (own_term ((p3.toInt8.toInt32)).toInt8.toInt32 (2 : Int32) sv en)) + (own_term ((p4.toInt8.toInt32)).toInt8.toInt32 (3 : Int32) sv en))), .val (.int (((((own_term ((p1.toInt8.toInt32)).toInt8.toInt32 (0 : Int32) sv en) + (own_term ((p2.toInt8.toInt32)).toInt8.toInt32 (1 : Int32) sv en)) + (own_term ((p3.toInt8.toInt32)).toInt8.toInt32 (2 : Int32) sv en)) + (own_term ((p4.toInt8.toInt32)).toInt8.toInt32 (3 : Int32) sv en)) * (-1640531527 : Int32))), .unset] [(.int (((((((own_term ((p1.toInt8.toInt32)).toInt8.toInt32 (0 : Int32) sv en) + (own_term ((p2.toInt8.toInt32)).toInt8.toInt32 (1 : Int32) sv en)) + (own_term ((p3.toInt8.toInt32)).toInt8.toInt32 (2 : Int32) sv en)) + (own_term ((p4.toInt8.toInt32)).toInt8.toInt32 (3 : Int32) sv en)) * (-1640531527 : Int32)).toUInt32 >>> ((16 : Int32) &&& 31).toUInt32).toInt32)), (.int (((((own_term ((p1.toInt8.toInt32)).toInt8.toInt32 (0 : Int32) sv en) + (own_term ((p2.toInt8.toInt32)).toInt8.toInt32 (1 : Int32) sv en)) + (own_term ((p3.toInt8.toInt32)).toInt8.toInt32 (2 : Int32) sv en)) + (own_term ((p4.toInt8.toInt32)).toInt8.toInt32 (3 : Int32) sv en)) * (-1640531527 : Int32)))]))
  refine OGo.to (fun _ k => XS.ixor X20.here hx rfl (hb hby at_116) rfl k) ?_
  show OGo p e below _ (T20.setTop (mkF m 117 #[.val (.int p1), .val (.int p2), .val (.int p3), .val (.int p4), .val (.int p5), .val (.int p6), .val (.ref b1), .val (.int sv), .val (.int ln), .val (.int en), .val (.int ((((own_term ((p1.toInt8.toInt32)).toInt8.toInt32 (0 : Int32) sv en) + (own_term ((p2.toInt8.toInt32)).toInt8.toInt32 (1 : Int32) sv en)) + (own_term ((p3.toInt8.toInt32)).toInt8.toInt32 (2 : Int32) sv en)) + (own_term ((p4.toInt8.toInt32)).toInt8.toInt32 (3 : Int32) sv en))), .val (.int (((((own_term ((p1.toInt8.toInt32)).toInt8.toInt32 (0 : Int32) sv en) + (own_term ((p2.toInt8.toInt32)).toInt8.toInt32 (1 : Int32) sv en)) + (own_term ((p3.toInt8.toInt32)).toInt8.toInt32 (2 : Int32) sv en)) + (own_term ((p4.toInt8.toInt32)).toInt8.toInt32 (3 : Int32) sv en)) * (-1640531527 : Int32))), .unset] [(.int ((((((own_term ((p1.toInt8.toInt32)).toInt8.toInt32 (0 : Int32) sv en) + (own_term ((p2.toInt8.toInt32)).toInt8.toInt32 (1 : Int32) sv en)) + (own_term ((p3.toInt8.toInt32)).toInt8.toInt32 (2 : Int32) sv en)) + (own_term ((p4.toInt8.toInt32)).toInt8.toInt32 (3 : Int32) sv en)) * (-1640531527 : Int32)) ^^^ (((((((own_term ((p1.toInt8.toInt32)).toInt8.toInt32 (0 : Int32) sv en) + (own_term ((p2.toInt8.toInt32)).toInt8.toInt32 (1 : Int32) sv en)) + (own_term ((p3.toInt8.toInt32)).toInt8.toInt32 (2 : Int32) sv en)) + (own_term ((p4.toInt8.toInt32)).toInt8.toInt32 (3 : Int32) sv en)) * (-1640531527 : Int32)).toUInt32 >>> ((16 : Int32) &&& 31).toUInt32).toInt32)))]))
  refine OGo.to (fun _ k => XS.istore X20.here hx rfl (hb hby at_117) rfl (l' := #[.val (.int p1), .val (.int p2), .val (.int p3), .val (.int p4), .val (.int p5), .val (.int p6), .val (.ref b1), .val (.int sv), .val (.int ln), .val (.int en), .val (.int ((((own_term ((p1.toInt8.toInt32)).toInt8.toInt32 (0 : Int32) sv en) + (own_term ((p2.toInt8.toInt32)).toInt8.toInt32 (1 : Int32) sv en)) + (own_term ((p3.toInt8.toInt32)).toInt8.toInt32 (2 : Int32) sv en)) + (own_term ((p4.toInt8.toInt32)).toInt8.toInt32 (3 : Int32) sv en))), .val (.int (((((own_term ((p1.toInt8.toInt32)).toInt8.toInt32 (0 : Int32) sv en) + (own_term ((p2.toInt8.toInt32)).toInt8.toInt32 (1 : Int32) sv en)) + (own_term ((p3.toInt8.toInt32)).toInt8.toInt32 (2 : Int32) sv en)) + (own_term ((p4.toInt8.toInt32)).toInt8.toInt32 (3 : Int32) sv en)) * (-1640531527 : Int32))), .val (.int ((((((own_term ((p1.toInt8.toInt32)).toInt8.toInt32 (0 : Int32) sv en) + (own_term ((p2.toInt8.toInt32)).toInt8.toInt32 (1 : Int32) sv en)) + (own_term ((p3.toInt8.toInt32)).toInt8.toInt32 (2 : Int32) sv en)) + (own_term ((p4.toInt8.toInt32)).toInt8.toInt32 (3 : Int32) sv en)) * (-1640531527 : Int32)) ^^^ (((((((own_term ((p1.toInt8.toInt32)).toInt8.toInt32 (0 : Int32) sv en) + (own_term ((p2.toInt8.toInt32)).toInt8.toInt32 (1 : Int32) sv en)) + (own_term ((p3.toInt8.toInt32)).toInt8.toInt32 (2 : Int32) sv en)) + (own_term ((p4.toInt8.toInt32)).toInt8.toInt32 (3 : Int32) sv en)) * (-1640531527 : Int32)).toUInt32 >>> ((16 : Int32) &&& 31).toUInt32).toInt32)))]) rfl k) ?_
  show OGo p e below _ (T20.setTop (mkF m 119 #[.val (.int p1), .val (.int p2), .val (.int p3), .val (.int p4), .val (.int p5), .val (.int p6), .val (.ref b1), .val (.int sv), .val (.int ln), .val (.int en), .val (.int ((((own_term ((p1.toInt8.toInt32)).toInt8.toInt32 (0 : Int32) sv en) + (own_term ((p2.toInt8.toInt32)).toInt8.toInt32 (1 : Int32) sv en)) + (own_term ((p3.toInt8.toInt32)).toInt8.toInt32 (2 : Int32) sv en)) + (own_term ((p4.toInt8.toInt32)).toInt8.toInt32 (3 : Int32) sv en))), .val (.int (((((own_term ((p1.toInt8.toInt32)).toInt8.toInt32 (0 : Int32) sv en) + (own_term ((p2.toInt8.toInt32)).toInt8.toInt32 (1 : Int32) sv en)) + (own_term ((p3.toInt8.toInt32)).toInt8.toInt32 (2 : Int32) sv en)) + (own_term ((p4.toInt8.toInt32)).toInt8.toInt32 (3 : Int32) sv en)) * (-1640531527 : Int32))), .val (.int ((((((own_term ((p1.toInt8.toInt32)).toInt8.toInt32 (0 : Int32) sv en) + (own_term ((p2.toInt8.toInt32)).toInt8.toInt32 (1 : Int32) sv en)) + (own_term ((p3.toInt8.toInt32)).toInt8.toInt32 (2 : Int32) sv en)) + (own_term ((p4.toInt8.toInt32)).toInt8.toInt32 (3 : Int32) sv en)) * (-1640531527 : Int32)) ^^^ (((((((own_term ((p1.toInt8.toInt32)).toInt8.toInt32 (0 : Int32) sv en) + (own_term ((p2.toInt8.toInt32)).toInt8.toInt32 (1 : Int32) sv en)) + (own_term ((p3.toInt8.toInt32)).toInt8.toInt32 (2 : Int32) sv en)) + (own_term ((p4.toInt8.toInt32)).toInt8.toInt32 (3 : Int32) sv en)) * (-1640531527 : Int32)).toUInt32 >>> ((16 : Int32) &&& 31).toUInt32).toInt32)))] []))
  refine OGo.to (fun _ k => XS.aload X20.here hx rfl (hb hby at_119) rfl rfl k) ?_
  show OGo p e below _ (T20.setTop (mkF m 121 #[.val (.int p1), .val (.int p2), .val (.int p3), .val (.int p4), .val (.int p5), .val (.int p6), .val (.ref b1), .val (.int sv), .val (.int ln), .val (.int en), .val (.int ((((own_term ((p1.toInt8.toInt32)).toInt8.toInt32 (0 : Int32) sv en) + (own_term ((p2.toInt8.toInt32)).toInt8.toInt32 (1 : Int32) sv en)) + (own_term ((p3.toInt8.toInt32)).toInt8.toInt32 (2 : Int32) sv en)) + (own_term ((p4.toInt8.toInt32)).toInt8.toInt32 (3 : Int32) sv en))), .val (.int (((((own_term ((p1.toInt8.toInt32)).toInt8.toInt32 (0 : Int32) sv en) + (own_term ((p2.toInt8.toInt32)).toInt8.toInt32 (1 : Int32) sv en)) + (own_term ((p3.toInt8.toInt32)).toInt8.toInt32 (2 : Int32) sv en)) + (own_term ((p4.toInt8.toInt32)).toInt8.toInt32 (3 : Int32) sv en)) * (-1640531527 : Int32))), .val (.int ((((((own_term ((p1.toInt8.toInt32)).toInt8.toInt32 (0 : Int32) sv en) + (own_term ((p2.toInt8.toInt32)).toInt8.toInt32 (1 : Int32) sv en)) + (own_term ((p3.toInt8.toInt32)).toInt8.toInt32 (2 : Int32) sv en)) + (own_term ((p4.toInt8.toInt32)).toInt8.toInt32 (3 : Int32) sv en)) * (-1640531527 : Int32)) ^^^ (((((((own_term ((p1.toInt8.toInt32)).toInt8.toInt32 (0 : Int32) sv en) + (own_term ((p2.toInt8.toInt32)).toInt8.toInt32 (1 : Int32) sv en)) + (own_term ((p3.toInt8.toInt32)).toInt8.toInt32 (2 : Int32) sv en)) + (own_term ((p4.toInt8.toInt32)).toInt8.toInt32 (3 : Int32) sv en)) * (-1640531527 : Int32)).toUInt32 >>> ((16 : Int32) &&& 31).toUInt32).toInt32)))] [(.ref b1)]))
  refine OGo.to (fun _ k => XS.iload X20.here hx rfl (hb hby at_121) rfl k) ?_
  show OGo p e below _ (T20.setTop (mkF m 123 #[.val (.int p1), .val (.int p2), .val (.int p3), .val (.int p4), .val (.int p5), .val (.int p6), .val (.ref b1), .val (.int sv), .val (.int ln), .val (.int en), .val (.int ((((own_term ((p1.toInt8.toInt32)).toInt8.toInt32 (0 : Int32) sv en) + (own_term ((p2.toInt8.toInt32)).toInt8.toInt32 (1 : Int32) sv en)) + (own_term ((p3.toInt8.toInt32)).toInt8.toInt32 (2 : Int32) sv en)) + (own_term ((p4.toInt8.toInt32)).toInt8.toInt32 (3 : Int32) sv en))), .val (.int (((((own_term ((p1.toInt8.toInt32)).toInt8.toInt32 (0 : Int32) sv en) + (own_term ((p2.toInt8.toInt32)).toInt8.toInt32 (1 : Int32) sv en)) + (own_term ((p3.toInt8.toInt32)).toInt8.toInt32 (2 : Int32) sv en)) + (own_term ((p4.toInt8.toInt32)).toInt8.toInt32 (3 : Int32) sv en)) * (-1640531527 : Int32))), .val (.int ((((((own_term ((p1.toInt8.toInt32)).toInt8.toInt32 (0 : Int32) sv en) + (own_term ((p2.toInt8.toInt32)).toInt8.toInt32 (1 : Int32) sv en)) + (own_term ((p3.toInt8.toInt32)).toInt8.toInt32 (2 : Int32) sv en)) + (own_term ((p4.toInt8.toInt32)).toInt8.toInt32 (3 : Int32) sv en)) * (-1640531527 : Int32)) ^^^ (((((((own_term ((p1.toInt8.toInt32)).toInt8.toInt32 (0 : Int32) sv en) + (own_term ((p2.toInt8.toInt32)).toInt8.toInt32 (1 : Int32) sv en)) + (own_term ((p3.toInt8.toInt32)).toInt8.toInt32 (2 : Int32) sv en)) + (own_term ((p4.toInt8.toInt32)).toInt8.toInt32 (3 : Int32) sv en)) * (-1640531527 : Int32)).toUInt32 >>> ((16 : Int32) &&& 31).toUInt32).toInt32)))] [(.int sv), (.ref b1)]))
  refine OGo.to (fun _ k => XS.iload X20.here hx rfl (hb hby at_123) rfl k) ?_
  show OGo p e below _ (T20.setTop (mkF m 125 #[.val (.int p1), .val (.int p2), .val (.int p3), .val (.int p4), .val (.int p5), .val (.int p6), .val (.ref b1), .val (.int sv), .val (.int ln), .val (.int en), .val (.int ((((own_term ((p1.toInt8.toInt32)).toInt8.toInt32 (0 : Int32) sv en) + (own_term ((p2.toInt8.toInt32)).toInt8.toInt32 (1 : Int32) sv en)) + (own_term ((p3.toInt8.toInt32)).toInt8.toInt32 (2 : Int32) sv en)) + (own_term ((p4.toInt8.toInt32)).toInt8.toInt32 (3 : Int32) sv en))), .val (.int (((((own_term ((p1.toInt8.toInt32)).toInt8.toInt32 (0 : Int32) sv en) + (own_term ((p2.toInt8.toInt32)).toInt8.toInt32 (1 : Int32) sv en)) + (own_term ((p3.toInt8.toInt32)).toInt8.toInt32 (2 : Int32) sv en)) + (own_term ((p4.toInt8.toInt32)).toInt8.toInt32 (3 : Int32) sv en)) * (-1640531527 : Int32))), .val (.int ((((((own_term ((p1.toInt8.toInt32)).toInt8.toInt32 (0 : Int32) sv en) + (own_term ((p2.toInt8.toInt32)).toInt8.toInt32 (1 : Int32) sv en)) + (own_term ((p3.toInt8.toInt32)).toInt8.toInt32 (2 : Int32) sv en)) + (own_term ((p4.toInt8.toInt32)).toInt8.toInt32 (3 : Int32) sv en)) * (-1640531527 : Int32)) ^^^ (((((((own_term ((p1.toInt8.toInt32)).toInt8.toInt32 (0 : Int32) sv en) + (own_term ((p2.toInt8.toInt32)).toInt8.toInt32 (1 : Int32) sv en)) + (own_term ((p3.toInt8.toInt32)).toInt8.toInt32 (2 : Int32) sv en)) + (own_term ((p4.toInt8.toInt32)).toInt8.toInt32 (3 : Int32) sv en)) * (-1640531527 : Int32)).toUInt32 >>> ((16 : Int32) &&& 31).toUInt32).toInt32)))] [(.int en), (.int sv), (.ref b1)]))
  obtain ⟨_, T21, Lc21, X21, hQ21, st21⟩ := own_un X20 (Q := Qh Z b1 sv en k1 ((p1.toInt8.toInt32)).toInt8.toInt32 ((p2.toInt8.toInt32)).toInt8.toInt32 ((p3.toInt8.toInt32)).toInt8.toInt32 ((p4.toInt8.toInt32)).toInt8.toInt32 h13 n0) (rc := 0) (rs := 0) (W := fun v B => ∀ target, Steps p.tables e below (B.setTop { (mkF m 125 #[.val (.int p1), .val (.int p2), .val (.int p3), .val (.int p4), .val (.int p5), .val (.int p6), .val (.ref b1), .val (.int sv), .val (.int ln), .val (.int en), .val (.int ((((own_term ((p1.toInt8.toInt32)).toInt8.toInt32 (0 : Int32) sv en) + (own_term ((p2.toInt8.toInt32)).toInt8.toInt32 (1 : Int32) sv en)) + (own_term ((p3.toInt8.toInt32)).toInt8.toInt32 (2 : Int32) sv en)) + (own_term ((p4.toInt8.toInt32)).toInt8.toInt32 (3 : Int32) sv en))), .val (.int (((((own_term ((p1.toInt8.toInt32)).toInt8.toInt32 (0 : Int32) sv en) + (own_term ((p2.toInt8.toInt32)).toInt8.toInt32 (1 : Int32) sv en)) + (own_term ((p3.toInt8.toInt32)).toInt8.toInt32 (2 : Int32) sv en)) + (own_term ((p4.toInt8.toInt32)).toInt8.toInt32 (3 : Int32) sv en)) * (-1640531527 : Int32))), .val (.int ((((((own_term ((p1.toInt8.toInt32)).toInt8.toInt32 (0 : Int32) sv en) + (own_term ((p2.toInt8.toInt32)).toInt8.toInt32 (1 : Int32) sv en)) + (own_term ((p3.toInt8.toInt32)).toInt8.toInt32 (2 : Int32) sv en)) + (own_term ((p4.toInt8.toInt32)).toInt8.toInt32 (3 : Int32) sv en)) * (-1640531527 : Int32)) ^^^ (((((((own_term ((p1.toInt8.toInt32)).toInt8.toInt32 (0 : Int32) sv en) + (own_term ((p2.toInt8.toInt32)).toInt8.toInt32 (1 : Int32) sv en)) + (own_term ((p3.toInt8.toInt32)).toInt8.toInt32 (2 : Int32) sv en)) + (own_term ((p4.toInt8.toInt32)).toInt8.toInt32 (3 : Int32) sv en)) * (-1640531527 : Int32)).toUInt32 >>> ((16 : Int32) &&& 31).toUInt32).toInt32)))] [(.int en), (.int sv), (.ref b1)]) with pc := 128, stack := v.toList ++ [] }) target → Steps p.tables e below (T20.setTop (mkF m 125 #[.val (.int p1), .val (.int p2), .val (.int p3), .val (.int p4), .val (.int p5), .val (.int p6), .val (.ref b1), .val (.int sv), .val (.int ln), .val (.int en), .val (.int ((((own_term ((p1.toInt8.toInt32)).toInt8.toInt32 (0 : Int32) sv en) + (own_term ((p2.toInt8.toInt32)).toInt8.toInt32 (1 : Int32) sv en)) + (own_term ((p3.toInt8.toInt32)).toInt8.toInt32 (2 : Int32) sv en)) + (own_term ((p4.toInt8.toInt32)).toInt8.toInt32 (3 : Int32) sv en))), .val (.int (((((own_term ((p1.toInt8.toInt32)).toInt8.toInt32 (0 : Int32) sv en) + (own_term ((p2.toInt8.toInt32)).toInt8.toInt32 (1 : Int32) sv en)) + (own_term ((p3.toInt8.toInt32)).toInt8.toInt32 (2 : Int32) sv en)) + (own_term ((p4.toInt8.toInt32)).toInt8.toInt32 (3 : Int32) sv en)) * (-1640531527 : Int32))), .val (.int ((((((own_term ((p1.toInt8.toInt32)).toInt8.toInt32 (0 : Int32) sv en) + (own_term ((p2.toInt8.toInt32)).toInt8.toInt32 (1 : Int32) sv en)) + (own_term ((p3.toInt8.toInt32)).toInt8.toInt32 (2 : Int32) sv en)) + (own_term ((p4.toInt8.toInt32)).toInt8.toInt32 (3 : Int32) sv en)) * (-1640531527 : Int32)) ^^^ (((((((own_term ((p1.toInt8.toInt32)).toInt8.toInt32 (0 : Int32) sv en) + (own_term ((p2.toInt8.toInt32)).toInt8.toInt32 (1 : Int32) sv en)) + (own_term ((p3.toInt8.toInt32)).toInt8.toInt32 (2 : Int32) sv en)) + (own_term ((p4.toInt8.toInt32)).toInt8.toInt32 (3 : Int32) sv en)) * (-1640531527 : Int32)).toUInt32 >>> ((16 : Int32) &&& 31).toUInt32).toInt32)))] [(.int en), (.int sv), (.ref b1)])) target) <| Jvm.LawKit.callS X20 hx (y := (⟨"com/example/querytrail/querytrail/trec/IndexTable", "hash", "([BII)I"⟩ : MethodName)) hown (mvT hZ (hw _ (List.mem_of_getElem? (i := 10) rfl))) (mvT hZ (hw _ (List.mem_of_getElem? (i := 11) rfl))) (mvT hZ (hw _ (List.mem_of_getElem? (i := 12) rfl))) (mvT hZ (hw _ (List.mem_of_getElem? (i := 13) rfl))) (by decide) (backOf (W := 0) (rmh l Z a0 hw [] b1 sv en k1 ((p1.toInt8.toInt32)).toInt8.toInt32 ((p2.toInt8.toInt32)).toInt8.toInt32 ((p3.toInt8.toInt32)).toInt8.toInt32 ((p4.toInt8.toInt32)).toInt8.toInt32 h13 n0 z14 V13 (r1)) hZ (hw _ (List.mem_of_getElem? (i := 13) rfl)) (hw _ (List.mem_of_getElem? (i := 12) rfl)) (by decide) (by decide)) (g := (mkF m 125 #[.val (.int p1), .val (.int p2), .val (.int p3), .val (.int p4), .val (.int p5), .val (.int p6), .val (.ref b1), .val (.int sv), .val (.int ln), .val (.int en), .val (.int ((((own_term ((p1.toInt8.toInt32)).toInt8.toInt32 (0 : Int32) sv en) + (own_term ((p2.toInt8.toInt32)).toInt8.toInt32 (1 : Int32) sv en)) + (own_term ((p3.toInt8.toInt32)).toInt8.toInt32 (2 : Int32) sv en)) + (own_term ((p4.toInt8.toInt32)).toInt8.toInt32 (3 : Int32) sv en))), .val (.int (((((own_term ((p1.toInt8.toInt32)).toInt8.toInt32 (0 : Int32) sv en) + (own_term ((p2.toInt8.toInt32)).toInt8.toInt32 (1 : Int32) sv en)) + (own_term ((p3.toInt8.toInt32)).toInt8.toInt32 (2 : Int32) sv en)) + (own_term ((p4.toInt8.toInt32)).toInt8.toInt32 (3 : Int32) sv en)) * (-1640531527 : Int32))), .val (.int ((((((own_term ((p1.toInt8.toInt32)).toInt8.toInt32 (0 : Int32) sv en) + (own_term ((p2.toInt8.toInt32)).toInt8.toInt32 (1 : Int32) sv en)) + (own_term ((p3.toInt8.toInt32)).toInt8.toInt32 (2 : Int32) sv en)) + (own_term ((p4.toInt8.toInt32)).toInt8.toInt32 (3 : Int32) sv en)) * (-1640531527 : Int32)) ^^^ (((((((own_term ((p1.toInt8.toInt32)).toInt8.toInt32 (0 : Int32) sv en) + (own_term ((p2.toInt8.toInt32)).toInt8.toInt32 (1 : Int32) sv en)) + (own_term ((p3.toInt8.toInt32)).toInt8.toInt32 (2 : Int32) sv en)) + (own_term ((p4.toInt8.toInt32)).toInt8.toInt32 (3 : Int32) sv en)) * (-1640531527 : Int32)).toUInt32 >>> ((16 : Int32) &&& 31).toUInt32).toInt32)))] [(.int en), (.int sv), (.ref b1)])) rfl (by rw [hml]; rfl) (argsL := [(.ref b1), (.int sv), (.int en)]) (rest := []) (lenOf pd_2 rfl) rfl (by show 2 * 0 + _ ≤ _; exact Nat.le_of_eq rfl) (hb hby at_125) (fun _ _ => ⟨rfl, e20, (by decide : 1 + 0 ≤ _), (by decide : 4 + 0 ≤ _)⟩)
  obtain ⟨rfl, N21q, e21⟩ := hQ21
  have N21 := Fr.app N20 N21q
  refine OGo.to st21 ?_
  show OGo p e below _ (T21.setTop (mkF m 128 #[.val (.int p1), .val (.int p2), .val (.int p3), .val (.int p4), .val (.int p5), .val (.int p6), .val (.ref b1), .val (.int sv), .val (.int ln), .val (.int en), .val (.int ((((own_term ((p1.toInt8.toInt32)).toInt8.toInt32 (0 : Int32) sv en) + (own_term ((p2.toInt8.toInt32)).toInt8.toInt32 (1 : Int32) sv en)) + (own_term ((p3.toInt8.toInt32)).toInt8.toInt32 (2 : Int32) sv en)) + (own_term ((p4.toInt8.toInt32)).toInt8.toInt32 (3 : Int32) sv en))), .val (.int (((((own_term ((p1.toInt8.toInt32)).toInt8.toInt32 (0 : Int32) sv en) + (own_term ((p2.toInt8.toInt32)).toInt8.toInt32 (1 : Int32) sv en)) + (own_term ((p3.toInt8.toInt32)).toInt8.toInt32 (2 : Int32) sv en)) + (own_term ((p4.toInt8.toInt32)).toInt8.toInt32 (3 : Int32) sv en)) * (-1640531527 : Int32))), .val (.int ((((((own_term ((p1.toInt8.toInt32)).toInt8.toInt32 (0 : Int32) sv en) + (own_term ((p2.toInt8.toInt32)).toInt8.toInt32 (1 : Int32) sv en)) + (own_term ((p3.toInt8.toInt32)).toInt8.toInt32 (2 : Int32) sv en)) + (own_term ((p4.toInt8.toInt32)).toInt8.toInt32 (3 : Int32) sv en)) * (-1640531527 : Int32)) ^^^ (((((((own_term ((p1.toInt8.toInt32)).toInt8.toInt32 (0 : Int32) sv en) + (own_term ((p2.toInt8.toInt32)).toInt8.toInt32 (1 : Int32) sv en)) + (own_term ((p3.toInt8.toInt32)).toInt8.toInt32 (2 : Int32) sv en)) + (own_term ((p4.toInt8.toInt32)).toInt8.toInt32 (3 : Int32) sv en)) * (-1640531527 : Int32)).toUInt32 >>> ((16 : Int32) &&& 31).toUInt32).toInt32)))] [(.int (own_hash ((p1.toInt8.toInt32)).toInt8.toInt32 ((p2.toInt8.toInt32)).toInt8.toInt32 ((p3.toInt8.toInt32)).toInt8.toInt32 ((p4.toInt8.toInt32)).toInt8.toInt32 sv en))]))
  refine OGo.to (fun _ k => XS.iload X21.here hx rfl (hb hby at_128) rfl k) ?_
  show OGo p e below _ (T21.setTop (mkF m 130 #[.val (.int p1), .val (.int p2), .val (.int p3), .val (.int p4), .val (.int p5), .val (.int p6), .val (.ref b1), .val (.int sv), .val (.int ln), .val (.int en), .val (.int ((((own_term ((p1.toInt8.toInt32)).toInt8.toInt32 (0 : Int32) sv en) + (own_term ((p2.toInt8.toInt32)).toInt8.toInt32 (1 : Int32) sv en)) + (own_term ((p3.toInt8.toInt32)).toInt8.toInt32 (2 : Int32) sv en)) + (own_term ((p4.toInt8.toInt32)).toInt8.toInt32 (3 : Int32) sv en))), .val (.int (((((own_term ((p1.toInt8.toInt32)).toInt8.toInt32 (0 : Int32) sv en) + (own_term ((p2.toInt8.toInt32)).toInt8.toInt32 (1 : Int32) sv en)) + (own_term ((p3.toInt8.toInt32)).toInt8.toInt32 (2 : Int32) sv en)) + (own_term ((p4.toInt8.toInt32)).toInt8.toInt32 (3 : Int32) sv en)) * (-1640531527 : Int32))), .val (.int ((((((own_term ((p1.toInt8.toInt32)).toInt8.toInt32 (0 : Int32) sv en) + (own_term ((p2.toInt8.toInt32)).toInt8.toInt32 (1 : Int32) sv en)) + (own_term ((p3.toInt8.toInt32)).toInt8.toInt32 (2 : Int32) sv en)) + (own_term ((p4.toInt8.toInt32)).toInt8.toInt32 (3 : Int32) sv en)) * (-1640531527 : Int32)) ^^^ (((((((own_term ((p1.toInt8.toInt32)).toInt8.toInt32 (0 : Int32) sv en) + (own_term ((p2.toInt8.toInt32)).toInt8.toInt32 (1 : Int32) sv en)) + (own_term ((p3.toInt8.toInt32)).toInt8.toInt32 (2 : Int32) sv en)) + (own_term ((p4.toInt8.toInt32)).toInt8.toInt32 (3 : Int32) sv en)) * (-1640531527 : Int32)).toUInt32 >>> ((16 : Int32) &&& 31).toUInt32).toInt32)))] [(.int ((((((own_term ((p1.toInt8.toInt32)).toInt8.toInt32 (0 : Int32) sv en) + (own_term ((p2.toInt8.toInt32)).toInt8.toInt32 (1 : Int32) sv en)) + (own_term ((p3.toInt8.toInt32)).toInt8.toInt32 (2 : Int32) sv en)) + (own_term ((p4.toInt8.toInt32)).toInt8.toInt32 (3 : Int32) sv en)) * (-1640531527 : Int32)) ^^^ (((((((own_term ((p1.toInt8.toInt32)).toInt8.toInt32 (0 : Int32) sv en) + (own_term ((p2.toInt8.toInt32)).toInt8.toInt32 (1 : Int32) sv en)) + (own_term ((p3.toInt8.toInt32)).toInt8.toInt32 (2 : Int32) sv en)) + (own_term ((p4.toInt8.toInt32)).toInt8.toInt32 (3 : Int32) sv en)) * (-1640531527 : Int32)).toUInt32 >>> ((16 : Int32) &&& 31).toUInt32).toInt32))), (.int (own_hash ((p1.toInt8.toInt32)).toInt8.toInt32 ((p2.toInt8.toInt32)).toInt8.toInt32 ((p3.toInt8.toInt32)).toInt8.toInt32 ((p4.toInt8.toInt32)).toInt8.toInt32 sv en))]))
  have hc130_22 : (own_hash ((p1.toInt8.toInt32)).toInt8.toInt32 ((p2.toInt8.toInt32)).toInt8.toInt32 ((p3.toInt8.toInt32)).toInt8.toInt32 ((p4.toInt8.toInt32)).toInt8.toInt32 sv en) = ((((((own_term ((p1.toInt8.toInt32)).toInt8.toInt32 (0 : Int32) sv en) + (own_term ((p2.toInt8.toInt32)).toInt8.toInt32 (1 : Int32) sv en)) + (own_term ((p3.toInt8.toInt32)).toInt8.toInt32 (2 : Int32) sv en)) + (own_term ((p4.toInt8.toInt32)).toInt8.toInt32 (3 : Int32) sv en)) * (-1640531527 : Int32)) ^^^ (((((((own_term ((p1.toInt8.toInt32)).toInt8.toInt32 (0 : Int32) sv en) + (own_term ((p2.toInt8.toInt32)).toInt8.toInt32 (1 : Int32) sv en)) + (own_term ((p3.toInt8.toInt32)).toInt8.toInt32 (2 : Int32) sv en)) + (own_term ((p4.toInt8.toInt32)).toInt8.toInt32 (3 : Int32) sv en)) * (-1640531527 : Int32)).toUInt32 >>> ((16 : Int32) &&& 31).toUInt32).toInt32)) := own_main _ _ _ _ r1
  refine OGo.to (fun _ k => XS.icmpNo X21.here hx rfl (hb hby at_130) rfl (teq hc130_22).2 k) ?_
  show OGo p e below _ (T21.setTop (mkF m 133 #[.val (.int p1), .val (.int p2), .val (.int p3), .val (.int p4), .val (.int p5), .val (.int p6), .val (.ref b1), .val (.int sv), .val (.int ln), .val (.int en), .val (.int ((((own_term ((p1.toInt8.toInt32)).toInt8.toInt32 (0 : Int32) sv en) + (own_term ((p2.toInt8.toInt32)).toInt8.toInt32 (1 : Int32) sv en)) + (own_term ((p3.toInt8.toInt32)).toInt8.toInt32 (2 : Int32) sv en)) + (own_term ((p4.toInt8.toInt32)).toInt8.toInt32 (3 : Int32) sv en))), .val (.int (((((own_term ((p1.toInt8.toInt32)).toInt8.toInt32 (0 : Int32) sv en) + (own_term ((p2.toInt8.toInt32)).toInt8.toInt32 (1 : Int32) sv en)) + (own_term ((p3.toInt8.toInt32)).toInt8.toInt32 (2 : Int32) sv en)) + (own_term ((p4.toInt8.toInt32)).toInt8.toInt32 (3 : Int32) sv en)) * (-1640531527 : Int32))), .val (.int ((((((own_term ((p1.toInt8.toInt32)).toInt8.toInt32 (0 : Int32) sv en) + (own_term ((p2.toInt8.toInt32)).toInt8.toInt32 (1 : Int32) sv en)) + (own_term ((p3.toInt8.toInt32)).toInt8.toInt32 (2 : Int32) sv en)) + (own_term ((p4.toInt8.toInt32)).toInt8.toInt32 (3 : Int32) sv en)) * (-1640531527 : Int32)) ^^^ (((((((own_term ((p1.toInt8.toInt32)).toInt8.toInt32 (0 : Int32) sv en) + (own_term ((p2.toInt8.toInt32)).toInt8.toInt32 (1 : Int32) sv en)) + (own_term ((p3.toInt8.toInt32)).toInt8.toInt32 (2 : Int32) sv en)) + (own_term ((p4.toInt8.toInt32)).toInt8.toInt32 (3 : Int32) sv en)) * (-1640531527 : Int32)).toUInt32 >>> ((16 : Int32) &&& 31).toUInt32).toInt32)))] []))
  refine OGo.to (fun _ k => XS.iconst X21.here hx rfl (hb hby at_133) k) ?_
  show OGo p e below _ (T21.setTop (mkF m 134 #[.val (.int p1), .val (.int p2), .val (.int p3), .val (.int p4), .val (.int p5), .val (.int p6), .val (.ref b1), .val (.int sv), .val (.int ln), .val (.int en), .val (.int ((((own_term ((p1.toInt8.toInt32)).toInt8.toInt32 (0 : Int32) sv en) + (own_term ((p2.toInt8.toInt32)).toInt8.toInt32 (1 : Int32) sv en)) + (own_term ((p3.toInt8.toInt32)).toInt8.toInt32 (2 : Int32) sv en)) + (own_term ((p4.toInt8.toInt32)).toInt8.toInt32 (3 : Int32) sv en))), .val (.int (((((own_term ((p1.toInt8.toInt32)).toInt8.toInt32 (0 : Int32) sv en) + (own_term ((p2.toInt8.toInt32)).toInt8.toInt32 (1 : Int32) sv en)) + (own_term ((p3.toInt8.toInt32)).toInt8.toInt32 (2 : Int32) sv en)) + (own_term ((p4.toInt8.toInt32)).toInt8.toInt32 (3 : Int32) sv en)) * (-1640531527 : Int32))), .val (.int ((((((own_term ((p1.toInt8.toInt32)).toInt8.toInt32 (0 : Int32) sv en) + (own_term ((p2.toInt8.toInt32)).toInt8.toInt32 (1 : Int32) sv en)) + (own_term ((p3.toInt8.toInt32)).toInt8.toInt32 (2 : Int32) sv en)) + (own_term ((p4.toInt8.toInt32)).toInt8.toInt32 (3 : Int32) sv en)) * (-1640531527 : Int32)) ^^^ (((((((own_term ((p1.toInt8.toInt32)).toInt8.toInt32 (0 : Int32) sv en) + (own_term ((p2.toInt8.toInt32)).toInt8.toInt32 (1 : Int32) sv en)) + (own_term ((p3.toInt8.toInt32)).toInt8.toInt32 (2 : Int32) sv en)) + (own_term ((p4.toInt8.toInt32)).toInt8.toInt32 (3 : Int32) sv en)) * (-1640531527 : Int32)).toUInt32 >>> ((16 : Int32) &&& 31).toUInt32).toInt32)))] [(.int (1 : Int32))]))
  refine OGo.to (fun _ k => XS.goto X21.here hx rfl (pc0 := 134) (pc' := 138) rfl (hb hby at_134) (by decide) (by decide) k) ?_
  show OGo p e below _ (T21.setTop (mkF m 138 #[.val (.int p1), .val (.int p2), .val (.int p3), .val (.int p4), .val (.int p5), .val (.int p6), .val (.ref b1), .val (.int sv), .val (.int ln), .val (.int en), .val (.int ((((own_term ((p1.toInt8.toInt32)).toInt8.toInt32 (0 : Int32) sv en) + (own_term ((p2.toInt8.toInt32)).toInt8.toInt32 (1 : Int32) sv en)) + (own_term ((p3.toInt8.toInt32)).toInt8.toInt32 (2 : Int32) sv en)) + (own_term ((p4.toInt8.toInt32)).toInt8.toInt32 (3 : Int32) sv en))), .val (.int (((((own_term ((p1.toInt8.toInt32)).toInt8.toInt32 (0 : Int32) sv en) + (own_term ((p2.toInt8.toInt32)).toInt8.toInt32 (1 : Int32) sv en)) + (own_term ((p3.toInt8.toInt32)).toInt8.toInt32 (2 : Int32) sv en)) + (own_term ((p4.toInt8.toInt32)).toInt8.toInt32 (3 : Int32) sv en)) * (-1640531527 : Int32))), .val (.int ((((((own_term ((p1.toInt8.toInt32)).toInt8.toInt32 (0 : Int32) sv en) + (own_term ((p2.toInt8.toInt32)).toInt8.toInt32 (1 : Int32) sv en)) + (own_term ((p3.toInt8.toInt32)).toInt8.toInt32 (2 : Int32) sv en)) + (own_term ((p4.toInt8.toInt32)).toInt8.toInt32 (3 : Int32) sv en)) * (-1640531527 : Int32)) ^^^ (((((((own_term ((p1.toInt8.toInt32)).toInt8.toInt32 (0 : Int32) sv en) + (own_term ((p2.toInt8.toInt32)).toInt8.toInt32 (1 : Int32) sv en)) + (own_term ((p3.toInt8.toInt32)).toInt8.toInt32 (2 : Int32) sv en)) + (own_term ((p4.toInt8.toInt32)).toInt8.toInt32 (3 : Int32) sv en)) * (-1640531527 : Int32)).toUInt32 >>> ((16 : Int32) &&& 31).toUInt32).toInt32)))] [(.int (1 : Int32))]))
  refine OGo.ret (Q := Q0 Z p1 p2 p3 p4 p5 p6 h0 n0) X21 (some (.int (1 : Int32))) (fun h => by rw [Bd.returns] at h; cases h) Bd.notSynchronized (fun fs hr => retN X21 hx (t := .boolean) (z := (1 : Int32)) Bd.returns (by simp) (hb hby at_138) hr) ?_ (by decide) (by decide)
  show Q0 Z p1 p2 p3 p4 p5 p6 h0 n0 _ T21.heap _
  rw [e21]
  exact ⟨rfl, N21⟩
set_option maxRecDepth 65536 in
set_option maxHeartbeats 40000000 in
theorem comes_1 {Post : Tables → Env → Array Value → State → Outcome → State → Prop} (hpost : ∀ tb e args s v u, (limb_1_1.after args s (.returned v) u = true ∧ limb_1_2.after args s (.returned v) u = true ∧ True) → FrameEnd s (.returned v) u (Jvm.fieldLocs frame_1_writes args s ++ Jvm.arrayLocs frame_1_arrays args s ++ Jvm.staticLocs frame_1_statics s) 16 128 → Post tb e args s (.returned v) u) :
    ArmFor flags0 classFile x code maxLocals ret World_1 tables_1 room_1 Calls_1 rest_1 Pre_1 Post := by
  intro l hfl _ _ p e ha hc hk s m args below hf hA hF happ hP
  obtain ⟨hcalls, hrest, hpre⟩ := hP
  obtain ⟨-, -, -, hnamed, -, -, -, hat⟩ := (Spec.applies_iff hf).mp happ
  obtain ⟨hg, hn⟩ := and_e (Cond.before_iff.mp (show (Jvm.Cond.and given_1 narrow_1).before args s = true from hpre))
  obtain ⟨g1, g2⟩ := and_e hg
  obtain ⟨g3, g4⟩ := and_e g2
  obtain ⟨g5, g6⟩ := and_e g4
  obtain ⟨g7, g8⟩ := and_e g6
  obtain ⟨g9, g10⟩ := and_e g8
  obtain ⟨g11, g12⟩ := and_e g10
  obtain ⟨w0, w1, w2, w3, w4, w5, rfl⟩ : ∃ w0 w1 w2 w3 w4 w5 : Value, args = #[w0, w1, w2, w3, w4, w5] := by
    have hs : args.size = 6 := by simpa [Cond.value, given_1] using g1
    obtain ⟨L⟩ := args
    match L, hs with
    | [w0, w1, w2, w3, w4, w5], _ => exact ⟨w0, w1, w2, w3, w4, w5, rfl⟩
  have hw := fun d (hd : d ∈ tables_1) => atoms_spec (ws := Jvm.Cond.code x code maxLocals ret :: tables_1) hat d (List.mem_cons_of_mem _ hd)
  have hfit : Fit s := fun {y c} hc i hi => by
    obtain ⟨ha, rfl⟩ := Array.getElem?_eq_some_iff.mp hc
    have q := List.all_eq_true.mp ((Array.all_eq_true_iff_forall_mem.mp hF) _ (Array.getElem_mem ha)) i (List.mem_range.mpr hi)
    simpa [Array.getElem?_eq_getElem hi] using q
  obtain ⟨i0, ei0⟩ := is_v g3
  obtain rfl : w0 = (.int i0) := Option.some.inj ei0
  obtain ⟨i1, ei1⟩ := is_v g5
  obtain rfl : w1 = (.int i1) := Option.some.inj ei1
  obtain ⟨i2, ei2⟩ := is_v g7
  obtain rfl : w2 = (.int i2) := Option.some.inj ei2
  obtain ⟨i3, ei3⟩ := is_v g9
  obtain rfl : w3 = (.int i3) := Option.some.inj ei3
  obtain ⟨i4, ei4⟩ := is_v g11
  obtain rfl : w4 = (.int i4) := Option.some.inj ei4
  obtain ⟨i5, ei5⟩ := is_v g12
  obtain rfl : w5 = (.int i5) := Option.some.inj ei5
  obtain ⟨n, o, h1, h2, h3, _, L, rfl, ⟨rfl, N⟩, hq⟩ := rm0 l s _ hw tables_1 i0 i1 i2 i3 i4 i5 s.heap s.heap.size (Nat.le_refl _)  p e ha hc hk s m _ below hf ((Spec.applies_iff_loose hf).mp happ).1 ⟨rfl, State.Warmed39.refl s, rfl⟩ trivial
  refine ⟨n, _, h1, h2, h3, hpost _ _ _ _ _ _ ⟨Cond.after_iff.mpr rfl, Cond.after_iff.mpr (eq_i res_at (Term.int_eval (1)) rfl), trivial⟩ ⟨hq.1, hq.2.1, (hq.2.2.sift fun y hy => Or.inr (N y hy)).mono (by decide) (by decide)⟩⟩
theorem main_1_1 : Claimed_1_1 := comes_1 fun _ _ _ _ _ _ h hF => ⟨h.1, hF⟩
theorem main_1_2 : Claimed_1_2 := comes_1 fun _ _ _ _ _ _ h hF => ⟨h.2.1, hF⟩
end Jvm.Pilot.@@N@@
namespace Jvm.Pilot.@@N@@
open Jvm Jvm.ClassFile Sem Op Lib Jvm.Free Jvm.Stand Jvm.Pilot.@@N@@.Jvm.D
/-! MADE BY PROGRAM (witnessworld.py) out of the Statement's table words and the real class files: 9 classes; the members and pool entries that the words name. The judged class is class 1, her method 3. -/
namespace start1
open Jvm.ClassFile
def u (s : String) : CpInfo := .utf8 (stringToUtf16 s)
/-- a pool by its gaps: so many unusable entries, then the entry; so many at the end -/
def gap : Nat → List CpInfo → List CpInfo
  | 0, r => r
  | n + 1, r => .unusable :: gap n r
def poolList (es : List (Nat × CpInfo)) (last : Nat) : List CpInfo := es.foldr (fun e r => gap e.1 (e.2 :: r)) (gap last [])
def pool (es : List (Nat × CpInfo)) (last : Nat) : Array CpInfo := ⟨poolList es last⟩
def fileOf (pool : Array CpInfo) (this : Nat) (attrs : Array Attribute := #[]) (ms : Array MethodInfo := #[]) (fl : Nat := 33) (sup : Nat := 0) (ifs : Array Nat := #[]) (fds : Array FieldInfo := #[]) : ClassFile where
  minorVersion := 0
  majorVersion := 65
  constantPool := pool
  accessFlags := fl
  thisClass := this
  superClass := sup
  interfaces := ifs
  fields := fds
  methods := ms
  attributes := attrs
def plain (name : String) (sup : Option ClassId) : Class where
  name := name
  kind := .ordinary
  loader := none
  accessFlags := 33
  super := sup
  interfaces := #[]
  cf := none
  fields := #[]
  methods := #[]
  instanceTypes := #[]
  staticTypes := #[]
  resolved := #[]
  callSites := []
  init := .initialized
  statics := none
  mirror := none

def pool0 : Array CpInfo := pool [(5, u "<init>"), (0, u "()V"), (1, .class_ 10), (1, u "java/lang/Object")] 113

def k0m0 : Method := { name := "<init>", desc := "()V", sig := { parameters := [], returnType := none }, accessFlags := 1, code := none }
/-- java/lang/Object -/
def k0 : Class := { plain "java/lang/Object" none with
  accessFlags := 33
  interfaces := #[]
  cf := some (fileOf pool0 8 #[] #[{ accessFlags := 1, nameIndex := 5, descriptorIndex := 6, attributes := #[] }] 33 0 #[] #[])
  fields := #[]
  methods := #[k0m0]
  instanceTypes := #[]
  staticTypes := #[]
  resolved := Array.replicate 124 none
  statics := none }

def pool1 : Array CpInfo := pool [(2, .class_ 4), (1, u "java/lang/Object"), (0, u "<init>"), (0, u "()V"), (0, .methodref 8 9), (0, .class_ 10), (0, .nameAndType 11 12), (0, u "com/example/querytrail/querytrail/trec/IndexTableHashPinLaw"), (0, u "pow31"), (0, u "(I)I"), (0, .integer 2147483647), (0, .methodref 8 15), (0, .nameAndType 16 17), (0, u "term"), (0, u "([BIII)I"), (0, .integer 2654435769), (0, .methodref 20 21), (0, .class_ 22), (0, .nameAndType 23 24), (0, u "com/example/querytrail/querytrail/trec/IndexTable"), (0, u "hash"), (0, u "([BII)I"), (3, u "law"), (0, u "(IIIIII)Z")] 4

def k1m0 : Method := { name := "<init>", desc := "()V", sig := { parameters := [], returnType := none }, accessFlags := 1, code := none }
def k1c1 : Code := { maxStack := 2, maxLocals := 1, code := method_2_code, exceptionTable := #[], attributes := #[] }
def k1m1 : Method := { name := "pow31", desc := "(I)I", sig := { parameters := [.int], returnType := some .int }, accessFlags := 10, code := some k1c1 }
def k1c2 : Code := { maxStack := 3, maxLocals := 4, code := method_3_code, exceptionTable := #[], attributes := #[] }
def k1m2 : Method := { name := "term", desc := "([BIII)I", sig := { parameters := [(.array .byte), .int, .int, .int], returnType := some .int }, accessFlags := 10, code := some k1c2 }
def k1c3 : Code := { maxStack := 5, maxLocals := 13, code := code, exceptionTable := #[], attributes := #[] }
def k1m3 : Method := { name := "law", desc := "(IIIIII)Z", sig := { parameters := [.int, .int, .int, .int, .int, .int], returnType := some .boolean }, accessFlags := 9, code := some k1c3 }
/-- com/example/querytrail/querytrail/trec/IndexTableHashPinLaw -/
def k1 : Class := { plain "com/example/querytrail/querytrail/trec/IndexTableHashPinLaw" (some 0) with
  accessFlags := 49
  interfaces := #[]
  cf := some (fileOf pool1 8 #[] #[{ accessFlags := 1, nameIndex := 5, descriptorIndex := 6, attributes := #[] }, { accessFlags := 10, nameIndex := 11, descriptorIndex := 12, attributes := #[] }, { accessFlags := 10, nameIndex := 16, descriptorIndex := 17, attributes := #[] }, { accessFlags := 9, nameIndex := 28, descriptorIndex := 29, attributes := #[] }] 49 2 #[] #[])
  fields := #[]
  methods := #[k1m0, k1m1, k1m2, k1m3]
  instanceTypes := #[]
  staticTypes := #[]
  resolved := Array.replicate 34 none
  statics := none }

def pool2 : Array CpInfo := pool [(2, .class_ 4), (1, u "java/lang/Object"), (3, .class_ 10), (1, u "com/example/querytrail/querytrail/trec/IndexTable"), (0, u "hashOfItem"), (0, u "Ljava/util/function/IntUnaryOperator;"), (6, u "slots"), (0, u "[I"), (0, .integer 2654435769), (2, u "count"), (0, u "I"), (45, u "MAX_SIZE"), (1, u "SPREAD"), (4, u "hash"), (0, u "([BII)I")] 7

def k2c0 : Code := { maxStack := 3, maxLocals := 5, code := prog_55_method_3_code, exceptionTable := #[], attributes := #[] }
def k2m0 : Method := { name := "hash", desc := "([BII)I", sig := { parameters := [(.array .byte), .int, .int], returnType := some .int }, accessFlags := 8, code := some k2c0 }
/-- com/example/querytrail/querytrail/trec/IndexTable -/
def k2 : Class := { plain "com/example/querytrail/querytrail/trec/IndexTable" (some 0) with
  accessFlags := 48
  interfaces := #[]
  cf := some (fileOf pool2 8 #[] #[{ accessFlags := 8, nameIndex := 78, descriptorIndex := 79, attributes := #[] }] 48 2 #[] #[{ accessFlags := 24, nameIndex := 71, descriptorIndex := 25, attributes := #[] }, { accessFlags := 26, nameIndex := 73, descriptorIndex := 25, attributes := #[] }, { accessFlags := 18, nameIndex := 11, descriptorIndex := 12, attributes := #[] }, { accessFlags := 2, nameIndex := 19, descriptorIndex := 20, attributes := #[] }, { accessFlags := 2, nameIndex := 24, descriptorIndex := 25, attributes := #[] }])
  fields := #[{ name := "MAX_SIZE", type := .int, accessFlags := 24, slot := 0, constantValue := 0 }, { name := "SPREAD", type := .int, accessFlags := 26, slot := 1, constantValue := 0 }, { name := "hashOfItem", type := (.object "java/util/function/IntUnaryOperator"), accessFlags := 18, slot := 0, constantValue := 0 }, { name := "slots", type := (.array .int), accessFlags := 2, slot := 1, constantValue := 0 }, { name := "count", type := .int, accessFlags := 2, slot := 2, constantValue := 0 }]
  methods := #[k2m0]
  instanceTypes := #[(.object "java/util/function/IntUnaryOperator"), (.array .int), .int]
  staticTypes := #[.int, .int]
  resolved := Array.replicate 87 none
  statics := none }

def pool3 : Array CpInfo := pool [(1, u "java/lang/Cloneable"), (0, .class_ 1), (0, u "java/lang/Object"), (0, .class_ 3)] 3

/-- java/lang/Cloneable -/
def k3 : Class := { plain "java/lang/Cloneable" (some 0) with
  accessFlags := 1537
  interfaces := #[]
  cf := some (fileOf pool3 2 #[] #[] 1537 4 #[] #[])
  fields := #[]
  methods := #[]
  instanceTypes := #[]
  staticTypes := #[]
  resolved := Array.replicate 8 none
  statics := none }

def pool4 : Array CpInfo := pool [(1, u "java/io/Serializable"), (0, .class_ 1), (0, u "java/lang/Object"), (0, .class_ 3)] 3

/-- java/io/Serializable -/
def k4 : Class := { plain "java/io/Serializable" (some 0) with
  accessFlags := 1537
  interfaces := #[]
  cf := some (fileOf pool4 2 #[] #[] 1537 4 #[] #[])
  fields := #[]
  methods := #[]
  instanceTypes := #[]
  staticTypes := #[]
  resolved := Array.replicate 8 none
  statics := none }

/-- the primitive byte -/
def k5 : Class := { plain "byte" none with kind := .primitive 'B', accessFlags := 0x411 }
/-- [B -/
def k6 : Class := { plain "[B" (some 0) with kind := .array 5 .byte, interfaces := #[3, 4], accessFlags := 1041 }

/-- the primitive int -/
def k7 : Class := { plain "int" none with kind := .primitive 'I', accessFlags := 0x411 }
/-- [I -/
def k8 : Class := { plain "[I" (some 0) with kind := .array 7 .int, interfaces := #[3, 4], accessFlags := 1041 }

def heap : Heap := #[]
def classes : Array Class := #[k0, k1, k2, k3, k4, k5, k6, k7, k8]
def interned : List (Array UInt16 × Addr) := []
def slotsUsed : Nat := 0
def theMethod : MethodId := ⟨1, 3⟩
def args0 : Array Value := #[.int 5, .int 7, .int 9, .int 3, .int 2, .int 4]
def aboutOver (below : List Frame) : State where
  vm := { classes := classes, interned := interned.toArray }
  heap := heap
  slotsUsed := slotsUsed
  threads := #[{ frames := .invoking theMethod args0 :: below }]
def below0 : List Frame := [.native { method := ⟨0, 0⟩, args := #[] }]
def about1 : State := aboutOver below0
def p0 : Program := .bare "" "" ""
def e0 : Env := launch0.env 0 0 0
theorem w_frames : about1.frames = Frame.invoking theMethod args0 :: below0 := rfl
set_option maxRecDepth 65536 in
theorem w_args : argsFit about1.vm theMethod args0 = true := by decide +kernel
set_option maxRecDepth 65536 in
theorem w_heap : heapFits about1 = true := by decide +kernel
set_option maxRecDepth 65536 in
theorem w_runnable : about1.curStatus? = some .runnable := by decide +kernel
set_option maxRecDepth 65536 in
theorem w_alone : about1.alone = true := by decide +kernel
set_option maxRecDepth 65536 in
theorem w_named : about1.methodNamed? x = some theMethod := by decide +kernel
set_option maxRecDepth 65536 in
theorem w_hears : about1.hears theMethod below0 = true := by decide +kernel
set_option maxRecDepth 65536 in
theorem w_ripe : about1.ripe theMethod args0 below0 = true := by decide +kernel
theorem w_running : about1.status = .running := rfl
set_option maxRecDepth 65536 in
theorem w_room : about1.hasRoom e0.platform room_1 = true :=
  launch0.hasRoom_least _ room_1 (by decide +kernel) (by decide +kernel) (by decide +kernel) (by decide +kernel) (by decide +kernel) (by decide +kernel)
theorem allAtoms_all (ts : List Jvm.Cond) (a : Array Jvm.Value) (st : Jvm.State) : (allAtoms ts).before a st = ts.all (fun c => c.before a st) := by
  induction ts with
  | nil => rfl
  | cons c t ih =>
    show (Jvm.Cond.and c (allAtoms t)).before a st = _
    rw [Jvm.Cond.before_and, ih, List.all_cons]
def words1 : List Jvm.Cond := Jvm.Cond.code x code maxLocals ret :: tables_1
/-- a 'code' word, met by the world's own term for the bytes: nothing is compared byte by byte -/
theorem code_word {y : MethodName} {bytes : ByteArray} {mx : Nat} {rt : Option FieldType} {a : Array Value} {s : State} {m : MethodId} {meth : Method} {c : Code} (h1 : s.methodNamed? y = some m) (h2 : s.vm.method? m = some meth) (h3 : meth.code = some c) (h4 : c.code = bytes)
    (h5 : (c.maxLocals == mx && c.exceptionTable.isEmpty && decide (c.maxStack ≤ mostOperands) && decide (meth.sig.returnType = rt) && !meth.locks && decide (parseMethodDescriptor y.desc = some meth.sig)) = true) : (Jvm.Cond.code y bytes mx rt).before a s = true := by
  simp only [Bool.and_eq_true, beq_iff_eq, Bool.not_eq_true', decide_eq_true_eq] at h5
  obtain ⟨⟨⟨⟨⟨g1, g2⟩, g3⟩, g4⟩, g5⟩, g6⟩ := h5
  simp [Cond.before, Cond.holds, Cond.value, h1, h2, h3, h4, g1, g2, g3, g4, g5, g6]
def isCode : Jvm.Cond → Bool
  | .code _ _ _ _ => true
  | _ => false
theorem all_split {L : List Jvm.Cond} {P : Jvm.Cond → Bool} (h1 : L.all (fun c => isCode c || P c) = true) (h2 : ∀ c ∈ L.filter isCode, P c = true) : L.all P = true := by
  refine List.all_eq_true.mpr fun c hc => ?_
  have h := List.all_eq_true.mp h1 c hc
  rcases Bool.eq_false_or_eq_true (isCode c) with hi | hi
  · exact h2 c (List.mem_filter.mpr ⟨hc, hi⟩)
  · simpa [hi] using h
set_option maxRecDepth 65536 in
theorem w_c0 : (Jvm.Cond.code x code maxLocals ret).before args0 about1 = true := code_word (m := ⟨1, 3⟩) (meth := k1m3) (c := k1c3) (by decide +kernel) rfl rfl rfl (by decide +kernel)
set_option maxRecDepth 65536 in
theorem w_c1 : (Jvm.Cond.code ({ cls := "com/example/querytrail/querytrail/trec/IndexTableHashPinLaw", name := "term", desc := "([BIII)I" } : Jvm.MethodName) method_3_code (4 : Nat) (Option.some Jvm.ClassFile.FieldType.int)).before args0 about1 = true := code_word (m := ⟨1, 2⟩) (meth := k1m2) (c := k1c2) (by decide +kernel) rfl rfl rfl (by decide +kernel)
set_option maxRecDepth 65536 in
theorem w_c2 : (Jvm.Cond.code ({ cls := "com/example/querytrail/querytrail/trec/IndexTableHashPinLaw", name := "pow31", desc := "(I)I" } : Jvm.MethodName) method_2_code (1 : Nat) (Option.some Jvm.ClassFile.FieldType.int)).before args0 about1 = true := code_word (m := ⟨1, 1⟩) (meth := k1m1) (c := k1c1) (by decide +kernel) rfl rfl rfl (by decide +kernel)
set_option maxRecDepth 65536 in
theorem w_c3 : (Jvm.Cond.code ({ cls := "com/example/querytrail/querytrail/trec/IndexTable", name := "hash", desc := "([BII)I" } : Jvm.MethodName) prog_55_method_3_code (5 : Nat) (Option.some Jvm.ClassFile.FieldType.int)).before args0 about1 = true := code_word (m := ⟨2, 0⟩) (meth := k2m0) (c := k2c0) (by decide +kernel) rfl rfl rfl (by decide +kernel)
def codes1 : List Jvm.Cond := [Jvm.Cond.code x code maxLocals ret, Jvm.Cond.code ({ cls := "com/example/querytrail/querytrail/trec/IndexTableHashPinLaw", name := "term", desc := "([BIII)I" } : Jvm.MethodName) method_3_code (4 : Nat) (Option.some Jvm.ClassFile.FieldType.int), Jvm.Cond.code ({ cls := "com/example/querytrail/querytrail/trec/IndexTableHashPinLaw", name := "pow31", desc := "(I)I" } : Jvm.MethodName) method_2_code (1 : Nat) (Option.some Jvm.ClassFile.FieldType.int), Jvm.Cond.code ({ cls := "com/example/querytrail/querytrail/trec/IndexTable", name := "hash", desc := "([BII)I" } : Jvm.MethodName) prog_55_method_3_code (5 : Nat) (Option.some Jvm.ClassFile.FieldType.int)]
set_option maxRecDepth 65536 in
theorem codes_eq : words1.filter isCode = codes1 := rfl
theorem w_codes : ∀ c ∈ words1.filter isCode, c.before args0 about1 = true := by
  rw [codes_eq]
  intro c hc
  simp only [codes1, List.mem_cons, List.not_mem_nil, or_false] at hc
  rcases hc with rfl | rfl | rfl | rfl
  · exact w_c0
  · exact w_c1
  · exact w_c2
  · exact w_c3
set_option maxRecDepth 65536 in
theorem w_t1 : words1.all (fun c => isCode c || c.before args0 about1) = true := by decide +kernel
theorem w_tables : (allAtoms (Jvm.Cond.code x code maxLocals ret :: tables_1)).before args0 about1 = true := by
  rw [allAtoms_all]
  show words1.all (fun c => c.before args0 about1) = true
  refine all_split ?_ w_codes
  rw [w_t1]
set_option maxRecDepth 65536 in
theorem w_case : (Jvm.Cond.and given_1 narrow_1).before args0 about1 = true := by decide +kernel
theorem w_applies : (headSpec (Jvm.Cond.code x code maxLocals ret :: tables_1) room_1).applies x e0.platform about1 = true :=
  (Spec.applies_iff w_frames).mpr ⟨w_running, w_runnable, w_alone, w_named, w_hears, w_ripe, w_room, w_tables⟩
theorem atStart : AtStart classFile x code maxLocals ret World_1 tables_1 room_1 Calls_1 rest_1 Pre_1 launch0 p0 e0 about1 theMethod args0 below0 :=
  ⟨lists_1, trivial, launch0.admits_env _ _ _, launch0.least_env, fairChoices_fair.cas, fairChoices_fair.clock, w_frames, w_args, w_heap, w_applies, trivial, trivial, w_case⟩
end start1
theorem witness_1 : WitnessClaimed_1 := ⟨start1.p0, start1.e0, start1.about1, start1.theMethod, start1.args0, start1.below0, start1.atStart⟩
end Jvm.Pilot.@@N@@
