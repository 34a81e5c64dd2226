import JvmDerived
import JvmDerived.Pilot.@@N@@Statement
import JvmDerived.Pilot.@@N@@Code
set_option linter.unusedVariables false
set_option linter.unusedSimpArgs false
namespace Jvm.RoadKit
open Sem ClassFile Op Lib Jvm.Stand Jvm.Free Jvm.LawKit
section New
variable {p : Program} {l : Launch} {e : Env} {R : Room} {s : State} {m : MethodId} {args : Array Value} {below : List Frame} {meth : Method} {c : Code} {T : State} {locs : List Loc} {cells slots : Nat}
theorem retI (X : Stand p l e R s m args below meth c T locs cells slots) (hx : p.tables.exec = Jvm.exec) {pc : Nat} {Ls : Array Slot} {z : Int32} {rest : List Value} (hret : meth.sig.returnType = some .int) (hd : decode c.code pc = .ok (.ireturn, 1)) {fs : List Frame}
    (hl : ∀ (f : JFrame) (acts : List Action), f.method = m → f.locked = none → f.entered = [] → (doReturn e (T.setTop f) acts (some (.int z))).1 = T.setFrames fs) : Steps p.tables e below (T.setTop (mkF m pc Ls (.int z :: rest))) (T.setFrames fs) := by
  have hm' : T.vm.method? m = some meth := X.method'
  have hn : narrow .int (.int z) = .int z := rfl
  show Steps p.tables e below (T.setTop { method := m, pc := pc, locals := Ls, stack := _ :: rest, locked := none }) _
  jvm_step X.here [X.here.top, hx, hd, hm', hret, hn]
  first | (intro acts; rw [hl _ acts rfl rfl rfl]) | rw [hl _ _ rfl rfl rfl]
  exact Steps.refl _
end New
end Jvm.RoadKit
namespace Jvm.Pilot.@@N@@
open Jvm Jvm.ClassFile Sem Op Lib Jvm.Free Jvm.Stand Jvm.LawKit Jvm.RoadKit Bundle Jvm.Pilot.@@N@@.Jvm.D
section Own
variable {p : Program} {l : Launch} {e : Env} {R : Room} {s : State} {m : MethodId} {args : Array Value} {below : List Frame} {meth : Method} {c : Code} {T : State} {locs : List Loc} {cells slots : Nat}
theorem own_retL (X : Stand p l e R s m args below meth c T locs cells slots) (hx : p.tables.exec = Jvm.exec) {pc : Nat} {Ls : Array Slot} {z : Int64} {rest : List Value} (hret : meth.sig.returnType = some .long) (hd : decode c.code pc = .ok (.lreturn, 1)) {fs : List Frame}
    (hl : ∀ (f : JFrame) (acts : List Action), f.method = m → f.locked = none → f.entered = [] → (doReturn e (T.setTop f) acts (some (.long z))).1 = T.setFrames fs) : Steps p.tables e below (T.setTop (mkF m pc Ls (.long z :: rest))) (T.setFrames fs) := by
  have hm' : T.vm.method? m = some meth := X.method'
  have hn : narrow .long (.long z) = .long z := rfl
  show Steps p.tables e below (T.setTop { method := m, pc := pc, locals := Ls, stack := _ :: rest, locked := none }) _
  jvm_step X.here [X.here.top, hx, hd, hm', hret, hn]
  first | (intro acts; rw [hl _ acts rfl rfl rfl]) | rw [hl _ _ rfl rfl rfl]
  exact Steps.refl _
theorem own_retA (X : Stand p l e R s m args below meth c T locs cells slots) (hx : p.tables.exec = Jvm.exec) {pc : Nat} {Ls : Array Slot} {v : Value} {t : FieldType} {rest : List Value} (hret : meth.sig.returnType = some t) (ht : t.isReference = true) (hv : v.isRef = true) (hd : decode c.code pc = .ok (.areturn, 1)) {fs : List Frame}
    (hl : ∀ (f : JFrame) (acts : List Action), f.method = m → f.locked = none → f.entered = [] → (doReturn e (T.setTop f) acts (some v)).1 = T.setFrames fs) : Steps p.tables e below (T.setTop (mkF m pc Ls (v :: rest))) (T.setFrames fs) := by
  have hm' : T.vm.method? m = some meth := X.method'
  show Steps p.tables e below (T.setTop { method := m, pc := pc, locals := Ls, stack := _ :: rest, locked := none }) _
  jvm_step X.here [X.here.top, hx, hd, hm', hret, hv, ht]
  first | (intro acts; rw [hl _ acts rfl rfl rfl]) | rw [hl _ _ rfl rfl rfl]
  exact Steps.refl _
def OGo (p : Program) (e : Env) (below : List Frame) (P : State → Outcome → Prop) (S : State) : Prop := ∃ s₂ o, Steps p.tables e below S s₂ ∧ s₂.status = .running ∧ Ended s₂ below o ∧ P s₂ o
theorem OGo.to {P : State → Outcome → Prop} {S S' : State} (h : ∀ t, Steps p.tables e below S' t → Steps p.tables e below S t) (g : OGo p e below P S') : OGo p e below P S := by
  obtain ⟨s₂, o, h1, r⟩ := g
  exact ⟨s₂, o, h _ h1, r⟩
theorem OGo.ret {Q : Option Value → Heap → List Loc → Prop} (X : Stand p l e R s m args below meth c T locs cells slots) {g : JFrame} (v : Option Value) (hv : meth.sig.returnType = none → v = none) (hlocks : meth.locks = false)
    (st : ∀ fs : List Frame, (∀ (f : JFrame) (acts : List Action), f.method = m → f.locked = none → f.entered = [] → (doReturn e (T.setTop f) acts v).1 = T.setFrames fs) → Steps p.tables e below (T.setTop g) (T.setFrames fs)) (hq : Q v T.heap locs) {rc rs : Nat} (h1 : cells ≤ rc) (h2 : slots ≤ rs) :
    OGo p e below (fun s₂ o => ∃ v L, o = .returned v ∧ Q v s₂.heap L ∧ FrameEnd s o s₂ L rc rs) (T.setTop g) := by
  obtain ⟨fs, hr, hrun, hended, hW, hsame⟩ := X.leave (v := v) hv hlocks
  exact ⟨_, _, st fs hr, hrun, hended, _, _, rfl, hq, ⟨_, rfl⟩, hW, hsame.mono h1 h2⟩
theorem own_un (X0 : Stand p l e R s m args below meth c T locs cells slots) {Q : Option Value → Heap → List Loc → Prop} {rc rs : Nat} {W : Option Value → State → Prop}
    (h : ∃ (v : Option Value) (vm₁ : Vm) (B : Pt), s.WarmedH vm₁ ∧ Stand p l e R s m args below meth c B.U B.locs B.cells B.slots ∧ (∃ L, Q v B.U.heap L ∧ B.locs = locs ++ L ∧ B.cells = cells + rc ∧ B.slots = slots + rs) ∧ W v B.U) :
    ∃ (v : Option Value) (T' : State) (Lc : List Loc), Stand p l e R s m args below meth c T' (locs ++ Lc) (cells + rc) (slots + rs) ∧ Q v T'.heap Lc ∧ W v T' := by
  obtain ⟨v, vm₁, ⟨T', L', k', n'⟩, -, X, ⟨Lc, hQ, h1, h2, h3⟩, st⟩ := h
  subst h1 h2 h3
  exact ⟨v, T', Lc, X, hQ, st⟩
theorem own_selP {Z : State} {a0 : Array Value} (hZ : Z.Warmed39 s.vm) {y : MethodName} {n : Nat} (wi : (Jvm.Cond.instantiable y.cls n).before a0 Z = true) (wp : (Jvm.Cond.privateMethod y).before a0 Z = true) (wm : (Jvm.Cond.instanceMethod y).before a0 Z = true) (hy : y.cls ≠ "java/lang/invoke/MethodHandle" ∧ y.cls ≠ "java/lang/invoke/VarHandle") : (Jvm.Cond.selects y.cls y y).before args s = true := by
  obtain ⟨c, k, h1, h2, -, h3, -⟩ := Cond.instantiable_spec (mvT (args := args) hZ wi)
  exact selects_self_of_private h1 h2 ((Bool.or_eq_false_iff.mp h3).1) (Cond.privateMethod_at (mvP hZ wp (args := args))) (mvT hZ wm) hy
end Own
theorem own_ieq {a b : Int32} (h : a = b) : a.toInt = b.toInt := congrArg _ h
theorem own_ine {a b : Int32} (h : ¬ a = b) : a.toInt ≠ b.toInt := fun q => h (Int32.toInt_inj.mp q)
theorem own_ilt {a b : Int32} (h : a < b) : a.toInt < b.toInt := Int32.lt_iff_toInt_lt.mp h
theorem own_inlt {a b : Int32} (h : ¬ a < b) : b.toInt ≤ a.toInt := Int.not_lt.mp fun q => h (Int32.lt_iff_toInt_lt.mpr q)
theorem own_eqi {a b : Int32} (h : a.toInt = b.toInt) : a = b := Int32.toInt_inj.mp h
theorem own_lti {a b : Int32} (h : a.toInt < b.toInt) : a < b := Int32.lt_iff_toInt_lt.mpr h
theorem own_nlti {a b : Int32} (h : b.toInt ≤ a.toInt) : ¬ a < b := fun q => absurd (Int32.lt_iff_toInt_lt.mp q) (Int.not_lt.mpr h)
theorem own_nnL (q : Int64) : ¬ (q &&& (9223372036854775807 : Int64)) < 0 := by
  have h := c_maskL q (9223372036854775807 : Int64) 63 (by decide) (by decide)
  rw [Int64.lt_iff_toInt_lt]
  have : (0 : Int64).toInt = 0 := rfl
  omega
theorem own_nn (q : Int32) : ¬ (q &&& (2147483647 : Int32)) < 0 := own_nlti (c_and q (2147483647 : Int32) (by decide)).1
def own_max (a b : Int32) : Int32 := if a < b then b else a
theorem own_max1 (b : Int32) : (0 : Int32) < own_max (1 : Int32) b := by
  unfold own_max
  split
  · rename_i h; have := own_ilt h; exact own_lti (Int.lt_trans (by decide) this)
  · decide
def own_lh (q : Int64) : Int32 := (q ^^^ ((q.toUInt64 >>> ((32 : Int32) &&& 0x3f).toInt64.toUInt64).toInt64)).toInt32
def own_h (t : Int64) (c k : Int32) : Int32 := (own_lh t * (31 : Int32) + c) * (31 : Int32) + k
def own_eq (t1 : Int64) (c1 k1 : Int32) (t2 : Int64) (c2 k2 : Int32) : Int32 := if t1 = t2 then (if c1 = c2 then (if k1 = k2 then (1 : Int32) else 0) else 0) else 0
theorem own_eq_yes {t1 t2 : Int64} {c1 k1 c2 k2 : Int32} (h : ¬ own_eq t1 c1 k1 t2 c2 k2 = (0 : Int32)) : t1 = t2 ∧ c1 = c2 ∧ k1 = k2 := by
  unfold own_eq at h
  by_cases h1 : t1 = t2
  · by_cases h2 : c1 = c2
    · by_cases h3 : k1 = k2
      · exact ⟨h1, h2, h3⟩
      · rw [if_pos h1, if_pos h2, if_neg h3] at h; exact absurd rfl h
    · rw [if_pos h1, if_neg h2] at h; exact absurd rfl h
  · rw [if_neg h1] at h; exact absurd rfl h
theorem own_eq_no {t1 t2 : Int64} {c1 k1 c2 k2 : Int32} (h : own_eq t1 c1 k1 t2 c2 k2 = (0 : Int32)) : ¬ (t1 = t2 ∧ c1 = c2 ∧ k1 = k2) := by
  rintro ⟨h1, h2, h3⟩
  unfold own_eq at h
  rw [if_pos h1, if_pos h2, if_pos h3] at h
  exact absurd h (by decide)
theorem own_A {t1 t2 : Int64} {c1 k1 c2 k2 : Int32} (h : ¬ own_eq t1 c1 k1 t2 c2 k2 = (0 : Int32)) : own_h t1 c1 k1 = own_h t2 c2 k2 := by
  obtain ⟨rfl, rfl, rfl⟩ := own_eq_yes h; rfl
theorem own_eq_symm (t1 : Int64) (c1 k1 : Int32) (t2 : Int64) (c2 k2 : Int32) : own_eq t1 c1 k1 t2 c2 k2 = own_eq t2 c2 k2 t1 c1 k1 := by
  unfold own_eq
  simp only [eq_comm]
theorem own_eq_self (t1 : Int64) (c1 k1 : Int32) : ¬ own_eq t1 c1 k1 t1 c1 k1 = (0 : Int32) := by
  unfold own_eq
  rw [if_pos rfl, if_pos rfl, if_pos rfl]; decide
theorem own_D1 {P : Prop} [Decidable P] {a b : Int64} (h1 : ¬ a < (0 : Int64)) (h2 : ¬ b < (0 : Int64)) : ¬ (if P then a else b) < (0 : Int64) := by
  by_cases hp : P <;> simp only [hp, if_true, if_false] <;> assumption
theorem own_D2 {P : Prop} [Decidable P] {a b : Int32} (h1 : ¬ a < (0 : Int32)) (h2 : ¬ b < (0 : Int32)) : ¬ (if P then a else b) < (0 : Int32) := by
  by_cases hp : P <;> simp only [hp, if_true, if_false] <;> assumption
theorem own_eq_kk (t1 : Int64) (c1 k : Int32) (t2 : Int64) (c2 : Int32) : own_eq t1 c1 k t2 c2 k = (if t1 = t2 then (if c1 = c2 then (1 : Int32) else (0 : Int32)) else (0 : Int32)) := by
  unfold own_eq; rw [if_pos rfl]
def own_cache (Z : State) (ca : Addr) (cl : Cell) : Prop := Arr Z Z.heap ca cl (.object "java/lang/Long") ∧ cl.slots.size = 256 ∧ ∀ j : Nat, j < 256 → ∃ x, cl.slots[j]? = some (.ref x) ∧ Exa Z Z.heap x "java/lang/Long"
theorem own_cacheOf {args : Array Value} {s : State} {ca : Addr} {cl : Cell} {X : Jvm.Cond} (eca : (Jvm.Term.static "java/lang/Long$LongCache" "cache" "[Ljava/lang/Long;").eval args s none [] s = some (.ref ca)) (AC : Arr s s.heap ca cl (.object "java/lang/Long"))
    (h4 : (Jvm.Cond.eq (Jvm.Term.length (Jvm.Term.static "java/lang/Long$LongCache" "cache" "[Ljava/lang/Long;")) (Jvm.Term.int (256 : Int32))).before args s = true)
    (h5 : (Jvm.Cond.all (Jvm.Term.static "java/lang/Long$LongCache" "cache" "[Ljava/lang/Long;") (Jvm.Cond.and (Jvm.Cond.exactly (Jvm.Term.elem (Jvm.Term.static "java/lang/Long$LongCache" "cache" "[Ljava/lang/Long;") (Jvm.Term.index (0 : Nat))) "java/lang/Long") X)).before args s = true) : own_cache s ca cl := by
  obtain ⟨hsz, hsize⟩ := IntBox.length_fwd h4 eca AC.1 AC.2.1 AC.2.2
  have hat := IntBox.arrayAt_of AC.1 AC.2.1 AC.2.2
  have h256 : cl.slots.size = 256 := by
    have e := len_toInt hsz
    rw [hsize] at e
    have : ((256 : Int32)).toInt = 256 := by decide
    omega
  have hall := Cond.all_elim eca hat (Cond.before_iff.mp h5)
  refine ⟨AC, h256, fun j hj => ?_⟩
  obtain ⟨q1, -⟩ := and_e (hall j (by rw [h256]; exact hj))
  obtain ⟨x, ex⟩ := exa_v q1
  have E := exa_at ex q1
  obtain ⟨hnn, hback⟩ := IntBox.place_nonneg _ hj
  have eci : (Jvm.Term.static "java/lang/Long$LongCache" "cache" "[Ljava/lang/Long;").eval args s none [j] s = some (.ref ca) := eca
  have ee := elem_f (idx := [j]) (a := Jvm.Term.index 0) (j := j.toInt32) eci (by exact Term.index_eval _) hat hnn
  rw [ee, hback] at ex
  exact ⟨x, ex, E⟩
theorem own_notRev {Z : State} {a0 : Array Value} (hw : ∀ d ∈ tables_1, d.before a0 Z = true) : ∃ c t, Z.vm.findClass "java/lang/Long" = some c ∧ Z.vm.findClass "com/example/heartwood/heartwood/Revision" = some t ∧ Z.vm.assignable c t = false := by
  obtain ⟨t, kt, g1, g2, g3, g4, -⟩ := Cond.instantiable_spec (hw _ (List.mem_of_getElem? (i := 7) rfl))
  obtain ⟨o, ko, o1, o2, o3, -, -⟩ := Cond.noSuperclass_spec (hw _ (List.mem_of_getElem? (i := 43) rfl))
  obtain ⟨n, n0⟩ := found_sup (hw _ (List.mem_of_getElem? (i := 42) rfl))
  obtain ⟨p, k, kp, h1, h2, h3, h4, h5, -, h7⟩ := Cond.superclass_spec n0 (hw _ (List.mem_of_getElem? (i := 42) rfl))
  obtain ⟨c, c0⟩ := found_sup (hw _ (List.mem_of_getElem? (i := 41) rfl))
  obtain ⟨p', k', kp', h1', h2', h3', h4', h5', -, h7'⟩ := Cond.superclass_spec c0 (hw _ (List.mem_of_getElem? (i := 41) rfl))
  cases o1.symm.trans h1
  cases n0.symm.trans h1'
  have ne1 := ids_ne c0 g1 (by decide)
  have ne2 := ids_ne n0 g1 (by decide)
  have ne3 := ids_ne o1 g1 (by decide)
  have g5 := (Bool.or_eq_false_iff.mp g4).1
  refine ⟨c, t, c0, g1, ?_⟩
  show Z.vm.assignableAux (255 + 1) c t = false
  have q0 : ∀ f, Z.vm.isSubclassAux f o t = false := fun f => by
    cases f with
    | zero => rfl
    | succ f => simp [Vm.isSubclassAux, ne3, o2, o3]
  have q1 : ∀ f, Z.vm.isSubclassAux f n t = false := fun f => by
    cases f with
    | zero => rfl
    | succ f => simp [Vm.isSubclassAux, ne2, h2, h4, q0]
  have q2 : ∀ f, Z.vm.isSubclassAux f c t = false := fun f => by
    cases f with
    | zero => rfl
    | succ f => simp [Vm.isSubclassAux, ne1, h2', h4', q1]
  simp [Vm.assignableAux, ne1, h2', g2, h5', g3, g5, Vm.isSubclass, q2]

theorem pd_0 : parseMethodDescriptor "()V" = some ⟨[], none⟩ := by decide +kernel
theorem pd_1 : parseMethodDescriptor "(J)I" = some ⟨[.long], some .int⟩ := by decide +kernel
theorem pd_2 : parseMethodDescriptor "(J)V" = some ⟨[.long], none⟩ := by decide +kernel
theorem pd_3 : parseMethodDescriptor "(II)I" = some ⟨[.int, .int], some .int⟩ := by decide +kernel
theorem pd_4 : parseMethodDescriptor "(JII)V" = some ⟨[.long, .int, .int], none⟩ := by decide +kernel
theorem pd_5 : parseMethodDescriptor "(J)Ljava/lang/Long;" = some ⟨[.long], some (.object "java/lang/Long")⟩ := by decide +kernel
theorem pd_6 : parseMethodDescriptor "(Ljava/lang/Object;)Z" = some ⟨[(.object "java/lang/Object")], some .boolean⟩ := by decide +kernel
theorem pd_7 : parseMethodDescriptor "()I" = some ⟨[], some .int⟩ := by decide +kernel
theorem pn_0 : plainName "java/lang/Record" = true := by first | (simp [plainName, overriddenIn]; done) | decide +kernel
theorem pn_1 : plainName "com/example/heartwood/heartwood/Revision" = true := by first | (simp [plainName, overriddenIn]; done) | decide +kernel
theorem pn_2 : plainName "java/lang/Long" = true := by first | (simp [plainName, overriddenIn]; done) | decide +kernel
theorem pn_3 : plainName "java/lang/Number" = true := by first | (simp [plainName, overriddenIn]; done) | decide +kernel
theorem pn_4 : plainName "com/example/heartwood/heartwood/RevisionEqualsPinLaw" = true := by first | (simp [plainName, overriddenIn]; done) | decide +kernel
theorem d1_0 : decode jdk_29_method_65_code 0 = .ok (.iload_n 0, 1) := by decide +kernel
theorem d1_1 : decode jdk_29_method_65_code 1 = .ok (.iload_n 1, 1) := by decide +kernel
theorem d1_2 : decode jdk_29_method_65_code 2 = .ok (.if_icmp .lt 7, 3) := by decide +kernel
theorem d1_5 : decode jdk_29_method_65_code 5 = .ok (.iload_n 0, 1) := by decide +kernel
theorem d1_6 : decode jdk_29_method_65_code 6 = .ok (.goto 4, 3) := by decide +kernel
theorem d1_9 : decode jdk_29_method_65_code 9 = .ok (.iload_n 1, 1) := by decide +kernel
theorem d1_10 : decode jdk_29_method_65_code 10 = .ok (.ireturn, 1) := by decide +kernel
theorem ef_1 (m : MethodId) (x0 : Int32) (x1 : Int32) : entryFrame m #[(.int x0), (.int x1)] 2 = mkF m 0 #[.val (.int x0), .val (.int x1)] [] := by first | (simp [entryFrame, mkF, argsToLocals, Value.category]; done) | rfl
def Q1 (Z : State) (p1 : Int32) (p2 : Int32) (h0 : Heap) (n0 : Nat) (v : Option Value) (h : Heap) (L : List Loc) : Prop := v = some (.int (own_max p1 p2)) ∧ Fr n0 L ∧ h = h0
set_option maxRecDepth 65536 in
set_option maxHeartbeats 40000000 in
theorem rm1 (l : Launch) (Z : State) (a0 : Array Value) (hw : ∀ d ∈ tables_1, d.before a0 Z = true) (ws : List Jvm.Cond) (p1 : Int32) (p2 : Int32) (h0 : Heap) (n0 : Nat) (Z0 : n0 ≤ h0.size) :
    MetFree l (⟨"java/lang/Math", "max", "(II)I"⟩ : MethodName) (head1 (Jvm.Cond.code (⟨"java/lang/Math", "max", "(II)I"⟩ : MethodName) jdk_29_method_65_code 2 (some .int) :: ws) ({ frames := 0, cells := 0, slots := 0, locals := 0 } : Room)) (fun a U => a = #[(.int p1), (.int p2)] ∧ Z.Warmed39 U.vm ∧ U.heap = h0) (fun _ _ _ _ _ => True) (fun _ U o U' => ∃ v L, o = .returned v ∧ Q1 Z p1 p2 h0 n0 v U'.heap L ∧ FrameEnd U o U' L ({ frames := 0, cells := 0, slots := 0, locals := 0 } : Room).cells ({ frames := 0, cells := 0, slots := 0, locals := 0 } : Room).slots) := by
  refine MetFree.of_bodySF (Jvm.Free.JP.mathPlain rfl (by decide +kernel)) hisR ?_
  intro p e s m args below meth c s₁ Bd hml0 hP hK
  obtain ⟨rfl, hZ, hh⟩ := hP
  have hx := Bd.exec
  have hby := Bd.bytes
  have hml : c.maxLocals = 2 := hml0
  have hown : s.vm.findClass "java/lang/Math" = some m.cls := findClass_of_methodNamed Bd.named
  have hnm := (name_of_methodNamed Bd.named Bd.method).1
  have X0 : Stand p l e ({ frames := 0, cells := 0, slots := 0, locals := 0 } : Room) s m #[(.int p1), (.int p2)] below meth c s₁ [] 0 0 := Stand.of_body Bd
  have e0 : s₁.heap = h0 := by rw [← hh, Bd.state]; rfl
  have N0 := Fr.nil n0
  show OGo p e below (fun s₂ o => ∃ v L, o = .returned v ∧ Q1 Z p1 p2 h0 n0 v s₂.heap L ∧ FrameEnd s o s₂ L ({ frames := 0, cells := 0, slots := 0, locals := 0 } : Room).cells ({ frames := 0, cells := 0, slots := 0, locals := 0 } : Room).slots) _
  refine OGo.to (fun _ k => castTop (ef_1 m p1 p2) k) ?_
  refine OGo.to (fun _ k => XS.iloadN X0.here hx rfl (hb hby d1_0) rfl k) ?_
  show OGo p e below _ (s₁.setTop (mkF m 1 #[.val (.int p1), .val (.int p2)] [(.int p1)]))
  refine OGo.to (fun _ k => XS.iloadN X0.here hx rfl (hb hby d1_1) rfl k) ?_
  show OGo p e below _ (s₁.setTop (mkF m 2 #[.val (.int p1), .val (.int p2)] [(.int p2), (.int p1)]))
  by_cases hc2__1 : p1 < p2
  ·  -- pc 2: yes
    refine OGo.to (fun _ k => XS.icmpYes X0.here hx rfl (pc0 := 2) (pc' := 9) rfl (hb hby d1_2) rfl (tlt hc2__1).1 (by decide) (by decide) k) ?_
    show OGo p e below _ (s₁.setTop (mkF m 9 #[.val (.int p1), .val (.int p2)] []))
    refine OGo.to (fun _ k => XS.iloadN X0.here hx rfl (hb hby d1_9) rfl k) ?_
    show OGo p e below _ (s₁.setTop (mkF m 10 #[.val (.int p1), .val (.int p2)] [(.int p2)]))
    refine OGo.ret (Q := Q1 Z p1 p2 h0 n0) X0 (some (.int p2)) (fun h => by rw [Bd.returns] at h; cases h) Bd.notSynchronized (fun fs hr => retI X0 hx Bd.returns (hb hby d1_10) hr) ?_ (by decide) (by decide)
    show Q1 Z p1 p2 h0 n0 _ s₁.heap _
    rw [e0]
    exact ⟨congrArg (fun z => some (Value.int z)) (show p2 = (own_max p1 p2) from by unfold own_max; rw [if_pos hc2__1]), N0, rfl⟩
  ·  -- pc 2: no
    refine OGo.to (fun _ k => XS.icmpNo X0.here hx rfl (hb hby d1_2) rfl (flt hc2__1).1 k) ?_
    show OGo p e below _ (s₁.setTop (mkF m 5 #[.val (.int p1), .val (.int p2)] []))
    refine OGo.to (fun _ k => XS.iloadN X0.here hx rfl (hb hby d1_5) rfl k) ?_
    show OGo p e below _ (s₁.setTop (mkF m 6 #[.val (.int p1), .val (.int p2)] [(.int p1)]))
    refine OGo.to (fun _ k => XS.goto X0.here hx rfl (pc0 := 6) (pc' := 10) rfl (hb hby d1_6) (by decide) (by decide) k) ?_
    show OGo p e below _ (s₁.setTop (mkF m 10 #[.val (.int p1), .val (.int p2)] [(.int p1)]))
    refine OGo.ret (Q := Q1 Z p1 p2 h0 n0) X0 (some (.int p1)) (fun h => by rw [Bd.returns] at h; cases h) Bd.notSynchronized (fun fs hr => retI X0 hx Bd.returns (hb hby d1_10) hr) ?_ (by decide) (by decide)
    show Q1 Z p1 p2 h0 n0 _ s₁.heap _
    rw [e0]
    exact ⟨congrArg (fun z => some (Value.int z)) (show p1 = (own_max p1 p2) from by unfold own_max; rw [if_neg hc2__1]), N0, rfl⟩
theorem d3_0 : decode jdk_30_method_1_code 0 = .ok (.aload_n 0, 1) := by decide +kernel
theorem d3_1 : decode jdk_30_method_1_code 1 = .ok (.invokespecial 1, 3) := by decide +kernel
theorem d3_4 : decode jdk_30_method_1_code 4 = .ok (.return_, 1) := by decide +kernel
theorem ef_3 (m : MethodId) (x0 : Addr) : entryFrame m #[(.ref x0)] 1 = mkF m 0 #[.val (.ref x0)] [] := by first | (simp [entryFrame, mkF, argsToLocals, Value.category]; done) | rfl
def Q3 (Z : State) (a1 : Addr) (h0 : Heap) (n0 : Nat) (v : Option Value) (h : Heap) (L : List Loc) : Prop := v = none ∧ Fr n0 L ∧ h = h0
set_option maxRecDepth 65536 in
set_option maxHeartbeats 40000000 in
theorem rm3 (l : Launch) (Z : State) (a0 : Array Value) (hw : ∀ d ∈ tables_1, d.before a0 Z = true) (ws : List Jvm.Cond) (a1 : Addr) (h0 : Heap) (n0 : Nat) (Z0 : n0 ≤ h0.size) :
    MetFree l (⟨"java/lang/Record", "<init>", "()V"⟩ : MethodName) (head1 (Jvm.Cond.code (⟨"java/lang/Record", "<init>", "()V"⟩ : MethodName) jdk_30_method_1_code 1 none :: ws) ({ frames := 1, cells := 0, slots := 0, locals := 12 } : Room)) (fun a U => a = #[(.ref a1)] ∧ Z.Warmed39 U.vm ∧ U.heap = h0) (fun _ _ _ _ _ => True) (fun _ U o U' => ∃ v L, o = .returned v ∧ Q3 Z a1 h0 n0 v U'.heap L ∧ FrameEnd U o U' L ({ frames := 1, cells := 0, slots := 0, locals := 12 } : Room).cells ({ frames := 1, cells := 0, slots := 0, locals := 12 } : Room).slots) := by
  refine MetFree.of_bodySF (plainFor_of_name pn_0) hisR ?_
  intro p e s m args below meth c s₁ Bd hml0 hP hK
  obtain ⟨rfl, hZ, hh⟩ := hP
  have hx := Bd.exec
  have hby := Bd.bytes
  have hml : c.maxLocals = 1 := hml0
  have hown : s.vm.findClass "java/lang/Record" = some m.cls := findClass_of_methodNamed Bd.named
  have hnm := (name_of_methodNamed Bd.named Bd.method).1
  have X0 : Stand p l e ({ frames := 1, cells := 0, slots := 0, locals := 12 } : Room) s m #[(.ref a1)] below meth c s₁ [] 0 0 := Stand.of_body Bd
  have e0 : s₁.heap = h0 := by rw [← hh, Bd.state]; rfl
  have N0 := Fr.nil n0
  show OGo p e below (fun s₂ o => ∃ v L, o = .returned v ∧ Q3 Z a1 h0 n0 v s₂.heap L ∧ FrameEnd s o s₂ L ({ frames := 1, cells := 0, slots := 0, locals := 12 } : Room).cells ({ frames := 1, cells := 0, slots := 0, locals := 12 } : Room).slots) _
  refine OGo.to (fun _ k => castTop (ef_3 m a1) k) ?_
  refine OGo.to (fun _ k => XS.aloadN X0.here hx rfl (hb hby d3_0) rfl rfl k) ?_
  show OGo p e below _ (s₁.setTop (mkF m 1 #[.val (.ref a1)] [(.ref a1)]))
  obtain ⟨T_1, X_1, e_1, st_1⟩ := initO X0 hx hZ hown (hw _ (List.mem_of_getElem? (i := 17) rfl)) (hw _ (List.mem_of_getElem? (i := 18) rfl)) (hw _ (List.mem_of_getElem? (i := 19) rfl)) e0 (g := (mkF m 1 #[.val (.ref a1)] [(.ref a1)])) rfl (by rw [hml]; rfl) rfl (hb hby d3_1) (by decide) (W := 0) (by show 2 * 0 + _ ≤ _; exact Nat.le_of_eq rfl) (by decide)
  refine OGo.to st_1 ?_
  show OGo p e below _ (T_1.setTop (mkF m 4 #[.val (.ref a1)] []))
  refine OGo.ret (Q := Q3 Z a1 h0 n0) X_1 none (fun _ => rfl) Bd.notSynchronized (fun fs hr => X_1.returnOut hx Bd.returns (hb hby d3_4) hr) ?_ (by decide) (by decide)
  show Q3 Z a1 h0 n0 _ T_1.heap _
  rw [e_1]
  exact ⟨rfl, N0, rfl⟩
theorem d2_0 : decode prog_16_method_1_code 0 = .ok (.aload_n 0, 1) := by decide +kernel
theorem d2_1 : decode prog_16_method_1_code 1 = .ok (.invokespecial 1, 3) := by decide +kernel
theorem d2_4 : decode prog_16_method_1_code 4 = .ok (.lload_n 1, 1) := by decide +kernel
theorem d2_5 : decode prog_16_method_1_code 5 = .ok (.lconst 0, 1) := by decide +kernel
theorem d2_6 : decode prog_16_method_1_code 6 = .ok (.lcmp, 1) := by decide +kernel
theorem d2_7 : decode prog_16_method_1_code 7 = .ok (.ifCond .lt 12, 3) := by decide +kernel
theorem d2_10 : decode prog_16_method_1_code 10 = .ok (.iload_n 3, 1) := by decide +kernel
theorem d2_11 : decode prog_16_method_1_code 11 = .ok (.ifCond .lt 8, 3) := by decide +kernel
theorem d2_14 : decode prog_16_method_1_code 14 = .ok (.iload 4, 2) := by decide +kernel
theorem d2_16 : decode prog_16_method_1_code 16 = .ok (.ifCond .gt 20, 3) := by decide +kernel
theorem d2_36 : decode prog_16_method_1_code 36 = .ok (.aload_n 0, 1) := by decide +kernel
theorem d2_37 : decode prog_16_method_1_code 37 = .ok (.lload_n 1, 1) := by decide +kernel
theorem d2_38 : decode prog_16_method_1_code 38 = .ok (.putfield 16, 3) := by decide +kernel
theorem d2_41 : decode prog_16_method_1_code 41 = .ok (.aload_n 0, 1) := by decide +kernel
theorem d2_42 : decode prog_16_method_1_code 42 = .ok (.iload_n 3, 1) := by decide +kernel
theorem d2_43 : decode prog_16_method_1_code 43 = .ok (.putfield 22, 3) := by decide +kernel
theorem d2_46 : decode prog_16_method_1_code 46 = .ok (.aload_n 0, 1) := by decide +kernel
theorem d2_47 : decode prog_16_method_1_code 47 = .ok (.iload 4, 2) := by decide +kernel
theorem d2_49 : decode prog_16_method_1_code 49 = .ok (.putfield 26, 3) := by decide +kernel
theorem d2_52 : decode prog_16_method_1_code 52 = .ok (.return_, 1) := by decide +kernel
theorem ef_2 (m : MethodId) (x0 : Addr) (x1 : Int64) (x2 : Int32) (x3 : Int32) : entryFrame m #[(.ref x0), (.long x1), (.int x2), (.int x3)] 5 = mkF m 0 #[.val (.ref x0), .val (.long x1), .second, .val (.int x2), .val (.int x3)] [] := by first | (simp [entryFrame, mkF, argsToLocals, Value.category]; done) | rfl
def Q2 (Z : State) (a1 : Addr) (q1 : Int64) (p1 : Int32) (p2 : Int32) (u0 : Value) (u1 : Value) (u2 : Value) (h0 : Heap) (n0 : Nat) (v : Option Value) (h : Heap) (L : List Loc) : Prop := v = none ∧ Fr n0 L ∧ Keep h0 h [a1] ∧ Fld Z h a1 "com/example/heartwood/heartwood/Revision" "timestamp" "J" (.long q1) ∧ Fld Z h a1 "com/example/heartwood/heartwood/Revision" "counter" "I" (.int p1) ∧ Fld Z h a1 "com/example/heartwood/heartwood/Revision" "clusterId" "I" (.int p2)
set_option maxRecDepth 65536 in
set_option maxHeartbeats 40000000 in
theorem rm2 (l : Launch) (Z : State) (a0 : Array Value) (hw : ∀ d ∈ tables_1, d.before a0 Z = true) (ws : List Jvm.Cond) (a1 : Addr) (q1 : Int64) (p1 : Int32) (p2 : Int32) (u0 : Value) (u1 : Value) (u2 : Value) (h0 : Heap) (n0 : Nat) (Z0 : n0 ≤ h0.size) (E1 : Exa Z h0 a1 "com/example/heartwood/heartwood/Revision") (F0 : Fld Z h0 a1 "com/example/heartwood/heartwood/Revision" "timestamp" "J" u0) (F1 : Fld Z h0 a1 "com/example/heartwood/heartwood/Revision" "counter" "I" u1) (F2 : Fld Z h0 a1 "com/example/heartwood/heartwood/Revision" "clusterId" "I" u2) (g1 : n0 ≤ a1) (hq : ¬ (q1 < (0 : Int64))) (hp : ¬ (p1 < (0 : Int32))) (hk : (0 : Int32) < p2) :
    MetFree l (⟨"com/example/heartwood/heartwood/Revision", "<init>", "(JII)V"⟩ : MethodName) (head1 (Jvm.Cond.code (⟨"com/example/heartwood/heartwood/Revision", "<init>", "(JII)V"⟩ : MethodName) prog_16_method_1_code 5 none :: ws) ({ frames := 2, cells := 0, slots := 0, locals := 24 } : Room)) (fun a U => a = #[(.ref a1), (.long q1), (.int p1), (.int p2)] ∧ Z.Warmed39 U.vm ∧ U.heap = h0) (fun _ _ _ _ _ => True) (fun _ U o U' => ∃ v L, o = .returned v ∧ Q2 Z a1 q1 p1 p2 u0 u1 u2 h0 n0 v U'.heap L ∧ FrameEnd U o U' L ({ frames := 2, cells := 0, slots := 0, locals := 24 } : Room).cells ({ frames := 2, cells := 0, slots := 0, locals := 24 } : Room).slots) := by
  refine MetFree.of_bodySF (plainFor_of_name pn_1) hisR ?_
  intro p e s m args below meth c s₁ Bd hml0 hP hK
  obtain ⟨rfl, hZ, hh⟩ := hP
  have hx := Bd.exec
  have hby := Bd.bytes
  have hml : c.maxLocals = 5 := hml0
  have hown : s.vm.findClass "com/example/heartwood/heartwood/Revision" = some m.cls := findClass_of_methodNamed Bd.named
  have hnm := (name_of_methodNamed Bd.named Bd.method).1
  have X0 : Stand p l e ({ frames := 2, cells := 0, slots := 0, locals := 24 } : Room) s m #[(.ref a1), (.long q1), (.int p1), (.int p2)] below meth c s₁ [] 0 0 := Stand.of_body Bd
  have e0 : s₁.heap = h0 := by rw [← hh, Bd.state]; rfl
  have N0 := Fr.nil n0
  show OGo p e below (fun s₂ o => ∃ v L, o = .returned v ∧ Q2 Z a1 q1 p1 p2 u0 u1 u2 h0 n0 v s₂.heap L ∧ FrameEnd s o s₂ L ({ frames := 2, cells := 0, slots := 0, locals := 24 } : Room).cells ({ frames := 2, cells := 0, slots := 0, locals := 24 } : Room).slots) _
  refine OGo.to (fun _ k => castTop (ef_2 m a1 q1 p1 p2) k) ?_
  refine OGo.to (fun _ k => XS.aloadN X0.here hx rfl (hb hby d2_0) rfl rfl k) ?_
  show OGo p e below _ (s₁.setTop (mkF m 1 #[.val (.ref a1), .val (.long q1), .second, .val (.int p1), .val (.int p2)] [(.ref a1)]))
  obtain ⟨_, T_1, Lc_1, X_1, hQ_1, st_1⟩ := own_un X0 (Q := Q3 Z a1 h0 n0) (rc := 0) (rs := 0) (W := fun v B => Steps p.tables e below (s₁.setTop (mkF m 1 #[.val (.ref a1), .val (.long q1), .second, .val (.int p1), .val (.int p2)] [(.ref a1)])) (B.setTop { (mkF m 1 #[.val (.ref a1), .val (.long q1), .second, .val (.int p1), .val (.int p2)] [(.ref a1)]) with pc := 4, stack := v.toList ++ [] })) <| X0.specialBack hx (y := (⟨"java/lang/Record", "<init>", "()V"⟩ : MethodName)) rfl hown (mvT hZ (hw _ (List.mem_of_getElem? (i := 12) rfl))) (mvT hZ (hw _ (List.mem_of_getElem? (i := 13) rfl))) (mvT hZ (hw _ (List.mem_of_getElem? (i := 16) rfl))) (by decide) (backOf (W := 0) (rm3 l Z a0 hw [] a1 h0 n0 Z0 ) hZ (hw _ (List.mem_of_getElem? (i := 16) rfl)) (hw _ (List.mem_of_getElem? (i := 15) rfl)) (by decide) (by decide)) (g := (mkF m 1 #[.val (.ref a1), .val (.long q1), .second, .val (.int p1), .val (.int p2)] [(.ref a1)])) rfl (by rw [hml]; rfl) (Steps.refl _) (a := a1) (argsL := []) (rest := []) (lenOf pd_0 rfl) rfl (by show 2 * 0 + _ ≤ _; exact Nat.le_of_eq rfl) (hb hby d2_1) (fun _ _ => ⟨rfl, e0, (by decide : 0 + 0 ≤ _), (by decide : 0 + 0 ≤ _)⟩)
  obtain ⟨rfl, N_1q, e_1⟩ := hQ_1
  have N_1 := Fr.app N0 N_1q
  refine OGo.to (fun _ k => st_1.trans k) ?_
  show OGo p e below _ (T_1.setTop (mkF m 4 #[.val (.ref a1), .val (.long q1), .second, .val (.int p1), .val (.int p2)] []))
  refine OGo.to (fun _ k => XS.lloadN X_1.here hx rfl (hb hby d2_4) rfl k) ?_
  show OGo p e below _ (T_1.setTop (mkF m 5 #[.val (.ref a1), .val (.long q1), .second, .val (.int p1), .val (.int p2)] [(.long q1)]))
  refine OGo.to (fun _ k => XS.lconst X_1.here hx rfl (hb hby d2_5) k) ?_
  show OGo p e below _ (T_1.setTop (mkF m 6 #[.val (.ref a1), .val (.long q1), .second, .val (.int p1), .val (.int p2)] [(.long (0 : Int64)), (.long q1)]))
  refine OGo.to (fun _ k => XS.lcmp X_1.here hx rfl (hb hby d2_6) rfl k) ?_
  show OGo p e below _ (T_1.setTop (mkF m 7 #[.val (.ref a1), .val (.long q1), .second, .val (.int p1), .val (.int p2)] [(.int (lcmpW q1 (0 : Int64)))]))
  have hc7__2 : ¬ (q1 < (0 : Int64)) := hq
  refine OGo.to (fun _ k => XS.ifNo X_1.here hx rfl (hb hby d2_7) rfl ((if0 _ _).trans (flt (mt (lw_lt q1 (0 : Int64)).mp hc7__2)).1) k) ?_
  show OGo p e below _ (T_1.setTop (mkF m 10 #[.val (.ref a1), .val (.long q1), .second, .val (.int p1), .val (.int p2)] []))
  refine OGo.to (fun _ k => XS.iloadN X_1.here hx rfl (hb hby d2_10) rfl k) ?_
  show OGo p e below _ (T_1.setTop (mkF m 11 #[.val (.ref a1), .val (.long q1), .second, .val (.int p1), .val (.int p2)] [(.int p1)]))
  have hc11__3 : ¬ (p1 < (0 : Int32)) := hp
  refine OGo.to (fun _ k => XS.ifNo X_1.here hx rfl (hb hby d2_11) rfl ((if0 _ _).trans (flt hc11__3).1) k) ?_
  show OGo p e below _ (T_1.setTop (mkF m 14 #[.val (.ref a1), .val (.long q1), .second, .val (.int p1), .val (.int p2)] []))
  refine OGo.to (fun _ k => XS.iload X_1.here hx rfl (hb hby d2_14) rfl k) ?_
  show OGo p e below _ (T_1.setTop (mkF m 16 #[.val (.ref a1), .val (.long q1), .second, .val (.int p1), .val (.int p2)] [(.int p2)]))
  have hc16__4 : (0 : Int32) < p2 := hk
  refine OGo.to (fun _ k => XS.ifYes X_1.here hx rfl (pc0 := 16) (pc' := 36) rfl (hb hby d2_16) rfl ((if0 _ _).trans (tlt hc16__4).2.2.1) (by decide) (by decide) k) ?_
  show OGo p e below _ (T_1.setTop (mkF m 36 #[.val (.ref a1), .val (.long q1), .second, .val (.int p1), .val (.int p2)] []))
  refine OGo.to (fun _ k => XS.aloadN X_1.here hx rfl (hb hby d2_36) rfl rfl k) ?_
  show OGo p e below _ (T_1.setTop (mkF m 37 #[.val (.ref a1), .val (.long q1), .second, .val (.int p1), .val (.int p2)] [(.ref a1)]))
  refine OGo.to (fun _ k => XS.lloadN X_1.here hx rfl (hb hby d2_37) rfl k) ?_
  show OGo p e below _ (T_1.setTop (mkF m 38 #[.val (.ref a1), .val (.long q1), .second, .val (.int p1), .val (.int p2)] [(.long q1), (.ref a1)]))
  obtain ⟨T_5, h_5, X_5, e_5, W_5, st_5⟩ := putF X_1 hx hZ hown (host := "") (Or.inl (hw _ (List.mem_of_getElem? (i := 20) rfl))) Via.refl e_1 F0 E1 (Or.inr ⟨(hw _ (List.mem_of_getElem? (i := 21) rfl)), rfl, hnm⟩) (hw _ (List.mem_of_getElem? (i := 7) rfl)) (ty := .long) (by decide) rfl rfl (g := (mkF m 38 #[.val (.ref a1), .val (.long q1), .second, .val (.int p1), .val (.int p2)] [(.long q1), (.ref a1)])) rfl rfl (hb hby d2_38)
  refine OGo.to st_5 ?_
  have Fw_5 : Fld Z h_5 a1 "com/example/heartwood/heartwood/Revision" "timestamp" "J" (.long q1) := F0.same W_5
  have N_5 := Fr.snoc X_5 N_1 g1
  have z_6 : n0 ≤ h_5.size := Nat.le_trans Z0 (Keep.of_wr W_5).1
  have K_7 : Keep h0 h_5 [a1] := (Keep.refl h0 [a1]).wr W_5 (Or.inl (List.mem_of_getElem? (i := 0) rfl))
  show OGo p e below _ (T_5.setTop (mkF m 41 #[.val (.ref a1), .val (.long q1), .second, .val (.int p1), .val (.int p2)] []))
  refine OGo.to (fun _ k => XS.aloadN X_5.here hx rfl (hb hby d2_41) rfl rfl k) ?_
  show OGo p e below _ (T_5.setTop (mkF m 42 #[.val (.ref a1), .val (.long q1), .second, .val (.int p1), .val (.int p2)] [(.ref a1)]))
  refine OGo.to (fun _ k => XS.iloadN X_5.here hx rfl (hb hby d2_42) rfl k) ?_
  show OGo p e below _ (T_5.setTop (mkF m 43 #[.val (.ref a1), .val (.long q1), .second, .val (.int p1), .val (.int p2)] [(.int p1), (.ref a1)]))
  have f_8 : Exa Z h_5 a1 "com/example/heartwood/heartwood/Revision" := (E1.wr W_5)
  have f_9 : Fld Z h_5 a1 "com/example/heartwood/heartwood/Revision" "counter" "I" u1 := (F1.other W_5 (Or.inr (slot_ne (Or.inr (hw _ (List.mem_of_getElem? (i := 23) rfl))) (Or.inr (hw _ (List.mem_of_getElem? (i := 21) rfl))) (by decide) (t := .int) (t' := .long) (by decide) (by decide))))
  obtain ⟨T_10, h_10, X_10, e_10, W_10, st_10⟩ := putF X_5 hx hZ hown (host := "") (Or.inl (hw _ (List.mem_of_getElem? (i := 22) rfl))) Via.refl e_5 f_9 f_8 (Or.inr ⟨(hw _ (List.mem_of_getElem? (i := 23) rfl)), rfl, hnm⟩) (hw _ (List.mem_of_getElem? (i := 7) rfl)) (ty := .int) (by decide) rfl rfl (g := (mkF m 43 #[.val (.ref a1), .val (.long q1), .second, .val (.int p1), .val (.int p2)] [(.int p1), (.ref a1)])) rfl rfl (hb hby d2_43)
  refine OGo.to st_10 ?_
  have Fw_10 : Fld Z h_10 a1 "com/example/heartwood/heartwood/Revision" "counter" "I" (.int p1) := f_9.same W_10
  have N_10 := Fr.snoc X_10 N_5 g1
  have z_11 : n0 ≤ h_10.size := Nat.le_trans z_6 (Keep.of_wr W_10).1
  have K_12 : Keep h0 h_10 [a1] := K_7.wr W_10 (Or.inl (List.mem_of_getElem? (i := 0) rfl))
  show OGo p e below _ (T_10.setTop (mkF m 46 #[.val (.ref a1), .val (.long q1), .second, .val (.int p1), .val (.int p2)] []))
  refine OGo.to (fun _ k => XS.aloadN X_10.here hx rfl (hb hby d2_46) rfl rfl k) ?_
  show OGo p e below _ (T_10.setTop (mkF m 47 #[.val (.ref a1), .val (.long q1), .second, .val (.int p1), .val (.int p2)] [(.ref a1)]))
  refine OGo.to (fun _ k => XS.iload X_10.here hx rfl (hb hby d2_47) rfl k) ?_
  show OGo p e below _ (T_10.setTop (mkF m 49 #[.val (.ref a1), .val (.long q1), .second, .val (.int p1), .val (.int p2)] [(.int p2), (.ref a1)]))
  have f_13 : Exa Z h_10 a1 "com/example/heartwood/heartwood/Revision" := (f_8.wr W_10)
  have f_14 : Fld Z h_10 a1 "com/example/heartwood/heartwood/Revision" "clusterId" "I" u2 := ((F2.other W_5 (Or.inr (slot_ne (Or.inr (hw _ (List.mem_of_getElem? (i := 25) rfl))) (Or.inr (hw _ (List.mem_of_getElem? (i := 21) rfl))) (by decide) (t := .int) (t' := .long) (by decide) (by decide)))).other W_10 (Or.inr (slot_ne (Or.inr (hw _ (List.mem_of_getElem? (i := 25) rfl))) (Or.inr (hw _ (List.mem_of_getElem? (i := 23) rfl))) (by decide) (t := .int) (t' := .int) (by decide) (by decide))))
  obtain ⟨T_15, h_15, X_15, e_15, W_15, st_15⟩ := putF X_10 hx hZ hown (host := "") (Or.inl (hw _ (List.mem_of_getElem? (i := 24) rfl))) Via.refl e_10 f_14 f_13 (Or.inr ⟨(hw _ (List.mem_of_getElem? (i := 25) rfl)), rfl, hnm⟩) (hw _ (List.mem_of_getElem? (i := 7) rfl)) (ty := .int) (by decide) rfl rfl (g := (mkF m 49 #[.val (.ref a1), .val (.long q1), .second, .val (.int p1), .val (.int p2)] [(.int p2), (.ref a1)])) rfl rfl (hb hby d2_49)
  refine OGo.to st_15 ?_
  have Fw_15 : Fld Z h_15 a1 "com/example/heartwood/heartwood/Revision" "clusterId" "I" (.int p2) := f_14.same W_15
  have N_15 := Fr.snoc X_15 N_10 g1
  have z_16 : n0 ≤ h_15.size := Nat.le_trans z_11 (Keep.of_wr W_15).1
  have K_17 : Keep h0 h_15 [a1] := K_12.wr W_15 (Or.inl (List.mem_of_getElem? (i := 0) rfl))
  show OGo p e below _ (T_15.setTop (mkF m 52 #[.val (.ref a1), .val (.long q1), .second, .val (.int p1), .val (.int p2)] []))
  refine OGo.ret (Q := Q2 Z a1 q1 p1 p2 u0 u1 u2 h0 n0) X_15 none (fun _ => rfl) Bd.notSynchronized (fun fs hr => X_15.returnOut hx Bd.returns (hb hby d2_52) hr) ?_ (by decide) (by decide)
  have f_18 : Fld Z h_15 a1 "com/example/heartwood/heartwood/Revision" "timestamp" "J" (.long q1) := ((Fw_5.other W_10 (Or.inr (slot_ne (Or.inr (hw _ (List.mem_of_getElem? (i := 21) rfl))) (Or.inr (hw _ (List.mem_of_getElem? (i := 23) rfl))) (by decide) (t := .long) (t' := .int) (by decide) (by decide)))).other W_15 (Or.inr (slot_ne (Or.inr (hw _ (List.mem_of_getElem? (i := 21) rfl))) (Or.inr (hw _ (List.mem_of_getElem? (i := 25) rfl))) (by decide) (t := .long) (t' := .int) (by decide) (by decide))))
  have f_19 : Fld Z h_15 a1 "com/example/heartwood/heartwood/Revision" "counter" "I" (.int p1) := (Fw_10.other W_15 (Or.inr (slot_ne (Or.inr (hw _ (List.mem_of_getElem? (i := 23) rfl))) (Or.inr (hw _ (List.mem_of_getElem? (i := 25) rfl))) (by decide) (t := .int) (t' := .int) (by decide) (by decide))))
  show Q2 Z a1 q1 p1 p2 u0 u1 u2 h0 n0 _ T_15.heap _
  rw [e_15]
  exact ⟨rfl, N_15, K_17, f_18, f_19, Fw_15⟩
theorem d8_0 : decode jdk_35_method_36_code 0 = .ok (.lload_n 0, 1) := by decide +kernel
theorem d8_1 : decode jdk_35_method_36_code 1 = .ok (.lload_n 0, 1) := by decide +kernel
theorem d8_2 : decode jdk_35_method_36_code 2 = .ok (.bipush 32, 2) := by decide +kernel
theorem d8_4 : decode jdk_35_method_36_code 4 = .ok (.lushr, 1) := by decide +kernel
theorem d8_5 : decode jdk_35_method_36_code 5 = .ok (.lxor, 1) := by decide +kernel
theorem d8_6 : decode jdk_35_method_36_code 6 = .ok (.l2i, 1) := by decide +kernel
theorem d8_7 : decode jdk_35_method_36_code 7 = .ok (.ireturn, 1) := by decide +kernel
theorem ef_8 (m : MethodId) (x0 : Int64) : entryFrame m #[(.long x0)] 2 = mkF m 0 #[.val (.long x0), .second] [] := by first | (simp [entryFrame, mkF, argsToLocals, Value.category]; done) | rfl
def Q8 (Z : State) (q1 : Int64) (h0 : Heap) (n0 : Nat) (v : Option Value) (h : Heap) (L : List Loc) : Prop := v = some (.int (own_lh q1)) ∧ Fr n0 L ∧ h = h0
set_option maxRecDepth 65536 in
set_option maxHeartbeats 40000000 in
theorem rm8 (l : Launch) (Z : State) (a0 : Array Value) (hw : ∀ d ∈ tables_1, d.before a0 Z = true) (ws : List Jvm.Cond) (q1 : Int64) (h0 : Heap) (n0 : Nat) (Z0 : n0 ≤ h0.size) :
    MetFree l (⟨"java/lang/Long", "hashCode", "(J)I"⟩ : MethodName) (head1 (Jvm.Cond.code (⟨"java/lang/Long", "hashCode", "(J)I"⟩ : MethodName) jdk_35_method_36_code 2 (some .int) :: ws) ({ frames := 0, cells := 0, slots := 0, locals := 0 } : Room)) (fun a U => a = #[(.long q1)] ∧ Z.Warmed39 U.vm ∧ U.heap = h0) (fun _ _ _ _ _ => True) (fun _ U o U' => ∃ v L, o = .returned v ∧ Q8 Z q1 h0 n0 v U'.heap L ∧ FrameEnd U o U' L ({ frames := 0, cells := 0, slots := 0, locals := 0 } : Room).cells ({ frames := 0, cells := 0, slots := 0, locals := 0 } : Room).slots) := by
  refine MetFree.of_bodySF (plainFor_of_name pn_2) hisR ?_
  intro p e s m args below meth c s₁ Bd hml0 hP hK
  obtain ⟨rfl, hZ, hh⟩ := hP
  have hx := Bd.exec
  have hby := Bd.bytes
  have hml : c.maxLocals = 2 := hml0
  have hown : s.vm.findClass "java/lang/Long" = some m.cls := findClass_of_methodNamed Bd.named
  have hnm := (name_of_methodNamed Bd.named Bd.method).1
  have X0 : Stand p l e ({ frames := 0, cells := 0, slots := 0, locals := 0 } : Room) s m #[(.long q1)] below meth c s₁ [] 0 0 := Stand.of_body Bd
  have e0 : s₁.heap = h0 := by rw [← hh, Bd.state]; rfl
  have N0 := Fr.nil n0
  show OGo p e below (fun s₂ o => ∃ v L, o = .returned v ∧ Q8 Z q1 h0 n0 v s₂.heap L ∧ FrameEnd s o s₂ L ({ frames := 0, cells := 0, slots := 0, locals := 0 } : Room).cells ({ frames := 0, cells := 0, slots := 0, locals := 0 } : Room).slots) _
  refine OGo.to (fun _ k => castTop (ef_8 m q1) k) ?_
  refine OGo.to (fun _ k => XS.lloadN X0.here hx rfl (hb hby d8_0) rfl k) ?_
  show OGo p e below _ (s₁.setTop (mkF m 1 #[.val (.long q1), .second] [(.long q1)]))
  refine OGo.to (fun _ k => XS.lloadN X0.here hx rfl (hb hby d8_1) rfl k) ?_
  show OGo p e below _ (s₁.setTop (mkF m 2 #[.val (.long q1), .second] [(.long q1), (.long q1)]))
  refine OGo.to (fun _ k => XS.bipush X0.here hx rfl (hb hby d8_2) k) ?_
  show OGo p e below _ (s₁.setTop (mkF m 4 #[.val (.long q1), .second] [(.int (32 : Int32)), (.long q1), (.long q1)]))
  refine OGo.to (fun _ k => XS.lushr X0.here hx rfl (hb hby d8_4) rfl k) ?_
  show OGo p e below _ (s₁.setTop (mkF m 5 #[.val (.long q1), .second] [(.long ((q1.toUInt64 >>> ((32 : Int32) &&& 0x3f).toInt64.toUInt64).toInt64)), (.long q1)]))
  refine OGo.to (fun _ k => XS.lxor X0.here hx rfl (hb hby d8_5) rfl k) ?_
  show OGo p e below _ (s₁.setTop (mkF m 6 #[.val (.long q1), .second] [(.long (q1 ^^^ ((q1.toUInt64 >>> ((32 : Int32) &&& 0x3f).toInt64.toUInt64).toInt64)))]))
  refine OGo.to (fun _ k => XS.l2i X0.here hx rfl (hb hby d8_6) rfl k) ?_
  show OGo p e below _ (s₁.setTop (mkF m 7 #[.val (.long q1), .second] [(.int ((q1 ^^^ ((q1.toUInt64 >>> ((32 : Int32) &&& 0x3f).toInt64.toUInt64).toInt64)).toInt32))]))
  refine OGo.ret (Q := Q8 Z q1 h0 n0) X0 (some (.int ((q1 ^^^ ((q1.toUInt64 >>> ((32 : Int32) &&& 0x3f).toInt64.toUInt64).toInt64)).toInt32))) (fun h => by rw [Bd.returns] at h; cases h) Bd.notSynchronized (fun fs hr => retI X0 hx Bd.returns (hb hby d8_7) hr) ?_ (by decide) (by decide)
  show Q8 Z q1 h0 n0 _ s₁.heap _
  rw [e0]
  exact ⟨rfl, N0, rfl⟩
theorem d7_0 : decode prog_16_method_5_code 0 = .ok (.aload_n 0, 1) := by decide +kernel
theorem d7_1 : decode prog_16_method_5_code 1 = .ok (.getfield 16, 3) := by decide +kernel
theorem d7_4 : decode prog_16_method_5_code 4 = .ok (.invokestatic 81, 3) := by decide +kernel
theorem d7_7 : decode prog_16_method_5_code 7 = .ok (.bipush 31, 2) := by decide +kernel
theorem d7_9 : decode prog_16_method_5_code 9 = .ok (.imul, 1) := by decide +kernel
theorem d7_10 : decode prog_16_method_5_code 10 = .ok (.aload_n 0, 1) := by decide +kernel
theorem d7_11 : decode prog_16_method_5_code 11 = .ok (.getfield 22, 3) := by decide +kernel
theorem d7_14 : decode prog_16_method_5_code 14 = .ok (.iadd, 1) := by decide +kernel
theorem d7_15 : decode prog_16_method_5_code 15 = .ok (.bipush 31, 2) := by decide +kernel
theorem d7_17 : decode prog_16_method_5_code 17 = .ok (.imul, 1) := by decide +kernel
theorem d7_18 : decode prog_16_method_5_code 18 = .ok (.aload_n 0, 1) := by decide +kernel
theorem d7_19 : decode prog_16_method_5_code 19 = .ok (.getfield 26, 3) := by decide +kernel
theorem d7_22 : decode prog_16_method_5_code 22 = .ok (.iadd, 1) := by decide +kernel
theorem d7_23 : decode prog_16_method_5_code 23 = .ok (.ireturn, 1) := by decide +kernel
theorem ef_7 (m : MethodId) (x0 : Addr) : entryFrame m #[(.ref x0)] 1 = mkF m 0 #[.val (.ref x0)] [] := by first | (simp [entryFrame, mkF, argsToLocals, Value.category]; done) | rfl
def Q7 (Z : State) (a1 : Addr) (t1 : Int64) (c1 : Int32) (k1 : Int32) (h0 : Heap) (n0 : Nat) (v : Option Value) (h : Heap) (L : List Loc) : Prop := v = some (.int (own_h t1 c1 k1)) ∧ Fr n0 L ∧ h = h0
set_option maxRecDepth 65536 in
set_option maxHeartbeats 40000000 in
theorem rm7 (l : Launch) (Z : State) (a0 : Array Value) (hw : ∀ d ∈ tables_1, d.before a0 Z = true) (ws : List Jvm.Cond) (a1 : Addr) (t1 : Int64) (c1 : Int32) (k1 : Int32) (h0 : Heap) (n0 : Nat) (Z0 : n0 ≤ h0.size) (G0 : Fld Z h0 a1 "com/example/heartwood/heartwood/Revision" "timestamp" "J" (.long t1)) (G1 : Fld Z h0 a1 "com/example/heartwood/heartwood/Revision" "counter" "I" (.int c1)) (G2 : Fld Z h0 a1 "com/example/heartwood/heartwood/Revision" "clusterId" "I" (.int k1)) :
    MetFree l (⟨"com/example/heartwood/heartwood/Revision", "hashCode", "()I"⟩ : MethodName) (head1 (Jvm.Cond.code (⟨"com/example/heartwood/heartwood/Revision", "hashCode", "()I"⟩ : MethodName) prog_16_method_5_code 1 (some .int) :: ws) ({ frames := 1, cells := 0, slots := 0, locals := 13 } : Room)) (fun a U => a = #[(.ref a1)] ∧ Z.Warmed39 U.vm ∧ U.heap = h0) (fun _ _ _ _ _ => True) (fun _ U o U' => ∃ v L, o = .returned v ∧ Q7 Z a1 t1 c1 k1 h0 n0 v U'.heap L ∧ FrameEnd U o U' L ({ frames := 1, cells := 0, slots := 0, locals := 13 } : Room).cells ({ frames := 1, cells := 0, slots := 0, locals := 13 } : Room).slots) := by
  refine MetFree.of_bodySF (plainFor_of_name pn_1) hisR ?_
  intro p e s m args below meth c s₁ Bd hml0 hP hK
  obtain ⟨rfl, hZ, hh⟩ := hP
  have hx := Bd.exec
  have hby := Bd.bytes
  have hml : c.maxLocals = 1 := hml0
  have hown : s.vm.findClass "com/example/heartwood/heartwood/Revision" = some m.cls := findClass_of_methodNamed Bd.named
  have hnm := (name_of_methodNamed Bd.named Bd.method).1
  have X0 : Stand p l e ({ frames := 1, cells := 0, slots := 0, locals := 13 } : Room) s m #[(.ref a1)] below meth c s₁ [] 0 0 := Stand.of_body Bd
  have e0 : s₁.heap = h0 := by rw [← hh, Bd.state]; rfl
  have N0 := Fr.nil n0
  show OGo p e below (fun s₂ o => ∃ v L, o = .returned v ∧ Q7 Z a1 t1 c1 k1 h0 n0 v s₂.heap L ∧ FrameEnd s o s₂ L ({ frames := 1, cells := 0, slots := 0, locals := 13 } : Room).cells ({ frames := 1, cells := 0, slots := 0, locals := 13 } : Room).slots) _
  refine OGo.to (fun _ k => castTop (ef_7 m a1) k) ?_
  refine OGo.to (fun _ k => XS.aloadN X0.here hx rfl (hb hby d7_0) rfl rfl k) ?_
  show OGo p e below _ (s₁.setTop (mkF m 1 #[.val (.ref a1)] [(.ref a1)]))
  obtain ⟨T_1, X_1, e_1, st_1⟩ := getF X0 hx hZ hown (host := "") (Or.inl (hw _ (List.mem_of_getElem? (i := 20) rfl))) Via.refl e0 G0 (g := (mkF m 1 #[.val (.ref a1)] [(.ref a1)])) rfl rfl (hb hby d7_1)
  refine OGo.to st_1 ?_
  show OGo p e below _ (T_1.setTop (mkF m 4 #[.val (.ref a1)] [(.long t1)]))
  obtain ⟨_, T_2, Lc_2, X_2, hQ_2, st_2⟩ := own_un X_1 (Q := Q8 Z t1 h0 n0) (rc := 0) (rs := 0) (W := fun v B => ∀ target, Steps p.tables e below (B.setTop { (mkF m 4 #[.val (.ref a1)] [(.long t1)]) with pc := 7, stack := v.toList ++ [] }) target → Steps p.tables e below (T_1.setTop (mkF m 4 #[.val (.ref a1)] [(.long t1)])) target) <| Jvm.LawKit.callS X_1 hx (y := (⟨"java/lang/Long", "hashCode", "(J)I"⟩ : MethodName)) hown (mvT hZ (hw _ (List.mem_of_getElem? (i := 49) rfl))) (mvT hZ (hw _ (List.mem_of_getElem? (i := 50) rfl))) (mvT hZ (hw _ (List.mem_of_getElem? (i := 28) rfl))) (mvT hZ (hw _ (List.mem_of_getElem? (i := 51) rfl))) (by decide) (backOf (W := 0) (rm8 l Z a0 hw [] t1 h0 n0 Z0 ) hZ (hw _ (List.mem_of_getElem? (i := 51) rfl)) (hw _ (List.mem_of_getElem? (i := 28) rfl)) (by decide) (by decide)) (g := (mkF m 4 #[.val (.ref a1)] [(.long t1)])) rfl (by rw [hml]; rfl) (argsL := [(.long t1)]) (rest := []) (lenOf pd_1 rfl) rfl (by show 2 * 0 + _ ≤ _; exact Nat.le_of_eq rfl) (hb hby d7_4) (fun _ _ => ⟨rfl, e_1, (by decide : 0 + 0 ≤ _), (by decide : 0 + 0 ≤ _)⟩)
  obtain ⟨rfl, N_2q, e_2⟩ := hQ_2
  have N_2 := Fr.app N0 N_2q
  refine OGo.to st_2 ?_
  show OGo p e below _ (T_2.setTop (mkF m 7 #[.val (.ref a1)] [(.int (own_lh t1))]))
  refine OGo.to (fun _ k => XS.bipush X_2.here hx rfl (hb hby d7_7) k) ?_
  show OGo p e below _ (T_2.setTop (mkF m 9 #[.val (.ref a1)] [(.int (31 : Int32)), (.int (own_lh t1))]))
  refine OGo.to (fun _ k => XS.imul X_2.here hx rfl (hb hby d7_9) rfl k) ?_
  show OGo p e below _ (T_2.setTop (mkF m 10 #[.val (.ref a1)] [(.int ((own_lh t1) * (31 : Int32)))]))
  refine OGo.to (fun _ k => XS.aloadN X_2.here hx rfl (hb hby d7_10) rfl rfl k) ?_
  show OGo p e below _ (T_2.setTop (mkF m 11 #[.val (.ref a1)] [(.ref a1), (.int ((own_lh t1) * (31 : Int32)))]))
  obtain ⟨T_3, X_3, e_3, st_3⟩ := getF X_2 hx hZ hown (host := "") (Or.inl (hw _ (List.mem_of_getElem? (i := 22) rfl))) Via.refl e_2 G1 (g := (mkF m 11 #[.val (.ref a1)] [(.ref a1), (.int ((own_lh t1) * (31 : Int32)))])) rfl rfl (hb hby d7_11)
  refine OGo.to st_3 ?_
  show OGo p e below _ (T_3.setTop (mkF m 14 #[.val (.ref a1)] [(.int c1), (.int ((own_lh t1) * (31 : Int32)))]))
  refine OGo.to (fun _ k => XS.iadd X_3.here hx rfl (hb hby d7_14) rfl k) ?_
  show OGo p e below _ (T_3.setTop (mkF m 15 #[.val (.ref a1)] [(.int (((own_lh t1) * (31 : Int32)) + c1))]))
  refine OGo.to (fun _ k => XS.bipush X_3.here hx rfl (hb hby d7_15) k) ?_
  show OGo p e below _ (T_3.setTop (mkF m 17 #[.val (.ref a1)] [(.int (31 : Int32)), (.int (((own_lh t1) * (31 : Int32)) + c1))]))
  refine OGo.to (fun _ k => XS.imul X_3.here hx rfl (hb hby d7_17) rfl k) ?_
  show OGo p e below _ (T_3.setTop (mkF m 18 #[.val (.ref a1)] [(.int ((((own_lh t1) * (31 : Int32)) + c1) * (31 : Int32)))]))
  refine OGo.to (fun _ k => XS.aloadN X_3.here hx rfl (hb hby d7_18) rfl rfl k) ?_
  show OGo p e below _ (T_3.setTop (mkF m 19 #[.val (.ref a1)] [(.ref a1), (.int ((((own_lh t1) * (31 : Int32)) + c1) * (31 : Int32)))]))
  obtain ⟨T_4, X_4, e_4, st_4⟩ := getF X_3 hx hZ hown (host := "") (Or.inl (hw _ (List.mem_of_getElem? (i := 24) rfl))) Via.refl e_3 G2 (g := (mkF m 19 #[.val (.ref a1)] [(.ref a1), (.int ((((own_lh t1) * (31 : Int32)) + c1) * (31 : Int32)))])) rfl rfl (hb hby d7_19)
  refine OGo.to st_4 ?_
  show OGo p e below _ (T_4.setTop (mkF m 22 #[.val (.ref a1)] [(.int k1), (.int ((((own_lh t1) * (31 : Int32)) + c1) * (31 : Int32)))]))
  refine OGo.to (fun _ k => XS.iadd X_4.here hx rfl (hb hby d7_22) rfl k) ?_
  show OGo p e below _ (T_4.setTop (mkF m 23 #[.val (.ref a1)] [(.int (((((own_lh t1) * (31 : Int32)) + c1) * (31 : Int32)) + k1))]))
  refine OGo.ret (Q := Q7 Z a1 t1 c1 k1 h0 n0) X_4 (some (.int (((((own_lh t1) * (31 : Int32)) + c1) * (31 : Int32)) + k1))) (fun h => by rw [Bd.returns] at h; cases h) Bd.notSynchronized (fun fs hr => retI X_4 hx Bd.returns (hb hby d7_23) hr) ?_ (by decide) (by decide)
  show Q7 Z a1 t1 c1 k1 h0 n0 _ T_4.heap _
  rw [e_4]
  exact ⟨rfl, N_2, rfl⟩
theorem d6_0 : decode prog_16_method_4_code 0 = .ok (.aload_n 1, 1) := by decide +kernel
theorem d6_1 : decode prog_16_method_4_code 1 = .ok (.instanceof 17, 3) := by decide +kernel
theorem d6_4 : decode prog_16_method_4_code 4 = .ok (.ifCond .eq 46, 3) := by decide +kernel
theorem d6_7 : decode prog_16_method_4_code 7 = .ok (.aload_n 1, 1) := by decide +kernel
theorem d6_8 : decode prog_16_method_4_code 8 = .ok (.checkcast 17, 3) := by decide +kernel
theorem d6_11 : decode prog_16_method_4_code 11 = .ok (.astore_n 2, 1) := by decide +kernel
theorem d6_12 : decode prog_16_method_4_code 12 = .ok (.aload_n 0, 1) := by decide +kernel
theorem d6_13 : decode prog_16_method_4_code 13 = .ok (.getfield 16, 3) := by decide +kernel
theorem d6_16 : decode prog_16_method_4_code 16 = .ok (.aload_n 2, 1) := by decide +kernel
theorem d6_17 : decode prog_16_method_4_code 17 = .ok (.getfield 16, 3) := by decide +kernel
theorem d6_20 : decode prog_16_method_4_code 20 = .ok (.lcmp, 1) := by decide +kernel
theorem d6_21 : decode prog_16_method_4_code 21 = .ok (.ifCond .ne 29, 3) := by decide +kernel
theorem d6_24 : decode prog_16_method_4_code 24 = .ok (.aload_n 0, 1) := by decide +kernel
theorem d6_25 : decode prog_16_method_4_code 25 = .ok (.getfield 22, 3) := by decide +kernel
theorem d6_28 : decode prog_16_method_4_code 28 = .ok (.aload_n 2, 1) := by decide +kernel
theorem d6_29 : decode prog_16_method_4_code 29 = .ok (.getfield 22, 3) := by decide +kernel
theorem d6_32 : decode prog_16_method_4_code 32 = .ok (.if_icmp .ne 18, 3) := by decide +kernel
theorem d6_35 : decode prog_16_method_4_code 35 = .ok (.aload_n 0, 1) := by decide +kernel
theorem d6_36 : decode prog_16_method_4_code 36 = .ok (.getfield 26, 3) := by decide +kernel
theorem d6_39 : decode prog_16_method_4_code 39 = .ok (.aload_n 2, 1) := by decide +kernel
theorem d6_40 : decode prog_16_method_4_code 40 = .ok (.getfield 26, 3) := by decide +kernel
theorem d6_43 : decode prog_16_method_4_code 43 = .ok (.if_icmp .ne 7, 3) := by decide +kernel
theorem d6_46 : decode prog_16_method_4_code 46 = .ok (.iconst 1, 1) := by decide +kernel
theorem d6_47 : decode prog_16_method_4_code 47 = .ok (.goto 4, 3) := by decide +kernel
theorem d6_50 : decode prog_16_method_4_code 50 = .ok (.iconst 0, 1) := by decide +kernel
theorem d6_51 : decode prog_16_method_4_code 51 = .ok (.ireturn, 1) := by decide +kernel
theorem ef_6 (m : MethodId) (x0 : Addr) (x1 : Addr) : entryFrame m #[(.ref x0), (.ref x1)] 3 = mkF m 0 #[.val (.ref x0), .val (.ref x1), .unset] [] := by first | (simp [entryFrame, mkF, argsToLocals, Value.category]; done) | rfl
def Q6 (Z : State) (a1 : Addr) (a2 : Addr) (t1 : Int64) (c1 : Int32) (k1 : Int32) (t2 : Int64) (c2 : Int32) (k2 : Int32) (h0 : Heap) (n0 : Nat) (v : Option Value) (h : Heap) (L : List Loc) : Prop := v = some (.int (own_eq t1 c1 k1 t2 c2 k2)) ∧ Fr n0 L ∧ h = h0
set_option maxRecDepth 65536 in
set_option maxHeartbeats 40000000 in
theorem rm6 (l : Launch) (Z : State) (a0 : Array Value) (hw : ∀ d ∈ tables_1, d.before a0 Z = true) (ws : List Jvm.Cond) (a1 : Addr) (a2 : Addr) (t1 : Int64) (c1 : Int32) (k1 : Int32) (t2 : Int64) (c2 : Int32) (k2 : Int32) (h0 : Heap) (n0 : Nat) (Z0 : n0 ≤ h0.size) (E2 : Exa Z h0 a2 "com/example/heartwood/heartwood/Revision") (G0 : Fld Z h0 a1 "com/example/heartwood/heartwood/Revision" "timestamp" "J" (.long t1)) (G1 : Fld Z h0 a1 "com/example/heartwood/heartwood/Revision" "counter" "I" (.int c1)) (G2 : Fld Z h0 a1 "com/example/heartwood/heartwood/Revision" "clusterId" "I" (.int k1)) (J0 : Fld Z h0 a2 "com/example/heartwood/heartwood/Revision" "timestamp" "J" (.long t2)) (J1 : Fld Z h0 a2 "com/example/heartwood/heartwood/Revision" "counter" "I" (.int c2)) (J2 : Fld Z h0 a2 "com/example/heartwood/heartwood/Revision" "clusterId" "I" (.int k2)) :
    MetFree l (⟨"com/example/heartwood/heartwood/Revision", "equals", "(Ljava/lang/Object;)Z"⟩ : MethodName) (head1 (Jvm.Cond.code (⟨"com/example/heartwood/heartwood/Revision", "equals", "(Ljava/lang/Object;)Z"⟩ : MethodName) prog_16_method_4_code 3 (some .boolean) :: ws) ({ frames := 0, cells := 0, slots := 0, locals := 0 } : Room)) (fun a U => a = #[(.ref a1), (.ref a2)] ∧ Z.Warmed39 U.vm ∧ U.heap = h0) (fun _ _ _ _ _ => True) (fun _ U o U' => ∃ v L, o = .returned v ∧ Q6 Z a1 a2 t1 c1 k1 t2 c2 k2 h0 n0 v U'.heap L ∧ FrameEnd U o U' L ({ frames := 0, cells := 0, slots := 0, locals := 0 } : Room).cells ({ frames := 0, cells := 0, slots := 0, locals := 0 } : Room).slots) := by
  refine MetFree.of_bodySF (plainFor_of_name pn_1) hisR ?_
  intro p e s m args below meth c s₁ Bd hml0 hP hK
  obtain ⟨rfl, hZ, hh⟩ := hP
  have hx := Bd.exec
  have hby := Bd.bytes
  have hml : c.maxLocals = 3 := hml0
  have hown : s.vm.findClass "com/example/heartwood/heartwood/Revision" = some m.cls := findClass_of_methodNamed Bd.named
  have hnm := (name_of_methodNamed Bd.named Bd.method).1
  have X0 : Stand p l e ({ frames := 0, cells := 0, slots := 0, locals := 0 } : Room) s m #[(.ref a1), (.ref a2)] below meth c s₁ [] 0 0 := Stand.of_body Bd
  have e0 : s₁.heap = h0 := by rw [← hh, Bd.state]; rfl
  have N0 := Fr.nil n0
  show OGo p e below (fun s₂ o => ∃ v L, o = .returned v ∧ Q6 Z a1 a2 t1 c1 k1 t2 c2 k2 h0 n0 v s₂.heap L ∧ FrameEnd s o s₂ L ({ frames := 0, cells := 0, slots := 0, locals := 0 } : Room).cells ({ frames := 0, cells := 0, slots := 0, locals := 0 } : Room).slots) _
  refine OGo.to (fun _ k => castTop (ef_6 m a1 a2) k) ?_
  refine OGo.to (fun _ k => XS.aloadN X0.here hx rfl (hb hby d6_0) rfl rfl k) ?_
  show OGo p e below _ (s₁.setTop (mkF m 1 #[.val (.ref a1), .val (.ref a2), .unset] [(.ref a2)]))
  obtain ⟨T_1, X_1, e_1, st_1⟩ := instY X0 hx hZ hown (hw _ (List.mem_of_getElem? (i := 39) rfl)) e0 (Ins.self E2) (g := (mkF m 1 #[.val (.ref a1), .val (.ref a2), .unset] [(.ref a2)])) rfl rfl (hb hby d6_1)
  refine OGo.to st_1 ?_
  show OGo p e below _ (T_1.setTop (mkF m 4 #[.val (.ref a1), .val (.ref a2), .unset] [(.int (1 : Int32))]))
  have hc4__2 : ¬ ((1 : Int32) = (0 : Int32)) := by decide
  refine OGo.to (fun _ k => XS.ifNo X_1.here hx rfl (hb hby d6_4) rfl ((if0 _ _).trans (feq hc4__2).1) k) ?_
  show OGo p e below _ (T_1.setTop (mkF m 7 #[.val (.ref a1), .val (.ref a2), .unset] []))
  refine OGo.to (fun _ k => XS.aloadN X_1.here hx rfl (hb hby d6_7) rfl rfl k) ?_
  show OGo p e below _ (T_1.setTop (mkF m 8 #[.val (.ref a1), .val (.ref a2), .unset] [(.ref a2)]))
  obtain ⟨T_3, X_3, e_3, st_3⟩ := castY X_1 hx hZ hown (hw _ (List.mem_of_getElem? (i := 39) rfl)) e_1 (Ins.self E2) (g := (mkF m 8 #[.val (.ref a1), .val (.ref a2), .unset] [(.ref a2)])) rfl rfl (hb hby d6_8)
  refine OGo.to st_3 ?_
  show OGo p e below _ (T_3.setTop (mkF m 11 #[.val (.ref a1), .val (.ref a2), .unset] [(.ref a2)]))
  refine OGo.to (fun _ k => XS.astoreN X_3.here hx rfl (hb hby d6_11) rfl rfl (l' := #[.val (.ref a1), .val (.ref a2), .val (.ref a2)]) rfl k) ?_
  show OGo p e below _ (T_3.setTop (mkF m 12 #[.val (.ref a1), .val (.ref a2), .val (.ref a2)] []))
  refine OGo.to (fun _ k => XS.aloadN X_3.here hx rfl (hb hby d6_12) rfl rfl k) ?_
  show OGo p e below _ (T_3.setTop (mkF m 13 #[.val (.ref a1), .val (.ref a2), .val (.ref a2)] [(.ref a1)]))
  obtain ⟨T_4, X_4, e_4, st_4⟩ := getF X_3 hx hZ hown (host := "") (Or.inl (hw _ (List.mem_of_getElem? (i := 20) rfl))) Via.refl e_3 G0 (g := (mkF m 13 #[.val (.ref a1), .val (.ref a2), .val (.ref a2)] [(.ref a1)])) rfl rfl (hb hby d6_13)
  refine OGo.to st_4 ?_
  show OGo p e below _ (T_4.setTop (mkF m 16 #[.val (.ref a1), .val (.ref a2), .val (.ref a2)] [(.long t1)]))
  refine OGo.to (fun _ k => XS.aloadN X_4.here hx rfl (hb hby d6_16) rfl rfl k) ?_
  show OGo p e below _ (T_4.setTop (mkF m 17 #[.val (.ref a1), .val (.ref a2), .val (.ref a2)] [(.ref a2), (.long t1)]))
  obtain ⟨T_5, X_5, e_5, st_5⟩ := getF X_4 hx hZ hown (host := "") (Or.inl (hw _ (List.mem_of_getElem? (i := 20) rfl))) Via.refl e_4 J0 (g := (mkF m 17 #[.val (.ref a1), .val (.ref a2), .val (.ref a2)] [(.ref a2), (.long t1)])) rfl rfl (hb hby d6_17)
  refine OGo.to st_5 ?_
  show OGo p e below _ (T_5.setTop (mkF m 20 #[.val (.ref a1), .val (.ref a2), .val (.ref a2)] [(.long t2), (.long t1)]))
  refine OGo.to (fun _ k => XS.lcmp X_5.here hx rfl (hb hby d6_20) rfl k) ?_
  show OGo p e below _ (T_5.setTop (mkF m 21 #[.val (.ref a1), .val (.ref a2), .val (.ref a2)] [(.int (lcmpW t1 t2))]))
  by_cases hc21__6 : t1 = t2
  ·  -- pc 21: yes
    refine OGo.to (fun _ k => XS.ifNo X_5.here hx rfl (hb hby d6_21) rfl ((if0 _ _).trans (teq ((lw_eq t1 t2).mpr hc21__6)).2) k) ?_
    show OGo p e below _ (T_5.setTop (mkF m 24 #[.val (.ref a1), .val (.ref a2), .val (.ref a2)] []))
    refine OGo.to (fun _ k => XS.aloadN X_5.here hx rfl (hb hby d6_24) rfl rfl k) ?_
    show OGo p e below _ (T_5.setTop (mkF m 25 #[.val (.ref a1), .val (.ref a2), .val (.ref a2)] [(.ref a1)]))
    obtain ⟨T_7, X_7, e_7, st_7⟩ := getF X_5 hx hZ hown (host := "") (Or.inl (hw _ (List.mem_of_getElem? (i := 22) rfl))) Via.refl e_5 G1 (g := (mkF m 25 #[.val (.ref a1), .val (.ref a2), .val (.ref a2)] [(.ref a1)])) rfl rfl (hb hby d6_25)
    refine OGo.to st_7 ?_
    show OGo p e below _ (T_7.setTop (mkF m 28 #[.val (.ref a1), .val (.ref a2), .val (.ref a2)] [(.int c1)]))
    refine OGo.to (fun _ k => XS.aloadN X_7.here hx rfl (hb hby d6_28) rfl rfl k) ?_
    show OGo p e below _ (T_7.setTop (mkF m 29 #[.val (.ref a1), .val (.ref a2), .val (.ref a2)] [(.ref a2), (.int c1)]))
    obtain ⟨T_8, X_8, e_8, st_8⟩ := getF X_7 hx hZ hown (host := "") (Or.inl (hw _ (List.mem_of_getElem? (i := 22) rfl))) Via.refl e_7 J1 (g := (mkF m 29 #[.val (.ref a1), .val (.ref a2), .val (.ref a2)] [(.ref a2), (.int c1)])) rfl rfl (hb hby d6_29)
    refine OGo.to st_8 ?_
    show OGo p e below _ (T_8.setTop (mkF m 32 #[.val (.ref a1), .val (.ref a2), .val (.ref a2)] [(.int c2), (.int c1)]))
    by_cases hc32__9 : c1 = c2
    ·  -- pc 32: yes
      refine OGo.to (fun _ k => XS.icmpNo X_8.here hx rfl (hb hby d6_32) rfl (teq hc32__9).2 k) ?_
      show OGo p e below _ (T_8.setTop (mkF m 35 #[.val (.ref a1), .val (.ref a2), .val (.ref a2)] []))
      refine OGo.to (fun _ k => XS.aloadN X_8.here hx rfl (hb hby d6_35) rfl rfl k) ?_
      show OGo p e below _ (T_8.setTop (mkF m 36 #[.val (.ref a1), .val (.ref a2), .val (.ref a2)] [(.ref a1)]))
      obtain ⟨T_10, X_10, e_10, st_10⟩ := getF X_8 hx hZ hown (host := "") (Or.inl (hw _ (List.mem_of_getElem? (i := 24) rfl))) Via.refl e_8 G2 (g := (mkF m 36 #[.val (.ref a1), .val (.ref a2), .val (.ref a2)] [(.ref a1)])) rfl rfl (hb hby d6_36)
      refine OGo.to st_10 ?_
      show OGo p e below _ (T_10.setTop (mkF m 39 #[.val (.ref a1), .val (.ref a2), .val (.ref a2)] [(.int k1)]))
      refine OGo.to (fun _ k => XS.aloadN X_10.here hx rfl (hb hby d6_39) rfl rfl k) ?_
      show OGo p e below _ (T_10.setTop (mkF m 40 #[.val (.ref a1), .val (.ref a2), .val (.ref a2)] [(.ref a2), (.int k1)]))
      obtain ⟨T_11, X_11, e_11, st_11⟩ := getF X_10 hx hZ hown (host := "") (Or.inl (hw _ (List.mem_of_getElem? (i := 24) rfl))) Via.refl e_10 J2 (g := (mkF m 40 #[.val (.ref a1), .val (.ref a2), .val (.ref a2)] [(.ref a2), (.int k1)])) rfl rfl (hb hby d6_40)
      refine OGo.to st_11 ?_
      show OGo p e below _ (T_11.setTop (mkF m 43 #[.val (.ref a1), .val (.ref a2), .val (.ref a2)] [(.int k2), (.int k1)]))
      by_cases hc43__12 : k1 = k2
      ·  -- pc 43: yes
        refine OGo.to (fun _ k => XS.icmpNo X_11.here hx rfl (hb hby d6_43) rfl (teq hc43__12).2 k) ?_
        show OGo p e below _ (T_11.setTop (mkF m 46 #[.val (.ref a1), .val (.ref a2), .val (.ref a2)] []))
        refine OGo.to (fun _ k => XS.iconst X_11.here hx rfl (hb hby d6_46) k) ?_
        show OGo p e below _ (T_11.setTop (mkF m 47 #[.val (.ref a1), .val (.ref a2), .val (.ref a2)] [(.int (1 : Int32))]))
        refine OGo.to (fun _ k => XS.goto X_11.here hx rfl (pc0 := 47) (pc' := 51) rfl (hb hby d6_47) (by decide) (by decide) k) ?_
        show OGo p e below _ (T_11.setTop (mkF m 51 #[.val (.ref a1), .val (.ref a2), .val (.ref a2)] [(.int (1 : Int32))]))
        refine OGo.ret (Q := Q6 Z a1 a2 t1 c1 k1 t2 c2 k2 h0 n0) X_11 (some (.int (1 : Int32))) (fun h => by rw [Bd.returns] at h; cases h) Bd.notSynchronized (fun fs hr => retN X_11 hx (t := .boolean) (z := (1 : Int32)) Bd.returns (by simp) (hb hby d6_51) hr) ?_ (by decide) (by decide)
        show Q6 Z a1 a2 t1 c1 k1 t2 c2 k2 h0 n0 _ T_11.heap _
        rw [e_11]
        exact ⟨congrArg (fun z => some (Value.int z)) (show (1 : Int32) = (own_eq t1 c1 k1 t2 c2 k2) from by unfold own_eq; rw [if_pos hc21__6, if_pos hc32__9, if_pos hc43__12]), N0, rfl⟩
      ·  -- pc 43: no
        refine OGo.to (fun _ k => XS.icmpYes X_11.here hx rfl (pc0 := 43) (pc' := 50) rfl (hb hby d6_43) rfl (feq hc43__12).2 (by decide) (by decide) k) ?_
        show OGo p e below _ (T_11.setTop (mkF m 50 #[.val (.ref a1), .val (.ref a2), .val (.ref a2)] []))
        refine OGo.to (fun _ k => XS.iconst X_11.here hx rfl (hb hby d6_50) k) ?_
        show OGo p e below _ (T_11.setTop (mkF m 51 #[.val (.ref a1), .val (.ref a2), .val (.ref a2)] [(.int (0 : Int32))]))
        refine OGo.ret (Q := Q6 Z a1 a2 t1 c1 k1 t2 c2 k2 h0 n0) X_11 (some (.int (0 : Int32))) (fun h => by rw [Bd.returns] at h; cases h) Bd.notSynchronized (fun fs hr => retN X_11 hx (t := .boolean) (z := (0 : Int32)) Bd.returns (by simp) (hb hby d6_51) hr) ?_ (by decide) (by decide)
        show Q6 Z a1 a2 t1 c1 k1 t2 c2 k2 h0 n0 _ T_11.heap _
        rw [e_11]
        exact ⟨congrArg (fun z => some (Value.int z)) (show (0 : Int32) = (own_eq t1 c1 k1 t2 c2 k2) from by unfold own_eq; rw [if_pos hc21__6, if_pos hc32__9, if_neg hc43__12]), N0, rfl⟩
    ·  -- pc 32: no
      refine OGo.to (fun _ k => XS.icmpYes X_8.here hx rfl (pc0 := 32) (pc' := 50) rfl (hb hby d6_32) rfl (feq hc32__9).2 (by decide) (by decide) k) ?_
      show OGo p e below _ (T_8.setTop (mkF m 50 #[.val (.ref a1), .val (.ref a2), .val (.ref a2)] []))
      refine OGo.to (fun _ k => XS.iconst X_8.here hx rfl (hb hby d6_50) k) ?_
      show OGo p e below _ (T_8.setTop (mkF m 51 #[.val (.ref a1), .val (.ref a2), .val (.ref a2)] [(.int (0 : Int32))]))
      refine OGo.ret (Q := Q6 Z a1 a2 t1 c1 k1 t2 c2 k2 h0 n0) X_8 (some (.int (0 : Int32))) (fun h => by rw [Bd.returns] at h; cases h) Bd.notSynchronized (fun fs hr => retN X_8 hx (t := .boolean) (z := (0 : Int32)) Bd.returns (by simp) (hb hby d6_51) hr) ?_ (by decide) (by decide)
      show Q6 Z a1 a2 t1 c1 k1 t2 c2 k2 h0 n0 _ T_8.heap _
      rw [e_8]
      exact ⟨congrArg (fun z => some (Value.int z)) (show (0 : Int32) = (own_eq t1 c1 k1 t2 c2 k2) from by unfold own_eq; rw [if_pos hc21__6, if_neg hc32__9]), N0, rfl⟩
  ·  -- pc 21: no
    refine OGo.to (fun _ k => XS.ifYes X_5.here hx rfl (pc0 := 21) (pc' := 50) rfl (hb hby d6_21) rfl ((if0 _ _).trans (feq (mt (lw_eq t1 t2).mp hc21__6)).2) (by decide) (by decide) k) ?_
    show OGo p e below _ (T_5.setTop (mkF m 50 #[.val (.ref a1), .val (.ref a2), .val (.ref a2)] []))
    refine OGo.to (fun _ k => XS.iconst X_5.here hx rfl (hb hby d6_50) k) ?_
    show OGo p e below _ (T_5.setTop (mkF m 51 #[.val (.ref a1), .val (.ref a2), .val (.ref a2)] [(.int (0 : Int32))]))
    refine OGo.ret (Q := Q6 Z a1 a2 t1 c1 k1 t2 c2 k2 h0 n0) X_5 (some (.int (0 : Int32))) (fun h => by rw [Bd.returns] at h; cases h) Bd.notSynchronized (fun fs hr => retN X_5 hx (t := .boolean) (z := (0 : Int32)) Bd.returns (by simp) (hb hby d6_51) hr) ?_ (by decide) (by decide)
    show Q6 Z a1 a2 t1 c1 k1 t2 c2 k2 h0 n0 _ T_5.heap _
    rw [e_5]
    exact ⟨congrArg (fun z => some (Value.int z)) (show (0 : Int32) = (own_eq t1 c1 k1 t2 c2 k2) from by unfold own_eq; rw [if_neg hc21__6]), N0, rfl⟩
theorem ef_eqN (m : MethodId) (x0 : Addr) : entryFrame m #[(.ref x0), .null] 3 = mkF m 0 #[.val (.ref x0), .val .null, .unset] [] := by first | (simp [entryFrame, mkF, argsToLocals, Value.category]; done) | rfl
def QeqN (Z : State) (a1 : Addr) (h0 : Heap) (n0 : Nat) (v : Option Value) (h : Heap) (L : List Loc) : Prop := v = some (.int (0 : Int32)) ∧ Fr n0 L ∧ h = h0
set_option maxRecDepth 65536 in
set_option maxHeartbeats 40000000 in
theorem rmeqN (l : Launch) (Z : State) (a0 : Array Value) (hw : ∀ d ∈ tables_1, d.before a0 Z = true) (ws : List Jvm.Cond) (a1 : Addr) (h0 : Heap) (n0 : Nat) (Z0 : n0 ≤ h0.size) :
    MetFree l (⟨"com/example/heartwood/heartwood/Revision", "equals", "(Ljava/lang/Object;)Z"⟩ : MethodName) (head1 (Jvm.Cond.code (⟨"com/example/heartwood/heartwood/Revision", "equals", "(Ljava/lang/Object;)Z"⟩ : MethodName) prog_16_method_4_code 3 (some .boolean) :: ws) ({ frames := 0, cells := 0, slots := 0, locals := 0 } : Room)) (fun a U => a = #[(.ref a1), .null] ∧ Z.Warmed39 U.vm ∧ U.heap = h0) (fun _ _ _ _ _ => True) (fun _ U o U' => ∃ v L, o = .returned v ∧ QeqN Z a1 h0 n0 v U'.heap L ∧ FrameEnd U o U' L ({ frames := 0, cells := 0, slots := 0, locals := 0 } : Room).cells ({ frames := 0, cells := 0, slots := 0, locals := 0 } : Room).slots) := by
  refine MetFree.of_bodySF (plainFor_of_name pn_1) hisR ?_
  intro p e s m args below meth c s₁ Bd hml0 hP hK
  obtain ⟨rfl, hZ, hh⟩ := hP
  have hx := Bd.exec
  have hby := Bd.bytes
  have hml : c.maxLocals = 3 := hml0
  have hown : s.vm.findClass "com/example/heartwood/heartwood/Revision" = some m.cls := findClass_of_methodNamed Bd.named
  have hnm := (name_of_methodNamed Bd.named Bd.method).1
  have X0 : Stand p l e ({ frames := 0, cells := 0, slots := 0, locals := 0 } : Room) s m #[(.ref a1), .null] below meth c s₁ [] 0 0 := Stand.of_body Bd
  have e0 : s₁.heap = h0 := by rw [← hh, Bd.state]; rfl
  have N0 := Fr.nil n0
  show OGo p e below (fun s₂ o => ∃ v L, o = .returned v ∧ QeqN Z a1 h0 n0 v s₂.heap L ∧ FrameEnd s o s₂ L ({ frames := 0, cells := 0, slots := 0, locals := 0 } : Room).cells ({ frames := 0, cells := 0, slots := 0, locals := 0 } : Room).slots) _
  refine OGo.to (fun _ k => castTop (ef_eqN m a1) k) ?_
  refine OGo.to (fun _ k => XS.aloadN X0.here hx rfl (hb hby d6_0) rfl rfl k) ?_
  show OGo p e below _ (s₁.setTop (mkF m 1 #[.val (.ref a1), .val .null, .unset] [.null]))
  refine OGo.to (fun _ k => X0.instanceofNull hx (g := (mkF m 1 #[.val (.ref a1), .val .null, .unset] [.null])) rfl rfl (hb hby d6_1) _ k) ?_
  show OGo p e below _ (s₁.setTop (mkF m 4 #[.val (.ref a1), .val .null, .unset] [(.int (0 : Int32))]))
  have hc4__1 : (0 : Int32) = (0 : Int32) := by decide
  refine OGo.to (fun _ k => XS.ifYes X0.here hx rfl (pc0 := 4) (pc' := 50) rfl (hb hby d6_4) rfl ((if0 _ _).trans (teq hc4__1).1) (by decide) (by decide) k) ?_
  show OGo p e below _ (s₁.setTop (mkF m 50 #[.val (.ref a1), .val .null, .unset] []))
  refine OGo.to (fun _ k => XS.iconst X0.here hx rfl (hb hby d6_50) k) ?_
  show OGo p e below _ (s₁.setTop (mkF m 51 #[.val (.ref a1), .val .null, .unset] [(.int (0 : Int32))]))
  refine OGo.ret (Q := QeqN Z a1 h0 n0) X0 (some (.int (0 : Int32))) (fun h => by rw [Bd.returns] at h; cases h) Bd.notSynchronized (fun fs hr => retN X0 hx (t := .boolean) (z := (0 : Int32)) Bd.returns (by simp) (hb hby d6_51) hr) ?_ (by decide) (by decide)
  show QeqN Z a1 h0 n0 _ s₁.heap _
  rw [e0]
  exact ⟨rfl, N0, rfl⟩
theorem ef_eqL (m : MethodId) (x0 : Addr) (x1 : Addr) : entryFrame m #[(.ref x0), (.ref x1)] 3 = mkF m 0 #[.val (.ref x0), .val (.ref x1), .unset] [] := by first | (simp [entryFrame, mkF, argsToLocals, Value.category]; done) | rfl
def QeqL (Z : State) (a1 : Addr) (a2 : Addr) (h0 : Heap) (n0 : Nat) (v : Option Value) (h : Heap) (L : List Loc) : Prop := v = some (.int (0 : Int32)) ∧ Fr n0 L ∧ h = h0
set_option maxRecDepth 65536 in
set_option maxHeartbeats 40000000 in
theorem rmeqL (l : Launch) (Z : State) (a0 : Array Value) (hw : ∀ d ∈ tables_1, d.before a0 Z = true) (ws : List Jvm.Cond) (a1 : Addr) (a2 : Addr) (h0 : Heap) (n0 : Nat) (Z0 : n0 ≤ h0.size) (E2 : Exa Z h0 a2 "java/lang/Long") :
    MetFree l (⟨"com/example/heartwood/heartwood/Revision", "equals", "(Ljava/lang/Object;)Z"⟩ : MethodName) (head1 (Jvm.Cond.code (⟨"com/example/heartwood/heartwood/Revision", "equals", "(Ljava/lang/Object;)Z"⟩ : MethodName) prog_16_method_4_code 3 (some .boolean) :: ws) ({ frames := 0, cells := 0, slots := 0, locals := 0 } : Room)) (fun a U => a = #[(.ref a1), (.ref a2)] ∧ Z.Warmed39 U.vm ∧ U.heap = h0) (fun _ _ _ _ _ => True) (fun _ U o U' => ∃ v L, o = .returned v ∧ QeqL Z a1 a2 h0 n0 v U'.heap L ∧ FrameEnd U o U' L ({ frames := 0, cells := 0, slots := 0, locals := 0 } : Room).cells ({ frames := 0, cells := 0, slots := 0, locals := 0 } : Room).slots) := by
  refine MetFree.of_bodySF (plainFor_of_name pn_1) hisR ?_
  intro p e s m args below meth c s₁ Bd hml0 hP hK
  obtain ⟨rfl, hZ, hh⟩ := hP
  have hx := Bd.exec
  have hby := Bd.bytes
  have hml : c.maxLocals = 3 := hml0
  have hown : s.vm.findClass "com/example/heartwood/heartwood/Revision" = some m.cls := findClass_of_methodNamed Bd.named
  have hnm := (name_of_methodNamed Bd.named Bd.method).1
  have X0 : Stand p l e ({ frames := 0, cells := 0, slots := 0, locals := 0 } : Room) s m #[(.ref a1), (.ref a2)] below meth c s₁ [] 0 0 := Stand.of_body Bd
  have e0 : s₁.heap = h0 := by rw [← hh, Bd.state]; rfl
  have N0 := Fr.nil n0
  show OGo p e below (fun s₂ o => ∃ v L, o = .returned v ∧ QeqL Z a1 a2 h0 n0 v s₂.heap L ∧ FrameEnd s o s₂ L ({ frames := 0, cells := 0, slots := 0, locals := 0 } : Room).cells ({ frames := 0, cells := 0, slots := 0, locals := 0 } : Room).slots) _
  refine OGo.to (fun _ k => castTop (ef_eqL m a1 a2) k) ?_
  refine OGo.to (fun _ k => XS.aloadN X0.here hx rfl (hb hby d6_0) rfl rfl k) ?_
  show OGo p e below _ (s₁.setTop (mkF m 1 #[.val (.ref a1), .val (.ref a2), .unset] [(.ref a2)]))
  obtain ⟨T_1, X_1, e_1, st_1⟩ := instNo X0 hx hZ hown (hw _ (List.mem_of_getElem? (i := 39) rfl)) e0 E2 (own_notRev hw) (g := (mkF m 1 #[.val (.ref a1), .val (.ref a2), .unset] [(.ref a2)])) rfl rfl (hb hby d6_1)
  refine OGo.to st_1 ?_
  show OGo p e below _ (T_1.setTop (mkF m 4 #[.val (.ref a1), .val (.ref a2), .unset] [(.int (0 : Int32))]))
  have hc4__2 : (0 : Int32) = (0 : Int32) := by decide
  refine OGo.to (fun _ k => XS.ifYes X_1.here hx rfl (pc0 := 4) (pc' := 50) rfl (hb hby d6_4) rfl ((if0 _ _).trans (teq hc4__2).1) (by decide) (by decide) k) ?_
  show OGo p e below _ (T_1.setTop (mkF m 50 #[.val (.ref a1), .val (.ref a2), .unset] []))
  refine OGo.to (fun _ k => XS.iconst X_1.here hx rfl (hb hby d6_50) k) ?_
  show OGo p e below _ (T_1.setTop (mkF m 51 #[.val (.ref a1), .val (.ref a2), .unset] [(.int (0 : Int32))]))
  refine OGo.ret (Q := QeqL Z a1 a2 h0 n0) X_1 (some (.int (0 : Int32))) (fun h => by rw [Bd.returns] at h; cases h) Bd.notSynchronized (fun fs hr => retN X_1 hx (t := .boolean) (z := (0 : Int32)) Bd.returns (by simp) (hb hby d6_51) hr) ?_ (by decide) (by decide)
  show QeqL Z a1 a2 h0 n0 _ T_1.heap _
  rw [e_1]
  exact ⟨rfl, N0, rfl⟩
theorem d10_0 : decode jdk_18_method_1_code 0 = .ok (.aload_n 0, 1) := by decide +kernel
theorem d10_1 : decode jdk_18_method_1_code 1 = .ok (.invokespecial 1, 3) := by decide +kernel
theorem d10_4 : decode jdk_18_method_1_code 4 = .ok (.return_, 1) := by decide +kernel
theorem ef_10 (m : MethodId) (x0 : Addr) : entryFrame m #[(.ref x0)] 1 = mkF m 0 #[.val (.ref x0)] [] := by first | (simp [entryFrame, mkF, argsToLocals, Value.category]; done) | rfl
def Q10 (Z : State) (a1 : Addr) (h0 : Heap) (n0 : Nat) (v : Option Value) (h : Heap) (L : List Loc) : Prop := v = none ∧ Fr n0 L ∧ h = h0
set_option maxRecDepth 65536 in
set_option maxHeartbeats 40000000 in
theorem rm10 (l : Launch) (Z : State) (a0 : Array Value) (hw : ∀ d ∈ tables_1, d.before a0 Z = true) (ws : List Jvm.Cond) (a1 : Addr) (h0 : Heap) (n0 : Nat) (Z0 : n0 ≤ h0.size) :
    MetFree l (⟨"java/lang/Number", "<init>", "()V"⟩ : MethodName) (head1 (Jvm.Cond.code (⟨"java/lang/Number", "<init>", "()V"⟩ : MethodName) jdk_18_method_1_code 1 none :: ws) ({ frames := 1, cells := 0, slots := 0, locals := 12 } : Room)) (fun a U => a = #[(.ref a1)] ∧ Z.Warmed39 U.vm ∧ U.heap = h0) (fun _ _ _ _ _ => True) (fun _ U o U' => ∃ v L, o = .returned v ∧ Q10 Z a1 h0 n0 v U'.heap L ∧ FrameEnd U o U' L ({ frames := 1, cells := 0, slots := 0, locals := 12 } : Room).cells ({ frames := 1, cells := 0, slots := 0, locals := 12 } : Room).slots) := by
  refine MetFree.of_bodySF (plainFor_of_name pn_3) hisR ?_
  intro p e s m args below meth c s₁ Bd hml0 hP hK
  obtain ⟨rfl, hZ, hh⟩ := hP
  have hx := Bd.exec
  have hby := Bd.bytes
  have hml : c.maxLocals = 1 := hml0
  have hown : s.vm.findClass "java/lang/Number" = some m.cls := findClass_of_methodNamed Bd.named
  have hnm := (name_of_methodNamed Bd.named Bd.method).1
  have X0 : Stand p l e ({ frames := 1, cells := 0, slots := 0, locals := 12 } : Room) s m #[(.ref a1)] below meth c s₁ [] 0 0 := Stand.of_body Bd
  have e0 : s₁.heap = h0 := by rw [← hh, Bd.state]; rfl
  have N0 := Fr.nil n0
  show OGo p e below (fun s₂ o => ∃ v L, o = .returned v ∧ Q10 Z a1 h0 n0 v s₂.heap L ∧ FrameEnd s o s₂ L ({ frames := 1, cells := 0, slots := 0, locals := 12 } : Room).cells ({ frames := 1, cells := 0, slots := 0, locals := 12 } : Room).slots) _
  refine OGo.to (fun _ k => castTop (ef_10 m a1) k) ?_
  refine OGo.to (fun _ k => XS.aloadN X0.here hx rfl (hb hby d10_0) rfl rfl k) ?_
  show OGo p e below _ (s₁.setTop (mkF m 1 #[.val (.ref a1)] [(.ref a1)]))
  obtain ⟨T_1, X_1, e_1, st_1⟩ := initO X0 hx hZ hown (hw _ (List.mem_of_getElem? (i := 64) rfl)) (hw _ (List.mem_of_getElem? (i := 18) rfl)) (hw _ (List.mem_of_getElem? (i := 19) rfl)) e0 (g := (mkF m 1 #[.val (.ref a1)] [(.ref a1)])) rfl (by rw [hml]; rfl) rfl (hb hby d10_1) (by decide) (W := 0) (by show 2 * 0 + _ ≤ _; exact Nat.le_of_eq rfl) (by decide)
  refine OGo.to st_1 ?_
  show OGo p e below _ (T_1.setTop (mkF m 4 #[.val (.ref a1)] []))
  refine OGo.ret (Q := Q10 Z a1 h0 n0) X_1 none (fun _ => rfl) Bd.notSynchronized (fun fs hr => X_1.returnOut hx Bd.returns (hb hby d10_4) hr) ?_ (by decide) (by decide)
  show Q10 Z a1 h0 n0 _ T_1.heap _
  rw [e_1]
  exact ⟨rfl, N0, rfl⟩
theorem d9_0 : decode jdk_35_method_26_code 0 = .ok (.aload_n 0, 1) := by decide +kernel
theorem d9_1 : decode jdk_35_method_26_code 1 = .ok (.invokespecial 270, 3) := by decide +kernel
theorem d9_4 : decode jdk_35_method_26_code 4 = .ok (.aload_n 0, 1) := by decide +kernel
theorem d9_5 : decode jdk_35_method_26_code 5 = .ok (.lload_n 1, 1) := by decide +kernel
theorem d9_6 : decode jdk_35_method_26_code 6 = .ok (.putfield 273, 3) := by decide +kernel
theorem d9_9 : decode jdk_35_method_26_code 9 = .ok (.return_, 1) := by decide +kernel
theorem ef_9 (m : MethodId) (x0 : Addr) (x1 : Int64) : entryFrame m #[(.ref x0), (.long x1)] 3 = mkF m 0 #[.val (.ref x0), .val (.long x1), .second] [] := by first | (simp [entryFrame, mkF, argsToLocals, Value.category]; done) | rfl
def Q9 (Z : State) (a1 : Addr) (q1 : Int64) (h0 : Heap) (n0 : Nat) (v : Option Value) (h : Heap) (L : List Loc) : Prop := v = none ∧ Fr n0 L ∧ Keep h0 h [a1]
set_option maxRecDepth 65536 in
set_option maxHeartbeats 40000000 in
theorem rm9 (l : Launch) (Z : State) (a0 : Array Value) (hw : ∀ d ∈ tables_1, d.before a0 Z = true) (ws : List Jvm.Cond) (a1 : Addr) (q1 : Int64) (h0 : Heap) (n0 : Nat) (Z0 : n0 ≤ h0.size) (E1 : Exa Z h0 a1 "java/lang/Long") (F1 : Fld Z h0 a1 "java/lang/Long" "value" "J" (.long (0 : Int64))) (g1 : n0 ≤ a1) :
    MetFree l (⟨"java/lang/Long", "<init>", "(J)V"⟩ : MethodName) (head1 (Jvm.Cond.code (⟨"java/lang/Long", "<init>", "(J)V"⟩ : MethodName) jdk_35_method_26_code 3 none :: ws) ({ frames := 2, cells := 0, slots := 0, locals := 24 } : Room)) (fun a U => a = #[(.ref a1), (.long q1)] ∧ Z.Warmed39 U.vm ∧ U.heap = h0) (fun _ _ _ _ _ => True) (fun _ U o U' => ∃ v L, o = .returned v ∧ Q9 Z a1 q1 h0 n0 v U'.heap L ∧ FrameEnd U o U' L ({ frames := 2, cells := 0, slots := 0, locals := 24 } : Room).cells ({ frames := 2, cells := 0, slots := 0, locals := 24 } : Room).slots) := by
  refine MetFree.of_bodySF (plainFor_of_name pn_2) hisR ?_
  intro p e s m args below meth c s₁ Bd hml0 hP hK
  obtain ⟨rfl, hZ, hh⟩ := hP
  have hx := Bd.exec
  have hby := Bd.bytes
  have hml : c.maxLocals = 3 := hml0
  have hown : s.vm.findClass "java/lang/Long" = some m.cls := findClass_of_methodNamed Bd.named
  have hnm := (name_of_methodNamed Bd.named Bd.method).1
  have X0 : Stand p l e ({ frames := 2, cells := 0, slots := 0, locals := 24 } : Room) s m #[(.ref a1), (.long q1)] below meth c s₁ [] 0 0 := Stand.of_body Bd
  have e0 : s₁.heap = h0 := by rw [← hh, Bd.state]; rfl
  have N0 := Fr.nil n0
  show OGo p e below (fun s₂ o => ∃ v L, o = .returned v ∧ Q9 Z a1 q1 h0 n0 v s₂.heap L ∧ FrameEnd s o s₂ L ({ frames := 2, cells := 0, slots := 0, locals := 24 } : Room).cells ({ frames := 2, cells := 0, slots := 0, locals := 24 } : Room).slots) _
  refine OGo.to (fun _ k => castTop (ef_9 m a1 q1) k) ?_
  refine OGo.to (fun _ k => XS.aloadN X0.here hx rfl (hb hby d9_0) rfl rfl k) ?_
  show OGo p e below _ (s₁.setTop (mkF m 1 #[.val (.ref a1), .val (.long q1), .second] [(.ref a1)]))
  obtain ⟨_, T_1, Lc_1, X_1, hQ_1, st_1⟩ := own_un X0 (Q := Q10 Z a1 h0 n0) (rc := 0) (rs := 0) (W := fun v B => Steps p.tables e below (s₁.setTop (mkF m 1 #[.val (.ref a1), .val (.long q1), .second] [(.ref a1)])) (B.setTop { (mkF m 1 #[.val (.ref a1), .val (.long q1), .second] [(.ref a1)]) with pc := 4, stack := v.toList ++ [] })) <| X0.specialBack hx (y := (⟨"java/lang/Number", "<init>", "()V"⟩ : MethodName)) rfl hown (mvT hZ (hw _ (List.mem_of_getElem? (i := 58) rfl))) (mvT hZ (hw _ (List.mem_of_getElem? (i := 59) rfl))) (mvT hZ (hw _ (List.mem_of_getElem? (i := 63) rfl))) (by decide) (backOf (W := 0) (rm10 l Z a0 hw [] a1 h0 n0 Z0 ) hZ (hw _ (List.mem_of_getElem? (i := 63) rfl)) (hw _ (List.mem_of_getElem? (i := 62) rfl)) (by decide) (by decide)) (g := (mkF m 1 #[.val (.ref a1), .val (.long q1), .second] [(.ref a1)])) rfl (by rw [hml]; rfl) (Steps.refl _) (a := a1) (argsL := []) (rest := []) (lenOf pd_0 rfl) rfl (by show 2 * 0 + _ ≤ _; exact Nat.le_of_eq rfl) (hb hby d9_1) (fun _ _ => ⟨rfl, e0, (by decide : 0 + 0 ≤ _), (by decide : 0 + 0 ≤ _)⟩)
  obtain ⟨rfl, N_1q, e_1⟩ := hQ_1
  have N_1 := Fr.app N0 N_1q
  refine OGo.to (fun _ k => st_1.trans k) ?_
  show OGo p e below _ (T_1.setTop (mkF m 4 #[.val (.ref a1), .val (.long q1), .second] []))
  refine OGo.to (fun _ k => XS.aloadN X_1.here hx rfl (hb hby d9_4) rfl rfl k) ?_
  show OGo p e below _ (T_1.setTop (mkF m 5 #[.val (.ref a1), .val (.long q1), .second] [(.ref a1)]))
  refine OGo.to (fun _ k => XS.lloadN X_1.here hx rfl (hb hby d9_5) rfl k) ?_
  show OGo p e below _ (T_1.setTop (mkF m 6 #[.val (.ref a1), .val (.long q1), .second] [(.long q1), (.ref a1)]))
  obtain ⟨T_2, h_2, X_2, e_2, W_2, st_2⟩ := putF X_1 hx hZ hown (host := "") (Or.inl (hw _ (List.mem_of_getElem? (i := 65) rfl))) Via.refl e_1 F1 E1 (Or.inr ⟨(hw _ (List.mem_of_getElem? (i := 66) rfl)), rfl, hnm⟩) (hw _ (List.mem_of_getElem? (i := 53) rfl)) (ty := .long) (by decide) rfl rfl (g := (mkF m 6 #[.val (.ref a1), .val (.long q1), .second] [(.long q1), (.ref a1)])) rfl rfl (hb hby d9_6)
  refine OGo.to st_2 ?_
  have Fw_2 : Fld Z h_2 a1 "java/lang/Long" "value" "J" (.long q1) := F1.same W_2
  have N_2 := Fr.snoc X_2 N_1 g1
  have z_3 : n0 ≤ h_2.size := Nat.le_trans Z0 (Keep.of_wr W_2).1
  have K_4 : Keep h0 h_2 [a1] := (Keep.refl h0 [a1]).wr W_2 (Or.inl (List.mem_of_getElem? (i := 0) rfl))
  show OGo p e below _ (T_2.setTop (mkF m 9 #[.val (.ref a1), .val (.long q1), .second] []))
  refine OGo.ret (Q := Q9 Z a1 q1 h0 n0) X_2 none (fun _ => rfl) Bd.notSynchronized (fun fs hr => X_2.returnOut hx Bd.returns (hb hby d9_9) hr) ?_ (by decide) (by decide)
  show Q9 Z a1 q1 h0 n0 _ T_2.heap _
  rw [e_2]
  exact ⟨rfl, N_2, K_4⟩
theorem d5_0 : decode jdk_35_method_24_code 0 = .ok (.sipush 128, 3) := by decide +kernel
theorem d5_3 : decode jdk_35_method_24_code 3 = .ok (.istore_n 2, 1) := by decide +kernel
theorem d5_4 : decode jdk_35_method_24_code 4 = .ok (.lload_n 0, 1) := by decide +kernel
theorem d5_5 : decode jdk_35_method_24_code 5 = .ok (.ldc2_w 230, 3) := by decide +kernel
theorem d5_8 : decode jdk_35_method_24_code 8 = .ok (.lcmp, 1) := by decide +kernel
theorem d5_9 : decode jdk_35_method_24_code 9 = .ok (.ifCond .lt 22, 3) := by decide +kernel
theorem d5_12 : decode jdk_35_method_24_code 12 = .ok (.lload_n 0, 1) := by decide +kernel
theorem d5_13 : decode jdk_35_method_24_code 13 = .ok (.ldc2_w 232, 3) := by decide +kernel
theorem d5_16 : decode jdk_35_method_24_code 16 = .ok (.lcmp, 1) := by decide +kernel
theorem d5_17 : decode jdk_35_method_24_code 17 = .ok (.ifCond .gt 14, 3) := by decide +kernel
theorem d5_20 : decode jdk_35_method_24_code 20 = .ok (.getstatic 234, 3) := by decide +kernel
theorem d5_23 : decode jdk_35_method_24_code 23 = .ok (.lload_n 0, 1) := by decide +kernel
theorem d5_24 : decode jdk_35_method_24_code 24 = .ok (.l2i, 1) := by decide +kernel
theorem d5_25 : decode jdk_35_method_24_code 25 = .ok (.sipush 128, 3) := by decide +kernel
theorem d5_28 : decode jdk_35_method_24_code 28 = .ok (.iadd, 1) := by decide +kernel
theorem d5_29 : decode jdk_35_method_24_code 29 = .ok (.aaload, 1) := by decide +kernel
theorem d5_30 : decode jdk_35_method_24_code 30 = .ok (.areturn, 1) := by decide +kernel
theorem d5_31 : decode jdk_35_method_24_code 31 = .ok (.new 1, 3) := by decide +kernel
theorem d5_34 : decode jdk_35_method_24_code 34 = .ok (.dup, 1) := by decide +kernel
theorem d5_35 : decode jdk_35_method_24_code 35 = .ok (.lload_n 0, 1) := by decide +kernel
theorem d5_36 : decode jdk_35_method_24_code 36 = .ok (.invokespecial 240, 3) := by decide +kernel
theorem d5_39 : decode jdk_35_method_24_code 39 = .ok (.areturn, 1) := by decide +kernel
theorem ef_5 (m : MethodId) (x0 : Int64) : entryFrame m #[(.long x0)] 3 = mkF m 0 #[.val (.long x0), .second, .unset] [] := by first | (simp [entryFrame, mkF, argsToLocals, Value.category]; done) | rfl
def Q5 (Z : State) (q1 : Int64) (ca : Addr) (cl : Cell) (h0 : Heap) (n0 : Nat) (v : Option Value) (h : Heap) (L : List Loc) : Prop := ∃ (b : Addr), v = some (.ref b) ∧ Fr n0 L ∧ Keep h0 h [] ∧ Exa Z h b "java/lang/Long"
set_option maxRecDepth 65536 in
set_option maxHeartbeats 40000000 in
theorem rm5 (l : Launch) (Z : State) (a0 : Array Value) (hw : ∀ d ∈ tables_1, d.before a0 Z = true) (ws : List Jvm.Cond) (q1 : Int64) (ca : Addr) (cl : Cell) (h0 : Heap) (n0 : Nat) (Z0 : n0 ≤ h0.size) (S1 : Sta Z Z.heap "java/lang/Long$LongCache" "cache" "[Ljava/lang/Long;" (.ref ca)) (O0 : Old Z n0 h0) (HC : own_cache Z ca cl) :
    MetFree l (⟨"java/lang/Long", "valueOf", "(J)Ljava/lang/Long;"⟩ : MethodName) (head1 (Jvm.Cond.code (⟨"java/lang/Long", "valueOf", "(J)Ljava/lang/Long;"⟩ : MethodName) jdk_35_method_24_code 3 (some (.object "java/lang/Long")) :: ws) ({ frames := 3, cells := 1, slots := 1, locals := 39 } : Room)) (fun a U => a = #[(.long q1)] ∧ Z.Warmed39 U.vm ∧ U.heap = h0) (fun _ _ _ _ _ => True) (fun _ U o U' => ∃ v L, o = .returned v ∧ Q5 Z q1 ca cl h0 n0 v U'.heap L ∧ FrameEnd U o U' L ({ frames := 3, cells := 1, slots := 1, locals := 39 } : Room).cells ({ frames := 3, cells := 1, slots := 1, locals := 39 } : Room).slots) := by
  refine MetFree.of_bodySF (plainFor_of_name pn_2) hisR ?_
  intro p e s m args below meth c s₁ Bd hml0 hP hK
  obtain ⟨rfl, hZ, hh⟩ := hP
  have hx := Bd.exec
  have hby := Bd.bytes
  have hml : c.maxLocals = 3 := hml0
  have hown : s.vm.findClass "java/lang/Long" = some m.cls := findClass_of_methodNamed Bd.named
  have hnm := (name_of_methodNamed Bd.named Bd.method).1
  have X0 : Stand p l e ({ frames := 3, cells := 1, slots := 1, locals := 39 } : Room) s m #[(.long q1)] below meth c s₁ [] 0 0 := Stand.of_body Bd
  have e0 : s₁.heap = h0 := by rw [← hh, Bd.state]; rfl
  have N0 := Fr.nil n0
  show OGo p e below (fun s₂ o => ∃ v L, o = .returned v ∧ Q5 Z q1 ca cl h0 n0 v s₂.heap L ∧ FrameEnd s o s₂ L ({ frames := 3, cells := 1, slots := 1, locals := 39 } : Room).cells ({ frames := 3, cells := 1, slots := 1, locals := 39 } : Room).slots) _
  refine OGo.to (fun _ k => castTop (ef_5 m q1) k) ?_
  refine OGo.to (fun _ k => XS.sipush X0.here hx rfl (hb hby d5_0) k) ?_
  show OGo p e below _ (s₁.setTop (mkF m 3 #[.val (.long q1), .second, .unset] [(.int (128 : Int32))]))
  refine OGo.to (fun _ k => XS.istoreN X0.here hx rfl (hb hby d5_3) rfl (l' := #[.val (.long q1), .second, .val (.int (128 : Int32))]) rfl k) ?_
  show OGo p e below _ (s₁.setTop (mkF m 4 #[.val (.long q1), .second, .val (.int (128 : Int32))] []))
  refine OGo.to (fun _ k => XS.lloadN X0.here hx rfl (hb hby d5_4) rfl k) ?_
  show OGo p e below _ (s₁.setTop (mkF m 5 #[.val (.long q1), .second, .val (.int (128 : Int32))] [(.long q1)]))
  refine OGo.to (fun _ k => X0.ldc2Long hx hown (mvT hZ (hw _ (List.mem_of_getElem? (i := 30) rfl))) (g := (mkF m 5 #[.val (.long q1), .second, .val (.int (128 : Int32))] [(.long q1)])) rfl (hb hby d5_5) _ k) ?_
  show OGo p e below _ (s₁.setTop (mkF m 8 #[.val (.long q1), .second, .val (.int (128 : Int32))] [(.long (-128 : Int64)), (.long q1)]))
  refine OGo.to (fun _ k => XS.lcmp X0.here hx rfl (hb hby d5_8) rfl k) ?_
  show OGo p e below _ (s₁.setTop (mkF m 9 #[.val (.long q1), .second, .val (.int (128 : Int32))] [(.int (lcmpW q1 (-128 : Int64)))]))
  by_cases hc9__1 : q1 < (-128 : Int64)
  ·  -- pc 9: yes
    refine OGo.to (fun _ k => XS.ifYes X0.here hx rfl (pc0 := 9) (pc' := 31) rfl (hb hby d5_9) rfl ((if0 _ _).trans (tlt ((lw_lt q1 (-128 : Int64)).mpr hc9__1)).1) (by decide) (by decide) k) ?_
    show OGo p e below _ (s₁.setTop (mkF m 31 #[.val (.long q1), .second, .val (.int (128 : Int32))] []))
    obtain ⟨T_2, h_2, X_2, e_2, E_2, A_2, D_2, -, st_2⟩ := newO X0 hx hZ hown (hw _ (List.mem_of_getElem? (i := 52) rfl)) (hw _ (List.mem_of_getElem? (i := 53) rfl)) (hw _ (List.mem_of_getElem? (i := 28) rfl)) e0 (g := (mkF m 31 #[.val (.long q1), .second, .val (.int (128 : Int32))] [])) rfl (hb hby d5_31) (by decide) (by decide)
    obtain ⟨b_2, g_2⟩ : ∃ z, z = h0.size := ⟨_, rfl⟩
    rw [← g_2] at A_2 D_2 st_2
    have g_b_2 : n0 ≤ b_2 := Nat.le_trans Z0 (Nat.le_of_eq g_2.symm)
    have sz_b_2 : h0.size ≤ b_2 := Nat.le_trans (Keep.refl h0 []).1 (Nat.le_of_eq g_2.symm)
    refine OGo.to st_2 ?_
    have z_3 : n0 ≤ h_2.size := Nat.le_trans Z0 E_2.1
    have O_4 : Old Z n0 h_2 := O0.ext E_2
    have K_5 : Keep h0 h_2 [] := (Keep.refl h0 []).ext E_2
    have F_value_b_2 : Fld Z h_2 b_2 "java/lang/Long" "value" "J" (.long (0 : Int64)) := D_2 (Or.inr (hw _ (List.mem_of_getElem? (i := 66) rfl))) (ty := .long) (by decide)
    show OGo p e below _ (T_2.setTop (mkF m 34 #[.val (.long q1), .second, .val (.int (128 : Int32))] [(.ref b_2)]))
    refine OGo.to (fun _ k => XS.dup X_2.here hx rfl (hb hby d5_34) rfl rfl k) ?_
    show OGo p e below _ (T_2.setTop (mkF m 35 #[.val (.long q1), .second, .val (.int (128 : Int32))] [(.ref b_2), (.ref b_2)]))
    refine OGo.to (fun _ k => XS.lloadN X_2.here hx rfl (hb hby d5_35) rfl k) ?_
    show OGo p e below _ (T_2.setTop (mkF m 36 #[.val (.long q1), .second, .val (.int (128 : Int32))] [(.long q1), (.ref b_2), (.ref b_2)]))
    obtain ⟨_, T_6, Lc_6, X_6, hQ_6, st_6⟩ := own_un X_2 (Q := Q9 Z b_2 q1 h_2 n0) (rc := 0) (rs := 0) (W := fun v B => Steps p.tables e below (T_2.setTop (mkF m 36 #[.val (.long q1), .second, .val (.int (128 : Int32))] [(.long q1), (.ref b_2), (.ref b_2)])) (B.setTop { (mkF m 36 #[.val (.long q1), .second, .val (.int (128 : Int32))] [(.long q1), (.ref b_2), (.ref b_2)]) with pc := 39, stack := v.toList ++ [(.ref b_2)] })) <| X_2.specialBack hx (y := (⟨"java/lang/Long", "<init>", "(J)V"⟩ : MethodName)) rfl hown (mvT hZ (hw _ (List.mem_of_getElem? (i := 54) rfl))) (mvT hZ (hw _ (List.mem_of_getElem? (i := 55) rfl))) (mvT hZ (hw _ (List.mem_of_getElem? (i := 57) rfl))) (by decide) (backOf (W := 1) (rm9 l Z a0 hw [] b_2 q1 h_2 n0 z_3 A_2 F_value_b_2 g_b_2) hZ (hw _ (List.mem_of_getElem? (i := 57) rfl)) (hw _ (List.mem_of_getElem? (i := 28) rfl)) (by decide) (by decide)) (g := (mkF m 36 #[.val (.long q1), .second, .val (.int (128 : Int32))] [(.long q1), (.ref b_2), (.ref b_2)])) rfl (by rw [hml]; rfl) (Steps.refl _) (a := b_2) (argsL := [(.long q1)]) (rest := [(.ref b_2)]) (lenOf pd_2 rfl) rfl (by show 2 * 0 + _ ≤ _; exact Nat.le_of_eq rfl) (hb hby d5_36) (fun _ _ => ⟨rfl, e_2, (by decide : 1 + 0 ≤ _), (by decide : 1 + 0 ≤ _)⟩)
    obtain ⟨rfl, N_6q, K_6⟩ := hQ_6
    have N_6 := Fr.app N0 N_6q
    refine OGo.to (fun _ k => st_6.trans k) ?_
    have z_7 : n0 ≤ T_6.heap.size := Nat.le_trans z_3 K_6.1
    have O_8 : Old Z n0 T_6.heap := O_4.keep K_6 (allS g_b_2 all0)
    have K_9 : Keep h0 T_6.heap [] := K_5.trans K_6 (by intro x hx'; cases List.mem_singleton.mp hx'; exact (Or.inr sz_b_2))
    show OGo p e below _ (T_6.setTop (mkF m 39 #[.val (.long q1), .second, .val (.int (128 : Int32))] [(.ref b_2)]))
    refine OGo.ret (Q := Q5 Z q1 ca cl h0 n0) X_6 (some (.ref b_2)) (fun h => by rw [Bd.returns] at h; cases h) Bd.notSynchronized (fun fs hr => own_retA X_6 hx Bd.returns rfl rfl (hb hby d5_39) hr) ?_ (by decide) (by decide)
    have f_10 : Exa Z T_6.heap b_2 "java/lang/Long" := (A_2.keep K_6)
    show Q5 Z q1 ca cl h0 n0 _ T_6.heap _
    exact ⟨b_2, rfl, N_6, K_9, f_10⟩
  ·  -- pc 9: no
    refine OGo.to (fun _ k => XS.ifNo X0.here hx rfl (hb hby d5_9) rfl ((if0 _ _).trans (flt (mt (lw_lt q1 (-128 : Int64)).mp hc9__1)).1) k) ?_
    show OGo p e below _ (s₁.setTop (mkF m 12 #[.val (.long q1), .second, .val (.int (128 : Int32))] []))
    refine OGo.to (fun _ k => XS.lloadN X0.here hx rfl (hb hby d5_12) rfl k) ?_
    show OGo p e below _ (s₁.setTop (mkF m 13 #[.val (.long q1), .second, .val (.int (128 : Int32))] [(.long q1)]))
    refine OGo.to (fun _ k => X0.ldc2Long hx hown (mvT hZ (hw _ (List.mem_of_getElem? (i := 31) rfl))) (g := (mkF m 13 #[.val (.long q1), .second, .val (.int (128 : Int32))] [(.long q1)])) rfl (hb hby d5_13) _ k) ?_
    show OGo p e below _ (s₁.setTop (mkF m 16 #[.val (.long q1), .second, .val (.int (128 : Int32))] [(.long (127 : Int64)), (.long q1)]))
    refine OGo.to (fun _ k => XS.lcmp X0.here hx rfl (hb hby d5_16) rfl k) ?_
    show OGo p e below _ (s₁.setTop (mkF m 17 #[.val (.long q1), .second, .val (.int (128 : Int32))] [(.int (lcmpW q1 (127 : Int64)))]))
    by_cases hc17__11 : (127 : Int64) < q1
    ·  -- pc 17: yes
      refine OGo.to (fun _ k => XS.ifYes X0.here hx rfl (pc0 := 17) (pc' := 31) rfl (hb hby d5_17) rfl ((if0 _ _).trans (tlt ((lw_gt q1 (127 : Int64)).mpr hc17__11)).2.2.1) (by decide) (by decide) k) ?_
      show OGo p e below _ (s₁.setTop (mkF m 31 #[.val (.long q1), .second, .val (.int (128 : Int32))] []))
      obtain ⟨T_12, h_12, X_12, e_12, E_12, A_12, D_12, -, st_12⟩ := newO X0 hx hZ hown (hw _ (List.mem_of_getElem? (i := 52) rfl)) (hw _ (List.mem_of_getElem? (i := 53) rfl)) (hw _ (List.mem_of_getElem? (i := 28) rfl)) e0 (g := (mkF m 31 #[.val (.long q1), .second, .val (.int (128 : Int32))] [])) rfl (hb hby d5_31) (by decide) (by decide)
      obtain ⟨b_12, g_12⟩ : ∃ z, z = h0.size := ⟨_, rfl⟩
      rw [← g_12] at A_12 D_12 st_12
      have g_b_12 : n0 ≤ b_12 := Nat.le_trans Z0 (Nat.le_of_eq g_12.symm)
      have sz_b_12 : h0.size ≤ b_12 := Nat.le_trans (Keep.refl h0 []).1 (Nat.le_of_eq g_12.symm)
      refine OGo.to st_12 ?_
      have z_13 : n0 ≤ h_12.size := Nat.le_trans Z0 E_12.1
      have O_14 : Old Z n0 h_12 := O0.ext E_12
      have K_15 : Keep h0 h_12 [] := (Keep.refl h0 []).ext E_12
      have F_value_b_12 : Fld Z h_12 b_12 "java/lang/Long" "value" "J" (.long (0 : Int64)) := D_12 (Or.inr (hw _ (List.mem_of_getElem? (i := 66) rfl))) (ty := .long) (by decide)
      show OGo p e below _ (T_12.setTop (mkF m 34 #[.val (.long q1), .second, .val (.int (128 : Int32))] [(.ref b_12)]))
      refine OGo.to (fun _ k => XS.dup X_12.here hx rfl (hb hby d5_34) rfl rfl k) ?_
      show OGo p e below _ (T_12.setTop (mkF m 35 #[.val (.long q1), .second, .val (.int (128 : Int32))] [(.ref b_12), (.ref b_12)]))
      refine OGo.to (fun _ k => XS.lloadN X_12.here hx rfl (hb hby d5_35) rfl k) ?_
      show OGo p e below _ (T_12.setTop (mkF m 36 #[.val (.long q1), .second, .val (.int (128 : Int32))] [(.long q1), (.ref b_12), (.ref b_12)]))
      obtain ⟨_, T_16, Lc_16, X_16, hQ_16, st_16⟩ := own_un X_12 (Q := Q9 Z b_12 q1 h_12 n0) (rc := 0) (rs := 0) (W := fun v B => Steps p.tables e below (T_12.setTop (mkF m 36 #[.val (.long q1), .second, .val (.int (128 : Int32))] [(.long q1), (.ref b_12), (.ref b_12)])) (B.setTop { (mkF m 36 #[.val (.long q1), .second, .val (.int (128 : Int32))] [(.long q1), (.ref b_12), (.ref b_12)]) with pc := 39, stack := v.toList ++ [(.ref b_12)] })) <| X_12.specialBack hx (y := (⟨"java/lang/Long", "<init>", "(J)V"⟩ : MethodName)) rfl hown (mvT hZ (hw _ (List.mem_of_getElem? (i := 54) rfl))) (mvT hZ (hw _ (List.mem_of_getElem? (i := 55) rfl))) (mvT hZ (hw _ (List.mem_of_getElem? (i := 57) rfl))) (by decide) (backOf (W := 1) (rm9 l Z a0 hw [] b_12 q1 h_12 n0 z_13 A_12 F_value_b_12 g_b_12) hZ (hw _ (List.mem_of_getElem? (i := 57) rfl)) (hw _ (List.mem_of_getElem? (i := 28) rfl)) (by decide) (by decide)) (g := (mkF m 36 #[.val (.long q1), .second, .val (.int (128 : Int32))] [(.long q1), (.ref b_12), (.ref b_12)])) rfl (by rw [hml]; rfl) (Steps.refl _) (a := b_12) (argsL := [(.long q1)]) (rest := [(.ref b_12)]) (lenOf pd_2 rfl) rfl (by show 2 * 0 + _ ≤ _; exact Nat.le_of_eq rfl) (hb hby d5_36) (fun _ _ => ⟨rfl, e_12, (by decide : 1 + 0 ≤ _), (by decide : 1 + 0 ≤ _)⟩)
      obtain ⟨rfl, N_16q, K_16⟩ := hQ_16
      have N_16 := Fr.app N0 N_16q
      refine OGo.to (fun _ k => st_16.trans k) ?_
      have z_17 : n0 ≤ T_16.heap.size := Nat.le_trans z_13 K_16.1
      have O_18 : Old Z n0 T_16.heap := O_14.keep K_16 (allS g_b_12 all0)
      have K_19 : Keep h0 T_16.heap [] := K_15.trans K_16 (by intro x hx'; cases List.mem_singleton.mp hx'; exact (Or.inr sz_b_12))
      show OGo p e below _ (T_16.setTop (mkF m 39 #[.val (.long q1), .second, .val (.int (128 : Int32))] [(.ref b_12)]))
      refine OGo.ret (Q := Q5 Z q1 ca cl h0 n0) X_16 (some (.ref b_12)) (fun h => by rw [Bd.returns] at h; cases h) Bd.notSynchronized (fun fs hr => own_retA X_16 hx Bd.returns rfl rfl (hb hby d5_39) hr) ?_ (by decide) (by decide)
      have f_20 : Exa Z T_16.heap b_12 "java/lang/Long" := (A_12.keep K_16)
      show Q5 Z q1 ca cl h0 n0 _ T_16.heap _
      exact ⟨b_12, rfl, N_16, K_19, f_20⟩
    ·  -- pc 17: no
      refine OGo.to (fun _ k => XS.ifNo X0.here hx rfl (hb hby d5_17) rfl ((if0 _ _).trans (flt (mt (lw_gt q1 (127 : Int64)).mp hc17__11)).2.2.1) k) ?_
      show OGo p e below _ (s₁.setTop (mkF m 20 #[.val (.long q1), .second, .val (.int (128 : Int32))] []))
      have f_21 : Sta Z h0 "java/lang/Long$LongCache" "cache" "[Ljava/lang/Long;" (.ref ca) := Sta.ext O0.2 S1
      obtain ⟨T_22, X_22, e_22, st_22⟩ := getS2 X0 hx hZ hown (host := "") (Or.inl (hw _ (List.mem_of_getElem? (i := 32) rfl))) Via.refl e0 f_21 (g := (mkF m 20 #[.val (.long q1), .second, .val (.int (128 : Int32))] [])) rfl (hb hby d5_20)
      refine OGo.to st_22 ?_
      show OGo p e below _ (T_22.setTop (mkF m 23 #[.val (.long q1), .second, .val (.int (128 : Int32))] [(.ref ca)]))
      refine OGo.to (fun _ k => XS.lloadN X_22.here hx rfl (hb hby d5_23) rfl k) ?_
      show OGo p e below _ (T_22.setTop (mkF m 24 #[.val (.long q1), .second, .val (.int (128 : Int32))] [(.long q1), (.ref ca)]))
      refine OGo.to (fun _ k => XS.l2i X_22.here hx rfl (hb hby d5_24) rfl k) ?_
      show OGo p e below _ (T_22.setTop (mkF m 25 #[.val (.long q1), .second, .val (.int (128 : Int32))] [(.int (q1.toInt32)), (.ref ca)]))
      refine OGo.to (fun _ k => XS.sipush X_22.here hx rfl (hb hby d5_25) k) ?_
      show OGo p e below _ (T_22.setTop (mkF m 28 #[.val (.long q1), .second, .val (.int (128 : Int32))] [(.int (128 : Int32)), (.int (q1.toInt32)), (.ref ca)]))
      refine OGo.to (fun _ k => XS.iadd X_22.here hx rfl (hb hby d5_28) rfl k) ?_
      show OGo p e below _ (T_22.setTop (mkF m 29 #[.val (.long q1), .second, .val (.int (128 : Int32))] [(.int ((q1.toInt32) + (128 : Int32))), (.ref ca)]))
      obtain ⟨AC, SzC, AllC⟩ := HC
      have pl := Jvm.Free.LongBox.place_okL q1 hc9__1 hc17__11
      obtain ⟨x1, hx1, EX1⟩ := AllC _ pl.2
      have AC2 := AC.ext O0.2
      have hin29 : ¬ (((q1.toInt32) + (128 : Int32)) < 0 ∨ cl.slots.size ≤ (((q1.toInt32) + (128 : Int32))).toNatClampNeg) := by rw [SzC]; exact pl.1
      refine OGo.to (fun _ k => X_22.aaload hx (j := ((q1.toInt32) + (128 : Int32))) (v := (.ref x1)) (by rw [e_22]; exact AC2.1) (State.isArrayOf_alike hZ.alike AC2.2.1) rfl AC2.2.2 hin29 hx1 (g := (mkF m 29 #[.val (.long q1), .second, .val (.int (128 : Int32))] [(.int ((q1.toInt32) + (128 : Int32))), (.ref ca)])) rfl rfl (hb hby d5_29) _ k) ?_
      have EX2 : Exa Z h0 x1 "java/lang/Long" := Exa.ext O0.2 EX1
      show OGo p e below _ (T_22.setTop (mkF m 30 #[.val (.long q1), .second, .val (.int (128 : Int32))] [(.ref x1)]))
      refine OGo.ret (Q := Q5 Z q1 ca cl h0 n0) X_22 (some (.ref x1)) (fun h => by rw [Bd.returns] at h; cases h) Bd.notSynchronized (fun fs hr => own_retA X_22 hx Bd.returns rfl rfl (hb hby d5_30) hr) ?_ (by decide) (by decide)
      show Q5 Z q1 ca cl h0 n0 _ T_22.heap _
      rw [e_22]
      exact ⟨x1, rfl, N0, (Keep.refl h0 []), EX2⟩
theorem ef_0 (m : MethodId) (x0 : Int64) (x1 : Int32) (x2 : Int32) (x3 : Int64) (x4 : Int32) (x5 : Int32) : entryFrame m #[(.long x0), (.int x1), (.int x2), (.long x3), (.int x4), (.int x5)] maxLocals = mkF m 0 #[.val (.long x0), .second, .val (.int x1), .val (.int x2), .val (.long x3), .second, .val (.int x4), .val (.int x5), .unset, .unset, .unset, .unset, .unset, .unset, .unset, .unset, .unset, .unset, .unset, .unset, .unset, .unset, .unset, .unset, .unset, .unset] [] := by first | (simp [entryFrame, mkF, argsToLocals, Value.category, maxLocals]; done) | rfl
def Q0 (Z : State) (q1 : Int64) (p1 : Int32) (p2 : Int32) (q2 : Int64) (p3 : Int32) (p4 : Int32) (ca : Addr) (cl : Cell) (h0 : Heap) (n0 : Nat) (v : Option Value) (h : Heap) (L : List Loc) : Prop := v = some (.int (1 : Int32)) ∧ Fr n0 L
set_option maxRecDepth 65536 in
set_option maxHeartbeats 40000000 in
theorem rm0 (l : Launch) (Z : State) (a0 : Array Value) (hw : ∀ d ∈ tables_1, d.before a0 Z = true) (ws : List Jvm.Cond) (q1 : Int64) (p1 : Int32) (p2 : Int32) (q2 : Int64) (p3 : Int32) (p4 : Int32) (ca : Addr) (cl : Cell) (h0 : Heap) (n0 : Nat) (Z0 : n0 ≤ h0.size) (S1 : Sta Z Z.heap "java/lang/Long$LongCache" "cache" "[Ljava/lang/Long;" (.ref ca)) (O0 : Old Z n0 h0) (HC : own_cache Z ca cl) :
    MetFree l x (head1 (Jvm.Cond.code x code maxLocals ret :: ws) room_1) (fun a U => a = #[(.long q1), (.int p1), (.int p2), (.long q2), (.int p3), (.int p4)] ∧ Z.Warmed39 U.vm ∧ U.heap = h0) (fun _ _ _ _ _ => True) (fun _ U o U' => ∃ v L, o = .returned v ∧ Q0 Z q1 p1 p2 q2 p3 p4 ca cl h0 n0 v U'.heap L ∧ FrameEnd U o U' L room_1.cells room_1.slots) := by
  refine MetFree.of_bodySF (plainFor_of_name pn_4) hisR ?_
  intro p e s m args below meth c s₁ Bd hml0 hP hK
  obtain ⟨rfl, hZ, hh⟩ := hP
  have hx := Bd.exec
  have hby := Bd.bytes
  have hml : c.maxLocals = 26 := hml0
  have hown : s.vm.findClass "com/example/heartwood/heartwood/RevisionEqualsPinLaw" = some m.cls := findClass_of_methodNamed Bd.named
  have hnm := (name_of_methodNamed Bd.named Bd.method).1
  have X0 : Stand p l e room_1 s m #[(.long q1), (.int p1), (.int p2), (.long q2), (.int p3), (.int p4)] below meth c s₁ [] 0 0 := Stand.of_body Bd
  have e0 : s₁.heap = h0 := by rw [← hh, Bd.state]; rfl
  have N0 := Fr.nil n0
  show OGo p e below (fun s₂ o => ∃ v L, o = .returned v ∧ Q0 Z q1 p1 p2 q2 p3 p4 ca cl h0 n0 v s₂.heap L ∧ FrameEnd s o s₂ L room_1.cells room_1.slots) _
  refine OGo.to (fun _ k => castTop (ef_0 m q1 p1 p2 q2 p3 p4) k) ?_
  refine OGo.to (fun _ k => XS.lloadN X0.here hx rfl (hb hby at_0) rfl k) ?_
  show OGo p e below _ (s₁.setTop (mkF m 1 #[.val (.long q1), .second, .val (.int p1), .val (.int p2), .val (.long q2), .second, .val (.int p3), .val (.int p4), .unset, .unset, .unset, .unset, .unset, .unset, .unset, .unset, .unset, .unset, .unset, .unset, .unset, .unset, .unset, .unset, .unset, .unset] [(.long q1)]))
  refine OGo.to (fun _ k => X0.ldc2Long hx hown (mvT hZ (hw _ (List.mem_of_getElem? (i := 0) rfl))) (g := (mkF m 1 #[.val (.long q1), .second, .val (.int p1), .val (.int p2), .val (.long q2), .second, .val (.int p3), .val (.int p4), .unset, .unset, .unset, .unset, .unset, .unset, .unset, .unset, .unset, .unset, .unset, .unset, .unset, .unset, .unset, .unset, .unset, .unset] [(.long q1)])) rfl (hb hby at_1) _ k) ?_
  show OGo p e below _ (s₁.setTop (mkF m 4 #[.val (.long q1), .second, .val (.int p1), .val (.int p2), .val (.long q2), .second, .val (.int p3), .val (.int p4), .unset, .unset, .unset, .unset, .unset, .unset, .unset, .unset, .unset, .unset, .unset, .unset, .unset, .unset, .unset, .unset, .unset, .unset] [(.long (9223372036854775807 : Int64)), (.long q1)]))
  refine OGo.to (fun _ k => XS.land X0.here hx rfl (hb hby at_4) rfl k) ?_
  show OGo p e below _ (s₁.setTop (mkF m 5 #[.val (.long q1), .second, .val (.int p1), .val (.int p2), .val (.long q2), .second, .val (.int p3), .val (.int p4), .unset, .unset, .unset, .unset, .unset, .unset, .unset, .unset, .unset, .unset, .unset, .unset, .unset, .unset, .unset, .unset, .unset, .unset] [(.long (q1 &&& (9223372036854775807 : Int64)))]))
  obtain ⟨ta, hv_ta⟩ : ∃ z : Int64, z = (q1 &&& (9223372036854775807 : Int64)) := ⟨_, rfl⟩
  rw [← hv_ta]
  refine OGo.to (fun _ k => XS.lstore X0.here hx rfl (hb hby at_5) rfl (l' := #[.val (.long q1), .second, .val (.int p1), .val (.int p2), .val (.long q2), .second, .val (.int p3), .val (.int p4), .val (.long ta), .second, .unset, .unset, .unset, .unset, .unset, .unset, .unset, .unset, .unset, .unset, .unset, .unset, .unset, .unset, .unset, .unset]) rfl k) ?_
  show OGo p e below _ (s₁.setTop (mkF m 7 #[.val (.long q1), .second, .val (.int p1), .val (.int p2), .val (.long q2), .second, .val (.int p3), .val (.int p4), .val (.long ta), .second, .unset, .unset, .unset, .unset, .unset, .unset, .unset, .unset, .unset, .unset, .unset, .unset, .unset, .unset, .unset, .unset] []))
  refine OGo.to (fun _ k => XS.iloadN X0.here hx rfl (hb hby at_7) rfl k) ?_
  show OGo p e below _ (s₁.setTop (mkF m 8 #[.val (.long q1), .second, .val (.int p1), .val (.int p2), .val (.long q2), .second, .val (.int p3), .val (.int p4), .val (.long ta), .second, .unset, .unset, .unset, .unset, .unset, .unset, .unset, .unset, .unset, .unset, .unset, .unset, .unset, .unset, .unset, .unset] [(.int p1)]))
  refine OGo.to (fun _ k => X0.ldcInt hx hown (mvT hZ (hw _ (List.mem_of_getElem? (i := 1) rfl))) (g := (mkF m 8 #[.val (.long q1), .second, .val (.int p1), .val (.int p2), .val (.long q2), .second, .val (.int p3), .val (.int p4), .val (.long ta), .second, .unset, .unset, .unset, .unset, .unset, .unset, .unset, .unset, .unset, .unset, .unset, .unset, .unset, .unset, .unset, .unset] [(.int p1)])) rfl (hb hby at_8) _ k) ?_
  show OGo p e below _ (s₁.setTop (mkF m 10 #[.val (.long q1), .second, .val (.int p1), .val (.int p2), .val (.long q2), .second, .val (.int p3), .val (.int p4), .val (.long ta), .second, .unset, .unset, .unset, .unset, .unset, .unset, .unset, .unset, .unset, .unset, .unset, .unset, .unset, .unset, .unset, .unset] [(.int (2147483647 : Int32)), (.int p1)]))
  refine OGo.to (fun _ k => XS.iand X0.here hx rfl (hb hby at_10) rfl k) ?_
  show OGo p e below _ (s₁.setTop (mkF m 11 #[.val (.long q1), .second, .val (.int p1), .val (.int p2), .val (.long q2), .second, .val (.int p3), .val (.int p4), .val (.long ta), .second, .unset, .unset, .unset, .unset, .unset, .unset, .unset, .unset, .unset, .unset, .unset, .unset, .unset, .unset, .unset, .unset] [(.int (p1 &&& (2147483647 : Int32)))]))
  obtain ⟨ca0, hv_ca0⟩ : ∃ z : Int32, z = (p1 &&& (2147483647 : Int32)) := ⟨_, rfl⟩
  rw [← hv_ca0]
  refine OGo.to (fun _ k => XS.istore X0.here hx rfl (hb hby at_11) rfl (l' := #[.val (.long q1), .second, .val (.int p1), .val (.int p2), .val (.long q2), .second, .val (.int p3), .val (.int p4), .val (.long ta), .second, .val (.int ca0), .unset, .unset, .unset, .unset, .unset, .unset, .unset, .unset, .unset, .unset, .unset, .unset, .unset, .unset, .unset]) rfl k) ?_
  show OGo p e below _ (s₁.setTop (mkF m 13 #[.val (.long q1), .second, .val (.int p1), .val (.int p2), .val (.long q2), .second, .val (.int p3), .val (.int p4), .val (.long ta), .second, .val (.int ca0), .unset, .unset, .unset, .unset, .unset, .unset, .unset, .unset, .unset, .unset, .unset, .unset, .unset, .unset, .unset] []))
  refine OGo.to (fun _ k => XS.iconst X0.here hx rfl (hb hby at_13) k) ?_
  show OGo p e below _ (s₁.setTop (mkF m 14 #[.val (.long q1), .second, .val (.int p1), .val (.int p2), .val (.long q2), .second, .val (.int p3), .val (.int p4), .val (.long ta), .second, .val (.int ca0), .unset, .unset, .unset, .unset, .unset, .unset, .unset, .unset, .unset, .unset, .unset, .unset, .unset, .unset, .unset] [(.int (1 : Int32))]))
  refine OGo.to (fun _ k => XS.iloadN X0.here hx rfl (hb hby at_14) rfl k) ?_
  show OGo p e below _ (s₁.setTop (mkF m 15 #[.val (.long q1), .second, .val (.int p1), .val (.int p2), .val (.long q2), .second, .val (.int p3), .val (.int p4), .val (.long ta), .second, .val (.int ca0), .unset, .unset, .unset, .unset, .unset, .unset, .unset, .unset, .unset, .unset, .unset, .unset, .unset, .unset, .unset] [(.int p2), (.int (1 : Int32))]))
  refine OGo.to (fun _ k => X0.ldcInt hx hown (mvT hZ (hw _ (List.mem_of_getElem? (i := 1) rfl))) (g := (mkF m 15 #[.val (.long q1), .second, .val (.int p1), .val (.int p2), .val (.long q2), .second, .val (.int p3), .val (.int p4), .val (.long ta), .second, .val (.int ca0), .unset, .unset, .unset, .unset, .unset, .unset, .unset, .unset, .unset, .unset, .unset, .unset, .unset, .unset, .unset] [(.int p2), (.int (1 : Int32))])) rfl (hb hby at_15) _ k) ?_
  show OGo p e below _ (s₁.setTop (mkF m 17 #[.val (.long q1), .second, .val (.int p1), .val (.int p2), .val (.long q2), .second, .val (.int p3), .val (.int p4), .val (.long ta), .second, .val (.int ca0), .unset, .unset, .unset, .unset, .unset, .unset, .unset, .unset, .unset, .unset, .unset, .unset, .unset, .unset, .unset] [(.int (2147483647 : Int32)), (.int p2), (.int (1 : Int32))]))
  refine OGo.to (fun _ k => XS.iand X0.here hx rfl (hb hby at_17) rfl k) ?_
  show OGo p e below _ (s₁.setTop (mkF m 18 #[.val (.long q1), .second, .val (.int p1), .val (.int p2), .val (.long q2), .second, .val (.int p3), .val (.int p4), .val (.long ta), .second, .val (.int ca0), .unset, .unset, .unset, .unset, .unset, .unset, .unset, .unset, .unset, .unset, .unset, .unset, .unset, .unset, .unset] [(.int (p2 &&& (2147483647 : Int32))), (.int (1 : Int32))]))
  obtain ⟨_, T_1, Lc_1, X_1, hQ_1, st_1⟩ := own_un X0 (Q := Q1 Z (1 : Int32) (p2 &&& (2147483647 : Int32)) h0 n0) (rc := 0) (rs := 0) (W := fun v B => ∀ target, Steps p.tables e below (B.setTop { (mkF m 18 #[.val (.long q1), .second, .val (.int p1), .val (.int p2), .val (.long q2), .second, .val (.int p3), .val (.int p4), .val (.long ta), .second, .val (.int ca0), .unset, .unset, .unset, .unset, .unset, .unset, .unset, .unset, .unset, .unset, .unset, .unset, .unset, .unset, .unset] [(.int (p2 &&& (2147483647 : Int32))), (.int (1 : Int32))]) with pc := 21, stack := v.toList ++ [] }) target → Steps p.tables e below (s₁.setTop (mkF m 18 #[.val (.long q1), .second, .val (.int p1), .val (.int p2), .val (.long q2), .second, .val (.int p3), .val (.int p4), .val (.long ta), .second, .val (.int ca0), .unset, .unset, .unset, .unset, .unset, .unset, .unset, .unset, .unset, .unset, .unset, .unset, .unset, .unset, .unset] [(.int (p2 &&& (2147483647 : Int32))), (.int (1 : Int32))])) target) <| Jvm.LawKit.callS X0 hx (y := (⟨"java/lang/Math", "max", "(II)I"⟩ : MethodName)) hown (mvT hZ (hw _ (List.mem_of_getElem? (i := 2) rfl))) (mvT hZ (hw _ (List.mem_of_getElem? (i := 3) rfl))) (mvT hZ (hw _ (List.mem_of_getElem? (i := 4) rfl))) (mvT hZ (hw _ (List.mem_of_getElem? (i := 5) rfl))) (by decide) (backOf (W := 0) (rm1 l Z a0 hw [] (1 : Int32) (p2 &&& (2147483647 : Int32)) h0 n0 Z0 ) hZ (hw _ (List.mem_of_getElem? (i := 5) rfl)) (hw _ (List.mem_of_getElem? (i := 4) rfl)) (by decide) (by decide)) (g := (mkF m 18 #[.val (.long q1), .second, .val (.int p1), .val (.int p2), .val (.long q2), .second, .val (.int p3), .val (.int p4), .val (.long ta), .second, .val (.int ca0), .unset, .unset, .unset, .unset, .unset, .unset, .unset, .unset, .unset, .unset, .unset, .unset, .unset, .unset, .unset] [(.int (p2 &&& (2147483647 : Int32))), (.int (1 : Int32))])) rfl (by rw [hml]; rfl) (argsL := [(.int (1 : Int32)), (.int (p2 &&& (2147483647 : Int32)))]) (rest := []) (lenOf pd_3 rfl) rfl (by show 2 * 0 + _ ≤ _; exact Nat.le_of_eq rfl) (hb hby at_18) (fun _ _ => ⟨rfl, e0, (by decide : 0 + 0 ≤ _), (by decide : 0 + 0 ≤ _)⟩)
  obtain ⟨rfl, N_1q, e_1⟩ := hQ_1
  have N_1 := Fr.app N0 N_1q
  refine OGo.to st_1 ?_
  show OGo p e below _ (T_1.setTop (mkF m 21 #[.val (.long q1), .second, .val (.int p1), .val (.int p2), .val (.long q2), .second, .val (.int p3), .val (.int p4), .val (.long ta), .second, .val (.int ca0), .unset, .unset, .unset, .unset, .unset, .unset, .unset, .unset, .unset, .unset, .unset, .unset, .unset, .unset, .unset] [(.int (own_max (1 : Int32) (p2 &&& (2147483647 : Int32))))]))
  obtain ⟨ka, hv_ka⟩ : ∃ z : Int32, z = (own_max (1 : Int32) (p2 &&& (2147483647 : Int32))) := ⟨_, rfl⟩
  rw [← hv_ka]
  refine OGo.to (fun _ k => XS.istore X_1.here hx rfl (hb hby at_21) rfl (l' := #[.val (.long q1), .second, .val (.int p1), .val (.int p2), .val (.long q2), .second, .val (.int p3), .val (.int p4), .val (.long ta), .second, .val (.int ca0), .val (.int ka), .unset, .unset, .unset, .unset, .unset, .unset, .unset, .unset, .unset, .unset, .unset, .unset, .unset, .unset]) rfl k) ?_
  show OGo p e below _ (T_1.setTop (mkF m 23 #[.val (.long q1), .second, .val (.int p1), .val (.int p2), .val (.long q2), .second, .val (.int p3), .val (.int p4), .val (.long ta), .second, .val (.int ca0), .val (.int ka), .unset, .unset, .unset, .unset, .unset, .unset, .unset, .unset, .unset, .unset, .unset, .unset, .unset, .unset] []))
  refine OGo.to (fun _ k => XS.iload X_1.here hx rfl (hb hby at_23) rfl k) ?_
  show OGo p e below _ (T_1.setTop (mkF m 25 #[.val (.long q1), .second, .val (.int p1), .val (.int p2), .val (.long q2), .second, .val (.int p3), .val (.int p4), .val (.long ta), .second, .val (.int ca0), .val (.int ka), .unset, .unset, .unset, .unset, .unset, .unset, .unset, .unset, .unset, .unset, .unset, .unset, .unset, .unset] [(.int p4)]))
  refine OGo.to (fun _ k => XS.iconst X_1.here hx rfl (hb hby at_25) k) ?_
  show OGo p e below _ (T_1.setTop (mkF m 26 #[.val (.long q1), .second, .val (.int p1), .val (.int p2), .val (.long q2), .second, .val (.int p3), .val (.int p4), .val (.long ta), .second, .val (.int ca0), .val (.int ka), .unset, .unset, .unset, .unset, .unset, .unset, .unset, .unset, .unset, .unset, .unset, .unset, .unset, .unset] [(.int (1 : Int32)), (.int p4)]))
  refine OGo.to (fun _ k => XS.iand X_1.here hx rfl (hb hby at_26) rfl k) ?_
  show OGo p e below _ (T_1.setTop (mkF m 27 #[.val (.long q1), .second, .val (.int p1), .val (.int p2), .val (.long q2), .second, .val (.int p3), .val (.int p4), .val (.long ta), .second, .val (.int ca0), .val (.int ka), .unset, .unset, .unset, .unset, .unset, .unset, .unset, .unset, .unset, .unset, .unset, .unset, .unset, .unset] [(.int (p4 &&& (1 : Int32)))]))
  obtain ⟨tb, hv_tb⟩ : ∃ z : Int64, z = (if (p4 &&& (1 : Int32)) = (0 : Int32) then (q2 &&& (9223372036854775807 : Int64)) else ta) := ⟨_, rfl⟩
  refine OGo.to (S' := T_1.setTop (mkF m 41 #[.val (.long q1), .second, .val (.int p1), .val (.int p2), .val (.long q2), .second, .val (.int p3), .val (.int p4), .val (.long ta), .second, .val (.int ca0), .val (.int ka), .unset, .unset, .unset, .unset, .unset, .unset, .unset, .unset, .unset, .unset, .unset, .unset, .unset, .unset] [(.long tb)])) (fun _ k => ?_) ?_
  ·
    show Steps p.tables e below (T_1.setTop (mkF m 27 #[.val (.long q1), .second, .val (.int p1), .val (.int p2), .val (.long q2), .second, .val (.int p3), .val (.int p4), .val (.long ta), .second, .val (.int ca0), .val (.int ka), .unset, .unset, .unset, .unset, .unset, .unset, .unset, .unset, .unset, .unset, .unset, .unset, .unset, .unset] [(.int (p4 &&& (1 : Int32)))])) _
    by_cases hc27__3 : (p4 &&& (1 : Int32)) = (0 : Int32)
    ·  -- pc 27: yes
      refine XS.ifYes X_1.here hx rfl (pc0 := 27) (pc' := 35) rfl (hb hby at_27) rfl ((if0 _ _).trans (teq hc27__3).1) (by decide) (by decide) ?_
      show Steps p.tables e below (T_1.setTop (mkF m 35 #[.val (.long q1), .second, .val (.int p1), .val (.int p2), .val (.long q2), .second, .val (.int p3), .val (.int p4), .val (.long ta), .second, .val (.int ca0), .val (.int ka), .unset, .unset, .unset, .unset, .unset, .unset, .unset, .unset, .unset, .unset, .unset, .unset, .unset, .unset] [])) _
      refine XS.lload X_1.here hx rfl (hb hby at_35) rfl ?_
      show Steps p.tables e below (T_1.setTop (mkF m 37 #[.val (.long q1), .second, .val (.int p1), .val (.int p2), .val (.long q2), .second, .val (.int p3), .val (.int p4), .val (.long ta), .second, .val (.int ca0), .val (.int ka), .unset, .unset, .unset, .unset, .unset, .unset, .unset, .unset, .unset, .unset, .unset, .unset, .unset, .unset] [(.long q2)])) _
      refine X_1.ldc2Long hx hown (mvT hZ (hw _ (List.mem_of_getElem? (i := 0) rfl))) (g := (mkF m 37 #[.val (.long q1), .second, .val (.int p1), .val (.int p2), .val (.long q2), .second, .val (.int p3), .val (.int p4), .val (.long ta), .second, .val (.int ca0), .val (.int ka), .unset, .unset, .unset, .unset, .unset, .unset, .unset, .unset, .unset, .unset, .unset, .unset, .unset, .unset] [(.long q2)])) rfl (hb hby at_37) _ ?_
      show Steps p.tables e below (T_1.setTop (mkF m 40 #[.val (.long q1), .second, .val (.int p1), .val (.int p2), .val (.long q2), .second, .val (.int p3), .val (.int p4), .val (.long ta), .second, .val (.int ca0), .val (.int ka), .unset, .unset, .unset, .unset, .unset, .unset, .unset, .unset, .unset, .unset, .unset, .unset, .unset, .unset] [(.long (9223372036854775807 : Int64)), (.long q2)])) _
      refine XS.land X_1.here hx rfl (hb hby at_40) rfl ?_
      show Steps p.tables e below (T_1.setTop (mkF m 41 #[.val (.long q1), .second, .val (.int p1), .val (.int p2), .val (.long q2), .second, .val (.int p3), .val (.int p4), .val (.long ta), .second, .val (.int ca0), .val (.int ka), .unset, .unset, .unset, .unset, .unset, .unset, .unset, .unset, .unset, .unset, .unset, .unset, .unset, .unset] [(.long (q2 &&& (9223372036854775807 : Int64)))])) _
      have hw_tb := hv_tb
      rw [if_pos hc27__3] at hw_tb
      subst hw_tb
      exact k
    ·  -- pc 27: no
      refine XS.ifNo X_1.here hx rfl (hb hby at_27) rfl ((if0 _ _).trans (feq hc27__3).1) ?_
      show Steps p.tables e below (T_1.setTop (mkF m 30 #[.val (.long q1), .second, .val (.int p1), .val (.int p2), .val (.long q2), .second, .val (.int p3), .val (.int p4), .val (.long ta), .second, .val (.int ca0), .val (.int ka), .unset, .unset, .unset, .unset, .unset, .unset, .unset, .unset, .unset, .unset, .unset, .unset, .unset, .unset] [])) _
      refine XS.lload X_1.here hx rfl (hb hby at_30) rfl ?_
      show Steps p.tables e below (T_1.setTop (mkF m 32 #[.val (.long q1), .second, .val (.int p1), .val (.int p2), .val (.long q2), .second, .val (.int p3), .val (.int p4), .val (.long ta), .second, .val (.int ca0), .val (.int ka), .unset, .unset, .unset, .unset, .unset, .unset, .unset, .unset, .unset, .unset, .unset, .unset, .unset, .unset] [(.long ta)])) _
      refine XS.goto X_1.here hx rfl (pc0 := 32) (pc' := 41) rfl (hb hby at_32) (by decide) (by decide) ?_
      show Steps p.tables e below (T_1.setTop (mkF m 41 #[.val (.long q1), .second, .val (.int p1), .val (.int p2), .val (.long q2), .second, .val (.int p3), .val (.int p4), .val (.long ta), .second, .val (.int ca0), .val (.int ka), .unset, .unset, .unset, .unset, .unset, .unset, .unset, .unset, .unset, .unset, .unset, .unset, .unset, .unset] [(.long ta)])) _
      have hw_tb := hv_tb
      rw [if_neg hc27__3] at hw_tb
      subst hw_tb
      exact k
  show OGo p e below _ (T_1.setTop (mkF m 41 #[.val (.long q1), .second, .val (.int p1), .val (.int p2), .val (.long q2), .second, .val (.int p3), .val (.int p4), .val (.long ta), .second, .val (.int ca0), .val (.int ka), .unset, .unset, .unset, .unset, .unset, .unset, .unset, .unset, .unset, .unset, .unset, .unset, .unset, .unset] [(.long tb)]))
  refine OGo.to (fun _ k => XS.lstore X_1.here hx rfl (hb hby at_41) rfl (l' := #[.val (.long q1), .second, .val (.int p1), .val (.int p2), .val (.long q2), .second, .val (.int p3), .val (.int p4), .val (.long ta), .second, .val (.int ca0), .val (.int ka), .val (.long tb), .second, .unset, .unset, .unset, .unset, .unset, .unset, .unset, .unset, .unset, .unset, .unset, .unset]) rfl k) ?_
  show OGo p e below _ (T_1.setTop (mkF m 43 #[.val (.long q1), .second, .val (.int p1), .val (.int p2), .val (.long q2), .second, .val (.int p3), .val (.int p4), .val (.long ta), .second, .val (.int ca0), .val (.int ka), .val (.long tb), .second, .unset, .unset, .unset, .unset, .unset, .unset, .unset, .unset, .unset, .unset, .unset, .unset] []))
  refine OGo.to (fun _ k => XS.iload X_1.here hx rfl (hb hby at_43) rfl k) ?_
  show OGo p e below _ (T_1.setTop (mkF m 45 #[.val (.long q1), .second, .val (.int p1), .val (.int p2), .val (.long q2), .second, .val (.int p3), .val (.int p4), .val (.long ta), .second, .val (.int ca0), .val (.int ka), .val (.long tb), .second, .unset, .unset, .unset, .unset, .unset, .unset, .unset, .unset, .unset, .unset, .unset, .unset] [(.int p4)]))
  refine OGo.to (fun _ k => XS.iconst X_1.here hx rfl (hb hby at_45) k) ?_
  show OGo p e below _ (T_1.setTop (mkF m 46 #[.val (.long q1), .second, .val (.int p1), .val (.int p2), .val (.long q2), .second, .val (.int p3), .val (.int p4), .val (.long ta), .second, .val (.int ca0), .val (.int ka), .val (.long tb), .second, .unset, .unset, .unset, .unset, .unset, .unset, .unset, .unset, .unset, .unset, .unset, .unset] [(.int (2 : Int32)), (.int p4)]))
  refine OGo.to (fun _ k => XS.iand X_1.here hx rfl (hb hby at_46) rfl k) ?_
  show OGo p e below _ (T_1.setTop (mkF m 47 #[.val (.long q1), .second, .val (.int p1), .val (.int p2), .val (.long q2), .second, .val (.int p3), .val (.int p4), .val (.long ta), .second, .val (.int ca0), .val (.int ka), .val (.long tb), .second, .unset, .unset, .unset, .unset, .unset, .unset, .unset, .unset, .unset, .unset, .unset, .unset] [(.int (p4 &&& (2 : Int32)))]))
  obtain ⟨cb, hv_cb⟩ : ∃ z : Int32, z = (if (p4 &&& (2 : Int32)) = (0 : Int32) then (p3 &&& (2147483647 : Int32)) else ca0) := ⟨_, rfl⟩
  refine OGo.to (S' := T_1.setTop (mkF m 60 #[.val (.long q1), .second, .val (.int p1), .val (.int p2), .val (.long q2), .second, .val (.int p3), .val (.int p4), .val (.long ta), .second, .val (.int ca0), .val (.int ka), .val (.long tb), .second, .unset, .unset, .unset, .unset, .unset, .unset, .unset, .unset, .unset, .unset, .unset, .unset] [(.int cb)])) (fun _ k => ?_) ?_
  ·
    show Steps p.tables e below (T_1.setTop (mkF m 47 #[.val (.long q1), .second, .val (.int p1), .val (.int p2), .val (.long q2), .second, .val (.int p3), .val (.int p4), .val (.long ta), .second, .val (.int ca0), .val (.int ka), .val (.long tb), .second, .unset, .unset, .unset, .unset, .unset, .unset, .unset, .unset, .unset, .unset, .unset, .unset] [(.int (p4 &&& (2 : Int32)))])) _
    by_cases hc47__5 : (p4 &&& (2 : Int32)) = (0 : Int32)
    ·  -- pc 47: yes
      refine XS.ifYes X_1.here hx rfl (pc0 := 47) (pc' := 55) rfl (hb hby at_47) rfl ((if0 _ _).trans (teq hc47__5).1) (by decide) (by decide) ?_
      show Steps p.tables e below (T_1.setTop (mkF m 55 #[.val (.long q1), .second, .val (.int p1), .val (.int p2), .val (.long q2), .second, .val (.int p3), .val (.int p4), .val (.long ta), .second, .val (.int ca0), .val (.int ka), .val (.long tb), .second, .unset, .unset, .unset, .unset, .unset, .unset, .unset, .unset, .unset, .unset, .unset, .unset] [])) _
      refine XS.iload X_1.here hx rfl (hb hby at_55) rfl ?_
      show Steps p.tables e below (T_1.setTop (mkF m 57 #[.val (.long q1), .second, .val (.int p1), .val (.int p2), .val (.long q2), .second, .val (.int p3), .val (.int p4), .val (.long ta), .second, .val (.int ca0), .val (.int ka), .val (.long tb), .second, .unset, .unset, .unset, .unset, .unset, .unset, .unset, .unset, .unset, .unset, .unset, .unset] [(.int p3)])) _
      refine X_1.ldcInt hx hown (mvT hZ (hw _ (List.mem_of_getElem? (i := 1) rfl))) (g := (mkF m 57 #[.val (.long q1), .second, .val (.int p1), .val (.int p2), .val (.long q2), .second, .val (.int p3), .val (.int p4), .val (.long ta), .second, .val (.int ca0), .val (.int ka), .val (.long tb), .second, .unset, .unset, .unset, .unset, .unset, .unset, .unset, .unset, .unset, .unset, .unset, .unset] [(.int p3)])) rfl (hb hby at_57) _ ?_
      show Steps p.tables e below (T_1.setTop (mkF m 59 #[.val (.long q1), .second, .val (.int p1), .val (.int p2), .val (.long q2), .second, .val (.int p3), .val (.int p4), .val (.long ta), .second, .val (.int ca0), .val (.int ka), .val (.long tb), .second, .unset, .unset, .unset, .unset, .unset, .unset, .unset, .unset, .unset, .unset, .unset, .unset] [(.int (2147483647 : Int32)), (.int p3)])) _
      refine XS.iand X_1.here hx rfl (hb hby at_59) rfl ?_
      show Steps p.tables e below (T_1.setTop (mkF m 60 #[.val (.long q1), .second, .val (.int p1), .val (.int p2), .val (.long q2), .second, .val (.int p3), .val (.int p4), .val (.long ta), .second, .val (.int ca0), .val (.int ka), .val (.long tb), .second, .unset, .unset, .unset, .unset, .unset, .unset, .unset, .unset, .unset, .unset, .unset, .unset] [(.int (p3 &&& (2147483647 : Int32)))])) _
      have hw_cb := hv_cb
      rw [if_pos hc47__5] at hw_cb
      subst hw_cb
      exact k
    ·  -- pc 47: no
      refine XS.ifNo X_1.here hx rfl (hb hby at_47) rfl ((if0 _ _).trans (feq hc47__5).1) ?_
      show Steps p.tables e below (T_1.setTop (mkF m 50 #[.val (.long q1), .second, .val (.int p1), .val (.int p2), .val (.long q2), .second, .val (.int p3), .val (.int p4), .val (.long ta), .second, .val (.int ca0), .val (.int ka), .val (.long tb), .second, .unset, .unset, .unset, .unset, .unset, .unset, .unset, .unset, .unset, .unset, .unset, .unset] [])) _
      refine XS.iload X_1.here hx rfl (hb hby at_50) rfl ?_
      show Steps p.tables e below (T_1.setTop (mkF m 52 #[.val (.long q1), .second, .val (.int p1), .val (.int p2), .val (.long q2), .second, .val (.int p3), .val (.int p4), .val (.long ta), .second, .val (.int ca0), .val (.int ka), .val (.long tb), .second, .unset, .unset, .unset, .unset, .unset, .unset, .unset, .unset, .unset, .unset, .unset, .unset] [(.int ca0)])) _
      refine XS.goto X_1.here hx rfl (pc0 := 52) (pc' := 60) rfl (hb hby at_52) (by decide) (by decide) ?_
      show Steps p.tables e below (T_1.setTop (mkF m 60 #[.val (.long q1), .second, .val (.int p1), .val (.int p2), .val (.long q2), .second, .val (.int p3), .val (.int p4), .val (.long ta), .second, .val (.int ca0), .val (.int ka), .val (.long tb), .second, .unset, .unset, .unset, .unset, .unset, .unset, .unset, .unset, .unset, .unset, .unset, .unset] [(.int ca0)])) _
      have hw_cb := hv_cb
      rw [if_neg hc47__5] at hw_cb
      subst hw_cb
      exact k
  show OGo p e below _ (T_1.setTop (mkF m 60 #[.val (.long q1), .second, .val (.int p1), .val (.int p2), .val (.long q2), .second, .val (.int p3), .val (.int p4), .val (.long ta), .second, .val (.int ca0), .val (.int ka), .val (.long tb), .second, .unset, .unset, .unset, .unset, .unset, .unset, .unset, .unset, .unset, .unset, .unset, .unset] [(.int cb)]))
  refine OGo.to (fun _ k => XS.istore X_1.here hx rfl (hb hby at_60) rfl (l' := #[.val (.long q1), .second, .val (.int p1), .val (.int p2), .val (.long q2), .second, .val (.int p3), .val (.int p4), .val (.long ta), .second, .val (.int ca0), .val (.int ka), .val (.long tb), .second, .val (.int cb), .unset, .unset, .unset, .unset, .unset, .unset, .unset, .unset, .unset, .unset, .unset]) rfl k) ?_
  show OGo p e below _ (T_1.setTop (mkF m 62 #[.val (.long q1), .second, .val (.int p1), .val (.int p2), .val (.long q2), .second, .val (.int p3), .val (.int p4), .val (.long ta), .second, .val (.int ca0), .val (.int ka), .val (.long tb), .second, .val (.int cb), .unset, .unset, .unset, .unset, .unset, .unset, .unset, .unset, .unset, .unset, .unset] []))
  refine OGo.to (fun _ k => XS.iload X_1.here hx rfl (hb hby at_62) rfl k) ?_
  show OGo p e below _ (T_1.setTop (mkF m 64 #[.val (.long q1), .second, .val (.int p1), .val (.int p2), .val (.long q2), .second, .val (.int p3), .val (.int p4), .val (.long ta), .second, .val (.int ca0), .val (.int ka), .val (.long tb), .second, .val (.int cb), .unset, .unset, .unset, .unset, .unset, .unset, .unset, .unset, .unset, .unset, .unset] [(.int p4)]))
  refine OGo.to (fun _ k => XS.iconst X_1.here hx rfl (hb hby at_64) k) ?_
  show OGo p e below _ (T_1.setTop (mkF m 65 #[.val (.long q1), .second, .val (.int p1), .val (.int p2), .val (.long q2), .second, .val (.int p3), .val (.int p4), .val (.long ta), .second, .val (.int ca0), .val (.int ka), .val (.long tb), .second, .val (.int cb), .unset, .unset, .unset, .unset, .unset, .unset, .unset, .unset, .unset, .unset, .unset] [(.int (4 : Int32)), (.int p4)]))
  refine OGo.to (fun _ k => XS.iand X_1.here hx rfl (hb hby at_65) rfl k) ?_
  show OGo p e below _ (T_1.setTop (mkF m 66 #[.val (.long q1), .second, .val (.int p1), .val (.int p2), .val (.long q2), .second, .val (.int p3), .val (.int p4), .val (.long ta), .second, .val (.int ca0), .val (.int ka), .val (.long tb), .second, .val (.int cb), .unset, .unset, .unset, .unset, .unset, .unset, .unset, .unset, .unset, .unset, .unset] [(.int (p4 &&& (4 : Int32)))]))
  by_cases hc66__6 : (p4 &&& (4 : Int32)) = (0 : Int32)
  ·  -- pc 66: yes
    refine OGo.to (fun _ k => XS.ifYes X_1.here hx rfl (pc0 := 66) (pc' := 74) rfl (hb hby at_66) rfl ((if0 _ _).trans (teq hc66__6).1) (by decide) (by decide) k) ?_
    show OGo p e below _ (T_1.setTop (mkF m 74 #[.val (.long q1), .second, .val (.int p1), .val (.int p2), .val (.long q2), .second, .val (.int p3), .val (.int p4), .val (.long ta), .second, .val (.int ca0), .val (.int ka), .val (.long tb), .second, .val (.int cb), .unset, .unset, .unset, .unset, .unset, .unset, .unset, .unset, .unset, .unset, .unset] []))
    refine OGo.to (fun _ k => XS.iconst X_1.here hx rfl (hb hby at_74) k) ?_
    show OGo p e below _ (T_1.setTop (mkF m 75 #[.val (.long q1), .second, .val (.int p1), .val (.int p2), .val (.long q2), .second, .val (.int p3), .val (.int p4), .val (.long ta), .second, .val (.int ca0), .val (.int ka), .val (.long tb), .second, .val (.int cb), .unset, .unset, .unset, .unset, .unset, .unset, .unset, .unset, .unset, .unset, .unset] [(.int (1 : Int32))]))
    refine OGo.to (fun _ k => XS.iload X_1.here hx rfl (hb hby at_75) rfl k) ?_
    show OGo p e below _ (T_1.setTop (mkF m 77 #[.val (.long q1), .second, .val (.int p1), .val (.int p2), .val (.long q2), .second, .val (.int p3), .val (.int p4), .val (.long ta), .second, .val (.int ca0), .val (.int ka), .val (.long tb), .second, .val (.int cb), .unset, .unset, .unset, .unset, .unset, .unset, .unset, .unset, .unset, .unset, .unset] [(.int p4), (.int (1 : Int32))]))
    refine OGo.to (fun _ k => XS.iconst X_1.here hx rfl (hb hby at_77) k) ?_
    show OGo p e below _ (T_1.setTop (mkF m 78 #[.val (.long q1), .second, .val (.int p1), .val (.int p2), .val (.long q2), .second, .val (.int p3), .val (.int p4), .val (.long ta), .second, .val (.int ca0), .val (.int ka), .val (.long tb), .second, .val (.int cb), .unset, .unset, .unset, .unset, .unset, .unset, .unset, .unset, .unset, .unset, .unset] [(.int (3 : Int32)), (.int p4), (.int (1 : Int32))]))
    refine OGo.to (fun _ k => XS.iushr X_1.here hx rfl (hb hby at_78) rfl k) ?_
    show OGo p e below _ (T_1.setTop (mkF m 79 #[.val (.long q1), .second, .val (.int p1), .val (.int p2), .val (.long q2), .second, .val (.int p3), .val (.int p4), .val (.long ta), .second, .val (.int ca0), .val (.int ka), .val (.long tb), .second, .val (.int cb), .unset, .unset, .unset, .unset, .unset, .unset, .unset, .unset, .unset, .unset, .unset] [(.int ((p4.toUInt32 >>> ((3 : Int32) &&& 31).toUInt32).toInt32)), (.int (1 : Int32))]))
    refine OGo.to (fun _ k => XS.iloadN X_1.here hx rfl (hb hby at_79) rfl k) ?_
    show OGo p e below _ (T_1.setTop (mkF m 80 #[.val (.long q1), .second, .val (.int p1), .val (.int p2), .val (.long q2), .second, .val (.int p3), .val (.int p4), .val (.long ta), .second, .val (.int ca0), .val (.int ka), .val (.long tb), .second, .val (.int cb), .unset, .unset, .unset, .unset, .unset, .unset, .unset, .unset, .unset, .unset, .unset] [(.int p2), (.int ((p4.toUInt32 >>> ((3 : Int32) &&& 31).toUInt32).toInt32)), (.int (1 : Int32))]))
    refine OGo.to (fun _ k => XS.ixor X_1.here hx rfl (hb hby at_80) rfl k) ?_
    show OGo p e below _ (T_1.setTop (mkF m 81 #[.val (.long q1), .second, .val (.int p1), .val (.int p2), .val (.long q2), .second, .val (.int p3), .val (.int p4), .val (.long ta), .second, .val (.int ca0), .val (.int ka), .val (.long tb), .second, .val (.int cb), .unset, .unset, .unset, .unset, .unset, .unset, .unset, .unset, .unset, .unset, .unset] [(.int (((p4.toUInt32 >>> ((3 : Int32) &&& 31).toUInt32).toInt32) ^^^ p2)), (.int (1 : Int32))]))
    refine OGo.to (fun _ k => X_1.ldcInt hx hown (mvT hZ (hw _ (List.mem_of_getElem? (i := 1) rfl))) (g := (mkF m 81 #[.val (.long q1), .second, .val (.int p1), .val (.int p2), .val (.long q2), .second, .val (.int p3), .val (.int p4), .val (.long ta), .second, .val (.int ca0), .val (.int ka), .val (.long tb), .second, .val (.int cb), .unset, .unset, .unset, .unset, .unset, .unset, .unset, .unset, .unset, .unset, .unset] [(.int (((p4.toUInt32 >>> ((3 : Int32) &&& 31).toUInt32).toInt32) ^^^ p2)), (.int (1 : Int32))])) rfl (hb hby at_81) _ k) ?_
    show OGo p e below _ (T_1.setTop (mkF m 83 #[.val (.long q1), .second, .val (.int p1), .val (.int p2), .val (.long q2), .second, .val (.int p3), .val (.int p4), .val (.long ta), .second, .val (.int ca0), .val (.int ka), .val (.long tb), .second, .val (.int cb), .unset, .unset, .unset, .unset, .unset, .unset, .unset, .unset, .unset, .unset, .unset] [(.int (2147483647 : Int32)), (.int (((p4.toUInt32 >>> ((3 : Int32) &&& 31).toUInt32).toInt32) ^^^ p2)), (.int (1 : Int32))]))
    refine OGo.to (fun _ k => XS.iand X_1.here hx rfl (hb hby at_83) rfl k) ?_
    show OGo p e below _ (T_1.setTop (mkF m 84 #[.val (.long q1), .second, .val (.int p1), .val (.int p2), .val (.long q2), .second, .val (.int p3), .val (.int p4), .val (.long ta), .second, .val (.int ca0), .val (.int ka), .val (.long tb), .second, .val (.int cb), .unset, .unset, .unset, .unset, .unset, .unset, .unset, .unset, .unset, .unset, .unset] [(.int ((((p4.toUInt32 >>> ((3 : Int32) &&& 31).toUInt32).toInt32) ^^^ p2) &&& (2147483647 : Int32))), (.int (1 : Int32))]))
    obtain ⟨_, T_7, Lc_7, X_7, hQ_7, st_7⟩ := own_un X_1 (Q := Q1 Z (1 : Int32) ((((p4.toUInt32 >>> ((3 : Int32) &&& 31).toUInt32).toInt32) ^^^ p2) &&& (2147483647 : Int32)) h0 n0) (rc := 0) (rs := 0) (W := fun v B => ∀ target, Steps p.tables e below (B.setTop { (mkF m 84 #[.val (.long q1), .second, .val (.int p1), .val (.int p2), .val (.long q2), .second, .val (.int p3), .val (.int p4), .val (.long ta), .second, .val (.int ca0), .val (.int ka), .val (.long tb), .second, .val (.int cb), .unset, .unset, .unset, .unset, .unset, .unset, .unset, .unset, .unset, .unset, .unset] [(.int ((((p4.toUInt32 >>> ((3 : Int32) &&& 31).toUInt32).toInt32) ^^^ p2) &&& (2147483647 : Int32))), (.int (1 : Int32))]) with pc := 87, stack := v.toList ++ [] }) target → Steps p.tables e below (T_1.setTop (mkF m 84 #[.val (.long q1), .second, .val (.int p1), .val (.int p2), .val (.long q2), .second, .val (.int p3), .val (.int p4), .val (.long ta), .second, .val (.int ca0), .val (.int ka), .val (.long tb), .second, .val (.int cb), .unset, .unset, .unset, .unset, .unset, .unset, .unset, .unset, .unset, .unset, .unset] [(.int ((((p4.toUInt32 >>> ((3 : Int32) &&& 31).toUInt32).toInt32) ^^^ p2) &&& (2147483647 : Int32))), (.int (1 : Int32))])) target) <| Jvm.LawKit.callS X_1 hx (y := (⟨"java/lang/Math", "max", "(II)I"⟩ : MethodName)) hown (mvT hZ (hw _ (List.mem_of_getElem? (i := 2) rfl))) (mvT hZ (hw _ (List.mem_of_getElem? (i := 3) rfl))) (mvT hZ (hw _ (List.mem_of_getElem? (i := 4) rfl))) (mvT hZ (hw _ (List.mem_of_getElem? (i := 5) rfl))) (by decide) (backOf (W := 0) (rm1 l Z a0 hw [] (1 : Int32) ((((p4.toUInt32 >>> ((3 : Int32) &&& 31).toUInt32).toInt32) ^^^ p2) &&& (2147483647 : Int32)) h0 n0 Z0 ) hZ (hw _ (List.mem_of_getElem? (i := 5) rfl)) (hw _ (List.mem_of_getElem? (i := 4) rfl)) (by decide) (by decide)) (g := (mkF m 84 #[.val (.long q1), .second, .val (.int p1), .val (.int p2), .val (.long q2), .second, .val (.int p3), .val (.int p4), .val (.long ta), .second, .val (.int ca0), .val (.int ka), .val (.long tb), .second, .val (.int cb), .unset, .unset, .unset, .unset, .unset, .unset, .unset, .unset, .unset, .unset, .unset] [(.int ((((p4.toUInt32 >>> ((3 : Int32) &&& 31).toUInt32).toInt32) ^^^ p2) &&& (2147483647 : Int32))), (.int (1 : Int32))])) rfl (by rw [hml]; rfl) (argsL := [(.int (1 : Int32)), (.int ((((p4.toUInt32 >>> ((3 : Int32) &&& 31).toUInt32).toInt32) ^^^ p2) &&& (2147483647 : Int32)))]) (rest := []) (lenOf pd_3 rfl) rfl (by show 2 * 0 + _ ≤ _; exact Nat.le_of_eq rfl) (hb hby at_84) (fun _ _ => ⟨rfl, e_1, (by decide : 0 + 0 ≤ _), (by decide : 0 + 0 ≤ _)⟩)
    obtain ⟨rfl, N_7q, e_7⟩ := hQ_7
    have N_7 := Fr.app N_1 N_7q
    refine OGo.to st_7 ?_
    show OGo p e below _ (T_7.setTop (mkF m 87 #[.val (.long q1), .second, .val (.int p1), .val (.int p2), .val (.long q2), .second, .val (.int p3), .val (.int p4), .val (.long ta), .second, .val (.int ca0), .val (.int ka), .val (.long tb), .second, .val (.int cb), .unset, .unset, .unset, .unset, .unset, .unset, .unset, .unset, .unset, .unset, .unset] [(.int (own_max (1 : Int32) ((((p4.toUInt32 >>> ((3 : Int32) &&& 31).toUInt32).toInt32) ^^^ p2) &&& (2147483647 : Int32))))]))
    obtain ⟨kb, hv_kb⟩ : ∃ z : Int32, z = (own_max (1 : Int32) ((((p4.toUInt32 >>> ((3 : Int32) &&& 31).toUInt32).toInt32) ^^^ p2) &&& (2147483647 : Int32))) := ⟨_, rfl⟩
    rw [← hv_kb]
    refine OGo.to (fun _ k => XS.istore X_7.here hx rfl (hb hby at_87) rfl (l' := #[.val (.long q1), .second, .val (.int p1), .val (.int p2), .val (.long q2), .second, .val (.int p3), .val (.int p4), .val (.long ta), .second, .val (.int ca0), .val (.int ka), .val (.long tb), .second, .val (.int cb), .val (.int kb), .unset, .unset, .unset, .unset, .unset, .unset, .unset, .unset, .unset, .unset]) rfl k) ?_
    show OGo p e below _ (T_7.setTop (mkF m 89 #[.val (.long q1), .second, .val (.int p1), .val (.int p2), .val (.long q2), .second, .val (.int p3), .val (.int p4), .val (.long ta), .second, .val (.int ca0), .val (.int ka), .val (.long tb), .second, .val (.int cb), .val (.int kb), .unset, .unset, .unset, .unset, .unset, .unset, .unset, .unset, .unset, .unset] []))
    obtain ⟨T_8, h_8, X_8, e_8, E_8, A_8, D_8, -, st_8⟩ := newO X_7 hx hZ hown (hw _ (List.mem_of_getElem? (i := 6) rfl)) (hw _ (List.mem_of_getElem? (i := 7) rfl)) (hw _ (List.mem_of_getElem? (i := 8) rfl)) e_7 (g := (mkF m 89 #[.val (.long q1), .second, .val (.int p1), .val (.int p2), .val (.long q2), .second, .val (.int p3), .val (.int p4), .val (.long ta), .second, .val (.int ca0), .val (.int ka), .val (.long tb), .second, .val (.int cb), .val (.int kb), .unset, .unset, .unset, .unset, .unset, .unset, .unset, .unset, .unset, .unset] [])) rfl (hb hby at_89) (by decide) (by decide)
    obtain ⟨b_8, g_8⟩ : ∃ z, z = h0.size := ⟨_, rfl⟩
    rw [← g_8] at A_8 D_8 st_8
    have g_b_8 : n0 ≤ b_8 := Nat.le_trans Z0 (Nat.le_of_eq g_8.symm)
    refine OGo.to st_8 ?_
    have z_9 : n0 ≤ h_8.size := Nat.le_trans Z0 E_8.1
    have O_10 : Old Z n0 h_8 := O0.ext E_8
    have F_timestamp_b_8 : Fld Z h_8 b_8 "com/example/heartwood/heartwood/Revision" "timestamp" "J" (.long (0 : Int64)) := D_8 (Or.inr (hw _ (List.mem_of_getElem? (i := 21) rfl))) (ty := .long) (by decide)
    have F_counter_b_8 : Fld Z h_8 b_8 "com/example/heartwood/heartwood/Revision" "counter" "I" (.int (0 : Int32)) := D_8 (Or.inr (hw _ (List.mem_of_getElem? (i := 23) rfl))) (ty := .int) (by decide)
    have F_clusterId_b_8 : Fld Z h_8 b_8 "com/example/heartwood/heartwood/Revision" "clusterId" "I" (.int (0 : Int32)) := D_8 (Or.inr (hw _ (List.mem_of_getElem? (i := 25) rfl))) (ty := .int) (by decide)
    show OGo p e below _ (T_8.setTop (mkF m 92 #[.val (.long q1), .second, .val (.int p1), .val (.int p2), .val (.long q2), .second, .val (.int p3), .val (.int p4), .val (.long ta), .second, .val (.int ca0), .val (.int ka), .val (.long tb), .second, .val (.int cb), .val (.int kb), .unset, .unset, .unset, .unset, .unset, .unset, .unset, .unset, .unset, .unset] [(.ref b_8)]))
    refine OGo.to (fun _ k => XS.dup X_8.here hx rfl (hb hby at_92) rfl rfl k) ?_
    show OGo p e below _ (T_8.setTop (mkF m 93 #[.val (.long q1), .second, .val (.int p1), .val (.int p2), .val (.long q2), .second, .val (.int p3), .val (.int p4), .val (.long ta), .second, .val (.int ca0), .val (.int ka), .val (.long tb), .second, .val (.int cb), .val (.int kb), .unset, .unset, .unset, .unset, .unset, .unset, .unset, .unset, .unset, .unset] [(.ref b_8), (.ref b_8)]))
    refine OGo.to (fun _ k => XS.lload X_8.here hx rfl (hb hby at_93) rfl k) ?_
    show OGo p e below _ (T_8.setTop (mkF m 95 #[.val (.long q1), .second, .val (.int p1), .val (.int p2), .val (.long q2), .second, .val (.int p3), .val (.int p4), .val (.long ta), .second, .val (.int ca0), .val (.int ka), .val (.long tb), .second, .val (.int cb), .val (.int kb), .unset, .unset, .unset, .unset, .unset, .unset, .unset, .unset, .unset, .unset] [(.long ta), (.ref b_8), (.ref b_8)]))
    refine OGo.to (fun _ k => XS.iload X_8.here hx rfl (hb hby at_95) rfl k) ?_
    show OGo p e below _ (T_8.setTop (mkF m 97 #[.val (.long q1), .second, .val (.int p1), .val (.int p2), .val (.long q2), .second, .val (.int p3), .val (.int p4), .val (.long ta), .second, .val (.int ca0), .val (.int ka), .val (.long tb), .second, .val (.int cb), .val (.int kb), .unset, .unset, .unset, .unset, .unset, .unset, .unset, .unset, .unset, .unset] [(.int ca0), (.long ta), (.ref b_8), (.ref b_8)]))
    refine OGo.to (fun _ k => XS.iload X_8.here hx rfl (hb hby at_97) rfl k) ?_
    show OGo p e below _ (T_8.setTop (mkF m 99 #[.val (.long q1), .second, .val (.int p1), .val (.int p2), .val (.long q2), .second, .val (.int p3), .val (.int p4), .val (.long ta), .second, .val (.int ca0), .val (.int ka), .val (.long tb), .second, .val (.int cb), .val (.int kb), .unset, .unset, .unset, .unset, .unset, .unset, .unset, .unset, .unset, .unset] [(.int ka), (.int ca0), (.long ta), (.ref b_8), (.ref b_8)]))
    obtain ⟨_, T_11, Lc_11, X_11, hQ_11, st_11⟩ := own_un X_8 (Q := Q2 Z b_8 ta ca0 ka (.long (0 : Int64)) (.int (0 : Int32)) (.int (0 : Int32)) h_8 n0) (rc := 0) (rs := 0) (W := fun v B => Steps p.tables e below (T_8.setTop (mkF m 99 #[.val (.long q1), .second, .val (.int p1), .val (.int p2), .val (.long q2), .second, .val (.int p3), .val (.int p4), .val (.long ta), .second, .val (.int ca0), .val (.int ka), .val (.long tb), .second, .val (.int cb), .val (.int kb), .unset, .unset, .unset, .unset, .unset, .unset, .unset, .unset, .unset, .unset] [(.int ka), (.int ca0), (.long ta), (.ref b_8), (.ref b_8)])) (B.setTop { (mkF m 99 #[.val (.long q1), .second, .val (.int p1), .val (.int p2), .val (.long q2), .second, .val (.int p3), .val (.int p4), .val (.long ta), .second, .val (.int ca0), .val (.int ka), .val (.long tb), .second, .val (.int cb), .val (.int kb), .unset, .unset, .unset, .unset, .unset, .unset, .unset, .unset, .unset, .unset] [(.int ka), (.int ca0), (.long ta), (.ref b_8), (.ref b_8)]) with pc := 102, stack := v.toList ++ [(.ref b_8)] })) <| X_8.specialBack hx (y := (⟨"com/example/heartwood/heartwood/Revision", "<init>", "(JII)V"⟩ : MethodName)) rfl hown (mvT hZ (hw _ (List.mem_of_getElem? (i := 9) rfl))) (mvT hZ (hw _ (List.mem_of_getElem? (i := 10) rfl))) (mvT hZ (hw _ (List.mem_of_getElem? (i := 11) rfl))) (by decide) (backOf (W := 1) (rm2 l Z a0 hw [] b_8 ta ca0 ka (.long (0 : Int64)) (.int (0 : Int32)) (.int (0 : Int32)) h_8 n0 z_9 A_8 F_timestamp_b_8 F_counter_b_8 F_clusterId_b_8 g_b_8 (by rw [hv_ta]; exact own_nnL q1) (by rw [hv_ca0]; exact own_nn p1) (by rw [hv_ka]; exact own_max1 _)) hZ (hw _ (List.mem_of_getElem? (i := 11) rfl)) (hw _ (List.mem_of_getElem? (i := 8) rfl)) (by decide) (by decide)) (g := (mkF m 99 #[.val (.long q1), .second, .val (.int p1), .val (.int p2), .val (.long q2), .second, .val (.int p3), .val (.int p4), .val (.long ta), .second, .val (.int ca0), .val (.int ka), .val (.long tb), .second, .val (.int cb), .val (.int kb), .unset, .unset, .unset, .unset, .unset, .unset, .unset, .unset, .unset, .unset] [(.int ka), (.int ca0), (.long ta), (.ref b_8), (.ref b_8)])) rfl (by rw [hml]; rfl) (Steps.refl _) (a := b_8) (argsL := [(.long ta), (.int ca0), (.int ka)]) (rest := [(.ref b_8)]) (lenOf pd_4 rfl) rfl (by show 2 * 0 + _ ≤ _; exact Nat.le_of_eq rfl) (hb hby at_99) (fun _ _ => ⟨rfl, e_8, (by decide : 1 + 0 ≤ _), (by decide : 3 + 0 ≤ _)⟩)
    obtain ⟨rfl, N_11q, K_11, p_11_0, p_11_1, p_11_2⟩ := hQ_11
    have N_11 := Fr.app N_7 N_11q
    refine OGo.to (fun _ k => st_11.trans k) ?_
    have z_12 : n0 ≤ T_11.heap.size := Nat.le_trans z_9 K_11.1
    have O_13 : Old Z n0 T_11.heap := O_10.keep K_11 (allS g_b_8 all0)
    show OGo p e below _ (T_11.setTop (mkF m 102 #[.val (.long q1), .second, .val (.int p1), .val (.int p2), .val (.long q2), .second, .val (.int p3), .val (.int p4), .val (.long ta), .second, .val (.int ca0), .val (.int ka), .val (.long tb), .second, .val (.int cb), .val (.int kb), .unset, .unset, .unset, .unset, .unset, .unset, .unset, .unset, .unset, .unset] [(.ref b_8)]))
    refine OGo.to (fun _ k => XS.astore X_11.here hx rfl (hb hby at_102) rfl rfl (l' := #[.val (.long q1), .second, .val (.int p1), .val (.int p2), .val (.long q2), .second, .val (.int p3), .val (.int p4), .val (.long ta), .second, .val (.int ca0), .val (.int ka), .val (.long tb), .second, .val (.int cb), .val (.int kb), .val (.ref b_8), .unset, .unset, .unset, .unset, .unset, .unset, .unset, .unset, .unset]) rfl k) ?_
    show OGo p e below _ (T_11.setTop (mkF m 104 #[.val (.long q1), .second, .val (.int p1), .val (.int p2), .val (.long q2), .second, .val (.int p3), .val (.int p4), .val (.long ta), .second, .val (.int ca0), .val (.int ka), .val (.long tb), .second, .val (.int cb), .val (.int kb), .val (.ref b_8), .unset, .unset, .unset, .unset, .unset, .unset, .unset, .unset, .unset] []))
    have f_15 : Exa Z T_11.heap b_8 "com/example/heartwood/heartwood/Revision" := (A_8.keep K_11)
    obtain ⟨T_14, h_14, X_14, e_14, E_14, A_14, D_14, -, st_14⟩ := newO X_11 hx hZ hown (hw _ (List.mem_of_getElem? (i := 6) rfl)) (hw _ (List.mem_of_getElem? (i := 7) rfl)) (hw _ (List.mem_of_getElem? (i := 8) rfl)) (rfl : T_11.heap = T_11.heap) (g := (mkF m 104 #[.val (.long q1), .second, .val (.int p1), .val (.int p2), .val (.long q2), .second, .val (.int p3), .val (.int p4), .val (.long ta), .second, .val (.int ca0), .val (.int ka), .val (.long tb), .second, .val (.int cb), .val (.int kb), .val (.ref b_8), .unset, .unset, .unset, .unset, .unset, .unset, .unset, .unset, .unset] [])) rfl (hb hby at_104) (by decide) (by decide)
    obtain ⟨b_14, g_14⟩ : ∃ z, z = T_11.heap.size := ⟨_, rfl⟩
    rw [← g_14] at A_14 D_14 st_14
    have g_b_14 : n0 ≤ b_14 := Nat.le_trans z_12 (Nat.le_of_eq g_14.symm)
    refine OGo.to st_14 ?_
    have ne_b_8_b_14 : b_8 ≠ b_14 := Nat.ne_of_lt (Nat.lt_of_lt_of_le f_15.lt (Nat.le_of_eq g_14.symm))
    have z_16 : n0 ≤ h_14.size := Nat.le_trans z_12 E_14.1
    have O_17 : Old Z n0 h_14 := O_13.ext E_14
    have F_timestamp_b_14 : Fld Z h_14 b_14 "com/example/heartwood/heartwood/Revision" "timestamp" "J" (.long (0 : Int64)) := D_14 (Or.inr (hw _ (List.mem_of_getElem? (i := 21) rfl))) (ty := .long) (by decide)
    have F_counter_b_14 : Fld Z h_14 b_14 "com/example/heartwood/heartwood/Revision" "counter" "I" (.int (0 : Int32)) := D_14 (Or.inr (hw _ (List.mem_of_getElem? (i := 23) rfl))) (ty := .int) (by decide)
    have F_clusterId_b_14 : Fld Z h_14 b_14 "com/example/heartwood/heartwood/Revision" "clusterId" "I" (.int (0 : Int32)) := D_14 (Or.inr (hw _ (List.mem_of_getElem? (i := 25) rfl))) (ty := .int) (by decide)
    show OGo p e below _ (T_14.setTop (mkF m 107 #[.val (.long q1), .second, .val (.int p1), .val (.int p2), .val (.long q2), .second, .val (.int p3), .val (.int p4), .val (.long ta), .second, .val (.int ca0), .val (.int ka), .val (.long tb), .second, .val (.int cb), .val (.int kb), .val (.ref b_8), .unset, .unset, .unset, .unset, .unset, .unset, .unset, .unset, .unset] [(.ref b_14)]))
    refine OGo.to (fun _ k => XS.dup X_14.here hx rfl (hb hby at_107) rfl rfl k) ?_
    show OGo p e below _ (T_14.setTop (mkF m 108 #[.val (.long q1), .second, .val (.int p1), .val (.int p2), .val (.long q2), .second, .val (.int p3), .val (.int p4), .val (.long ta), .second, .val (.int ca0), .val (.int ka), .val (.long tb), .second, .val (.int cb), .val (.int kb), .val (.ref b_8), .unset, .unset, .unset, .unset, .unset, .unset, .unset, .unset, .unset] [(.ref b_14), (.ref b_14)]))
    refine OGo.to (fun _ k => XS.lload X_14.here hx rfl (hb hby at_108) rfl k) ?_
    show OGo p e below _ (T_14.setTop (mkF m 110 #[.val (.long q1), .second, .val (.int p1), .val (.int p2), .val (.long q2), .second, .val (.int p3), .val (.int p4), .val (.long ta), .second, .val (.int ca0), .val (.int ka), .val (.long tb), .second, .val (.int cb), .val (.int kb), .val (.ref b_8), .unset, .unset, .unset, .unset, .unset, .unset, .unset, .unset, .unset] [(.long tb), (.ref b_14), (.ref b_14)]))
    refine OGo.to (fun _ k => XS.iload X_14.here hx rfl (hb hby at_110) rfl k) ?_
    show OGo p e below _ (T_14.setTop (mkF m 112 #[.val (.long q1), .second, .val (.int p1), .val (.int p2), .val (.long q2), .second, .val (.int p3), .val (.int p4), .val (.long ta), .second, .val (.int ca0), .val (.int ka), .val (.long tb), .second, .val (.int cb), .val (.int kb), .val (.ref b_8), .unset, .unset, .unset, .unset, .unset, .unset, .unset, .unset, .unset] [(.int cb), (.long tb), (.ref b_14), (.ref b_14)]))
    refine OGo.to (fun _ k => XS.iload X_14.here hx rfl (hb hby at_112) rfl k) ?_
    show OGo p e below _ (T_14.setTop (mkF m 114 #[.val (.long q1), .second, .val (.int p1), .val (.int p2), .val (.long q2), .second, .val (.int p3), .val (.int p4), .val (.long ta), .second, .val (.int ca0), .val (.int ka), .val (.long tb), .second, .val (.int cb), .val (.int kb), .val (.ref b_8), .unset, .unset, .unset, .unset, .unset, .unset, .unset, .unset, .unset] [(.int kb), (.int cb), (.long tb), (.ref b_14), (.ref b_14)]))
    obtain ⟨_, T_18, Lc_18, X_18, hQ_18, st_18⟩ := own_un X_14 (Q := Q2 Z b_14 tb cb kb (.long (0 : Int64)) (.int (0 : Int32)) (.int (0 : Int32)) h_14 n0) (rc := 0) (rs := 0) (W := fun v B => Steps p.tables e below (T_14.setTop (mkF m 114 #[.val (.long q1), .second, .val (.int p1), .val (.int p2), .val (.long q2), .second, .val (.int p3), .val (.int p4), .val (.long ta), .second, .val (.int ca0), .val (.int ka), .val (.long tb), .second, .val (.int cb), .val (.int kb), .val (.ref b_8), .unset, .unset, .unset, .unset, .unset, .unset, .unset, .unset, .unset] [(.int kb), (.int cb), (.long tb), (.ref b_14), (.ref b_14)])) (B.setTop { (mkF m 114 #[.val (.long q1), .second, .val (.int p1), .val (.int p2), .val (.long q2), .second, .val (.int p3), .val (.int p4), .val (.long ta), .second, .val (.int ca0), .val (.int ka), .val (.long tb), .second, .val (.int cb), .val (.int kb), .val (.ref b_8), .unset, .unset, .unset, .unset, .unset, .unset, .unset, .unset, .unset] [(.int kb), (.int cb), (.long tb), (.ref b_14), (.ref b_14)]) with pc := 117, stack := v.toList ++ [(.ref b_14)] })) <| X_14.specialBack hx (y := (⟨"com/example/heartwood/heartwood/Revision", "<init>", "(JII)V"⟩ : MethodName)) rfl hown (mvT hZ (hw _ (List.mem_of_getElem? (i := 9) rfl))) (mvT hZ (hw _ (List.mem_of_getElem? (i := 10) rfl))) (mvT hZ (hw _ (List.mem_of_getElem? (i := 11) rfl))) (by decide) (backOf (W := 1) (rm2 l Z a0 hw [] b_14 tb cb kb (.long (0 : Int64)) (.int (0 : Int32)) (.int (0 : Int32)) h_14 n0 z_16 A_14 F_timestamp_b_14 F_counter_b_14 F_clusterId_b_14 g_b_14 (by rw [hv_tb]; exact own_D1 (own_nnL q2) (by rw [hv_ta]; exact own_nnL q1)) (by rw [hv_cb]; exact own_D2 (own_nn p3) (by rw [hv_ca0]; exact own_nn p1)) (by rw [hv_kb]; exact own_max1 _)) hZ (hw _ (List.mem_of_getElem? (i := 11) rfl)) (hw _ (List.mem_of_getElem? (i := 8) rfl)) (by decide) (by decide)) (g := (mkF m 114 #[.val (.long q1), .second, .val (.int p1), .val (.int p2), .val (.long q2), .second, .val (.int p3), .val (.int p4), .val (.long ta), .second, .val (.int ca0), .val (.int ka), .val (.long tb), .second, .val (.int cb), .val (.int kb), .val (.ref b_8), .unset, .unset, .unset, .unset, .unset, .unset, .unset, .unset, .unset] [(.int kb), (.int cb), (.long tb), (.ref b_14), (.ref b_14)])) rfl (by rw [hml]; rfl) (Steps.refl _) (a := b_14) (argsL := [(.long tb), (.int cb), (.int kb)]) (rest := [(.ref b_14)]) (lenOf pd_4 rfl) rfl (by show 2 * 0 + _ ≤ _; exact Nat.le_of_eq rfl) (hb hby at_114) (fun _ _ => ⟨rfl, e_14, (by decide : 2 + 0 ≤ _), (by decide : 6 + 0 ≤ _)⟩)
    obtain ⟨rfl, N_18q, K_18, p_18_0, p_18_1, p_18_2⟩ := hQ_18
    have N_18 := Fr.app N_11 N_18q
    refine OGo.to (fun _ k => st_18.trans k) ?_
    have z_19 : n0 ≤ T_18.heap.size := Nat.le_trans z_16 K_18.1
    have O_20 : Old Z n0 T_18.heap := O_17.keep K_18 (allS g_b_14 all0)
    show OGo p e below _ (T_18.setTop (mkF m 117 #[.val (.long q1), .second, .val (.int p1), .val (.int p2), .val (.long q2), .second, .val (.int p3), .val (.int p4), .val (.long ta), .second, .val (.int ca0), .val (.int ka), .val (.long tb), .second, .val (.int cb), .val (.int kb), .val (.ref b_8), .unset, .unset, .unset, .unset, .unset, .unset, .unset, .unset, .unset] [(.ref b_14)]))
    refine OGo.to (fun _ k => XS.astore X_18.here hx rfl (hb hby at_117) rfl rfl (l' := #[.val (.long q1), .second, .val (.int p1), .val (.int p2), .val (.long q2), .second, .val (.int p3), .val (.int p4), .val (.long ta), .second, .val (.int ca0), .val (.int ka), .val (.long tb), .second, .val (.int cb), .val (.int kb), .val (.ref b_8), .val (.ref b_14), .unset, .unset, .unset, .unset, .unset, .unset, .unset, .unset]) rfl k) ?_
    show OGo p e below _ (T_18.setTop (mkF m 119 #[.val (.long q1), .second, .val (.int p1), .val (.int p2), .val (.long q2), .second, .val (.int p3), .val (.int p4), .val (.long ta), .second, .val (.int ca0), .val (.int ka), .val (.long tb), .second, .val (.int cb), .val (.int kb), .val (.ref b_8), .val (.ref b_14), .unset, .unset, .unset, .unset, .unset, .unset, .unset, .unset] []))
    refine OGo.to (fun _ k => XS.lload X_18.here hx rfl (hb hby at_119) rfl k) ?_
    show OGo p e below _ (T_18.setTop (mkF m 121 #[.val (.long q1), .second, .val (.int p1), .val (.int p2), .val (.long q2), .second, .val (.int p3), .val (.int p4), .val (.long ta), .second, .val (.int ca0), .val (.int ka), .val (.long tb), .second, .val (.int cb), .val (.int kb), .val (.ref b_8), .val (.ref b_14), .unset, .unset, .unset, .unset, .unset, .unset, .unset, .unset] [(.long ta)]))
    refine OGo.to (fun _ k => XS.lload X_18.here hx rfl (hb hby at_121) rfl k) ?_
    show OGo p e below _ (T_18.setTop (mkF m 123 #[.val (.long q1), .second, .val (.int p1), .val (.int p2), .val (.long q2), .second, .val (.int p3), .val (.int p4), .val (.long ta), .second, .val (.int ca0), .val (.int ka), .val (.long tb), .second, .val (.int cb), .val (.int kb), .val (.ref b_8), .val (.ref b_14), .unset, .unset, .unset, .unset, .unset, .unset, .unset, .unset] [(.long tb), (.long ta)]))
    refine OGo.to (fun _ k => XS.lcmp X_18.here hx rfl (hb hby at_123) rfl k) ?_
    show OGo p e below _ (T_18.setTop (mkF m 124 #[.val (.long q1), .second, .val (.int p1), .val (.int p2), .val (.long q2), .second, .val (.int p3), .val (.int p4), .val (.long ta), .second, .val (.int ca0), .val (.int ka), .val (.long tb), .second, .val (.int cb), .val (.int kb), .val (.ref b_8), .val (.ref b_14), .unset, .unset, .unset, .unset, .unset, .unset, .unset, .unset] [(.int (lcmpW ta tb))]))
    obtain ⟨ex, hv_ex⟩ : ∃ z : Int32, z = (if ta = tb then (if ca0 = cb then (if ka = kb then (1 : Int32) else (0 : Int32)) else (0 : Int32)) else (0 : Int32)) := ⟨_, rfl⟩
    refine OGo.to (S' := T_18.setTop (mkF m 146 #[.val (.long q1), .second, .val (.int p1), .val (.int p2), .val (.long q2), .second, .val (.int p3), .val (.int p4), .val (.long ta), .second, .val (.int ca0), .val (.int ka), .val (.long tb), .second, .val (.int cb), .val (.int kb), .val (.ref b_8), .val (.ref b_14), .unset, .unset, .unset, .unset, .unset, .unset, .unset, .unset] [(.int ex)])) (fun _ k => ?_) ?_
    ·
      show Steps p.tables e below (T_18.setTop (mkF m 124 #[.val (.long q1), .second, .val (.int p1), .val (.int p2), .val (.long q2), .second, .val (.int p3), .val (.int p4), .val (.long ta), .second, .val (.int ca0), .val (.int ka), .val (.long tb), .second, .val (.int cb), .val (.int kb), .val (.ref b_8), .val (.ref b_14), .unset, .unset, .unset, .unset, .unset, .unset, .unset, .unset] [(.int (lcmpW ta tb))])) _
      by_cases hc124__22 : ta = tb
      ·  -- pc 124: yes
        refine XS.ifNo X_18.here hx rfl (hb hby at_124) rfl ((if0 _ _).trans (teq ((lw_eq ta tb).mpr hc124__22)).2) ?_
        show Steps p.tables e below (T_18.setTop (mkF m 127 #[.val (.long q1), .second, .val (.int p1), .val (.int p2), .val (.long q2), .second, .val (.int p3), .val (.int p4), .val (.long ta), .second, .val (.int ca0), .val (.int ka), .val (.long tb), .second, .val (.int cb), .val (.int kb), .val (.ref b_8), .val (.ref b_14), .unset, .unset, .unset, .unset, .unset, .unset, .unset, .unset] [])) _
        refine XS.iload X_18.here hx rfl (hb hby at_127) rfl ?_
        show Steps p.tables e below (T_18.setTop (mkF m 129 #[.val (.long q1), .second, .val (.int p1), .val (.int p2), .val (.long q2), .second, .val (.int p3), .val (.int p4), .val (.long ta), .second, .val (.int ca0), .val (.int ka), .val (.long tb), .second, .val (.int cb), .val (.int kb), .val (.ref b_8), .val (.ref b_14), .unset, .unset, .unset, .unset, .unset, .unset, .unset, .unset] [(.int ca0)])) _
        refine XS.iload X_18.here hx rfl (hb hby at_129) rfl ?_
        show Steps p.tables e below (T_18.setTop (mkF m 131 #[.val (.long q1), .second, .val (.int p1), .val (.int p2), .val (.long q2), .second, .val (.int p3), .val (.int p4), .val (.long ta), .second, .val (.int ca0), .val (.int ka), .val (.long tb), .second, .val (.int cb), .val (.int kb), .val (.ref b_8), .val (.ref b_14), .unset, .unset, .unset, .unset, .unset, .unset, .unset, .unset] [(.int cb), (.int ca0)])) _
        by_cases hc131__23 : ca0 = cb
        ·  -- pc 131: yes
          refine XS.icmpNo X_18.here hx rfl (hb hby at_131) rfl (teq hc131__23).2 ?_
          show Steps p.tables e below (T_18.setTop (mkF m 134 #[.val (.long q1), .second, .val (.int p1), .val (.int p2), .val (.long q2), .second, .val (.int p3), .val (.int p4), .val (.long ta), .second, .val (.int ca0), .val (.int ka), .val (.long tb), .second, .val (.int cb), .val (.int kb), .val (.ref b_8), .val (.ref b_14), .unset, .unset, .unset, .unset, .unset, .unset, .unset, .unset] [])) _
          refine XS.iload X_18.here hx rfl (hb hby at_134) rfl ?_
          show Steps p.tables e below (T_18.setTop (mkF m 136 #[.val (.long q1), .second, .val (.int p1), .val (.int p2), .val (.long q2), .second, .val (.int p3), .val (.int p4), .val (.long ta), .second, .val (.int ca0), .val (.int ka), .val (.long tb), .second, .val (.int cb), .val (.int kb), .val (.ref b_8), .val (.ref b_14), .unset, .unset, .unset, .unset, .unset, .unset, .unset, .unset] [(.int ka)])) _
          refine XS.iload X_18.here hx rfl (hb hby at_136) rfl ?_
          show Steps p.tables e below (T_18.setTop (mkF m 138 #[.val (.long q1), .second, .val (.int p1), .val (.int p2), .val (.long q2), .second, .val (.int p3), .val (.int p4), .val (.long ta), .second, .val (.int ca0), .val (.int ka), .val (.long tb), .second, .val (.int cb), .val (.int kb), .val (.ref b_8), .val (.ref b_14), .unset, .unset, .unset, .unset, .unset, .unset, .unset, .unset] [(.int kb), (.int ka)])) _
          by_cases hc138__24 : ka = kb
          ·  -- pc 138: yes
            refine XS.icmpNo X_18.here hx rfl (hb hby at_138) rfl (teq hc138__24).2 ?_
            show Steps p.tables e below (T_18.setTop (mkF m 141 #[.val (.long q1), .second, .val (.int p1), .val (.int p2), .val (.long q2), .second, .val (.int p3), .val (.int p4), .val (.long ta), .second, .val (.int ca0), .val (.int ka), .val (.long tb), .second, .val (.int cb), .val (.int kb), .val (.ref b_8), .val (.ref b_14), .unset, .unset, .unset, .unset, .unset, .unset, .unset, .unset] [])) _
            refine XS.iconst X_18.here hx rfl (hb hby at_141) ?_
            show Steps p.tables e below (T_18.setTop (mkF m 142 #[.val (.long q1), .second, .val (.int p1), .val (.int p2), .val (.long q2), .second, .val (.int p3), .val (.int p4), .val (.long ta), .second, .val (.int ca0), .val (.int ka), .val (.long tb), .second, .val (.int cb), .val (.int kb), .val (.ref b_8), .val (.ref b_14), .unset, .unset, .unset, .unset, .unset, .unset, .unset, .unset] [(.int (1 : Int32))])) _
            refine XS.goto X_18.here hx rfl (pc0 := 142) (pc' := 146) rfl (hb hby at_142) (by decide) (by decide) ?_
            show Steps p.tables e below (T_18.setTop (mkF m 146 #[.val (.long q1), .second, .val (.int p1), .val (.int p2), .val (.long q2), .second, .val (.int p3), .val (.int p4), .val (.long ta), .second, .val (.int ca0), .val (.int ka), .val (.long tb), .second, .val (.int cb), .val (.int kb), .val (.ref b_8), .val (.ref b_14), .unset, .unset, .unset, .unset, .unset, .unset, .unset, .unset] [(.int (1 : Int32))])) _
            have hw_ex := hv_ex
            rw [if_pos hc124__22, if_pos hc131__23, if_pos hc138__24] at hw_ex
            subst hw_ex
            exact k
          ·  -- pc 138: no
            refine XS.icmpYes X_18.here hx rfl (pc0 := 138) (pc' := 145) rfl (hb hby at_138) rfl (feq hc138__24).2 (by decide) (by decide) ?_
            show Steps p.tables e below (T_18.setTop (mkF m 145 #[.val (.long q1), .second, .val (.int p1), .val (.int p2), .val (.long q2), .second, .val (.int p3), .val (.int p4), .val (.long ta), .second, .val (.int ca0), .val (.int ka), .val (.long tb), .second, .val (.int cb), .val (.int kb), .val (.ref b_8), .val (.ref b_14), .unset, .unset, .unset, .unset, .unset, .unset, .unset, .unset] [])) _
            refine XS.iconst X_18.here hx rfl (hb hby at_145) ?_
            show Steps p.tables e below (T_18.setTop (mkF m 146 #[.val (.long q1), .second, .val (.int p1), .val (.int p2), .val (.long q2), .second, .val (.int p3), .val (.int p4), .val (.long ta), .second, .val (.int ca0), .val (.int ka), .val (.long tb), .second, .val (.int cb), .val (.int kb), .val (.ref b_8), .val (.ref b_14), .unset, .unset, .unset, .unset, .unset, .unset, .unset, .unset] [(.int (0 : Int32))])) _
            have hw_ex := hv_ex
            rw [if_pos hc124__22, if_pos hc131__23, if_neg hc138__24] at hw_ex
            subst hw_ex
            exact k
        ·  -- pc 131: no
          refine XS.icmpYes X_18.here hx rfl (pc0 := 131) (pc' := 145) rfl (hb hby at_131) rfl (feq hc131__23).2 (by decide) (by decide) ?_
          show Steps p.tables e below (T_18.setTop (mkF m 145 #[.val (.long q1), .second, .val (.int p1), .val (.int p2), .val (.long q2), .second, .val (.int p3), .val (.int p4), .val (.long ta), .second, .val (.int ca0), .val (.int ka), .val (.long tb), .second, .val (.int cb), .val (.int kb), .val (.ref b_8), .val (.ref b_14), .unset, .unset, .unset, .unset, .unset, .unset, .unset, .unset] [])) _
          refine XS.iconst X_18.here hx rfl (hb hby at_145) ?_
          show Steps p.tables e below (T_18.setTop (mkF m 146 #[.val (.long q1), .second, .val (.int p1), .val (.int p2), .val (.long q2), .second, .val (.int p3), .val (.int p4), .val (.long ta), .second, .val (.int ca0), .val (.int ka), .val (.long tb), .second, .val (.int cb), .val (.int kb), .val (.ref b_8), .val (.ref b_14), .unset, .unset, .unset, .unset, .unset, .unset, .unset, .unset] [(.int (0 : Int32))])) _
          have hw_ex := hv_ex
          rw [if_pos hc124__22, if_neg hc131__23] at hw_ex
          subst hw_ex
          exact k
      ·  -- pc 124: no
        refine XS.ifYes X_18.here hx rfl (pc0 := 124) (pc' := 145) rfl (hb hby at_124) rfl ((if0 _ _).trans (feq (mt (lw_eq ta tb).mp hc124__22)).2) (by decide) (by decide) ?_
        show Steps p.tables e below (T_18.setTop (mkF m 145 #[.val (.long q1), .second, .val (.int p1), .val (.int p2), .val (.long q2), .second, .val (.int p3), .val (.int p4), .val (.long ta), .second, .val (.int ca0), .val (.int ka), .val (.long tb), .second, .val (.int cb), .val (.int kb), .val (.ref b_8), .val (.ref b_14), .unset, .unset, .unset, .unset, .unset, .unset, .unset, .unset] [])) _
        refine XS.iconst X_18.here hx rfl (hb hby at_145) ?_
        show Steps p.tables e below (T_18.setTop (mkF m 146 #[.val (.long q1), .second, .val (.int p1), .val (.int p2), .val (.long q2), .second, .val (.int p3), .val (.int p4), .val (.long ta), .second, .val (.int ca0), .val (.int ka), .val (.long tb), .second, .val (.int cb), .val (.int kb), .val (.ref b_8), .val (.ref b_14), .unset, .unset, .unset, .unset, .unset, .unset, .unset, .unset] [(.int (0 : Int32))])) _
        have hw_ex := hv_ex
        rw [if_neg hc124__22] at hw_ex
        subst hw_ex
        exact k
    show OGo p e below _ (T_18.setTop (mkF m 146 #[.val (.long q1), .second, .val (.int p1), .val (.int p2), .val (.long q2), .second, .val (.int p3), .val (.int p4), .val (.long ta), .second, .val (.int ca0), .val (.int ka), .val (.long tb), .second, .val (.int cb), .val (.int kb), .val (.ref b_8), .val (.ref b_14), .unset, .unset, .unset, .unset, .unset, .unset, .unset, .unset] [(.int ex)]))
    refine OGo.to (fun _ k => XS.istore X_18.here hx rfl (hb hby at_146) rfl (l' := #[.val (.long q1), .second, .val (.int p1), .val (.int p2), .val (.long q2), .second, .val (.int p3), .val (.int p4), .val (.long ta), .second, .val (.int ca0), .val (.int ka), .val (.long tb), .second, .val (.int cb), .val (.int kb), .val (.ref b_8), .val (.ref b_14), .val (.int ex), .unset, .unset, .unset, .unset, .unset, .unset, .unset]) rfl k) ?_
    show OGo p e below _ (T_18.setTop (mkF m 148 #[.val (.long q1), .second, .val (.int p1), .val (.int p2), .val (.long q2), .second, .val (.int p3), .val (.int p4), .val (.long ta), .second, .val (.int ca0), .val (.int ka), .val (.long tb), .second, .val (.int cb), .val (.int kb), .val (.ref b_8), .val (.ref b_14), .val (.int ex), .unset, .unset, .unset, .unset, .unset, .unset, .unset] []))
    refine OGo.to (fun _ k => XS.lload X_18.here hx rfl (hb hby at_148) rfl k) ?_
    show OGo p e below _ (T_18.setTop (mkF m 150 #[.val (.long q1), .second, .val (.int p1), .val (.int p2), .val (.long q2), .second, .val (.int p3), .val (.int p4), .val (.long ta), .second, .val (.int ca0), .val (.int ka), .val (.long tb), .second, .val (.int cb), .val (.int kb), .val (.ref b_8), .val (.ref b_14), .val (.int ex), .unset, .unset, .unset, .unset, .unset, .unset, .unset] [(.long ta)]))
    obtain ⟨_, T_25, Lc_25, X_25, hQ_25, st_25⟩ := own_un X_18 (Q := Q5 Z ta ca cl T_18.heap n0) (rc := 1) (rs := 1) (W := fun v B => ∀ target, Steps p.tables e below (B.setTop { (mkF m 150 #[.val (.long q1), .second, .val (.int p1), .val (.int p2), .val (.long q2), .second, .val (.int p3), .val (.int p4), .val (.long ta), .second, .val (.int ca0), .val (.int ka), .val (.long tb), .second, .val (.int cb), .val (.int kb), .val (.ref b_8), .val (.ref b_14), .val (.int ex), .unset, .unset, .unset, .unset, .unset, .unset, .unset] [(.long ta)]) with pc := 153, stack := v.toList ++ [] }) target → Steps p.tables e below (T_18.setTop (mkF m 150 #[.val (.long q1), .second, .val (.int p1), .val (.int p2), .val (.long q2), .second, .val (.int p3), .val (.int p4), .val (.long ta), .second, .val (.int ca0), .val (.int ka), .val (.long tb), .second, .val (.int cb), .val (.int kb), .val (.ref b_8), .val (.ref b_14), .val (.int ex), .unset, .unset, .unset, .unset, .unset, .unset, .unset] [(.long ta)])) target) <| Jvm.LawKit.callS X_18 hx (y := (⟨"java/lang/Long", "valueOf", "(J)Ljava/lang/Long;"⟩ : MethodName)) hown (mvT hZ (hw _ (List.mem_of_getElem? (i := 26) rfl))) (mvT hZ (hw _ (List.mem_of_getElem? (i := 27) rfl))) (mvT hZ (hw _ (List.mem_of_getElem? (i := 28) rfl))) (mvT hZ (hw _ (List.mem_of_getElem? (i := 29) rfl))) (by decide) (backOf (W := 0) (rm5 l Z a0 hw [] ta ca cl T_18.heap n0 z_19 S1 O_20 (HC)) hZ (hw _ (List.mem_of_getElem? (i := 29) rfl)) (hw _ (List.mem_of_getElem? (i := 28) rfl)) (by decide) (by decide)) (g := (mkF m 150 #[.val (.long q1), .second, .val (.int p1), .val (.int p2), .val (.long q2), .second, .val (.int p3), .val (.int p4), .val (.long ta), .second, .val (.int ca0), .val (.int ka), .val (.long tb), .second, .val (.int cb), .val (.int kb), .val (.ref b_8), .val (.ref b_14), .val (.int ex), .unset, .unset, .unset, .unset, .unset, .unset, .unset] [(.long ta)])) rfl (by rw [hml]; rfl) (argsL := [(.long ta)]) (rest := []) (lenOf pd_5 rfl) rfl (by show 2 * 0 + _ ≤ _; exact Nat.le_of_eq rfl) (hb hby at_150) (fun _ _ => ⟨rfl, (rfl : T_18.heap = T_18.heap), (by decide : 2 + 1 ≤ _), (by decide : 6 + 1 ≤ _)⟩)
    obtain ⟨b__25, rfl, N_25q, K_25, p_25_0⟩ := hQ_25
    have N_25 := Fr.app N_18 N_25q
    refine OGo.to st_25 ?_
    have z_26 : n0 ≤ T_25.heap.size := Nat.le_trans z_19 K_25.1
    have O_27 : Old Z n0 T_25.heap := O_20.keep K_25 all0
    show OGo p e below _ (T_25.setTop (mkF m 153 #[.val (.long q1), .second, .val (.int p1), .val (.int p2), .val (.long q2), .second, .val (.int p3), .val (.int p4), .val (.long ta), .second, .val (.int ca0), .val (.int ka), .val (.long tb), .second, .val (.int cb), .val (.int kb), .val (.ref b_8), .val (.ref b_14), .val (.int ex), .unset, .unset, .unset, .unset, .unset, .unset, .unset] [(.ref b__25)]))
    refine OGo.to (fun _ k => XS.astore X_25.here hx rfl (hb hby at_153) rfl rfl (l' := #[.val (.long q1), .second, .val (.int p1), .val (.int p2), .val (.long q2), .second, .val (.int p3), .val (.int p4), .val (.long ta), .second, .val (.int ca0), .val (.int ka), .val (.long tb), .second, .val (.int cb), .val (.int kb), .val (.ref b_8), .val (.ref b_14), .val (.int ex), .val (.ref b__25), .unset, .unset, .unset, .unset, .unset, .unset]) rfl k) ?_
    show OGo p e below _ (T_25.setTop (mkF m 155 #[.val (.long q1), .second, .val (.int p1), .val (.int p2), .val (.long q2), .second, .val (.int p3), .val (.int p4), .val (.long ta), .second, .val (.int ca0), .val (.int ka), .val (.long tb), .second, .val (.int cb), .val (.int kb), .val (.ref b_8), .val (.ref b_14), .val (.int ex), .val (.ref b__25), .unset, .unset, .unset, .unset, .unset, .unset] []))
    refine OGo.to (fun _ k => XS.aload X_25.here hx rfl (hb hby at_155) rfl rfl k) ?_
    show OGo p e below _ (T_25.setTop (mkF m 157 #[.val (.long q1), .second, .val (.int p1), .val (.int p2), .val (.long q2), .second, .val (.int p3), .val (.int p4), .val (.long ta), .second, .val (.int ca0), .val (.int ka), .val (.long tb), .second, .val (.int cb), .val (.int kb), .val (.ref b_8), .val (.ref b_14), .val (.int ex), .val (.ref b__25), .unset, .unset, .unset, .unset, .unset, .unset] [(.ref b_8)]))
    refine OGo.to (fun _ k => XS.aload X_25.here hx rfl (hb hby at_157) rfl rfl k) ?_
    show OGo p e below _ (T_25.setTop (mkF m 159 #[.val (.long q1), .second, .val (.int p1), .val (.int p2), .val (.long q2), .second, .val (.int p3), .val (.int p4), .val (.long ta), .second, .val (.int ca0), .val (.int ka), .val (.long tb), .second, .val (.int cb), .val (.int kb), .val (.ref b_8), .val (.ref b_14), .val (.int ex), .val (.ref b__25), .unset, .unset, .unset, .unset, .unset, .unset] [(.ref b_14), (.ref b_8)]))
    have f_29 : Exa Z T_25.heap b_14 "com/example/heartwood/heartwood/Revision" := ((A_14.keep K_18).keep K_25)
    have f_30 : Fld Z T_25.heap b_8 "com/example/heartwood/heartwood/Revision" "timestamp" "J" (.long ta) := (((p_11_0.ext E_14).keep K_18 (fun q => ne_b_8_b_14 (List.mem_singleton.mp q))).keep K_25 (List.not_mem_nil))
    have f_31 : Fld Z T_25.heap b_8 "com/example/heartwood/heartwood/Revision" "counter" "I" (.int ca0) := (((p_11_1.ext E_14).keep K_18 (fun q => ne_b_8_b_14 (List.mem_singleton.mp q))).keep K_25 (List.not_mem_nil))
    have f_32 : Fld Z T_25.heap b_8 "com/example/heartwood/heartwood/Revision" "clusterId" "I" (.int ka) := (((p_11_2.ext E_14).keep K_18 (fun q => ne_b_8_b_14 (List.mem_singleton.mp q))).keep K_25 (List.not_mem_nil))
    have f_33 : Fld Z T_25.heap b_14 "com/example/heartwood/heartwood/Revision" "timestamp" "J" (.long tb) := (p_18_0.keep K_25 (List.not_mem_nil))
    have f_34 : Fld Z T_25.heap b_14 "com/example/heartwood/heartwood/Revision" "counter" "I" (.int cb) := (p_18_1.keep K_25 (List.not_mem_nil))
    have f_35 : Fld Z T_25.heap b_14 "com/example/heartwood/heartwood/Revision" "clusterId" "I" (.int kb) := (p_18_2.keep K_25 (List.not_mem_nil))
    have f_36 : Exa Z T_25.heap b_8 "com/example/heartwood/heartwood/Revision" := (((f_15.ext E_14).keep K_18).keep K_25)
    obtain ⟨cq_28, kq_28, q_28a, q_28b, q_28c⟩ := isOf hZ (rfl : T_25.heap = T_25.heap) f_36
    obtain ⟨_, T_28, Lc_28, X_28, hQ_28, st_28⟩ := own_un X_25 (Q := Q6 Z b_8 b_14 ta ca0 ka tb cb kb T_25.heap n0) (rc := 0) (rs := 0) (W := fun v B => Steps p.tables e below (T_25.setTop (mkF m 159 #[.val (.long q1), .second, .val (.int p1), .val (.int p2), .val (.long q2), .second, .val (.int p3), .val (.int p4), .val (.long ta), .second, .val (.int ca0), .val (.int ka), .val (.long tb), .second, .val (.int cb), .val (.int kb), .val (.ref b_8), .val (.ref b_14), .val (.int ex), .val (.ref b__25), .unset, .unset, .unset, .unset, .unset, .unset] [(.ref b_14), (.ref b_8)])) (B.setTop { (mkF m 159 #[.val (.long q1), .second, .val (.int p1), .val (.int p2), .val (.long q2), .second, .val (.int p3), .val (.int p4), .val (.long ta), .second, .val (.int ca0), .val (.int ka), .val (.long tb), .second, .val (.int cb), .val (.int kb), .val (.ref b_8), .val (.ref b_14), .val (.int ex), .val (.ref b__25), .unset, .unset, .unset, .unset, .unset, .unset] [(.ref b_14), (.ref b_8)]) with pc := 162, stack := v.toList ++ [] })) <| X_25.virtualBack hx (y := (⟨"com/example/heartwood/heartwood/Revision", "equals", "(Ljava/lang/Object;)Z"⟩ : MethodName)) (z := (⟨"com/example/heartwood/heartwood/Revision", "equals", "(Ljava/lang/Object;)Z"⟩ : MethodName)) hown (mvT hZ (hw _ (List.mem_of_getElem? (i := 34) rfl))) (mvT hZ (hw _ (List.mem_of_getElem? (i := 35) rfl))) (notFace_of_selects (args := #[]) (mvT hZ (hw _ (List.mem_of_getElem? (i := 37) rfl)))) (mvT hZ (hw _ (List.mem_of_getElem? (i := 37) rfl))) (mvT hZ (hw _ (List.mem_of_getElem? (i := 36) rfl))) (by decide) (backOf (W := 0) (rm6 l Z a0 hw [] b_8 b_14 ta ca0 ka tb cb kb T_25.heap n0 z_26 f_29 f_30 f_31 f_32 f_33 f_34 f_35) hZ (hw _ (List.mem_of_getElem? (i := 38) rfl)) (hw _ (List.mem_of_getElem? (i := 8) rfl)) (by decide) (by decide)) q_28a q_28c (g := (mkF m 159 #[.val (.long q1), .second, .val (.int p1), .val (.int p2), .val (.long q2), .second, .val (.int p3), .val (.int p4), .val (.long ta), .second, .val (.int ca0), .val (.int ka), .val (.long tb), .second, .val (.int cb), .val (.int kb), .val (.ref b_8), .val (.ref b_14), .val (.int ex), .val (.ref b__25), .unset, .unset, .unset, .unset, .unset, .unset] [(.ref b_14), (.ref b_8)])) rfl (by rw [hml]; rfl) (Steps.refl _) (argsL := [(.ref b_14)]) (rest := []) (lenOf pd_6 rfl) rfl (by show 2 * 0 + _ ≤ _; exact Nat.le_of_eq rfl) (hb hby at_159) (fun _ _ => ⟨rfl, (rfl : T_25.heap = T_25.heap), (by decide : 3 + 0 ≤ _), (by decide : 7 + 0 ≤ _)⟩)
    obtain ⟨rfl, N_28q, e_28⟩ := hQ_28
    have N_28 := Fr.app N_25 N_28q
    refine OGo.to (fun _ k => st_28.trans k) ?_
    show OGo p e below _ (T_28.setTop (mkF m 162 #[.val (.long q1), .second, .val (.int p1), .val (.int p2), .val (.long q2), .second, .val (.int p3), .val (.int p4), .val (.long ta), .second, .val (.int ca0), .val (.int ka), .val (.long tb), .second, .val (.int cb), .val (.int kb), .val (.ref b_8), .val (.ref b_14), .val (.int ex), .val (.ref b__25), .unset, .unset, .unset, .unset, .unset, .unset] [(.int (own_eq ta ca0 ka tb cb kb))]))
    refine OGo.to (fun _ k => XS.istore X_28.here hx rfl (hb hby at_162) rfl (l' := #[.val (.long q1), .second, .val (.int p1), .val (.int p2), .val (.long q2), .second, .val (.int p3), .val (.int p4), .val (.long ta), .second, .val (.int ca0), .val (.int ka), .val (.long tb), .second, .val (.int cb), .val (.int kb), .val (.ref b_8), .val (.ref b_14), .val (.int ex), .val (.ref b__25), .val (.int (own_eq ta ca0 ka tb cb kb)), .unset, .unset, .unset, .unset, .unset]) rfl k) ?_
    show OGo p e below _ (T_28.setTop (mkF m 164 #[.val (.long q1), .second, .val (.int p1), .val (.int p2), .val (.long q2), .second, .val (.int p3), .val (.int p4), .val (.long ta), .second, .val (.int ca0), .val (.int ka), .val (.long tb), .second, .val (.int cb), .val (.int kb), .val (.ref b_8), .val (.ref b_14), .val (.int ex), .val (.ref b__25), .val (.int (own_eq ta ca0 ka tb cb kb)), .unset, .unset, .unset, .unset, .unset] []))
    refine OGo.to (fun _ k => XS.aload X_28.here hx rfl (hb hby at_164) rfl rfl k) ?_
    show OGo p e below _ (T_28.setTop (mkF m 166 #[.val (.long q1), .second, .val (.int p1), .val (.int p2), .val (.long q2), .second, .val (.int p3), .val (.int p4), .val (.long ta), .second, .val (.int ca0), .val (.int ka), .val (.long tb), .second, .val (.int cb), .val (.int kb), .val (.ref b_8), .val (.ref b_14), .val (.int ex), .val (.ref b__25), .val (.int (own_eq ta ca0 ka tb cb kb)), .unset, .unset, .unset, .unset, .unset] [(.ref b_14)]))
    refine OGo.to (fun _ k => XS.aload X_28.here hx rfl (hb hby at_166) rfl rfl k) ?_
    show OGo p e below _ (T_28.setTop (mkF m 168 #[.val (.long q1), .second, .val (.int p1), .val (.int p2), .val (.long q2), .second, .val (.int p3), .val (.int p4), .val (.long ta), .second, .val (.int ca0), .val (.int ka), .val (.long tb), .second, .val (.int cb), .val (.int kb), .val (.ref b_8), .val (.ref b_14), .val (.int ex), .val (.ref b__25), .val (.int (own_eq ta ca0 ka tb cb kb)), .unset, .unset, .unset, .unset, .unset] [(.ref b_8), (.ref b_14)]))
    obtain ⟨cq_37, kq_37, q_37a, q_37b, q_37c⟩ := isOf hZ e_28 f_29
    obtain ⟨_, T_37, Lc_37, X_37, hQ_37, st_37⟩ := own_un X_28 (Q := Q6 Z b_14 b_8 tb cb kb ta ca0 ka T_25.heap n0) (rc := 0) (rs := 0) (W := fun v B => Steps p.tables e below (T_28.setTop (mkF m 168 #[.val (.long q1), .second, .val (.int p1), .val (.int p2), .val (.long q2), .second, .val (.int p3), .val (.int p4), .val (.long ta), .second, .val (.int ca0), .val (.int ka), .val (.long tb), .second, .val (.int cb), .val (.int kb), .val (.ref b_8), .val (.ref b_14), .val (.int ex), .val (.ref b__25), .val (.int (own_eq ta ca0 ka tb cb kb)), .unset, .unset, .unset, .unset, .unset] [(.ref b_8), (.ref b_14)])) (B.setTop { (mkF m 168 #[.val (.long q1), .second, .val (.int p1), .val (.int p2), .val (.long q2), .second, .val (.int p3), .val (.int p4), .val (.long ta), .second, .val (.int ca0), .val (.int ka), .val (.long tb), .second, .val (.int cb), .val (.int kb), .val (.ref b_8), .val (.ref b_14), .val (.int ex), .val (.ref b__25), .val (.int (own_eq ta ca0 ka tb cb kb)), .unset, .unset, .unset, .unset, .unset] [(.ref b_8), (.ref b_14)]) with pc := 171, stack := v.toList ++ [] })) <| X_28.virtualBack hx (y := (⟨"com/example/heartwood/heartwood/Revision", "equals", "(Ljava/lang/Object;)Z"⟩ : MethodName)) (z := (⟨"com/example/heartwood/heartwood/Revision", "equals", "(Ljava/lang/Object;)Z"⟩ : MethodName)) hown (mvT hZ (hw _ (List.mem_of_getElem? (i := 34) rfl))) (mvT hZ (hw _ (List.mem_of_getElem? (i := 35) rfl))) (notFace_of_selects (args := #[]) (mvT hZ (hw _ (List.mem_of_getElem? (i := 37) rfl)))) (mvT hZ (hw _ (List.mem_of_getElem? (i := 37) rfl))) (mvT hZ (hw _ (List.mem_of_getElem? (i := 36) rfl))) (by decide) (backOf (W := 0) (rm6 l Z a0 hw [] b_14 b_8 tb cb kb ta ca0 ka T_25.heap n0 z_26 f_36 f_33 f_34 f_35 f_30 f_31 f_32) hZ (hw _ (List.mem_of_getElem? (i := 38) rfl)) (hw _ (List.mem_of_getElem? (i := 8) rfl)) (by decide) (by decide)) q_37a q_37c (g := (mkF m 168 #[.val (.long q1), .second, .val (.int p1), .val (.int p2), .val (.long q2), .second, .val (.int p3), .val (.int p4), .val (.long ta), .second, .val (.int ca0), .val (.int ka), .val (.long tb), .second, .val (.int cb), .val (.int kb), .val (.ref b_8), .val (.ref b_14), .val (.int ex), .val (.ref b__25), .val (.int (own_eq ta ca0 ka tb cb kb)), .unset, .unset, .unset, .unset, .unset] [(.ref b_8), (.ref b_14)])) rfl (by rw [hml]; rfl) (Steps.refl _) (argsL := [(.ref b_8)]) (rest := []) (lenOf pd_6 rfl) rfl (by show 2 * 0 + _ ≤ _; exact Nat.le_of_eq rfl) (hb hby at_168) (fun _ _ => ⟨rfl, e_28, (by decide : 3 + 0 ≤ _), (by decide : 7 + 0 ≤ _)⟩)
    obtain ⟨rfl, N_37q, e_37⟩ := hQ_37
    have N_37 := Fr.app N_28 N_37q
    refine OGo.to (fun _ k => st_37.trans k) ?_
    show OGo p e below _ (T_37.setTop (mkF m 171 #[.val (.long q1), .second, .val (.int p1), .val (.int p2), .val (.long q2), .second, .val (.int p3), .val (.int p4), .val (.long ta), .second, .val (.int ca0), .val (.int ka), .val (.long tb), .second, .val (.int cb), .val (.int kb), .val (.ref b_8), .val (.ref b_14), .val (.int ex), .val (.ref b__25), .val (.int (own_eq ta ca0 ka tb cb kb)), .unset, .unset, .unset, .unset, .unset] [(.int (own_eq tb cb kb ta ca0 ka))]))
    refine OGo.to (fun _ k => XS.istore X_37.here hx rfl (hb hby at_171) rfl (l' := #[.val (.long q1), .second, .val (.int p1), .val (.int p2), .val (.long q2), .second, .val (.int p3), .val (.int p4), .val (.long ta), .second, .val (.int ca0), .val (.int ka), .val (.long tb), .second, .val (.int cb), .val (.int kb), .val (.ref b_8), .val (.ref b_14), .val (.int ex), .val (.ref b__25), .val (.int (own_eq ta ca0 ka tb cb kb)), .val (.int (own_eq tb cb kb ta ca0 ka)), .unset, .unset, .unset, .unset]) rfl k) ?_
    show OGo p e below _ (T_37.setTop (mkF m 173 #[.val (.long q1), .second, .val (.int p1), .val (.int p2), .val (.long q2), .second, .val (.int p3), .val (.int p4), .val (.long ta), .second, .val (.int ca0), .val (.int ka), .val (.long tb), .second, .val (.int cb), .val (.int kb), .val (.ref b_8), .val (.ref b_14), .val (.int ex), .val (.ref b__25), .val (.int (own_eq ta ca0 ka tb cb kb)), .val (.int (own_eq tb cb kb ta ca0 ka)), .unset, .unset, .unset, .unset] []))
    refine OGo.to (fun _ k => XS.aload X_37.here hx rfl (hb hby at_173) rfl rfl k) ?_
    show OGo p e below _ (T_37.setTop (mkF m 175 #[.val (.long q1), .second, .val (.int p1), .val (.int p2), .val (.long q2), .second, .val (.int p3), .val (.int p4), .val (.long ta), .second, .val (.int ca0), .val (.int ka), .val (.long tb), .second, .val (.int cb), .val (.int kb), .val (.ref b_8), .val (.ref b_14), .val (.int ex), .val (.ref b__25), .val (.int (own_eq ta ca0 ka tb cb kb)), .val (.int (own_eq tb cb kb ta ca0 ka)), .unset, .unset, .unset, .unset] [(.ref b_8)]))
    refine OGo.to (fun _ k => XS.aload X_37.here hx rfl (hb hby at_175) rfl rfl k) ?_
    show OGo p e below _ (T_37.setTop (mkF m 177 #[.val (.long q1), .second, .val (.int p1), .val (.int p2), .val (.long q2), .second, .val (.int p3), .val (.int p4), .val (.long ta), .second, .val (.int ca0), .val (.int ka), .val (.long tb), .second, .val (.int cb), .val (.int kb), .val (.ref b_8), .val (.ref b_14), .val (.int ex), .val (.ref b__25), .val (.int (own_eq ta ca0 ka tb cb kb)), .val (.int (own_eq tb cb kb ta ca0 ka)), .unset, .unset, .unset, .unset] [(.ref b_8), (.ref b_8)]))
    obtain ⟨cq_38, kq_38, q_38a, q_38b, q_38c⟩ := isOf hZ e_37 f_36
    obtain ⟨_, T_38, Lc_38, X_38, hQ_38, st_38⟩ := own_un X_37 (Q := Q6 Z b_8 b_8 ta ca0 ka ta ca0 ka T_25.heap n0) (rc := 0) (rs := 0) (W := fun v B => Steps p.tables e below (T_37.setTop (mkF m 177 #[.val (.long q1), .second, .val (.int p1), .val (.int p2), .val (.long q2), .second, .val (.int p3), .val (.int p4), .val (.long ta), .second, .val (.int ca0), .val (.int ka), .val (.long tb), .second, .val (.int cb), .val (.int kb), .val (.ref b_8), .val (.ref b_14), .val (.int ex), .val (.ref b__25), .val (.int (own_eq ta ca0 ka tb cb kb)), .val (.int (own_eq tb cb kb ta ca0 ka)), .unset, .unset, .unset, .unset] [(.ref b_8), (.ref b_8)])) (B.setTop { (mkF m 177 #[.val (.long q1), .second, .val (.int p1), .val (.int p2), .val (.long q2), .second, .val (.int p3), .val (.int p4), .val (.long ta), .second, .val (.int ca0), .val (.int ka), .val (.long tb), .second, .val (.int cb), .val (.int kb), .val (.ref b_8), .val (.ref b_14), .val (.int ex), .val (.ref b__25), .val (.int (own_eq ta ca0 ka tb cb kb)), .val (.int (own_eq tb cb kb ta ca0 ka)), .unset, .unset, .unset, .unset] [(.ref b_8), (.ref b_8)]) with pc := 180, stack := v.toList ++ [] })) <| X_37.virtualBack hx (y := (⟨"com/example/heartwood/heartwood/Revision", "equals", "(Ljava/lang/Object;)Z"⟩ : MethodName)) (z := (⟨"com/example/heartwood/heartwood/Revision", "equals", "(Ljava/lang/Object;)Z"⟩ : MethodName)) hown (mvT hZ (hw _ (List.mem_of_getElem? (i := 34) rfl))) (mvT hZ (hw _ (List.mem_of_getElem? (i := 35) rfl))) (notFace_of_selects (args := #[]) (mvT hZ (hw _ (List.mem_of_getElem? (i := 37) rfl)))) (mvT hZ (hw _ (List.mem_of_getElem? (i := 37) rfl))) (mvT hZ (hw _ (List.mem_of_getElem? (i := 36) rfl))) (by decide) (backOf (W := 0) (rm6 l Z a0 hw [] b_8 b_8 ta ca0 ka ta ca0 ka T_25.heap n0 z_26 f_36 f_30 f_31 f_32 f_30 f_31 f_32) hZ (hw _ (List.mem_of_getElem? (i := 38) rfl)) (hw _ (List.mem_of_getElem? (i := 8) rfl)) (by decide) (by decide)) q_38a q_38c (g := (mkF m 177 #[.val (.long q1), .second, .val (.int p1), .val (.int p2), .val (.long q2), .second, .val (.int p3), .val (.int p4), .val (.long ta), .second, .val (.int ca0), .val (.int ka), .val (.long tb), .second, .val (.int cb), .val (.int kb), .val (.ref b_8), .val (.ref b_14), .val (.int ex), .val (.ref b__25), .val (.int (own_eq ta ca0 ka tb cb kb)), .val (.int (own_eq tb cb kb ta ca0 ka)), .unset, .unset, .unset, .unset] [(.ref b_8), (.ref b_8)])) rfl (by rw [hml]; rfl) (Steps.refl _) (argsL := [(.ref b_8)]) (rest := []) (lenOf pd_6 rfl) rfl (by show 2 * 0 + _ ≤ _; exact Nat.le_of_eq rfl) (hb hby at_177) (fun _ _ => ⟨rfl, e_37, (by decide : 3 + 0 ≤ _), (by decide : 7 + 0 ≤ _)⟩)
    obtain ⟨rfl, N_38q, e_38⟩ := hQ_38
    have N_38 := Fr.app N_37 N_38q
    refine OGo.to (fun _ k => st_38.trans k) ?_
    show OGo p e below _ (T_38.setTop (mkF m 180 #[.val (.long q1), .second, .val (.int p1), .val (.int p2), .val (.long q2), .second, .val (.int p3), .val (.int p4), .val (.long ta), .second, .val (.int ca0), .val (.int ka), .val (.long tb), .second, .val (.int cb), .val (.int kb), .val (.ref b_8), .val (.ref b_14), .val (.int ex), .val (.ref b__25), .val (.int (own_eq ta ca0 ka tb cb kb)), .val (.int (own_eq tb cb kb ta ca0 ka)), .unset, .unset, .unset, .unset] [(.int (own_eq ta ca0 ka ta ca0 ka))]))
    refine OGo.to (fun _ k => XS.istore X_38.here hx rfl (hb hby at_180) rfl (l' := #[.val (.long q1), .second, .val (.int p1), .val (.int p2), .val (.long q2), .second, .val (.int p3), .val (.int p4), .val (.long ta), .second, .val (.int ca0), .val (.int ka), .val (.long tb), .second, .val (.int cb), .val (.int kb), .val (.ref b_8), .val (.ref b_14), .val (.int ex), .val (.ref b__25), .val (.int (own_eq ta ca0 ka tb cb kb)), .val (.int (own_eq tb cb kb ta ca0 ka)), .val (.int (own_eq ta ca0 ka ta ca0 ka)), .unset, .unset, .unset]) rfl k) ?_
    show OGo p e below _ (T_38.setTop (mkF m 182 #[.val (.long q1), .second, .val (.int p1), .val (.int p2), .val (.long q2), .second, .val (.int p3), .val (.int p4), .val (.long ta), .second, .val (.int ca0), .val (.int ka), .val (.long tb), .second, .val (.int cb), .val (.int kb), .val (.ref b_8), .val (.ref b_14), .val (.int ex), .val (.ref b__25), .val (.int (own_eq ta ca0 ka tb cb kb)), .val (.int (own_eq tb cb kb ta ca0 ka)), .val (.int (own_eq ta ca0 ka ta ca0 ka)), .unset, .unset, .unset] []))
    refine OGo.to (fun _ k => XS.aload X_38.here hx rfl (hb hby at_182) rfl rfl k) ?_
    show OGo p e below _ (T_38.setTop (mkF m 184 #[.val (.long q1), .second, .val (.int p1), .val (.int p2), .val (.long q2), .second, .val (.int p3), .val (.int p4), .val (.long ta), .second, .val (.int ca0), .val (.int ka), .val (.long tb), .second, .val (.int cb), .val (.int kb), .val (.ref b_8), .val (.ref b_14), .val (.int ex), .val (.ref b__25), .val (.int (own_eq ta ca0 ka tb cb kb)), .val (.int (own_eq tb cb kb ta ca0 ka)), .val (.int (own_eq ta ca0 ka ta ca0 ka)), .unset, .unset, .unset] [(.ref b_8)]))
    refine OGo.to (fun _ k => XS.aconstNull X_38.here hx rfl (hb hby at_184) k) ?_
    show OGo p e below _ (T_38.setTop (mkF m 185 #[.val (.long q1), .second, .val (.int p1), .val (.int p2), .val (.long q2), .second, .val (.int p3), .val (.int p4), .val (.long ta), .second, .val (.int ca0), .val (.int ka), .val (.long tb), .second, .val (.int cb), .val (.int kb), .val (.ref b_8), .val (.ref b_14), .val (.int ex), .val (.ref b__25), .val (.int (own_eq ta ca0 ka tb cb kb)), .val (.int (own_eq tb cb kb ta ca0 ka)), .val (.int (own_eq ta ca0 ka ta ca0 ka)), .unset, .unset, .unset] [.null, (.ref b_8)]))
    obtain ⟨cq_39, kq_39, q_39a, q_39b, q_39c⟩ := isOf hZ e_38 f_36
    obtain ⟨_, T_39, Lc_39, X_39, hQ_39, st_39⟩ := own_un X_38 (Q := QeqN Z b_8 T_25.heap n0) (rc := 0) (rs := 0) (W := fun v B => Steps p.tables e below (T_38.setTop (mkF m 185 #[.val (.long q1), .second, .val (.int p1), .val (.int p2), .val (.long q2), .second, .val (.int p3), .val (.int p4), .val (.long ta), .second, .val (.int ca0), .val (.int ka), .val (.long tb), .second, .val (.int cb), .val (.int kb), .val (.ref b_8), .val (.ref b_14), .val (.int ex), .val (.ref b__25), .val (.int (own_eq ta ca0 ka tb cb kb)), .val (.int (own_eq tb cb kb ta ca0 ka)), .val (.int (own_eq ta ca0 ka ta ca0 ka)), .unset, .unset, .unset] [.null, (.ref b_8)])) (B.setTop { (mkF m 185 #[.val (.long q1), .second, .val (.int p1), .val (.int p2), .val (.long q2), .second, .val (.int p3), .val (.int p4), .val (.long ta), .second, .val (.int ca0), .val (.int ka), .val (.long tb), .second, .val (.int cb), .val (.int kb), .val (.ref b_8), .val (.ref b_14), .val (.int ex), .val (.ref b__25), .val (.int (own_eq ta ca0 ka tb cb kb)), .val (.int (own_eq tb cb kb ta ca0 ka)), .val (.int (own_eq ta ca0 ka ta ca0 ka)), .unset, .unset, .unset] [.null, (.ref b_8)]) with pc := 188, stack := v.toList ++ [] })) <| X_38.virtualBack hx (y := (⟨"com/example/heartwood/heartwood/Revision", "equals", "(Ljava/lang/Object;)Z"⟩ : MethodName)) (z := (⟨"com/example/heartwood/heartwood/Revision", "equals", "(Ljava/lang/Object;)Z"⟩ : MethodName)) hown (mvT hZ (hw _ (List.mem_of_getElem? (i := 34) rfl))) (mvT hZ (hw _ (List.mem_of_getElem? (i := 35) rfl))) (notFace_of_selects (args := #[]) (mvT hZ (hw _ (List.mem_of_getElem? (i := 37) rfl)))) (mvT hZ (hw _ (List.mem_of_getElem? (i := 37) rfl))) (mvT hZ (hw _ (List.mem_of_getElem? (i := 36) rfl))) (by decide) (backOf (W := 0) (rmeqN l Z a0 hw [] b_8 T_25.heap n0 z_26 ) hZ (hw _ (List.mem_of_getElem? (i := 38) rfl)) (hw _ (List.mem_of_getElem? (i := 8) rfl)) (by decide) (by decide)) q_39a q_39c (g := (mkF m 185 #[.val (.long q1), .second, .val (.int p1), .val (.int p2), .val (.long q2), .second, .val (.int p3), .val (.int p4), .val (.long ta), .second, .val (.int ca0), .val (.int ka), .val (.long tb), .second, .val (.int cb), .val (.int kb), .val (.ref b_8), .val (.ref b_14), .val (.int ex), .val (.ref b__25), .val (.int (own_eq ta ca0 ka tb cb kb)), .val (.int (own_eq tb cb kb ta ca0 ka)), .val (.int (own_eq ta ca0 ka ta ca0 ka)), .unset, .unset, .unset] [.null, (.ref b_8)])) rfl (by rw [hml]; rfl) (Steps.refl _) (argsL := [.null]) (rest := []) (lenOf pd_6 rfl) rfl (by show 2 * 0 + _ ≤ _; exact Nat.le_of_eq rfl) (hb hby at_185) (fun _ _ => ⟨rfl, e_38, (by decide : 3 + 0 ≤ _), (by decide : 7 + 0 ≤ _)⟩)
    obtain ⟨rfl, N_39q, e_39⟩ := hQ_39
    have N_39 := Fr.app N_38 N_39q
    refine OGo.to (fun _ k => st_39.trans k) ?_
    show OGo p e below _ (T_39.setTop (mkF m 188 #[.val (.long q1), .second, .val (.int p1), .val (.int p2), .val (.long q2), .second, .val (.int p3), .val (.int p4), .val (.long ta), .second, .val (.int ca0), .val (.int ka), .val (.long tb), .second, .val (.int cb), .val (.int kb), .val (.ref b_8), .val (.ref b_14), .val (.int ex), .val (.ref b__25), .val (.int (own_eq ta ca0 ka tb cb kb)), .val (.int (own_eq tb cb kb ta ca0 ka)), .val (.int (own_eq ta ca0 ka ta ca0 ka)), .unset, .unset, .unset] [(.int (0 : Int32))]))
    refine OGo.to (fun _ k => XS.istore X_39.here hx rfl (hb hby at_188) rfl (l' := #[.val (.long q1), .second, .val (.int p1), .val (.int p2), .val (.long q2), .second, .val (.int p3), .val (.int p4), .val (.long ta), .second, .val (.int ca0), .val (.int ka), .val (.long tb), .second, .val (.int cb), .val (.int kb), .val (.ref b_8), .val (.ref b_14), .val (.int ex), .val (.ref b__25), .val (.int (own_eq ta ca0 ka tb cb kb)), .val (.int (own_eq tb cb kb ta ca0 ka)), .val (.int (own_eq ta ca0 ka ta ca0 ka)), .val (.int (0 : Int32)), .unset, .unset]) rfl k) ?_
    show OGo p e below _ (T_39.setTop (mkF m 190 #[.val (.long q1), .second, .val (.int p1), .val (.int p2), .val (.long q2), .second, .val (.int p3), .val (.int p4), .val (.long ta), .second, .val (.int ca0), .val (.int ka), .val (.long tb), .second, .val (.int cb), .val (.int kb), .val (.ref b_8), .val (.ref b_14), .val (.int ex), .val (.ref b__25), .val (.int (own_eq ta ca0 ka tb cb kb)), .val (.int (own_eq tb cb kb ta ca0 ka)), .val (.int (own_eq ta ca0 ka ta ca0 ka)), .val (.int (0 : Int32)), .unset, .unset] []))
    refine OGo.to (fun _ k => XS.aload X_39.here hx rfl (hb hby at_190) rfl rfl k) ?_
    show OGo p e below _ (T_39.setTop (mkF m 192 #[.val (.long q1), .second, .val (.int p1), .val (.int p2), .val (.long q2), .second, .val (.int p3), .val (.int p4), .val (.long ta), .second, .val (.int ca0), .val (.int ka), .val (.long tb), .second, .val (.int cb), .val (.int kb), .val (.ref b_8), .val (.ref b_14), .val (.int ex), .val (.ref b__25), .val (.int (own_eq ta ca0 ka tb cb kb)), .val (.int (own_eq tb cb kb ta ca0 ka)), .val (.int (own_eq ta ca0 ka ta ca0 ka)), .val (.int (0 : Int32)), .unset, .unset] [(.ref b_8)]))
    refine OGo.to (fun _ k => XS.aload X_39.here hx rfl (hb hby at_192) rfl rfl k) ?_
    show OGo p e below _ (T_39.setTop (mkF m 194 #[.val (.long q1), .second, .val (.int p1), .val (.int p2), .val (.long q2), .second, .val (.int p3), .val (.int p4), .val (.long ta), .second, .val (.int ca0), .val (.int ka), .val (.long tb), .second, .val (.int cb), .val (.int kb), .val (.ref b_8), .val (.ref b_14), .val (.int ex), .val (.ref b__25), .val (.int (own_eq ta ca0 ka tb cb kb)), .val (.int (own_eq tb cb kb ta ca0 ka)), .val (.int (own_eq ta ca0 ka ta ca0 ka)), .val (.int (0 : Int32)), .unset, .unset] [(.ref b__25), (.ref b_8)]))
    obtain ⟨cq_40, kq_40, q_40a, q_40b, q_40c⟩ := isOf hZ e_39 f_36
    obtain ⟨_, T_40, Lc_40, X_40, hQ_40, st_40⟩ := own_un X_39 (Q := QeqL Z b_8 b__25 T_25.heap n0) (rc := 0) (rs := 0) (W := fun v B => Steps p.tables e below (T_39.setTop (mkF m 194 #[.val (.long q1), .second, .val (.int p1), .val (.int p2), .val (.long q2), .second, .val (.int p3), .val (.int p4), .val (.long ta), .second, .val (.int ca0), .val (.int ka), .val (.long tb), .second, .val (.int cb), .val (.int kb), .val (.ref b_8), .val (.ref b_14), .val (.int ex), .val (.ref b__25), .val (.int (own_eq ta ca0 ka tb cb kb)), .val (.int (own_eq tb cb kb ta ca0 ka)), .val (.int (own_eq ta ca0 ka ta ca0 ka)), .val (.int (0 : Int32)), .unset, .unset] [(.ref b__25), (.ref b_8)])) (B.setTop { (mkF m 194 #[.val (.long q1), .second, .val (.int p1), .val (.int p2), .val (.long q2), .second, .val (.int p3), .val (.int p4), .val (.long ta), .second, .val (.int ca0), .val (.int ka), .val (.long tb), .second, .val (.int cb), .val (.int kb), .val (.ref b_8), .val (.ref b_14), .val (.int ex), .val (.ref b__25), .val (.int (own_eq ta ca0 ka tb cb kb)), .val (.int (own_eq tb cb kb ta ca0 ka)), .val (.int (own_eq ta ca0 ka ta ca0 ka)), .val (.int (0 : Int32)), .unset, .unset] [(.ref b__25), (.ref b_8)]) with pc := 197, stack := v.toList ++ [] })) <| X_39.virtualBack hx (y := (⟨"com/example/heartwood/heartwood/Revision", "equals", "(Ljava/lang/Object;)Z"⟩ : MethodName)) (z := (⟨"com/example/heartwood/heartwood/Revision", "equals", "(Ljava/lang/Object;)Z"⟩ : MethodName)) hown (mvT hZ (hw _ (List.mem_of_getElem? (i := 34) rfl))) (mvT hZ (hw _ (List.mem_of_getElem? (i := 35) rfl))) (notFace_of_selects (args := #[]) (mvT hZ (hw _ (List.mem_of_getElem? (i := 37) rfl)))) (mvT hZ (hw _ (List.mem_of_getElem? (i := 37) rfl))) (mvT hZ (hw _ (List.mem_of_getElem? (i := 36) rfl))) (by decide) (backOf (W := 0) (rmeqL l Z a0 hw [] b_8 b__25 T_25.heap n0 z_26 p_25_0) hZ (hw _ (List.mem_of_getElem? (i := 38) rfl)) (hw _ (List.mem_of_getElem? (i := 8) rfl)) (by decide) (by decide)) q_40a q_40c (g := (mkF m 194 #[.val (.long q1), .second, .val (.int p1), .val (.int p2), .val (.long q2), .second, .val (.int p3), .val (.int p4), .val (.long ta), .second, .val (.int ca0), .val (.int ka), .val (.long tb), .second, .val (.int cb), .val (.int kb), .val (.ref b_8), .val (.ref b_14), .val (.int ex), .val (.ref b__25), .val (.int (own_eq ta ca0 ka tb cb kb)), .val (.int (own_eq tb cb kb ta ca0 ka)), .val (.int (own_eq ta ca0 ka ta ca0 ka)), .val (.int (0 : Int32)), .unset, .unset] [(.ref b__25), (.ref b_8)])) rfl (by rw [hml]; rfl) (Steps.refl _) (argsL := [(.ref b__25)]) (rest := []) (lenOf pd_6 rfl) rfl (by show 2 * 0 + _ ≤ _; exact Nat.le_of_eq rfl) (hb hby at_194) (fun _ _ => ⟨rfl, e_39, (by decide : 3 + 0 ≤ _), (by decide : 7 + 0 ≤ _)⟩)
    obtain ⟨rfl, N_40q, e_40⟩ := hQ_40
    have N_40 := Fr.app N_39 N_40q
    refine OGo.to (fun _ k => st_40.trans k) ?_
    show OGo p e below _ (T_40.setTop (mkF m 197 #[.val (.long q1), .second, .val (.int p1), .val (.int p2), .val (.long q2), .second, .val (.int p3), .val (.int p4), .val (.long ta), .second, .val (.int ca0), .val (.int ka), .val (.long tb), .second, .val (.int cb), .val (.int kb), .val (.ref b_8), .val (.ref b_14), .val (.int ex), .val (.ref b__25), .val (.int (own_eq ta ca0 ka tb cb kb)), .val (.int (own_eq tb cb kb ta ca0 ka)), .val (.int (own_eq ta ca0 ka ta ca0 ka)), .val (.int (0 : Int32)), .unset, .unset] [(.int (0 : Int32))]))
    refine OGo.to (fun _ k => XS.istore X_40.here hx rfl (hb hby at_197) rfl (l' := #[.val (.long q1), .second, .val (.int p1), .val (.int p2), .val (.long q2), .second, .val (.int p3), .val (.int p4), .val (.long ta), .second, .val (.int ca0), .val (.int ka), .val (.long tb), .second, .val (.int cb), .val (.int kb), .val (.ref b_8), .val (.ref b_14), .val (.int ex), .val (.ref b__25), .val (.int (own_eq ta ca0 ka tb cb kb)), .val (.int (own_eq tb cb kb ta ca0 ka)), .val (.int (own_eq ta ca0 ka ta ca0 ka)), .val (.int (0 : Int32)), .val (.int (0 : Int32)), .unset]) rfl k) ?_
    show OGo p e below _ (T_40.setTop (mkF m 199 #[.val (.long q1), .second, .val (.int p1), .val (.int p2), .val (.long q2), .second, .val (.int p3), .val (.int p4), .val (.long ta), .second, .val (.int ca0), .val (.int ka), .val (.long tb), .second, .val (.int cb), .val (.int kb), .val (.ref b_8), .val (.ref b_14), .val (.int ex), .val (.ref b__25), .val (.int (own_eq ta ca0 ka tb cb kb)), .val (.int (own_eq tb cb kb ta ca0 ka)), .val (.int (own_eq ta ca0 ka ta ca0 ka)), .val (.int (0 : Int32)), .val (.int (0 : Int32)), .unset] []))
    refine OGo.to (fun _ k => XS.iload X_40.here hx rfl (hb hby at_199) rfl k) ?_
    show OGo p e below _ (T_40.setTop (mkF m 201 #[.val (.long q1), .second, .val (.int p1), .val (.int p2), .val (.long q2), .second, .val (.int p3), .val (.int p4), .val (.long ta), .second, .val (.int ca0), .val (.int ka), .val (.long tb), .second, .val (.int cb), .val (.int kb), .val (.ref b_8), .val (.ref b_14), .val (.int ex), .val (.ref b__25), .val (.int (own_eq ta ca0 ka tb cb kb)), .val (.int (own_eq tb cb kb ta ca0 ka)), .val (.int (own_eq ta ca0 ka ta ca0 ka)), .val (.int (0 : Int32)), .val (.int (0 : Int32)), .unset] [(.int ex)]))
    by_cases hc201__41 : ex = (0 : Int32)
    ·  -- pc 201: yes
      refine OGo.to (fun _ k => XS.ifYes X_40.here hx rfl (pc0 := 201) (pc' := 217) rfl (hb hby at_201) rfl ((if0 _ _).trans (teq hc201__41).1) (by decide) (by decide) k) ?_
      show OGo p e below _ (T_40.setTop (mkF m 217 #[.val (.long q1), .second, .val (.int p1), .val (.int p2), .val (.long q2), .second, .val (.int p3), .val (.int p4), .val (.long ta), .second, .val (.int ca0), .val (.int ka), .val (.long tb), .second, .val (.int cb), .val (.int kb), .val (.ref b_8), .val (.ref b_14), .val (.int ex), .val (.ref b__25), .val (.int (own_eq ta ca0 ka tb cb kb)), .val (.int (own_eq tb cb kb ta ca0 ka)), .val (.int (own_eq ta ca0 ka ta ca0 ka)), .val (.int (0 : Int32)), .val (.int (0 : Int32)), .unset] []))
      refine OGo.to (fun _ k => XS.iconst X_40.here hx rfl (hb hby at_217) k) ?_
      show OGo p e below _ (T_40.setTop (mkF m 218 #[.val (.long q1), .second, .val (.int p1), .val (.int p2), .val (.long q2), .second, .val (.int p3), .val (.int p4), .val (.long ta), .second, .val (.int ca0), .val (.int ka), .val (.long tb), .second, .val (.int cb), .val (.int kb), .val (.ref b_8), .val (.ref b_14), .val (.int ex), .val (.ref b__25), .val (.int (own_eq ta ca0 ka tb cb kb)), .val (.int (own_eq tb cb kb ta ca0 ka)), .val (.int (own_eq ta ca0 ka ta ca0 ka)), .val (.int (0 : Int32)), .val (.int (0 : Int32)), .unset] [(.int (1 : Int32))]))
      refine OGo.to (fun _ k => XS.goto X_40.here hx rfl (pc0 := 218) (pc' := 222) rfl (hb hby at_218) (by decide) (by decide) k) ?_
      show OGo p e below _ (T_40.setTop (mkF m 222 #[.val (.long q1), .second, .val (.int p1), .val (.int p2), .val (.long q2), .second, .val (.int p3), .val (.int p4), .val (.long ta), .second, .val (.int ca0), .val (.int ka), .val (.long tb), .second, .val (.int cb), .val (.int kb), .val (.ref b_8), .val (.ref b_14), .val (.int ex), .val (.ref b__25), .val (.int (own_eq ta ca0 ka tb cb kb)), .val (.int (own_eq tb cb kb ta ca0 ka)), .val (.int (own_eq ta ca0 ka ta ca0 ka)), .val (.int (0 : Int32)), .val (.int (0 : Int32)), .unset] [(.int (1 : Int32))]))
      refine OGo.to (fun _ k => XS.istore X_40.here hx rfl (hb hby at_222) rfl (l' := #[.val (.long q1), .second, .val (.int p1), .val (.int p2), .val (.long q2), .second, .val (.int p3), .val (.int p4), .val (.long ta), .second, .val (.int ca0), .val (.int ka), .val (.long tb), .second, .val (.int cb), .val (.int kb), .val (.ref b_8), .val (.ref b_14), .val (.int ex), .val (.ref b__25), .val (.int (own_eq ta ca0 ka tb cb kb)), .val (.int (own_eq tb cb kb ta ca0 ka)), .val (.int (own_eq ta ca0 ka ta ca0 ka)), .val (.int (0 : Int32)), .val (.int (0 : Int32)), .val (.int (1 : Int32))]) rfl k) ?_
      show OGo p e below _ (T_40.setTop (mkF m 224 #[.val (.long q1), .second, .val (.int p1), .val (.int p2), .val (.long q2), .second, .val (.int p3), .val (.int p4), .val (.long ta), .second, .val (.int ca0), .val (.int ka), .val (.long tb), .second, .val (.int cb), .val (.int kb), .val (.ref b_8), .val (.ref b_14), .val (.int ex), .val (.ref b__25), .val (.int (own_eq ta ca0 ka tb cb kb)), .val (.int (own_eq tb cb kb ta ca0 ka)), .val (.int (own_eq ta ca0 ka ta ca0 ka)), .val (.int (0 : Int32)), .val (.int (0 : Int32)), .val (.int (1 : Int32))] []))
      refine OGo.to (fun _ k => XS.iload X_40.here hx rfl (hb hby at_224) rfl k) ?_
      show OGo p e below _ (T_40.setTop (mkF m 226 #[.val (.long q1), .second, .val (.int p1), .val (.int p2), .val (.long q2), .second, .val (.int p3), .val (.int p4), .val (.long ta), .second, .val (.int ca0), .val (.int ka), .val (.long tb), .second, .val (.int cb), .val (.int kb), .val (.ref b_8), .val (.ref b_14), .val (.int ex), .val (.ref b__25), .val (.int (own_eq ta ca0 ka tb cb kb)), .val (.int (own_eq tb cb kb ta ca0 ka)), .val (.int (own_eq ta ca0 ka ta ca0 ka)), .val (.int (0 : Int32)), .val (.int (0 : Int32)), .val (.int (1 : Int32))] [(.int (own_eq ta ca0 ka tb cb kb))]))
      refine OGo.to (fun _ k => XS.iload X_40.here hx rfl (hb hby at_226) rfl k) ?_
      show OGo p e below _ (T_40.setTop (mkF m 228 #[.val (.long q1), .second, .val (.int p1), .val (.int p2), .val (.long q2), .second, .val (.int p3), .val (.int p4), .val (.long ta), .second, .val (.int ca0), .val (.int ka), .val (.long tb), .second, .val (.int cb), .val (.int kb), .val (.ref b_8), .val (.ref b_14), .val (.int ex), .val (.ref b__25), .val (.int (own_eq ta ca0 ka tb cb kb)), .val (.int (own_eq tb cb kb ta ca0 ka)), .val (.int (own_eq ta ca0 ka ta ca0 ka)), .val (.int (0 : Int32)), .val (.int (0 : Int32)), .val (.int (1 : Int32))] [(.int ex), (.int (own_eq ta ca0 ka tb cb kb))]))
      have hc228__42 : (own_eq ta ca0 ka tb cb kb) = ex := hv_ex.symm
      refine OGo.to (fun _ k => XS.icmpNo X_40.here hx rfl (hb hby at_228) rfl (teq hc228__42).2 k) ?_
      show OGo p e below _ (T_40.setTop (mkF m 231 #[.val (.long q1), .second, .val (.int p1), .val (.int p2), .val (.long q2), .second, .val (.int p3), .val (.int p4), .val (.long ta), .second, .val (.int ca0), .val (.int ka), .val (.long tb), .second, .val (.int cb), .val (.int kb), .val (.ref b_8), .val (.ref b_14), .val (.int ex), .val (.ref b__25), .val (.int (own_eq ta ca0 ka tb cb kb)), .val (.int (own_eq tb cb kb ta ca0 ka)), .val (.int (own_eq ta ca0 ka ta ca0 ka)), .val (.int (0 : Int32)), .val (.int (0 : Int32)), .val (.int (1 : Int32))] []))
      refine OGo.to (fun _ k => XS.iload X_40.here hx rfl (hb hby at_231) rfl k) ?_
      show OGo p e below _ (T_40.setTop (mkF m 233 #[.val (.long q1), .second, .val (.int p1), .val (.int p2), .val (.long q2), .second, .val (.int p3), .val (.int p4), .val (.long ta), .second, .val (.int ca0), .val (.int ka), .val (.long tb), .second, .val (.int cb), .val (.int kb), .val (.ref b_8), .val (.ref b_14), .val (.int ex), .val (.ref b__25), .val (.int (own_eq ta ca0 ka tb cb kb)), .val (.int (own_eq tb cb kb ta ca0 ka)), .val (.int (own_eq ta ca0 ka ta ca0 ka)), .val (.int (0 : Int32)), .val (.int (0 : Int32)), .val (.int (1 : Int32))] [(.int (own_eq tb cb kb ta ca0 ka))]))
      refine OGo.to (fun _ k => XS.iload X_40.here hx rfl (hb hby at_233) rfl k) ?_
      show OGo p e below _ (T_40.setTop (mkF m 235 #[.val (.long q1), .second, .val (.int p1), .val (.int p2), .val (.long q2), .second, .val (.int p3), .val (.int p4), .val (.long ta), .second, .val (.int ca0), .val (.int ka), .val (.long tb), .second, .val (.int cb), .val (.int kb), .val (.ref b_8), .val (.ref b_14), .val (.int ex), .val (.ref b__25), .val (.int (own_eq ta ca0 ka tb cb kb)), .val (.int (own_eq tb cb kb ta ca0 ka)), .val (.int (own_eq ta ca0 ka ta ca0 ka)), .val (.int (0 : Int32)), .val (.int (0 : Int32)), .val (.int (1 : Int32))] [(.int ex), (.int (own_eq tb cb kb ta ca0 ka))]))
      have hc235__43 : (own_eq tb cb kb ta ca0 ka) = ex := (own_eq_symm _ _ _ _ _ _).trans (hv_ex.symm)
      refine OGo.to (fun _ k => XS.icmpNo X_40.here hx rfl (hb hby at_235) rfl (teq hc235__43).2 k) ?_
      show OGo p e below _ (T_40.setTop (mkF m 238 #[.val (.long q1), .second, .val (.int p1), .val (.int p2), .val (.long q2), .second, .val (.int p3), .val (.int p4), .val (.long ta), .second, .val (.int ca0), .val (.int ka), .val (.long tb), .second, .val (.int cb), .val (.int kb), .val (.ref b_8), .val (.ref b_14), .val (.int ex), .val (.ref b__25), .val (.int (own_eq ta ca0 ka tb cb kb)), .val (.int (own_eq tb cb kb ta ca0 ka)), .val (.int (own_eq ta ca0 ka ta ca0 ka)), .val (.int (0 : Int32)), .val (.int (0 : Int32)), .val (.int (1 : Int32))] []))
      refine OGo.to (fun _ k => XS.iload X_40.here hx rfl (hb hby at_238) rfl k) ?_
      show OGo p e below _ (T_40.setTop (mkF m 240 #[.val (.long q1), .second, .val (.int p1), .val (.int p2), .val (.long q2), .second, .val (.int p3), .val (.int p4), .val (.long ta), .second, .val (.int ca0), .val (.int ka), .val (.long tb), .second, .val (.int cb), .val (.int kb), .val (.ref b_8), .val (.ref b_14), .val (.int ex), .val (.ref b__25), .val (.int (own_eq ta ca0 ka tb cb kb)), .val (.int (own_eq tb cb kb ta ca0 ka)), .val (.int (own_eq ta ca0 ka ta ca0 ka)), .val (.int (0 : Int32)), .val (.int (0 : Int32)), .val (.int (1 : Int32))] [(.int (own_eq ta ca0 ka ta ca0 ka))]))
      have hc240__44 : ¬ ((own_eq ta ca0 ka ta ca0 ka) = (0 : Int32)) := own_eq_self _ _ _
      refine OGo.to (fun _ k => XS.ifNo X_40.here hx rfl (hb hby at_240) rfl ((if0 _ _).trans (feq hc240__44).1) k) ?_
      show OGo p e below _ (T_40.setTop (mkF m 243 #[.val (.long q1), .second, .val (.int p1), .val (.int p2), .val (.long q2), .second, .val (.int p3), .val (.int p4), .val (.long ta), .second, .val (.int ca0), .val (.int ka), .val (.long tb), .second, .val (.int cb), .val (.int kb), .val (.ref b_8), .val (.ref b_14), .val (.int ex), .val (.ref b__25), .val (.int (own_eq ta ca0 ka tb cb kb)), .val (.int (own_eq tb cb kb ta ca0 ka)), .val (.int (own_eq ta ca0 ka ta ca0 ka)), .val (.int (0 : Int32)), .val (.int (0 : Int32)), .val (.int (1 : Int32))] []))
      refine OGo.to (fun _ k => XS.iload X_40.here hx rfl (hb hby at_243) rfl k) ?_
      show OGo p e below _ (T_40.setTop (mkF m 245 #[.val (.long q1), .second, .val (.int p1), .val (.int p2), .val (.long q2), .second, .val (.int p3), .val (.int p4), .val (.long ta), .second, .val (.int ca0), .val (.int ka), .val (.long tb), .second, .val (.int cb), .val (.int kb), .val (.ref b_8), .val (.ref b_14), .val (.int ex), .val (.ref b__25), .val (.int (own_eq ta ca0 ka tb cb kb)), .val (.int (own_eq tb cb kb ta ca0 ka)), .val (.int (own_eq ta ca0 ka ta ca0 ka)), .val (.int (0 : Int32)), .val (.int (0 : Int32)), .val (.int (1 : Int32))] [(.int (0 : Int32))]))
      have hc245__45 : (0 : Int32) = (0 : Int32) := by decide
      refine OGo.to (fun _ k => XS.ifNo X_40.here hx rfl (hb hby at_245) rfl ((if0 _ _).trans (teq hc245__45).2) k) ?_
      show OGo p e below _ (T_40.setTop (mkF m 248 #[.val (.long q1), .second, .val (.int p1), .val (.int p2), .val (.long q2), .second, .val (.int p3), .val (.int p4), .val (.long ta), .second, .val (.int ca0), .val (.int ka), .val (.long tb), .second, .val (.int cb), .val (.int kb), .val (.ref b_8), .val (.ref b_14), .val (.int ex), .val (.ref b__25), .val (.int (own_eq ta ca0 ka tb cb kb)), .val (.int (own_eq tb cb kb ta ca0 ka)), .val (.int (own_eq ta ca0 ka ta ca0 ka)), .val (.int (0 : Int32)), .val (.int (0 : Int32)), .val (.int (1 : Int32))] []))
      refine OGo.to (fun _ k => XS.iload X_40.here hx rfl (hb hby at_248) rfl k) ?_
      show OGo p e below _ (T_40.setTop (mkF m 250 #[.val (.long q1), .second, .val (.int p1), .val (.int p2), .val (.long q2), .second, .val (.int p3), .val (.int p4), .val (.long ta), .second, .val (.int ca0), .val (.int ka), .val (.long tb), .second, .val (.int cb), .val (.int kb), .val (.ref b_8), .val (.ref b_14), .val (.int ex), .val (.ref b__25), .val (.int (own_eq ta ca0 ka tb cb kb)), .val (.int (own_eq tb cb kb ta ca0 ka)), .val (.int (own_eq ta ca0 ka ta ca0 ka)), .val (.int (0 : Int32)), .val (.int (0 : Int32)), .val (.int (1 : Int32))] [(.int (0 : Int32))]))
      have hc250__46 : (0 : Int32) = (0 : Int32) := by decide
      refine OGo.to (fun _ k => XS.ifNo X_40.here hx rfl (hb hby at_250) rfl ((if0 _ _).trans (teq hc250__46).2) k) ?_
      show OGo p e below _ (T_40.setTop (mkF m 253 #[.val (.long q1), .second, .val (.int p1), .val (.int p2), .val (.long q2), .second, .val (.int p3), .val (.int p4), .val (.long ta), .second, .val (.int ca0), .val (.int ka), .val (.long tb), .second, .val (.int cb), .val (.int kb), .val (.ref b_8), .val (.ref b_14), .val (.int ex), .val (.ref b__25), .val (.int (own_eq ta ca0 ka tb cb kb)), .val (.int (own_eq tb cb kb ta ca0 ka)), .val (.int (own_eq ta ca0 ka ta ca0 ka)), .val (.int (0 : Int32)), .val (.int (0 : Int32)), .val (.int (1 : Int32))] []))
      refine OGo.to (fun _ k => XS.iload X_40.here hx rfl (hb hby at_253) rfl k) ?_
      show OGo p e below _ (T_40.setTop (mkF m 255 #[.val (.long q1), .second, .val (.int p1), .val (.int p2), .val (.long q2), .second, .val (.int p3), .val (.int p4), .val (.long ta), .second, .val (.int ca0), .val (.int ka), .val (.long tb), .second, .val (.int cb), .val (.int kb), .val (.ref b_8), .val (.ref b_14), .val (.int ex), .val (.ref b__25), .val (.int (own_eq ta ca0 ka tb cb kb)), .val (.int (own_eq tb cb kb ta ca0 ka)), .val (.int (own_eq ta ca0 ka ta ca0 ka)), .val (.int (0 : Int32)), .val (.int (0 : Int32)), .val (.int (1 : Int32))] [(.int (1 : Int32))]))
      have hc255__47 : ¬ ((1 : Int32) = (0 : Int32)) := by decide
      refine OGo.to (fun _ k => XS.ifNo X_40.here hx rfl (hb hby at_255) rfl ((if0 _ _).trans (feq hc255__47).1) k) ?_
      show OGo p e below _ (T_40.setTop (mkF m 258 #[.val (.long q1), .second, .val (.int p1), .val (.int p2), .val (.long q2), .second, .val (.int p3), .val (.int p4), .val (.long ta), .second, .val (.int ca0), .val (.int ka), .val (.long tb), .second, .val (.int cb), .val (.int kb), .val (.ref b_8), .val (.ref b_14), .val (.int ex), .val (.ref b__25), .val (.int (own_eq ta ca0 ka tb cb kb)), .val (.int (own_eq tb cb kb ta ca0 ka)), .val (.int (own_eq ta ca0 ka ta ca0 ka)), .val (.int (0 : Int32)), .val (.int (0 : Int32)), .val (.int (1 : Int32))] []))
      refine OGo.to (fun _ k => XS.iconst X_40.here hx rfl (hb hby at_258) k) ?_
      show OGo p e below _ (T_40.setTop (mkF m 259 #[.val (.long q1), .second, .val (.int p1), .val (.int p2), .val (.long q2), .second, .val (.int p3), .val (.int p4), .val (.long ta), .second, .val (.int ca0), .val (.int ka), .val (.long tb), .second, .val (.int cb), .val (.int kb), .val (.ref b_8), .val (.ref b_14), .val (.int ex), .val (.ref b__25), .val (.int (own_eq ta ca0 ka tb cb kb)), .val (.int (own_eq tb cb kb ta ca0 ka)), .val (.int (own_eq ta ca0 ka ta ca0 ka)), .val (.int (0 : Int32)), .val (.int (0 : Int32)), .val (.int (1 : Int32))] [(.int (1 : Int32))]))
      refine OGo.to (fun _ k => XS.goto X_40.here hx rfl (pc0 := 259) (pc' := 263) rfl (hb hby at_259) (by decide) (by decide) k) ?_
      show OGo p e below _ (T_40.setTop (mkF m 263 #[.val (.long q1), .second, .val (.int p1), .val (.int p2), .val (.long q2), .second, .val (.int p3), .val (.int p4), .val (.long ta), .second, .val (.int ca0), .val (.int ka), .val (.long tb), .second, .val (.int cb), .val (.int kb), .val (.ref b_8), .val (.ref b_14), .val (.int ex), .val (.ref b__25), .val (.int (own_eq ta ca0 ka tb cb kb)), .val (.int (own_eq tb cb kb ta ca0 ka)), .val (.int (own_eq ta ca0 ka ta ca0 ka)), .val (.int (0 : Int32)), .val (.int (0 : Int32)), .val (.int (1 : Int32))] [(.int (1 : Int32))]))
      refine OGo.ret (Q := Q0 Z q1 p1 p2 q2 p3 p4 ca cl h0 n0) X_40 (some (.int (1 : Int32))) (fun h => by rw [Bd.returns] at h; cases h) Bd.notSynchronized (fun fs hr => retN X_40 hx (t := .boolean) (z := (1 : Int32)) Bd.returns (by simp) (hb hby at_263) hr) ?_ (by decide) (by decide)
      show Q0 Z q1 p1 p2 q2 p3 p4 ca cl h0 n0 _ T_40.heap _
      rw [e_40]
      exact ⟨rfl, N_40⟩
    ·  -- pc 201: no
      refine OGo.to (fun _ k => XS.ifNo X_40.here hx rfl (hb hby at_201) rfl ((if0 _ _).trans (feq hc201__41).1) k) ?_
      show OGo p e below _ (T_40.setTop (mkF m 204 #[.val (.long q1), .second, .val (.int p1), .val (.int p2), .val (.long q2), .second, .val (.int p3), .val (.int p4), .val (.long ta), .second, .val (.int ca0), .val (.int ka), .val (.long tb), .second, .val (.int cb), .val (.int kb), .val (.ref b_8), .val (.ref b_14), .val (.int ex), .val (.ref b__25), .val (.int (own_eq ta ca0 ka tb cb kb)), .val (.int (own_eq tb cb kb ta ca0 ka)), .val (.int (own_eq ta ca0 ka ta ca0 ka)), .val (.int (0 : Int32)), .val (.int (0 : Int32)), .unset] []))
      refine OGo.to (fun _ k => XS.aload X_40.here hx rfl (hb hby at_204) rfl rfl k) ?_
      show OGo p e below _ (T_40.setTop (mkF m 206 #[.val (.long q1), .second, .val (.int p1), .val (.int p2), .val (.long q2), .second, .val (.int p3), .val (.int p4), .val (.long ta), .second, .val (.int ca0), .val (.int ka), .val (.long tb), .second, .val (.int cb), .val (.int kb), .val (.ref b_8), .val (.ref b_14), .val (.int ex), .val (.ref b__25), .val (.int (own_eq ta ca0 ka tb cb kb)), .val (.int (own_eq tb cb kb ta ca0 ka)), .val (.int (own_eq ta ca0 ka ta ca0 ka)), .val (.int (0 : Int32)), .val (.int (0 : Int32)), .unset] [(.ref b_8)]))
      obtain ⟨cq_48, kq_48, q_48a, q_48b, q_48c⟩ := isOf hZ e_40 f_36
      obtain ⟨_, T_48, Lc_48, X_48, hQ_48, st_48⟩ := own_un X_40 (Q := Q7 Z b_8 ta ca0 ka T_25.heap n0) (rc := 0) (rs := 0) (W := fun v B => Steps p.tables e below (T_40.setTop (mkF m 206 #[.val (.long q1), .second, .val (.int p1), .val (.int p2), .val (.long q2), .second, .val (.int p3), .val (.int p4), .val (.long ta), .second, .val (.int ca0), .val (.int ka), .val (.long tb), .second, .val (.int cb), .val (.int kb), .val (.ref b_8), .val (.ref b_14), .val (.int ex), .val (.ref b__25), .val (.int (own_eq ta ca0 ka tb cb kb)), .val (.int (own_eq tb cb kb ta ca0 ka)), .val (.int (own_eq ta ca0 ka ta ca0 ka)), .val (.int (0 : Int32)), .val (.int (0 : Int32)), .unset] [(.ref b_8)])) (B.setTop { (mkF m 206 #[.val (.long q1), .second, .val (.int p1), .val (.int p2), .val (.long q2), .second, .val (.int p3), .val (.int p4), .val (.long ta), .second, .val (.int ca0), .val (.int ka), .val (.long tb), .second, .val (.int cb), .val (.int kb), .val (.ref b_8), .val (.ref b_14), .val (.int ex), .val (.ref b__25), .val (.int (own_eq ta ca0 ka tb cb kb)), .val (.int (own_eq tb cb kb ta ca0 ka)), .val (.int (own_eq ta ca0 ka ta ca0 ka)), .val (.int (0 : Int32)), .val (.int (0 : Int32)), .unset] [(.ref b_8)]) with pc := 209, stack := v.toList ++ [] })) <| X_40.virtualBack hx (y := (⟨"com/example/heartwood/heartwood/Revision", "hashCode", "()I"⟩ : MethodName)) (z := (⟨"com/example/heartwood/heartwood/Revision", "hashCode", "()I"⟩ : MethodName)) hown (mvT hZ (hw _ (List.mem_of_getElem? (i := 44) rfl))) (mvT hZ (hw _ (List.mem_of_getElem? (i := 45) rfl))) (notFace_of_selects (args := #[]) (mvT hZ (hw _ (List.mem_of_getElem? (i := 47) rfl)))) (mvT hZ (hw _ (List.mem_of_getElem? (i := 47) rfl))) (mvT hZ (hw _ (List.mem_of_getElem? (i := 46) rfl))) (by decide) (backOf (W := 0) (rm7 l Z a0 hw [] b_8 ta ca0 ka T_25.heap n0 z_26 f_30 f_31 f_32) hZ (hw _ (List.mem_of_getElem? (i := 48) rfl)) (hw _ (List.mem_of_getElem? (i := 8) rfl)) (by decide) (by decide)) q_48a q_48c (g := (mkF m 206 #[.val (.long q1), .second, .val (.int p1), .val (.int p2), .val (.long q2), .second, .val (.int p3), .val (.int p4), .val (.long ta), .second, .val (.int ca0), .val (.int ka), .val (.long tb), .second, .val (.int cb), .val (.int kb), .val (.ref b_8), .val (.ref b_14), .val (.int ex), .val (.ref b__25), .val (.int (own_eq ta ca0 ka tb cb kb)), .val (.int (own_eq tb cb kb ta ca0 ka)), .val (.int (own_eq ta ca0 ka ta ca0 ka)), .val (.int (0 : Int32)), .val (.int (0 : Int32)), .unset] [(.ref b_8)])) rfl (by rw [hml]; rfl) (Steps.refl _) (argsL := []) (rest := []) (lenOf pd_7 rfl) rfl (by show 2 * 0 + _ ≤ _; exact Nat.le_of_eq rfl) (hb hby at_206) (fun _ _ => ⟨rfl, e_40, (by decide : 3 + 0 ≤ _), (by decide : 7 + 0 ≤ _)⟩)
      obtain ⟨rfl, N_48q, e_48⟩ := hQ_48
      have N_48 := Fr.app N_40 N_48q
      refine OGo.to (fun _ k => st_48.trans k) ?_
      show OGo p e below _ (T_48.setTop (mkF m 209 #[.val (.long q1), .second, .val (.int p1), .val (.int p2), .val (.long q2), .second, .val (.int p3), .val (.int p4), .val (.long ta), .second, .val (.int ca0), .val (.int ka), .val (.long tb), .second, .val (.int cb), .val (.int kb), .val (.ref b_8), .val (.ref b_14), .val (.int ex), .val (.ref b__25), .val (.int (own_eq ta ca0 ka tb cb kb)), .val (.int (own_eq tb cb kb ta ca0 ka)), .val (.int (own_eq ta ca0 ka ta ca0 ka)), .val (.int (0 : Int32)), .val (.int (0 : Int32)), .unset] [(.int (own_h ta ca0 ka))]))
      refine OGo.to (fun _ k => XS.aload X_48.here hx rfl (hb hby at_209) rfl rfl k) ?_
      show OGo p e below _ (T_48.setTop (mkF m 211 #[.val (.long q1), .second, .val (.int p1), .val (.int p2), .val (.long q2), .second, .val (.int p3), .val (.int p4), .val (.long ta), .second, .val (.int ca0), .val (.int ka), .val (.long tb), .second, .val (.int cb), .val (.int kb), .val (.ref b_8), .val (.ref b_14), .val (.int ex), .val (.ref b__25), .val (.int (own_eq ta ca0 ka tb cb kb)), .val (.int (own_eq tb cb kb ta ca0 ka)), .val (.int (own_eq ta ca0 ka ta ca0 ka)), .val (.int (0 : Int32)), .val (.int (0 : Int32)), .unset] [(.ref b_14), (.int (own_h ta ca0 ka))]))
      obtain ⟨cq_49, kq_49, q_49a, q_49b, q_49c⟩ := isOf hZ e_48 f_29
      obtain ⟨_, T_49, Lc_49, X_49, hQ_49, st_49⟩ := own_un X_48 (Q := Q7 Z b_14 tb cb kb T_25.heap n0) (rc := 0) (rs := 0) (W := fun v B => Steps p.tables e below (T_48.setTop (mkF m 211 #[.val (.long q1), .second, .val (.int p1), .val (.int p2), .val (.long q2), .second, .val (.int p3), .val (.int p4), .val (.long ta), .second, .val (.int ca0), .val (.int ka), .val (.long tb), .second, .val (.int cb), .val (.int kb), .val (.ref b_8), .val (.ref b_14), .val (.int ex), .val (.ref b__25), .val (.int (own_eq ta ca0 ka tb cb kb)), .val (.int (own_eq tb cb kb ta ca0 ka)), .val (.int (own_eq ta ca0 ka ta ca0 ka)), .val (.int (0 : Int32)), .val (.int (0 : Int32)), .unset] [(.ref b_14), (.int (own_h ta ca0 ka))])) (B.setTop { (mkF m 211 #[.val (.long q1), .second, .val (.int p1), .val (.int p2), .val (.long q2), .second, .val (.int p3), .val (.int p4), .val (.long ta), .second, .val (.int ca0), .val (.int ka), .val (.long tb), .second, .val (.int cb), .val (.int kb), .val (.ref b_8), .val (.ref b_14), .val (.int ex), .val (.ref b__25), .val (.int (own_eq ta ca0 ka tb cb kb)), .val (.int (own_eq tb cb kb ta ca0 ka)), .val (.int (own_eq ta ca0 ka ta ca0 ka)), .val (.int (0 : Int32)), .val (.int (0 : Int32)), .unset] [(.ref b_14), (.int (own_h ta ca0 ka))]) with pc := 214, stack := v.toList ++ [(.int (own_h ta ca0 ka))] })) <| X_48.virtualBack hx (y := (⟨"com/example/heartwood/heartwood/Revision", "hashCode", "()I"⟩ : MethodName)) (z := (⟨"com/example/heartwood/heartwood/Revision", "hashCode", "()I"⟩ : MethodName)) hown (mvT hZ (hw _ (List.mem_of_getElem? (i := 44) rfl))) (mvT hZ (hw _ (List.mem_of_getElem? (i := 45) rfl))) (notFace_of_selects (args := #[]) (mvT hZ (hw _ (List.mem_of_getElem? (i := 47) rfl)))) (mvT hZ (hw _ (List.mem_of_getElem? (i := 47) rfl))) (mvT hZ (hw _ (List.mem_of_getElem? (i := 46) rfl))) (by decide) (backOf (W := 1) (rm7 l Z a0 hw [] b_14 tb cb kb T_25.heap n0 z_26 f_33 f_34 f_35) hZ (hw _ (List.mem_of_getElem? (i := 48) rfl)) (hw _ (List.mem_of_getElem? (i := 8) rfl)) (by decide) (by decide)) q_49a q_49c (g := (mkF m 211 #[.val (.long q1), .second, .val (.int p1), .val (.int p2), .val (.long q2), .second, .val (.int p3), .val (.int p4), .val (.long ta), .second, .val (.int ca0), .val (.int ka), .val (.long tb), .second, .val (.int cb), .val (.int kb), .val (.ref b_8), .val (.ref b_14), .val (.int ex), .val (.ref b__25), .val (.int (own_eq ta ca0 ka tb cb kb)), .val (.int (own_eq tb cb kb ta ca0 ka)), .val (.int (own_eq ta ca0 ka ta ca0 ka)), .val (.int (0 : Int32)), .val (.int (0 : Int32)), .unset] [(.ref b_14), (.int (own_h ta ca0 ka))])) rfl (by rw [hml]; rfl) (Steps.refl _) (argsL := []) (rest := [(.int (own_h ta ca0 ka))]) (lenOf pd_7 rfl) rfl (by show 2 * 0 + _ ≤ _; exact Nat.le_of_eq rfl) (hb hby at_211) (fun _ _ => ⟨rfl, e_48, (by decide : 3 + 0 ≤ _), (by decide : 7 + 0 ≤ _)⟩)
      obtain ⟨rfl, N_49q, e_49⟩ := hQ_49
      have N_49 := Fr.app N_48 N_49q
      refine OGo.to (fun _ k => st_49.trans k) ?_
      show OGo p e below _ (T_49.setTop (mkF m 214 #[.val (.long q1), .second, .val (.int p1), .val (.int p2), .val (.long q2), .second, .val (.int p3), .val (.int p4), .val (.long ta), .second, .val (.int ca0), .val (.int ka), .val (.long tb), .second, .val (.int cb), .val (.int kb), .val (.ref b_8), .val (.ref b_14), .val (.int ex), .val (.ref b__25), .val (.int (own_eq ta ca0 ka tb cb kb)), .val (.int (own_eq tb cb kb ta ca0 ka)), .val (.int (own_eq ta ca0 ka ta ca0 ka)), .val (.int (0 : Int32)), .val (.int (0 : Int32)), .unset] [(.int (own_h tb cb kb)), (.int (own_h ta ca0 ka))]))
      have hc214__50 : (own_h ta ca0 ka) = (own_h tb cb kb) := own_A (fun q => hc201__41 (hv_ex.trans (q)))
      refine OGo.to (fun _ k => XS.icmpNo X_49.here hx rfl (hb hby at_214) rfl (teq hc214__50).2 k) ?_
      show OGo p e below _ (T_49.setTop (mkF m 217 #[.val (.long q1), .second, .val (.int p1), .val (.int p2), .val (.long q2), .second, .val (.int p3), .val (.int p4), .val (.long ta), .second, .val (.int ca0), .val (.int ka), .val (.long tb), .second, .val (.int cb), .val (.int kb), .val (.ref b_8), .val (.ref b_14), .val (.int ex), .val (.ref b__25), .val (.int (own_eq ta ca0 ka tb cb kb)), .val (.int (own_eq tb cb kb ta ca0 ka)), .val (.int (own_eq ta ca0 ka ta ca0 ka)), .val (.int (0 : Int32)), .val (.int (0 : Int32)), .unset] []))
      refine OGo.to (fun _ k => XS.iconst X_49.here hx rfl (hb hby at_217) k) ?_
      show OGo p e below _ (T_49.setTop (mkF m 218 #[.val (.long q1), .second, .val (.int p1), .val (.int p2), .val (.long q2), .second, .val (.int p3), .val (.int p4), .val (.long ta), .second, .val (.int ca0), .val (.int ka), .val (.long tb), .second, .val (.int cb), .val (.int kb), .val (.ref b_8), .val (.ref b_14), .val (.int ex), .val (.ref b__25), .val (.int (own_eq ta ca0 ka tb cb kb)), .val (.int (own_eq tb cb kb ta ca0 ka)), .val (.int (own_eq ta ca0 ka ta ca0 ka)), .val (.int (0 : Int32)), .val (.int (0 : Int32)), .unset] [(.int (1 : Int32))]))
      refine OGo.to (fun _ k => XS.goto X_49.here hx rfl (pc0 := 218) (pc' := 222) rfl (hb hby at_218) (by decide) (by decide) k) ?_
      show OGo p e below _ (T_49.setTop (mkF m 222 #[.val (.long q1), .second, .val (.int p1), .val (.int p2), .val (.long q2), .second, .val (.int p3), .val (.int p4), .val (.long ta), .second, .val (.int ca0), .val (.int ka), .val (.long tb), .second, .val (.int cb), .val (.int kb), .val (.ref b_8), .val (.ref b_14), .val (.int ex), .val (.ref b__25), .val (.int (own_eq ta ca0 ka tb cb kb)), .val (.int (own_eq tb cb kb ta ca0 ka)), .val (.int (own_eq ta ca0 ka ta ca0 ka)), .val (.int (0 : Int32)), .val (.int (0 : Int32)), .unset] [(.int (1 : Int32))]))
      refine OGo.to (fun _ k => XS.istore X_49.here hx rfl (hb hby at_222) rfl (l' := #[.val (.long q1), .second, .val (.int p1), .val (.int p2), .val (.long q2), .second, .val (.int p3), .val (.int p4), .val (.long ta), .second, .val (.int ca0), .val (.int ka), .val (.long tb), .second, .val (.int cb), .val (.int kb), .val (.ref b_8), .val (.ref b_14), .val (.int ex), .val (.ref b__25), .val (.int (own_eq ta ca0 ka tb cb kb)), .val (.int (own_eq tb cb kb ta ca0 ka)), .val (.int (own_eq ta ca0 ka ta ca0 ka)), .val (.int (0 : Int32)), .val (.int (0 : Int32)), .val (.int (1 : Int32))]) rfl k) ?_
      show OGo p e below _ (T_49.setTop (mkF m 224 #[.val (.long q1), .second, .val (.int p1), .val (.int p2), .val (.long q2), .second, .val (.int p3), .val (.int p4), .val (.long ta), .second, .val (.int ca0), .val (.int ka), .val (.long tb), .second, .val (.int cb), .val (.int kb), .val (.ref b_8), .val (.ref b_14), .val (.int ex), .val (.ref b__25), .val (.int (own_eq ta ca0 ka tb cb kb)), .val (.int (own_eq tb cb kb ta ca0 ka)), .val (.int (own_eq ta ca0 ka ta ca0 ka)), .val (.int (0 : Int32)), .val (.int (0 : Int32)), .val (.int (1 : Int32))] []))
      refine OGo.to (fun _ k => XS.iload X_49.here hx rfl (hb hby at_224) rfl k) ?_
      show OGo p e below _ (T_49.setTop (mkF m 226 #[.val (.long q1), .second, .val (.int p1), .val (.int p2), .val (.long q2), .second, .val (.int p3), .val (.int p4), .val (.long ta), .second, .val (.int ca0), .val (.int ka), .val (.long tb), .second, .val (.int cb), .val (.int kb), .val (.ref b_8), .val (.ref b_14), .val (.int ex), .val (.ref b__25), .val (.int (own_eq ta ca0 ka tb cb kb)), .val (.int (own_eq tb cb kb ta ca0 ka)), .val (.int (own_eq ta ca0 ka ta ca0 ka)), .val (.int (0 : Int32)), .val (.int (0 : Int32)), .val (.int (1 : Int32))] [(.int (own_eq ta ca0 ka tb cb kb))]))
      refine OGo.to (fun _ k => XS.iload X_49.here hx rfl (hb hby at_226) rfl k) ?_
      show OGo p e below _ (T_49.setTop (mkF m 228 #[.val (.long q1), .second, .val (.int p1), .val (.int p2), .val (.long q2), .second, .val (.int p3), .val (.int p4), .val (.long ta), .second, .val (.int ca0), .val (.int ka), .val (.long tb), .second, .val (.int cb), .val (.int kb), .val (.ref b_8), .val (.ref b_14), .val (.int ex), .val (.ref b__25), .val (.int (own_eq ta ca0 ka tb cb kb)), .val (.int (own_eq tb cb kb ta ca0 ka)), .val (.int (own_eq ta ca0 ka ta ca0 ka)), .val (.int (0 : Int32)), .val (.int (0 : Int32)), .val (.int (1 : Int32))] [(.int ex), (.int (own_eq ta ca0 ka tb cb kb))]))
      have hc228__51 : (own_eq ta ca0 ka tb cb kb) = ex := hv_ex.symm
      refine OGo.to (fun _ k => XS.icmpNo X_49.here hx rfl (hb hby at_228) rfl (teq hc228__51).2 k) ?_
      show OGo p e below _ (T_49.setTop (mkF m 231 #[.val (.long q1), .second, .val (.int p1), .val (.int p2), .val (.long q2), .second, .val (.int p3), .val (.int p4), .val (.long ta), .second, .val (.int ca0), .val (.int ka), .val (.long tb), .second, .val (.int cb), .val (.int kb), .val (.ref b_8), .val (.ref b_14), .val (.int ex), .val (.ref b__25), .val (.int (own_eq ta ca0 ka tb cb kb)), .val (.int (own_eq tb cb kb ta ca0 ka)), .val (.int (own_eq ta ca0 ka ta ca0 ka)), .val (.int (0 : Int32)), .val (.int (0 : Int32)), .val (.int (1 : Int32))] []))
      refine OGo.to (fun _ k => XS.iload X_49.here hx rfl (hb hby at_231) rfl k) ?_
      show OGo p e below _ (T_49.setTop (mkF m 233 #[.val (.long q1), .second, .val (.int p1), .val (.int p2), .val (.long q2), .second, .val (.int p3), .val (.int p4), .val (.long ta), .second, .val (.int ca0), .val (.int ka), .val (.long tb), .second, .val (.int cb), .val (.int kb), .val (.ref b_8), .val (.ref b_14), .val (.int ex), .val (.ref b__25), .val (.int (own_eq ta ca0 ka tb cb kb)), .val (.int (own_eq tb cb kb ta ca0 ka)), .val (.int (own_eq ta ca0 ka ta ca0 ka)), .val (.int (0 : Int32)), .val (.int (0 : Int32)), .val (.int (1 : Int32))] [(.int (own_eq tb cb kb ta ca0 ka))]))
      refine OGo.to (fun _ k => XS.iload X_49.here hx rfl (hb hby at_233) rfl k) ?_
      show OGo p e below _ (T_49.setTop (mkF m 235 #[.val (.long q1), .second, .val (.int p1), .val (.int p2), .val (.long q2), .second, .val (.int p3), .val (.int p4), .val (.long ta), .second, .val (.int ca0), .val (.int ka), .val (.long tb), .second, .val (.int cb), .val (.int kb), .val (.ref b_8), .val (.ref b_14), .val (.int ex), .val (.ref b__25), .val (.int (own_eq ta ca0 ka tb cb kb)), .val (.int (own_eq tb cb kb ta ca0 ka)), .val (.int (own_eq ta ca0 ka ta ca0 ka)), .val (.int (0 : Int32)), .val (.int (0 : Int32)), .val (.int (1 : Int32))] [(.int ex), (.int (own_eq tb cb kb ta ca0 ka))]))
      have hc235__52 : (own_eq tb cb kb ta ca0 ka) = ex := (own_eq_symm _ _ _ _ _ _).trans (hv_ex.symm)
      refine OGo.to (fun _ k => XS.icmpNo X_49.here hx rfl (hb hby at_235) rfl (teq hc235__52).2 k) ?_
      show OGo p e below _ (T_49.setTop (mkF m 238 #[.val (.long q1), .second, .val (.int p1), .val (.int p2), .val (.long q2), .second, .val (.int p3), .val (.int p4), .val (.long ta), .second, .val (.int ca0), .val (.int ka), .val (.long tb), .second, .val (.int cb), .val (.int kb), .val (.ref b_8), .val (.ref b_14), .val (.int ex), .val (.ref b__25), .val (.int (own_eq ta ca0 ka tb cb kb)), .val (.int (own_eq tb cb kb ta ca0 ka)), .val (.int (own_eq ta ca0 ka ta ca0 ka)), .val (.int (0 : Int32)), .val (.int (0 : Int32)), .val (.int (1 : Int32))] []))
      refine OGo.to (fun _ k => XS.iload X_49.here hx rfl (hb hby at_238) rfl k) ?_
      show OGo p e below _ (T_49.setTop (mkF m 240 #[.val (.long q1), .second, .val (.int p1), .val (.int p2), .val (.long q2), .second, .val (.int p3), .val (.int p4), .val (.long ta), .second, .val (.int ca0), .val (.int ka), .val (.long tb), .second, .val (.int cb), .val (.int kb), .val (.ref b_8), .val (.ref b_14), .val (.int ex), .val (.ref b__25), .val (.int (own_eq ta ca0 ka tb cb kb)), .val (.int (own_eq tb cb kb ta ca0 ka)), .val (.int (own_eq ta ca0 ka ta ca0 ka)), .val (.int (0 : Int32)), .val (.int (0 : Int32)), .val (.int (1 : Int32))] [(.int (own_eq ta ca0 ka ta ca0 ka))]))
      have hc240__53 : ¬ ((own_eq ta ca0 ka ta ca0 ka) = (0 : Int32)) := own_eq_self _ _ _
      refine OGo.to (fun _ k => XS.ifNo X_49.here hx rfl (hb hby at_240) rfl ((if0 _ _).trans (feq hc240__53).1) k) ?_
      show OGo p e below _ (T_49.setTop (mkF m 243 #[.val (.long q1), .second, .val (.int p1), .val (.int p2), .val (.long q2), .second, .val (.int p3), .val (.int p4), .val (.long ta), .second, .val (.int ca0), .val (.int ka), .val (.long tb), .second, .val (.int cb), .val (.int kb), .val (.ref b_8), .val (.ref b_14), .val (.int ex), .val (.ref b__25), .val (.int (own_eq ta ca0 ka tb cb kb)), .val (.int (own_eq tb cb kb ta ca0 ka)), .val (.int (own_eq ta ca0 ka ta ca0 ka)), .val (.int (0 : Int32)), .val (.int (0 : Int32)), .val (.int (1 : Int32))] []))
      refine OGo.to (fun _ k => XS.iload X_49.here hx rfl (hb hby at_243) rfl k) ?_
      show OGo p e below _ (T_49.setTop (mkF m 245 #[.val (.long q1), .second, .val (.int p1), .val (.int p2), .val (.long q2), .second, .val (.int p3), .val (.int p4), .val (.long ta), .second, .val (.int ca0), .val (.int ka), .val (.long tb), .second, .val (.int cb), .val (.int kb), .val (.ref b_8), .val (.ref b_14), .val (.int ex), .val (.ref b__25), .val (.int (own_eq ta ca0 ka tb cb kb)), .val (.int (own_eq tb cb kb ta ca0 ka)), .val (.int (own_eq ta ca0 ka ta ca0 ka)), .val (.int (0 : Int32)), .val (.int (0 : Int32)), .val (.int (1 : Int32))] [(.int (0 : Int32))]))
      have hc245__54 : (0 : Int32) = (0 : Int32) := by decide
      refine OGo.to (fun _ k => XS.ifNo X_49.here hx rfl (hb hby at_245) rfl ((if0 _ _).trans (teq hc245__54).2) k) ?_
      show OGo p e below _ (T_49.setTop (mkF m 248 #[.val (.long q1), .second, .val (.int p1), .val (.int p2), .val (.long q2), .second, .val (.int p3), .val (.int p4), .val (.long ta), .second, .val (.int ca0), .val (.int ka), .val (.long tb), .second, .val (.int cb), .val (.int kb), .val (.ref b_8), .val (.ref b_14), .val (.int ex), .val (.ref b__25), .val (.int (own_eq ta ca0 ka tb cb kb)), .val (.int (own_eq tb cb kb ta ca0 ka)), .val (.int (own_eq ta ca0 ka ta ca0 ka)), .val (.int (0 : Int32)), .val (.int (0 : Int32)), .val (.int (1 : Int32))] []))
      refine OGo.to (fun _ k => XS.iload X_49.here hx rfl (hb hby at_248) rfl k) ?_
      show OGo p e below _ (T_49.setTop (mkF m 250 #[.val (.long q1), .second, .val (.int p1), .val (.int p2), .val (.long q2), .second, .val (.int p3), .val (.int p4), .val (.long ta), .second, .val (.int ca0), .val (.int ka), .val (.long tb), .second, .val (.int cb), .val (.int kb), .val (.ref b_8), .val (.ref b_14), .val (.int ex), .val (.ref b__25), .val (.int (own_eq ta ca0 ka tb cb kb)), .val (.int (own_eq tb cb kb ta ca0 ka)), .val (.int (own_eq ta ca0 ka ta ca0 ka)), .val (.int (0 : Int32)), .val (.int (0 : Int32)), .val (.int (1 : Int32))] [(.int (0 : Int32))]))
      have hc250__55 : (0 : Int32) = (0 : Int32) := by decide
      refine OGo.to (fun _ k => XS.ifNo X_49.here hx rfl (hb hby at_250) rfl ((if0 _ _).trans (teq hc250__55).2) k) ?_
      show OGo p e below _ (T_49.setTop (mkF m 253 #[.val (.long q1), .second, .val (.int p1), .val (.int p2), .val (.long q2), .second, .val (.int p3), .val (.int p4), .val (.long ta), .second, .val (.int ca0), .val (.int ka), .val (.long tb), .second, .val (.int cb), .val (.int kb), .val (.ref b_8), .val (.ref b_14), .val (.int ex), .val (.ref b__25), .val (.int (own_eq ta ca0 ka tb cb kb)), .val (.int (own_eq tb cb kb ta ca0 ka)), .val (.int (own_eq ta ca0 ka ta ca0 ka)), .val (.int (0 : Int32)), .val (.int (0 : Int32)), .val (.int (1 : Int32))] []))
      refine OGo.to (fun _ k => XS.iload X_49.here hx rfl (hb hby at_253) rfl k) ?_
      show OGo p e below _ (T_49.setTop (mkF m 255 #[.val (.long q1), .second, .val (.int p1), .val (.int p2), .val (.long q2), .second, .val (.int p3), .val (.int p4), .val (.long ta), .second, .val (.int ca0), .val (.int ka), .val (.long tb), .second, .val (.int cb), .val (.int kb), .val (.ref b_8), .val (.ref b_14), .val (.int ex), .val (.ref b__25), .val (.int (own_eq ta ca0 ka tb cb kb)), .val (.int (own_eq tb cb kb ta ca0 ka)), .val (.int (own_eq ta ca0 ka ta ca0 ka)), .val (.int (0 : Int32)), .val (.int (0 : Int32)), .val (.int (1 : Int32))] [(.int (1 : Int32))]))
      have hc255__56 : ¬ ((1 : Int32) = (0 : Int32)) := by decide
      refine OGo.to (fun _ k => XS.ifNo X_49.here hx rfl (hb hby at_255) rfl ((if0 _ _).trans (feq hc255__56).1) k) ?_
      show OGo p e below _ (T_49.setTop (mkF m 258 #[.val (.long q1), .second, .val (.int p1), .val (.int p2), .val (.long q2), .second, .val (.int p3), .val (.int p4), .val (.long ta), .second, .val (.int ca0), .val (.int ka), .val (.long tb), .second, .val (.int cb), .val (.int kb), .val (.ref b_8), .val (.ref b_14), .val (.int ex), .val (.ref b__25), .val (.int (own_eq ta ca0 ka tb cb kb)), .val (.int (own_eq tb cb kb ta ca0 ka)), .val (.int (own_eq ta ca0 ka ta ca0 ka)), .val (.int (0 : Int32)), .val (.int (0 : Int32)), .val (.int (1 : Int32))] []))
      refine OGo.to (fun _ k => XS.iconst X_49.here hx rfl (hb hby at_258) k) ?_
      show OGo p e below _ (T_49.setTop (mkF m 259 #[.val (.long q1), .second, .val (.int p1), .val (.int p2), .val (.long q2), .second, .val (.int p3), .val (.int p4), .val (.long ta), .second, .val (.int ca0), .val (.int ka), .val (.long tb), .second, .val (.int cb), .val (.int kb), .val (.ref b_8), .val (.ref b_14), .val (.int ex), .val (.ref b__25), .val (.int (own_eq ta ca0 ka tb cb kb)), .val (.int (own_eq tb cb kb ta ca0 ka)), .val (.int (own_eq ta ca0 ka ta ca0 ka)), .val (.int (0 : Int32)), .val (.int (0 : Int32)), .val (.int (1 : Int32))] [(.int (1 : Int32))]))
      refine OGo.to (fun _ k => XS.goto X_49.here hx rfl (pc0 := 259) (pc' := 263) rfl (hb hby at_259) (by decide) (by decide) k) ?_
      show OGo p e below _ (T_49.setTop (mkF m 263 #[.val (.long q1), .second, .val (.int p1), .val (.int p2), .val (.long q2), .second, .val (.int p3), .val (.int p4), .val (.long ta), .second, .val (.int ca0), .val (.int ka), .val (.long tb), .second, .val (.int cb), .val (.int kb), .val (.ref b_8), .val (.ref b_14), .val (.int ex), .val (.ref b__25), .val (.int (own_eq ta ca0 ka tb cb kb)), .val (.int (own_eq tb cb kb ta ca0 ka)), .val (.int (own_eq ta ca0 ka ta ca0 ka)), .val (.int (0 : Int32)), .val (.int (0 : Int32)), .val (.int (1 : Int32))] [(.int (1 : Int32))]))
      refine OGo.ret (Q := Q0 Z q1 p1 p2 q2 p3 p4 ca cl h0 n0) X_49 (some (.int (1 : Int32))) (fun h => by rw [Bd.returns] at h; cases h) Bd.notSynchronized (fun fs hr => retN X_49 hx (t := .boolean) (z := (1 : Int32)) Bd.returns (by simp) (hb hby at_263) hr) ?_ (by decide) (by decide)
      show Q0 Z q1 p1 p2 q2 p3 p4 ca cl h0 n0 _ T_49.heap _
      rw [e_49]
      exact ⟨rfl, N_49⟩
  ·  -- pc 66: no
    refine OGo.to (fun _ k => XS.ifNo X_1.here hx rfl (hb hby at_66) rfl ((if0 _ _).trans (feq hc66__6).1) k) ?_
    show OGo p e below _ (T_1.setTop (mkF m 69 #[.val (.long q1), .second, .val (.int p1), .val (.int p2), .val (.long q2), .second, .val (.int p3), .val (.int p4), .val (.long ta), .second, .val (.int ca0), .val (.int ka), .val (.long tb), .second, .val (.int cb), .unset, .unset, .unset, .unset, .unset, .unset, .unset, .unset, .unset, .unset, .unset] []))
    refine OGo.to (fun _ k => XS.iload X_1.here hx rfl (hb hby at_69) rfl k) ?_
    show OGo p e below _ (T_1.setTop (mkF m 71 #[.val (.long q1), .second, .val (.int p1), .val (.int p2), .val (.long q2), .second, .val (.int p3), .val (.int p4), .val (.long ta), .second, .val (.int ca0), .val (.int ka), .val (.long tb), .second, .val (.int cb), .unset, .unset, .unset, .unset, .unset, .unset, .unset, .unset, .unset, .unset, .unset] [(.int ka)]))
    refine OGo.to (fun _ k => XS.goto X_1.here hx rfl (pc0 := 71) (pc' := 87) rfl (hb hby at_71) (by decide) (by decide) k) ?_
    show OGo p e below _ (T_1.setTop (mkF m 87 #[.val (.long q1), .second, .val (.int p1), .val (.int p2), .val (.long q2), .second, .val (.int p3), .val (.int p4), .val (.long ta), .second, .val (.int ca0), .val (.int ka), .val (.long tb), .second, .val (.int cb), .unset, .unset, .unset, .unset, .unset, .unset, .unset, .unset, .unset, .unset, .unset] [(.int ka)]))
    refine OGo.to (fun _ k => XS.istore X_1.here hx rfl (hb hby at_87) rfl (l' := #[.val (.long q1), .second, .val (.int p1), .val (.int p2), .val (.long q2), .second, .val (.int p3), .val (.int p4), .val (.long ta), .second, .val (.int ca0), .val (.int ka), .val (.long tb), .second, .val (.int cb), .val (.int ka), .unset, .unset, .unset, .unset, .unset, .unset, .unset, .unset, .unset, .unset]) rfl k) ?_
    show OGo p e below _ (T_1.setTop (mkF m 89 #[.val (.long q1), .second, .val (.int p1), .val (.int p2), .val (.long q2), .second, .val (.int p3), .val (.int p4), .val (.long ta), .second, .val (.int ca0), .val (.int ka), .val (.long tb), .second, .val (.int cb), .val (.int ka), .unset, .unset, .unset, .unset, .unset, .unset, .unset, .unset, .unset, .unset] []))
    obtain ⟨T_57, h_57, X_57, e_57, E_57, A_57, D_57, -, st_57⟩ := newO X_1 hx hZ hown (hw _ (List.mem_of_getElem? (i := 6) rfl)) (hw _ (List.mem_of_getElem? (i := 7) rfl)) (hw _ (List.mem_of_getElem? (i := 8) rfl)) e_1 (g := (mkF m 89 #[.val (.long q1), .second, .val (.int p1), .val (.int p2), .val (.long q2), .second, .val (.int p3), .val (.int p4), .val (.long ta), .second, .val (.int ca0), .val (.int ka), .val (.long tb), .second, .val (.int cb), .val (.int ka), .unset, .unset, .unset, .unset, .unset, .unset, .unset, .unset, .unset, .unset] [])) rfl (hb hby at_89) (by decide) (by decide)
    obtain ⟨b_57, g_57⟩ : ∃ z, z = h0.size := ⟨_, rfl⟩
    rw [← g_57] at A_57 D_57 st_57
    have g_b_57 : n0 ≤ b_57 := Nat.le_trans Z0 (Nat.le_of_eq g_57.symm)
    refine OGo.to st_57 ?_
    have z_58 : n0 ≤ h_57.size := Nat.le_trans Z0 E_57.1
    have O_59 : Old Z n0 h_57 := O0.ext E_57
    have F_timestamp_b_57 : Fld Z h_57 b_57 "com/example/heartwood/heartwood/Revision" "timestamp" "J" (.long (0 : Int64)) := D_57 (Or.inr (hw _ (List.mem_of_getElem? (i := 21) rfl))) (ty := .long) (by decide)
    have F_counter_b_57 : Fld Z h_57 b_57 "com/example/heartwood/heartwood/Revision" "counter" "I" (.int (0 : Int32)) := D_57 (Or.inr (hw _ (List.mem_of_getElem? (i := 23) rfl))) (ty := .int) (by decide)
    have F_clusterId_b_57 : Fld Z h_57 b_57 "com/example/heartwood/heartwood/Revision" "clusterId" "I" (.int (0 : Int32)) := D_57 (Or.inr (hw _ (List.mem_of_getElem? (i := 25) rfl))) (ty := .int) (by decide)
    show OGo p e below _ (T_57.setTop (mkF m 92 #[.val (.long q1), .second, .val (.int p1), .val (.int p2), .val (.long q2), .second, .val (.int p3), .val (.int p4), .val (.long ta), .second, .val (.int ca0), .val (.int ka), .val (.long tb), .second, .val (.int cb), .val (.int ka), .unset, .unset, .unset, .unset, .unset, .unset, .unset, .unset, .unset, .unset] [(.ref b_57)]))
    refine OGo.to (fun _ k => XS.dup X_57.here hx rfl (hb hby at_92) rfl rfl k) ?_
    show OGo p e below _ (T_57.setTop (mkF m 93 #[.val (.long q1), .second, .val (.int p1), .val (.int p2), .val (.long q2), .second, .val (.int p3), .val (.int p4), .val (.long ta), .second, .val (.int ca0), .val (.int ka), .val (.long tb), .second, .val (.int cb), .val (.int ka), .unset, .unset, .unset, .unset, .unset, .unset, .unset, .unset, .unset, .unset] [(.ref b_57), (.ref b_57)]))
    refine OGo.to (fun _ k => XS.lload X_57.here hx rfl (hb hby at_93) rfl k) ?_
    show OGo p e below _ (T_57.setTop (mkF m 95 #[.val (.long q1), .second, .val (.int p1), .val (.int p2), .val (.long q2), .second, .val (.int p3), .val (.int p4), .val (.long ta), .second, .val (.int ca0), .val (.int ka), .val (.long tb), .second, .val (.int cb), .val (.int ka), .unset, .unset, .unset, .unset, .unset, .unset, .unset, .unset, .unset, .unset] [(.long ta), (.ref b_57), (.ref b_57)]))
    refine OGo.to (fun _ k => XS.iload X_57.here hx rfl (hb hby at_95) rfl k) ?_
    show OGo p e below _ (T_57.setTop (mkF m 97 #[.val (.long q1), .second, .val (.int p1), .val (.int p2), .val (.long q2), .second, .val (.int p3), .val (.int p4), .val (.long ta), .second, .val (.int ca0), .val (.int ka), .val (.long tb), .second, .val (.int cb), .val (.int ka), .unset, .unset, .unset, .unset, .unset, .unset, .unset, .unset, .unset, .unset] [(.int ca0), (.long ta), (.ref b_57), (.ref b_57)]))
    refine OGo.to (fun _ k => XS.iload X_57.here hx rfl (hb hby at_97) rfl k) ?_
    show OGo p e below _ (T_57.setTop (mkF m 99 #[.val (.long q1), .second, .val (.int p1), .val (.int p2), .val (.long q2), .second, .val (.int p3), .val (.int p4), .val (.long ta), .second, .val (.int ca0), .val (.int ka), .val (.long tb), .second, .val (.int cb), .val (.int ka), .unset, .unset, .unset, .unset, .unset, .unset, .unset, .unset, .unset, .unset] [(.int ka), (.int ca0), (.long ta), (.ref b_57), (.ref b_57)]))
    obtain ⟨_, T_60, Lc_60, X_60, hQ_60, st_60⟩ := own_un X_57 (Q := Q2 Z b_57 ta ca0 ka (.long (0 : Int64)) (.int (0 : Int32)) (.int (0 : Int32)) h_57 n0) (rc := 0) (rs := 0) (W := fun v B => Steps p.tables e below (T_57.setTop (mkF m 99 #[.val (.long q1), .second, .val (.int p1), .val (.int p2), .val (.long q2), .second, .val (.int p3), .val (.int p4), .val (.long ta), .second, .val (.int ca0), .val (.int ka), .val (.long tb), .second, .val (.int cb), .val (.int ka), .unset, .unset, .unset, .unset, .unset, .unset, .unset, .unset, .unset, .unset] [(.int ka), (.int ca0), (.long ta), (.ref b_57), (.ref b_57)])) (B.setTop { (mkF m 99 #[.val (.long q1), .second, .val (.int p1), .val (.int p2), .val (.long q2), .second, .val (.int p3), .val (.int p4), .val (.long ta), .second, .val (.int ca0), .val (.int ka), .val (.long tb), .second, .val (.int cb), .val (.int ka), .unset, .unset, .unset, .unset, .unset, .unset, .unset, .unset, .unset, .unset] [(.int ka), (.int ca0), (.long ta), (.ref b_57), (.ref b_57)]) with pc := 102, stack := v.toList ++ [(.ref b_57)] })) <| X_57.specialBack hx (y := (⟨"com/example/heartwood/heartwood/Revision", "<init>", "(JII)V"⟩ : MethodName)) rfl hown (mvT hZ (hw _ (List.mem_of_getElem? (i := 9) rfl))) (mvT hZ (hw _ (List.mem_of_getElem? (i := 10) rfl))) (mvT hZ (hw _ (List.mem_of_getElem? (i := 11) rfl))) (by decide) (backOf (W := 1) (rm2 l Z a0 hw [] b_57 ta ca0 ka (.long (0 : Int64)) (.int (0 : Int32)) (.int (0 : Int32)) h_57 n0 z_58 A_57 F_timestamp_b_57 F_counter_b_57 F_clusterId_b_57 g_b_57 (by rw [hv_ta]; exact own_nnL q1) (by rw [hv_ca0]; exact own_nn p1) (by rw [hv_ka]; exact own_max1 _)) hZ (hw _ (List.mem_of_getElem? (i := 11) rfl)) (hw _ (List.mem_of_getElem? (i := 8) rfl)) (by decide) (by decide)) (g := (mkF m 99 #[.val (.long q1), .second, .val (.int p1), .val (.int p2), .val (.long q2), .second, .val (.int p3), .val (.int p4), .val (.long ta), .second, .val (.int ca0), .val (.int ka), .val (.long tb), .second, .val (.int cb), .val (.int ka), .unset, .unset, .unset, .unset, .unset, .unset, .unset, .unset, .unset, .unset] [(.int ka), (.int ca0), (.long ta), (.ref b_57), (.ref b_57)])) rfl (by rw [hml]; rfl) (Steps.refl _) (a := b_57) (argsL := [(.long ta), (.int ca0), (.int ka)]) (rest := [(.ref b_57)]) (lenOf pd_4 rfl) rfl (by show 2 * 0 + _ ≤ _; exact Nat.le_of_eq rfl) (hb hby at_99) (fun _ _ => ⟨rfl, e_57, (by decide : 1 + 0 ≤ _), (by decide : 3 + 0 ≤ _)⟩)
    obtain ⟨rfl, N_60q, K_60, p_60_0, p_60_1, p_60_2⟩ := hQ_60
    have N_60 := Fr.app N_1 N_60q
    refine OGo.to (fun _ k => st_60.trans k) ?_
    have z_61 : n0 ≤ T_60.heap.size := Nat.le_trans z_58 K_60.1
    have O_62 : Old Z n0 T_60.heap := O_59.keep K_60 (allS g_b_57 all0)
    show OGo p e below _ (T_60.setTop (mkF m 102 #[.val (.long q1), .second, .val (.int p1), .val (.int p2), .val (.long q2), .second, .val (.int p3), .val (.int p4), .val (.long ta), .second, .val (.int ca0), .val (.int ka), .val (.long tb), .second, .val (.int cb), .val (.int ka), .unset, .unset, .unset, .unset, .unset, .unset, .unset, .unset, .unset, .unset] [(.ref b_57)]))
    refine OGo.to (fun _ k => XS.astore X_60.here hx rfl (hb hby at_102) rfl rfl (l' := #[.val (.long q1), .second, .val (.int p1), .val (.int p2), .val (.long q2), .second, .val (.int p3), .val (.int p4), .val (.long ta), .second, .val (.int ca0), .val (.int ka), .val (.long tb), .second, .val (.int cb), .val (.int ka), .val (.ref b_57), .unset, .unset, .unset, .unset, .unset, .unset, .unset, .unset, .unset]) rfl k) ?_
    show OGo p e below _ (T_60.setTop (mkF m 104 #[.val (.long q1), .second, .val (.int p1), .val (.int p2), .val (.long q2), .second, .val (.int p3), .val (.int p4), .val (.long ta), .second, .val (.int ca0), .val (.int ka), .val (.long tb), .second, .val (.int cb), .val (.int ka), .val (.ref b_57), .unset, .unset, .unset, .unset, .unset, .unset, .unset, .unset, .unset] []))
    have f_64 : Exa Z T_60.heap b_57 "com/example/heartwood/heartwood/Revision" := (A_57.keep K_60)
    obtain ⟨T_63, h_63, X_63, e_63, E_63, A_63, D_63, -, st_63⟩ := newO X_60 hx hZ hown (hw _ (List.mem_of_getElem? (i := 6) rfl)) (hw _ (List.mem_of_getElem? (i := 7) rfl)) (hw _ (List.mem_of_getElem? (i := 8) rfl)) (rfl : T_60.heap = T_60.heap) (g := (mkF m 104 #[.val (.long q1), .second, .val (.int p1), .val (.int p2), .val (.long q2), .second, .val (.int p3), .val (.int p4), .val (.long ta), .second, .val (.int ca0), .val (.int ka), .val (.long tb), .second, .val (.int cb), .val (.int ka), .val (.ref b_57), .unset, .unset, .unset, .unset, .unset, .unset, .unset, .unset, .unset] [])) rfl (hb hby at_104) (by decide) (by decide)
    obtain ⟨b_63, g_63⟩ : ∃ z, z = T_60.heap.size := ⟨_, rfl⟩
    rw [← g_63] at A_63 D_63 st_63
    have g_b_63 : n0 ≤ b_63 := Nat.le_trans z_61 (Nat.le_of_eq g_63.symm)
    refine OGo.to st_63 ?_
    have ne_b_57_b_63 : b_57 ≠ b_63 := Nat.ne_of_lt (Nat.lt_of_lt_of_le f_64.lt (Nat.le_of_eq g_63.symm))
    have z_65 : n0 ≤ h_63.size := Nat.le_trans z_61 E_63.1
    have O_66 : Old Z n0 h_63 := O_62.ext E_63
    have F_timestamp_b_63 : Fld Z h_63 b_63 "com/example/heartwood/heartwood/Revision" "timestamp" "J" (.long (0 : Int64)) := D_63 (Or.inr (hw _ (List.mem_of_getElem? (i := 21) rfl))) (ty := .long) (by decide)
    have F_counter_b_63 : Fld Z h_63 b_63 "com/example/heartwood/heartwood/Revision" "counter" "I" (.int (0 : Int32)) := D_63 (Or.inr (hw _ (List.mem_of_getElem? (i := 23) rfl))) (ty := .int) (by decide)
    have F_clusterId_b_63 : Fld Z h_63 b_63 "com/example/heartwood/heartwood/Revision" "clusterId" "I" (.int (0 : Int32)) := D_63 (Or.inr (hw _ (List.mem_of_getElem? (i := 25) rfl))) (ty := .int) (by decide)
    show OGo p e below _ (T_63.setTop (mkF m 107 #[.val (.long q1), .second, .val (.int p1), .val (.int p2), .val (.long q2), .second, .val (.int p3), .val (.int p4), .val (.long ta), .second, .val (.int ca0), .val (.int ka), .val (.long tb), .second, .val (.int cb), .val (.int ka), .val (.ref b_57), .unset, .unset, .unset, .unset, .unset, .unset, .unset, .unset, .unset] [(.ref b_63)]))
    refine OGo.to (fun _ k => XS.dup X_63.here hx rfl (hb hby at_107) rfl rfl k) ?_
    show OGo p e below _ (T_63.setTop (mkF m 108 #[.val (.long q1), .second, .val (.int p1), .val (.int p2), .val (.long q2), .second, .val (.int p3), .val (.int p4), .val (.long ta), .second, .val (.int ca0), .val (.int ka), .val (.long tb), .second, .val (.int cb), .val (.int ka), .val (.ref b_57), .unset, .unset, .unset, .unset, .unset, .unset, .unset, .unset, .unset] [(.ref b_63), (.ref b_63)]))
    refine OGo.to (fun _ k => XS.lload X_63.here hx rfl (hb hby at_108) rfl k) ?_
    show OGo p e below _ (T_63.setTop (mkF m 110 #[.val (.long q1), .second, .val (.int p1), .val (.int p2), .val (.long q2), .second, .val (.int p3), .val (.int p4), .val (.long ta), .second, .val (.int ca0), .val (.int ka), .val (.long tb), .second, .val (.int cb), .val (.int ka), .val (.ref b_57), .unset, .unset, .unset, .unset, .unset, .unset, .unset, .unset, .unset] [(.long tb), (.ref b_63), (.ref b_63)]))
    refine OGo.to (fun _ k => XS.iload X_63.here hx rfl (hb hby at_110) rfl k) ?_
    show OGo p e below _ (T_63.setTop (mkF m 112 #[.val (.long q1), .second, .val (.int p1), .val (.int p2), .val (.long q2), .second, .val (.int p3), .val (.int p4), .val (.long ta), .second, .val (.int ca0), .val (.int ka), .val (.long tb), .second, .val (.int cb), .val (.int ka), .val (.ref b_57), .unset, .unset, .unset, .unset, .unset, .unset, .unset, .unset, .unset] [(.int cb), (.long tb), (.ref b_63), (.ref b_63)]))
    refine OGo.to (fun _ k => XS.iload X_63.here hx rfl (hb hby at_112) rfl k) ?_
    show OGo p e below _ (T_63.setTop (mkF m 114 #[.val (.long q1), .second, .val (.int p1), .val (.int p2), .val (.long q2), .second, .val (.int p3), .val (.int p4), .val (.long ta), .second, .val (.int ca0), .val (.int ka), .val (.long tb), .second, .val (.int cb), .val (.int ka), .val (.ref b_57), .unset, .unset, .unset, .unset, .unset, .unset, .unset, .unset, .unset] [(.int ka), (.int cb), (.long tb), (.ref b_63), (.ref b_63)]))
    obtain ⟨_, T_67, Lc_67, X_67, hQ_67, st_67⟩ := own_un X_63 (Q := Q2 Z b_63 tb cb ka (.long (0 : Int64)) (.int (0 : Int32)) (.int (0 : Int32)) h_63 n0) (rc := 0) (rs := 0) (W := fun v B => Steps p.tables e below (T_63.setTop (mkF m 114 #[.val (.long q1), .second, .val (.int p1), .val (.int p2), .val (.long q2), .second, .val (.int p3), .val (.int p4), .val (.long ta), .second, .val (.int ca0), .val (.int ka), .val (.long tb), .second, .val (.int cb), .val (.int ka), .val (.ref b_57), .unset, .unset, .unset, .unset, .unset, .unset, .unset, .unset, .unset] [(.int ka), (.int cb), (.long tb), (.ref b_63), (.ref b_63)])) (B.setTop { (mkF m 114 #[.val (.long q1), .second, .val (.int p1), .val (.int p2), .val (.long q2), .second, .val (.int p3), .val (.int p4), .val (.long ta), .second, .val (.int ca0), .val (.int ka), .val (.long tb), .second, .val (.int cb), .val (.int ka), .val (.ref b_57), .unset, .unset, .unset, .unset, .unset, .unset, .unset, .unset, .unset] [(.int ka), (.int cb), (.long tb), (.ref b_63), (.ref b_63)]) with pc := 117, stack := v.toList ++ [(.ref b_63)] })) <| X_63.specialBack hx (y := (⟨"com/example/heartwood/heartwood/Revision", "<init>", "(JII)V"⟩ : MethodName)) rfl hown (mvT hZ (hw _ (List.mem_of_getElem? (i := 9) rfl))) (mvT hZ (hw _ (List.mem_of_getElem? (i := 10) rfl))) (mvT hZ (hw _ (List.mem_of_getElem? (i := 11) rfl))) (by decide) (backOf (W := 1) (rm2 l Z a0 hw [] b_63 tb cb ka (.long (0 : Int64)) (.int (0 : Int32)) (.int (0 : Int32)) h_63 n0 z_65 A_63 F_timestamp_b_63 F_counter_b_63 F_clusterId_b_63 g_b_63 (by rw [hv_tb]; exact own_D1 (own_nnL q2) (by rw [hv_ta]; exact own_nnL q1)) (by rw [hv_cb]; exact own_D2 (own_nn p3) (by rw [hv_ca0]; exact own_nn p1)) (by rw [hv_ka]; exact own_max1 _)) hZ (hw _ (List.mem_of_getElem? (i := 11) rfl)) (hw _ (List.mem_of_getElem? (i := 8) rfl)) (by decide) (by decide)) (g := (mkF m 114 #[.val (.long q1), .second, .val (.int p1), .val (.int p2), .val (.long q2), .second, .val (.int p3), .val (.int p4), .val (.long ta), .second, .val (.int ca0), .val (.int ka), .val (.long tb), .second, .val (.int cb), .val (.int ka), .val (.ref b_57), .unset, .unset, .unset, .unset, .unset, .unset, .unset, .unset, .unset] [(.int ka), (.int cb), (.long tb), (.ref b_63), (.ref b_63)])) rfl (by rw [hml]; rfl) (Steps.refl _) (a := b_63) (argsL := [(.long tb), (.int cb), (.int ka)]) (rest := [(.ref b_63)]) (lenOf pd_4 rfl) rfl (by show 2 * 0 + _ ≤ _; exact Nat.le_of_eq rfl) (hb hby at_114) (fun _ _ => ⟨rfl, e_63, (by decide : 2 + 0 ≤ _), (by decide : 6 + 0 ≤ _)⟩)
    obtain ⟨rfl, N_67q, K_67, p_67_0, p_67_1, p_67_2⟩ := hQ_67
    have N_67 := Fr.app N_60 N_67q
    refine OGo.to (fun _ k => st_67.trans k) ?_
    have z_68 : n0 ≤ T_67.heap.size := Nat.le_trans z_65 K_67.1
    have O_69 : Old Z n0 T_67.heap := O_66.keep K_67 (allS g_b_63 all0)
    show OGo p e below _ (T_67.setTop (mkF m 117 #[.val (.long q1), .second, .val (.int p1), .val (.int p2), .val (.long q2), .second, .val (.int p3), .val (.int p4), .val (.long ta), .second, .val (.int ca0), .val (.int ka), .val (.long tb), .second, .val (.int cb), .val (.int ka), .val (.ref b_57), .unset, .unset, .unset, .unset, .unset, .unset, .unset, .unset, .unset] [(.ref b_63)]))
    refine OGo.to (fun _ k => XS.astore X_67.here hx rfl (hb hby at_117) rfl rfl (l' := #[.val (.long q1), .second, .val (.int p1), .val (.int p2), .val (.long q2), .second, .val (.int p3), .val (.int p4), .val (.long ta), .second, .val (.int ca0), .val (.int ka), .val (.long tb), .second, .val (.int cb), .val (.int ka), .val (.ref b_57), .val (.ref b_63), .unset, .unset, .unset, .unset, .unset, .unset, .unset, .unset]) rfl k) ?_
    show OGo p e below _ (T_67.setTop (mkF m 119 #[.val (.long q1), .second, .val (.int p1), .val (.int p2), .val (.long q2), .second, .val (.int p3), .val (.int p4), .val (.long ta), .second, .val (.int ca0), .val (.int ka), .val (.long tb), .second, .val (.int cb), .val (.int ka), .val (.ref b_57), .val (.ref b_63), .unset, .unset, .unset, .unset, .unset, .unset, .unset, .unset] []))
    refine OGo.to (fun _ k => XS.lload X_67.here hx rfl (hb hby at_119) rfl k) ?_
    show OGo p e below _ (T_67.setTop (mkF m 121 #[.val (.long q1), .second, .val (.int p1), .val (.int p2), .val (.long q2), .second, .val (.int p3), .val (.int p4), .val (.long ta), .second, .val (.int ca0), .val (.int ka), .val (.long tb), .second, .val (.int cb), .val (.int ka), .val (.ref b_57), .val (.ref b_63), .unset, .unset, .unset, .unset, .unset, .unset, .unset, .unset] [(.long ta)]))
    refine OGo.to (fun _ k => XS.lload X_67.here hx rfl (hb hby at_121) rfl k) ?_
    show OGo p e below _ (T_67.setTop (mkF m 123 #[.val (.long q1), .second, .val (.int p1), .val (.int p2), .val (.long q2), .second, .val (.int p3), .val (.int p4), .val (.long ta), .second, .val (.int ca0), .val (.int ka), .val (.long tb), .second, .val (.int cb), .val (.int ka), .val (.ref b_57), .val (.ref b_63), .unset, .unset, .unset, .unset, .unset, .unset, .unset, .unset] [(.long tb), (.long ta)]))
    refine OGo.to (fun _ k => XS.lcmp X_67.here hx rfl (hb hby at_123) rfl k) ?_
    show OGo p e below _ (T_67.setTop (mkF m 124 #[.val (.long q1), .second, .val (.int p1), .val (.int p2), .val (.long q2), .second, .val (.int p3), .val (.int p4), .val (.long ta), .second, .val (.int ca0), .val (.int ka), .val (.long tb), .second, .val (.int cb), .val (.int ka), .val (.ref b_57), .val (.ref b_63), .unset, .unset, .unset, .unset, .unset, .unset, .unset, .unset] [(.int (lcmpW ta tb))]))
    obtain ⟨ex, hv_ex⟩ : ∃ z : Int32, z = (if ta = tb then (if ca0 = cb then (1 : Int32) else (0 : Int32)) else (0 : Int32)) := ⟨_, rfl⟩
    refine OGo.to (S' := T_67.setTop (mkF m 146 #[.val (.long q1), .second, .val (.int p1), .val (.int p2), .val (.long q2), .second, .val (.int p3), .val (.int p4), .val (.long ta), .second, .val (.int ca0), .val (.int ka), .val (.long tb), .second, .val (.int cb), .val (.int ka), .val (.ref b_57), .val (.ref b_63), .unset, .unset, .unset, .unset, .unset, .unset, .unset, .unset] [(.int ex)])) (fun _ k => ?_) ?_
    ·
      show Steps p.tables e below (T_67.setTop (mkF m 124 #[.val (.long q1), .second, .val (.int p1), .val (.int p2), .val (.long q2), .second, .val (.int p3), .val (.int p4), .val (.long ta), .second, .val (.int ca0), .val (.int ka), .val (.long tb), .second, .val (.int cb), .val (.int ka), .val (.ref b_57), .val (.ref b_63), .unset, .unset, .unset, .unset, .unset, .unset, .unset, .unset] [(.int (lcmpW ta tb))])) _
      by_cases hc124__71 : ta = tb
      ·  -- pc 124: yes
        refine XS.ifNo X_67.here hx rfl (hb hby at_124) rfl ((if0 _ _).trans (teq ((lw_eq ta tb).mpr hc124__71)).2) ?_
        show Steps p.tables e below (T_67.setTop (mkF m 127 #[.val (.long q1), .second, .val (.int p1), .val (.int p2), .val (.long q2), .second, .val (.int p3), .val (.int p4), .val (.long ta), .second, .val (.int ca0), .val (.int ka), .val (.long tb), .second, .val (.int cb), .val (.int ka), .val (.ref b_57), .val (.ref b_63), .unset, .unset, .unset, .unset, .unset, .unset, .unset, .unset] [])) _
        refine XS.iload X_67.here hx rfl (hb hby at_127) rfl ?_
        show Steps p.tables e below (T_67.setTop (mkF m 129 #[.val (.long q1), .second, .val (.int p1), .val (.int p2), .val (.long q2), .second, .val (.int p3), .val (.int p4), .val (.long ta), .second, .val (.int ca0), .val (.int ka), .val (.long tb), .second, .val (.int cb), .val (.int ka), .val (.ref b_57), .val (.ref b_63), .unset, .unset, .unset, .unset, .unset, .unset, .unset, .unset] [(.int ca0)])) _
        refine XS.iload X_67.here hx rfl (hb hby at_129) rfl ?_
        show Steps p.tables e below (T_67.setTop (mkF m 131 #[.val (.long q1), .second, .val (.int p1), .val (.int p2), .val (.long q2), .second, .val (.int p3), .val (.int p4), .val (.long ta), .second, .val (.int ca0), .val (.int ka), .val (.long tb), .second, .val (.int cb), .val (.int ka), .val (.ref b_57), .val (.ref b_63), .unset, .unset, .unset, .unset, .unset, .unset, .unset, .unset] [(.int cb), (.int ca0)])) _
        by_cases hc131__72 : ca0 = cb
        ·  -- pc 131: yes
          refine XS.icmpNo X_67.here hx rfl (hb hby at_131) rfl (teq hc131__72).2 ?_
          show Steps p.tables e below (T_67.setTop (mkF m 134 #[.val (.long q1), .second, .val (.int p1), .val (.int p2), .val (.long q2), .second, .val (.int p3), .val (.int p4), .val (.long ta), .second, .val (.int ca0), .val (.int ka), .val (.long tb), .second, .val (.int cb), .val (.int ka), .val (.ref b_57), .val (.ref b_63), .unset, .unset, .unset, .unset, .unset, .unset, .unset, .unset] [])) _
          refine XS.iload X_67.here hx rfl (hb hby at_134) rfl ?_
          show Steps p.tables e below (T_67.setTop (mkF m 136 #[.val (.long q1), .second, .val (.int p1), .val (.int p2), .val (.long q2), .second, .val (.int p3), .val (.int p4), .val (.long ta), .second, .val (.int ca0), .val (.int ka), .val (.long tb), .second, .val (.int cb), .val (.int ka), .val (.ref b_57), .val (.ref b_63), .unset, .unset, .unset, .unset, .unset, .unset, .unset, .unset] [(.int ka)])) _
          refine XS.iload X_67.here hx rfl (hb hby at_136) rfl ?_
          show Steps p.tables e below (T_67.setTop (mkF m 138 #[.val (.long q1), .second, .val (.int p1), .val (.int p2), .val (.long q2), .second, .val (.int p3), .val (.int p4), .val (.long ta), .second, .val (.int ca0), .val (.int ka), .val (.long tb), .second, .val (.int cb), .val (.int ka), .val (.ref b_57), .val (.ref b_63), .unset, .unset, .unset, .unset, .unset, .unset, .unset, .unset] [(.int ka), (.int ka)])) _
          have hc138__73 : ka = ka := rfl
          refine XS.icmpNo X_67.here hx rfl (hb hby at_138) rfl (teq hc138__73).2 ?_
          show Steps p.tables e below (T_67.setTop (mkF m 141 #[.val (.long q1), .second, .val (.int p1), .val (.int p2), .val (.long q2), .second, .val (.int p3), .val (.int p4), .val (.long ta), .second, .val (.int ca0), .val (.int ka), .val (.long tb), .second, .val (.int cb), .val (.int ka), .val (.ref b_57), .val (.ref b_63), .unset, .unset, .unset, .unset, .unset, .unset, .unset, .unset] [])) _
          refine XS.iconst X_67.here hx rfl (hb hby at_141) ?_
          show Steps p.tables e below (T_67.setTop (mkF m 142 #[.val (.long q1), .second, .val (.int p1), .val (.int p2), .val (.long q2), .second, .val (.int p3), .val (.int p4), .val (.long ta), .second, .val (.int ca0), .val (.int ka), .val (.long tb), .second, .val (.int cb), .val (.int ka), .val (.ref b_57), .val (.ref b_63), .unset, .unset, .unset, .unset, .unset, .unset, .unset, .unset] [(.int (1 : Int32))])) _
          refine XS.goto X_67.here hx rfl (pc0 := 142) (pc' := 146) rfl (hb hby at_142) (by decide) (by decide) ?_
          show Steps p.tables e below (T_67.setTop (mkF m 146 #[.val (.long q1), .second, .val (.int p1), .val (.int p2), .val (.long q2), .second, .val (.int p3), .val (.int p4), .val (.long ta), .second, .val (.int ca0), .val (.int ka), .val (.long tb), .second, .val (.int cb), .val (.int ka), .val (.ref b_57), .val (.ref b_63), .unset, .unset, .unset, .unset, .unset, .unset, .unset, .unset] [(.int (1 : Int32))])) _
          have hw_ex := hv_ex
          rw [if_pos hc124__71, if_pos hc131__72] at hw_ex
          subst hw_ex
          exact k
        ·  -- pc 131: no
          refine XS.icmpYes X_67.here hx rfl (pc0 := 131) (pc' := 145) rfl (hb hby at_131) rfl (feq hc131__72).2 (by decide) (by decide) ?_
          show Steps p.tables e below (T_67.setTop (mkF m 145 #[.val (.long q1), .second, .val (.int p1), .val (.int p2), .val (.long q2), .second, .val (.int p3), .val (.int p4), .val (.long ta), .second, .val (.int ca0), .val (.int ka), .val (.long tb), .second, .val (.int cb), .val (.int ka), .val (.ref b_57), .val (.ref b_63), .unset, .unset, .unset, .unset, .unset, .unset, .unset, .unset] [])) _
          refine XS.iconst X_67.here hx rfl (hb hby at_145) ?_
          show Steps p.tables e below (T_67.setTop (mkF m 146 #[.val (.long q1), .second, .val (.int p1), .val (.int p2), .val (.long q2), .second, .val (.int p3), .val (.int p4), .val (.long ta), .second, .val (.int ca0), .val (.int ka), .val (.long tb), .second, .val (.int cb), .val (.int ka), .val (.ref b_57), .val (.ref b_63), .unset, .unset, .unset, .unset, .unset, .unset, .unset, .unset] [(.int (0 : Int32))])) _
          have hw_ex := hv_ex
          rw [if_pos hc124__71, if_neg hc131__72] at hw_ex
          subst hw_ex
          exact k
      ·  -- pc 124: no
        refine XS.ifYes X_67.here hx rfl (pc0 := 124) (pc' := 145) rfl (hb hby at_124) rfl ((if0 _ _).trans (feq (mt (lw_eq ta tb).mp hc124__71)).2) (by decide) (by decide) ?_
        show Steps p.tables e below (T_67.setTop (mkF m 145 #[.val (.long q1), .second, .val (.int p1), .val (.int p2), .val (.long q2), .second, .val (.int p3), .val (.int p4), .val (.long ta), .second, .val (.int ca0), .val (.int ka), .val (.long tb), .second, .val (.int cb), .val (.int ka), .val (.ref b_57), .val (.ref b_63), .unset, .unset, .unset, .unset, .unset, .unset, .unset, .unset] [])) _
        refine XS.iconst X_67.here hx rfl (hb hby at_145) ?_
        show Steps p.tables e below (T_67.setTop (mkF m 146 #[.val (.long q1), .second, .val (.int p1), .val (.int p2), .val (.long q2), .second, .val (.int p3), .val (.int p4), .val (.long ta), .second, .val (.int ca0), .val (.int ka), .val (.long tb), .second, .val (.int cb), .val (.int ka), .val (.ref b_57), .val (.ref b_63), .unset, .unset, .unset, .unset, .unset, .unset, .unset, .unset] [(.int (0 : Int32))])) _
        have hw_ex := hv_ex
        rw [if_neg hc124__71] at hw_ex
        subst hw_ex
        exact k
    show OGo p e below _ (T_67.setTop (mkF m 146 #[.val (.long q1), .second, .val (.int p1), .val (.int p2), .val (.long q2), .second, .val (.int p3), .val (.int p4), .val (.long ta), .second, .val (.int ca0), .val (.int ka), .val (.long tb), .second, .val (.int cb), .val (.int ka), .val (.ref b_57), .val (.ref b_63), .unset, .unset, .unset, .unset, .unset, .unset, .unset, .unset] [(.int ex)]))
    refine OGo.to (fun _ k => XS.istore X_67.here hx rfl (hb hby at_146) rfl (l' := #[.val (.long q1), .second, .val (.int p1), .val (.int p2), .val (.long q2), .second, .val (.int p3), .val (.int p4), .val (.long ta), .second, .val (.int ca0), .val (.int ka), .val (.long tb), .second, .val (.int cb), .val (.int ka), .val (.ref b_57), .val (.ref b_63), .val (.int ex), .unset, .unset, .unset, .unset, .unset, .unset, .unset]) rfl k) ?_
    show OGo p e below _ (T_67.setTop (mkF m 148 #[.val (.long q1), .second, .val (.int p1), .val (.int p2), .val (.long q2), .second, .val (.int p3), .val (.int p4), .val (.long ta), .second, .val (.int ca0), .val (.int ka), .val (.long tb), .second, .val (.int cb), .val (.int ka), .val (.ref b_57), .val (.ref b_63), .val (.int ex), .unset, .unset, .unset, .unset, .unset, .unset, .unset] []))
    refine OGo.to (fun _ k => XS.lload X_67.here hx rfl (hb hby at_148) rfl k) ?_
    show OGo p e below _ (T_67.setTop (mkF m 150 #[.val (.long q1), .second, .val (.int p1), .val (.int p2), .val (.long q2), .second, .val (.int p3), .val (.int p4), .val (.long ta), .second, .val (.int ca0), .val (.int ka), .val (.long tb), .second, .val (.int cb), .val (.int ka), .val (.ref b_57), .val (.ref b_63), .val (.int ex), .unset, .unset, .unset, .unset, .unset, .unset, .unset] [(.long ta)]))
    obtain ⟨_, T_74, Lc_74, X_74, hQ_74, st_74⟩ := own_un X_67 (Q := Q5 Z ta ca cl T_67.heap n0) (rc := 1) (rs := 1) (W := fun v B => ∀ target, Steps p.tables e below (B.setTop { (mkF m 150 #[.val (.long q1), .second, .val (.int p1), .val (.int p2), .val (.long q2), .second, .val (.int p3), .val (.int p4), .val (.long ta), .second, .val (.int ca0), .val (.int ka), .val (.long tb), .second, .val (.int cb), .val (.int ka), .val (.ref b_57), .val (.ref b_63), .val (.int ex), .unset, .unset, .unset, .unset, .unset, .unset, .unset] [(.long ta)]) with pc := 153, stack := v.toList ++ [] }) target → Steps p.tables e below (T_67.setTop (mkF m 150 #[.val (.long q1), .second, .val (.int p1), .val (.int p2), .val (.long q2), .second, .val (.int p3), .val (.int p4), .val (.long ta), .second, .val (.int ca0), .val (.int ka), .val (.long tb), .second, .val (.int cb), .val (.int ka), .val (.ref b_57), .val (.ref b_63), .val (.int ex), .unset, .unset, .unset, .unset, .unset, .unset, .unset] [(.long ta)])) target) <| Jvm.LawKit.callS X_67 hx (y := (⟨"java/lang/Long", "valueOf", "(J)Ljava/lang/Long;"⟩ : MethodName)) hown (mvT hZ (hw _ (List.mem_of_getElem? (i := 26) rfl))) (mvT hZ (hw _ (List.mem_of_getElem? (i := 27) rfl))) (mvT hZ (hw _ (List.mem_of_getElem? (i := 28) rfl))) (mvT hZ (hw _ (List.mem_of_getElem? (i := 29) rfl))) (by decide) (backOf (W := 0) (rm5 l Z a0 hw [] ta ca cl T_67.heap n0 z_68 S1 O_69 (HC)) hZ (hw _ (List.mem_of_getElem? (i := 29) rfl)) (hw _ (List.mem_of_getElem? (i := 28) rfl)) (by decide) (by decide)) (g := (mkF m 150 #[.val (.long q1), .second, .val (.int p1), .val (.int p2), .val (.long q2), .second, .val (.int p3), .val (.int p4), .val (.long ta), .second, .val (.int ca0), .val (.int ka), .val (.long tb), .second, .val (.int cb), .val (.int ka), .val (.ref b_57), .val (.ref b_63), .val (.int ex), .unset, .unset, .unset, .unset, .unset, .unset, .unset] [(.long ta)])) rfl (by rw [hml]; rfl) (argsL := [(.long ta)]) (rest := []) (lenOf pd_5 rfl) rfl (by show 2 * 0 + _ ≤ _; exact Nat.le_of_eq rfl) (hb hby at_150) (fun _ _ => ⟨rfl, (rfl : T_67.heap = T_67.heap), (by decide : 2 + 1 ≤ _), (by decide : 6 + 1 ≤ _)⟩)
    obtain ⟨b__74, rfl, N_74q, K_74, p_74_0⟩ := hQ_74
    have N_74 := Fr.app N_67 N_74q
    refine OGo.to st_74 ?_
    have z_75 : n0 ≤ T_74.heap.size := Nat.le_trans z_68 K_74.1
    have O_76 : Old Z n0 T_74.heap := O_69.keep K_74 all0
    show OGo p e below _ (T_74.setTop (mkF m 153 #[.val (.long q1), .second, .val (.int p1), .val (.int p2), .val (.long q2), .second, .val (.int p3), .val (.int p4), .val (.long ta), .second, .val (.int ca0), .val (.int ka), .val (.long tb), .second, .val (.int cb), .val (.int ka), .val (.ref b_57), .val (.ref b_63), .val (.int ex), .unset, .unset, .unset, .unset, .unset, .unset, .unset] [(.ref b__74)]))
    refine OGo.to (fun _ k => XS.astore X_74.here hx rfl (hb hby at_153) rfl rfl (l' := #[.val (.long q1), .second, .val (.int p1), .val (.int p2), .val (.long q2), .second, .val (.int p3), .val (.int p4), .val (.long ta), .second, .val (.int ca0), .val (.int ka), .val (.long tb), .second, .val (.int cb), .val (.int ka), .val (.ref b_57), .val (.ref b_63), .val (.int ex), .val (.ref b__74), .unset, .unset, .unset, .unset, .unset, .unset]) rfl k) ?_
    show OGo p e below _ (T_74.setTop (mkF m 155 #[.val (.long q1), .second, .val (.int p1), .val (.int p2), .val (.long q2), .second, .val (.int p3), .val (.int p4), .val (.long ta), .second, .val (.int ca0), .val (.int ka), .val (.long tb), .second, .val (.int cb), .val (.int ka), .val (.ref b_57), .val (.ref b_63), .val (.int ex), .val (.ref b__74), .unset, .unset, .unset, .unset, .unset, .unset] []))
    refine OGo.to (fun _ k => XS.aload X_74.here hx rfl (hb hby at_155) rfl rfl k) ?_
    show OGo p e below _ (T_74.setTop (mkF m 157 #[.val (.long q1), .second, .val (.int p1), .val (.int p2), .val (.long q2), .second, .val (.int p3), .val (.int p4), .val (.long ta), .second, .val (.int ca0), .val (.int ka), .val (.long tb), .second, .val (.int cb), .val (.int ka), .val (.ref b_57), .val (.ref b_63), .val (.int ex), .val (.ref b__74), .unset, .unset, .unset, .unset, .unset, .unset] [(.ref b_57)]))
    refine OGo.to (fun _ k => XS.aload X_74.here hx rfl (hb hby at_157) rfl rfl k) ?_
    show OGo p e below _ (T_74.setTop (mkF m 159 #[.val (.long q1), .second, .val (.int p1), .val (.int p2), .val (.long q2), .second, .val (.int p3), .val (.int p4), .val (.long ta), .second, .val (.int ca0), .val (.int ka), .val (.long tb), .second, .val (.int cb), .val (.int ka), .val (.ref b_57), .val (.ref b_63), .val (.int ex), .val (.ref b__74), .unset, .unset, .unset, .unset, .unset, .unset] [(.ref b_63), (.ref b_57)]))
    have f_78 : Exa Z T_74.heap b_63 "com/example/heartwood/heartwood/Revision" := ((A_63.keep K_67).keep K_74)
    have f_79 : Fld Z T_74.heap b_57 "com/example/heartwood/heartwood/Revision" "timestamp" "J" (.long ta) := (((p_60_0.ext E_63).keep K_67 (fun q => ne_b_57_b_63 (List.mem_singleton.mp q))).keep K_74 (List.not_mem_nil))
    have f_80 : Fld Z T_74.heap b_57 "com/example/heartwood/heartwood/Revision" "counter" "I" (.int ca0) := (((p_60_1.ext E_63).keep K_67 (fun q => ne_b_57_b_63 (List.mem_singleton.mp q))).keep K_74 (List.not_mem_nil))
    have f_81 : Fld Z T_74.heap b_57 "com/example/heartwood/heartwood/Revision" "clusterId" "I" (.int ka) := (((p_60_2.ext E_63).keep K_67 (fun q => ne_b_57_b_63 (List.mem_singleton.mp q))).keep K_74 (List.not_mem_nil))
    have f_82 : Fld Z T_74.heap b_63 "com/example/heartwood/heartwood/Revision" "timestamp" "J" (.long tb) := (p_67_0.keep K_74 (List.not_mem_nil))
    have f_83 : Fld Z T_74.heap b_63 "com/example/heartwood/heartwood/Revision" "counter" "I" (.int cb) := (p_67_1.keep K_74 (List.not_mem_nil))
    have f_84 : Fld Z T_74.heap b_63 "com/example/heartwood/heartwood/Revision" "clusterId" "I" (.int ka) := (p_67_2.keep K_74 (List.not_mem_nil))
    have f_85 : Exa Z T_74.heap b_57 "com/example/heartwood/heartwood/Revision" := (((f_64.ext E_63).keep K_67).keep K_74)
    obtain ⟨cq_77, kq_77, q_77a, q_77b, q_77c⟩ := isOf hZ (rfl : T_74.heap = T_74.heap) f_85
    obtain ⟨_, T_77, Lc_77, X_77, hQ_77, st_77⟩ := own_un X_74 (Q := Q6 Z b_57 b_63 ta ca0 ka tb cb ka T_74.heap n0) (rc := 0) (rs := 0) (W := fun v B => Steps p.tables e below (T_74.setTop (mkF m 159 #[.val (.long q1), .second, .val (.int p1), .val (.int p2), .val (.long q2), .second, .val (.int p3), .val (.int p4), .val (.long ta), .second, .val (.int ca0), .val (.int ka), .val (.long tb), .second, .val (.int cb), .val (.int ka), .val (.ref b_57), .val (.ref b_63), .val (.int ex), .val (.ref b__74), .unset, .unset, .unset, .unset, .unset, .unset] [(.ref b_63), (.ref b_57)])) (B.setTop { (mkF m 159 #[.val (.long q1), .second, .val (.int p1), .val (.int p2), .val (.long q2), .second, .val (.int p3), .val (.int p4), .val (.long ta), .second, .val (.int ca0), .val (.int ka), .val (.long tb), .second, .val (.int cb), .val (.int ka), .val (.ref b_57), .val (.ref b_63), .val (.int ex), .val (.ref b__74), .unset, .unset, .unset, .unset, .unset, .unset] [(.ref b_63), (.ref b_57)]) with pc := 162, stack := v.toList ++ [] })) <| X_74.virtualBack hx (y := (⟨"com/example/heartwood/heartwood/Revision", "equals", "(Ljava/lang/Object;)Z"⟩ : MethodName)) (z := (⟨"com/example/heartwood/heartwood/Revision", "equals", "(Ljava/lang/Object;)Z"⟩ : MethodName)) hown (mvT hZ (hw _ (List.mem_of_getElem? (i := 34) rfl))) (mvT hZ (hw _ (List.mem_of_getElem? (i := 35) rfl))) (notFace_of_selects (args := #[]) (mvT hZ (hw _ (List.mem_of_getElem? (i := 37) rfl)))) (mvT hZ (hw _ (List.mem_of_getElem? (i := 37) rfl))) (mvT hZ (hw _ (List.mem_of_getElem? (i := 36) rfl))) (by decide) (backOf (W := 0) (rm6 l Z a0 hw [] b_57 b_63 ta ca0 ka tb cb ka T_74.heap n0 z_75 f_78 f_79 f_80 f_81 f_82 f_83 f_84) hZ (hw _ (List.mem_of_getElem? (i := 38) rfl)) (hw _ (List.mem_of_getElem? (i := 8) rfl)) (by decide) (by decide)) q_77a q_77c (g := (mkF m 159 #[.val (.long q1), .second, .val (.int p1), .val (.int p2), .val (.long q2), .second, .val (.int p3), .val (.int p4), .val (.long ta), .second, .val (.int ca0), .val (.int ka), .val (.long tb), .second, .val (.int cb), .val (.int ka), .val (.ref b_57), .val (.ref b_63), .val (.int ex), .val (.ref b__74), .unset, .unset, .unset, .unset, .unset, .unset] [(.ref b_63), (.ref b_57)])) rfl (by rw [hml]; rfl) (Steps.refl _) (argsL := [(.ref b_63)]) (rest := []) (lenOf pd_6 rfl) rfl (by show 2 * 0 + _ ≤ _; exact Nat.le_of_eq rfl) (hb hby at_159) (fun _ _ => ⟨rfl, (rfl : T_74.heap = T_74.heap), (by decide : 3 + 0 ≤ _), (by decide : 7 + 0 ≤ _)⟩)
    obtain ⟨rfl, N_77q, e_77⟩ := hQ_77
    have N_77 := Fr.app N_74 N_77q
    refine OGo.to (fun _ k => st_77.trans k) ?_
    show OGo p e below _ (T_77.setTop (mkF m 162 #[.val (.long q1), .second, .val (.int p1), .val (.int p2), .val (.long q2), .second, .val (.int p3), .val (.int p4), .val (.long ta), .second, .val (.int ca0), .val (.int ka), .val (.long tb), .second, .val (.int cb), .val (.int ka), .val (.ref b_57), .val (.ref b_63), .val (.int ex), .val (.ref b__74), .unset, .unset, .unset, .unset, .unset, .unset] [(.int (own_eq ta ca0 ka tb cb ka))]))
    refine OGo.to (fun _ k => XS.istore X_77.here hx rfl (hb hby at_162) rfl (l' := #[.val (.long q1), .second, .val (.int p1), .val (.int p2), .val (.long q2), .second, .val (.int p3), .val (.int p4), .val (.long ta), .second, .val (.int ca0), .val (.int ka), .val (.long tb), .second, .val (.int cb), .val (.int ka), .val (.ref b_57), .val (.ref b_63), .val (.int ex), .val (.ref b__74), .val (.int (own_eq ta ca0 ka tb cb ka)), .unset, .unset, .unset, .unset, .unset]) rfl k) ?_
    show OGo p e below _ (T_77.setTop (mkF m 164 #[.val (.long q1), .second, .val (.int p1), .val (.int p2), .val (.long q2), .second, .val (.int p3), .val (.int p4), .val (.long ta), .second, .val (.int ca0), .val (.int ka), .val (.long tb), .second, .val (.int cb), .val (.int ka), .val (.ref b_57), .val (.ref b_63), .val (.int ex), .val (.ref b__74), .val (.int (own_eq ta ca0 ka tb cb ka)), .unset, .unset, .unset, .unset, .unset] []))
    refine OGo.to (fun _ k => XS.aload X_77.here hx rfl (hb hby at_164) rfl rfl k) ?_
    show OGo p e below _ (T_77.setTop (mkF m 166 #[.val (.long q1), .second, .val (.int p1), .val (.int p2), .val (.long q2), .second, .val (.int p3), .val (.int p4), .val (.long ta), .second, .val (.int ca0), .val (.int ka), .val (.long tb), .second, .val (.int cb), .val (.int ka), .val (.ref b_57), .val (.ref b_63), .val (.int ex), .val (.ref b__74), .val (.int (own_eq ta ca0 ka tb cb ka)), .unset, .unset, .unset, .unset, .unset] [(.ref b_63)]))
    refine OGo.to (fun _ k => XS.aload X_77.here hx rfl (hb hby at_166) rfl rfl k) ?_
    show OGo p e below _ (T_77.setTop (mkF m 168 #[.val (.long q1), .second, .val (.int p1), .val (.int p2), .val (.long q2), .second, .val (.int p3), .val (.int p4), .val (.long ta), .second, .val (.int ca0), .val (.int ka), .val (.long tb), .second, .val (.int cb), .val (.int ka), .val (.ref b_57), .val (.ref b_63), .val (.int ex), .val (.ref b__74), .val (.int (own_eq ta ca0 ka tb cb ka)), .unset, .unset, .unset, .unset, .unset] [(.ref b_57), (.ref b_63)]))
    obtain ⟨cq_86, kq_86, q_86a, q_86b, q_86c⟩ := isOf hZ e_77 f_78
    obtain ⟨_, T_86, Lc_86, X_86, hQ_86, st_86⟩ := own_un X_77 (Q := Q6 Z b_63 b_57 tb cb ka ta ca0 ka T_74.heap n0) (rc := 0) (rs := 0) (W := fun v B => Steps p.tables e below (T_77.setTop (mkF m 168 #[.val (.long q1), .second, .val (.int p1), .val (.int p2), .val (.long q2), .second, .val (.int p3), .val (.int p4), .val (.long ta), .second, .val (.int ca0), .val (.int ka), .val (.long tb), .second, .val (.int cb), .val (.int ka), .val (.ref b_57), .val (.ref b_63), .val (.int ex), .val (.ref b__74), .val (.int (own_eq ta ca0 ka tb cb ka)), .unset, .unset, .unset, .unset, .unset] [(.ref b_57), (.ref b_63)])) (B.setTop { (mkF m 168 #[.val (.long q1), .second, .val (.int p1), .val (.int p2), .val (.long q2), .second, .val (.int p3), .val (.int p4), .val (.long ta), .second, .val (.int ca0), .val (.int ka), .val (.long tb), .second, .val (.int cb), .val (.int ka), .val (.ref b_57), .val (.ref b_63), .val (.int ex), .val (.ref b__74), .val (.int (own_eq ta ca0 ka tb cb ka)), .unset, .unset, .unset, .unset, .unset] [(.ref b_57), (.ref b_63)]) with pc := 171, stack := v.toList ++ [] })) <| X_77.virtualBack hx (y := (⟨"com/example/heartwood/heartwood/Revision", "equals", "(Ljava/lang/Object;)Z"⟩ : MethodName)) (z := (⟨"com/example/heartwood/heartwood/Revision", "equals", "(Ljava/lang/Object;)Z"⟩ : MethodName)) hown (mvT hZ (hw _ (List.mem_of_getElem? (i := 34) rfl))) (mvT hZ (hw _ (List.mem_of_getElem? (i := 35) rfl))) (notFace_of_selects (args := #[]) (mvT hZ (hw _ (List.mem_of_getElem? (i := 37) rfl)))) (mvT hZ (hw _ (List.mem_of_getElem? (i := 37) rfl))) (mvT hZ (hw _ (List.mem_of_getElem? (i := 36) rfl))) (by decide) (backOf (W := 0) (rm6 l Z a0 hw [] b_63 b_57 tb cb ka ta ca0 ka T_74.heap n0 z_75 f_85 f_82 f_83 f_84 f_79 f_80 f_81) hZ (hw _ (List.mem_of_getElem? (i := 38) rfl)) (hw _ (List.mem_of_getElem? (i := 8) rfl)) (by decide) (by decide)) q_86a q_86c (g := (mkF m 168 #[.val (.long q1), .second, .val (.int p1), .val (.int p2), .val (.long q2), .second, .val (.int p3), .val (.int p4), .val (.long ta), .second, .val (.int ca0), .val (.int ka), .val (.long tb), .second, .val (.int cb), .val (.int ka), .val (.ref b_57), .val (.ref b_63), .val (.int ex), .val (.ref b__74), .val (.int (own_eq ta ca0 ka tb cb ka)), .unset, .unset, .unset, .unset, .unset] [(.ref b_57), (.ref b_63)])) rfl (by rw [hml]; rfl) (Steps.refl _) (argsL := [(.ref b_57)]) (rest := []) (lenOf pd_6 rfl) rfl (by show 2 * 0 + _ ≤ _; exact Nat.le_of_eq rfl) (hb hby at_168) (fun _ _ => ⟨rfl, e_77, (by decide : 3 + 0 ≤ _), (by decide : 7 + 0 ≤ _)⟩)
    obtain ⟨rfl, N_86q, e_86⟩ := hQ_86
    have N_86 := Fr.app N_77 N_86q
    refine OGo.to (fun _ k => st_86.trans k) ?_
    show OGo p e below _ (T_86.setTop (mkF m 171 #[.val (.long q1), .second, .val (.int p1), .val (.int p2), .val (.long q2), .second, .val (.int p3), .val (.int p4), .val (.long ta), .second, .val (.int ca0), .val (.int ka), .val (.long tb), .second, .val (.int cb), .val (.int ka), .val (.ref b_57), .val (.ref b_63), .val (.int ex), .val (.ref b__74), .val (.int (own_eq ta ca0 ka tb cb ka)), .unset, .unset, .unset, .unset, .unset] [(.int (own_eq tb cb ka ta ca0 ka))]))
    refine OGo.to (fun _ k => XS.istore X_86.here hx rfl (hb hby at_171) rfl (l' := #[.val (.long q1), .second, .val (.int p1), .val (.int p2), .val (.long q2), .second, .val (.int p3), .val (.int p4), .val (.long ta), .second, .val (.int ca0), .val (.int ka), .val (.long tb), .second, .val (.int cb), .val (.int ka), .val (.ref b_57), .val (.ref b_63), .val (.int ex), .val (.ref b__74), .val (.int (own_eq ta ca0 ka tb cb ka)), .val (.int (own_eq tb cb ka ta ca0 ka)), .unset, .unset, .unset, .unset]) rfl k) ?_
    show OGo p e below _ (T_86.setTop (mkF m 173 #[.val (.long q1), .second, .val (.int p1), .val (.int p2), .val (.long q2), .second, .val (.int p3), .val (.int p4), .val (.long ta), .second, .val (.int ca0), .val (.int ka), .val (.long tb), .second, .val (.int cb), .val (.int ka), .val (.ref b_57), .val (.ref b_63), .val (.int ex), .val (.ref b__74), .val (.int (own_eq ta ca0 ka tb cb ka)), .val (.int (own_eq tb cb ka ta ca0 ka)), .unset, .unset, .unset, .unset] []))
    refine OGo.to (fun _ k => XS.aload X_86.here hx rfl (hb hby at_173) rfl rfl k) ?_
    show OGo p e below _ (T_86.setTop (mkF m 175 #[.val (.long q1), .second, .val (.int p1), .val (.int p2), .val (.long q2), .second, .val (.int p3), .val (.int p4), .val (.long ta), .second, .val (.int ca0), .val (.int ka), .val (.long tb), .second, .val (.int cb), .val (.int ka), .val (.ref b_57), .val (.ref b_63), .val (.int ex), .val (.ref b__74), .val (.int (own_eq ta ca0 ka tb cb ka)), .val (.int (own_eq tb cb ka ta ca0 ka)), .unset, .unset, .unset, .unset] [(.ref b_57)]))
    refine OGo.to (fun _ k => XS.aload X_86.here hx rfl (hb hby at_175) rfl rfl k) ?_
    show OGo p e below _ (T_86.setTop (mkF m 177 #[.val (.long q1), .second, .val (.int p1), .val (.int p2), .val (.long q2), .second, .val (.int p3), .val (.int p4), .val (.long ta), .second, .val (.int ca0), .val (.int ka), .val (.long tb), .second, .val (.int cb), .val (.int ka), .val (.ref b_57), .val (.ref b_63), .val (.int ex), .val (.ref b__74), .val (.int (own_eq ta ca0 ka tb cb ka)), .val (.int (own_eq tb cb ka ta ca0 ka)), .unset, .unset, .unset, .unset] [(.ref b_57), (.ref b_57)]))
    obtain ⟨cq_87, kq_87, q_87a, q_87b, q_87c⟩ := isOf hZ e_86 f_85
    obtain ⟨_, T_87, Lc_87, X_87, hQ_87, st_87⟩ := own_un X_86 (Q := Q6 Z b_57 b_57 ta ca0 ka ta ca0 ka T_74.heap n0) (rc := 0) (rs := 0) (W := fun v B => Steps p.tables e below (T_86.setTop (mkF m 177 #[.val (.long q1), .second, .val (.int p1), .val (.int p2), .val (.long q2), .second, .val (.int p3), .val (.int p4), .val (.long ta), .second, .val (.int ca0), .val (.int ka), .val (.long tb), .second, .val (.int cb), .val (.int ka), .val (.ref b_57), .val (.ref b_63), .val (.int ex), .val (.ref b__74), .val (.int (own_eq ta ca0 ka tb cb ka)), .val (.int (own_eq tb cb ka ta ca0 ka)), .unset, .unset, .unset, .unset] [(.ref b_57), (.ref b_57)])) (B.setTop { (mkF m 177 #[.val (.long q1), .second, .val (.int p1), .val (.int p2), .val (.long q2), .second, .val (.int p3), .val (.int p4), .val (.long ta), .second, .val (.int ca0), .val (.int ka), .val (.long tb), .second, .val (.int cb), .val (.int ka), .val (.ref b_57), .val (.ref b_63), .val (.int ex), .val (.ref b__74), .val (.int (own_eq ta ca0 ka tb cb ka)), .val (.int (own_eq tb cb ka ta ca0 ka)), .unset, .unset, .unset, .unset] [(.ref b_57), (.ref b_57)]) with pc := 180, stack := v.toList ++ [] })) <| X_86.virtualBack hx (y := (⟨"com/example/heartwood/heartwood/Revision", "equals", "(Ljava/lang/Object;)Z"⟩ : MethodName)) (z := (⟨"com/example/heartwood/heartwood/Revision", "equals", "(Ljava/lang/Object;)Z"⟩ : MethodName)) hown (mvT hZ (hw _ (List.mem_of_getElem? (i := 34) rfl))) (mvT hZ (hw _ (List.mem_of_getElem? (i := 35) rfl))) (notFace_of_selects (args := #[]) (mvT hZ (hw _ (List.mem_of_getElem? (i := 37) rfl)))) (mvT hZ (hw _ (List.mem_of_getElem? (i := 37) rfl))) (mvT hZ (hw _ (List.mem_of_getElem? (i := 36) rfl))) (by decide) (backOf (W := 0) (rm6 l Z a0 hw [] b_57 b_57 ta ca0 ka ta ca0 ka T_74.heap n0 z_75 f_85 f_79 f_80 f_81 f_79 f_80 f_81) hZ (hw _ (List.mem_of_getElem? (i := 38) rfl)) (hw _ (List.mem_of_getElem? (i := 8) rfl)) (by decide) (by decide)) q_87a q_87c (g := (mkF m 177 #[.val (.long q1), .second, .val (.int p1), .val (.int p2), .val (.long q2), .second, .val (.int p3), .val (.int p4), .val (.long ta), .second, .val (.int ca0), .val (.int ka), .val (.long tb), .second, .val (.int cb), .val (.int ka), .val (.ref b_57), .val (.ref b_63), .val (.int ex), .val (.ref b__74), .val (.int (own_eq ta ca0 ka tb cb ka)), .val (.int (own_eq tb cb ka ta ca0 ka)), .unset, .unset, .unset, .unset] [(.ref b_57), (.ref b_57)])) rfl (by rw [hml]; rfl) (Steps.refl _) (argsL := [(.ref b_57)]) (rest := []) (lenOf pd_6 rfl) rfl (by show 2 * 0 + _ ≤ _; exact Nat.le_of_eq rfl) (hb hby at_177) (fun _ _ => ⟨rfl, e_86, (by decide : 3 + 0 ≤ _), (by decide : 7 + 0 ≤ _)⟩)
    obtain ⟨rfl, N_87q, e_87⟩ := hQ_87
    have N_87 := Fr.app N_86 N_87q
    refine OGo.to (fun _ k => st_87.trans k) ?_
    show OGo p e below _ (T_87.setTop (mkF m 180 #[.val (.long q1), .second, .val (.int p1), .val (.int p2), .val (.long q2), .second, .val (.int p3), .val (.int p4), .val (.long ta), .second, .val (.int ca0), .val (.int ka), .val (.long tb), .second, .val (.int cb), .val (.int ka), .val (.ref b_57), .val (.ref b_63), .val (.int ex), .val (.ref b__74), .val (.int (own_eq ta ca0 ka tb cb ka)), .val (.int (own_eq tb cb ka ta ca0 ka)), .unset, .unset, .unset, .unset] [(.int (own_eq ta ca0 ka ta ca0 ka))]))
    refine OGo.to (fun _ k => XS.istore X_87.here hx rfl (hb hby at_180) rfl (l' := #[.val (.long q1), .second, .val (.int p1), .val (.int p2), .val (.long q2), .second, .val (.int p3), .val (.int p4), .val (.long ta), .second, .val (.int ca0), .val (.int ka), .val (.long tb), .second, .val (.int cb), .val (.int ka), .val (.ref b_57), .val (.ref b_63), .val (.int ex), .val (.ref b__74), .val (.int (own_eq ta ca0 ka tb cb ka)), .val (.int (own_eq tb cb ka ta ca0 ka)), .val (.int (own_eq ta ca0 ka ta ca0 ka)), .unset, .unset, .unset]) rfl k) ?_
    show OGo p e below _ (T_87.setTop (mkF m 182 #[.val (.long q1), .second, .val (.int p1), .val (.int p2), .val (.long q2), .second, .val (.int p3), .val (.int p4), .val (.long ta), .second, .val (.int ca0), .val (.int ka), .val (.long tb), .second, .val (.int cb), .val (.int ka), .val (.ref b_57), .val (.ref b_63), .val (.int ex), .val (.ref b__74), .val (.int (own_eq ta ca0 ka tb cb ka)), .val (.int (own_eq tb cb ka ta ca0 ka)), .val (.int (own_eq ta ca0 ka ta ca0 ka)), .unset, .unset, .unset] []))
    refine OGo.to (fun _ k => XS.aload X_87.here hx rfl (hb hby at_182) rfl rfl k) ?_
    show OGo p e below _ (T_87.setTop (mkF m 184 #[.val (.long q1), .second, .val (.int p1), .val (.int p2), .val (.long q2), .second, .val (.int p3), .val (.int p4), .val (.long ta), .second, .val (.int ca0), .val (.int ka), .val (.long tb), .second, .val (.int cb), .val (.int ka), .val (.ref b_57), .val (.ref b_63), .val (.int ex), .val (.ref b__74), .val (.int (own_eq ta ca0 ka tb cb ka)), .val (.int (own_eq tb cb ka ta ca0 ka)), .val (.int (own_eq ta ca0 ka ta ca0 ka)), .unset, .unset, .unset] [(.ref b_57)]))
    refine OGo.to (fun _ k => XS.aconstNull X_87.here hx rfl (hb hby at_184) k) ?_
    show OGo p e below _ (T_87.setTop (mkF m 185 #[.val (.long q1), .second, .val (.int p1), .val (.int p2), .val (.long q2), .second, .val (.int p3), .val (.int p4), .val (.long ta), .second, .val (.int ca0), .val (.int ka), .val (.long tb), .second, .val (.int cb), .val (.int ka), .val (.ref b_57), .val (.ref b_63), .val (.int ex), .val (.ref b__74), .val (.int (own_eq ta ca0 ka tb cb ka)), .val (.int (own_eq tb cb ka ta ca0 ka)), .val (.int (own_eq ta ca0 ka ta ca0 ka)), .unset, .unset, .unset] [.null, (.ref b_57)]))
    obtain ⟨cq_88, kq_88, q_88a, q_88b, q_88c⟩ := isOf hZ e_87 f_85
    obtain ⟨_, T_88, Lc_88, X_88, hQ_88, st_88⟩ := own_un X_87 (Q := QeqN Z b_57 T_74.heap n0) (rc := 0) (rs := 0) (W := fun v B => Steps p.tables e below (T_87.setTop (mkF m 185 #[.val (.long q1), .second, .val (.int p1), .val (.int p2), .val (.long q2), .second, .val (.int p3), .val (.int p4), .val (.long ta), .second, .val (.int ca0), .val (.int ka), .val (.long tb), .second, .val (.int cb), .val (.int ka), .val (.ref b_57), .val (.ref b_63), .val (.int ex), .val (.ref b__74), .val (.int (own_eq ta ca0 ka tb cb ka)), .val (.int (own_eq tb cb ka ta ca0 ka)), .val (.int (own_eq ta ca0 ka ta ca0 ka)), .unset, .unset, .unset] [.null, (.ref b_57)])) (B.setTop { (mkF m 185 #[.val (.long q1), .second, .val (.int p1), .val (.int p2), .val (.long q2), .second, .val (.int p3), .val (.int p4), .val (.long ta), .second, .val (.int ca0), .val (.int ka), .val (.long tb), .second, .val (.int cb), .val (.int ka), .val (.ref b_57), .val (.ref b_63), .val (.int ex), .val (.ref b__74), .val (.int (own_eq ta ca0 ka tb cb ka)), .val (.int (own_eq tb cb ka ta ca0 ka)), .val (.int (own_eq ta ca0 ka ta ca0 ka)), .unset, .unset, .unset] [.null, (.ref b_57)]) with pc := 188, stack := v.toList ++ [] })) <| X_87.virtualBack hx (y := (⟨"com/example/heartwood/heartwood/Revision", "equals", "(Ljava/lang/Object;)Z"⟩ : MethodName)) (z := (⟨"com/example/heartwood/heartwood/Revision", "equals", "(Ljava/lang/Object;)Z"⟩ : MethodName)) hown (mvT hZ (hw _ (List.mem_of_getElem? (i := 34) rfl))) (mvT hZ (hw _ (List.mem_of_getElem? (i := 35) rfl))) (notFace_of_selects (args := #[]) (mvT hZ (hw _ (List.mem_of_getElem? (i := 37) rfl)))) (mvT hZ (hw _ (List.mem_of_getElem? (i := 37) rfl))) (mvT hZ (hw _ (List.mem_of_getElem? (i := 36) rfl))) (by decide) (backOf (W := 0) (rmeqN l Z a0 hw [] b_57 T_74.heap n0 z_75 ) hZ (hw _ (List.mem_of_getElem? (i := 38) rfl)) (hw _ (List.mem_of_getElem? (i := 8) rfl)) (by decide) (by decide)) q_88a q_88c (g := (mkF m 185 #[.val (.long q1), .second, .val (.int p1), .val (.int p2), .val (.long q2), .second, .val (.int p3), .val (.int p4), .val (.long ta), .second, .val (.int ca0), .val (.int ka), .val (.long tb), .second, .val (.int cb), .val (.int ka), .val (.ref b_57), .val (.ref b_63), .val (.int ex), .val (.ref b__74), .val (.int (own_eq ta ca0 ka tb cb ka)), .val (.int (own_eq tb cb ka ta ca0 ka)), .val (.int (own_eq ta ca0 ka ta ca0 ka)), .unset, .unset, .unset] [.null, (.ref b_57)])) rfl (by rw [hml]; rfl) (Steps.refl _) (argsL := [.null]) (rest := []) (lenOf pd_6 rfl) rfl (by show 2 * 0 + _ ≤ _; exact Nat.le_of_eq rfl) (hb hby at_185) (fun _ _ => ⟨rfl, e_87, (by decide : 3 + 0 ≤ _), (by decide : 7 + 0 ≤ _)⟩)
    obtain ⟨rfl, N_88q, e_88⟩ := hQ_88
    have N_88 := Fr.app N_87 N_88q
    refine OGo.to (fun _ k => st_88.trans k) ?_
    show OGo p e below _ (T_88.setTop (mkF m 188 #[.val (.long q1), .second, .val (.int p1), .val (.int p2), .val (.long q2), .second, .val (.int p3), .val (.int p4), .val (.long ta), .second, .val (.int ca0), .val (.int ka), .val (.long tb), .second, .val (.int cb), .val (.int ka), .val (.ref b_57), .val (.ref b_63), .val (.int ex), .val (.ref b__74), .val (.int (own_eq ta ca0 ka tb cb ka)), .val (.int (own_eq tb cb ka ta ca0 ka)), .val (.int (own_eq ta ca0 ka ta ca0 ka)), .unset, .unset, .unset] [(.int (0 : Int32))]))
    refine OGo.to (fun _ k => XS.istore X_88.here hx rfl (hb hby at_188) rfl (l' := #[.val (.long q1), .second, .val (.int p1), .val (.int p2), .val (.long q2), .second, .val (.int p3), .val (.int p4), .val (.long ta), .second, .val (.int ca0), .val (.int ka), .val (.long tb), .second, .val (.int cb), .val (.int ka), .val (.ref b_57), .val (.ref b_63), .val (.int ex), .val (.ref b__74), .val (.int (own_eq ta ca0 ka tb cb ka)), .val (.int (own_eq tb cb ka ta ca0 ka)), .val (.int (own_eq ta ca0 ka ta ca0 ka)), .val (.int (0 : Int32)), .unset, .unset]) rfl k) ?_
    show OGo p e below _ (T_88.setTop (mkF m 190 #[.val (.long q1), .second, .val (.int p1), .val (.int p2), .val (.long q2), .second, .val (.int p3), .val (.int p4), .val (.long ta), .second, .val (.int ca0), .val (.int ka), .val (.long tb), .second, .val (.int cb), .val (.int ka), .val (.ref b_57), .val (.ref b_63), .val (.int ex), .val (.ref b__74), .val (.int (own_eq ta ca0 ka tb cb ka)), .val (.int (own_eq tb cb ka ta ca0 ka)), .val (.int (own_eq ta ca0 ka ta ca0 ka)), .val (.int (0 : Int32)), .unset, .unset] []))
    refine OGo.to (fun _ k => XS.aload X_88.here hx rfl (hb hby at_190) rfl rfl k) ?_
    show OGo p e below _ (T_88.setTop (mkF m 192 #[.val (.long q1), .second, .val (.int p1), .val (.int p2), .val (.long q2), .second, .val (.int p3), .val (.int p4), .val (.long ta), .second, .val (.int ca0), .val (.int ka), .val (.long tb), .second, .val (.int cb), .val (.int ka), .val (.ref b_57), .val (.ref b_63), .val (.int ex), .val (.ref b__74), .val (.int (own_eq ta ca0 ka tb cb ka)), .val (.int (own_eq tb cb ka ta ca0 ka)), .val (.int (own_eq ta ca0 ka ta ca0 ka)), .val (.int (0 : Int32)), .unset, .unset] [(.ref b_57)]))
    refine OGo.to (fun _ k => XS.aload X_88.here hx rfl (hb hby at_192) rfl rfl k) ?_
    show OGo p e below _ (T_88.setTop (mkF m 194 #[.val (.long q1), .second, .val (.int p1), .val (.int p2), .val (.long q2), .second, .val (.int p3), .val (.int p4), .val (.long ta), .second, .val (.int ca0), .val (.int ka), .val (.long tb), .second, .val (.int cb), .val (.int ka), .val (.ref b_57), .val (.ref b_63), .val (.int ex), .val (.ref b__74), .val (.int (own_eq ta ca0 ka tb cb ka)), .val (.int (own_eq tb cb ka ta ca0 ka)), .val (.int (own_eq ta ca0 ka ta ca0 ka)), .val (.int (0 : Int32)), .unset, .unset] [(.ref b__74), (.ref b_57)]))
    obtain ⟨cq_89, kq_89, q_89a, q_89b, q_89c⟩ := isOf hZ e_88 f_85
    obtain ⟨_, T_89, Lc_89, X_89, hQ_89, st_89⟩ := own_un X_88 (Q := QeqL Z b_57 b__74 T_74.heap n0) (rc := 0) (rs := 0) (W := fun v B => Steps p.tables e below (T_88.setTop (mkF m 194 #[.val (.long q1), .second, .val (.int p1), .val (.int p2), .val (.long q2), .second, .val (.int p3), .val (.int p4), .val (.long ta), .second, .val (.int ca0), .val (.int ka), .val (.long tb), .second, .val (.int cb), .val (.int ka), .val (.ref b_57), .val (.ref b_63), .val (.int ex), .val (.ref b__74), .val (.int (own_eq ta ca0 ka tb cb ka)), .val (.int (own_eq tb cb ka ta ca0 ka)), .val (.int (own_eq ta ca0 ka ta ca0 ka)), .val (.int (0 : Int32)), .unset, .unset] [(.ref b__74), (.ref b_57)])) (B.setTop { (mkF m 194 #[.val (.long q1), .second, .val (.int p1), .val (.int p2), .val (.long q2), .second, .val (.int p3), .val (.int p4), .val (.long ta), .second, .val (.int ca0), .val (.int ka), .val (.long tb), .second, .val (.int cb), .val (.int ka), .val (.ref b_57), .val (.ref b_63), .val (.int ex), .val (.ref b__74), .val (.int (own_eq ta ca0 ka tb cb ka)), .val (.int (own_eq tb cb ka ta ca0 ka)), .val (.int (own_eq ta ca0 ka ta ca0 ka)), .val (.int (0 : Int32)), .unset, .unset] [(.ref b__74), (.ref b_57)]) with pc := 197, stack := v.toList ++ [] })) <| X_88.virtualBack hx (y := (⟨"com/example/heartwood/heartwood/Revision", "equals", "(Ljava/lang/Object;)Z"⟩ : MethodName)) (z := (⟨"com/example/heartwood/heartwood/Revision", "equals", "(Ljava/lang/Object;)Z"⟩ : MethodName)) hown (mvT hZ (hw _ (List.mem_of_getElem? (i := 34) rfl))) (mvT hZ (hw _ (List.mem_of_getElem? (i := 35) rfl))) (notFace_of_selects (args := #[]) (mvT hZ (hw _ (List.mem_of_getElem? (i := 37) rfl)))) (mvT hZ (hw _ (List.mem_of_getElem? (i := 37) rfl))) (mvT hZ (hw _ (List.mem_of_getElem? (i := 36) rfl))) (by decide) (backOf (W := 0) (rmeqL l Z a0 hw [] b_57 b__74 T_74.heap n0 z_75 p_74_0) hZ (hw _ (List.mem_of_getElem? (i := 38) rfl)) (hw _ (List.mem_of_getElem? (i := 8) rfl)) (by decide) (by decide)) q_89a q_89c (g := (mkF m 194 #[.val (.long q1), .second, .val (.int p1), .val (.int p2), .val (.long q2), .second, .val (.int p3), .val (.int p4), .val (.long ta), .second, .val (.int ca0), .val (.int ka), .val (.long tb), .second, .val (.int cb), .val (.int ka), .val (.ref b_57), .val (.ref b_63), .val (.int ex), .val (.ref b__74), .val (.int (own_eq ta ca0 ka tb cb ka)), .val (.int (own_eq tb cb ka ta ca0 ka)), .val (.int (own_eq ta ca0 ka ta ca0 ka)), .val (.int (0 : Int32)), .unset, .unset] [(.ref b__74), (.ref b_57)])) rfl (by rw [hml]; rfl) (Steps.refl _) (argsL := [(.ref b__74)]) (rest := []) (lenOf pd_6 rfl) rfl (by show 2 * 0 + _ ≤ _; exact Nat.le_of_eq rfl) (hb hby at_194) (fun _ _ => ⟨rfl, e_88, (by decide : 3 + 0 ≤ _), (by decide : 7 + 0 ≤ _)⟩)
    obtain ⟨rfl, N_89q, e_89⟩ := hQ_89
    have N_89 := Fr.app N_88 N_89q
    refine OGo.to (fun _ k => st_89.trans k) ?_
    show OGo p e below _ (T_89.setTop (mkF m 197 #[.val (.long q1), .second, .val (.int p1), .val (.int p2), .val (.long q2), .second, .val (.int p3), .val (.int p4), .val (.long ta), .second, .val (.int ca0), .val (.int ka), .val (.long tb), .second, .val (.int cb), .val (.int ka), .val (.ref b_57), .val (.ref b_63), .val (.int ex), .val (.ref b__74), .val (.int (own_eq ta ca0 ka tb cb ka)), .val (.int (own_eq tb cb ka ta ca0 ka)), .val (.int (own_eq ta ca0 ka ta ca0 ka)), .val (.int (0 : Int32)), .unset, .unset] [(.int (0 : Int32))]))
    refine OGo.to (fun _ k => XS.istore X_89.here hx rfl (hb hby at_197) rfl (l' := #[.val (.long q1), .second, .val (.int p1), .val (.int p2), .val (.long q2), .second, .val (.int p3), .val (.int p4), .val (.long ta), .second, .val (.int ca0), .val (.int ka), .val (.long tb), .second, .val (.int cb), .val (.int ka), .val (.ref b_57), .val (.ref b_63), .val (.int ex), .val (.ref b__74), .val (.int (own_eq ta ca0 ka tb cb ka)), .val (.int (own_eq tb cb ka ta ca0 ka)), .val (.int (own_eq ta ca0 ka ta ca0 ka)), .val (.int (0 : Int32)), .val (.int (0 : Int32)), .unset]) rfl k) ?_
    show OGo p e below _ (T_89.setTop (mkF m 199 #[.val (.long q1), .second, .val (.int p1), .val (.int p2), .val (.long q2), .second, .val (.int p3), .val (.int p4), .val (.long ta), .second, .val (.int ca0), .val (.int ka), .val (.long tb), .second, .val (.int cb), .val (.int ka), .val (.ref b_57), .val (.ref b_63), .val (.int ex), .val (.ref b__74), .val (.int (own_eq ta ca0 ka tb cb ka)), .val (.int (own_eq tb cb ka ta ca0 ka)), .val (.int (own_eq ta ca0 ka ta ca0 ka)), .val (.int (0 : Int32)), .val (.int (0 : Int32)), .unset] []))
    refine OGo.to (fun _ k => XS.iload X_89.here hx rfl (hb hby at_199) rfl k) ?_
    show OGo p e below _ (T_89.setTop (mkF m 201 #[.val (.long q1), .second, .val (.int p1), .val (.int p2), .val (.long q2), .second, .val (.int p3), .val (.int p4), .val (.long ta), .second, .val (.int ca0), .val (.int ka), .val (.long tb), .second, .val (.int cb), .val (.int ka), .val (.ref b_57), .val (.ref b_63), .val (.int ex), .val (.ref b__74), .val (.int (own_eq ta ca0 ka tb cb ka)), .val (.int (own_eq tb cb ka ta ca0 ka)), .val (.int (own_eq ta ca0 ka ta ca0 ka)), .val (.int (0 : Int32)), .val (.int (0 : Int32)), .unset] [(.int ex)]))
    by_cases hc201__90 : ex = (0 : Int32)
    ·  -- pc 201: yes
      refine OGo.to (fun _ k => XS.ifYes X_89.here hx rfl (pc0 := 201) (pc' := 217) rfl (hb hby at_201) rfl ((if0 _ _).trans (teq hc201__90).1) (by decide) (by decide) k) ?_
      show OGo p e below _ (T_89.setTop (mkF m 217 #[.val (.long q1), .second, .val (.int p1), .val (.int p2), .val (.long q2), .second, .val (.int p3), .val (.int p4), .val (.long ta), .second, .val (.int ca0), .val (.int ka), .val (.long tb), .second, .val (.int cb), .val (.int ka), .val (.ref b_57), .val (.ref b_63), .val (.int ex), .val (.ref b__74), .val (.int (own_eq ta ca0 ka tb cb ka)), .val (.int (own_eq tb cb ka ta ca0 ka)), .val (.int (own_eq ta ca0 ka ta ca0 ka)), .val (.int (0 : Int32)), .val (.int (0 : Int32)), .unset] []))
      refine OGo.to (fun _ k => XS.iconst X_89.here hx rfl (hb hby at_217) k) ?_
      show OGo p e below _ (T_89.setTop (mkF m 218 #[.val (.long q1), .second, .val (.int p1), .val (.int p2), .val (.long q2), .second, .val (.int p3), .val (.int p4), .val (.long ta), .second, .val (.int ca0), .val (.int ka), .val (.long tb), .second, .val (.int cb), .val (.int ka), .val (.ref b_57), .val (.ref b_63), .val (.int ex), .val (.ref b__74), .val (.int (own_eq ta ca0 ka tb cb ka)), .val (.int (own_eq tb cb ka ta ca0 ka)), .val (.int (own_eq ta ca0 ka ta ca0 ka)), .val (.int (0 : Int32)), .val (.int (0 : Int32)), .unset] [(.int (1 : Int32))]))
      refine OGo.to (fun _ k => XS.goto X_89.here hx rfl (pc0 := 218) (pc' := 222) rfl (hb hby at_218) (by decide) (by decide) k) ?_
      show OGo p e below _ (T_89.setTop (mkF m 222 #[.val (.long q1), .second, .val (.int p1), .val (.int p2), .val (.long q2), .second, .val (.int p3), .val (.int p4), .val (.long ta), .second, .val (.int ca0), .val (.int ka), .val (.long tb), .second, .val (.int cb), .val (.int ka), .val (.ref b_57), .val (.ref b_63), .val (.int ex), .val (.ref b__74), .val (.int (own_eq ta ca0 ka tb cb ka)), .val (.int (own_eq tb cb ka ta ca0 ka)), .val (.int (own_eq ta ca0 ka ta ca0 ka)), .val (.int (0 : Int32)), .val (.int (0 : Int32)), .unset] [(.int (1 : Int32))]))
      refine OGo.to (fun _ k => XS.istore X_89.here hx rfl (hb hby at_222) rfl (l' := #[.val (.long q1), .second, .val (.int p1), .val (.int p2), .val (.long q2), .second, .val (.int p3), .val (.int p4), .val (.long ta), .second, .val (.int ca0), .val (.int ka), .val (.long tb), .second, .val (.int cb), .val (.int ka), .val (.ref b_57), .val (.ref b_63), .val (.int ex), .val (.ref b__74), .val (.int (own_eq ta ca0 ka tb cb ka)), .val (.int (own_eq tb cb ka ta ca0 ka)), .val (.int (own_eq ta ca0 ka ta ca0 ka)), .val (.int (0 : Int32)), .val (.int (0 : Int32)), .val (.int (1 : Int32))]) rfl k) ?_
      show OGo p e below _ (T_89.setTop (mkF m 224 #[.val (.long q1), .second, .val (.int p1), .val (.int p2), .val (.long q2), .second, .val (.int p3), .val (.int p4), .val (.long ta), .second, .val (.int ca0), .val (.int ka), .val (.long tb), .second, .val (.int cb), .val (.int ka), .val (.ref b_57), .val (.ref b_63), .val (.int ex), .val (.ref b__74), .val (.int (own_eq ta ca0 ka tb cb ka)), .val (.int (own_eq tb cb ka ta ca0 ka)), .val (.int (own_eq ta ca0 ka ta ca0 ka)), .val (.int (0 : Int32)), .val (.int (0 : Int32)), .val (.int (1 : Int32))] []))
      refine OGo.to (fun _ k => XS.iload X_89.here hx rfl (hb hby at_224) rfl k) ?_
      show OGo p e below _ (T_89.setTop (mkF m 226 #[.val (.long q1), .second, .val (.int p1), .val (.int p2), .val (.long q2), .second, .val (.int p3), .val (.int p4), .val (.long ta), .second, .val (.int ca0), .val (.int ka), .val (.long tb), .second, .val (.int cb), .val (.int ka), .val (.ref b_57), .val (.ref b_63), .val (.int ex), .val (.ref b__74), .val (.int (own_eq ta ca0 ka tb cb ka)), .val (.int (own_eq tb cb ka ta ca0 ka)), .val (.int (own_eq ta ca0 ka ta ca0 ka)), .val (.int (0 : Int32)), .val (.int (0 : Int32)), .val (.int (1 : Int32))] [(.int (own_eq ta ca0 ka tb cb ka))]))
      refine OGo.to (fun _ k => XS.iload X_89.here hx rfl (hb hby at_226) rfl k) ?_
      show OGo p e below _ (T_89.setTop (mkF m 228 #[.val (.long q1), .second, .val (.int p1), .val (.int p2), .val (.long q2), .second, .val (.int p3), .val (.int p4), .val (.long ta), .second, .val (.int ca0), .val (.int ka), .val (.long tb), .second, .val (.int cb), .val (.int ka), .val (.ref b_57), .val (.ref b_63), .val (.int ex), .val (.ref b__74), .val (.int (own_eq ta ca0 ka tb cb ka)), .val (.int (own_eq tb cb ka ta ca0 ka)), .val (.int (own_eq ta ca0 ka ta ca0 ka)), .val (.int (0 : Int32)), .val (.int (0 : Int32)), .val (.int (1 : Int32))] [(.int ex), (.int (own_eq ta ca0 ka tb cb ka))]))
      have hc228__91 : (own_eq ta ca0 ka tb cb ka) = ex := (own_eq_kk _ _ _ _ _).trans hv_ex.symm
      refine OGo.to (fun _ k => XS.icmpNo X_89.here hx rfl (hb hby at_228) rfl (teq hc228__91).2 k) ?_
      show OGo p e below _ (T_89.setTop (mkF m 231 #[.val (.long q1), .second, .val (.int p1), .val (.int p2), .val (.long q2), .second, .val (.int p3), .val (.int p4), .val (.long ta), .second, .val (.int ca0), .val (.int ka), .val (.long tb), .second, .val (.int cb), .val (.int ka), .val (.ref b_57), .val (.ref b_63), .val (.int ex), .val (.ref b__74), .val (.int (own_eq ta ca0 ka tb cb ka)), .val (.int (own_eq tb cb ka ta ca0 ka)), .val (.int (own_eq ta ca0 ka ta ca0 ka)), .val (.int (0 : Int32)), .val (.int (0 : Int32)), .val (.int (1 : Int32))] []))
      refine OGo.to (fun _ k => XS.iload X_89.here hx rfl (hb hby at_231) rfl k) ?_
      show OGo p e below _ (T_89.setTop (mkF m 233 #[.val (.long q1), .second, .val (.int p1), .val (.int p2), .val (.long q2), .second, .val (.int p3), .val (.int p4), .val (.long ta), .second, .val (.int ca0), .val (.int ka), .val (.long tb), .second, .val (.int cb), .val (.int ka), .val (.ref b_57), .val (.ref b_63), .val (.int ex), .val (.ref b__74), .val (.int (own_eq ta ca0 ka tb cb ka)), .val (.int (own_eq tb cb ka ta ca0 ka)), .val (.int (own_eq ta ca0 ka ta ca0 ka)), .val (.int (0 : Int32)), .val (.int (0 : Int32)), .val (.int (1 : Int32))] [(.int (own_eq tb cb ka ta ca0 ka))]))
      refine OGo.to (fun _ k => XS.iload X_89.here hx rfl (hb hby at_233) rfl k) ?_
      show OGo p e below _ (T_89.setTop (mkF m 235 #[.val (.long q1), .second, .val (.int p1), .val (.int p2), .val (.long q2), .second, .val (.int p3), .val (.int p4), .val (.long ta), .second, .val (.int ca0), .val (.int ka), .val (.long tb), .second, .val (.int cb), .val (.int ka), .val (.ref b_57), .val (.ref b_63), .val (.int ex), .val (.ref b__74), .val (.int (own_eq ta ca0 ka tb cb ka)), .val (.int (own_eq tb cb ka ta ca0 ka)), .val (.int (own_eq ta ca0 ka ta ca0 ka)), .val (.int (0 : Int32)), .val (.int (0 : Int32)), .val (.int (1 : Int32))] [(.int ex), (.int (own_eq tb cb ka ta ca0 ka))]))
      have hc235__92 : (own_eq tb cb ka ta ca0 ka) = ex := (own_eq_symm _ _ _ _ _ _).trans ((own_eq_kk _ _ _ _ _).trans hv_ex.symm)
      refine OGo.to (fun _ k => XS.icmpNo X_89.here hx rfl (hb hby at_235) rfl (teq hc235__92).2 k) ?_
      show OGo p e below _ (T_89.setTop (mkF m 238 #[.val (.long q1), .second, .val (.int p1), .val (.int p2), .val (.long q2), .second, .val (.int p3), .val (.int p4), .val (.long ta), .second, .val (.int ca0), .val (.int ka), .val (.long tb), .second, .val (.int cb), .val (.int ka), .val (.ref b_57), .val (.ref b_63), .val (.int ex), .val (.ref b__74), .val (.int (own_eq ta ca0 ka tb cb ka)), .val (.int (own_eq tb cb ka ta ca0 ka)), .val (.int (own_eq ta ca0 ka ta ca0 ka)), .val (.int (0 : Int32)), .val (.int (0 : Int32)), .val (.int (1 : Int32))] []))
      refine OGo.to (fun _ k => XS.iload X_89.here hx rfl (hb hby at_238) rfl k) ?_
      show OGo p e below _ (T_89.setTop (mkF m 240 #[.val (.long q1), .second, .val (.int p1), .val (.int p2), .val (.long q2), .second, .val (.int p3), .val (.int p4), .val (.long ta), .second, .val (.int ca0), .val (.int ka), .val (.long tb), .second, .val (.int cb), .val (.int ka), .val (.ref b_57), .val (.ref b_63), .val (.int ex), .val (.ref b__74), .val (.int (own_eq ta ca0 ka tb cb ka)), .val (.int (own_eq tb cb ka ta ca0 ka)), .val (.int (own_eq ta ca0 ka ta ca0 ka)), .val (.int (0 : Int32)), .val (.int (0 : Int32)), .val (.int (1 : Int32))] [(.int (own_eq ta ca0 ka ta ca0 ka))]))
      have hc240__93 : ¬ ((own_eq ta ca0 ka ta ca0 ka) = (0 : Int32)) := own_eq_self _ _ _
      refine OGo.to (fun _ k => XS.ifNo X_89.here hx rfl (hb hby at_240) rfl ((if0 _ _).trans (feq hc240__93).1) k) ?_
      show OGo p e below _ (T_89.setTop (mkF m 243 #[.val (.long q1), .second, .val (.int p1), .val (.int p2), .val (.long q2), .second, .val (.int p3), .val (.int p4), .val (.long ta), .second, .val (.int ca0), .val (.int ka), .val (.long tb), .second, .val (.int cb), .val (.int ka), .val (.ref b_57), .val (.ref b_63), .val (.int ex), .val (.ref b__74), .val (.int (own_eq ta ca0 ka tb cb ka)), .val (.int (own_eq tb cb ka ta ca0 ka)), .val (.int (own_eq ta ca0 ka ta ca0 ka)), .val (.int (0 : Int32)), .val (.int (0 : Int32)), .val (.int (1 : Int32))] []))
      refine OGo.to (fun _ k => XS.iload X_89.here hx rfl (hb hby at_243) rfl k) ?_
      show OGo p e below _ (T_89.setTop (mkF m 245 #[.val (.long q1), .second, .val (.int p1), .val (.int p2), .val (.long q2), .second, .val (.int p3), .val (.int p4), .val (.long ta), .second, .val (.int ca0), .val (.int ka), .val (.long tb), .second, .val (.int cb), .val (.int ka), .val (.ref b_57), .val (.ref b_63), .val (.int ex), .val (.ref b__74), .val (.int (own_eq ta ca0 ka tb cb ka)), .val (.int (own_eq tb cb ka ta ca0 ka)), .val (.int (own_eq ta ca0 ka ta ca0 ka)), .val (.int (0 : Int32)), .val (.int (0 : Int32)), .val (.int (1 : Int32))] [(.int (0 : Int32))]))
      have hc245__94 : (0 : Int32) = (0 : Int32) := by decide
      refine OGo.to (fun _ k => XS.ifNo X_89.here hx rfl (hb hby at_245) rfl ((if0 _ _).trans (teq hc245__94).2) k) ?_
      show OGo p e below _ (T_89.setTop (mkF m 248 #[.val (.long q1), .second, .val (.int p1), .val (.int p2), .val (.long q2), .second, .val (.int p3), .val (.int p4), .val (.long ta), .second, .val (.int ca0), .val (.int ka), .val (.long tb), .second, .val (.int cb), .val (.int ka), .val (.ref b_57), .val (.ref b_63), .val (.int ex), .val (.ref b__74), .val (.int (own_eq ta ca0 ka tb cb ka)), .val (.int (own_eq tb cb ka ta ca0 ka)), .val (.int (own_eq ta ca0 ka ta ca0 ka)), .val (.int (0 : Int32)), .val (.int (0 : Int32)), .val (.int (1 : Int32))] []))
      refine OGo.to (fun _ k => XS.iload X_89.here hx rfl (hb hby at_248) rfl k) ?_
      show OGo p e below _ (T_89.setTop (mkF m 250 #[.val (.long q1), .second, .val (.int p1), .val (.int p2), .val (.long q2), .second, .val (.int p3), .val (.int p4), .val (.long ta), .second, .val (.int ca0), .val (.int ka), .val (.long tb), .second, .val (.int cb), .val (.int ka), .val (.ref b_57), .val (.ref b_63), .val (.int ex), .val (.ref b__74), .val (.int (own_eq ta ca0 ka tb cb ka)), .val (.int (own_eq tb cb ka ta ca0 ka)), .val (.int (own_eq ta ca0 ka ta ca0 ka)), .val (.int (0 : Int32)), .val (.int (0 : Int32)), .val (.int (1 : Int32))] [(.int (0 : Int32))]))
      have hc250__95 : (0 : Int32) = (0 : Int32) := by decide
      refine OGo.to (fun _ k => XS.ifNo X_89.here hx rfl (hb hby at_250) rfl ((if0 _ _).trans (teq hc250__95).2) k) ?_
      show OGo p e below _ (T_89.setTop (mkF m 253 #[.val (.long q1), .second, .val (.int p1), .val (.int p2), .val (.long q2), .second, .val (.int p3), .val (.int p4), .val (.long ta), .second, .val (.int ca0), .val (.int ka), .val (.long tb), .second, .val (.int cb), .val (.int ka), .val (.ref b_57), .val (.ref b_63), .val (.int ex), .val (.ref b__74), .val (.int (own_eq ta ca0 ka tb cb ka)), .val (.int (own_eq tb cb ka ta ca0 ka)), .val (.int (own_eq ta ca0 ka ta ca0 ka)), .val (.int (0 : Int32)), .val (.int (0 : Int32)), .val (.int (1 : Int32))] []))
      refine OGo.to (fun _ k => XS.iload X_89.here hx rfl (hb hby at_253) rfl k) ?_
      show OGo p e below _ (T_89.setTop (mkF m 255 #[.val (.long q1), .second, .val (.int p1), .val (.int p2), .val (.long q2), .second, .val (.int p3), .val (.int p4), .val (.long ta), .second, .val (.int ca0), .val (.int ka), .val (.long tb), .second, .val (.int cb), .val (.int ka), .val (.ref b_57), .val (.ref b_63), .val (.int ex), .val (.ref b__74), .val (.int (own_eq ta ca0 ka tb cb ka)), .val (.int (own_eq tb cb ka ta ca0 ka)), .val (.int (own_eq ta ca0 ka ta ca0 ka)), .val (.int (0 : Int32)), .val (.int (0 : Int32)), .val (.int (1 : Int32))] [(.int (1 : Int32))]))
      have hc255__96 : ¬ ((1 : Int32) = (0 : Int32)) := by decide
      refine OGo.to (fun _ k => XS.ifNo X_89.here hx rfl (hb hby at_255) rfl ((if0 _ _).trans (feq hc255__96).1) k) ?_
      show OGo p e below _ (T_89.setTop (mkF m 258 #[.val (.long q1), .second, .val (.int p1), .val (.int p2), .val (.long q2), .second, .val (.int p3), .val (.int p4), .val (.long ta), .second, .val (.int ca0), .val (.int ka), .val (.long tb), .second, .val (.int cb), .val (.int ka), .val (.ref b_57), .val (.ref b_63), .val (.int ex), .val (.ref b__74), .val (.int (own_eq ta ca0 ka tb cb ka)), .val (.int (own_eq tb cb ka ta ca0 ka)), .val (.int (own_eq ta ca0 ka ta ca0 ka)), .val (.int (0 : Int32)), .val (.int (0 : Int32)), .val (.int (1 : Int32))] []))
      refine OGo.to (fun _ k => XS.iconst X_89.here hx rfl (hb hby at_258) k) ?_
      show OGo p e below _ (T_89.setTop (mkF m 259 #[.val (.long q1), .second, .val (.int p1), .val (.int p2), .val (.long q2), .second, .val (.int p3), .val (.int p4), .val (.long ta), .second, .val (.int ca0), .val (.int ka), .val (.long tb), .second, .val (.int cb), .val (.int ka), .val (.ref b_57), .val (.ref b_63), .val (.int ex), .val (.ref b__74), .val (.int (own_eq ta ca0 ka tb cb ka)), .val (.int (own_eq tb cb ka ta ca0 ka)), .val (.int (own_eq ta ca0 ka ta ca0 ka)), .val (.int (0 : Int32)), .val (.int (0 : Int32)), .val (.int (1 : Int32))] [(.int (1 : Int32))]))
      refine OGo.to (fun _ k => XS.goto X_89.here hx rfl (pc0 := 259) (pc' := 263) rfl (hb hby at_259) (by decide) (by decide) k) ?_
      show OGo p e below _ (T_89.setTop (mkF m 263 #[.val (.long q1), .second, .val (.int p1), .val (.int p2), .val (.long q2), .second, .val (.int p3), .val (.int p4), .val (.long ta), .second, .val (.int ca0), .val (.int ka), .val (.long tb), .second, .val (.int cb), .val (.int ka), .val (.ref b_57), .val (.ref b_63), .val (.int ex), .val (.ref b__74), .val (.int (own_eq ta ca0 ka tb cb ka)), .val (.int (own_eq tb cb ka ta ca0 ka)), .val (.int (own_eq ta ca0 ka ta ca0 ka)), .val (.int (0 : Int32)), .val (.int (0 : Int32)), .val (.int (1 : Int32))] [(.int (1 : Int32))]))
      refine OGo.ret (Q := Q0 Z q1 p1 p2 q2 p3 p4 ca cl h0 n0) X_89 (some (.int (1 : Int32))) (fun h => by rw [Bd.returns] at h; cases h) Bd.notSynchronized (fun fs hr => retN X_89 hx (t := .boolean) (z := (1 : Int32)) Bd.returns (by simp) (hb hby at_263) hr) ?_ (by decide) (by decide)
      show Q0 Z q1 p1 p2 q2 p3 p4 ca cl h0 n0 _ T_89.heap _
      rw [e_89]
      exact ⟨rfl, N_89⟩
    ·  -- pc 201: no
      refine OGo.to (fun _ k => XS.ifNo X_89.here hx rfl (hb hby at_201) rfl ((if0 _ _).trans (feq hc201__90).1) k) ?_
      show OGo p e below _ (T_89.setTop (mkF m 204 #[.val (.long q1), .second, .val (.int p1), .val (.int p2), .val (.long q2), .second, .val (.int p3), .val (.int p4), .val (.long ta), .second, .val (.int ca0), .val (.int ka), .val (.long tb), .second, .val (.int cb), .val (.int ka), .val (.ref b_57), .val (.ref b_63), .val (.int ex), .val (.ref b__74), .val (.int (own_eq ta ca0 ka tb cb ka)), .val (.int (own_eq tb cb ka ta ca0 ka)), .val (.int (own_eq ta ca0 ka ta ca0 ka)), .val (.int (0 : Int32)), .val (.int (0 : Int32)), .unset] []))
      refine OGo.to (fun _ k => XS.aload X_89.here hx rfl (hb hby at_204) rfl rfl k) ?_
      show OGo p e below _ (T_89.setTop (mkF m 206 #[.val (.long q1), .second, .val (.int p1), .val (.int p2), .val (.long q2), .second, .val (.int p3), .val (.int p4), .val (.long ta), .second, .val (.int ca0), .val (.int ka), .val (.long tb), .second, .val (.int cb), .val (.int ka), .val (.ref b_57), .val (.ref b_63), .val (.int ex), .val (.ref b__74), .val (.int (own_eq ta ca0 ka tb cb ka)), .val (.int (own_eq tb cb ka ta ca0 ka)), .val (.int (own_eq ta ca0 ka ta ca0 ka)), .val (.int (0 : Int32)), .val (.int (0 : Int32)), .unset] [(.ref b_57)]))
      obtain ⟨cq_97, kq_97, q_97a, q_97b, q_97c⟩ := isOf hZ e_89 f_85
      obtain ⟨_, T_97, Lc_97, X_97, hQ_97, st_97⟩ := own_un X_89 (Q := Q7 Z b_57 ta ca0 ka T_74.heap n0) (rc := 0) (rs := 0) (W := fun v B => Steps p.tables e below (T_89.setTop (mkF m 206 #[.val (.long q1), .second, .val (.int p1), .val (.int p2), .val (.long q2), .second, .val (.int p3), .val (.int p4), .val (.long ta), .second, .val (.int ca0), .val (.int ka), .val (.long tb), .second, .val (.int cb), .val (.int ka), .val (.ref b_57), .val (.ref b_63), .val (.int ex), .val (.ref b__74), .val (.int (own_eq ta ca0 ka tb cb ka)), .val (.int (own_eq tb cb ka ta ca0 ka)), .val (.int (own_eq ta ca0 ka ta ca0 ka)), .val (.int (0 : Int32)), .val (.int (0 : Int32)), .unset] [(.ref b_57)])) (B.setTop { (mkF m 206 #[.val (.long q1), .second, .val (.int p1), .val (.int p2), .val (.long q2), .second, .val (.int p3), .val (.int p4), .val (.long ta), .second, .val (.int ca0), .val (.int ka), .val (.long tb), .second, .val (.int cb), .val (.int ka), .val (.ref b_57), .val (.ref b_63), .val (.int ex), .val (.ref b__74), .val (.int (own_eq ta ca0 ka tb cb ka)), .val (.int (own_eq tb cb ka ta ca0 ka)), .val (.int (own_eq ta ca0 ka ta ca0 ka)), .val (.int (0 : Int32)), .val (.int (0 : Int32)), .unset] [(.ref b_57)]) with pc := 209, stack := v.toList ++ [] })) <| X_89.virtualBack hx (y := (⟨"com/example/heartwood/heartwood/Revision", "hashCode", "()I"⟩ : MethodName)) (z := (⟨"com/example/heartwood/heartwood/Revision", "hashCode", "()I"⟩ : MethodName)) hown (mvT hZ (hw _ (List.mem_of_getElem? (i := 44) rfl))) (mvT hZ (hw _ (List.mem_of_getElem? (i := 45) rfl))) (notFace_of_selects (args := #[]) (mvT hZ (hw _ (List.mem_of_getElem? (i := 47) rfl)))) (mvT hZ (hw _ (List.mem_of_getElem? (i := 47) rfl))) (mvT hZ (hw _ (List.mem_of_getElem? (i := 46) rfl))) (by decide) (backOf (W := 0) (rm7 l Z a0 hw [] b_57 ta ca0 ka T_74.heap n0 z_75 f_79 f_80 f_81) hZ (hw _ (List.mem_of_getElem? (i := 48) rfl)) (hw _ (List.mem_of_getElem? (i := 8) rfl)) (by decide) (by decide)) q_97a q_97c (g := (mkF m 206 #[.val (.long q1), .second, .val (.int p1), .val (.int p2), .val (.long q2), .second, .val (.int p3), .val (.int p4), .val (.long ta), .second, .val (.int ca0), .val (.int ka), .val (.long tb), .second, .val (.int cb), .val (.int ka), .val (.ref b_57), .val (.ref b_63), .val (.int ex), .val (.ref b__74), .val (.int (own_eq ta ca0 ka tb cb ka)), .val (.int (own_eq tb cb ka ta ca0 ka)), .val (.int (own_eq ta ca0 ka ta ca0 ka)), .val (.int (0 : Int32)), .val (.int (0 : Int32)), .unset] [(.ref b_57)])) rfl (by rw [hml]; rfl) (Steps.refl _) (argsL := []) (rest := []) (lenOf pd_7 rfl) rfl (by show 2 * 0 + _ ≤ _; exact Nat.le_of_eq rfl) (hb hby at_206) (fun _ _ => ⟨rfl, e_89, (by decide : 3 + 0 ≤ _), (by decide : 7 + 0 ≤ _)⟩)
      obtain ⟨rfl, N_97q, e_97⟩ := hQ_97
      have N_97 := Fr.app N_89 N_97q
      refine OGo.to (fun _ k => st_97.trans k) ?_
      show OGo p e below _ (T_97.setTop (mkF m 209 #[.val (.long q1), .second, .val (.int p1), .val (.int p2), .val (.long q2), .second, .val (.int p3), .val (.int p4), .val (.long ta), .second, .val (.int ca0), .val (.int ka), .val (.long tb), .second, .val (.int cb), .val (.int ka), .val (.ref b_57), .val (.ref b_63), .val (.int ex), .val (.ref b__74), .val (.int (own_eq ta ca0 ka tb cb ka)), .val (.int (own_eq tb cb ka ta ca0 ka)), .val (.int (own_eq ta ca0 ka ta ca0 ka)), .val (.int (0 : Int32)), .val (.int (0 : Int32)), .unset] [(.int (own_h ta ca0 ka))]))
      refine OGo.to (fun _ k => XS.aload X_97.here hx rfl (hb hby at_209) rfl rfl k) ?_
      show OGo p e below _ (T_97.setTop (mkF m 211 #[.val (.long q1), .second, .val (.int p1), .val (.int p2), .val (.long q2), .second, .val (.int p3), .val (.int p4), .val (.long ta), .second, .val (.int ca0), .val (.int ka), .val (.long tb), .second, .val (.int cb), .val (.int ka), .val (.ref b_57), .val (.ref b_63), .val (.int ex), .val (.ref b__74), .val (.int (own_eq ta ca0 ka tb cb ka)), .val (.int (own_eq tb cb ka ta ca0 ka)), .val (.int (own_eq ta ca0 ka ta ca0 ka)), .val (.int (0 : Int32)), .val (.int (0 : Int32)), .unset] [(.ref b_63), (.int (own_h ta ca0 ka))]))
      obtain ⟨cq_98, kq_98, q_98a, q_98b, q_98c⟩ := isOf hZ e_97 f_78
      obtain ⟨_, T_98, Lc_98, X_98, hQ_98, st_98⟩ := own_un X_97 (Q := Q7 Z b_63 tb cb ka T_74.heap n0) (rc := 0) (rs := 0) (W := fun v B => Steps p.tables e below (T_97.setTop (mkF m 211 #[.val (.long q1), .second, .val (.int p1), .val (.int p2), .val (.long q2), .second, .val (.int p3), .val (.int p4), .val (.long ta), .second, .val (.int ca0), .val (.int ka), .val (.long tb), .second, .val (.int cb), .val (.int ka), .val (.ref b_57), .val (.ref b_63), .val (.int ex), .val (.ref b__74), .val (.int (own_eq ta ca0 ka tb cb ka)), .val (.int (own_eq tb cb ka ta ca0 ka)), .val (.int (own_eq ta ca0 ka ta ca0 ka)), .val (.int (0 : Int32)), .val (.int (0 : Int32)), .unset] [(.ref b_63), (.int (own_h ta ca0 ka))])) (B.setTop { (mkF m 211 #[.val (.long q1), .second, .val (.int p1), .val (.int p2), .val (.long q2), .second, .val (.int p3), .val (.int p4), .val (.long ta), .second, .val (.int ca0), .val (.int ka), .val (.long tb), .second, .val (.int cb), .val (.int ka), .val (.ref b_57), .val (.ref b_63), .val (.int ex), .val (.ref b__74), .val (.int (own_eq ta ca0 ka tb cb ka)), .val (.int (own_eq tb cb ka ta ca0 ka)), .val (.int (own_eq ta ca0 ka ta ca0 ka)), .val (.int (0 : Int32)), .val (.int (0 : Int32)), .unset] [(.ref b_63), (.int (own_h ta ca0 ka))]) with pc := 214, stack := v.toList ++ [(.int (own_h ta ca0 ka))] })) <| X_97.virtualBack hx (y := (⟨"com/example/heartwood/heartwood/Revision", "hashCode", "()I"⟩ : MethodName)) (z := (⟨"com/example/heartwood/heartwood/Revision", "hashCode", "()I"⟩ : MethodName)) hown (mvT hZ (hw _ (List.mem_of_getElem? (i := 44) rfl))) (mvT hZ (hw _ (List.mem_of_getElem? (i := 45) rfl))) (notFace_of_selects (args := #[]) (mvT hZ (hw _ (List.mem_of_getElem? (i := 47) rfl)))) (mvT hZ (hw _ (List.mem_of_getElem? (i := 47) rfl))) (mvT hZ (hw _ (List.mem_of_getElem? (i := 46) rfl))) (by decide) (backOf (W := 1) (rm7 l Z a0 hw [] b_63 tb cb ka T_74.heap n0 z_75 f_82 f_83 f_84) hZ (hw _ (List.mem_of_getElem? (i := 48) rfl)) (hw _ (List.mem_of_getElem? (i := 8) rfl)) (by decide) (by decide)) q_98a q_98c (g := (mkF m 211 #[.val (.long q1), .second, .val (.int p1), .val (.int p2), .val (.long q2), .second, .val (.int p3), .val (.int p4), .val (.long ta), .second, .val (.int ca0), .val (.int ka), .val (.long tb), .second, .val (.int cb), .val (.int ka), .val (.ref b_57), .val (.ref b_63), .val (.int ex), .val (.ref b__74), .val (.int (own_eq ta ca0 ka tb cb ka)), .val (.int (own_eq tb cb ka ta ca0 ka)), .val (.int (own_eq ta ca0 ka ta ca0 ka)), .val (.int (0 : Int32)), .val (.int (0 : Int32)), .unset] [(.ref b_63), (.int (own_h ta ca0 ka))])) rfl (by rw [hml]; rfl) (Steps.refl _) (argsL := []) (rest := [(.int (own_h ta ca0 ka))]) (lenOf pd_7 rfl) rfl (by show 2 * 0 + _ ≤ _; exact Nat.le_of_eq rfl) (hb hby at_211) (fun _ _ => ⟨rfl, e_97, (by decide : 3 + 0 ≤ _), (by decide : 7 + 0 ≤ _)⟩)
      obtain ⟨rfl, N_98q, e_98⟩ := hQ_98
      have N_98 := Fr.app N_97 N_98q
      refine OGo.to (fun _ k => st_98.trans k) ?_
      show OGo p e below _ (T_98.setTop (mkF m 214 #[.val (.long q1), .second, .val (.int p1), .val (.int p2), .val (.long q2), .second, .val (.int p3), .val (.int p4), .val (.long ta), .second, .val (.int ca0), .val (.int ka), .val (.long tb), .second, .val (.int cb), .val (.int ka), .val (.ref b_57), .val (.ref b_63), .val (.int ex), .val (.ref b__74), .val (.int (own_eq ta ca0 ka tb cb ka)), .val (.int (own_eq tb cb ka ta ca0 ka)), .val (.int (own_eq ta ca0 ka ta ca0 ka)), .val (.int (0 : Int32)), .val (.int (0 : Int32)), .unset] [(.int (own_h tb cb ka)), (.int (own_h ta ca0 ka))]))
      have hc214__99 : (own_h ta ca0 ka) = (own_h tb cb ka) := own_A (fun q => hc201__90 (hv_ex.trans ((own_eq_kk _ _ _ _ _).symm.trans q)))
      refine OGo.to (fun _ k => XS.icmpNo X_98.here hx rfl (hb hby at_214) rfl (teq hc214__99).2 k) ?_
      show OGo p e below _ (T_98.setTop (mkF m 217 #[.val (.long q1), .second, .val (.int p1), .val (.int p2), .val (.long q2), .second, .val (.int p3), .val (.int p4), .val (.long ta), .second, .val (.int ca0), .val (.int ka), .val (.long tb), .second, .val (.int cb), .val (.int ka), .val (.ref b_57), .val (.ref b_63), .val (.int ex), .val (.ref b__74), .val (.int (own_eq ta ca0 ka tb cb ka)), .val (.int (own_eq tb cb ka ta ca0 ka)), .val (.int (own_eq ta ca0 ka ta ca0 ka)), .val (.int (0 : Int32)), .val (.int (0 : Int32)), .unset] []))
      refine OGo.to (fun _ k => XS.iconst X_98.here hx rfl (hb hby at_217) k) ?_
      show OGo p e below _ (T_98.setTop (mkF m 218 #[.val (.long q1), .second, .val (.int p1), .val (.int p2), .val (.long q2), .second, .val (.int p3), .val (.int p4), .val (.long ta), .second, .val (.int ca0), .val (.int ka), .val (.long tb), .second, .val (.int cb), .val (.int ka), .val (.ref b_57), .val (.ref b_63), .val (.int ex), .val (.ref b__74), .val (.int (own_eq ta ca0 ka tb cb ka)), .val (.int (own_eq tb cb ka ta ca0 ka)), .val (.int (own_eq ta ca0 ka ta ca0 ka)), .val (.int (0 : Int32)), .val (.int (0 : Int32)), .unset] [(.int (1 : Int32))]))
      refine OGo.to (fun _ k => XS.goto X_98.here hx rfl (pc0 := 218) (pc' := 222) rfl (hb hby at_218) (by decide) (by decide) k) ?_
      show OGo p e below _ (T_98.setTop (mkF m 222 #[.val (.long q1), .second, .val (.int p1), .val (.int p2), .val (.long q2), .second, .val (.int p3), .val (.int p4), .val (.long ta), .second, .val (.int ca0), .val (.int ka), .val (.long tb), .second, .val (.int cb), .val (.int ka), .val (.ref b_57), .val (.ref b_63), .val (.int ex), .val (.ref b__74), .val (.int (own_eq ta ca0 ka tb cb ka)), .val (.int (own_eq tb cb ka ta ca0 ka)), .val (.int (own_eq ta ca0 ka ta ca0 ka)), .val (.int (0 : Int32)), .val (.int (0 : Int32)), .unset] [(.int (1 : Int32))]))
      refine OGo.to (fun _ k => XS.istore X_98.here hx rfl (hb hby at_222) rfl (l' := #[.val (.long q1), .second, .val (.int p1), .val (.int p2), .val (.long q2), .second, .val (.int p3), .val (.int p4), .val (.long ta), .second, .val (.int ca0), .val (.int ka), .val (.long tb), .second, .val (.int cb), .val (.int ka), .val (.ref b_57), .val (.ref b_63), .val (.int ex), .val (.ref b__74), .val (.int (own_eq ta ca0 ka tb cb ka)), .val (.int (own_eq tb cb ka ta ca0 ka)), .val (.int (own_eq ta ca0 ka ta ca0 ka)), .val (.int (0 : Int32)), .val (.int (0 : Int32)), .val (.int (1 : Int32))]) rfl k) ?_
      show OGo p e below _ (T_98.setTop (mkF m 224 #[.val (.long q1), .second, .val (.int p1), .val (.int p2), .val (.long q2), .second, .val (.int p3), .val (.int p4), .val (.long ta), .second, .val (.int ca0), .val (.int ka), .val (.long tb), .second, .val (.int cb), .val (.int ka), .val (.ref b_57), .val (.ref b_63), .val (.int ex), .val (.ref b__74), .val (.int (own_eq ta ca0 ka tb cb ka)), .val (.int (own_eq tb cb ka ta ca0 ka)), .val (.int (own_eq ta ca0 ka ta ca0 ka)), .val (.int (0 : Int32)), .val (.int (0 : Int32)), .val (.int (1 : Int32))] []))
      refine OGo.to (fun _ k => XS.iload X_98.here hx rfl (hb hby at_224) rfl k) ?_
      show OGo p e below _ (T_98.setTop (mkF m 226 #[.val (.long q1), .second, .val (.int p1), .val (.int p2), .val (.long q2), .second, .val (.int p3), .val (.int p4), .val (.long ta), .second, .val (.int ca0), .val (.int ka), .val (.long tb), .second, .val (.int cb), .val (.int ka), .val (.ref b_57), .val (.ref b_63), .val (.int ex), .val (.ref b__74), .val (.int (own_eq ta ca0 ka tb cb ka)), .val (.int (own_eq tb cb ka ta ca0 ka)), .val (.int (own_eq ta ca0 ka ta ca0 ka)), .val (.int (0 : Int32)), .val (.int (0 : Int32)), .val (.int (1 : Int32))] [(.int (own_eq ta ca0 ka tb cb ka))]))
      refine OGo.to (fun _ k => XS.iload X_98.here hx rfl (hb hby at_226) rfl k) ?_
      show OGo p e below _ (T_98.setTop (mkF m 228 #[.val (.long q1), .second, .val (.int p1), .val (.int p2), .val (.long q2), .second, .val (.int p3), .val (.int p4), .val (.long ta), .second, .val (.int ca0), .val (.int ka), .val (.long tb), .second, .val (.int cb), .val (.int ka), .val (.ref b_57), .val (.ref b_63), .val (.int ex), .val (.ref b__74), .val (.int (own_eq ta ca0 ka tb cb ka)), .val (.int (own_eq tb cb ka ta ca0 ka)), .val (.int (own_eq ta ca0 ka ta ca0 ka)), .val (.int (0 : Int32)), .val (.int (0 : Int32)), .val (.int (1 : Int32))] [(.int ex), (.int (own_eq ta ca0 ka tb cb ka))]))
      have hc228__100 : (own_eq ta ca0 ka tb cb ka) = ex := (own_eq_kk _ _ _ _ _).trans hv_ex.symm
      refine OGo.to (fun _ k => XS.icmpNo X_98.here hx rfl (hb hby at_228) rfl (teq hc228__100).2 k) ?_
      show OGo p e below _ (T_98.setTop (mkF m 231 #[.val (.long q1), .second, .val (.int p1), .val (.int p2), .val (.long q2), .second, .val (.int p3), .val (.int p4), .val (.long ta), .second, .val (.int ca0), .val (.int ka), .val (.long tb), .second, .val (.int cb), .val (.int ka), .val (.ref b_57), .val (.ref b_63), .val (.int ex), .val (.ref b__74), .val (.int (own_eq ta ca0 ka tb cb ka)), .val (.int (own_eq tb cb ka ta ca0 ka)), .val (.int (own_eq ta ca0 ka ta ca0 ka)), .val (.int (0 : Int32)), .val (.int (0 : Int32)), .val (.int (1 : Int32))] []))
      refine OGo.to (fun _ k => XS.iload X_98.here hx rfl (hb hby at_231) rfl k) ?_
      show OGo p e below _ (T_98.setTop (mkF m 233 #[.val (.long q1), .second, .val (.int p1), .val (.int p2), .val (.long q2), .second, .val (.int p3), .val (.int p4), .val (.long ta), .second, .val (.int ca0), .val (.int ka), .val (.long tb), .second, .val (.int cb), .val (.int ka), .val (.ref b_57), .val (.ref b_63), .val (.int ex), .val (.ref b__74), .val (.int (own_eq ta ca0 ka tb cb ka)), .val (.int (own_eq tb cb ka ta ca0 ka)), .val (.int (own_eq ta ca0 ka ta ca0 ka)), .val (.int (0 : Int32)), .val (.int (0 : Int32)), .val (.int (1 : Int32))] [(.int (own_eq tb cb ka ta ca0 ka))]))
      refine OGo.to (fun _ k => XS.iload X_98.here hx rfl (hb hby at_233) rfl k) ?_
      show OGo p e below _ (T_98.setTop (mkF m 235 #[.val (.long q1), .second, .val (.int p1), .val (.int p2), .val (.long q2), .second, .val (.int p3), .val (.int p4), .val (.long ta), .second, .val (.int ca0), .val (.int ka), .val (.long tb), .second, .val (.int cb), .val (.int ka), .val (.ref b_57), .val (.ref b_63), .val (.int ex), .val (.ref b__74), .val (.int (own_eq ta ca0 ka tb cb ka)), .val (.int (own_eq tb cb ka ta ca0 ka)), .val (.int (own_eq ta ca0 ka ta ca0 ka)), .val (.int (0 : Int32)), .val (.int (0 : Int32)), .val (.int (1 : Int32))] [(.int ex), (.int (own_eq tb cb ka ta ca0 ka))]))
      have hc235__101 : (own_eq tb cb ka ta ca0 ka) = ex := (own_eq_symm _ _ _ _ _ _).trans ((own_eq_kk _ _ _ _ _).trans hv_ex.symm)
      refine OGo.to (fun _ k => XS.icmpNo X_98.here hx rfl (hb hby at_235) rfl (teq hc235__101).2 k) ?_
      show OGo p e below _ (T_98.setTop (mkF m 238 #[.val (.long q1), .second, .val (.int p1), .val (.int p2), .val (.long q2), .second, .val (.int p3), .val (.int p4), .val (.long ta), .second, .val (.int ca0), .val (.int ka), .val (.long tb), .second, .val (.int cb), .val (.int ka), .val (.ref b_57), .val (.ref b_63), .val (.int ex), .val (.ref b__74), .val (.int (own_eq ta ca0 ka tb cb ka)), .val (.int (own_eq tb cb ka ta ca0 ka)), .val (.int (own_eq ta ca0 ka ta ca0 ka)), .val (.int (0 : Int32)), .val (.int (0 : Int32)), .val (.int (1 : Int32))] []))
      refine OGo.to (fun _ k => XS.iload X_98.here hx rfl (hb hby at_238) rfl k) ?_
      show OGo p e below _ (T_98.setTop (mkF m 240 #[.val (.long q1), .second, .val (.int p1), .val (.int p2), .val (.long q2), .second, .val (.int p3), .val (.int p4), .val (.long ta), .second, .val (.int ca0), .val (.int ka), .val (.long tb), .second, .val (.int cb), .val (.int ka), .val (.ref b_57), .val (.ref b_63), .val (.int ex), .val (.ref b__74), .val (.int (own_eq ta ca0 ka tb cb ka)), .val (.int (own_eq tb cb ka ta ca0 ka)), .val (.int (own_eq ta ca0 ka ta ca0 ka)), .val (.int (0 : Int32)), .val (.int (0 : Int32)), .val (.int (1 : Int32))] [(.int (own_eq ta ca0 ka ta ca0 ka))]))
      have hc240__102 : ¬ ((own_eq ta ca0 ka ta ca0 ka) = (0 : Int32)) := own_eq_self _ _ _
      refine OGo.to (fun _ k => XS.ifNo X_98.here hx rfl (hb hby at_240) rfl ((if0 _ _).trans (feq hc240__102).1) k) ?_
      show OGo p e below _ (T_98.setTop (mkF m 243 #[.val (.long q1), .second, .val (.int p1), .val (.int p2), .val (.long q2), .second, .val (.int p3), .val (.int p4), .val (.long ta), .second, .val (.int ca0), .val (.int ka), .val (.long tb), .second, .val (.int cb), .val (.int ka), .val (.ref b_57), .val (.ref b_63), .val (.int ex), .val (.ref b__74), .val (.int (own_eq ta ca0 ka tb cb ka)), .val (.int (own_eq tb cb ka ta ca0 ka)), .val (.int (own_eq ta ca0 ka ta ca0 ka)), .val (.int (0 : Int32)), .val (.int (0 : Int32)), .val (.int (1 : Int32))] []))
      refine OGo.to (fun _ k => XS.iload X_98.here hx rfl (hb hby at_243) rfl k) ?_
      show OGo p e below _ (T_98.setTop (mkF m 245 #[.val (.long q1), .second, .val (.int p1), .val (.int p2), .val (.long q2), .second, .val (.int p3), .val (.int p4), .val (.long ta), .second, .val (.int ca0), .val (.int ka), .val (.long tb), .second, .val (.int cb), .val (.int ka), .val (.ref b_57), .val (.ref b_63), .val (.int ex), .val (.ref b__74), .val (.int (own_eq ta ca0 ka tb cb ka)), .val (.int (own_eq tb cb ka ta ca0 ka)), .val (.int (own_eq ta ca0 ka ta ca0 ka)), .val (.int (0 : Int32)), .val (.int (0 : Int32)), .val (.int (1 : Int32))] [(.int (0 : Int32))]))
      have hc245__103 : (0 : Int32) = (0 : Int32) := by decide
      refine OGo.to (fun _ k => XS.ifNo X_98.here hx rfl (hb hby at_245) rfl ((if0 _ _).trans (teq hc245__103).2) k) ?_
      show OGo p e below _ (T_98.setTop (mkF m 248 #[.val (.long q1), .second, .val (.int p1), .val (.int p2), .val (.long q2), .second, .val (.int p3), .val (.int p4), .val (.long ta), .second, .val (.int ca0), .val (.int ka), .val (.long tb), .second, .val (.int cb), .val (.int ka), .val (.ref b_57), .val (.ref b_63), .val (.int ex), .val (.ref b__74), .val (.int (own_eq ta ca0 ka tb cb ka)), .val (.int (own_eq tb cb ka ta ca0 ka)), .val (.int (own_eq ta ca0 ka ta ca0 ka)), .val (.int (0 : Int32)), .val (.int (0 : Int32)), .val (.int (1 : Int32))] []))
      refine OGo.to (fun _ k => XS.iload X_98.here hx rfl (hb hby at_248) rfl k) ?_
      show OGo p e below _ (T_98.setTop (mkF m 250 #[.val (.long q1), .second, .val (.int p1), .val (.int p2), .val (.long q2), .second, .val (.int p3), .val (.int p4), .val (.long ta), .second, .val (.int ca0), .val (.int ka), .val (.long tb), .second, .val (.int cb), .val (.int ka), .val (.ref b_57), .val (.ref b_63), .val (.int ex), .val (.ref b__74), .val (.int (own_eq ta ca0 ka tb cb ka)), .val (.int (own_eq tb cb ka ta ca0 ka)), .val (.int (own_eq ta ca0 ka ta ca0 ka)), .val (.int (0 : Int32)), .val (.int (0 : Int32)), .val (.int (1 : Int32))] [(.int (0 : Int32))]))
      have hc250__104 : (0 : Int32) = (0 : Int32) := by decide
      refine OGo.to (fun _ k => XS.ifNo X_98.here hx rfl (hb hby at_250) rfl ((if0 _ _).trans (teq hc250__104).2) k) ?_
      show OGo p e below _ (T_98.setTop (mkF m 253 #[.val (.long q1), .second, .val (.int p1), .val (.int p2), .val (.long q2), .second, .val (.int p3), .val (.int p4), .val (.long ta), .second, .val (.int ca0), .val (.int ka), .val (.long tb), .second, .val (.int cb), .val (.int ka), .val (.ref b_57), .val (.ref b_63), .val (.int ex), .val (.ref b__74), .val (.int (own_eq ta ca0 ka tb cb ka)), .val (.int (own_eq tb cb ka ta ca0 ka)), .val (.int (own_eq ta ca0 ka ta ca0 ka)), .val (.int (0 : Int32)), .val (.int (0 : Int32)), .val (.int (1 : Int32))] []))
      refine OGo.to (fun _ k => XS.iload X_98.here hx rfl (hb hby at_253) rfl k) ?_
      show OGo p e below _ (T_98.setTop (mkF m 255 #[.val (.long q1), .second, .val (.int p1), .val (.int p2), .val (.long q2), .second, .val (.int p3), .val (.int p4), .val (.long ta), .second, .val (.int ca0), .val (.int ka), .val (.long tb), .second, .val (.int cb), .val (.int ka), .val (.ref b_57), .val (.ref b_63), .val (.int ex), .val (.ref b__74), .val (.int (own_eq ta ca0 ka tb cb ka)), .val (.int (own_eq tb cb ka ta ca0 ka)), .val (.int (own_eq ta ca0 ka ta ca0 ka)), .val (.int (0 : Int32)), .val (.int (0 : Int32)), .val (.int (1 : Int32))] [(.int (1 : Int32))]))
      have hc255__105 : ¬ ((1 : Int32) = (0 : Int32)) := by decide
      refine OGo.to (fun _ k => XS.ifNo X_98.here hx rfl (hb hby at_255) rfl ((if0 _ _).trans (feq hc255__105).1) k) ?_
      show OGo p e below _ (T_98.setTop (mkF m 258 #[.val (.long q1), .second, .val (.int p1), .val (.int p2), .val (.long q2), .second, .val (.int p3), .val (.int p4), .val (.long ta), .second, .val (.int ca0), .val (.int ka), .val (.long tb), .second, .val (.int cb), .val (.int ka), .val (.ref b_57), .val (.ref b_63), .val (.int ex), .val (.ref b__74), .val (.int (own_eq ta ca0 ka tb cb ka)), .val (.int (own_eq tb cb ka ta ca0 ka)), .val (.int (own_eq ta ca0 ka ta ca0 ka)), .val (.int (0 : Int32)), .val (.int (0 : Int32)), .val (.int (1 : Int32))] []))
      refine OGo.to (fun _ k => XS.iconst X_98.here hx rfl (hb hby at_258) k) ?_
      show OGo p e below _ (T_98.setTop (mkF m 259 #[.val (.long q1), .second, .val (.int p1), .val (.int p2), .val (.long q2), .second, .val (.int p3), .val (.int p4), .val (.long ta), .second, .val (.int ca0), .val (.int ka), .val (.long tb), .second, .val (.int cb), .val (.int ka), .val (.ref b_57), .val (.ref b_63), .val (.int ex), .val (.ref b__74), .val (.int (own_eq ta ca0 ka tb cb ka)), .val (.int (own_eq tb cb ka ta ca0 ka)), .val (.int (own_eq ta ca0 ka ta ca0 ka)), .val (.int (0 : Int32)), .val (.int (0 : Int32)), .val (.int (1 : Int32))] [(.int (1 : Int32))]))
      refine OGo.to (fun _ k => XS.goto X_98.here hx rfl (pc0 := 259) (pc' := 263) rfl (hb hby at_259) (by decide) (by decide) k) ?_
      show OGo p e below _ (T_98.setTop (mkF m 263 #[.val (.long q1), .second, .val (.int p1), .val (.int p2), .val (.long q2), .second, .val (.int p3), .val (.int p4), .val (.long ta), .second, .val (.int ca0), .val (.int ka), .val (.long tb), .second, .val (.int cb), .val (.int ka), .val (.ref b_57), .val (.ref b_63), .val (.int ex), .val (.ref b__74), .val (.int (own_eq ta ca0 ka tb cb ka)), .val (.int (own_eq tb cb ka ta ca0 ka)), .val (.int (own_eq ta ca0 ka ta ca0 ka)), .val (.int (0 : Int32)), .val (.int (0 : Int32)), .val (.int (1 : Int32))] [(.int (1 : Int32))]))
      refine OGo.ret (Q := Q0 Z q1 p1 p2 q2 p3 p4 ca cl h0 n0) X_98 (some (.int (1 : Int32))) (fun h => by rw [Bd.returns] at h; cases h) Bd.notSynchronized (fun fs hr => retN X_98 hx (t := .boolean) (z := (1 : Int32)) Bd.returns (by simp) (hb hby at_263) hr) ?_ (by decide) (by decide)
      show Q0 Z q1 p1 p2 q2 p3 p4 ca cl h0 n0 _ T_98.heap _
      rw [e_98]
      exact ⟨rfl, N_98⟩
set_option maxRecDepth 65536 in
set_option maxHeartbeats 40000000 in
theorem comes_1 {Post : Tables → Env → Array Value → State → Outcome → State → Prop} (hpost : ∀ tb e args s v u, (limb_1_1.after args s (.returned v) u = true ∧ limb_1_2.after args s (.returned v) u = true ∧ True) → FrameEnd s (.returned v) u (Jvm.fieldLocs frame_1_writes args s ++ Jvm.arrayLocs frame_1_arrays args s ++ Jvm.staticLocs frame_1_statics s) 16 128 → Post tb e args s (.returned v) u) :
    ArmFor flags0 classFile x code maxLocals ret World_1 tables_1 room_1 Calls_1 rest_1 Pre_1 Post := by
  intro l hfl _ _ p e ha hc hk s m args below hf hA hF happ hP
  obtain ⟨hcalls, hrest, hpre⟩ := hP
  obtain ⟨-, -, -, hnamed, -, -, -, hat⟩ := (Spec.applies_iff hf).mp happ
  obtain ⟨hg, hn⟩ := and_e (Cond.before_iff.mp (show (Jvm.Cond.and given_1 narrow_1).before args s = true from hpre))
  obtain ⟨g1, g2⟩ := and_e hg
  obtain ⟨g3, g4⟩ := and_e g2
  obtain ⟨g5, g6⟩ := and_e g4
  obtain ⟨g7, g8⟩ := and_e g6
  obtain ⟨g9, g10⟩ := and_e g8
  obtain ⟨g11, g12⟩ := and_e g10
  obtain ⟨w0, w1, w2, w3, w4, w5, rfl⟩ : ∃ w0 w1 w2 w3 w4 w5 : Value, args = #[w0, w1, w2, w3, w4, w5] := by
    have hs : args.size = 6 := by simpa [Cond.value, given_1] using g1
    obtain ⟨L⟩ := args
    match L, hs with
    | [w0, w1, w2, w3, w4, w5], _ => exact ⟨w0, w1, w2, w3, w4, w5, rfl⟩
  have hw := fun d (hd : d ∈ tables_1) => atoms_spec (ws := Jvm.Cond.code x code maxLocals ret :: tables_1) hat d (List.mem_cons_of_mem _ hd)
  have hfit : Fit s := fun {y c} hc i hi => by
    obtain ⟨ha, rfl⟩ := Array.getElem?_eq_some_iff.mp hc
    have q := List.all_eq_true.mp ((Array.all_eq_true_iff_forall_mem.mp hF) _ (Array.getElem_mem ha)) i (List.mem_range.mpr hi)
    simpa [Array.getElem?_eq_getElem hi] using q
  obtain ⟨hsets, hown0⟩ := atoms_of _ (rest_1_c_eq ▸ (show rest_1_c.before _ s = true from hrest))
  have hr0 := Cond.before_iff.mp hown0
  obtain ⟨i0, ei0⟩ := isL_v g3
  obtain rfl : w0 = (.long i0) := Option.some.inj ei0
  obtain ⟨i1, ei1⟩ := is_v g5
  obtain rfl : w1 = (.int i1) := Option.some.inj ei1
  obtain ⟨i2, ei2⟩ := is_v g7
  obtain rfl : w2 = (.int i2) := Option.some.inj ei2
  obtain ⟨i3, ei3⟩ := isL_v g9
  obtain rfl : w3 = (.long i3) := Option.some.inj ei3
  obtain ⟨i4, ei4⟩ := is_v g11
  obtain rfl : w4 = (.int i4) := Option.some.inj ei4
  obtain ⟨i5, ei5⟩ := is_v g12
  obtain rfl : w5 = (.int i5) := Option.some.inj ei5
  obtain ⟨ca, eca⟩ := arr_v (Cond.before_iff.mp (hsets _ (List.mem_of_getElem? (i := 2) rfl)))
  have S1 : Sta s s.heap "java/lang/Long$LongCache" "cache" "[Ljava/lang/Long;" (.ref ca) := Sta.start eca (Or.inl (hsets _ (List.mem_of_getElem? (i := 1) rfl)))
  obtain ⟨cl, AC⟩ := Arr.start eca (Cond.before_iff.mp (hsets _ (List.mem_of_getElem? (i := 2) rfl)))
  have HC := own_cacheOf eca AC (hsets _ (List.mem_of_getElem? (i := 4) rfl)) (hsets _ (List.mem_of_getElem? (i := 5) rfl))
  obtain ⟨n, o, h1, h2, h3, _, L, rfl, ⟨rfl, N⟩, hq⟩ := rm0 l s _ hw tables_1 i0 i1 i2 i3 i4 i5 ca cl s.heap s.heap.size (Nat.le_refl _) S1 (Old.start s) HC p e ha hc hk s m _ below hf ((Spec.applies_iff_loose hf).mp happ).1 ⟨rfl, State.Warmed39.refl s, rfl⟩ trivial
  refine ⟨n, _, h1, h2, h3, hpost _ _ _ _ _ _ ⟨Cond.after_iff.mpr rfl, Cond.after_iff.mpr (eq_i res_at (Term.int_eval (1)) rfl), trivial⟩ ⟨hq.1, hq.2.1, (hq.2.2.sift fun y hy => Or.inr (N y hy)).mono (by decide) (by decide)⟩⟩
theorem main_1_1 : Claimed_1_1 := comes_1 fun _ _ _ _ _ _ h hF => ⟨h.1, hF⟩
theorem main_1_2 : Claimed_1_2 := comes_1 fun _ _ _ _ _ _ h hF => ⟨h.2.1, hF⟩
end Jvm.Pilot.@@N@@
namespace Jvm.Pilot.@@N@@
open Jvm Jvm.ClassFile Sem Op Lib Jvm.Free Jvm.Stand Jvm.Pilot.@@N@@.Jvm.D
/-! MADE BY PROGRAM (witnessworld.py) out of the Statement's table words and the real class files: 18 classes; the members and pool entries that the words name. The judged class is class 1, her method 1. -/
namespace start1
open Jvm.ClassFile
def u (s : String) : CpInfo := .utf8 (stringToUtf16 s)
/-- a pool by its gaps: so many unusable entries, then the entry; so many at the end -/
def gap : Nat → List CpInfo → List CpInfo
  | 0, r => r
  | n + 1, r => .unusable :: gap n r
def poolList (es : List (Nat × CpInfo)) (last : Nat) : List CpInfo := es.foldr (fun e r => gap e.1 (e.2 :: r)) (gap last [])
def pool (es : List (Nat × CpInfo)) (last : Nat) : Array CpInfo := ⟨poolList es last⟩
def fileOf (pool : Array CpInfo) (this : Nat) (attrs : Array Attribute := #[]) (ms : Array MethodInfo := #[]) (fl : Nat := 33) (sup : Nat := 0) (ifs : Array Nat := #[]) (fds : Array FieldInfo := #[]) : ClassFile where
  minorVersion := 0
  majorVersion := 65
  constantPool := pool
  accessFlags := fl
  thisClass := this
  superClass := sup
  interfaces := ifs
  fields := fds
  methods := ms
  attributes := attrs
def plain (name : String) (sup : Option ClassId) : Class where
  name := name
  kind := .ordinary
  loader := none
  accessFlags := 33
  super := sup
  interfaces := #[]
  cf := none
  fields := #[]
  methods := #[]
  instanceTypes := #[]
  staticTypes := #[]
  resolved := #[]
  callSites := []
  init := .initialized
  statics := none
  mirror := none

def pool0 : Array CpInfo := pool [(5, u "<init>"), (0, u "()V"), (1, .class_ 10), (1, u "java/lang/Object")] 113

def k0c0 : Code := { maxStack := 0, maxLocals := 1, code := object_method_1_code, exceptionTable := #[], attributes := #[] }
def k0m0 : Method := { name := "<init>", desc := "()V", sig := { parameters := [], returnType := none }, accessFlags := 1, code := some k0c0 }
/-- java/lang/Object -/
def k0 : Class := { plain "java/lang/Object" none with
  accessFlags := 33
  interfaces := #[]
  cf := some (fileOf pool0 8 #[] #[{ accessFlags := 1, nameIndex := 5, descriptorIndex := 6, attributes := #[] }] 33 0 #[] #[])
  fields := #[]
  methods := #[k0m0]
  instanceTypes := #[]
  staticTypes := #[]
  resolved := Array.replicate 124 none
  statics := none }

def pool1 : Array CpInfo := pool [(2, .class_ 4), (1, u "java/lang/Object"), (0, u "<init>"), (0, u "()V"), (0, .class_ 8), (0, u "java/lang/Long"), (0, .long 9223372036854775807), (1, .integer 2147483647), (0, .methodref 13 14), (0, .class_ 15), (0, .nameAndType 16 17), (0, u "java/lang/Math"), (0, u "max"), (0, u "(II)I"), (0, .class_ 19), (0, u "com/example/heartwood/heartwood/Revision"), (0, .methodref 18 21), (0, .nameAndType 5 22), (0, u "(JII)V"), (0, .methodref 7 24), (0, .nameAndType 25 26), (0, u "valueOf"), (0, u "(J)Ljava/lang/Long;"), (0, .methodref 18 28), (0, .nameAndType 29 30), (0, u "equals"), (0, u "(Ljava/lang/Object;)Z"), (0, .methodref 18 32), (0, .nameAndType 33 34), (0, u "hashCode"), (0, u "()I"), (0, .class_ 36), (0, u "com/example/heartwood/heartwood/RevisionEqualsPinLaw"), (2, u "law"), (0, u "(JIIJII)Z")] 3

def k1m0 : Method := { name := "<init>", desc := "()V", sig := { parameters := [], returnType := none }, accessFlags := 1, code := none }
def k1c1 : Code := { maxStack := 6, maxLocals := 26, code := code, exceptionTable := #[], attributes := #[] }
def k1m1 : Method := { name := "law", desc := "(JIIJII)Z", sig := { parameters := [.long, .int, .int, .long, .int, .int], returnType := some .boolean }, accessFlags := 9, code := some k1c1 }
/-- com/example/heartwood/heartwood/RevisionEqualsPinLaw -/
def k1 : Class := { plain "com/example/heartwood/heartwood/RevisionEqualsPinLaw" (some 0) with
  accessFlags := 49
  interfaces := #[]
  cf := some (fileOf pool1 35 #[] #[{ accessFlags := 1, nameIndex := 5, descriptorIndex := 6, attributes := #[] }, { accessFlags := 9, nameIndex := 39, descriptorIndex := 40, attributes := #[] }] 49 2 #[] #[])
  fields := #[]
  methods := #[k1m0, k1m1]
  instanceTypes := #[]
  staticTypes := #[]
  resolved := Array.replicate 44 none
  statics := none }

def pool2 : Array CpInfo := pool [(1, .class_ 2), (0, u "java/lang/Math"), (1, .class_ 6), (1, u "java/lang/Object"), (0, u "<init>"), (0, u "()V"), (89, .class_ 100), (1, u "java/lang/Math$RandomNumberGeneratorHolder"), (71, u "negativeZeroFloatBits"), (0, u "J"), (2, u "negativeZeroDoubleBits"), (21, u "max"), (46, u "$assertionsDisabled"), (0, u "Z"), (88, u "(II)I"), (2, u "twoToTheDoubleScaleDown"), (0, u "D"), (4, u "twoToTheDoubleScaleUp"), (9, u "E"), (3, u "PI"), (2, u "TAU"), (2, u "DEGREES_TO_RADIANS"), (0, u "RADIANS_TO_DEGREES")] 94

def k2m0 : Method := { name := "<init>", desc := "()V", sig := { parameters := [], returnType := none }, accessFlags := 2, code := none }
def k2c1 : Code := { maxStack := 2, maxLocals := 2, code := jdk_29_method_65_code, exceptionTable := #[], attributes := #[] }
def k2m1 : Method := { name := "max", desc := "(II)I", sig := { parameters := [.int, .int], returnType := some .int }, accessFlags := 9, code := some k2c1 }
/-- java/lang/Math -/
def k2 : Class := { plain "java/lang/Math" (some 0) with
  accessFlags := 49
  interfaces := #[]
  cf := some (fileOf pool2 1 #[.nestMembers #[98]] #[{ accessFlags := 2, nameIndex := 7, descriptorIndex := 8, attributes := #[] }, { accessFlags := 9, nameIndex := 198, descriptorIndex := 335, attributes := #[] }] 49 4 #[] #[{ accessFlags := 25, nameIndex := 354, descriptorIndex := 339, attributes := #[] }, { accessFlags := 25, nameIndex := 358, descriptorIndex := 339, attributes := #[] }, { accessFlags := 25, nameIndex := 361, descriptorIndex := 339, attributes := #[] }, { accessFlags := 26, nameIndex := 364, descriptorIndex := 339, attributes := #[] }, { accessFlags := 26, nameIndex := 365, descriptorIndex := 339, attributes := #[] }, { accessFlags := 26, nameIndex := 172, descriptorIndex := 173, attributes := #[] }, { accessFlags := 26, nameIndex := 176, descriptorIndex := 173, attributes := #[] }, { accessFlags := 8, nameIndex := 344, descriptorIndex := 339, attributes := #[] }, { accessFlags := 8, nameIndex := 338, descriptorIndex := 339, attributes := #[] }, { accessFlags := 4120, nameIndex := 245, descriptorIndex := 246, attributes := #[] }])
  fields := #[{ name := "E", type := .double, accessFlags := 25, slot := 0, constantValue := 0 }, { name := "PI", type := .double, accessFlags := 25, slot := 1, constantValue := 0 }, { name := "TAU", type := .double, accessFlags := 25, slot := 2, constantValue := 0 }, { name := "DEGREES_TO_RADIANS", type := .double, accessFlags := 26, slot := 3, constantValue := 0 }, { name := "RADIANS_TO_DEGREES", type := .double, accessFlags := 26, slot := 4, constantValue := 0 }, { name := "negativeZeroFloatBits", type := .long, accessFlags := 26, slot := 5, constantValue := 0 }, { name := "negativeZeroDoubleBits", type := .long, accessFlags := 26, slot := 6, constantValue := 0 }, { name := "twoToTheDoubleScaleUp", type := .double, accessFlags := 8, slot := 7, constantValue := 0 }, { name := "twoToTheDoubleScaleDown", type := .double, accessFlags := 8, slot := 8, constantValue := 0 }, { name := "$assertionsDisabled", type := .boolean, accessFlags := 4120, slot := 9, constantValue := 0 }]
  methods := #[k2m0, k2m1]
  instanceTypes := #[]
  staticTypes := #[.double, .double, .double, .double, .double, .long, .long, .double, .double, .boolean]
  resolved := Array.replicate 460 none
  statics := none }

def pool3 : Array CpInfo := pool [(1, .methodref 2 3), (0, .class_ 4), (0, .nameAndType 5 6), (0, u "java/lang/Object"), (0, u "<init>"), (0, u "()V"), (0, .class_ 8), (0, u "java/lang/Record")] 13

def k3c0 : Code := { maxStack := 1, maxLocals := 1, code := jdk_30_method_1_code, exceptionTable := #[], attributes := #[] }
def k3m0 : Method := { name := "<init>", desc := "()V", sig := { parameters := [], returnType := none }, accessFlags := 4, code := some k3c0 }
/-- java/lang/Record -/
def k3 : Class := { plain "java/lang/Record" (some 0) with
  accessFlags := 1057
  interfaces := #[]
  cf := some (fileOf pool3 7 #[] #[{ accessFlags := 4, nameIndex := 5, descriptorIndex := 6, attributes := #[] }] 1057 2 #[] #[])
  fields := #[]
  methods := #[k3m0]
  instanceTypes := #[]
  staticTypes := #[]
  resolved := Array.replicate 22 none
  statics := none }

def pool4 : Array CpInfo := pool [(1, .class_ 2), (0, u "java/lang/Comparable"), (0, .class_ 4), (0, u "java/lang/Object")] 7

/-- java/lang/Comparable -/
def k4 : Class := { plain "java/lang/Comparable" (some 0) with
  accessFlags := 1537
  interfaces := #[]
  cf := some (fileOf pool4 1 #[] #[] 1537 3 #[] #[])
  fields := #[]
  methods := #[]
  instanceTypes := #[]
  staticTypes := #[]
  resolved := Array.replicate 12 none
  statics := none }

def pool5 : Array CpInfo := pool [(1, .methodref 2 3), (0, .class_ 4), (0, .nameAndType 5 6), (0, u "java/lang/Record"), (0, u "<init>"), (0, u "()V"), (9, .fieldref 17 18), (0, .class_ 19), (0, .nameAndType 20 21), (0, u "com/example/heartwood/heartwood/Revision"), (0, u "timestamp"), (0, u "J"), (0, .fieldref 17 23), (0, .nameAndType 24 25), (0, u "counter"), (0, u "I"), (0, .fieldref 17 27), (0, .nameAndType 28 25), (0, u "clusterId"), (30, .class_ 60), (0, u "java/lang/Long"), (12, u "(JII)V"), (7, .methodref 59 82), (0, .nameAndType 83 84), (0, u "hashCode"), (0, u "(J)I"), (20, u "()I"), (9, .class_ 116), (0, u "java/lang/Comparable"), (8, u "equals"), (0, u "(Ljava/lang/Object;)Z")] 30

def k5c0 : Code := { maxStack := 6, maxLocals := 5, code := prog_16_method_1_code, exceptionTable := #[], attributes := #[] }
def k5m0 : Method := { name := "<init>", desc := "(JII)V", sig := { parameters := [.long, .int, .int], returnType := none }, accessFlags := 1, code := some k5c0 }
def k5c1 : Code := { maxStack := 4, maxLocals := 3, code := prog_16_method_4_code, exceptionTable := #[], attributes := #[] }
def k5m1 : Method := { name := "equals", desc := "(Ljava/lang/Object;)Z", sig := { parameters := [(.object "java/lang/Object")], returnType := some .boolean }, accessFlags := 1, code := some k5c1 }
def k5c2 : Code := { maxStack := 2, maxLocals := 1, code := prog_16_method_5_code, exceptionTable := #[], attributes := #[] }
def k5m2 : Method := { name := "hashCode", desc := "()I", sig := { parameters := [], returnType := some .int }, accessFlags := 1, code := some k5c2 }
/-- com/example/heartwood/heartwood/Revision -/
def k5 : Class := { plain "com/example/heartwood/heartwood/Revision" (some 3) with
  accessFlags := 49
  interfaces := #[4]
  cf := some (fileOf pool5 17 #[] #[{ accessFlags := 1, nameIndex := 5, descriptorIndex := 73, attributes := #[] }, { accessFlags := 1, nameIndex := 125, descriptorIndex := 126, attributes := #[] }, { accessFlags := 1, nameIndex := 83, descriptorIndex := 105, attributes := #[] }] 49 2 #[115] #[{ accessFlags := 18, nameIndex := 20, descriptorIndex := 21, attributes := #[] }, { accessFlags := 18, nameIndex := 24, descriptorIndex := 25, attributes := #[] }, { accessFlags := 18, nameIndex := 28, descriptorIndex := 25, attributes := #[] }])
  fields := #[{ name := "timestamp", type := .long, accessFlags := 18, slot := 0, constantValue := 0 }, { name := "counter", type := .int, accessFlags := 18, slot := 1, constantValue := 0 }, { name := "clusterId", type := .int, accessFlags := 18, slot := 2, constantValue := 0 }]
  methods := #[k5m0, k5m1, k5m2]
  instanceTypes := #[.long, .int, .int]
  staticTypes := #[]
  resolved := Array.replicate 157 none
  statics := none }

def pool6 : Array CpInfo := pool [(1, .class_ 2), (0, u "java/io/Serializable"), (0, .class_ 4), (0, u "java/lang/Object")] 2

/-- java/io/Serializable -/
def k6 : Class := { plain "java/io/Serializable" (some 0) with
  accessFlags := 1537
  interfaces := #[]
  cf := some (fileOf pool6 1 #[] #[] 1537 3 #[] #[])
  fields := #[]
  methods := #[]
  instanceTypes := #[]
  staticTypes := #[]
  resolved := Array.replicate 7 none
  statics := none }

def pool7 : Array CpInfo := pool [(1, .methodref 2 3), (0, .class_ 4), (0, .nameAndType 5 6), (0, u "java/lang/Object"), (0, u "<init>"), (0, u "()V"), (1, .class_ 10), (1, u "java/lang/Number"), (2, .class_ 14), (0, u "java/io/Serializable"), (0, u "serialVersionUID"), (0, u "J")] 20

def k7c0 : Code := { maxStack := 1, maxLocals := 1, code := jdk_18_method_1_code, exceptionTable := #[], attributes := #[] }
def k7m0 : Method := { name := "<init>", desc := "()V", sig := { parameters := [], returnType := none }, accessFlags := 1, code := some k7c0 }
/-- java/lang/Number -/
def k7 : Class := { plain "java/lang/Number" (some 0) with
  accessFlags := 1057
  interfaces := #[6]
  cf := some (fileOf pool7 8 #[] #[{ accessFlags := 1, nameIndex := 5, descriptorIndex := 6, attributes := #[] }] 1057 2 #[13] #[{ accessFlags := 26, nameIndex := 15, descriptorIndex := 16, attributes := #[] }])
  fields := #[{ name := "serialVersionUID", type := .long, accessFlags := 26, slot := 0, constantValue := 0 }]
  methods := #[k7m0]
  instanceTypes := #[]
  staticTypes := #[.long]
  resolved := Array.replicate 37 none
  statics := none }

def pool8 : Array CpInfo := pool [(1, .class_ 2), (0, u "java/lang/constant/Constable"), (0, .class_ 4), (0, u "java/lang/Object")] 6

/-- java/lang/constant/Constable -/
def k8 : Class := { plain "java/lang/constant/Constable" (some 0) with
  accessFlags := 1537
  interfaces := #[]
  cf := some (fileOf pool8 1 #[] #[] 1537 3 #[] #[])
  fields := #[]
  methods := #[]
  instanceTypes := #[]
  staticTypes := #[]
  resolved := Array.replicate 11 none
  statics := none }

def pool9 : Array CpInfo := pool [(1, .class_ 2), (0, u "java/lang/constant/ConstantDesc"), (0, .class_ 4), (0, u "java/lang/Object")] 32

/-- java/lang/constant/ConstantDesc -/
def k9 : Class := { plain "java/lang/constant/ConstantDesc" (some 0) with
  accessFlags := 1537
  interfaces := #[]
  cf := some (fileOf pool9 1 #[] #[] 1537 3 #[] #[])
  fields := #[]
  methods := #[]
  instanceTypes := #[]
  staticTypes := #[]
  resolved := Array.replicate 37 none
  statics := none }

def pool10 : Array CpInfo := pool [(1, .class_ 2), (0, u "java/lang/Long"), (55, .nameAndType 59 60), (0, u "<init>"), (0, u "()V"), (24, u "valueOf"), (15, u "(J)I"), (127, u "(J)Ljava/lang/Long;"), (0, .long 18446744073709551488), (1, .long 127), (1, .fieldref 235 236), (0, .class_ 237), (0, .nameAndType 238 239), (0, u "java/lang/Long$LongCache"), (0, u "cache"), (0, u "[Ljava/lang/Long;"), (0, .methodref 1 241), (0, .nameAndType 59 242), (0, u "(J)V"), (27, .methodref 271 58), (0, .class_ 272), (0, u "java/lang/Number"), (0, .fieldref 1 274), (0, .nameAndType 275 276), (0, u "value"), (0, u "J"), (2, u "hashCode"), (81, u "TYPE"), (0, u "Ljava/lang/Class;"), (0, .class_ 364), (0, u "java/lang/Comparable"), (0, .class_ 366), (0, u "java/lang/constant/Constable"), (0, .class_ 368), (0, u "java/lang/constant/ConstantDesc"), (0, u "MIN_VALUE"), (1, u "MAX_VALUE"), (4, u "SIZE"), (0, u "I"), (1, u "BYTES"), (1, u "serialVersionUID")] 142

def k10c0 : Code := { maxStack := 4, maxLocals := 3, code := jdk_35_method_24_code, exceptionTable := #[], attributes := #[] }
def k10m0 : Method := { name := "valueOf", desc := "(J)Ljava/lang/Long;", sig := { parameters := [.long], returnType := some (.object "java/lang/Long") }, accessFlags := 9, code := some k10c0 }
def k10c1 : Code := { maxStack := 3, maxLocals := 3, code := jdk_35_method_26_code, exceptionTable := #[], attributes := #[] }
def k10m1 : Method := { name := "<init>", desc := "(J)V", sig := { parameters := [.long], returnType := none }, accessFlags := 1, code := some k10c1 }
def k10c2 : Code := { maxStack := 5, maxLocals := 2, code := jdk_35_method_36_code, exceptionTable := #[], attributes := #[] }
def k10m2 : Method := { name := "hashCode", desc := "(J)I", sig := { parameters := [.long], returnType := some .int }, accessFlags := 9, code := some k10c2 }
/-- java/lang/Long -/
def k10 : Class := { plain "java/lang/Long" (some 7) with
  accessFlags := 49
  interfaces := #[4, 8, 9]
  cf := some (fileOf pool10 1 #[.nestMembers #[235]] #[{ accessFlags := 9, nameIndex := 85, descriptorIndex := 229, attributes := #[] }, { accessFlags := 1, nameIndex := 59, descriptorIndex := 242, attributes := #[] }, { accessFlags := 9, nameIndex := 279, descriptorIndex := 101, attributes := #[] }] 49 271 #[363, 365, 367] #[{ accessFlags := 25, nameIndex := 369, descriptorIndex := 276, attributes := #[] }, { accessFlags := 25, nameIndex := 371, descriptorIndex := 276, attributes := #[] }, { accessFlags := 25, nameIndex := 361, descriptorIndex := 362, attributes := #[] }, { accessFlags := 18, nameIndex := 275, descriptorIndex := 276, attributes := #[] }, { accessFlags := 25, nameIndex := 376, descriptorIndex := 377, attributes := #[] }, { accessFlags := 25, nameIndex := 379, descriptorIndex := 377, attributes := #[] }, { accessFlags := 26, nameIndex := 381, descriptorIndex := 276, attributes := #[] }])
  fields := #[{ name := "MIN_VALUE", type := .long, accessFlags := 25, slot := 0, constantValue := 0 }, { name := "MAX_VALUE", type := .long, accessFlags := 25, slot := 1, constantValue := 0 }, { name := "TYPE", type := (.object "java/lang/Class"), accessFlags := 25, slot := 2, constantValue := 0 }, { name := "value", type := .long, accessFlags := 18, slot := 0, constantValue := 0 }, { name := "SIZE", type := .int, accessFlags := 25, slot := 3, constantValue := 0 }, { name := "BYTES", type := .int, accessFlags := 25, slot := 4, constantValue := 0 }, { name := "serialVersionUID", type := .long, accessFlags := 26, slot := 5, constantValue := 0 }]
  methods := #[k10m0, k10m1, k10m2]
  instanceTypes := #[.long]
  staticTypes := #[.long, .long, (.object "java/lang/Class"), .int, .int, .long]
  resolved := Array.replicate 524 none
  statics := none }

def pool11 : Array CpInfo := pool [(2, .class_ 4), (1, u "java/lang/Object"), (0, u "<init>"), (0, u "()V"), (0, .class_ 8), (0, u "java/lang/Long"), (7, .class_ 18), (1, u "java/lang/Long$LongCache"), (0, u "$assertionsDisabled"), (0, u "Z"), (8, u "archivedCache"), (0, u "[Ljava/lang/Long;"), (7, u "cache")] 24

def k11m0 : Method := { name := "<init>", desc := "()V", sig := { parameters := [], returnType := none }, accessFlags := 2, code := none }
/-- java/lang/Long$LongCache -/
def k11 : Class := { plain "java/lang/Long$LongCache" (some 0) with
  accessFlags := 48
  interfaces := #[]
  cf := some (fileOf pool11 16 #[.nestHost 7] #[{ accessFlags := 2, nameIndex := 5, descriptorIndex := 6, attributes := #[] }] 48 2 #[] #[{ accessFlags := 24, nameIndex := 38, descriptorIndex := 30, attributes := #[] }, { accessFlags := 8, nameIndex := 29, descriptorIndex := 30, attributes := #[] }, { accessFlags := 4120, nameIndex := 19, descriptorIndex := 20, attributes := #[] }])
  fields := #[{ name := "cache", type := (.array (.object "java/lang/Long")), accessFlags := 24, slot := 0, constantValue := 0 }, { name := "archivedCache", type := (.array (.object "java/lang/Long")), accessFlags := 8, slot := 1, constantValue := 0 }, { name := "$assertionsDisabled", type := .boolean, accessFlags := 4120, slot := 2, constantValue := 0 }]
  methods := #[k11m0]
  instanceTypes := #[]
  staticTypes := #[(.array (.object "java/lang/Long")), (.array (.object "java/lang/Long")), .boolean]
  resolved := Array.replicate 63 none
  statics := some 0 }

def pool12 : Array CpInfo := pool [(1, u "java/lang/Cloneable"), (0, .class_ 1), (0, u "java/lang/Object"), (0, .class_ 3)] 3

/-- java/lang/Cloneable -/
def k12 : Class := { plain "java/lang/Cloneable" (some 0) with
  accessFlags := 1537
  interfaces := #[]
  cf := some (fileOf pool12 2 #[] #[] 1537 4 #[] #[])
  fields := #[]
  methods := #[]
  instanceTypes := #[]
  staticTypes := #[]
  resolved := Array.replicate 8 none
  statics := none }

/-- the primitive byte -/
def k13 : Class := { plain "byte" none with kind := .primitive 'B', accessFlags := 0x411 }
/-- [B -/
def k14 : Class := { plain "[B" (some 0) with kind := .array 13 .byte, interfaces := #[12, 6], accessFlags := 1041 }

/-- the primitive int -/
def k15 : Class := { plain "int" none with kind := .primitive 'I', accessFlags := 0x411 }
/-- [I -/
def k16 : Class := { plain "[I" (some 0) with kind := .array 15 .int, interfaces := #[12, 6], accessFlags := 1041 }

/-- [Ljava/lang/Long; -/
def k17 : Class := { plain "[Ljava/lang/Long;" (some 0) with kind := .array 10 (.object "java/lang/Long"), interfaces := #[12, 6], accessFlags := 1041 }

def heap : Heap := #[{ cls := 11, slots := #[.ref 1, .null, .int 0], vm := .statics 11 },
  { cls := 17, slots := #[.ref 2, .ref 3, .ref 4, .ref 5, .ref 6, .ref 7, .ref 8, .ref 9, .ref 10, .ref 11, .ref 12, .ref 13, .ref 14, .ref 15, .ref 16, .ref 17, .ref 18, .ref 19, .ref 20, .ref 21, .ref 22, .ref 23, .ref 24, .ref 25, .ref 26, .ref 27, .ref 28, .ref 29, .ref 30, .ref 31, .ref 32, .ref 33, .ref 34, .ref 35, .ref 36, .ref 37, .ref 38, .ref 39, .ref 40, .ref 41, .ref 42, .ref 43, .ref 44, .ref 45, .ref 46, .ref 47, .ref 48, .ref 49, .ref 50, .ref 51, .ref 52, .ref 53, .ref 54, .ref 55, .ref 56, .ref 57, .ref 58, .ref 59, .ref 60, .ref 61, .ref 62, .ref 63, .ref 64, .ref 65, .ref 66, .ref 67, .ref 68, .ref 69, .ref 70, .ref 71, .ref 72, .ref 73, .ref 74, .ref 75, .ref 76, .ref 77, .ref 78, .ref 79, .ref 80, .ref 81, .ref 82, .ref 83, .ref 84, .ref 85, .ref 86, .ref 87, .ref 88, .ref 89, .ref 90, .ref 91, .ref 92, .ref 93, .ref 94, .ref 95, .ref 96, .ref 97, .ref 98, .ref 99, .ref 100, .ref 101, .ref 102, .ref 103, .ref 104, .ref 105, .ref 106, .ref 107, .ref 108, .ref 109, .ref 110, .ref 111, .ref 112, .ref 113, .ref 114, .ref 115, .ref 116, .ref 117, .ref 118, .ref 119, .ref 120, .ref 121, .ref 122, .ref 123, .ref 124, .ref 125, .ref 126, .ref 127, .ref 128, .ref 129, .ref 130, .ref 131, .ref 132, .ref 133, .ref 134, .ref 135, .ref 136, .ref 137, .ref 138, .ref 139, .ref 140, .ref 141, .ref 142, .ref 143, .ref 144, .ref 145, .ref 146, .ref 147, .ref 148, .ref 149, .ref 150, .ref 151, .ref 152, .ref 153, .ref 154, .ref 155, .ref 156, .ref 157, .ref 158, .ref 159, .ref 160, .ref 161, .ref 162, .ref 163, .ref 164, .ref 165, .ref 166, .ref 167, .ref 168, .ref 169, .ref 170, .ref 171, .ref 172, .ref 173, .ref 174, .ref 175, .ref 176, .ref 177, .ref 178, .ref 179, .ref 180, .ref 181, .ref 182, .ref 183, .ref 184, .ref 185, .ref 186, .ref 187, .ref 188, .ref 189, .ref 190, .ref 191, .ref 192, .ref 193, .ref 194, .ref 195, .ref 196, .ref 197, .ref 198, .ref 199, .ref 200, .ref 201, .ref 202, .ref 203, .ref 204, .ref 205, .ref 206, .ref 207, .ref 208, .ref 209, .ref 210, .ref 211, .ref 212, .ref 213, .ref 214, .ref 215, .ref 216, .ref 217, .ref 218, .ref 219, .ref 220, .ref 221, .ref 222, .ref 223, .ref 224, .ref 225, .ref 226, .ref 227, .ref 228, .ref 229, .ref 230, .ref 231, .ref 232, .ref 233, .ref 234, .ref 235, .ref 236, .ref 237, .ref 238, .ref 239, .ref 240, .ref 241, .ref 242, .ref 243, .ref 244, .ref 245, .ref 246, .ref 247, .ref 248, .ref 249, .ref 250, .ref 251, .ref 252, .ref 253, .ref 254, .ref 255, .ref 256, .ref 257], vm := .none },
  { cls := 10, slots := #[.long (-128)], vm := .none },
  { cls := 10, slots := #[.long (-127)], vm := .none },
  { cls := 10, slots := #[.long (-126)], vm := .none },
  { cls := 10, slots := #[.long (-125)], vm := .none },
  { cls := 10, slots := #[.long (-124)], vm := .none },
  { cls := 10, slots := #[.long (-123)], vm := .none },
  { cls := 10, slots := #[.long (-122)], vm := .none },
  { cls := 10, slots := #[.long (-121)], vm := .none },
  { cls := 10, slots := #[.long (-120)], vm := .none },
  { cls := 10, slots := #[.long (-119)], vm := .none },
  { cls := 10, slots := #[.long (-118)], vm := .none },
  { cls := 10, slots := #[.long (-117)], vm := .none },
  { cls := 10, slots := #[.long (-116)], vm := .none },
  { cls := 10, slots := #[.long (-115)], vm := .none },
  { cls := 10, slots := #[.long (-114)], vm := .none },
  { cls := 10, slots := #[.long (-113)], vm := .none },
  { cls := 10, slots := #[.long (-112)], vm := .none },
  { cls := 10, slots := #[.long (-111)], vm := .none },
  { cls := 10, slots := #[.long (-110)], vm := .none },
  { cls := 10, slots := #[.long (-109)], vm := .none },
  { cls := 10, slots := #[.long (-108)], vm := .none },
  { cls := 10, slots := #[.long (-107)], vm := .none },
  { cls := 10, slots := #[.long (-106)], vm := .none },
  { cls := 10, slots := #[.long (-105)], vm := .none },
  { cls := 10, slots := #[.long (-104)], vm := .none },
  { cls := 10, slots := #[.long (-103)], vm := .none },
  { cls := 10, slots := #[.long (-102)], vm := .none },
  { cls := 10, slots := #[.long (-101)], vm := .none },
  { cls := 10, slots := #[.long (-100)], vm := .none },
  { cls := 10, slots := #[.long (-99)], vm := .none },
  { cls := 10, slots := #[.long (-98)], vm := .none },
  { cls := 10, slots := #[.long (-97)], vm := .none },
  { cls := 10, slots := #[.long (-96)], vm := .none },
  { cls := 10, slots := #[.long (-95)], vm := .none },
  { cls := 10, slots := #[.long (-94)], vm := .none },
  { cls := 10, slots := #[.long (-93)], vm := .none },
  { cls := 10, slots := #[.long (-92)], vm := .none },
  { cls := 10, slots := #[.long (-91)], vm := .none },
  { cls := 10, slots := #[.long (-90)], vm := .none },
  { cls := 10, slots := #[.long (-89)], vm := .none },
  { cls := 10, slots := #[.long (-88)], vm := .none },
  { cls := 10, slots := #[.long (-87)], vm := .none },
  { cls := 10, slots := #[.long (-86)], vm := .none },
  { cls := 10, slots := #[.long (-85)], vm := .none },
  { cls := 10, slots := #[.long (-84)], vm := .none },
  { cls := 10, slots := #[.long (-83)], vm := .none },
  { cls := 10, slots := #[.long (-82)], vm := .none },
  { cls := 10, slots := #[.long (-81)], vm := .none },
  { cls := 10, slots := #[.long (-80)], vm := .none },
  { cls := 10, slots := #[.long (-79)], vm := .none },
  { cls := 10, slots := #[.long (-78)], vm := .none },
  { cls := 10, slots := #[.long (-77)], vm := .none },
  { cls := 10, slots := #[.long (-76)], vm := .none },
  { cls := 10, slots := #[.long (-75)], vm := .none },
  { cls := 10, slots := #[.long (-74)], vm := .none },
  { cls := 10, slots := #[.long (-73)], vm := .none },
  { cls := 10, slots := #[.long (-72)], vm := .none },
  { cls := 10, slots := #[.long (-71)], vm := .none },
  { cls := 10, slots := #[.long (-70)], vm := .none },
  { cls := 10, slots := #[.long (-69)], vm := .none },
  { cls := 10, slots := #[.long (-68)], vm := .none },
  { cls := 10, slots := #[.long (-67)], vm := .none },
  { cls := 10, slots := #[.long (-66)], vm := .none },
  { cls := 10, slots := #[.long (-65)], vm := .none },
  { cls := 10, slots := #[.long (-64)], vm := .none },
  { cls := 10, slots := #[.long (-63)], vm := .none },
  { cls := 10, slots := #[.long (-62)], vm := .none },
  { cls := 10, slots := #[.long (-61)], vm := .none },
  { cls := 10, slots := #[.long (-60)], vm := .none },
  { cls := 10, slots := #[.long (-59)], vm := .none },
  { cls := 10, slots := #[.long (-58)], vm := .none },
  { cls := 10, slots := #[.long (-57)], vm := .none },
  { cls := 10, slots := #[.long (-56)], vm := .none },
  { cls := 10, slots := #[.long (-55)], vm := .none },
  { cls := 10, slots := #[.long (-54)], vm := .none },
  { cls := 10, slots := #[.long (-53)], vm := .none },
  { cls := 10, slots := #[.long (-52)], vm := .none },
  { cls := 10, slots := #[.long (-51)], vm := .none },
  { cls := 10, slots := #[.long (-50)], vm := .none },
  { cls := 10, slots := #[.long (-49)], vm := .none },
  { cls := 10, slots := #[.long (-48)], vm := .none },
  { cls := 10, slots := #[.long (-47)], vm := .none },
  { cls := 10, slots := #[.long (-46)], vm := .none },
  { cls := 10, slots := #[.long (-45)], vm := .none },
  { cls := 10, slots := #[.long (-44)], vm := .none },
  { cls := 10, slots := #[.long (-43)], vm := .none },
  { cls := 10, slots := #[.long (-42)], vm := .none },
  { cls := 10, slots := #[.long (-41)], vm := .none },
  { cls := 10, slots := #[.long (-40)], vm := .none },
  { cls := 10, slots := #[.long (-39)], vm := .none },
  { cls := 10, slots := #[.long (-38)], vm := .none },
  { cls := 10, slots := #[.long (-37)], vm := .none },
  { cls := 10, slots := #[.long (-36)], vm := .none },
  { cls := 10, slots := #[.long (-35)], vm := .none },
  { cls := 10, slots := #[.long (-34)], vm := .none },
  { cls := 10, slots := #[.long (-33)], vm := .none },
  { cls := 10, slots := #[.long (-32)], vm := .none },
  { cls := 10, slots := #[.long (-31)], vm := .none },
  { cls := 10, slots := #[.long (-30)], vm := .none },
  { cls := 10, slots := #[.long (-29)], vm := .none },
  { cls := 10, slots := #[.long (-28)], vm := .none },
  { cls := 10, slots := #[.long (-27)], vm := .none },
  { cls := 10, slots := #[.long (-26)], vm := .none },
  { cls := 10, slots := #[.long (-25)], vm := .none },
  { cls := 10, slots := #[.long (-24)], vm := .none },
  { cls := 10, slots := #[.long (-23)], vm := .none },
  { cls := 10, slots := #[.long (-22)], vm := .none },
  { cls := 10, slots := #[.long (-21)], vm := .none },
  { cls := 10, slots := #[.long (-20)], vm := .none },
  { cls := 10, slots := #[.long (-19)], vm := .none },
  { cls := 10, slots := #[.long (-18)], vm := .none },
  { cls := 10, slots := #[.long (-17)], vm := .none },
  { cls := 10, slots := #[.long (-16)], vm := .none },
  { cls := 10, slots := #[.long (-15)], vm := .none },
  { cls := 10, slots := #[.long (-14)], vm := .none },
  { cls := 10, slots := #[.long (-13)], vm := .none },
  { cls := 10, slots := #[.long (-12)], vm := .none },
  { cls := 10, slots := #[.long (-11)], vm := .none },
  { cls := 10, slots := #[.long (-10)], vm := .none },
  { cls := 10, slots := #[.long (-9)], vm := .none },
  { cls := 10, slots := #[.long (-8)], vm := .none },
  { cls := 10, slots := #[.long (-7)], vm := .none },
  { cls := 10, slots := #[.long (-6)], vm := .none },
  { cls := 10, slots := #[.long (-5)], vm := .none },
  { cls := 10, slots := #[.long (-4)], vm := .none },
  { cls := 10, slots := #[.long (-3)], vm := .none },
  { cls := 10, slots := #[.long (-2)], vm := .none },
  { cls := 10, slots := #[.long (-1)], vm := .none },
  { cls := 10, slots := #[.long 0], vm := .none },
  { cls := 10, slots := #[.long 1], vm := .none },
  { cls := 10, slots := #[.long 2], vm := .none },
  { cls := 10, slots := #[.long 3], vm := .none },
  { cls := 10, slots := #[.long 4], vm := .none },
  { cls := 10, slots := #[.long 5], vm := .none },
  { cls := 10, slots := #[.long 6], vm := .none },
  { cls := 10, slots := #[.long 7], vm := .none },
  { cls := 10, slots := #[.long 8], vm := .none },
  { cls := 10, slots := #[.long 9], vm := .none },
  { cls := 10, slots := #[.long 10], vm := .none },
  { cls := 10, slots := #[.long 11], vm := .none },
  { cls := 10, slots := #[.long 12], vm := .none },
  { cls := 10, slots := #[.long 13], vm := .none },
  { cls := 10, slots := #[.long 14], vm := .none },
  { cls := 10, slots := #[.long 15], vm := .none },
  { cls := 10, slots := #[.long 16], vm := .none },
  { cls := 10, slots := #[.long 17], vm := .none },
  { cls := 10, slots := #[.long 18], vm := .none },
  { cls := 10, slots := #[.long 19], vm := .none },
  { cls := 10, slots := #[.long 20], vm := .none },
  { cls := 10, slots := #[.long 21], vm := .none },
  { cls := 10, slots := #[.long 22], vm := .none },
  { cls := 10, slots := #[.long 23], vm := .none },
  { cls := 10, slots := #[.long 24], vm := .none },
  { cls := 10, slots := #[.long 25], vm := .none },
  { cls := 10, slots := #[.long 26], vm := .none },
  { cls := 10, slots := #[.long 27], vm := .none },
  { cls := 10, slots := #[.long 28], vm := .none },
  { cls := 10, slots := #[.long 29], vm := .none },
  { cls := 10, slots := #[.long 30], vm := .none },
  { cls := 10, slots := #[.long 31], vm := .none },
  { cls := 10, slots := #[.long 32], vm := .none },
  { cls := 10, slots := #[.long 33], vm := .none },
  { cls := 10, slots := #[.long 34], vm := .none },
  { cls := 10, slots := #[.long 35], vm := .none },
  { cls := 10, slots := #[.long 36], vm := .none },
  { cls := 10, slots := #[.long 37], vm := .none },
  { cls := 10, slots := #[.long 38], vm := .none },
  { cls := 10, slots := #[.long 39], vm := .none },
  { cls := 10, slots := #[.long 40], vm := .none },
  { cls := 10, slots := #[.long 41], vm := .none },
  { cls := 10, slots := #[.long 42], vm := .none },
  { cls := 10, slots := #[.long 43], vm := .none },
  { cls := 10, slots := #[.long 44], vm := .none },
  { cls := 10, slots := #[.long 45], vm := .none },
  { cls := 10, slots := #[.long 46], vm := .none },
  { cls := 10, slots := #[.long 47], vm := .none },
  { cls := 10, slots := #[.long 48], vm := .none },
  { cls := 10, slots := #[.long 49], vm := .none },
  { cls := 10, slots := #[.long 50], vm := .none },
  { cls := 10, slots := #[.long 51], vm := .none },
  { cls := 10, slots := #[.long 52], vm := .none },
  { cls := 10, slots := #[.long 53], vm := .none },
  { cls := 10, slots := #[.long 54], vm := .none },
  { cls := 10, slots := #[.long 55], vm := .none },
  { cls := 10, slots := #[.long 56], vm := .none },
  { cls := 10, slots := #[.long 57], vm := .none },
  { cls := 10, slots := #[.long 58], vm := .none },
  { cls := 10, slots := #[.long 59], vm := .none },
  { cls := 10, slots := #[.long 60], vm := .none },
  { cls := 10, slots := #[.long 61], vm := .none },
  { cls := 10, slots := #[.long 62], vm := .none },
  { cls := 10, slots := #[.long 63], vm := .none },
  { cls := 10, slots := #[.long 64], vm := .none },
  { cls := 10, slots := #[.long 65], vm := .none },
  { cls := 10, slots := #[.long 66], vm := .none },
  { cls := 10, slots := #[.long 67], vm := .none },
  { cls := 10, slots := #[.long 68], vm := .none },
  { cls := 10, slots := #[.long 69], vm := .none },
  { cls := 10, slots := #[.long 70], vm := .none },
  { cls := 10, slots := #[.long 71], vm := .none },
  { cls := 10, slots := #[.long 72], vm := .none },
  { cls := 10, slots := #[.long 73], vm := .none },
  { cls := 10, slots := #[.long 74], vm := .none },
  { cls := 10, slots := #[.long 75], vm := .none },
  { cls := 10, slots := #[.long 76], vm := .none },
  { cls := 10, slots := #[.long 77], vm := .none },
  { cls := 10, slots := #[.long 78], vm := .none },
  { cls := 10, slots := #[.long 79], vm := .none },
  { cls := 10, slots := #[.long 80], vm := .none },
  { cls := 10, slots := #[.long 81], vm := .none },
  { cls := 10, slots := #[.long 82], vm := .none },
  { cls := 10, slots := #[.long 83], vm := .none },
  { cls := 10, slots := #[.long 84], vm := .none },
  { cls := 10, slots := #[.long 85], vm := .none },
  { cls := 10, slots := #[.long 86], vm := .none },
  { cls := 10, slots := #[.long 87], vm := .none },
  { cls := 10, slots := #[.long 88], vm := .none },
  { cls := 10, slots := #[.long 89], vm := .none },
  { cls := 10, slots := #[.long 90], vm := .none },
  { cls := 10, slots := #[.long 91], vm := .none },
  { cls := 10, slots := #[.long 92], vm := .none },
  { cls := 10, slots := #[.long 93], vm := .none },
  { cls := 10, slots := #[.long 94], vm := .none },
  { cls := 10, slots := #[.long 95], vm := .none },
  { cls := 10, slots := #[.long 96], vm := .none },
  { cls := 10, slots := #[.long 97], vm := .none },
  { cls := 10, slots := #[.long 98], vm := .none },
  { cls := 10, slots := #[.long 99], vm := .none },
  { cls := 10, slots := #[.long 100], vm := .none },
  { cls := 10, slots := #[.long 101], vm := .none },
  { cls := 10, slots := #[.long 102], vm := .none },
  { cls := 10, slots := #[.long 103], vm := .none },
  { cls := 10, slots := #[.long 104], vm := .none },
  { cls := 10, slots := #[.long 105], vm := .none },
  { cls := 10, slots := #[.long 106], vm := .none },
  { cls := 10, slots := #[.long 107], vm := .none },
  { cls := 10, slots := #[.long 108], vm := .none },
  { cls := 10, slots := #[.long 109], vm := .none },
  { cls := 10, slots := #[.long 110], vm := .none },
  { cls := 10, slots := #[.long 111], vm := .none },
  { cls := 10, slots := #[.long 112], vm := .none },
  { cls := 10, slots := #[.long 113], vm := .none },
  { cls := 10, slots := #[.long 114], vm := .none },
  { cls := 10, slots := #[.long 115], vm := .none },
  { cls := 10, slots := #[.long 116], vm := .none },
  { cls := 10, slots := #[.long 117], vm := .none },
  { cls := 10, slots := #[.long 118], vm := .none },
  { cls := 10, slots := #[.long 119], vm := .none },
  { cls := 10, slots := #[.long 120], vm := .none },
  { cls := 10, slots := #[.long 121], vm := .none },
  { cls := 10, slots := #[.long 122], vm := .none },
  { cls := 10, slots := #[.long 123], vm := .none },
  { cls := 10, slots := #[.long 124], vm := .none },
  { cls := 10, slots := #[.long 125], vm := .none },
  { cls := 10, slots := #[.long 126], vm := .none },
  { cls := 10, slots := #[.long 127], vm := .none }]
def classes : Array Class := #[k0, k1, k2, k3, k4, k5, k6, k7, k8, k9, k10, k11, k12, k13, k14, k15, k16, k17]
def interned : List (Array UInt16 × Addr) := []
def slotsUsed : Nat := 515
def theMethod : MethodId := ⟨1, 1⟩
def args0 : Array Value := #[.long 5, .int 7, .int 9, .long 3, .int 2, .int 4]
def aboutOver (below : List Frame) : State where
  vm := { classes := classes, interned := interned.toArray }
  heap := heap
  slotsUsed := slotsUsed
  threads := #[{ frames := .invoking theMethod args0 :: below }]
def below0 : List Frame := [.native { method := ⟨0, 0⟩, args := #[] }]
def about1 : State := aboutOver below0
def p0 : Program := .bare "" "" ""
def e0 : Env := launch0.env 0 0 0
theorem w_frames : about1.frames = Frame.invoking theMethod args0 :: below0 := rfl
set_option maxRecDepth 65536 in
theorem w_args : argsFit about1.vm theMethod args0 = true := by decide +kernel
set_option maxRecDepth 65536 in
theorem w_heap : heapFits about1 = true := by decide +kernel
set_option maxRecDepth 65536 in
theorem w_runnable : about1.curStatus? = some .runnable := by decide +kernel
set_option maxRecDepth 65536 in
theorem w_alone : about1.alone = true := by decide +kernel
set_option maxRecDepth 65536 in
theorem w_named : about1.methodNamed? x = some theMethod := by decide +kernel
set_option maxRecDepth 65536 in
theorem w_hears : about1.hears theMethod below0 = true := by decide +kernel
set_option maxRecDepth 65536 in
theorem w_ripe : about1.ripe theMethod args0 below0 = true := by decide +kernel
theorem w_running : about1.status = .running := rfl
set_option maxRecDepth 65536 in
theorem w_room : about1.hasRoom e0.platform room_1 = true :=
  launch0.hasRoom_least _ room_1 (by decide +kernel) (by decide +kernel) (by decide +kernel) (by decide +kernel) (by decide +kernel) (by decide +kernel)
theorem allAtoms_all (ts : List Jvm.Cond) (a : Array Jvm.Value) (st : Jvm.State) : (allAtoms ts).before a st = ts.all (fun c => c.before a st) := by
  induction ts with
  | nil => rfl
  | cons c t ih =>
    show (Jvm.Cond.and c (allAtoms t)).before a st = _
    rw [Jvm.Cond.before_and, ih, List.all_cons]
def words1 : List Jvm.Cond := Jvm.Cond.code x code maxLocals ret :: tables_1
/-- a 'code' word, met by the world's own term for the bytes: nothing is compared byte by byte -/
theorem code_word {y : MethodName} {bytes : ByteArray} {mx : Nat} {rt : Option FieldType} {a : Array Value} {s : State} {m : MethodId} {meth : Method} {c : Code} (h1 : s.methodNamed? y = some m) (h2 : s.vm.method? m = some meth) (h3 : meth.code = some c) (h4 : c.code = bytes)
    (h5 : (c.maxLocals == mx && c.exceptionTable.isEmpty && decide (c.maxStack ≤ mostOperands) && decide (meth.sig.returnType = rt) && !meth.locks && decide (parseMethodDescriptor y.desc = some meth.sig)) = true) : (Jvm.Cond.code y bytes mx rt).before a s = true := by
  simp only [Bool.and_eq_true, beq_iff_eq, Bool.not_eq_true', decide_eq_true_eq] at h5
  obtain ⟨⟨⟨⟨⟨g1, g2⟩, g3⟩, g4⟩, g5⟩, g6⟩ := h5
  simp [Cond.before, Cond.holds, Cond.value, h1, h2, h3, h4, g1, g2, g3, g4, g5, g6]
def isCode : Jvm.Cond → Bool
  | .code _ _ _ _ => true
  | _ => false
theorem all_split {L : List Jvm.Cond} {P : Jvm.Cond → Bool} (h1 : L.all (fun c => isCode c || P c) = true) (h2 : ∀ c ∈ L.filter isCode, P c = true) : L.all P = true := by
  refine List.all_eq_true.mpr fun c hc => ?_
  have h := List.all_eq_true.mp h1 c hc
  rcases Bool.eq_false_or_eq_true (isCode c) with hi | hi
  · exact h2 c (List.mem_filter.mpr ⟨hc, hi⟩)
  · simpa [hi] using h
set_option maxRecDepth 65536 in
theorem w_c0 : (Jvm.Cond.code x code maxLocals ret).before args0 about1 = true := code_word (m := ⟨1, 1⟩) (meth := k1m1) (c := k1c1) (by decide +kernel) rfl rfl rfl (by decide +kernel)
set_option maxRecDepth 65536 in
theorem w_c1 : (Jvm.Cond.code ({ cls := "java/lang/Math", name := "max", desc := "(II)I" } : Jvm.MethodName) jdk_29_method_65_code (2 : Nat) (Option.some Jvm.ClassFile.FieldType.int)).before args0 about1 = true := code_word (m := ⟨2, 1⟩) (meth := k2m1) (c := k2c1) (by decide +kernel) rfl rfl rfl (by decide +kernel)
set_option maxRecDepth 65536 in
theorem w_c2 : (Jvm.Cond.code ({ cls := "com/example/heartwood/heartwood/Revision", name := "<init>", desc := "(JII)V" } : Jvm.MethodName) prog_16_method_1_code (5 : Nat) (Option.none : Option Jvm.ClassFile.FieldType)).before args0 about1 = true := code_word (m := ⟨5, 0⟩) (meth := k5m0) (c := k5c0) (by decide +kernel) rfl rfl rfl (by decide +kernel)
set_option maxRecDepth 65536 in
theorem w_c3 : (Jvm.Cond.code ({ cls := "java/lang/Record", name := "<init>", desc := "()V" } : Jvm.MethodName) jdk_30_method_1_code (1 : Nat) (Option.none : Option Jvm.ClassFile.FieldType)).before args0 about1 = true := code_word (m := ⟨3, 0⟩) (meth := k3m0) (c := k3c0) (by decide +kernel) rfl rfl rfl (by decide +kernel)
set_option maxRecDepth 65536 in
theorem w_c4 : (Jvm.Cond.code ({ cls := "java/lang/Object", name := "<init>", desc := "()V" } : Jvm.MethodName) object_method_1_code (1 : Nat) (Option.none : Option Jvm.ClassFile.FieldType)).before args0 about1 = true := code_word (m := ⟨0, 0⟩) (meth := k0m0) (c := k0c0) (by decide +kernel) rfl rfl rfl (by decide +kernel)
set_option maxRecDepth 65536 in
theorem w_c5 : (Jvm.Cond.code ({ cls := "java/lang/Long", name := "valueOf", desc := "(J)Ljava/lang/Long;" } : Jvm.MethodName) jdk_35_method_24_code (3 : Nat) (Option.some (Jvm.ClassFile.FieldType.object "java/lang/Long"))).before args0 about1 = true := code_word (m := ⟨10, 0⟩) (meth := k10m0) (c := k10c0) (by decide +kernel) rfl rfl rfl (by decide +kernel)
set_option maxRecDepth 65536 in
theorem w_c6 : (Jvm.Cond.code ({ cls := "com/example/heartwood/heartwood/Revision", name := "equals", desc := "(Ljava/lang/Object;)Z" } : Jvm.MethodName) prog_16_method_4_code (3 : Nat) (Option.some Jvm.ClassFile.FieldType.boolean)).before args0 about1 = true := code_word (m := ⟨5, 1⟩) (meth := k5m1) (c := k5c1) (by decide +kernel) rfl rfl rfl (by decide +kernel)
set_option maxRecDepth 65536 in
theorem w_c7 : (Jvm.Cond.code ({ cls := "com/example/heartwood/heartwood/Revision", name := "hashCode", desc := "()I" } : Jvm.MethodName) prog_16_method_5_code (1 : Nat) (Option.some Jvm.ClassFile.FieldType.int)).before args0 about1 = true := code_word (m := ⟨5, 2⟩) (meth := k5m2) (c := k5c2) (by decide +kernel) rfl rfl rfl (by decide +kernel)
set_option maxRecDepth 65536 in
theorem w_c8 : (Jvm.Cond.code ({ cls := "java/lang/Long", name := "hashCode", desc := "(J)I" } : Jvm.MethodName) jdk_35_method_36_code (2 : Nat) (Option.some Jvm.ClassFile.FieldType.int)).before args0 about1 = true := code_word (m := ⟨10, 2⟩) (meth := k10m2) (c := k10c2) (by decide +kernel) rfl rfl rfl (by decide +kernel)
set_option maxRecDepth 65536 in
theorem w_c9 : (Jvm.Cond.code ({ cls := "java/lang/Long", name := "<init>", desc := "(J)V" } : Jvm.MethodName) jdk_35_method_26_code (3 : Nat) (Option.none : Option Jvm.ClassFile.FieldType)).before args0 about1 = true := code_word (m := ⟨10, 1⟩) (meth := k10m1) (c := k10c1) (by decide +kernel) rfl rfl rfl (by decide +kernel)
set_option maxRecDepth 65536 in
theorem w_c10 : (Jvm.Cond.code ({ cls := "java/lang/Number", name := "<init>", desc := "()V" } : Jvm.MethodName) jdk_18_method_1_code (1 : Nat) (Option.none : Option Jvm.ClassFile.FieldType)).before args0 about1 = true := code_word (m := ⟨7, 0⟩) (meth := k7m0) (c := k7c0) (by decide +kernel) rfl rfl rfl (by decide +kernel)
def codes1 : List Jvm.Cond := [Jvm.Cond.code x code maxLocals ret, Jvm.Cond.code ({ cls := "java/lang/Math", name := "max", desc := "(II)I" } : Jvm.MethodName) jdk_29_method_65_code (2 : Nat) (Option.some Jvm.ClassFile.FieldType.int), Jvm.Cond.code ({ cls := "com/example/heartwood/heartwood/Revision", name := "<init>", desc := "(JII)V" } : Jvm.MethodName) prog_16_method_1_code (5 : Nat) (Option.none : Option Jvm.ClassFile.FieldType), Jvm.Cond.code ({ cls := "java/lang/Record", name := "<init>", desc := "()V" } : Jvm.MethodName) jdk_30_method_1_code (1 : Nat) (Option.none : Option Jvm.ClassFile.FieldType), Jvm.Cond.code ({ cls := "java/lang/Object", name := "<init>", desc := "()V" } : Jvm.MethodName) object_method_1_code (1 : Nat) (Option.none : Option Jvm.ClassFile.FieldType), Jvm.Cond.code ({ cls := "java/lang/Long", name := "valueOf", desc := "(J)Ljava/lang/Long;" } : Jvm.MethodName) jdk_35_method_24_code (3 : Nat) (Option.some (Jvm.ClassFile.FieldType.object "java/lang/Long")), Jvm.Cond.code ({ cls := "com/example/heartwood/heartwood/Revision", name := "equals", desc := "(Ljava/lang/Object;)Z" } : Jvm.MethodName) prog_16_method_4_code (3 : Nat) (Option.some Jvm.ClassFile.FieldType.boolean), Jvm.Cond.code ({ cls := "com/example/heartwood/heartwood/Revision", name := "hashCode", desc := "()I" } : Jvm.MethodName) prog_16_method_5_code (1 : Nat) (Option.some Jvm.ClassFile.FieldType.int), Jvm.Cond.code ({ cls := "java/lang/Long", name := "hashCode", desc := "(J)I" } : Jvm.MethodName) jdk_35_method_36_code (2 : Nat) (Option.some Jvm.ClassFile.FieldType.int), Jvm.Cond.code ({ cls := "java/lang/Long", name := "<init>", desc := "(J)V" } : Jvm.MethodName) jdk_35_method_26_code (3 : Nat) (Option.none : Option Jvm.ClassFile.FieldType), Jvm.Cond.code ({ cls := "java/lang/Number", name := "<init>", desc := "()V" } : Jvm.MethodName) jdk_18_method_1_code (1 : Nat) (Option.none : Option Jvm.ClassFile.FieldType)]
set_option maxRecDepth 65536 in
theorem codes_eq : words1.filter isCode = codes1 := rfl
theorem w_codes : ∀ c ∈ words1.filter isCode, c.before args0 about1 = true := by
  rw [codes_eq]
  intro c hc
  simp only [codes1, List.mem_cons, List.not_mem_nil, or_false] at hc
  rcases hc with rfl | rfl | rfl | rfl | rfl | rfl | rfl | rfl | rfl | rfl | rfl
  · exact w_c0
  · exact w_c1
  · exact w_c2
  · exact w_c3
  · exact w_c4
  · exact w_c5
  · exact w_c6
  · exact w_c7
  · exact w_c8
  · exact w_c9
  · exact w_c10
set_option maxRecDepth 65536 in
theorem w_t1 : (words1.take 24).all (fun c => isCode c || c.before args0 about1) = true := by decide +kernel
set_option maxRecDepth 65536 in
theorem w_t2 : ((words1.drop 24).take 24).all (fun c => isCode c || c.before args0 about1) = true := by decide +kernel
set_option maxRecDepth 65536 in
theorem w_t3 : ((words1.drop 24).drop 24).all (fun c => isCode c || c.before args0 about1) = true := by decide +kernel
theorem w_tables : (allAtoms (Jvm.Cond.code x code maxLocals ret :: tables_1)).before args0 about1 = true := by
  rw [allAtoms_all]
  show words1.all (fun c => c.before args0 about1) = true
  refine all_split ?_ w_codes
  rw [← List.take_append_drop 24 words1, List.all_append, w_t1, ← List.take_append_drop 24 (words1.drop 24), List.all_append, w_t2, w_t3]
  rfl
set_option maxRecDepth 65536 in
theorem w_rest : rest_1_c.before args0 about1 = true := by decide +kernel
set_option maxRecDepth 65536 in
theorem w_case : (Jvm.Cond.and given_1 narrow_1).before args0 about1 = true := by decide +kernel
theorem w_applies : (headSpec (Jvm.Cond.code x code maxLocals ret :: tables_1) room_1).applies x e0.platform about1 = true :=
  (Spec.applies_iff w_frames).mpr ⟨w_running, w_runnable, w_alone, w_named, w_hears, w_ripe, w_room, w_tables⟩
theorem atStart : AtStart classFile x code maxLocals ret World_1 tables_1 room_1 Calls_1 rest_1 Pre_1 launch0 p0 e0 about1 theMethod args0 below0 :=
  ⟨lists_1, trivial, launch0.admits_env _ _ _, launch0.least_env, fairChoices_fair.cas, fairChoices_fair.clock, w_frames, w_args, w_heap, w_applies, trivial, w_rest, w_case⟩
end start1
theorem witness_1 : WitnessClaimed_1 := ⟨start1.p0, start1.e0, start1.about1, start1.theMethod, start1.args0, start1.below0, start1.atStart⟩
end Jvm.Pilot.@@N@@
